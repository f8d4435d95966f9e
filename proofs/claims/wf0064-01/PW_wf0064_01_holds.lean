import PyProof.Rows.All
import Wide.All
import OpenK.AllK
import Wide.FinOn
import PySem.Challenge.RW_wf0064_01
open PySem PySem.W PyProof.Rows
set_option maxRecDepth 100000
set_option maxHeartbeats 0
set_option Elab.async true
/-! This lays the constant Mine.th.heap_1_1 (what the top leaves written out) and nothing else: no later proof leans on the theorem itself. -/
section
local macro_rules | `(tactic| o_head $H) => `(tactic| (have := $H; contradiction))
theorem Mine.th (x : False) : PySem.Challenge.rw_wf0064_01.Holds := by
  refine holds_law x.elim fun said => ?_
  k_head
end
set_option Elab.async false
/-! the row's program, the part of it that the walk sees, and the law's own def -/
def Mine.P : Program := PySem.Challenge.pw_wf0064_01
def Mine.V : Program := { Mine.P with main := { Mine.P.main with body := (Mine.P.main.body.drop 1).take 3 ++ ((Mine.P.main.body.drop 5).take 54 ++ ((Mine.P.main.body.drop 60).take 6 ++ Mine.P.main.body.drop 67)) } }
def Mine.defOf : Option Stmt → DefRec
  | some (.FunctionDef n a b _ _ _ s _ _ p) => ⟨n, a, b, s, p⟩
  | _ => ⟨Str.empty, default, [], default, default⟩
def Mine.D : DefRec := Mine.defOf Mine.P.main.body[82]?
theorem Mine.conv {V V' : Program} {D D' : DefRec} {K K' : Params → Frag} {l : List Str} {R : RowW} {kw : List (Str × Expr)} {run : Value → List Value → Sem Value} (eV : V = V') (eD : D = D') (eK : K = K')
    (walk : ∀ as e, WalkO V l (XL V []) (kHook K as e).says R D kw run) {as e} : WalkO V' l (XL V' []) (kHook K' as e).says R D' kw run := by
  subst eV eD eK
  exact walk _ _
set_option linter.unusedVariables false
namespace Mine
open PySem PySem.W PyProof.Rows PySem.Calls PyProof.V PySem.Spec

noncomputable abbrev Loose : List Str := looseW Mine.V [Str.ofString "COMPILER_FLAG_NAMES", Str.ofString "EXACT_TOKEN_TYPES"]
abbrev Loc := Str → Option Value
abbrev Led := List (Addr × Obj)

/-- where a body is run -/
structure Cx where
  prog : Program
  w : World
  mean : ExcName → Option Value
  mg : Loc
  mb : Loc
  A : Around
  E : Value → Shared → Prop
  h₀ : Heap
  L : Addr
  g : Array GenState
  d : Drawn
  o : OsState
  base : Heap
  frames : List Env

structure Cx.Ok (C : Cx) (k : Nat) : Prop where
  kin : (Mine.th.heap_1_1 C.w.params).In C.h₀
  top : Top Mine.V Loose C.mean C.mg C.mb C.h₀
  handled : C.A.handled = none
  frames : C.A.frames = some C.frames
  ground : ∀ h m, Fr C.h₀ C.L h m → h.FunFrames C.base C.frames
  stays : C.base.StaysIn C.h₀
  depth : C.A.depth + k < recursionLimit
  units : C.A.units + 10 * k < cLine
theorem Cx.Ok.le {C : Cx} {k k' : Nat} (H : C.Ok k) (h : k' ≤ k) : C.Ok k' := { H with depth := by have := H.depth; omega, units := by have := H.units; omega }

def Post (C : Cx) {α : Type} (Q : α → Loc → Led → Prop) (a : α) (s' : Shared) : Prop :=
  ∃ h' tk' m' n', s' = ⟨h', C.g, C.d, tk', C.o⟩ ∧ Fr C.h₀ C.L h' m' ∧ News C.h₀ C.L h' n' ∧ Q a m' n'
/-- from locals m and ledger n the tree t ends in Q -/
def WS (C : Cx) {α : Type} (t : Sem α) (Q : α → Loc → Led → Prop) (m : Loc) (n : Led) : Prop :=
  ∀ h tk, Fr C.h₀ C.L h m → News C.h₀ C.L h n → wpAny (model C.prog C.w) C.A t (Post C Q) C.E ⟨h, C.g, C.d, tk, C.o⟩

section
variable {C : Cx} {α β γ δ ε : Type} {m : Loc} {n : Led}
theorem post_ws {t : Sem β} {Q : β → Loc → Led → Prop} {s : Shared} {a : α} (p : Post C (fun _ m n => WS C t Q m n) a s) : wpAny (model C.prog C.w) C.A t (Post C Q) C.E s := by
  obtain ⟨h, tk, m, n, rfl, F, N, H⟩ := p
  exact H h tk F N
theorem ws_mono {t : Sem α} {Q Q' : α → Loc → Led → Prop} (H : WS C t Q m n) (h : ∀ a m n, Q a m n → Q' a m n) : WS C t Q' m n :=
  fun hp tk F N => wpAny_mono (H hp tk F N) (fun _ _ ⟨h', tk', m', n', e, F', N', q⟩ => ⟨h', tk', m', n', e, F', N', h _ _ _ q⟩) fun _ _ x => x
theorem ws_sub {t : Sem α} {Q : α → Loc → Led → Prop} {n' : Led} (H : WS C t Q m n') (h : ∀ p ∈ n', p ∈ n) : WS C t Q m n := fun hp tk F N => H hp tk F fun p hp => N p (h p hp)
theorem ws_pure {a : α} {Q : α → Loc → Led → Prop} (H : Q a m n) : WS C (pure a) Q m n := fun h tk F N => wpAny_pure ⟨h, tk, m, n, rfl, F, N, H⟩
theorem step0 {t t1 : Sem α} {Q : α → Loc → Led → Prop} (R : ∀ (Q : α → Shared → Prop) s, wpAny (model C.prog C.w) C.A t1 Q C.E s → wpAny (model C.prog C.w) C.A t Q C.E s) (H : WS C t1 Q m n) : WS C t Q m n :=
  fun h tk F N => R _ _ (H h tk F N)
theorem stepF {t : Sem β} {t1 : Sem α} {f : α → β} {Q : β → Loc → Led → Prop} (R : ∀ (Q : β → Shared → Prop) s, wpAny (model C.prog C.w) C.A t1 (fun a s => Q (f a) s) C.E s → wpAny (model C.prog C.w) C.A t Q C.E s)
    (H : WS C t1 (fun a m n => Q (f a) m n) m n) : WS C t Q m n := fun h tk F N => R _ _ (H h tk F N)
theorem step1 {t : Sem β} {t1 : Sem α} {t2 : α → Sem β} {Q : β → Loc → Led → Prop}
    (R : ∀ (Q : β → Shared → Prop) s, wpAny (model C.prog C.w) C.A t1 (fun a s₁ => wpAny (model C.prog C.w) C.A (t2 a) Q C.E s₁) C.E s → wpAny (model C.prog C.w) C.A t Q C.E s)
    (H : WS C t1 (fun a m n => WS C (t2 a) Q m n) m n) : WS C t Q m n :=
  fun h tk F N => R _ _ (wpAny_mono (H h tk F N) (fun a _ p => post_ws (a := a) p) fun _ _ x => x)
theorem step1F {t : Sem γ} {t1 : Sem α} {t2 : α → Sem β} {f : α → β → γ} {Q : γ → Loc → Led → Prop}
    (R : ∀ (Q : γ → Shared → Prop) s, wpAny (model C.prog C.w) C.A t1 (fun a s₁ => wpAny (model C.prog C.w) C.A (t2 a) (fun b s => Q (f a b) s) C.E s₁) C.E s → wpAny (model C.prog C.w) C.A t Q C.E s)
    (H : WS C t1 (fun a m n => WS C (t2 a) (fun b m n => Q (f a b) m n) m n) m n) : WS C t Q m n :=
  fun h tk F N => R _ _ (wpAny_mono (H h tk F N) (fun a _ p => wpAny_mono (post_ws (a := a) p) (fun _ _ q => q) fun _ _ x => x) fun _ _ x => x)
theorem step2 {t : Sem γ} {t1 : Sem α} {t2 : α → Sem β} {t3 : α → β → Sem γ} {Q : γ → Loc → Led → Prop}
    (R : ∀ (Q : γ → Shared → Prop) s, wpAny (model C.prog C.w) C.A t1 (fun a s₁ => wpAny (model C.prog C.w) C.A (t2 a) (fun b s₂ => wpAny (model C.prog C.w) C.A (t3 a b) Q C.E s₂) C.E s₁) C.E s → wpAny (model C.prog C.w) C.A t Q C.E s)
    (H : WS C t1 (fun a m n => WS C (t2 a) (fun b m n => WS C (t3 a b) Q m n) m n) m n) : WS C t Q m n :=
  fun h tk F N => R _ _ (wpAny_mono (H h tk F N) (fun a _ p => wpAny_mono (post_ws (a := a) p) (fun b _ q => post_ws (a := b) q) fun _ _ x => x) fun _ _ x => x)
theorem step3 {t : Sem δ} {t1 : Sem α} {t2 : α → Sem β} {t3 : α → β → Sem γ} {t4 : α → β → γ → Sem δ} {Q : δ → Loc → Led → Prop}
    (R : ∀ (Q : δ → Shared → Prop) s, wpAny (model C.prog C.w) C.A t1 (fun a s₁ => wpAny (model C.prog C.w) C.A (t2 a) (fun b s₂ => wpAny (model C.prog C.w) C.A (t3 a b) (fun c s₃ => wpAny (model C.prog C.w) C.A (t4 a b c) Q C.E s₃) C.E s₂) C.E s₁) C.E s → wpAny (model C.prog C.w) C.A t Q C.E s)
    (H : WS C t1 (fun a m n => WS C (t2 a) (fun b m n => WS C (t3 a b) (fun c m n => WS C (t4 a b c) Q m n) m n) m n) m n) : WS C t Q m n :=
  fun h tk F N => R _ _ (wpAny_mono (H h tk F N) (fun a _ p => wpAny_mono (post_ws (a := a) p) (fun b _ q => wpAny_mono (post_ws (a := b) q) (fun c _ r => post_ws (a := c) r) fun _ _ x => x) fun _ _ x => x) fun _ _ x => x)
theorem step3F {t : Sem ε} {t1 : Sem α} {t2 : α → Sem β} {t3 : α → β → Sem γ} {t4 : α → β → γ → Sem δ} {f : δ → ε} {Q : ε → Loc → Led → Prop}
    (R : ∀ (Q : ε → Shared → Prop) s, wpAny (model C.prog C.w) C.A t1 (fun a s₁ => wpAny (model C.prog C.w) C.A (t2 a) (fun b s₂ => wpAny (model C.prog C.w) C.A (t3 a b) (fun c s₃ => wpAny (model C.prog C.w) C.A (t4 a b c) (fun d s => Q (f d) s) C.E s₃) C.E s₂) C.E s₁) C.E s → wpAny (model C.prog C.w) C.A t Q C.E s)
    (H : WS C t1 (fun a m n => WS C (t2 a) (fun b m n => WS C (t3 a b) (fun c m n => WS C (t4 a b c) (fun d m n => Q (f d) m n) m n) m n) m n) m n) : WS C t Q m n :=
  fun h tk F N => R _ _ (wpAny_mono (H h tk F N) (fun a _ p => wpAny_mono (post_ws (a := a) p) (fun b _ q => wpAny_mono (post_ws (a := b) q) (fun c _ r => wpAny_mono (post_ws (a := c) r) (fun _ _ z => z) fun _ _ x => x) fun _ _ x => x) fun _ _ x => x) fun _ _ x => x)
theorem stepIf {t : Sem β} {t1 : Sem Bool} {t2 t3 : Sem β} {Q : β → Loc → Led → Prop}
    (R : ∀ (Q : β → Shared → Prop) s, wpAny (model C.prog C.w) C.A t1 (fun b s₁ => if b = true then wpAny (model C.prog C.w) C.A t2 Q C.E s₁ else wpAny (model C.prog C.w) C.A t3 Q C.E s₁) C.E s → wpAny (model C.prog C.w) C.A t Q C.E s)
    (H : WS C t1 (fun b m n => if b = true then WS C t2 Q m n else WS C t3 Q m n) m n) : WS C t Q m n :=
  fun h tk F N => R _ _ (wpAny_mono (H h tk F N) (fun a s p => by
    obtain ⟨h, tk, m, n, rfl, F, N, H⟩ := p
    cases a with
    | true => simpa using H h tk F N
    | false => simpa using H h tk F N) fun _ _ x => x)

/-! the steps of the program -/
variable {env : Env} {pos : Pos} {QV : Value → Loc → Led → Prop} {QB : Bool → Loc → Led → Prop} {QF : Flow → Loc → Led → Prop} {QU : Unit → Loc → Led → Prop} {QL : List Value → Loc → Led → Prop}
theorem ws_nil (H : QF .next m n) : WS C (execs [] env) QF m n := fun h tk F N => wpAny_execs_nil ⟨h, tk, m, n, rfl, F, N, H⟩
def Seq (C : Cx) (rest : List Stmt) (env : Env) (Q : Flow → Loc → Led → Prop) (f : Flow) (m : Loc) (n : Led) : Prop := match f with | .next => WS C (execs rest env) Q m n | f => Q f m n
theorem ws_cons {st : Stmt} {rest : List Stmt} (H : WS C (exec st env) (Seq C rest env QF) m n) : WS C (execs (st :: rest) env) QF m n :=
  fun h tk F N => wpAny_execs_cons (wpAny_mono (H h tk F N) (fun f s p => by
    obtain ⟨h, tk, m, n, rfl, F, N, H⟩ := p
    cases f with
    | next => exact H h tk F N
    | brk => exact ⟨h, tk, m, n, rfl, F, N, H⟩
    | cont => exact ⟨h, tk, m, n, rfl, F, N, H⟩
    | ret v => exact ⟨h, tk, m, n, rfl, F, N, H⟩) fun _ _ x => x)
theorem seq_next {rest : List Stmt} (H : WS C (execs rest env) QF m n) : Seq C rest env QF .next m n := H
theorem seq_ret {rest : List Stmt} {v : Value} (H : QF (.ret v) m n) : Seq C rest env QF (.ret v) m n := H
theorem seq_brk {rest : List Stmt} (H : QF .brk m n) : Seq C rest env QF .brk m n := H
theorem ws_ret {e : Expr} (H : WS C (eval e env) (fun v => QF (.ret v)) m n) : WS C (exec (.Return (some e) pos) env) QF m n := stepF (fun _ _ => wpAny_Return_some) H
theorem ws_break (H : QF .brk m n) : WS C (exec (.Break pos) env) QF m n := fun h tk F N => wpAny_Break ⟨h, tk, m, n, rfl, F, N, H⟩
theorem ws_expr {e : Expr} (H : WS C (eval e env) (fun v m n => v = .none ∧ QF .next m n) m n) (hi : interactive env = false := by k_dflt rfl) (hs : swapsWith e none pos.line env = pure false := by k_dflt rfl) : WS C (exec (.Expr e pos) env) QF m n :=
  fun h tk F N => wpAny_Expr (wpAny_mono (H h tk F N) (fun v s p => by
    obtain ⟨h, tk, m, n, rfl, F, N, rfl, H⟩ := p
    exact ⟨h, tk, m, n, rfl, F, N, H⟩) fun _ _ x => x) hi hs
theorem ws_assign {x : Str} {p' : Pos} {e : Expr} (H : WS C (eval e env) (fun v m n => WS C (storeName env x v) (fun _ => QF .next) m n) m n)
    (hs : swapsWith e (some (.Name x p')) pos.line env = pure false := by k_dflt rfl) : WS C (exec (.Assign [.Name x p'] e pos) env) QF m n := step1F (f := fun _ _ => Flow.next) (fun _ _ h => wpAny_Assign_Name h hs) H
theorem ws_aug {x : Str} {p' : Pos} {op : Operator} {e : Expr} (H : WS C (loadName env x) (fun old m n => WS C (eval e env) (fun v m n => WS C (inplaceOp op old v) (fun r m n => WS C (storeName env x r) (fun _ => QF .next) m n) m n) m n) m n) :
    WS C (exec (.AugAssign (.Name x p') op e pos) env) QF m n :=
  step3F (f := fun _ => Flow.next) (fun _ _ => wpAny_AugAssign_Name) H
theorem ws_if {test : Expr} {body orelse : List Stmt} (H : WS C (isTrue test env (eval test env)) (fun b m n => if b = true then WS C (execs body env) QF m n else WS C (execs orelse env) QF m n) m n) :
    WS C (exec (.If test body orelse pos) env) QF m n := stepIf (fun _ _ => wpAny_If) H
theorem ws_binop {l r : Expr} {op : Operator} (H : WS C (eval l env) (fun a m n => WS C (eval r env) (fun b m n => WS C (binaryOp op a b) QV m n) m n) m n) : WS C (eval (.BinOp l op r pos) env) QV m n := step2 (fun _ _ => wpAny_BinOp) H
theorem ws_unop {x : Expr} {op : UnaryOp} (H : WS C (eval x env) (fun a m n => WS C (unaryOp op a) QV m n) m n) : WS C (eval (.UnaryOp op x pos) env) QV m n := step1 (fun _ _ => UnaryOp_) H
theorem ws_cmp {l r : Expr} {op : CmpOp} (H : WS C (eval l env) (fun a m n => WS C (eval r env) (fun b m n => WS C (compareOp op a b) QV m n) m n) m n) (hm : behindInMarks op r = false := by with_unfolding_all rfl) :
    WS C (eval (.Compare l [op] [r] pos) env) QV m n := step2 (fun _ _ h => wpAny_Compare1 h hm) H
theorem ws_tcmp {l r : Expr} {op : CmpOp} {whole : Sem Value} (H : WS C (eval l env) (fun a m n => WS C (eval r env) (fun b m n => WS C (compareOp op a b) (fun c m n => WS C (truthy c) QB m n) m n) m n) m n) (hm : behindInMarks op r = false := by with_unfolding_all rfl) :
    WS C (isTrue (.Compare l [op] [r] pos) env whole) QB m n := step3 (fun _ _ h => wpAny_isTrue_Compare1 h hm) H
theorem ws_tnot {x : Expr} {whole : Sem Value} (H : WS C (isTrue x env (eval x env)) (fun c m n => QB (!c) m n) m n) : WS C (isTrue (.UnaryOp .Not x pos) env whole) QB m n := stepF (f := fun c => !c) (fun _ _ => isTrue_not) H
theorem ws_ttrue {e : Expr} {whole : Sem Value} (H : WS C whole (fun v m n => WS C (truthy v) QB m n) m n) (he : isTrue e env whole = (do let v ← whole; standAt e.pos; holding [v] (truthy v)) := by k_dflt rfl) : WS C (isTrue e env whole) QB m n :=
  step1 (fun _ _ h => isTrue_plain h he) H
theorem ws_tor {x : Expr} {rest : List Expr} {whole : Sem Value} (H : WS C (isTrue x env (eval x env)) (fun c m n => if c = true then QB true m n else WS C (isTrue (.BoolOp .Or rest pos) env whole) QB m n) m n) :
    WS C (isTrue (.BoolOp .Or (x :: rest) pos) env whole) QB m n := fun h tk F N => isTrue_or (wpAny_mono (H h tk F N) (fun b s p => by
    obtain ⟨h, tk, m, n, rfl, F, N, H⟩ := p
    cases b with
    | true => simpa using ⟨h, tk, m, n, rfl, F, N, by simpa using H⟩
    | false => simpa using (by simpa using H : WS C _ _ _ _) h tk F N) fun _ _ x => x)
theorem ws_tor0 {whole : Sem Value} (H : QB false m n) : WS C (isTrue (.BoolOp .Or [] pos) env whole) QB m n := fun h tk F N => isTrue_or_nil ⟨h, tk, m, n, rfl, F, N, H⟩
theorem ws_tand {x : Expr} {rest : List Expr} {whole : Sem Value} (H : WS C (isTrue x env (eval x env)) (fun c m n => if c = true then WS C (isTrue (.BoolOp .And rest pos) env whole) QB m n else QB false m n) m n) :
    WS C (isTrue (.BoolOp .And (x :: rest) pos) env whole) QB m n := fun h tk F N => isTrue_and (wpAny_mono (H h tk F N) (fun b s p => by
    obtain ⟨h, tk, m, n, rfl, F, N, H⟩ := p
    cases b with
    | true => simpa using (by simpa using H : WS C _ _ _ _) h tk F N
    | false => simpa using ⟨h, tk, m, n, rfl, F, N, by simpa using H⟩) fun _ _ x => x)
theorem ws_tand0 {whole : Sem Value} (H : QB true m n) : WS C (isTrue (.BoolOp .And [] pos) env whole) QB m n := fun h tk F N => isTrue_and_nil ⟨h, tk, m, n, rfl, F, N, H⟩
theorem ws_ifexp {test body orelse : Expr} (H : WS C (isTrue test env (eval test env)) (fun b m n => if b = true then WS C (eval body env) QV m n else WS C (eval orelse env) QV m n) m n) : WS C (eval (.IfExp test body orelse pos) env) QV m n := stepIf (fun _ _ => IfExp_) H
theorem ws_and {e₁ e₂ : Expr} {rest : List Expr} (H : WS C (eval e₁ env) (fun v m n => WS C (truthy v) (fun c m n => if c = true then WS C (eval (.BoolOp .And (e₂ :: rest) pos) env) QV m n else QV v m n) m n) m n) : WS C (eval (.BoolOp .And (e₁ :: e₂ :: rest) pos) env) QV m n :=
  fun h tk F N => BoolOp_and (wpAny_mono (H h tk F N) (fun a _ p => wpAny_mono (post_ws (a := a) p) (fun b s q => by
    obtain ⟨h, tk, m, n, rfl, F, N, H⟩ := q
    cases b with
    | true => simpa using (by simpa using H : WS C _ _ _ _) h tk F N
    | false => simpa using ⟨h, tk, m, n, rfl, F, N, by simpa using H⟩) fun _ _ x => x) fun _ _ x => x)
theorem ws_bool1 {op : BoolOp} {e : Expr} (H : WS C (eval e env) QV m n) : WS C (eval (.BoolOp op [e] pos) env) QV m n := step0 (fun _ _ => BoolOp_one) H
theorem ws_sub' {value slice : Expr} (H : WS C (eval value env) (fun o m n => WS C (eval slice env) (fun i m n => WS C (subscriptTail value slice o i) QV m n) m n) m n) : WS C (eval (.Subscript value slice pos) env) QV m n := step2 (fun _ _ => Subscript_) H
theorem ws_list {elts : List Expr} (H : WS C (spliced (backTo pos (starEach elts env))) (fun vs m n => WS C (newList vs) QV m n) m n) : WS C (eval (.List elts pos) env) QV m n := step1 (fun _ _ => List_) H
theorem ws_tuple {elts : List Expr} {k : Nat} (H : WS C (spliced (backTo pos (starEach elts env))) (fun vs m n => WS C (newTuple vs) QV m n) m n) : WS C (eval (.Tuple elts k pos) env) QV m n := step1 (fun _ _ => Tuple_) H
theorem ws_sp0 (H : QL [] m n) : WS C (spliced (backTo pos (starEach [] env))) QL m n := fun h tk F N => spliced_none ⟨h, tk, m, n, rfl, F, N, H⟩
theorem ws_sp1 {e : Expr} {rest : List Expr} (H : WS C (eval e env) (fun v m n => WS C (spliced (backTo pos (starEach rest env))) (fun vs m n => QL (v :: vs) m n) m n) m n)
    (he : starEach (e :: rest) env = (false, eval e env) :: starEach rest env := by k_dflt rfl) : WS C (spliced (backTo pos (starEach (e :: rest) env))) QL m n := step1F (fun _ _ h => spliced_more h he) H
theorem ws_int {i : Int} {k : Nat} (H : ∀ t, QV (.int i t) m n) : WS C (eval (.Constant (.int i) k pos) env) QV m n := fun h tk F N => wpAny_Constant_int ⟨h, _, m, n, rfl, F, N, H _⟩
theorem ws_str {x : Str} {k : Nat} (H : ∀ t, QV (.str x t) m n) : WS C (eval (.Constant (.str x) k pos) env) QV m n := fun h tk F N => Calls.Constant_str ⟨h, _, m, n, rfl, F, N, H _⟩
theorem ws_none {k : Nat} (H : QV .none m n) : WS C (eval (.Constant .none k pos) env) QV m n := fun h tk F N => wpAny_pure (a := Value.none) ⟨h, _, m, n, rfl, F, N, H⟩
theorem ws_bool {b : Bool} {k : Nat} (H : QV (.bool b) m n) : WS C (eval (.Constant (.bool b) k pos) env) QV m n := fun h tk F N => wpAny_pure (a := Value.bool b) ⟨h, _, m, n, rfl, F, N, H⟩
end
end Mine

namespace Mine
open PySem PySem.W PyProof.Rows PySem.Calls PyProof.V PySem.Spec

abbrev Rel := Heap → Heap → Value → Prop
def Fn (prog : Program) (w : World) (mean : ExcName → Option Value) (mg mb : Loc) (f : Addr) (vs : List Value) (k : Nat) (pre : Heap → Prop) (ret : Rel) : Prop :=
  ∀ (A : Around) (base : Heap) (frames : List Env) (s : Shared) (Q E : Value → Shared → Prop),
    (Mine.th.heap_1_1 w.params).In s.heap → Top Mine.V Loose mean mg mb s.heap → A.handled = none → A.frames = some frames → s.heap.FunFrames base frames → base.StaysIn s.heap →
    A.depth + k < recursionLimit → A.units + 10 * k < cLine → pre s.heap → (∀ v h' tk', s.heap.StaysIn h' → ret s.heap h' v → Q v { s with heap := h', toks := tk' }) →
    wpAny (model prog w) A (call (.ref f) vs) Q E s

section
variable {prog : Program} {w : World} {mean : ExcName → Option Value} {mg mb : Loc} {f : Addr} {vs : List Value} {k : Nat} {pre : Heap → Prop} {ret : Rel}
  {name qual : Str} {params : Arguments} {body : List Stmt} {scope : Scope} {dV kV doc pm cdv ct oc : Value} {an od : Option Addr} {osl : Array (Option Value)} {names : List Str}
theorem zip_lookup (u : Loc) : ∀ (l : List (Str × Value)), (l.map (·.1)).Nodup → (fun y => l.reverse.lookup y) = kstB (fun _ => none) l := by
  intro l hl
  funext z
  induction l with
  | nil => rfl
  | cons p r ih =>
    have h2 := (List.nodup_cons.mp hl)
    show List.lookup z (p :: r).reverse = if z = p.1 then some p.2 else kstB (fun _ => none) r z
    rw [List.reverse_cons, List.lookup_append, ih h2.2]
    have miss : ∀ (l : List (Str × Value)), p.1 ∉ l.map (·.1) → kstB (fun _ => none) l p.1 = none := by
      intro l
      induction l with
      | nil => intro _; rfl
      | cons q l ih2 =>
        intro hq
        show (if p.1 = q.1 then some q.2 else kstB (fun _ => none) l p.1) = none
        rw [if_neg (fun e => hq (by rw [List.map_cons, e]; exact .head _)), ih2 (fun h => hq (.tail _ h))]
    by_cases hz : z = p.1
    · subst hz
      rw [if_pos rfl, miss r h2.1]
      obtain ⟨p1, p2⟩ := p
      simp [List.lookup_cons]
    · rw [if_neg hz]
      have hb : (z == p.1) = false := beq_eq_false_iff_ne.mpr hz
      obtain ⟨p1, p2⟩ := p
      simp only [List.lookup_cons, List.lookup_nil] at hb ⊢
      rw [hb]
      simp
theorem zip_sub : ∀ (a : List Str) (b : List Value), (((a.zip b).map (·.1))).Sublist a
  | [], _ => by simp
  | _ :: _, [] => by simp
  | x :: a, y :: b => by
    rw [List.zip_cons_cons, List.map_cons]
    exact (zip_sub a b).cons₂ x
/-- the way into a def's body -/
theorem fn_of (ho : (Mine.th.heap_1_1 w.params).lookup f = some ⟨oc, od, .func (fnOf name qual params body scope dV kV doc pm an cdv ct), osl⟩) (hcd : codeIn (Mine.th.heap_1_1 w.params) cdv qual = true)
    (hnm : params.args.map (·.arg) = names)
    (hbind : bindArgs (fnOf name qual params body scope dV kV doc pm an cdv ct) ⟨vs, []⟩ = pure (names.zip vs)) (hnd : names.Nodup) (hloc : ∀ y ∈ names.zip vs, scope.names.lookup y.1 = some .local)
    (hco : scope.isCoroutine = false) (hgen : scope.isGenerator = false) (hk : scope.kind = .function) (hcell : ∀ x ∈ scope.names, x.2 ≠ .cell)
    (H : ∀ C : Cx, C.prog = prog → C.w = w → C.mean = mean → C.mg = mg → C.mb = mb → C.Ok k → PassesOwn (model C.prog C.w) C.A (envOf qual scope C.L f cdv) C.E → pre C.h₀ →
      WS C (execs body (envOf qual scope C.L f cdv)) (fun fl m n => ∀ h, Fr C.h₀ C.L h m → News C.h₀ C.L h n → ret C.h₀ h (match fl with | .ret v => v | _ => .none)) (kstB (fun _ => none) (names.zip vs)) []) :
    Fn prog w mean mg mb f vs (k + 1) pre ret := by
  intro A base frames s Q E X T hh hfr hff hst hd hu hp hret
  refine wpAny_call ?_
  refine codeAny_call_def (fd := fnX name qual params body scope [] dV kV doc pm an cdv ct) (body := body) (binds := names.zip vs) (by omega) (X _ _ ho) rfl T.nolimit (codeRec_of X hcd) rfl (BindsTo.of_eq hbind) hcell hloc (fun h₁ hns hk₁ => ?_) hco hgen hk
  have F₁ : Fr s.heap s.heap.objs.size h₁ (kstB (fun _ => none) (names.zip vs)) := ⟨(zip_lookup (fun _ => none) _ ((zip_sub _ _).nodup hnd)) ▸ hns, hk₁, Nat.le_refl _⟩
  have hnew : base.get? s.heap.objs.size = none := hst.fresh
  let C : Cx := ⟨prog, w, mean, mg, mb, A.deeper (envOf qual scope s.heap.objs.size f cdv),
    (fun e s' => wpAny (model prog w) (A.deeper (envOf qual scope s.heap.objs.size f cdv)) (leaving (envOf qual scope s.heap.objs.size f cdv) e) (fun _ s'' => E e s'') (fun e' s'' => E e' s'') s'),
    s.heap, s.heap.objs.size, s.gens, s.drawn, s.os, base, envOf qual scope s.heap.objs.size f cdv :: frames⟩
  have O : C.Ok k := by
    refine ⟨X, T, hh, Around.frames_deeper hfr, fun h m F => ?_, hst, ?_, ?_⟩
    · exact .cons (by show scope.kind ≠ .module; rw [hk]; decide) rfl F.ns hnew (hff.of_keeps fun b o e _ => ⟨o, F.keep b o e, rfl⟩)
    · show A.depth + 1 + k < _; omega
    · show A.units + 3 + 10 * k < _; omega
  have := H C rfl rfl rfl rfl rfl O PassesOwn.leaving hp h₁ (s.toks + (names.zip vs).length) F₁ News.nil
  refine wpAny_mono this (fun fl s' p => ?_) fun _ _ x => x
  obtain ⟨h', tk', m', n', rfl, F', N', q⟩ := p
  exact hret _ h' tk' F'.keep (q h' F' N')

/-! answers -/
def isI (x : Int) : Rel := fun _ _ v => ∃ t, v = .int x t
def isS (x : Str) : Rel := fun _ _ v => ∃ t, v = .str x t
def isB (x : Bool) : Rel := fun _ _ v => v = .bool x
/-- a new list whose items are such -/
def isL (P : List Value → Prop) : Rel := fun h h' v => ∃ l vs c, v = .ref l ∧ h.objs.size ≤ l ∧ h'.get? l = some (listOf vs.toArray c) ∧ P vs
def anyP (_ : Heap) : Prop := True
end

section
variable {C : Cx} {k : Nat} {m : Loc} {n : Led} {env : Env} {pos : Pos} {QV : Value → Loc → Led → Prop} {QB : Bool → Loc → Led → Prop} {QF : Flow → Loc → Led → Prop} {QU : Unit → Loc → Led → Prop} {QL : List Value → Loc → Led → Prop}
theorem not_in_of {h₀ h : Heap} {L l : Addr} {m : Loc} (F : Fr h₀ L h m) (hl : h.objs.size ≤ l) : l ≠ L ∧ h₀.get? l = none := by
  constructor
  · rintro rfl; exact absurd F.ns.lt (Nat.not_lt.mpr hl)
  · cases q : h₀.get? l with
    | none => rfl
    | some o => exact absurd (Heap.lt_size (F.keep _ _ q)) (Nat.not_lt.mpr hl)
theorem ws_fn {f : Addr} {vs : List Value} {pre : Heap → Prop} {ret : Rel} (O : C.Ok k) (F : Fn C.prog C.w C.mean C.mg C.mb f vs k pre ret)
    (hp : ∀ h, Fr C.h₀ C.L h m → News C.h₀ C.L h n → pre h)
    (H : ∀ v h h', Fr C.h₀ C.L h m → News C.h₀ C.L h n → h.StaysIn h' → ret h h' v → ∃ n', News C.h₀ C.L h' n' ∧ QV v m n') : WS C (call (.ref f) vs) QV m n := by
  intro h tk F' N'
  refine F C.A C.base C.frames _ _ _ (O.kin.keeps F'.keep) (O.top.keeps F'.keep) O.handled O.frames (O.ground h m F') (fun b o e => F'.keep _ _ (O.stays _ _ e)) O.depth O.units (hp h F' N') fun v h' tk' st r => ?_
  obtain ⟨n', N2, q⟩ := H v h h' F' N' st r
  exact ⟨h', tk', m, n', rfl, F'.keeps st, N2, q⟩
theorem ws_fnI {f : Addr} {vs : List Value} {pre : Heap → Prop} {x : Int} (O : C.Ok k) (F : Fn C.prog C.w C.mean C.mg C.mb f vs k pre (isI x)) (hp : ∀ h, Fr C.h₀ C.L h m → News C.h₀ C.L h n → pre h)
    (H : ∀ t, QV (.int x t) m n) : WS C (call (.ref f) vs) QV m n := ws_fn O F hp fun v h h' _ N st ⟨t, e⟩ => ⟨n, N.grown st, e ▸ H t⟩
theorem ws_fnS {f : Addr} {vs : List Value} {pre : Heap → Prop} {x : Str} (O : C.Ok k) (F : Fn C.prog C.w C.mean C.mg C.mb f vs k pre (isS x)) (hp : ∀ h, Fr C.h₀ C.L h m → News C.h₀ C.L h n → pre h)
    (H : ∀ t, QV (.str x t) m n) : WS C (call (.ref f) vs) QV m n := ws_fn O F hp fun v h h' _ N st ⟨t, e⟩ => ⟨n, N.grown st, e ▸ H t⟩
theorem ws_fnB {f : Addr} {vs : List Value} {pre : Heap → Prop} {x : Bool} (O : C.Ok k) (F : Fn C.prog C.w C.mean C.mg C.mb f vs k pre (isB x)) (hp : ∀ h, Fr C.h₀ C.L h m → News C.h₀ C.L h n → pre h)
    (H : QV (.bool x) m n) : WS C (call (.ref f) vs) QV m n := ws_fn O F hp fun v h h' _ N st e => ⟨n, N.grown st, by cases e; exact H⟩
/-- the ledger's addresses are other ones -/
def Off (l : Addr) (n : Led) : Prop := ∀ p ∈ n, p.1 ≠ l
theorem off_new {h₀ h : Heap} {L l : Addr} {n : Led} (N : News h₀ L h n) (hl : h.objs.size ≤ l) : Off l n := fun p hp e => absurd (Heap.lt_size (N p hp).1) (by rw [e]; exact Nat.not_lt.mpr hl)
theorem ws_fnL {f : Addr} {vs : List Value} {pre : Heap → Prop} {P : List Value → Prop} (O : C.Ok k) (F : Fn C.prog C.w C.mean C.mg C.mb f vs k pre (isL P)) (hp : ∀ h, Fr C.h₀ C.L h m → News C.h₀ C.L h n → pre h)
    (H : ∀ l ws c, C.L < l → AllLt l n → P ws → QV (.ref l) m ((l, listOf ws.toArray c) :: n)) : WS C (call (.ref f) vs) QV m n := ws_fn O F hp fun v h h' F' N st ⟨l, ws, c, e, hl, hg, hP⟩ =>
  ⟨(l, listOf ws.toArray c) :: n, fun p hp => by
    rcases List.mem_cons.mp hp with rfl | hp
    · exact ⟨hg, not_in_of F' hl⟩
    · exact N.grown st p hp, e ▸ H l ws c (Nat.lt_of_lt_of_le F'.ns.lt hl) (allLt_of fun p hp => Nat.lt_of_lt_of_le (Heap.lt_size (N p hp).1) hl) hP⟩

/-! names -/
theorem ws_loc {x : Str} {v : Value} (hv : m x = some v) (H : QV v m n) (hL : env.locals = C.L := by k_dflt rfl) (hk : env.scope.kind = .function := by k_dflt rfl) (hl : env.kindOf x = some .local := by k_dflt rfl) (hd : (x == ("__debug__" : Str)) = false := by decide) :
    WS C (eval (.Name x pos) env) QV m n := fun h tk F N => wpAny_Name (wpAny_loadName_local hk hl (hL ▸ F.ns) hv ⟨h, tk, m, n, rfl, F, N, H⟩) hd
theorem ws_load {x : Str} {v : Value} (hv : m x = some v) (H : QV v m n) (hL : env.locals = C.L := by k_dflt rfl) (hk : env.scope.kind = .function := by k_dflt rfl) (hl : env.kindOf x = some .local := by k_dflt rfl) :
    WS C (loadName env x) QV m n := fun h tk F N => wpAny_loadName_local hk hl (hL ▸ F.ns) hv ⟨h, tk, m, n, rfl, F, N, H⟩
theorem ws_store {x : Str} {v : Value} (H : QU () (fun y => if y = x then some v else m y) n) (hL : env.locals = C.L := by k_dflt rfl) (hl : env.kindOf x = some .local := by k_dflt rfl)
    (hp : (env.scope.kind == .class || (env.scope.kind == .module && env.locals != env.globals)) = false := by k_dflt rfl) : WS C (storeName env x v) QU m n :=
  fun h tk F N => wpAny_storeName_local hl (hL ▸ F.ns) (fun h' hn hs => ⟨h', _, _, n, rfl, F.set (hL ▸ hn) (hL ▸ hs), N.set (hL ▸ hs), H⟩) hp
theorem ws_glob {x : Str} {v : Value} (O : C.Ok k) (e : nsIn (Mine.th.heap_1_1 C.w.params) mainGlobals x = some (some v)) (H : QV v m n) (hg : env.globals = mainGlobals := by k_dflt rfl) (hk : env.scope.kind = .function := by k_dflt rfl)
    (hx : env.kindOf x = some .globalImplicit := by k_dflt rfl) (hd : (x == ("__debug__" : Str)) = false := by decide) : WS C (eval (.Name x pos) env) QV m n :=
  fun h tk F N => nameG_K F O.kin (topRead_of O.top) e ⟨h, tk, m, n, rfl, F, N, H⟩ hg hk hx hd
theorem ws_bltn {x : Str} {v : Value} (O : C.Ok k) (e : nsIn (Mine.th.heap_1_1 C.w.params) mainGlobals x = some none) (hv : bootBuiltins x = some v) (H : QV v m n) (hn : x ≠ "__name__" := by decide) (hg : env.globals = mainGlobals := by k_dflt rfl) (hb : env.builtins = builtinsNs := by k_dflt rfl)
    (hk : env.scope.kind = .function := by k_dflt rfl) (hx : env.kindOf x = some .globalImplicit := by k_dflt rfl) (hd : (x == ("__debug__" : Str)) = false := by decide) : WS C (eval (.Name x pos) env) QV m n :=
  fun h tk F N => Name_function_global hk hx (loadGlobal_builtin (env := env) (by rw [hg]; exact O.top.g.keeps F.keep) (mg_none_of O.kin O.top.g e) (by rw [hb]; exact O.top.b.keeps F.keep) ((O.top.builtins x hn).trans hv) ⟨h, tk, m, n, rfl, F, N, H⟩) hd

/-! calls -/
theorem ws_call {func : Expr} {args : List Expr} (H : WS C (eval func env) (fun f m n => WS C (callWith pos f [] (backTo pos (starEach args env)) []) QV m n) m n)
    (he : eval (.Call func args [] pos) env = (do callWith pos (← eval func env) [] (backTo pos (starEach args env)) (backToKw pos (keywordEach [] env))) := by k_dflt rfl) : WS C (eval (.Call func args [] pos) env) QV m n := step1 (fun _ _ h => Call_ h he) H
theorem ws_cwK {f : Addr} {e : Expr} {rest : List Expr} (O : C.Ok k) (hk : keepIn (Mine.th.heap_1_1 C.w.params) (.ref f) = true) (H : WS C (spliced (backTo pos (starEach (e :: rest) env))) (fun vs m n => WS C (call (.ref f) vs) QV m n) m n)
    (he : starEach (e :: rest) env = (false, eval e env) :: starEach rest env := by k_dflt rfl) (hplain : (backTo pos (starEach rest env)).any (·.1) = false := by k_dflt rfl) : WS C (callWith pos (.ref f) [] (backTo pos (starEach (e :: rest) env)) []) QV m n :=
  fun h tk F N => callWith_K (first := []) O.kin hk (wpAny_mono (H h tk F N) (fun vs s p => ⟨by
    obtain ⟨h, tk, m, n, rfl, F, N, H⟩ := p
    exact O.kin.keeps F.keep, post_ws (a := vs) p⟩) fun _ _ x => x) he hplain
theorem ws_cwT {T : String} {e : Expr} {rest : List Expr} (H : WS C (spliced (backTo pos (starEach (e :: rest) env))) (fun vs m n => WS C (call (.type T) vs) QV m n) m n)
    (he : starEach (e :: rest) env = (false, eval e env) :: starEach rest env := by k_dflt rfl) (hplain : (backTo pos (starEach rest env)).any (·.1) = false := by k_dflt rfl) : WS C (callWith pos (.type T) [] (backTo pos (starEach (e :: rest) env)) []) QV m n :=
  step1 (fun _ _ h => PySem.Pv.callWith_type1 h he hplain) H
theorem ws_cwB {id : String} {first : List Value} {e : Expr} {rest : List Expr} (H : WS C (spliced (backTo pos (starEach (e :: rest) env))) (fun vs m n => WS C (call (.builtin id) (first ++ vs)) QV m n) m n)
    (he : starEach (e :: rest) env = (false, eval e env) :: starEach rest env := by k_dflt rfl) (hplain : (backTo pos (starEach rest env)).any (·.1) = false := by k_dflt rfl) : WS C (callWith pos (.builtin id) first (backTo pos (starEach (e :: rest) env)) []) QV m n :=
  step1 (fun _ _ h => callWith_method1 h he hplain) H
theorem ws_cwB0 {id : String} {first : List Value} (H : WS C (call (.builtin id) first) QV m n) : WS C (callWith pos (.builtin id) first (backTo pos (starEach [] env)) []) QV m n := step0 (fun _ _ h => PyProof.Rows.callWith_method0 h) H

/-! ints, bools -/
variable {a b : Int} {t u : Tok}
theorem ws_add (H : ∀ t, QV (.int (a + b) t) m n) : WS C (binaryOp .Add (.int a t) (.int b u)) QV m n := fun h tk F N => P.add_int ⟨h, _, m, n, rfl, F, N, H _⟩
theorem ws_iadd (H : ∀ t, QV (.int (a + b) t) m n) : WS C (inplaceOp .Add (.int a t) (.int b u)) QV m n := fun h tk F N => P.iadd_int ⟨h, _, m, n, rfl, F, N, H _⟩
theorem ws_subi (H : ∀ t, QV (.int (a - b) t) m n) : WS C (binaryOp .Sub (.int a t) (.int b u)) QV m n := fun h tk F N => P.sub_int ⟨h, _, m, n, rfl, F, N, H _⟩
theorem ws_mul (hm : IntMulOk a b) (H : ∀ t, QV (.int (a * b) t) m n) : WS C (binaryOp .Mult (.int a t) (.int b u)) QV m n := fun h tk F N => P.mul_int ⟨h, _, m, n, rfl, F, N, H _⟩ hm
theorem ws_mod (hb : b ≠ 0) (H : ∀ t, QV (.int (a.fmod b) t) m n) : WS C (binaryOp .Mod (.int a t) (.int b u)) QV m n := fun h tk F N => mod_int' hb ⟨h, _, m, n, rfl, F, N, H _⟩
theorem ws_div (hb : b ≠ 0) (hp : Builtin.divisionGoesByPylong a b = false) (H : ∀ t, QV (.int (a.fdiv b) t) m n) : WS C (binaryOp .FloorDiv (.int a t) (.int b u)) QV m n := fun h tk F N => floordiv_int hb ⟨h, _, m, n, rfl, F, N, H _⟩ (.inl hp)
theorem ws_pow (hb : 0 ≤ b) (hs : (Builtin.Int.intBits a : Int) * b ≤ 2 ^ 27) (H : ∀ t, QV (.int (a ^ b.toNat) t) m n) : WS C (binaryOp .Pow (.int a t) (.int b u)) QV m n := fun h tk F N => pow_int hb hs ⟨h, _, m, n, rfl, F, N, H _⟩
theorem ws_shl (h0 : 0 ≤ b) (h1 : b ≤ 1000000) (h2 : a.natAbs < 2 ^ 64) (H : ∀ t, QV (.int (a * 2 ^ b.toNat) t) m n) : WS C (binaryOp .LShift (.int a t) (.int b u)) QV m n := fun h tk F N => lshift_int_small h0 h1 h2 ⟨h, _, m, n, rfl, F, N, H _⟩
theorem ws_ishl (h0 : 0 ≤ b) (h1 : b ≤ 1000000) (h2 : a.natAbs < 2 ^ 64) (H : ∀ t, QV (.int (a * 2 ^ b.toNat) t) m n) : WS C (inplaceOp .LShift (.int a t) (.int b u)) QV m n := fun h tk F N => ilshift_int_small h0 h1 h2 ⟨h, _, m, n, rfl, F, N, H _⟩
theorem ws_band (H : ∀ t, QV (.int (Builtin.bitAnd a b) t) m n) : WS C (binaryOp .BitAnd (.int a t) (.int b u)) QV m n := fun h tk F N => and_int ⟨h, _, m, n, rfl, F, N, H _⟩
theorem ws_bor (H : ∀ t, QV (.int (Builtin.bitOr a b) t) m n) : WS C (binaryOp .BitOr (.int a t) (.int b u)) QV m n := fun h tk F N => or_int ⟨h, _, m, n, rfl, F, N, H _⟩
theorem ws_ibor (H : ∀ t, QV (.int (Builtin.bitOr a b) t) m n) : WS C (inplaceOp .BitOr (.int a t) (.int b u)) QV m n := fun h tk F N => ior_int ⟨h, _, m, n, rfl, F, N, H _⟩
theorem ws_ibxor (H : ∀ t, QV (.int (Builtin.bitXor a b) t) m n) : WS C (inplaceOp .BitXor (.int a t) (.int b u)) QV m n := fun h tk F N => ixor_int ⟨h, _, m, n, rfl, F, N, H _⟩
theorem ws_neg (H : ∀ t, QV (.int (-a) t) m n) : WS C (unaryOp .USub (.int a t)) QV m n := fun h tk F N => P.neg_int ⟨h, _, m, n, rfl, F, N, H _⟩
theorem ws_eq (H : QV (.bool (a == b)) m n) : WS C (compareOp .Eq (.int a t) (.int b u)) QV m n := fun h tk F N => P.eq_int ⟨h, tk, m, n, rfl, F, N, H⟩
theorem ws_ne (H : QV (.bool (a != b)) m n) : WS C (compareOp .NotEq (.int a t) (.int b u)) QV m n := fun h tk F N => P.ne_int ⟨h, tk, m, n, rfl, F, N, H⟩
theorem ws_lt (H : QV (.bool (decide (a < b))) m n) : WS C (compareOp .Lt (.int a t) (.int b u)) QV m n := fun h tk F N => P.lt_int ⟨h, tk, m, n, rfl, F, N, H⟩
theorem ws_gt (H : QV (.bool (decide (a > b))) m n) : WS C (compareOp .Gt (.int a t) (.int b u)) QV m n := fun h tk F N => P.gt_int ⟨h, tk, m, n, rfl, F, N, H⟩
theorem ws_ge (H : QV (.bool (decide (a ≥ b))) m n) : WS C (compareOp .GtE (.int a t) (.int b u)) QV m n := fun h tk F N => P.ge_int ⟨h, tk, m, n, rfl, F, N, H⟩
theorem ws_tb {b : Bool} (H : QB b m n) : WS C (truthy (.bool b)) QB m n := fun h tk F N => wpAny_truthy_bool ⟨h, tk, m, n, rfl, F, N, H⟩
theorem ws_ti (H : QB (a != 0) m n) : WS C (truthy (.int a t)) QB m n := fun h tk F N => P.truthy_int ⟨h, tk, m, n, rfl, F, N, H⟩
end
end Mine

namespace Mine
open PySem PySem.W PyProof.Rows PySem.Calls PyProof.V PySem.Spec

theorem allLt_new {h₀ h : Heap} {L l : Addr} {n : Led} (N : News h₀ L h n) (hl : h.objs.size ≤ l) : AllLt l n := by
  have : ∀ p ∈ n, p.1 < l := fun p hp => Nat.lt_of_lt_of_le (Heap.lt_size (N p hp).1) hl
  exact allLt_of this
abbrev tupOf (its : Array Value) : Obj := { cls := .type "tuple", data := .seq its }
abbrev lIt (l : Addr) (i : Nat) : Obj := { cls := .type "list_iterator", data := .fields #[.ref l, .int i 0] }
abbrev tIt (l : Addr) (i : Nat) : Obj := { cls := .type "tuple_iterator", data := .fields #[.ref l, .int i 0] }
abbrev rIt (x left step : Int) : Obj := { cls := .type "range_iterator", data := .fields #[rawInt x, rawInt left, rawInt step] }
abbrev rObj (a b c : Int) (t u v : Tok) : Obj := { cls := .type "range", data := .fields #[.int a t, .int b u, .int c v] }

abbrev AllN (m : Loc) : List (Str × Value) → Prop
  | [] => True
  | p :: r => m p.1 = some p.2 ∧ AllN m r
theorem AllN.mem {m : Loc} : ∀ {l : List (Str × Value)}, AllN m l → ∀ p ∈ l, m p.1 = some p.2
  | [], _, _, h => nomatch h
  | _ :: _, x, p, h => by
    rcases List.mem_cons.mp h with rfl | h
    · exact x.1
    · exact AllN.mem x.2 p h
theorem allN_kstB {m : Loc} {l : List (Str × Value)} (h : AllN m l) : kstB m l = m := by
  funext z
  exact kstB_eq h.mem fun _ => rfl
/-- what is left of the ledger when the object at d may have turned -/
inductive Drp (d : Addr) : Led → Led → Prop
  | nil : Drp d [] []
  | skip {p r r'} : Drp d r r' → Drp d (p :: r) r'
  | keep {p r r'} : p.1 ≠ d → Drp d r r' → Drp d (p :: r) (p :: r')
theorem Drp.mem {d : Addr} {n n' : Led} (h : Drp d n n') : ∀ p ∈ n', p ∈ n ∧ p.1 ≠ d := by
  induction h with
  | nil => exact fun _ h => nomatch h
  | skip _ ih => exact fun p hp => ⟨.tail _ (ih p hp).1, (ih p hp).2⟩
  | keep h _ ih =>
    intro p hp
    rcases List.mem_cons.mp hp with rfl | hp
    · exact ⟨.head _, h⟩
    · exact ⟨.tail _ (ih p hp).1, (ih p hp).2⟩

section
variable {C : Cx} {k : Nat} {m : Loc} {n n' : Led} {env : Env} {pos : Pos} {QV : Value → Loc → Led → Prop} {QB : Bool → Loc → Led → Prop} {QF : Flow → Loc → Led → Prop} {QU : Unit → Loc → Led → Prop} {QL : List Value → Loc → Led → Prop}
  {QM : Value × List Value → Loc → Led → Prop} {QO : Option Value → Loc → Led → Prop} {D l : Addr} {vs : List Value} {c : Nat} {x : Value}
/-- a list that stands: in the ledger or below -/
def IsLst (C : Cx) (n : Led) (l : Addr) (vs : List Value) : Prop := ∀ h m, Fr C.h₀ C.L h m → News C.h₀ C.L h n → h.IsList l vs.toArray ∧ h.NoDictAt (.ref l)
def IsTpl (C : Cx) (n : Led) (l : Addr) (vs : List Value) : Prop := ∀ h m, Fr C.h₀ C.L h m → News C.h₀ C.L h n → IsTup h l vs.toArray
theorem isLst_mem (h : (l, listOf vs.toArray c) ∈ n) : IsLst C n l vs := fun _ _ _ N => ⟨⟨_, (N _ h).1, rfl, c, rfl⟩, ⟨_, (N _ h).1, rfl⟩⟩
theorem isLst_base (h : C.h₀.get? l = some (listOf vs.toArray c)) : IsLst C n l vs := fun _ _ F _ => ⟨⟨_, F.keep _ _ h, rfl, c, rfl⟩, ⟨_, F.keep _ _ h, rfl⟩⟩
theorem isTpl_mem (h : (l, tupOf vs.toArray) ∈ n) : IsTpl C n l vs := fun _ _ _ N => ⟨_, (N _ h).1, rfl, _, rfl⟩

/-! making -/
/-- an address above all that the ledger names, and above the locals -/
def Fresh (C : Cx) (l : Addr) (n : Led) : Prop := C.L < l ∧ AllLt l n
theorem ws_newlist (hz : vs.length ≤ sizeLine) (H : ∀ l, Fresh C l n → QV (.ref l) m ((l, listOf vs.toArray 0) :: n)) : WS C (newList vs) QV m n :=
  fun h tk F N => newList_N F N (fun h' F' N' => ⟨h', _, m, _, rfl, F', N', H _ ⟨F.ns.lt, allLt_new N (Nat.le_refl _)⟩⟩) hz
theorem ws_newtup (hz : vs.length ≤ sizeLine) (H : ∀ l, Fresh C l n → QV (.ref l) m ((l, tupOf vs.toArray) :: n)) : WS C (newTuple vs) QV m n :=
  fun h tk F N => newTuple_N F N (fun h' F' N' => ⟨h', _, m, _, rfl, F', N', H _ ⟨F.ns.lt, allLt_new N (Nat.le_refl _)⟩⟩) hz
theorem ws_range1 {b : Int} {t : Tok} (H : ∀ r u v, AllLt r n → QV (.ref r) m ((r, rObj 0 b 1 u t v) :: n)) : WS C (call (.type "range") [.int b t]) QV m n :=
  fun h tk F N => call_range_1 ⟨_, _, m, _, rfl, F.push _, N.push F _, H _ _ _ (allLt_new N (Nat.le_refl _))⟩
theorem ws_range2 {a b : Int} {t u : Tok} (H : ∀ r v, AllLt r n → QV (.ref r) m ((r, rObj a b 1 t u v) :: n)) : WS C (call (.type "range") [.int a t, .int b u]) QV m n :=
  fun h tk F N => call_range_2 ⟨_, _, m, _, rfl, F.push _, N.push F _, H _ _ (allLt_new N (Nat.le_refl _))⟩
theorem ws_range3 {a b st : Int} {t u v : Tok} (hc : st ≠ 0) (hp : Builtin.divisionGoesByPylong (b - a) st = false) (H : ∀ r, AllLt r n → QV (.ref r) m ((r, rObj a b st t u v) :: n)) : WS C (call (.type "range") [.int a t, .int b u, .int st v]) QV m n :=
  fun h tk F N => call_range_3 hc ⟨_, _, m, _, rfl, F.push _, N.push F _, H _ (allLt_new N (Nat.le_refl _))⟩ (.inl hp)

/-! methods -/
theorem ws_meth {o : Expr} {name : Str} {apos : Pos} {args : List Expr} {pl : Sem Bool} (H : WS C (eval o env) (fun ov m n => WS C (getMethod ov name pl) (fun fx m n => WS C (callWith pos fx.1 fx.2 (backTo pos (starEach args env)) []) QV m n) m n) m n)
    (he : eval (.Call (.Attribute o name apos) args [] pos) env = (do
      let ov ← eval o env
      standAt apos.atName
      let (f, first) ← holding [ov] (getMethod ov name pl)
      callWith pos f first (backTo pos (starEach args env)) []) := by k_dflt rfl) : WS C (eval (.Call (.Attribute o name apos) args [] pos) env) QV m n := step2 (fun _ _ h => MethodCall_ h he) H
theorem ws_gmL {name : Str} {id : String} {pl : Sem Bool} (hl : IsLst C n l vs) (slot : Slot "list" name id) (hty : typeOf (.builtin id) = pure (.type "method_descriptor")) (H : QM (.builtin id, [.ref l]) m n) : WS C (getMethod (.ref l) name pl) QM m n :=
  fun h tk F N => getMethod_list_of slot hty (hl h m F N).1 (hl h m F N).2 ⟨h, tk, m, n, rfl, F, N, H⟩
theorem ws_append (U : Upd D (listOf vs.toArray c) (listOf (vs ++ [x]).toArray (c + 1)) n n') (hz : vs.length ≤ sizeLine) (H : QV .none m n') : WS C (call (.builtin "list.append") [.ref D, x]) QV m n := by
  have e : (vs ++ [x]).toArray = vs.toArray.push x := by simp
  rw [e] at U
  exact fun h tk F N => append_K F N U (fun h' F' N' => ⟨h', _, m, _, rfl, F', N', H⟩) (by simpa using hz)
theorem ws_pop {y : Value} (U : Upd D (listOf (vs ++ [y]).toArray c) (listOf vs.toArray (c + 1)) n n') (hz : vs.length + 1 ≤ sizeLine) (H : QV y m n') : WS C (call (.builtin "list.pop") [.ref D]) QV m n :=
  fun h tk F N => kl_pop F N (p := vs) (y := y) (by rw [kpa_last]) U (by simpa using hz) fun h' F' N' => ⟨h', _, m, _, rfl, F', N', H⟩

/-! items, lengths -/
theorem ws_item {value slice : Expr} {i : Int} {u : Tok} (hl : IsLst C n l vs) (h0 : 0 ≤ i) (hf : i < 2 ^ 63) (hx : vs[i.toNat]? = some x) (H : QV x m n)
    (hs : subscripted slice false (.ref l) (.int i u) = operate [.ref l, .int i u] (getItem (.ref l) (.int i u)) := by with_unfolding_all rfl) : WS C (subscriptTail value slice (.ref l) (.int i u)) QV m n :=
  fun h tk F N => tail_any (hl h m F N).1.typeIs slot_list_getitem.lookup (wpAny_getItem_list (hl h m F N).1 h0 hf (by simpa using hx) ⟨h, tk, m, n, rfl, F, N, H⟩) hs
theorem ws_itemT {value slice : Expr} {i : Int} {u : Tok} {j : Nat} (hl : IsTpl C n l vs) (hlo : -(2 ^ 63) ≤ i) (hhi : i < 2 ^ 63) (hj : seqIndex? i vs.length = some j) (hx : vs[j]? = some x) (H : QV x m n)
    (hs : subscripted slice false (.ref l) (.int i u) = operate [.ref l, .int i u] (getItem (.ref l) (.int i u)) := by with_unfolding_all rfl) : WS C (subscriptTail value slice (.ref l) (.int i u)) QV m n :=
  fun h tk F N => item_tupleT (hl h m F N) hlo hhi hj hx ⟨h, tk, m, n, rfl, F, N, H⟩ hs
theorem ws_len (hl : IsLst C n l vs) (hf : vs.length < 2 ^ 62) (H : ∀ t, QV (.int vs.length t) m n) : WS C (call (.builtin "len") [.ref l]) QV m n :=
  fun h tk F N => call_len_list (hl h m F N).1 (by simp; omega) (by
    have := H (tk + 1)
    simp only [List.size_toArray]
    exact ⟨h, _, m, n, rfl, F, N, this⟩)

/-! loops -/
def LP (C : Cx) {σ : Type} (Led : σ → Led) (ps : σ → List (Str × Value)) (P : σ → Prop) (μ : σ → Nat) (Q : Flow → Loc → Mine.Led → Prop) (c : σ) (f : Flow) (m : Loc) (n : Mine.Led) : Prop :=
  match f with
  | .ret v => Q (.ret v) m n
  | .brk => Q .next m n
  | _ => ∃ c', SubL (Led c') n ∧ AllN m (ps c') ∧ P c' ∧ μ c' < μ c
theorem ws_while {σ : Type} {test : Expr} {body : List Stmt} (Led : σ → Led) (ps : σ → List (Str × Value)) (P : σ → Prop) (μ : σ → Nat) (c₀ : σ) (hE : PassesOwn (model C.prog C.w) C.A env C.E)
    (hs : SubL (Led c₀) n) (hn : AllN m (ps c₀)) (hp : P c₀)
    (turn : ∀ c u, P c → WS C (isTrue test env (eval test env)) (fun b m n => if b = true then WS C (execs body env) (LP C Led ps P μ QF c) m n else QF .next m n) (kstB u (ps c)) (Led c)) :
    WS C (exec (.While test body [] pos) env) QF m n := by
  intro h tk F N
  refine While_inv2 (fun k m nx => ∃ c : σ, (∀ p ∈ Led c, p ∈ nx) ∧ μ c = k ∧ AllN m (ps c) ∧ P c) F N ⟨c₀, hs.mem, rfl, hn, hp⟩ ?_ hE
  rintro k m₁ nx h tk F₁ N₁ ⟨c, hnx, rfl, h1, hp'⟩
  rw [← allN_kstB h1] at F₁
  refine wpAny_mono (turn c m₁ hp' h tk F₁ fun p hp => N₁ p (hnx p hp)) (fun b s₂ p => ?_) fun _ _ x => x
  obtain ⟨h, tk, m, n, rfl, F, N, H⟩ := p
  cases b with
  | false => simpa using ⟨h, tk, m, n, rfl, F, N, by simpa using H⟩
  | true =>
    simp only [if_true] at H ⊢
    refine wpAny_mono (H h tk F N) (fun f s₃ q => ?_) fun _ _ x => x
    obtain ⟨h, tk, m, n, rfl, F, N, H⟩ := q
    cases f with
    | ret v => exact ⟨h, tk, m, n, rfl, F, N, H⟩
    | brk => exact ⟨h, tk, m, n, rfl, F, N, H⟩
    | next =>
      obtain ⟨c', hn, hr9, hp9, hm9⟩ := H
      exact ⟨h, tk, m, n, μ c', rfl, F, N, hm9, c', hn.mem, rfl, hr9, hp9⟩
    | cont =>
      obtain ⟨c', hn, hr9, hp9, hm9⟩ := H
      exact ⟨h, tk, m, n, μ c', rfl, F, N, hm9, c', hn.mem, rfl, hr9, hp9⟩

def FAt (C : Cx) (env : Env) (x : Str) (px : Pos) (body orelse : List Stmt) (Q : Flow → Loc → Led → Prop) (it : Value) (m : Loc) (n : Led) : Prop :=
  ∀ h tk, Fr C.h₀ C.L h m → News C.h₀ C.L h n →
    codeAny (model C.prog C.w) C.A (.forLoop (.Name x px) it body orelse env) (fun r s' => match r with | .ok f => Post C Q f s' | .error e => cameBackBy (model C.prog C.w) C.A env C.E e s') ⟨h, C.g, C.d, tk, C.o⟩
theorem ws_for {x : Str} {px : Pos} {iter : Expr} {body orelse : List Stmt} (H : WS C (eval iter env) (fun xv m n => WS C (pyIter xv) (fun it m n => FAt C env x px body orelse QF it m n) m n) m n)
    (hs : ∀ x, foldedSetIterable iter env x = pure x := by intro _; k_dflt rfl) : WS C (exec (.For (.Name x px) iter body orelse pos) env) QF m n :=
  fun h tk F N => wpAny_For (wpAny_mono (H h tk F N) (fun a s p => by
    obtain ⟨h, tk, m, n, rfl, F, N, H⟩ := p
    exact wpAny_mono (H h tk F N) (fun it s p => by
      obtain ⟨h, tk, m, n, rfl, F, N, H⟩ := p
      exact H h tk F N) fun _ _ x => x) fun _ _ x => x) hs
theorem fat_loop {σ : Type} {x : Str} {px : Pos} {body orelse : List Stmt} {it : Value} (Led : σ → Led) (ps : σ → List (Str × Value)) (P : σ → Prop) (μ : σ → Nat) (c₀ : σ) (hE : PassesOwn (model C.prog C.w) C.A env C.E)
    (hs : SubL (Led c₀) n) (hn : AllN m (ps c₀)) (hp : P c₀)
    (turn : ∀ c u, P c → WS C (pyNext it) (fun o m n => match o with
        | none => WS C (execs orelse env) QF m n
        | some v => WS C (storeName env x v) (fun _ m n => WS C (execs body env) (LP C Led ps P μ QF c) m n) m n) (kstB u (ps c)) (Led c)) : FAt C env x px body orelse QF it m n := by
  intro h tk F N
  refine codeAny_forLoop (R := fun r s' => match r with | .ok f => Post C QF f s' | .error e => cameBackBy (model C.prog C.w) C.A env C.E e s')
    (fun k s' => ∃ c h' tk m' news', s' = ⟨h', C.g, C.d, tk, C.o⟩ ∧ Fr C.h₀ C.L h' m' ∧ News C.h₀ C.L h' news' ∧ (∀ p ∈ Led c, p ∈ news') ∧ AllN m' (ps c) ∧ P c ∧ μ c = k) ?_ (μ c₀)
    ⟨c₀, _, _, _, _, rfl, F, N, hs.mem, hn, hp, rfl⟩
  rintro k s' ⟨c, h', tk, m', news', rfl, F', N', hs', hn', hp', rfl⟩
  rw [← allN_kstB hn'] at F'
  refine wpAny_mono (turn c m' hp' h' tk F' fun p hp => N' p (hs' p hp)) (fun o s₂ h₂ => ?_) hE
  obtain ⟨h, tk, m, n, rfl, F, N, H⟩ := h₂
  cases o with
  | none => exact wpAny_mono (H h tk F N) (fun f s₃ q => q) hE
  | some v =>
    refine wpAny_assign_Name (wpAny_mono (H h tk F N) (fun a s₃ h₃ => wpAny_mono (post_ws (a := a) h₃) (fun f s₄ q => ?_) hE) hE)
    obtain ⟨h, tk, m, n, rfl, F, N, H⟩ := q
    cases f with
    | ret v => exact ⟨h, tk, m, n, rfl, F, N, H⟩
    | brk => exact ⟨h, tk, m, n, rfl, F, N, H⟩
    | next =>
      obtain ⟨c', hn, hr9, hp9, hm9⟩ := H
      exact ⟨μ c', hm9, c', h, tk, m, n, rfl, F, N, hn.mem, hr9, hp9, rfl⟩
    | cont =>
      obtain ⟨c', hn, hr9, hp9, hm9⟩ := H
      exact ⟨μ c', hm9, c', h, tk, m, n, rfl, F, N, hn.mem, hr9, hp9, rfl⟩

/-! iterators -/
theorem upd_news {h₀ h h' : Heap} {L D : Addr} {o o' : Obj} {n n' : Led} (U : Upd D o o' n n') (N : News h₀ L h n) (hs : Heap.SameBut D h h') (ho : h'.get? D = some o') : News h₀ L h' n' := by
  obtain ⟨pre, post, rfl, rfl, a, b⟩ := U.split
  exact news_set N a b hs ho
theorem upd_mem {D : Addr} {o o' : Obj} {n n' : Led} (U : Upd D o o' n n') : (D, o) ∈ n := by
  obtain ⟨pre, post, rfl, rfl, a, b⟩ := U.split
  exact List.mem_append.mpr (.inr (.head _))
theorem ext_fr {h₀ h h' : Heap} {L D : Addr} {m : Loc} (F : Fr h₀ L h m) (hs : Heap.ExtBut D h h') (hL : D ≠ L) (hn : h₀.get? D = none) : Fr h₀ L h' m := by
  refine ⟨F.ns.extBut hs (Ne.symm hL), fun b o e => hs b o ?_ (F.keep b o e), F.above⟩
  rintro rfl
  rw [hn] at e
  cases e
/-! loops by index -/
def LI (l : Addr) (i : Nat) (o : Obj) : Prop := o.cls = .type "list_iterator" ∧ o.data = .fields #[.ref l, .int i 0]
def LPI (C : Cx) {σ : Type} (I : Addr) (o : Obj) (Led : Nat → σ → Led) (ps : Nat → σ → List (Str × Value)) (P : Nat → σ → Prop) (Q : Flow → Loc → Mine.Led → Prop) (i : Nat) (f : Flow) (m : Loc) (n : Mine.Led) : Prop :=
  match f with
  | .ret v => Q (.ret v) m n
  | .brk => Q .next m n
  | _ => ∃ c', (I, o) ∈ n ∧ SubL (Led i c') n ∧ AllN m (ps i c') ∧ P i c'
theorem ws_loopR {σ : Type} {x : Str} {px : Pos} {body orelse : List Stmt} {a b st : Int} {t u v : Tok} (N : Nat) (Led : Nat → σ → Led) (ps : Nat → σ → List (Str × Value)) (P : Nat → σ → Prop) (c₀ : σ) (O : C.Ok k) (hE : PassesOwn (model C.prog C.w) C.A env C.E)
    (hm : (l, rObj a b st t u v) ∈ n) (hsm : Builtin.Range.small a b st = true) (hN : Builtin.Range.rangeSize a b st = (N : Int)) (hcls : ∀ i c, ∀ p ∈ Led i c, p.2.cls ≠ .type "range_iterator") (hs : SubL (Led 0 c₀) n) (hn : AllN m (ps 0 c₀)) (hp : P 0 c₀)
    (turn : ∀ i c u I o t, i < N → P i c → (∀ p ∈ Led i c, p.1 ≠ I) → WS C (storeName env x (.int (a + (i : Int) * st) t)) (fun _ m n => WS C (execs body env) (LPI C I o Led ps P QF (i + 1)) m n) (kstB u (ps i c)) ((I, o) :: Led i c))
    (done : ∀ c u, P N c → WS C (execs orelse env) QF (kstB u (ps N c)) (Led N c)) : WS C (pyIter (.ref l)) (fun it m n => FAt C env x px body orelse QF it m n) m n := by
  intro h tk F NN
  refine wpAny_pyIter_range (NN _ hm).1 hsm ⟨_, _, m, (_ :: n), rfl, F.push _, NN.push F _, ?_⟩
  rw [hN]
  refine fat_loop (σ := Nat × σ) (fun s => (h.objs.size, rIt (a + (s.1 : Int) * st) ((N : Int) - (s.1 : Int)) st) :: Led s.1 s.2) (fun s => ps s.1 s.2) (fun s => P s.1 s.2 ∧ s.1 ≤ N) (fun s => N - s.1) (0, c₀) hE ⟨?_, ?_⟩ hn ⟨hp, Nat.zero_le _⟩ ?_
  · have e1 : a + ((0 : Nat) : Int) * st = a := by simp
    have e2 : (N : Int) - ((0 : Nat) : Int) = N := by simp
    show (h.objs.size, rIt (a + ((0 : Nat) : Int) * st) ((N : Int) - ((0 : Nat) : Int)) st) ∈ _
    rw [e1, e2]
    exact .head _
  · have : ∀ (a b : Mine.Led), SubL a b → ∀ q, SubL a (q :: b) := by
      intro a b h q
      induction a with
      | nil => trivial
      | cons p r ih => exact ⟨.tail _ h.1, ih h.2⟩
    exact this _ _ hs _
  rintro ⟨i, c⟩ u ⟨hP, hi⟩ h1 tk1 F1 N1
  dsimp only at F1 N1 hP hi ⊢
  have ho := (N1 _ (.head _)).1
  have hne : ∀ p ∈ Led i c, p.1 ≠ h.objs.size := fun p hp e => by
    have h2 := (N1 p (.tail _ hp)).1
    rw [e, ho] at h2
    exact hcls i c p hp ((Option.some.inj h2) ▸ rfl)
  have hLI := N1 _ (.head _)
  by_cases hlt : i < N
  · refine wpAny_pyNext_range_item ho (by omega) fun h' ho' hs' => ?_
    have e1 : a + ((i + 1 : Nat) : Int) * st = a + (i : Int) * st + st := by rw [Int.natCast_add, Int.add_mul]; omega
    have e2 : (N : Int) - ((i + 1 : Nat) : Int) = (N : Int) - (i : Int) - 1 := by omega
    refine ⟨h', _, _, (h.objs.size, rIt (a + ((i + 1 : Nat) : Int) * st) ((N : Int) - ((i + 1 : Nat) : Int)) st) :: Led i c, rfl, F1.change hs' hLI.2.1 hLI.2.2, fun p hp => ?_, ?_⟩
    · rcases List.mem_cons.mp hp with rfl | hp
      · rw [e1, e2]; exact ⟨ho', hLI.2⟩
      · exact ⟨(hs'.2 _ (hne p hp)).trans (N1 p (.tail _ hp)).1, (N1 p (.tail _ hp)).2⟩
    · refine ws_mono (turn i c u _ _ _ hlt hP hne) fun _ m n H => ws_mono H fun f m n q => ?_
      have fin : (∃ c', (h.objs.size, rIt (a + ((i + 1 : Nat) : Int) * st) ((N : Int) - ((i + 1 : Nat) : Int)) st) ∈ n ∧ SubL (Led (i + 1) c') n ∧ AllN m (ps (i + 1) c') ∧ P (i + 1) c') →
          LP C (fun s : Nat × σ => (h.objs.size, rIt (a + (s.1 : Int) * st) ((N : Int) - (s.1 : Int)) st) :: Led s.1 s.2) (fun s => ps s.1 s.2) (fun s => P s.1 s.2 ∧ s.1 ≤ N) (fun s => N - s.1) QF (i, c) .next m n := by
        rintro ⟨c', a1, a2, a3, a4⟩
        exact ⟨(i + 1, c'), ⟨a1, a2⟩, a3, ⟨a4, hlt⟩, by show N - (i + 1) < N - i; omega⟩
      cases f with
      | ret v => exact q
      | brk => exact q
      | next => exact fin q
      | cont => exact fin q
  · have hlt : i = N := by omega
    subst hlt
    refine wpAny_pyNext_range_end O.handled ho (by omega) fun h' hs' => ?_
    exact ⟨h', _, _, Led i c, rfl, ext_fr F1 hs' hLI.2.1 hLI.2.2, fun p hp => ⟨hs' _ _ (hne p hp) (N1 p (.tail _ hp)).1, (N1 p (.tail _ hp)).2⟩, done c u hP⟩
end
theorem ws_itT {P Q : Prop} (H : P) : if true = true then P else Q := ite_tt H
theorem ws_itF {P Q : Prop} (H : Q) : if false = true then P else Q := ite_ff H
theorem ws_ite {b : Bool} {P Q : Prop} (H1 : b = true → P) (H2 : b = false → Q) : if b = true then P else Q := PyProof.Rows.split_bool H1 H2
end Mine

namespace Mine
open PySem PySem.W PyProof.Rows PySem.Calls PyProof.V PySem.Spec
theorem lpi_brk {C : Cx} {σ : Type} {I : Addr} {o : Obj} {Ld : Nat → σ → Led} {ps : Nat → σ → List (Str × Value)} {P : Nat → σ → Prop} {Q : Flow → Loc → Led → Prop} {i : Nat} {m : Loc} {n : Led} (H : Q .next m n) : LPI C I o Ld ps P Q i .brk m n := H
theorem bitAnd_nat (a b : Nat) : Builtin.bitAnd (a : Int) (b : Int) = ((a &&& b : Nat) : Int) := rfl
theorem bitOr_nat (a b : Nat) : Builtin.bitOr (a : Int) (b : Int) = ((a ||| b : Nat) : Int) := by
  rw [bitOr_and, bitAnd_nat]
  have := nat_or_add_and a b
  omega
theorem bitXor_nat (a b : Nat) : Builtin.bitXor (a : Int) (b : Int) = ((a ^^^ b : Nat) : Int) := by
  rw [bitXor_and, bitAnd_nat]
  have h1 := nat_or_add_and a b
  have h2 := nat_or_add_and (a ^^^ b) (a &&& b)
  have h3 : (a ^^^ b) ||| (a &&& b) = a ||| b := by
    apply Nat.eq_of_testBit_eq
    intro j
    simp only [Nat.testBit_or, Nat.testBit_xor, Nat.testBit_and]
    cases a.testBit j <;> cases b.testBit j <;> rfl
  have h4 : (a ^^^ b) &&& (a &&& b) = 0 := by
    apply Nat.eq_of_testBit_eq
    intro j
    simp only [Nat.testBit_xor, Nat.testBit_and, Nat.zero_testBit]
    cases a.testBit j <;> cases b.testBit j <;> rfl
  rw [h3, h4] at h2
  omega
section
variable {C : Cx} {k : Nat} {m : Loc} {n n' : Led} {env : Env} {pos : Pos} {QV : Value → Loc → Led → Prop} {QB : Bool → Loc → Led → Prop} {QF : Flow → Loc → Led → Prop} {QU : Unit → Loc → Led → Prop} {QL : List Value → Loc → Led → Prop}
  {QM : Value × List Value → Loc → Led → Prop} {x y z : Str} {t u : Tok} {l : Addr} {vs : List Value} {ys : List Str} {pl : Sem Bool}
theorem ws_gmJoin (H : QM (.builtin "str.join", [.str x t]) m n) : WS C (getMethod (.str x t) "join" pl) QM m n := fun h tk F N => GM.join ⟨h, tk, m, n, rfl, F, N, H⟩
theorem ws_gmStrip (H : QM (.builtin "str.strip", [.str x t]) m n) : WS C (getMethod (.str x t) "strip" pl) QM m n := fun h tk F N => GM.strip ⟨h, tk, m, n, rfl, F, N, H⟩
theorem ws_join (hl : IsLst C n l vs) (hi : StrsAre vs ys) (hok : (ys.map (·.length)).sum + ys.length * x.length ≤ 16777216) (H : ∀ t, QV (.str (Txt.join x ys) t) m n) : WS C (call (.builtin "str.join") [.str x t, .ref l]) QV m n :=
  fun h tk F N => join_list (hl h m F N).1 (by simpa using hi) hok fun t' k => ⟨h, k, m, n, rfl, F, N, H t'⟩
theorem ws_strip (hz : x.length ≤ sizeLine) (H : ∀ t, QV (.str (Txt.strip x) t) m n) : WS C (call (.builtin "str.strip") [.str x t]) QV m n :=
  fun h tk F N => SCL.strip (hsz := hz) fun t' k _ => ⟨h, k, m, n, rfl, F, N, H t'⟩
theorem ws_inStr (H : QV (.bool (Txt.contains x y)) m n) : WS C (compareOp .In (.str y u) (.str x t)) QV m n := fun h tk F N => P.in_str ⟨h, tk, m, n, rfl, F, N, H⟩
theorem ws_eqS (H : QV (.bool (x.cps.toList == y.cps.toList)) m n) : WS C (compareOp .Eq (.str x t) (.str y u)) QV m n := fun h tk F N => P.eq_str ⟨h, tk, m, n, rfl, F, N, H⟩
theorem ws_neS (H : QV (.bool (x.cps.toList != y.cps.toList)) m n) : WS C (compareOp .NotEq (.str x t) (.str y u)) QV m n := fun h tk F N => P.ne_str ⟨h, tk, m, n, rfl, F, N, H⟩
theorem ws_lenS (hf : x.length < 2 ^ 62) (H : ∀ t, QV (.int x.length t) m n) : WS C (call (.builtin "len") [.str x t]) QV m n := fun h tk F N => P.len_str (by omega) ⟨h, _, m, n, rfl, F, N, H _⟩
theorem made_add {s : Shared} {Q : Value → Shared → Prop} (hz : (x ++ y).length ≤ sizeLine) (H : ∀ t tk, Q (.str (x ++ y) t) { s with toks := tk }) :
    (if x.length == 0 then Made.val (.str y u) else if y.length == 0 then Made.val (.str x t) else Made.str (x ++ y)).post Q s := by
  have e0 : ∀ z : Str, (z.length == 0) = true → z = Str.empty := fun z hz => by
    obtain ⟨c⟩ := z
    have : c.size = 0 := by simpa [Str.length] using hz
    have : c = #[] := Array.eq_empty_of_size_eq_zero this
    subst this; rfl
  split
  · rename_i h
    rw [e0 x h, Str.empty_append] at H
    exact H u s.toks
  · split
    · rename_i h
      rw [e0 y h, Str.append_empty] at H
      exact H t s.toks
    · exact ⟨hz, H _ _⟩
theorem ws_addS (hz : (x ++ y).length ≤ sizeLine) (H : ∀ t, QV (.str (x ++ y) t) m n) : WS C (binaryOp .Add (.str x t) (.str y u)) QV m n :=
  fun h tk F N => P.add_str (made_add hz fun t tk => ⟨h, tk, m, n, rfl, F, N, H t⟩)
theorem ws_iaddS (hz : (x ++ y).length ≤ sizeLine) (H : ∀ t, QV (.str (x ++ y) t) m n) : WS C (inplaceOp .Add (.str x t) (.str y u)) QV m n :=
  fun h tk F N => P.iadd_str (made_add hz fun t tk => ⟨h, tk, m, n, rfl, F, N, H t⟩)
theorem ws_hex {i : Int} (hz : (baseText "0x" 16 i).length ≤ sizeLine) (H : ∀ t, QV (.str (baseText "0x" 16 i) t) m n) : WS C (call (.builtin "hex") [.int i t]) QV m n :=
  fun h tk F N => P.hex_of_int ⟨h, _, m, n, rfl, F, N, H _⟩ hz
theorem ws_itemS {value slice : Expr} {i : Int} (hr : fitsSsize i = true) (h1 : -(x.length : Int) ≤ i) (h2 : i < x.length) (H : ∀ t, QV (.str (Txt.item x i) t) m n)
    (hs : subscripted slice false (.str x t) (.int i u) = operate [.str x t, .int i u] (getItem (.str x t) (.int i u)) := by with_unfolding_all rfl)
    (ht : ∀ r, letTemporaryGo value (.str x t) r = pure () := by intro _; with_unfolding_all rfl) : WS C (subscriptTail value slice (.str x t) (.int i u)) QV m n :=
  fun h tk F N => item_str hr h1 h2 (fun _ => ⟨h, _, m, n, rfl, F, N, H _⟩) hs ht
/-! slices of texts and lists -/
theorem ws_pn (H : QV .none m n) : WS C (evalPart none env) QV m n := fun h tk F N => evalPart_none_step ⟨h, tk, m, n, rfl, F, N, H⟩
theorem ws_ps {e : Expr} (H : WS C (eval e env) QV m n) : WS C (evalPart (some e) env) QV m n := step0 (fun _ _ => evalPart_some_step) H
/-- what a slice's bound may be -/
def Bnd : Option Int → Value → Prop
  | none, v => v = .none
  | some i, v => ∃ t, v = .int i t
theorem bnd_none : Bnd none .none := rfl
theorem bnd_int {i : Int} : Bnd (some i) (.int i t) := ⟨t, rfl⟩
end

/-! dicts of the top and of the call -/
section
variable {C : Cx} {k : Nat} {m : Loc} {n n' : Led} {QV : Value → Loc → Led → Prop} {QM : Value × List Value → Loc → Led → Prop} {x : Str} {i : Int} {t u : Tok} {d : Addr} {pl : Sem Bool}
def datS (l : List (Str × PyData)) : List (PyData × PyData) := l.map fun p => (PyData.str p.1, p.2)
def datI (l : List (Int × PyData)) : List (PyData × PyData) := l.map fun p => (PyData.int p.1, p.2)
def IsTabS (C : Cx) (n : Led) (d : Addr) (D : List (Str × PyData)) : Prop := ∀ h m, Fr C.h₀ C.L h m → News C.h₀ C.L h n → StrTab C.prog C.w h d (datS D)
def IsTabI (C : Cx) (n : Led) (d : Addr) (D : List (Int × PyData)) : Prop := ∀ h m, Fr C.h₀ C.L h m → News C.h₀ C.L h n → IntTab C.prog C.w h d (datI D)
theorem lookup_datS (x : Str) : ∀ D : List (Str × PyData), lookup (.str x) (datS D) = D.lookup x
  | [] => rfl
  | (y, v) :: D => by
    show (if Spec.same (PyData.str y) (PyData.str x) = true then some v else lookup (.str x) (datS D)) = _
    rw [lookup_datS x D, List.lookup_cons]
    by_cases h : x = y
    · subst h; simp [Spec.same]
    · have h2 : (x == y) = false := beq_eq_false_iff_ne.mpr h
      have h3 : Spec.same (PyData.str y) (PyData.str x) = false := by simpa [Spec.same] using fun e => h e.symm
      rw [h2, h3]; simp
theorem lookup_datI (x : Int) : ∀ D : List (Int × PyData), lookup (.int x) (datI D) = D.lookup x
  | [] => rfl
  | (y, v) :: D => by
    show (if Spec.same (PyData.int y) (PyData.int x) = true then some v else lookup (.int x) (datI D)) = _
    rw [lookup_datI x D, List.lookup_cons]
    by_cases h : x = y
    · subst h; simp [Spec.same]
    · have h2 : (x == y) = false := beq_eq_false_iff_ne.mpr h
      have h3 : Spec.same (PyData.int y) (PyData.int x) = false := by simpa [Spec.same] using fun e => h e.symm
      rw [h2, h3]; simp
theorem ws_inTab {D : List (Str × PyData)} (T : IsTabS C n d D) (H : QV (.bool (D.lookup x).isSome) m n) : WS C (compareOp .In (.str x t) (.ref d)) QV m n :=
  fun h tk F N => in_strTab (T h m F N) (by rw [lookup_datS]; exact ⟨h, _, m, n, rfl, F, N, H⟩)
theorem ws_notinTab {D : List (Str × PyData)} (T : IsTabS C n d D) (H : QV (.bool (!(D.lookup x).isSome)) m n) : WS C (compareOp .NotIn (.str x t) (.ref d)) QV m n :=
  fun h tk F N => notin_strTab (T h m F N) (by rw [lookup_datS]; exact ⟨h, _, m, n, rfl, F, N, H⟩)
theorem ws_itemTab {D : List (Str × PyData)} {dv : PyData} {value slice : Expr} (T : IsTabS C n d D) (hl : D.lookup x = some dv) (H : ∀ v, Flat v dv → QV v m n)
    (hs : subscripted slice false (.ref d) (.str x t) = operate [.ref d, .str x t] (getItem (.ref d) (.str x t)) := by with_unfolding_all rfl) (hg : ∀ r, letTemporaryGo value (.ref d) r = pure () := by intro _; with_unfolding_all rfl) :
    WS C (subscriptTail value slice (.ref d) (.str x t)) QV m n :=
  fun h tk F N => item_strTab (T h m F N) (by rw [lookup_datS]; exact hl) (fun v hv => ⟨h, _, m, n, rfl, F, N, H v hv⟩) hs hg
theorem ws_gmGetI {D : List (Int × PyData)} (T : IsTabI C n d D) (H : QM (.builtin "dict.get", [.ref d]) m n) : WS C (getMethod (.ref d) "get" pl) QM m n :=
  fun h tk F N => getMethod_intTab_get (T h m F N) ⟨h, tk, m, n, rfl, F, N, H⟩
theorem ws_get2I {D : List (Int × PyData)} {dflt : Value} {dd : PyData} (T : IsTabI C n d D) (hx : Flat dflt dd) (H : ∀ v, Flat v ((D.lookup i).getD dd) → QV v m n) : WS C (call (.builtin "dict.get") [.ref d, .int i t, dflt]) QV m n :=
  fun h tk F N => call_get2_intTab (T h m F N) hx (by rw [lookup_datI]; exact fun v hv => ⟨h, _, m, n, rfl, F, N, H v hv⟩)

def flagL : List (Int × PyData) := [(1, PyData.str (Str.ofString "OPTIMIZED")), (2, PyData.str (Str.ofString "NEWLOCALS")), (4, PyData.str (Str.ofString "VARARGS")), (8, PyData.str (Str.ofString "VARKEYWORDS")), (16, PyData.str (Str.ofString "NESTED")), (32, PyData.str (Str.ofString "GENERATOR")), (64, PyData.str (Str.ofString "NOFREE")), (128, PyData.str (Str.ofString "COROUTINE")), (256, PyData.str (Str.ofString "ITERABLE_COROUTINE")), (512, PyData.str (Str.ofString "ASYNC_GENERATOR"))]
def tokL : List (Str × PyData) := [((Str.ofString "!" : Str), PyData.int 54), ((Str.ofString "!=" : Str), PyData.int 28), ((Str.ofString "%" : Str), PyData.int 24), ((Str.ofString "%=" : Str), PyData.int 40), ((Str.ofString "&" : Str), PyData.int 19), ((Str.ofString "&=" : Str), PyData.int 41), ((Str.ofString "(" : Str), PyData.int 7), ((Str.ofString ")" : Str), PyData.int 8), ((Str.ofString "*" : Str), PyData.int 16), ((Str.ofString "**" : Str), PyData.int 35), ((Str.ofString "**=" : Str), PyData.int 46), ((Str.ofString "*=" : Str), PyData.int 38), ((Str.ofString "+" : Str), PyData.int 14), ((Str.ofString "+=" : Str), PyData.int 36), ((Str.ofString "," : Str), PyData.int 12), ((Str.ofString "-" : Str), PyData.int 15), ((Str.ofString "-=" : Str), PyData.int 37), ((Str.ofString "->" : Str), PyData.int 51), ((Str.ofString "." : Str), PyData.int 23), ((Str.ofString "..." : Str), PyData.int 52), ((Str.ofString "/" : Str), PyData.int 17), ((Str.ofString "//" : Str), PyData.int 47), ((Str.ofString "//=" : Str), PyData.int 48), ((Str.ofString "/=" : Str), PyData.int 39), ((Str.ofString ":" : Str), PyData.int 11), ((Str.ofString ":=" : Str), PyData.int 53), ((Str.ofString ";" : Str), PyData.int 13), ((Str.ofString "<" : Str), PyData.int 20), ((Str.ofString "<<" : Str), PyData.int 33), ((Str.ofString "<<=" : Str), PyData.int 44), ((Str.ofString "<=" : Str), PyData.int 29), ((Str.ofString "=" : Str), PyData.int 22), ((Str.ofString "==" : Str), PyData.int 27), ((Str.ofString ">" : Str), PyData.int 21), ((Str.ofString ">=" : Str), PyData.int 30), ((Str.ofString ">>" : Str), PyData.int 34), ((Str.ofString ">>=" : Str), PyData.int 45), ((Str.ofString "@" : Str), PyData.int 49), ((Str.ofString "@=" : Str), PyData.int 50), ((Str.ofString "[" : Str), PyData.int 9), ((Str.ofString "]" : Str), PyData.int 10), ((Str.ofString "^" : Str), PyData.int 32), ((Str.ofString "^=" : Str), PyData.int 43), ((Str.ofString "{" : Str), PyData.int 25), ((Str.ofString "|" : Str), PyData.int 18), ((Str.ofString "|=" : Str), PyData.int 42), ((Str.ofString "}" : Str), PyData.int 26), ((Str.ofString "~" : Str), PyData.int 31)]
theorem tab15 (O : C.Ok k) : IsTabI C n 15 flagL := fun h m F N => by
  have := kt_keyed_in (a := 15) (D := flagL) O.kin (by kernel_rfl)
  exact (this C.prog C.w).keep F.keep
theorem tab30 (O : C.Ok k) : IsTabS C n 30 tokL := fun h m F N => by
  have := kt_tab_in (a := 30) (D := tokL) C.prog C.w O.kin (by kernel_rfl) (by decide +kernel) (by kernel_rfl)
  exact this.keep F.keep
end
end Mine

namespace Mine
open PySem PySem.W PyProof.Rows PySem.Calls PyProof.V PySem.Spec
section
variable {C : Cx} {k : Nat} {m : Loc} {n n' : Led} {env : Env} {pos : Pos} {QV : Value → Loc → Led → Prop} {QB : Bool → Loc → Led → Prop} {QF : Flow → Loc → Led → Prop} {QU : Unit → Loc → Led → Prop} {QL : List Value → Loc → Led → Prop}
  {QM : Value × List Value → Loc → Led → Prop} {x y z : Str} {t u : Tok} {l : Addr} {vs ws : List Value} {ys : List Str} {pl : Sem Bool} {a b : Int}
theorem ws_shr (hb : 0 ≤ b) (H : ∀ t, QV (.int (a.fdiv (2 ^ b.toNat)) t) m n) : WS C (binaryOp .RShift (.int a t) (.int b u)) QV m n := fun h tk F N => rshift_int hb ⟨h, _, m, n, rfl, F, N, H _⟩
theorem fdiv_nat (a b : Nat) : (a : Int).fdiv (b : Int) = ((a / b : Nat) : Int) := by rw [Int.fdiv_eq_ediv_of_nonneg _ (Int.natCast_nonneg _)]; rfl
theorem fmod_nat (a b : Nat) : (a : Int).fmod (b : Int) = ((a % b : Nat) : Int) := by rw [Int.fmod_eq_emod_of_nonneg _ (Int.natCast_nonneg _)]; rfl
theorem ws_eqInts {a b : Addr} {us : List Value} {ns ms : List Int} (O : C.Ok k) (hk : 7 ≤ k) (hl : IsLst C n a vs) (hi : IntsAre vs ns) (hl' : IsLst C n b us) (hi' : IntsAre us ms) (H : QV (.bool (decide (ns = ms))) m n) : WS C (compareOp .Eq (.ref a) (.ref b)) QV m n :=
  fun h tk F N => eq_intsK (hl h m F N).1 hi (hl' h m F N).1 hi' (by have := O.units; omega) ⟨h, tk, m, n, rfl, F, N, H⟩
theorem ws_neInts {a b : Addr} {us : List Value} {ns ms : List Int} (O : C.Ok k) (hk : 7 ≤ k) (hl : IsLst C n a vs) (hi : IntsAre vs ns) (hl' : IsLst C n b us) (hi' : IntsAre us ms) (H : QV (.bool (!decide (ns = ms))) m n) : WS C (compareOp .NotEq (.ref a) (.ref b)) QV m n :=
  fun h tk F N => ne_intsK (hl h m F N).1 hi (hl' h m F N).1 hi' (by have := O.units; omega) ⟨h, tk, m, n, rfl, F, N, H⟩
open PySem.SeqAt in
theorem readsAll_strs {h : Heap} {vs : List Value} {ys : List Str} (x : StrsAre vs ys) : ReadsAll h vs (ys.map PyData.str) [] := x.reads h
open PySem.SeqAt in
theorem shaped_strs (ys : List Str) (hok : ∀ y ∈ ys, PyData.strOk y = true) : shaped (.list (ys.map PyData.str)) = true := by
  have c : ∀ ns : List Str, (∀ y ∈ ns, PyData.strOk y = true) → PyData.canLayAll0 (ns.map PyData.str) = true := by
    intro ns
    induction ns with
    | nil => simp [PyData.canLayAll0]
    | cons n r ih => intro h; simp [PyData.canLayAll0, PyData.canLay0, ih fun y hy => h y (.tail _ hy), h n (.head _)]
  have d : ∀ ns : List Str, PyData.depthAll (ns.map PyData.str) ≤ 1 := by
    intro ns
    induction ns with
    | nil => simp [PyData.depthAll]
    | cons n r ih => simp only [List.map_cons, PyData.depthAll, PyData.depth]; omega
  have h1 := d ys
  have h2 : PyData.depth (.list (ys.map PyData.str)) ≤ 64 := by simp only [PyData.depth]; omega
  show (PyData.canLay0 (.list (ys.map PyData.str)) && decide (PyData.depth (.list (ys.map PyData.str)) ≤ 64)) = true
  rw [Bool.and_eq_true]
  exact ⟨by simp only [PyData.canLay0]; exact c ys hok, decide_eq_true h2⟩
open PySem.SeqAt in
theorem ws_neNil {a b : Addr} {ys : List Str} (hok : ∀ y ∈ ys, PyData.strOk y = true) (O : C.Ok k) (hk : 7 ≤ k) (hl : IsLst C n a vs) (hi : StrsAre vs ys) (hl' : IsLst C n b []) (H : QV (.bool (!decide (ys = []))) m n) : WS C (compareOp .NotEq (.ref a) (.ref b)) QV m n := by
  intro h tk F N
  obtain ⟨o, ho, hc, q, hd⟩ := (hl h m F N).1
  obtain ⟨o', ho', hc', q', hd'⟩ := (hl' h m F N).1
  refine ne_dataH_same (Reads.list ho hc hd (by simpa using readsAll_strs hi)) (Reads.list ho' hc' hd' .nil) (shaped_strs ys hok) (shaped_strs [] fun _ h => nomatch h) (by have := O.units; omega) ?_ ?_
  · cases ys with
    | nil => simp [noMix, noMixAll]
    | cons y r => simp [noMix, noMixAll]
  · refine ⟨h, tk, m, n, rfl, F, N, ?_⟩
    cases ys with
    | nil => simpa [Spec.same, Spec.sameAll] using H
    | cons y r => simpa [Spec.same, Spec.sameAll] using H
end
end Mine

namespace Mine
open PySem PySem.W PyProof.Rows PySem.Calls PyProof.V PySem.Spec
/-- the place of a comprehension: its own locals above, what the caller may turn out of sight -/
abbrev Cx.sub (C : Cx) (h₀ : Heap) (L : Addr) : Cx := { C with E := fun _ _ => False, h₀ := h₀, L := L }
structure Below (C : Cx) (h₀ : Heap) (L : Addr) (m : Loc) : Prop where
  stays : C.h₀.StaysIn h₀
  lt : C.L < L
  fr : ∀ h, (∀ b o, h₀.get? b = some o → h.get? b = some o) → Fr C.h₀ C.L h m
  off : ∀ h n, News h₀ L h n → News C.h₀ C.L h n
theorem Below.ok {C : Cx} {h₀ : Heap} {L : Addr} {m : Loc} {k : Nat} (B : Below C h₀ L m) (O : C.Ok k) : (C.sub h₀ L).Ok k where
  kin := O.kin.keeps B.stays
  top := O.top.keeps B.stays
  handled := O.handled
  frames := O.frames
  ground := fun h m' F => O.ground h m (B.fr h F.keep)
  stays := fun b o e => B.stays _ _ (O.stays _ _ e)
  depth := O.depth
  units := O.units
theorem below_of {C : Cx} {h : Heap} {m : Loc} {n : Led} {L : Addr} (F : Fr C.h₀ C.L h m) (N : News C.h₀ C.L h n) (hL : h.objs.size ≤ L) : Below C (hideAll h (n.map (·.1))) L m := by
  have nm : ∀ b o, C.h₀.get? b = some o → b ∉ n.map (·.1) := fun b o e q => by
    obtain ⟨p, hp, rfl⟩ := List.mem_map.mp q
    rw [(N p hp).2.2] at e; cases e
  have st : C.h₀.StaysIn (hideAll h (n.map (·.1))) := fun b o e => hideAll_get _ (F.keep b o e) (nm b o e)
  have nL : C.L ∉ n.map (·.1) := fun q => by
    obtain ⟨p, hp, e⟩ := List.mem_map.mp q
    exact (N p hp).2.1 e
  have hlt : C.L < h.objs.size := F.ns.lt
  obtain ⟨oL, es, ep, hL', hLd, hLk, hLf⟩ := F.ns
  have hLg := hideAll_get (n.map (·.1)) hL' nL
  refine ⟨st, Nat.lt_of_lt_of_le hlt hL, fun h' hk => ⟨⟨oL, es, ep, hk _ _ hLg, hLd, hLk, hLf⟩, fun b o e => hk _ _ (st b o e), F.above⟩, fun h' n' N' p hp => ⟨(N' p hp).1, fun q => ?_, ?_⟩⟩
  · have := (N' p hp).2.2; rw [q, hLg] at this; cases this
  · cases q : C.h₀.get? p.1 with
    | none => rfl
    | some o => have := (N' p hp).2.2; rw [st _ _ q] at this; cases this

section
variable {C : Cx} {k : Nat} {m : Loc} {n n' : Led} {env : Env} {pos : Pos} {QV : Value → Loc → Led → Prop} {QB : Bool → Loc → Led → Prop} {QF : Flow → Loc → Led → Prop} {QU : Unit → Loc → Led → Prop} {QL : List Value → Loc → Led → Prop}
  {elt iter : Expr} {x : Str} {px : Pos} {ifs : List Expr} {scope : Scope} {cl : List (Str × Addr)}

def testsOf (ifs : List Expr) (env : Env) : Sem Bool := forIn ifs true fun c r => if r = true then do let ok ← isTrue c env (eval c env); pure (ForInStep.yield ok) else pure (ForInStep.yield r)
theorem ws_tests0 {C : Cx} {m : Loc} {n : Led} {env : Env} {QB : Bool → Loc → Led → Prop} (H : QB true m n) : WS C (testsOf [] env) QB m n := fun h tk F N => wpAny_tests_nil ⟨h, tk, m, n, rfl, F, N, H⟩
theorem ws_tests1 {C : Cx} {m : Loc} {n : Led} {env : Env} {QB : Bool → Loc → Led → Prop} {c : Expr} (H : WS C (isTrue c env (eval c env)) QB m n) : WS C (testsOf [c] env) QB m n := fun h tk F N => wpAny_tests_one (H h tk F N)

def CAt (C : Cx) (env : Env) (cl : List (Str × Addr)) (elt iter : Expr) (x : Str) (px : Pos) (ifs : List Expr) (scope : Scope) (pos : Pos) (use : Option (Value → Sem Unit)) (PQ : Value → Shared → Prop) (it : Value) (m : Loc) (n : Led) : Prop :=
  ∀ h tk, Fr C.h₀ C.L h m → News C.h₀ C.L h n →
    wpAny (model C.prog C.w) C.A (newList []) (fun acc s₃ => wpAny (model C.prog C.w) C.A (newFunctionEnv scope env.globals cl [] env.qual none .none (some env)) (fun cenv s₄ =>
        codeAny (model C.prog C.w) C.A (.compStart (.ListComp elt [⟨.Name x px, iter, ifs, 0⟩] scope pos) 0 it acc { cenv with scope := relabel scope env }) (compPost (model C.prog C.w) C.A C.E use PQ acc cenv.locals) s₄) C.E s₃) C.E ⟨h, C.g, C.d, tk, C.o⟩

/-- one turn of a comprehension -/
def Turn (C : Cx) {σ : Type} (Ld : σ → Led) (ys : σ → List Value) (P : σ → Prop) (μ : σ → Nat) (Fin : List Value → Addr → Nat → Led → Prop) (elt : Expr) (x : Str) (ifs : List Expr) (cenv : Env) (D : Addr) (cnt : Nat) (c : σ) (o : Option Value) (mm : Loc) (nn : Led) : Prop :=
  match o with
  | none => ∃ nf, (∀ p ∈ ((D, listOf (ys c).toArray cnt) :: nf), p ∈ nn) ∧ Fin (ys c) D cnt nf
  | some v => WS C (storeName cenv x v) (fun _ mm nn => WS C (testsOf ifs cenv) (fun b mm nn =>
      if b = true then WS C (eval elt cenv) (fun y mm nn => ∃ c', (D, listOf (ys c).toArray cnt) ∈ nn ∧ SubL (Ld c') nn ∧ ys c' = ys c ++ [y] ∧ P c' ∧ μ c' < μ c) mm nn
      else ∃ c', (D, listOf (ys c).toArray cnt) ∈ nn ∧ SubL (Ld c') nn ∧ ys c' = ys c ∧ P c' ∧ μ c' < μ c) mm nn) mm nn

/-- the loop of a comprehension -/
theorem cat_loop {σ : Type} {use : Option (Value → Sem Unit)} {PQ : Value → Shared → Prop} {I : Addr} (Ld : σ → Led) (ys : σ → List Value) (P : σ → Prop) (μ : σ → Nat) (c₀ : σ) (Fin : List Value → Addr → Nat → Led → Prop) (O : C.Ok k)
    (hn : ∀ p ∈ Ld c₀, p ∈ n) (hys : ys c₀ = []) (hP0 : P c₀) (hsz : ∀ c, P c → (ys c).length ≤ sizeLine) (hoff : ∀ D c, AllLt D n → P c → ∀ p ∈ Ld c, p.1 ≠ D)
    (hself : ∀ (s : Shared) (Q : Value → Shared → Prop) (E : Value → Shared → Prop), (∀ p ∈ Ld c₀, s.heap.get? p.1 = some p.2) → Q (.ref I) s → wpAny (model C.prog C.w) C.A (pyIter (.ref I)) Q E s)
    (hcell : ∀ y ∈ scope.names, y.2 ≠ .cell) (hkind : scope.kind = .function) (hx : scope.names.lookup x = some .local)
    (hfin : ∀ vs D cnt nf h tk L, Fin vs D cnt nf → C.L < L → Fr C.h₀ C.L h m → News C.h₀ C.L h ((D, listOf vs.toArray cnt) :: nf) → (∃ mm, h.Ns L mm) → (∀ p ∈ ((D, listOf vs.toArray cnt) :: nf), p.1 ≠ L) → C.h₀.get? L = none →
      compPost (model C.prog C.w) C.A C.E use PQ (.ref D) L (.ok .next) ⟨h, C.g, C.d, tk, C.o⟩)
    (turn : ∀ h₀ L, Below C h₀ L m → (C.sub h₀ L).Ok k → ∀ D cnt c u, C.L < D → AllLt D n → D < L → P c →
      WS (C.sub h₀ L) (pyNext (.ref I)) (Turn (C.sub h₀ L) Ld ys P μ Fin elt x ifs (compEnvC scope cl L env) D cnt c) u ((D, listOf (ys c).toArray cnt) :: Ld c)) :
    CAt C env cl elt iter x px ifs scope pos use PQ (.ref I) m n := by
  intro h tk F N
  refine wpAny_newObj_type (wpAny_newFunctionEnv hcell (by intro y hy; simp at hy) (fun h₁ hns₁ hsb₁ => ?_) hkind)
  dsimp only at hns₁ hsb₁ ⊢
  generalize hH2 : h.push { cls := .type "list", dict := none, data := .seq ([] : List Value).toArray } = H2 at hns₁ hsb₁ ⊢
  have hC : H2.objs.size = h.objs.size + 1 := by rw [← hH2, Heap.size_push]
  have old : ∀ b o, h.get? b = some o → h₁.get? b = some o := fun b o e => hsb₁.extBut b o (by rw [hC]; exact Nat.ne_of_lt (Nat.lt_succ_of_lt (Heap.lt_size e))) (Heap.get?_push_of_some _ (hH2 ▸ Heap.get?_push_of_some _ e))
  have hDC : h.objs.size ≠ H2.objs.size := by rw [hC]; exact Nat.ne_of_lt (Nat.lt_succ_self _)
  have hacc : h₁.get? h.objs.size = some (listOf ([] : List Value).toArray 0) := hsb₁.extBut _ _ hDC (Heap.get?_push_of_some _ (hH2 ▸ Heap.get?_push_size _ rfl))
  have hLe : h.objs.size ≤ H2.objs.size := by rw [hC]; exact Nat.le_succ _
  have B := below_of F N hLe
  have hsub := B.ok O
  have F₁ : Fr (hideAll h (n.map (·.1))) H2.objs.size h₁ _ := ⟨hns₁, fun b o e => old b o (of_hideAll _ e), by rw [hideAll_size]; exact hLe⟩
  have N₁ : News (hideAll h (n.map (·.1))) H2.objs.size h₁ ((h.objs.size, listOf ([] : List Value).toArray 0) :: n) := by
    intro p hp
    rcases List.mem_cons.mp hp with rfl | hp
    · refine ⟨hacc, hDC, ?_⟩
      cases q : (hideAll h (n.map (·.1))).get? h.objs.size with
      | none => rfl
      | some o => exact absurd (Heap.lt_size (of_hideAll _ q)) (Nat.lt_irrefl _)
    · exact ⟨old _ _ (N p hp).1, Nat.ne_of_lt (Nat.lt_of_lt_of_le (Heap.lt_size (N p hp).1) hLe), hideAll_none _ (List.mem_map_of_mem hp)⟩
  have hAll : AllLt h.objs.size n := allLt_new N (Nat.le_refl _)
  have hnone : C.h₀.get? H2.objs.size = none := by
    cases q : C.h₀.get? H2.objs.size with
    | none => rfl
    | some o =>
      have h1 : H2.objs.size < h.objs.size := Heap.lt_size (F.keep _ _ q)
      exact absurd h1 (Nat.not_lt.mpr hLe)
  generalize hideAll h (n.map (·.1)) = h₀' at B hsub F₁ N₁
  have loop : ∀ tk, codeAny (model C.prog C.w) C.A (.compLoop (.ListComp elt [⟨.Name x px, iter, ifs, 0⟩] scope pos) 0 (.ref I) (.ref h.objs.size) (compEnvC scope cl H2.objs.size env))
      (compPost (model C.prog C.w) C.A C.E use PQ (.ref h.objs.size) H2.objs.size) ⟨h₁, C.g, C.d, tk, C.o⟩ := by
    intro tk
    refine codeAny_compLoop_tests (fun k s' => ∃ c cnt h' tk mm, s' = ⟨h', C.g, C.d, tk, C.o⟩ ∧ Fr h₀' H2.objs.size h' mm ∧ News h₀' H2.objs.size h' ((h.objs.size, listOf (ys c).toArray cnt) :: Ld c) ∧ P c ∧ μ c = k) ?_ (μ c₀)
      ⟨c₀, 0, h₁, tk, _, rfl, F₁, fun p hp => N₁ p (by
        rw [hys] at hp
        rcases List.mem_cons.mp hp with rfl | hp
        · exact .head _
        · exact .tail _ (hn p hp)), hP0, rfl⟩
    rintro _ _ ⟨c, cnt, h', tk, mm, rfl, F', N', hP, rfl⟩
    refine wpAny_mono (turn h₀' H2.objs.size B hsub h.objs.size cnt c mm F.ns.lt hAll (by rw [hC]; exact Nat.lt_succ_self _) hP h' tk F' N') (fun o s₁ p => ?_) fun _ _ x => x.elim
    obtain ⟨g, tk, mm, nn, rfl, F₂, N₂, H⟩ := p
    cases o with
    | none =>
      obtain ⟨nf, hnf, hF⟩ := H
      have N3 := B.off _ _ (fun p hp => N₂ p (hnf p hp))
      exact hfin _ _ _ _ _ _ _ hF B.lt (B.fr _ F₂.keep) N3 ⟨_, F₂.ns⟩ (fun p hp => (N₂ p (hnf p hp)).2.1) hnone
    | some v =>
      refine wpAny_assign_Name (wpAny_mono (H g tk F₂ N₂) (fun _ s₂ p => ?_) fun _ _ x => x.elim)
      obtain ⟨g, tk, mm, nn, rfl, F₂, N₂, H⟩ := p
      refine wpAny_mono (H g tk F₂ N₂) (fun b s₂ p => ?_) fun _ _ x => x.elim
      obtain ⟨g, tk, mm, nn, rfl, F₂, N₂, H⟩ := p
      cases b with
      | false =>
        simp only [Bool.false_eq_true, if_false] at H ⊢
        obtain ⟨c', a1, a2, a3, a4, a5⟩ := H
        refine ⟨_, a5, c', cnt, g, tk, mm, rfl, F₂, fun p hp => N₂ p ?_, a4, rfl⟩
        rcases List.mem_cons.mp hp with rfl | hp
        · rw [a3]; exact a1
        · exact a2.mem p hp
      | true =>
        simp only [if_true] at H ⊢
        refine wpAny_mono (H g tk F₂ N₂) (fun y s₃ p => ?_) fun _ _ x => x.elim
        obtain ⟨g, tk, mm, nn, rfl, F₂, N₂, c', a1, a2, a3, a4, a5⟩ := p
        have hD := N₂ _ a1
        have hsz' : (ys c).length ≤ sizeLine := hsz c hP
        have N3 : News h₀' H2.objs.size g ((h.objs.size, listOf (ys c).toArray cnt) :: Ld c') := fun p hp => by
          rcases List.mem_cons.mp hp with e | hp
          · rw [e]; exact hD
          · exact N₂ p (a2.mem p hp)
        refine append_K (n := cnt) (hsz := hsz') F₂ N3 (.head fun p hp => hoff _ c' hAll a4 p hp) fun h₅ F₅ N₅ => ?_
        refine ⟨_, a5, c', cnt + 1, h₅, tk, mm, rfl, F₅, ?_, a4, rfl⟩
        rw [a3]
        have e : (ys c ++ [y]).toArray = (ys c).toArray.push y := by simp
        rw [e]
        exact N₅
  exact codeAny_compStart_list (loop _) (hself _ _ _ (fun p hp => (N₁ p (.tail _ (hn p hp))).1) (loop _))

theorem allLt_mem {d : Addr} : ∀ {l : Led}, AllLt d l → ∀ p ∈ l, p.1 < d
  | [], _, _, h => nomatch h
  | _ :: _, x, p, h => by
    rcases List.mem_cons.mp h with rfl | h
    · exact x.1
    · exact allLt_mem x.2 p h
theorem subL_of : ∀ {l all : Led}, (∀ p ∈ l, p ∈ all) → SubL l all
  | [], _, _ => trivial
  | _ :: _, _, h => ⟨h _ (.head _), subL_of fun p hp => h p (.tail _ hp)⟩
/-! what walks an iterator -/
structure Steps (C : Cx) (I : Addr) (rest : Led) (cnt : Nat) (P : Nat → Value → Prop) (LS : Nat → Obj → Prop) : Prop where
  item : ∀ i o m r (QO : Option Value → Loc → Led → Prop), i < cnt → LS i o → (∀ p ∈ rest, p ∈ r) → (∀ p ∈ r, p.1 ≠ I) → (∀ v o', P i v → LS (i + 1) o' → QO (some v) m ((I, o') :: r)) → WS C (pyNext (.ref I)) QO m ((I, o) :: r)
  done : ∀ o m r (QO : Option Value → Loc → Led → Prop), LS cnt o → (∀ p ∈ rest, p ∈ r) → (∀ p ∈ r, p.1 ≠ I) → QO none m r → WS C (pyNext (.ref I)) QO m ((I, o) :: r)
theorem steps_of {C : Cx} {I : Addr} {rest : Led} {cnt : Nat} {P : Nat → Value → Prop} {LS : Nat → Obj → Prop} {fp : List Addr} {St : Nat → Heap → Prop} (W : Walks C.prog C.w C.A I fp [I] cnt P St)
    (hin : ∀ i o h m, LS i o → h.get? I = some o → Fr C.h₀ C.L h m → News C.h₀ C.L h rest → St i h) (hout : ∀ i h, St i h → ∃ o, h.get? I = some o ∧ LS i o) : Steps C I rest cnt P LS where
  item := fun i o m r QO hi hls hr hoff hQ h tk F N => by
    have hI := N _ (.head _)
    refine W.item i ⟨h, C.g, C.d, tk, C.o⟩ _ _ hi (hin i o h m hls hI.1 F fun p hp => N p (.tail _ (hr p hp))) fun v h' tk' hv hst hk => ?_
    obtain ⟨o', ho', hls'⟩ := hout _ _ hst
    have hk' : ∀ b o, b ≠ I → h.get? b = some o → h'.get? b = some o := fun b o hb e => hk b o (by simpa using hb) e
    refine ⟨h', tk', m, (I, o') :: r, rfl, ext_fr F (fun b o hb e => hk' b o hb e) hI.2.1 hI.2.2, fun p hp => ?_, hQ v o' hv hls'⟩
    rcases List.mem_cons.mp hp with rfl | hp
    · exact ⟨ho', hI.2⟩
    · exact ⟨hk' _ _ (hoff p hp) (N p (.tail _ hp)).1, (N p (.tail _ hp)).2⟩
  done := fun o m r QO hls hr hoff hQ h tk F N => by
    have hI := N _ (.head _)
    refine W.done ⟨h, C.g, C.d, tk, C.o⟩ _ _ (hin cnt o h m hls hI.1 F fun p hp => N p (.tail _ (hr p hp))) fun h' tk' hk => ?_
    have hk' : ∀ b o, b ≠ I → h.get? b = some o → h'.get? b = some o := fun b o hb e => hk b o (by simpa using hb) e
    exact ⟨h', tk', m, r, rfl, ext_fr F (fun b o hb e => hk' b o hb e) hI.2.1 hI.2.2, fun p hp => ⟨hk' _ _ (hoff p hp) (N p (.tail _ hp)).1, (N p (.tail _ hp)).2⟩, hQ⟩

/-- the end of a comprehension: the list is there -/
def Fins (C : Cx) (use : Option (Value → Sem Unit)) (PQ : Value → Shared → Prop) (m : Loc) (G : Value → Led → Prop) : Prop :=
  ∀ vs D cnt nf h tk L, G (.ref D) ((D, listOf vs cnt) :: nf) → C.L < L → Fr C.h₀ C.L h m → News C.h₀ C.L h ((D, listOf vs cnt) :: nf) → (∃ mm, h.Ns L mm) → (∀ p ∈ ((D, listOf vs cnt) :: nf), p.1 ≠ L) → C.h₀.get? L = none →
      compPost (model C.prog C.w) C.A C.E use PQ (.ref D) L (.ok .next) ⟨h, C.g, C.d, tk, C.o⟩
theorem fins_none : Fins C none (Post C QV) m (fun v n => QV v m n) := by
  intro vs D cnt nf h tk L hG hL F N hns hoff hn
  obtain ⟨mm, hns⟩ := hns
  exact ⟨mm, hns, fun h' hs => ⟨h', tk, m, _, rfl, F.change hs (Nat.ne_of_gt hL) hn, fun p hp => ⟨(hs.2 _ (hoff p hp)).trans (N p hp).1, (N p hp).2⟩, hG⟩⟩
theorem fins_assign {y : Str} {py : Pos} (hL : env.locals = C.L) (hy : env.kindOf y = some .local) (hp : (env.scope.kind == .class || (env.scope.kind == .module && env.locals != env.globals)) = false) :
    Fins C (some (assign (.Name y py) env)) (fun _ s => Post C QF .next s) m (fun v n => QF .next (fun z => if z = y then some v else m z) n) := by
  intro vs D cnt nf h tk L hG hLt F N hns hoff hn
  obtain ⟨mm, hns⟩ := hns
  show wpAny _ _ (assign (.Name y py) env (.ref D)) _ _ _
  refine wpAny_assign_Name (wpAny_storeName_local hy (hL ▸ F.ns) (fun h' hn' hs' => ?_) hp)
  have F' := F.set (hL ▸ hn') (hL ▸ hs')
  have N' := N.set (hL ▸ hs')
  have hns' : h'.Ns L mm := hns.sameBut (hL ▸ hs') (Nat.ne_of_gt hLt)
  refine ⟨mm, hns', fun h'' hs => ?_⟩
  exact ⟨h'', _, _, _, rfl, F'.change hs (Nat.ne_of_gt hLt) hn, fun p hp => ⟨(hs.2 _ (hoff p hp)).trans (N' p hp).1, (N' p hp).2⟩, hG⟩

theorem ws_lc {elt iter : Expr} {x : Str} {px : Pos} {ifs : List Expr} {scope : Scope} {cl : List (Str × Addr)} (hclos : closureFor scope env = pure cl) (hkind : scope.kind = .function) (hnames : ∀ y ∈ scope.names, y.2 = .local → scope.names.lookup y.1 = some .local)
    (H : WS C (eval iter env) (fun xv m n => WS C (pyIter xv) (CAt C env cl elt iter x px ifs scope pos none (Post C QV)) m n) m n)
    (hs : ∀ x, foldedSetIterable iter env x = pure x := by intro _; k_dflt rfl) : WS C (eval (.ListComp elt [⟨.Name x px, iter, ifs, 0⟩] scope pos) env) QV m n := by
  intro h tk F N
  rw [eval_ListComp]
  refine wpAny_comprehension_free (use := none) rfl hs hclos hkind hnames (wpAny_mono (H h tk F N) (fun xv s₁ p => ?_) fun _ _ e => e)
  obtain ⟨h, tk, m, n, rfl, F, N, H⟩ := p
  refine wpAny_mono (H h tk F N) (fun it s₂ p => ?_) fun _ _ e => e
  obtain ⟨h, tk, m, n, rfl, F, N, H⟩ := p
  exact H h tk F N
theorem ws_assignLc {elt iter : Expr} {x y : Str} {px py spos : Pos} {ifs : List Expr} {scope : Scope} {cl : List (Str × Addr)} (hclos : closureFor scope env = pure cl) (hkind : scope.kind = .function) (hnames : ∀ y ∈ scope.names, y.2 = .local → scope.names.lookup y.1 = some .local)
    (H : WS C (eval iter env) (fun xv m n => WS C (pyIter xv) (CAt C env cl elt iter x px ifs scope pos (some (assign (.Name y py) env)) (fun _ s => Post C QF .next s)) m n) m n)
    (hsw : swapsWith (.ListComp elt [⟨.Name x px, iter, ifs, 0⟩] scope pos) (some (.Name y py)) spos.line env = pure true := by k_dflt rfl)
    (hs : ∀ x, foldedSetIterable iter env x = pure x := by intro _; k_dflt rfl) : WS C (exec (.Assign [.Name y py] (.ListComp elt [⟨.Name x px, iter, ifs, 0⟩] scope pos) spos) env) QF m n := by
  intro h tk F N
  rw [exec_Assign_Name_used _ _ _ _ hsw]
  refine wpAny_bind (wpAny_standAt (wpAny_bind ?_))
  show wpAny _ C.A (do let _ ← comprehension (.ListComp elt [⟨.Name x px, iter, ifs, 0⟩] scope pos) scope env _ (newList []) false (eval iter env) (some (assign (.Name y py) env))) _ _ _
  refine wpAny_bind (wpAny_mono (wpAny_comprehension_free (use := some (assign (.Name y py) env)) (Q := fun _ s' => Post C QF .next s') rfl hs hclos hkind hnames
    (wpAny_mono (H h tk F N) (fun xv s₁ p => ?_) fun _ _ e => e)) (fun _ s' hq => wpAny_pure (wpAny_pure hq)) fun _ _ e => e)
  obtain ⟨h, tk, m, n, rfl, F, N, H⟩ := p
  refine wpAny_mono (H h tk F N) (fun it s₂ p => ?_) fun _ _ e => e
  obtain ⟨h, tk, m, n, rfl, F, N, H⟩ := p
  exact H h tk F N

/-- a comprehension over what walks -/
theorem cat_steps {use : Option (Value → Sem Unit)} {PQ : Value → Shared → Prop} {I : Addr} {o₀ : Obj} {rest : Led} {cnt : Nat} {P : Nat → Value → Prop} {LS : Nat → Obj → Prop} {G : Value → Led → Prop} (Pys : Nat → List Value → Prop) (O : C.Ok k)
    (hF : Fins C use PQ m G) (hls : LS 0 o₀) (hoffI : ∀ p ∈ rest, p.1 ≠ I) (h0 : Pys 0 []) (hsz : cnt ≤ sizeLine) (S : ∀ h₀ L, Below C h₀ L m → Steps (C.sub h₀ L) I rest cnt P LS)
    (hself : ∀ (s : Shared) (Q : Value → Shared → Prop) (E : Value → Shared → Prop), s.heap.get? I = some o₀ → Q (.ref I) s → wpAny (model C.prog C.w) C.A (pyIter (.ref I)) Q E s)
    (hcell : ∀ y ∈ scope.names, y.2 ≠ .cell) (hkind : scope.kind = .function) (hx : scope.names.lookup x = some .local)
    (turn : ∀ h₀ L, Below C h₀ L m → (C.sub h₀ L).Ok k → ∀ D cn i o ys v u, AllLt D ((I, o) :: rest) → D < L → i < cnt → P i v → Pys i ys →
      WS (C.sub h₀ L) (storeName (compEnvC scope cl L env) x v) (fun _ mm nn => WS (C.sub h₀ L) (testsOf ifs (compEnvC scope cl L env)) (fun b mm nn =>
      if b = true then WS (C.sub h₀ L) (eval elt (compEnvC scope cl L env)) (fun y mm nn => (∀ p ∈ ((I, o) :: (D, listOf ys.toArray cn) :: rest), p ∈ nn) ∧ Pys (i + 1) (ys ++ [y])) mm nn
      else (∀ p ∈ ((I, o) :: (D, listOf ys.toArray cn) :: rest), p ∈ nn) ∧ Pys (i + 1) ys) mm nn) u ((I, o) :: (D, listOf ys.toArray cn) :: rest))
    (done : ∀ ys D cn, C.L < D → AllLt D rest → D ≠ I → Pys cnt ys → G (.ref D) ((D, listOf ys.toArray cn) :: rest)) :
    CAt C env cl elt iter x px ifs scope pos use PQ (.ref I) m ((I, o₀) :: rest) := by
  refine cat_loop (σ := Nat × Obj × List Value) (fun c => (I, c.2.1) :: rest) (fun c => c.2.2) (fun c => c.1 ≤ cnt ∧ LS c.1 c.2.1 ∧ Pys c.1 c.2.2 ∧ c.2.2.length ≤ c.1) (fun c => cnt - c.1) (0, o₀, []) (fun vs D cn nf => G (.ref D) ((D, listOf vs.toArray cn) :: nf)) O
    (fun _ h => h) rfl ⟨Nat.zero_le _, hls, h0, Nat.le_refl _⟩ (fun c h => by have h1 := h.1; have h2 := h.2.2.2; exact Nat.le_trans h2 (Nat.le_trans h1 hsz)) (fun D c h1 _ p hp => ?_) (fun s Q E h q => hself s Q E (h _ (.head _)) q) hcell hkind hx
    (fun vs D cnt nf h tk L hG hL F N hns hoff hn => hF vs.toArray D cnt nf h tk L hG hL F N hns hoff hn) ?_
  · have a := allLt_mem h1
    rcases List.mem_cons.mp hp with e | hp
    · rw [e]; exact Nat.ne_of_lt (a (I, o₀) (.head _))
    · exact Nat.ne_of_lt (a p (.tail _ hp))
  rintro h₀ L B hOk D cn ⟨i, o, ys⟩ u hCD hlt hDL ⟨hi, hls', hys, hlen⟩
  dsimp only at hi hls' hys hlen ⊢
  have a := allLt_mem hlt
  have hDI : D ≠ I := Nat.ne_of_gt (a (I, o₀) (.head _))
  have hoffr : ∀ p ∈ ((D, listOf ys.toArray cn) :: rest), p.1 ≠ I := fun p hp => by
    rcases List.mem_cons.mp hp with e | hp
    · rw [e]; exact hDI
    · exact hoffI p hp
  refine ws_sub (n' := (I, o) :: (D, listOf ys.toArray cn) :: rest) ?_ (fun p hp => by
    rcases List.mem_cons.mp hp with rfl | hp
    · exact .tail _ (.head _)
    · rcases List.mem_cons.mp hp with rfl | hp
      · exact .head _
      · exact .tail _ (.tail _ hp))
  by_cases hlt' : i < cnt
  · refine (S h₀ L B).item i o u _ _ hlt' hls' (fun p hp => .tail _ hp) hoffr fun v o' hv hls2 => ?_
    refine ws_mono (turn h₀ L B hOk D cn i o' ys v u ?_ hDL hlt' hv hys) fun _ mm nn H => ws_mono H fun b mm nn H => ?_
    · refine allLt_of fun p hp => ?_
      rcases List.mem_cons.mp hp with e | hp
      · rw [e]; exact a (I, o₀) (.head _)
      · exact a p (.tail _ hp)
    · cases b with
      | false =>
        simp only [Bool.false_eq_true, if_false] at H ⊢
        exact ⟨(i + 1, o', ys), H.1 _ (.tail _ (.head _)), subL_of fun p hp => by
          rcases List.mem_cons.mp hp with e | hp
          · rw [e]; exact H.1 _ (.head _)
          · exact H.1 _ (.tail _ (.tail _ hp)), rfl, ⟨hlt', hls2, H.2, Nat.le_succ_of_le hlen⟩, by show cnt - (i + 1) < cnt - i; omega⟩
      | true =>
        simp only [if_true] at H ⊢
        refine ws_mono H fun y mm nn H => ?_
        exact ⟨(i + 1, o', ys ++ [y]), H.1 _ (.tail _ (.head _)), subL_of fun p hp => by
          rcases List.mem_cons.mp hp with e | hp
          · rw [e]; exact H.1 _ (.head _)
          · exact H.1 _ (.tail _ (.tail _ hp)), rfl, ⟨hlt', hls2, H.2, by show (ys ++ [y]).length ≤ i + 1; rw [List.length_append, List.length_singleton]; omega⟩, by show cnt - (i + 1) < cnt - i; omega⟩
  · have hic : i = cnt := by omega
    subst hic
    refine (S h₀ L B).done o u _ _ hls' (fun p hp => .tail _ hp) hoffr ?_
    exact ⟨rest, fun p hp => hp, done ys D cn hCD (allLt_of fun p hp => a p (.tail _ hp)) hDI hys⟩

/-- a list that stands, in the ledger or below, told so that it can be carried on -/
def Lst (C : Cx) (n : Led) (l : Addr) (vs : List Value) : Prop := (∃ c, (l, listOf vs.toArray c) ∈ n) ∨ ∃ c, C.h₀.get? l = some (listOf vs.toArray c)
theorem Lst.is {C : Cx} {n : Led} {l : Addr} {vs : List Value} (h : Lst C n l vs) : IsLst C n l vs := by
  rcases h with ⟨c, h⟩ | ⟨c, h⟩
  · exact isLst_mem h
  · exact isLst_base h
theorem Lst.sub {C : Cx} {n n' : Led} {l : Addr} {vs : List Value} {h₀ : Heap} {L : Addr} {m : Loc} (h : Lst C n l vs) (B : Below C h₀ L m) (hn : ∀ p ∈ n, p ∈ n') : Lst (C.sub h₀ L) n' l vs := by
  rcases h with ⟨c, h⟩ | ⟨c, h⟩
  · exact .inl ⟨c, hn _ h⟩
  · exact .inr ⟨c, B.stays _ _ h⟩
theorem Lst.mono {C : Cx} {n n' : Led} {l : Addr} {vs : List Value} (h : Lst C n l vs) (hn : ∀ p ∈ n, p ∈ n') : Lst C n' l vs := by
  rcases h with ⟨c, h⟩ | ⟨c, h⟩
  · exact .inl ⟨c, hn _ h⟩
  · exact .inr ⟨c, h⟩
theorem Lst.ne {C : Cx} {n : Led} {l : Addr} {vs : List Value} (h : Lst C n l vs) {h' : Heap} {m : Loc} (F : Fr C.h₀ C.L h' m) (N : News C.h₀ C.L h' n) : l < h'.objs.size := by
  rcases h with ⟨c, h⟩ | ⟨c, h⟩
  · exact Heap.lt_size (N _ h).1
  · exact Heap.lt_size (F.keep _ _ h)
theorem stepsL {C : Cx} {I l : Addr} {rest : Led} {vs : List Value} (hh : C.A.handled = none) (hne : l ≠ I) (hl : Lst C rest l vs) : Steps C I rest vs.length (fun i v => vs[i]? = some v) (fun i o => LI l i o) := by
  have W := Walks.list (prog := C.prog) (w := C.w) hh I l hne vs.toArray
  have W' : Walks C.prog C.w C.A I [I, l] [I] vs.length (fun i v => vs[i]? = some v) (fun i h => h.IsListIter I l i ∧ h.IsList l vs.toArray) := by
    simpa using W
  exact steps_of W' (fun i o h m hi ho F N => ⟨⟨o, ho, hi.1, hi.2⟩, (hl.is h m F N).1⟩) fun i h st => let ⟨o, ho, a, b⟩ := st.1; ⟨o, ho, a, b⟩
theorem stepsR {C : Cx} {I : Addr} {rest : Led} {a st : Int} {cnt : Nat} (hh : C.A.handled = none) : Steps C I rest cnt (fun i v => ∃ t, v = .int (a + (i : Int) * st) t) (fun i o => o = rIt (a + (i : Int) * st) ((cnt : Int) - (i : Int)) st) :=
  steps_of (Walks.range hh I a st cnt) (fun i o h m hi ho F N => by subst hi; exact ho) fun i h st => ⟨_, st, rfl⟩

theorem cat_list {use : Option (Value → Sem Unit)} {PQ : Value → Shared → Prop} {l : Addr} (vs : List Value) {G : Value → Led → Prop} (Pys : Nat → List Value → Prop) (O : C.Ok k)
    (hl : Lst C n l vs) (hF : Fins C use PQ m G) (h0 : Pys 0 []) (hsz : vs.length ≤ sizeLine)
    (hcell : ∀ y ∈ scope.names, y.2 ≠ .cell) (hkind : scope.kind = .function) (hx : scope.names.lookup x = some .local)
    (turn : ∀ h₀ L, Below C h₀ L m → (C.sub h₀ L).Ok k → ∀ D cn i I o ys v u, AllLt D ((I, o) :: n) → D < L → vs[i]? = some v → Pys i ys →
      WS (C.sub h₀ L) (storeName (compEnvC scope cl L env) x v) (fun _ mm nn => WS (C.sub h₀ L) (testsOf ifs (compEnvC scope cl L env)) (fun b mm nn =>
      if b = true then WS (C.sub h₀ L) (eval elt (compEnvC scope cl L env)) (fun y mm nn => (∀ p ∈ ((I, o) :: (D, listOf ys.toArray cn) :: n), p ∈ nn) ∧ Pys (i + 1) (ys ++ [y])) mm nn
      else (∀ p ∈ ((I, o) :: (D, listOf ys.toArray cn) :: n), p ∈ nn) ∧ Pys (i + 1) ys) mm nn) u ((I, o) :: (D, listOf ys.toArray cn) :: n))
    (done : ∀ ys D cn, C.L < D → AllLt D n → Pys vs.length ys → G (.ref D) ((D, listOf ys.toArray cn) :: n)) :
    WS C (pyIter (.ref l)) (CAt C env cl elt iter x px ifs scope pos use PQ) m n := by
  intro h tk F N
  refine wpAny_pyIter_list (hl.is h m F N).1 ⟨_, _, m, (_ :: n), rfl, F.push _, N.push F _, ?_⟩
  have hne : l ≠ h.objs.size := Nat.ne_of_lt (hl.ne F N)
  exact cat_steps Pys O hF (LS := fun i o => LI l i o) ⟨rfl, rfl⟩ (fun p hp => Nat.ne_of_lt (Heap.lt_size (N p hp).1)) h0 hsz (fun h₀ L B => stepsL (C := C.sub h₀ L) O.handled hne (hl.sub B fun _ h => h)) (fun s Q E ho q => wpAny_pyIter_listiter (l := l) (i := 0) ⟨_, ho, rfl, rfl⟩ q)
    hcell hkind hx (fun h₀ L B hOk D cn i o ys v u a1 a2 _ a4 a5 => turn h₀ L B hOk D cn i _ o ys v u a1 a2 a4 a5) fun ys D cn a0 a1 _ a3 => done ys D cn a0 a1 a3
theorem cat_range {use : Option (Value → Sem Unit)} {PQ : Value → Shared → Prop} {l : Addr} {a b st : Int} {t u v : Tok} (cnt : Nat) {G : Value → Led → Prop} (Pys : Nat → List Value → Prop) (O : C.Ok k)
    (hm : (l, rObj a b st t u v) ∈ n) (hsm : Builtin.Range.small a b st = true) (hN : Builtin.Range.rangeSize a b st = (cnt : Int)) (hF : Fins C use PQ m G) (h0 : Pys 0 []) (hsz : cnt ≤ sizeLine)
    (hcell : ∀ y ∈ scope.names, y.2 ≠ .cell) (hkind : scope.kind = .function) (hx : scope.names.lookup x = some .local)
    (turn : ∀ h₀ L, Below C h₀ L m → (C.sub h₀ L).Ok k → ∀ D cn i I o ys t u, AllLt D ((I, o) :: n) → D < L → i < cnt → Pys i ys →
      WS (C.sub h₀ L) (storeName (compEnvC scope cl L env) x (.int (a + (i : Int) * st) t)) (fun _ mm nn => WS (C.sub h₀ L) (testsOf ifs (compEnvC scope cl L env)) (fun b mm nn =>
      if b = true then WS (C.sub h₀ L) (eval elt (compEnvC scope cl L env)) (fun y mm nn => (∀ p ∈ ((I, o) :: (D, listOf ys.toArray cn) :: n), p ∈ nn) ∧ Pys (i + 1) (ys ++ [y])) mm nn
      else (∀ p ∈ ((I, o) :: (D, listOf ys.toArray cn) :: n), p ∈ nn) ∧ Pys (i + 1) ys) mm nn) u ((I, o) :: (D, listOf ys.toArray cn) :: n))
    (done : ∀ ys D cn, C.L < D → AllLt D n → Pys cnt ys → G (.ref D) ((D, listOf ys.toArray cn) :: n)) :
    WS C (pyIter (.ref l)) (CAt C env cl elt iter x px ifs scope pos use PQ) m n := by
  intro h tk F N
  refine wpAny_pyIter_range (N _ hm).1 hsm ⟨_, _, m, (_ :: n), rfl, F.push _, N.push F _, ?_⟩
  rw [hN]
  exact cat_steps Pys O hF (LS := fun i o => o = rIt (a + (i : Int) * st) ((cnt : Int) - (i : Int)) st) (by simp) (fun p hp => Nat.ne_of_lt (Heap.lt_size (N p hp).1)) h0 hsz (fun h₀ L B => stepsR (C := C.sub h₀ L) O.handled) (fun s Q E ho q => wpAny_pyIter_rangeiter ho q)
    hcell hkind hx (fun h₀ L B hOk D cn i o ys v u a1 a2 a3 ⟨t, e⟩ a5 => e ▸ turn h₀ L B hOk D cn i _ o ys t u a1 a2 a3 a5) fun ys D cn a0 a1 _ a3 => done ys D cn a0 a1 a3
theorem cat_str {use : Option (Value → Sem Unit)} {PQ : Value → Shared → Prop} {z : Str} {tz : Tok} {G : Value → Led → Prop} (Pys : Nat → List Value → Prop) (O : C.Ok k)
    (hF : Fins C use PQ m G) (h0 : Pys 0 []) (hsz : z.length ≤ sizeLine)
    (hcell : ∀ y ∈ scope.names, y.2 ≠ .cell) (hkind : scope.kind = .function) (hx : scope.names.lookup x = some .local)
    (turn : ∀ h₀ L, Below C h₀ L m → (C.sub h₀ L).Ok k → ∀ D cn i I o ys c t u, AllLt D ((I, o) :: n) → D < L → z.cps[i]? = some c → Pys i ys →
      WS (C.sub h₀ L) (storeName (compEnvC scope cl L env) x (.str ⟨#[c]⟩ t)) (fun _ mm nn => WS (C.sub h₀ L) (testsOf ifs (compEnvC scope cl L env)) (fun b mm nn =>
      if b = true then WS (C.sub h₀ L) (eval elt (compEnvC scope cl L env)) (fun y mm nn => (∀ p ∈ ((I, o) :: (D, listOf ys.toArray cn) :: n), p ∈ nn) ∧ Pys (i + 1) (ys ++ [y])) mm nn
      else (∀ p ∈ ((I, o) :: (D, listOf ys.toArray cn) :: n), p ∈ nn) ∧ Pys (i + 1) ys) mm nn) u ((I, o) :: (D, listOf ys.toArray cn) :: n))
    (done : ∀ ys D cn, C.L < D → AllLt D n → Pys z.length ys → G (.ref D) ((D, listOf ys.toArray cn) :: n)) :
    WS C (pyIter (.str z tz)) (CAt C env cl elt iter x px ifs scope pos use PQ) m n := by
  intro h tk F N
  have go : ∀ ty, (Walks C.prog C.w C.A h.objs.size [h.objs.size] [h.objs.size] z.cps.size (SignAt z) (fun i h' => h'.IsStrIter h.objs.size ty z tz i)) →
      CAt C env cl elt iter x px ifs scope pos use PQ (.ref h.objs.size) m ((h.objs.size, { cls := .type ty, data := .fields #[.str z tz, .int 0 0] }) :: n) := by
    intro ty hW
    refine cat_steps Pys O hF (P := SignAt z) (LS := fun i o => o.cls = .type ty ∧ o.data = .fields #[.str z tz, .int i 0]) ⟨rfl, rfl⟩ (fun p hp => Nat.ne_of_lt (Heap.lt_size (N p hp).1)) h0 hsz
      (fun h₀ L B => steps_of hW (fun i o g m hls ho F N => ⟨o, ho, hls⟩) fun i g st => let ⟨o, ho, a⟩ := st; ⟨o, ho, a⟩) (fun s Q E ho q => hW.self 0 s Q E ⟨_, ho, rfl, rfl⟩ q)
      hcell hkind hx (fun h₀ L B hOk D cn i o ys v u a1 a2 a3 ⟨c, t, hc, e⟩ a5 => e ▸ turn h₀ L B hOk D cn i _ o ys c t u a1 a2 hc a5) fun ys D cn a0 a1 _ a3 => done ys D cn a0 a1 a3
  cases ha : z.cps.all (· < 128)
  · refine wpAny_pyIter_wide ha ⟨_, _, m, (_ :: n), rfl, F.push _, N.push F _, go "str_iterator" <| Walks.strWide O.handled _ z tz⟩
  · refine wpAny_pyIter_ascii ha ⟨_, _, m, (_ :: n), rfl, F.push _, N.push F _, go "str_ascii_iterator" <| Walks.strAscii O.handled _ z tz⟩
end
end Mine

namespace Mine
open PySem PySem.W PyProof.Rows PySem.Calls PyProof.V PySem.Spec
def hasL (l : Addr) (vs : List Value) (h : Heap) : Prop := ∃ c, h.get? l = some (listOf vs.toArray c)
theorem lst_base {C : Cx} {n : Led} {l : Addr} {vs : List Value} (h : hasL l vs C.h₀) : Lst C n l vs := .inr h
theorem lst_mem {C : Cx} {n : Led} {l : Addr} {vs : List Value} {c : Nat} (h : (l, listOf vs.toArray c) ∈ n) : Lst C n l vs := .inl ⟨c, h⟩
/-- a list that stands is a list that a callee may read -/
theorem Lst.has {C : Cx} {n : Led} {l : Addr} {vs : List Value} (H : Lst C n l vs) : ∀ h m, Fr C.h₀ C.L h m → News C.h₀ C.L h n → hasL l vs h := fun h m F N => by
  rcases H with ⟨c, h⟩ | ⟨c, h⟩
  · exact ⟨c, (N _ h).1⟩
  · exact ⟨c, F.keep _ _ h⟩
/-- a cell that holds v -/
abbrev cellX (o : Obj) (v : Option Value) : Obj := { o with data := .cell v }
theorem cellX_of {o : Obj} {v : Option Value} (h : o.data = .cell v) : o = cellX o v := by
  cases o; cases h; rfl
section
variable {C : Cx} {k : Nat} {m : Loc} {n n' : Led} {env : Env} {pos : Pos} {QV : Value → Loc → Led → Prop} {QU : Unit → Loc → Led → Prop} {x : Str} {c : Addr} {o : Obj} {v : Value} {v₀ : Option Value}
theorem ws_cell (hc : env.cells.lookup x = some c) (hm : (c, cellX o (some v)) ∈ n) (H : QV v m n) (hk : env.scope.kind = .function := by k_dflt rfl) (hl : env.kindOf x = some .cell := by k_dflt rfl) (hd : (x == ("__debug__" : Str)) = false := by decide) :
    WS C (eval (.Name x pos) env) QV m n := fun h tk F N => wpAny_Name (wpAny_loadName_cell hk hl hc ⟨_, (N _ hm).1, rfl⟩ ⟨h, tk, m, n, rfl, F, N, H⟩) hd
theorem ws_loadc (hc : env.cells.lookup x = some c) (hm : (c, cellX o (some v)) ∈ n) (H : QV v m n) (hk : env.scope.kind = .function := by k_dflt rfl) (hl : env.kindOf x = some .cell := by k_dflt rfl) :
    WS C (loadName env x) QV m n := fun h tk F N => wpAny_loadName_cell hk hl hc ⟨_, (N _ hm).1, rfl⟩ ⟨h, tk, m, n, rfl, F, N, H⟩
theorem ws_storec (hc : env.cells.lookup x = some c) (U : Upd c (cellX o v₀) (cellX o (some v)) n n') (H : QU () m n') (hk : env.scope.kind = .function := by k_dflt rfl) (hl : env.kindOf x = some .cell := by k_dflt rfl) :
    WS C (storeName env x v) QU m n := by
  intro h tk F N
  have hI := N _ (upd_mem U)
  unfold storeName
  simp only [hl, hk]
  refine wpAny_bind (wpAny_cellOf hc ?_)
  unfold cellSet
  refine wpAny_bind (wpAny_load hI.1 ?_)
  dsimp only
  have hs : Heap.SameBut c h (h.update c fun o => { o with data := .cell (some v) }) := Heap.SameBut.update ..
  exact wpAny_update hI.1 ⟨_, tk, m, n', rfl, F.change hs hI.2.1 hI.2.2, upd_news U N hs (Heap.get?_update_self (o := cellX o v₀) (fun o => { o with data := .cell (some v) }) hI.1 rfl), H⟩
end
section
variable {prog : Program} {w : World} {mean : ExcName → Option Value} {mg mb : Loc} {f : Addr} {vs : List Value} {k : Nat} {pre : Heap → Prop} {ret : Rel}
  {name qual : Str} {params : Arguments} {body : List Stmt} {scope : Scope} {dV kV doc pm cdv ct oc : Value} {an od : Option Addr} {osl : Array (Option Value)} {names : List Str}
/-- the way into the body of a def with cells -/
theorem fn_ofC (ho : (Mine.th.heap_1_1 w.params).lookup f = some ⟨oc, od, .func (fnOf name qual params body scope dV kV doc pm an cdv ct), osl⟩) (hcd : codeIn (Mine.th.heap_1_1 w.params) cdv qual = true)
    (hnm : params.args.map (·.arg) = names)
    (hbind : bindArgs (fnOf name qual params body scope dV kV doc pm an cdv ct) ⟨vs, []⟩ = pure (names.zip vs))
    (hkind : ∀ n, ∀ y ∈ names.zip vs, scope.names.lookup y.1 = some .local ∨ (scope.names.lookup y.1 = some .cell ∧ ((cellsFrom n scope.names []).lookup y.1).isSome = true))
    (hnd : ((cellsFrom 0 scope.names []).map (·.1)).Nodup)
    (hco : scope.isCoroutine = false) (hgen : scope.isGenerator = false) (hk : scope.kind = .function)
    (H : ∀ C : Cx, C.prog = prog → C.w = w → C.mean = mean → C.mg = mg → C.mb = mb → C.Ok k → PassesOwn (model C.prog C.w) C.A (envOfC qual scope C.L f cdv) C.E → pre C.h₀ →
      ∀ cells, CellsAre (bindC (envOfC qual scope C.L f cdv).kindOf (names.zip vs) fun _ => none) (cellsFrom (C.L + 1) scope.names []) cells →
      WS C (execs body (envOfC qual scope C.L f cdv)) (fun fl m n => ∀ h, Fr C.h₀ C.L h m → News C.h₀ C.L h n → ret C.h₀ h (match fl with | .ret v => v | _ => .none)) (bindL (envOfC qual scope C.L f cdv).kindOf (names.zip vs) fun _ => none) cells) :
    Fn prog w mean mg mb f vs (k + 1) pre ret := by
  intro A base frames s Q E X T hh hfr hff hst hd hu hp hret
  refine wpAny_call ?_
  refine codeAny_call_function (by omega) (X _ _ ho) rfl hco hgen rfl (codeRec_of X hcd) (BindsTo.of_eq hbind _ _ _ _ ?_)
  refine wpAny_newFunctionEnv_cells hk (hkind _) fun env' he s' x => ?_
  subst he
  refine ⟨T.nolimit.keeps x.toInCall.keep, codeAny_func ?_⟩
  obtain ⟨h₁, tk, rfl, _⟩ := x.done
  have hk₁ := x.toInCall.keep
  obtain ⟨cells, NC, Y⟩ := Cl.news (h₀ := s.heap) (Nat.le_refl _) fun n c hm => ⟨x.cell n c (lookup_of_mem_nodup (cellsFrom_names scope.names 0 (s.heap.objs.size + 1) [] [] rfl ▸ hnd) hm), x.above n c hm⟩
  have F₁ : Fr s.heap s.heap.objs.size h₁ (bindL (envOfC qual scope s.heap.objs.size f cdv).kindOf (names.zip vs) fun _ => none) := ⟨x.toInCall.ns, hk₁, Nat.le_refl _⟩
  have hnew : base.get? s.heap.objs.size = none := hst.fresh
  let C : Cx := ⟨prog, w, mean, mg, mb, A.deeper (envOfC qual scope s.heap.objs.size f cdv),
    (fun e s' => wpAny (model prog w) (A.deeper (envOfC qual scope s.heap.objs.size f cdv)) (leaving (envOfC qual scope s.heap.objs.size f cdv) e) (fun _ s'' => E e s'') (fun e' s'' => E e' s'') s'),
    s.heap, s.heap.objs.size, s.gens, s.drawn, s.os, base, envOfC qual scope s.heap.objs.size f cdv :: frames⟩
  have O : C.Ok k := by
    refine ⟨X, T, hh, Around.frames_deeper hfr, fun h m F => ?_, hst, ?_, ?_⟩
    · exact .cons (by show scope.kind ≠ .module; rw [hk]; decide) rfl F.ns hnew (hff.of_keeps fun b o e _ => ⟨o, F.keep b o e, rfl⟩)
    · show A.depth + 1 + k < _; omega
    · show A.units + 3 + 10 * k < _; omega
  have := H C rfl rfl rfl rfl rfl O PassesOwn.leaving hp cells Y h₁ tk F₁ NC
  refine wpAny_mono this (fun fl s' p => ?_) fun _ _ x => x
  obtain ⟨h', tk', m', n', rfl, F', N', q⟩ := p
  exact hret _ h' tk' F'.keep (q h' F' N')
end
end Mine

namespace Mine
open PySem PySem.W PyProof.Rows PySem.Calls PyProof.V PySem.Spec
section
variable {C : Cx} {k : Nat} {m : Loc} {n n' : Led} {env : Env} {pos : Pos} {QV : Value → Loc → Led → Prop} {QF : Flow → Loc → Led → Prop}
def FAtT (C : Cx) (env : Env) (xi xv : Str) (pi pv pt : Pos) (x1 : Nat) (body orelse : List Stmt) (Q : Flow → Loc → Led → Prop) (it : Value) (m : Loc) (n : Led) : Prop :=
  ∀ h tk, Fr C.h₀ C.L h m → News C.h₀ C.L h n →
    codeAny (model C.prog C.w) C.A (.forLoop (.Tuple [.Name xi pi, .Name xv pv] x1 pt) it body orelse env) (fun r s' => match r with | .ok f => Post C Q f s' | .error e => cameBackBy (model C.prog C.w) C.A env C.E e s') ⟨h, C.g, C.d, tk, C.o⟩
theorem ws_forT {xi xv : Str} {pi pv pt : Pos} {x1 : Nat} {iter : Expr} {body orelse : List Stmt} (H : WS C (eval iter env) (fun xv' m n => WS C (pyIter xv') (fun it m n => FAtT C env xi xv pi pv pt x1 body orelse QF it m n) m n) m n)
    (hs : ∀ x, foldedSetIterable iter env x = pure x := by intro _; k_dflt rfl) : WS C (exec (.For (.Tuple [.Name xi pi, .Name xv pv] x1 pt) iter body orelse pos) env) QF m n :=
  fun h tk F N => wpAny_For (wpAny_mono (H h tk F N) (fun a s p => by
    obtain ⟨h, tk, m, n, rfl, F, N, H⟩ := p
    exact wpAny_mono (H h tk F N) (fun it s p => by
      obtain ⟨h, tk, m, n, rfl, F, N, H⟩ := p
      exact H h tk F N) fun _ _ x => x) fun _ _ x => x) hs
/-- the end of a turn of a loop over two -/
def LPE (C : Cx) {σ : Type} (e it : Addr) (oe oi : Obj) (Led : Nat → σ → Led) (ps : Nat → σ → List (Str × Value)) (P : Nat → σ → Prop) (Q : Flow → Loc → Mine.Led → Prop) (i : Nat) (f : Flow) (m : Loc) (n : Mine.Led) : Prop :=
  match f with
  | .ret v => Q (.ret v) m n
  | .brk => Q .next m n
  | _ => ∃ c', (e, oe) ∈ n ∧ (it, oi) ∈ n ∧ SubL (Led i c') n ∧ AllN m (ps i c') ∧ P i c'
/-- a loop over what enumerate gives -/
theorem ws_loopE {σ : Type} {xi xv : Str} {pi pv pt : Pos} {x1 : Nat} {body orelse : List Stmt} {e it : Addr} {oe₀ oi₀ : Obj} {fp : List Addr} {cnt : Nat} {St : Nat → Heap → Prop} {Mid : Nat → Addr → Heap → Prop} {Pv : Nat → Value → Prop}
    (W : WalksT C.prog C.w C.A e fp [e, it] cnt (fun i vals => ∃ t x, Pv i x ∧ vals = #[.int i t, x]) St Mid)
    (LS : Nat → Obj → Obj → Prop)
    (Led : Nat → σ → Led) (ps : Nat → σ → List (Str × Value)) (P : Nat → σ → Prop) (c₀ : σ) (O : C.Ok k) (hE : PassesOwn (model C.prog C.w) C.A env C.E)
    (hin : ∀ i oe oi h m c, LS i oe oi → P i c → h.get? e = some oe → h.get? it = some oi → Fr C.h₀ C.L h m → News C.h₀ C.L h (Led i c) → St i h)
    (hout : ∀ i h, St i h → ∃ oe oi, h.get? e = some oe ∧ h.get? it = some oi ∧ LS i oe oi)
    (hoff : ∀ i c, P i c → ∀ p ∈ Led i c, p.1 ≠ e ∧ p.1 ≠ it)
    (hls : LS 0 oe₀ oi₀) (hme : (e, oe₀) ∈ n) (hmi : (it, oi₀) ∈ n) (hs : SubL (Led 0 c₀) n) (hn : AllN m (ps 0 c₀)) (hp : P 0 c₀)
    (turn : ∀ i c u oe oi t v, i < cnt → Pv i v → P i c → WS C (storeName env xi (.int i t)) (fun _ m n => WS C (storeName env xv v) (fun _ m n => WS C (execs body env) (LPE C e it oe oi Led ps P QF (i + 1)) m n) m n) (kstB u (ps i c)) ((e, oe) :: (it, oi) :: Led i c))
    (done : ∀ c u, P cnt c → WS C (execs orelse env) QF (kstB u (ps cnt c)) (Led cnt c)) :
    FAtT C env xi xv pi pv pt x1 body orelse QF (.ref e) m n := by
  intro h tk F N
  refine codeAny_forLoop_any (R := fun r s' => match r with | .ok f => Post C QF f s' | .error e => cameBackBy (model C.prog C.w) C.A env C.E e s')
    (fun k s' => ∃ i c oe oi h' tk m', s' = ⟨h', C.g, C.d, tk, C.o⟩ ∧ Fr C.h₀ C.L h' m' ∧ News C.h₀ C.L h' ((e, oe) :: (it, oi) :: Led i c) ∧ LS i oe oi ∧ AllN m' (ps i c) ∧ P i c ∧ i ≤ cnt ∧ cnt - i = k) ?_ (cnt - 0)
    ⟨0, c₀, oe₀, oi₀, h, tk, m, rfl, F, fun p hp => ?first, hls, hn, hp, Nat.zero_le _, rfl⟩
  case first =>
    rcases List.mem_cons.mp hp with rfl | hp
    · exact N _ hme
    · rcases List.mem_cons.mp hp with rfl | hp
      · exact N _ hmi
      · exact N _ (hs.mem p hp)
  rintro k s' ⟨i, c, oe, oi, H, tk, m', rfl, F', N', hl', hn', hP, hi, rfl⟩
  have hIe := N' _ (.head _)
  have hIi := N' _ (.tail _ (.head _))
  have NL : News C.h₀ C.L H (Led i c) := fun p hp => N' p (.tail _ (.tail _ hp))
  have hst := hin i oe oi H m' c hl' hP hIe.1 hIi.1 F' NL
  rw [← allN_kstB hn'] at F'
  have keepF : ∀ {h' : Heap} {mm : Loc} {hh : Heap}, Fr C.h₀ C.L hh mm → (∀ b o, b ∉ [e, it] → hh.get? b = some o → h'.get? b = some o) → Fr C.h₀ C.L h' mm := fun {h' mm hh} F hk =>
    ⟨F.ns.at' fun o x => hk _ o (by simp; exact ⟨Ne.symm hIe.2.1, Ne.symm hIi.2.1⟩) x, fun b o x => hk b o (by
      simp only [List.mem_cons, List.not_mem_nil, or_false, not_or]
      constructor
      · rintro rfl; rw [hIe.2.2] at x; cases x
      · rintro rfl; rw [hIi.2.2] at x; cases x) (F.keep b o x), F.above⟩
  have keepN : ∀ {h' hh : Heap} {r : Mine.Led}, (∀ p ∈ r, p.1 ≠ e ∧ p.1 ≠ it) → News C.h₀ C.L hh r → (∀ b o, b ∉ [e, it] → hh.get? b = some o → h'.get? b = some o) → News C.h₀ C.L h' r := fun {h' hh r} ho N hk p hp =>
    ⟨hk _ _ (by simp; exact ho p hp) (N p hp).1, (N p hp).2⟩
  by_cases hlt : i < cnt
  · refine W.item i _ _ _ hlt hst fun T vals h1 tk1 hv hTs hT hM hk1 => ?_
    obtain ⟨t, x, hx, rfl⟩ := hv
    have F1 := keepF F' hk1
    have N1 := keepN (hoff i c hP) NL hk1
    have hTe := W.apart _ _ _ hM
    refine W.go _ _ _ i T _ _ _ hM fun h2 hst2 hk2 => ?_
    have F2 := keepF F1 hk2
    have N2 := keepN (hoff i c hP) N1 hk2
    have hT2 : h2.IsTuple T #[.int i t, x] := by
      obtain ⟨o, ho, r⟩ := hT
      exact ⟨o, hk2 T o hTe ho, r⟩
    refine wpAny_assign_Tuple O.handled hT2 rfl rfl fun h3 hx3 => ?_
    obtain ⟨oe', oi', he', hi', hls'⟩ := hout _ _ hst2
    have hx3' : ∀ b o, h2.get? b = some o → h3.get? b = some o := fun b o y => hx3 b o (Nat.ne_of_lt (Heap.lt_size y)) y
    have F3 : Fr C.h₀ C.L h3 (kstB m' (ps i c)) := F2.keeps hx3'
    have N3 : News C.h₀ C.L h3 ((e, oe') :: (it, oi') :: Led i c) := fun p hp => by
      rcases List.mem_cons.mp hp with rfl | hp
      · exact ⟨hx3' _ _ he', hIe.2⟩
      · rcases List.mem_cons.mp hp with rfl | hp
        · exact ⟨hx3' _ _ hi', hIi.2⟩
        · exact ⟨hx3' _ _ (N2 p hp).1, (N2 p hp).2⟩
    show wpAny _ C.A (do holding [x] (assign (.Name xi pi) env (.int i t)); do holding [] (assign (.Name xv pv) env x); pure ()) _ _ _
    refine wpAny_bind (wpAny_holding (wpAny_assign_Name (wpAny_mono (turn i c m' oe' oi' t x hlt hx hP h3 _ F3 N3) (fun a s₃ p => ?_) hE)))
    obtain ⟨h, tk, m, n, rfl, F, N, H⟩ := p
    refine wpAny_bind (wpAny_holding (wpAny_assign_Name (wpAny_mono (H h tk F N) (fun a s₃ p => wpAny_pure ?_) hE)))
    obtain ⟨h, tk, m, n, rfl, F, N, H⟩ := p
    refine wpAny_mono (H h tk F N) (fun f s₄ q => ?_) hE
    obtain ⟨h, tk, m, n, rfl, F, N, H⟩ := q
    have fin : (∃ c', (e, oe') ∈ n ∧ (it, oi') ∈ n ∧ SubL (Led (i + 1) c') n ∧ AllN m (ps (i + 1) c') ∧ P (i + 1) c') → ∃ j, j < cnt - i ∧ ∃ i_1 c oe oi h' tk_1 m', (⟨h, C.g, C.d, tk, C.o⟩ : Shared) = ⟨h', C.g, C.d, tk_1, C.o⟩ ∧ Fr C.h₀ C.L h' m' ∧ News C.h₀ C.L h' ((e, oe) :: (it, oi) :: Led i_1 c) ∧ LS i_1 oe oi ∧ AllN m' (ps i_1 c) ∧ P i_1 c ∧ i_1 ≤ cnt ∧ cnt - i_1 = j := by
      rintro ⟨c', b1, b2, b3, b4, b5⟩
      refine ⟨cnt - (i + 1), by omega, i + 1, c', oe', oi', h, tk, m, rfl, F, fun p hp => ?_, hls', b4, b5, hlt, rfl⟩
      rcases List.mem_cons.mp hp with rfl | hp
      · exact N _ b1
      · rcases List.mem_cons.mp hp with rfl | hp
        · exact N _ b2
        · exact N _ (b3.mem p hp)
    cases f with
    | ret v => exact ⟨h, tk, m, n, rfl, F, N, H⟩
    | brk => exact ⟨h, tk, m, n, rfl, F, N, H⟩
    | next => exact fin H
    | cont => exact fin H
  · have hic : i = cnt := by omega
    subst hic
    refine W.done _ _ _ hst fun h1 tk1 hk1 => ?_
    exact wpAny_mono (done c m' hP h1 tk1 (keepF F' hk1) (keepN (hoff i c hP) NL hk1)) (fun f s₃ q => q) hE

/-- enumerate over a list -/
theorem ws_enumL {σ : Type} {xi xv : Str} {pi pv pt : Pos} {x1 : Nat} {body orelse : List Stmt} {l : Addr} (vs : List Value) (Led : Nat → σ → Led) (ps : Nat → σ → List (Str × Value)) (P : Nat → σ → Prop) (c₀ : σ) (O : C.Ok k) (hE : PassesOwn (model C.prog C.w) C.A env C.E)
    (hl0 : Lst C n l vs) (hl : ∀ i c, P i c → Lst C (Led i c) l vs) (hoff : ∀ e, AllLt e n → ∀ i c, P i c → ∀ p ∈ Led i c, p.1 < e) (hs : SubL (Led 0 c₀) n) (hn : AllN m (ps 0 c₀)) (hp : P 0 c₀)
    (turn : ∀ e it i c u oe oi t v, AllLt it n → it < e → vs[i]? = some v → P i c → WS C (storeName env xi (.int i t)) (fun _ m n => WS C (storeName env xv v) (fun _ m n => WS C (execs body env) (LPE C e it oe oi Led ps P QF (i + 1)) m n) m n) (kstB u (ps i c)) ((e, oe) :: (it, oi) :: Led i c))
    (done : ∀ c u, P vs.length c → WS C (execs orelse env) QF (kstB u (ps vs.length c)) (Led vs.length c)) :
    WS C (call (.type "enumerate") [.ref l]) (fun xv' m n => WS C (pyIter xv') (fun it m n => FAtT C env xi xv pi pv pt x1 body orelse QF it m n) m n) m n := by
  intro h tk F N
  have hlt := hl0.ne F N
  refine call_enumerate_list (hl0.is h m F N).1 fun h' he hi hsz hk => ?_
  have hF' := F.keeps hk
  have fresh : ∀ a, h.objs.size ≤ a → a ≠ C.L ∧ C.h₀.get? a = none := fun a ha => not_in_of F ha
  obtain ⟨oi₀, hoi, hoi1, hoi2⟩ := hi
  have N' : News C.h₀ C.L h' ((h.objs.size + 1, _) :: (h.objs.size, oi₀) :: n) := fun p hp => by
    rcases List.mem_cons.mp hp with e | hp
    · rw [e]; exact ⟨he, fresh _ (Nat.le_succ _)⟩
    · rcases List.mem_cons.mp hp with e | hp
      · rw [e]; exact ⟨hoi, fresh _ (Nat.le_refl _)⟩
      · exact N.grown hk p hp
  refine ⟨h', tk, m, _, rfl, hF', N', ?_⟩
  intro h2 tk2 F2 N2
  refine wpAny_pyIter_enum (N2 _ (.head _)).1 ⟨h2, tk2, m, _, rfl, F2, N2, ?_⟩
  have a1 : AllLt h.objs.size n := allLt_new N (Nat.le_refl _)
  have W := WalksT.enumerate (prog := C.prog) (w := C.w) O.handled (h.objs.size + 1) h.objs.size l (Nat.succ_ne_self _) (Nat.ne_of_lt (Nat.lt_succ_of_lt hlt)) (Nat.ne_of_lt hlt) vs.toArray
  have W' : WalksT C.prog C.w C.A (h.objs.size + 1) [h.objs.size + 1, h.objs.size, l] [h.objs.size + 1, h.objs.size] vs.length (fun i vals => ∃ t x, vs[i]? = some x ∧ vals = #[.int i t, x])
      (fun i h' => (∃ old, IsEnum h' (h.objs.size + 1) h.objs.size i old) ∧ h'.IsListIter h.objs.size l i ∧ h'.IsList l vs.toArray)
      (fun i T h' => (∃ x, IsEnumOut h' (h.objs.size + 1) h.objs.size ((i : Int) + 1) x T) ∧ h'.IsListIter h.objs.size l (i + 1) ∧ h'.IsList l vs.toArray ∧ T ≠ h.objs.size + 1 ∧ T ≠ h.objs.size) := by
    simpa using W
  refine ws_loopE W' (fun i oe oi => (∃ old, oe = { cls := .type "enumerate", dict := none, data := .fields #[.none, .bool false, .ref h.objs.size, rawInt i, .none, old], slots := #[] }) ∧ LI l i oi) Led ps P c₀ O hE
    ?_ ?_ (fun i c hP p hp => ?_) ⟨⟨_, rfl⟩, hoi1, hoi2⟩ (.head _) (.tail _ (.head _)) (subL_of fun p hp => .tail _ (.tail _ (hs.mem p hp))) hn hp (fun i c u oe oi t v hi hv hP => turn _ _ i c u oe oi t v a1 (Nat.lt_succ_self _) hv hP) done
  · rintro i oe oi g mm c ⟨⟨old, rfl⟩, b1, b2⟩ hP g1 g2 Fg Ng
    exact ⟨⟨old, g1⟩, ⟨oi, g2, b1, b2⟩, ((hl i c hP).is g mm Fg Ng).1⟩
  · rintro i g ⟨⟨old, g1⟩, ⟨oi, g2, b1, b2⟩, _⟩
    exact ⟨_, oi, g1, g2, ⟨old, rfl⟩, b1, b2⟩
  · have := hoff h.objs.size a1 i c hP p hp
    exact ⟨Nat.ne_of_lt (Nat.lt_succ_of_lt this), Nat.ne_of_lt this⟩
end
end Mine

namespace Mine
open PySem PySem.W PyProof.Rows PySem.Calls PyProof.V PySem.Spec
section
variable {C : Cx} {k : Nat} {m : Loc} {n n' : Led} {env : Env} {pos : Pos} {QV : Value → Loc → Led → Prop} {QB : Bool → Loc → Led → Prop} {QF : Flow → Loc → Led → Prop} {QU : Unit → Loc → Led → Prop}
  {D a b : Addr} {vs us : List Value} {c : Nat} {i : Int} {t u : Tok} {x y : Value}
theorem ws_setAt (U : Upd D (listOf vs.toArray c) (listOf (vs.set i.toNat x).toArray c) n n') (h0 : 0 ≤ i) (h1 : i < vs.length) (hf : i < 2 ^ 63) (H : QU () m n') : WS C (setItem (.ref D) (.int i t) x) QU m n := by
  intro h tk F N
  obtain ⟨pre, post, rfl, rfl, a, b⟩ := U.split
  have z := N (D, listOf vs.toArray c) (List.mem_append.mpr (.inr (.head _)))
  have hs : i < (vs.toArray.size : Int) := by clear hf N z F; simpa using h1
  refine ki_setAt z.1 h0 hf hs ⟨_, _, m, _, rfl, F.change (Heap.SameBut.update ..) z.2.1 z.2.2, ki_turn _ N a b ?_ ?_, H⟩
  · show vs.toArray.setIfInBounds i.toNat x = (vs.set i.toNat x).toArray
    apply Array.toList_inj.mp
    simp
  · simp
theorem ws_getL (hl : IsLst C n D vs) (h0 : 0 ≤ i) (hf : i < 2 ^ 63) (hx : vs[i.toNat]? = some x) (H : QV x m n) : WS C (getItem (.ref D) (.int i t)) QV m n :=
  fun h tk F N => wpAny_getItem_list (hl h m F N).1 h0 hf (by simpa using hx) ⟨h, tk, m, n, rfl, F, N, H⟩
theorem ws_out {α : Type} {t : Sem α} {Q : α → Loc → Led → Prop} {R : α → Shared → Prop} (H : WS C t Q m n) (k : ∀ a h tk m n, Fr C.h₀ C.L h m → News C.h₀ C.L h n → Q a m n → R a ⟨h, C.g, C.d, tk, C.o⟩) (h : Heap) (tk : Nat) (F : Fr C.h₀ C.L h m) (N : News C.h₀ C.L h n) :
    wpAny (model C.prog C.w) C.A t R C.E ⟨h, C.g, C.d, tk, C.o⟩ := wpAny_mono (H h tk F N) (fun a s p => by
    obtain ⟨h, tk, m, n, rfl, F, N, H⟩ := p
    exact k a h tk m n F N H) fun _ _ x => x
theorem ws_augsub {o i value : Expr} {tpos : Pos} {op : Operator} (H : WS C (eval o env) (fun ov m n => WS C (eval i env) (fun iv m n => WS C (getItem ov iv) (fun old m n => WS C (eval value env) (fun v m n => WS C (inplaceOp op old v) (fun new m n => WS C (setItem ov iv new) (fun _ => QF .next) m n) m n) m n) m n) m n) m n)
    (hi : ∀ ov iv new, augStore i ov iv new = (do holding [new, ov, iv] (setItem ov iv new); release [new, ov, iv] []; pure .next) := by intros; k_dflt rfl) : WS C (exec (.AugAssign (.Subscript o i tpos) op value pos) env) QF m n :=
  fun h tk F N => wpAny_AugAssign_SubscriptAny (ws_out H (fun _ _ _ _ _ F N H => ws_out H (fun _ _ _ _ _ F N H => ws_out H (fun _ _ _ _ _ F N H => ws_out H (fun _ _ _ _ _ F N H => ws_out H (fun _ _ _ _ _ F N H => ws_out H (fun _ _ _ _ _ F N H => ⟨_, _, _, _, rfl, F, N, H⟩) _ _ F N) _ _ F N) _ _ F N) _ _ F N) _ _ F N) _ _ F N) hi
/-- a slice of a list or of a text -/
def SliceGo (C : Cx) (QV : Value → Loc → Led → Prop) (ov lv hv : Value) (m : Loc) (n : Led) : Prop :=
  (∃ l, ∃ vs : List Value, ∃ i j, ov = .ref l ∧ (∀ h m, Fr C.h₀ C.L h m → News C.h₀ C.L h n → h.IsList l vs.toArray) ∧ IsPart lv i ∧ IsPart hv j ∧ vs.length ≤ sizeLine ∧ ∀ D, C.L < D → AllLt D n → QV (.ref D) m ((D, listOf (slicePick vs.toArray i j none).toList.toArray 0) :: n)) ∨
  ∃ x t i j, ov = .str x t ∧ Bnd i lv ∧ Bnd j hv ∧ x.length ≤ sizeLine ∧ ∀ t', QV (.str (Txt.slice x i j) t') m n
theorem ws_slice {value : Expr} {lo hi : Option Expr} {p : Pos}
    (H : WS C (eval value env) (fun ov m n => WS C (evalPart lo env) (fun lv m n => WS C (evalPart hi env) (fun hv m n => SliceGo C QV ov lv hv m n) m n) m n) m n)
    (hs : ∀ (s : Shared) l, subscripted (.Slice lo hi none p) false (.ref l) (.ref s.heap.objs.size) = operate [.ref s.heap.objs.size, .ref l] (getItem (.ref l) (.ref s.heap.objs.size)) := by intros; k_dflt rfl)
    (ht : ∀ l r, letTemporaryGo value (.ref l) r = pure () := by intros; k_dflt rfl)
    (hs2 : ∀ s : Shared, ∀ x t, subscripted (.Slice lo hi none p) false (.str x t) (.ref s.heap.objs.size) = operate [.ref s.heap.objs.size, .str x t] (getItem (.str x t) (.ref s.heap.objs.size)) := by intros; k_dflt rfl)
    (ht2 : ∀ x t r, letTemporaryGo value (.str x t) r = pure () := by intros; k_dflt rfl) :
    WS C (eval (.Subscript value (.Slice lo hi none p) pos) env) QV m n := by
  intro h tk F N
  refine Subscript_ (wpAny_mono (H h tk F N) (fun ov s q => wpAny_Slice (wpAny_mono (post_ws (a := ov) q) (fun lv s q => wpAny_mono (post_ws (a := lv) q) (fun hv s q => ?_) fun _ _ x => x) fun _ _ x => x)) fun _ _ x => x)
  obtain ⟨h, tk, m, n, rfl, F, N, H⟩ := q
  refine evalPart_none_step ?_
  rcases H with ⟨l, vs, i, j, rfl, hl, pl, pu, hz, H⟩ | ⟨x, t, i, j, rfl, b1, b2, hz, H⟩
  · simp only [Array.toArray_toList] at H
    have hlt : C.L < h.objs.size := F.ns.lt
    exact slice_list (s := ⟨h, C.g, C.d, tk, C.o⟩) F N (hl h m F N) pl pu (fun h' F' N' => ⟨h', tk, m, _, rfl, F', N', H _ (Nat.lt_succ_of_lt hlt) (allLt_of fun p hp => Nat.lt_succ_of_lt (Heap.lt_size (N p hp).1))⟩) (hs _ _) (ht _) (by simpa using hz)
  · have fin : ∀ h' t' k, Fr C.h₀ C.L h' m → News C.h₀ C.L h' n → Post C QV (.str (Txt.slice x i j) t') ⟨h', C.g, C.d, k, C.o⟩ := fun h' t' k F N => ⟨h', k, m, n, rfl, F, N, H t'⟩
    cases i with
    | none => cases j with
      | none => cases b1; cases b2; exact slice_strN_nn (s := ⟨h, C.g, C.d, tk, C.o⟩) F N (fun h' t' k F N => fin h' t' k F N) (hs2 _ _ _) (ht2 _ _) hz
      | some j => obtain ⟨_, rfl⟩ := b2; cases b1; exact slice_strN_ns (s := ⟨h, C.g, C.d, tk, C.o⟩) F N (fun h' t' k F N => fin h' t' k F N) (hs2 _ _ _) (ht2 _ _) hz
    | some i => cases j with
      | none => obtain ⟨_, rfl⟩ := b1; cases b2; exact slice_strN_sn (s := ⟨h, C.g, C.d, tk, C.o⟩) F N (fun h' t' k F N => fin h' t' k F N) (hs2 _ _ _) (ht2 _ _) hz
      | some j => obtain ⟨_, rfl⟩ := b1; obtain ⟨_, rfl⟩ := b2; exact slice_strN_ss (s := ⟨h, C.g, C.d, tk, C.o⟩) F N (fun h' t' k F N => fin h' t' k F N) (hs2 _ _ _) (ht2 _ _) hz
theorem ws_addL (ha : IsLst C n a vs) (hb : IsLst C n b us) (hz : vs.length + us.length ≤ sizeLine) (H : ∀ D, C.L < D → AllLt D n → QV (.ref D) m ((D, listOf (vs ++ us).toArray 0) :: n)) : WS C (binaryOp .Add (.ref a) (.ref b)) QV m n := by
  intro h tk F N
  refine add_lists F N (ha h m F N).1 (hb h m F N).1 (fun h' F' N' => ⟨h', tk, m, _, rfl, F', N', H _ F.ns.lt (allLt_new N (Nat.le_refl _))⟩) hz
theorem seq_list_iadd : seqSlot? (.type "list") (dunderI "add") = pure (some (.builtin "list.__iadd__")) := PySem.seqSlot_of F.slot_list_iadd.lookup (by decide +kernel)
theorem fills_list_iadd : fillsInplaceSlot (.type "list") "add" (Operator.Add == .Add) = pure false := by
  unfold fillsInplaceSlot
  show (typeLookup (.type "list") (dunderI "add") >>= fun fi => pure (fi.isSome && !isSeqSlot fi)) = pure false
  rw [F.slot_list_iadd.lookup]
  show (pure ((some (Value.builtin "list.__iadd__")).isSome && !isSeqSlot (some (.builtin "list.__iadd__"))) : Sem Bool) = pure false
  rw [show isSeqSlot (some (.builtin "list.__iadd__")) = true by decide +kernel]
  rfl
/-- a list to which another one is added on the spot -/
theorem ws_iaddL {c2 : Nat} (hD : (D, listOf vs.toArray c) ∈ n) (hb : (b, listOf us.toArray c2) ∈ n) (U : Upd D (listOf vs.toArray c) (listOf (vs ++ us).toArray (c + 1)) n n') (hu : 0 < us.length) (hz : vs.length + us.length ≤ 16777216)
    (H : QV (.ref D) m n') : WS C (inplaceOp .Add (.ref D) (.ref b)) QV m n := by
  intro h tk F N
  have zD := N _ hD
  have zb := N _ hb
  unfold inplaceOp
  refine wpAny_holding ?_
  refine wpAny_bind (wpAny_typeOf (T := "list") ⟨_, zD.1, rfl⟩ (wpAny_bind (wpAny_of_eq fills_list_iadd ?_)))
  show wpAny _ C.A (if false = true then _ else _) _ _ _
  rw [if_neg Bool.false_ne_true]
  refine wpAny_bind (wpAny_binaryOp1_none (nm := "add") (T := "list") ⟨_, zD.1, rfl⟩ ⟨_, zb.1, rfl⟩ noFill_list_add ?_)
  refine wpAny_bind (wpAny_of_eq seq_list_iadd ?_)
  refine wpAny_bind (wpAny_rule ?_)
  have hz1 : sizeLine = 16777216 := sizeLine_eq
  refine call_meets PySem.F.slot_list_iadd ⟨_, zD.1, rfl⟩ PySem.F.entry_list_iadd (PySem.F.args_list_iadd_2 _ _) (AutoSeq1.list___iadd___list_list_0 D vs.toArray c b us.toArray c2 ?_ (by simp; omega) (by simp; omega)) ⟨zD.1, zb.1, ?_⟩
  · simp only [Bool.and_eq_true, not_and]
    intro _
    unfold Builtin.List.listTooLong
    simp
    rw [hz1]; exact hz
  · obtain ⟨pre, post, rfl, rfl, a1, a2⟩ := U.split
    refine ⟨_, tk, m, _, rfl, F.change (Heap.SameBut.update ..) zD.2.1 zD.2.2, ki_turn _ N a1 a2 ?_ ?_, H⟩
    · apply Array.toList_inj.mp
      simp
    · rw [if_neg]
      simp only [List.size_toArray, List.length_append, beq_iff_eq]
      omega
end
end Mine

namespace Mine
open PySem PySem.W PyProof.Rows PySem.Calls PyProof.V PySem.Spec
/-- a text by its signs -/
abbrev tx (l : List Nat) : Str := ⟨l.toArray⟩
theorem tx_of (T : Str) : T = tx T.cps.toList := by
  obtain ⟨⟨l⟩⟩ := T
  rfl
/-! literals -/
theorem lit_26 : Str.ofString "&" = tx [38] := by decide +kernel
theorem lit_3c : Str.ofString "<" = tx [60] := by decide +kernel
theorem lit_3e : Str.ofString ">" = tx [62] := by decide +kernel
theorem lit_22 : Str.ofString "\"" = tx [34] := by decide +kernel
theorem lit_0d : Str.ofString "\r" = tx [13] := by decide +kernel
theorem lit_0a : Str.ofString "\n" = tx [10] := by decide +kernel
theorem lit_09 : Str.ofString "\t" = tx [9] := by decide +kernel
theorem lit_26616d703b : Str.ofString "&amp;" = tx [38, 97, 109, 112, 59] := by decide +kernel
theorem lit_266c743b : Str.ofString "&lt;" = tx [38, 108, 116, 59] := by decide +kernel
theorem lit_2667743b : Str.ofString "&gt;" = tx [38, 103, 116, 59] := by decide +kernel
theorem lit_2671756f743b : Str.ofString "&quot;" = tx [38, 113, 117, 111, 116, 59] := by decide +kernel
theorem lit_262331333b : Str.ofString "&#13;" = tx [38, 35, 49, 51, 59] := by decide +kernel
theorem lit_262331303b : Str.ofString "&#10;" = tx [38, 35, 49, 48, 59] := by decide +kernel
theorem lit_262330393b : Str.ofString "&#09;" = tx [38, 35, 48, 57, 59] := by decide +kernel
theorem lit_262378443b : Str.ofString "&#xD;" = tx [38, 35, 120, 68, 59] := by decide +kernel
theorem lit_262378393b : Str.ofString "&#x9;" = tx [38, 35, 120, 57, 59] := by decide +kernel
theorem lit_262378413b : Str.ofString "&#xA;" = tx [38, 35, 120, 65, 59] := by decide +kernel
theorem lit_616d70 : Str.ofString "amp" = tx [97, 109, 112] := by decide +kernel
theorem lit_6c74 : Str.ofString "lt" = tx [108, 116] := by decide +kernel
theorem lit_6774 : Str.ofString "gt" = tx [103, 116] := by decide +kernel
theorem lit_233133 : Str.ofString "#13" = tx [35, 49, 51] := by decide +kernel
theorem lit_237844 : Str.ofString "#xD" = tx [35, 120, 68] := by decide +kernel
theorem lit_ : Str.ofString "" = tx [] := by decide +kernel
theorem lit_307830 : Str.ofString "0x0" = tx [48, 120, 48] := by decide +kernel
theorem tx_len (l : List Nat) : (tx l).length = l.length := by simp [Str.length, tx]
def escStep (T y z : Str) : Str := if Txt.contains T y = true then Txt.replace T y z else T
def sub1 (c : Nat) (z l : List Nat) : List Nat := l.flatMap fun d => if d = c then z else [d]
theorem sub1_free (c : Nat) (z : List Nat) : ∀ l : List Nat, c ∉ l → sub1 c z l = l
  | [], _ => rfl
  | k :: r, h => by
    have h1 : ¬ k = c := fun e => h (e ▸ List.mem_cons_self ..)
    have h2 : c ∉ r := fun m => h (List.mem_cons_of_mem _ m)
    show (if k = c then z else [k]) ++ sub1 c z r = _
    rw [if_neg h1, sub1_free c z r h2]
    rfl
theorem sub1_app (c : Nat) (z a b : List Nat) : sub1 c z (a ++ b) = sub1 c z a ++ sub1 c z b := List.flatMap_append
theorem sub1_join (c : Nat) (z : Str) : ∀ parts : List Str, (∀ p ∈ parts, c ∉ p.cps.toList) → sub1 c z.cps.toList (Str.join ⟨#[c]⟩ parts).cps.toList = (Str.join z parts).cps.toList
  | [], _ => rfl
  | [p], h => sub1_free c _ _ (h p (List.mem_singleton.mpr rfl))
  | p :: q :: r, h => by
    have ih := sub1_join c z (q :: r) fun a ha => h a (List.mem_cons_of_mem _ ha)
    show sub1 c z.cps.toList (p ++ ⟨#[c]⟩ ++ Str.join ⟨#[c]⟩ (q :: r)).cps.toList = (p ++ z ++ Str.join z (q :: r)).cps.toList
    simp only [Str.cps_append, Array.toList_append]
    rw [sub1_app, sub1_app, ih, sub1_free c _ _ (h p (List.mem_cons_self ..))]
    simp [sub1]
theorem replace_flat (x z : Str) (c : Nat) : (Txt.replace x ⟨#[c]⟩ z).cps.toList = sub1 c z.cps.toList x.cps.toList := by
  rw [StrLaws.replace_one, ← sub1_join c z _ (StrLaws.split_free x c), StrLaws.join_split]
theorem esc_flat (l z : List Nat) (c : Nat) : escStep (tx l) (tx [c]) (tx z) = tx (sub1 c z l) := by
  unfold escStep
  rw [show Txt.contains (tx l) (tx [c]) = decide (c ∈ (tx l).cps.toList) from StrLaws.found_one (tx l) c]
  split
  · rw [tx_of (Txt.replace _ _ _)]
    exact congrArg tx (replace_flat (tx l) (tx z) c)
  · rename_i h
    rw [sub1_free c z l (by simpa using h)]
/-- signs by a table -/
abbrev Tab := List (Nat × List Nat)
def tabF (tab : Tab) (d : Nat) : List Nat := (tab.lookup d).getD [d]
def flatT (tab : Tab) (l : List Nat) : List Nat := l.flatMap (tabF tab)
theorem flatT_nil (l : List Nat) : flatT [] l = l := by
  induction l with
  | nil => rfl
  | cons k r ih => show [k] ++ flatT [] r = _; rw [ih]; rfl
theorem flatT_cons (tab : Tab) (k : Nat) (r : List Nat) : flatT tab (k :: r) = tabF tab k ++ flatT tab r := rfl
theorem flatT_app (tab : Tab) (a b : List Nat) : flatT tab (a ++ b) = flatT tab a ++ flatT tab b := List.flatMap_append
theorem flatT_step (tab : Tab) (c : Nat) (z : List Nat) (h1 : tab.lookup c = none) (h2 : ∀ p ∈ tab, c ∉ p.2) (l : List Nat) : sub1 c z (flatT tab l) = flatT (tab ++ [(c, z)]) l := by
  induction l with
  | nil => rfl
  | cons k r ih =>
    rw [flatT_cons, flatT_cons, sub1_app, ih]
    congr 1
    unfold tabF
    rw [List.lookup_append]
    cases hk : tab.lookup k with
    | none =>
      by_cases h : k = c
      · subst h; simp [sub1, List.lookup]
      · have hb : (k == c) = false := beq_eq_false_iff_ne.mpr h
        simp [sub1, List.lookup, hb, h]
    | some v =>
      have hm : ∃ p ∈ tab, p.2 = v := by
        clear h1 h2 ih
        induction tab with
        | nil => simp at hk
        | cons p tab ih2 =>
          obtain ⟨a, b⟩ := p
          rw [List.lookup_cons] at hk
          split at hk
          · exact ⟨(a, b), .head _, Option.some.inj hk⟩
          · obtain ⟨p, hp, e⟩ := ih2 hk
            exact ⟨p, .tail _ hp, e⟩
      obtain ⟨p, hp, e⟩ := hm
      simp only [Option.getD_some, Option.some_or]
      exact sub1_free c z v (e ▸ h2 p hp)
theorem flatT_len (tab : Tab) (h : ∀ p ∈ tab, p.2.length ≤ 6) (l : List Nat) : (flatT tab l).length ≤ 6 * l.length := by
  induction l with
  | nil => simp [flatT]
  | cons k r ih =>
    rw [flatT_cons, List.length_append]
    have : (tabF tab k).length ≤ 6 := by
      unfold tabF
      cases hk : tab.lookup k with
      | none => simp
      | some v =>
        have hm : ∃ p ∈ tab, p.2 = v := by
          clear h ih
          induction tab with
          | nil => simp at hk
          | cons p tab ih2 =>
            obtain ⟨a, b⟩ := p
            rw [List.lookup_cons] at hk
            split at hk
            · exact ⟨(a, b), .head _, Option.some.inj hk⟩
            · obtain ⟨p, hp, e⟩ := ih2 hk
              exact ⟨p, .tail _ hp, e⟩
        obtain ⟨p, hp, e⟩ := hm
        simp only [Option.getD_some]
        exact e ▸ h p hp
    simp only [List.length_cons]
    omega
theorem flatT_congr {a b : Tab} {l : List Nat} (h : ∀ d ∈ l, tabF a d = tabF b d) : flatT a l = flatT b l := by
  induction l with
  | nil => rfl
  | cons k r ih => rw [flatT_cons, flatT_cons, h k (.head _), ih fun d hd => h d (.tail _ hd)]
end Mine

namespace Mine
open PySem PySem.W PyProof.Rows PySem.Calls PyProof.V PySem.Spec
section
variable {C : Cx} {k : Nat} {m : Loc} {n n' : Led} {env : Env} {pos : Pos} {QV : Value → Loc → Led → Prop} {QB : Bool → Loc → Led → Prop} {QF : Flow → Loc → Led → Prop} {QU : Unit → Loc → Led → Prop}
  {QP : List (Value × Value) → Loc → Led → Prop} {D l : Addr} {o : Obj} {x y : Value} {key v : Value} {K : Type} [DecidableEq K] {knd : KeyKind C.prog C.w K} {kvs : List (K × Value)} {kk : K} {g : Obj → Led}
theorem ws_pairs0 (H : QP [] m n) : WS C (evalPairs (pairTrees [] [] env pos)) QP m n := fun h tk F N => pairTrees_nil_walk ⟨h, tk, m, n, rfl, F, N, H⟩
theorem ws_pairs1 {kx vx : Expr} {ks : List (Option Expr)} {vs : List Expr} (H : WS C (eval kx env) (fun kv m n => WS C (eval vx env) (fun vv m n => WS C (evalPairs (pairTrees ks vs env pos)) (fun r m n => QP ((kv, vv) :: r) m n) m n) m n) m n) :
    WS C (evalPairs (pairTrees (some kx :: ks) (vx :: vs) env pos)) QP m n :=
  fun h tk F N => pairTrees_cons_walk (ws_out H (fun _ _ _ _ _ F N H => ws_out H (fun _ _ _ _ _ F N H => ws_out H (fun _ _ _ _ _ F N H => ⟨_, _, _, _, rfl, F, N, H⟩) _ _ F N) _ _ F N) _ _ F N)
def emptyD : Obj := { cls := .type "dict", data := .dict #[] }
/-- a dict display -/
theorem ws_dict {keys : List (Option Expr)} {values : List Expr} (knd : KeyKind C.prog C.w K) (hall : keys.all (·.isSome) = true) (hl : keys.length = values.length) (h0 : keys ≠ []) (hlen : keys.length ≤ 15)
    (H : ∀ D, Fresh C D n → WS C (evalPairs (pairTrees keys values env pos)) (fun vs m' n' => ∃ kvs, Carries knd vs kvs ∧ n' = (D, emptyD) :: n ∧ ∀ o, o.IsDictOf knd (merged [] kvs) → QV (.ref D) m' ((D, o) :: n)) m ((D, emptyD) :: n)) :
    WS C (eval (.Dict keys values pos) env) QV m n := by
  intro h tk F N
  have hfr : Fresh C h.objs.size n := ⟨F.ns.lt, allLt_new N (Nat.le_refl _)⟩
  have hoff : ∀ p ∈ n, p.1 ≠ h.objs.size := fun p hp => Nat.ne_of_lt (Heap.lt_size (N p hp).1)
  refine wpAny_Dict_walk (knd := knd) hall hl h0 hlen (ws_out (H _ hfr) (fun vs h1 tk1 m1 n1 F1 N1 ⟨kvs, c, e, H⟩ => ?_) _ _ (F.push _) (N.push F _))
  subst e
  have hD := N1 _ (.head _)
  obtain ⟨oe, hoe, hde⟩ := Heap.dictOf_iff.mp (Heap.DictOf.new (knd := knd) h)
  rw [Heap.get?_push_size _ rfl] at hoe
  have ee : emptyD = oe := Option.some.inj hoe
  refine ⟨kvs, c, Heap.dictOf_iff.mpr ⟨_, hD.1, by show emptyD.IsDictOf knd []; rw [ee]; exact hde⟩, fun h2 hd2 hs2 => ?_⟩
  obtain ⟨o2, ho2, hdo⟩ := Heap.dictOf_iff.mp hd2
  refine ⟨h2, _, m1, (h.objs.size, o2) :: n, rfl, F1.change hs2 hD.2.1 hD.2.2, fun p hp => ?_, H o2 hdo⟩
  rcases List.mem_cons.mp hp with rfl | hp
  · exact ⟨ho2, hD.2⟩
  · exact ⟨(hs2.2 _ (hoff p hp)).trans (N1 p (.tail _ hp)).1, (N1 p (.tail _ hp)).2⟩
theorem lo_of {h : Heap} (O : C.Ok k) (F : Fr C.h₀ C.L h m) (hD : C.L < D) : (D == sysModules) = false :=
  beq_eq_false_iff_ne.mpr (Nat.ne_of_gt (Nat.lt_of_lt_of_le (modules_low O.top.nolimit) (Nat.le_trans F.above (Nat.le_of_lt hD))))
theorem ws_have {α : Type} {t : Sem α} {Q : α → Loc → Led → Prop} {p : Prop} (hp : ∀ h, Fr C.h₀ C.L h m → News C.h₀ C.L h n → p) (H : p → WS C t Q m n) : WS C t Q m n := fun h tk F N => H (hp h F N) h tk F N
theorem ws_lo {α : Type} {t : Sem α} {Q : α → Loc → Led → Prop} (O : C.Ok k) (hD : C.L < D) (H : (D == sysModules) = false → WS C t Q m n) : WS C t Q m n := ws_have (fun h F _ => lo_of O F hD) H
theorem ws_dget {value slice : Expr} (hm : (D, o) ∈ n) (hd : o.IsDictOf knd kvs) (hkey : knd.is kk key = true) (hl : valueAt kvs kk = some v) (H : QV v m n)
    (hs : subscripted slice false (.ref D) key = operate [.ref D, key] (getItem (.ref D) key) := by with_unfolding_all rfl) (hg : ∀ r, letTemporaryGo value (.ref D) r = pure () := by intro _; with_unfolding_all rfl) :
    WS C (subscriptTail value slice (.ref D) key) QV m n := fun h tk F N => kda_item N hm hd hkey hl ⟨h, _, m, n, rfl, F, N, H⟩ hs hg
theorem ws_din (lo : (D == sysModules) = false) (hm : (D, o) ∈ n) (hd : o.IsDictOf knd kvs) (hkey : knd.is kk key = true) (H : QV (.bool (valueAt kvs kk).isSome) m n) : WS C (compareOp .In key (.ref D)) QV m n :=
  fun h tk F N => kda_in N hm hd lo hkey _ rfl ⟨h, _, m, n, rfl, F, N, H⟩
theorem ws_dset (U : UpdF D o n g) (hd : o.IsDictOf knd kvs) (hkey : knd.is kk key = true) (hsz : kvs.length ≤ sizeLine) (H : ∀ o', o'.IsDictOf knd (stored kvs kk v) → QU () m (g o')) : WS C (setItem (.ref D) key v) QU m n :=
  fun h tk F N => kda_set F N U hd hkey hsz fun h' o' F' N' hd' => ⟨h', _, m, _, rfl, F', N', H o' hd'⟩
theorem ws_dlist (O : C.Ok k) (hD : C.L < D) (hm : (D, o) ∈ n) (hd : o.IsDictOf knd kvs) (hz : kvs.length ≤ sizeLine)
    (H : ∀ l c (vs : List Value), C.L < l → AllLt l n → vs.length = kvs.length → (∀ (j : Nat) v, vs[j]? = some v → ∃ kk x, kvs[j]? = some (kk, x) ∧ knd.is kk v = true) → QV (.ref l) m ((l, listOf vs.toArray c) :: n)) : WS C (call (.type "list") [.ref D]) QV m n := by
  intro h tk F N
  obtain ⟨ep, hat⟩ := (kda_dict (s := ⟨h, C.g, C.d, tk, C.o⟩) N hm hd).dictAt
  have hlt := F.ns.lt
  refine kdl_N (kdl_dict (knd := knd) (kvs := kvs) (ep := ep) (lo_of O F hD)) O.handled F N hat hz fun B c h' tk' vs F' N' l1 hl hv => ?_
  refine ⟨h', tk', m, _, rfl, F', N', H B c vs ?_ (allLt_of l1) hl hv⟩
  exact Nat.lt_of_lt_of_le hD (Nat.le_of_lt (l1 _ hm))

theorem ws_asub {ov ix value : Expr} {p' : Pos} (H : WS C (eval value env) (fun v m n => WS C (eval ov env) (fun a m n => WS C (eval ix env) (fun b m n => WS C (setItem a b v) (fun _ => QF .next) m n) m n) m n) m n)
    (hs : swapsWith value (some (.Subscript ov ix p')) pos.line env = pure false := by k_dflt rfl) : WS C (exec (.Assign [.Subscript ov ix p'] value pos) env) QF m n :=
  fun h tk F N => wpAny_Assign_Subscript (ws_out H (fun _ _ _ _ _ F N H => ws_out H (fun _ _ _ _ _ F N H => ws_out H (fun _ _ _ _ _ F N H => ws_out H (fun _ _ _ _ _ F N H => ⟨_, _, _, _, rfl, F, N, H⟩) _ _ F N) _ _ F N) _ _ F N) _ _ F N) hs
/-! for loops over what walks -/
theorem fat_steps {σ : Type} {x : Str} {px : Pos} {body orelse : List Stmt} {I : Addr} {o₀ : Obj} {rest : Led} {cnt : Nat} {Pv : Nat → Value → Prop} {LS : Nat → Obj → Prop} (S : Steps C I rest cnt Pv LS)
    (Ld : Nat → σ → Led) (ps : Nat → σ → List (Str × Value)) (P : Nat → σ → Prop) (c₀ : σ) (hE : PassesOwn (model C.prog C.w) C.A env C.E)
    (hm : (I, o₀) ∈ n) (hls : LS 0 o₀) (hsub : ∀ i c, P i c → ∀ p ∈ rest, p ∈ Ld i c) (hoff : ∀ i c, P i c → ∀ p ∈ Ld i c, p.1 ≠ I) (hs : SubL (Ld 0 c₀) n) (hn : AllN m (ps 0 c₀)) (hp : P 0 c₀)
    (turn : ∀ i c u o v, i < cnt → Pv i v → P i c → WS C (storeName env x v) (fun _ m n => WS C (execs body env) (LPI C I o Ld ps P QF (i + 1)) m n) (kstB u (ps i c)) ((I, o) :: Ld i c))
    (done : ∀ c u, P cnt c → WS C (execs orelse env) QF (kstB u (ps cnt c)) (Ld cnt c)) : FAt C env x px body orelse QF (.ref I) m n := by
  refine fat_loop (σ := Nat × σ × Obj) (fun s => (I, s.2.2) :: Ld s.1 s.2.1) (fun s => ps s.1 s.2.1) (fun s => P s.1 s.2.1 ∧ LS s.1 s.2.2 ∧ s.1 ≤ cnt) (fun s => cnt - s.1) (0, c₀, o₀) hE ⟨hm, hs⟩ hn ⟨hp, hls, Nat.zero_le _⟩ ?_
  rintro ⟨i, c, o⟩ u ⟨hP, hI, hi⟩
  dsimp only at hP hI hi ⊢
  by_cases hlt : i < cnt
  · refine S.item i o _ _ _ hlt hI (hsub i c hP) (hoff i c hP) fun v o' hv hls' => ?_
    refine ws_mono (turn i c u o' v hlt hv hP) fun _ m n H => ws_mono H fun f m n q => ?_
    have fin : (∃ c', (I, o') ∈ n ∧ SubL (Ld (i + 1) c') n ∧ AllN m (ps (i + 1) c') ∧ P (i + 1) c') → LP C (fun s : Nat × σ × Obj => (I, s.2.2) :: Ld s.1 s.2.1) (fun s => ps s.1 s.2.1) (fun s => P s.1 s.2.1 ∧ LS s.1 s.2.2 ∧ s.1 ≤ cnt) (fun s => cnt - s.1) QF (i, c, o) .next m n := by
      rintro ⟨c', a1, a2, a3, a4⟩
      exact ⟨(i + 1, c', o'), ⟨a1, a2⟩, a3, ⟨a4, hls', hlt⟩, by show cnt - (i + 1) < cnt - i; omega⟩
    cases f with
    | ret v => exact q
    | brk => exact q
    | next => exact fin q
    | cont => exact fin q
  · have hic : i = cnt := by omega
    subst hic
    exact S.done o _ _ _ hI (hsub i c hP) (hoff i c hP) (done c u hP)
/-- a loop over a list, what it names told by addresses -/
theorem ws_loopL2 {σ : Type} {x : Str} {px : Pos} {body orelse : List Stmt} {l : Addr} (vs : List Value) (rest : Led) (Ld : Nat → σ → Led) (ps : Nat → σ → List (Str × Value)) (P : Nat → σ → Prop) (c₀ : σ) (O : C.Ok k) (hE : PassesOwn (model C.prog C.w) C.A env C.E)
    (hl0 : Lst C n l vs) (hr : Lst C rest l vs) (hsub : ∀ i c, P i c → ∀ p ∈ rest, p ∈ Ld i c) (hoff : ∀ I, AllLt I n → ∀ i c, P i c → ∀ p ∈ Ld i c, p.1 < I) (hs : SubL (Ld 0 c₀) n) (hn : AllN m (ps 0 c₀)) (hp : P 0 c₀)
    (turn : ∀ I i c u oi v, AllLt I n → vs[i]? = some v → P i c → WS C (storeName env x v) (fun _ m n => WS C (execs body env) (LPI C I oi Ld ps P QF (i + 1)) m n) (kstB u (ps i c)) ((I, oi) :: Ld i c))
    (done : ∀ c u, P vs.length c → WS C (execs orelse env) QF (kstB u (ps vs.length c)) (Ld vs.length c)) : WS C (pyIter (.ref l)) (fun it m n => FAt C env x px body orelse QF it m n) m n := by
  intro h tk F N
  refine wpAny_pyIter_list (hl0.is h m F N).1 ⟨_, _, m, (_ :: n), rfl, F.push _, N.push F _, ?_⟩
  have a1 : AllLt h.objs.size n := allLt_new N (Nat.le_refl _)
  have hne : l ≠ h.objs.size := Nat.ne_of_lt (hl0.ne F N)
  exact fat_steps (stepsL O.handled hne hr) Ld ps P c₀ hE (.head _) ⟨rfl, rfl⟩ hsub (fun i c hP p hp => Nat.ne_of_lt (hoff _ a1 i c hP p hp)) (subL_of fun p hp => .tail _ (hs.mem p hp)) hn hp
    (fun i c u oi v _ hv hP => turn _ i c u oi v a1 hv hP) done
/-- a loop over the keys of a dict -/
theorem ws_loopD {σ : Type} {x : Str} {px : Pos} {body orelse : List Stmt} (Ld : Nat → σ → Led) (ps : Nat → σ → List (Str × Value)) (P : Nat → σ → Prop) (c₀ : σ) (O : C.Ok k) (hE : PassesOwn (model C.prog C.w) C.A env C.E)
    (hD : C.L < D) (hm : (D, o) ∈ n) (hd : o.IsDictOf knd kvs) (hsub : ∀ i c, P i c → (D, o) ∈ Ld i c) (hoff : ∀ I, AllLt I n → ∀ i c, P i c → ∀ p ∈ Ld i c, p.1 < I) (hs : SubL (Ld 0 c₀) n) (hn : AllN m (ps 0 c₀)) (hp : P 0 c₀)
    (turn : ∀ I i c u oi kv v, AllLt I n → kvs[i]? = some kv → knd.is kv.1 v = true → P i c → WS C (storeName env x v) (fun _ m n => WS C (execs body env) (LPI C I oi Ld ps P QF (i + 1)) m n) (kstB u (ps i c)) ((I, oi) :: Ld i c))
    (done : ∀ c u, P kvs.length c → WS C (execs orelse env) QF (kstB u (ps kvs.length c)) (Ld kvs.length c)) : WS C (pyIter (.ref D)) (fun it m n => FAt C env x px body orelse QF it m n) m n := by
  intro h tk F N
  obtain ⟨ep, hat⟩ := (kda_dict (s := ⟨h, C.g, C.d, tk, C.o⟩) N hm hd).dictAt
  obtain ⟨ep2, hk⟩ := KdkAt.of hd
  refine wpAny_pyIter_dict (lo_of O F hD) (hk.dictAt (N _ hm).1) ⟨_, _, m, (_ :: n), rfl, F.push _, N.push F _, ?_⟩
  have a1 : AllLt h.objs.size n := allLt_new N (Nat.le_refl _)
  have hlt : D < h.objs.size := Heap.lt_size (N _ hm).1
  have W := Walks.dictKeys (prog := C.prog) (w := C.w) (knd := knd) O.handled h.objs.size D (Nat.ne_of_lt hlt) kvs ep2
  refine fat_steps (rest := [(D, o)]) (LS := fun i oi => KdkIter oi D i kvs.length ep2) (steps_of W (fun i oi g mm hi ho Fg Ng => ⟨KdkIter.at hi ho, hk.dictAt (Ng _ (.head _)).1⟩) fun i g st => let ⟨oi, ho, a, b⟩ := st.1; ⟨oi, ho, a, b⟩) Ld ps P c₀ hE
    (.head _) ⟨rfl, rfl⟩ (fun i c hP p hp => by rw [List.mem_singleton.mp hp]; exact hsub i c hP) (fun i c hP p hp => Nat.ne_of_lt (hoff _ a1 i c hP p hp)) (subL_of fun p hp => .tail _ (hs.mem p hp)) hn hp
    (fun i c u oi v hi ⟨kk, xx, hx, hv⟩ hP => turn _ i c u oi (kk, xx) v a1 hx hv hP) done
end
theorem ws_iteT {b : Bool} {P Q : Prop} (h : b = true) (H : P) : if b = true then P else Q := kdb_pos h H
theorem ws_iteF {b : Bool} {P Q : Prop} (h : b = false) (H : Q) : if b = true then P else Q := kdb_neg h H
/-- a table of signs as a dict holds it -/
abbrev TK := List (Nat × List Nat × Tok)
def kvT (T : TK) : List (Str × Value) := T.map fun p => (tx [p.1], Value.str (tx p.2.1) p.2.2)
def tabT (T : TK) : Tab := T.map fun p => (p.1, p.2.1)
theorem tx_inj {a b : List Nat} (h : tx a = tx b) : a = b := by
  have := congrArg (fun q : Str => q.cps.toList) h
  simpa using this
theorem kvT_at (T : TK) (c : Nat) : valueAt (kvT T) (tx [c]) = (T.lookup c).map fun p => Value.str (tx p.1) p.2 := by
  induction T with
  | nil => rfl
  | cons p T ih =>
    obtain ⟨a, z, t⟩ := p
    unfold valueAt kvT at ih ⊢
    rw [List.map_cons, List.find?_cons, List.lookup_cons]
    by_cases h : c = a
    · subst h; simp
    · have h1 : (c == a) = false := beq_eq_false_iff_ne.mpr h
      have h2 : ¬ (tx [a] = tx [c]) := fun e => h (by have := tx_inj e; simpa using this.symm)
      rw [h1]
      simp only [h2, decide_false]
      exact ih
theorem tabT_at (T : TK) (c : Nat) : tabF (tabT T) c = match T.lookup c with | some p => p.1 | none => [c] := by
  unfold tabF tabT
  induction T with
  | nil => rfl
  | cons p T ih =>
    obtain ⟨a, z, t⟩ := p
    rw [List.map_cons, List.lookup_cons, List.lookup_cons]
    cases h : c == a with
    | true => rfl
    | false => exact ih
theorem kvT_new (T : TK) (c : Nat) (z : List Nat) (t : Tok) (h : T.any (fun p => p.1 == c) = false) : stored (kvT T) (tx [c]) (.str (tx z) t) = kvT (T ++ [(c, z, t)]) := by
  unfold stored
  have : (kvT T).any (fun kv => decide (kv.1 = tx [c])) = false := by
    rw [List.any_eq_false] at h ⊢
    intro kv hkv
    obtain ⟨p, hp, rfl⟩ := List.mem_map.mp hkv
    have h1 := h p hp
    simp only [decide_eq_true_eq]
    intro e
    exact h1 (by have := tx_inj e; simpa using this)
  rw [this]
  simp [kvT]
theorem join_nil (xs : List (List Nat)) : Txt.join (tx []) (xs.map tx) = tx xs.flatten := by
  show Builtin.Str.glued _ _ = _
  rw [StrLaws.glued_eq_join]
  induction xs with
  | nil => rfl
  | cons a r ih =>
    cases r with
    | nil => show tx a = _; simp
    | cons b r =>
      show tx a ++ tx [] ++ Str.join (tx []) ((b :: r).map tx) = _
      rw [ih]
      apply congrArg Str.mk
      apply Array.toList_inj.mp
      simp [Str.cps_append]
end Mine

namespace Mine
open PySem PySem.W PyProof.Rows PySem.Calls PyProof.V PySem.Spec
def isBy (x : Array UInt8) : Rel := fun _ _ v => ∃ t, v = .bytes x t
abbrev bIt (b : Array UInt8) (t : Tok) : Obj := { cls := .type "bytes_iterator", data := .fields #[.bytes b t, .int 0 0] }
def BIt (b : Array UInt8) (t : Tok) (i : Nat) (o : Obj) : Prop := o.cls = .type "bytes_iterator" ∧ o.data = .fields #[.bytes b t, .int i 0]
section
variable {C : Cx} {k : Nat} {m : Loc} {n n' : Led} {QV : Value → Loc → Led → Prop} {l I : Addr} {vs : List Value} {b : Array UInt8} {t : Tok} {o : Obj} {i : Nat} {g : Obj → Led}
theorem ws_fnBy {f : Addr} {us : List Value} {pre : Heap → Prop} {x : Array UInt8} (O : C.Ok k) (F : Fn C.prog C.w C.mean C.mg C.mb f us k pre (isBy x)) (hp : ∀ h, Fr C.h₀ C.L h m → News C.h₀ C.L h n → pre h)
    (H : ∀ t, QV (.bytes x t) m n) : WS C (call (.ref f) us) QV m n := ws_fn O F hp fun v h h' _ N st ⟨t, e⟩ => ⟨n, N.grown st, e ▸ H t⟩
theorem ws_tobytes {ns : List Int} (O : C.Ok k) (hl : IsLst C n l vs) (hi : IntsAre vs ns) (hr : ∀ x ∈ ns, 0 ≤ x ∧ x < 256) (hz : vs.length ≤ sizeLine) (H : ∀ t, QV (.bytes (byteArr ns) t) m n) : WS C (call (.type "bytes") [.ref l]) QV m n :=
  fun h tk F N => call_bytes_ints (hl h m F N).1 hi hr hz O.handled fun h' t k hk => ⟨h', k, m, n, rfl, F.keeps hk, N.grown hk, H t⟩
theorem ws_iterB (H : ∀ I, C.L < I → AllLt I n → QV (.ref I) m ((I, bIt b t) :: n)) : WS C (call (.builtin "iter") [.bytes b t]) QV m n := by
  intro h tk F N
  refine call_function_entry (by decide +kernel) (by decide +kernel) kdk_entry_iter (kdk_args_iter _) ?_
  unfold Builtin.«iter»
  refine wpAny_bind (m := someArgs "iter" 1 2 _) (wpAny_of_eq (a := [Value.bytes b t]) (by first | rfl | kernel_rfl!) ?_)
  show wpAny _ _ (pyIter (.bytes b t) >>= _) _ _ _
  refine wpAny_bind (KBw.pyIter_bytes ?_)
  exact wpAny_pure ⟨_, rfl, ⟨_, _, m, _, rfl, F.push _, N.push F _, H _ F.ns.lt (allLt_new N (Nat.le_refl _))⟩⟩
theorem ws_nextB {c : UInt8} (U : UpdF I o n g) (hb : BIt b t i o) (hx : b[i]? = some c) (H : ∀ o' t', BIt b t (i + 1) o' → QV (.int (c.toNat : Int) t') m (g o')) : WS C (call (.builtin "next") [.ref I]) QV m n := by
  intro h tk F N
  obtain ⟨pre, post, rfl, hg, a, b'⟩ := U.split
  have hm := N (I, o) (List.mem_append.mpr (.inr (.head _)))
  have hit : KBw.IsBytesIter h I b t i := ⟨o, hm.1, hb⟩
  refine call_function_entry (by decide +kernel) (by decide +kernel) kdk_entry_next (kdk_args_next _) ?_
  unfold Builtin.«next»
  refine wpAny_bind (m := someArgs "next" 1 2 _) (wpAny_of_eq (a := [Value.ref I]) (by first | rfl | kernel_rfl!) ?_)
  dsimp only
  refine wpAny_bind (wpAny_specialOf (name := Str.ofString "__next__") (KBw.iter_typeIs (s := ⟨h, C.g, C.d, tk, C.o⟩) hit) KBw.slot_next.lookup ?_)
  refine wpAny_ite_split (fun hab => absurd hab (by decide)) (fun _ => ?_)
  refine wpAny_bind (wpAny_callSpecial?_slot (name := Str.ofString "__next__") (KBw.iter_typeIs (s := ⟨h, C.g, C.d, tk, C.o⟩) hit) KBw.slot_next
    (wpAny_call_entry KBw.slot_next (KBw.iter_typeIs (s := ⟨h, C.g, C.d, tk, C.o⟩) hit) KBw.entry_next ?_ (KBw.args_next _)))
  show wpAny _ _ (field (.ref I) 0 >>= _) _ _ _
  refine wpAny_bind (wpAny_field hm.1 hb.2 (x := .bytes b t) rfl ?_)
  show wpAny _ _ (if (Value.bytes b t == Value.none) = true then _ else _) _ _ _
  rw [if_neg (show ¬ ((Value.bytes b t == Value.none) = true) from Bool.false_ne_true)]
  show wpAny _ _ (field (.ref I) 1 >>= _) _ _ _
  refine wpAny_bind (wpAny_field hm.1 hb.2 (x := .int i 0) rfl ?_)
  refine wpAny_bind (wpAny_of_eq (a := b) rfl ?_)
  simp only [Int.toNat_natCast, hx]
  refine wpAny_bind (wpAny_setField hm.1 hb.2 (by simp) (wpAny_bind (wpAny_mkInt (wpAny_pure ⟨_, rfl, wpAny_pure ⟨_, rfl, ?_⟩⟩))))
  have hs : Heap.SameBut I h (h.update I (Obj.mapFields (·.setIfInBounds 1 (rawInt ((i : Int) + 1))))) := Heap.SameBut.update ..
  refine ⟨_, _, m, g _, rfl, F.change hs hm.2.1 hm.2.2, ?_, H (Obj.mapFields (·.setIfInBounds 1 (rawInt ((i : Int) + 1))) o) _ ⟨(Obj.cls_mapFields ..).trans hb.1, by rw [Obj.data_mapFields hb.2]; simp [rawInt]⟩⟩
  rw [hg]
  exact N.setIn a b' hs (Heap.get?_update_self _ hm.1 (Obj.isFreed_of_fields (Obj.data_mapFields hb.2 _)))
end
end Mine

namespace Mine
open PySem PySem.W PyProof.Rows PySem.Calls PyProof.V PySem.Spec
section
variable {prog : Program} {w : World} {mean : ExcName → Option Value} {mg mb : Loc} {f : Addr} {vs : List Value} {k : Nat} {I : Addr} {o₀ : Obj} {P₀ : Value → Obj → Prop}
  {name qual : Str} {params : Arguments} {body : List Stmt} {scope : Scope} {dV kV doc pm cdv ct oc : Value} {an od : Option Addr} {osl : Array (Option Value)} {names : List Str}
/-- a call that turns one object of the caller's own -/
def FnM (prog : Program) (w : World) (mean : ExcName → Option Value) (mg mb : Loc) (f : Addr) (vs : List Value) (k : Nat) (I : Addr) (o₀ : Obj) (P₀ : Value → Obj → Prop) : Prop :=
  ∀ (A : Around) (base : Heap) (frames : List Env) (s : Shared) (Q E : Value → Shared → Prop),
    (Mine.th.heap_1_1 w.params).In (hideAll s.heap [I]) → Top Mine.V Loose mean mg mb (hideAll s.heap [I]) → A.handled = none → A.frames = some frames → (hideAll s.heap [I]).FunFrames base frames → base.StaysIn (hideAll s.heap [I]) →
    A.depth + k < recursionLimit → A.units + 10 * k < cLine → s.heap.get? I = some o₀ →
    (∀ v o' h' tk', (hideAll s.heap [I]).StaysIn h' → h'.get? I = some o' → P₀ v o' → Q v { s with heap := h', toks := tk' }) →
    wpAny (model prog w) A (call (.ref f) vs) Q E s
/-- a call that raises StopIteration -/
def FnR (prog : Program) (w : World) (mean : ExcName → Option Value) (mg mb : Loc) (f : Addr) (vs : List Value) (k : Nat) (I : Addr) (o₀ : Obj) : Prop :=
  ∀ (A : Around) (base : Heap) (frames : List Env) (s : Shared) (Q E : Value → Shared → Prop),
    (Mine.th.heap_1_1 w.params).In (hideAll s.heap [I]) → Top Mine.V Loose mean mg mb (hideAll s.heap [I]) → A.handled = none → A.frames = some frames → (hideAll s.heap [I]).FunFrames base frames → base.StaysIn (hideAll s.heap [I]) →
    A.depth + k < recursionLimit → A.units + 10 * k < cLine → s.heap.get? I = some o₀ →
    (∀ h' e tk', RaisedSN base (hideAll s.heap [I]) frames e (.type "StopIteration") [] h' → (hideAll s.heap [I]).UpToSlots h' → E (.ref e) { s with heap := h', toks := tk' }) →
    wpAny (model prog w) A (call (.ref f) vs) Q E s
theorem fnM_of (ho : (Mine.th.heap_1_1 w.params).lookup f = some ⟨oc, od, .func (fnOf name qual params body scope dV kV doc pm an cdv ct), osl⟩) (hcd : codeIn (Mine.th.heap_1_1 w.params) cdv qual = true)
    (hnm : params.args.map (·.arg) = names)
    (hbind : bindArgs (fnOf name qual params body scope dV kV doc pm an cdv ct) ⟨vs, []⟩ = pure (names.zip vs)) (hnd : names.Nodup) (hloc : ∀ y ∈ names.zip vs, scope.names.lookup y.1 = some .local)
    (hco : scope.isCoroutine = false) (hgen : scope.isGenerator = false) (hk : scope.kind = .function) (hcell : ∀ x ∈ scope.names, x.2 ≠ .cell)
    (H : ∀ C : Cx, C.prog = prog → C.w = w → C.mean = mean → C.mg = mg → C.mb = mb → C.Ok k → PassesOwn (model C.prog C.w) C.A (envOf qual scope C.L f cdv) C.E → C.h₀.get? I = none → I ≠ C.L →
      WS C (execs body (envOf qual scope C.L f cdv)) (fun fl m n => ∃ o', (I, o') ∈ n ∧ P₀ (match fl with | .ret v => v | _ => .none) o') (kstB (fun _ => none) (names.zip vs)) [(I, o₀)]) :
    FnM prog w mean mg mb f vs (k + 1) I o₀ P₀ := by
  intro A base frames s Q E X T hh hfr hff hst hdp hu hI hret
  refine wpAny_call ?_
  have hX : (Mine.th.heap_1_1 w.params).In s.heap := fun b o e => of_hideAll _ (X b o e)
  refine codeAny_call_def (fd := fnX name qual params body scope [] dV kV doc pm an cdv ct) (body := body) (binds := names.zip vs) (by omega) (hX _ _ ho) rfl (T.nolimit.keeps fun b o e => of_hideAll _ e) (codeRec_of hX hcd) rfl (BindsTo.of_eq hbind) hcell hloc (fun h₁ hns hk₁ => ?_) hco hgen hk
  have hsz : (hideAll s.heap [I]).objs.size = s.heap.objs.size := hideAll_size ..
  have F₁ : Fr (hideAll s.heap [I]) s.heap.objs.size h₁ (kstB (fun _ => none) (names.zip vs)) := ⟨(zip_lookup (fun _ => none) _ ((zip_sub _ _).nodup hnd)) ▸ hns, fun b o e => hk₁ b o (of_hideAll _ e), by rw [hsz]; exact Nat.le_refl _⟩
  have hnew : base.get? s.heap.objs.size = none := by
    have := hst.fresh
    rw [hsz] at this
    exact this
  have hIL : I ≠ s.heap.objs.size := Nat.ne_of_lt (Heap.lt_size hI)
  have hIn : (hideAll s.heap [I]).get? I = none := hideAll_none _ (.head _)
  let C : Cx := ⟨prog, w, mean, mg, mb, A.deeper (envOf qual scope s.heap.objs.size f cdv),
    (fun e s' => wpAny (model prog w) (A.deeper (envOf qual scope s.heap.objs.size f cdv)) (leaving (envOf qual scope s.heap.objs.size f cdv) e) (fun _ s'' => E e s'') (fun e' s'' => E e' s'') s'),
    hideAll s.heap [I], s.heap.objs.size, s.gens, s.drawn, s.os, base, envOf qual scope s.heap.objs.size f cdv :: frames⟩
  have O : C.Ok k := by
    refine ⟨X, T, hh, Around.frames_deeper hfr, fun h m F => ?_, hst, ?_, ?_⟩
    · exact .cons (by show scope.kind ≠ .module; rw [hk]; decide) rfl F.ns hnew (hff.of_keeps fun b o e _ => ⟨o, F.keep b o e, rfl⟩)
    · show A.depth + 1 + k < _; omega
    · show A.units + 3 + 10 * k < _; omega
  have N₁ : News (hideAll s.heap [I]) s.heap.objs.size h₁ [(I, o₀)] := fun p hp => by
    rw [List.mem_singleton.mp hp]
    exact ⟨hk₁ _ _ hI, hIL, hIn⟩
  have := H C rfl rfl rfl rfl rfl O PassesOwn.leaving hIn hIL h₁ (s.toks + (names.zip vs).length) F₁ N₁
  refine wpAny_mono this (fun fl s' p => ?_) fun _ _ x => x
  obtain ⟨h', tk', m', n', rfl, F', N', o', ho', q⟩ := p
  exact hret _ o' h' tk' F'.keep (N' _ ho').1 q
theorem fnR_of (ho : (Mine.th.heap_1_1 w.params).lookup f = some ⟨oc, od, .func (fnOf name qual params body scope dV kV doc pm an cdv ct), osl⟩) (hcd : codeIn (Mine.th.heap_1_1 w.params) cdv qual = true)
    (hnm : params.args.map (·.arg) = names)
    (hbind : bindArgs (fnOf name qual params body scope dV kV doc pm an cdv ct) ⟨vs, []⟩ = pure (names.zip vs)) (hnd : names.Nodup) (hloc : ∀ y ∈ names.zip vs, scope.names.lookup y.1 = some .local)
    (hco : scope.isCoroutine = false) (hgen : scope.isGenerator = false) (hk : scope.kind = .function) (hcell : ∀ x ∈ scope.names, x.2 ≠ .cell)
    (H : ∀ C : Cx, C.prog = prog → C.w = w → C.mean = mean → C.mg = mg → C.mb = mb → C.Ok k → (∀ h h' m e tk, Fr C.h₀ C.L h m → Heap.NewExc h h' e "StopIteration" → C.E (.ref e) ⟨h', C.g, C.d, tk, C.o⟩) → I ≠ C.L →
      WS C (execs body (envOf qual scope C.L f cdv)) (fun _ _ _ => False) (kstB (fun _ => none) (names.zip vs)) [(I, o₀)]) :
    FnR prog w mean mg mb f vs (k + 1) I o₀ := by
  intro A base frames s Q E X T hh hfr hff hst hdp hu hI hret
  refine wpAny_call ?_
  have hX : (Mine.th.heap_1_1 w.params).In s.heap := fun b o e => of_hideAll _ (X b o e)
  refine codeAny_call_def (fd := fnX name qual params body scope [] dV kV doc pm an cdv ct) (body := body) (binds := names.zip vs) (by omega) (hX _ _ ho) rfl (T.nolimit.keeps fun b o e => of_hideAll _ e) (codeRec_of hX hcd) rfl (BindsTo.of_eq hbind) hcell hloc (fun h₁ hns hk₁ => ?_) hco hgen hk
  have hsz : (hideAll s.heap [I]).objs.size = s.heap.objs.size := hideAll_size ..
  have F₁ : Fr (hideAll s.heap [I]) s.heap.objs.size h₁ (kstB (fun _ => none) (names.zip vs)) := ⟨(zip_lookup (fun _ => none) _ ((zip_sub _ _).nodup hnd)) ▸ hns, fun b o e => hk₁ b o (of_hideAll _ e), by rw [hsz]; exact Nat.le_refl _⟩
  have hnew : base.get? s.heap.objs.size = none := by
    have := hst.fresh
    rw [hsz] at this
    exact this
  have hIL : I ≠ s.heap.objs.size := Nat.ne_of_lt (Heap.lt_size hI)
  have hIn : (hideAll s.heap [I]).get? I = none := hideAll_none _ (.head _)
  let C : Cx := ⟨prog, w, mean, mg, mb, A.deeper (envOf qual scope s.heap.objs.size f cdv),
    (fun e s' => wpAny (model prog w) (A.deeper (envOf qual scope s.heap.objs.size f cdv)) (leaving (envOf qual scope s.heap.objs.size f cdv) e) (fun _ s'' => E e s'') (fun e' s'' => E e' s'') s'),
    hideAll s.heap [I], s.heap.objs.size, s.gens, s.drawn, s.os, base, envOf qual scope s.heap.objs.size f cdv :: frames⟩
  have O : C.Ok k := by
    refine ⟨X, T, hh, Around.frames_deeper hfr, fun h m F => ?_, hst, ?_, ?_⟩
    · exact .cons (by show scope.kind ≠ .module; rw [hk]; decide) rfl F.ns hnew (hff.of_keeps fun b o e _ => ⟨o, F.keep b o e, rfl⟩)
    · show A.depth + 1 + k < _; omega
    · show A.units + 3 + 10 * k < _; omega
  have N₁ : News (hideAll s.heap [I]) s.heap.objs.size h₁ [(I, o₀)] := fun p hp => by
    rw [List.mem_singleton.mp hp]
    exact ⟨hk₁ _ _ hI, hIL, hIn⟩
  have hE : ∀ h h' m e tk, Fr C.h₀ C.L h m → Heap.NewExc h h' e "StopIteration" → C.E (.ref e) ⟨h', C.g, C.d, tk, C.o⟩ := fun h h' m e tk F hx =>
    leave_newS (s' := ⟨h', s.gens, s.drawn, tk, s.os⟩) (⟨hfr, hst, hff⟩ : PyProof.Rows.Below A base frames (hideAll s.heap [I])) hx F News.nil (fun h'' R _ hs => hret h'' e tk R hs) hk
  have := H C rfl rfl rfl rfl rfl O hE hIL h₁ (s.toks + (names.zip vs).length) F₁ N₁
  refine wpAny_mono this (fun fl s' p => ?_) fun _ _ x => x
  obtain ⟨h', tk', m', n', rfl, F', N', q⟩ := p
  exact q.elim
end
end Mine

namespace Mine
open PySem PySem.W PyProof.Rows PySem.Calls PyProof.V PySem.Spec
/-! enumerate over a tuple -/
section
variable {prog : Program} {w : World} {A : Around} {E : Value → Shared → Prop} {s : Shared}
theorem nextOf_tup_item {it t : Addr} {i : Nat} {items : Array Value} {x : Value} {Q : Value → Shared → Prop} (hit : s.heap.IsTupleIter it t i) (ht : s.heap.IsTuple t items) (hx : items[i]? = some x)
    (hQ : ∀ h', h'.IsTupleIter it t (i + 1) → Heap.SameBut it s.heap h' → Q x { s with heap := h' }) : wpAny (model prog w) A (Builtin.SmallTypes.nextOf (.ref it)) Q E s := by
  obtain ⟨o, ho, hc, hd⟩ := id hit
  obtain ⟨ol, hol, _, nl, hdl⟩ := ht
  unfold Builtin.SmallTypes.nextOf
  refine wpAny_bind (wpAny_callSpecial?_slot (name := Str.ofString "__next__") hit.typeIs PySem.F.slot_tuple_iterator_next
    (wpAny_call_entry PySem.F.slot_tuple_iterator_next hit.typeIs PySem.F.entry_tuple_iterator_next ?_ (PySem.F.args_tuple_iterator_next_1 _)))
  show wpAny _ _ (field (.ref it) 0 >>= _) _ _ s
  refine wpAny_bind (wpAny_field ho hd (x := .ref t) rfl ?_)
  show wpAny _ _ (if (Value.ref t == Value.none) = true then _ else _) _ _ s
  rw [if_neg (show ¬ ((Value.ref t == Value.none) = true) from Bool.false_ne_true)]
  show wpAny _ _ (field (.ref it) 1 >>= _) _ _ s
  refine wpAny_bind (wpAny_field ho hd (x := .int i 0) rfl ?_)
  show wpAny _ _ (seqItems? (.ref t) >>= _) _ _ s
  refine wpAny_bind (wpAny_seqItems hol hdl ?_)
  simp only [Int.toNat_natCast, hx]
  refine wpAny_bind (wpAny_setField ho hd (by simp) (wpAny_pure ⟨x, rfl, wpAny_pure (hQ _ ?_ (Heap.SameBut.update ..))⟩))
  exact ⟨_, Heap.get?_update_self _ ho (Obj.isFreed_of_fields (Obj.data_mapFields hd _)), (Obj.cls_mapFields ..).trans hc, by
    rw [Obj.data_mapFields hd]; simp [rawInt]⟩
theorem nextOf_tup_end {it t : Addr} {i : Nat} {items : Array Value} {Q : Value → Shared → Prop} (hh : A.handled = none) (hit : s.heap.IsTupleIter it t i) (ht : s.heap.IsTuple t items) (hx : items[i]? = none)
    (hE : ∀ h' e, Heap.ExtBut it s.heap h' → (∃ o, h'.get? e = some o ∧ o.cls = .type "StopIteration") → E (.ref e) { s with heap := h' }) : wpAny (model prog w) A (Builtin.SmallTypes.nextOf (.ref it)) Q E s := by
  obtain ⟨o, ho, hc, hd⟩ := id hit
  obtain ⟨ol, hol, _, nl, hdl⟩ := ht
  unfold Builtin.SmallTypes.nextOf
  refine wpAny_bind (wpAny_callSpecial?_slot (name := Str.ofString "__next__") hit.typeIs PySem.F.slot_tuple_iterator_next
    (wpAny_call_entry PySem.F.slot_tuple_iterator_next hit.typeIs PySem.F.entry_tuple_iterator_next ?_ (PySem.F.args_tuple_iterator_next_1 _)))
  show wpAny _ _ (field (.ref it) 0 >>= _) _ _ s
  refine wpAny_bind (wpAny_field ho hd (x := .ref t) rfl ?_)
  show wpAny _ _ (if (Value.ref t == Value.none) = true then _ else _) _ _ s
  rw [if_neg (show ¬ ((Value.ref t == Value.none) = true) from Bool.false_ne_true)]
  show wpAny _ _ (field (.ref it) 1 >>= _) _ _ s
  refine wpAny_bind (wpAny_field ho hd (x := .int i 0) rfl ?_)
  show wpAny _ _ (seqItems? (.ref t) >>= _) _ _ s
  refine wpAny_bind (wpAny_seqItems hol hdl ?_)
  simp only [Int.toNat_natCast, hx]
  refine wpAny_bind (wpAny_rule (wpAny_bind (wpAny_setField ho hd (by simp) ?_)))
  show wpAny _ _ (newExc (.type "StopIteration") [] >>= _) _ _ _
  refine wpAny_bind ?_
  simp only [newExc, newTuple]
  refine wpAny_bind (wpAny_newObj_type ?_ (by size_fits))
  refine wpAny_bind (m := firstArgMember _ _) (wpAny_of_eq (a := Value.none) (by first | rfl | (simp only [firstArgMember]; rfl)) ?_)
  refine wpAny_newObj_type ?_ (by size_fits)
  simp only [raiseNew]
  refine wpAny_bind (wpAny_handled ?_)
  first | rw [show A.in1.handled = none from hh] | rw [hh]
  refine wpAny_bind (wpAny_pure (wpAny_throw ?_))
  exact hE _ _ (((Heap.SameBut.update ..).extBut.push _).push _) ⟨_, Heap.get?_push_size _ rfl, rfl⟩
theorem drawsT {prog : Program} {w : World} {A : Around} (hh : A.handled = none) (it l : Addr) (hne : l ≠ it) (items : Array Value) :
    Draws prog w A it [it, l] items.size (fun i v => items[i]? = some v) (fun i h => h.IsTupleIter it l i ∧ h.IsTuple l items) where
  live := fun _ _ st => let ⟨o, ho, _⟩ := st.1; ⟨o, ho⟩
  frame := fun _ _ _ st hk => ⟨let ⟨o, ho, r⟩ := st.1; ⟨o, hk it (by simp) o ho, r⟩, let ⟨o, ho, r⟩ := st.2; ⟨o, hk l (by simp) o ho, r⟩⟩
  item := fun i s Q E hi st hQ => by
    refine nextOf_tup_item st.1 st.2 (x := items[i]) (by simp [hi]) fun h' hit' hs' => ?_
    exact hQ _ h' s.toks (by simp [hi]) ⟨hit', st.2.extBut hs'.extBut hne⟩ hs'
  done := fun s Q E st hE => nextOf_tup_end hh st.1 st.2 (by simp) hE
set_option maxRecDepth 100000 in
theorem meets_enumT (l : Addr) (items : Array Value) (n : Nat) :
    Meets (Builtin.«enumerate.__new__» ⟨[.type "enumerate", .ref l], []⟩) (fun _ R s => s.heap.get? l = some { cls := .type "tuple", data := .seq items n } ∧
      R (.ok (.ret (.ref (s.heap.push { cls := .type "tuple_iterator", data := .fields #[.ref l, .int 0 0] }).objs.size)))
        { s with heap := (s.heap.push { cls := .type "tuple_iterator", data := .fields #[.ref l, .int 0 0] }).push { cls := .type "enumerate", data := .fields #[.none, .bool false, .ref s.heap.objs.size, rawInt 0, .none, .none] } }) :=
  .of_wp fun prog w A R s h => by
    obtain ⟨hp, g, d, tk, os⟩ := s; obtain ⟨hl, h⟩ := h
    have hsub := sub_enumerate
    have hL : Heap.IsTuple (Shared.heap ⟨hp, g, d, tk, os⟩) l items := ⟨_, hl, rfl, n, rfl⟩
    wp_walk
    refine wpAny_stack_any fun st => wpAny_pure ?_
    split
    · rename_i c _ _ _ _ _
      cases (c == Value.type "enumerate")
      · wp_walk using wpAny_pyIter_tuple hL
        exact ⟨_, rfl, h⟩
      · wp_walk using wpAny_pyIter_tuple hL
        exact ⟨_, rfl, h⟩
    · wp_walk using wpAny_pyIter_tuple hL
      exact ⟨_, rfl, h⟩
theorem call_enumT {l : Addr} {items : Array Value} {n : Nat} {Q : Value → Shared → Prop} (hL : s.heap.get? l = some { cls := .type "tuple", data := .seq items n })
    (h : ∀ h', IsEnum h' (s.heap.objs.size + 1) s.heap.objs.size 0 .none → h'.IsTupleIter s.heap.objs.size l 0 → (∀ b o, s.heap.get? b = some o → h'.get? b = some o) → Q (.ref (s.heap.objs.size + 1)) { s with heap := h' }) :
    wpAny (model prog w) A (call (.type "enumerate") [.ref l]) Q E s := by
  refine callType_new PySem.F.called_enumerate (by decide) (PySem.F.typeCall_enumerate_1 _) (PySem.F.newCall_enumerate_1 _) (fun obj => PySem.F.args_object_init_2 obj _) PySem.F.entry_enumerate_new
    (meets_enumT l items n) ⟨hL, ?_⟩
  have hz : (s.heap.push { cls := .type "tuple_iterator", data := .fields #[.ref l, .int 0 0] }).objs.size = s.heap.objs.size + 1 := Heap.size_push ..
  show _ ∧ _
  rw [hz]
  have he : IsEnum ((s.heap.push { cls := .type "tuple_iterator", data := .fields #[.ref l, .int 0 0] }).push
      { cls := .type "enumerate", data := .fields #[.none, .bool false, .ref s.heap.objs.size, rawInt 0, .none, .none] }) (s.heap.objs.size + 1) s.heap.objs.size 0 .none := by
    have := Heap.get?_push_size (s.heap.push { cls := .type "tuple_iterator", data := .fields #[.ref l, .int 0 0] })
      (o := { cls := .type "enumerate", data := .fields #[.none, .bool false, .ref s.heap.objs.size, rawInt 0, .none, .none] }) rfl
    rw [hz] at this; exact this
  refine ⟨⟨_, he, rfl⟩, h _ he ⟨_, Heap.get?_push_of_some _ (Heap.get?_push_size _ rfl), rfl, rfl⟩ fun b o x => Heap.get?_push_of_some _ (Heap.get?_push_of_some _ x)⟩
end
section
variable {C : Cx} {k : Nat} {m : Loc} {n : Led} {env : Env} {QF : Flow → Loc → Led → Prop}
theorem ws_enumT {σ : Type} {xi xv : Str} {pi pv pt : Pos} {x1 : Nat} {body orelse : List Stmt} {l : Addr} (vs : List Value) (Led : Nat → σ → Led) (ps : Nat → σ → List (Str × Value)) (P : Nat → σ → Prop) (c₀ : σ) (O : C.Ok k) (hE : PassesOwn (model C.prog C.w) C.A env C.E)
    (hl0 : (l, tupOf vs.toArray) ∈ n) (hl : ∀ i c, P i c → (l, tupOf vs.toArray) ∈ Led i c) (hoff : ∀ e, AllLt e n → ∀ i c, P i c → ∀ p ∈ Led i c, p.1 < e) (hs : SubL (Led 0 c₀) n) (hn : AllN m (ps 0 c₀)) (hp : P 0 c₀)
    (turn : ∀ e it i c u oe oi t v, AllLt it n → it < e → vs[i]? = some v → P i c → WS C (storeName env xi (.int i t)) (fun _ m n => WS C (storeName env xv v) (fun _ m n => WS C (execs body env) (LPE C e it oe oi Led ps P QF (i + 1)) m n) m n) (kstB u (ps i c)) ((e, oe) :: (it, oi) :: Led i c))
    (done : ∀ c u, P vs.length c → WS C (execs orelse env) QF (kstB u (ps vs.length c)) (Led vs.length c)) :
    WS C (call (.type "enumerate") [.ref l]) (fun xv' m n => WS C (pyIter xv') (fun it m n => FAtT C env xi xv pi pv pt x1 body orelse QF it m n) m n) m n := by
  intro h tk F N
  have hlt : l < h.objs.size := Heap.lt_size (N _ hl0).1
  refine call_enumT (N _ hl0).1 fun h' he hi hk => ?_
  have hF' := F.keeps hk
  have fresh : ∀ a, h.objs.size ≤ a → a ≠ C.L ∧ C.h₀.get? a = none := fun a ha => not_in_of F ha
  obtain ⟨oi₀, hoi, hoi1, hoi2⟩ := hi
  have N' : News C.h₀ C.L h' ((h.objs.size + 1, _) :: (h.objs.size, oi₀) :: n) := fun p hp => by
    rcases List.mem_cons.mp hp with e | hp
    · rw [e]; exact ⟨he, fresh _ (Nat.le_succ _)⟩
    · rcases List.mem_cons.mp hp with e | hp
      · rw [e]; exact ⟨hoi, fresh _ (Nat.le_refl _)⟩
      · exact N.grown hk p hp
  refine ⟨h', tk, m, _, rfl, hF', N', ?_⟩
  intro h2 tk2 F2 N2
  refine wpAny_pyIter_enum (N2 _ (.head _)).1 ⟨h2, tk2, m, _, rfl, F2, N2, ?_⟩
  have a1 : AllLt h.objs.size n := allLt_new N (Nat.le_refl _)
  have W := WalksT.enumerateD (drawsT (prog := C.prog) (w := C.w) (A := C.A.in1) O.handled h.objs.size l (Nat.ne_of_lt hlt) vs.toArray) (h.objs.size + 1) (Nat.succ_ne_self _) (by simp; exact Nat.ne_of_gt (Nat.lt_succ_of_lt hlt)) (by simp)
  have W' : WalksT C.prog C.w C.A (h.objs.size + 1) [h.objs.size + 1, h.objs.size, l] [h.objs.size + 1, h.objs.size] vs.length (fun i vals => ∃ t x, vs[i]? = some x ∧ vals = #[.int i t, x])
      (fun i h' => (∃ old, IsEnum h' (h.objs.size + 1) h.objs.size i old) ∧ h'.IsTupleIter h.objs.size l i ∧ h'.IsTuple l vs.toArray)
      (fun i T h' => (∃ x, IsEnumOut h' (h.objs.size + 1) h.objs.size ((i : Int) + 1) x T) ∧ (h'.IsTupleIter h.objs.size l (i + 1) ∧ h'.IsTuple l vs.toArray) ∧ T ≠ h.objs.size + 1 ∧ T ≠ h.objs.size) := by
    simpa using W
  refine ws_loopE W' (fun i oe oi => (∃ old, oe = { cls := .type "enumerate", dict := none, data := .fields #[.none, .bool false, .ref h.objs.size, rawInt i, .none, old], slots := #[] }) ∧ oi.cls = .type "tuple_iterator" ∧ oi.data = .fields #[.ref l, .int i 0]) Led ps P c₀ O hE
    ?_ ?_ (fun i c hP p hp => ?_) ⟨⟨_, rfl⟩, hoi1, hoi2⟩ (.head _) (.tail _ (.head _)) (subL_of fun p hp => .tail _ (.tail _ (hs.mem p hp))) hn hp (fun i c u oe oi t v hi hv hP => turn _ _ i c u oe oi t v a1 (Nat.lt_succ_self _) hv hP) done
  · rintro i oe oi g mm c ⟨⟨old, rfl⟩, b1, b2⟩ hP g1 g2 Fg Ng
    exact ⟨⟨old, g1⟩, ⟨oi, g2, b1, b2⟩, ⟨_, (Ng _ (hl i c hP)).1, rfl, _, rfl⟩⟩
  · rintro i g ⟨⟨old, g1⟩, ⟨oi, g2, b1, b2⟩, _⟩
    exact ⟨_, oi, g1, g2, ⟨old, rfl⟩, b1, b2⟩
  · have := hoff h.objs.size a1 i c hP p hp
    exact ⟨Nat.ne_of_lt (Nat.lt_succ_of_lt this), Nat.ne_of_lt this⟩
end
end Mine

namespace Mine
open PySem PySem.W PyProof.Rows PySem.Calls PyProof.V PySem.Spec
section
variable {C : Cx} {k : Nat} {m : Loc} {n n' : Led} {env : Env} {pos : Pos} {QF : Flow → Loc → Led → Prop} {x y z T : Str} {t : Tok}
theorem ws_escif {k1 k2 k3 : Nat} {p0 p1 p2 p3 p4 p5 p6 p7 p8 p9 : Pos} {pl : Sem Bool} (hv : m x = some (.str T t)) (hyz : (y == z) = false) (hb : T.length + (T.length + 1) * z.length ≤ 16777216) (H : ∀ t', QF .next (fun w => if w = x then some (.str (escStep T y z) t') else m w) n)
    (hL : env.locals = C.L := by k_dflt rfl) (hk : env.scope.kind = .function := by k_dflt rfl) (hl : env.kindOf x = some .local := by k_dflt rfl) (hd : (x == ("__debug__" : Str)) = false := by decide)
    (hp : (env.scope.kind == .class || (env.scope.kind == .module && env.locals != env.globals)) = false := by k_dflt rfl)
    (hm : behindInMarks .In (.Name x p2) = false := by with_unfolding_all rfl)
    (hsw : swapsWith (.Call (.Attribute (.Name x p4) (Str.ofString "replace") p5) [.Constant (.str y) k2 p6, .Constant (.str z) k3 p7] [] p8) (some (.Name x p3)) p9.line env = pure false := by k_dflt rfl)
    (he : eval (.Call (.Attribute (.Name x p4) (Str.ofString "replace") p5) [.Constant (.str y) k2 p6, .Constant (.str z) k3 p7] [] p8) env = (do
      let ov ← eval (.Name x p4) env
      standAt p5.atName
      let (f, first) ← holding [ov] (getMethod ov (Str.ofString "replace") pl)
      callWith p8 f first (backTo p8 (starEach [.Constant (.str y) k2 p6, .Constant (.str z) k3 p7] env)) []) := by k_dflt rfl) :
    WS C (exec (.If (.Compare (.Constant (.str y) k1 p1) [.In] [.Name x p2] p0) [.Assign [.Name x p3] (.Call (.Attribute (.Name x p4) (Str.ofString "replace") p5) [.Constant (.str y) k2 p6, .Constant (.str z) k3 p7] [] p8) p9] [] pos) env) QF m n := by
  intro h tk F N
  refine wpAny_If (wpAny_isTrue_Compare1 (Calls.Constant_str (wpAny_Name (wpAny_loadName_local hk hl (hL ▸ F.ns) hv (P.in_str (wpAny_truthy_bool ?_))) hd)) hm)
  show (if Txt.contains T y = true then _ else _)
  cases hc : Txt.contains T y with
  | false =>
    simp only [Bool.false_eq_true, if_false]
    have e : (fun w => if w = x then some (.str (escStep T y z) t) else m w) = m := by
      funext w
      by_cases hw : w = x
      · subst hw; rw [if_pos rfl, hv, escStep, hc]; simp
      · rw [if_neg hw]
    have := H t
    rw [e] at this
    exact wpAny_execs_nil (Q := Post C QF) ⟨h, _, m, n, rfl, F, N, this⟩
  | true =>
    simp only [if_true]
    have hr : escStep T y z = Txt.replace T y z := by rw [escStep, hc]; simp
    refine wpAny_execs_cons (wpAny_Assign_Name ?_ hsw)
    refine MethodCall_ ?_ he
    refine wpAny_Name ?_ hd
    refine wpAny_loadName_local hk hl (hL ▸ F.ns) hv ?_
    refine GM.replace ?_
    refine callWith_method1 ?_ (by rfl) (by rfl)
    refine spliced_more (Calls.Constant_str ?_) (by rfl)
    refine spliced_more (Calls.Constant_str ?_) (by rfl)
    refine spliced_none ?_
    refine SC.replace (Nat.succ_ne_zero _) (Nat.succ_ne_zero _) (Nat.ne_of_lt (Nat.lt_succ_self _)) hyz hb fun t' tk' => ?_
    refine wpAny_storeName_local hl (hL ▸ F.ns) (fun h' hn hs => ?_) hp
    have := H t'
    rw [hr] at this
    exact wpAny_execs_nil (Q := Post C QF) ⟨h', _, _, n, rfl, F.set (hL ▸ hn) (hL ▸ hs), N.set (hL ▸ hs), this⟩
theorem ws_escT {k1 k2 k3 : Nat} {p0 p1 p2 p3 p4 p5 p6 p7 p8 p9 : Pos} {pl : Sem Bool} (tab : Tab) (l : List Nat) (c : Nat) (zl : List Nat) (hv : m x = some (.str (tx (flatT tab l)) t)) (hy : y = tx [c]) (hz : z = tx zl) (hcz : (zl == [c]) = false) (hl6 : zl.length ≤ 6)
    (h1 : tab.lookup c = none) (h2 : ∀ p ∈ tab, c ∉ p.2 ∧ p.2.length ≤ 6) (hlen : l.length ≤ 100000) (H : ∀ t', QF .next (fun w => if w = x then some (.str (tx (flatT (tab ++ [(c, zl)]) l)) t') else m w) n)
    (hL : env.locals = C.L := by k_dflt rfl) (hk : env.scope.kind = .function := by k_dflt rfl) (hl : env.kindOf x = some .local := by k_dflt rfl) (hd : (x == ("__debug__" : Str)) = false := by decide)
    (hp : (env.scope.kind == .class || (env.scope.kind == .module && env.locals != env.globals)) = false := by k_dflt rfl)
    (hm : behindInMarks .In (.Name x p2) = false := by with_unfolding_all rfl)
    (hsw : swapsWith (.Call (.Attribute (.Name x p4) (Str.ofString "replace") p5) [.Constant (.str y) k2 p6, .Constant (.str z) k3 p7] [] p8) (some (.Name x p3)) p9.line env = pure false := by k_dflt rfl)
    (he : eval (.Call (.Attribute (.Name x p4) (Str.ofString "replace") p5) [.Constant (.str y) k2 p6, .Constant (.str z) k3 p7] [] p8) env = (do
      let ov ← eval (.Name x p4) env
      standAt p5.atName
      let (f, first) ← holding [ov] (getMethod ov (Str.ofString "replace") pl)
      callWith p8 f first (backTo p8 (starEach [.Constant (.str y) k2 p6, .Constant (.str z) k3 p7] env)) []) := by k_dflt rfl) :
    WS C (exec (.If (.Compare (.Constant (.str y) k1 p1) [.In] [.Name x p2] p0) [.Assign [.Name x p3] (.Call (.Attribute (.Name x p4) (Str.ofString "replace") p5) [.Constant (.str y) k2 p6, .Constant (.str z) k3 p7] [] p8) p9] [] pos) env) QF m n := by
  refine ws_escif hv ?_ ?_ (fun t' => ?_) hL hk hl hd hp hm hsw he
  · subst hy hz
    apply Bool.eq_false_iff.mpr
    intro hh
    have e := eq_of_beq hh
    have e2 : zl = [c] := by
      have := congrArg (fun q : Str => q.cps.toList) e
      simpa using this.symm
    rw [e2] at hcz
    simp at hcz
  · subst hz
    rw [tx_len, tx_len]
    have h3 := flatT_len tab (fun p hp => (h2 p hp).2) l
    have h4 : ((flatT tab l).length + 1) * zl.length ≤ ((flatT tab l).length + 1) * 6 := Nat.mul_le_mul_left _ hl6
    omega
  · have := H t'
    rw [← flatT_step tab c zl h1 (fun p hp => (h2 p hp).1) l, ← esc_flat] at this
    rw [hy, hz]
    exact this
theorem ok_E (O : C.Ok k) (E : Value → Shared → Prop) : Cx.Ok { C with E := E } k := ⟨O.kin, O.top, O.handled, O.frames, O.ground, O.stays, O.depth, O.units⟩
/-- a try whose body raises nothing -/
theorem ws_tryQ {body orelse : List Stmt} {h₀ : ExceptHandler} {hs : List ExceptHandler} (H : WS { C with E := fun _ _ => False } (execs body env) (fun f m n => match f with | .next => WS C (execs orelse env) QF m n | f => QF f m n) m n) :
    WS C (exec (.Try body (h₀ :: hs) orelse [] pos) env) QF m n := by
  intro h tk F N
  refine wpAny_Try_except (wpAny_mono (H h tk F N) (fun f s p => ?_) fun _ _ x => x.elim)
  obtain ⟨h, tk, m, n, rfl, F, N, H⟩ := p
  cases f with
  | next => exact H h tk F N
  | brk => exact ⟨h, tk, m, n, rfl, F, N, H⟩
  | cont => exact ⟨h, tk, m, n, rfl, F, N, H⟩
  | ret v => exact ⟨h, tk, m, n, rfl, F, N, H⟩
end
end Mine

open Mine
open PySem PySem.W PyProof.Rows PySem.Calls PyProof.V PySem.Spec
local macro_rules | `(tactic| tb_rel) => `(tactic| first | k_dflt rfl | assumption)
local macro_rules | `(tactic| ktr_rel) => `(tactic| first
  | with_reducible refine seq_next ?_
  | with_reducible refine seq_ret ?_
  | with_reducible refine seq_brk ?_
  | with_reducible refine Mine.lpi_brk ?_
  | with_reducible refine ws_itT ?_
  | with_reducible refine ws_itF ?_
  | with_reducible refine ws_nil ?_
  | with_reducible refine ws_cons ?_
  | (with_reducible refine Mine.ws_assignLc (cl := ?cl) ?hc ?hk ?hn ?_; (case hc => k_dflt rfl); (case hk => exact rfl); (case hn => decide))
  | with_reducible refine ws_assign ?_
  | with_reducible refine Mine.ws_asub ?_
  | with_reducible refine Mine.ws_pairs1 ?_
  | with_reducible refine Mine.ws_pairs0 ?_
  | with_reducible refine ws_aug ?_
  | with_reducible refine ws_if ?_
  | with_reducible refine ws_ret ?_
  | with_reducible refine ws_expr ?_
  | with_reducible refine ws_break ?_
  | with_reducible refine ws_for ?_
  | with_reducible refine Mine.ws_forT ?_
  | with_reducible refine Mine.ws_augsub ?_
  | with_reducible refine ws_pn ?_
  | with_reducible refine ws_ps ?_
  | (with_reducible refine ws_int ?_; intro _)
  | (with_reducible refine ws_str ?_; intro _)
  | (with_reducible refine ws_loc (v := ?v) ?hv ?_; (case hv => tb_rel))
  | (with_reducible refine ws_load (v := ?v) ?hv ?_; (case hv => tb_rel))
  | (with_reducible refine Mine.ws_loadc (c := ?c) (o := ?o) (v := ?v) ?hc ?hm ?_; (case hc => k_dflt rfl); (case hm => k_dflt k_mem))
  | (with_reducible refine Mine.ws_cell (c := ?c) (o := ?o) (v := ?v) ?hc ?hm ?_; (case hc => k_dflt rfl); (case hm => k_dflt k_mem))
  | with_reducible refine ws_store ?_
  | (with_reducible refine' Mine.ws_storec ?hc ?U ?_; (case hc => k_dflt rfl); (case U => k_dflt k_upd))
  | with_reducible refine Mine.ws_tests0 ?_
  | with_reducible refine Mine.ws_tests1 ?_
  | (with_reducible refine ws_glob (v := ?v) (by assumption) ?e ?_; (case e => first | k_dflt k_is | k_dflt rfl))
  | (with_reducible refine ws_bltn (v := ?v) (by assumption) ?e ?hv ?_; (case e => k_dflt k_is); (case hv => boot_by_name))
  | (with_reducible refine Mine.ws_lc (cl := ?cl) ?hc ?hk ?hn ?_; (case hc => k_dflt rfl); (case hk => exact rfl); (case hn => decide))
  | with_reducible refine ws_binop ?_
  | with_reducible refine ws_unop ?_
  | with_reducible refine ws_tcmp ?_
  | with_reducible refine ws_cmp ?_
  | with_reducible refine ws_tnot ?_
  | with_reducible refine ws_tor ?_
  | with_reducible refine ws_tor0 ?_
  | with_reducible refine ws_tand ?_
  | with_reducible refine ws_tand0 ?_
  | with_reducible refine ws_ifexp ?_
  | with_reducible refine ws_and ?_
  | with_reducible refine ws_bool1 ?_
  | with_reducible refine Mine.ws_slice ?_
  | with_reducible refine ws_sub' ?_
  | with_reducible refine ws_list ?_
  | with_reducible refine ws_tuple ?_
  | with_reducible refine ws_sp0 ?_
  | with_reducible refine ws_sp1 ?_
  | with_reducible refine ws_meth ?_
  | with_reducible refine ws_call ?_
  | (with_reducible refine ws_cwK (by assumption) ?hk ?_; (case hk => k_dflt k_is))
  | with_reducible refine ws_cwT ?_
  | with_reducible refine ws_cwB0 ?_
  | with_reducible refine ws_cwB ?_
  | (with_reducible refine ws_add ?_; intro _)
  | (with_reducible refine ws_iadd ?_; intro _)
  | (with_reducible refine ws_subi ?_; intro _)
  | (with_reducible refine ws_mod (by decide) ?_; intro _)
  | (with_reducible refine ws_band ?_; intro _)
  | (with_reducible refine ws_bor ?_; intro _)
  | (with_reducible refine ws_ibor ?_; intro _)
  | (with_reducible refine ws_ibxor ?_; intro _)
  | (with_reducible refine ws_neg ?_; intro _)
  | with_reducible refine ws_eq ?_
  | with_reducible refine ws_ne ?_
  | with_reducible refine ws_lt ?_
  | with_reducible refine ws_gt ?_
  | with_reducible refine ws_ge ?_
  | with_reducible refine ws_tb ?_
  | with_reducible refine ws_ti ?_
  | (with_reducible refine ws_newlist (by k_dflt (exact Nat.le_of_ble_eq_true rfl)) ?_; intro _ hL'; (try simp only [Mine.Fresh, AllLt, and_true] at hL'))
  | (with_reducible refine ws_newtup (by k_dflt (exact Nat.le_of_ble_eq_true rfl)) ?_; intro _ hL'; (try simp only [Mine.Fresh, AllLt, and_true] at hL'))
  | (with_reducible refine ws_range1 ?_; intro _ _ _ hL'; (try simp only [Mine.Fresh, AllLt, and_true] at hL'))
  | (with_reducible refine ws_range2 ?_; intro _ _ hL'; (try simp only [Mine.Fresh, AllLt, and_true] at hL'))
  | (with_reducible refine ws_gmJoin ?_)
  | ((with_reducible show WS _ (getMethod (Value.ref _) (Str.ofString "append") _) _ _ _); refine' ws_gmL ?h PySem.F.slot_list_append PySem.F.type_list_append ?_; (case h => exact isLst_mem (by k_mem)))
  | (with_reducible refine' ws_append ?U ?hz ?_; (case U => k_upd); (case hz => first | omega | (rw [sizeLine_eq]; exact Nat.le_of_ble_eq_true rfl) | (rw [sizeLine_eq]; omega) | ((try dsimp only); (rw [sizeLine_eq]; omega))))
  | ((with_reducible show WS _ (call _ (_ ++ _)) _ _ _); dsimp only [List.cons_append, List.nil_append])
  | with_reducible refine ⟨rfl, ?_⟩
  | with_reducible refine ws_ttrue ?_)

local macro_rules | `(tactic| tb_start) => `(tactic| first
  | (refine' fn_of ?ho ?hcd ?hnm ?hbind ?hnd ?hloc ?hco ?hgen ?hk ?hcell ?H; (case ho => k_dflt k_is); (case hcd => k_dflt k_is); (case hnm => dsimp only [List.map]); (case hbind => k_dflt rfl); (case hnd => decide); (case hloc => exact locs rfl); (case hco => exact rfl); (case hgen => exact rfl); (case hk => exact rfl); (case hcell => decide))
  | (refine' Mine.fn_ofC ?ho ?hcd ?hnm ?hbind ?hkind ?hnd ?hco ?hgen ?hk ?H; (case ho => k_dflt k_is); (case hcd => k_dflt k_is); (case hnm => dsimp only [List.map]); (case hbind => k_dflt rfl); (case hkind => intro n y hy; simp only [List.zip, List.zipWith, List.mem_cons, List.not_mem_nil, or_false] at hy; first | (subst hy; first | exact .inl rfl | exact .inr ⟨rfl, rfl⟩) | (rcases hy with hy | hy <;> (subst hy; first | exact .inl rfl | exact .inr ⟨rfl, rfl⟩))); (case hnd => decide); (case hco => exact rfl); (case hgen => exact rfl); (case hk => exact rfl)))
namespace Mine
open PySem PySem.W PyProof.Rows PySem.Calls PyProof.V PySem.Spec
def tri (k : Int) : Int := if k = 0 then 0 else if k = 1 then 1 else 16
theorem tri_le (k : Int) : (tri k).natAbs < 2 ^ 64 := by unfold tri; split <;> (try split) <;> decide

theorem ws_itemTri {C : Cx} {value slice : Expr} {i : Int} {u t0 t1 t2 : Tok} {l : Addr} {n : Led} {m : Loc} {QV : Value → Loc → Led → Prop} (hl : IsTpl C n l [Value.int 0 t0, .int 1 t1, .int 16 t2]) (h0 : 0 ≤ i) (h1 : i < 3) (H : ∀ t, QV (.int (tri i) t) m n)
    (hs : subscripted slice false (.ref l) (.int i u) = operate [.ref l, .int i u] (getItem (.ref l) (.int i u)) := by with_unfolding_all rfl) : WS C (subscriptTail value slice (.ref l) (.int i u)) QV m n := by
  have hk : i = 0 ∨ i = 1 ∨ i = 2 := by omega
  rcases hk with rfl | rfl | rfl
  · exact ws_itemT hl (by decide) (by decide) (j := 0) rfl rfl (H _) hs
  · exact ws_itemT hl (by decide) (by decide) (j := 1) rfl rfl (H _) hs
  · exact ws_itemT hl (by decide) (by decide) (j := 2) rfl rfl (H _) hs
def symA (n : Int) (j : Nat) : Int := tri ((n.fdiv (3 ^ j)).fmod 3) * 2 ^ j
def symS (n : Int) : Nat → Int
  | 0 => 0
  | j + 1 => symS n j + symA n j
def symF (n : Int) : Int := if symS n 4 = 0 ∨ (n.fdiv 81).fmod 2 = 1 then symS n 4 + 256 else symS n 4

theorem sp_symbol {prog w mean mg mb} (n : Int) (t : Tok) (hn : 0 ≤ n) (hn' : n < 2 ^ 40) : Fn prog w mean mg mb 109 [.int n t] 3 anyP (isI (symF n)) := by
  tb_start
  intro C e1 e2 e3 e4 e5 O hE _
  subst e1 e2 e3 e4 e5
  dsimp only [List.zip, List.zipWith]
  repeat' ktr_rel
  refine ws_loopR 4 (fun _ _ => []) (fun i c => [(Str.ofString "number", .int n t), (Str.ofString "symbol", .int (symS n i) c)]) (fun _ _ => True) _ O hE (.head _) (by decide) (by decide) (by simp) trivial ⟨rfl, rfl, trivial⟩ trivial ?turn ?done
  case turn =>
    intro i c u I o ti hi _ _
    have hi' : i = 0 ∨ i = 1 ∨ i = 2 ∨ i = 3 := by omega
    rcases hi' with rfl | rfl | rfl | rfl
    all_goals
      repeat' ktr_rel
      refine ws_pow (by decide) (by decide) ?_
      intro _
      repeat' ktr_rel
      refine ws_div (by decide) (PyProof.noPylong_small (by decide)) ?_
      intro _
      repeat' ktr_rel
      refine ws_itemTri (isTpl_mem (.head _)) (Int.fmod_nonneg_of_pos _ (by decide)) (Int.fmod_lt_of_pos _ (by decide)) ?_
      intro _
      repeat' ktr_rel
      refine ws_shl (by decide) (by decide) (tri_le _) ?_
      intro _
      repeat' ktr_rel
      exact ⟨_, .tail _ (.head _), trivial, ⟨rfl, rfl, trivial⟩, trivial⟩
  case done =>
    intro c u _
    repeat' ktr_rel
    refine ws_ite ?_ ?_
    · intro h1
      repeat' ktr_rel
      exact fun h _ _ => ⟨_, by rw [symF, if_pos (.inl (by simpa using h1))]⟩
    · intro h1
      have h1' : ¬ symS n 4 = 0 := by simpa using h1
      repeat' ktr_rel
      refine ws_div (by decide) (PyProof.noPylong_small (by decide)) ?_
      intro _
      repeat' ktr_rel
      refine ws_ite ?_ ?_
      · intro h2
        repeat' ktr_rel
        exact fun h _ _ => ⟨_, by rw [symF, if_pos (.inr (by simpa using h2))]⟩
      · intro h2
        repeat' ktr_rel
        exact fun h _ _ => ⟨_, by rw [symF, if_neg (by rintro (h | h); exact h1' h; exact absurd h (by simpa using h2))]⟩
end Mine

namespace Mine
open PySem PySem.W PyProof.Rows PySem.Calls PyProof.V PySem.Spec
theorem sp_isterm {prog w mean mg mb} (x : Int) (t : Tok) : Fn prog w mean mg mb 39 [.int x t] 1 anyP (isB (decide (x < 256))) := by
  tb_start
  intro C e1 e2 e3 e4 e5 O hE _
  subst e1 e2 e3 e4 e5
  dsimp only [List.zip, List.zipWith]
  repeat' ktr_rel
  exact fun h _ _ => rfl
theorem sp_isnont {prog w mean mg mb} (x : Int) (t : Tok) : Fn prog w mean mg mb 46 [.int x t] 1 anyP (isB (decide (x ≥ 256))) := by
  tb_start
  intro C e1 e2 e3 e4 e5 O hE _
  subst e1 e2 e3 e4 e5
  dsimp only [List.zip, List.zipWith]
  repeat' ktr_rel
  exact fun h _ _ => rfl
theorem sp_iseof {prog w mean mg mb} (x : Int) (t : Tok) : Fn prog w mean mg mb 53 [.int x t] 1 anyP (isB (x == 0)) := by
  tb_start
  intro C e1 e2 e3 e4 e5 O hE _
  subst e1 e2 e3 e4 e5
  dsimp only [List.zip, List.zipWith]
  repeat' ktr_rel
  exact fun h _ _ => rfl
end Mine

namespace Mine
open PySem PySem.W PyProof.Rows PySem.Calls PyProof.V PySem.Spec
def textOf : PyData → Option Str
  | .str x => some x
  | _ => none
theorem textOf_some {d : PyData} {x : Str} (h : textOf d = some x) : d = .str x := by
  cases d <;> simp_all [textOf]
def wordF (i : Nat) : Str := (textOf ((flagL.lookup ((2 ^ i : Nat) : Int)).getD (.str (baseText "0x" 16 ((2 ^ i : Nat) : Int))))).getD Str.empty
theorem word_is : ∀ i, i < 32 → (textOf ((flagL.lookup ((2 ^ i : Nat) : Int)).getD (.str (baseText "0x" 16 ((2 ^ i : Nat) : Int))))).isSome = true := by decide +kernel
theorem word_get (i : Nat) (h : i < 32) : (flagL.lookup ((2 ^ i : Nat) : Int)).getD (.str (baseText "0x" 16 ((2 ^ i : Nat) : Int))) = .str (wordF i) := by
  obtain ⟨x, hx⟩ := Option.isSome_iff_exists.mp (word_is i h)
  rw [wordF, hx]
  exact textOf_some hx
theorem word_len : ∀ i, i < 32 → (wordF i).length ≤ 18 := by decide +kernel
theorem hex_len : ∀ i, i < 32 → (baseText "0x" 16 ((2 ^ i : Nat) : Int)).length ≤ 18 := by decide +kernel
/-- the flags from the i-th place on -/
def fl (F i : Nat) : Nat := (F >>> i) <<< i
def wordsTo (F i : Nat) : List Str := ((List.range i).filter fun j => F.testBit j).map wordF
def prettyF (F : Nat) : Str := if F = 0 then Str.ofString "0x0" else Txt.join (Str.ofString ", ") (wordsTo F 32)

theorem fl_bit (F i j : Nat) : (fl F i).testBit j = (decide (i ≤ j) && F.testBit j) := by
  unfold fl
  rw [Nat.testBit_shiftLeft, Nat.testBit_shiftRight]
  by_cases h : i ≤ j
  · simp [h, show i + (j - i) = j by omega]
  · simp [h]
theorem fl_and (F i : Nat) : (((fl F i &&& 2 ^ i : Nat) : Int) != 0) = F.testBit i := by
  have h : fl F i &&& 2 ^ i = if F.testBit i then 2 ^ i else 0 := by
    apply Nat.eq_of_testBit_eq
    intro j
    rw [Nat.testBit_and, fl_bit, Nat.testBit_two_pow]
    by_cases hj : i = j
    · subst hj
      cases h : F.testBit i <;> simp [Nat.testBit_two_pow]
    · cases h : F.testBit i <;> simp [hj, Nat.testBit_two_pow]
  rw [h]
  cases F.testBit i with
  | true =>
    have := Nat.two_pow_pos i
    simp only [if_true, bne_iff_ne, ne_eq]
    omega
  | false => simp
theorem fl_xor (F i : Nat) (h : F.testBit i = true) : fl F i ^^^ 2 ^ i = fl F (i + 1) := by
  apply Nat.eq_of_testBit_eq
  intro j
  rw [Nat.testBit_xor, fl_bit, fl_bit, Nat.testBit_two_pow]
  by_cases hj : i = j
  · subst hj; simp [h]
  · by_cases h2 : i ≤ j
    · simp [hj, h2, show i + 1 ≤ j by omega]
    · simp [hj, h2, show ¬ i + 1 ≤ j by omega]
theorem fl_skip (F i : Nat) (h : F.testBit i = false) : fl F i = fl F (i + 1) := by
  apply Nat.eq_of_testBit_eq
  intro j
  rw [fl_bit, fl_bit]
  by_cases hj : i = j
  · subst hj; simp [h]
  · by_cases h2 : i ≤ j
    · simp [h2, show i + 1 ≤ j by omega]
    · simp [h2, show ¬ i + 1 ≤ j by omega]
theorem fl_zero (F : Nat) : fl F 0 = F := by simp [fl]
theorem fl_top (F : Nat) (h : F < 2 ^ 32) : fl F 32 = 0 := by
  unfold fl
  rw [Nat.shiftRight_eq_div_pow, Nat.div_eq_of_lt h]
  simp
theorem words_succ (F i : Nat) : wordsTo F (i + 1) = wordsTo F i ++ (if F.testBit i then [wordF i] else []) := by
  unfold wordsTo
  rw [List.range_succ, List.filter_append, List.map_append]
  cases h : F.testBit i <;> simp [h]
theorem words_done (F i : Nat) (h : fl F (i + 1) = 0) (k : Nat) : wordsTo F (i + 1 + k) = wordsTo F (i + 1) := by
  induction k with
  | zero => rfl
  | succ k ih =>
    rw [← Nat.add_assoc, words_succ, ih]
    have : F.testBit (i + 1 + k) = false := by
      have h2 := fl_bit F (i + 1) (i + 1 + k)
      rw [h] at h2
      simpa using h2.symm
    simp [this]
theorem words_count (F i : Nat) : (wordsTo F i).length ≤ i := by
  unfold wordsTo
  rw [List.length_map]
  exact Nat.le_trans (List.length_filter_le _ _) (by simp)
theorem words_sum (F i : Nat) (hi : i ≤ 32) : ((wordsTo F i).map (·.length)).sum ≤ 18 * i := by
  induction i with
  | zero => simp [wordsTo]
  | succ i ih =>
    rw [words_succ, List.map_append, List.sum_append]
    have h1 := ih (by omega)
    have h2 := word_len i (by omega)
    split <;> simp <;> omega

theorem strs_snoc {vs : List Value} {ys : List Str} (h : StrsAre vs ys) (y : Str) (t : Tok) : StrsAre (vs ++ [.str y t]) (ys ++ [y]) := by
  induction h with
  | nil => exact .cons y t .nil
  | cons a b _ ih => exact .cons a b ih
theorem strs_len {vs : List Value} {ys : List Str} (h : StrsAre vs ys) : vs.length = ys.length := h.length
theorem flat_str {v : Value} {x : Str} (h : Flat v (.str x)) : ∃ t, v = .str x t := Flat.str_inv h

theorem sp_pretty {prog w mean mg mb} (F : Nat) (hF : F < 2 ^ 32) (t : Tok) : Fn prog w mean mg mb 22 [.int F t] 2 anyP (isS (prettyF F)) := by
  tb_start
  intro C e1 e2 e3 e4 e5 O hE _
  subst e1 e2 e3 e4 e5
  dsimp only [List.zip, List.zipWith]
  repeat' ktr_rel
  rename_i a ha tk r _ _ hr
  have hz32 : ∀ {vs : List Value} {i : Nat}, StrsAre vs (wordsTo F i) → i ≤ 32 → vs.length ≤ 32 := fun h hi => by
    rw [strs_len h]; exact Nat.le_trans (words_count F _) hi
  have hline := sizeLine_eq
  refine ws_loopR 32 (fun _ (c : Tok × List Value × Nat) => [(a, listOf c.2.1.toArray c.2.2)]) (fun i c => [(Str.ofString "flags", .int ((fl F i : Nat) : Int) c.1), (Str.ofString "names", .ref a)])
    (fun i c => StrsAre c.2.1 (wordsTo F i) ∧ (F = 0 ∨ fl F i ≠ 0)) (t, [], 0) O hE (by k_mem) (by decide) (by decide) (by simp) ⟨by k_mem, trivial⟩ ⟨by rw [fl_zero]; rfl, rfl, trivial⟩ ⟨StrsAre.nil, by rw [fl_zero]; omega⟩ ?turn ?done
  case turn =>
    rintro i ⟨tf, vs, cn⟩ u I o ti hi ⟨hP, hz⟩ hne
    simp only [List.mem_cons, List.not_mem_nil, or_false, forall_eq] at hne
    replace hne := neN hne
    have e1 : (1 : Int) * 2 ^ (0 + (i : Int) * 1).toNat = ((2 ^ i : Nat) : Int) := by
      rw [show (0 + (i : Int) * 1).toNat = i by omega]; simp
    repeat' ktr_rel
    refine ws_shl (by omega) (by omega) (by decide) ?_
    rw [e1]
    intro _
    repeat' ktr_rel
    have e2 : Builtin.bitAnd ((fl F i : Nat) : Int) ((2 ^ i : Nat) : Int) = ((fl F i &&& 2 ^ i : Nat) : Int) := rfl
    rw [e2, fl_and]
    have hlen := hz32 hP (by omega)
    have hhex := hex_len i hi
    have hwl := word_len i hi
    dsimp only at hlen
    refine ws_ite ?_ ?_
    · intro hb
      repeat' ktr_rel
      refine ws_gmGetI (tab15 O) ?_
      repeat' ktr_rel
      refine ws_hex (by omega) ?_
      intro _
      repeat' ktr_rel
      refine ws_get2I (tab15 O) (PyProof.V.Flat.str _ _) ?_
      intro v hv
      rw [word_get i hi] at hv
      obtain ⟨tw, rfl⟩ := flat_str hv
      have hP2 : StrsAre (vs ++ [.str (wordF i) tw]) (wordsTo F (i + 1)) := by
        rw [words_succ, hb]; exact strs_snoc hP _ _
      repeat' ktr_rel
      have e3 : Builtin.bitXor ((fl F i : Nat) : Int) ((2 ^ i : Nat) : Int) = ((fl F (i + 1) : Nat) : Int) := by
        rw [← fl_xor F i hb]; exact bitXor_nat _ _
      rw [e3]
      refine ws_ite ?_ ?_
      · intro h0
        have h0' : fl F (i + 1) = 0 := by simpa using h0
        repeat' ktr_rel
        repeat' ktr_rel
        refine ws_join (vs := vs ++ [.str (wordF i) tw]) (isLst_mem (c := cn + 1) (by k_mem)) hP2 ?_ ?_
        · have h1 := words_sum F (i + 1) (by omega)
          have h2 := words_count F (i + 1)
          have h3 : (Str.ofString ", ").length = 2 := rfl
          rw [h3]; omega
        intro tj
        repeat' ktr_rel
        intro h _ _
        refine ⟨tj, ?_⟩
        have hF0 : F ≠ 0 := by
          rintro rfl
          simp at hb
        have hw := words_done F i h0' (32 - (i + 1))
        rw [show i + 1 + (32 - (i + 1)) = 32 by omega] at hw
        rw [prettyF, if_neg hF0, hw]
      · intro h0
        have h0' : fl F (i + 1) ≠ 0 := by simpa using h0
        repeat' ktr_rel
        exact ⟨(_, vs ++ [.str (wordF i) tw], _), by k_mem, ⟨by k_mem, trivial⟩, ⟨rfl, rfl, trivial⟩, hP2, .inr h0'⟩
    · intro hb
      have e3 := fl_skip F i hb
      repeat' ktr_rel
      refine ⟨(tf, vs, cn), by k_mem, ⟨by k_mem, trivial⟩, ⟨?_, rfl, trivial⟩, ?_, by rw [← e3]; exact hz⟩
      · rw [← e3]; rfl
      · dsimp only
        rw [words_succ, hb]; simpa using hP
  case done =>
    rintro ⟨tf, vs, cn⟩ u ⟨hP, hz⟩
    rw [fl_top F hF] at hz
    have hF0 : F = 0 := by omega
    subst hF0
    have hnil : vs = [] := by
      have := strs_len hP
      have h2 : (wordsTo 0 32).length = 0 := by simp [wordsTo]
      rw [h2] at this
      exact List.length_eq_zero_iff.mp this
    subst hnil
    rw [fl_top 0 hF]
    repeat' ktr_rel
    refine ws_hex (by rw [sizeLine_eq]; decide +kernel) ?_
    intro tx
    repeat' ktr_rel
    refine ws_join (vs := [.str (baseText "0x" 16 0) tx]) (isLst_mem (c := cn + 1) (by k_mem)) (ys := [baseText "0x" 16 0]) (.cons _ _ .nil) (by decide +kernel) ?_
    intro tj
    repeat' ktr_rel
    exact fun h _ _ => ⟨tj, by rw [prettyF, if_pos rfl]; exact congrArg (Value.str · tj) (show Txt.join (Str.ofString ", ") [baseText "0x" 16 0] = Str.ofString "0x0" by decide +kernel)⟩
end Mine

namespace Mine
open PySem PySem.W PyProof.Rows PySem.Calls PyProof.V PySem.Spec
theorem pretty_len (F : Nat) : (prettyF F).length ≤ 700 := by
  unfold prettyF
  split
  · exact Nat.le_of_ble_eq_true rfl
  · show (Builtin.Str.glued _ _).length ≤ 700
    rw [size_glued]
    have h1 := words_sum F 32 (by decide)
    have h2 := words_count F 32
    have h3 : (Str.ofString ", ").length = 2 := rfl
    rw [h3]; omega
def lineF (s f : Nat) : Str := if 256 ≤ s then prettyF ((s >>> 4 &&& 15) * 2 ^ f) ++ Str.ofString " <= " ++ prettyF ((s &&& 15) * 2 ^ f) else prettyF ((s &&& 15) * 2 ^ f) ++ Str.ofString " -> " ++ prettyF ((s >>> 4 &&& 15) * 2 ^ f)
theorem sp_line {prog w mean mg mb} (s f : Nat) (hf : f < 29) (t u : Tok) : Fn prog w mean mg mb 130 [.int s t, .int f u] 3 anyP (isS (lineF s f)) := by
  tb_start
  intro C e1 e2 e3 e4 e5 O hE _
  subst e1 e2 e3 e4 e5
  dsimp only [List.zip, List.zipWith]
  have hp : ∀ x : Nat, x ≤ 15 → x * 2 ^ f < 2 ^ 32 := fun x hx => by
    have h1 : 2 ^ f ≤ 2 ^ 28 := Nat.pow_le_pow_right (by decide) (by omega)
    have h2 : x * 2 ^ f ≤ 15 * 2 ^ 28 := Nat.mul_le_mul hx h1
    omega
  have ha : s &&& 15 ≤ 15 := Nat.and_le_right
  have hb : s >>> 4 &&& 15 ≤ 15 := Nat.and_le_right
  have ea : Builtin.bitAnd (s : Int) 15 * (2 : Int) ^ (f : Int).toNat = (((s &&& 15) * 2 ^ f : Nat) : Int) := by
    show ((s &&& 15 : Nat) : Int) * _ = _
    simp
  have eb : Builtin.bitAnd ((s : Int).fdiv (2 ^ (4 : Int).toNat)) 15 * (2 : Int) ^ (f : Int).toNat = (((s >>> 4 &&& 15) * 2 ^ f : Nat) : Int) := by
    have : (s : Int).fdiv (2 ^ (4 : Int).toNat) = ((s >>> 4 : Nat) : Int) := by
      rw [Nat.shiftRight_eq_div_pow]; exact fdiv_nat s 16
    rw [this]
    show ((s >>> 4 &&& 15 : Nat) : Int) * _ = _
    simp
  have na : (Builtin.bitAnd (s : Int) 15).natAbs < 2 ^ 64 := by show (s &&& 15) < 2 ^ 64; omega
  have nb : (Builtin.bitAnd ((s : Int).fdiv (2 ^ (4 : Int).toNat)) 15).natAbs < 2 ^ 64 := by
    have : (s : Int).fdiv (2 ^ (4 : Int).toNat) = ((s >>> 4 : Nat) : Int) := by
      rw [Nat.shiftRight_eq_div_pow]; exact fdiv_nat s 16
    rw [this]
    show (s >>> 4 &&& 15) < 2 ^ 64; omega
  have l1 := pretty_len ((s &&& 15) * 2 ^ f)
  have l2 := pretty_len ((s >>> 4 &&& 15) * 2 ^ f)
  repeat' ktr_rel
  refine ws_shl (by omega) (by omega) na ?_
  rw [ea]
  intro _
  repeat' ktr_rel
  refine ws_fnS (O.le (by decide)) (sp_pretty _ (hp _ ha) _) (fun _ _ _ => trivial) ?_
  intro _
  repeat' ktr_rel
  refine ws_shr (by decide) ?_
  intro _
  repeat' ktr_rel
  refine ws_shl (by omega) (by omega) nb ?_
  rw [eb]
  intro _
  repeat' ktr_rel
  refine ws_fnS (O.le (by decide)) (sp_pretty _ (hp _ hb) _) (fun _ _ _ => trivial) ?_
  intro _
  repeat' ktr_rel
  refine ws_fnB (O.le (by decide)) (sp_isnont _ _) (fun _ _ _ => trivial) ?_
  repeat' ktr_rel
  have h4 : (Str.ofString " <= ").length = 4 := rfl
  have h5 : (Str.ofString " -> ").length = 4 := rfl
  refine ws_ite ?_ ?_
  · intro h1
    have h1' : 256 ≤ s := by
      have := of_decide_eq_true h1
      omega
    repeat' ktr_rel
    refine ws_addS (by rw [Str.length_append, sizeLine_eq]; omega) ?_
    intro _
    repeat' ktr_rel
    refine ws_addS (by rw [Str.length_append, Str.length_append, sizeLine_eq]; omega) ?_
    intro t'
    repeat' ktr_rel
    exact fun h _ _ => ⟨t', by rw [lineF, if_pos h1']⟩
  · intro h1
    have h1' : ¬ 256 ≤ s := by
      have := of_decide_eq_false h1
      omega
    repeat' ktr_rel
    refine ws_addS (by rw [Str.length_append, sizeLine_eq]; omega) ?_
    intro _
    repeat' ktr_rel
    refine ws_addS (by rw [Str.length_append, Str.length_append, sizeLine_eq]; omega) ?_
    intro t'
    repeat' ktr_rel
    exact fun h _ _ => ⟨t', by rw [lineF, if_neg h1']⟩
end Mine

namespace Mine
open PySem PySem.W PyProof.Rows PySem.Calls PyProof.V PySem.Spec
/-- the words of a side -/
def toldF (a : Nat) (ys : List Str) (i : Nat) : List Str := ((List.range i).filter fun j => a.testBit j).map fun j => ys.getD j Str.empty
def sideF (a : Nat) (ys : List Str) : Str := if toldF a ys 4 = [] then Str.ofString "0x0" else Txt.join (Str.ofString ", ") (toldF a ys 4)
theorem bit_test (a i : Nat) : (Builtin.bitAnd ((a : Int).fdiv (2 ^ ((i : Nat) : Int).toNat)) 1 != 0) = a.testBit i := by
  have e : (a : Int).fdiv (2 ^ ((i : Nat) : Int).toNat) = ((a >>> i : Nat) : Int) := by
    rw [Nat.shiftRight_eq_div_pow, ← fdiv_nat]; simp
  rw [e]
  show (((a >>> i &&& 1 : Nat) : Int) != 0) = _
  rw [Nat.testBit, Nat.and_comm, Bool.eq_iff_iff]
  simp only [bne_iff_ne, ne_eq]
  omega
theorem told_succ (a : Nat) (ys : List Str) (i : Nat) : toldF a ys (i + 1) = toldF a ys i ++ (if a.testBit i then [ys.getD i Str.empty] else []) := by
  unfold toldF
  rw [List.range_succ, List.filter_append, List.map_append]
  cases h : a.testBit i <;> simp [h]
theorem strs_get {vs : List Value} {ys : List Str} (h : StrsAre vs ys) : ∀ i, i < ys.length → ∃ t, vs[i]? = some (.str (ys.getD i Str.empty) t) := by
  induction h with
  | nil => intro i hi; exact absurd hi (Nat.not_lt_zero _)
  | cons k t r ih =>
    intro i hi
    cases i with
    | zero => exact ⟨t, rfl⟩
    | succ i => simpa using ih i (by simpa using hi)
theorem told_mem {a : Nat} {ys : List Str} {i : Nat} (hi : i ≤ ys.length) : ∀ y ∈ toldF a ys i, y ∈ ys := by
  intro y hy
  obtain ⟨j, hj, rfl⟩ := List.mem_map.mp hy
  have hj' : j < ys.length := Nat.lt_of_lt_of_le (List.mem_range.mp (List.mem_filter.mp hj).1) hi
  rw [List.getD_eq_getElem?_getD, List.getElem?_eq_getElem hj']
  exact List.getElem_mem hj'
theorem told_count (a : Nat) (ys : List Str) (i : Nat) : (toldF a ys i).length ≤ i := by
  unfold toldF
  rw [List.length_map]
  exact Nat.le_trans (List.length_filter_le _ _) (by simp)
theorem sum_len {B : Nat} (xs : List Str) (h : ∀ x ∈ xs, x.length ≤ B) : (xs.map (·.length)).sum ≤ xs.length * B := StrLaws.sumLen_le xs h

theorem sp_side {prog w mean mg mb} (a : Nat) (l : Addr) (vs : List Value) (ys : List Str) (hv : StrsAre vs ys) (h4 : ys.length = 4) (hlen : ∀ y ∈ ys, y.length ≤ 20) (hok : ∀ y ∈ ys, PyData.strOk y = true) (t : Tok) :
    Fn prog w mean mg mb 140 [.int a t, .ref l] 8 (hasL l vs) (isS (sideF a ys)) := by
  tb_start
  intro C e1 e2 e3 e4 e5 O hE hpre cells hc
  subst e1 e2 e3 e4 e5
  obtain ⟨o1, o2, rfl, a1, a2⟩ := CellsAre.two hc
  obtain ⟨o1, rfl⟩ : ∃ o, o1 = cellX o (some (.ref l)) := ⟨_, cellX_of a1⟩
  obtain ⟨o2, rfl⟩ : ∃ o, o2 = cellX o (some (.int a t)) := ⟨_, cellX_of a2⟩
  dsimp only [List.zip, List.zipWith]
  repeat' ktr_rel
  refine cat_range 4 (fun i vs' => StrsAre vs' (toldF a ys i)) O (by k_mem) (by decide) (by decide) (fins_assign (by k_dflt rfl) (by k_dflt rfl) (by k_dflt rfl)) StrsAre.nil (by rw [sizeLine_eq]; decide) (by decide) rfl rfl ?turn ?done
  case turn =>
    intro h₀ L B O' D cn i I o ws ti u hlt hDL hi hP
    have e1 : (0 : Int) + (i : Int) * 1 = ((i : Nat) : Int) := by omega
    rw [e1]
    repeat' ktr_rel
    refine ws_shr (by omega) ?_
    intro _
    repeat' ktr_rel
    rw [bit_test]
    refine ws_ite ?_ ?_
    · intro hb
      obtain ⟨tw, hw⟩ := strs_get hv i (by omega)
      repeat' ktr_rel
      refine ws_item (((lst_base hpre).sub B (fun _ h => h)).is) (by omega) (by omega) (x := .str (ys.getD i Str.empty) tw) (by simpa using hw) ?_
      exact ⟨fun _ h => h, by rw [told_succ, hb]; exact strs_snoc hP _ _⟩
    · intro hb
      exact ⟨fun _ h => h, by rw [told_succ, hb]; simpa using hP⟩
  case done =>
    intro ws D cn hCD hlt hP
    have hm := told_mem (a := a) (i := 4) (Nat.le_of_eq h4.symm)
    have hc4 := told_count a ys 4
    repeat' ktr_rel
    refine ws_neNil (ys := toldF a ys 4) (fun y hy => hok y (hm y hy)) O (by decide) (vs := ws) (isLst_mem (c := cn) (by k_mem)) hP (isLst_mem (c := 0) (by k_mem)) ?_
    repeat' ktr_rel
    refine ws_ite ?_ ?_
    · intro hb
      have hb' : ¬ toldF a ys 4 = [] := by simpa using hb
      repeat' ktr_rel
      refine ws_join (vs := ws) (isLst_mem (c := cn) (by k_mem)) hP ?_ ?_
      · have h1 := sum_len (toldF a ys 4) (B := 20) fun y hy => hlen y (hm y hy)
        have h3 : (Str.ofString ", ").length = 2 := rfl
        rw [h3]; omega
      intro tj
      repeat' ktr_rel
      exact fun h _ _ => ⟨tj, by rw [sideF, if_neg hb']⟩
    · intro hb
      have hb' : toldF a ys 4 = [] := by simpa using hb
      repeat' ktr_rel
      exact fun h _ _ => ⟨_, by rw [sideF, if_pos hb']⟩
end Mine

namespace Mine
open PySem PySem.W PyProof.Rows PySem.Calls PyProof.V PySem.Spec
def dueF (s : Nat) (ys : List Str) : Str := if 256 ≤ s then sideF (s >>> 4 &&& 15) ys ++ Str.ofString " <= " ++ sideF (s &&& 15) ys else sideF (s &&& 15) ys ++ Str.ofString " -> " ++ sideF (s >>> 4 &&& 15) ys
theorem side_len (a : Nat) (ys : List Str) (h4 : ys.length = 4) (hlen : ∀ y ∈ ys, y.length ≤ 20) : (sideF a ys).length ≤ 100 := by
  unfold sideF
  split
  · exact Nat.le_of_ble_eq_true rfl
  · show (Builtin.Str.glued _ _).length ≤ 100
    rw [size_glued]
    have hm := told_mem (a := a) (i := 4) (Nat.le_of_eq h4.symm)
    have hc4 := told_count a ys 4
    have h1 := sum_len (toldF a ys 4) (B := 20) fun y hy => hlen y (hm y hy)
    have h3 : (Str.ofString ", ").length = 2 := rfl
    rw [h3]; omega
theorem sp_due {prog w mean mg mb} (s : Nat) (l : Addr) (vs : List Value) (ys : List Str) (hv : StrsAre vs ys) (h4 : ys.length = 4) (hlen : ∀ y ∈ ys, y.length ≤ 20) (hok : ∀ y ∈ ys, PyData.strOk y = true) (t : Tok) :
    Fn prog w mean mg mb 147 [.int s t, .ref l] 9 (hasL l vs) (isS (dueF s ys)) := by
  tb_start
  intro C e1 e2 e3 e4 e5 O hE hpre
  subst e1 e2 e3 e4 e5
  dsimp only [List.zip, List.zipWith]
  have l1 := side_len (s &&& 15) ys h4 hlen
  have l2 := side_len (s >>> 4 &&& 15) ys h4 hlen
  have ea : Builtin.bitAnd (s : Int) 15 = ((s &&& 15 : Nat) : Int) := rfl
  have eb : Builtin.bitAnd ((s : Int).fdiv (2 ^ (4 : Int).toNat)) 15 = ((s >>> 4 &&& 15 : Nat) : Int) := by
    have : (s : Int).fdiv (2 ^ (4 : Int).toNat) = ((s >>> 4 : Nat) : Int) := by
      rw [Nat.shiftRight_eq_div_pow]; exact fdiv_nat s 16
    rw [this]; rfl
  repeat' ktr_rel
  rw [ea]
  refine ws_fnS (O.le (by decide)) (sp_side _ l vs ys hv h4 hlen hok _) ((lst_base hpre).has · _) ?_
  intro _
  repeat' ktr_rel
  refine ws_shr (by decide) ?_
  intro _
  repeat' ktr_rel
  rw [eb]
  refine ws_fnS (O.le (by decide)) (sp_side _ l vs ys hv h4 hlen hok _) ((lst_base hpre).has · _) ?_
  intro _
  repeat' ktr_rel
  have h4' : (Str.ofString " <= ").length = 4 := rfl
  have h5 : (Str.ofString " -> ").length = 4 := rfl
  refine ws_ite ?_ ?_
  · intro h1
    have h1' : 256 ≤ s := by
      have := of_decide_eq_true h1
      omega
    repeat' ktr_rel
    refine ws_addS (by rw [Str.length_append, sizeLine_eq]; omega) ?_
    intro _
    repeat' ktr_rel
    refine ws_addS (by rw [Str.length_append, Str.length_append, sizeLine_eq]; omega) ?_
    intro t'
    repeat' ktr_rel
    exact fun h _ _ => ⟨t', by rw [dueF, if_pos h1']⟩
  · intro h1
    have h1' : ¬ 256 ≤ s := by
      have := of_decide_eq_false h1
      omega
    repeat' ktr_rel
    refine ws_addS (by rw [Str.length_append, sizeLine_eq]; omega) ?_
    intro _
    repeat' ktr_rel
    refine ws_addS (by rw [Str.length_append, Str.length_append, sizeLine_eq]; omega) ?_
    intro t'
    repeat' ktr_rel
    exact fun h _ _ => ⟨t', by rw [dueF, if_neg h1']⟩
end Mine

namespace Mine
open PySem PySem.W PyProof.Rows PySem.Calls PyProof.V PySem.Spec
def names10 : List Str := [Str.ofString "OPTIMIZED", Str.ofString "NEWLOCALS", Str.ofString "VARARGS", Str.ofString "VARKEYWORDS", Str.ofString "NESTED", Str.ofString "GENERATOR", Str.ofString "NOFREE", Str.ofString "COROUTINE", Str.ofString "ITERABLE_COROUTINE", Str.ofString "ASYNC_GENERATOR"]
def wordW (f : Nat) : Str := if f < 10 then names10.getD f Str.empty else Str.ofString "0x" ++ Txt.item (Str.ofString "1248") ((f % 4 : Nat) : Int) ++ Txt.mul (Str.ofString "0") ((f / 4 : Nat) : Int)
def wordsW (f i : Nat) : List Str := (List.range i).map fun j => wordW (f + j)
theorem ws_mul0 {C : Cx} {m : Loc} {n : Led} {QV : Value → Loc → Led → Prop} {i : Int} {t u : Tok} (h2 : 2 ≤ i) (h7 : i ≤ 7) (H : ∀ t, QV (.str (Txt.mul (Str.ofString "0") i) t) m n) : WS C (binaryOp .Mult (.str (Str.ofString "0") t) (.int i u)) QV m n := by
  intro h tk F N
  have hi : i = 2 ∨ i = 3 ∨ i = 4 ∨ i = 5 ∨ i = 6 ∨ i = 7 := by omega
  rcases hi with rfl | rfl | rfl | rfl | rfl | rfl
  all_goals exact P.mul_str (by decide) (by decide) (by decide +kernel) ⟨by rw [sizeLine_eq]; decide +kernel, ⟨h, _, m, n, rfl, F, N, H _⟩⟩
theorem words_w_succ (f i : Nat) : wordsW f (i + 1) = wordsW f i ++ [wordW (f + i)] := by
  unfold wordsW
  rw [List.range_succ, List.map_append]
  rfl
theorem fits_small {i : Int} (h0 : 0 ≤ i) (h1 : i < 1000) : fitsSsize i = true := by
  unfold fitsSsize
  rw [Bool.not_eq_true', Bool.or_eq_false_iff]
  exact ⟨decide_eq_false (by omega), decide_eq_false (by omega)⟩
theorem fmod4 (a : Nat) : ((a : Nat) : Int).fmod 4 = ((a % 4 : Nat) : Int) := fmod_nat a 4
theorem fdiv4 (a : Nat) : ((a : Nat) : Int).fdiv 4 = ((a / 4 : Nat) : Int) := fdiv_nat a 4
theorem hz1 : ∀ i, i < 4 → ∀ j, 2 ≤ j → j ≤ 7 → (Str.ofString "0x" ++ Txt.item (Str.ofString "1248") ((i : Nat) : Int) ++ Txt.mul (Str.ofString "0") ((j : Nat) : Int)).length ≤ sizeLine := by
  intro i hi j h2 h7
  have hj : j = 2 ∨ j = 3 ∨ j = 4 ∨ j = 5 ∨ j = 6 ∨ j = 7 := by omega
  have hi' : i = 0 ∨ i = 1 ∨ i = 2 ∨ i = 3 := by omega
  rw [sizeLine_eq]
  rcases hi' with rfl | rfl | rfl | rfl <;> rcases hj with rfl | rfl | rfl | rfl | rfl | rfl <;> decide +kernel
theorem ws_itemNames {C : Cx} {m : Loc} {n : Led} {QV : Value → Loc → Led → Prop} {value slice : Expr} {i : Nat} {u t0 t1 t2 t3 t4 t5 t6 t7 t8 t9 : Tok} {l : Addr} (hm : (l, tupOf [Value.str (Str.ofString "OPTIMIZED") t0, Value.str (Str.ofString "NEWLOCALS") t1, Value.str (Str.ofString "VARARGS") t2, Value.str (Str.ofString "VARKEYWORDS") t3, Value.str (Str.ofString "NESTED") t4, Value.str (Str.ofString "GENERATOR") t5, Value.str (Str.ofString "NOFREE") t6, Value.str (Str.ofString "COROUTINE") t7, Value.str (Str.ofString "ITERABLE_COROUTINE") t8, Value.str (Str.ofString "ASYNC_GENERATOR") t9].toArray) ∈ n) (hi : i < 10) (H : ∀ t, QV (.str (names10.getD i Str.empty) t) m n)
    (hs : subscripted slice false (.ref l) (.int i u) = operate [.ref l, .int i u] (getItem (.ref l) (.int i u)) := by with_unfolding_all rfl) : WS C (subscriptTail value slice (.ref l) (.int i u)) QV m n := by
  have hn : StrsAre [Value.str (Str.ofString "OPTIMIZED") t0, Value.str (Str.ofString "NEWLOCALS") t1, Value.str (Str.ofString "VARARGS") t2, Value.str (Str.ofString "VARKEYWORDS") t3, Value.str (Str.ofString "NESTED") t4, Value.str (Str.ofString "GENERATOR") t5, Value.str (Str.ofString "NOFREE") t6, Value.str (Str.ofString "COROUTINE") t7, Value.str (Str.ofString "ITERABLE_COROUTINE") t8, Value.str (Str.ofString "ASYNC_GENERATOR") t9] names10 := .cons _ t0 (.cons _ t1 (.cons _ t2 (.cons _ t3 (.cons _ t4 (.cons _ t5 (.cons _ t6 (.cons _ t7 (.cons _ t8 (.cons _ t9 (.nil))))))))))
  obtain ⟨tw, hw⟩ := strs_get hn i hi
  refine ws_itemT (isTpl_mem hm) (by omega) (by omega) (j := i) ?_ hw (H _) hs
  exact (by decide : ∀ i : Nat, i < 10 → seqIndex? (i : Int) 10 = some i) i hi
theorem sp_words {prog w mean mg mb} (f : Nat) (hf : f < 29) (t : Tok) :
    Fn prog w mean mg mb 135 [.int f t] 3 anyP (isL fun vs => StrsAre vs (wordsW f 4)) := by
  tb_start
  intro C e1 e2 e3 e4 e5 O hE hpre cells hc
  subst e1 e2 e3 e4 e5
  obtain ⟨o1, rfl, a1⟩ := CellsAre.one hc
  obtain ⟨o1, rfl⟩ : ∃ o, o1 = cellX o none := ⟨_, cellX_of a1⟩
  dsimp only [List.zip, List.zipWith]
  repeat' ktr_rel
  have hsm : ∀ f : Nat, f < 29 → Builtin.Range.small (f : Int) ((f : Int) + 4) 1 = true ∧ Builtin.Range.rangeSize (f : Int) ((f : Int) + 4) 1 = ((4 : Nat) : Int) := by decide
  refine cat_range 4 (fun i vs' => StrsAre vs' (wordsW f i)) O (by k_mem) (hsm f hf).1 (hsm f hf).2 fins_none StrsAre.nil (by rw [sizeLine_eq]; decide) (by decide) rfl rfl ?turn ?done
  case turn =>
    intro h₀ L B O' D cn i I o ws ti u hlt hDL hi hP
    have e1 : (f : Int) + (i : Int) * 1 = ((f + i : Nat) : Int) := by omega
    rw [e1]
    repeat' ktr_rel
    refine ws_ite ?_ ?_
    · intro h1
      have h1' : f + i < 10 := by
        have := of_decide_eq_true h1
        omega
      repeat' ktr_rel
      refine ws_itemNames (by k_mem) h1' fun _ => ?_
      exact ⟨fun _ h => h, by rw [words_w_succ, wordW, if_pos h1']; exact strs_snoc hP _ _⟩
    · intro h1
      have h1' : 10 ≤ f + i := by
        have := of_decide_eq_false h1
        omega
      repeat' ktr_rel
      rw [fmod4]
      refine ws_itemS (fits_small (by omega) (by omega)) (by omega) (by have h4 : (Str.ofString "1248").length = 4 := rfl; rw [h4]; omega) ?_
      intro _
      repeat' ktr_rel
      refine ws_addS (by rw [Str.length_append, sizeLine_eq]; exact Nat.le_of_ble_eq_true rfl) ?_
      intro _
      repeat' ktr_rel
      refine ws_div (by decide) (PyProof.noPylong_small (by decide)) ?_
      rw [fdiv4]
      intro _
      repeat' ktr_rel
      refine ws_mul0 (by omega) (by omega) ?_
      intro _
      repeat' ktr_rel
      refine ws_addS (hz1 _ (by omega) _ (by omega) (by omega)) ?_
      intro _
      exact ⟨fun _ h => h, by rw [words_w_succ, wordW, if_neg (by omega)]; exact strs_snoc hP _ _⟩
  case done =>
    intro ws D cn hCD hlt hP
    repeat' ktr_rel
    exact fun h F N => ⟨D, ws, cn, rfl, Nat.le_trans F.above (Nat.le_of_lt hCD), (N _ (by k_mem)).1, hP⟩
end Mine

namespace Mine
open PySem PySem.W PyProof.Rows PySem.Calls PyProof.V PySem.Spec
def Nums (B : Int) (ws : List Value) : Prop := ∃ ms, IntsAre ws ms ∧ ms.length = 5 ∧ ∀ x ∈ ms, 0 ≤ x ∧ x < B
theorem ints_get {vs : List Value} {ns : List Int} (h : IntsAre vs ns) : ∀ i, i < ns.length → ∃ t, vs[i]? = some (.int (ns.getD i 0) t) := by
  induction h with
  | nil => intro i hi; exact absurd hi (Nat.not_lt_zero _)
  | cons k t r ih =>
    intro i hi
    cases i with
    | zero => exact ⟨t, rfl⟩
    | succ i => simpa using ih i (by simpa using hi)
theorem ints_item {vs : List Value} {ns : List Int} (h : IntsAre vs ns) : ∀ {i : Nat} {v : Value}, vs[i]? = some v → ∃ y t, v = .int y t := by
  induction h with
  | nil => intro i v hv; simp at hv
  | cons k t r ih =>
    intro i v hv
    cases i with
    | zero => exact ⟨k, t, (Option.some.inj hv).symm⟩
    | succ i => exact ih (by simpa using hv)
theorem ints_set {vs : List Value} {ns : List Int} (h : IntsAre vs ns) : ∀ (i : Nat) (y : Int) (t : Tok), IntsAre (vs.set i (.int y t)) (ns.set i y) := by
  induction h with
  | nil => intro i y t; exact .nil
  | cons k t r ih =>
    intro i y t'
    cases i with
    | zero => exact .cons _ _ r
    | succ i => exact .cons _ _ (ih i y t')
theorem sp_numbers {prog w mean mg mb} (l : Addr) (vs : List Value) (ns : List Int) (hv : IntsAre vs ns) (hlen : vs.length ≤ 63) : Fn prog w mean mg mb 102 [.ref l] 8 (fun h => h.IsList l vs.toArray) (isL (Nums (2 ^ 40))) := by
  tb_start
  intro C e1 e2 e3 e4 e5 O hE hpre
  subst e1 e2 e3 e4 e5
  dsimp only [List.zip, List.zipWith]
  repeat' ktr_rel
  rename_i a ha _
  refine .inl ⟨l, vs, none, some 60, rfl, (fun h m F N => let ⟨o, ho, r⟩ := hpre; ⟨o, F.keep _ _ ho, r⟩), .none, .int _ _, by rw [sizeLine_eq]; omega, ?_⟩
  have hI := kmk_upto (y := 60) hv (by decide)
  have hz : (ns.take (60 : Int).toNat).length ≤ 60 := by rw [List.length_take]; exact Nat.min_le_left _ _
  have hzl := hI.length
  generalize (slicePick vs.toArray none (some 60) none).toList = ws at hI hzl ⊢
  intro D hD hlt
  simp only [AllLt, and_true] at hlt
  repeat' ktr_rel
  refine ws_enumL ws (fun i (c : List Value × Nat) => [(D, listOf ws.toArray 0), (a, listOf c.1.toArray c.2)]) (fun i c => [(Str.ofString "numbers", .ref a)]) (fun i c => i ≤ 60 ∧ Nums (200 + i * 1000000) c.1) (_, 0) O hE
    (lst_mem (by k_mem)) (fun i c _ => lst_mem (c := 0) (by k_mem)) ?hoff ⟨by k_mem, by k_mem, trivial⟩ ⟨rfl, trivial⟩ ?h0 ?turn ?done
  case hoff =>
    rintro e he i c _ p hp
    simp only [AllLt, and_true] at he
    simp only [List.mem_cons, List.not_mem_nil, or_false] at hp
    rcases hp with rfl | rfl
    · exact he.1
    · exact he.2
  case h0 => exact ⟨by decide, ⟨[7, 102, 36, 137, 45], .cons _ _ (.cons _ _ (.cons _ _ (.cons _ _ (.cons _ _ .nil)))), rfl, by decide⟩⟩
  case turn =>
    rintro e it i ⟨us, cn⟩ u oe oi t v hlt' hite hx ⟨hi, ms, hms, h5, hb⟩
    simp only [AllLt, and_true] at hlt'
    repeat' ktr_rel
    have e5 : ((i : Nat) : Int).fmod 5 = ((i % 5 : Nat) : Int) := fmod_nat i 5
    rw [e5]
    have hj : i % 5 < 5 := Nat.mod_lt _ (by decide)
    have hil := (List.getElem?_eq_some_iff.mp hx).1
    generalize i % 5 = j at hj e5 ⊢
    obtain ⟨tx, hget⟩ := ints_get hms j (by omega)
    have hzu : us.length = 5 := by rw [hms.length, h5]
    obtain ⟨y, hy⟩ := ints_item hI hx
    obtain ⟨ty, rfl⟩ := hy
    refine ws_getL (vs := us) (isLst_mem (c := cn) (by k_mem)) (by omega) (by omega) (x := .int (ms.getD j 0) tx) (by rw [Int.toNat_natCast]; exact hget) ?_
    repeat' ktr_rel
    refine ws_setAt (vs := us) (c := cn) (by k_upd) (by omega) (by omega) (by omega) ?_
    repeat' ktr_rel
    refine ⟨(us.set j (.int (ms.getD j 0 + y.fmod 1000000) _), cn), by k_mem, by k_mem, ⟨by k_mem, by k_mem, trivial⟩, ⟨rfl, trivial⟩, by omega, ms.set j (ms.getD j 0 + y.fmod 1000000), ints_set hms _ _ _, by simpa using h5, ?_⟩
    intro x hx
    have h1 := Int.fmod_nonneg_of_pos y (b := 1000000) (by decide)
    have h2 := Int.fmod_lt_of_pos y (b := 1000000) (by decide)
    rcases List.mem_or_eq_of_mem_set hx with hx | rfl
    · have := hb x hx; omega
    · have hg : ms.getD j 0 ∈ ms := by
        rw [List.getD_eq_getElem?_getD, List.getElem?_eq_getElem (by omega)]
        exact List.getElem_mem _
      have := hb _ hg; omega
  case done =>
    rintro ⟨us, cn⟩ u ⟨hi, ms, hms, h5, hb⟩
    repeat' ktr_rel
    exact fun h F N => ⟨a, us, cn, rfl, Nat.le_trans F.above (Nat.le_of_lt ha), (N (a, _) (by k_mem)).1, ms, hms, h5, fun x hx => by have := hb x hx; omega⟩
end Mine

namespace Mine
open PySem PySem.W PyProof.Rows PySem.Calls PyProof.V PySem.Spec
def tab_cdata : Tab := [(38, [38, 97, 109, 112, 59]), (60, [38, 108, 116, 59]), (62, [38, 103, 116, 59])]
def tab_attrib : Tab := [(38, [38, 97, 109, 112, 59]), (60, [38, 108, 116, 59]), (62, [38, 103, 116, 59]), (34, [38, 113, 117, 111, 116, 59]), (13, [38, 35, 49, 51, 59]), (10, [38, 35, 49, 48, 59]), (9, [38, 35, 48, 57, 59])]
def tab_attrib_html : Tab := [(38, [38, 97, 109, 112, 59]), (62, [38, 103, 116, 59]), (34, [38, 113, 117, 111, 116, 59])]
def tab_cdata_c14n : Tab := [(38, [38, 97, 109, 112, 59]), (60, [38, 108, 116, 59]), (62, [38, 103, 116, 59]), (13, [38, 35, 120, 68, 59])]
def tab_attrib_c14n : Tab := [(38, [38, 97, 109, 112, 59]), (60, [38, 108, 116, 59]), (34, [38, 113, 117, 111, 116, 59]), (9, [38, 35, 120, 57, 59]), (10, [38, 35, 120, 65, 59]), (13, [38, 35, 120, 68, 59])]
theorem sp_cdata {prog w mean mg mb} (l : List Nat) (t : Tok) (hl : l.length ≤ 100000) : Fn prog w mean mg mb 67 [.str (tx l) t] 3 anyP (isS (tx (flatT tab_cdata l))) := by
  rw [show tx l = tx (flatT [] l) by rw [flatT_nil]]
  tb_start
  intro C e1 e2 e3 e4 e5 O hE _
  subst e1 e2 e3 e4 e5
  dsimp only [List.zip, List.zipWith]
  refine ws_cons ?_
  refine ws_tryQ ?_
  refine ws_cons ?_
  refine' ws_escT [] l 38 [38, 97, 109, 112, 59] ?_ lit_26 lit_26616d703b (by decide) (by decide) (by decide) (by decide) hl ?_
  rotate_left
  k_dflt rfl
  intro _
  refine seq_next ?_
  dsimp only [List.cons_append, List.nil_append]
  refine ws_cons ?_
  refine' ws_escT [(38, [38, 97, 109, 112, 59])] l 60 [38, 108, 116, 59] ?_ lit_3c lit_266c743b (by decide) (by decide) (by decide) (by decide) hl ?_
  rotate_left
  k_dflt rfl
  intro _
  refine seq_next ?_
  dsimp only [List.cons_append, List.nil_append]
  refine ws_cons ?_
  refine' ws_escT [(38, [38, 97, 109, 112, 59]), (60, [38, 108, 116, 59])] l 62 [38, 103, 116, 59] ?_ lit_3e lit_2667743b (by decide) (by decide) (by decide) (by decide) hl ?_
  rotate_left
  k_dflt rfl
  intro _
  refine seq_next ?_
  dsimp only [List.cons_append, List.nil_append]
  repeat' ktr_rel
  exact fun h _ _ => ⟨_, rfl⟩
theorem sp_attrib {prog w mean mg mb} (l : List Nat) (t : Tok) (hl : l.length ≤ 100000) : Fn prog w mean mg mb 74 [.str (tx l) t] 3 anyP (isS (tx (flatT tab_attrib l))) := by
  rw [show tx l = tx (flatT [] l) by rw [flatT_nil]]
  tb_start
  intro C e1 e2 e3 e4 e5 O hE _
  subst e1 e2 e3 e4 e5
  dsimp only [List.zip, List.zipWith]
  refine ws_cons ?_
  refine ws_tryQ ?_
  refine ws_cons ?_
  refine' ws_escT [] l 38 [38, 97, 109, 112, 59] ?_ lit_26 lit_26616d703b (by decide) (by decide) (by decide) (by decide) hl ?_
  rotate_left
  k_dflt rfl
  intro _
  refine seq_next ?_
  dsimp only [List.cons_append, List.nil_append]
  refine ws_cons ?_
  refine' ws_escT [(38, [38, 97, 109, 112, 59])] l 60 [38, 108, 116, 59] ?_ lit_3c lit_266c743b (by decide) (by decide) (by decide) (by decide) hl ?_
  rotate_left
  k_dflt rfl
  intro _
  refine seq_next ?_
  dsimp only [List.cons_append, List.nil_append]
  refine ws_cons ?_
  refine' ws_escT [(38, [38, 97, 109, 112, 59]), (60, [38, 108, 116, 59])] l 62 [38, 103, 116, 59] ?_ lit_3e lit_2667743b (by decide) (by decide) (by decide) (by decide) hl ?_
  rotate_left
  k_dflt rfl
  intro _
  refine seq_next ?_
  dsimp only [List.cons_append, List.nil_append]
  refine ws_cons ?_
  refine' ws_escT [(38, [38, 97, 109, 112, 59]), (60, [38, 108, 116, 59]), (62, [38, 103, 116, 59])] l 34 [38, 113, 117, 111, 116, 59] ?_ lit_22 lit_2671756f743b (by decide) (by decide) (by decide) (by decide) hl ?_
  rotate_left
  k_dflt rfl
  intro _
  refine seq_next ?_
  dsimp only [List.cons_append, List.nil_append]
  refine ws_cons ?_
  refine' ws_escT [(38, [38, 97, 109, 112, 59]), (60, [38, 108, 116, 59]), (62, [38, 103, 116, 59]), (34, [38, 113, 117, 111, 116, 59])] l 13 [38, 35, 49, 51, 59] ?_ lit_0d lit_262331333b (by decide) (by decide) (by decide) (by decide) hl ?_
  rotate_left
  k_dflt rfl
  intro _
  refine seq_next ?_
  dsimp only [List.cons_append, List.nil_append]
  refine ws_cons ?_
  refine' ws_escT [(38, [38, 97, 109, 112, 59]), (60, [38, 108, 116, 59]), (62, [38, 103, 116, 59]), (34, [38, 113, 117, 111, 116, 59]), (13, [38, 35, 49, 51, 59])] l 10 [38, 35, 49, 48, 59] ?_ lit_0a lit_262331303b (by decide) (by decide) (by decide) (by decide) hl ?_
  rotate_left
  k_dflt rfl
  intro _
  refine seq_next ?_
  dsimp only [List.cons_append, List.nil_append]
  refine ws_cons ?_
  refine' ws_escT [(38, [38, 97, 109, 112, 59]), (60, [38, 108, 116, 59]), (62, [38, 103, 116, 59]), (34, [38, 113, 117, 111, 116, 59]), (13, [38, 35, 49, 51, 59]), (10, [38, 35, 49, 48, 59])] l 9 [38, 35, 48, 57, 59] ?_ lit_09 lit_262330393b (by decide) (by decide) (by decide) (by decide) hl ?_
  rotate_left
  k_dflt rfl
  intro _
  refine seq_next ?_
  dsimp only [List.cons_append, List.nil_append]
  repeat' ktr_rel
  exact fun h _ _ => ⟨_, rfl⟩
theorem sp_attrib_html {prog w mean mg mb} (l : List Nat) (t : Tok) (hl : l.length ≤ 100000) : Fn prog w mean mg mb 81 [.str (tx l) t] 3 anyP (isS (tx (flatT tab_attrib_html l))) := by
  rw [show tx l = tx (flatT [] l) by rw [flatT_nil]]
  tb_start
  intro C e1 e2 e3 e4 e5 O hE _
  subst e1 e2 e3 e4 e5
  dsimp only [List.zip, List.zipWith]
  refine ws_cons ?_
  refine ws_tryQ ?_
  refine ws_cons ?_
  refine' ws_escT [] l 38 [38, 97, 109, 112, 59] ?_ lit_26 lit_26616d703b (by decide) (by decide) (by decide) (by decide) hl ?_
  rotate_left
  k_dflt rfl
  intro _
  refine seq_next ?_
  dsimp only [List.cons_append, List.nil_append]
  refine ws_cons ?_
  refine' ws_escT [(38, [38, 97, 109, 112, 59])] l 62 [38, 103, 116, 59] ?_ lit_3e lit_2667743b (by decide) (by decide) (by decide) (by decide) hl ?_
  rotate_left
  k_dflt rfl
  intro _
  refine seq_next ?_
  dsimp only [List.cons_append, List.nil_append]
  refine ws_cons ?_
  refine' ws_escT [(38, [38, 97, 109, 112, 59]), (62, [38, 103, 116, 59])] l 34 [38, 113, 117, 111, 116, 59] ?_ lit_22 lit_2671756f743b (by decide) (by decide) (by decide) (by decide) hl ?_
  rotate_left
  k_dflt rfl
  intro _
  refine seq_next ?_
  dsimp only [List.cons_append, List.nil_append]
  repeat' ktr_rel
  exact fun h _ _ => ⟨_, rfl⟩
theorem sp_cdata_c14n {prog w mean mg mb} (l : List Nat) (t : Tok) (hl : l.length ≤ 100000) : Fn prog w mean mg mb 88 [.str (tx l) t] 3 anyP (isS (tx (flatT tab_cdata_c14n l))) := by
  rw [show tx l = tx (flatT [] l) by rw [flatT_nil]]
  tb_start
  intro C e1 e2 e3 e4 e5 O hE _
  subst e1 e2 e3 e4 e5
  dsimp only [List.zip, List.zipWith]
  refine ws_cons ?_
  refine ws_tryQ ?_
  refine ws_cons ?_
  refine' ws_escT [] l 38 [38, 97, 109, 112, 59] ?_ lit_26 lit_26616d703b (by decide) (by decide) (by decide) (by decide) hl ?_
  rotate_left
  k_dflt rfl
  intro _
  refine seq_next ?_
  dsimp only [List.cons_append, List.nil_append]
  refine ws_cons ?_
  refine' ws_escT [(38, [38, 97, 109, 112, 59])] l 60 [38, 108, 116, 59] ?_ lit_3c lit_266c743b (by decide) (by decide) (by decide) (by decide) hl ?_
  rotate_left
  k_dflt rfl
  intro _
  refine seq_next ?_
  dsimp only [List.cons_append, List.nil_append]
  refine ws_cons ?_
  refine' ws_escT [(38, [38, 97, 109, 112, 59]), (60, [38, 108, 116, 59])] l 62 [38, 103, 116, 59] ?_ lit_3e lit_2667743b (by decide) (by decide) (by decide) (by decide) hl ?_
  rotate_left
  k_dflt rfl
  intro _
  refine seq_next ?_
  dsimp only [List.cons_append, List.nil_append]
  refine ws_cons ?_
  refine' ws_escT [(38, [38, 97, 109, 112, 59]), (60, [38, 108, 116, 59]), (62, [38, 103, 116, 59])] l 13 [38, 35, 120, 68, 59] ?_ lit_0d lit_262378443b (by decide) (by decide) (by decide) (by decide) hl ?_
  rotate_left
  k_dflt rfl
  intro _
  refine seq_next ?_
  dsimp only [List.cons_append, List.nil_append]
  repeat' ktr_rel
  exact fun h _ _ => ⟨_, rfl⟩
theorem sp_attrib_c14n {prog w mean mg mb} (l : List Nat) (t : Tok) (hl : l.length ≤ 100000) : Fn prog w mean mg mb 95 [.str (tx l) t] 3 anyP (isS (tx (flatT tab_attrib_c14n l))) := by
  rw [show tx l = tx (flatT [] l) by rw [flatT_nil]]
  tb_start
  intro C e1 e2 e3 e4 e5 O hE _
  subst e1 e2 e3 e4 e5
  dsimp only [List.zip, List.zipWith]
  refine ws_cons ?_
  refine ws_tryQ ?_
  refine ws_cons ?_
  refine' ws_escT [] l 38 [38, 97, 109, 112, 59] ?_ lit_26 lit_26616d703b (by decide) (by decide) (by decide) (by decide) hl ?_
  rotate_left
  k_dflt rfl
  intro _
  refine seq_next ?_
  dsimp only [List.cons_append, List.nil_append]
  refine ws_cons ?_
  refine' ws_escT [(38, [38, 97, 109, 112, 59])] l 60 [38, 108, 116, 59] ?_ lit_3c lit_266c743b (by decide) (by decide) (by decide) (by decide) hl ?_
  rotate_left
  k_dflt rfl
  intro _
  refine seq_next ?_
  dsimp only [List.cons_append, List.nil_append]
  refine ws_cons ?_
  refine' ws_escT [(38, [38, 97, 109, 112, 59]), (60, [38, 108, 116, 59])] l 34 [38, 113, 117, 111, 116, 59] ?_ lit_22 lit_2671756f743b (by decide) (by decide) (by decide) (by decide) hl ?_
  rotate_left
  k_dflt rfl
  intro _
  refine seq_next ?_
  dsimp only [List.cons_append, List.nil_append]
  refine ws_cons ?_
  refine' ws_escT [(38, [38, 97, 109, 112, 59]), (60, [38, 108, 116, 59]), (34, [38, 113, 117, 111, 116, 59])] l 9 [38, 35, 120, 57, 59] ?_ lit_09 lit_262378393b (by decide) (by decide) (by decide) (by decide) hl ?_
  rotate_left
  k_dflt rfl
  intro _
  refine seq_next ?_
  dsimp only [List.cons_append, List.nil_append]
  refine ws_cons ?_
  refine' ws_escT [(38, [38, 97, 109, 112, 59]), (60, [38, 108, 116, 59]), (34, [38, 113, 117, 111, 116, 59]), (9, [38, 35, 120, 57, 59])] l 10 [38, 35, 120, 65, 59] ?_ lit_0a lit_262378413b (by decide) (by decide) (by decide) (by decide) hl ?_
  rotate_left
  k_dflt rfl
  intro _
  refine seq_next ?_
  dsimp only [List.cons_append, List.nil_append]
  refine ws_cons ?_
  refine' ws_escT [(38, [38, 97, 109, 112, 59]), (60, [38, 108, 116, 59]), (34, [38, 113, 117, 111, 116, 59]), (9, [38, 35, 120, 57, 59]), (10, [38, 35, 120, 65, 59])] l 13 [38, 35, 120, 68, 59] ?_ lit_0d lit_262378443b (by decide) (by decide) (by decide) (by decide) hl ?_
  rotate_left
  k_dflt rfl
  intro _
  refine seq_next ?_
  dsimp only [List.cons_append, List.nil_append]
  repeat' ktr_rel
  exact fun h _ _ => ⟨_, rfl⟩
end Mine

namespace Mine
open PySem PySem.W PyProof.Rows PySem.Calls PyProof.V PySem.Spec
def writeTab (h : Nat) : Tab := if h = 0 then tab_cdata else if h = 1 then tab_attrib else if h = 2 then tab_attrib_html else if h = 3 then tab_cdata_c14n else tab_attrib_c14n
theorem sp_write {prog w mean mg mb} (hand : Nat) (h5 : hand < 5) (l : List Nat) (t u : Tok) (hl : l.length ≤ 100000) : Fn prog w mean mg mb 154 [.int hand u, .str (tx l) t] 4 anyP (isS (tx (flatT (writeTab hand) l))) := by
  tb_start
  intro C e1 e2 e3 e4 e5 O hE _
  subst e1 e2 e3 e4 e5
  dsimp only [List.zip, List.zipWith]
  have h5' : hand = 0 ∨ hand = 1 ∨ hand = 2 ∨ hand = 3 ∨ hand = 4 := by omega
  rcases h5' with rfl | rfl | rfl | rfl | rfl
  · repeat' ktr_rel
    refine ws_iteT (by decide) ?_
    repeat' ktr_rel
    refine ws_fnS (O.le (by decide)) (sp_cdata l _ hl) (fun _ _ _ => trivial) ?_
    intro _
    repeat' ktr_rel
    exact fun h _ _ => ⟨_, rfl⟩
  · repeat' ktr_rel
    refine ws_iteF (by decide) ?_
    repeat' ktr_rel
    refine ws_iteT (by decide) ?_
    repeat' ktr_rel
    refine ws_fnS (O.le (by decide)) (sp_attrib l _ hl) (fun _ _ _ => trivial) ?_
    intro _
    repeat' ktr_rel
    exact fun h _ _ => ⟨_, rfl⟩
  · repeat' ktr_rel
    refine ws_iteF (by decide) ?_
    repeat' ktr_rel
    refine ws_iteF (by decide) ?_
    repeat' ktr_rel
    refine ws_iteT (by decide) ?_
    repeat' ktr_rel
    refine ws_fnS (O.le (by decide)) (sp_attrib_html l _ hl) (fun _ _ _ => trivial) ?_
    intro _
    repeat' ktr_rel
    exact fun h _ _ => ⟨_, rfl⟩
  · repeat' ktr_rel
    refine ws_iteF (by decide) ?_
    repeat' ktr_rel
    refine ws_iteF (by decide) ?_
    repeat' ktr_rel
    refine ws_iteF (by decide) ?_
    repeat' ktr_rel
    refine ws_iteT (by decide) ?_
    repeat' ktr_rel
    refine ws_fnS (O.le (by decide)) (sp_cdata_c14n l _ hl) (fun _ _ _ => trivial) ?_
    intro _
    repeat' ktr_rel
    exact fun h _ _ => ⟨_, rfl⟩
  · repeat' ktr_rel
    refine ws_iteF (by decide) ?_
    repeat' ktr_rel
    refine ws_iteF (by decide) ?_
    repeat' ktr_rel
    refine ws_iteF (by decide) ?_
    repeat' ktr_rel
    refine ws_iteF (by decide) ?_
    repeat' ktr_rel
    refine ws_fnS (O.le (by decide)) (sp_attrib_c14n l _ hl) (fun _ _ _ => trivial) ?_
    intro _
    repeat' ktr_rel
    exact fun h _ _ => ⟨_, rfl⟩
end Mine

namespace Mine
open PySem PySem.W PyProof.Rows PySem.Calls PyProof.V PySem.Spec
def tabS0 : Tab := [(38, [38, 97, 109, 112, 59]), (60, [38, 108, 116, 59]), (62, [38, 103, 116, 59])]
def tabS1 : Tab := [(38, [38, 97, 109, 112, 59]), (60, [38, 108, 116, 59]), (62, [38, 103, 116, 59]), (13, [38, 35, 49, 51, 59])]
def tabS2 : Tab := [(38, [38, 97, 109, 112, 59]), (62, [38, 103, 116, 59])]
def tabS3 : Tab := [(38, [38, 97, 109, 112, 59]), (60, [38, 108, 116, 59]), (62, [38, 103, 116, 59]), (13, [38, 35, 120, 68, 59])]
def tabS4 : Tab := [(38, [38, 97, 109, 112, 59]), (60, [38, 108, 116, 59]), (13, [38, 35, 120, 68, 59])]
def spellTab (h : Nat) : Tab := if h = 0 then tabS0 else if h = 1 then tabS1 else if h = 2 then tabS2 else if h = 3 then tabS3 else tabS4
theorem ws_dsetT {C : Cx} {m : Loc} {n : Led} {QU : Unit → Loc → Led → Prop} {D : Addr} {o : Obj} {g : Obj → Led} {y z : Str} {t u : Tok} (T : TK) (c : Nat) (zl : List Nat) (U : UpdF D o n g) (hd : o.IsDictOf (PySem.strKind C.prog C.w) (kvT T)) (hy : y = tx [c]) (hz : z = tx zl)
    (hc : T.any (fun p => p.1 == c) = false) (hT : T.length ≤ 10) (H : ∀ o', o'.IsDictOf (PySem.strKind C.prog C.w) (kvT (T ++ [(c, zl, u)])) → QU () m (g o')) : WS C (setItem (.ref D) (.str y t) (.str z u)) QU m n := by
  subst hy hz
  refine ws_dset U hd (PySem.strKind_is _ _ _ _) ?_ fun o' ho' => H o' ?_
  · rw [sizeLine_eq]; unfold kvT; rw [List.length_map]; omega
  · rw [← kvT_new T c zl u hc]; exact ho'
theorem kvT_at' {o : Obj} {prog : Program} {w : World} {T : TK} (_ : o.IsDictOf (PySem.strKind prog w) (kvT T)) (c : Nat) : valueAt (kvT T) (tx [c]) = (T.lookup c).map fun p => Value.str (tx p.1) p.2 := kvT_at T c
theorem tabT_at' {o : Obj} {prog : Program} {w : World} {T : TK} (_ : o.IsDictOf (PySem.strKind prog w) (kvT T)) (c : Nat) : tabF (tabT T) c = match T.lookup c with | some p => p.1 | none => [c] := tabT_at T c
theorem look_some {T : TK} {c : Nat} {f : List Nat × Tok → Value} (h : ((T.lookup c).map f).isSome = true) : ∃ z t, T.lookup c = some (z, t) := by
  cases hl : T.lookup c with
  | none => rw [hl] at h; exact absurd h (by simp)
  | some p => exact ⟨p.1, p.2, rfl⟩
theorem look_none {T : TK} {c : Nat} {f : List Nat × Tok → Value} (h : ((T.lookup c).map f).isSome = false) : T.lookup c = none := by
  cases hl : T.lookup c with
  | none => rfl
  | some p => rw [hl] at h; exact absurd h (by simp)
theorem spell_snoc (tab : Tab) (l : List Nat) (i c : Nat) (h : l[i]? = some c) {ys : List Value} {y : List Nat} {t : Tok} (hP : StrsAre ys ((l.take i).map fun c => tx (tabF tab c))) (hy : y = tabF tab c) : StrsAre (ys ++ [.str (tx y) t]) ((l.take (i + 1)).map fun c => tx (tabF tab c)) := by
  rw [List.take_add_one, h, List.map_append, hy]
  exact strs_snoc hP _ _
theorem spell_join (tab : Tab) (l : List Nat) : Txt.join (Str.ofString "") (l.map fun c => tx (tabF tab c)) = tx (flatT tab l) := by
  have := join_nil (l.map (tabF tab))
  rw [lit_]
  rw [List.map_map] at this
  exact this
theorem spell_size (tab : Tab) (h6 : ∀ p ∈ tab, p.2.length ≤ 6) (l : List Nat) : ((l.map fun c => tx (tabF tab c)).map (·.length)).sum = (flatT tab l).length := by
  induction l with
  | nil => rfl
  | cons k r ih => rw [flatT_cons, List.map_cons, List.map_cons, List.sum_cons, ih, List.length_append, tx_len]
theorem sp_spell {prog w mean mg mb} (hand : Nat) (h5 : hand < 5) (l : List Nat) (t u : Tok) (hl : l.length ≤ 100000) : Fn prog w mean mg mb 159 [.int hand u, .str (tx l) t] 4 anyP (isS (tx (flatT (spellTab hand) l))) := by
  tb_start
  intro C e1 e2 e3 e4 e5 O hE hpre cells hc
  subst e1 e2 e3 e4 e5
  obtain ⟨o1, rfl, a1⟩ := CellsAre.one hc
  obtain ⟨o1, rfl⟩ : ∃ o, o1 = cellX o none := ⟨_, cellX_of a1⟩
  dsimp only [List.zip, List.zipWith]
  repeat' ktr_rel
  with_reducible refine ws_dict (PySem.strKind _ _) ?_ ?_ ?_ ?_ fun D hD => ?_
  · exact rfl
  · exact rfl
  · simp
  · decide
  simp only [Fresh, AllLt, and_true] at hD
  repeat' ktr_rel
  refine ⟨[(Str.ofString "&", .str (Str.ofString "&amp;") _)], ⟨PySem.strKind_is _ _ _ _, rfl, trivial⟩, rfl, fun o0 ho0 => ?_⟩
  rw [lit_26, lit_26616d703b] at ho0
  replace ho0 : o0.IsDictOf (PySem.strKind _ _) (kvT [(38, [38, 97, 109, 112, 59], _)]) := ho0
  refine ws_lo O hD.1 fun lo => ?_
  repeat' ktr_rel
  have h5' : hand = 0 ∨ hand = 1 ∨ hand = 2 ∨ hand = 3 ∨ hand = 4 := by omega
  rcases h5' with rfl | rfl | rfl | rfl | rfl
  · skip
    refine ws_iteT (by decide) ?_
    repeat' ktr_rel
    with_reducible refine' ws_dsetT [(38, [38, 97, 109, 112, 59], _)] 60 [38, 108, 116, 59] ?U ho0 lit_3c lit_266c743b ?hc ?hT ?_
    case U => k_updF
    case hc => exact rfl
    case hT => exact Nat.le_of_ble_eq_true rfl
    intro o1 ho1
    dsimp only [List.cons_append, List.nil_append] at ho1
    repeat' ktr_rel
    refine ws_iteT (by decide) ?_
    repeat' ktr_rel
    with_reducible refine' ws_dsetT [(38, [38, 97, 109, 112, 59], _), (60, [38, 108, 116, 59], _)] 62 [38, 103, 116, 59] ?U ho1 lit_3e lit_2667743b ?hc ?hT ?_
    case U => k_updF
    case hc => exact rfl
    case hT => exact Nat.le_of_ble_eq_true rfl
    intro o2 ho2
    dsimp only [List.cons_append, List.nil_append] at ho2
    repeat' ktr_rel
    refine ws_iteF (by decide) ?_
    repeat' ktr_rel
    refine ws_iteF (by decide) ?_
    repeat' ktr_rel
    refine cat_str (fun i ys => StrsAre ys ((l.take i).map fun c => tx (tabF (spellTab 0) c))) O fins_none .nil (by rw [sizeLine_eq, tx_len]; omega) (by decide) rfl rfl ?turn0 ?done0
    case turn0 =>
      intro h₀ L B O' D' cn i I o ws c t u hlt hDL hx hP
      have hx' : l[i]? = some c := by simpa using hx
      have hat := kvT_at' ho2 c
      have htab : tabF (spellTab 0) c = _ := tabT_at' ho2 c
      repeat' ktr_rel
      refine ws_din (knd := PySem.strKind _ _) (kk := tx [c]) lo (by k_mem) ho2 (PySem.strKind_is _ _ _ _) ?_
      repeat' ktr_rel
      refine ws_ite ?_ ?_
      · intro hb
        rw [hat] at hb
        obtain ⟨z, tz, hz⟩ := look_some hb
        rw [hz] at hat htab
        repeat' ktr_rel
        refine ws_dget (knd := PySem.strKind _ _) (kk := tx [c]) (by k_mem) ho2 (PySem.strKind_is _ _ _ _) hat ?_
        exact ⟨fun _ h => h, spell_snoc _ l i c hx' hP htab.symm⟩
      · intro hb
        rw [hat] at hb
        have hz := look_none hb
        rw [hz] at hat htab
        repeat' ktr_rel
        exact ⟨fun _ h => h, spell_snoc _ l i c hx' hP htab.symm⟩
    case done0 =>
      intro ws D' cn hCD hlt hP
      rw [tx_len, List.take_length] at hP
      repeat' ktr_rel
      refine ws_join (vs := ws) (isLst_mem (c := cn) (by k_mem)) hP ?_ ?_
      · have h1 := spell_size (spellTab 0) (by decide) l
        have h2 := flatT_len (spellTab 0) (by decide) l
        have h3 : (Str.ofString "").length = 0 := by rw [lit_]; rfl
        rw [h3]; omega
      intro tj
      repeat' ktr_rel
      exact fun h _ _ => ⟨tj, congrArg (Value.str · tj) (spell_join _ l)⟩
  · skip
    refine ws_iteT (by decide) ?_
    repeat' ktr_rel
    with_reducible refine' ws_dsetT [(38, [38, 97, 109, 112, 59], _)] 60 [38, 108, 116, 59] ?U ho0 lit_3c lit_266c743b ?hc ?hT ?_
    case U => k_updF
    case hc => exact rfl
    case hT => exact Nat.le_of_ble_eq_true rfl
    intro o1 ho1
    dsimp only [List.cons_append, List.nil_append] at ho1
    repeat' ktr_rel
    refine ws_iteT (by decide) ?_
    repeat' ktr_rel
    with_reducible refine' ws_dsetT [(38, [38, 97, 109, 112, 59], _), (60, [38, 108, 116, 59], _)] 62 [38, 103, 116, 59] ?U ho1 lit_3e lit_2667743b ?hc ?hT ?_
    case U => k_updF
    case hc => exact rfl
    case hT => exact Nat.le_of_ble_eq_true rfl
    intro o2 ho2
    dsimp only [List.cons_append, List.nil_append] at ho2
    repeat' ktr_rel
    refine ws_iteT (by decide) ?_
    repeat' ktr_rel
    with_reducible refine' ws_dsetT [(38, [38, 97, 109, 112, 59], _), (60, [38, 108, 116, 59], _), (62, [38, 103, 116, 59], _)] 13 [38, 35, 49, 51, 59] ?U ho2 lit_0d lit_262331333b ?hc ?hT ?_
    case U => k_updF
    case hc => exact rfl
    case hT => exact Nat.le_of_ble_eq_true rfl
    intro o3 ho3
    dsimp only [List.cons_append, List.nil_append] at ho3
    repeat' ktr_rel
    refine ws_iteF (by decide) ?_
    repeat' ktr_rel
    refine cat_str (fun i ys => StrsAre ys ((l.take i).map fun c => tx (tabF (spellTab 1) c))) O fins_none .nil (by rw [sizeLine_eq, tx_len]; omega) (by decide) rfl rfl ?turn1 ?done1
    case turn1 =>
      intro h₀ L B O' D' cn i I o ws c t u hlt hDL hx hP
      have hx' : l[i]? = some c := by simpa using hx
      have hat := kvT_at' ho3 c
      have htab : tabF (spellTab 1) c = _ := tabT_at' ho3 c
      repeat' ktr_rel
      refine ws_din (knd := PySem.strKind _ _) (kk := tx [c]) lo (by k_mem) ho3 (PySem.strKind_is _ _ _ _) ?_
      repeat' ktr_rel
      refine ws_ite ?_ ?_
      · intro hb
        rw [hat] at hb
        obtain ⟨z, tz, hz⟩ := look_some hb
        rw [hz] at hat htab
        repeat' ktr_rel
        refine ws_dget (knd := PySem.strKind _ _) (kk := tx [c]) (by k_mem) ho3 (PySem.strKind_is _ _ _ _) hat ?_
        exact ⟨fun _ h => h, spell_snoc _ l i c hx' hP htab.symm⟩
      · intro hb
        rw [hat] at hb
        have hz := look_none hb
        rw [hz] at hat htab
        repeat' ktr_rel
        exact ⟨fun _ h => h, spell_snoc _ l i c hx' hP htab.symm⟩
    case done1 =>
      intro ws D' cn hCD hlt hP
      rw [tx_len, List.take_length] at hP
      repeat' ktr_rel
      refine ws_join (vs := ws) (isLst_mem (c := cn) (by k_mem)) hP ?_ ?_
      · have h1 := spell_size (spellTab 1) (by decide) l
        have h2 := flatT_len (spellTab 1) (by decide) l
        have h3 : (Str.ofString "").length = 0 := by rw [lit_]; rfl
        rw [h3]; omega
      intro tj
      repeat' ktr_rel
      exact fun h _ _ => ⟨tj, congrArg (Value.str · tj) (spell_join _ l)⟩
  · skip
    refine ws_iteF (by decide) ?_
    repeat' ktr_rel
    refine ws_iteT (by decide) ?_
    repeat' ktr_rel
    with_reducible refine' ws_dsetT [(38, [38, 97, 109, 112, 59], _)] 62 [38, 103, 116, 59] ?U ho0 lit_3e lit_2667743b ?hc ?hT ?_
    case U => k_updF
    case hc => exact rfl
    case hT => exact Nat.le_of_ble_eq_true rfl
    intro o1 ho1
    dsimp only [List.cons_append, List.nil_append] at ho1
    repeat' ktr_rel
    refine ws_iteF (by decide) ?_
    repeat' ktr_rel
    refine ws_iteF (by decide) ?_
    repeat' ktr_rel
    refine cat_str (fun i ys => StrsAre ys ((l.take i).map fun c => tx (tabF (spellTab 2) c))) O fins_none .nil (by rw [sizeLine_eq, tx_len]; omega) (by decide) rfl rfl ?turn2 ?done2
    case turn2 =>
      intro h₀ L B O' D' cn i I o ws c t u hlt hDL hx hP
      have hx' : l[i]? = some c := by simpa using hx
      have hat := kvT_at' ho1 c
      have htab : tabF (spellTab 2) c = _ := tabT_at' ho1 c
      repeat' ktr_rel
      refine ws_din (knd := PySem.strKind _ _) (kk := tx [c]) lo (by k_mem) ho1 (PySem.strKind_is _ _ _ _) ?_
      repeat' ktr_rel
      refine ws_ite ?_ ?_
      · intro hb
        rw [hat] at hb
        obtain ⟨z, tz, hz⟩ := look_some hb
        rw [hz] at hat htab
        repeat' ktr_rel
        refine ws_dget (knd := PySem.strKind _ _) (kk := tx [c]) (by k_mem) ho1 (PySem.strKind_is _ _ _ _) hat ?_
        exact ⟨fun _ h => h, spell_snoc _ l i c hx' hP htab.symm⟩
      · intro hb
        rw [hat] at hb
        have hz := look_none hb
        rw [hz] at hat htab
        repeat' ktr_rel
        exact ⟨fun _ h => h, spell_snoc _ l i c hx' hP htab.symm⟩
    case done2 =>
      intro ws D' cn hCD hlt hP
      rw [tx_len, List.take_length] at hP
      repeat' ktr_rel
      refine ws_join (vs := ws) (isLst_mem (c := cn) (by k_mem)) hP ?_ ?_
      · have h1 := spell_size (spellTab 2) (by decide) l
        have h2 := flatT_len (spellTab 2) (by decide) l
        have h3 : (Str.ofString "").length = 0 := by rw [lit_]; rfl
        rw [h3]; omega
      intro tj
      repeat' ktr_rel
      exact fun h _ _ => ⟨tj, congrArg (Value.str · tj) (spell_join _ l)⟩
  · skip
    refine ws_iteT (by decide) ?_
    repeat' ktr_rel
    with_reducible refine' ws_dsetT [(38, [38, 97, 109, 112, 59], _)] 60 [38, 108, 116, 59] ?U ho0 lit_3c lit_266c743b ?hc ?hT ?_
    case U => k_updF
    case hc => exact rfl
    case hT => exact Nat.le_of_ble_eq_true rfl
    intro o1 ho1
    dsimp only [List.cons_append, List.nil_append] at ho1
    repeat' ktr_rel
    refine ws_iteT (by decide) ?_
    repeat' ktr_rel
    with_reducible refine' ws_dsetT [(38, [38, 97, 109, 112, 59], _), (60, [38, 108, 116, 59], _)] 62 [38, 103, 116, 59] ?U ho1 lit_3e lit_2667743b ?hc ?hT ?_
    case U => k_updF
    case hc => exact rfl
    case hT => exact Nat.le_of_ble_eq_true rfl
    intro o2 ho2
    dsimp only [List.cons_append, List.nil_append] at ho2
    repeat' ktr_rel
    refine ws_iteF (by decide) ?_
    repeat' ktr_rel
    refine ws_iteT (by decide) ?_
    repeat' ktr_rel
    with_reducible refine' ws_dsetT [(38, [38, 97, 109, 112, 59], _), (60, [38, 108, 116, 59], _), (62, [38, 103, 116, 59], _)] 13 [38, 35, 120, 68, 59] ?U ho2 lit_0d lit_262378443b ?hc ?hT ?_
    case U => k_updF
    case hc => exact rfl
    case hT => exact Nat.le_of_ble_eq_true rfl
    intro o3 ho3
    dsimp only [List.cons_append, List.nil_append] at ho3
    repeat' ktr_rel
    refine cat_str (fun i ys => StrsAre ys ((l.take i).map fun c => tx (tabF (spellTab 3) c))) O fins_none .nil (by rw [sizeLine_eq, tx_len]; omega) (by decide) rfl rfl ?turn3 ?done3
    case turn3 =>
      intro h₀ L B O' D' cn i I o ws c t u hlt hDL hx hP
      have hx' : l[i]? = some c := by simpa using hx
      have hat := kvT_at' ho3 c
      have htab : tabF (spellTab 3) c = _ := tabT_at' ho3 c
      repeat' ktr_rel
      refine ws_din (knd := PySem.strKind _ _) (kk := tx [c]) lo (by k_mem) ho3 (PySem.strKind_is _ _ _ _) ?_
      repeat' ktr_rel
      refine ws_ite ?_ ?_
      · intro hb
        rw [hat] at hb
        obtain ⟨z, tz, hz⟩ := look_some hb
        rw [hz] at hat htab
        repeat' ktr_rel
        refine ws_dget (knd := PySem.strKind _ _) (kk := tx [c]) (by k_mem) ho3 (PySem.strKind_is _ _ _ _) hat ?_
        exact ⟨fun _ h => h, spell_snoc _ l i c hx' hP htab.symm⟩
      · intro hb
        rw [hat] at hb
        have hz := look_none hb
        rw [hz] at hat htab
        repeat' ktr_rel
        exact ⟨fun _ h => h, spell_snoc _ l i c hx' hP htab.symm⟩
    case done3 =>
      intro ws D' cn hCD hlt hP
      rw [tx_len, List.take_length] at hP
      repeat' ktr_rel
      refine ws_join (vs := ws) (isLst_mem (c := cn) (by k_mem)) hP ?_ ?_
      · have h1 := spell_size (spellTab 3) (by decide) l
        have h2 := flatT_len (spellTab 3) (by decide) l
        have h3 : (Str.ofString "").length = 0 := by rw [lit_]; rfl
        rw [h3]; omega
      intro tj
      repeat' ktr_rel
      exact fun h _ _ => ⟨tj, congrArg (Value.str · tj) (spell_join _ l)⟩
  · skip
    refine ws_iteT (by decide) ?_
    repeat' ktr_rel
    with_reducible refine' ws_dsetT [(38, [38, 97, 109, 112, 59], _)] 60 [38, 108, 116, 59] ?U ho0 lit_3c lit_266c743b ?hc ?hT ?_
    case U => k_updF
    case hc => exact rfl
    case hT => exact Nat.le_of_ble_eq_true rfl
    intro o1 ho1
    dsimp only [List.cons_append, List.nil_append] at ho1
    repeat' ktr_rel
    refine ws_iteF (by decide) ?_
    repeat' ktr_rel
    refine ws_iteF (by decide) ?_
    repeat' ktr_rel
    refine ws_iteT (by decide) ?_
    repeat' ktr_rel
    with_reducible refine' ws_dsetT [(38, [38, 97, 109, 112, 59], _), (60, [38, 108, 116, 59], _)] 13 [38, 35, 120, 68, 59] ?U ho1 lit_0d lit_262378443b ?hc ?hT ?_
    case U => k_updF
    case hc => exact rfl
    case hT => exact Nat.le_of_ble_eq_true rfl
    intro o2 ho2
    dsimp only [List.cons_append, List.nil_append] at ho2
    repeat' ktr_rel
    refine cat_str (fun i ys => StrsAre ys ((l.take i).map fun c => tx (tabF (spellTab 4) c))) O fins_none .nil (by rw [sizeLine_eq, tx_len]; omega) (by decide) rfl rfl ?turn4 ?done4
    case turn4 =>
      intro h₀ L B O' D' cn i I o ws c t u hlt hDL hx hP
      have hx' : l[i]? = some c := by simpa using hx
      have hat := kvT_at' ho2 c
      have htab : tabF (spellTab 4) c = _ := tabT_at' ho2 c
      repeat' ktr_rel
      refine ws_din (knd := PySem.strKind _ _) (kk := tx [c]) lo (by k_mem) ho2 (PySem.strKind_is _ _ _ _) ?_
      repeat' ktr_rel
      refine ws_ite ?_ ?_
      · intro hb
        rw [hat] at hb
        obtain ⟨z, tz, hz⟩ := look_some hb
        rw [hz] at hat htab
        repeat' ktr_rel
        refine ws_dget (knd := PySem.strKind _ _) (kk := tx [c]) (by k_mem) ho2 (PySem.strKind_is _ _ _ _) hat ?_
        exact ⟨fun _ h => h, spell_snoc _ l i c hx' hP htab.symm⟩
      · intro hb
        rw [hat] at hb
        have hz := look_none hb
        rw [hz] at hat htab
        repeat' ktr_rel
        exact ⟨fun _ h => h, spell_snoc _ l i c hx' hP htab.symm⟩
    case done4 =>
      intro ws D' cn hCD hlt hP
      rw [tx_len, List.take_length] at hP
      repeat' ktr_rel
      refine ws_join (vs := ws) (isLst_mem (c := cn) (by k_mem)) hP ?_ ?_
      · have h1 := spell_size (spellTab 4) (by decide) l
        have h2 := flatT_len (spellTab 4) (by decide) l
        have h3 : (Str.ofString "").length = 0 := by rw [lit_]; rfl
        rw [h3]; omega
      intro tj
      repeat' ktr_rel
      exact fun h _ _ => ⟨tj, congrArg (Value.str · tj) (spell_join _ l)⟩
end Mine

namespace Mine
open PySem PySem.W PyProof.Rows PySem.Calls PyProof.V PySem.Spec
/-! slices, items of texts -/
theorem item_tx {l : List Nat} {i c : Nat} (h : l[i]? = some c) : Txt.item (tx l) (i : Int) = tx [c] := by
  have hlt := (List.getElem?_eq_some_iff.mp h).1
  unfold Txt.item Txt.charAt seqIndex?
  have h1 : ¬ ((i : Int) < 0) := by omega
  have h2 : (decide ((0 : Int) ≤ (i : Int)) && decide ((i : Int) < ((tx l).length : Int))) = true := by
    rw [tx_len]; simp; omega
  simp only [h1, if_false, h2, if_true, Option.bind_some, Int.toNat_natCast]
  simp [tx, h]
theorem idx_hi (lo : Option Int) {j : Int} (len : Nat) (h : (len : Int) ≤ j) : Builtin.Str.strSliceIndices lo (some j) 1 len = Builtin.Str.strSliceIndices lo (some (len : Int)) 1 len := by
  unfold Builtin.Str.strSliceIndices
  have h1 : ¬ j < 0 := by omega
  have h2 : ¬ ((len : Int) < 0) := by omega
  simp only [h1, h2, if_false, show (1 : Int) > 0 by decide, if_true]
  rw [show min j (len : Int) = (len : Int) by omega, show min (len : Int) (len : Int) = (len : Int) by omega]
theorem slice_tx (l : List Nat) (a b : Nat) (hab : a ≤ b) (h : a ≤ l.length) : Txt.slice (tx l) (some (a : Int)) (some (b : Int)) = tx ((l.drop a).take (b - a)) := by
  have base : ∀ b : Nat, a ≤ b → b ≤ l.length → Txt.slice (tx l) (some (a : Int)) (some (b : Int)) = tx ((l.drop a).take (b - a)) := fun b hab hb => by
    have := eq_of_beq (slice_closesL (x := tx l) (i := (a : Int)) (j := (b : Int)) (by omega) (by omega) (by rw [tx_len]; omega))
    rw [this]
    have e : ((b : Int) - (a : Int)).toNat = b - a := by omega
    rw [e]
    simp [tx]
  by_cases hb : b ≤ l.length
  · exact base b hab hb
  · have e : Txt.slice (tx l) (some (a : Int)) (some (b : Int)) = Txt.slice (tx l) (some (a : Int)) (some (l.length : Int)) := by
      unfold Txt.slice
      rw [idx_hi _ _ (by rw [tx_len]; omega : ((tx l).length : Int) ≤ (b : Int)), tx_len]
    rw [e, base l.length h (Nat.le_refl _)]
    rw [List.take_of_length_le (by simp), List.take_of_length_le (by simp; omega)]
theorem slice_last (p : List Nat) (h : 1 ≤ p.length) : Txt.slice (tx p) none (some (-1)) = tx p.dropLast := by
  have e : Txt.slice (tx p) none (some (-1)) = Txt.slice (tx p) none (some (((p.length - 1 : Nat) : Int))) := by
    unfold Txt.slice
    rw [StrLaws.sliceIdx_neg_hi none (tx p).length (by decide) (by rw [tx_len]; omega), show ((-1 : Int) + ((tx p).length : Int)) = ((p.length - 1 : Nat) : Int) by rw [tx_len]; omega]
  rw [e]
  have := eq_of_beq (slice_closes_toL (x := tx p) (j := ((p.length - 1 : Nat) : Int)) (by omega) (by rw [tx_len]; omega))
  rw [this]
  have e2 : (((p.length - 1 : Nat) : Int) - 0).toNat = p.length - 1 := by omega
  rw [e2, List.dropLast_eq_take]
  simp [tx]
/-! what the pieces of a text are -/
def inTok (p : List Nat) : Bool := (tokL.lookup (tx p)).isSome
def cutN : Nat → List Nat → List Nat
  | 0, p => p
  | n + 1, p => if inTok p = true then p else cutN n p.dropLast
def tokOf (l : List Nat) : List Nat := cutN (l.take 3).length (l.take 3)
inductive Pcs : List Nat → List (List Nat) → Prop
  | nil : Pcs [] [[]]
  | op {c r ps} : inTok [c] = true → Pcs ((c :: r).drop (tokOf (c :: r)).length) ps → Pcs (c :: r) ([] :: tokOf (c :: r) :: ps)
  | ch {c r p ps} : inTok [c] = false → Pcs r (p :: ps) → Pcs (c :: r) ((c :: p) :: ps)
def glue (last : List Nat) : List (List Nat) → List (List Nat)
  | [] => [last]
  | p :: ps => (last ++ p) :: ps
theorem pcs_ne {l ps} (h : Pcs l ps) : ps ≠ [] := by cases h <;> simp
theorem strs_app {vs ws : List Value} {ys zs : List Str} (h : StrsAre vs ys) (h2 : StrsAre ws zs) : StrsAre (vs ++ ws) (ys ++ zs) := h.append' h2
theorem strs_set {vs : List Value} {ys : List Str} (h : StrsAre vs ys) : ∀ (i : Nat) (y : Str) (t : Tok), StrsAre (vs.set i (.str y t)) (ys.set i y) := by
  induction h with
  | nil => intro i y t; exact .nil
  | cons k t r ih =>
    intro i y t'
    cases i with
    | zero => exact .cons _ _ r
    | succ i => exact .cons _ _ (ih i y t')
theorem cut_prefix : ∀ (n : Nat) (p : List Nat), ∃ k, cutN n p = p.take k
  | 0, p => ⟨p.length, by simp [cutN]⟩
  | n + 1, p => by
    unfold cutN
    split
    · exact ⟨p.length, by simp⟩
    · obtain ⟨k, e⟩ := cut_prefix n p.dropLast
      rw [e, List.dropLast_eq_take, List.take_take]
      exact ⟨_, rfl⟩
section
variable {C : Cx} {k : Nat} {m : Loc} {n n' : Led} {QV : Value → Loc → Led → Prop} {QU : Unit → Loc → Led → Prop} {D : Addr} {vs : List Value} {c : Nat} {t : Tok} {x : Value}
theorem ws_getLast (hm : (D, listOf (vs ++ [x]).toArray c) ∈ n) (H : QV x m n) : WS C (getItem (.ref D) (.int (-1) t)) QV m n :=
  fun h tk F N => wpAny_getItem_list_neg (isLst_mem hm h m F N).1 (by decide) (by simp; omega) (by decide) (x := x) (by rw [show (-1 + (((vs ++ [x]).toArray.size : Nat) : Int)).toNat = vs.length by simp; omega]; simp) ⟨h, tk, m, n, rfl, F, N, H⟩
theorem ws_setLast {y : Value} (U : Upd D (listOf (vs ++ [x]).toArray c) (listOf (vs ++ [y]).toArray c) n n') (H : QU () m n') : WS C (setItem (.ref D) (.int (-1) t) y) QU m n := by
  intro h tk F N
  obtain ⟨pre, post, rfl, rfl, a, b⟩ := U.split
  have z := N (D, listOf (vs ++ [x]).toArray c) (List.mem_append.mpr (.inr (.head _)))
  refine ki_setBack z.1 (by decide) (by simp; omega) (by decide) ⟨_, _, m, _, rfl, F.change (Heap.SameBut.update ..) z.2.1 z.2.2, ki_turn _ N a b ?_ ?_, H⟩
  · apply Array.toList_inj.mp
    have e : (-1 + (((vs ++ [x]).toArray.size : Nat) : Int)).toNat = vs.length := by simp; omega
    rw [e]
    simp
  · simp
end
theorem strs_split {ys : List Str} {y : Str} : ∀ {vs : List Value}, StrsAre vs (ys ++ [y]) → ∃ vs0 t, vs = vs0 ++ [.str y t] ∧ StrsAre vs0 ys := by
  induction ys with
  | nil =>
    intro vs h
    cases h with
    | cons a t r => cases r; exact ⟨[], t, rfl, .nil⟩
  | cons z ys ih =>
    intro vs h
    cases h with
    | cons a t r =>
      obtain ⟨vs0, t', e, h'⟩ := ih r
      exact ⟨.str z t :: vs0, t', by rw [e]; rfl, .cons _ _ h'⟩
theorem tx_app (a b : List Nat) : tx a ++ tx b = tx (a ++ b) := by
  apply congrArg Str.mk
  apply Array.toList_inj.mp
  simp
theorem fits_med {i : Int} (h0 : 0 ≤ i) (h1 : i < 1000000) : fitsSsize i = true := by
  unfold fitsSsize
  rw [Bool.not_eq_true', Bool.or_eq_false_iff]
  exact ⟨decide_eq_false (by omega), decide_eq_false (by omega)⟩
theorem sp_pieces {prog w mean mg mb} (l : List Nat) (ps : List (List Nat)) (hps : Pcs l ps) (t : Tok) (hl : l.length ≤ 300000) : Fn prog w mean mg mb 166 [.str (tx l) t] 8 anyP (isL fun vs => StrsAre vs (ps.map tx)) := by
  tb_start
  intro C e1 e2 e3 e4 e5 O hE hpre
  subst e1 e2 e3 e4 e5
  dsimp only [List.zip, List.zipWith]
  repeat' ktr_rel
  rename_i a ha t0
  have hline := sizeLine_eq
  have hlt : (tx l).length = l.length := tx_len l
  refine ws_while (σ := Nat × Tok × List Value × Nat × List (List Nat) × List Nat × List (List Nat)) (fun s => [(a, listOf s.2.2.1.toArray s.2.2.2.1)]) (fun s => [(Str.ofString "text", .str (tx l) t), (Str.ofString "pieces", .ref a), (Str.ofString "at", .int s.1 s.2.1)])
    (fun s => StrsAre s.2.2.1 ((s.2.2.2.2.1 ++ [s.2.2.2.2.2.1]).map tx) ∧ Pcs (l.drop s.1) s.2.2.2.2.2.2 ∧ ps = s.2.2.2.2.1 ++ glue s.2.2.2.2.2.1 s.2.2.2.2.2.2 ∧ s.1 ≤ l.length ∧ s.2.2.2.2.1.length ≤ 2 * s.1 ∧ s.2.2.2.2.2.1.length ≤ s.1) (fun s => l.length - s.1)
    (0, _, _, 0, [], [], ps) hE ⟨by k_mem, trivial⟩ ⟨rfl, rfl, rfl, trivial⟩ ⟨.cons _ _ .nil, hps, ?h0, Nat.zero_le _, Nat.le_refl _, Nat.le_refl _⟩ ?turn
  case h0 => cases hps <;> rfl
  case turn =>
    rintro ⟨at', ta, vs, cn, ini, last, ps'⟩ u ⟨hP, hpc, hglue, hat, hini, hlast⟩
    dsimp only at hP hpc hglue hat hini hlast ⊢
    repeat' ktr_rel
    refine ws_lenS (by omega) ?_
    intro _
    repeat' ktr_rel
    refine ws_ite ?_ ?_
    · intro h1
      have h1' : at' < l.length := by have := of_decide_eq_true h1; omega
      have hne := hpc
      obtain ⟨c, r, hcr⟩ : ∃ c r, l.drop at' = c :: r := by
        cases hd : l.drop at' with
        | nil => have := congrArg List.length hd; simp at this; omega
        | cons c r => exact ⟨c, r, rfl⟩
      have hget : l[at']? = some c := by
        have : (l.drop at')[0]? = some c := by rw [hcr]; rfl
        rw [List.getElem?_drop] at this
        exact this
      have hdrop : l.drop (at' + 1) = r := by
        have : (l.drop at').drop 1 = r := by rw [hcr]; rfl
        rw [List.drop_drop] at this
        exact this
      have hlenr : r.length + 1 + at' = l.length := by
        have := congrArg List.length hcr
        simp at this; omega
      rw [hcr] at hpc
      repeat' ktr_rel
      refine ws_itemS (fits_med (by omega) (by omega)) (by omega) (by omega) ?_
      rw [item_tx hget]
      intro _
      repeat' ktr_rel
      refine ws_inTab (tab30 O) ?_
      repeat' ktr_rel
      refine ws_ite ?_ ?_
      · intro h2
        obtain ⟨ps2, rfl, hp2⟩ : ∃ ps2, ps' = [] :: tokOf (c :: r) :: ps2 ∧ Pcs ((c :: r).drop (tokOf (c :: r)).length) ps2 := by
          cases hpc with
          | op a b => exact ⟨_, rfl, b⟩
          | ch a b => exact absurd (h2.symm.trans a) (by decide)
        repeat' ktr_rel
        refine .inr ⟨tx l, t, some (at' : Int), some ((at' : Int) + 3), rfl, bnd_int, bnd_int, by omega, fun t3 => ?_⟩
        rw [show ((at' : Int) + 3) = ((at' + 3 : Nat) : Int) by omega, slice_tx l at' (at' + 3) (by omega) (by omega), hcr, show at' + 3 - at' = 3 by omega]
        repeat' ktr_rel
        refine ws_while (σ := List Nat × Tok) (fun _ => [(a, listOf vs.toArray cn)]) (fun s => [(Str.ofString "text", .str (tx l) t), (Str.ofString "pieces", .ref a), (Str.ofString "at", .int at' ta), (Str.ofString "piece", .str (tx s.1) s.2)])
          (fun s => s.1 = (c :: r).take s.1.length ∧ 1 ≤ s.1.length ∧ s.1.length ≤ 3 ∧ cutN s.1.length s.1 = tokOf (c :: r)) (fun s => s.1.length) ((c :: r).take 3, t3) hE ⟨by k_mem, trivial⟩ ⟨rfl, rfl, rfl, rfl, trivial⟩ ⟨?p1, ?p2, ?p3, rfl⟩ ?turn2
        case p1 => simp [List.length_take, List.take_take]
        case p2 => simp
        case p3 => simp; omega
        case turn2 =>
          rintro ⟨p, tp⟩ u2 ⟨hp1, hp3, hp4, hp5⟩
          dsimp only at hp1 hp3 hp4 hp5 ⊢
          repeat' ktr_rel
          refine ws_notinTab (tab30 O) ?_
          repeat' ktr_rel
          refine ws_ite ?_ ?_
          · intro h3
            have h3' : inTok p = false := by simpa [inTok] using h3
            have hp6 : 2 ≤ p.length := by
              apply Nat.lt_of_le_of_ne hp3
              intro e
              rw [← e] at hp1
              rw [hp1] at h3'
              exact absurd (h2.symm.trans h3') (by decide)
            repeat' ktr_rel
            refine .inr ⟨tx p, tp, none, some (-1), rfl, bnd_none, bnd_int, by rw [tx_len]; omega, fun t4 => ?_⟩
            rw [slice_last p hp3]
            repeat' ktr_rel
            refine ⟨(p.dropLast, t4), ⟨by k_mem, trivial⟩, ⟨rfl, rfl, rfl, rfl, trivial⟩, ⟨?q1, ?q2, ?q3, ?q4⟩, ?q5⟩
            case q1 =>
              rw [List.length_dropLast]
              calc p.dropLast = p.take (p.length - 1) := List.dropLast_eq_take
                _ = ((c :: r).take p.length).take (p.length - 1) := by rw [← hp1]
                _ = _ := by rw [List.take_take]; congr 1; omega
            case q2 => show 1 ≤ p.dropLast.length; simp; omega
            case q3 => show p.dropLast.length ≤ 3; simp; omega
            case q4 =>
              show cutN p.dropLast.length p.dropLast = _
              rw [← hp5]
              obtain ⟨q, hq⟩ : ∃ q, p.length = q + 1 := ⟨p.length - 1, by omega⟩
              rw [List.length_dropLast, hq]
              show cutN q p.dropLast = if inTok p = true then p else cutN q p.dropLast
              rw [h3']; rfl
            case q5 => show p.dropLast.length < p.length; simp; omega
          · intro h3
            have h3' : inTok p = true := by simpa [inTok] using h3
            have hp7 : p = tokOf (c :: r) := by
              rw [← hp5]
              obtain ⟨q, hq⟩ : ∃ q, p.length = q + 1 := ⟨p.length - 1, by omega⟩
              rw [hq]
              show p = if inTok p = true then p else cutN q p.dropLast
              rw [if_pos h3']
            have hp8 : p.length ≤ r.length + 1 := by
              have := congrArg List.length hp1
              rw [List.length_take, List.length_cons] at this
              omega
            have hvl : vs.length ≤ 2 * at' + 1 := by
              have := strs_len hP
              rw [List.length_map, List.length_append, List.length_singleton] at this
              omega
            repeat' ktr_rel
            rename_i b hb
            refine ws_iaddL (us := [.str (tx p) tp, .str (Str.ofString "") _]) (vs := vs) (c := cn) (c2 := 0) (by k_mem) (by k_mem) (by k_upd) (Nat.succ_pos _) (by simp; omega) ?_
            repeat' ktr_rel
            refine ws_lenS (by rw [tx_len]; omega) ?_
            rw [tx_len]
            intro _
            repeat' ktr_rel
            rename_i t7
            refine ⟨(at' + p.length, t7, vs ++ [.str (tx p) tp, .str (Str.ofString "") _], cn + 1, ini ++ [last, p], [], ps2), ⟨by k_mem, trivial⟩, ⟨rfl, rfl, ?loc, trivial⟩, ⟨?r1, ?r2, ?r3, ?r4, ?r5, Nat.zero_le _⟩, ?r6⟩
            case loc => show some (Value.int ((at' : Int) + (p.length : Int)) _) = some (Value.int ((at' + p.length : Nat) : Int) _); rw [Int.natCast_add]
            case r1 =>
              have key : ∀ t, StrsAre (vs ++ [.str (tx p) tp, .str (Str.ofString "") t]) ((ini ++ [last, p] ++ [[]]).map tx) := fun t => by
                have h9 := strs_app hP (.cons (tx p) tp (.cons (tx []) t .nil))
                have e9 : (ini ++ [last, p] ++ [[]]).map tx = (ini ++ [last]).map tx ++ [tx p, tx []] := by simp
                rw [e9]
                exact h9
              exact key _
            case r2 =>
              show Pcs (l.drop (at' + p.length)) ps2
              rw [← List.drop_drop, hcr, hp7]
              exact hp2
            case r3 =>
              show ps = (ini ++ [last, p]) ++ glue [] ps2
              rw [hglue, hp7]
              have : ps2 ≠ [] := pcs_ne hp2
              cases ps2 with
              | nil => exact absurd rfl this
              | cons q qs => simp [glue]
            case r4 => show at' + p.length ≤ l.length; omega
            case r5 => show (ini ++ [last, p]).length ≤ 2 * (at' + p.length); simp; omega
            case r6 => show l.length - (at' + p.length) < l.length - at'; omega
      · intro h2
        have h2' : inTok [c] = false := by simpa [inTok] using h2
        obtain ⟨p, ps2, rfl, hp2⟩ : ∃ p ps2, ps' = (c :: p) :: ps2 ∧ Pcs r (p :: ps2) := by
          cases hpc with
          | op a b => exact absurd (a.symm.trans h2') (by decide)
          | ch a b => exact ⟨_, _, rfl, b⟩
        obtain ⟨vs0, tl, rfl, hvs0⟩ := strs_split (ys := ini.map tx) (y := tx last) (by simpa using hP)
        repeat' ktr_rel
        refine ws_getLast (vs := vs0) (c := cn) (by k_mem) ?_
        repeat' ktr_rel
        refine ws_itemS (fits_med (by omega) (by omega)) (by omega) (by omega) ?_
        rw [item_tx hget]
        intro _
        repeat' ktr_rel
        refine ws_iaddS (by rw [Str.length_append, tx_len, tx_len, hline]; simp; omega) ?_
        rw [tx_app]
        intro t5
        repeat' ktr_rel
        refine ws_setLast (vs := vs0) (c := cn) (x := .str (tx last) tl) (by k_upd) ?_
        repeat' ktr_rel
        rename_i t7
        refine ⟨(at' + 1, t7, vs0 ++ [.str (tx (last ++ [c])) t5], cn, ini, last ++ [c], p :: ps2), ⟨by k_mem, trivial⟩, ⟨rfl, rfl, ?loc, trivial⟩, ⟨?s1, ?s2, ?s3, ?s4, ?s5, ?s6⟩, ?s7⟩
        case loc => show some (Value.int ((at' : Int) + 1) _) = some (Value.int ((at' + 1 : Nat) : Int) _); rw [Int.natCast_add]; rfl
        case s1 =>
          rw [List.map_append]
          exact strs_snoc hvs0 _ _
        case s2 =>
          show Pcs (l.drop (at' + 1)) (p :: ps2)
          rw [hdrop]
          exact hp2
        case s3 => show ps = ini ++ glue (last ++ [c]) (p :: ps2); rw [hglue]; simp [glue]
        case s4 => show at' + 1 ≤ l.length; omega
        case s5 => show ini.length ≤ 2 * (at' + 1); omega
        case s6 => show (last ++ [c]).length ≤ at' + 1; simp; omega
        case s7 => show l.length - (at' + 1) < l.length - at'; omega
    · intro h1
      have h1' : at' = l.length := by have := of_decide_eq_false h1; omega
      repeat' ktr_rel
      refine fun h F N => ⟨a, vs, cn, rfl, Nat.le_trans F.above (Nat.le_of_lt ha), (N _ (by k_mem)).1, ?_⟩
      subst h1'
      rw [List.drop_length] at hpc
      cases hpc
      rw [hglue]
      simpa [glue] using hP
end Mine

namespace Mine
open PySem PySem.W PyProof.Rows PySem.Calls PyProof.V PySem.Spec
def signL : List (List Nat × Nat) := [([97, 109, 112], 38), ([108, 116], 60), ([103, 116], 62), ([35, 49, 51], 13), ([35, 120, 68], 13)]
inductive Unw : List (List Nat) → List Nat → Prop
  | nil : Unw [] []
  | plain {op w rest out} (k : Int) : tokL.lookup (tx op) = some (.int k) → k ≠ 19 → Unw rest out → Unw (op :: w :: rest) (op ++ w ++ out)
  | ent {name w rest out c} : signL.lookup name = some c → Unw rest out → Unw ([38] :: name :: [59] :: w :: rest) (c :: (w ++ out))
def kvS (S : List (List Nat × Nat × Tok)) : List (Str × Value) := S.map fun p => (tx p.1, Value.str (tx [p.2.1]) p.2.2)
theorem kvS_at (name : List Nat) (c : Nat) : ∀ S : List (List Nat × Nat × Tok), (S.map fun p => (p.1, p.2.1)).lookup name = some c → ∃ t, valueAt (kvS S) (tx name) = some (.str (tx [c]) t)
  | [], h => by simp at h
  | (a, z, t) :: S, h => by
    unfold valueAt kvS
    rw [List.map_cons, List.lookup_cons] at h
    rw [List.map_cons, List.find?_cons]
    by_cases e : name = a
    · subst e
      simp only [beq_self_eq_true, Option.some.injEq] at h
      subst h
      simp
    · have h1 : (name == a) = false := beq_eq_false_iff_ne.mpr e
      have h2 : ¬ (tx a = tx name) := fun e2 => e (tx_inj e2).symm
      rw [h1] at h
      simp only [h2, decide_false]
      exact kvS_at name c S h
theorem kvS_at' {o : Obj} {prog : Program} {w : World} {S : List (List Nat × Nat × Tok)} (_ : o.IsDictOf (PySem.strKind prog w) (kvS S)) (name : List Nat) (c : Nat) (h : (S.map fun p => (p.1, p.2.1)).lookup name = some c) : ∃ t, valueAt (kvS S) (tx name) = some (.str (tx [c]) t) := kvS_at name c S h
theorem flat_int {v : Value} {x : Int} (h : Flat v (.int x)) : ∃ t, v = .int x t := Flat.int_inv h
theorem strs_at {vs : List Value} {ps : List (List Nat)} (h : StrsAre vs (ps.map tx)) {i : Nat} {p : List Nat} (hp : ps[i]? = some p) : ∃ t, vs[i]? = some (.str (tx p) t) := by
  have hi := (List.getElem?_eq_some_iff.mp hp).1
  obtain ⟨t, ht⟩ := strs_get h i (by simpa using hi)
  refine ⟨t, ?_⟩
  rw [ht, List.getD_eq_getElem?_getD, List.getElem?_map, hp]
  rfl
theorem amp_kind : tokL.lookup (tx [38]) = some (.int 19) := by kernel_rfl
theorem semi_kind : tokL.lookup (tx [59]) = some (.int 13) := by kernel_rfl
theorem sp_unwrite {prog w mean mg mb} (l : List Nat) (first : List Nat) (ps : List (List Nat)) (out : List Nat) (hps : Pcs l (first :: ps)) (hun : Unw ps out) (t : Tok) (hl : l.length ≤ 300000) (hol : (first ++ out).length ≤ 300000) (hpl : ps.length ≤ 600000) :
    Fn prog w mean mg mb 173 [.str (tx l) t] 9 anyP (isS (tx (first ++ out))) := by
  tb_start
  intro C e1 e2 e3 e4 e5 O hE hpre
  subst e1 e2 e3 e4 e5
  dsimp only [List.zip, List.zipWith]
  have hline := sizeLine_eq
  repeat' ktr_rel
  with_reducible refine ws_dict (PySem.strKind _ _) ?_ ?_ ?_ ?_ fun D hD => ?_
  · exact rfl
  · exact rfl
  · simp
  · decide
  simp only [Fresh, AllLt, and_true] at hD
  repeat' ktr_rel
  refine ⟨[(Str.ofString "amp", .str (Str.ofString "&") _), (Str.ofString "lt", .str (Str.ofString "<") _), (Str.ofString "gt", .str (Str.ofString ">") _), (Str.ofString "#13", .str (Str.ofString "\r") _), (Str.ofString "#xD", .str (Str.ofString "\r") _)], ⟨PySem.strKind_is _ _ _ _, rfl, PySem.strKind_is _ _ _ _, rfl, PySem.strKind_is _ _ _ _, rfl, PySem.strKind_is _ _ _ _, rfl, PySem.strKind_is _ _ _ _, rfl, trivial⟩, rfl, fun o0 ho0 => ?_⟩
  rw [lit_0d, lit_233133, lit_237844, lit_26, lit_3c, lit_3e, lit_616d70, lit_6774, lit_6c74] at ho0
  replace ho0 : o0.IsDictOf (PySem.strKind _ _) (kvS [([97, 109, 112], 38, _), ([108, 116], 60, _), ([103, 116], 62, _), ([35, 49, 51], 13, _), ([35, 120, 68], 13, _)]) := ho0
  repeat' ktr_rel
  refine ws_fnL (O.le (by decide)) (sp_pieces l _ hps _ hl) (fun _ _ _ => trivial) fun b ws cb hb1 hb2 hP => ?_
  simp only [AllLt, and_true] at hb2
  have hwl : ws.length = ps.length + 1 := by rw [strs_len hP]; simp
  repeat' ktr_rel
  obtain ⟨tf, hf⟩ := strs_at hP (i := 0) (p := first) rfl
  refine ws_item (vs := ws) (isLst_mem (c := cb) (by k_mem)) (by decide) (by decide) (x := .str (tx first) tf) hf ?_
  repeat' ktr_rel
  rename_i t1
  refine ws_lo O hD fun lo => ?_
  refine ws_while (σ := Nat × Tok × List Nat × Tok × List Nat) (fun _ => [(b, listOf ws.toArray cb), (D, o0)]) (fun s => [(Str.ofString "page", .str (tx l) t), (Str.ofString "signs", .ref D), (Str.ofString "pieces", .ref b), (Str.ofString "text", .str (tx s.2.2.1) s.2.2.2.1), (Str.ofString "at", .int s.1 s.2.1)])
    (fun s => Unw (((first :: ps).drop s.1)) s.2.2.2.2 ∧ first ++ out = s.2.2.1 ++ s.2.2.2.2 ∧ s.1 ≤ ps.length + 1) (fun s => ps.length + 1 - s.1)
    (1, t1, first, tf, out) hE ⟨by k_mem, by k_mem, trivial⟩ ⟨rfl, rfl, rfl, rfl, rfl, trivial⟩ ⟨hun, rfl, Nat.le_add_left _ _⟩ ?turn
  case turn =>
    rintro ⟨at', ta, acc, tacc, out'⟩ u ⟨hU, hacc, hat⟩
    dsimp only at hU hacc hat ⊢
    have hal : acc.length + out'.length ≤ 300000 := by
      have := congrArg List.length hacc
      rw [List.length_append, List.length_append] at this
      rw [List.length_append] at hol
      omega
    repeat' ktr_rel
    refine ws_len (vs := ws) (isLst_mem (c := cb) (by k_mem)) (by omega) ?_
    intro _
    repeat' ktr_rel
    refine ws_ite ?_ ?_
    · intro h1
      have h1' : at' < ps.length + 1 := by have := of_decide_eq_true h1; omega
      have geti : ∀ (j : Nat) (rest : List (List Nat)) (q : List Nat), (first :: ps).drop at' = rest → rest[j]? = some q → ∃ t, ws[at' + j]? = some (.str (tx q) t) := fun j rest q hr hq => by
        refine strs_at hP ?_
        rw [← hr, List.getElem?_drop] at hq
        exact hq
      have hit : ∀ (j : Nat) (q : List Nat) (tq : Tok), ws[at' + j]? = some (.str (tx q) tq) → ∀ v : Int, v = (at' : Int) + (j : Int) → ws[v.toNat]? = some (.str (tx q) tq) := fun j q tq hq v hv => by
        rw [show v.toNat = at' + j by omega]
        exact hq
      generalize hR : (first :: ps).drop at' = R at hU
      cases hU with
      | nil => exact absurd (congrArg List.length hR) (by simp; omega)
      | @plain op w rest out2 k hk h19 hU2 =>
        obtain ⟨t2, g0⟩ := geti 0 _ op hR rfl
        obtain ⟨t3, g1⟩ := geti 1 _ w hR rfl
        have hlen2 : at' + 2 ≤ ps.length + 1 := by
          have := congrArg List.length hR
          simp at this; omega
        repeat' ktr_rel
        refine ws_item (vs := ws) (isLst_mem (c := cb) (by k_mem)) (by omega) (by omega) (hit 0 op t2 g0 _ (by omega)) ?_
        refine ws_itemTab (tab30 O) hk fun v hv => ?_
        obtain ⟨tk', rfl⟩ := flat_int hv
        repeat' ktr_rel
        refine ws_iteF (by simpa using h19) ?_
        repeat' ktr_rel
        refine ws_item (vs := ws) (isLst_mem (c := cb) (by k_mem)) (by omega) (by omega) (hit 0 op t2 g0 _ (by omega)) ?_
        repeat' ktr_rel
        refine ws_item (vs := ws) (isLst_mem (c := cb) (by k_mem)) (by omega) (by omega) (hit 1 w t3 g1 _ (by omega)) ?_
        have hall : op.length + w.length + out2.length ≤ 300000 := by
          rw [List.length_append, List.length_append] at hal
          omega
        have hall2 : acc.length + (op.length + w.length) ≤ 300000 := by
          rw [List.length_append, List.length_append] at hal
          omega
        refine ws_addS (by rw [Str.length_append, tx_len, tx_len, hline]; omega) ?_
        rw [tx_app]
        intro _
        repeat' ktr_rel
        refine ws_iaddS (by rw [Str.length_append, tx_len, tx_len, List.length_append, hline]; omega) ?_
        rw [tx_app]
        intro t5
        repeat' ktr_rel
        rename_i t6
        refine ⟨(at' + 2, t6, acc ++ (op ++ w), t5, out2), ⟨by k_mem, by k_mem, trivial⟩, ⟨rfl, rfl, rfl, rfl, ?loc, trivial⟩, ⟨?a1, ?a2, hlen2⟩, ?a3⟩
        case loc => show some (Value.int ((at' : Int) + 2) _) = some (Value.int ((at' + 2 : Nat) : Int) _); rw [Int.natCast_add]; rfl
        case a1 =>
          show Unw ((first :: ps).drop (at' + 2)) out2
          rw [← List.drop_drop, hR]
          exact hU2
        case a2 => show first ++ out = acc ++ (op ++ w) ++ out2; rw [hacc]; simp
        case a3 => show ps.length + 1 - (at' + 2) < ps.length + 1 - at'; omega
      | @ent name w rest out2 c hc hU2 =>
        obtain ⟨t2, g0⟩ := geti 0 _ [38] hR rfl
        obtain ⟨t3, g1⟩ := geti 1 _ name hR rfl
        obtain ⟨t4, g2⟩ := geti 2 _ [59] hR rfl
        obtain ⟨t5, g3⟩ := geti 3 _ w hR rfl
        have hlen2 : at' + 4 ≤ ps.length + 1 := by
          have := congrArg List.length hR
          simp at this; omega
        repeat' ktr_rel
        refine ws_item (vs := ws) (isLst_mem (c := cb) (by k_mem)) (by omega) (by omega) (hit 0 _ t2 g0 _ (by omega)) ?_
        refine ws_itemTab (tab30 O) amp_kind fun v hv => ?_
        obtain ⟨tk', rfl⟩ := flat_int hv
        repeat' ktr_rel
        refine ws_iteT (by decide) ?_
        repeat' ktr_rel
        refine ws_item (vs := ws) (isLst_mem (c := cb) (by k_mem)) (by omega) (by omega) (hit 2 _ t4 g2 _ (by omega)) ?_
        refine ws_itemTab (tab30 O) semi_kind fun v hv => ?_
        obtain ⟨tk', rfl⟩ := flat_int hv
        repeat' ktr_rel
        refine ws_iteT (by decide) ?_
        repeat' ktr_rel
        refine ws_item (vs := ws) (isLst_mem (c := cb) (by k_mem)) (by omega) (by omega) (hit 1 _ t3 g1 _ (by omega)) ?_
        obtain ⟨t6, hv6⟩ := kvS_at' ho0 name c hc
        refine ws_dget (knd := PySem.strKind _ _) (kk := tx name) (by k_mem) ho0 (PySem.strKind_is _ _ _ _) hv6 ?_
        repeat' ktr_rel
        refine ws_item (vs := ws) (isLst_mem (c := cb) (by k_mem)) (by omega) (by omega) (hit 3 _ t5 g3 _ (by omega)) ?_
        have hall2 : acc.length + (1 + w.length) ≤ 300000 := by
          rw [List.length_cons, List.length_append] at hal
          omega
        refine ws_addS (by rw [Str.length_append, tx_len, tx_len, hline, List.length_singleton]; omega) ?_
        rw [tx_app]
        intro _
        repeat' ktr_rel
        refine ws_iaddS (by rw [Str.length_append, tx_len, tx_len, List.length_append, hline, List.length_singleton]; omega) ?_
        rw [tx_app]
        intro t7
        repeat' ktr_rel
        rename_i t8
        refine ⟨(at' + 4, t8, acc ++ ([c] ++ w), t7, out2), ⟨by k_mem, by k_mem, trivial⟩, ⟨rfl, rfl, rfl, rfl, ?loc, trivial⟩, ⟨?b1, ?b2, hlen2⟩, ?b3⟩
        case loc => show some (Value.int ((at' : Int) + 4) _) = some (Value.int ((at' + 4 : Nat) : Int) _); rw [Int.natCast_add]; rfl
        case b1 =>
          show Unw ((first :: ps).drop (at' + 4)) out2
          rw [← List.drop_drop, hR]
          exact hU2
        case b2 => show first ++ out = acc ++ ([c] ++ w) ++ out2; rw [hacc]; simp
        case b3 => show ps.length + 1 - (at' + 4) < ps.length + 1 - at'; omega
    · intro h1
      have h1' : at' = ps.length + 1 := by have := of_decide_eq_false h1; omega
      repeat' ktr_rel
      refine fun h _ _ => ⟨tacc, ?_⟩
      subst h1'
      rw [show (first :: ps).drop (ps.length + 1) = [] by simp] at hU
      cases hU
      rw [hacc]
      simp
end Mine

namespace Mine
open PySem PySem.W PyProof.Rows PySem.Calls PyProof.V PySem.Spec
/-! reading the signs -/
def stripL (w : List Nat) : List Nat := (Txt.strip (tx w)).cps.toList
structure PS where
  syms : List Nat
  s0 : Nat
  s1 : Nat
  side : Nat
  turned : Nat
def wordP (words : List (List Nat)) (st : PS) (w : List Nat) : Option PS :=
  if stripL w = [48, 120, 48] then some st
  else if stripL w ∈ words then
    (if st.side = 0 then (if st.s0 + 2 ^ words.idxOf (stripL w) ≤ 255 then some { st with s0 := st.s0 + 2 ^ words.idxOf (stripL w) } else none)
     else if st.s1 + 2 ^ words.idxOf (stripL w) ≤ 255 then some { st with s1 := st.s1 + 2 ^ words.idxOf (stripL w) } else none)
  else none
def PS.sd (st : PS) (k : Nat) : Nat := if k = 0 then st.s0 else st.s1
def opP (st : PS) (op : List Nat) : Option PS :=
  if op = [38] then some ⟨st.syms ++ [st.sd st.turned + 16 * st.sd (1 - st.turned) + 256 * st.turned], 0, 0, 0, 0⟩
  else if op = [60, 61] then some { st with side := 1, turned := 1 }
  else if op = [45, 62] then some { st with side := 1 }
  else if op = [44] then some st
  else none
inductive Par (words : List (List Nat)) : List (List Nat) → PS → List Nat → Prop
  | done {p st} : Par words [p] st st.syms
  | step {w op rest st st1 st2 fin} : wordP words st w = some st1 → opP st1 op = some st2 → Par words rest st2 fin → Par words (w :: op :: rest) st fin
theorem kind_amp : tokL.lookup (tx [38]) = some (.int 19) := by kernel_rfl
theorem kind_le : tokL.lookup (tx [60, 61]) = some (.int 29) := by kernel_rfl
theorem kind_arrow : tokL.lookup (tx [45, 62]) = some (.int 51) := by kernel_rfl
theorem kind_comma : tokL.lookup (tx [44]) = some (.int 12) := by kernel_rfl
theorem par_len {words : List (List Nat)} {ps st fin} (h : Par words ps st fin) : ∃ N, ps.length = 2 * N + 1 := by
  induction h with
  | done => exact ⟨0, rfl⟩
  | step _ _ _ ih => obtain ⟨N, e⟩ := ih; exact ⟨N + 1, by simp; omega⟩
section
variable {C : Cx} {k : Nat} {m : Loc} {n n' : Led} {QV : Value → Loc → Led → Prop} {l : Addr} {vs : List Value} {ys : List Str} {x : Str} {t : Tok}
theorem isStr_at (x : Str) (h : StrsAre vs ys) : ∀ (i : Nat) (hv : i < vs.length) (hy : i < ys.length), isStrOf x vs[i] = (ys[i] == x) := by
  induction h with
  | nil => intro i hv; exact absurd hv (Nat.not_lt_zero _)
  | cons k t r ih =>
    intro i hv hy
    cases i with
    | zero => rfl
    | succ i => exact ih i _ _
theorem strs_isStr (x : Str) (t : Tok) (h : StrsAre vs ys) : ∀ v ∈ vs, MeetsSeq.EqGives v (.str x t) (isStrOf x v) := by
  induction h with
  | nil => intro v hv; exact nomatch hv
  | cons k u r ih =>
    intro v hv
    rcases List.mem_cons.mp hv with rfl | hv
    · exact eqGives_str _ _ _ _
    · exact ih v hv
theorem ne_lt_idx {x : Str} : ∀ {ys : List Str} {j : Nat}, j < ys.idxOf x → ∀ (h2 : j < ys.length), (ys[j] == x) = false
  | [], _, _, h2 => absurd h2 (Nat.not_lt_zero _)
  | y :: ys, j, h, h2 => by
    rw [List.idxOf_cons] at h
    cases hb : y == x with
    | true => rw [hb] at h; simp at h
    | false =>
      rw [hb] at h
      simp only [cond_false] at h
      cases j with
      | zero => exact hb
      | succ j => exact ne_lt_idx (ys := ys) (by omega) (by simpa using h2)
theorem ws_indexS (hl : IsLst C n l vs) (hi : StrsAre vs ys) (hx : x ∈ ys) (hz : ys.length ≤ 1000) (H : ∀ t, QV (.int (ys.idxOf x : Nat) t) m n) : WS C (call (.builtin "list.index") [.ref l, .str x t]) QV m n := by
  intro h tk F N
  obtain ⟨⟨cls, dd, data, sl⟩, ho, hc, nn, hd⟩ := (hl h m F N).1
  simp only at hc hd
  subst hc hd
  have hlen := strs_len hi
  have hj : ys.idxOf x < ys.length := List.idxOf_lt_length_iff.mpr hx
  refine call_meets PySem.F.slot_list_index ⟨_, ho, rfl⟩ PySem.F.entry_list_index (PySem.F.args_list_index_2 _ _)
    (PySem.SeqAt.list_indexAt l vs.toArray nn dd sl (.str x t) (isStrOf x) (ys.idxOf x) (by simpa [hlen] using hj) (by omega) ?_ ?_) ⟨ho, fun y hy => (strs_isStr x t hi y (by simpa using hy)).at _ _, ⟨h, _, m, n, rfl, F, N, H _⟩⟩
  · show isStrOf x vs[ys.idxOf x] = true
    rw [isStr_at x hi _ (by omega) hj]
    simpa using List.getElem_idxOf hj
  · intro j hjs hlt
    show isStrOf x vs[j] = false
    rw [isStr_at x hi j (by simpa using hjs) (by omega)]
    exact ne_lt_idx hlt _
end
theorem size2 (N : Nat) : Builtin.Range.rangeSize 0 (2 * (N : Int)) 2 = (N : Int) := by
  unfold Builtin.Range.rangeSize
  rw [if_pos (by decide)]
  split
  · omega
  · omega
theorem small2 (N : Nat) (h : N ≤ 300000) : Builtin.Range.small 0 (2 * (N : Int)) 2 = true := by
  unfold Builtin.Range.small
  rw [size2]
  unfold Builtin.Range.rangeFitsLong
  simp
  omega
theorem wordP_same {words st w st1} (h : wordP words st w = some st1) (h3 : st.s0 ≤ 255) (h4 : st.s1 ≤ 255) : st1.syms = st.syms ∧ st1.side = st.side ∧ st1.turned = st.turned ∧ st1.s0 ≤ 255 ∧ st1.s1 ≤ 255 := by
  unfold wordP at h
  split at h
  · cases h; exact ⟨rfl, rfl, rfl, h3, h4⟩
  · split at h
    · split at h
      · split at h
        · cases h; exact ⟨rfl, rfl, rfl, by assumption, h4⟩
        · cases h
      · split at h
        · cases h; exact ⟨rfl, rfl, rfl, h3, by assumption⟩
        · cases h
    · cases h
theorem idx_map (x : List Nat) : ∀ ys : List (List Nat), (ys.map tx).idxOf (tx x) = ys.idxOf x
  | [] => rfl
  | y :: ys => by
    rw [List.map_cons, List.idxOf_cons, List.idxOf_cons, idx_map x ys]
    by_cases h : y = x
    · subst h; simp
    · have h1 : (y == x) = false := beq_eq_false_iff_ne.mpr h
      have h2 : (tx y == tx x) = false := beq_eq_false_iff_ne.mpr fun e => h (tx_inj e)
      rw [h1, h2]
theorem ws_iteMid {C : Cx} {m : Loc} {n : Led} {α : Type} {b : Bool} {s1 s2 : Sem α} {a : α} {Q : α → Loc → Led → Prop} (P : Led → Prop) (h1 : b = true → WS C s1 (fun f m' n' => f = a ∧ m' = m ∧ P n') m n) (h2 : b = false → WS C s2 (fun f m' n' => f = a ∧ m' = m ∧ P n') m n)
    (h : ∀ n', P n' → Q a m n') : if b = true then WS C s1 Q m n else WS C s2 Q m n := by
  have fin : ∀ (f : α) m' n', (f = a ∧ m' = m ∧ P n') → Q f m' n' := by
    rintro f m' n' ⟨rfl, rfl, p⟩
    exact h n' p
  cases b with
  | true => rw [if_pos rfl]; exact ws_mono (h1 rfl) fin
  | false => rw [if_neg Bool.false_ne_true]; exact ws_mono (h2 rfl) fin
theorem pcs_len {l ps} (h : Pcs l ps) : ∀ p ∈ ps, p.length ≤ l.length := by
  induction h with
  | nil => intro p hp; simp at hp; subst hp; simp
  | @op c r ps _ _ ih =>
    intro p hp
    rcases List.mem_cons.mp hp with rfl | hp
    · simp
    · rcases List.mem_cons.mp hp with rfl | hp
      · obtain ⟨k, e⟩ := cut_prefix ((c :: r).take 3).length ((c :: r).take 3)
        show (cutN ((c :: r).take 3).length ((c :: r).take 3)).length ≤ _
        rw [e]
        simp only [List.length_take]
        omega
      · have := ih p hp
        rw [List.length_drop] at this
        omega
  | @ch c r p0 ps _ _ ih =>
    intro p hp
    rcases List.mem_cons.mp hp with rfl | hp
    · have := ih p0 (.head _)
      simp; omega
    · have := ih p (.tail _ hp)
      simp; omega
def iniP : PS := ⟨[], 0, 0, 0, 0⟩
theorem sp_symbols {prog w mean mg mb} (l : List Nat) (ps : List (List Nat)) (words : List (List Nat)) (fin : List Nat) (hps : Pcs (l ++ [38]) ps) (hpar : Par words ps iniP fin) (t : Tok) (a : Addr) (vw : List Value) (hw : StrsAre vw (words.map tx)) (hw4 : words.length ≤ 4)
    (hl : l.length ≤ 100000) (hpl : ps.length ≤ 400001) : Fn prog w mean mg mb 180 [.str (tx l) t, .ref a] 9 (hasL a vw) (isL fun vs => IntsAre vs (fin.map fun (x : Nat) => (x : Int))) := by
  tb_start
  intro C e1 e2 e3 e4 e5 O hE hpre
  subst e1 e2 e3 e4 e5
  dsimp only [List.zip, List.zipWith]
  have hline := sizeLine_eq
  obtain ⟨N, hN⟩ := par_len hpar
  repeat' ktr_rel
  rename_i as has tz0 tz1 sa0 hsa ts0 tt0 tamp
  rw [show (Str.ofString "&") = tx [38] from lit_26]
  refine ws_addS (by rw [Str.length_append, tx_len, tx_len, hline]; simp; omega) ?_
  rw [tx_app]
  intro _
  repeat' ktr_rel
  refine ws_fnL (O.le (by decide)) (sp_pieces (l ++ [38]) ps hps _ (by simp; omega)) (fun _ _ _ => trivial) fun b ws cb hb1 hb2 hP => ?_
  simp only [AllLt, and_true] at hb2
  have hwl : ws.length = 2 * N + 1 := by rw [strs_len hP, List.length_map, hN]
  repeat' ktr_rel
  refine ws_len (vs := ws) (isLst_mem (c := cb) (by k_mem)) (by omega) ?_
  intro _
  repeat' ktr_rel
  refine ws_range3 (by decide) (PyProof.noPylong_small (by decide)) ?_
  intro r hr
  repeat' ktr_rel
  have d1 : (as : Nat) < sa0 := by first | exact hsa.2 | exact hsa.1 | exact hsa.2.1 | exact hsa.2.2
  have d2 : (sa0 : Nat) < b := by first | exact hb2.1 | exact hb2.2 | exact hb2.2.1
  have e0 : ((ws.length : Int) - 1) = 2 * (N : Int) := by omega
  rw [e0]
  refine ws_loopR N (fun _ (c : PS × List Value × Nat × Addr × Nat × Tok × Tok × Tok × Tok) => [(c.2.2.2.1, listOf [Value.int c.1.s0 c.2.2.2.2.2.1, .int c.1.s1 c.2.2.2.2.2.2.1].toArray c.2.2.2.2.1), (as, listOf c.2.1.toArray c.2.2.1), (b, listOf ws.toArray cb)])
    (fun _ c => [(Str.ofString "words", .ref a), (Str.ofString "pieces", .ref b), (Str.ofString "symbols", .ref as), (Str.ofString "sides", .ref c.2.2.2.1), (Str.ofString "side", .int c.1.side c.2.2.2.2.2.2.2.1), (Str.ofString "turned", .int c.1.turned c.2.2.2.2.2.2.2.2)])
    (fun i c => Par words (ps.drop (2 * i)) c.1 fin ∧ IntsAre c.2.1 (c.1.syms.map fun (x : Nat) => (x : Int)) ∧ c.2.1.length ≤ i ∧ c.2.2.2.1 ≠ as ∧ c.2.2.2.1 ≠ b ∧ c.1.side ≤ 1 ∧ c.1.turned ≤ 1 ∧ c.1.s0 ≤ 255 ∧ c.1.s1 ≤ 255)
    (iniP, [], 0, sa0, 0, tz0, tz1, ts0, tt0) O hE (by k_mem) (small2 N (by omega)) (size2 N) (by simp) ⟨by k_mem, by k_mem, by k_mem, trivial⟩ ⟨rfl, rfl, rfl, rfl, rfl, rfl, trivial⟩ ⟨hpar, .nil, Nat.le_refl _, Nat.ne_of_gt d1, Nat.ne_of_lt d2, Nat.zero_le _, Nat.zero_le _, Nat.zero_le _, Nat.zero_le _⟩ ?turn ?done
  case turn =>
    rintro i ⟨st, vsS, cS, sa, cs, t0, t1, ts, tt⟩ u I o ti hi ⟨hpar, hS, hSl, n1, n2, h1, h2, h3, h4⟩ hne
    dsimp only at hpar hS hSl n1 n2 h1 h2 h3 h4 ⊢
    simp only [List.mem_cons, List.not_mem_nil, or_false, forall_eq_or_imp, forall_eq] at hne
    obtain ⟨hn1, hn2, hn3⟩ := hne
    replace hn1 := neN hn1
    replace hn2 := neN hn2
    replace hn3 := neN hn3
    replace n1 := neN n1
    replace n2 := neN n2
    obtain ⟨w, op, rest, hrest, st1, st2, hw1, hop, hpar2⟩ : ∃ w op rest, ps.drop (2 * i) = w :: op :: rest ∧ ∃ st1 st2, wordP words st w = some st1 ∧ opP st1 op = some st2 ∧ Par words rest st2 fin := by
      generalize hR : ps.drop (2 * i) = R at hpar
      cases hpar with
      | done => have := congrArg List.length hR; simp at this; omega
      | step a1 a2 a3 => exact ⟨_, _, _, rfl, _, _, a1, a2, a3⟩
    have hg0 : ps[2 * i]? = some w := by
      have : (ps.drop (2 * i))[0]? = some w := by rw [hrest]; rfl
      rw [List.getElem?_drop] at this
      exact this
    have hg1 : ps[2 * i + 1]? = some op := by
      have : (ps.drop (2 * i))[1]? = some op := by rw [hrest]; rfl
      rw [List.getElem?_drop] at this
      exact this
    have hwlen : w.length ≤ 16777216 := by
      have h9 := pcs_len hps w (List.mem_of_getElem? hg0)
      simp at h9
      omega
    obtain ⟨tw, hgw⟩ := strs_at hP hg0
    obtain ⟨to, hgo⟩ := strs_at hP hg1
    have eat : (0 : Int) + (i : Int) * 2 = ((2 * i : Nat) : Int) := by omega
    rw [eat]
    repeat' ktr_rel
    refine ws_item (vs := ws) (isLst_mem (c := cb) (by k_mem)) (by omega) (by omega) (x := .str (tx w) tw) (by rw [Int.toNat_natCast]; exact hgw) ?_
    repeat' ktr_rel
    refine ws_gmStrip ?_
    repeat' ktr_rel
    refine ws_strip (by rw [tx_len, hline]; exact hwlen) ?_
    rw [show Txt.strip (tx w) = tx (stripL w) from tx_of _]
    intro tw2
    repeat' ktr_rel
    refine ws_neS ?_
    repeat' ktr_rel
    rw [lit_307830]
    have hsame : st1.syms = st.syms ∧ st1.side = st.side ∧ st1.turned = st.turned ∧ st1.s0 ≤ 255 ∧ st1.s1 ≤ 255 := wordP_same hw1 h3 h4
    refine ws_iteMid (a := Flow.next) (fun n' => ∃ t0' t1', n' = [(I, o), (sa, listOf [Value.int st1.s0 t0', .int st1.s1 t1'].toArray cs), (as, listOf vsS.toArray cS), (b, listOf ws.toArray cb)]) ?_ ?_ ?_
    · intro hz
      have hz' : stripL w ≠ [48, 120, 48] := by
        intro e
        rw [e] at hz
        simp at hz
      rw [wordP, if_neg hz'] at hw1
      have hmem : stripL w ∈ words := by
        by_cases hm : stripL w ∈ words
        · exact hm
        · rw [if_neg hm] at hw1; cases hw1
      rw [if_pos hmem] at hw1
      have hidx : words.idxOf (stripL w) < 4 := Nat.lt_of_lt_of_le (List.idxOf_lt_length_iff.mpr hmem) hw4
      have hsh : (1 : Int) * 2 ^ (((words.map tx).idxOf (tx (stripL w)) : Nat) : Int).toNat = ((2 ^ words.idxOf (stripL w) : Nat) : Int) := by
        rw [idx_map, Int.toNat_natCast]; simp
      have hmx : tx (stripL w) ∈ words.map tx := List.mem_map_of_mem hmem
      have hside : st.side = 0 ∨ st.side = 1 := by omega
      repeat' ktr_rel
      rcases hside with hside | hside
      · rw [hside] at hw1 ⊢
        rw [if_pos rfl] at hw1
        refine ws_getL (vs := [Value.int st.s0 t0, .int st.s1 t1]) (isLst_mem (c := cs) (by k_mem)) (by decide) (by decide) (x := .int st.s0 t0) rfl ?_
        repeat' ktr_rel
        refine ws_gmL (lst_base hpre).is PySem.F.slot_list_index PySem.F.type_list_index ?_
        repeat' ktr_rel
        refine ws_indexS (lst_base hpre).is hw hmx (by rw [List.length_map]; omega) ?_
        intro _
        repeat' ktr_rel
        refine ws_shl (by omega) (by rw [idx_map]; omega) (by decide) ?_
        rw [hsh]
        intro _
        repeat' ktr_rel
        rename_i tn
        refine ws_setAt (vs := [Value.int st.s0 t0, .int st.s1 t1]) (c := cs) (by k_upd) (by decide) (by simp) (by decide) ?_
        repeat' ktr_rel
        refine ⟨tn, t1, ?_⟩
        split at hw1
        · cases hw1
          rfl
        · cases hw1
      · rw [hside] at hw1 ⊢
        rw [if_neg (by decide)] at hw1
        refine ws_getL (vs := [Value.int st.s0 t0, .int st.s1 t1]) (isLst_mem (c := cs) (by k_mem)) (by decide) (by decide) (x := .int st.s1 t1) rfl ?_
        repeat' ktr_rel
        refine ws_gmL (lst_base hpre).is PySem.F.slot_list_index PySem.F.type_list_index ?_
        repeat' ktr_rel
        refine ws_indexS (lst_base hpre).is hw hmx (by rw [List.length_map]; omega) ?_
        intro _
        repeat' ktr_rel
        refine ws_shl (by omega) (by rw [idx_map]; omega) (by decide) ?_
        rw [hsh]
        intro _
        repeat' ktr_rel
        rename_i tn
        refine ws_setAt (vs := [Value.int st.s0 t0, .int st.s1 t1]) (c := cs) (by k_upd) (by decide) (by simp) (by decide) ?_
        repeat' ktr_rel
        refine ⟨t0, tn, ?_⟩
        split at hw1
        · cases hw1
          rfl
        · cases hw1
    · intro hz
      have hz' : stripL w = [48, 120, 48] := by simpa using hz
      rw [wordP, if_pos hz'] at hw1
      cases hw1
      repeat' ktr_rel
      exact ⟨t0, t1, rfl⟩
    rintro n' ⟨t0', t1', rfl⟩
    obtain ⟨g1, g2, g3, g4, g5⟩ := hsame
    repeat' ktr_rel
    refine ws_item (vs := ws) (isLst_mem (c := cb) (by k_mem)) (by omega) (by omega) (x := .str (tx op) to) (by rw [show (((2 * i : Nat) : Int) + 1).toNat = 2 * i + 1 by omega]; exact hgo) ?_
    have hnext : rest = ps.drop (2 * (i + 1)) := by
      have : (ps.drop (2 * i)).drop 2 = rest := by rw [hrest]; rfl
      rw [List.drop_drop] at this
      exact this.symm
    rw [hnext] at hpar2
    unfold opP at hop
    split at hop
    · rename_i hop1
      subst hop1
      cases hop
      refine ws_itemTab (tab30 O) kind_amp fun v hv => ?_
      obtain ⟨tk', rfl⟩ := flat_int hv
      repeat' ktr_rel
      refine ws_iteT (by decide) ?_
      repeat' ktr_rel
      have hsd : ∀ k, k ≤ 1 → ∃ tq, [Value.int st1.s0 t0', .int st1.s1 t1'][k]? = some (.int (st1.sd k) tq) := by
        intro k hk
        have : k = 0 ∨ k = 1 := by omega
        rcases this with rfl | rfl
        · exact ⟨t0', rfl⟩
        · exact ⟨t1', rfl⟩
      obtain ⟨tq1, hq1⟩ := hsd st.turned h2
      obtain ⟨tq2, hq2⟩ := hsd (1 - st.turned) (by omega)
      refine ws_item (vs := [Value.int st1.s0 t0', .int st1.s1 t1']) (isLst_mem (c := cs) (by k_mem)) (by omega) (by omega) (x := .int (st1.sd st.turned) tq1) (by rw [Int.toNat_natCast]; exact hq1) ?_
      repeat' ktr_rel
      refine ws_item (vs := [Value.int st1.s0 t0', .int st1.s1 t1']) (isLst_mem (c := cs) (by k_mem)) (by omega) (by omega) (x := .int (st1.sd (1 - st.turned)) tq2) (by rw [show ((1 : Int) - (st.turned : Int)).toNat = 1 - st.turned by omega]; exact hq2) ?_
      repeat' ktr_rel
      refine ws_mul (IntMulOk.of_left (by decide)) ?_
      intro _
      repeat' ktr_rel
      refine ws_mul (IntMulOk.of_left (by decide)) ?_
      intro _
      repeat' ktr_rel
      rename_i qv z0 z1 sa2 hsa2 s2 u2
      have d3 : @LT.lt Nat _ as sa2 := by omega
      have d4 : @LT.lt Nat _ b sa2 := by omega
      rw [g3] at hpar2
      refine ⟨(⟨st1.syms ++ [st1.sd st.turned + 16 * st1.sd (1 - st.turned) + 256 * st.turned], 0, 0, 0, 0⟩, vsS ++ [.int _ qv], cS + 1, sa2, 0, z0, z1, s2, u2), by k_mem, ⟨by k_mem, by k_mem, by k_mem, trivial⟩, ⟨rfl, rfl, rfl, rfl, rfl, rfl, trivial⟩, hpar2, ?_, ?_, Nat.ne_of_gt d3, Nat.ne_of_gt d4, Nat.zero_le _, Nat.zero_le _, Nat.zero_le _, Nat.zero_le _⟩
      · rw [List.map_append, g1]
        have e5 : ((st1.sd st.turned : Int) + 16 * (st1.sd (1 - st.turned) : Int) + 256 * (st.turned : Int)) = ((st1.sd st.turned + 16 * st1.sd (1 - st.turned) + 256 * st.turned : Nat) : Int) := by omega
        dsimp only
        rw [e5]
        exact hS.append (.cons _ _ .nil)
      · show (vsS ++ [_]).length ≤ i + 1
        rw [List.length_append, List.length_singleton]; omega
    · split at hop
      · rename_i hop1
        subst hop1
        cases hop
        refine ws_itemTab (tab30 O) kind_le fun v hv => ?_
        obtain ⟨tk', rfl⟩ := flat_int hv
        repeat' ktr_rel
        refine ws_iteF (by decide) ?_
        repeat' ktr_rel
        refine ws_iteT (by decide) ?_
        repeat' ktr_rel
        rename_i q1 q2
        exact ⟨({ st1 with side := 1, turned := 1 }, vsS, cS, sa, cs, t0', t1', q1, q2), by k_mem, ⟨by k_mem, by k_mem, by k_mem, trivial⟩, ⟨rfl, rfl, rfl, rfl, rfl, rfl, trivial⟩, hpar2, by rw [← g1] at hS; exact hS, Nat.le_succ_of_le hSl, n1, n2, Nat.le_refl _, Nat.le_refl _, g4, g5⟩
      · split at hop
        · rename_i hop1
          subst hop1
          cases hop
          refine ws_itemTab (tab30 O) kind_arrow fun v hv => ?_
          obtain ⟨tk', rfl⟩ := flat_int hv
          repeat' ktr_rel
          refine ws_iteF (by decide) ?_
          repeat' ktr_rel
          refine ws_iteF (by decide) ?_
          repeat' ktr_rel
          refine ws_iteT (by decide) ?_
          repeat' ktr_rel
          rename_i q1
          exact ⟨({ st1 with side := 1 }, vsS, cS, sa, cs, t0', t1', q1, tt), by k_mem, ⟨by k_mem, by k_mem, by k_mem, trivial⟩, ⟨rfl, rfl, rfl, rfl, rfl, by rw [← g3]; rfl, trivial⟩, hpar2, by rw [← g1] at hS; exact hS, Nat.le_succ_of_le hSl, n1, n2, Nat.le_refl _, by rw [← g3] at h2; exact h2, g4, g5⟩
        · split at hop
          · rename_i hop1
            subst hop1
            cases hop
            refine ws_itemTab (tab30 O) kind_comma fun v hv => ?_
            obtain ⟨tk', rfl⟩ := flat_int hv
            repeat' ktr_rel
            refine ws_iteF (by decide) ?_
            repeat' ktr_rel
            refine ws_iteF (by decide) ?_
            repeat' ktr_rel
            refine ws_iteF (by decide) ?_
            repeat' ktr_rel
            refine ws_iteF (by decide) ?_
            repeat' ktr_rel
            exact ⟨(st1, vsS, cS, sa, cs, t0', t1', ts, tt), by k_mem, ⟨by k_mem, by k_mem, by k_mem, trivial⟩, ⟨rfl, rfl, rfl, rfl, by rw [g2]; rfl, by rw [g3]; rfl, trivial⟩, hpar2, by rw [← g1] at hS; exact hS, Nat.le_succ_of_le hSl, n1, n2, by rw [g2]; exact h1, by rw [g3]; exact h2, g4, g5⟩
          · cases hop
  case done =>
    rintro ⟨st, vsS, cS, sa, cs, t0, t1, ts, tt⟩ u ⟨hpar, hS, hSl, n1, n2, h1, h2, h3, h4⟩
    dsimp only at hpar hS hSl n1 n2 h1 h2 h3 h4
    repeat' ktr_rel
    refine fun h F N' => ⟨as, vsS, cS, rfl, Nat.le_trans F.above (by first | exact Nat.le_of_lt has | exact Nat.le_of_lt has.1), (N' (as, _) (by k_mem)).1, ?_⟩
    have hlast : ps.drop (2 * N) = [(ps.drop (2 * N)).headD []] := by
      have hl1 : (ps.drop (2 * N)).length = 1 := by simp; omega
      match hd : ps.drop (2 * N), hl1 with
      | [x], _ => rfl
    rw [hlast] at hpar
    cases hpar
    exact hS
end Mine

namespace Mine
open PySem PySem.W PyProof.Rows PySem.Calls PyProof.V PySem.Spec
def tapeN : Nat → List Nat → List Nat
  | _, [] => []
  | p, s :: r => (64 + s / 64 + p % 2 * 128) :: s % 64 :: tapeN (p + 1) r
theorem tapeN_snoc (s : Nat) : ∀ (a : List Nat) (p : Nat), tapeN p (a ++ [s]) = tapeN p a ++ [64 + s / 64 + (p + a.length) % 2 * 128, s % 64]
  | [], p => rfl
  | x :: a, p => by
    show _ :: _ :: tapeN (p + 1) (a ++ [s]) = _
    rw [tapeN_snoc s a (p + 1), show p + 1 + a.length = p + (x :: a).length by simp; omega]
    rfl
theorem tapeN_len : ∀ (a : List Nat) (p : Nat), (tapeN p a).length = 2 * a.length
  | [], p => rfl
  | x :: a, p => by show (tapeN (p + 1) a).length + 1 + 1 = _; rw [tapeN_len a]; simp; omega
theorem tapeN_lt : ∀ (a : List Nat) (p : Nat), (∀ s ∈ a, s < 512) → ∀ x ∈ tapeN p a, x < 256
  | [], p, _, x, hx => nomatch hx
  | s :: a, p, h, x, hx => by
    have hs := h s (.head _)
    rcases List.mem_cons.mp hx with rfl | hx
    · omega
    · rcases List.mem_cons.mp hx with rfl | hx
      · omega
      · exact tapeN_lt a (p + 1) (fun y hy => h y (.tail _ hy)) x hx
def intsN (a : List Nat) : List Int := a.map fun (x : Nat) => (x : Int)
theorem ints_at {vs : List Value} {a : List Nat} (h : IntsAre vs (intsN a)) {i : Nat} {v : Value} (hv : vs[i]? = some v) : ∃ s t, a[i]? = some s ∧ v = .int (s : Nat) t := by
  obtain ⟨y, t, hy, h2⟩ := IntsAre.at h i v hv
  unfold intsN at h2
  rw [List.getElem?_map] at h2
  cases ha : a[i]? with
  | none => rw [ha] at h2; cases h2
  | some s => rw [ha] at h2; exact ⟨s, t, rfl, by rw [hy]; simp at h2; rw [h2]⟩
theorem sp_tape {prog w mean mg mb} (a : Addr) (vs : List Value) (ns : List Nat) (hv : IntsAre vs (intsN ns)) (hlt : ∀ s ∈ ns, s < 512) (hlen : ns.length ≤ 100) : Fn prog w mean mg mb 116 [.ref a] 8 (hasL a vs) (isBy (byteArr (intsN (tapeN 0 (ns ++ [0]))))) := by
  tb_start
  intro C e1 e2 e3 e4 e5 O hE hpre
  subst e1 e2 e3 e4 e5
  dsimp only [List.zip, List.zipWith]
  have hline := sizeLine_eq
  have hvl : vs.length = ns.length := by rw [hv.length]; simp [intsN]
  repeat' ktr_rel
  rename_i oc hoc tz b hb
  refine ws_addL (vs := vs) (us := [.int 0 tz]) (lst_base hpre).is (isLst_mem (c := 0) (by k_mem)) (by rw [hline]; simp; omega) fun D hD1 hD2 => ?_
  simp only [AllLt, and_true] at hD2
  repeat' ktr_rel
  have hvs2 : IntsAre (vs ++ [Value.int 0 tz]) (intsN (ns ++ [0])) := by
    unfold intsN
    rw [List.map_append]
    exact hv.append (.cons _ _ .nil)
  have hl2 : (vs ++ [Value.int 0 tz]).length = ns.length + 1 := by simp [hvl]
  refine ws_enumL (vs ++ [Value.int 0 tz]) (fun i (c : List Value × Nat) => [(D, listOf (vs ++ [Value.int 0 tz]).toArray 0), (oc, listOf c.1.toArray c.2)]) (fun i c => [(Str.ofString "octets", .ref oc)]) (fun i c => IntsAre c.1 (intsN (tapeN 0 (List.take i (ns ++ [0] : List Nat)))) ∧ i ≤ ns.length + 1) ([], 0) O hE
    (lst_mem (by k_mem)) (fun i c _ => lst_mem (c := 0) (by k_mem)) ?hoff ⟨by k_mem, by k_mem, trivial⟩ ⟨rfl, trivial⟩ ⟨(show IntsAre [] [] from .nil), Nat.zero_le _⟩ ?turn ?done
  case hoff =>
    rintro e he i c _ p hp
    simp only [AllLt, and_true] at he
    simp only [List.mem_cons, List.not_mem_nil, or_false] at hp
    rcases hp with rfl | rfl
    · exact he.1
    · exact he.2.2
  case turn =>
    rintro e it i ⟨us, cn⟩ u oe oi t v hlt' hite hx ⟨hP, hi⟩
    simp only [AllLt, and_true] at hlt'
    dsimp only at hP hi ⊢
    obtain ⟨s, ts, hs, rfl⟩ := ints_at hvs2 hx
    have hil : i < ns.length + 1 := by
      have := (List.getElem?_eq_some_iff.mp hx).1
      omega
    have hs512 : s < 512 := by
      have := List.mem_of_getElem? hs
      rcases List.mem_append.mp this with h | h
      · exact hlt s h
      · simp at h; omega
    have hul : us.length ≤ 2 * (ns.length + 1) := by
      rw [hP.length]
      unfold intsN
      rw [List.length_map, tapeN_len, List.length_take]
      omega
    repeat' ktr_rel
    refine ws_div (by decide) (PyProof.noPylong_small (by decide)) ?_
    intro _
    repeat' ktr_rel
    refine ws_mul (IntMulOk.of_right (by decide)) ?_
    intro _
    repeat' ktr_rel
    rename_i tb1 tb2 nl hnl
    have e1 : ((64 : Int) + ((s : Nat) : Int).fdiv 64 + ((i : Nat) : Int).fmod 2 * 128) = ((64 + s / 64 + i % 2 * 128 : Nat) : Int) := by
      have h1 : ((s : Nat) : Int).fdiv 64 = ((s / 64 : Nat) : Int) := fdiv_nat s 64
      have h2 : ((i : Nat) : Int).fmod 2 = ((i % 2 : Nat) : Int) := fmod_nat i 2
      rw [h1, h2]; omega
    have e2 : ((s : Nat) : Int).fmod 64 = ((s % 64 : Nat) : Int) := fmod_nat s 64
    rw [e1, e2]
    refine ws_iaddL (us := [Value.int ((64 + s / 64 + i % 2 * 128 : Nat) : Int) _, .int ((s % 64 : Nat) : Int) _]) (vs := us) (c := cn) (c2 := 0) (by k_mem) (by k_mem) (by k_upd) (Nat.succ_pos _) (by simp; omega) ?_
    repeat' ktr_rel
    refine ⟨(us ++ [Value.int ((64 + s / 64 + i % 2 * 128 : Nat) : Int) _, .int ((s % 64 : Nat) : Int) _], cn + 1), by k_mem, by k_mem, ⟨by k_mem, by k_mem, trivial⟩, ⟨rfl, trivial⟩, ?_, hil⟩
    rw [List.take_add_one, hs]
    have e3 : ((ns ++ [0]).take i).length = i := by rw [List.length_take]; simp; omega
    rw [show (some s).toList = [s] from rfl, tapeN_snoc, e3]
    unfold intsN at hP ⊢
    rw [List.map_append, Nat.zero_add]
    exact hP.append (.cons _ _ (.cons _ _ .nil))
  case done =>
    rintro ⟨us, cn⟩ u ⟨hP, hi⟩
    dsimp only at hP
    rw [hl2, show ns.length + 1 = (ns ++ [0]).length by simp, List.take_length] at hP
    repeat' ktr_rel
    refine ws_tobytes O (vs := us) (isLst_mem (c := cn) (by k_mem)) hP ?_ ?_ ?_
    · intro x hx
      obtain ⟨y, hy, rfl⟩ := List.mem_map.mp hx
      have := tapeN_lt _ _ (fun s hs => by
        rcases List.mem_append.mp hs with h | h
        · exact hlt s h
        · simp at h; omega) y hy
      omega
    · rw [hP.length, hline]
      unfold intsN
      rw [List.length_map, tapeN_len]; simp; omega
    intro tb
    repeat' ktr_rel
    exact fun h _ _ => ⟨tb, rfl⟩
end Mine

namespace Mine
open PySem PySem.W PyProof.Rows PySem.Calls PyProof.V PySem.Spec
/-! cuts, as the law makes them -/
def clashOf (a b : Nat) : Nat := (a &&& (b >>> 4)) ||| (b &&& (a >>> 4))
def cutOf (new old : Nat) : Option Nat := if clashOf old new = 1 ∨ clashOf old new = 2 ∨ clashOf old new = 4 ∨ clashOf old new = 8 then some ((old ||| new) - 17 * clashOf old new) else none
def subs (kept : List Nat) (new : Nat) : List Nat := kept.filter fun old => old &&& new == old
def keepOf (kept : List Nat) (new : Nat) : List Nat := kept.filter fun old => old &&& new != new
inductive CutRun : Nat → List Nat → List Nat → List Nat → Prop
  | done {n kept} : (∀ x ∈ kept, x < 256) → kept.length ≤ 60 → CutRun n kept [] kept
  | skip {n kept w new fin} : (∀ x ∈ kept, x < 256) → kept.length ≤ 60 → new < 256 → w.length ≤ 100000 → subs kept new ≠ [] → CutRun n kept w fin → CutRun (n + 1) kept (w ++ [new]) fin
  | add {n kept w new fin} : (∀ x ∈ kept, x < 256) → kept.length ≤ 60 → new < 256 → w.length ≤ 100000 → subs kept new = [] → CutRun n (keepOf kept new ++ [new]) (w ++ (keepOf kept new).filterMap (cutOf new)) fin → CutRun (n + 1) kept (w ++ [new]) fin
theorem and_small {x y : Nat} (h : x < 256) : x &&& y < 256 := Nat.lt_of_le_of_lt Nat.and_le_left h
theorem clash_bit : ∀ x, x < 256 → ∀ i, i < 4 → x.testBit i = true → x.testBit (i + 4) = true → 17 * 2 ^ i ≤ x := by decide +kernel
theorem clash_le (a b : Nat) (ha : a < 256) (hb : b < 256) (i : Nat) (hi : i < 4) (h : clashOf a b = 2 ^ i) : 17 * clashOf a b ≤ a ||| b := by
  rw [h]
  have h1 : (clashOf a b).testBit i = true := by rw [h]; simp
  unfold clashOf at h1
  rw [Nat.testBit_or, Nat.testBit_and, Nat.testBit_and, Nat.testBit_shiftRight, Nat.testBit_shiftRight] at h1
  have hor : a ||| b < 256 := Nat.or_lt_two_pow (n := 8) ha hb
  refine clash_bit _ hor i hi ?_ ?_
  · rw [Nat.testBit_or]
    cases h2 : a.testBit i <;> cases h3 : b.testBit i <;> simp_all
  · rw [Nat.testBit_or]
    rw [Nat.add_comm 4 i] at h1
    cases h2 : a.testBit (i + 4) <;> cases h3 : b.testBit (i + 4) <;> simp_all
theorem cut_int (a b : Nat) (ha : a < 256) (hb : b < 256) (h : clashOf a b = 1 ∨ clashOf a b = 2 ∨ clashOf a b = 4 ∨ clashOf a b = 8) : ((a ||| b : Nat) : Int) - 17 * (clashOf a b : Int) = (((a ||| b) - 17 * clashOf a b : Nat) : Int) := by
  have : 17 * clashOf a b ≤ a ||| b := by
    rcases h with h | h | h | h
    · exact clash_le a b ha hb 0 (by decide) h
    · exact clash_le a b ha hb 1 (by decide) h
    · exact clash_le a b ha hb 2 (by decide) h
    · exact clash_le a b ha hb 3 (by decide) h
  omega
section
variable {C : Cx} {k : Nat} {m : Loc} {n n' : Led} {QV : Value → Loc → Led → Prop} {l : Addr} {vs : List Value} {x : Int} {t : Tok}
theorem ws_sorted {ns : List Int} (hl : IsLst C n l vs) (hi : IntsAre vs ns) (h64 : vs.length < 64) (H : ∀ D vs' ns' e, C.L < D → AllLt D n → IntsAre vs' ns' → ns'.Perm ns → ns'.Pairwise (· ≤ ·) → QV (.ref D) m ((D, listOf vs'.toArray e) :: n)) : WS C (call (.builtin "sorted") [.ref l]) QV m n := by
  intro h tk F N
  have hlt : C.L < h.objs.size := F.ns.lt
  exact sorted_N F N (hl h m F N).1 hi h64 fun h' vs' ns' e F' N' hI' hp hs => ⟨h', tk, m, _, rfl, F', N', H _ vs' ns' e (Nat.lt_succ_of_lt hlt) (allLt_of fun p hp => Nat.lt_succ_of_lt (Heap.lt_size (N p hp).1)) hI' hp hs⟩
theorem ws_inTup {ns : List Int} (hl : IsTpl C n l vs) (hi : IntsAre vs ns) (H : QV (.bool (ns.any (· == x))) m n) : WS C (compareOp .In (.int x t) (.ref l)) QV m n :=
  fun h tk F N => in_tuple_ints (hl h m F N) (by simpa using hi) ⟨h, tk, m, n, rfl, F, N, H⟩
end
theorem beq_cast (a b : Nat) : (((a : Nat) : Int) == ((b : Nat) : Int)) = (a == b) := by
  rw [Bool.eq_iff_iff, beq_iff_eq, beq_iff_eq]
  exact Int.ofNat_inj
theorem bne_cast (a b : Nat) : (((a : Nat) : Int) != ((b : Nat) : Int)) = (a != b) := by
  unfold bne
  rw [beq_cast]
theorem filter_take (p : Nat → Bool) {l : List Nat} {i s : Nat} (h : l[i]? = some s) : (l.take (i + 1)).filter p = (l.take i).filter p ++ (if p s = true then [s] else []) := by
  rw [List.take_add_one, h, show (some s).toList = [s] from rfl, List.filter_append]
  cases hp : p s <;> simp [hp]
theorem any_four {x : Nat} (h : ([1, 2, 4, 8] : List Int).any (· == ((x : Nat) : Int)) = true) : x = 1 ∨ x = 2 ∨ x = 4 ∨ x = 8 := by
  simp at h
  omega
theorem not_four {x : Nat} (h : ([1, 2, 4, 8] : List Int).any (· == ((x : Nat) : Int)) = false) : ¬ (x = 1 ∨ x = 2 ∨ x = 4 ∨ x = 8) := by
  rintro (rfl | rfl | rfl | rfl) <;> exact absurd h (by decide)
theorem ints_split {a : List Nat} {x : Nat} : ∀ {vs : List Value}, IntsAre vs (intsN (a ++ [x])) → ∃ vs0 t, vs = vs0 ++ [.int (x : Nat) t] ∧ IntsAre vs0 (intsN a) := by
  induction a with
  | nil =>
    intro vs h
    cases h with
    | cons n t r => cases r; exact ⟨[], t, rfl, .nil⟩
  | cons z a ih =>
    intro vs h
    cases h with
    | cons n t r =>
      obtain ⟨vs0, t', e, h'⟩ := ih r
      exact ⟨.int (z : Nat) t :: vs0, t', by rw [e]; rfl, .cons _ _ h'⟩
theorem ints_take {vs : List Value} {a : List Nat} (h : IntsAre vs (intsN a)) {i : Nat} {v : Value} (hv : vs[i]? = some v) : ∃ s t, a[i]? = some s ∧ v = .int (s : Nat) t := ints_at h hv
theorem sp_cuts {prog w mean mg mb} (a : Addr) (vs : List Value) (ns : List Nat) (fin : List Nat) (N : Nat) (hv : IntsAre vs (intsN ns)) (hlen : ns.length ≤ 100) (hrun : CutRun N [] (ns.map (· % 256)) fin) :
    Fn prog w mean mg mb 185 [.ref a] 8 (hasL a vs) (isL fun us => ∃ ms, IntsAre us ms ∧ ms.Perm (intsN fin) ∧ ms.Pairwise (· ≤ ·)) := by
  tb_start
  intro C e1 e2 e3 e4 e5 O hE hpre cells hc
  subst e1 e2 e3 e4 e5
  obtain ⟨o1, rfl, ca1⟩ := CellsAre.one hc
  obtain ⟨o1, rfl⟩ : ∃ o, o1 = cellX o none := ⟨_, cellX_of ca1⟩
  dsimp only [List.zip, List.zipWith]
  have hline := sizeLine_eq
  have hvl : vs.length = ns.length := by rw [hv.length]; simp [intsN]
  repeat' ktr_rel
  rename_i ka0 hka0
  refine cat_list vs (fun i ys => IntsAre ys (intsN ((ns.take i).map (· % 256)))) O (lst_base hpre) (fins_assign (by k_dflt rfl) (by k_dflt rfl) (by k_dflt rfl)) .nil (by omega) (by decide) rfl rfl ?turn ?done
  case turn =>
    intro h₀ L B O' D cn i I o ys v u hlt hDL hx hP
    obtain ⟨s, ts, hs, rfl⟩ := ints_at hv hx
    repeat' ktr_rel
    have e1 : ((s : Nat) : Int).fmod 256 = ((s % 256 : Nat) : Int) := fmod_nat s 256
    rw [e1]
    refine ⟨fun _ h => h, ?_⟩
    rw [List.take_add_one, hs]
    unfold intsN at hP ⊢
    rw [show (some s).toList = [s] from rfl, List.map_append, List.map_append]
    exact hP.append (.cons _ _ .nil)
  case done =>
    intro ys W cn hCD hlt hP
    simp only [AllLt, and_true] at hlt
    rw [hvl, List.take_length] at hP
    repeat' ktr_rel
    have hW1 : @LT.lt Nat _ (C.L + 1) W := by omega
    refine ws_while (σ := Nat × List Nat × List Nat × Addr × List Value × Nat × List Value × Nat × Option Value) (fun c => [(W, listOf c.2.2.2.2.2.2.1.toArray c.2.2.2.2.2.2.2.1), (c.2.2.2.1, listOf c.2.2.2.2.1.toArray c.2.2.2.2.2.1), (C.L + 1, cellX o1 c.2.2.2.2.2.2.2.2)])
      (fun c => [(Str.ofString "kept", .ref c.2.2.2.1), (Str.ofString "waiting", .ref W)])
      (fun c => CutRun c.1 c.2.1 c.2.2.1 fin ∧ IntsAre c.2.2.2.2.1 (intsN c.2.1) ∧ IntsAre c.2.2.2.2.2.2.1 (intsN c.2.2.1) ∧ c.2.2.2.1 ≠ W ∧ c.2.2.2.1 ≠ C.L + 1) (fun c => c.1)
      (N, [], ns.map (· % 256), ka0, [], 0, ys, cn, none) hE ⟨by k_mem, by k_mem, by k_mem, trivial⟩ ⟨rfl, rfl, trivial⟩ ⟨hrun, .nil, hP, Nat.ne_of_lt (by first | exact hlt.1 | exact hlt.2 | omega), Nat.ne_of_gt (by first | exact hka0.2 | exact hka0.1 | omega)⟩ ?wturn
    case wturn =>
      rintro ⟨fu, kept, wt, ka, vsK, cK, vsW, cW, cv⟩ u ⟨hrun, hK, hWt, n1, n2⟩
      replace n1 := neN n1
      replace n2 := neN n2
      dsimp only at hrun hK hWt n1 n2 ⊢
      repeat' ktr_rel
      refine ws_neInts O (by decide) (isLst_mem (vs := vsW) (c := cW) (by k_mem)) hWt (isLst_mem (vs := []) (c := 0) (by k_mem)) .nil ?_
      repeat' ktr_rel
      refine ws_ite ?_ ?_
      · intro h0
        have h0' : wt ≠ [] := by
          rintro rfl
          simp [intsN] at h0
        obtain ⟨fu', w, new, rfl, rfl, hk256, hk60, hn256, hw5, hrun2⟩ : ∃ fu' w new, fu = fu' + 1 ∧ wt = w ++ [new] ∧ (∀ x ∈ kept, x < 256) ∧ kept.length ≤ 60 ∧ new < 256 ∧ w.length ≤ 100000 ∧
            ((subs kept new ≠ [] ∧ CutRun fu' kept w fin) ∨ (subs kept new = [] ∧ CutRun fu' (keepOf kept new ++ [new]) (w ++ (keepOf kept new).filterMap (cutOf new)) fin)) := by
          cases hrun with
          | done _ _ => exact absurd rfl h0'
          | skip a1 a2 a3 a4 a5 a6 => exact ⟨_, _, _, rfl, rfl, a1, a2, a3, a4, .inl ⟨a5, a6⟩⟩
          | add a1 a2 a3 a4 a5 a6 => exact ⟨_, _, _, rfl, rfl, a1, a2, a3, a4, .inr ⟨a5, a6⟩⟩
        obtain ⟨vsW0, tn, rfl, hW0⟩ := ints_split (a := w) (x := new) hWt
        have hw0l : vsW0.length = w.length := by rw [hW0.length]; simp [intsN]
        have hKl : vsK.length = kept.length := by rw [hK.length]; simp [intsN]
        repeat' ktr_rel
        refine ws_gmL (isLst_mem (vs := vsW0 ++ [.int (new : Nat) tn]) (c := cW) (by k_mem)) PySem.F.slot_list_pop PySem.F.type_list_pop ?_
        repeat' ktr_rel
        refine ws_pop (vs := vsW0) (c := cW) (y := .int (new : Nat) tn) (by k_upd) (by omega) ?_
        repeat' ktr_rel
        refine cat_list vsK (fun i ys => IntsAre ys (intsN (subs (kept.take i) new))) O (lst_mem (c := cK) (by k_mem)) fins_none .nil (by omega) (by decide) rfl rfl ?turn1 ?done1
        case turn1 =>
          intro h₀ L B O' D cn i I o ys v u hlt hDL hx hP
          obtain ⟨s, ts, hs, rfl⟩ := ints_at hK hx
          repeat' ktr_rel
          have eb : (Builtin.bitAnd ((s : Nat) : Int) ((new : Nat) : Int) == ((s : Nat) : Int)) = (s &&& new == s) := by
            rw [bitAnd_nat]; exact beq_cast _ _
          rw [eb]
          have hst : subs (kept.take (i + 1)) new = subs (kept.take i) new ++ (if (s &&& new == s) = true then [s] else []) := filter_take _ hs
          refine ws_ite ?_ ?_
          · intro hb
            rw [hb] at hst
            repeat' ktr_rel
            refine ⟨fun _ h => h, ?_⟩
            rw [hst]
            unfold intsN at hP ⊢
            rw [List.map_append]
            exact hP.append (.cons _ _ .nil)
          · intro hb
            rw [hb] at hst
            refine ⟨fun _ h => h, ?_⟩
            rw [hst]
            simpa using hP
        case done1 =>
          intro ys1 D1 cn1 hCD1 hlt1 hP1
          simp only [AllLt, and_true] at hlt1
          rw [hKl, List.take_length] at hP1
          repeat' ktr_rel
          refine ws_eqInts O (by decide) (isLst_mem (vs := ys1) (c := cn1) (by k_mem)) hP1 (isLst_mem (vs := []) (c := 0) (by k_mem)) .nil ?_
          repeat' ktr_rel
          refine ws_ite ?_ ?_
          · intro hb
            have hb' : subs kept new = [] := by simpa [intsN] using hb
            obtain ⟨_, hrun3⟩ : subs kept new = [] ∧ CutRun fu' (keepOf kept new ++ [new]) (w ++ (keepOf kept new).filterMap (cutOf new)) fin := by
              rcases hrun2 with h | h
              · exact absurd hb' h.1
              · exact h
            repeat' ktr_rel
            refine cat_list vsK (fun i ys => IntsAre ys (intsN (keepOf (kept.take i) new))) O (lst_mem (c := cK) (by k_mem)) (fins_assign (by k_dflt rfl) (by k_dflt rfl) (by k_dflt rfl)) .nil (by omega) (by decide) rfl rfl ?turn2 ?done2
            case turn2 =>
              intro h₀ L B O' D cn i I o ys v u hlt hDL hx hP
              obtain ⟨s, ts, hs, rfl⟩ := ints_at hK hx
              repeat' ktr_rel
              have eb : (Builtin.bitAnd ((s : Nat) : Int) ((new : Nat) : Int) != ((new : Nat) : Int)) = (s &&& new != new) := by
                rw [bitAnd_nat]; exact bne_cast _ _
              rw [eb]
              have hst : keepOf (kept.take (i + 1)) new = keepOf (kept.take i) new ++ (if (s &&& new != new) = true then [s] else []) := filter_take _ hs
              refine ws_ite ?_ ?_
              · intro hb
                rw [hb] at hst
                repeat' ktr_rel
                refine ⟨fun _ h => h, ?_⟩
                rw [hst]
                unfold intsN at hP ⊢
                rw [List.map_append]
                exact hP.append (.cons _ _ .nil)
              · intro hb
                rw [hb] at hst
                refine ⟨fun _ h => h, ?_⟩
                rw [hst]
                simpa using hP
            case done2 =>
              intro ysK K2 cnK hCD2 hlt2 hP2
              simp only [AllLt, and_true] at hlt2
              rw [hKl, List.take_length] at hP2
              have hk2 : (keepOf kept new).length ≤ 60 := Nat.le_trans (List.length_filter_le _ _) hk60
              have hysl : ysK.length = (keepOf kept new).length := by rw [hP2.length]; simp [intsN]
              have hin256 : ∀ x ∈ keepOf kept new, x < 256 := fun x hx => hk256 x (List.mem_filter.mp hx).1
              repeat' ktr_rel
              have l1 : @LT.lt Nat _ W K2 := by omega
              have l2 : @LT.lt Nat _ (C.L + 1) K2 := by omega
              refine ws_loopL2 ysK [(K2, listOf ysK.toArray cnK)] (fun i (c : List Value × Nat) => [(W, listOf c.1.toArray c.2), (K2, listOf ysK.toArray cnK), (C.L + 1, cellX o1 (some (.int (new : Nat) tn)))]) (fun i c => [(Str.ofString "kept", .ref K2), (Str.ofString "waiting", .ref W)])
                (fun i c => IntsAre c.1 (intsN (w ++ ((keepOf kept new).take i).filterMap (cutOf new)))) (vsW0, cW + 1) O hE (lst_mem (c := cnK) (by k_mem)) (lst_mem (c := cnK) (.head _)) (fun i c _ p hp => by rw [List.mem_singleton.mp hp]; exact .tail _ (.head _)) ?hoff ⟨by k_mem, by k_mem, by k_mem, trivial⟩ ⟨rfl, rfl, trivial⟩ ?hp0 ?lturn ?ldone
              case hoff =>
                rintro I hI i c _ p hp
                simp only [AllLt, and_true] at hI
                simp only [List.mem_cons, List.not_mem_nil, or_false] at hp
                rcases hp with rfl | rfl | rfl
                · show @LT.lt Nat _ W I; omega
                · show @LT.lt Nat _ K2 I; omega
                · show @LT.lt Nat _ (C.L + 1) I; omega
              case hp0 => simpa using hW0
              case lturn =>
                rintro I i ⟨us, cu⟩ u2 oi v hI hx hP3
                simp only [AllLt, and_true] at hI
                dsimp only at hP3 ⊢
                obtain ⟨s, ts, hs, rfl⟩ := ints_at hP2 hx
                have hs256 : s < 256 := hin256 s (List.mem_of_getElem? hs)
                have hul : us.length ≤ w.length + i := by
                  rw [hP3.length]
                  unfold intsN
                  rw [List.length_map, List.length_append]
                  have := List.length_filterMap_le (cutOf new) ((keepOf kept new).take i)
                  rw [List.length_take] at this
                  omega
                have hi60 : i < 60 := by
                  have := (List.getElem?_eq_some_iff.mp hs).1
                  omega
                repeat' ktr_rel
                refine ws_shr (by decide) ?_
                intro _
                repeat' ktr_rel
                refine ws_shr (by decide) ?_
                intro _
                repeat' ktr_rel
                have e4 : ∀ x : Nat, ((x : Nat) : Int).fdiv (2 ^ (4 : Int).toNat) = ((x >>> 4 : Nat) : Int) := fun x => by
                  rw [Nat.shiftRight_eq_div_pow]; exact fdiv_nat x 16
                rw [e4, e4, bitAnd_nat, bitAnd_nat, bitOr_nat]
                have ecl : (s &&& new >>> 4) ||| (new &&& s >>> 4) = clashOf s new := rfl
                rw [ecl]
                repeat' ktr_rel
                refine ws_inTup (isTpl_mem (by k_mem)) (.cons _ _ (.cons _ _ (.cons _ _ (.cons _ _ .nil)))) ?_
                repeat' ktr_rel
                have hstep : ((keepOf kept new).take (i + 1)).filterMap (cutOf new) = ((keepOf kept new).take i).filterMap (cutOf new) ++ (cutOf new s).toList := by
                  rw [List.take_add_one, hs, show (some s).toList = [s] from rfl, List.filterMap_append]
                  cases hc : cutOf new s <;> simp [hc]
                refine ws_ite ?_ ?_
                · intro hb
                  have hb' : clashOf s new = 1 ∨ clashOf s new = 2 ∨ clashOf s new = 4 ∨ clashOf s new = 8 := any_four hb
                  have hcut : cutOf new s = some ((s ||| new) - 17 * clashOf s new) := by rw [cutOf, if_pos hb']
                  have hor : s ||| new < 256 := Nat.or_lt_two_pow (n := 8) hs256 hn256
                  rw [hcut] at hstep
                  repeat' ktr_rel
                  refine ws_mul (IntMulOk.of_left (by decide)) ?_
                  intro _
                  repeat' ktr_rel
                  rw [bitOr_nat, cut_int s new hs256 hn256 hb']
                  refine ws_fnB (O.le (by decide)) (sp_isterm _ _) (fun _ _ _ => trivial) ?_
                  repeat' ktr_rel
                  refine ws_iteT (decide_eq_true (by omega)) ?_
                  repeat' ktr_rel
                  refine ⟨(us ++ [.int (((s ||| new) - 17 * clashOf s new : Nat) : Int) _], cu + 1), by k_mem, ⟨by k_mem, by k_mem, by k_mem, trivial⟩, ⟨rfl, rfl, trivial⟩, ?_⟩
                  dsimp only
                  rw [hstep]
                  unfold intsN at hP3 ⊢
                  rw [← List.append_assoc, List.map_append]
                  exact hP3.append (.cons _ _ .nil)
                · intro hb
                  have hb' : ¬ (clashOf s new = 1 ∨ clashOf s new = 2 ∨ clashOf s new = 4 ∨ clashOf s new = 8) := not_four hb
                  have hcut : cutOf new s = none := by rw [cutOf, if_neg hb']
                  rw [hcut] at hstep
                  repeat' ktr_rel
                  refine ws_fnB (O.le (by decide)) (sp_isterm _ _) (fun _ _ _ => trivial) ?_
                  repeat' ktr_rel
                  refine ws_iteF (by decide) ?_
                  repeat' ktr_rel
                  refine ⟨(us, cu), by k_mem, ⟨by k_mem, by k_mem, by k_mem, trivial⟩, ⟨rfl, rfl, trivial⟩, ?_⟩
                  dsimp only
                  rw [hstep]
                  simpa using hP3
              case ldone =>
                rintro ⟨us, cu⟩ u2 hP3
                dsimp only at hP3
                rw [hysl, List.take_length] at hP3
                repeat' ktr_rel
                refine ⟨(fu', keepOf kept new ++ [new], w ++ (keepOf kept new).filterMap (cutOf new), K2, ysK ++ [.int (new : Nat) tn], cnK + 1, us, cu, some (.int (new : Nat) tn)), ⟨by k_mem, by k_mem, by k_mem, trivial⟩, ⟨rfl, rfl, trivial⟩, ⟨hrun3, ?_, hP3, Nat.ne_of_gt l1, Nat.ne_of_gt l2⟩, Nat.lt_succ_self _⟩
                unfold intsN at hP2 ⊢
                rw [List.map_append]
                exact hP2.append (.cons _ _ .nil)
          · intro hb
            have hb' : subs kept new ≠ [] := by
              intro e
              rw [e] at hb
              simp [intsN] at hb
            have hrun3 : CutRun fu' kept w fin := by
              rcases hrun2 with h | h
              · exact h.2
              · exact absurd h.1 hb'
            repeat' ktr_rel
            exact ⟨(fu', kept, w, ka, vsK, cK, vsW0, cW + 1, some (.int (new : Nat) tn)), ⟨by k_mem, by k_mem, by k_mem, trivial⟩, ⟨rfl, rfl, trivial⟩, ⟨hrun3, hK, hW0, n1, n2⟩, Nat.lt_succ_self _⟩
      · intro h0
        have h0' : wt = [] := by
          cases wt with
          | nil => rfl
          | cons x r => simp [intsN] at h0
        subst h0'
        obtain ⟨rfl, hk60⟩ : kept = fin ∧ kept.length ≤ 60 := by
          generalize hw : ([] : List Nat) = w at hrun
          cases hrun with
          | done a b => exact ⟨rfl, b⟩
          | skip => exact absurd hw.symm (by simp)
          | add => exact absurd hw.symm (by simp)
        repeat' ktr_rel
        refine ws_sorted (isLst_mem (vs := vsK) (c := cK) (by k_mem)) hK (by rw [hK.length]; unfold intsN; rw [List.length_map]; omega) fun D vs' ns' e hD1 hD2 hI' hp hs => ?_
        repeat' ktr_rel
        exact fun h F N => ⟨D, vs', e, rfl, Nat.le_trans F.above (Nat.le_of_lt hD1), (N _ (by k_mem)).1, ns', hI', hp, hs⟩
end Mine

namespace Mine
open PySem PySem.W PyProof.Rows PySem.Calls PyProof.V PySem.Spec
/-! the table of the ways in which a sequent fails -/
def colN (a : Nat) : Nat := [43690, 52428, 61680, 65280].getD a 0
def grow (a : Nat) (F : List (Nat × Nat)) (j : Nat) : List (Nat × Nat) := F ++ (F.take j).flatMap fun p => [(p.1 + 2 ^ a, p.2 &&& colN a), (p.1 + 16 * 2 ^ a, p.2 &&& (65535 - colN a))]
def FT : Nat → List (Nat × Nat)
  | 0 => [(0, 65535)]
  | a + 1 => grow a (FT a) (FT a).length
def FAILS : List (Nat × Nat) := FT 4
def failsOf (k : Nat) : Nat := (FAILS.lookup k).getD 0
/-- a dict of ints -/
abbrev IK := List (Nat × Nat × Tok)
def kvI (F : IK) : List (Int × Value) := F.map fun p => (((p.1 : Nat) : Int), Value.int ((p.2.1 : Nat) : Int) p.2.2)
def pureI (F : IK) : List (Nat × Nat) := F.map fun p => (p.1, p.2.1)
theorem kvI_at (k v : Nat) : ∀ F : IK, (pureI F).lookup k = some v → ∃ t, valueAt (kvI F) ((k : Nat) : Int) = some (.int ((v : Nat) : Int) t)
  | [], h => by simp [pureI] at h
  | (a, z, t) :: F, h => by
    unfold valueAt kvI
    unfold pureI at h
    rw [List.map_cons, List.lookup_cons] at h
    rw [List.map_cons, List.find?_cons]
    by_cases e : k = a
    · subst e
      simp only [beq_self_eq_true, Option.some.injEq] at h
      subst h
      simp
    · have h1 : (k == a) = false := beq_eq_false_iff_ne.mpr e
      have h2 : ¬ (((a : Nat) : Int) = ((k : Nat) : Int)) := fun e2 => e (by omega)
      rw [h1] at h
      simp only [h2, decide_false]
      exact kvI_at k v F h
theorem kvI_new (F : IK) (k v : Nat) (t : Tok) (h : (pureI F).lookup k = none) : stored (kvI F) ((k : Nat) : Int) (.int ((v : Nat) : Int) t) = kvI (F ++ [(k, v, t)]) := by
  unfold stored
  have : (kvI F).any (fun kv => decide (kv.1 = ((k : Nat) : Int))) = false := by
    rw [List.any_eq_false]
    intro kv hkv
    obtain ⟨p, hp, rfl⟩ := List.mem_map.mp hkv
    simp only [decide_eq_true_eq]
    intro e
    have e2 : p.1 = k := by omega
    rw [List.lookup_eq_none_iff] at h
    have h3 := h (p.1, p.2.1) (List.mem_map_of_mem (f := fun p : Nat × Nat × Tok => (p.1, p.2.1)) hp)
    simp [e2] at h3
  rw [this]
  simp [kvI]
theorem pureI_snoc (F : IK) (k v : Nat) (t : Tok) : pureI (F ++ [(k, v, t)]) = pureI F ++ [(k, v)] := by simp [pureI]
theorem grow_ok : ∀ a, a < 4 → ∀ j, j < (FT a).length → ((grow a (FT a) j).lookup ((FT a).getD j (0, 0)).1 = some ((FT a).getD j (0, 0)).2 ∧ (grow a (FT a) j).lookup (((FT a).getD j (0, 0)).1 + 2 ^ a) = none ∧
    (grow a (FT a) j ++ [(((FT a).getD j (0, 0)).1 + 2 ^ a, ((FT a).getD j (0, 0)).2 &&& colN a)]).lookup ((FT a).getD j (0, 0)).1 = some ((FT a).getD j (0, 0)).2 ∧
    (grow a (FT a) j ++ [(((FT a).getD j (0, 0)).1 + 2 ^ a, ((FT a).getD j (0, 0)).2 &&& colN a)]).lookup (((FT a).getD j (0, 0)).1 + 16 * 2 ^ a) = none) := by decide +kernel
theorem grow_len : ∀ a, a < 4 → (FT a).length ≤ 27 := by decide +kernel
theorem fails_down : ∀ p ∈ FAILS, ∀ i, i < 8 → p.1.testBit i = true → (FAILS.lookup (p.1 - 2 ^ i)).isSome = true := by decide +kernel
theorem fails_self : ∀ p ∈ FAILS, FAILS.lookup p.1 = some p.2 := by decide +kernel
theorem fails_len : FAILS.length = 81 := by decide +kernel
theorem fails_le : ∀ p ∈ FAILS, p.1 < 256 ∧ p.2 < 65536 := by decide +kernel
def lostOf (ns : List Nat) : Nat := ns.foldl (fun l s => l ||| failsOf (s % 256)) 0
def impl (lost k : Nat) : Bool := failsOf k ||| lost == lost
def leastP (lost : Nat) (p : Nat × Nat) : Bool := impl lost p.1 && ((List.range 8).filter fun i => p.1.testBit i && impl lost (p.1 - 2 ^ i)).isEmpty
def leastF (lost : Nat) : List Nat := (FAILS.filter (leastP lost)).map (·.1)
theorem grow_succ (a : Nat) {F : List (Nat × Nat)} {j : Nat} {p : Nat × Nat} (h : F[j]? = some p) : grow a F (j + 1) = grow a F j ++ [(p.1 + 2 ^ a, p.2 &&& colN a)] ++ [(p.1 + 16 * 2 ^ a, p.2 &&& (65535 - colN a))] := by
  unfold grow
  rw [List.take_add_one, h, show (some p).toList = [p] from rfl, List.flatMap_append, ← List.append_assoc]
  simp
theorem grow_zero (a : Nat) (F : List (Nat × Nat)) : grow a F 0 = F := by simp [grow]
theorem pureI_get {F : IK} {j : Nat} {kk : Int} {x : Value} (h : (kvI F)[j]? = some (kk, x)) : ∃ p, (pureI F)[j]? = some p ∧ kk = ((p.1 : Nat) : Int) := by
  unfold kvI at h
  unfold pureI
  rw [List.getElem?_map] at h ⊢
  cases hf : F[j]? with
  | none => rw [hf] at h; cases h
  | some q =>
    rw [hf] at h
    simp only [Option.map_some, Option.some.injEq] at h
    exact ⟨_, rfl, (congrArg (·.1) h).symm⟩
theorem isInt_of {prog : Program} {w : World} {k : Int} {v : Value} (h : (PySem.intKind prog w).is k v = true) : ∃ t, v = .int k t := Value.isInt_shape h
section
variable {C : Cx} {m : Loc} {n : Led} {QU : Unit → Loc → Led → Prop} {D : Addr} {o : Obj} {g : Obj → Led} {F : IK} {x y : Int} {t u : Tok}
theorem ws_dsetI (k v : Nat) (U : UpdF D o n g) (hd : o.IsDictOf (PySem.intKind C.prog C.w) (kvI F)) (hx : x = ((k : Nat) : Int)) (hy : y = ((v : Nat) : Int)) (hn : (pureI F).lookup k = none) (hz : F.length ≤ 1000)
    (H : ∀ o', o'.IsDictOf (PySem.intKind C.prog C.w) (kvI (F ++ [(k, v, u)])) → QU () m (g o')) : WS C (setItem (.ref D) (.int x t) (.int y u)) QU m n := by
  subst hx hy
  refine ws_dset U hd (PySem.intKind_is _ _ _ _) ?_ fun o' ho' => H o' ?_
  · rw [sizeLine_eq]; unfold kvI; rw [List.length_map]; omega
  · rw [← kvI_new F k v u hn]; exact ho'
end
theorem col_get {q1 q2 q3 q4 : Tok} {i : Nat} {v : Value} (h : [Value.int 43690 q1, .int 52428 q2, .int 61680 q3, .int 65280 q4][i]? = some v) : i < 4 ∧ ∃ t, v = .int ((colN i : Nat) : Int) t := by
  have hi : i < 4 := (List.getElem?_eq_some_iff.mp h).1
  refine ⟨hi, ?_⟩
  have : i = 0 ∨ i = 1 ∨ i = 2 ∨ i = 3 := by omega
  rcases this with rfl | rfl | rfl | rfl
  all_goals
    have := Option.some.inj h
    exact ⟨_, this.symm⟩
theorem col_le : ∀ i, i < 4 → colN i ≤ 65535 := by decide
theorem sp_least {prog w mean mg mb} (a : Addr) (vs : List Value) (ns : List Nat) (hv : IntsAre vs (intsN ns)) (hlen : ns.length ≤ 100) (hns : ∀ s ∈ ns, (FAILS.lookup (s % 256)).isSome = true) (h64 : (leastF (lostOf ns)).length < 64) :
    Fn prog w mean mg mb 190 [.ref a] 8 (hasL a vs) (isL fun us => ∃ ms, IntsAre us ms ∧ ms.Perm (intsN (leastF (lostOf ns))) ∧ ms.Pairwise (· ≤ ·)) := by
  tb_start
  intro C e1 e2 e3 e4 e5 O hE hpre cells hc
  subst e1 e2 e3 e4 e5
  obtain ⟨o1, o2, o3, rfl, ca1, ca2, ca3⟩ := CellsAre.three hc
  obtain ⟨o1, rfl⟩ : ∃ o, o1 = cellX o none := ⟨_, cellX_of ca1⟩
  obtain ⟨o2, rfl⟩ : ∃ o, o2 = cellX o none := ⟨_, cellX_of ca2⟩
  obtain ⟨o3, rfl⟩ : ∃ o, o3 = cellX o none := ⟨_, cellX_of ca3⟩
  dsimp only [List.zip, List.zipWith]
  have hline := sizeLine_eq
  have hvl : vs.length = ns.length := by rw [hv.length]; simp [intsN]
  repeat' ktr_rel
  with_reducible refine ws_dict (PySem.intKind _ _) ?_ ?_ ?_ ?_ fun D hD => ?_
  · exact rfl
  · exact rfl
  · simp
  · decide
  simp only [Fresh, AllLt, and_true] at hD
  repeat' ktr_rel
  refine ⟨[((0 : Int), .int 65535 _)], ⟨PySem.intKind_is _ _ _ _, rfl, trivial⟩, rfl, fun o0 ho0 => ?_⟩
  replace ho0 : o0.IsDictOf (PySem.intKind _ _) (kvI [(0, 65535, _)]) := ho0
  refine ws_lo O hD.1 fun lo => ?_
  repeat' ktr_rel
  rename_i q1 q2 q3 q4 T hT
  have hT1 : @LT.lt Nat _ D T := by omega
  have hD1 : @LT.lt Nat _ (C.L + 1 + 1 + 1) D := by omega
  refine ws_enumT [Value.int 43690 q1, .int 52428 q2, .int 61680 q3, .int 65280 q4] (fun i (c : IK × Obj × Option Value) => [(T, tupOf [Value.int 43690 q1, .int 52428 q2, .int 61680 q3, .int 65280 q4].toArray), (D, c.2.1), (C.L + 1 + 1 + 1, cellX o1 none), (C.L + 1 + 1, cellX o2 c.2.2), (C.L + 1, cellX o3 (some (.ref D)))])
    (fun _ _ => [(Str.ofString "symbols", .ref a)]) (fun i c => pureI c.1 = FT i ∧ c.2.1.IsDictOf (PySem.intKind C.prog C.w) (kvI c.1) ∧ i ≤ 4) ([(0, 65535, _)], o0, none) O hE (by k_mem) (fun _ _ _ => .head _) ?hoff ⟨by k_mem, by k_mem, by k_mem, by k_mem, by k_mem, trivial⟩ ⟨by k_dflt rfl, trivial⟩ ⟨rfl, ho0, Nat.zero_le _⟩ ?turn ?done
  case hoff =>
    rintro e he i c _ p hp
    simp only [AllLt, and_true] at he
    simp only [List.mem_cons, List.not_mem_nil, or_false] at hp
    rcases hp with rfl | rfl | rfl | rfl | rfl
    · show @LT.lt Nat _ T e; omega
    · show @LT.lt Nat _ D e; omega
    · show @LT.lt Nat _ (C.L + 1 + 1 + 1) e; omega
    · show @LT.lt Nat _ (C.L + 1 + 1) e; omega
    · show @LT.lt Nat _ (C.L + 1) e; omega
  case turn =>
    rintro e it i ⟨F, od, sv⟩ u oe oi t v hit hite hx ⟨hF, hod, hi⟩
    simp only [AllLt, and_true] at hit
    dsimp only at hF hod hi ⊢
    obtain ⟨hi4, tc, rfl⟩ := col_get hx
    have hFl : F.length = (FT i).length := by rw [← hF]; simp [pureI]
    have hF27 := grow_len i hi4
    repeat' ktr_rel
    refine ws_dlist (knd := PySem.intKind _ _) O hD.1 (by k_mem) hod (by rw [hline]; unfold kvI; rw [List.length_map]; omega) ?_
    intro l cl ks hl1 hl2 hkl hks
    simp only [AllLt, and_true] at hl2
    have hkl' : ks.length = (FT i).length := by rw [hkl, ← hFl]; simp [kvI]
    repeat' ktr_rel
    refine ws_loopL2 ks [(l, listOf ks.toArray cl)] (fun j (c : IK × Obj × Option Value) => [(l, listOf ks.toArray cl), (D, c.2.1), (C.L + 1 + 1, cellX o2 c.2.2), (e, oe), (it, oi), (T, tupOf [Value.int 43690 q1, .int 52428 q2, .int 61680 q3, .int 65280 q4].toArray), (C.L + 1 + 1 + 1, cellX o1 none), (C.L + 1, cellX o3 (some (.ref D)))])
      (fun _ _ => [(Str.ofString "symbols", .ref a), (Str.ofString "atom", .int i t), (Str.ofString "column", .int ((colN i : Nat) : Int) tc)]) (fun j c => pureI c.1 = grow i (FT i) j ∧ c.2.1.IsDictOf (PySem.intKind C.prog C.w) (kvI c.1) ∧ j ≤ ks.length) (F, od, sv) O hE
      (lst_mem (c := cl) (by k_mem)) (lst_mem (c := cl) (.head _)) (fun j c _ p hp => by rw [List.mem_singleton.mp hp]; exact .head _) ?hoff2 ⟨by k_mem, by k_mem, by k_mem, by k_mem, by k_mem, by k_mem, by k_mem, by k_mem, trivial⟩ ⟨rfl, rfl, rfl, trivial⟩ ⟨by rw [grow_zero]; exact hF, hod, Nat.zero_le _⟩ ?turn2 ?done2
    case hoff2 =>
      rintro I hI j c _ p hp
      simp only [AllLt, and_true] at hI
      simp only [List.mem_cons, List.not_mem_nil, or_false] at hp
      rcases hp with rfl | rfl | rfl | rfl | rfl | rfl | rfl | rfl
      · show @LT.lt Nat _ l I; omega
      · show @LT.lt Nat _ D I; omega
      · show @LT.lt Nat _ (C.L + 1 + 1) I; omega
      · show @LT.lt Nat _ e I; omega
      · show @LT.lt Nat _ it I; omega
      · show @LT.lt Nat _ T I; omega
      · show @LT.lt Nat _ (C.L + 1 + 1 + 1) I; omega
      · show @LT.lt Nat _ (C.L + 1) I; omega
    case turn2 =>
      rintro I j ⟨F', od', sv'⟩ u2 oi2 v2 hI hx2 ⟨hF', hod', hj⟩
      simp only [AllLt, and_true] at hI
      dsimp only at hF' hod' hj ⊢
      have hjl : j < ks.length := (List.getElem?_eq_some_iff.mp hx2).1
      obtain ⟨kk, xx, hkx, hkv⟩ := hks j v2 hx2
      obtain ⟨p, hp, rfl⟩ := pureI_get hkx
      obtain ⟨tk2, rfl⟩ := isInt_of hkv
      rw [hF] at hp
      obtain ⟨g1, g2, g3, g4⟩ := grow_ok i hi4 j (by omega)
      rw [show (FT i).getD j (0, 0) = p by rw [List.getD_eq_getElem?_getD, hp]; rfl] at g1 g2 g3 g4
      have hF'l : F'.length ≤ 500 := by
        have h1 : F'.length = (grow i (FT i) j).length := by rw [← hF']; simp [pureI]
        have h2 : ((FT i).take j).length ≤ 27 := by rw [List.length_take]; omega
        have h3 : ((FT i).take j |>.flatMap fun p => [(p.1 + 2 ^ i, p.2 &&& colN i), (p.1 + 16 * 2 ^ i, p.2 &&& (65535 - colN i))]).length = 2 * ((FT i).take j).length := by
          induction (FT i).take j with
          | nil => rfl
          | cons x r ih => simp [List.flatMap_cons, ih]; omega
        rw [h1]
        unfold grow
        rw [List.length_append, h3]
        omega
      rw [← hF'] at g1 g2 g3 g4
      have hpw : ∀ x : Nat, (x : Int) * 2 ^ ((i : Nat) : Int).toNat = ((x * 2 ^ i : Nat) : Int) := fun x => by rw [Int.toNat_natCast]; simp
      obtain ⟨t5, hv5⟩ := kvI_at p.1 p.2 F' g1
      repeat' ktr_rel
      refine ws_dget (knd := PySem.intKind _ _) (kk := ((p.1 : Nat) : Int)) (by k_mem) hod' (PySem.intKind_is _ _ _ _) hv5 ?_
      repeat' ktr_rel
      refine ws_shl (by omega) (by omega) (by decide) ?_
      intro _
      repeat' ktr_rel
      rename_i tb5 _ _ _
      refine ws_dsetI (F := F') (p.1 + 2 ^ i) (p.2 &&& colN i) (by k_updF) hod' ?_ (bitAnd_nat _ _) g2 (by omega) fun o6 ho6 => ?_
      · have := hpw 1
        rw [Nat.one_mul] at this
        rw [show (1 : Int) * 2 ^ ((i : Nat) : Int).toNat = ((2 ^ i : Nat) : Int) from this, Int.natCast_add]
      rw [← pureI_snoc F' _ _ tb5] at g3 g4
      obtain ⟨t6, hv6⟩ := kvI_at p.1 p.2 _ g3
      repeat' ktr_rel
      refine ws_dget (knd := PySem.intKind _ _) (kk := ((p.1 : Nat) : Int)) (by k_mem) ho6 (PySem.intKind_is _ _ _ _) hv6 ?_
      repeat' ktr_rel
      refine ws_shl (by omega) (by omega) (by decide) ?_
      intro _
      repeat' ktr_rel
      rename_i tb6 _ _ _
      have hcle := col_le i hi4
      refine ws_dsetI (F := F' ++ [(p.1 + 2 ^ i, p.2 &&& colN i, tb5)]) (p.1 + 16 * 2 ^ i) (p.2 &&& (65535 - colN i)) (by k_updF) ho6 ?_ ?_ g4 (by simp; omega) fun o7 ho7 => ?_
      · have := hpw 16
        rw [show (16 : Int) * 2 ^ ((i : Nat) : Int).toNat = ((16 * 2 ^ i : Nat) : Int) from this, Int.natCast_add]
      · rw [show (65535 : Int) - ((colN i : Nat) : Int) = ((65535 - colN i : Nat) : Int) by omega]
        exact bitAnd_nat _ _
      repeat' ktr_rel
      refine ⟨(F' ++ [(p.1 + 2 ^ i, p.2 &&& colN i, tb5)] ++ [(p.1 + 16 * 2 ^ i, p.2 &&& (65535 - colN i), tb6)], o7, some (.int ((p.1 : Nat) : Int) tk2)), by k_mem, ⟨by k_mem, by k_mem, by k_mem, by k_mem, by k_mem, by k_mem, by k_mem, by k_mem, trivial⟩, ⟨rfl, rfl, rfl, trivial⟩, ?_, ho7, hjl⟩
      show pureI (F' ++ [_] ++ [_]) = grow i (FT i) (j + 1)
      rw [pureI_snoc, pureI_snoc, hF', grow_succ i hp]
    case done2 =>
      rintro ⟨F', od', sv'⟩ u2 ⟨hF', hod', hj⟩
      repeat' ktr_rel
      refine ⟨(F', od', sv'), by k_mem, by k_mem, ⟨by k_mem, by k_mem, by k_mem, by k_mem, by k_mem, trivial⟩, ⟨rfl, trivial⟩, ?_, hod', hi4⟩
      rw [hkl'] at hF'
      exact hF'
  case done =>
    rintro ⟨F, od, sv⟩ u ⟨hF, hod, hi⟩
    dsimp only at hF hod hi ⊢
    have hF4 : pureI F = FAILS := hF
    have hval : ∀ k, (FAILS.lookup k).isSome = true → ∃ t, valueAt (kvI F) ((k : Nat) : Int) = some (.int ((failsOf k : Nat) : Int) t) := fun k hk => by
      obtain ⟨v, hv⟩ := Option.isSome_iff_exists.mp hk
      have : failsOf k = v := by unfold failsOf; rw [hv]; rfl
      rw [this]
      exact kvI_at k v F (by rw [hF4]; exact hv)
    have hFl : F.length = 81 := by
      have : (pureI F).length = 81 := by rw [hF4]; exact fails_len
      simpa [pureI] using this
    repeat' ktr_rel
    rename_i tl0
    refine ws_loopL2 vs [] (fun j (c : Tok) => [(D, od), (C.L + 1 + 1 + 1, cellX o1 (some (.int ((lostOf (ns.take j) : Nat) : Int) c))), (C.L + 1 + 1, cellX o2 sv), (C.L + 1, cellX o3 (some (.ref D)))]) (fun _ _ => []) (fun j c => j ≤ vs.length) tl0 O hE
      (lst_base hpre) (lst_base hpre) (fun j c _ p hp => nomatch hp) ?hoff3 ⟨by k_mem, by k_mem, by k_mem, by k_mem, trivial⟩ trivial (Nat.zero_le _) ?turn3 ?done3
    case hoff3 =>
      rintro I hI j c _ p hp
      simp only [AllLt, and_true] at hI
      simp only [List.mem_cons, List.not_mem_nil, or_false] at hp
      rcases hp with rfl | rfl | rfl | rfl
      · show @LT.lt Nat _ D I; omega
      · show @LT.lt Nat _ (C.L + 1 + 1 + 1) I; omega
      · show @LT.lt Nat _ (C.L + 1 + 1) I; omega
      · show @LT.lt Nat _ (C.L + 1) I; omega
    case turn3 =>
      rintro I j tl u3 oi v hI hx hj
      simp only [AllLt, and_true] at hI
      obtain ⟨s, ts, hs, rfl⟩ := ints_at hv hx
      obtain ⟨t5, hv5⟩ := hval (s % 256) (hns s (List.mem_of_getElem? hs))
      have e5 : ((s : Nat) : Int).fmod 256 = ((s % 256 : Nat) : Int) := fmod_nat s 256
      repeat' ktr_rel
      rw [e5]
      refine ws_dget (knd := PySem.intKind _ _) (kk := ((s % 256 : Nat) : Int)) (by k_mem) hod (PySem.intKind_is _ _ _ _) hv5 ?_
      repeat' ktr_rel
      rename_i tl2
      have e6 : Builtin.bitOr ((lostOf (ns.take j) : Nat) : Int) ((failsOf (s % 256) : Nat) : Int) = ((lostOf (ns.take (j + 1)) : Nat) : Int) := by
        rw [bitOr_nat]
        congr 1
        unfold lostOf
        rw [List.take_add_one, hs, show (some s).toList = [s] from rfl, List.foldl_append]
        rfl
      rw [e6]
      have hjl : j < vs.length := (List.getElem?_eq_some_iff.mp hx).1
      exact ⟨tl2, by k_mem, ⟨by k_mem, by k_mem, by k_mem, by k_mem, trivial⟩, trivial, hjl⟩
    case done3 =>
      rintro tl u3 _
      rw [hvl, List.take_length]
      generalize hlost : lostOf ns = lost at h64 ⊢
      repeat' ktr_rel
      rename_i ll hll
      have hll1 : @LT.lt Nat _ D ll := by omega
      refine ws_loopD (kvs := kvI F) (knd := PySem.intKind _ _) (fun j (c : List Value × Nat × Option Value) => [(ll, listOf c.1.toArray c.2.1), (D, od), (C.L + 1 + 1 + 1, cellX o1 (some (.int ((lost : Nat) : Int) tl))), (C.L + 1 + 1, cellX o2 c.2.2), (C.L + 1, cellX o3 (some (.ref D)))]) (fun _ _ => [(Str.ofString "least", .ref ll)])
        (fun j c => IntsAre c.1 (intsN (((FAILS.take j).filter (leastP lost)).map (·.1))) ∧ j ≤ 81) ([], 0, sv) O hE hD.1 (by k_mem) hod (fun j c _ => .tail _ (.head _)) ?hoff4 ⟨by k_mem, by k_mem, by k_mem, by k_mem, by k_mem, trivial⟩ ⟨rfl, trivial⟩ ⟨.nil, Nat.zero_le _⟩ ?turn4 ?done4
      case hoff4 =>
        rintro I hI j c _ p hp
        simp only [AllLt, and_true] at hI
        simp only [List.mem_cons, List.not_mem_nil, or_false] at hp
        rcases hp with rfl | rfl | rfl | rfl | rfl
        · show @LT.lt Nat _ ll I; omega
        · show @LT.lt Nat _ D I; omega
        · show @LT.lt Nat _ (C.L + 1 + 1 + 1) I; omega
        · show @LT.lt Nat _ (C.L + 1 + 1) I; omega
        · show @LT.lt Nat _ (C.L + 1) I; omega
      case turn4 =>
        rintro I j ⟨us, cu, sv'⟩ u4 oi kv v hI hkv hkey ⟨hus, hj⟩
        simp only [AllLt, and_true] at hI
        dsimp only at hus ⊢
        obtain ⟨kk, xx⟩ := kv
        obtain ⟨p, hp, rfl⟩ := pureI_get hkv
        obtain ⟨tk4, rfl⟩ := isInt_of hkey
        rw [hF4] at hp
        have hjl : j < 81 := by
          have := (List.getElem?_eq_some_iff.mp hp).1
          rw [fails_len] at this
          exact this
        have hpm := List.mem_of_getElem? hp
        have hself := fails_self p hpm
        have hfo : failsOf p.1 = p.2 := by unfold failsOf; rw [hself]; rfl
        obtain ⟨t5, hv5⟩ := hval p.1 (by rw [hself]; rfl)
        have hul : us.length ≤ 81 := by
          rw [hus.length]
          unfold intsN
          rw [List.length_map, List.length_map]
          exact Nat.le_trans (List.length_filter_le _ _) (by rw [List.length_take]; omega)
        have hstep : (((FAILS.take (j + 1)).filter (leastP lost)).map (·.1)) = (((FAILS.take j).filter (leastP lost)).map (·.1)) ++ (if leastP lost p = true then [p.1] else []) := by
          rw [List.take_add_one, hp, show (some p).toList = [p] from rfl, List.filter_append, List.map_append]
          cases hl : leastP lost p <;> simp [hl]
        repeat' ktr_rel
        refine ws_dget (knd := PySem.intKind _ _) (kk := ((p.1 : Nat) : Int)) (by k_mem) hod (PySem.intKind_is _ _ _ _) hv5 ?_
        repeat' ktr_rel
        have eb : (Builtin.bitOr ((failsOf p.1 : Nat) : Int) ((lost : Nat) : Int) == ((lost : Nat) : Int)) = impl lost p.1 := by
          rw [bitOr_nat]; exact beq_cast _ _
        rw [eb]
        refine ws_ite ?_ ?_
        · intro hb
          repeat' ktr_rel
          refine cat_range 8 (fun q ys => IntsAre ys (intsN ((List.range q).filter fun i => p.1.testBit i && impl lost (p.1 - 2 ^ i)))) O (by k_mem) (by decide) (by decide) fins_none .nil (by rw [hline]; decide) (by decide) rfl rfl ?turn5 ?done5
          case turn5 =>
            intro h₀ L B O' D' cn q I' o ys tq u5 hlt hDL hq hP
            have e1 : (0 : Int) + (q : Int) * 1 = ((q : Nat) : Int) := by omega
            rw [e1]
            repeat' ktr_rel
            refine ws_shr (by omega) ?_
            intro _
            repeat' ktr_rel
            rw [bit_test]
            have hst : (List.range (q + 1)).filter (fun i => p.1.testBit i && impl lost (p.1 - 2 ^ i)) = (List.range q).filter (fun i => p.1.testBit i && impl lost (p.1 - 2 ^ i)) ++ (if (p.1.testBit q && impl lost (p.1 - 2 ^ q)) = true then [q] else []) := by
              rw [List.range_succ, List.filter_append]
              cases hl : (p.1.testBit q && impl lost (p.1 - 2 ^ q)) <;> simp [hl]
            refine ws_ite ?_ ?_
            · intro hbit
              have hdn := fails_down p hpm q hq hbit
              obtain ⟨t6, hv6⟩ := hval _ hdn
              have hge : 2 ^ q ≤ p.1 := Nat.ge_two_pow_of_testBit hbit
              repeat' ktr_rel
              refine ws_shl (by omega) (by omega) (by decide) ?_
              intro _
              repeat' ktr_rel
              have e7 : ((p.1 : Nat) : Int) - 1 * 2 ^ ((q : Nat) : Int).toNat = ((p.1 - 2 ^ q : Nat) : Int) := by
                rw [Int.toNat_natCast, Int.one_mul, Int.natCast_sub hge]; simp
              rw [e7]
              refine ws_dget (knd := PySem.intKind _ _) (kk := ((p.1 - 2 ^ q : Nat) : Int)) (by k_mem) hod (PySem.intKind_is _ _ _ _) hv6 ?_
              repeat' ktr_rel
              have eb2 : (Builtin.bitOr ((failsOf (p.1 - 2 ^ q) : Nat) : Int) ((lost : Nat) : Int) == ((lost : Nat) : Int)) = impl lost (p.1 - 2 ^ q) := by
                rw [bitOr_nat]; exact beq_cast _ _
              rw [eb2]
              rw [hbit, Bool.true_and] at hst
              refine ws_ite ?_ ?_
              · intro hb3
                rw [if_pos hb3] at hst
                repeat' ktr_rel
                refine ⟨fun _ h => h, ?_⟩
                rw [hst]
                unfold intsN at hP ⊢
                rw [List.map_append]
                exact hP.append (.cons _ _ .nil)
              · intro hb3
                rw [if_neg (by rw [hb3]; exact Bool.false_ne_true)] at hst
                repeat' ktr_rel
                refine ⟨fun _ h => h, ?_⟩
                rw [hst]
                simpa using hP
            · intro hbit
              rw [hbit] at hst
              refine ⟨fun _ h => h, ?_⟩
              rw [hst]
              simpa using hP
          case done5 =>
            intro ys1 D1 cn1 hCD1 hlt1 hP1
            simp only [AllLt, and_true] at hlt1
            repeat' ktr_rel
            refine ws_eqInts O (by decide) (isLst_mem (vs := ys1) (c := cn1) (by k_mem)) hP1 (isLst_mem (vs := []) (c := 0) (by k_mem)) .nil ?_
            repeat' ktr_rel
            refine ws_ite ?_ ?_
            · intro hb2
              have hl : leastP lost p = true := by
                unfold leastP
                rw [hb]
                have : (List.range 8).filter (fun i => p.1.testBit i && impl lost (p.1 - 2 ^ i)) = [] := by simpa [intsN] using hb2
                rw [this]; rfl
              rw [if_pos hl] at hstep
              repeat' ktr_rel
              refine ⟨(us ++ [.int ((p.1 : Nat) : Int) tk4], cu + 1, some (.int ((p.1 : Nat) : Int) tk4)), by k_mem, ⟨by k_mem, by k_mem, by k_mem, by k_mem, by k_mem, trivial⟩, ⟨rfl, trivial⟩, ?_, hjl⟩
              dsimp only
              rw [hstep]
              unfold intsN at hus ⊢
              rw [List.map_append]
              exact hus.append (.cons _ _ .nil)
            · intro hb2
              have hl : ¬ leastP lost p = true := by
                intro hl
                unfold leastP at hl
                rw [hb, Bool.true_and] at hl
                have := List.isEmpty_iff.mp hl
                rw [this] at hb2
                simp [intsN] at hb2
              rw [if_neg hl] at hstep
              repeat' ktr_rel
              refine ⟨(us, cu, some (.int ((p.1 : Nat) : Int) tk4)), by k_mem, ⟨by k_mem, by k_mem, by k_mem, by k_mem, by k_mem, trivial⟩, ⟨rfl, trivial⟩, ?_, hjl⟩
              dsimp only
              rw [hstep]
              simpa using hus
        · intro hb
          have hl : ¬ leastP lost p = true := by
            unfold leastP; rw [hb]; simp
          rw [if_neg hl] at hstep
          repeat' ktr_rel
          refine ⟨(us, cu, some (.int ((p.1 : Nat) : Int) tk4)), by k_mem, ⟨by k_mem, by k_mem, by k_mem, by k_mem, by k_mem, trivial⟩, ⟨rfl, trivial⟩, ?_, hjl⟩
          dsimp only
          rw [hstep]
          simpa using hus
      case done4 =>
        rintro ⟨us, cu, sv'⟩ u4 ⟨hus, _⟩
        dsimp only at hus ⊢
        rw [show (kvI F).length = FAILS.length by unfold kvI; rw [List.length_map, hFl, fails_len], List.take_length] at hus
        repeat' ktr_rel
        refine ws_sorted (isLst_mem (vs := us) (c := cu) (by k_mem)) hus (by rw [hus.length]; unfold intsN; rw [List.length_map]; exact h64) fun D9 vs' ns' e9 hD1 hD2 hI' hp hs => ?_
        repeat' ktr_rel
        exact fun h F9 N9 => ⟨D9, vs', e9, rfl, Nat.le_trans F9.above (Nat.le_of_lt hD1), (N9 (D9, _) (by k_mem)).1, ns', hI', hp, hs⟩
end Mine

namespace Mine
open PySem PySem.W PyProof.Rows PySem.Calls PyProof.V PySem.Spec
section
variable {C : Cx} {k : Nat} {m : Loc} {n n' : Led} {QV : Value → Loc → Led → Prop} {I : Addr} {b : Array UInt8} {t : Tok} {o : Obj} {i : Nat}
/-- next at the end: StopIteration -/
theorem ws_nextEnd (O : C.Ok k) (hE : ∀ h h' m e tk, Fr C.h₀ C.L h m → Heap.NewExc h h' e "StopIteration" → C.E (.ref e) ⟨h', C.g, C.d, tk, C.o⟩) (hm : (I, o) ∈ n) (hb : BIt b t i o) (hx : b[i]? = none) : WS C (call (.builtin "next") [.ref I]) QV m n := by
  intro h tk F N
  have hI := N _ hm
  have hit : KBw.IsBytesIter h I b t i := ⟨o, hI.1, hb⟩
  refine call_function_entry (by decide +kernel) (by decide +kernel) kdk_entry_next (kdk_args_next _) ?_
  unfold Builtin.«next»
  refine wpAny_bind (m := someArgs "next" 1 2 _) (wpAny_of_eq (a := [Value.ref I]) (by first | rfl | kernel_rfl!) ?_)
  dsimp only
  refine wpAny_bind (wpAny_specialOf (name := Str.ofString "__next__") (KBw.iter_typeIs (s := ⟨h, C.g, C.d, tk, C.o⟩) hit) KBw.slot_next.lookup ?_)
  refine wpAny_ite_split (fun hab => absurd hab (by decide)) (fun _ => ?_)
  refine wpAny_bind (wpAny_callSpecial?_slot (name := Str.ofString "__next__") (KBw.iter_typeIs (s := ⟨h, C.g, C.d, tk, C.o⟩) hit) KBw.slot_next
    (wpAny_call_entry KBw.slot_next (KBw.iter_typeIs (s := ⟨h, C.g, C.d, tk, C.o⟩) hit) KBw.entry_next ?_ (KBw.args_next _)))
  show wpAny _ _ (field (.ref I) 0 >>= _) _ _ _
  refine wpAny_bind (wpAny_field hI.1 hb.2 (x := .bytes b t) rfl ?_)
  show wpAny _ _ (if (Value.bytes b t == Value.none) = true then _ else _) _ _ _
  rw [if_neg (show ¬ ((Value.bytes b t == Value.none) = true) from Bool.false_ne_true)]
  show wpAny _ _ (field (.ref I) 1 >>= _) _ _ _
  refine wpAny_bind (wpAny_field hI.1 hb.2 (x := .int i 0) rfl ?_)
  refine wpAny_bind (wpAny_of_eq (a := b) rfl ?_)
  simp only [Int.toNat_natCast, hx]
  refine wpAny_bind (wpAny_rule (wpAny_bind (wpAny_setField hI.1 hb.2 (by simp) ?_)))
  have F1 : Fr C.h₀ C.L (h.update I (Obj.mapFields (·.setIfInBounds 0 .none))) m := F.change (Heap.SameBut.update ..) hI.2.1 hI.2.2
  generalize h.update I (Obj.mapFields (·.setIfInBounds 0 .none)) = h1 at F1 ⊢
  show wpAny _ _ (newExc (.type "StopIteration") [] >>= _) _ _ _
  refine wpAny_bind ?_
  simp only [newExc, newTuple]
  refine wpAny_bind (wpAny_newObj_type ?_ (by size_fits))
  refine wpAny_bind (m := firstArgMember _ _) (wpAny_of_eq (a := Value.none) (by first | rfl | (simp only [firstArgMember]; rfl)) ?_)
  refine wpAny_newObj_type ?_ (by size_fits)
  simp only [raiseNew]
  refine wpAny_bind (wpAny_handled ?_)
  rw [show C.A.in1.handled = none from O.handled]
  refine wpAny_bind (wpAny_pure (wpAny_throw ?_))
  refine hE h1 _ m _ _ F1 ⟨fun b o e => Heap.get?_push_of_some _ (Heap.get?_push_of_some _ e), Heap.get?_none_of_le (by simp), ?_⟩
  exact ⟨_, _, Heap.get?_push_size _ rfl, rfl, rfl⟩
end
local macro_rules | `(tactic| tb_start) => `(tactic| first
  | (refine' fnM_of ?ho ?hcd ?hnm ?hbind ?hnd ?hloc ?hco ?hgen ?hk ?hcell ?H; (case ho => k_dflt k_is); (case hcd => k_dflt k_is); (case hnm => dsimp only [List.map]); (case hbind => k_dflt rfl); (case hnd => decide); (case hloc => exact locs rfl); (case hco => exact rfl); (case hgen => exact rfl); (case hk => exact rfl); (case hcell => decide))
  | (refine' fnR_of ?ho ?hcd ?hnm ?hbind ?hnd ?hloc ?hco ?hgen ?hk ?hcell ?H; (case ho => k_dflt k_is); (case hcd => k_dflt k_is); (case hnm => dsimp only [List.map]); (case hbind => k_dflt rfl); (case hnd => decide); (case hloc => exact locs rfl); (case hco => exact rfl); (case hgen => exact rfl); (case hk => exact rfl); (case hcell => decide)))
theorem sp_varintR {prog w mean mg mb} (I : Addr) (o₀ : Obj) (b : Array UInt8) (t : Tok) (i : Nat) (hb : BIt b t i o₀) (hx : b[i]? = none) : FnR prog w mean mg mb 29 [.ref I] 2 I o₀ := by
  tb_start
  intro C e1 e2 e3 e4 e5 O hE hIL
  subst e1 e2 e3 e4 e5
  dsimp only [List.zip, List.zipWith]
  repeat' ktr_rel
  exact ws_nextEnd O hE (by k_mem) hb hx
theorem var_bits : ∀ q, q < 8 → ∀ e, e < 2 → ((64 + q + e * 128) &&& 63 = q) ∧ (64 + q + e * 128) &&& 64 ≠ 0 := by decide
theorem var_low : ∀ r, r < 64 → (r &&& 63 = r) ∧ r &&& 64 = 0 := by decide
theorem var_or : ∀ q, q < 8 → ∀ r, r < 64 → q * 64 ||| r = 64 * q + r := by decide +kernel
theorem u8_nat (x : Nat) (h : x < 256) : x.toUInt8.toNat = x := by
  simp [Nat.toUInt8, UInt8.toNat_ofNat', Nat.mod_eq_of_lt h]
theorem sp_varint {prog w mean mg mb} (I : Addr) (o₀ : Obj) (b : Array UInt8) (t : Tok) (i s p : Nat) (hb : BIt b t i o₀) (hs : s < 512) (hx : b[i]? = some (64 + s / 64 + p % 2 * 128).toUInt8) (hx2 : b[i + 1]? = some (s % 64).toUInt8) :
    FnM prog w mean mg mb 29 [.ref I] 2 I o₀ (fun v o => (∃ u, v = .int (s : Nat) u) ∧ BIt b t (i + 2) o) := by
  tb_start
  intro C e1 e2 e3 e4 e5 O hE hI0 hIL
  subst e1 e2 e3 e4 e5
  dsimp only [List.zip, List.zipWith]
  repeat' ktr_rel
  refine ws_nextB (by k_updF) hb hx fun o1 t1 hb1 => ?_
  have hq : s / 64 < 8 := by omega
  have he : p % 2 < 2 := Nat.mod_lt _ (by decide)
  have hr : s % 64 < 64 := Nat.mod_lt _ (by decide)
  obtain ⟨a1, a2⟩ := var_bits (s / 64) hq (p % 2) he
  obtain ⟨a3, a4⟩ := var_low (s % 64) hr
  have a5 : (s / 64) * 64 ||| (s % 64) = s := by rw [var_or (s / 64) hq (s % 64) hr]; omega
  rw [show (64 + s / 64 + p % 2 * 128).toUInt8.toNat = 64 + s / 64 + p % 2 * 128 from u8_nat _ (by omega)]
  generalize hx0 : 64 + s / 64 + p % 2 * 128 = x0 at a1 a2 ⊢
  repeat' ktr_rel
  rename_i t2
  have c1 : Builtin.bitAnd (x0 : Int) 63 = ((s / 64 : Nat) : Int) := by rw [← a1]; rfl
  rw [c1]
  refine ws_while (σ := Nat × Nat × Nat × Obj × Tok × Tok) (fun c => [(I, c.2.2.2.1)]) (fun c => [(Str.ofString "iterator", .ref I), (Str.ofString "b", .int c.2.1 c.2.2.2.2.1), (Str.ofString "val", .int c.2.2.1 c.2.2.2.2.2)])
    (fun c => (c.1 = 0 ∧ c.2.1 = x0 ∧ c.2.2.1 = s / 64 ∧ BIt b t (i + 1) c.2.2.2.1) ∨ (c.1 = 1 ∧ c.2.1 = s % 64 ∧ c.2.2.1 = s ∧ BIt b t (i + 2) c.2.2.2.1)) (fun c => 2 - c.1)
    (0, x0, s / 64, o1, t1, t2) hE ⟨by k_mem, trivial⟩ ⟨rfl, rfl, rfl, trivial⟩ (.inl ⟨rfl, rfl, rfl, hb1⟩) ?turn
  case turn =>
    rintro ⟨j, bv, vl, o2, t3, t4⟩ u hP
    dsimp only at hP ⊢
    rcases hP with ⟨rfl, rfl, rfl, hb2⟩ | ⟨rfl, rfl, rfl, hb2⟩
    · repeat' ktr_rel
      have c2 : (Builtin.bitAnd (bv : Int) 64 != 0) = true := by
        show (((bv &&& 64 : Nat) : Int) != 0) = true
        simp only [bne_iff_ne, ne_eq]
        omega
      refine ws_iteT c2 ?_
      repeat' ktr_rel
      refine ws_ishl (by decide) (by decide) (by omega) ?_
      intro _
      repeat' ktr_rel
      refine ws_nextB (by k_updF) hb2 hx2 fun o3 t5 hb3 => ?_
      rw [show (s % 64).toUInt8.toNat = s % 64 from u8_nat _ (by omega)]
      repeat' ktr_rel
      rename_i t6
      have c3 : Builtin.bitOr (((s / 64 : Nat) : Int) * 2 ^ (6 : Int).toNat) (Builtin.bitAnd ((s % 64 : Nat) : Int) 63) = ((s : Nat) : Int) := by
        have : Builtin.bitAnd ((s % 64 : Nat) : Int) 63 = ((s % 64 : Nat) : Int) := by
          show ((s % 64 &&& 63 : Nat) : Int) = _
          rw [a3]
        rw [this, show (((s / 64 : Nat) : Int) * 2 ^ (6 : Int).toNat) = ((s / 64 * 64 : Nat) : Int) by simp, bitOr_nat, a5]
      rw [c3]
      exact ⟨(1, s % 64, s, o3, t5, t6), ⟨by k_mem, trivial⟩, ⟨rfl, rfl, rfl, trivial⟩, .inr ⟨rfl, rfl, rfl, hb3⟩, by show 2 - 1 < 2 - 0; decide⟩
    · repeat' ktr_rel
      have c2 : (Builtin.bitAnd ((vl % 64 : Nat) : Int) 64 != 0) = false := by
        show (((vl % 64 &&& 64 : Nat) : Int) != 0) = false
        rw [a4]; rfl
      refine ws_iteF c2 ?_
      repeat' ktr_rel
      exact ⟨o2, by k_mem, ⟨_, rfl⟩, hb2⟩
end Mine

namespace Mine
open PySem PySem.W PyProof.Rows PySem.Calls PyProof.V PySem.Spec
/-! where a call may turn frames -/
def WSG (C : Cx) {α : Type} (t : Sem α) (R : α → Shared → Prop) (m : Loc) (n : Led) : Prop :=
  ∀ h tk, Fr C.h₀ C.L h m → News C.h₀ C.L h n → wpAny (model C.prog C.w) C.A t R C.E ⟨h, C.g, C.d, tk, C.o⟩
section
variable {C : Cx} {k : Nat} {m : Loc} {n n' : Led} {env : Env} {QV : Value → Loc → Led → Prop} {I : Addr} {o o₀ : Obj} {g : Obj → Led} {R : Flow → Shared → Prop}
theorem wsg_cons {st : Stmt} {rest : List Stmt} (H : WS C (exec st env) (fun f m n => f = .next ∧ WSG C (execs rest env) R m n) m n) : WSG C (execs (st :: rest) env) R m n :=
  fun h tk F N => wpAny_execs_cons (ws_out H (fun f h tk m n F N ⟨e, H⟩ => by subst e; exact H h tk F N) _ _ F N)
theorem wsg_seq {st : Stmt} {rest : List Stmt} (H : WSG C (exec st env) (fun f s => match f with | .next => wpAny (model C.prog C.w) C.A (execs rest env) R C.E s | f => R f s) m n) : WSG C (execs (st :: rest) env) R m n :=
  fun h tk F N => wpAny_execs_cons (H h tk F N)
theorem wsg_try {body orelse : List Stmt} {h₀ : ExceptHandler} {hs : List ExceptHandler} {pos : Pos}
    (H : WS { C with E := fun e s₁ => wpAny (model C.prog C.w) C.A (noteFrame e env) (fun _ s₂ => wpAny (model C.prog C.w) C.A (setFlight e none) (fun _ s₃ => wpAny (model C.prog C.w) C.A (handleBy e env (h₀ :: hs)) R C.E s₃) C.E s₂) C.E s₁ } (execs body env) (fun _ _ _ => False) m n) :
    WSG C (exec (.Try body (h₀ :: hs) orelse [] pos) env) R m n := fun h tk F N => wpAny_Try_except (wpAny_mono (H h tk F N) (fun _ _ ⟨_, _, _, _, _, _, _, q⟩ => q.elim) fun _ _ x => x)
theorem ws_okE {α : Type} {t : Sem α} {Q : α → Loc → Led → Prop} {E : Value → Shared → Prop} (O : C.Ok k) (H : Cx.Ok { C with E := E } k → WS { C with E := E } t Q m n) : WS { C with E := E } t Q m n := H (ok_E O E)
theorem fr_hide {h : Heap} (F : Fr C.h₀ C.L h m) (l : List Addr) (hl : ∀ a ∈ l, a ≠ C.L ∧ C.h₀.get? a = none) : Fr C.h₀ C.L (hideAll h l) m := by
  have nL : C.L ∉ l := fun q => (hl _ q).1 rfl
  obtain ⟨oL, es, ep, hL', hLd, hLk, hLf⟩ := F.ns
  exact ⟨⟨oL, es, ep, hideAll_get _ hL' nL, hLd, hLk, hLf⟩, fun b o e => hideAll_get _ (F.keep b o e) fun q => absurd ((hl _ q).2.symm.trans e) (by simp), F.above⟩
theorem ws_fnM {f : Addr} {vs : List Value} {P₀ : Value → Obj → Prop} (O : C.Ok k) (F : FnM C.prog C.w C.mean C.mg C.mb f vs k I o₀ P₀) (U : UpdF I o₀ n g) (H : ∀ v o', P₀ v o' → QV v m (g o')) : WS C (call (.ref f) vs) QV m n := by
  intro h tk F' N'
  obtain ⟨pre, post, rfl, hg, a, b⟩ := U.split
  have hI := N' (I, o₀) (List.mem_append.mpr (.inr (.head _)))
  have F2 := fr_hide F' [I] (fun x hx => by rw [List.mem_singleton.mp hx]; exact hI.2)
  refine F C.A C.base C.frames _ _ _ (O.kin.keeps F2.keep) (O.top.keeps F2.keep) O.handled O.frames (O.ground _ m F2) (fun b o e => F2.keep _ _ (O.stays _ _ e)) O.depth O.units hI.1 fun v o' h' tk' st ho' hp => ?_
  refine ⟨h', tk', m, g o', rfl, F2.keeps st, ?_, H v o' hp⟩
  rw [hg]
  intro p hp
  rcases List.mem_append.mp hp with hp | hp
  · have := N' p (List.mem_append.mpr (.inl hp))
    exact ⟨st _ _ (hideAll_get _ this.1 (fun q => a p hp (List.mem_singleton.mp q))), this.2⟩
  · rcases List.mem_cons.mp hp with rfl | hp
    · exact ⟨ho', hI.2⟩
    · have := N' p (List.mem_append.mpr (.inr (.tail _ hp)))
      exact ⟨st _ _ (hideAll_get _ this.1 (fun q => b p hp (List.mem_singleton.mp q))), this.2⟩
theorem ws_fnR {f : Addr} {vs : List Value} (O : C.Ok k) (F : FnR C.prog C.w C.mean C.mg C.mb f vs k I o₀) (hm : (I, o₀) ∈ n)
    (hE : ∀ h h' e tk, Fr C.h₀ C.L h m → News C.h₀ C.L h n → RaisedSN C.base (hideAll h [I]) C.frames e (.type "StopIteration") [] h' → (hideAll h [I]).UpToSlots h' → C.E (.ref e) ⟨h', C.g, C.d, tk, C.o⟩) : WS C (call (.ref f) vs) QV m n := by
  intro h tk F' N'
  have hI := N' _ hm
  have F2 := fr_hide F' [I] (fun x hx => by rw [List.mem_singleton.mp hx]; exact hI.2)
  exact F C.A C.base C.frames _ _ _ (O.kin.keeps F2.keep) (O.top.keeps F2.keep) O.handled O.frames (O.ground _ m F2) (fun b o e => F2.keep _ _ (O.stays _ _ e)) O.depth O.units hI.1 fun h' e tk' R hs => hE h h' e tk' F' N' R hs
theorem ws_typeInt {x : Int} {t : Tok} (H : QV (.type "int") m n) : WS C (call (.type "type") [.int x t]) QV m n := by
  intro h tk F N
  exact call_type_of (Tx := "int") rfl (by decide +kernel) ⟨h, tk, m, n, rfl, F, N, H⟩
theorem ws_isnotT {X : String} (H : QV (.bool false) m n) : WS C (compareOp .IsNot (.type X) (.type X)) QV m n := fun h tk F N => isnot_type_same ⟨h, tk, m, n, rfl, F, N, H⟩
end
theorem stop_meta : isSubtype (.type ((Manifest.find? "StopIteration").elim "type" fun y => y.metatype)) (.type "tuple") = pure false := by
  rw [show ((Manifest.find? "StopIteration").elim "type" fun x => x.metatype) = "type" from by kernel_rfl, isSubtype_type]; kernel_rfl
/-- what flies, beside a ledger -/
theorem raised_with {C : Cx} {m : Loc} {n₂ : Led} {I e : Addr} {A₀ : Around} {outer : List Env} {env : Env} {h h' : Heap} {X : Value} (R : RaisedSN C.base (hideAll h [I]) C.frames e X [] h') (F : Fr C.h₀ C.L h m) (N : News C.h₀ C.L h n₂) (hI : ∀ p ∈ n₂, p.1 ≠ I)
    (hF : C.frames = env :: outer) (K : PyProof.Rows.Below A₀ C.base outer C.h₀) (hs : (hideAll h [I]).UpToSlots h') (hI2 : I ≠ C.L ∧ C.h₀.get? I = none) (hL : env.frame = some C.L := by rfl) :
    RaisedSN C.base (hideAll (hideAll h [I]) (n₂.map (·.1))) C.frames e X n₂ h' ∧ Fr C.h₀ C.L (hideAll (hideAll h [I]) (n₂.map (·.1))) m ∧ (hideAll (hideAll h [I]) (n₂.map (·.1))).UpToSlots h' := by
  obtain ⟨B, a0, hB, hBG, _, hfl⟩ := R
  refine ⟨⟨B, a0, hB, fun b o e nm => hBG b o (of_hideAll _ e) nm, fun q hq => ⟨hBG _ _ (hideAll_get _ (N q hq).1 fun z => hI q hq (List.mem_singleton.mp z)) ?_, hideAll_none _ (List.mem_map_of_mem hq), ?_⟩, hfl⟩, ?_, ?_⟩
  · intro hm
    rw [hF] at hm
    obtain ⟨env', he, hf⟩ := List.mem_filterMap.mp hm
    rcases List.mem_cons.mp he with rfl | he
    · rw [hL] at hf
      exact (N q hq).2.1 (Option.some.inj hf).symm
    · obtain ⟨o, ho, _⟩ := (K.frames.mem (List.mem_filterMap.mpr ⟨env', he, hf⟩)).2
      rw [(N q hq).2.2] at ho; cases ho
  · cases q' : C.base.get? q.1 with
    | none => rfl
    | some o => have := K.stays _ _ q'; rw [(N q hq).2.2] at this; cases this
  · refine fr_hide (fr_hide F [I] fun a ha => by rw [List.mem_singleton.mp ha]; exact hI2) _ fun a ha => ?_
    obtain ⟨p, hp, rfl⟩ := List.mem_map.mp ha
    exact (N p hp).2
  · exact fun b o e hd => hs b o (of_hideAll _ e) hd
/-- a call behind which the frames' objects may have turned -/
def FnT (prog : Program) (w : World) (mean : ExcName → Option Value) (mg mb : Loc) (f : Addr) (vs : List Value) (k : Nat) (ret : Heap → Heap → Value → Prop) : Prop :=
  ∀ (A : Around) (base : Heap) (frames : List Env) (s : Shared) (Q E : Value → Shared → Prop),
    (Mine.th.heap_1_1 w.params).In s.heap → Top Mine.V Loose mean mg mb s.heap → A.handled = none → A.frames = some frames → s.heap.FunFrames base frames → base.StaysIn s.heap → (Mine.th.heap_1_1 w.params).In base → Top Mine.V Loose mean mg mb base →
    KtsDicts (frames.filterMap (·.frame)) s.heap → A.depth + k < recursionLimit → A.units + 10 * k < cLine →
    (∀ v g' h' tk', KtsTurn (frames.filterMap (·.frame)) s.heap g' → g'.StaysIn h' → ret g' h' v → Q v { s with heap := h', toks := tk' }) →
    wpAny (model prog w) A (call (.ref f) vs) Q E s
section
variable {prog : Program} {w : World} {mean : ExcName → Option Value} {mg mb : Loc} {f : Addr} {vs : List Value} {k : Nat} {ret : Heap → Heap → Value → Prop}
  {name qual : Str} {params : Arguments} {body : List Stmt} {scope : Scope} {dV kV doc pm cdv ct oc : Value} {an od : Option Addr} {osl : Array (Option Value)} {names : List Str}
theorem fnT_of (ho : (Mine.th.heap_1_1 w.params).lookup f = some ⟨oc, od, .func (fnOf name qual params body scope dV kV doc pm an cdv ct), osl⟩) (hcd : codeIn (Mine.th.heap_1_1 w.params) cdv qual = true)
    (hnm : params.args.map (·.arg) = names)
    (hbind : bindArgs (fnOf name qual params body scope dV kV doc pm an cdv ct) ⟨vs, []⟩ = pure (names.zip vs)) (hnd : names.Nodup) (hloc : ∀ y ∈ names.zip vs, scope.names.lookup y.1 = some .local)
    (hco : scope.isCoroutine = false) (hgen : scope.isGenerator = false) (hk : scope.kind = .function) (hcell : ∀ x ∈ scope.names, x.2 ≠ .cell)
    (H : ∀ (C : Cx) (A₀ : Around) (outer : List Env), C.prog = prog → C.w = w → C.mean = mean → C.mg = mg → C.mb = mb → C.A = A₀.deeper (envOf qual scope C.L f cdv) → C.frames = envOf qual scope C.L f cdv :: outer → PyProof.Rows.Below A₀ C.base outer C.h₀ →
      (Mine.th.heap_1_1 w.params).In C.base → Top Mine.V Loose mean mg mb C.base → KtsDicts (outer.filterMap (·.frame)) C.h₀ → C.Ok k → PassesOwn (model C.prog C.w) C.A (envOf qual scope C.L f cdv) C.E →
      (∀ e, PassesOwnAt (model C.prog C.w) ((A₀.deeper (envOf qual scope C.L f cdv)).mark (some (.ref e))) (A₀.deeper (envOf qual scope C.L f cdv)) (envOf qual scope C.L f cdv) C.E) →
      WSG C (execs body (envOf qual scope C.L f cdv)) (fun fl s' => ∃ g' h' tk', s' = ⟨h', C.g, C.d, tk', C.o⟩ ∧ KtsTurn (outer.filterMap (·.frame)) C.h₀ g' ∧ g'.StaysIn h' ∧ ret g' h' (match fl with | .ret v => v | _ => .none)) (kstB (fun _ => none) (names.zip vs)) []) :
    FnT prog w mean mg mb f vs (k + 1) ret := by
  intro A base frames s Q E X T hh hfr hff hst XB TB D hdp hu hret
  refine wpAny_call ?_
  refine codeAny_call_def (fd := fnX name qual params body scope [] dV kV doc pm an cdv ct) (body := body) (binds := names.zip vs) (by omega) (X _ _ ho) rfl T.nolimit (codeRec_of X hcd) rfl (BindsTo.of_eq hbind) hcell hloc (fun h₁ hns hk₁ => ?_) hco hgen hk
  have F₁ : Fr s.heap s.heap.objs.size h₁ (kstB (fun _ => none) (names.zip vs)) := ⟨(zip_lookup (fun _ => none) _ ((zip_sub _ _).nodup hnd)) ▸ hns, hk₁, Nat.le_refl _⟩
  have hnew : base.get? s.heap.objs.size = none := hst.fresh
  let C : Cx := ⟨prog, w, mean, mg, mb, A.deeper (envOf qual scope s.heap.objs.size f cdv),
    (fun e s' => wpAny (model prog w) (A.deeper (envOf qual scope s.heap.objs.size f cdv)) (leaving (envOf qual scope s.heap.objs.size f cdv) e) (fun _ s'' => E e s'') (fun e' s'' => E e' s'') s'),
    s.heap, s.heap.objs.size, s.gens, s.drawn, s.os, base, envOf qual scope s.heap.objs.size f cdv :: frames⟩
  have O : C.Ok k := by
    refine ⟨X, T, hh, Around.frames_deeper hfr, fun h m F => ?_, hst, ?_, ?_⟩
    · exact .cons (by show scope.kind ≠ .module; rw [hk]; decide) rfl F.ns hnew (hff.of_keeps fun b o e _ => ⟨o, F.keep b o e, rfl⟩)
    · show A.depth + 1 + k < _; omega
    · show A.units + 3 + 10 * k < _; omega
  have := H C A frames rfl rfl rfl rfl rfl rfl rfl ⟨hfr, hst, hff⟩ XB TB D O PassesOwn.leaving (fun e => PassesOwnAt.leaving) h₁ (s.toks + (names.zip vs).length) F₁ News.nil
  refine wpAny_mono this (fun fl s' p => ?_) fun _ _ x => x
  obtain ⟨g', h', tk', rfl, q1, q2, q3⟩ := p
  exact hret _ g' h' tk' q1 q2 q3
end
theorem tape_get : ∀ (l : List Nat) (p i s : Nat), l[i]? = some s → (tapeN p l)[2 * i]? = some (64 + s / 64 + (p + i) % 2 * 128) ∧ (tapeN p l)[2 * i + 1]? = some (s % 64)
  | [], _, _, _, h => by simp at h
  | x :: l, p, 0, s, h => by
    have : x = s := by simpa using h
    subst this
    exact ⟨rfl, rfl⟩
  | x :: l, p, i + 1, s, h => by
    have := tape_get l (p + 1) i s (by simpa using h)
    rw [show p + (i + 1) = p + 1 + i by omega]
    exact this
theorem byte_get (x : List Nat) (j : Nat) : (byteArr (intsN x))[j]? = (x[j]?).map fun n => n.toUInt8 := by
  unfold byteArr intsN
  simp only [List.getElem?_toArray, List.getElem?_map, Option.map_map]
  cases x[j]? with
  | none => rfl
  | some n => rfl
local macro_rules | `(tactic| tb_start) => `(tactic| (refine' fnT_of ?ho ?hcd ?hnm ?hbind ?hnd ?hloc ?hco ?hgen ?hk ?hcell ?H; (case ho => k_dflt k_is); (case hcd => k_dflt k_is); (case hnm => dsimp only [List.map]); (case hbind => k_dflt rfl); (case hnd => decide); (case hloc => exact locs rfl); (case hco => exact rfl); (case hgen => exact rfl); (case hk => exact rfl); (case hcell => decide)))
theorem sp_read {prog w mean mg mb} (ns : List Nat) (hlt : ∀ s ∈ ns, 0 < s ∧ s < 512) (hlen : ns.length ≤ 100) (t : Tok) :
    FnT prog w mean mg mb 123 [.bytes (byteArr (intsN (tapeN 0 (ns ++ [0])))) t] 5 (fun g' h' v => ∃ l vs c, v = .ref l ∧ g'.get? l = none ∧ h'.get? l = some (listOf vs.toArray c) ∧ IntsAre vs (intsN ns)) := by
  have hat : ∀ i s, (ns ++ [0])[i]? = some s → s < 512 ∧ (byteArr (intsN (tapeN 0 (ns ++ [0]))))[2 * i]? = some (64 + s / 64 + i % 2 * 128).toUInt8 ∧ (byteArr (intsN (tapeN 0 (ns ++ [0]))))[2 * i + 1]? = some (s % 64).toUInt8 := by
    intro i s h
    obtain ⟨h1, h2⟩ := tape_get _ 0 i s h
    refine ⟨?_, by rw [byte_get, h1, Nat.zero_add]; rfl, by rw [byte_get, h2]; rfl⟩
    rcases List.mem_append.mp (List.mem_of_getElem? h) with h | h
    · exact (hlt s h).2
    · simp at h; omega
  have hend : (byteArr (intsN (tapeN 0 (ns ++ [0]))))[2 * (ns.length + 1)]? = none := by
    rw [byte_get, List.getElem?_eq_none (by rw [tapeN_len]; simp)]
    rfl
  generalize hb : byteArr (intsN (tapeN 0 (ns ++ [0]))) = b at hat hend ⊢
  tb_start
  intro C A₀ outer e1 e2 e3 e4 e5 hA hFr K XB TB D O hE hP
  subst e1 e2 e3 e4 e5
  dsimp only [List.zip, List.zipWith]
  refine wsg_cons ?_
  repeat' ktr_rel
  refine ws_iterB fun I hI1 hI2 => ?_
  simp only [AllLt, and_true] at hI2
  repeat' ktr_rel
  refine wsg_cons ?_
  repeat' ktr_rel
  refine wsg_cons ?_
  repeat' ktr_rel
  rename_i as has
  have hI0 := hI2
  have hsAt : ∀ i, i ≤ ns.length → (ns ++ [0])[i]? = some ((ns ++ [0]).getD i 0) := fun i hi => by
    rw [List.getD_eq_getElem?_getD, List.getElem?_eq_getElem (by simp; omega)]
    rfl
  have hlast : (ns ++ [0]).getD ns.length 0 = 0 := by simp
  have hpos : ∀ i, i < ns.length → (ns ++ [0]).getD i 0 = ns.getD i 0 ∧ 0 < ns.getD i 0 := fun i hi => by
    have e : (ns ++ [0]).getD i 0 = ns.getD i 0 := by
      rw [List.getD_eq_getElem?_getD, List.getD_eq_getElem?_getD, List.getElem?_append_left hi]
    refine ⟨e, ?_⟩
    rw [List.getD_eq_getElem?_getD, List.getElem?_eq_getElem hi]
    exact (hlt _ (List.getElem_mem hi)).1
  obtain ⟨a1, a2, a3⟩ := hat 0 _ (hsAt 0 (Nat.zero_le _))
  refine ws_fnM (O.le (by decide)) (sp_varint I (bIt b t) b t 0 _ 0 ⟨rfl, rfl⟩ a1 a2 a3) (by k_updF) fun v o' hv => ?_
  obtain ⟨⟨u0, rfl⟩, hb0⟩ := hv
  repeat' ktr_rel
  refine wsg_cons ?_
  refine ws_while (σ := Nat × List Value × Nat × Obj × Tok) (fun c => [(as, listOf c.2.1.toArray c.2.2.1), (I, c.2.2.2.1)]) (fun c => [(Str.ofString "iterator", .ref I), (Str.ofString "symbols", .ref as), (Str.ofString "symbol", .int (((ns ++ [0]).getD c.1 0 : Nat) : Int) c.2.2.2.2)])
    (fun c => c.1 ≤ ns.length ∧ IntsAre c.2.1 (intsN (ns.take c.1)) ∧ BIt b t (2 * (c.1 + 1)) c.2.2.2.1) (fun c => ns.length - c.1)
    (0, [], 0, o', u0) hE ⟨by k_mem, by k_mem, trivial⟩ ⟨rfl, rfl, rfl, trivial⟩ ⟨Nat.zero_le _, (show IntsAre [] [] from .nil), hb0⟩ ?turn
  case turn =>
    rintro ⟨i, us, cn, io, tu⟩ u ⟨hi, hus, hio⟩
    dsimp only at hi hus hio ⊢
    have hul : us.length ≤ i := by
      rw [hus.length]; unfold intsN; rw [List.length_map, List.length_take]; omega
    repeat' ktr_rel
    refine ws_fnB (O.le (by decide)) (sp_iseof _ _) (fun _ _ _ => trivial) ?_
    repeat' ktr_rel
    refine ws_ite ?_ ?_
    · intro h0
      have hlt' : i < ns.length := by
        apply Nat.lt_of_le_of_ne hi
        intro e
        subst e
        rw [hlast] at h0
        exact absurd h0 (by decide)
      obtain ⟨g1, g2⟩ := hpos i hlt'
      obtain ⟨a1, a2, a3⟩ := hat (i + 1) _ (hsAt (i + 1) hlt')
      repeat' ktr_rel
      refine ws_typeInt ?_
      repeat' ktr_rel
      refine ws_isnotT ?_
      repeat' ktr_rel
      refine ws_fnM (O.le (by decide)) (sp_varint I io b t (2 * (i + 1)) _ (i + 1) hio a1 a2 a3) (by k_updF) fun v o' hv => ?_
      obtain ⟨⟨u1, rfl⟩, hb1⟩ := hv
      repeat' ktr_rel
      refine ⟨(i + 1, us ++ [.int (((ns ++ [0]).getD i 0 : Nat) : Int) tu], cn + 1, o', u1), ⟨by k_mem, by k_mem, trivial⟩, ⟨rfl, rfl, rfl, trivial⟩, ⟨hlt', ?_, hb1⟩, by show ns.length - (i + 1) < ns.length - i; omega⟩
      show IntsAre (us ++ [_]) (intsN (ns.take (i + 1)))
      rw [List.take_add_one, show ns[i]? = some ((ns ++ [0]).getD i 0) by rw [g1, List.getD_eq_getElem?_getD, List.getElem?_eq_getElem hlt']; rfl]
      unfold intsN at hus ⊢
      rw [List.map_append]
      exact hus.append (.cons _ _ .nil)
    · intro h0
      have hie : i = ns.length := by
        apply Nat.le_antisymm hi
        apply Nat.le_of_not_lt
        intro hlt'
        obtain ⟨g1, g2⟩ := hpos i hlt'
        rw [g1] at h0
        rw [List.getD_eq_getElem?_getD] at g2 h0
        have h00 : ns[i]?.getD 0 = 0 := by simpa using h0
        omega
      subst hie
      rw [List.take_length] at hus
      repeat' ktr_rel
      refine wsg_seq (wsg_try ?_)
      refine ws_okE O fun O' => ?_
      repeat' ktr_rel
      refine ws_fnR (O'.le (by decide)) (sp_varintR I io b t (2 * (ns.length + 1)) hio hend) (by k_mem) fun h h' e tk F N R hs => ?_
      obtain ⟨R', F', hs'⟩ := raised_with (n₂ := [(as, listOf us.toArray cn)]) R F (fun p hp => N p (by rw [List.mem_singleton.mp hp]; k_mem)) (fun p hp => by rw [List.mem_singleton.mp hp]; exact Nat.ne_of_gt (by omega)) hFr K hs ((N (I, io) (by k_mem)).2)
      rw [hFr] at R'
      show wpAny _ C.A _ _ _ _
      rw [hA]
      refine caught_SN0 (K := K) (KF := Mine.th.heap_1_1 C.w.params) (T' := "StopIteration") R' F' hs' XB TB D KtsTurn.refl ?ex ?hv (by decide) owsi_raise.isExc stop_meta owsi_facts.sub ?k (hE := hP _)
      case ex => k_dflt k_is
      case hv => boot_by_name
      case k =>
        intro h2 g2 T2 F2 N2 K2 X2 P2 D2
        refine wpAny_execs_cons (wpAny_Return_some (wpAny_Name (wpAny_loadName_local (by k_dflt rfl) (by k_dflt rfl) F2.ns (v := .ref as) (by k_dflt rfl) ?_) (by decide)))
        have hz := N2 _ (.head _)
        exact ⟨g2, h2, _, rfl, T2, F2.keep, as, us, cn, rfl, hz.2.2, hz.1, hus⟩
end Mine

namespace Mine
open PySem PySem.W PyProof.Rows PySem.Calls PyProof.V PySem.Spec
/-! what the cuts leave -/
def keysF : List Nat := FAILS.map (·.1)
def subN (a b : Nat) : Bool := a &&& b == a
def orN (a b : Nat) : Bool := a ||| b == b
theorem keys_isSome (x : Nat) : x ∈ keysF ↔ (FAILS.lookup x).isSome = true := by
  constructor
  · intro h
    have : ∀ x ∈ keysF, (FAILS.lookup x).isSome = true := by decide +kernel
    exact this x h
  · intro h
    obtain ⟨v, hv⟩ := Option.isSome_iff_exists.mp h
    unfold keysF
    have : ∀ (l : List (Nat × Nat)), l.lookup x = some v → x ∈ l.map (·.1) := by
      intro l
      induction l with
      | nil => intro h; simp at h
      | cons p l ih =>
        obtain ⟨a, b⟩ := p
        intro h
        rw [List.lookup_cons] at h
        cases e : x == a with
        | true => simp [eq_of_beq e]
        | false => rw [e] at h; simp [ih h]
    exact this _ hv
theorem orN_trans {a b c : Nat} (h : orN a b = true) (h' : orN b c = true) : orN a c = true := by
  unfold orN at *
  simp only [beq_iff_eq] at *
  rw [← h', ← Nat.or_assoc, h]
theorem orN_or {a b c : Nat} (h : orN a c = true) (h' : orN b c = true) : orN (a ||| b) c = true := by
  unfold orN at *
  simp only [beq_iff_eq] at *
  rw [Nat.or_assoc, h', h]
theorem subN_trans {a b c : Nat} (h : subN a b = true) (h' : subN b c = true) : subN a c = true := by
  unfold subN at *
  simp only [beq_iff_eq] at *
  rw [← h, Nat.and_assoc, h']
theorem subN_refl (a : Nat) : subN a a = true := by simp [subN]
theorem subN_antisymm {a b : Nat} (h : subN a b = true) (h' : subN b a = true) : a = b := by
  unfold subN at *
  simp only [beq_iff_eq] at *
  rw [← h, Nat.and_comm, h']
def KL : List (Nat × Nat) := [(0, 65535), (1, 43690), (16, 21845), (2, 52428), (32, 13107), (3, 34952), (33, 8738), (18, 17476), (48, 4369), (4, 61680), (64, 3855), (5, 41120), (65, 2570), (20, 20560), (80, 1285), (6, 49344), (66, 3084), (36, 12336), (96, 771), (7, 32896), (67, 2056), (37, 8224), (97, 514), (22, 16448), (82, 1028), (52, 4112), (112, 257), (8, 65280), (128, 255), (9, 43520), (129, 170), (24, 21760), (144, 85), (10, 52224), (130, 204), (40, 13056), (160, 51), (11, 34816), (131, 136), (41, 8704), (161, 34), (26, 17408), (146, 68), (56, 4352), (176, 17), (12, 61440), (132, 240), (72, 3840), (192, 15), (13, 40960), (133, 160), (73, 2560), (193, 10), (28, 20480), (148, 80), (88, 1280), (208, 5), (14, 49152), (134, 192), (74, 3072), (194, 12), (44, 12288), (164, 48), (104, 768), (224, 3), (15, 32768), (135, 128), (75, 2048), (195, 8), (45, 8192), (165, 32), (105, 512), (225, 2), (30, 16384), (150, 64), (90, 1024), (210, 4), (60, 4096), (180, 16), (120, 256), (240, 1)]
theorem KL_eq : FAILS = KL := by decide +kernel
theorem mem_KL {a : Nat} (h : a ∈ keysF) : (a, failsOf a) ∈ KL := by
  unfold keysF at h
  obtain ⟨p, hp, rfl⟩ := List.mem_map.mp h
  have e : failsOf p.1 = p.2 := by unfold failsOf; rw [fails_self p hp]; rfl
  rw [e, ← KL_eq]
  exact hp
theorem KL_mem {a b : Nat} (h : (KL.contains (a, b)) = true) : a ∈ keysF ∧ failsOf a = b := by
  rw [List.contains_iff_mem, ← KL_eq] at h
  exact ⟨List.mem_map_of_mem (f := (·.1)) h, by unfold failsOf; rw [fails_self _ h]; rfl⟩
/-- the ways in which a symbol fails, reckoned -/
def fN (c : Nat) : Nat := (bif c.testBit 0 then 43690 else 65535) &&& ((bif c.testBit 1 then 52428 else 65535) &&& ((bif c.testBit 2 then 61680 else 65535) &&& ((bif c.testBit 3 then 65280 else 65535) &&&
  ((bif c.testBit 4 then 21845 else 65535) &&& ((bif c.testBit 5 then 13107 else 65535) &&& ((bif c.testBit 6 then 3855 else 65535) &&& (bif c.testBit 7 then 255 else 65535)))))))
theorem key_fact : ((List.range 256).all fun c => !(c &&& c >>> 4 == 0) || KL.any fun p => p.1 == c && p.2 == fN c) = true := by decide +kernel
theorem cut_fact : (KL.all fun a => KL.all fun b => match cutOf a.1 b.1 with | none => true | some c => Nat.blt c 256 && (c &&& c >>> 4 == 0) && orN (fN c) (a.2 ||| b.2)) = true := by decide +kernel
theorem cut_self : (KL.all fun a => (cutOf a.1 a.1).isNone) = true := by decide +kernel
theorem cut_comm (a b : Nat) : cutOf a b = cutOf b a := by
  unfold cutOf
  have : clashOf a b = clashOf b a := by unfold clashOf; exact Nat.or_comm _ _
  rw [this, Nat.or_comm]
theorem sub_fact : (KL.all fun a => KL.all fun b => subN a.1 b.1 == orN b.2 a.2) = true := by decide +kernel
theorem keys_lt : (KL.all fun a => decide (a.1 < 256)) = true := by decide +kernel
theorem keys_nodup : (KL.map (·.1)).Nodup := by decide +kernel
theorem full_fact : (KL.all fun d => (List.range 4).any (fun i => !(d.1.testBit i) && !(d.1.testBit (i + 4))) || (List.range 16).any fun v => (d.2 == 2 ^ v) && KL.all fun s => !(s.2.testBit v) || subN s.1 d.1) = true := by decide +kernel
def cntN (d : Nat) : Nat := ((List.range 4).filter fun i => !(d.testBit i) && !(d.testBit (i + 4))).length
theorem split_fact : (KL.all fun d => (List.range 4).all fun i => d.1.testBit i || d.1.testBit (i + 4) || ((KL.any fun p => p.1 == d.1 + 2 ^ i && orN p.2 d.2) && (KL.any fun p => p.1 == d.1 + 2 ^ (i + 4) && orN p.2 d.2) && Nat.blt (cntN (d.1 + 2 ^ i)) (cntN d.1) && Nat.blt (cntN (d.1 + 2 ^ (i + 4))) (cntN d.1) &&
    KL.all fun y => !(subN y.1 (d.1 + 2 ^ i)) || subN y.1 d.1 || KL.all fun z => !(subN z.1 (d.1 + 2 ^ (i + 4))) || subN z.1 d.1 || match cutOf y.1 z.1 with | none => false | some c => subN c d.1)) = true := by decide +kernel
def chN (a : Nat) : Nat := if a.testBit 4 then a else a - a % 2
theorem chain_fact : (KL.all fun a => KL.all fun b => !(chN a.1 == chN b.1) || subN a.1 b.1 || subN b.1 a.1) = true := by decide +kernel
theorem chain_few : ∃ l : List Nat, l.length = 54 ∧ (KL.all fun a => l.contains (chN a.1)) = true := ⟨(KL.map fun a => chN a.1).eraseDups, by decide +kernel, by decide +kernel⟩
theorem down_fact : (KL.all fun x => (List.range 8).all fun i => !(x.1.testBit i) || ((KL.any fun p => p.1 == x.1 - 2 ^ i) && subN (x.1 - 2 ^ i) x.1 && !(x.1 - 2 ^ i == x.1))) = true := by decide +kernel
theorem up_fact : (KL.all fun x => KL.all fun y => !(subN y.1 x.1) || y.1 == x.1 || (List.range 8).any fun i => x.1.testBit i && subN y.1 (x.1 - 2 ^ i)) = true := by decide +kernel
theorem all_KL {P : Nat × Nat → Bool} (h : KL.all P = true) {a : Nat} (ha : a ∈ keysF) : P (a, failsOf a) = true := List.all_eq_true.mp h _ (mem_KL ha)
theorem key_lt {a : Nat} (h : a ∈ keysF) : a < 256 := by simpa using all_KL keys_lt h
theorem sub_iff {a b : Nat} (ha : a ∈ keysF) (hb : b ∈ keysF) : subN a b = orN (failsOf b) (failsOf a) := by
  simpa using all_KL (all_KL sub_fact ha) hb
theorem any_KL {P : Nat × Nat → Bool} (h : KL.any P = true) : ∃ a ∈ keysF, P (a, failsOf a) = true := by
  obtain ⟨p, hp, h2⟩ := List.any_eq_true.mp h
  obtain ⟨h3, h4⟩ := KL_mem (a := p.1) (b := p.2) (by rw [List.contains_iff_mem]; exact hp)
  exact ⟨p.1, h3, by rw [h4]; exact h2⟩
theorem cut_key {a b c : Nat} (ha : a ∈ keysF) (hb : b ∈ keysF) (h : cutOf a b = some c) : c ∈ keysF ∧ orN (failsOf c) (failsOf a ||| failsOf b) = true := by
  have := all_KL (all_KL cut_fact ha) hb
  simp only [h, Bool.and_eq_true] at this
  obtain ⟨⟨h1, h2⟩, h3⟩ := this
  have hk := List.all_eq_true.mp key_fact c (List.mem_range.mpr (Nat.le_of_ble_eq_true h1))
  rw [h2, Bool.not_true, Bool.false_or] at hk
  obtain ⟨x, hx, h4⟩ := any_KL hk
  simp only [Bool.and_eq_true, beq_iff_eq] at h4
  obtain ⟨rfl, h5⟩ := h4
  exact ⟨hx, h5 ▸ h3⟩
theorem len_le_of_nodup : ∀ {l l' : List Nat}, l.Nodup → (∀ x ∈ l, x ∈ l') → l.length ≤ l'.length
  | [], _, _, _ => Nat.zero_le _
  | x :: l, l', hn, h => by
    obtain ⟨h1, h2⟩ := List.nodup_cons.mp hn
    have hx := h x (.head _)
    have := len_le_of_nodup (l' := l'.erase x) h2 fun y hy => (List.mem_erase_of_ne (fun (e : y = x) => h1 (e ▸ hy))).mpr (h y (.tail _ hy))
    rw [List.length_erase_of_mem hx] at this
    have hp : 0 < l'.length := List.length_pos_of_mem hx
    rw [List.length_cons]; omega
/-- none is a part of another one -/
def Anti (l : List Nat) : Prop := l.Pairwise fun a b => subN a b = false ∧ subN b a = false
theorem anti_len {l : List Nat} (hk : ∀ x ∈ l, x ∈ keysF) (h : Anti l) : l.length ≤ 54 := by
  obtain ⟨l', h54, hl'⟩ := chain_few
  rw [← h54, ← List.length_map (f := chN)]
  refine len_le_of_nodup ?_ ?_
  · unfold List.Nodup
    rw [List.pairwise_map]
    refine List.Pairwise.imp_of_mem (fun {a b} ha hb hab e => ?_) h
    have := all_KL (all_KL chain_fact (hk a ha)) (hk b hb)
    rw [hab.1, hab.2, e] at this
    simp at this
  · intro x hx
    obtain ⟨a, ha, rfl⟩ := List.mem_map.mp hx
    have := all_KL hl' (hk a ha)
    rwa [List.contains_iff_mem] at this
theorem anti_nodup {l : List Nat} (h : Anti l) : l.Nodup := List.Pairwise.imp (fun {a b} hab e => by rw [e, subN_refl] at hab; exact absurd hab.1 (by decide)) h
theorem anti_eq {l : List Nat} (h : Anti l) {x y : Nat} (hx : x ∈ l) (hy : y ∈ l) (hs : subN x y = true) : x = y := by
  induction h with
  | nil => exact nomatch hx
  | cons hr _ ih =>
    rcases List.mem_cons.mp hx with e | hx2 <;> rcases List.mem_cons.mp hy with e2 | hy2
    · rw [e, e2]
    · have := (hr y hy2).1; rw [← e, hs] at this; cases this
    · have := (hr x hx2).2; rw [← e2, hs] at this; cases this
    · exact ih hx2 hy2
structure CInv (lost : Nat) (ns kept w : List Nat) : Prop where
  key : ∀ x ∈ kept, x ∈ keysF
  wkey : ∀ x ∈ w, x ∈ keysF
  anti : Anti kept
  sound : ∀ x ∈ kept, orN (failsOf x) lost = true
  wsound : ∀ x ∈ w, orN (failsOf x) lost = true
  orig : ∀ s ∈ ns, ∃ y, (y ∈ kept ∨ y ∈ w) ∧ subN y (s % 256) = true
  closed : ∀ a ∈ kept, ∀ b ∈ kept, ∀ c, cutOf a b = some c → ∃ y, (y ∈ kept ∨ y ∈ w) ∧ subN y c = true
theorem mem_subs {kept : List Nat} {new y : Nat} : y ∈ subs kept new ↔ y ∈ kept ∧ subN y new = true := by
  unfold subs subN
  rw [List.mem_filter]
theorem mem_keepOf {kept : List Nat} {new y : Nat} : y ∈ keepOf kept new ↔ y ∈ kept ∧ subN new y = false := by
  unfold keepOf subN
  rw [List.mem_filter]
  simp [Nat.and_comm]
theorem cinv_skip {lost ns kept w new} (I : CInv lost ns kept (w ++ [new])) (h : subs kept new ≠ []) : CInv lost ns kept w := by
  obtain ⟨z, hz⟩ := List.exists_mem_of_ne_nil _ h
  obtain ⟨hz1, hz2⟩ := mem_subs.mp hz
  have step : ∀ c, (∃ y, (y ∈ kept ∨ y ∈ w ++ [new]) ∧ subN y c = true) → ∃ y, (y ∈ kept ∨ y ∈ w) ∧ subN y c = true := by
    rintro c ⟨y, hy, hs⟩
    rcases hy with hy | hy
    · exact ⟨y, .inl hy, hs⟩
    · rcases List.mem_append.mp hy with hy | hy
      · exact ⟨y, .inr hy, hs⟩
      · rw [List.mem_singleton.mp hy] at hs
        exact ⟨z, .inl hz1, subN_trans hz2 hs⟩
  exact ⟨I.key, fun x hx => I.wkey x (List.mem_append_left _ hx), I.anti, I.sound, fun x hx => I.wsound x (List.mem_append_left _ hx), fun s hs => step _ (I.orig s hs), fun a ha b hb c hc => step _ (I.closed a ha b hb c hc)⟩
theorem cinv_add {lost ns kept w new} (I : CInv lost ns kept (w ++ [new])) (h : subs kept new = []) : CInv lost ns (keepOf kept new ++ [new]) (w ++ (keepOf kept new).filterMap (cutOf new)) := by
  have hnk : new ∈ keysF := I.wkey _ (List.mem_append_right _ (.head _))
  have hns : orN (failsOf new) lost = true := I.wsound _ (List.mem_append_right _ (.head _))
  have kk : ∀ {x}, x ∈ keepOf kept new → x ∈ keysF := fun hx => I.key _ (mem_keepOf.mp hx).1
  have ks : ∀ {x}, x ∈ keepOf kept new → orN (failsOf x) lost = true := fun hx => I.sound _ (mem_keepOf.mp hx).1
  have step : ∀ c, (∃ y, (y ∈ kept ∨ y ∈ w ++ [new]) ∧ subN y c = true) → ∃ y, (y ∈ keepOf kept new ++ [new] ∨ y ∈ w ++ (keepOf kept new).filterMap (cutOf new)) ∧ subN y c = true := by
    rintro c ⟨y, hy, hs⟩
    rcases hy with hy | hy
    · cases hn : subN new y with
      | false => exact ⟨y, .inl (List.mem_append_left _ (mem_keepOf.mpr ⟨hy, hn⟩)), hs⟩
      | true => exact ⟨new, .inl (List.mem_append_right _ (.head _)), subN_trans hn hs⟩
    · rcases List.mem_append.mp hy with hy | hy
      · exact ⟨y, .inr (List.mem_append_left _ hy), hs⟩
      · rw [List.mem_singleton.mp hy] at hs
        exact ⟨new, .inl (List.mem_append_right _ (.head _)), hs⟩
  have cw : ∀ {c}, c ∈ (keepOf kept new).filterMap (cutOf new) → ∃ b, b ∈ keepOf kept new ∧ cutOf new b = some c := fun hc => List.mem_filterMap.mp hc
  refine ⟨fun x hx => ?_, fun x hx => ?_, ?_, fun x hx => ?_, fun x hx => ?_, fun s hs => step _ (I.orig s hs), fun a ha b hb c hc => ?_⟩
  · rcases List.mem_append.mp hx with hx | hx
    · exact kk hx
    · rw [List.mem_singleton.mp hx]; exact hnk
  · rcases List.mem_append.mp hx with hx | hx
    · exact I.wkey _ (List.mem_append_left _ hx)
    · obtain ⟨b, hb, hc⟩ := cw hx
      exact (cut_key hnk (kk hb) hc).1
  · unfold Anti
    rw [List.pairwise_append]
    refine ⟨I.anti.sublist List.filter_sublist, List.pairwise_singleton _ _, fun a ha b hb => ?_⟩
    rw [List.mem_singleton.mp hb]
    refine ⟨?_, (mem_keepOf.mp ha).2⟩
    cases q : subN a new with
    | false => rfl
    | true =>
      have := mem_subs.mpr ⟨(mem_keepOf.mp ha).1, q⟩
      rw [h] at this
      exact nomatch this
  · rcases List.mem_append.mp hx with hx | hx
    · exact ks hx
    · rw [List.mem_singleton.mp hx]; exact hns
  · rcases List.mem_append.mp hx with hx | hx
    · exact I.wsound _ (List.mem_append_left _ hx)
    · obtain ⟨b, hb, hc⟩ := cw hx
      exact orN_trans (cut_key hnk (kk hb) hc).2 (orN_or hns (ks hb))
  · rcases List.mem_append.mp ha with ha | ha <;> rcases List.mem_append.mp hb with hb | hb
    · exact step _ (I.closed a (mem_keepOf.mp ha).1 b (mem_keepOf.mp hb).1 c hc)
    · rw [List.mem_singleton.mp hb, cut_comm] at hc
      exact ⟨c, .inr (List.mem_append_right _ (List.mem_filterMap.mpr ⟨a, ha, hc⟩)), subN_refl _⟩
    · rw [List.mem_singleton.mp ha] at hc
      exact ⟨c, .inr (List.mem_append_right _ (List.mem_filterMap.mpr ⟨b, hb, hc⟩)), subN_refl _⟩
    · rw [List.mem_singleton.mp ha, List.mem_singleton.mp hb] at hc
      have := all_KL cut_self hnk
      dsimp only at this
      rw [hc] at this
      cases this
/-- how many sequents have a part among those kept -/
def upN (kept : List Nat) : Nat := (keysF.filter fun d => kept.any fun y => subN y d).length
theorem upN_le (kept : List Nat) : upN kept ≤ 81 := by
  have h : keysF.length = 81 := by unfold keysF; rw [List.length_map, fails_len]
  rw [← h]; exact List.length_filter_le _ _
theorem filter_lt {p q : Nat → Bool} {x : Nat} : ∀ {l : List Nat}, (∀ y, p y = true → q y = true) → x ∈ l → p x = false → q x = true → (l.filter p).length < (l.filter q).length
  | [], _, hx, _, _ => nomatch hx
  | y :: l, h, hx, hp, hq => by
    have le : ∀ l : List Nat, (l.filter p).length ≤ (l.filter q).length := by
      intro l
      induction l with
      | nil => exact Nat.le_refl _
      | cons z l ih =>
        rw [List.filter_cons, List.filter_cons]
        cases hz : p z with
        | true => rw [h z hz]; simpa using ih
        | false => cases q z <;> simp <;> omega
    rw [List.filter_cons, List.filter_cons]
    rcases List.mem_cons.mp hx with rfl | hx
    · rw [hp, hq]
      have := le l
      simp; omega
    · have := filter_lt h hx hp hq
      cases hz : p y with
      | true => rw [h y hz]; simpa using this
      | false => cases q y <;> simp <;> omega
theorem upN_lt {kept : List Nat} {new : Nat} (hn : new ∈ keysF) (h : subs kept new = []) : upN kept < upN (keepOf kept new ++ [new]) := by
  unfold upN
  refine filter_lt (x := new) (fun d hd => ?_) hn ?_ ?_
  · obtain ⟨y, hy, hs⟩ := List.any_eq_true.mp hd
    refine List.any_eq_true.mpr ?_
    cases q : subN new y with
    | false => exact ⟨y, List.mem_append_left _ (mem_keepOf.mpr ⟨hy, q⟩), hs⟩
    | true => exact ⟨new, List.mem_append_right _ (.head _), subN_trans q hs⟩
  · rw [List.any_eq_false]
    intro y hy hs
    have := mem_subs.mpr ⟨hy, hs⟩
    rw [h] at this
    exact nomatch this
  · exact List.any_eq_true.mpr ⟨new, List.mem_append_right _ (.head _), subN_refl _⟩
theorem cut_run (lost : Nat) (ns : List Nat) : ∀ N kept w, CInv lost ns kept w → (81 - upN kept) * 100 + w.length ≤ N → N ≤ 100000 → ∃ fin, CutRun N kept w fin ∧ CInv lost ns fin [] := by
  intro N
  induction N with
  | zero =>
    intro kept w I h _
    have : w = [] := List.eq_nil_of_length_eq_zero (by omega)
    subst this
    exact ⟨kept, .done (fun x hx => key_lt (I.key x hx)) (Nat.le_trans (anti_len I.key I.anti) (by decide)), I⟩
  | succ N ih =>
    intro kept w I h hN
    have h60 : kept.length ≤ 60 := Nat.le_trans (anti_len I.key I.anti) (by decide)
    have h256 : ∀ x ∈ kept, x < 256 := fun x hx => key_lt (I.key x hx)
    rcases List.eq_nil_or_concat w with rfl | ⟨w', new, e⟩
    · exact ⟨kept, .done h256 h60, I⟩
    · rw [List.concat_eq_append] at e
      subst e
      have hn := I.wkey new (List.mem_append_right _ (.head _))
      rw [List.length_append, List.length_singleton] at h
      by_cases hs : subs kept new = []
      · have hlt := upN_lt hn hs
        have hle := upN_le (keepOf kept new ++ [new])
        have hfl : ((keepOf kept new).filterMap (cutOf new)).length ≤ 60 := by
          refine Nat.le_trans (List.length_filterMap_le _ _) (Nat.le_trans ?_ h60)
          unfold keepOf; exact List.length_filter_le _ _
        obtain ⟨fin, h1, h2⟩ := ih _ _ (cinv_add I hs) (by rw [List.length_append]; omega) (by omega)
        exact ⟨fin, .add h256 h60 (key_lt hn) (by omega) hs h1, h2⟩
      · obtain ⟨fin, h1, h2⟩ := ih _ _ (cinv_skip I hs) (by omega) (by omega)
        exact ⟨fin, .skip h256 h60 (key_lt hn) (by omega) hs h1, h2⟩
theorem lost_has (v : Nat) : ∀ (ns : List Nat) (a : Nat), (ns.foldl (fun l s => l ||| failsOf (s % 256)) a).testBit v = true → a.testBit v = true ∨ ∃ s ∈ ns, (failsOf (s % 256)).testBit v = true
  | [], _, h => .inl h
  | s :: ns, a, h => by
    rcases lost_has v ns _ h with h | ⟨s', h1, h2⟩
    · rw [Nat.testBit_or, Bool.or_eq_true] at h
      rcases h with h | h
      · exact .inl h
      · exact .inr ⟨s, .head _, h⟩
    · exact .inr ⟨s', .tail _ h1, h2⟩
theorem lost_self : ∀ (ns : List Nat) (a s : Nat), s ∈ ns → orN (failsOf (s % 256)) (ns.foldl (fun l s => l ||| failsOf (s % 256)) a) = true := by
  have up : ∀ (ns : List Nat) (a : Nat), orN a (ns.foldl (fun l s => l ||| failsOf (s % 256)) a) = true := by
    intro ns
    induction ns with
    | nil => intro a; simp [orN]
    | cons s ns ih =>
      intro a
      refine orN_trans ?_ (ih _)
      simp [orN, ← Nat.or_assoc]
  intro ns
  induction ns with
  | nil => intro a s h; exact nomatch h
  | cons x ns ih =>
    intro a s h
    rcases List.mem_cons.mp h with rfl | h
    · refine orN_trans ?_ (up ns _)
      unfold orN
      dsimp only
      rw [beq_iff_eq, Nat.or_comm a, ← Nat.or_assoc, Nat.or_self]
    · exact ih _ s h
theorem cut_base {ns fin : List Nat} (I : CInv (lostOf ns) ns fin []) (hns : ∀ s ∈ ns, s % 256 ∈ keysF) (d : Nat) (hd : d ∈ keysF) (hl : orN (failsOf d) (lostOf ns) = true) (hq : (List.range 4).any (fun i => !(d.testBit i) && !(d.testBit (i + 4))) = false) : ∃ y ∈ fin, subN y d = true := by
  have := all_KL full_fact hd
  dsimp only at this
  rw [hq, Bool.false_or] at this
  obtain ⟨v, hv, h2⟩ := List.any_eq_true.mp this
  simp only [Bool.and_eq_true, beq_iff_eq] at h2
  have hb : (lostOf ns).testBit v = true := by
    unfold orN at hl
    rw [beq_iff_eq, h2.1] at hl
    rw [← hl, Nat.testBit_or, Nat.testBit_two_pow_self, Bool.true_or]
  unfold lostOf at hb
  rcases lost_has v ns 0 hb with h | ⟨s, hs, hsv⟩
  · simp at h
  · have h3 := all_KL h2.2 (hns s hs)
    dsimp only at h3
    rw [hsv] at h3
    obtain ⟨y, hy, hys⟩ := I.orig s hs
    rcases hy with hy | hy
    · exact ⟨y, hy, subN_trans hys (by simpa using h3)⟩
    · exact nomatch hy
theorem cut_complete {ns fin : List Nat} (I : CInv (lostOf ns) ns fin []) (hns : ∀ s ∈ ns, s % 256 ∈ keysF) : ∀ (k : Nat) (d : Nat), d ∈ keysF → cntN d ≤ k → orN (failsOf d) (lostOf ns) = true → ∃ y ∈ fin, subN y d = true := by
  intro k
  induction k with
  | zero => 
    intro d hd h0 hl
    exact cut_base I hns d hd hl (by
      rw [List.any_eq_false]
      intro i hi hq
      have : i ∈ (List.range 4).filter fun i => !(d.testBit i) && !(d.testBit (i + 4)) := List.mem_filter.mpr ⟨hi, hq⟩
      have := List.length_pos_of_mem this
      unfold cntN at h0
      omega)
  | succ k ih =>
    intro d hd hk hl
    cases q : (List.range 4).any (fun i => !(d.testBit i) && !(d.testBit (i + 4))) with
    | false => exact cut_base I hns d hd hl q
    | true =>
      obtain ⟨i, hi, hq⟩ := List.any_eq_true.mp q
      have := List.all_eq_true.mp (all_KL split_fact hd) i hi
      simp only [Bool.and_eq_true, Bool.not_eq_true'] at hq
      dsimp only at this
      rw [hq.1, hq.2] at this
      simp only [Bool.false_or, Bool.and_eq_true] at this
      obtain ⟨⟨⟨⟨a1, a2⟩, a3⟩, a4⟩, a5⟩ := this
      obtain ⟨x1, hx1, e1⟩ := any_KL a1
      obtain ⟨x2, hx2, e2⟩ := any_KL a2
      simp only [Bool.and_eq_true, beq_iff_eq] at e1 e2
      obtain ⟨rfl, e1⟩ := e1
      obtain ⟨rfl, e2⟩ := e2
      have b3 := Nat.lt_of_lt_of_le (Nat.blt_eq.mp a3) hk
      have b4 := Nat.lt_of_lt_of_le (Nat.blt_eq.mp a4) hk
      obtain ⟨y, hy, hys⟩ := ih _ hx1 (Nat.le_of_lt_succ b3) (orN_trans e1 hl)
      obtain ⟨z, hz, hzs⟩ := ih _ hx2 (Nat.le_of_lt_succ b4) (orN_trans e2 hl)
      have a6 := all_KL a5 (I.key y hy)
      dsimp only at a6
      rw [hys] at a6
      cases q1 : subN y d with
      | true => exact ⟨y, hy, q1⟩
      | false =>
        rw [q1] at a6
        simp only [Bool.not_true, Bool.false_or] at a6
        have a7 := all_KL a6 (I.key z hz)
        dsimp only at a7
        rw [hzs] at a7
        cases q2 : subN z d with
        | true => exact ⟨z, hz, q2⟩
        | false =>
          rw [q2] at a7
          simp only [Bool.not_true, Bool.false_or] at a7
          cases q3 : cutOf y z with
          | none => rw [q3] at a7; cases a7
          | some c =>
            rw [q3] at a7
            obtain ⟨u, hu, hus⟩ := I.closed y hy z hz c q3
            rcases hu with hu | hu
            · exact ⟨u, hu, subN_trans hus a7⟩
            · exact nomatch hu
theorem perm_of_nodup {l l' : List Nat} (h : l.Nodup) (h' : l'.Nodup) (hm : ∀ x, x ∈ l ↔ x ∈ l') : l.Perm l' := by
  rw [List.perm_iff_count]
  intro a
  rw [h.count, h'.count]
  simp only [hm]
theorem least_mem {lost x : Nat} : x ∈ leastF lost ↔ x ∈ keysF ∧ orN (failsOf x) lost = true ∧ ∀ i < 8, x.testBit i = true → orN (failsOf (x - 2 ^ i)) lost = false := by
  unfold leastF
  constructor
  · intro h
    obtain ⟨p, hp, rfl⟩ := List.mem_map.mp h
    obtain ⟨hp1, hp2⟩ := List.mem_filter.mp hp
    unfold leastP at hp2
    rw [Bool.and_eq_true, List.isEmpty_iff] at hp2
    refine ⟨List.mem_map_of_mem (f := (·.1)) hp1, hp2.1, fun i hi hb => ?_⟩
    cases q : orN (failsOf (p.1 - 2 ^ i)) lost with
    | false => rfl
    | true =>
      have : i ∈ (List.range 8).filter fun i => p.1.testBit i && impl lost (p.1 - 2 ^ i) := List.mem_filter.mpr ⟨List.mem_range.mpr hi, by rw [hb]; exact q⟩
      rw [hp2.2] at this
      exact nomatch this
  · rintro ⟨h1, h2, h3⟩
    obtain ⟨p, hp, rfl⟩ := List.mem_map.mp h1
    refine List.mem_map_of_mem (f := (·.1)) (List.mem_filter.mpr ⟨hp, ?_⟩)
    unfold leastP
    rw [Bool.and_eq_true, List.isEmpty_iff]
    refine ⟨h2, ?_⟩
    rw [List.filter_eq_nil_iff]
    intro i hi hq
    rw [Bool.and_eq_true] at hq
    have := h3 i (List.mem_range.mp hi) hq.1
    unfold orN at this
    unfold impl at hq
    rw [this] at hq
    exact absurd hq.2 (by decide)
theorem cuts_ok (ns : List Nat) (h5 : ns.length = 5) (hns : ∀ s ∈ ns, (FAILS.lookup (s % 256)).isSome = true) : ∃ N fin, CutRun N [] (ns.map (· % 256)) fin ∧ fin.Perm (leastF (lostOf ns)) ∧ (leastF (lostOf ns)).length < 64 := by
  have hk : ∀ s ∈ ns, s % 256 ∈ keysF := fun s hs => (keys_isSome _).mpr (hns s hs)
  have I0 : CInv (lostOf ns) ns [] (ns.map (· % 256)) := by
    refine ⟨fun x hx => (nomatch hx), fun x hx => ?_, .nil, fun x hx => (nomatch hx), fun x hx => ?_, fun s hs => ⟨s % 256, .inr (List.mem_map_of_mem hs), subN_refl _⟩, fun a ha => (nomatch ha)⟩
    · obtain ⟨s, hs, rfl⟩ := List.mem_map.mp hx
      exact hk s hs
    · obtain ⟨s, hs, rfl⟩ := List.mem_map.mp hx
      exact lost_self ns 0 s hs
  obtain ⟨fin, hr, I⟩ := cut_run (lostOf ns) ns 10000 [] (ns.map (· % 256)) I0 (by rw [List.length_map, h5]; omega) (by decide)
  have hp : fin.Perm (leastF (lostOf ns)) := by
    refine perm_of_nodup (anti_nodup I.anti) ?_ fun x => ?_
    · have h1 : ((FAILS.filter (leastP (lostOf ns))).map (·.1)).Sublist (FAILS.map (·.1)) := List.filter_sublist.map _
      refine List.Nodup.sublist h1 ?_
      rw [KL_eq]; exact keys_nodup
    · rw [least_mem]
      constructor
      · intro hx
        have hxk := I.key x hx
        refine ⟨hxk, I.sound x hx, fun i hi hb => ?_⟩
        cases q : orN (failsOf (x - 2 ^ i)) (lostOf ns) with
        | false => rfl
        | true =>
          have := List.all_eq_true.mp (all_KL down_fact hxk) i (List.mem_range.mpr hi)
          dsimp only at this
          rw [hb] at this
          simp only [Bool.not_true, Bool.false_or, Bool.and_eq_true, Bool.not_eq_true', beq_eq_false_iff_ne] at this
          obtain ⟨⟨a1, a2⟩, a3⟩ := this
          obtain ⟨z, hz, e⟩ := any_KL a1
          have e' : z = x - 2 ^ i := by simpa using e
          subst e'
          obtain ⟨y, hy, hs⟩ := cut_complete I hk _ _ hz (Nat.le_refl _) q
          have := anti_eq I.anti hy hx (subN_trans hs a2)
          rw [this] at hs
          exact absurd (subN_antisymm a2 hs) a3
      · rintro ⟨hxk, h2, h3⟩
        obtain ⟨y, hy, hs⟩ := cut_complete I hk _ x hxk (Nat.le_refl _) h2
        have := all_KL (all_KL up_fact hxk) (I.key y hy)
        dsimp only at this
        rw [hs] at this
        simp only [Bool.not_true, Bool.false_or, Bool.or_eq_true, beq_iff_eq] at this
        rcases this with rfl | this
        · exact hy
        · obtain ⟨i, hi, hq⟩ := List.any_eq_true.mp this
          rw [Bool.and_eq_true] at hq
          have hi8 := List.mem_range.mp hi
          have := List.all_eq_true.mp (all_KL down_fact hxk) i hi
          dsimp only at this
          rw [hq.1] at this
          simp only [Bool.not_true, Bool.false_or, Bool.and_eq_true] at this
          obtain ⟨z, hz, e⟩ := any_KL this.1.1
          have e' : z = x - 2 ^ i := by simpa using e
          subst e'
          have h4 := h3 i hi8 hq.1
          rw [orN_trans (sub_iff (I.key y hy) hz ▸ hq.2) (I.sound y hy)] at h4
          cases h4
  refine ⟨10000, fin, hr, hp, ?_⟩
  rw [← hp.length_eq]
  exact Nat.lt_of_le_of_lt (anti_len I.key I.anti) (by decide)
end Mine

namespace Mine
open PySem PySem.W PyProof.Rows PySem.Calls PyProof.V PySem.Spec
/-! the page, read back -/
theorem lookup_mem {α β : Type} [BEq α] [LawfulBEq α] {k : α} {v : β} : ∀ {l : List (α × β)}, l.lookup k = some v → (k, v) ∈ l
  | [], h => by simp at h
  | (a, b) :: l, h => by
    rw [List.lookup_cons] at h
    cases e : k == a with
    | true => rw [e] at h; simp only [Option.some.injEq] at h; subst h; rw [eq_of_beq e]; exact .head _
    | false => rw [e] at h; exact .tail _ (lookup_mem h)
def tokK (p : List Nat) : List Nat × PyData → Bool := fun q => q.1 == p
theorem tok_fact : (tokL.all fun p => (p.1.cps.toList.tail.all fun x => x != 38) && (p.1.cps.toList.head? != some 59 || p.1.cps.toList == [59]) && (p.1.cps.toList.head? != some 38 || p.1.cps.toList == [38] || p.1.cps.toList == [38, 61]) && match p.2 with | .int k => k != 19 || p.1.cps.toList == [38] | _ => false) = true := by decide +kernel
theorem tok_in {p : List Nat} (h : inTok p = true) : ∃ k : Int, tokL.lookup (tx p) = some (.int k) ∧ (∀ x ∈ p.tail, x ≠ 38) ∧ (p.head? = some 59 → p = [59]) ∧ (p.head? = some 38 → p = [38] ∨ p = [38, 61]) ∧ (k = 19 → p = [38]) := by
  unfold inTok at h
  obtain ⟨v, hv⟩ := Option.isSome_iff_exists.mp h
  have := List.all_eq_true.mp tok_fact _ (lookup_mem hv)
  have e : (tx p).cps.toList = p := by simp [tx]
  simp only [e, Bool.and_eq_true, Bool.or_eq_true, bne_iff_ne, ne_eq, beq_iff_eq, List.all_eq_true] at this
  obtain ⟨⟨⟨h1, h2⟩, h3⟩, h4⟩ := this
  cases v with
  | int k =>
    simp only [Bool.or_eq_true, bne_iff_ne, ne_eq, beq_iff_eq] at h4
    exact ⟨k, hv, h1, fun q => h2.resolve_left fun f => f q, fun q => by
      rcases h3 with (h3 | h3) | h3
      · exact absurd q h3
      · exact .inl h3
      · exact .inr h3, fun q => h4.resolve_left fun f => f q⟩
  | _ => simp at h4
theorem tok_of (c : Nat) (l : List Nat) (h : inTok [c] = true) : ∃ u v, tokOf (c :: l) = c :: u ∧ l = u ++ v ∧ inTok (c :: u) = true := by
  unfold tokOf
  match l with
  | [] => exact ⟨[], [], by simp [cutN, h], rfl, h⟩
  | [a] =>
    by_cases h2 : inTok [c, a] = true
    · exact ⟨[a], [], by simp [cutN, h2], rfl, h2⟩
    · exact ⟨[], [a], by simp [cutN, h2, h], rfl, h⟩
  | a :: b :: r =>
    by_cases h3 : inTok [c, a, b] = true
    · exact ⟨[a, b], r, by simp [cutN, h3], rfl, h3⟩
    · by_cases h2 : inTok [c, a] = true
      · exact ⟨[a], b :: r, by simp [cutN, h3, h2], rfl, h2⟩
      · exact ⟨[], a :: b :: r, by simp [cutN, h3, h2, h], rfl, h⟩
theorem in_amp : inTok [38] = true := by decide +kernel
theorem in_semi : inTok [59] = true := by decide +kernel
theorem pcs_semi {l ps} (h : Pcs l ps) : Pcs (59 :: l) ([] :: [59] :: ps) := by
  obtain ⟨u, v, e, _, hi⟩ := tok_of 59 l in_semi
  obtain ⟨k, _, _, h59, _⟩ := tok_in hi
  have hu := h59 rfl
  have := Pcs.op (c := 59) (r := l) (ps := ps) in_semi (by rw [e, hu]; exact h)
  rwa [e, hu] at this
theorem pcs_amp {a l ps} (ha : a ≠ 61) (h : Pcs (a :: l) ps) : Pcs (38 :: a :: l) ([] :: [38] :: ps) := by
  obtain ⟨u, v, e, e2, hi⟩ := tok_of 38 (a :: l) in_amp
  obtain ⟨k, _, _, _, h38, _⟩ := tok_in hi
  have hu : 38 :: u = [38] := by
    rcases h38 rfl with q | q
    · exact q
    · rw [List.cons.injEq] at q
      rw [q.2] at e2
      simp only [List.cons_append, List.cons.injEq] at e2
      exact absurd e2.1 ha
  have := Pcs.op (c := 38) (r := a :: l) (ps := ps) in_amp (by rw [e, hu]; exact h)
  rwa [e, hu] at this
theorem pcs_name {l p ps} : ∀ name : List Nat, (∀ x ∈ name, inTok [x] = false) → Pcs l (p :: ps) → Pcs (name ++ l) ((name ++ p) :: ps)
  | [], _, h => h
  | x :: name, hx, h => .ch (hx x (.head _)) (pcs_name name (fun y hy => hx y (.tail _ hy)) h)
theorem tab_fact : ((List.range 5).all fun h => ((spellTab h).any fun p => p.1 == 38) && (spellTab h).all fun p => p.2 == 38 :: (p.2.tail.dropLast ++ [59]) && (signL.lookup p.2.tail.dropLast == some p.1) && (p.2.tail.dropLast.all fun x => !inTok [x]) && (p.2.tail.dropLast.head?.any fun x => x != 61)) = true := by decide +kernel
theorem esc_cases (h : Nat) (h5 : h < 5) (c : Nat) : (tabF (spellTab h) c = [c] ∧ c ≠ 38) ∨ ∃ a b, tabF (spellTab h) c = 38 :: ((a :: b) ++ [59]) ∧ signL.lookup (a :: b) = some c ∧ (∀ x ∈ a :: b, inTok [x] = false) ∧ a ≠ 61 := by
  have := List.all_eq_true.mp tab_fact h (List.mem_range.mpr h5)
  rw [Bool.and_eq_true] at this
  obtain ⟨h1, h2⟩ := this
  unfold tabF
  cases q : (spellTab h).lookup c with
  | none =>
    refine .inl ⟨rfl, fun e => ?_⟩
    subst e
    obtain ⟨p, hp, e⟩ := List.any_eq_true.mp h1
    rw [List.lookup_eq_none_iff] at q
    have := q p hp
    rw [eq_of_beq e] at this
    simp at this
  | some z =>
    have := List.all_eq_true.mp h2 _ (lookup_mem q)
    simp only [Bool.and_eq_true, beq_iff_eq] at this
    obtain ⟨⟨⟨e1, e2⟩, e3⟩, e4⟩ := this
    refine .inr ?_
    generalize z.tail.dropLast = name at *
    cases name with
    | nil => simp at e4
    | cons a b =>
      refine ⟨a, b, e1, e2, fun x hx => ?_, by simpa using e4⟩
      simpa using List.all_eq_true.mp e3 x hx
theorem flat_prefix (h : Nat) (h5 : h < 5) : ∀ (u v r : List Nat), (∀ x ∈ u, x ≠ 38) → flatT (spellTab h) r = u ++ v → ∃ r', r = u ++ r' ∧ flatT (spellTab h) r' = v
  | [], v, r, _, e => ⟨r, rfl, e⟩
  | x :: u, v, [], _, e => by simp [flatT] at e
  | x :: u, v, y :: r, hx, e => by
    rw [flatT_cons] at e
    rcases esc_cases h h5 y with ⟨e1, _⟩ | ⟨a, b, e1, _⟩
    · rw [e1] at e
      simp only [List.cons_append, List.nil_append, List.cons.injEq] at e
      obtain ⟨rfl, e⟩ := e
      obtain ⟨r', rfl, e3⟩ := flat_prefix h h5 u v r (fun z hz => hx z (.tail _ hz)) e
      exact ⟨r', rfl, e3⟩
    · rw [e1] at e
      simp only [List.cons_append, List.cons.injEq] at e
      exact absurd e.1.symm (hx x (.head _))
theorem unwrite_go (h : Nat) (h5 : h < 5) : ∀ (n : Nat) (t : List Nat), t.length ≤ n → ∃ w ps out, Pcs (flatT (spellTab h) t) (w :: ps) ∧ Unw ps out ∧ w ++ out = t := by
  intro n
  induction n with
  | zero =>
    intro t ht
    have : t = [] := List.eq_nil_of_length_eq_zero (by omega)
    subst this
    exact ⟨[], [], [], .nil, .nil, rfl⟩
  | succ n ih =>
    intro t ht
    cases t with
    | nil => exact ⟨[], [], [], .nil, .nil, rfl⟩
    | cons c r =>
      rw [List.length_cons] at ht
      rw [flatT_cons]
      rcases esc_cases h h5 c with ⟨e, hc⟩ | ⟨a, b, e, hs, hn, ha⟩
      · rw [e]
        cases q : inTok [c] with
        | false =>
          obtain ⟨w, ps, out, h1, h2, h3⟩ := ih r (by omega)
          exact ⟨c :: w, ps, out, .ch q h1, h2, by rw [← h3]; rfl⟩
        | true =>
          obtain ⟨u, v, e1, e2, hi⟩ := tok_of c (flatT (spellTab h) r) q
          obtain ⟨k, hk, hx, _, _, h19⟩ := tok_in hi
          obtain ⟨r', rfl, e3⟩ := flat_prefix h h5 u v r hx e2
          obtain ⟨w, ps, out, h1, h2, h3⟩ := ih r' (by rw [List.length_append] at ht; omega)
          refine ⟨[], (c :: u) :: w :: ps, (c :: u) ++ w ++ out, ?_, .plain k hk (fun e => hc ?_) h2, ?_⟩
          · have := Pcs.op (c := c) (r := flatT (spellTab h) (u ++ r')) (ps := w :: ps) q (by
              rw [e1, e2]
              simpa [e3] using h1)
            rwa [e1] at this
          · have := h19 e
            simp at this
            exact this.1
          · rw [List.nil_append, List.append_assoc, h3]; rfl
      · rw [e]
        obtain ⟨w, ps, out, h1, h2, h3⟩ := ih r (by omega)
        refine ⟨[], [38] :: (a :: b) :: [59] :: w :: ps, c :: (w ++ out), ?_, .ent hs h2, by rw [h3]; rfl⟩
        have h4 := pcs_name (a :: b) hn (pcs_semi h1)
        rw [List.append_nil] at h4
        have h5 := pcs_amp ha h4
        simpa using h5
theorem unwrite_ok (h : Nat) (h5 : h < 5) (t : List Nat) : ∃ first ps out, Pcs (flatT (spellTab h) t) (first :: ps) ∧ Unw ps out ∧ first ++ out = t := unwrite_go h h5 t.length t (Nat.le_refl _)
theorem pcs_count {l ps} (h : Pcs l ps) : ps.length ≤ 2 * l.length + 1 := by
  induction h with
  | nil => exact Nat.le_refl _
  | @op c r ps hi _ ih =>
    obtain ⟨u, v, e, e2, _⟩ := tok_of c r hi
    rw [e, e2] at ih
    simp only [List.length_cons, List.length_drop, List.length_append] at ih ⊢
    rw [e2, List.length_append]
    omega
  | ch _ _ ih => simp only [List.length_cons] at ih ⊢; omega
theorem flat_chars (h : Nat) (h5 : h < 5) {t : List Nat} (ht : ∀ c ∈ t, c ≠ 34 ∧ c ≠ 10 ∧ c ≠ 9) : ∀ c ∈ flatT (spellTab h) t, c ≠ 34 ∧ c ≠ 10 ∧ c ≠ 9 := by
  have tf : ((List.range 5).all fun h => (spellTab h).all fun p => p.2.all fun c => c != 34 && c != 10 && c != 9) = true := by decide +kernel
  induction t with
  | nil => intro c hc; simp [flatT] at hc
  | cons x t ih =>
    intro c hc
    rw [flatT_cons] at hc
    rcases List.mem_append.mp hc with hc | hc
    · unfold tabF at hc
      cases q : (spellTab h).lookup x with
      | none => rw [q] at hc; rw [List.mem_singleton.mp hc]; exact ht x (.head _)
      | some z =>
        rw [q] at hc
        have := List.all_eq_true.mp (List.all_eq_true.mp (List.all_eq_true.mp tf h (List.mem_range.mpr h5)) _ (lookup_mem q)) c hc
        simpa [and_assoc] using this
    · exact ih (fun y hy => ht y (.tail _ hy)) c hc
theorem write_spell (h : Nat) (h5 : h < 5) (l : List Nat) (hl : ∀ c ∈ l, c ≠ 34 ∧ c ≠ 10 ∧ c ≠ 9) : flatT (writeTab h) l = flatT (spellTab h) l ∧ ∀ c ∈ flatT (spellTab h) l, c ≠ 34 ∧ c ≠ 10 ∧ c ≠ 9 := by
  refine ⟨?_, flat_chars h h5 hl⟩
  induction l with
  | nil => rfl
  | cons x l ih =>
    rw [flatT_cons, flatT_cons, ih fun y hy => hl y (.tail _ hy)]
    congr 1
    obtain ⟨n1, n2, n3⟩ := hl x (.head _)
    have h' : h = 0 ∨ h = 1 ∨ h = 2 ∨ h = 3 ∨ h = 4 := by omega
    by_cases c1 : x = 38
    · subst c1; rcases h' with rfl | rfl | rfl | rfl | rfl <;> decide +kernel
    by_cases c2 : x = 60
    · subst c2; rcases h' with rfl | rfl | rfl | rfl | rfl <;> decide +kernel
    by_cases c3 : x = 62
    · subst c3; rcases h' with rfl | rfl | rfl | rfl | rfl <;> decide +kernel
    by_cases c4 : x = 13
    · subst c4; rcases h' with rfl | rfl | rfl | rfl | rfl <;> decide +kernel
    have n34 : (x == 34) = false := beq_eq_false_iff_ne.mpr n1
    have n10 : (x == 10) = false := beq_eq_false_iff_ne.mpr n2
    have n9 : (x == 9) = false := beq_eq_false_iff_ne.mpr n3
    have n38 : (x == 38) = false := beq_eq_false_iff_ne.mpr c1
    have n60 : (x == 60) = false := beq_eq_false_iff_ne.mpr c2
    have n62 : (x == 62) = false := beq_eq_false_iff_ne.mpr c3
    have n13 : (x == 13) = false := beq_eq_false_iff_ne.mpr c4
    rcases h' with rfl | rfl | rfl | rfl | rfl <;> simp [tabF, writeTab, spellTab, tab_cdata, tab_attrib, tab_attrib_html, tab_cdata_c14n, tab_attrib_c14n, tabS0, tabS1, tabS2, tabS3, tabS4, List.lookup, n34, n10, n9, n38, n60, n62, n13]
end Mine

namespace Mine
open PySem PySem.W PyProof.Rows PySem.Calls PyProof.V PySem.Spec
/-! the lines, read by the operators -/
def WL : List (List Nat) := [[79, 80, 84, 73, 77, 73, 90, 69, 68], [78, 69, 87, 76, 79, 67, 65, 76, 83], [86, 65, 82, 65, 82, 71, 83], [86, 65, 82, 75, 69, 89, 87, 79, 82, 68, 83], [78, 69, 83, 84, 69, 68], [71, 69, 78, 69, 82, 65, 84, 79, 82], [78, 79, 70, 82, 69, 69], [67, 79, 82, 79, 85, 84, 73, 78, 69], [73, 84, 69, 82, 65, 66, 76, 69, 95, 67, 79, 82, 79, 85, 84, 73, 78, 69], [65, 83, 89, 78, 67, 95, 71, 69, 78, 69, 82, 65, 84, 79, 82], [48, 120, 52, 48, 48], [48, 120, 56, 48, 48], [48, 120, 49, 48, 48, 48], [48, 120, 50, 48, 48, 48], [48, 120, 52, 48, 48, 48], [48, 120, 56, 48, 48, 48], [48, 120, 49, 48, 48, 48, 48], [48, 120, 50, 48, 48, 48, 48], [48, 120, 52, 48, 48, 48, 48], [48, 120, 56, 48, 48, 48, 48], [48, 120, 49, 48, 48, 48, 48, 48], [48, 120, 50, 48, 48, 48, 48, 48], [48, 120, 52, 48, 48, 48, 48, 48], [48, 120, 56, 48, 48, 48, 48, 48], [48, 120, 49, 48, 48, 48, 48, 48, 48], [48, 120, 50, 48, 48, 48, 48, 48, 48], [48, 120, 52, 48, 48, 48, 48, 48, 48], [48, 120, 56, 48, 48, 48, 48, 48, 48], [48, 120, 49, 48, 48, 48, 48, 48, 48, 48], [48, 120, 50, 48, 48, 48, 48, 48, 48, 48], [48, 120, 52, 48, 48, 48, 48, 48, 48, 48], [48, 120, 56, 48, 48, 48, 48, 48, 48, 48]]
def wN (k : Nat) : List Nat := WL.getD k []
theorem wordW_tx : ∀ k, k < 32 → wordW k = tx (wN k) := by decide +kernel
theorem wordF_tx : ∀ k, k < 32 → wordF k = tx (wN k) := by decide +kernel
theorem wN_len : ∀ k, k < 32 → (wN k).length ≤ 20 := by decide +kernel
theorem wN_ok : ∀ k, k < 32 → PyData.strOk (tx (wN k)) = true := by decide +kernel
def okC (c : Nat) : Bool := !inTok [c] && c != 34 && c != 10 && c != 9
theorem wN_ch : ∀ k, k < 32 → (wN k).all okC = true := by decide +kernel
def blanks : List (List Nat) := [[], [32], [13]]
theorem wN_strip : ∀ k, k < 32 → (blanks.all fun p => blanks.all fun q => stripL (p ++ (wN k ++ q)) == wN k) = true := by decide +kernel
theorem no_strip : (blanks.all fun p => blanks.all fun q => stripL (p ++ ([48, 120, 48] ++ q)) == [48, 120, 48]) = true := by decide +kernel
theorem no_ch : ([48, 120, 48] : List Nat).all okC = true := by decide +kernel
theorem bl_ch : ([32, 13] : List Nat).all (fun c => !inTok [c]) = true := by decide +kernel
theorem wN_idx : ∀ f, f < 29 → ∀ i, i < 4 → ((List.range 4).map fun j => wN (f + j)).idxOf (wN (f + i)) = i ∧ wN (f + i) ∈ ((List.range 4).map fun j => wN (f + j)) ∧ wN (f + i) ≠ [48, 120, 48] := by decide +kernel
def bits4 (x : Nat) : List Nat := (List.range 4).filter fun j => x.testBit j
theorem pbits : ∀ f, f < 29 → ∀ x, x < 16 → (List.range 32).filter (fun j => (x * 2 ^ f).testBit j) = (bits4 x).map (f + ·) ∧ (x * 2 ^ f = 0 ↔ x = 0) := by decide +kernel
theorem bits_nil : ∀ x, x < 16 → (bits4 x = [] ↔ x = 0) := by decide +kernel
theorem bits_sum : ∀ x, x < 16 → ((bits4 x).map (2 ^ ·)).sum = x := by decide +kernel
theorem bits_lt (x : Nat) : ∀ i ∈ bits4 x, i < 4 := fun i hi => List.mem_range.mp (List.mem_filter.mp hi).1
theorem bits_len (x : Nat) : (bits4 x).length ≤ 4 := List.length_filter_le _ _
theorem sym_parts : ∀ s, s < 512 → (s &&& 15) < 16 ∧ (s >>> 4 &&& 15) < 16 ∧ (s < 256 → (s &&& 15) + 16 * (s >>> 4 &&& 15) = s) ∧ (256 ≤ s → (s &&& 15) + 16 * (s >>> 4 &&& 15) + 256 = s) := by decide +kernel
theorem lit_0x0 : Str.ofString "0x0" = tx [48, 120, 48] := by decide +kernel
theorem lit_cs : Str.ofString ", " = tx [44, 32] := by decide +kernel
theorem lit_le : Str.ofString " <= " = tx [32, 60, 61, 32] := by decide +kernel
theorem lit_ar : Str.ofString " -> " = tx [32, 45, 62, 32] := by decide +kernel
theorem lit_am : Str.ofString " &\r" = tx [32, 38, 13] := by decide +kernel
theorem join_tx (sep : List Nat) : ∀ (l : List (List Nat)) (a : List Nat), Txt.join (tx sep) ((a :: l).map tx) = tx (a ++ l.flatMap fun x => sep ++ x) := by
  have key : ∀ (l : List (List Nat)) (a : List Nat), Str.join (tx sep) ((a :: l).map tx) = tx (a ++ l.flatMap fun x => sep ++ x) := by
    intro l
    induction l with
    | nil => intro a; show tx a = _; simp
    | cons b r ih =>
      intro a
      show tx a ++ tx sep ++ Str.join (tx sep) ((b :: r).map tx) = _
      rw [ih, tx_app, tx_app]
      simp
  intro l a
  show Builtin.Str.glued _ _ = _
  rw [StrLaws.glued_eq_join]
  exact key l a
def sideT (f : Nat) : List Nat → List Nat
  | [] => [48, 120, 48]
  | i :: sel => wN (f + i) ++ sel.flatMap fun j => [44, 32] ++ wN (f + j)
theorem words_map (f : Nat) (hf : f < 29) (sel : List Nat) (h : ∀ i ∈ sel, i < 4) : sel.map (fun j => wordW (f + j)) = (sel.map fun j => wN (f + j)).map tx := by
  rw [List.map_map]
  exact List.map_congr_left fun j hj => wordW_tx (f + j) (by have := h j hj; omega)
theorem join_side (f : Nat) (sel : List Nat) (h : sel ≠ []) : Txt.join (tx [44, 32]) ((sel.map fun j => wN (f + j)).map tx) = tx (sideT f sel) := by
  cases sel with
  | nil => exact absurd rfl h
  | cons i sel =>
    rw [List.map_cons, join_tx, List.flatMap_map]
    rfl
theorem told_bits (f x : Nat) (hf : f < 29) : toldF x (wordsW f 4) 4 = (bits4 x).map fun j => wordW (f + j) := by
  unfold toldF bits4
  refine List.map_congr_left fun j hj => ?_
  have hj4 := List.mem_range.mp (List.mem_filter.mp hj).1
  unfold wordsW
  rw [List.getD_eq_getElem?_getD, List.getElem?_map, List.getElem?_range hj4]
  rfl
theorem sideF_tx (f x : Nat) (hf : f < 29) : sideF x (wordsW f 4) = tx (sideT f (bits4 x)) := by
  unfold sideF
  rw [told_bits f x hf, words_map f hf _ (bits_lt x), lit_0x0, lit_cs]
  by_cases h : bits4 x = []
  · rw [h]; rfl
  · rw [if_neg (by simpa using h), join_side f _ h]
theorem prettyF_tx (f x : Nat) (hf : f < 29) (hx : x < 16) : prettyF (x * 2 ^ f) = tx (sideT f (bits4 x)) := by
  obtain ⟨h1, h2⟩ := pbits f hf x hx
  unfold prettyF wordsTo
  rw [h1, List.map_map, lit_0x0, lit_cs]
  have e : (bits4 x).map (wordF ∘ (f + ·)) = ((bits4 x).map fun j => wN (f + j)).map tx := by
    rw [List.map_map]
    exact List.map_congr_left fun j hj => wordF_tx (f + j) (by have := bits_lt x j hj; omega)
  rw [e]
  by_cases h : x = 0
  · rw [if_pos (h2.mpr h), (bits_nil x hx).mpr h]; rfl
  · rw [if_neg (fun q => h (h2.mp q)), join_side f _ (fun q => h ((bits_nil x hx).mp q))]
def lineT (s f : Nat) : List Nat := if 256 ≤ s then sideT f (bits4 (s >>> 4 &&& 15)) ++ [32, 60, 61, 32] ++ sideT f (bits4 (s &&& 15)) else sideT f (bits4 (s &&& 15)) ++ [32, 45, 62, 32] ++ sideT f (bits4 (s >>> 4 &&& 15))
theorem lineF_tx (s f : Nat) (hs : s < 512) (hf : f < 29) : lineF s f = tx (lineT s f) := by
  obtain ⟨h1, h2, _⟩ := sym_parts s hs
  unfold lineF lineT
  rw [prettyF_tx f _ hf h1, prettyF_tx f _ hf h2, lit_le, lit_ar]
  split <;> simp only [tx_app]
theorem dueF_tx (s f : Nat) (hf : f < 29) : dueF s (wordsW f 4) = tx (lineT s f) := by
  unfold dueF lineT
  rw [sideF_tx f _ hf, sideF_tx f _ hf, lit_le, lit_ar]
  split <;> simp only [tx_app]
theorem line_due (s f : Nat) (hs : s < 512) (hf : f < 29) : lineF s f = dueF s (wordsW f 4) := by rw [lineF_tx s f hs hf, dueF_tx s f hf]
def jStr (f : Nat) (ns : List Nat) : Str := Txt.join (Str.ofString " &\r") (ns.map fun s => lineF s f)
def jL (f : Nat) (ns : List Nat) : List Nat := (jStr f ns).cps.toList
theorem jL_cons (f : Nat) (hf : f < 29) (s : Nat) (ns : List Nat) (hs : ∀ x ∈ s :: ns, x < 512) : jL f (s :: ns) = lineT s f ++ ns.flatMap fun x => [32, 38, 13] ++ lineT x f := by
  unfold jL jStr
  have e : (s :: ns).map (fun s => lineF s f) = ((s :: ns).map fun s => lineT s f).map tx := by
    rw [List.map_map]
    exact List.map_congr_left fun x hx => lineF_tx x f (hs x hx) hf
  rw [e, lit_am, List.map_cons, join_tx, List.flatMap_map]
def wordsL (f : Nat) : List (List Nat) := (wordsW f 4).map fun x => x.cps.toList
theorem wordsL_is (f : Nat) (hf : f < 29) : wordsL f = (List.range 4).map fun j => wN (f + j) := by
  unfold wordsL wordsW
  rw [List.map_map]
  refine List.map_congr_left fun j hj => ?_
  have hj4 := List.mem_range.mp hj
  show (wordW (f + j)).cps.toList = _
  rw [wordW_tx (f + j) (by omega)]
theorem words_ok (f : Nat) (hf : f < 29) : (wordsW f 4).length = 4 ∧ (∀ y ∈ wordsW f 4, y.length ≤ 20) ∧ ∀ y ∈ wordsW f 4, PyData.strOk y = true := by
  refine ⟨by unfold wordsW; simp, fun y hy => ?_, fun y hy => ?_⟩
  · obtain ⟨j, hj, rfl⟩ := List.mem_map.mp hy
    have hj4 := List.mem_range.mp hj
    rw [wordW_tx (f + j) (by omega), tx_len]
    exact wN_len _ (by omega)
  · obtain ⟨j, hj, rfl⟩ := List.mem_map.mp hy
    have hj4 := List.mem_range.mp hj
    rw [wordW_tx (f + j) (by omega)]
    exact wN_ok _ (by omega)
theorem sideT_ch (f : Nat) (hf : f < 29) (sel : List Nat) (h : ∀ i ∈ sel, i < 4) : ∀ c ∈ sideT f sel, c ≠ 34 ∧ c ≠ 10 ∧ c ≠ 9 := by
  have wc : ∀ k, k < 32 → ∀ c ∈ wN k, c ≠ 34 ∧ c ≠ 10 ∧ c ≠ 9 := fun k hk c hc => by
    have := List.all_eq_true.mp (wN_ch k hk) c hc
    unfold okC at this
    simp only [Bool.and_eq_true, bne_iff_ne, ne_eq] at this
    exact ⟨this.1.1.2, this.1.2, this.2⟩
  intro c hc
  cases sel with
  | nil => simp [sideT] at hc; omega
  | cons i sel =>
    rcases List.mem_append.mp hc with hc | hc
    · exact wc _ (by have := h i (.head _); omega) c hc
    · obtain ⟨j, hj, hc⟩ := List.mem_flatMap.mp hc
      rcases List.mem_append.mp hc with hc | hc
      · simp at hc; omega
      · exact wc _ (by have := h j (.tail _ hj); omega) c hc
theorem lineT_ch (f : Nat) (hf : f < 29) (s : Nat) : ∀ c ∈ lineT s f, c ≠ 34 ∧ c ≠ 10 ∧ c ≠ 9 := by
  intro c hc
  unfold lineT at hc
  split at hc
  all_goals
    rcases List.mem_append.mp hc with hc | hc
    · rcases List.mem_append.mp hc with hc | hc
      · exact sideT_ch f hf _ (bits_lt _) c hc
      · simp at hc; omega
    · exact sideT_ch f hf _ (bits_lt _) c hc
theorem j_chars (f : Nat) (hf : f < 29) (ns : List Nat) (hs : ∀ s ∈ ns, s < 512) : ∀ c ∈ jL f ns, c ≠ 34 ∧ c ≠ 10 ∧ c ≠ 9 := by
  cases ns with
  | nil => intro c hc; simp [jL, jStr, Txt.join, Builtin.Str.glued, Str.empty] at hc
  | cons s ns =>
    rw [jL_cons f hf s ns hs]
    intro c hc
    rcases List.mem_append.mp hc with hc | hc
    · exact lineT_ch f hf s c hc
    · obtain ⟨x, hx, hc⟩ := List.mem_flatMap.mp hc
      rcases List.mem_append.mp hc with hc | hc
      · simp at hc; omega
      · exact lineT_ch f hf x c hc
/-! the pieces -/
def PS.cur (st : PS) : Nat := if st.side = 0 then st.s0 else st.s1
def addS (st : PS) (v : Nat) : PS := if st.side = 0 then { st with s0 := st.s0 + v } else { st with s1 := st.s1 + v }
theorem addS_zero (st : PS) : addS st 0 = st := by unfold addS; split <;> rfl
theorem addS_add (st : PS) (a b : Nat) : addS (addS st a) b = addS st (a + b) := by
  obtain ⟨sy, s0, s1, side, tu⟩ := st
  unfold addS
  dsimp only
  split <;> simp_all [Nat.add_assoc]
theorem cur_addS (st : PS) (a : Nat) : (addS st a).cur = st.cur + a := by
  obtain ⟨sy, s0, s1, side, tu⟩ := st
  unfold addS PS.cur
  dsimp only
  split <;> simp_all
theorem wordP_add (f : Nat) (hf : f < 29) (st : PS) (i : Nat) (hi : i < 4) (p q : List Nat) (hp : p ∈ blanks) (hq : q ∈ blanks) (h : st.cur + 2 ^ i ≤ 255) : wordP (wordsL f) st (p ++ (wN (f + i) ++ q)) = some (addS st (2 ^ i)) := by
  obtain ⟨h1, h2, h3⟩ := wN_idx f hf i hi
  have hs : stripL (p ++ (wN (f + i) ++ q)) = wN (f + i) := by simpa using List.all_eq_true.mp (List.all_eq_true.mp (wN_strip (f + i) (by omega)) p hp) q hq
  unfold wordP
  rw [hs, if_neg h3, wordsL_is f hf, if_pos h2, h1]
  unfold PS.cur at h
  unfold addS
  by_cases e : st.side = 0
  · rw [if_pos e] at h; rw [if_pos e, if_pos e, if_pos h]
  · rw [if_neg e] at h; rw [if_neg e, if_neg e, if_pos h]
theorem pow4 : ∀ i, i < 4 → 2 ^ i ≤ 8 := by decide
theorem in_comma : inTok [44] = true := by decide +kernel
theorem comma_fact : (tokL.all fun p => p.1.cps.toList.head? != some 44 || p.1.cps.toList == [44]) = true := by decide +kernel
theorem arrow_fact : inTok [45] = true ∧ inTok [45, 62] = true ∧ inTok [45, 62, 32] = false ∧ inTok [60] = true ∧ inTok [60, 61] = true ∧ inTok [60, 61, 32] = false ∧ inTok [38] = true := by decide +kernel
theorem pcs_comma {l ps} (h : Pcs l ps) : Pcs (44 :: l) ([] :: [44] :: ps) := by
  obtain ⟨u, v, e, _, hi⟩ := tok_of 44 l in_comma
  have hu : 44 :: u = [44] := by
    unfold inTok at hi
    obtain ⟨w, hw⟩ := Option.isSome_iff_exists.mp hi
    have := List.all_eq_true.mp comma_fact _ (lookup_mem hw)
    simpa [tx] using this
  have := Pcs.op (c := 44) (r := l) (ps := ps) in_comma (by rw [e, hu]; exact h)
  rwa [e, hu] at this
theorem pcs_arrow {l ps} (h : Pcs (32 :: l) ps) : Pcs (45 :: 62 :: 32 :: l) ([] :: [45, 62] :: ps) := by
  have e : tokOf (45 :: 62 :: 32 :: l) = [45, 62] := by simp [tokOf, cutN, arrow_fact.2.1, arrow_fact.2.2.1]
  have := Pcs.op (c := 45) (r := 62 :: 32 :: l) (ps := ps) arrow_fact.1 (by rw [e]; exact h)
  rwa [e] at this
theorem pcs_le {l ps} (h : Pcs (32 :: l) ps) : Pcs (60 :: 61 :: 32 :: l) ([] :: [60, 61] :: ps) := by
  have e : tokOf (60 :: 61 :: 32 :: l) = [60, 61] := by simp [tokOf, cutN, arrow_fact.2.2.2.2.1, arrow_fact.2.2.2.2.2.1]
  have := Pcs.op (c := 60) (r := 61 :: 32 :: l) (ps := ps) arrow_fact.2.2.2.1 (by rw [e]; exact h)
  rwa [e] at this
theorem in_32 : inTok [32] = false := by decide +kernel
theorem in_13 : inTok [13] = false := by decide +kernel
theorem all_in {l : List Nat} (h : l.all okC = true) : ∀ x ∈ l, inTok [x] = false := fun x hx => by
  have := List.all_eq_true.mp h x hx
  unfold okC at this
  simp only [Bool.and_eq_true, Bool.not_eq_true'] at this
  exact this.1.1.1
section
variable {f : Nat} {r q op : List Nat} {ps : List (List Nat)} {st2 : PS} {fin : List Nat}
theorem side_go (hf : f < 29) (hr : Pcs r (q :: op :: ps)) (hq : q ∈ blanks) (hP : Par (wordsL f) ps st2 fin) : ∀ (sel : List Nat) (i : Nat) (pre : List Nat) (st : PS), pre ∈ blanks → (∀ j ∈ i :: sel, j < 4) → st.cur + 8 * (sel.length + 1) ≤ 255 →
    opP (addS st (((i :: sel).map (2 ^ ·)).sum)) op = some st2 → ∃ first tail, Pcs (wN (f + i) ++ (sel.flatMap fun j => [44, 32] ++ wN (f + j)) ++ r) (first :: tail) ∧ Par (wordsL f) ((pre ++ first) :: tail) st fin := by
  intro sel
  induction sel with
  | nil =>
    intro i pre st hp h4 hc ho
    have hi := h4 i (.head _)
    have h8 := pow4 i hi
    simp only [List.length_nil] at hc
    refine ⟨wN (f + i) ++ q, op :: ps, ?_, .step (wordP_add f hf st i hi pre q hp hq (by omega)) (by simpa using ho) hP⟩
    rw [List.flatMap_nil, List.append_nil]
    exact pcs_name _ (all_in (wN_ch _ (by omega))) hr
  | cons j sel ih =>
    intro i pre st hp h4 hc ho
    have hi := h4 i (.head _)
    have h8 := pow4 i hi
    simp only [List.length_cons] at hc
    obtain ⟨first, tail, h1, h2⟩ := ih j [32] (addS st (2 ^ i)) (by decide) (fun k hk => h4 k (.tail _ hk)) (by rw [cur_addS]; omega) (by
      rw [addS_add]
      simpa using ho)
    refine ⟨wN (f + i) ++ [], [44] :: (32 :: first) :: tail, ?_, .step (wordP_add f hf st i hi pre [] hp (by decide) (by omega)) rfl h2⟩
    have := pcs_name (wN (f + i)) (all_in (wN_ch _ (by omega))) (pcs_comma (Pcs.ch in_32 h1))
    rw [List.flatMap_cons]
    simpa using this
theorem side_par (hf : f < 29) (hr : Pcs r (q :: op :: ps)) (hq : q ∈ blanks) (hP : Par (wordsL f) ps st2 fin) (x : Nat) (hx : x < 16) (pre : List Nat) (st : PS) (hp : pre ∈ blanks) (hc : st.cur = 0)
    (ho : opP (addS st x) op = some st2) : ∃ first tail, Pcs (sideT f (bits4 x) ++ r) (first :: tail) ∧ Par (wordsL f) ((pre ++ first) :: tail) st fin := by
  have hs := bits_sum x hx
  have hl := bits_len x
  have h4 := bits_lt x
  rw [← hs] at ho
  generalize bits4 x = sel at hs hl h4 ho
  cases sel with
  | nil =>
    refine ⟨[48, 120, 48] ++ q, op :: ps, pcs_name _ (all_in no_ch) hr, .step (st1 := st) ?_ (by simpa [addS_zero] using ho) hP⟩
    unfold wordP
    have hs : stripL (pre ++ ([48, 120, 48] ++ q)) = [48, 120, 48] := by simpa using List.all_eq_true.mp (List.all_eq_true.mp no_strip pre hp) q hq
    rw [hs, if_pos rfl]
  | cons i sel =>
    rw [List.length_cons] at hl
    exact side_go hf hr hq hP sel i pre st hp h4 (by rw [hc]; omega) ho
theorem line_par (hf : f < 29) (s : Nat) (hs : s < 512) (syms : List Nat) (hr : Pcs r (q :: [38] :: ps)) (hq : q ∈ blanks) (hP : Par (wordsL f) ps ⟨syms ++ [s], 0, 0, 0, 0⟩ fin) (pre : List Nat) (hp : pre ∈ blanks) :
    ∃ first tail, Pcs (lineT s f ++ r) (first :: tail) ∧ Par (wordsL f) ((pre ++ first) :: tail) ⟨syms, 0, 0, 0, 0⟩ fin := by
  obtain ⟨x1, x2, lo, hi⟩ := sym_parts s hs
  unfold lineT
  by_cases h : 256 ≤ s
  · rw [if_pos h]
    obtain ⟨fi, ta, h1, h2⟩ := side_par hf hr hq hP (s &&& 15) x1 [32] ⟨syms, (s >>> 4 &&& 15), 0, 1, 1⟩ (by decide) rfl (by
      simp only [addS, opP, PS.sd]
      simp only [if_true, Nat.zero_add, show ¬ ((1 : Nat) = 0) by decide, if_false, Nat.sub_self]
      rw [show (s &&& 15) + 16 * (s >>> 4 &&& 15) + 256 * 1 = s by have := hi h; omega])
    have h3 := Pcs.ch in_32 (pcs_le (Pcs.ch in_32 h1))
    obtain ⟨fi2, ta2, h4, h5⟩ := side_par hf h3 (by decide : [32] ∈ blanks) h2 (s >>> 4 &&& 15) x2 pre ⟨syms, 0, 0, 0, 0⟩ hp rfl (by
      simp [addS, opP])
    exact ⟨fi2, ta2, by simpa using h4, h5⟩
  · rw [if_neg h]
    obtain ⟨fi, ta, h1, h2⟩ := side_par hf hr hq hP (s >>> 4 &&& 15) x2 [32] ⟨syms, (s &&& 15), 0, 1, 0⟩ (by decide) rfl (by
      simp only [addS, opP, PS.sd]
      simp only [if_true, Nat.zero_add, show ¬ ((1 : Nat) = 0) by decide, if_false, Nat.sub_zero, Nat.mul_zero, Nat.add_zero]
      rw [lo (by omega)])
    have h3 := Pcs.ch in_32 (pcs_arrow (Pcs.ch in_32 h1))
    obtain ⟨fi2, ta2, h4, h5⟩ := side_par hf h3 (by decide : [32] ∈ blanks) h2 (s &&& 15) x1 pre ⟨syms, 0, 0, 0, 0⟩ hp rfl (by
      simp [addS, opP])
    exact ⟨fi2, ta2, by simpa using h4, h5⟩
end
theorem lines_par (f : Nat) (hf : f < 29) : ∀ (ns : List Nat) (s : Nat) (pre : List Nat) (syms : List Nat), (∀ x ∈ s :: ns, x < 512) → pre ∈ blanks →
    ∃ first tail, Pcs (lineT s f ++ (ns.flatMap fun x => [32, 38, 13] ++ lineT x f) ++ [38]) (first :: tail) ∧ Par (wordsL f) ((pre ++ first) :: tail) ⟨syms, 0, 0, 0, 0⟩ (syms ++ s :: ns) := by
  intro ns
  induction ns with
  | nil =>
    intro s pre syms hs hp
    have h0 : Pcs [38] ([] :: [38] :: [[]]) := by
      have e : tokOf [38] = [38] := by simp [tokOf, cutN, arrow_fact.2.2.2.2.2.2]
      have := Pcs.op (c := 38) (r := []) (ps := [[]]) arrow_fact.2.2.2.2.2.2 (by rw [e]; exact .nil)
      rwa [e] at this
    rw [List.flatMap_nil, List.append_nil]
    exact line_par hf s (hs s (.head _)) syms h0 (by decide) .done pre hp
  | cons y ns ih =>
    intro s pre syms hs hp
    obtain ⟨fi, ta, h1, h2⟩ := ih y [13] (syms ++ [s]) (fun x hx => hs x (.tail _ hx)) (by decide)
    have h3 := Pcs.ch in_32 (pcs_amp (by decide) (Pcs.ch in_13 h1))
    obtain ⟨fi2, ta2, h4, h5⟩ := line_par hf s (hs s (.head _)) syms h3 (by decide : [32] ∈ blanks) h2 pre hp
    refine ⟨fi2, ta2, ?_, by simpa using h5⟩
    rw [List.flatMap_cons]
    simpa using h4
theorem parse_ok (f : Nat) (hf : f < 29) (ns : List Nat) (hs : ∀ s ∈ ns, s < 512) (h1 : ns ≠ []) : ∃ ps, Pcs (jL f ns ++ [38]) ps ∧ Par (wordsL f) ps iniP ns := by
  cases ns with
  | nil => exact absurd rfl h1
  | cons s ns =>
    rw [jL_cons f hf s ns hs]
    obtain ⟨fi, ta, h2, h3⟩ := lines_par f hf ns s [] [] hs (by decide)
    exact ⟨fi :: ta, h2, h3⟩
end Mine

namespace Mine
open PySem PySem.W PyProof.Rows PySem.Calls PyProof.V PySem.Spec
def triN (k : Nat) : Nat := if k = 0 then 0 else if k = 1 then 1 else 16
theorem tri_nat (n i : Nat) : tri (((n : Int).fdiv (3 ^ i)).fmod 3) = (triN (n / 3 ^ i % 3) : Nat) := by
  have e : ((n : Int).fdiv (3 ^ i)).fmod 3 = ((n / 3 ^ i % 3 : Nat) : Int) := by
    have e1 : (3 : Int) ^ i = ((3 ^ i : Nat) : Int) := by simp
    rw [e1, fdiv_nat]
    exact fmod_nat _ 3
  rw [e]
  unfold tri triN
  have h3 : n / 3 ^ i % 3 < 3 := Nat.mod_lt _ (by decide)
  generalize n / 3 ^ i % 3 = d at h3 ⊢
  have : d = 0 ∨ d = 1 ∨ d = 2 := by omega
  rcases this with rfl | rfl | rfl <;> rfl
theorem four_fact : ∀ a, a < 3 → ∀ b, b < 3 → ∀ c, c < 3 → ∀ d, d < 3 → (triN a + triN b * 2 + triN c * 4 + triN d * 8 < 256 ∧ (FAILS.lookup (triN a + triN b * 2 + triN c * 4 + triN d * 8)).isSome = true) := by decide +kernel
theorem symF_nat (n : Int) (h : 0 ≤ n) : ∃ s : Nat, symF n = (s : Int) ∧ 0 < s ∧ s < 512 ∧ (FAILS.lookup (s % 256)).isSome = true := by
  obtain ⟨n, rfl⟩ := Int.eq_ofNat_of_zero_le h
  have hS : symS (n : Int) 4 = ((triN (n / 3 ^ 0 % 3) + triN (n / 3 ^ 1 % 3) * 2 + triN (n / 3 ^ 2 % 3) * 4 + triN (n / 3 ^ 3 % 3) * 8 : Nat) : Int) := by
    simp only [symS, symA, tri_nat]
    omega
  obtain ⟨h1, h2⟩ := four_fact (n / 3 ^ 0 % 3) (Nat.mod_lt _ (by decide)) (n / 3 ^ 1 % 3) (Nat.mod_lt _ (by decide)) (n / 3 ^ 2 % 3) (Nat.mod_lt _ (by decide)) (n / 3 ^ 3 % 3) (Nat.mod_lt _ (by decide))
  generalize triN (n / 3 ^ 0 % 3) + triN (n / 3 ^ 1 % 3) * 2 + triN (n / 3 ^ 2 % 3) * 4 + triN (n / 3 ^ 3 % 3) * 8 = v at hS h1 h2
  unfold symF
  rw [hS]
  by_cases q : ((v : Nat) : Int) = 0 ∨ ((n : Int).fdiv 81).fmod 2 = 1
  · rw [if_pos q]
    refine ⟨v + 256, by omega, by omega, by omega, ?_⟩
    rw [show (v + 256) % 256 = v by omega]
    exact h2
  · rw [if_neg q]
    refine ⟨v, rfl, by omega, by omega, ?_⟩
    rw [show v % 256 = v by omega]
    exact h2
end Mine

namespace Mine
open PySem PySem.W PyProof.Rows PySem.Calls PyProof.V PySem.Spec
section
variable {C : Cx} {k : Nat} {m : Loc} {n : Led} {QV : Value → Loc → Led → Prop} {l : Addr} {vs : List Value}
theorem ws_sum {ns : List Int} (O : C.Ok k) (hl : IsLst C n l vs) (hi : IntsAre vs ns) (H : ∀ t, QV (.int ns.sum t) m n) : WS C (call (.builtin "sum") [.ref l]) QV m n :=
  fun h tk F N => LSm.sum_ints F N O.handled (hl h m F N).1 hi fun h' tk' t' F' N' => ⟨h', tk', m, n, rfl, F', N', H t'⟩
/-- the call behind which the frame's own object may have turned -/
theorem ws_fnT {f : Addr} {us : List Value} {ret : Heap → Heap → Value → Prop} {env : Env} (O : C.Ok k) (F : FnT C.prog C.w C.mean C.mg C.mb f us k ret) (hfr : C.frames = [env]) (hb : C.base = C.h₀) (hL : env.frame = some C.L)
    (H : ∀ v g' h', ret g' h' v → (∀ l, g'.get? l = none → l ≠ C.L ∧ C.h₀.get? l = none) → ∀ h, Fr C.h₀ C.L h m → News C.h₀ C.L h n → News C.h₀ C.L h' n → ∃ n', News C.h₀ C.L h' n' ∧ QV v m n') : WS C (call (.ref f) us) QV m n := by
  intro h tk F' N'
  have hfs : C.frames.filterMap (·.frame) = [C.L] := by rw [hfr]; simp [hL]
  obtain ⟨oL, es, ep, hoL, hLd, hLk, hLf⟩ := id F'.ns
  refine F C.A C.base C.frames _ _ _ (O.kin.keeps F'.keep) (O.top.keeps F'.keep) O.handled O.frames (O.ground h m F') (fun b o e => F'.keep _ _ (O.stays _ _ e)) (hb ▸ O.kin) (hb ▸ O.top) ?_ O.depth O.units fun v g' h' tk' T st r => ?_
  · rw [hfs]
    intro b hb'
    rw [List.mem_singleton.mp hb']
    exact ⟨oL, es, ep, hoL, hLd⟩
  rw [hfs] at T
  have hself : C.h₀.get? C.L = none := kts_self F'
  have F2 : Fr C.h₀ C.L h' m := by
    obtain ⟨sl, hs⟩ := T.frame _ _ hoL (.head _)
    refine ⟨⟨_, es, ep, st _ _ hs, hLd, hLk, hLf⟩, fun b o e => st _ _ (T.other _ _ (F'.keep _ _ e) fun hm => ?_), F'.above⟩
    rw [List.mem_singleton.mp hm, hself] at e
    cases e
  have N2 : News C.h₀ C.L h' n := fun p hp => ⟨st _ _ (T.other _ _ (N' p hp).1 fun hm => (N' p hp).2.1 (List.mem_singleton.mp hm)), (N' p hp).2⟩
  have hnew : ∀ l, g'.get? l = none → l ≠ C.L ∧ C.h₀.get? l = none := by
    intro l hl
    constructor
    · intro e
      obtain ⟨sl, hs⟩ := T.frame _ _ hoL (.head _)
      rw [e, hs] at hl
      cases hl
    · cases q : C.h₀.get? l with
      | none => rfl
      | some o =>
        obtain ⟨sl, hs⟩ := T.up (F'.keep _ _ q)
        rw [hs] at hl
        cases hl
  obtain ⟨n', N3, q⟩ := H v g' h' r hnew h F' N' N2
  exact ⟨h', tk', m, n', rfl, F2, N3, q⟩
end
theorem law_link {prog : Program} {w : World} {mean : ExcName → Option Value} {mg mb : Loc} {s : Shared} {h₁ : Heap} {tk : Nat} {qual : Str} {scope : Scope} {fa : Addr} {cdv : Value} {body : List Stmt} {R : Flow → Shared → Prop} {E : Value → Shared → Prop}
    (mf : Addr → Loc) (nf : Addr → Led) (X : (Mine.th.heap_1_1 w.params).In s.heap) (T : Top Mine.V Loose mean mg mb s.heap) (F : Fr s.heap s.heap.objs.size h₁ (mf s.heap.objs.size)) (N : News s.heap s.heap.objs.size h₁ (nf s.heap.objs.size)) (hk : scope.kind = .function)
    (hE : PassesOwn (model prog w) (callerA.deeper (envOfC qual scope s.heap.objs.size fa cdv)) (envOfC qual scope s.heap.objs.size fa cdv) E)
    (H : ∀ C : Cx, C.prog = prog → C.w = w → C.mean = mean → C.mg = mg → C.mb = mb → C.h₀ = s.heap → C.Ok 30 → PassesOwn (model C.prog C.w) C.A (envOfC qual scope C.L fa cdv) C.E → C.frames = [envOfC qual scope C.L fa cdv] → C.base = C.h₀ →
      WS C (execs body (envOfC qual scope C.L fa cdv)) (fun fl m n => fl = .ret (.bool true)) (mf C.L) (nf C.L))
    (hR : ∀ h' tk' m', Fr s.heap s.heap.objs.size h' m' → R (.ret (.bool true)) ⟨h', s.gens, s.drawn, tk', s.os⟩) :
    wpAny (model prog w) (callerA.deeper (envOfC qual scope s.heap.objs.size fa cdv)) (execs body (envOfC qual scope s.heap.objs.size fa cdv)) R E ⟨h₁, s.gens, s.drawn, tk, s.os⟩ := by
  let C : Cx := ⟨prog, w, mean, mg, mb, callerA.deeper (envOfC qual scope s.heap.objs.size fa cdv), E, s.heap, s.heap.objs.size, s.gens, s.drawn, s.os, s.heap, [envOfC qual scope s.heap.objs.size fa cdv]⟩
  have hnew : s.heap.get? s.heap.objs.size = none := Heap.get?_none_of_le (Nat.le_refl _)
  have O : C.Ok 30 := by
    refine ⟨X, T, rfl, rfl, fun h m F => ?_, fun _ _ e => e, ?_, ?_⟩
    · exact .cons (by show scope.kind ≠ .module; rw [hk]; decide) rfl F.ns hnew trivial
    · show (callerA.deeper (envOfC qual scope s.heap.objs.size fa cdv)).depth + 30 < recursionLimit
      simp only [depth_deeper, depth_caller, recursionLimit]; omega
    · show (callerA.deeper (envOfC qual scope s.heap.objs.size fa cdv)).units + 10 * 30 < cLine
      have hcL := cLine_is
      simp only [units_deeper, units_caller]; omega
  have := H C rfl rfl rfl rfl rfl rfl O hE rfl rfl h₁ tk F N
  refine wpAny_mono this (fun fl s' p => ?_) fun _ _ x => x
  obtain ⟨h', tk', m', n', rfl, F', N', rfl⟩ := p
  exact hR h' tk' m' F'
end Mine

open PySem PySem.W PyProof.Rows PySem.Calls PyProof.V PySem.Spec Mine
theorem Mine.news_new {h₀ h : Heap} {L l : Addr} {o : Obj} {n : Led} (N : News h₀ L h n) (hg : h.get? l = some o) (hx : l ≠ L ∧ h₀.get? l = none) : News h₀ L h ((l, o) :: n) := fun p hp => by
  rcases List.mem_cons.mp hp with rfl | hp
  · exact ⟨hg, hx⟩
  · exact N p hp
theorem Mine.sum_nat : ∀ ms : List Int, (∀ x ∈ ms, 0 ≤ x) → ∃ T : Nat, ms.sum = (T : Int)
  | [], _ => ⟨0, rfl⟩
  | x :: ms, h => by
    obtain ⟨T, hT⟩ := Mine.sum_nat ms fun y hy => h y (.tail _ hy)
    have h0 := h x (.head _)
    exact ⟨x.toNat + T, by rw [List.sum_cons, hT]; omega⟩
theorem Mine.syms_nat (ms : List Int) (h5 : ms.length = 5) (h0 : ∀ x ∈ ms, 0 ≤ x) : ∃ ss : List Nat, ms.map symF = intsN ss ∧ ss.length = 5 ∧ ∀ s ∈ ss, 0 < s ∧ s < 512 ∧ (FAILS.lookup (s % 256)).isSome = true := by
  rw [← h5]
  clear h5
  induction ms with
  | nil => exact ⟨[], rfl, rfl, fun s hs => nomatch hs⟩
  | cons x ms ih =>
    obtain ⟨ss, e, hl, hb⟩ := ih fun y hy => h0 y (.tail _ hy)
    obtain ⟨s, es, hs⟩ := symF_nat x (h0 x (.head _))
    refine ⟨s :: ss, ?_, by simp [hl], fun y hy => ?_⟩
    · rw [List.map_cons, e, es]; rfl
    · rcases List.mem_cons.mp hy with rfl | hy
      · exact hs
      · exact hb y hy
theorem Mine.words_tx (f : Nat) : (wordsL f).map tx = wordsW f 4 := by
  unfold wordsL
  rw [List.map_map]
  exact (List.map_congr_left fun x _ => (tx_of x).symm).trans (List.map_id _)
theorem Mine.line_len (s f : Nat) : (lineF s f).length ≤ 1404 := by
  have h1 := pretty_len ((s &&& 15) * 2 ^ f)
  have h2 := pretty_len ((s >>> 4 &&& 15) * 2 ^ f)
  have h4 : (Str.ofString " <= ").length = 4 := by rw [lit_le]; rfl
  have h5 : (Str.ofString " -> ").length = 4 := by rw [lit_ar]; rfl
  unfold lineF
  split
  · rw [Str.length_append, Str.length_append]; omega
  · rw [Str.length_append, Str.length_append]; omega
theorem Mine.lines_size (f : Nat) (ns : List Nat) (h5 : ns.length = 5) : ((ns.map fun s => lineF s f).map (·.length)).sum ≤ 7020 := by
  have := sum_len (B := 1404) (ns.map fun s => lineF s f) fun y hy => by
    obtain ⟨s, _, rfl⟩ := List.mem_map.mp hy
    exact Mine.line_len s f
  rw [List.length_map, h5] at this
  omega
theorem Mine.jL_size (f : Nat) (ns : List Nat) (h5 : ns.length = 5) : (jL f ns).length ≤ 7100 := by
  have h1 := Mine.lines_size f ns h5
  have h3 : (Str.ofString " &\r").length = 3 := by rw [lit_am]; rfl
  have e : (jL f ns).length = (jStr f ns).length := by unfold jL Str.length; simp
  rw [e]
  show (Builtin.Str.glued _ _).length ≤ 7100
  rw [size_glued, List.length_map, h5, h3]
  omega
theorem Mine.spell_le (h : Nat) (h5 : h < 5) (l : List Nat) : (flatT (spellTab h) l).length ≤ 6 * l.length := by
  refine flatT_len _ ?_ l
  have : ∀ h, h < 5 → ∀ p ∈ spellTab h, p.2.length ≤ 6 := by decide
  exact this h h5
/-! This name, and those named Mine.hd.tw.. below, stand for nothing and no proof leans on them: where such a name stands, the head lays no quick twin of that constant; with the twins the compiled file is over 32 MiB. -/
def Mine.walk.tw1846556113251337309 : Unit := ()
set_option Elab.async true
theorem Mine.walk : ∀ as e, WalkO Mine.V [Str.ofString "COMPILER_FLAG_NAMES", Str.ofString "EXACT_TOKEN_TYPES"] (XL Mine.V []) (kHook Mine.th.heap_1_1 as e).says PySem.Challenge.rw_wf0064_01.row.toRowW Mine.D [] (fun f vs => PySem.call f vs) := by
    intro as e
    conv => pattern Mine.D; whnf
    k_go0
    rename_i w s₀ s₁ mg mb G Y fa o pm doc ho hg KX XX V GL T B TE TW xa xo M cd xd hcd ns hs hlay0 hL1 hr1 hl2 xe xf a vs xg hL ra w1 r0 hI hr hc1 hc2 K0 hD h1 tk1 F ow of hwd hfd N0 X0
    refine law_link (fun L => bindL (envOfC _ _ L fa (Value.ref cd)).kindOf [(Str.ofString "script", .ref a)] fun _ => none) (fun L => [(L + 1 + 1, ow), (L + 1, of)]) KX T F N0 rfl PassesOwn.leaving ?H ?R
    case R =>
      intro h' tk' m' F'
      refine goodW_bool F' hg (raisesW_false ?_) ?_
      · wrow_none_raised
      · first | rfl | wrow_post
    case H =>
      obtain ⟨ow, rfl⟩ : ∃ o, ow = cellX o none := ⟨_, cellX_of (v := none) hwd⟩
      obtain ⟨of, rfl⟩ : ∃ o, of = cellX o none := ⟨_, cellX_of (v := none) hfd⟩
      have hn63 : ns.length ≤ 63 := by omega
      have hvl := hI.length
      clear hwd hfd N0 X0 F hD hcd r0 w1 ra hr B TE TW M GL V XX
      intro C e1 e2 e3 e4 e5 e6 O hE hfr hb
      rw [← e6] at hL
      clear e1 e2 e3 e4 e5 e6 K0 KX T G Y ho hg
      dsimp only at hE hfr ⊢
      repeat' ktr_rel
      refine ws_fnL (O.le (by decide)) (sp_numbers a vs ns hI (by omega)) (fun h F N => let ⟨o, ho, r⟩ := hL; ⟨o, F.keep _ _ ho, r⟩) fun l1 ws1 c1 h11 h12 hN1 => ?_
      simp only [AllLt, and_true] at h12
      obtain ⟨ms, hms, hm5, hmb⟩ := hN1
      obtain ⟨T, hT⟩ : ∃ T : Nat, ms.sum = (T : Int) := sum_nat ms fun x hx => (hmb x hx).1
      repeat' ktr_rel
      refine ws_sum O (isLst_mem (vs := ws1) (c := c1) (by k_mem)) hms ?_
      rw [hT]
      intro _
      repeat' ktr_rel
      refine ws_div (by decide) (PyProof.noPylong_small (by decide)) ?_
      intro _
      repeat' ktr_rel
      refine ws_div (by decide) (PyProof.noPylong_small (by decide)) ?_
      intro _
      repeat' ktr_rel
      have d29 : ((T : Nat) : Int).fmod 29 = ((T % 29 : Nat) : Int) := fmod_nat T 29
      have d1 : (((T : Nat) : Int).fdiv 29).fmod 5 = ((T / 29 % 5 : Nat) : Int) := by rw [show ((T : Nat) : Int).fdiv 29 = ((T / 29 : Nat) : Int) from fdiv_nat T 29]; exact fmod_nat _ 5
      have d2 : (((T : Nat) : Int).fdiv 145).fmod 5 = ((T / 145 % 5 : Nat) : Int) := by rw [show ((T : Nat) : Int).fdiv 145 = ((T / 145 : Nat) : Int) from fdiv_nat T 145]; exact fmod_nat _ 5
      rw [d29, d1, d2]
      have hf : T % 29 < 29 := Nat.mod_lt _ (by decide)
      have hone : T / 29 % 5 < 5 := Nat.mod_lt _ (by decide)
      have htwo : T / 145 % 5 < 5 := Nat.mod_lt _ (by decide)
      generalize T % 29 = f at hf ⊢
      generalize T / 29 % 5 = one at hone ⊢
      generalize T / 145 % 5 = two at htwo ⊢
      clear d29 d1 d2 hT
      repeat' ktr_rel
      refine ws_fnL (O.le (by decide)) (sp_words f hf _) (fun _ _ _ => trivial) fun lw ws2 c2 h21 h22 hW => ?_
      simp only [AllLt, and_true] at h22
      obtain ⟨hw4, hwlen, hwok⟩ := words_ok f hf
      repeat' ktr_rel
      refine cat_list ws1 (fun i ys => IntsAre ys ((ms.take i).map symF)) O (lst_mem (c := c1) (by k_mem)) (fins_assign (by k_dflt rfl) (by k_dflt rfl) (by k_dflt rfl)) .nil (by rw [hms.length, hm5, sizeLine_eq]; decide) (by decide) rfl rfl ?tsym ?dsym
      case tsym =>
        intro h₀ L B O' D cn i I o ys v u hlt hDL hx hP
        obtain ⟨x, tx1, hx2, hx3⟩ := IntsAre.at hms i v hx
        subst hx2
        have hxm := hmb x (List.mem_of_getElem? hx3)
        repeat' ktr_rel
        refine ws_fnI (O'.le (by decide)) (sp_symbol x _ hxm.1 hxm.2) (fun _ _ _ => trivial) ?_
        intro _
        refine ⟨fun _ h => h, ?_⟩
        rw [List.take_add_one, hx3, show (some x).toList = [x] from rfl, List.map_append]
        exact hP.append (.cons _ _ .nil)
      case dsym =>
        intro ys S cS hCS hltS hPS
        simp only [AllLt, and_true] at hltS
        rw [hms.length, List.take_length] at hPS
        obtain ⟨ss, hss, hss5, hssb⟩ := syms_nat ms hm5 fun x hx => (hmb x hx).1
        rw [hss] at hPS
        have hss512 : ∀ s ∈ ss, s < 512 := fun s hs => (hssb s hs).2.1
        have hysl : ys.length = 5 := by rw [hPS.length]; unfold intsN; rw [List.length_map, hss5]
        repeat' ktr_rel
        refine ws_fnBy (O.le (by decide)) (sp_tape S ys ss hPS hss512 (by omega)) (fun h F N => (lst_mem (vs := ys) (c := cS) (by k_mem)).has h _ F N) ?_
        intro tt
        repeat' ktr_rel
        refine ws_fnT (O.le (by decide)) (sp_read ss (fun s hs => ⟨(hssb s hs).1, (hssb s hs).2.1⟩) (by omega) tt) hfr hb rfl ?_
        rintro v g' h' ⟨lt, vt, ct, rfl, hg1, hg2, hit⟩ hnew h F N N2
        refine ⟨_, Mine.news_new N2 hg2 (hnew lt hg1), ?_⟩
        clear hg1 hg2 hnew N N2 F h h' g'
        have hvtl : vt.length = 5 := by rw [hit.length]; unfold intsN; rw [List.length_map, hss5]
        repeat' ktr_rel
        refine ws_neInts O (by decide) (isLst_mem (vs := vt) (c := ct) (by k_mem)) hit (isLst_mem (vs := ys) (c := cS) (by k_mem)) hPS ?_
        repeat' ktr_rel
        refine ws_iteF (by simp) ?_
        repeat' ktr_rel
        have hj5 := lines_size f ss hss5
        have hjl := jL_size f ss hss5
        have hjt : Txt.join (Str.ofString " &\r") (ss.map fun s => lineF s f) = tx (jL f ss) := tx_of _
        have h3l : (Str.ofString " &\r").length = 3 := by rw [lit_am]; rfl
        have hch := j_chars f hf ss hss512
        obtain ⟨ew1, ch1⟩ := write_spell one hone (jL f ss) hch
        obtain ⟨ew2, ch2⟩ := write_spell two htwo _ ch1
        have hl1 := spell_le one hone (jL f ss)
        have hl2 := spell_le two htwo (flatT (spellTab one) (jL f ss))
        obtain ⟨fi1, ps1, ou1, hpc1, hun1, hfo1⟩ := unwrite_ok two htwo (flatT (spellTab one) (jL f ss))
        obtain ⟨fi2, ps2, ou2, hpc2, hun2, hfo2⟩ := unwrite_ok one hone (jL f ss)
        refine cat_list ys (fun i zs => StrsAre zs ((ss.take i).map fun s => lineF s f)) O (lst_mem (c := cS) (by k_mem)) fins_none .nil (by rw [hysl, sizeLine_eq]; decide) (by decide) rfl rfl ?tdue ?ddue
        case tdue =>
          intro h₀ L B O' D cn i I o zs v u hlt hDL hx hP
          obtain ⟨s, ts, hs, rfl⟩ := ints_at hPS hx
          repeat' ktr_rel
          refine ws_fnS (O'.le (by decide)) (sp_due s lw ws2 (wordsW f 4) hW hw4 hwlen hwok _) (fun h F N => (lst_mem (vs := ws2) (c := c2) (by k_mem)).has h _ F N) ?_
          intro _
          refine ⟨fun _ h => h, ?_⟩
          rw [List.take_add_one, hs, show (some s).toList = [s] from rfl, List.map_append, ← line_due s f (hss512 s (List.mem_of_getElem? hs)) hf]
          exact strs_snoc hP _ _
        case ddue =>
          intro zs D cD hCD hltD hP
          simp only [AllLt, and_true] at hltD
          rw [hysl, ← hss5, List.take_length] at hP
          repeat' ktr_rel
          refine ws_join (vs := zs) (isLst_mem (c := cD) (by k_mem)) hP (by rw [List.length_map, hss5, h3l]; omega) ?_
          rw [hjt]
          intro tj
          repeat' ktr_rel
          refine cat_list vt (fun i zs => StrsAre zs ((ss.take i).map fun s => lineF s f)) O (lst_mem (c := ct) (by k_mem)) fins_none .nil (by rw [hvtl, sizeLine_eq]; decide) (by decide) rfl rfl ?tpage ?dpage
          case tpage =>
            intro h₀ L B O' D2 cn i I o zs2 v u hlt2 hDL hx hP2
            obtain ⟨s, ts, hs, rfl⟩ := ints_at hit hx
            repeat' ktr_rel
            refine ws_fnS (O'.le (by decide)) (sp_line s f hf _ _) (fun _ _ _ => trivial) ?_
            intro _
            refine ⟨fun _ h => h, ?_⟩
            rw [List.take_add_one, hs, show (some s).toList = [s] from rfl, List.map_append]
            exact strs_snoc hP2 _ _
          case dpage =>
            intro zs2 D2 cD2 hCD2 hltD2 hP2
            simp only [AllLt, and_true] at hltD2
            rw [hvtl, ← hss5, List.take_length] at hP2
            repeat' ktr_rel
            refine ws_join (vs := zs2) (isLst_mem (c := cD2) (by k_mem)) hP2 (by rw [List.length_map, hss5, h3l]; omega) ?_
            rw [hjt]
            intro tj2
            repeat' ktr_rel
            refine ws_fnS (O.le (by decide)) (sp_write one hone (jL f ss) _ _ (by omega)) (fun _ _ _ => trivial) ?_
            rw [ew1]
            intro _
            repeat' ktr_rel
            refine ws_fnS (O.le (by decide)) (sp_write two htwo (flatT (spellTab one) (jL f ss)) _ _ (by omega)) (fun _ _ _ => trivial) ?_
            rw [ew2]
            intro _
            repeat' ktr_rel
            refine ws_fnS (O.le (by decide)) (sp_spell one hone (jL f ss) _ _ (by omega)) (fun _ _ _ => trivial) ?_
            intro _
            repeat' ktr_rel
            refine ws_fnS (O.le (by decide)) (sp_spell two htwo (flatT (spellTab one) (jL f ss)) _ _ (by omega)) (fun _ _ _ => trivial) ?_
            intro _
            repeat' ktr_rel
            refine ws_neS ?_
            repeat' ktr_rel
            refine ws_iteF (by simp) ?_
            repeat' ktr_rel
            refine ws_fnS (O.le (by decide)) (sp_unwrite _ fi1 ps1 ou1 hpc1 hun1 _ (by omega) (by rw [hfo1]; omega) ?hcnA) (fun _ _ _ => trivial) ?_
            case hcnA =>
              have := pcs_count hpc1
              rw [List.length_cons] at this
              omega
            rw [hfo1]
            intro _
            repeat' ktr_rel
            refine ws_fnS (O.le (by decide)) (sp_unwrite _ fi2 ps2 ou2 hpc2 hun2 _ (by omega) (by rw [hfo2]; omega) ?hcnB) (fun _ _ _ => trivial) ?_
            case hcnB =>
              have := pcs_count hpc2
              rw [List.length_cons] at this
              omega
            rw [hfo2]
            intro _
            repeat' ktr_rel
            obtain ⟨ps3, hpc3, hpar⟩ := parse_ok f hf ss hss512 (by intro e; rw [e] at hss5; cases hss5)
            have hcn3 := pcs_count hpc3
            rw [List.length_append, List.length_singleton] at hcn3
            refine ws_fnL (O.le (by decide)) (sp_symbols (jL f ss) ps3 (wordsL f) ss hpc3 hpar _ lw ws2 (by rw [words_tx]; exact hW) (by unfold wordsL; rw [List.length_map, hw4]; decide) (by omega) (by omega)) (fun h F N => (lst_mem (vs := ws2) (c := c2) (by k_mem)).has h _ F N) fun l3 ws3 c3 h31 h32 hN3 => ?_
            simp only [AllLt, and_true] at h32
            repeat' ktr_rel
            refine ws_eqInts O (by decide) (isLst_mem (vs := ws3) (c := c3) (by k_mem)) hN3 (isLst_mem (vs := ys) (c := cS) (by k_mem)) hPS ?_
            rw [show decide ((ss.map fun (x : Nat) => (x : Int)) = intsN ss) = true from decide_eq_true rfl]
            repeat' ktr_rel
            obtain ⟨N, fin, hrun, hperm, h64⟩ := cuts_ok ss hss5 fun s hs => (hssb s hs).2.2
            refine ws_fnL (O.le (by decide)) (sp_cuts l3 ws3 ss fin N hN3 (by omega) hrun) (fun h F N => (lst_mem (vs := ws3) (c := c3) (by k_mem)).has h _ F N) fun l4 ws4 c4 h41 h42 hN4 => ?_
            simp only [AllLt, and_true] at h42
            obtain ⟨ms4, hi4, hp4, hs4⟩ := hN4
            repeat' ktr_rel
            refine ws_fnL (O.le (by decide)) (sp_least S ys ss hPS (by omega) (fun s hs => (hssb s hs).2.2) h64) (fun h F N => (lst_mem (vs := ys) (c := cS) (by k_mem)).has h _ F N) fun l5 ws5 c5 h51 h52 hN5 => ?_
            simp only [AllLt, and_true] at h52
            obtain ⟨ms5, hi5, hp5, hs5⟩ := hN5
            repeat' ktr_rel
            have e45 : ms4 = ms5 := ksm_same (hp4.trans ((hperm.map _).trans hp5.symm)) hs4 hs5
            refine ws_eqInts O (by decide) (isLst_mem (vs := ws4) (c := c4) (by k_mem)) hi4 (isLst_mem (vs := ws5) (c := c5) (by k_mem)) hi5 ?_
            rw [show decide (ms4 = ms5) = true from decide_eq_true e45]
            repeat' ktr_rel

set_option Elab.async false
theorem Mine.apart : True := trivial
def Mine.hd.tw1011335219593555734 : Unit := ()
def Mine.hd.tw10170382586518783626 : Unit := ()
def Mine.hd.tw10246146449241189800 : Unit := ()
def Mine.hd.tw10403243965636340961 : Unit := ()
def Mine.hd.tw10458740792067480800 : Unit := ()
def Mine.hd.tw10601615944963115059 : Unit := ()
def Mine.hd.tw10603584201595350602 : Unit := ()
def Mine.hd.tw10727248033764811480 : Unit := ()
def Mine.hd.tw10784824025267889561 : Unit := ()
def Mine.hd.tw10949625832625181284 : Unit := ()
def Mine.hd.tw1097998534492414930 : Unit := ()
def Mine.hd.tw11032806212648032379 : Unit := ()
def Mine.hd.tw11054480109507316185 : Unit := ()
def Mine.hd.tw11136197038861592535 : Unit := ()
def Mine.hd.tw11210553801493137410 : Unit := ()
def Mine.hd.tw1129884963351977449 : Unit := ()
def Mine.hd.tw11319097763535126812 : Unit := ()
def Mine.hd.tw11334062482582688307 : Unit := ()
def Mine.hd.tw11465210709893060100 : Unit := ()
def Mine.hd.tw11631947586910100387 : Unit := ()
def Mine.hd.tw11652457597714270106 : Unit := ()
def Mine.hd.tw11663121198720446835 : Unit := ()
def Mine.hd.tw11953376511379268794 : Unit := ()
def Mine.hd.tw12009662285891007807 : Unit := ()
def Mine.hd.tw12023040214023829324 : Unit := ()
def Mine.hd.tw12173100003817136821 : Unit := ()
def Mine.hd.tw1222794163293265305 : Unit := ()
def Mine.hd.tw12487502673411948298 : Unit := ()
def Mine.hd.tw12588582704262371052 : Unit := ()
def Mine.hd.tw12633595827127266219 : Unit := ()
def Mine.hd.tw12901994302517312135 : Unit := ()
def Mine.hd.tw12936449754285732098 : Unit := ()
def Mine.hd.tw13225837485096350037 : Unit := ()
def Mine.hd.tw13267510147771200024 : Unit := ()
def Mine.hd.tw13368278939475635651 : Unit := ()
def Mine.hd.tw13483081372092288885 : Unit := ()
def Mine.hd.tw13518370688599389936 : Unit := ()
def Mine.hd.tw13770079208771991547 : Unit := ()
def Mine.hd.tw13790719812936386609 : Unit := ()
def Mine.hd.tw13828106393651249627 : Unit := ()
def Mine.hd.tw1413172679324656950 : Unit := ()
def Mine.hd.tw14294344414604881677 : Unit := ()
def Mine.hd.tw14560493823538711346 : Unit := ()
def Mine.hd.tw14620637471214046174 : Unit := ()
def Mine.hd.tw14705683404202351889 : Unit := ()
def Mine.hd.tw1506431575118746342 : Unit := ()
def Mine.hd.tw15089522573102190283 : Unit := ()
def Mine.hd.tw15103106377680225435 : Unit := ()
def Mine.hd.tw15368132723985388332 : Unit := ()
def Mine.hd.tw15411387601460861337 : Unit := ()
def Mine.hd.tw15527848837575444561 : Unit := ()
def Mine.hd.tw15529170255622000948 : Unit := ()
def Mine.hd.tw15595854959937240912 : Unit := ()
def Mine.hd.tw15615537253650120727 : Unit := ()
def Mine.hd.tw15616948245753086127 : Unit := ()
def Mine.hd.tw15759970867653108152 : Unit := ()
def Mine.hd.tw15790720579355451973 : Unit := ()
def Mine.hd.tw15837987909243819085 : Unit := ()
def Mine.hd.tw15967140613478806237 : Unit := ()
def Mine.hd.tw16007149819294483003 : Unit := ()
def Mine.hd.tw16037735763661986305 : Unit := ()
def Mine.hd.tw16056359734778111409 : Unit := ()
def Mine.hd.tw16091413853298234908 : Unit := ()
def Mine.hd.tw16194383521188589630 : Unit := ()
def Mine.hd.tw16240987189780228909 : Unit := ()
def Mine.hd.tw16345102440705955213 : Unit := ()
def Mine.hd.tw16412773359747925120 : Unit := ()
def Mine.hd.tw16432713993328977331 : Unit := ()
def Mine.hd.tw16634568088961857937 : Unit := ()
def Mine.hd.tw16828841361933241965 : Unit := ()
def Mine.hd.tw16868993833207775613 : Unit := ()
def Mine.hd.tw16945582573551092051 : Unit := ()
def Mine.hd.tw17062030032774818151 : Unit := ()
def Mine.hd.tw17087091549796120035 : Unit := ()
def Mine.hd.tw17177331786930743035 : Unit := ()
def Mine.hd.tw17311223219408574766 : Unit := ()
def Mine.hd.tw17447410573909459338 : Unit := ()
def Mine.hd.tw17542962492245011380 : Unit := ()
def Mine.hd.tw17574625026820762457 : Unit := ()
def Mine.hd.tw1760603350576429475 : Unit := ()
def Mine.hd.tw17650839729002327288 : Unit := ()
def Mine.hd.tw17672654358674132775 : Unit := ()
def Mine.hd.tw17673860158736603733 : Unit := ()
def Mine.hd.tw17681399029576232318 : Unit := ()
def Mine.hd.tw17714235663813219645 : Unit := ()
def Mine.hd.tw17893044597097874663 : Unit := ()
def Mine.hd.tw17950676927832955104 : Unit := ()
def Mine.hd.tw1800889605409440832 : Unit := ()
def Mine.hd.tw18103342009636024947 : Unit := ()
def Mine.hd.tw18219297243305740317 : Unit := ()
def Mine.hd.tw18264374347568628810 : Unit := ()
def Mine.hd.tw18293732401869909652 : Unit := ()
def Mine.hd.tw18322514126500204803 : Unit := ()
def Mine.hd.tw18343703819029505601 : Unit := ()
def Mine.hd.tw1846556113251337309 : Unit := ()
def Mine.hd.tw1869635642477389258 : Unit := ()
def Mine.hd.tw189712035060473897 : Unit := ()
def Mine.hd.tw1997569388931296116 : Unit := ()
def Mine.hd.tw2068664650715991707 : Unit := ()
def Mine.hd.tw2114630138375439770 : Unit := ()
def Mine.hd.tw2167537188350426706 : Unit := ()
def Mine.hd.tw22551697357593593 : Unit := ()
def Mine.hd.tw2386827423013361158 : Unit := ()
def Mine.hd.tw2404053395309592108 : Unit := ()
def Mine.hd.tw26425463804135960 : Unit := ()
def Mine.hd.tw2867327485932766208 : Unit := ()
def Mine.hd.tw2887051446865420828 : Unit := ()
def Mine.hd.tw2930668341846507884 : Unit := ()
def Mine.hd.tw3219085151875037572 : Unit := ()
def Mine.hd.tw3229955645248102723 : Unit := ()
def Mine.hd.tw3259873300814134281 : Unit := ()
def Mine.hd.tw3350844169311001129 : Unit := ()
def Mine.hd.tw3451239065008710300 : Unit := ()
def Mine.hd.tw3493717111155160527 : Unit := ()
def Mine.hd.tw3571134770919094901 : Unit := ()
def Mine.hd.tw3759623122121258479 : Unit := ()
def Mine.hd.tw3789350110615891812 : Unit := ()
def Mine.hd.tw4014540891139286612 : Unit := ()
def Mine.hd.tw4015398097383911347 : Unit := ()
def Mine.hd.tw4086058157674990017 : Unit := ()
def Mine.hd.tw4115565904173853331 : Unit := ()
def Mine.hd.tw4172343393113369950 : Unit := ()
def Mine.hd.tw4225703048834024713 : Unit := ()
def Mine.hd.tw4343815846532229135 : Unit := ()
def Mine.hd.tw4360684699965382250 : Unit := ()
def Mine.hd.tw4402725079659364252 : Unit := ()
def Mine.hd.tw4494801613693538912 : Unit := ()
def Mine.hd.tw464777395874653626 : Unit := ()
def Mine.hd.tw4702841417184801058 : Unit := ()
def Mine.hd.tw4851647983119433812 : Unit := ()
def Mine.hd.tw5148922909946612681 : Unit := ()
def Mine.hd.tw5190246844813560578 : Unit := ()
def Mine.hd.tw5278057926702712004 : Unit := ()
def Mine.hd.tw5373601922739893978 : Unit := ()
def Mine.hd.tw5657824000916062451 : Unit := ()
def Mine.hd.tw5781342201191254626 : Unit := ()
def Mine.hd.tw5902613922787404954 : Unit := ()
def Mine.hd.tw5961118342813265553 : Unit := ()
def Mine.hd.tw5978321128707920903 : Unit := ()
def Mine.hd.tw5987830557187376847 : Unit := ()
def Mine.hd.tw6164396464334811476 : Unit := ()
def Mine.hd.tw6196171512934965099 : Unit := ()
def Mine.hd.tw6247832954751383110 : Unit := ()
def Mine.hd.tw6276725880618359904 : Unit := ()
def Mine.hd.tw6291416237084387574 : Unit := ()
def Mine.hd.tw6293948785866598258 : Unit := ()
def Mine.hd.tw6305734824756694309 : Unit := ()
def Mine.hd.tw6394381022753523788 : Unit := ()
def Mine.hd.tw6407587892757256292 : Unit := ()
def Mine.hd.tw6411954120941647267 : Unit := ()
def Mine.hd.tw6785817131721698500 : Unit := ()
def Mine.hd.tw6820862383352777685 : Unit := ()
def Mine.hd.tw701787995468756871 : Unit := ()
def Mine.hd.tw7023726343779634624 : Unit := ()
def Mine.hd.tw7028611270464810887 : Unit := ()
def Mine.hd.tw728884934406724761 : Unit := ()
def Mine.hd.tw7289634563603522867 : Unit := ()
def Mine.hd.tw7296583596125217682 : Unit := ()
def Mine.hd.tw7540655947842036084 : Unit := ()
def Mine.hd.tw7752767780024739350 : Unit := ()
def Mine.hd.tw7914949630228597729 : Unit := ()
def Mine.hd.tw8268277133935991078 : Unit := ()
def Mine.hd.tw8457440626546761165 : Unit := ()
def Mine.hd.tw8458067239894703972 : Unit := ()
def Mine.hd.tw8528377916044332809 : Unit := ()
def Mine.hd.tw8716120427605611371 : Unit := ()
def Mine.hd.tw8735263284916673568 : Unit := ()
def Mine.hd.tw8902478645137244967 : Unit := ()
def Mine.hd.tw9170477692918782315 : Unit := ()
def Mine.hd.tw922143313871775805 : Unit := ()
def Mine.hd.tw9277588360372424766 : Unit := ()
def Mine.hd.tw9386895884608548742 : Unit := ()
def Mine.hd.tw9421340871869096474 : Unit := ()
def Mine.hd.tw9566141503761928105 : Unit := ()
def Mine.hd.tw9641152695372364146 : Unit := ()
def Mine.hd.tw9673543361469618366 : Unit := ()
def Mine.hd.tw9719896912496429819 : Unit := ()
def Mine.hd.tw978945382295711627 : Unit := ()
def Mine.hd.tw991583007596301734 : Unit := ()
def Mine.hd.tw9960721518486171458 : Unit := ()
/-! the head, and the claim -/
set_option Elab.async true
theorem Mine.hd : PySem.Challenge.rw_wf0064_01.Holds := by
  w_on; o_law; k_head; (case hw => w_witness2)
  refine Mine.conv ?_ ?_ ?_ Mine.walk
  · kernel_rfl
  · kernel_rfl
  · kernel_rfl
set_option Elab.async false
theorem PySem.Challenge.cw_wf0064_01_holds : PySem.Challenge.rw_wf0064_01.Holds := by
  exact Mine.hd
