import PyProof.Rows.All
import Wide.All
import OpenK.AllK
import Wide.FinOn
import KE.KTryDeepN
import KE.KDictNew
import Lean
import PySem.Challenge.RW_in0109_01
section
open PySem PySem.W PyProof.Rows
set_option Elab.async false
set_option maxRecDepth 100000
set_option maxHeartbeats 8000000
namespace Mine
/-- the text without the rows of module names -/
noncomputable def view : Program := { PySem.Challenge.rw_in0109_01.row.prog with main := { PySem.Challenge.rw_in0109_01.row.prog.main with body := PySem.Challenge.rw_in0109_01.row.prog.main.body.filter fun s => match s with | .Assign .. => false | _ => true } }
theorem said1 : namesResolve PySem.Challenge.rw_in0109_01.row.prog = true := by kernel_rfl
theorem said2 : looksOpen PySem.Challenge.rw_in0109_01.row.prog = true := by
  delta looksOpen
  rw [said1]
  kernel_rfl
theorem said3 : PySem.Challenge.rw_in0109_01.row.partSaid = true := by
  delta OpenRow.partSaid
  rw [said2]
  kernel_rfl
theorem said4 : PySem.Challenge.rw_in0109_01.row.wellSaid = true := by
  delta OpenRow.wellSaid
  rw [said3]
  kernel_rfl
theorem said0 : PySem.Challenge.rw_in0109_01.wellSaid = true := by
  delta OpenLaw.wellSaid
  rw [said4]
  kernel_rfl
local macro_rules
  | `(tactic| o_law) => `(tactic| refine holds_law Mine.said0 fun said => ?_)
local macro_rules
  | `(tactic| o_head $H) => `(tactic| (
      refine holds_open (q := Mine.view) (loose := [Str.ofString "NestedDict"]) (Xt := fun s => xlAt Mine.view [] s && recOk (RowW.records PySem.Challenge.rw_in0109_01.row.toRowW) s) (XP := XL Mine.view []) (Yf := Hook.obs $H) (Ya := Hook.val $H) (YP := Hook.says $H) (N := 3144) ?hl (Hook.of $H) (Hook.keeps $H) (fun s e => xl_of s (Bool.and_eq_true_iff.mp e).1) XL.keeps (by rfl) (by rfl) (by rfl) (fun s e => recFacts_of (Bool.and_eq_true_iff.mp e).2) (by rfl) ?k4 ?k5 ?k6 ?hw ?hc
      (case hl => intro w; kernel_rfl)
      (case k4 => assumption)
      (case k5 => decide +kernel)
      (case k6 => exact ⟨rfl, rfl, rfl, rfl, rfl, by decide +kernel⟩)))
open_top hd for PySem.Challenge.rw_in0109_01
end Mine
end
section
open PySem PySem.W PyProof.Rows PySem.Calls
set_option Elab.async false
set_option maxRecDepth 100000
set_option maxHeartbeats 8000000
namespace Mine
section
variable {prog : Program} {w : World} {A : Around} {E : Value → Shared → Prop} {s : Shared}
theorem kind_isn : builtinKind "issubclass.nested" = none := by decide +kernel
theorem plain_isn : plainId "issubclass.nested" = true := by decide +kernel
theorem args_isn (a b c : Value) : argsOk "issubclass.nested" ⟨[a, b, c], []⟩ := by unfold argsOk; kernel_rfl
theorem tyT : typeOf (.type "str") = pure (.type "type") := by first | rfl | kernel_rfl
theorem subS : isSubtype (.type "str") (.type "str") = pure true := by rw [isSubtype_type]; kernel_rfl
theorem isn_str (k : Value) (dep : Int) (tk : Tok) (hk : k = .int dep tk) : Meets (Builtin.«issubclass.nested» ⟨[.type "str", .type "str", k], []⟩) (fun _ R s => R (.ok (.ret (.bool true))) s) := by
  intro prog w A R s h
  subst hk
  have h1 := tyT
  have h2 := subS
  repeat (any_goals (first | assumption | (rw [if_pos (by decide)]) | wp_step))
theorem isn_tuple {tp : Addr} {cs : List Value} {tk : Tok} {Q : Fin → Shared → Prop} (htp : s.heap.get? tp = some { cls := .type "tuple", data := .seq (Value.type "str" :: cs).toArray })
    (hq : Q (.done (.ret (.bool true))) s) : wpAny (model prog w) A (Builtin.«issubclass.nested» ⟨[.type "str", .ref tp, .int 0 tk], []⟩) Q E s := by
  obtain ⟨h, g, d, t, os⟩ := s
  have hT2 : (⟨h, g, d, t, os⟩ : Shared).TypeIs (.ref tp) "tuple" := ⟨_, htp, rfl⟩
  have f1 := F.isi_sub_tuple
  generalize hl : Value.type "str" :: cs = l at htp
  repeat (any_goals (first | assumption | wp_step))
  refine wpAny_arrayLoop ?_
  subst hl
  simp only [Option.getD_some, List.toList_toArray]
  rw [List.forIn_cons]
  refine wpAny_bind (wpAny_bind (call_function_meets kind_isn plain_isn PySem.F.entry_issubclass_nested (args_isn _ _ _) (isn_str _ _ _ rfl) ?_))
  show wpAny _ _ (truthy (.bool true) >>= _) _ _ _
  refine wpAny_bind (m := truthy (.bool true)) (wpAny_pure ?_)
  exact wpAny_bind (wpAny_pure (wpAny_pure (wpAny_pure (wpAny_pure hq))))
theorem call_issub {tp : Addr} {cs : List Value} {Q : Value → Shared → Prop} (htp : s.heap.get? tp = some { cls := .type "tuple", data := .seq (Value.type "str" :: cs).toArray })
    (hq : Q (.bool true) s) : wpAny (model prog w) A (call (.builtin "issubclass") [.type "str", .ref tp]) Q E s :=
  call_issubclass (S := fun A R s' => s' = s ∧ R (.ok (.ret (.bool true))) s) (fun prog w A R s' hs => by
    obtain ⟨rfl, hR⟩ := hs
    exact issubclass_outer (isn_tuple htp hR)) ⟨rfl, hq⟩
end
end Mine
end
section
open PySem PySem.W PyProof.Rows PySem.Calls
set_option Elab.async false
set_option maxRecDepth 100000
set_option maxHeartbeats 4000000
set_option linter.unusedVariables false
namespace Mine
set_option genInjectivity false
set_option genSizeOf false
abbrev Led := List (Addr × Obj)
abbrev Binds := List (Str × Option Value)
def bget : Binds → Str → Option Value
  | [], _ => none
  | (x, o) :: r, y => if y = x then o else bget r y
abbrev never : Value → Shared → Prop := fun _ _ => False
noncomputable abbrev VV : Program := Mine.view
noncomputable abbrev LL : List Str := looseW Mine.view [Str.ofString "NestedDict"]
noncomputable abbrev PP : Program := PySem.Challenge.rw_in0109_01.row.prog
abbrev topA (dp un : Nat) (gd : Option (List Code)) (env : Env) (outer : List Env) : Around := { handled := none, depth := dp, frames := some (env :: outer), guards := gd, units := un }
structure Cx where
  w : World
  mean : ExcName → Option Value
  mg : Str → Option Value
  mb : Str → Option Value
  dp : Nat
  un : Nat
  gd : Option (List Code)
  outer : List Env
  A₀ : Around
  base : Heap
  g : Heap
  L : Addr
  cn : Str
  cd : Value
  a : Addr
structure Cx.Ok (c : Cx) (dz : Nat) : Prop where
  B : Below c.A₀ c.base c.outer c.g
  X : (Mine.hd.heap_1 (c.w).params).In c.g
  T : Top VV LL c.mean c.mg c.mb c.g
  h1 : c.dp + dz < recursionLimit
  h2 : c.un + 8 * dz + 8 < cLine
structure Fx where
  c : Cx
  dz : Nat
  cs : Scope
  cl : List (Str × Addr)
abbrev Fx.env (f : Fx) : Env := envX f.c.cn f.cs f.c.L f.c.a f.c.cd f.cl
abbrev Fx.A (f : Fx) : Around := topA f.c.dp f.c.un f.c.gd f.env f.c.outer
abbrev Fx.Ok (f : Fx) : Prop := f.c.Ok f.dz
abbrev Fx.F (f : Fx) (h : Heap) (b : Binds) : Prop := Fr f.c.g f.c.L h (bget b)
abbrev Fx.N (f : Fx) (h : Heap) (N : Led) : Prop := News f.c.g f.c.L h N
noncomputable abbrev Fx.Wp {α : Type} (f : Fx) (t : Sem α) (Q : α → Shared → Prop) (E : Value → Shared → Prop) (s : Shared) : Prop := wpAny (model PP f.c.w) f.A t Q E s
/-- the judgment of a tree: from binds b and ledger N to an answer and a ledger -/
def Jd {α : Type} (f : Fx) (b : Binds) (N : Led) (t : Sem α) (R : α → Led → Prop) : Prop :=
  ∀ (s : Shared) (Q : α → Shared → Prop) (E : Value → Shared → Prop), f.Ok → f.F s.heap b → f.N s.heap N →
    (∀ v h tk N', f.F h b → f.N h N' → R v N' → Q v { s with heap := h, toks := tk }) → f.Wp t Q E s
/-- what every form but a few gives its callers -/
structure PE (e : Expr) : Prop where
  arg : ∀ (en : Env) (rest : List Expr), starEach (e :: rest) en = (false, eval e en) :: starEach rest en
  fold : ∀ (en : Env) (x : Value), foldedSetIterable e en x = pure x
  marks : ∀ op, behindInMarks op e = false
  sub : ∀ o i : Value, subscripted e false o i = operate [o, i] (getItem o i)
/-- e, of a plain form, from b and N, answers as R says -/
structure Ev (f : Fx) (en : Env) (b : Binds) (N : Led) (e : Expr) (R : Value → Led → Prop) : Prop where
  pe : PE e
  jd : Jd f b N (eval e en) R
def Is {α : Type} (N : Led) (a : α) : α → Led → Prop := fun v N' => v = a ∧ N' = N
def IsS (N : Led) (x : Str) : Value → Led → Prop := fun v N' => (∃ t, v = .str x t) ∧ N' = N
def IsI (N : Led) (n : Int) : Value → Led → Prop := fun v N' => (∃ t, v = .int n t) ∧ N' = N
abbrev Tr (f : Fx) (en : Env) (b : Binds) (N : Led) (e : Expr) (p : Bool) : Prop := Jd f b N (PySem.isTrue e en (eval e en)) (Is N p)
abbrev Ags (f : Fx) (en : Env) (b : Binds) (N : Led) (pos : Pos) (es : List Expr) (R : List Value → Led → Prop) : Prop := Jd f b N (spliced (backTo pos (starEach es en))) R
abbrev EvV (f : Fx) (en : Env) (b : Binds) (N : Led) (e : Expr) (a : Value) : Prop := Ev f en b N e (Is N a)
abbrev EvS (f : Fx) (en : Env) (b : Binds) (N : Led) (e : Expr) (x : Str) : Prop := Ev f en b N e (IsS N x)
abbrev EvI (f : Fx) (en : Env) (b : Binds) (N : Led) (e : Expr) (n : Int) : Prop := Ev f en b N e (IsI N n)
/-- the judgment of a block -/
def Js (f : Fx) (b : Binds) (N : Led) (t : Sem Flow) (K : Flow → Binds → Led → Prop) : Prop :=
  ∀ (s : Shared) (Q : Flow → Shared → Prop) (E : Value → Shared → Prop), f.Ok → f.F s.heap b → f.N s.heap N →
    (∀ fl b' h tk N', f.F h b' → f.N h N' → K fl b' N' → Q fl { s with heap := h, toks := tk }) → f.Wp t Q E s
abbrev Ex (f : Fx) (b : Binds) (N : Led) (st : Stmt) (K : Flow → Binds → Led → Prop) : Prop := Js f b N (exec st f.env) K
abbrev Exs (f : Fx) (b : Binds) (N : Led) (sts : List Stmt) (K : Flow → Binds → Led → Prop) : Prop := Js f b N (execs sts f.env) K
def Seq (f : Fx) (rest : List Stmt) (K : Flow → Binds → Led → Prop) : Flow → Binds → Led → Prop
  | .next, b, N => Exs f b N rest K
  | fl, b, N => K fl b N
def PEs : List Expr → Prop
  | [] => True
  | e :: r => PE e ∧ PEs r
theorem noStar {en : Env} {pos : Pos} : ∀ {es : List Expr}, PEs es → ((backTo pos (starEach es en)).any fun x => x.1) = false
  | [], _ => rfl
  | e :: r, h => by rw [h.1.arg en r]; exact noStar h.2
def MethOk (en : Env) (o : Expr) (name : Str) (apos : Pos) (args : List Expr) (pos : Pos) : Prop := ∃ pl, eval (.Call (.Attribute o name apos) args [] pos) en = (do let ov ← eval o en; standAt apos.atName; let (g, first) ← holding [ov] (getMethod ov name pl); callWith pos g first (backTo pos (starEach args en)) [])
def PlainT (en : Env) (e : Expr) : Prop := PySem.isTrue e en (eval e en) = (do let v ← eval e en; standAt e.pos; holding [v] (truthy v))
theorem pe_name {x pos} : PE (.Name x pos) := ⟨fun _ _ => rfl, fun _ _ => rfl, fun _ => rfl, fun _ _ => rfl⟩
theorem pe_const {x k pos} : PE (.Constant x k pos) := ⟨fun _ _ => rfl, fun _ _ => rfl, fun _ => rfl, fun _ _ => rfl⟩
theorem pe_cmp {l o r pos} : PE (.Compare l o r pos) := ⟨fun _ _ => rfl, fun _ _ => rfl, fun _ => rfl, fun _ _ => rfl⟩
theorem pe_bin {l o r pos} : PE (.BinOp l o r pos) := ⟨fun _ _ => rfl, fun _ _ => rfl, fun _ => rfl, fun _ _ => rfl⟩
theorem pe_subs {o i pos} : PE (.Subscript o i pos) := ⟨fun _ _ => rfl, fun _ _ => rfl, fun _ => rfl, fun _ _ => rfl⟩
theorem pe_tup {es k pos} : PE (.Tuple es k pos) := ⟨fun _ _ => rfl, fun _ _ => rfl, fun _ => rfl, fun _ _ => rfl⟩
theorem pe_lst {es pos} : PE (.List es pos) := ⟨fun _ _ => rfl, fun _ _ => rfl, fun _ => rfl, fun _ _ => rfl⟩
theorem pe_call {g a k pos} : PE (.Call g a k pos) := ⟨fun _ _ => rfl, fun _ _ => rfl, fun _ => rfl, fun _ _ => rfl⟩
theorem pe_un {o e pos} : PE (.UnaryOp o e pos) := ⟨fun _ _ => rfl, fun _ _ => rfl, fun _ => rfl, fun _ _ => rfl⟩
theorem pe_bool {o e pos} : PE (.BoolOp o e pos) := ⟨fun _ _ => rfl, fun _ _ => rfl, fun _ => rfl, fun _ _ => rfl⟩
theorem pe_if {c e g pos} : PE (.IfExp c e g pos) := ⟨fun _ _ => rfl, fun _ _ => rfl, fun _ => rfl, fun _ _ => rfl⟩
theorem let_str {o : Expr} {x : Str} {t : Tok} {r : Value} : letTemporaryGo o (.str x t) r = pure () := by cases o <;> rfl
/-- a global name, asked in en -/
def gB (en : Env) (x : Str) : Bool := en.globals == mainGlobals && en.builtins == builtinsNs && en.scope.kind == .function && en.kindOf x == some .globalImplicit
theorem gB_in {en : Env} {x : Str} (h : gB en x = true) : en.globals = mainGlobals ∧ en.builtins = builtinsNs ∧ en.scope.kind = .function ∧ en.kindOf x = some .globalImplicit := by
  unfold gB at h
  simp only [Bool.and_eq_true, beq_iff_eq] at h
  exact ⟨h.1.1.1, h.1.1.2, h.1.2, h.2⟩
/-- a name of the call's own -/
def lB (cs : Scope) (x : Str) (k : NameKind) : Bool := cs.kind == .function && cs.names.lookup x == some k && (x == ("__debug__" : Str)) == false
theorem lB_ok {f : Fx} {x : Str} {k : NameKind} (h : lB f.cs x k = true) : f.cs.kind = .function ∧ f.env.kindOf x = some k ∧ (x == ("__debug__" : Str)) = false := by
  unfold lB at h
  simp only [Bool.and_eq_true, beq_iff_eq] at h
  exact ⟨h.1.1, h.1.2, h.2⟩
section
variable {α : Type} {f : Fx} {b : Binds} {N : Led}
theorem Jd.mono {t : Sem α} {R R' : α → Led → Prop} (h : Jd f b N t R) (k : ∀ v N', R v N' → R' v N') : Jd f b N t R' :=
  fun s Q E ok F N q => h s Q E ok F N fun v hp tk N' F' M r => q v hp tk N' F' M (k v N' r)
theorem Jd.drop {t : Sem α} {R R' : α → Led → Prop} (h : Jd f b N t R) (k : ∀ v N', R v N' → ∃ N'', (∀ p ∈ N'', p ∈ N') ∧ R' v N'') : Jd f b N t R' :=
  fun s Q E ok F N q => h s Q E ok F N fun v hp tk N' F' M r => let ⟨N'', sub, r'⟩ := k v N' r; q v hp tk N'' F' (fun p m => M p (sub p m)) r'
theorem Js.mono {t : Sem Flow} {K K' : Flow → Binds → Led → Prop} (h : Js f b N t K) (k : ∀ v b' N', K v b' N' → K' v b' N') : Js f b N t K' :=
  fun s Q E ok F N q => h s Q E ok F N fun v b' hp tk N' F' M r => q v b' hp tk N' F' M (k v b' N' r)
theorem Js.drop {t : Sem Flow} {K : Flow → Binds → Led → Prop} {N₂ : Led} (h : Js f b N₂ t K) (k : ∀ p ∈ N₂, p ∈ N) : Js f b N t K :=
  fun s Q E ok F N q => h s Q E ok F (fun p m => N p (k p m)) q
theorem frw {g : Heap} {L : Addr} {h : Heap} {m m' : Str → Option Value} (F : Fr g L h m) (e : ∀ y, m y = m' y) : Fr g L h m' := by
  have : m = m' := funext e
  subst this; exact F
theorem Js.binds {t : Sem Flow} {K : Flow → Binds → Led → Prop} {b₂ : Binds} (h : Js f b₂ N t K) (e : ∀ y, bget b y = bget b₂ y) : Js f b N t K :=
  fun s Q E ok F N q => h s Q E ok (frw F e) N q
theorem put_frw {g : Heap} {L : Addr} {h : Heap} {b : Binds} {x : Str} {v : Value} (F : Fr g L h (fun y => if y = x then some v else bget b y)) : Fr g L h (bget ((x, some v) :: b)) := F
theorem Ev.mono {en : Env} {e : Expr} {R R' : Value → Led → Prop} (h : Ev f en b N e R) (k : ∀ v N', R v N' → R' v N') : Ev f en b N e R' := ⟨h.pe, h.jd.mono k⟩
theorem Ev.drop {en : Env} {e : Expr} {R R' : Value → Led → Prop} (h : Ev f en b N e R) (k : ∀ v N', R v N' → ∃ N'', (∀ p ∈ N'', p ∈ N') ∧ R' v N'') : Ev f en b N e R' := ⟨h.pe, h.jd.drop k⟩
-- names
theorem EvV.name {x : Str} {pos : Pos} {v : Value} (hv : bget b x = some v) (l : lB f.cs x .local = true) :
    EvV f f.env b N (.Name x pos) v := ⟨pe_name, fun s _ _ _ F N' q => nameX_L F hv (q v s.heap s.toks N F N' ⟨rfl, rfl⟩) (lB_ok l).1 (lB_ok l).2.1 (lB_ok l).2.2⟩
theorem EvS.of {en : Env} {e : Expr} {y : Str} {t : Tok} (h : EvV f en b N e (.str y t)) : EvS f en b N e y := h.mono fun v N' r => ⟨⟨t, r.1⟩, r.2⟩
theorem EvI.of {en : Env} {e : Expr} {y : Int} {t : Tok} (h : EvV f en b N e (.int y t)) : EvI f en b N e y := h.mono fun v N' r => ⟨⟨t, r.1⟩, r.2⟩
theorem EvV.cell {x : Str} {pos : Pos} {v : Value} {c : Addr} {o : Obj} (hc : f.cl.lookup x = some c) (hm : (c, o) ∈ N) (hd : o.data = .cell (some v)) (l : lB f.cs x .cell = true) :
    EvV f f.env b N (.Name x pos) v := ⟨pe_name, fun s _ _ _ F N' q => nameX_C N' hc hm hd (q v s.heap s.toks N F N' ⟨rfl, rfl⟩) (lB_ok l).1 (lB_ok l).2.1 (lB_ok l).2.2⟩
/-- a global name: of the text, or a builtin -/
def Glob (w : World) (x : Str) (v : Value) : Prop := ∀ (f : Fx) (en : Env) (s : Shared) (Q E : Value → Shared → Prop) (b : Binds) (pos : Pos), f.c.w = w → f.Ok → f.F s.heap b → en.globals = mainGlobals → en.builtins = builtinsNs → en.scope.kind = .function → en.kindOf x = some .globalImplicit → Q v s → f.Wp (eval (.Name x pos) en) Q E s
theorem Glob.text {w : World} {x : Str} {v : Value} (e : nsIn (Mine.hd.heap_1 (w).params) mainGlobals x = some (some v)) (hd : (x == ("__debug__" : Str)) = false) : Glob w x v := by
  rintro f en s Q E b pos rfl ok F hg hb hk hx h
  exact Name_function_global hk hx (loadGlobal_global (env := en) (by rw [hg]; exact (topRead_of ok.T).g.keeps F.keep) (mg_of ok.X (topRead_of ok.T).g e) h) hd
theorem Glob.blt {w : World} {x : Str} {v : Value} (e : nsIn (Mine.hd.heap_1 (w).params) mainGlobals x = some none) (hv : bootBuiltins x = some v) (hn : x ≠ "__name__") (hd : (x == ("__debug__" : Str)) = false) : Glob w x v := by
  rintro f en s Q E b pos rfl ok F hg hb hk hx h
  have T := topRead_of ok.T
  exact Name_function_global hk hx (loadGlobal_builtin (env := en) (by rw [hg]; exact T.g.keeps F.keep) (mg_none_of ok.X T.g e) (by rw [hb]; exact T.b.keeps F.keep) ((T.builtins x hn).trans hv) h) hd
theorem EvV.glob {en : Env} {x : Str} {pos : Pos} {v : Value} (g : Glob f.c.w x v) (hg : gB en x = true) :
    EvV f en b N (.Name x pos) v := ⟨pe_name, fun s _ _ ok F N' q => g f en s _ _ b pos rfl ok F (gB_in hg).1 (gB_in hg).2.1 (gB_in hg).2.2.1 (gB_in hg).2.2.2 (q v s.heap s.toks N F N' ⟨rfl, rfl⟩)⟩
theorem EvS.lit {en : Env} {x : Str} {k pos} : EvS f en b N (.Constant (.str x) k pos) x := ⟨pe_const, fun s _ _ _ F N' q => wpAny_Constant_str (q _ s.heap (s.toks + 1) N F N' ⟨⟨_, rfl⟩, rfl⟩)⟩
theorem EvI.lit {en : Env} {x : Int} {k pos} : EvI f en b N (.Constant (.int x) k pos) x := ⟨pe_const, fun s _ _ _ F N' q => wpAny_Constant_int (q _ s.heap (s.toks + 1) N F N' ⟨⟨_, rfl⟩, rfl⟩)⟩
theorem EvV.lit {en : Env} {x : Bool} {k pos} : EvV f en b N (.Constant (.bool x) k pos) (.bool x) := ⟨pe_const, fun s _ _ _ F N' q => wpAny_Constant_bool (q _ s.heap s.toks N F N' ⟨rfl, rfl⟩)⟩
-- arguments
theorem Ags.nil {en : Env} {pos : Pos} : Ags f en b N pos [] (Is N []) := fun s _ _ _ F N' q => args_nil (q _ s.heap s.toks N F N' ⟨rfl, rfl⟩)
theorem Ags.cons {en : Env} {e : Expr} {rest : List Expr} {pos : Pos} {R : Value → Led → Prop} {R' : List Value → Led → Prop} (he : Ev f en b N e R) (hr : ∀ v N₁, R v N₁ → Ags f en b N₁ pos rest (fun vs N₂ => R' (v :: vs) N₂)) : Ags f en b N pos (e :: rest) R' :=
  fun s _ _ ok F N' q => args_cons (he.jd s _ _ ok F N' fun v h tk N₁ F₁ M₁ r => hr v N₁ r _ _ _ ok F₁ M₁ fun vs h₂ tk₂ N₂ F₂ M₂ r₂ => q _ h₂ tk₂ N₂ F₂ M₂ r₂) (he.pe.arg en rest)
/-- one step behind another -/
theorem Jd.bind {β : Type} {t : Sem α} {k : α → Sem β} {R : α → Led → Prop} {R' : β → Led → Prop} (h : Jd f b N t R) (hk : ∀ v N', R v N' → Jd f b N' (k v) R') : Jd f b N (t >>= k) R' :=
  fun s _ _ ok F M q => wpAny_bind (h s _ _ ok F M fun v hp tk N' F' M' r => hk v N' r _ _ _ ok F' M' q)
theorem Ev.cmp {en : Env} {l r : Expr} {op : CmpOp} {pos : Pos} {R₁ R' : Value → Led → Prop} (hl : Ev f en b N l R₁) (hr : ∀ v N₁, R₁ v N₁ → Ev f en b N₁ r (fun u N₂ => Jd f b N₂ (compareOp op v u) R'))
    (hm : behindInMarks op r = false) : Ev f en b N (.Compare l [op] [r] pos) R' :=
  ⟨pe_cmp, fun s _ _ ok F M q => wpAny_Compare1 (hl.jd s _ _ ok F M fun v h tk N₁ F₁ M₁ r₁ => (hr v N₁ r₁).jd _ _ _ ok F₁ M₁ fun u h tk N₂ F₂ M₂ r₂ => r₂ _ _ _ ok F₂ M₂ q) hm⟩
theorem Ev.bin {en : Env} {l r : Expr} {op : Operator} {pos : Pos} {R₁ R' : Value → Led → Prop} (hl : Ev f en b N l R₁) (hr : ∀ v N₁, R₁ v N₁ → Ev f en b N₁ r (fun u N₂ => Jd f b N₂ (binaryOp op v u) R')) : Ev f en b N (.BinOp l op r pos) R' :=
  ⟨pe_bin, fun s _ _ ok F M q => wpAny_BinOp (hl.jd s _ _ ok F M fun v h tk N₁ F₁ M₁ r₁ => (hr v N₁ r₁).jd _ _ _ ok F₁ M₁ fun u h tk N₂ F₂ M₂ r₂ => r₂ _ _ _ ok F₂ M₂ q)⟩
theorem Ev.sub {en : Env} {o i : Expr} {pos : Pos} {R₁ R' : Value → Led → Prop} (hl : Ev f en b N o R₁) (hr : ∀ v N₁, R₁ v N₁ → Ev f en b N₁ i (fun u N₂ => Jd f b N₂ (subscriptTail o i v u) R')) : Ev f en b N (.Subscript o i pos) R' :=
  ⟨pe_subs, fun s _ _ ok F M q => Subscript_ (hl.jd s _ _ ok F M fun v h tk N₁ F₁ M₁ r₁ => (hr v N₁ r₁).jd _ _ _ ok F₁ M₁ fun u h tk N₂ F₂ M₂ r₂ => r₂ _ _ _ ok F₂ M₂ q)⟩
theorem Ev.tup {en : Env} {es : List Expr} {k : Nat} {pos : Pos} {RA : List Value → Led → Prop} {R' : Value → Led → Prop} (ha : Ags f en b N pos es RA) (hr : ∀ vs N₁, RA vs N₁ → Jd f b N₁ (newTuple vs) R') : Ev f en b N (.Tuple es k pos) R' :=
  ⟨pe_tup, fun s _ _ ok F M q => Tuple_ (ha s _ _ ok F M fun vs h tk N₁ F₁ M₁ r₁ => hr vs N₁ r₁ _ _ _ ok F₁ M₁ q)⟩
theorem Ev.lst {en : Env} {es : List Expr} {pos : Pos} {RA : List Value → Led → Prop} {R' : Value → Led → Prop} (ha : Ags f en b N pos es RA) (hr : ∀ vs N₁, RA vs N₁ → Jd f b N₁ (newList vs) R') : Ev f en b N (.List es pos) R' :=
  ⟨pe_lst, fun s _ _ ok F M q => List_ (ha s _ _ ok F M fun vs h tk N₁ F₁ M₁ r₁ => hr vs N₁ r₁ _ _ _ ok F₁ M₁ q)⟩
/-- a call of a name, of one argument or more -/
theorem Ev.callN {en : Env} {x : Str} {np pos : Pos} {e : Expr} {rest : List Expr} {id : String} {RA : List Value → Led → Prop} {R' : Value → Led → Prop} (g : Glob f.c.w x (.builtin id)) (ha : Ags f en b N pos (e :: rest) RA) (hr : ∀ vs N₁, RA vs N₁ → Jd f b N₁ (call (.builtin id) vs) R')
    (hg : gB en x = true)
    (hs : PEs (e :: rest)) : Ev f en b N (.Call (.Name x np) (e :: rest) [] pos) R' :=
  ⟨pe_call, fun s _ _ ok F M q => Call_ ((EvV.glob g hg).jd s _ _ ok F M fun v h tk N₁ F₁ M₁ r => by
    obtain ⟨rfl, rfl⟩ := r
    exact callWith_builtin1 (ha _ _ _ ok F₁ M₁ fun vs h tk N₂ F₂ M₂ r₂ => hr vs N₂ r₂ _ _ _ ok F₂ M₂ q) (hs.1.arg en rest) (noStar hs.2)) rfl⟩
/-- a method's call, of one argument or more -/
theorem Ev.meth {en : Env} {o : Expr} {name : Str} {apos pos : Pos} {e : Expr} {rest : List Expr} {id : String} {R : Value → Led → Prop} {RA : Value → List Value → Led → Prop} {R' : Value → Led → Prop} (ho : Ev f en b N o R)
    (hm : ∀ v N₁ pl, R v N₁ → Jd f b N₁ (getMethod v name pl) (Is N₁ (.builtin id, [v]))) (ha : ∀ v N₁, R v N₁ → Ags f en b N₁ pos (e :: rest) (RA v)) (hr : ∀ v vs N₁, RA v vs N₁ → Jd f b N₁ (call (.builtin id) (v :: vs)) R')
    (hs : PEs (e :: rest)) (hf : MethOk en o name apos (e :: rest) pos) :
    Ev f en b N (.Call (.Attribute o name apos) (e :: rest) [] pos) R' := by
  obtain ⟨pl, hf⟩ := hf
  exact ⟨pe_call, fun s _ _ ok F M q => MethodCall_ (pl := pl) (ho.jd s _ _ ok F M fun v h tk N₁ F₁ M₁ r => hm v N₁ pl r _ _ _ ok F₁ M₁ fun g h tk N₂ F₂ M₂ r₂ => by
    obtain ⟨rfl, rfl⟩ := r₂
    exact callWith_method1 (ha v _ r _ _ _ ok F₂ M₂ fun vs h tk N₃ F₃ M₃ r₃ => hr v vs N₃ r₃ _ _ _ ok F₃ M₃ q) (hs.1.arg en rest) (noStar hs.2)) hf⟩
-- conditions
theorem Tr.ofE {en : Env} {e : Expr} {p : Bool} {R : Value → Led → Prop} (h : Ev f en b N e R) (ht : ∀ v N₁, R v N₁ → Jd f b N₁ (truthy v) (Is N p)) (hp : PlainT en e) : Tr f en b N e p :=
  fun s _ _ ok F M q => isTrue_plain (h.jd s _ _ ok F M fun v h tk N₁ F₁ M₁ r => ht v N₁ r _ _ _ ok F₁ M₁ q) hp
theorem jd_tb {p : Bool} : Jd f b N (truthy (.bool p)) (Is N p) := fun s _ _ _ F M q => wpAny_truthy_bool (q _ _ _ _ F M ⟨rfl, rfl⟩)
theorem Tr.ofB {en : Env} {e : Expr} {p : Bool} (h : EvV f en b N e (.bool p)) (hp : PlainT en e) : Tr f en b N e p :=
  Tr.ofE h (fun v N₁ r => by obtain ⟨rfl, rfl⟩ := r; exact jd_tb) hp
theorem Tr.cmp {en : Env} {l r : Expr} {op : CmpOp} {pos : Pos} {p : Bool} {R₁ : Value → Led → Prop} (hl : Ev f en b N l R₁) (hr : ∀ v N₁, R₁ v N₁ → Ev f en b N₁ r (fun u N₂ => Jd f b N₂ (compareOp op v u) (Is N (.bool p))))
    (hm : behindInMarks op r = false) : Tr f en b N (.Compare l [op] [r] pos) p :=
  fun s _ _ ok F M q => wpAny_isTrue_Compare1 (hl.jd s _ _ ok F M fun v h tk N₁ F₁ M₁ r₁ => (hr v N₁ r₁).jd _ _ _ ok F₁ M₁ fun u h tk N₂ F₂ M₂ r₂ => r₂ _ _ _ ok F₂ M₂ fun x h tk N₃ F₃ M₃ r₃ => by
    obtain ⟨rfl, rfl⟩ := r₃; exact wpAny_truthy_bool (q _ _ _ _ F₃ M₃ ⟨rfl, rfl⟩)) hm
theorem Tr.not {en : Env} {e : Expr} {p : Bool} {pos : Pos} (h : Tr f en b N e p) : Tr f en b N (.UnaryOp .Not e pos) (!p) :=
  fun s _ _ ok F N' q => wpAny_isTrue_Not (h s _ _ ok F N' fun v h tk N₁ F₁ M₁ r => by obtain ⟨rfl, rfl⟩ := r; exact q _ _ _ _ F₁ M₁ ⟨rfl, rfl⟩)
theorem Tr.all {en : Env} {op : BoolOp} {es : List Expr} {pos : Pos} {p : Bool} (h : Jd f b N (allTrue op es en) (Is N p)) : Tr f en b N (.BoolOp op es pos) p := fun s _ _ ok F M q => wpAny_isTrue_BoolOp (h s _ _ ok F M q)
theorem jd_or {en : Env} {x : Expr} {rest : List Expr} {p q : Bool} (h : Tr f en b N x p) (hr : p = false → Jd f b N (allTrue .Or rest en) (Is N q)) : Jd f b N (allTrue .Or (x :: rest) en) (Is N (p || q)) :=
  fun s _ _ ok F M k => wpAny_allTrue_Or_cons (h s _ _ ok F M fun v h tk N₁ F₁ M₁ r => by
    obtain ⟨rfl, rfl⟩ := r
    cases v
    · exact hr rfl _ _ _ ok F₁ M₁ k
    · exact k _ _ _ _ F₁ M₁ ⟨rfl, rfl⟩)
theorem jd_and {en : Env} {x : Expr} {rest : List Expr} {p q : Bool} (h : Tr f en b N x p) (hr : p = true → Jd f b N (allTrue .And rest en) (Is N q)) : Jd f b N (allTrue .And (x :: rest) en) (Is N (p && q)) :=
  fun s _ _ ok F M k => wpAny_allTrue_And_cons (h s _ _ ok F M fun v h tk N₁ F₁ M₁ r => by
    obtain ⟨rfl, rfl⟩ := r
    cases v
    · exact k _ _ _ _ F₁ M₁ ⟨rfl, rfl⟩
    · exact hr rfl _ _ _ ok F₁ M₁ k)
theorem jd_or0 {en : Env} : Jd f b N (allTrue .Or [] en) (Is N false) := fun s _ _ _ F M k => wpAny_allTrue_Or_nil (k _ _ _ _ F M ⟨rfl, rfl⟩)
theorem jd_and0 {en : Env} : Jd f b N (allTrue .And [] en) (Is N true) := fun s _ _ _ F M k => wpAny_allTrue_And_nil (k _ _ _ _ F M ⟨rfl, rfl⟩)
-- statements
theorem Exs.nil {K : Flow → Binds → Led → Prop} (k : K .next b N) : Exs f b N [] K := fun s _ _ _ F N' q => wpAny_execs_nil (q .next b s.heap s.toks N F N' k)
theorem Exs.cons {st : Stmt} {rest : List Stmt} {K : Flow → Binds → Led → Prop} (h : Ex f b N st (Seq f rest K)) : Exs f b N (st :: rest) K :=
  fun s _ _ ok F N' q => wpAny_execs_cons (h s _ _ ok F N' fun fl b' hp tk N'' F' M' r => by
    cases fl
    · exact r _ _ _ ok F' M' q
    all_goals exact q _ _ _ _ _ F' M' r)
theorem Ex.ret {e : Expr} {pos : Pos} {R : Value → Led → Prop} {K : Flow → Binds → Led → Prop} (h : Ev f f.env b N e R) (k : ∀ v N', R v N' → K (.ret v) b N') : Ex f b N (.Return (some e) pos) K :=
  fun s _ _ ok F N' q => wpAny_Return_some (h.jd s _ _ ok F N' fun v hp tk N'' F' M' r => q _ _ _ _ _ F' M' (k v N'' r))
theorem Ex.asg {x : Str} {e : Expr} {px pos : Pos} {R : Value → Led → Prop} {K : Flow → Binds → Led → Prop} (h : Ev f f.env b N e R) (k : ∀ v N', R v N' → K .next ((x, some v) :: b) N')
    (hs : swapsWith e (some (.Name x px)) pos.line f.env = pure false) (l : lB f.cs x .local = true) : Ex f b N (.Assign [.Name x px] e pos) K :=
  fun s _ _ ok F N' q => wpAny_Assign_Name (h.jd s _ _ ok F N' fun v hp tk N'' F' M' r => storeX_L F' M' (fun h' F₂ M₂ => q _ _ _ _ _ (put_frw F₂) M₂ (k v N'' r)) (lB_ok l).1 (lB_ok l).2.1) hs
theorem Ex.ite {e : Expr} {p : Bool} {body orelse : List Stmt} {pos : Pos} {K : Flow → Binds → Led → Prop} (h : Tr f f.env b N e p) (k : Exs f b N (if p then body else orelse) K) : Ex f b N (.If e body orelse pos) K :=
  fun s _ _ ok F N' q => wpAny_If (h s _ _ ok F N' fun v hp tk N'' F' M' r => by
    obtain ⟨rfl, rfl⟩ := r
    cases v
    · exact k _ _ _ ok F' M' q
    · exact k _ _ _ ok F' M' q)
theorem Ex.cont {pos : Pos} {K : Flow → Binds → Led → Prop} (k : K .cont b N) : Ex f b N (.Continue pos) K := fun s _ _ _ F N' q => wpAny_Continue (q _ _ s.heap s.toks _ F N' k)
theorem Ex.brk {pos : Pos} {K : Flow → Binds → Led → Prop} (k : K .brk b N) : Ex f b N (.Break pos) K := fun s _ _ _ F N' q => wpAny_Break (q _ _ s.heap s.toks _ F N' k)
end
end Mine
end
section
open PySem PySem.W PyProof.Rows PySem.Calls
set_option Elab.async false
set_option maxRecDepth 100000
set_option maxHeartbeats 4000000
set_option linter.unusedVariables false
namespace Mine
def Apart (nw news : Led) : Prop := ∀ p ∈ nw, ∀ q ∈ news, q.1 ≠ p.1
/-- a call of the text's def at f, of objects that it reads alone -/
def Pure (w : World) (f : Addr) (dz : Nat) (rd : Led) (vs : List Value) (R : Value → Led → Prop) : Prop :=
  ∀ (mean : ExcName → Option Value) (mg mb : Str → Option Value) (dp un : Nat) (gd : Option (List Code)) (env : Env) (outer : List Env) (A₀ : Around) (base h₀ : Heap) (L : Addr) (m : Str → Option Value) (s : Shared) (Q E : Value → Shared → Prop) (news : Led),
    Below A₀ base outer h₀ → (Mine.hd.heap_1 (w).params).In h₀ → Top VV LL mean mg mb h₀ → env.frame = some L → env.scope.kind = .function → dp + dz < recursionLimit → un + 8 * dz + 8 < cLine →
    Fr h₀ L s.heap m → News h₀ L s.heap news → (∀ p ∈ rd, p ∈ news ∨ h₀.get? p.1 = some p.2) →
    (∀ r h' tk' nw, Fr h₀ L h' m → News h₀ L h' (nw ++ news) → Apart nw news → R r nw → Q r { s with heap := h', toks := tk' }) →
    wpAny (model PP w) (topA dp un gd env outer) (call (.ref f) vs) Q E s
theorem pure_back {h₀ h h' : Heap} {L L' : Addr} {m m' : Str → Option Value} {news nw : Led} (F : Fr h₀ L h m) (N : News h₀ L h news) (F' : Fr h L' h' m') (N' : News h L' h' nw) :
    Fr h₀ L h' m ∧ News h₀ L h' (nw ++ news) ∧ Apart nw news := by
  obtain ⟨oL, es, ep, hL, r⟩ := F.ns
  have hL₀ : ∀ p ∈ nw, p.1 ≠ L := fun p hp q => by have z := (N' p hp).2.2; rw [q, hL] at z; cases z
  refine ⟨⟨⟨oL, es, ep, F'.keep _ _ hL, r⟩, fun b o e => F'.keep _ _ (F.keep _ _ e), F.above⟩, fun p hp => ?_, fun p hp q hq e => ?_⟩
  · rcases List.mem_append.mp hp with hp | hp
    · refine ⟨(N' p hp).1, hL₀ p hp, ?_⟩
      cases q : h₀.get? p.1 with
      | none => rfl
      | some o => have z := (N' p hp).2.2; rw [F.keep _ _ q] at z; cases z
    · exact ⟨F'.keep _ _ (N p hp).1, (N p hp).2⟩
  · have z := (N' p hp).2.2
    rw [← e, (N q hq).1] at z; cases z
def ofB (bl : List (Str × Value)) : Binds := bl.map fun p => (p.1, some p.2)
theorem ofB_frw {g : Heap} {L : Addr} {h : Heap} {bl : List (Str × Value)} (F : Fr g L h (fun y => bl.lookup y)) : Fr g L h (bget (ofB bl)) := frw F fun y => by
  clear F
  induction bl with
  | nil => rfl
  | cons p r ih =>
    rw [List.lookup_cons]
    show _ = if y = p.1 then some p.2 else bget (ofB r) y
    by_cases e : y = p.1
    · rw [if_pos e, e, beq_self_eq_true]
    · rw [if_neg e, beq_false_of_ne e]; exact ih
/-- how a body is left -/
def RetN (R : Value → Led → Prop) : Flow → Binds → Led → Prop := fun fl _ N' => ∃ v nw, (fl = .ret v ∨ (fl = .next ∧ v = .none)) ∧ (∀ p ∈ nw, p ∈ N') ∧ R v nw
theorem RetN.mk {R : Value → Led → Prop} {v : Value} {N : Led} (r : R v []) : RetN R (.ret v) [] N := ⟨v, [], .inl rfl, (fun _ h => nomatch h), r⟩
theorem enter {w : World} {dz : Nat} {rd : Led} {vs : List Value} {R : Value → Led → Prop} {name qual : Str} {params : Arguments} {body : List Stmt} {scope : Scope} {dV kV doc pm cdv ct oc : Value} {an od : Option Addr} {osl : Array (Option Value)} {f : Addr} (bl : List (Str × Value))
    (ho : (Mine.hd.heap_1 (w).params).lookup f = some ⟨oc, od, .func (fnOf name qual params body scope dV kV doc pm an cdv ct), osl⟩) (hcd : codeIn (Mine.hd.heap_1 (w).params) cdv qual = true)
    (hbind : ∀ s, (Mine.hd.heap_1 (w).params).In s.heap → BindsTo s (fnOf name qual params body scope dV kV doc pm an cdv ct) ⟨vs, []⟩ bl.reverse ) (hloc : ∀ y ∈ bl.reverse, scope.names.lookup y.1 = some .local)
    (hco : scope.isCoroutine = false) (hgen : scope.isGenerator = false) (hk : scope.kind = .function)
    (hcell : ∀ x ∈ scope.names, x.2 ≠ .cell)
    (h : ∀ c : Cx, c.w = w → (∀ p ∈ rd, c.g.get? p.1 = some p.2) → Exs ⟨c, dz, scope, []⟩ (ofB bl) [] body (RetN R)) : Pure w f (dz + 1) rd vs R := by
  intro mean mg mb dp un gd env outer A₀ base h₀ L m s Q E news B X T hf hke h1 h2 F N hrd ret
  have XS := X.keeps F.keep
  have TS := T.keeps F.keep
  refine wpAny_call (codeAny_call_def (fd := fnX name qual params body scope [] dV kV doc pm an cdv ct) (body := body) (binds := bl.reverse) (show dp < recursionLimit by omega) (XS _ _ ho) rfl TS.nolimit (codeRec_of XS hcd) rfl (hbind s XS) hcell hloc (fun h₁ hns hk₁ => ?_) hco hgen hk)
  have B' := pushX B F hf hke
  rw [List.reverse_reverse] at hns
  refine wpAny_mono (h ⟨w, mean, mg, mb, dp + 1, un + 3, gd, env :: outer, topA dp un gd env outer, base, s.heap, s.heap.objs.size, qual, cdv, f⟩ rfl (fun p hp => (hrd p hp).elim (fun m => N.get m) fun m => F.keep _ _ m) { s with heap := h₁, toks := s.toks + bl.reverse.length } (fun fl s' => ∃ r, (fl = .ret r ∨ (fl = .next ∧ r = .none)) ∧ Q r s') never ⟨⟨rfl, B'.stays, B'.frames⟩, XS, TS, by show dp + 1 + dz < _; omega, by show un + 3 + 8 * dz + 8 < _; omega⟩ (ofB_frw ⟨hns, hk₁, Nat.le_refl _⟩) News.nil ?_) (fun fl s' r => ?_) fun _ _ x => x.elim
  · rintro fl b' h₂ tk₂ nw F₂ N₂ ⟨v, nw', hv, sub, r⟩
    obtain ⟨F₃, N₃, ap⟩ := pure_back F N F₂ (fun p hp => N₂ p (sub p hp))
    exact ⟨v, hv, ret _ _ _ _ F₃ N₃ ap r⟩
  · obtain ⟨r, e | ⟨e, e2⟩, hq⟩ := r
    · subst e; exact hq
    · subst e; subst e2; exact hq
section
variable {f : Fx} {b : Binds} {N : Led} {en : Env}
/-- a def of the text, by its name -/
def Fun (w : World) (x : Str) (ad : Addr) : Prop := Glob w x (.ref ad) ∧ keepIn (Mine.hd.heap_1 (w).params) (.ref ad) = true
theorem Ev.call {x : Str} {np pos : Pos} {e : Expr} {rest : List Expr} {ad : Addr} {RA : List Value → Led → Prop} {R' : Value → Led → Prop}
    (g : Fun f.c.w x ad) (ha : Ags f en b N pos (e :: rest) RA)
    (hc : ∀ vs N₁, RA vs N₁ → ∃ rd dz R, Pure f.c.w ad dz rd vs R ∧ dz ≤ f.dz ∧ (∀ p ∈ rd, p ∈ N₁ ∨ f.c.g.get? p.1 = some p.2) ∧ ∀ r nw, Apart nw N₁ → R r nw → R' r (nw ++ N₁))
    (hg : gB en x = true) (hs : PEs (e :: rest)) (hfk : f.cs.kind = .function) : Ev f en b N (.Call (.Name x np) (e :: rest) [] pos) R' :=
  ⟨pe_call, fun s Q E ok F M q => Call_ ((EvV.glob g.1 hg).jd s _ _ ok F M fun v h tk N₁ F₁ M₁ r => by
    obtain ⟨rfl, rfl⟩ := r
    refine callWith_K (ok.X.keeps F₁.keep) g.2 (ha _ _ _ ok F₁ M₁ fun vs h₂ tk₂ N₂ F₂ M₂ r₂ => ⟨ok.X.keeps F₂.keep, ?_⟩) (hs.1.arg en rest) (noStar hs.2)
    obtain ⟨rd, dz, R, C, le, hrd, hr⟩ := hc vs N₂ r₂
    refine C _ _ _ _ _ _ _ _ _ _ _ _ _ _ _ _ _ ok.B ok.X ok.T rfl hfk (by have := ok.h1; show f.c.dp + dz < _; omega) (by have := ok.h2; show f.c.un + 8 * dz + 8 < _; omega) F₂ M₂ hrd ?_
    intro r h' tk' nw F₃ N₃ ap hR
    exact q _ _ _ _ F₃ N₃ (hr r nw ap hR)) rfl⟩
/-- an answer that is the text y -/
def GS (y : Str) (r : Value) (nw : Led) : Prop := ∃ t, r = .str y t ∧ nw = []
theorem GS.of {x y : Str} {t : Tok} (e : x = y) : GS y (.str x t) [] := ⟨t, by rw [e], rfl⟩
/-- arguments: one text, two texts -/
theorem Ags.one {pos : Pos} {e : Expr} {u : Str} (h : EvS f en b N e u) : Ags f en b N pos [e] (fun vs N' => (∃ t, vs = [.str u t]) ∧ N' = N) :=
  Ags.cons h fun v N₁ r => Ags.nil.mono fun vs N₂ r₂ => by obtain ⟨⟨t, rfl⟩, rfl⟩ := r; obtain ⟨rfl, rfl⟩ := r₂; exact ⟨⟨t, rfl⟩, rfl⟩
theorem Ags.two {pos : Pos} {e e2 : Expr} {u u2 : Str} (h : EvS f en b N e u) (h2 : EvS f en b N e2 u2) : Ags f en b N pos [e, e2] (fun vs N' => (∃ t t2, vs = [.str u t, .str u2 t2]) ∧ N' = N) :=
  Ags.cons h fun v N₁ r => by
    obtain ⟨⟨t, rfl⟩, rfl⟩ := r
    exact (Ags.one h2).mono fun vs N₂ r₂ => by obtain ⟨⟨t2, rfl⟩, rfl⟩ := r₂; exact ⟨⟨t, t2, rfl⟩, rfl⟩
theorem Ags.oneV {pos : Pos} {e : Expr} {a : Value} (h : EvV f en b N e a) : Ags f en b N pos [e] (Is N [a]) :=
  Ags.cons h fun v N₁ r => Ags.nil.mono fun vs N₂ r₂ => by obtain ⟨rfl, rfl⟩ := r; obtain ⟨rfl, rfl⟩ := r₂; exact ⟨rfl, rfl⟩
theorem EvS.call1 {x : Str} {np pos : Pos} {e : Expr} {ad : Addr} {dz : Nat} {u y : Str}
    (g : Fun f.c.w x ad) (C : ∀ t, Pure f.c.w ad dz [] [.str u t] (GS y)) (ha : EvS f en b N e u) (le : Nat.ble dz f.dz = true) (hg : gB en x = true) (hfk : f.cs.kind = .function) : EvS f en b N (.Call (.Name x np) [e] [] pos) y :=
  Ev.call g (Ags.one ha) (fun vs N₁ r => by
      obtain ⟨⟨t, rfl⟩, rfl⟩ := r
      refine ⟨[], dz, _, C t, Nat.le_of_ble_eq_true le, (fun _ h => nomatch h), ?_⟩
      rintro r nw _ ⟨t, rfl, rfl⟩
      exact ⟨⟨t, rfl⟩, rfl⟩) hg ⟨ha.pe, trivial⟩ hfk
theorem EvS.call2 {x : Str} {np pos : Pos} {e e2 : Expr} {ad : Addr} {dz : Nat} {u u2 y : Str}
    (g : Fun f.c.w x ad) (C : ∀ t t2, Pure f.c.w ad dz [] [.str u t, .str u2 t2] (GS y)) (ha : EvS f en b N e u) (ha2 : EvS f en b N e2 u2) (le : Nat.ble dz f.dz = true) (hg : gB en x = true) (hfk : f.cs.kind = .function) : EvS f en b N (.Call (.Name x np) [e, e2] [] pos) y :=
  Ev.call g (Ags.two ha ha2) (fun vs N₁ r => by
      obtain ⟨⟨t, t2, rfl⟩, rfl⟩ := r
      refine ⟨[], dz, _, C t t2, Nat.le_of_ble_eq_true le, (fun _ h => nomatch h), ?_⟩
      rintro r nw _ ⟨t, rfl, rfl⟩
      exact ⟨⟨t, rfl⟩, rfl⟩) hg ⟨ha.pe, ha2.pe, trivial⟩ hfk
end
end Mine
end
section
open PySem PySem.W PyProof.Rows PySem.Calls
set_option Elab.async false
set_option maxRecDepth 100000
set_option maxHeartbeats 8000000
namespace Mine
set_option linter.unusedVariables false
theorem strs_values {vs : List Value} {xs : List Str} (h : StrsAre vs xs) : ∃ l : List (Str × Tok), strValues l = vs ∧ l.map (·.1) = xs := by
  induction h with
  | nil => exact ⟨[], rfl, rfl⟩
  | cons x u _ ih =>
    obtain ⟨l, e1, e2⟩ := ih
    exact ⟨(x, u) :: l, by rw [← e1]; rfl, by rw [← e2]; rfl⟩
theorem strs_get {vs : List Value} {cs : List Str} (h : StrsAre vs cs) : ∀ {i : Nat} {v : Value}, vs[i]? = some v → ∃ c t, v = .str c t ∧ cs[i]? = some c := by
  induction h with
  | nil => intro i v e; simp at e
  | cons x u _ ih =>
    intro i v e
    cases i with
    | zero => simp at e; exact ⟨x, u, e.symm, rfl⟩
    | succ i => simp at e; simpa using ih e
theorem strs_len {vs : List Value} {cs : List Str} (h : StrsAre vs cs) : vs.length = cs.length := by
  induction h with
  | nil => rfl
  | cons _ _ _ ih => simp [ih]
theorem strs_snoc {y : Str} {t : Tok} {vs : List Value} {cs : List Str} (h : StrsAre vs cs) : StrsAre (vs ++ [.str y t]) (cs ++ [y]) := by
  induction h with
  | nil => exact .cons y t .nil
  | cons x u _ ih => exact .cons x u ih
theorem strs_drop {vs : List Value} {cs : List Str} (h : StrsAre vs cs) : StrsAre vs.dropLast cs.dropLast := by
  induction h with
  | nil => exact .nil
  | cons x u r ih =>
    cases r with
    | nil => exact .nil
    | cons y v r => exact .cons x u ih
section
variable {prog : Program} {w : World} {A : Around} {E : Value → Shared → Prop} {s : Shared} {h₀ : Heap} {L D : Addr} {m : Str → Option Value} {news news' : Led}
theorem join_K0 {x : Str} {t : Tok} {its : Array Value} {n : Nat} {xs : List Str} {Q : Value → Shared → Prop} (N : News h₀ L s.heap news) (hm : (D, W.listOf its n) ∈ news) (hs : StrsAre its.toList xs) (hz : (xs.map (·.length)).sum + xs.length * x.length ≤ 16777216)
    (h : ∀ t' k, Q (.str (Txt.join x xs) t') { s with toks := k }) : wpAny (model prog w) A (call (.builtin "str.join") [.str x t, .ref D]) Q E s := by
  obtain ⟨l, e1, e2⟩ := strs_values hs
  refine SC.join (l := l) ?_ e2 (joinOk_of hz) h
  rw [e1]
  exact News.isList N (by simpa using hm)
theorem truthy_listK {its : Array Value} {n : Nat} {b : Bool} {Q : Bool → Shared → Prop} (N : News h₀ L s.heap news) (hm : (D, W.listOf its n) ∈ news) (hz : its.size ≤ 16777216) (hb : (!its.isEmpty) = b) (h : ∀ k, Q b { s with toks := k }) :
    wpAny (model prog w) A (truthy (.ref D)) Q E s := wpAny_truthy_list (News.isList N hm) (by omega) (by rw [hb]; exact h _)
theorem pop_K {its : Array Value} {n : Nat} {y : Value} {Q : Value → Shared → Prop} (F : Fr h₀ L s.heap m) (N : News h₀ L s.heap news) (U : Upd D (W.listOf its n) (W.listOf its.pop (n + 1)) news news') (hy : its[its.size - 1]? = some y) (hz : its.size ≤ sizeLine)
    (h : ∀ h', Fr h₀ L h' m → News h₀ L h' news' → Q y { s with heap := h' }) : wpAny (model prog w) A (call (.builtin "list.pop") [.ref D]) Q E s := by
  obtain ⟨pre, post, rfl, rfl, a, c⟩ := U.split
  have z := N (D, W.listOf its n) (by simp)
  have hpos : 0 < its.size := by
    rcases Nat.eq_zero_or_pos its.size with h0 | h0
    · have : its[its.size - 1]? = none := Array.getElem?_eq_none (by omega)
      rw [this] at hy; cases hy
    · exact h0
  have e : (its.eraseIdxIfInBounds (its.size - 1)) = its.pop := by
    have hlt : its.size - 1 < its.size := by omega
    apply Array.ext'
    unfold Array.eraseIdxIfInBounds
    rw [dif_pos hlt, Array.toList_eraseIdx, Array.toList_pop, List.dropLast_eq_take, List.eraseIdx_eq_take_drop_succ]
    have : its.toList.length = its.size := by simp
    rw [List.drop_eq_nil_of_le (by omega), this]
    simp
  obtain ⟨F', N'⟩ := news_upd (f := Obj.mapSeq fun xs => xs.eraseIdxIfInBounds (its.size - 1)) (o' := W.listOf its.pop (n + 1)) F N a c (by
    show ({ cls := _, dict := _, data := Data.seq (its.eraseIdxIfInBounds (its.size - 1)) (if ((its.eraseIdxIfInBounds (its.size - 1)).size == its.size) = true then n else n + 1), slots := _ } : Obj) = _
    rw [e, if_neg (by simp; omega)]) rfl
  exact call_meets PySem.F.slot_list_pop ⟨_, z.1, rfl⟩ PySem.F.entry_list_pop (PySem.F.args_list_pop_1 _) (MeetsSeq.list_pop_last D its n y hy hz) ⟨z.1, h _ F' N'⟩
theorem last_K {value slice : PySem.Expr} {its : Array Value} {n : Nat} {t : Tok} {v : Value} {Q : Value → Shared → Prop} (N : News h₀ L s.heap news) (hm : (D, W.listOf its n) ∈ news) (hv : its.back? = some v) (h : Q v s)
    (hs : subscripted slice false (.ref D) (.int (-1) t) = operate [.ref D, .int (-1) t] (getItem (.ref D) (.int (-1) t)) := by with_unfolding_all rfl) :
    wpAny (model prog w) A (subscriptTail value slice (.ref D) (.int (-1) t)) Q E s := by
  have hl := News.isList N hm
  have hpos : 0 < its.size := by
    rcases Nat.eq_zero_or_pos its.size with h0 | h0
    · have : its.back? = none := by simp [Array.eq_empty_of_size_eq_zero h0]
      rw [this] at hv; cases hv
    · exact h0
  refine tail_any hl.typeIs PySem.slot_list_getitem.lookup (wpAny_getItem_list_neg hl (by decide) (by omega) (by decide) ?_ h) hs
  rw [← hv, Array.back?_eq_getElem?]
  congr 1
  omega
theorem strs_of_values : ∀ l : List (Str × Tok), StrsAre (strValues l) (l.map (·.1)) := by
  intro l
  induction l with
  | nil => exact .nil
  | cons p r ih => exact .cons p.1 p.2 ih
open PySem.Builtin.Str in
theorem split_K {x y : Str} {t u : Tok} {Q : Value → Shared → Prop} (F : Fr h₀ L s.heap m) (N : News h₀ L s.heap news) (hy : (y.length == 0) = false) (hx : x.length ≤ sizeLine) (hl : (Txt.split x y).length ≤ sizeLine)
    (h : ∀ D its h' tk, Fr h₀ L h' m → News h₀ L h' ((D, W.listOf its 0) :: news) → (∀ p ∈ news, p.1 < D) → StrsAre its.toList (Txt.split x y) → Q (.ref D) { s with heap := h', toks := tk }) :
    wpAny (model prog w) A (call (.builtin "str.split") [.str x t, .str y u]) Q E s := by
  have lo : ∀ p ∈ news, p.1 < s.heap.objs.size := fun p hp => Heap.lt_size (N p hp).1
  have one : Txt.split x y = [x] → Q (.ref s.heap.objs.size) { s with heap := s.heap.push { cls := .type "list", data := .seq [Value.str x t].toArray } } := fun e =>
    h s.heap.objs.size #[Value.str x t] _ s.toks (F.push _) (N.push F _) lo (by rw [e]; exact .cons x t .nil)
  cases h1 : (decide (x.length < y.length) || decide (strKind x < strKind y))
  · cases hf : (occurrences x y 0 x.length (x.length + 1)).isEmpty
    · have e : Txt.split x y = partsBetween x (occurrences x y 0 x.length (x.length + 1)) y.length := by
        show (if _ then _ else if _ then _ else _) = _
        rw [h1, hf]; rfl
      refine call_meets PySem.F.slot_str_split (typeIs_str _ _ _) PySem.F.entry_str_split (PySem.F.args_str_split_2 _ _) (meets_str_split_sep x y t u h1 hy hf hx (e ▸ hl)) ?_
      show wants Q E _ { s with toks := _, heap := s.heap.push { cls := .type "list", data := .seq (strsFrom s.toks (partsBetween x (occurrences x y 0 x.length (x.length + 1)) y.length)).toArray } }
      rw [strsFrom_eq]
      refine h s.heap.objs.size _ _ _ (F.push _) (N.push F _) lo ?_
      have z := strs_of_values (numbered s.toks (partsBetween x (occurrences x y 0 x.length (x.length + 1)) y.length))
      rw [numbered_texts] at z
      rw [e]
      exact z
    · refine call_meets PySem.F.slot_str_split (typeIs_str _ _ _) PySem.F.entry_str_split (PySem.F.args_str_split_2 _ _) (meets_str_split_not_found x y t u h1 hy hf) (one ?_)
      show (if _ then _ else if _ then _ else _) = _
      rw [h1, hf]; rfl
  · refine call_meets PySem.F.slot_str_split (typeIs_str _ _ _) PySem.F.entry_str_split (PySem.F.args_str_split_2 _ _) (meets_str_split_cannot_occur x y t u h1) (one ?_)
    show (if _ then _ else if _ then _ else _) = _
    rw [h1]; rfl
end
theorem sjoin_len (x : Str) : ∀ xs : List Str, (Str.join x xs).length ≤ (xs.map (·.length)).sum + xs.length * x.length := by
  intro xs
  induction xs with
  | nil => simp [Str.join, Str.empty, Str.length]
  | cons a r ih =>
    cases r with
    | nil => show a.length ≤ _; simp
    | cons b r =>
      show (a ++ x ++ Str.join x (b :: r)).length ≤ _
      rw [Str.length_append, Str.length_append, List.map_cons, List.sum_cons, List.length_cons, Nat.succ_mul]
      omega
theorem tjoin_eq (x : Str) (xs : List Str) : Txt.join x xs = Str.join x xs := StrLaws.glued_eq_join x xs
theorem tjoin_len (x : Str) (xs : List Str) : (Txt.join x xs).length ≤ (xs.map (·.length)).sum + xs.length * x.length := by rw [tjoin_eq]; exact sjoin_len x xs
section
variable {prog : Program} {w : World} {A : Around} {E : Value → Shared → Prop} {s : Shared} {h₀ : Heap} {L D : Addr} {m : Str → Option Value} {news news' : Led}
theorem join_K {x : Str} {t : Tok} {its : Array Value} {n : Nat} {xs : List Str} {Q : Value → Shared → Prop} (N : News h₀ L s.heap news) (hm : (D, W.listOf its n) ∈ news) (hs : StrsAre its.toList xs) (B : Nat) (hB : (xs.map (·.length)).sum + xs.length * x.length ≤ B) (hz : B ≤ 16777216)
    (h : ∀ t' k, (Txt.join x xs).length ≤ B → Q (.str (Txt.join x xs) t') { s with toks := k }) : wpAny (model prog w) A (call (.builtin "str.join") [.str x t, .ref D]) Q E s :=
  join_K0 N hm hs (Nat.le_trans hB hz) fun t' k => h t' k (Nat.le_trans (tjoin_len x xs) hB)
theorem truthy_pos {x : Str} {t : Tok} {Q : Bool → Shared → Prop} (hp : 1 ≤ x.length) (hz : x.length ≤ 100000) (h : ∀ k, Q true { s with toks := k }) : wpAny (model prog w) A (truthy (.str x t)) Q E s := KXt.truthy_pos hp hz (Nat.le_of_ble_eq_true rfl) h
theorem ne_strB {x y : Str} {t u : Tok} {b : Bool} {Q : Value → Shared → Prop} (e : (x != y) = b) (h : Q (.bool b) s) : wpAny (model prog w) A (compareOp .NotEq (.str x t) (.str y u)) Q E s := ne_str (by rw [e]; exact h)
theorem eq_strB {x y : Str} {t u : Tok} {b : Bool} {Q : Value → Shared → Prop} (e : (x == y) = b) (h : Q (.bool b) s) : wpAny (model prog w) A (compareOp .Eq (.str x t) (.str y u)) Q E s := eq_str (by rw [e]; exact h)
theorem split_E {x y : Str} {t u : Tok} {zs : List Str} {Q : Value → Shared → Prop} (F : Fr h₀ L s.heap m) (N : News h₀ L s.heap news) (hy : (y.length == 0) = false) (hx : x.length ≤ 100000) (hsp : Txt.split x y = zs) (hl : zs.length ≤ 100000)
    (h : ∀ D its h' tk, Fr h₀ L h' m → News h₀ L h' ((D, W.listOf its 0) :: news) → (∀ p ∈ news, p.1 < D) → StrsAre its.toList zs → Q (.ref D) { s with heap := h', toks := tk }) :
    wpAny (model prog w) A (call (.builtin "str.split") [.str x t, .str y u]) Q E s :=
  split_K F N hy (Nat.le_trans hx (Nat.le_of_ble_eq_true rfl)) (Nat.le_trans (hsp ▸ hl) (Nat.le_of_ble_eq_true rfl)) fun D its h' tk F' N' lo hs => h D its h' tk F' N' lo (hsp ▸ hs)
end
end Mine
end
section
open PySem PySem.W PyProof.Rows PySem.Calls
set_option Elab.async false
set_option maxRecDepth 100000
set_option maxHeartbeats 4000000
set_option linter.unusedVariables false
namespace Mine
section
variable {f : Fx} {b : Binds} {N : Led} {en : Env}
/-- an object that the call sees: its ledger's, or the ground's -/
def At (f : Fx) (N : Led) (a : Addr) (o : Obj) : Prop := (a, o) ∈ N ∨ f.c.g.get? a = some o
theorem At.get {h : Heap} {a : Addr} {o : Obj} (x : At f N a o) (F : f.F h b) (M : f.N h N) : h.get? a = some o := x.elim (fun m => M.get m) fun m => F.keep _ _ m
def IsL (o : Obj) (vs : List Value) : Prop := o.cls = .type "list" ∧ ∃ n, o.data = .seq vs.toArray n
def IsT (o : Obj) (vs : List Value) : Prop := o.cls = .type "tuple" ∧ ∃ n, o.data = .seq vs.toArray n
def AtL (f : Fx) (N : Led) (a : Addr) (vs : List Value) : Prop := ∃ o, At f N a o ∧ IsL o vs
def AtT (f : Fx) (N : Led) (a : Addr) (vs : List Value) : Prop := ∃ o, At f N a o ∧ IsT o vs
theorem AtL.is {h : Heap} {a : Addr} {vs : List Value} (x : AtL f N a vs) (F : f.F h b) (M : f.N h N) : h.IsList a vs.toArray := let ⟨o, y, z⟩ := x; ⟨o, y.get F M, z⟩
theorem AtT.is {h : Heap} {a : Addr} {vs : List Value} (x : AtT f N a vs) (F : f.F h b) (M : f.N h N) : IsTup h a vs.toArray := let ⟨o, y, z⟩ := x; ⟨o, y.get F M, z⟩
theorem jd_eqS {x y : Str} {t u : Tok} : Jd f b N (compareOp .Eq (.str x t) (.str y u)) (Is N (.bool (x == y))) := fun s _ _ _ F M q => eq_str (q _ _ _ _ F M ⟨rfl, rfl⟩)
theorem jd_neS {x y : Str} {t u : Tok} : Jd f b N (compareOp .NotEq (.str x t) (.str y u)) (Is N (.bool (x != y))) := fun s _ _ _ F M q => ne_str (q _ _ _ _ F M ⟨rfl, rfl⟩)
theorem jd_eqI {x y : Int} {t u : Tok} : Jd f b N (compareOp .Eq (.int x t) (.int y u)) (Is N (.bool (x == y))) := fun s _ _ _ F M q => eq_int (q _ _ _ _ F M ⟨rfl, rfl⟩)
theorem jd_neI {x y : Int} {t u : Tok} : Jd f b N (compareOp .NotEq (.int x t) (.int y u)) (Is N (.bool (x != y))) := fun s _ _ _ F M q => ne_int (q _ _ _ _ F M ⟨rfl, rfl⟩)
theorem Tr.eqS {l r : Expr} {x y : Str} {pos : Pos} (hl : EvS f en b N l x) (hr : EvS f en b N r y) : Tr f en b N (.Compare l [.Eq] [r] pos) (x == y) :=
  Tr.cmp hl (fun v N₁ r₁ => by obtain ⟨⟨t, rfl⟩, rfl⟩ := r₁; exact hr.mono fun v N₁ r₂ => by obtain ⟨⟨t, rfl⟩, rfl⟩ := r₂; exact jd_eqS) (hr.pe.marks _)
theorem Tr.neS {l r : Expr} {x y : Str} {pos : Pos} (hl : EvS f en b N l x) (hr : EvS f en b N r y) : Tr f en b N (.Compare l [.NotEq] [r] pos) (x != y) :=
  Tr.cmp hl (fun v N₁ r₁ => by obtain ⟨⟨t, rfl⟩, rfl⟩ := r₁; exact hr.mono fun v N₁ r₂ => by obtain ⟨⟨t, rfl⟩, rfl⟩ := r₂; exact jd_neS) (hr.pe.marks _)
theorem Tr.eqI {l r : Expr} {x y : Int} {pos : Pos} (hl : EvI f en b N l x) (hr : EvI f en b N r y) : Tr f en b N (.Compare l [.Eq] [r] pos) (x == y) :=
  Tr.cmp hl (fun v N₁ r₁ => by obtain ⟨⟨t, rfl⟩, rfl⟩ := r₁; exact hr.mono fun v N₁ r₂ => by obtain ⟨⟨t, rfl⟩, rfl⟩ := r₂; exact jd_eqI) (hr.pe.marks _)
theorem Tr.neI {l r : Expr} {x y : Int} {pos : Pos} (hl : EvI f en b N l x) (hr : EvI f en b N r y) : Tr f en b N (.Compare l [.NotEq] [r] pos) (x != y) :=
  Tr.cmp hl (fun v N₁ r₁ => by obtain ⟨⟨t, rfl⟩, rfl⟩ := r₁; exact hr.mono fun v N₁ r₂ => by obtain ⟨⟨t, rfl⟩, rfl⟩ := r₂; exact jd_neI) (hr.pe.marks _)
theorem str_pos {x : Str} : (((x.length : Int) != 0)) = (x != Str.ofString "") := by
  by_cases h : x = Str.ofString ""
  · subst h; rfl
  · rw [bne_iff_ne.mpr h]
    rw [bne_iff_ne]
    intro e
    apply h
    have : x.cps.size = 0 := by exact_mod_cast e
    cases x with | mk c => rw [show c = #[] from Array.eq_empty_of_size_eq_zero this]; rfl
/-- a text of some 100,000 signs at most -/
abbrev Sz (x : Str) : Prop := x.length ≤ 100000
theorem Tr.str {e : Expr} {x : Str} (h : EvS f en b N e x) (hz : Sz x) (hp : PlainT en e) : Tr f en b N e (x != Str.ofString "") :=
  Tr.ofE h (fun v N₁ r => by obtain ⟨⟨t, rfl⟩, rfl⟩ := r; exact fun s _ _ _ F M q => KXt.truthy str_pos (Nat.le_trans hz (Nat.le_of_ble_eq_true rfl)) fun k => q _ _ _ _ F M ⟨rfl, rfl⟩) hp
theorem EvS.add {l r : Expr} {x y : Str} {pos : Pos} (hl : EvS f en b N l x) (hr : EvS f en b N r y) (hx : Sz x) (hy : Sz y) : EvS f en b N (.BinOp l .Add r pos) (x ++ y) :=
  Ev.bin hl fun v N₁ r₁ => by
    obtain ⟨⟨t, rfl⟩, rfl⟩ := r₁
    exact hr.mono fun v N₁ r₂ => by
      obtain ⟨⟨u, rfl⟩, rfl⟩ := r₂
      exact fun s _ _ _ F M q => KXadd.add hx hy (Nat.le_of_ble_eq_true rfl) fun t' k _ => q _ _ _ _ F M ⟨⟨_, rfl⟩, rfl⟩
theorem EvI.bin {l r : Expr} {op : Operator} {x y z : Int} {pos : Pos} (hl : EvI f en b N l x) (hr : EvI f en b N r y) (hz : ∀ t u N, Jd f b N (binaryOp op (.int x t) (.int y u)) (IsI N z)) : EvI f en b N (.BinOp l op r pos) z :=
  Ev.bin hl fun v N₁ r₁ => by
    obtain ⟨⟨t, rfl⟩, rfl⟩ := r₁
    exact hr.mono fun v N₁ r₂ => by obtain ⟨⟨u, rfl⟩, rfl⟩ := r₂; exact hz t u _
theorem jd_addI {x y : Int} (t u : Tok) (N : Led) : Jd f b N (binaryOp .Add (.int x t) (.int y u)) (IsI N (x + y)) := fun s _ _ _ F M q => add_int (q _ _ _ _ F M ⟨⟨_, rfl⟩, rfl⟩)
theorem jd_subI {x y : Int} (t u : Tok) (N : Led) : Jd f b N (binaryOp .Sub (.int x t) (.int y u)) (IsI N (x - y)) := fun s _ _ _ F M q => sub_int (q _ _ _ _ F M ⟨⟨_, rfl⟩, rfl⟩)
theorem jd_modI {x y : Int} (h : y ≠ 0) (t u : Tok) (N : Led) : Jd f b N (binaryOp .Mod (.int x t) (.int y u)) (IsI N (x.fmod y)) := fun s _ _ _ F M q => mod_int h (q _ _ _ _ F M ⟨⟨_, rfl⟩, rfl⟩)
theorem jd_divI {x y : Int} (h : y ≠ 0) (hp : Builtin.divisionGoesByPylong x y = false) (t u : Tok) (N : Led) : Jd f b N (binaryOp .FloorDiv (.int x t) (.int y u)) (IsI N (x.fdiv y)) := fun s _ _ _ F M q => floordiv_int h (q _ _ _ _ F M ⟨⟨_, rfl⟩, rfl⟩) (.inl hp)
/-- a text's method of one text -/
theorem Ev.meth1 {o e : Expr} {name : Str} {apos pos : Pos} {id : String} {x y : Str} {R' : Value → Led → Prop} (ho : EvS f en b N o x) (he : EvS f en b N e y)
    (hm : ∀ t pl, Jd f b N (getMethod (.str x t) name pl) (Is N (.builtin id, [.str x t]))) (hr : ∀ t u, Jd f b N (PySem.call (.builtin id) [.str x t, .str y u]) R')
    (hf : MethOk en o name apos [e] pos) :
    Ev f en b N (.Call (.Attribute o name apos) [e] [] pos) R' :=
  Ev.meth (id := id) (RA := fun v vs N' => (∃ t u, v = .str x t ∧ vs = [.str y u]) ∧ N' = N) ho (fun v N₁ pl r => by obtain ⟨⟨t, rfl⟩, rfl⟩ := r; exact hm t pl)
    (fun v N₁ r => by
      obtain ⟨⟨t, rfl⟩, rfl⟩ := r
      exact (Ags.one he).mono fun vs N₂ r₂ => by obtain ⟨⟨t2, rfl⟩, rfl⟩ := r₂; exact ⟨⟨t, t2, rfl, rfl⟩, rfl⟩)
    (fun v vs N₁ r => by obtain ⟨⟨t, u, rfl, rfl⟩, rfl⟩ := r; exact hr t u) ⟨he.pe, trivial⟩ hf
theorem EvV.starts {o e : Expr} {apos pos : Pos} {x y : Str} (ho : EvS f en b N o x) (he : EvS f en b N e y)
    (hf : MethOk en o (Str.ofString "startswith") apos [e] pos) :
    EvV f en b N (.Call (.Attribute o (Str.ofString "startswith") apos) [e] [] pos) (.bool (Txt.startswith x y)) :=
  Ev.meth1 ho he (fun t pl => fun s _ _ _ F M q => GM.startswith (q _ _ _ _ F M ⟨rfl, rfl⟩)) (fun t u => fun s _ _ _ F M q => SC.startswith (q _ _ _ _ F M ⟨rfl, rfl⟩)) hf
theorem EvV.ends {o e : Expr} {apos pos : Pos} {x y : Str} (ho : EvS f en b N o x) (he : EvS f en b N e y)
    (hf : MethOk en o (Str.ofString "endswith") apos [e] pos) :
    EvV f en b N (.Call (.Attribute o (Str.ofString "endswith") apos) [e] [] pos) (.bool (Txt.endswith x y)) :=
  Ev.meth1 ho he (fun t pl => fun s _ _ _ F M q => GM.endswith (q _ _ _ _ F M ⟨rfl, rfl⟩)) (fun t u => fun s _ _ _ F M q => SC.endswith (q _ _ _ _ F M ⟨rfl, rfl⟩)) hf
theorem EvI.rfind {o e : Expr} {apos pos : Pos} {x y : Str} (ho : EvS f en b N o x) (he : EvS f en b N e y)
    (hf : MethOk en o (Str.ofString "rfind") apos [e] pos) :
    EvI f en b N (.Call (.Attribute o (Str.ofString "rfind") apos) [e] [] pos) (Txt.rfind x y) :=
  Ev.meth1 ho he (fun t pl => fun s _ _ _ F M q => GM.rfind (q _ _ _ _ F M ⟨rfl, rfl⟩)) (fun t u => fun s _ _ _ F M q => SC.rfind (q _ _ _ _ F M ⟨⟨_, rfl⟩, rfl⟩)) hf
theorem EvS.rstrip {o e : Expr} {apos pos : Pos} {x y : Str} (ho : EvS f en b N o x) (he : EvS f en b N e y) (hz : Sz x)
    (hf : MethOk en o (Str.ofString "rstrip") apos [e] pos) :
    EvS f en b N (.Call (.Attribute o (Str.ofString "rstrip") apos) [e] [] pos) (Txt.rstripChars x y) :=
  Ev.meth1 ho he (fun t pl => fun s _ _ _ F M q => GM.rstrip (q _ _ _ _ F M ⟨rfl, rfl⟩)) (fun t u => fun s _ _ _ F M q => SCL.rstripChars (fun t' k _ => q _ _ _ _ F M ⟨⟨_, rfl⟩, rfl⟩) (Nat.le_trans hz (by rw [sizeLine_eq]; exact Nat.le_of_ble_eq_true rfl))) hf
theorem sz_line {x : Str} (h : Sz x) : x.length ≤ sizeLine := Nat.le_trans h (by rw [sizeLine_eq]; exact Nat.le_of_ble_eq_true rfl)
-- slices of texts
theorem EvS.sliceL {o lo : Expr} {sp pos : Pos} {x : Str} {i : Int} (ho : EvS f en b N o x) (h1 : EvI f en b N lo i) (hz : Sz x) :
    EvS f en b N (.Subscript o (.Slice (some lo) none none sp) pos) (Txt.slice x (some i) none) :=
  ⟨pe_subs, fun s Q E ok F M q => Subscript_ (ho.jd s _ _ ok F M fun v h tk N₁ F₁ M₁ r₁ => by
    obtain ⟨⟨t, rfl⟩, rfl⟩ := r₁
    refine wpAny_Slice ?_
    refine evalPart_some_step (h1.jd _ _ _ ok F₁ M₁ fun v h tk N₂ F₂ M₂ r => ?_)
    obtain ⟨⟨u, rfl⟩, rfl⟩ := r
    refine evalPart_none_step ?_
    refine evalPart_none_step ?_
    exact slice_strN_sn_len F₂ M₂ (fun h' t' k F M _ => q _ _ _ _ F M ⟨⟨_, rfl⟩, rfl⟩) rfl (fun _ => let_str) (sz_line hz))⟩
theorem EvS.sliceR {o hi : Expr} {sp pos : Pos} {x : Str} {j : Int} (ho : EvS f en b N o x) (h2 : EvI f en b N hi j) (hz : Sz x) :
    EvS f en b N (.Subscript o (.Slice none (some hi) none sp) pos) (Txt.slice x none (some j)) :=
  ⟨pe_subs, fun s Q E ok F M q => Subscript_ (ho.jd s _ _ ok F M fun v h tk N₁ F₁ M₁ r₁ => by
    obtain ⟨⟨t, rfl⟩, rfl⟩ := r₁
    refine wpAny_Slice ?_
    refine evalPart_none_step ?_
    refine evalPart_some_step (h2.jd _ _ _ ok F₁ M₁ fun v h tk N₂ F₂ M₂ r => ?_)
    obtain ⟨⟨u, rfl⟩, rfl⟩ := r
    refine evalPart_none_step ?_
    exact slice_strN_ns_len F₂ M₂ (fun h' t' k F M _ => q _ _ _ _ F M ⟨⟨_, rfl⟩, rfl⟩) rfl (fun _ => let_str) (sz_line hz))⟩
theorem EvS.sliceB {o lo hi : Expr} {sp pos : Pos} {x : Str} {i j : Int} (ho : EvS f en b N o x) (h1 : EvI f en b N lo i) (h2 : EvI f en b N hi j) (hz : Sz x) :
    EvS f en b N (.Subscript o (.Slice (some lo) (some hi) none sp) pos) (Txt.slice x (some i) (some j)) :=
  ⟨pe_subs, fun s Q E ok F M q => Subscript_ (ho.jd s _ _ ok F M fun v h tk N₁ F₁ M₁ r₁ => by
    obtain ⟨⟨t, rfl⟩, rfl⟩ := r₁
    refine wpAny_Slice ?_
    refine evalPart_some_step (h1.jd _ _ _ ok F₁ M₁ fun v h tk N₂ F₂ M₂ r => ?_)
    obtain ⟨⟨u, rfl⟩, rfl⟩ := r
    refine evalPart_some_step (h2.jd _ _ _ ok F₂ M₂ fun v h tk N₃ F₃ M₃ r => ?_)
    obtain ⟨⟨u, rfl⟩, rfl⟩ := r
    refine evalPart_none_step ?_
    exact slice_strN_ss_len F₃ M₃ (fun h' t' k F M _ => q _ _ _ _ F M ⟨⟨_, rfl⟩, rfl⟩) rfl (fun _ => let_str) (sz_line hz))⟩
end
end Mine
end
section
open PySem PySem.W PyProof.Rows PySem.Calls
set_option Elab.async false
set_option maxRecDepth 100000
set_option maxHeartbeats 8000000
set_option linter.unusedVariables false
namespace Mine
def IsSeq (o : Obj) (its : List Value) : Prop := (o.cls = .type "list" ∨ o.cls = .type "tuple") ∧ ∃ n, o.data = .seq its.toArray n
theorem off1_of {D : Addr} {l : Led} : (∀ q ∈ l, q.1 ≠ D) → PyProof.Rows.LCg.Off1 D l := by
  induction l with
  | nil => intro _; exact True.intro
  | cons q r ih => intro h; exact And.intro (h q (List.mem_cons_self)) (ih fun p hp => h p (List.mem_cons_of_mem _ hp))
theorem off1_mem {D : Addr} {l : Led} : PyProof.Rows.LCg.Off1 D l → ∀ q ∈ l, q.1 ≠ D := by
  induction l with
  | nil => intro _ q hq; cases hq
  | cons q r ih =>
    intro h p hp
    rcases List.mem_cons.mp hp with e | hp
    · rw [e]; exact h.1
    · exact ih h.2 p hp
section
variable {prog : Program} {w : World} {A : Around} {E : Value → Shared → Prop} {s : Shared} {env : Env} {h₀ : Heap}
theorem Try_quiet {body : List Stmt} {x : ExceptHandler} {hs : List ExceptHandler} {pos : Pos} {Q : Flow → Shared → Prop}
   (h : wpAny (model prog w) A (execs body env) Q (fun _ _ => False) s) : wpAny (model prog w) A (exec (.Try body (x :: hs) [] [] pos) env) Q E s :=
  wpAny_Try_except (wpAny_mono h (fun f _ hq => by cases f <;> first | exact hq | exact wpAny_execs_nil hq) fun _ _ x => x.elim)

def SeqTurn (h₀ : Heap) (L : Addr) (s : Shared) (I : Addr) (oI : Obj) (Jn : (Str → Option Value) → Led → Prop) (Q : Flow → Shared → Prop) (f : Flow) (s₂ : Shared) : Prop :=
  match f with
  | .ret v => Q (.ret v) s₂
  | .brk => Q .next s₂
  | _ => ∃ h tk m news, s₂ = { s with heap := h, toks := tk } ∧ Fr h₀ L h m ∧ News h₀ L h ((I, oI) :: news) ∧ (∀ p ∈ news, p.1 ≠ I) ∧ Jn m news
theorem SeqTurn.next {h₀ : Heap} {L : Addr} {s : Shared} {I : Addr} {oI : Obj} {Jn : (Str → Option Value) → Led → Prop} {Q : Flow → Shared → Prop} {h : Heap} {tk : Nat} {m : Str → Option Value} {nw news : Led}
    (F : Fr h₀ L h m) (N : News h₀ L h nw) (hs : ∀ p ∈ (I, oI) :: news, p ∈ nw) (off : ∀ p ∈ news, p.1 ≠ I) (J : Jn m news) : SeqTurn h₀ L s I oI Jn Q .next { s with heap := h, toks := tk } := ⟨h, tk, m, news, rfl, F, fun p hp => N p (hs p hp), off, J⟩
theorem SeqTurn.cont {h₀ : Heap} {L : Addr} {s : Shared} {I : Addr} {oI : Obj} {Jn : (Str → Option Value) → Led → Prop} {Q : Flow → Shared → Prop} {h : Heap} {tk : Nat} {m : Str → Option Value} {nw news : Led}
    (F : Fr h₀ L h m) (N : News h₀ L h nw) (hs : ∀ p ∈ (I, oI) :: news, p ∈ nw) (off : ∀ p ∈ news, p.1 ≠ I) (J : Jn m news) : SeqTurn h₀ L s I oI Jn Q .cont { s with heap := h, toks := tk } := ⟨h, tk, m, news, rfl, F, fun p hp => N p (hs p hp), off, J⟩

def SeqLoop (prog : Program) (w : World) (A : Around) (h₀ : Heap) (L : Addr) (env : Env) (x : Str) (body : List Stmt) (Q : Flow → Shared → Prop) (E : Value → Shared → Prop) (xv : Value) (s₁ : Shared) : Prop :=
  ∃ (ax : Addr) (o : Obj) (its : List Value) (m : Str → Option Value) (news : Led) (J : Nat → (Str → Option Value) → Led → Prop), xv = .ref ax ∧ A.handled = none ∧ IsSeq o its ∧ Fr h₀ L s₁.heap m ∧ News h₀ L s₁.heap news ∧ J 0 m news ∧ (h₀.get? ax = some o ∨ ∀ i m₁ news₁, J i m₁ news₁ → (ax, o) ∈ news₁) ∧
    (∀ i v m₁ news₁ I oI h tk, its[i]? = some v → J i m₁ news₁ → Fr h₀ L h (fun y => if y = x then some v else m₁ y) → News h₀ L h ((I, oI) :: news₁) → (∀ p ∈ news₁, p.1 ≠ I) →
      wpAny (model prog w) A (execs body env) (SeqTurn h₀ L { s₁ with heap := h, toks := tk } I oI (J (i + 1)) Q) E { s₁ with heap := h, toks := tk }) ∧
    (∀ m₁ news₁ h tk, J its.length m₁ news₁ → Fr h₀ L h m₁ → News h₀ L h news₁ → Q .next { s₁ with heap := h, toks := tk })
theorem SeqLoop.intro {L : Addr} {x : Str} {body : List Stmt} {Q : Flow → Shared → Prop} {ax : Addr} {o : Obj} {its : List Value} {m : Str → Option Value} {news : Led} {s₁ : Shared} (J : Nat → (Str → Option Value) → Led → Prop) (hh : A.handled = none) (ho : IsSeq o its)
    (F : Fr h₀ L s₁.heap m) (N : News h₀ L s₁.heap news) (j0 : J 0 m news) (jm : h₀.get? ax = some o ∨ ∀ i m₁ news₁, J i m₁ news₁ → (ax, o) ∈ news₁)
    (turn : ∀ i v m₁ news₁ I oI h tk, its[i]? = some v → J i m₁ news₁ → Fr h₀ L h (fun y => if y = x then some v else m₁ y) → News h₀ L h ((I, oI) :: news₁) → (∀ p ∈ news₁, p.1 ≠ I) →
      wpAny (model prog w) A (execs body env) (SeqTurn h₀ L { s₁ with heap := h, toks := tk } I oI (J (i + 1)) Q) E { s₁ with heap := h, toks := tk })
    (done : ∀ m₁ news₁ h tk, J its.length m₁ news₁ → Fr h₀ L h m₁ → News h₀ L h news₁ → Q .next { s₁ with heap := h, toks := tk }) : SeqLoop prog w A h₀ L env x body Q E (.ref ax) s₁ :=
  ⟨ax, o, its, m, news, J, rfl, hh, ho, F, N, j0, jm, turn, done⟩

theorem SeqLoop.one {L : Addr} {x : Str} {body : List Stmt} {Q : Flow → Shared → Prop} {ax : Addr} {o : Obj} {v : Value} {m : Str → Option Value} {news : Led} {s₁ : Shared} (hh : A.handled = none) (ho : IsSeq o [v])
    (F : Fr h₀ L s₁.heap m) (N : News h₀ L s₁.heap news) (hm : (ax, o) ∈ news)
    (turn : ∀ I oI h tk, Fr h₀ L h (fun y => if y = x then some v else m y) → News h₀ L h ((I, oI) :: news) → (∀ p ∈ news, p.1 ≠ I) →
      wpAny (model prog w) A (execs body env) (SeqTurn h₀ L { s₁ with heap := h, toks := tk } I oI (fun m nw => (ax, o) ∈ nw ∧ ∀ h tk, Fr h₀ L h m → News h₀ L h nw → Q .next { s₁ with heap := h, toks := tk }) Q) E { s₁ with heap := h, toks := tk }) :
    SeqLoop prog w A h₀ L env x body Q E (.ref ax) s₁ :=
  SeqLoop.intro (fun i m₁ nw => match i with
    | 0 => m₁ = m ∧ nw = news
    | _ => (ax, o) ∈ nw ∧ ∀ h tk, Fr h₀ L h m₁ → News h₀ L h nw → Q .next { s₁ with heap := h, toks := tk }) hh ho F N ⟨rfl, rfl⟩
    (.inr fun i m₁ nw h => by
      cases i with
      | zero => obtain ⟨_, rfl⟩ := h; exact hm
      | succ i => exact h.1)
    (fun i v' m₁ nw I oI h tk hv hj F N off => by
      cases i with
      | zero =>
        have e1 : m₁ = m := hj.1
        have e2 : nw = news := hj.2
        rw [e1] at F
        rw [e2] at N off
        cases hv
        exact turn I oI h tk F N off
      | succ i => simp at hv)
    (fun m₁ nw h tk hj F N => hj.2 h tk F N)
theorem m_id {m : Str → Option Value} {x : Str} : m = fun y => if y = x then m x else m y := by
  funext y
  by_cases h : y = x
  · simp [h]
  · simp [h]
theorem m_set {m : Str → Option Value} {x : Str} {u v : Option Value} : (fun y => if y = x then v else (fun y => if y = x then u else m y) y) = fun y => if y = x then v else m y := by
  funext y
  by_cases h : y = x <;> simp [h]
/-- a loop that turns one list of its own (at the ledger's head) and its own name alone -/
theorem SeqLoop.acc {L : Addr} {x : Str} {body : List Stmt} {Q : Flow → Shared → Prop} {ax : Addr} {o : Obj} {its : List Value} {m : Str → Option Value} {ln : Addr} {a₀ : Array Value} {n₀ : Nat} {rest : Led} {s₁ : Shared} (K : Nat → Array Value → Prop) (hh : A.handled = none)
    (F : Fr h₀ L s₁.heap m) (N : News h₀ L s₁.heap ((ln, W.listOf a₀ n₀) :: rest)) (hm : (ax, o) ∈ rest) (ho : IsSeq o its) (k0 : K 0 a₀)
    (turn : ∀ i v a n I oI h tk, its[i]? = some v → K i a → Fr h₀ L h (fun y => if y = x then some v else m y) → News h₀ L h ((I, oI) :: (ln, W.listOf a n) :: rest) → ((@Ne Nat ln I) ∧ PyProof.Rows.LCg.Off1 I rest) →
      wpAny (model prog w) A (execs body env) (SeqTurn h₀ L { s₁ with heap := h, toks := tk } I oI (fun m' nw => ∃ a' n' u, nw = (ln, W.listOf a' n') :: rest ∧ m' = (fun y => if y = x then u else m y) ∧ K (i + 1) a') Q) E { s₁ with heap := h, toks := tk })
    (done : ∀ a n u h tk, K its.length a → Fr h₀ L h (fun y => if y = x then u else m y) → News h₀ L h ((ln, W.listOf a n) :: rest) → Q .next { s₁ with heap := h, toks := tk }) : SeqLoop prog w A h₀ L env x body Q E (.ref ax) s₁ := by
  refine SeqLoop.intro (fun i m' nw => ∃ a' n' u, nw = (ln, W.listOf a' n') :: rest ∧ m' = (fun y => if y = x then u else m y) ∧ K i a') hh ho F N ⟨a₀, n₀, m x, rfl, m_id, k0⟩ (.inr ?_) ?_ ?_
  · rintro i m₁ nw ⟨a, n, u, rfl, _⟩
    exact List.mem_cons_of_mem _ hm
  · rintro i v m₁ nw I oI h tk hv ⟨a, n, u, rfl, rfl, hk⟩ F N off
    rw [m_set] at F
    exact turn i v a n I oI h tk hv hk F N ⟨off _ (List.mem_cons_self), off1_of fun p hp => off p (List.mem_cons_of_mem _ hp)⟩
  · rintro m₁ nw h tk ⟨a, n, u, rfl, rfl, hk⟩ F N
    exact done a n u h tk hk F N
theorem For_seq {L : Addr} {x : Str} {px pos : Pos} {iter : Expr} {body : List Stmt} {Q : Flow → Shared → Prop} {m₀ : Str → Option Value} (_F₀ : Fr h₀ L s.heap m₀) (hL : env.locals = L) (hx : env.kindOf x = some .local)
    (hp : (env.scope.kind == .class || (env.scope.kind == .module && env.locals != env.globals)) = false)
    (h : wpAny (model prog w) A (eval iter env) (SeqLoop prog w A h₀ L env x body Q (fun _ _ => False)) (fun _ _ => False) s)
    (hs : ∀ x, foldedSetIterable iter env x = pure x := by intro _; rfl) :
    wpAny (model prog w) A (exec (.For (.Name x px) iter body [] pos) env) Q E s := by
  subst hL
  refine wpAny_mono (For_invV (E := fun _ _ => False) h₀ hx hp (wpAny_mono h (fun xv s₁ h₁ => ?_) fun _ _ e => e) hs PassesOwn.never) (fun _ _ q => q) fun _ _ e => e.elim
  obtain ⟨ax, o, its, m, news, J, rfl, hh, ⟨hc, n₀, hd⟩, F, N, j0, jm, turn, done⟩ := h₁
  have hget : s₁.heap.get? ax = some o := jm.elim (fun e => F.keep _ _ e) fun jm => (N _ (jm 0 m news j0)).1
  have hLx : env.locals ≠ ax := fun e => jm.elim (fun q => absurd (Heap.lt_size q) (Nat.not_lt.mpr (e ▸ F.above))) fun jm => (N _ (jm 0 m news j0)).2.1 e.symm
  have hLt : env.locals < s₁.heap.objs.size := F.ns.lt
  have hxlt : ax < s₁.heap.objs.size := Heap.lt_size hget
  have hnew : h₀.get? s₁.heap.objs.size = none := next_is_new F
  have key : ∀ (it : Obj) (St : Nat → Heap → Prop), Walks prog w A s₁.heap.objs.size [s₁.heap.objs.size, ax] [s₁.heap.objs.size] its.length (fun i v => its[i]? = some v) St → St 0 (s₁.heap.push it) → (∀ i h, St i h → ∃ o', h.get? s₁.heap.objs.size = some o') →
      LoopAtV prog w A h₀ env x body Q (fun _ _ => False) (.ref s₁.heap.objs.size) { s₁ with heap := s₁.heap.push it } := by
    intro it St W st0 stI
    refine ⟨_, _, _, its.length, _, _, m, news, J, rfl, W, ?_, ?_, ?_, st0, F.push _, fun p hp => ⟨Heap.get?_push_of_some _ (N p hp).1, (N p hp).2⟩, j0, ?_, ?_⟩
    · intro hmem
      rcases List.mem_cons.mp hmem with e | hmem
      · exact absurd hLt (e ▸ Nat.lt_irrefl _)
      · exact hLx (List.mem_singleton.mp hmem)
    · intro b hb
      rw [List.mem_singleton.mp hb]
      exact hnew
    · intro p hp hI
      exact absurd (Heap.lt_size (N p hp).1) ((List.mem_singleton.mp hI) ▸ Nat.lt_irrefl _)
    · rintro i v m₁ news₁ s₂ own ⟨hh', tk', rfl⟩ hin hP hJ hoff hown hget' hall hst F₁ N₁
      obtain ⟨oI, hI⟩ := stI _ _ hst
      have hmI := hall s₁.heap.objs.size (List.mem_cons_self) hnew _ hI
      have N₂ : News h₀ env.locals hh' ((s₁.heap.objs.size, oI) :: news₁) := fun p hp => by
        rcases List.mem_cons.mp hp with rfl | hp
        · exact N₁ _ (List.mem_append_left _ hmI)
        · exact N₁ _ (List.mem_append_right _ hp)
      have hoff' : ∀ p ∈ news₁, p.1 ≠ s₁.heap.objs.size := fun p hp e => hoff p hp (List.mem_singleton.mpr e)
      refine wpAny_mono (turn i v m₁ news₁ s₁.heap.objs.size oI hh' tk' hP hJ F₁ N₂ hoff') (fun f s₃ hq => ?_) fun _ _ e => e
      have fin : (∃ h tk m news, s₃ = { s₁ with heap := h, toks := tk } ∧ Fr h₀ env.locals h m ∧ News h₀ env.locals h ((s₁.heap.objs.size, oI) :: news) ∧ (∀ p ∈ news, p.1 ≠ s₁.heap.objs.size) ∧ J (i + 1) m news) →
          LoopStepU h₀ env.locals [s₁.heap.objs.size] own (J (i + 1)) { s₁ with heap := hh', toks := tk' } .next s₃ := by
        rintro ⟨h₃, tk₃, m₃, news₃, rfl, F₃, N₃, off₃, j₃⟩
        refine ⟨rfl, h₃, tk₃, m₃, news₃, rfl, F₃, fun p hp => ?_, fun p hp hI' => off₃ p hp (List.mem_singleton.mp hI'), j₃⟩
        rcases List.mem_append.mp hp with hp | hp
        · have hg := hget' p hp
          rcases List.mem_cons.mp (hown p hp) with e | e
          · have : p = (s₁.heap.objs.size, oI) := by
              have e2 : hh'.get? p.1 = some p.2 := hg
              rw [e, hI] at e2
              exact Prod.ext e (Option.some.inj e2).symm
            rw [this]; exact N₃ _ (List.mem_cons_self)
          · have e1 : p.1 = ax := List.mem_singleton.mp e
            have e2 : hh'.get? p.1 = some p.2 := hg
            rcases jm with q | jm
            · have z := (N₁ _ (List.mem_append_left _ hp)).2.2
              rw [e1, q] at z; cases z
            · have e3 : hh'.get? ax = some o := (N₁ _ (List.mem_append_right _ (jm _ _ _ hJ))).1
              rw [e1, e3] at e2
              have : p = (ax, o) := Prod.ext e1 (Option.some.inj e2).symm
              rw [this]; exact N₃ _ (List.mem_cons_of_mem _ (jm _ _ _ j₃))
        · exact N₃ _ (List.mem_cons_of_mem _ hp)
      cases f with
      | ret v => exact .ret hq
      | brk => exact .brk hq
      | next => exact .next (fin hq)
      | cont => exact .cont (fin hq)
    · rintro h' tk m' news' F' N' _ hJ
      exact done m' news' h' tk hJ F' N'
  have hsz : its.toArray.size = its.length := by simp
  have hne : ax ≠ s₁.heap.objs.size := Nat.ne_of_lt hxlt
  rcases hc with hc | hc
  · have hl : s₁.heap.IsList ax its.toArray := ⟨o, hget, hc, n₀, hd⟩
    have W := Walks.list (prog := prog) (w := w) hh s₁.heap.objs.size ax hne its.toArray
    rw [hsz] at W
    simp only [List.getElem?_toArray] at W
    refine wpAny_pyIter_list hl (key _ _ W ⟨⟨_, Heap.get?_push_size _ rfl, rfl, rfl⟩, hl.at fun o e => Heap.get?_push_of_some _ e⟩ fun i h st => ?_)
    obtain ⟨o', e, _⟩ := st.1
    exact ⟨o', e⟩
  · have hl : s₁.heap.IsTuple ax its.toArray := ⟨o, hget, hc, n₀, hd⟩
    have W := Walks.tuple (prog := prog) (w := w) hh s₁.heap.objs.size ax hne its.toArray
    rw [hsz] at W
    simp only [List.getElem?_toArray] at W
    refine wpAny_pyIter_tuple hl (key _ _ W ⟨⟨_, Heap.get?_push_size _ rfl, rfl, rfl⟩, hl.at fun o e => Heap.get?_push_of_some _ e⟩ fun i h st => ?_)
    obtain ⟨o', e, _⟩ := st.1
    exact ⟨o', e⟩
end
end Mine
end
section
open PySem PySem.W PyProof.Rows PySem.Calls
set_option Elab.async false
set_option maxRecDepth 100000
set_option maxHeartbeats 4000000
set_option linter.unusedVariables false
namespace Mine
section
variable {f : Fx} {b : Binds} {N : Led} {en : Env}
/-- a turn's end -/
def Turn (K : Flow → Binds → Led → Prop) (I : Addr) (oI : Obj) (Jn : Binds → Led → Prop) : Flow → Binds → Led → Prop
  | .ret v, b, N => K (.ret v) b N
  | .brk, b, N => K .next b N
  | _, b, N => ∃ N₃, (∀ p ∈ (I, oI) :: N₃, p ∈ N) ∧ (∀ p ∈ N₃, p.1 ≠ I) ∧ Jn b N₃
theorem Ex.forS {x : Str} {px pos : Pos} {iter : Expr} {body : List Stmt} {K : Flow → Binds → Led → Prop} {vs : List Value} {o : Obj} {ax : Addr} (J : Nat → Binds → Led → Prop)
    (hi : Ev f f.env b N iter (fun v N₁ => v = .ref ax ∧ J 0 b N₁)) (ho : IsSeq o vs) (hat : f.c.g.get? ax = some o ∨ ∀ i b' N', J i b' N' → (ax, o) ∈ N')
    (turn : ∀ i v b' N' I oI, vs[i]? = some v → J i b' N' → (∀ p ∈ N', p.1 ≠ I) → Exs f ((x, some v) :: b') ((I, oI) :: N') body (Turn K I oI (J (i + 1))))
    (done : ∀ b' N', J vs.length b' N' → K .next b' N') (l : lB f.cs x .local = true) : Ex f b N (.For (.Name x px) iter body [] pos) K := by
  intro s Q E ok F M q
  refine For_seq F rfl (lB_ok l).2.1 (by show (f.cs.kind == .class || _) = false; rw [(lB_ok l).1]; rfl) (hi.jd s _ _ ok F M fun v h tk N₁ F₁ M₁ r => ?_) (hi.pe.fold _)
  obtain ⟨rfl, j0⟩ := r
  refine SeqLoop.intro (fun i m nw => ∃ b', m = bget b' ∧ J i b' nw) rfl ho F₁ M₁ ⟨b, rfl, j0⟩ (hat.imp id fun z i m nw ⟨b', _, j⟩ => z i b' nw j) ?_ ?_
  · rintro i v m nw I oI h tk hv ⟨b', rfl, j⟩ F₂ M₂ off
    refine turn i v b' nw I oI hv j off _ _ _ ok (put_frw F₂) M₂ ?_
    intro fl b2 h2 tk2 N2 F3 M3 k
    cases fl
    · obtain ⟨N3, sub, off3, j3⟩ := k
      exact ⟨h2, tk2, _, N3, rfl, F3, fun p hp => M3 p (sub p hp), off3, b2, rfl, j3⟩
    · exact q _ _ _ _ _ F3 M3 k
    · obtain ⟨N3, sub, off3, j3⟩ := k
      exact ⟨h2, tk2, _, N3, rfl, F3, fun p hp => M3 p (sub p hp), off3, b2, rfl, j3⟩
    · exact q _ _ _ _ _ F3 M3 k
  · rintro m nw h tk ⟨b', rfl, j⟩ F₂ M₂
    exact q _ _ _ _ _ F₂ M₂ (done b' nw j)
end
end Mine
end
section
open PySem PySem.W PyProof.Rows PySem.Calls
set_option Elab.async false
set_option maxRecDepth 100000
set_option maxHeartbeats 4000000
set_option linter.unusedVariables false
namespace Mine
theorem enterR {w : World} {dz : Nat} {vs rs : List Value} {R : Value → Led → Prop} {name qual : Str} {params : Arguments} {body : List Stmt} {scope : Scope} {dV kV doc pm cdv ct oc : Value} {an od : Option Addr} {osl : Array (Option Value)} {f : Addr} {g₁ : Addr → Option (List (Str × Value))} (bl : Addr → List (Str × Value))
    (ho : (Mine.hd.heap_1 w.params).lookup f = some ⟨oc, od, .func (fnOf name qual params body scope dV kV doc pm an cdv ct), osl⟩) (hcd : codeIn (Mine.hd.heap_1 w.params) cdv qual = true)
    (hv : vs.drop (params.posonlyargs.length + params.args.length) = rs)
    (hp : peek1 (Mine.hd.heap_1 w.params) ⟨PySem.Challenge.rw_in0109_01.row.prog, w.params⟩ (bindArgs (fnOf name qual params body scope dV kV doc pm an cdv ct) ⟨vs, []⟩) = some (({ cls := .type "tuple", data := .seq rs.toArray } : Obj), g₁))
    (hg : ∀ D, g₁ D = some (bl D).reverse) (hloc : ∀ D, ∀ y ∈ (bl D).reverse, scope.names.lookup y.1 = some .local)
    (hco : scope.isCoroutine = false) (hgen : scope.isGenerator = false) (hk : scope.kind = .function)
    (hcell : ∀ x ∈ scope.names, x.2 ≠ .cell)
    (h : ∀ (c : Cx) (D : Addr) (news : Led), c.w = w → (∀ p ∈ news, p.1 < D) → Exs ⟨c, dz, scope, []⟩ (ofB (bl D)) ((D, ({ cls := .type "tuple", data := .seq rs.toArray } : Obj)) :: news) body (fun fl _ N' => ∃ v, fl = .ret v ∧ (∀ p ∈ news, p ∈ N') ∧ R v [])) : Pure w f (dz + 1) [] vs R := by
  intro mean mg mb dp un gd env outer A₀ base h₀ L m s Q E news B X T hf hke h1 h2 F N hrd ret
  refine wpAny_call (kp_rest B F X N T rfl hf hke ho hcd (by show dp < recursionLimit; omega) hv hp hg hloc ?_ hco hgen hk hcell)
  intro D g L' h₁ lo FG F' N' B' X' T'
  rw [List.reverse_reverse] at F'
  refine wpAny_mono (h ⟨w, mean, mg, mb, dp + 1, un + 3, gd, env :: outer, _, base, g, L', qual, cdv, f⟩ D news rfl lo _ (fun fl s' => ∃ r, fl = .ret r ∧ LeaveK h₀ L m g (fun r s' => match r with | .ok (.ret v) => Q v s' | .ok _ => False | .error e => E e s') r s') never ⟨B', X', T', by show dp + 1 + dz < _; omega, by show un + 3 + 8 * dz + 8 < _; omega⟩ (ofB_frw F') N' ?_) (fun fl s' r => ?_) fun _ _ x => x.elim
  · rintro fl b' h₂ tk₂ nw F₂ N₂ ⟨v, hv, sub, r⟩
    exact ⟨v, hv, leaveK_ F₂ (fun p hp => N₂ p (sub p hp)) fun kF kN => ret _ _ _ [] kF kN (fun _ hp => nomatch hp) r⟩
  · obtain ⟨r, rfl, hq⟩ := r
    exact hq
section
variable {f : Fx} {b : Binds} {N : Led} {en : Env}
theorem Ex.tryQ {body : List Stmt} {x : ExceptHandler} {hs : List ExceptHandler} {pos : Pos} {K : Flow → Binds → Led → Prop} (h : Exs f b N body K) : Ex f b N (.Try body (x :: hs) [] [] pos) K :=
  fun s _ _ ok F M q => Try_quiet (h s _ _ ok F M q)
theorem Ex.aug {x : Str} {px pos : Pos} {e : Expr} {op : Operator} {v : Value} {R : Value → Led → Prop} {K : Flow → Binds → Led → Prop} (hv : bget b x = some v) (l : lB f.cs x .local = true) (he : Ev f f.env b N e (fun u N₁ => Jd f b N₁ (inplaceOp op v u) R)) (k : ∀ v N', R v N' → K .next ((x, some v) :: b) N') : Ex f b N (.AugAssign (.Name x px) op e pos) K :=
  fun s _ _ ok F M q => wpAny_AugAssign_Name (wpAny_loadName_local (lB_ok l).1 (lB_ok l).2.1 F.ns hv (he.jd _ _ _ ok F M fun u h tk N₁ F₁ M₁ r => r _ _ _ ok F₁ M₁ fun z h tk N₂ F₂ M₂ r₂ => storeX_L F₂ M₂ (fun h' F₃ M₃ => q _ _ _ _ _ (put_frw F₃) M₃ (k z N₂ r₂)) (lB_ok l).1 (lB_ok l).2.1))
/-- a new list -/
def NewL (N : Led) (P : List Value → Prop) : Value → Led → Prop := fun v N' => ∃ D its n, v = .ref D ∧ N' = (D, W.listOf its n) :: N ∧ (∀ p ∈ N, p.1 ≠ D) ∧ P its.toList
theorem ne_of_lo {D : Addr} (lo : ∀ p ∈ N, p.1 < D) : ∀ p ∈ N, p.1 ≠ D := fun p hp => Nat.ne_of_lt (lo p hp)
theorem jd_newList {vs : List Value} (hz : vs.length ≤ 100000) : Jd f b N (newList vs) (NewL N (fun ws => ws = vs)) :=
  fun s _ _ _ F M q => newList_K F M (fun l h' F' M' lo => q _ _ _ _ F' M' ⟨l, vs.toArray, 0, rfl, rfl, ne_of_lo lo, rfl⟩) (Nat.le_trans hz (by rw [sizeLine_eq]; exact Nat.le_of_ble_eq_true rfl))
/-- a new tuple -/
def tupO (vs : List Value) : Obj := { cls := .type "tuple", data := .seq vs.toArray }
def NewT (N : Led) (vs : List Value) : Value → Led → Prop := fun v N' => ∃ D, v = .ref D ∧ N' = (D, tupO vs) :: N ∧ (∀ p ∈ N, p.1 ≠ D)
theorem jd_newTuple {vs : List Value} (hz : vs.length ≤ 100000) : Jd f b N (newTuple vs) (NewT N vs) :=
  fun s _ _ _ F M q => kup_newTuple F M (fun l h' F' M' lo => q _ _ _ _ F' M' ⟨l, rfl, rfl, ne_of_lo lo⟩) (Nat.le_trans hz (by rw [sizeLine_eq]; exact Nat.le_of_ble_eq_true rfl))
theorem Ev.split {o e : Expr} {apos pos : Pos} {x y : Str} (ho : EvS f en b N o x) (he : EvS f en b N e y) (hy : (y.length == 0) = false) (hx : Sz x) (hl : (Txt.split x y).length ≤ 100000) (hf : MethOk en o (Str.ofString "split") apos [e] pos) :
    Ev f en b N (.Call (.Attribute o (Str.ofString "split") apos) [e] [] pos) (NewL N (fun vs => StrsAre vs (Txt.split x y))) :=
  Ev.meth1 ho he (fun t pl => fun s _ _ _ F M q => GM.split (q _ _ _ _ F M ⟨rfl, rfl⟩)) (fun t u => fun s _ _ _ F M q => split_E F M hy hx rfl hl fun D its h' tk F' M' lo hs => q _ _ _ _ F' M' ⟨D, its, 0, rfl, rfl, ne_of_lo lo, hs⟩) hf
theorem EvS.joinL {o e : Expr} {apos pos : Pos} {x : Str} {xs : List Str} {D : Addr} {its : Array Value} {n : Nat} (ho : EvS f en b N o x) (he : EvV f en b N e (.ref D)) (hm : (D, W.listOf its n) ∈ N) (hst : StrsAre its.toList xs) (hz : (xs.map (·.length)).sum + xs.length * x.length ≤ 16777216) (hf : MethOk en o (Str.ofString "join") apos [e] pos) :
    EvS f en b N (.Call (.Attribute o (Str.ofString "join") apos) [e] [] pos) (Txt.join x xs) :=
  Ev.meth (id := "str.join") (RA := fun v vs N' => (∃ t, v = .str x t ∧ vs = [.ref D]) ∧ N' = N) ho (fun v N₁ pl r => by obtain ⟨⟨t, rfl⟩, rfl⟩ := r; exact fun s _ _ _ F M q => GM.join (q _ _ _ _ F M ⟨rfl, rfl⟩))
    (fun v N₁ r => by
      obtain ⟨⟨t, rfl⟩, rfl⟩ := r
      exact (Ags.oneV he).mono fun vs N₂ r₂ => by obtain ⟨rfl, rfl⟩ := r₂; exact ⟨⟨t, rfl, rfl⟩, rfl⟩)
    (fun v vs N₁ r => by obtain ⟨⟨t, rfl, rfl⟩, rfl⟩ := r; exact fun s _ _ _ F M q => join_K M hm hst _ (Nat.le_refl _) hz fun t' k _ => q _ _ _ _ F M ⟨⟨_, rfl⟩, rfl⟩) ⟨he.pe, trivial⟩ hf
/-- append, as a statement -/
theorem Ex.append {o e : Expr} {apos pos spos : Pos} {D : Addr} {its : Array Value} {n : Nat} {R : Value → Led → Prop} {K : Flow → Binds → Led → Prop} (ho : EvV f f.env b N o (.ref D)) (hm : (D, W.listOf its n) ∈ N) (he : Ev f f.env b N e R) (hz : its.size ≤ 100000)
    (k : ∀ v N₁, R v N₁ → ∃ N₂, Upd D (W.listOf its n) (W.listOf (its.push v) (n + 1)) N₁ N₂ ∧ K .next b N₂) (hf : MethOk f.env o (Str.ofString "append") apos [e] pos) (hi : interactive f.env = false) (hw : swapsWith (.Call (.Attribute o (Str.ofString "append") apos) [e] [] pos) none spos.line f.env = pure false) :
    Ex f b N (.Expr (.Call (.Attribute o (Str.ofString "append") apos) [e] [] pos) spos) K :=
  fun s _ _ ok F M q => wpAny_Expr_any ((Ev.meth (id := "list.append") (R := Is N (.ref D)) (RA := fun v vs N' => ∃ u, v = .ref D ∧ vs = [u] ∧ R u N') (R' := fun _ N₂ => K .next b N₂) ho
    (fun v N₁ pl r => by obtain ⟨rfl, rfl⟩ := r; exact fun s _ _ _ F M q => listMethod_K M hm PySem.F.slot_list_append PySem.F.type_list_append (q _ _ _ _ F M ⟨rfl, rfl⟩))
    (fun v N₁ r => by obtain ⟨rfl, rfl⟩ := r; exact Ags.cons he (fun u N₁ r => Ags.nil.mono fun vs N₂ r₂ => by obtain ⟨rfl, rfl⟩ := r₂; exact ⟨u, rfl, rfl, r⟩))
    (fun v vs N₁ r => by
      obtain ⟨u, rfl, rfl, r⟩ := r
      obtain ⟨N₂, U, kk⟩ := k u N₁ r
      exact fun s _ _ _ F M q => append_K F M U (fun h' F' M' => q _ _ _ _ F' M' kk) (Nat.le_trans hz (by rw [sizeLine_eq]; exact Nat.le_of_ble_eq_true rfl))) (show PEs [_] from ⟨he.pe, trivial⟩) hf).jd s _ _ ok F M fun v h tk N' F' M' r => q _ _ _ _ _ F' M' r) hi hw
/-- an item of a list or a tuple -/
theorem EvV.itemL {o i : Expr} {pos : Pos} {D : Addr} {vs : List Value} {k : Int} {v : Value} (ho : EvV f en b N o (.ref D)) (hi : EvI f en b N i k) (hl : AtL f N D vs) (h0 : 0 ≤ k) (hk : k < 2 ^ 63) (hv : vs[k.toNat]? = some v) : EvV f en b N (.Subscript o i pos) v :=
  Ev.sub ho fun _ _ r => by
    obtain ⟨rfl, rfl⟩ := r
    exact hi.mono fun _ _ r => by
      obtain ⟨⟨u, rfl⟩, rfl⟩ := r
      exact fun s _ _ _ F M q => tail_any (hl.is F M).typeIs slot_list_getitem.lookup (wpAny_getItem_list (hl.is F M) h0 hk (by simpa using hv) (q _ _ _ _ F M ⟨rfl, rfl⟩)) (hi.pe.sub _ _)
theorem EvV.itemT {o i : Expr} {pos : Pos} {D : Addr} {vs : List Value} {k : Int} {j : Nat} {v : Value} (ho : EvV f en b N o (.ref D)) (hi : EvI f en b N i k) (hl : AtT f N D vs) (hlo : -(2 ^ 63) ≤ k) (hk : k < 2 ^ 63) (hj : seqIndex? k vs.length = some j) (hv : vs[j]? = some v) : EvV f en b N (.Subscript o i pos) v :=
  Ev.sub ho fun _ _ r => by
    obtain ⟨rfl, rfl⟩ := r
    exact hi.mono fun _ _ r => by
      obtain ⟨⟨u, rfl⟩, rfl⟩ := r
      exact fun s _ _ _ F M q => item_tupleT (hl.is F M) hlo hk hj hv (q _ _ _ _ F M ⟨rfl, rfl⟩) (hi.pe.sub _ _)
end
end Mine
end
section
open PySem PySem.W PyProof.Rows PySem.Calls
set_option Elab.async false
set_option maxRecDepth 100000
set_option maxHeartbeats 4000000
set_option linter.unusedVariables false
namespace Mine
section
variable {f : Fx} {b : Binds} {N : Led} {rest : List Stmt} {K : Flow → Binds → Led → Prop}
theorem Exs.asg {x : Str} {e : Expr} {px pos : Pos} {R : Value → Led → Prop} (h : Ev f f.env b N e R) (k : ∀ v N', R v N' → Exs f ((x, some (v)) :: b) N' rest K)
    (hs : swapsWith e (some (.Name x px)) pos.line f.env = pure false) (l : lB f.cs x .local = true) : Exs f b N (.Assign [.Name x px] e pos :: rest) K := Exs.cons (Ex.asg h k hs l)
theorem Exs.asS {x : Str} {e : Expr} {px pos : Pos} {y : Str} (h : EvS f f.env b N e y) (k : ∀ t, Exs f ((x, some (.str y t)) :: b) N rest K)
    (hs : swapsWith e (some (.Name x px)) pos.line f.env = pure false) (l : lB f.cs x .local = true) : Exs f b N (.Assign [.Name x px] e pos :: rest) K := Exs.asg h (fun v N' ⟨⟨t, e⟩, e2⟩ => by subst e e2; exact k t) hs l
theorem Exs.asI {x : Str} {e : Expr} {px pos : Pos} {y : Int} (h : EvI f f.env b N e y) (k : ∀ t, Exs f ((x, some (.int y t)) :: b) N rest K)
    (hs : swapsWith e (some (.Name x px)) pos.line f.env = pure false) (l : lB f.cs x .local = true) : Exs f b N (.Assign [.Name x px] e pos :: rest) K := Exs.asg h (fun v N' ⟨⟨t, e⟩, e2⟩ => by subst e e2; exact k t) hs l
theorem Exs.asV {x : Str} {e : Expr} {px pos : Pos} {y : Value} (h : EvV f f.env b N e y) (k : Exs f ((x, some (y)) :: b) N rest K)
    (hs : swapsWith e (some (.Name x px)) pos.line f.env = pure false) (l : lB f.cs x .local = true) : Exs f b N (.Assign [.Name x px] e pos :: rest) K := Exs.asg h (fun v N' ⟨e, e2⟩ => by subst e e2; exact k) hs l
theorem Exs.ite {e : Expr} {p : Bool} {body orelse : List Stmt} {pos : Pos} (h : Tr f f.env b N e p) (k : Exs f b N (if p then body else orelse) (Seq f rest K)) : Exs f b N (.If e body orelse pos :: rest) K := Exs.cons (Ex.ite h k)
/-- an if, by its ways -/
theorem Exs.ifs {e : Expr} {p : Bool} {body orelse : List Stmt} {pos : Pos} (h : Tr f f.env b N e p) (k1 : p = true → Exs f b N body (Seq f rest K)) (k2 : p = false → Exs f b N orelse (Seq f rest K)) : Exs f b N (.If e body orelse pos :: rest) K :=
  Exs.ite h (by cases p; exact k2 rfl; exact k1 rfl)
theorem Exs.yes {e : Expr} {body orelse : List Stmt} {pos : Pos} (h : Tr f f.env b N e true) (k : Exs f b N body (Seq f rest K)) : Exs f b N (.If e body orelse pos :: rest) K := Exs.ite h k
theorem Exs.els {e : Expr} {body orelse : List Stmt} {pos : Pos} (h : Tr f f.env b N e false) (k : Exs f b N orelse (Seq f rest K)) : Exs f b N (.If e body orelse pos :: rest) K := Exs.ite h k
/-- a new list, stored -/
theorem Exs.asL {x : Str} {e : Expr} {px pos : Pos} {P : List Value → Prop} (h : Ev f f.env b N e (NewL N P)) (k : ∀ D its n, (∀ p ∈ N, p.1 ≠ D) → P its.toList → Exs f ((x, some (.ref D)) :: b) ((D, W.listOf its n) :: N) rest K)
    (hs : swapsWith e (some (.Name x px)) pos.line f.env = pure false) (l : lB f.cs x .local = true) : Exs f b N (.Assign [.Name x px] e pos :: rest) K :=
  Exs.asg h (fun v N' ⟨D, its, n, e, e2, off, p⟩ => by subst e e2; exact k D its n off p) hs l
/-- a guard that is passed by -/
theorem Exs.no {e : Expr} {body : List Stmt} {pos : Pos} (h : Tr f f.env b N e false) (k : Exs f b N rest K) : Exs f b N (.If e body [] pos :: rest) K := Exs.ite h (Exs.nil k)
theorem Exs.ret {e : Expr} {pos : Pos} {R : Value → Led → Prop} (h : Ev f f.env b N e R) (k : ∀ v N', R v N' → K (.ret v) b N') : Exs f b N (.Return (some e) pos :: rest) K := Exs.cons (Ex.ret h k)
theorem Exs.retS {e : Expr} {pos : Pos} {x : Str} (h : EvS f f.env b N e x) (k : ∀ t, K (.ret (.str x t)) b N) : Exs f b N (.Return (some e) pos :: rest) K := Exs.ret h (fun v N' ⟨⟨t, e⟩, e2⟩ => by subst e e2; exact k t)
theorem Exs.retV {e : Expr} {pos : Pos} {x : Value} (h : EvV f f.env b N e x) (k : K (.ret x) b N) : Exs f b N (.Return (some e) pos :: rest) K := Exs.ret h (fun v N' ⟨e, e2⟩ => by subst e e2; exact k)
/-- a turn's end of a loop that stores its own name alone -/
def TurnN (K : Flow → Binds → Led → Prop) (x : Str) (b₀ : Binds) (I : Addr) (oI : Obj) (Jn : Led → Prop) : Flow → Binds → Led → Prop
  | .ret v, b, N => K (.ret v) b N
  | .brk, b, N => K .next b N
  | _, b, N => (∀ y, y ≠ x → bget b y = bget b₀ y) ∧ ∃ N₃, (∀ p ∈ (I, oI) :: N₃, p ∈ N) ∧ (∀ p ∈ N₃, p.1 ≠ I) ∧ Jn N₃
theorem turned {x : Str} {I : Addr} {oI : Obj} {Jn : Led → Prop} {b' : Binds} {N₃ : Led} (hb : ∀ y, y ≠ x → bget b' y = bget b y) (off : ∀ p ∈ N₃, p.1 ≠ I) (j : Jn N₃) :
    (∀ y, y ≠ x → bget b' y = bget b y) ∧ ∃ N₄, (∀ p ∈ (I, oI) :: N₄, p ∈ (I, oI) :: N₃) ∧ (∀ p ∈ N₄, p.1 ≠ I) ∧ Jn N₄ := ⟨hb, N₃, fun _ h => h, off, j⟩
theorem Exs.forN {x : Str} {px pos : Pos} {iter : Expr} {body : List Stmt} {vs : List Value} {o : Obj} {ax : Addr} (J : Nat → Led → Prop)
    (hi : Ev f f.env b N iter (fun v N₁ => v = .ref ax ∧ J 0 N₁)) (ho : IsSeq o vs) (hat : f.c.g.get? ax = some o ∨ ∀ i N', J i N' → (ax, o) ∈ N')
    (turn : ∀ i v N' I oI, vs[i]? = some v → J i N' → (∀ p ∈ N', p.1 ≠ I) → Exs f ((x, some v) :: b) ((I, oI) :: N') body (TurnN (Seq f rest K) x b I oI (J (i + 1))))
    (done : ∀ u N', J vs.length N' → Exs f ((x, u) :: b) N' rest K) (l : lB f.cs x .local = true) : Exs f b N (.For (.Name x px) iter body [] pos :: rest) K := by
  have same : ∀ {b' : Binds}, (∀ y, y ≠ x → bget b' y = bget b y) → ∀ v : Option Value, ∀ y, bget ((x, v) :: b') y = bget ((x, v) :: b) y := fun h v y => by
    show (if y = x then v else bget _ y) = if y = x then v else bget _ y
    by_cases e : y = x
    · rw [if_pos e, if_pos e]
    · rw [if_neg e, if_neg e, h y e]
  refine Exs.cons (Ex.forS (fun i b' N' => (∀ y, y ≠ x → bget b' y = bget b y) ∧ J i N') (hi.mono fun v N' r => ⟨r.1, fun _ _ => rfl, r.2⟩) ho (hat.imp id fun h i _ N' j => h i N' j.2) ?_ ?_ l)
  · rintro i v b' N' I oI hv ⟨hb, j⟩ off
    refine Js.binds ((turn i v N' I oI hv j off).mono ?_) (same hb _)
    intro fl b2 N2 k
    cases fl
    · obtain ⟨hb2, N₃, s1, s2, j3⟩ := k; exact ⟨N₃, s1, s2, hb2, j3⟩
    · exact k
    · obtain ⟨hb2, N₃, s1, s2, j3⟩ := k; exact ⟨N₃, s1, s2, hb2, j3⟩
    · exact k
  · rintro b' N' ⟨hb, j⟩
    refine Js.binds (done (bget b' x) N' j) fun y => ?_
    show bget b' y = if y = x then bget b' x else bget b y
    by_cases e : y = x
    · rw [if_pos e, e]
    · rw [if_neg e, hb y e]
/-- binds that part at x alone -/
theorem bset {x : Str} {v : Option Value} : ∀ y, y ≠ x → bget ((x, v) :: b) y = bget b y := fun y e => if_neg e
theorem Jd.is {α : Type} {t : Sem α} {a a' : α} (h : Jd f b N t (Is N a)) (e : a = a') : Jd f b N t (Is N a') := e ▸ h
theorem EvS.is {en : Env} {e : Expr} {x y : Str} (h : EvS f en b N e x) (q : x = y) : EvS f en b N e y := q ▸ h
end
end Mine
end
section
open PySem PySem.W PyProof.Rows PySem.Calls
set_option Elab.async false
set_option maxRecDepth 100000
set_option maxHeartbeats 4000000
set_option linter.unusedVariables false
namespace Mine
section
variable {f : Fx} {b : Binds} {N : Led} {en : Env}
theorem EvI.neg {e : Expr} {x : Int} {pos : Pos} (h : EvI f en b N e x) : EvI f en b N (.UnaryOp .USub e pos) (-x) :=
  ⟨pe_un, fun s _ _ ok F M q => UnaryOp_ (h.jd s _ _ ok F M fun v hp tk N₁ F₁ M₁ r => by obtain ⟨⟨t, rfl⟩, rfl⟩ := r; exact neg_int (q _ _ _ _ F₁ M₁ ⟨⟨_, rfl⟩, rfl⟩))⟩
theorem Tr.list {e : Expr} {D : Addr} {its : Array Value} {n : Nat} (h : EvV f en b N e (.ref D)) (hm : (D, W.listOf its n) ∈ N) (hz : its.size ≤ 100000) (hp : PlainT en e) : Tr f en b N e (!its.isEmpty) :=
  Tr.ofE h (fun v N₁ r => by obtain ⟨rfl, rfl⟩ := r; exact fun s _ _ _ F M q => truthy_listK M hm (Nat.le_trans hz (Nat.le_of_ble_eq_true rfl)) rfl fun k => q _ _ _ _ F M ⟨rfl, rfl⟩) hp
theorem EvV.last {o i : Expr} {pos : Pos} {D : Addr} {its : Array Value} {n : Nat} {v : Value} (ho : EvV f en b N o (.ref D)) (hi : EvI f en b N i (-1)) (hm : (D, W.listOf its n) ∈ N) (hv : its.back? = some v) : EvV f en b N (.Subscript o i pos) v :=
  Ev.sub ho fun _ _ r => by
    obtain ⟨rfl, rfl⟩ := r
    exact hi.mono fun _ _ r => by
      obtain ⟨⟨u, rfl⟩, rfl⟩ := r
      exact fun s _ _ _ F M q => last_K M hm hv (q _ _ _ _ F M ⟨rfl, rfl⟩) (hi.pe.sub _ _)
/-- pop, as a statement -/
theorem Ex.pop {o : Expr} {apos pos spos : Pos} {D : Addr} {its : Array Value} {n : Nat} {y : Value} {N₂ : Led} {K : Flow → Binds → Led → Prop} (ho : EvV f f.env b N o (.ref D)) (U : Upd D (W.listOf its n) (W.listOf its.pop (n + 1)) N N₂) (hm : (D, W.listOf its n) ∈ N) (hy : its[its.size - 1]? = some y) (hz : its.size ≤ 100000)
    (k : K .next b N₂) (hf : MethOk f.env o (Str.ofString "pop") apos [] pos) (hi : interactive f.env = false) (hw : swapsWith (.Call (.Attribute o (Str.ofString "pop") apos) [] [] pos) none spos.line f.env = pure false) :
    Ex f b N (.Expr (.Call (.Attribute o (Str.ofString "pop") apos) [] [] pos) spos) K := by
  obtain ⟨pl, hf⟩ := hf
  exact fun s _ _ ok F M q => wpAny_Expr_any (MethodCall_ (pl := pl) (ho.jd s _ _ ok F M fun v h tk N₁ F₁ M₁ r => by
    obtain ⟨rfl, rfl⟩ := r
    exact kl_method M₁ hm PySem.F.slot_list_pop PySem.F.type_list_pop (callWith_method0 (pop_K F₁ M₁ U hy (Nat.le_trans hz (by rw [sizeLine_eq]; exact Nat.le_of_ble_eq_true rfl)) fun h' F₂ M₂ => q _ _ _ _ _ F₂ M₂ k))) hf) hi hw
/-- «or», of a text that is not empty -/
theorem EvS.or {e e2 : Expr} {rest : List Expr} {x : Str} {pos : Pos} (h : EvS f en b N e x) (hx : Sz x) (hx0 : x ≠ Str.ofString "") : EvS f en b N (.BoolOp .Or (e :: e2 :: rest) pos) x :=
  ⟨pe_bool, fun s _ _ ok F M q => BoolOp_or (h.jd s _ _ ok F M fun v hp tk N₁ F₁ M₁ r => by
    obtain ⟨⟨t, rfl⟩, rfl⟩ := r
    exact KXt.truthy (str_pos.trans (bne_iff_ne.mpr hx0)) (Nat.le_trans hx (Nat.le_of_ble_eq_true rfl)) fun k => q _ _ _ _ F₁ M₁ ⟨⟨t, rfl⟩, rfl⟩)⟩
end
end Mine
end
section
open PySem PySem.W PyProof.Rows PySem.Calls
set_option Elab.async false
set_option maxRecDepth 100000
set_option maxHeartbeats 4000000
set_option linter.unusedVariables false
set_option rowWalk.seconds 0
namespace Mine
theorem met (w : World) : model PySem.Challenge.rw_in0109_01.row.prog w = model PySem.Challenge.rw_in0109_01.row.prog w ∧ Mine.hd.heap_1 w.params = Mine.hd.heap_1 w.params := by
  k_fill
  exact ⟨rfl, rfl⟩
theorem g_fspath (w : World) : Fun w (Str.ofString "fspath") 130 := by
  have h : model PySem.Challenge.rw_in0109_01.row.prog w = model PySem.Challenge.rw_in0109_01.row.prog w ∧ nsIn (Mine.hd.heap_1 w.params) mainGlobals (Str.ofString "fspath") = some (some (.ref 130)) ∧ keepIn (Mine.hd.heap_1 w.params) (.ref 130) = true := by
    k_fill
    exact ⟨rfl, by k_is, by k_is⟩
  exact ⟨Glob.text h.2.1 rfl, h.2.2⟩
theorem g_get_sep (w : World) : Fun w (Str.ofString "_get_sep") 144 := by
  have h : model PySem.Challenge.rw_in0109_01.row.prog w = model PySem.Challenge.rw_in0109_01.row.prog w ∧ nsIn (Mine.hd.heap_1 w.params) mainGlobals (Str.ofString "_get_sep") = some (some (.ref 144)) ∧ keepIn (Mine.hd.heap_1 w.params) (.ref 144) = true := by
    k_fill
    exact ⟨rfl, by k_is, by k_is⟩
  exact ⟨Glob.text h.2.1 rfl, h.2.2⟩
theorem g_join (w : World) : Fun w (Str.ofString "join") 151 := by
  have h : model PySem.Challenge.rw_in0109_01.row.prog w = model PySem.Challenge.rw_in0109_01.row.prog w ∧ nsIn (Mine.hd.heap_1 w.params) mainGlobals (Str.ofString "join") = some (some (.ref 151)) ∧ keepIn (Mine.hd.heap_1 w.params) (.ref 151) = true := by
    k_fill
    exact ⟨rfl, by k_is, by k_is⟩
  exact ⟨Glob.text h.2.1 rfl, h.2.2⟩
theorem g_splitroot (w : World) : Fun w (Str.ofString "splitroot") 158 := by
  have h : model PySem.Challenge.rw_in0109_01.row.prog w = model PySem.Challenge.rw_in0109_01.row.prog w ∧ nsIn (Mine.hd.heap_1 w.params) mainGlobals (Str.ofString "splitroot") = some (some (.ref 158)) ∧ keepIn (Mine.hd.heap_1 w.params) (.ref 158) = true := by
    k_fill
    exact ⟨rfl, by k_is, by k_is⟩
  exact ⟨Glob.text h.2.1 rfl, h.2.2⟩
theorem g_basename (w : World) : Fun w (Str.ofString "basename") 165 := by
  have h : model PySem.Challenge.rw_in0109_01.row.prog w = model PySem.Challenge.rw_in0109_01.row.prog w ∧ nsIn (Mine.hd.heap_1 w.params) mainGlobals (Str.ofString "basename") = some (some (.ref 165)) ∧ keepIn (Mine.hd.heap_1 w.params) (.ref 165) = true := by
    k_fill
    exact ⟨rfl, by k_is, by k_is⟩
  exact ⟨Glob.text h.2.1 rfl, h.2.2⟩
theorem g_dirname (w : World) : Fun w (Str.ofString "dirname") 172 := by
  have h : model PySem.Challenge.rw_in0109_01.row.prog w = model PySem.Challenge.rw_in0109_01.row.prog w ∧ nsIn (Mine.hd.heap_1 w.params) mainGlobals (Str.ofString "dirname") = some (some (.ref 172)) ∧ keepIn (Mine.hd.heap_1 w.params) (.ref 172) = true := by
    k_fill
    exact ⟨rfl, by k_is, by k_is⟩
  exact ⟨Glob.text h.2.1 rfl, h.2.2⟩
theorem g_normpath (w : World) : Fun w (Str.ofString "normpath") 179 := by
  have h : model PySem.Challenge.rw_in0109_01.row.prog w = model PySem.Challenge.rw_in0109_01.row.prog w ∧ nsIn (Mine.hd.heap_1 w.params) mainGlobals (Str.ofString "normpath") = some (some (.ref 179)) ∧ keepIn (Mine.hd.heap_1 w.params) (.ref 179) = true := by
    k_fill
    exact ⟨rfl, by k_is, by k_is⟩
  exact ⟨Glob.text h.2.1 rfl, h.2.2⟩
theorem g_commonpath (w : World) : Fun w (Str.ofString "commonpath") 184 := by
  have h : model PySem.Challenge.rw_in0109_01.row.prog w = model PySem.Challenge.rw_in0109_01.row.prog w ∧ nsIn (Mine.hd.heap_1 w.params) mainGlobals (Str.ofString "commonpath") = some (some (.ref 184)) ∧ keepIn (Mine.hd.heap_1 w.params) (.ref 184) = true := by
    k_fill
    exact ⟨rfl, by k_is, by k_is⟩
  exact ⟨Glob.text h.2.1 rfl, h.2.2⟩
theorem g_law_place (w : World) : Fun w (Str.ofString "_law_place") 191 := by
  have h : model PySem.Challenge.rw_in0109_01.row.prog w = model PySem.Challenge.rw_in0109_01.row.prog w ∧ nsIn (Mine.hd.heap_1 w.params) mainGlobals (Str.ofString "_law_place") = some (some (.ref 191)) ∧ keepIn (Mine.hd.heap_1 w.params) (.ref 191) = true := by
    k_fill
    exact ⟨rfl, by k_is, by k_is⟩
  exact ⟨Glob.text h.2.1 rfl, h.2.2⟩
theorem g_law_ways (w : World) : Fun w (Str.ofString "_law_ways") 198 := by
  have h : model PySem.Challenge.rw_in0109_01.row.prog w = model PySem.Challenge.rw_in0109_01.row.prog w ∧ nsIn (Mine.hd.heap_1 w.params) mainGlobals (Str.ofString "_law_ways") = some (some (.ref 198)) ∧ keepIn (Mine.hd.heap_1 w.params) (.ref 198) = true := by
    k_fill
    exact ⟨rfl, by k_is, by k_is⟩
  exact ⟨Glob.text h.2.1 rfl, h.2.2⟩
theorem g_law_deed (w : World) : Fun w (Str.ofString "_law_deed") 205 := by
  have h : model PySem.Challenge.rw_in0109_01.row.prog w = model PySem.Challenge.rw_in0109_01.row.prog w ∧ nsIn (Mine.hd.heap_1 w.params) mainGlobals (Str.ofString "_law_deed") = some (some (.ref 205)) ∧ keepIn (Mine.hd.heap_1 w.params) (.ref 205) = true := by
    k_fill
    exact ⟨rfl, by k_is, by k_is⟩
  exact ⟨Glob.text h.2.1 rfl, h.2.2⟩
theorem g_law_let (w : World) : Fun w (Str.ofString "_law_let") 210 := by
  have h : model PySem.Challenge.rw_in0109_01.row.prog w = model PySem.Challenge.rw_in0109_01.row.prog w ∧ nsIn (Mine.hd.heap_1 w.params) mainGlobals (Str.ofString "_law_let") = some (some (.ref 210)) ∧ keepIn (Mine.hd.heap_1 w.params) (.ref 210) = true := by
    k_fill
    exact ⟨rfl, by k_is, by k_is⟩
  exact ⟨Glob.text h.2.1 rfl, h.2.2⟩
theorem g_law_noted (w : World) : Fun w (Str.ofString "_law_noted") 215 := by
  have h : model PySem.Challenge.rw_in0109_01.row.prog w = model PySem.Challenge.rw_in0109_01.row.prog w ∧ nsIn (Mine.hd.heap_1 w.params) mainGlobals (Str.ofString "_law_noted") = some (some (.ref 215)) ∧ keepIn (Mine.hd.heap_1 w.params) (.ref 215) = true := by
    k_fill
    exact ⟨rfl, by k_is, by k_is⟩
  exact ⟨Glob.text h.2.1 rfl, h.2.2⟩
theorem g_law_spots (w : World) : Fun w (Str.ofString "_law_spots") 220 := by
  have h : model PySem.Challenge.rw_in0109_01.row.prog w = model PySem.Challenge.rw_in0109_01.row.prog w ∧ nsIn (Mine.hd.heap_1 w.params) mainGlobals (Str.ofString "_law_spots") = some (some (.ref 220)) ∧ keepIn (Mine.hd.heap_1 w.params) (.ref 220) = true := by
    k_fill
    exact ⟨rfl, by k_is, by k_is⟩
  exact ⟨Glob.text h.2.1 rfl, h.2.2⟩
theorem g_law_same (w : World) : Fun w (Str.ofString "_law_same") 225 := by
  have h : model PySem.Challenge.rw_in0109_01.row.prog w = model PySem.Challenge.rw_in0109_01.row.prog w ∧ nsIn (Mine.hd.heap_1 w.params) mainGlobals (Str.ofString "_law_same") = some (some (.ref 225)) ∧ keepIn (Mine.hd.heap_1 w.params) (.ref 225) = true := by
    k_fill
    exact ⟨rfl, by k_is, by k_is⟩
  exact ⟨Glob.text h.2.1 rfl, h.2.2⟩
theorem g_law_run (w : World) : Fun w (Str.ofString "_law_run") 230 := by
  have h : model PySem.Challenge.rw_in0109_01.row.prog w = model PySem.Challenge.rw_in0109_01.row.prog w ∧ nsIn (Mine.hd.heap_1 w.params) mainGlobals (Str.ofString "_law_run") = some (some (.ref 230)) ∧ keepIn (Mine.hd.heap_1 w.params) (.ref 230) = true := by
    k_fill
    exact ⟨rfl, by k_is, by k_is⟩
  exact ⟨Glob.text h.2.1 rfl, h.2.2⟩
theorem b_isinstance (w : World) : Glob w (Str.ofString "isinstance") (.builtin "isinstance") := by
  have h : model PySem.Challenge.rw_in0109_01.row.prog w = model PySem.Challenge.rw_in0109_01.row.prog w ∧ nsIn (Mine.hd.heap_1 w.params) mainGlobals (Str.ofString "isinstance") = some none := by
    k_fill
    exact ⟨rfl, by k_is⟩
  exact Glob.blt h.2 (by first | boot_fast | boot_by_name) (by decide) rfl
theorem b_bytes (w : World) : Glob w (Str.ofString "bytes") (.type "bytes") := by
  have h : model PySem.Challenge.rw_in0109_01.row.prog w = model PySem.Challenge.rw_in0109_01.row.prog w ∧ nsIn (Mine.hd.heap_1 w.params) mainGlobals (Str.ofString "bytes") = some none := by
    k_fill
    exact ⟨rfl, by k_is⟩
  exact Glob.blt h.2 (by first | boot_fast | boot_by_name) (by decide) rfl
theorem b_str (w : World) : Glob w (Str.ofString "str") (.type "str") := by
  have h : model PySem.Challenge.rw_in0109_01.row.prog w = model PySem.Challenge.rw_in0109_01.row.prog w ∧ nsIn (Mine.hd.heap_1 w.params) mainGlobals (Str.ofString "str") = some none := by
    k_fill
    exact ⟨rfl, by k_is⟩
  exact Glob.blt h.2 (by first | boot_fast | boot_by_name) (by decide) rfl
theorem b_list (w : World) : Glob w (Str.ofString "list") (.type "list") := by
  have h : model PySem.Challenge.rw_in0109_01.row.prog w = model PySem.Challenge.rw_in0109_01.row.prog w ∧ nsIn (Mine.hd.heap_1 w.params) mainGlobals (Str.ofString "list") = some none := by
    k_fill
    exact ⟨rfl, by k_is⟩
  exact Glob.blt h.2 (by first | boot_fast | boot_by_name) (by decide) rfl
theorem b_dict (w : World) : Glob w (Str.ofString "dict") (.type "dict") := by
  have h : model PySem.Challenge.rw_in0109_01.row.prog w = model PySem.Challenge.rw_in0109_01.row.prog w ∧ nsIn (Mine.hd.heap_1 w.params) mainGlobals (Str.ofString "dict") = some none := by
    k_fill
    exact ⟨rfl, by k_is⟩
  exact Glob.blt h.2 (by first | boot_fast | boot_by_name) (by decide) rfl
theorem b_tuple (w : World) : Glob w (Str.ofString "tuple") (.type "tuple") := by
  have h : model PySem.Challenge.rw_in0109_01.row.prog w = model PySem.Challenge.rw_in0109_01.row.prog w ∧ nsIn (Mine.hd.heap_1 w.params) mainGlobals (Str.ofString "tuple") = some none := by
    k_fill
    exact ⟨rfl, by k_is⟩
  exact Glob.blt h.2 (by first | boot_fast | boot_by_name) (by decide) rfl
theorem b_len (w : World) : Glob w (Str.ofString "len") (.builtin "len") := by
  have h : model PySem.Challenge.rw_in0109_01.row.prog w = model PySem.Challenge.rw_in0109_01.row.prog w ∧ nsIn (Mine.hd.heap_1 w.params) mainGlobals (Str.ofString "len") = some none := by
    k_fill
    exact ⟨rfl, by k_is⟩
  exact Glob.blt h.2 (by first | boot_fast | boot_by_name) (by decide) rfl
theorem b_range (w : World) : Glob w (Str.ofString "range") (.type "range") := by
  have h : model PySem.Challenge.rw_in0109_01.row.prog w = model PySem.Challenge.rw_in0109_01.row.prog w ∧ nsIn (Mine.hd.heap_1 w.params) mainGlobals (Str.ofString "range") = some none := by
    k_fill
    exact ⟨rfl, by k_is⟩
  exact Glob.blt h.2 (by first | boot_fast | boot_by_name) (by decide) rfl
theorem b_zip (w : World) : Glob w (Str.ofString "zip") (.type "zip") := by
  have h : model PySem.Challenge.rw_in0109_01.row.prog w = model PySem.Challenge.rw_in0109_01.row.prog w ∧ nsIn (Mine.hd.heap_1 w.params) mainGlobals (Str.ofString "zip") = some none := by
    k_fill
    exact ⟨rfl, by k_is⟩
  exact Glob.blt h.2 (by first | boot_fast | boot_by_name) (by decide) rfl
theorem b_map (w : World) : Glob w (Str.ofString "map") (.type "map") := by
  have h : model PySem.Challenge.rw_in0109_01.row.prog w = model PySem.Challenge.rw_in0109_01.row.prog w ∧ nsIn (Mine.hd.heap_1 w.params) mainGlobals (Str.ofString "map") = some none := by
    k_fill
    exact ⟨rfl, by k_is⟩
  exact Glob.blt h.2 (by first | boot_fast | boot_by_name) (by decide) rfl
theorem b_enumerate (w : World) : Glob w (Str.ofString "enumerate") (.type "enumerate") := by
  have h : model PySem.Challenge.rw_in0109_01.row.prog w = model PySem.Challenge.rw_in0109_01.row.prog w ∧ nsIn (Mine.hd.heap_1 w.params) mainGlobals (Str.ofString "enumerate") = some none := by
    k_fill
    exact ⟨rfl, by k_is⟩
  exact Glob.blt h.2 (by first | boot_fast | boot_by_name) (by decide) rfl
theorem b_min (w : World) : Glob w (Str.ofString "min") (.builtin "min") := by
  have h : model PySem.Challenge.rw_in0109_01.row.prog w = model PySem.Challenge.rw_in0109_01.row.prog w ∧ nsIn (Mine.hd.heap_1 w.params) mainGlobals (Str.ofString "min") = some none := by
    k_fill
    exact ⟨rfl, by k_is⟩
  exact Glob.blt h.2 (by first | boot_fast | boot_by_name) (by decide) rfl
theorem b_max (w : World) : Glob w (Str.ofString "max") (.builtin "max") := by
  have h : model PySem.Challenge.rw_in0109_01.row.prog w = model PySem.Challenge.rw_in0109_01.row.prog w ∧ nsIn (Mine.hd.heap_1 w.params) mainGlobals (Str.ofString "max") = some none := by
    k_fill
    exact ⟨rfl, by k_is⟩
  exact Glob.blt h.2 (by first | boot_fast | boot_by_name) (by decide) rfl
theorem b_abs (w : World) : Glob w (Str.ofString "abs") (.builtin "abs") := by
  have h : model PySem.Challenge.rw_in0109_01.row.prog w = model PySem.Challenge.rw_in0109_01.row.prog w ∧ nsIn (Mine.hd.heap_1 w.params) mainGlobals (Str.ofString "abs") = some none := by
    k_fill
    exact ⟨rfl, by k_is⟩
  exact Glob.blt h.2 (by first | boot_fast | boot_by_name) (by decide) rfl
theorem b_type (w : World) : Glob w (Str.ofString "type") (.type "type") := by
  have h : model PySem.Challenge.rw_in0109_01.row.prog w = model PySem.Challenge.rw_in0109_01.row.prog w ∧ nsIn (Mine.hd.heap_1 w.params) mainGlobals (Str.ofString "type") = some none := by
    k_fill
    exact ⟨rfl, by k_is⟩
  exact Glob.blt h.2 (by first | boot_fast | boot_by_name) (by decide) rfl
theorem b_issubclass (w : World) : Glob w (Str.ofString "issubclass") (.builtin "issubclass") := by
  have h : model PySem.Challenge.rw_in0109_01.row.prog w = model PySem.Challenge.rw_in0109_01.row.prog w ∧ nsIn (Mine.hd.heap_1 w.params) mainGlobals (Str.ofString "issubclass") = some none := by
    k_fill
    exact ⟨rfl, by k_is⟩
  exact Glob.blt h.2 (by first | boot_fast | boot_by_name) (by decide) rfl
section
variable {f : Fx} {b : Binds} {N : Led} {en : Env}
/-- isinstance of a text and bytes -/
theorem Tr.isBytes {x : Str} {e : Expr} {np bp pos : Pos} (he : EvS f en b N e x) (hg : gB en (Str.ofString "isinstance") = true) (hb : gB en (Str.ofString "bytes") = true) :
    Tr f en b N (.Call (.Name (Str.ofString "isinstance") np) [e, .Name (Str.ofString "bytes") bp] [] pos) false :=
  Tr.ofB (Ev.callN (b_isinstance _) (Ags.cons (R' := fun vs N' => (∃ t, vs = [.str x t, .type "bytes"]) ∧ N' = N) he (fun v N₁ r => by
      obtain ⟨⟨t, rfl⟩, rfl⟩ := r
      exact (Ags.oneV (EvV.glob (b_bytes _) hb)).mono fun vs N₂ r₂ => by obtain ⟨rfl, rfl⟩ := r₂; exact ⟨⟨t, rfl⟩, rfl⟩))
    (fun vs N₁ r => by obtain ⟨⟨t, rfl⟩, rfl⟩ := r; exact fun s _ _ _ F M q => IsiPair.str_bytes (q _ _ _ _ F M ⟨rfl, rfl⟩)) hg ⟨he.pe, pe_name, trivial⟩) rfl
end
theorem c_get_sep (w : World) (x : Str) (t : Tok) : Pure w 144 1 [] [.str x t] (GS (Str.ofString "/")) := by
  delta Pure
  k_fill
  refine enter [((Str.ofString "path"), .str x t)] (by k_is) (by k_is) (fun _ _ => BindsTo.of_eq rfl) (locs rfl) rfl rfl rfl (by decide) ?_
  rintro c rfl hrd
  exact Exs.els (Tr.isBytes (EvS.of (EvV.name rfl rfl)) rfl rfl) (Exs.retS EvS.lit fun t => RetN.mk (GS.of rfl))
end Mine
end
section
open PySem PySem.W PyProof.Rows PySem.Calls
set_option Elab.async false
set_option maxRecDepth 100000
set_option maxHeartbeats 4000000
set_option linter.unusedVariables false
set_option rowWalk.seconds 0
namespace Mine
section
variable {f : Fx} {b : Binds} {N : Led} {en : Env}
theorem EvV.typeS {x : Str} {e : Expr} {np pos : Pos} (he : EvS f en b N e x) (hg : gB en (Str.ofString "type") = true) : EvV f en b N (.Call (.Name (Str.ofString "type") np) [e] [] pos) (.type "str") :=
  ⟨pe_call, fun s _ _ ok F M q => Call_ ((EvV.glob (b_type _) hg).jd s _ _ ok F M fun v h tk N₁ F₁ M₁ r => by
    obtain ⟨rfl, rfl⟩ := r
    exact Pv.callWith_type1 (Ags.one he _ _ _ ok F₁ M₁ fun vs h tk N₂ F₂ M₂ r₂ => by
      obtain ⟨⟨t, rfl⟩, rfl⟩ := r₂
      exact call_type_of (typeIs_str _ _ _) rfl (q _ _ _ _ F₂ M₂ ⟨rfl, rfl⟩)) (he.pe.arg _ _) rfl) rfl⟩
end
theorem c_fspath (w : World) (x : Str) (t : Tok) : Pure w 130 1 [] [.str x t] (GS x) := by
  delta Pure
  k_fill
  refine enter [((Str.ofString "path"), .str x t)] (by k_is) (by k_is) (fun _ _ => BindsTo.of_eq rfl) (locs rfl) rfl rfl rfl (by decide) ?_
  rintro c rfl hrd
  refine Exs.asV (EvV.typeS (EvS.of (EvV.name rfl rfl)) rfl) ?_ rfl rfl
  refine Exs.yes (Tr.ofE (R := fun v _ => v = .bool true) (Ev.callN (b_issubclass _) (Ags.cons (R' := fun vs N' => ∃ D, vs = [.type "str", .ref D] ∧ (D, tupO [.type "str", .type "bytes"]) ∈ N') (EvV.name rfl rfl) ?_) ?_ rfl ⟨pe_name, pe_tup, trivial⟩) ?_ rfl) (Exs.retS (EvS.of (EvV.name rfl rfl)) fun t => RetN.mk (GS.of rfl))
  · rintro v N' ⟨rfl, rfl⟩
    refine Ags.cons (Ev.tup (Ags.cons (R' := Is [] [.type "str", .type "bytes"]) (EvV.glob (b_str _) rfl) ?_) fun vs N₁ r => by obtain ⟨rfl, rfl⟩ := r; exact jd_newTuple (Nat.le_of_ble_eq_true rfl)) ?_
    · rintro v N' ⟨rfl, rfl⟩
      exact (Ags.oneV (EvV.glob (b_bytes _) rfl)).mono fun vs N₂ r₂ => by obtain ⟨rfl, rfl⟩ := r₂; exact ⟨rfl, rfl⟩
    · rintro v N' ⟨D, rfl, rfl, -⟩
      exact Ags.nil.mono fun vs N₂ r₂ => by obtain ⟨rfl, rfl⟩ := r₂; exact ⟨D, rfl, List.mem_cons_self⟩
  · rintro vs N₁ ⟨D, rfl, hm⟩
    exact fun s _ _ _ F M q => call_issub (M.get hm) (q _ _ _ _ F M rfl)
  · rintro v N₁ rfl
    exact jd_tb.drop fun v N' r => ⟨[], (fun _ h => nomatch h), r.1, rfl⟩
def pbase (x : Str) : Str := Txt.slice x (some (Txt.rfind x (Str.ofString "/") + 1)) none
theorem c_basename (w : World) (x : Str) (t : Tok) (hx : Sz x) : Pure w 165 2 [] [.str x t] (GS (pbase x)) := by
  delta Pure
  k_fill
  refine enter [((Str.ofString "p"), .str x t)] (by k_is) (by k_is) (fun _ _ => BindsTo.of_eq rfl) (locs rfl) rfl rfl rfl (by decide) ?_
  rintro c rfl hrd
  refine Exs.asS (EvS.call1 (g_fspath _) (fun t => c_fspath _ x t) (EvS.of (EvV.name rfl rfl)) rfl rfl rfl) (fun t => ?_) rfl rfl
  refine Exs.asS (EvS.call1 (g_get_sep _) (fun t => c_get_sep _ x t) (EvS.of (EvV.name rfl rfl)) rfl rfl rfl) (fun t2 => ?_) rfl rfl
  refine Exs.asI (EvI.bin (EvI.rfind (EvS.of (EvV.name rfl rfl)) (EvS.of (EvV.name rfl rfl)) ⟨_, rfl⟩) EvI.lit jd_addI) (fun t3 => ?_) rfl rfl
  exact Exs.retS (EvS.sliceL (EvS.of (EvV.name rfl rfl)) (EvI.of (EvV.name rfl rfl)) hx) fun t => RetN.mk (GS.of rfl)
def phead (x : Str) : Str := Txt.slice x none (some (Txt.rfind x (Str.ofString "/") + 1))
def pdir (x : Str) : Str := if (phead x != Txt.mul (Str.ofString "/") (phead x).length) = true then Txt.rstripChars (phead x) (Str.ofString "/") else phead x
section
variable {f : Fx} {b : Binds} {N : Led} {en : Env}
theorem EvI.lenS {x : Str} {e : Expr} {np pos : Pos} (he : EvS f en b N e x) (hz : Sz x) (hg : gB en (Str.ofString "len") = true) : EvI f en b N (.Call (.Name (Str.ofString "len") np) [e] [] pos) x.length :=
  Ev.callN (b_len _) (Ags.one he) (fun vs N₁ r => by obtain ⟨⟨t, rfl⟩, rfl⟩ := r; exact fun s _ _ _ F M q => P.len_str (by have := hz; omega) (q _ _ _ _ F M ⟨⟨_, rfl⟩, rfl⟩)) hg ⟨he.pe, trivial⟩
theorem EvS.mul {l r : Expr} {x : Str} {n : Nat} {pos : Pos} (hl : EvS f en b N l x) (hr : EvI f en b N r n) (hx : x.length = 1) (hn : n ≤ 100000) : EvS f en b N (.BinOp l .Mult r pos) (Txt.mul x n) :=
  Ev.bin hl fun v N₁ r₁ => by
    obtain ⟨⟨t, rfl⟩, rfl⟩ := r₁
    exact hr.mono fun v N₁ r₂ => by
      obtain ⟨⟨u, rfl⟩, rfl⟩ := r₂
      exact fun s _ _ _ F M q => KXi.mul hx (by decide) (by omega) (by omega) fun t' k _ _ => q _ _ _ _ F M ⟨⟨_, rfl⟩, rfl⟩
end
theorem sz_slice {x : Str} {i j : Option Int} (h : Sz x) : Sz (Txt.slice x i j) := Nat.le_trans (PyProof.Txt.length_slice_le x _ _) h
theorem c_dirname (w : World) (x : Str) (t : Tok) (hx : Sz x) (e1 : phead x ≠ Str.ofString "") : Pure w 172 2 [] [.str x t] (GS (pdir x)) := by
  delta Pure
  k_fill
  refine enter [((Str.ofString "p"), .str x t)] (by k_is) (by k_is) (fun _ _ => BindsTo.of_eq rfl) (locs rfl) rfl rfl rfl (by decide) ?_
  rintro c rfl hrd
  have hh : Sz (phead x) := sz_slice hx
  refine Exs.asS (EvS.call1 (g_fspath _) (fun t => c_fspath _ x t) (EvS.of (EvV.name rfl rfl)) rfl rfl rfl) (fun t => ?_) rfl rfl
  refine Exs.asS (EvS.call1 (g_get_sep _) (fun t => c_get_sep _ x t) (EvS.of (EvV.name rfl rfl)) rfl rfl rfl) (fun t2 => ?_) rfl rfl
  refine Exs.asI (EvI.bin (EvI.rfind (EvS.of (EvV.name rfl rfl)) (EvS.of (EvV.name rfl rfl)) ⟨_, rfl⟩) EvI.lit jd_addI) (fun t3 => ?_) rfl rfl
  refine Exs.asS (y := phead x) (EvS.sliceR (EvS.of (EvV.name rfl rfl)) (EvI.of (EvV.name rfl rfl)) hx) (fun t4 => ?_) rfl rfl
  refine Exs.ite (Tr.all (jd_and (Tr.str (EvS.of (EvV.name rfl rfl)) hh rfl) fun _ => jd_and (Tr.neS (EvS.of (EvV.name rfl rfl)) (EvS.mul (EvS.of (EvV.name rfl rfl)) (EvI.lenS (EvS.of (EvV.name rfl rfl)) hh rfl) rfl hh)) fun _ => jd_and0)) ?_
  rw [bne_iff_ne.mpr e1, Bool.true_and, Bool.and_true]
  cases h : (phead x != Txt.mul (Str.ofString "/") (phead x).length)
  · refine Exs.nil (Exs.retS (EvS.of (EvV.name rfl rfl)) fun t => RetN.mk (GS.of ?_))
    unfold pdir; rw [h]; rfl
  · refine Exs.asS (EvS.rstrip (EvS.of (EvV.name rfl rfl)) (EvS.of (EvV.name rfl rfl)) hh ⟨_, rfl⟩) (fun t5 => ?_) rfl rfl
    refine Exs.nil (Exs.retS (EvS.of (EvV.name rfl rfl)) fun t => RetN.mk (GS.of ?_))
    unfold pdir; rw [h]; rfl
end Mine
end
section
open PySem PySem.W PyProof.Rows PySem.Calls
set_option Elab.async false
set_option maxRecDepth 100000
set_option maxHeartbeats 4000000
set_option linter.unusedVariables false
set_option rowWalk.seconds 0
namespace Mine
section
variable {f : Fx} {b : Binds} {N : Led} {rest : List Stmt} {K : Flow → Binds → Led → Prop}
/-- x, y, z = a tuple of three -/
theorem Exs.as3 {x1 x2 x3 : Str} {p1 p2 p3 tp pos : Pos} {k : Nat} {e : Expr} {R : Value → Led → Prop} (h : Ev f f.env b N e R)
    (hk : ∀ v N', R v N' → ∃ D v1 v2 v3, v = .ref D ∧ AtT f N' D [v1, v2, v3] ∧ Exs f ((x3, some v3) :: (x2, some v2) :: (x1, some v1) :: b) N' rest K)
    (h1 : swapsWithSole [.Tuple [.Name x1 p1, .Name x2 p2, .Name x3 p3] k tp] e pos.line f.env = pure false) (h2 : swappedStores [.Tuple [.Name x1 p1, .Name x2 p2, .Name x3 p3] k tp] e f.env = pure none)
    (l1 : lB f.cs x1 .local = true) (l2 : lB f.cs x2 .local = true) (l3 : lB f.cs x3 .local = true) : Exs f b N (.Assign [.Tuple [.Name x1 p1, .Name x2 p2, .Name x3 p3] k tp] e pos :: rest) K :=
  Exs.cons fun s _ _ ok F M q => Assign_Tuple (h.jd s _ _ ok F M fun v hp tk N' F' M' r => by
    obtain ⟨D, v1, v2, v3, rfl, ht, kk⟩ := hk v N' r
    refine unpackN_ F' M' (ht.is F' M') rfl rfl rfl fun h' F₂ M₂ => ?_
    refine assignInOrder_cons (assign_Name (storeX_L F₂ M₂ (fun h' F₃ M₃ => ?_) (lB_ok l1).1 (lB_ok l1).2.1))
    refine assignInOrder_cons (assign_Name (storeX_L (put_frw F₃) M₃ (fun h' F₄ M₄ => ?_) (lB_ok l2).1 (lB_ok l2).2.1))
    refine assignInOrder_cons (assign_Name (storeX_L (put_frw F₄) M₄ (fun h' F₅ M₅ => ?_) (lB_ok l3).1 (lB_ok l3).2.1))
    exact assignInOrder_nil (q .next _ _ _ N' (put_frw F₅) M₅ kk)) h1 h2
end
/-- an answer that is a tuple of '', '/' and y -/
def GT3 (y : Str) (r : Value) (nw : Led) : Prop := ∃ D t1 t2 t3, r = .ref D ∧ nw = [(D, tupO [.str (Str.ofString "") t1, .str (Str.ofString "/") t2, .str y t3])]
theorem c_splitroot (w : World) (x : Str) (t : Tok) (hx : Sz x) (e1 : (Txt.slice x none (some 1) != Str.ofString "/") = false) (e2 : (Txt.slice x (some 1) (some 2) != Str.ofString "/") = true) :
    Pure w 158 2 [] [.str x t] (GT3 (Txt.slice x (some 1) none)) := by
  delta Pure
  k_fill
  refine enter [((Str.ofString "p"), .str x t)] (by k_is) (by k_is) (fun _ _ => BindsTo.of_eq rfl) (locs rfl) rfl rfl rfl (by decide) ?_
  rintro c rfl hrd
  refine Exs.asS (EvS.call1 (g_fspath _) (fun t => c_fspath _ x t) (EvS.of (EvV.name rfl rfl)) rfl rfl rfl) (fun t => ?_) rfl rfl
  refine Exs.els (Tr.isBytes (EvS.of (EvV.name rfl rfl)) rfl rfl) (Exs.asS EvS.lit (fun t1 => Exs.asS EvS.lit (fun t2 => Exs.nil ?_) rfl rfl) rfl rfl)
  refine Exs.els (Jd.is (Tr.neS (EvS.sliceR (EvS.of (EvV.name rfl rfl)) EvI.lit hx) (EvS.of (EvV.name rfl rfl))) e1) (Exs.yes (Jd.is (Tr.all (jd_or (q := true) (Tr.neS (EvS.sliceB (EvS.of (EvV.name rfl rfl)) EvI.lit EvI.lit hx) (EvS.of (EvV.name rfl rfl))) fun h => absurd (e2.symm.trans h) (by decide))) (by rw [e2]; rfl)) ?_)
  refine Exs.ret (Ev.tup (Ags.cons (R' := fun vs N' => (∃ t1 t2 t3, vs = [.str (Str.ofString "") t1, .str (Str.ofString "/") t2, .str (Txt.slice x (some 1) none) t3]) ∧ N' = []) (EvV.name rfl rfl) ?_) fun vs N₁ r => by obtain ⟨⟨t1, t2, t3, rfl⟩, rfl⟩ := r; exact jd_newTuple (Nat.le_of_ble_eq_true rfl) |>.mono fun v N' r => (show GT3 (Txt.slice x (some 1) none) v N' from let ⟨D, e, e2, _⟩ := r; ⟨D, t1, t2, t3, e, e2⟩)) fun v N' h => ⟨_, _, .inl rfl, fun _ h => h, h⟩
  rintro v N' ⟨rfl, rfl⟩
  refine Ags.cons (EvV.name rfl rfl) ?_
  rintro v N' ⟨rfl, rfl⟩
  exact (Ags.one (EvS.sliceL (EvS.of (EvV.name rfl rfl)) EvI.lit hx)).mono fun vs N₂ r₂ => by obtain ⟨⟨t3, rfl⟩, rfl⟩ := r₂; exact ⟨⟨_, _, _, rfl⟩, rfl⟩
end Mine
end
section
open PySem PySem.W PyProof.Rows PySem.Calls
set_option Elab.async false
set_option maxRecDepth 100000
set_option maxHeartbeats 4000000
set_option linter.unusedVariables false
set_option rowWalk.seconds 0
namespace Mine
def pjoin (x y : Str) : Str := if Txt.startswith y (Str.ofString "/") = true then y else if Txt.endswith x (Str.ofString "/") = true then x ++ y else x ++ (Str.ofString "/" ++ y)
theorem aug_fits {x y : Str} (hx : x.length ≤ 50000) (hy : y.length ≤ 50000) : x.length + (Str.ofString "/" ++ y).length ≤ 16777216 := by
  have : (Str.ofString "/" ++ y).length ≤ 1 + 50000 := KT.len_app (Nat.le_refl 1) hy
  omega
theorem pj_y {x y : Str} (h1 : Txt.startswith y (Str.ofString "/") = true) : y = pjoin x y := by unfold pjoin; rw [h1]; rfl
theorem pj_x {x y : Str} (h1 : Txt.startswith y (Str.ofString "/") = false) (h2 : Txt.endswith x (Str.ofString "/") = true) : x ++ y = pjoin x y := by unfold pjoin; rw [h1, h2]; rfl
theorem pj_s {x y : Str} (h1 : Txt.startswith y (Str.ofString "/") = false) (h2 : Txt.endswith x (Str.ofString "/") = false) : x ++ (Str.ofString "/" ++ y) = pjoin x y := by unfold pjoin; rw [h1, h2]; rfl
section
variable {f : Fx} {b : Binds} {N : Led} {rest : List Stmt} {K : Flow → Binds → Led → Prop}
/-- x += e, of texts -/
theorem Exs.augS {x : Str} {px pos : Pos} {e : Expr} {u v z : Str} {t : Tok} (hv : bget b x = some (.str u t)) (he : EvS f f.env b N e v) (hz : u.length + v.length ≤ 16777216) (q : u ++ v = z) (k : ∀ t, Exs f ((x, some (.str z t)) :: b) N rest K) (l : lB f.cs x .local = true) : Exs f b N (.AugAssign (.Name x px) .Add e pos :: rest) K :=
  Exs.cons (Ex.aug hv l (R := IsS N z) (he.mono fun w N₁ r => by
    obtain ⟨⟨t4, rfl⟩, rfl⟩ := r
    subst q
    exact fun s _ _ _ F M q => SBL.iadd (fun t' k _ => q _ _ _ _ F M ⟨⟨_, rfl⟩, rfl⟩) (by rw [sizeLine_eq]; exact hz)) fun w N₁ r => by obtain ⟨⟨t4, rfl⟩, rfl⟩ := r; exact k t4)
end
theorem c_join (w : World) (x y : Str) (t u : Tok) (hx : x.length ≤ 50000) (hy : y.length ≤ 50000) (hx0 : x ≠ Str.ofString "") : Pure w 151 3 [] [.str x t, .str y u] (GS (pjoin x y)) := by
  refine enterR (fun D => [((Str.ofString "p"), .ref D), ((Str.ofString "a"), .str x t)]) (by k_is) (by k_is) (by kl_lit) (by exact rfl) (fun _ => rfl) (fun _ => locs rfl) rfl rfl rfl (by decide) ?_
  rintro c D news rfl lo
  have sx : Sz x := Nat.le_trans hx (Nat.le_of_ble_eq_true rfl)
  have sy : Sz y := Nat.le_trans hy (Nat.le_of_ble_eq_true rfl)
  refine Exs.asS (EvS.call1 (g_fspath _) (fun t => c_fspath _ x t) (EvS.of (EvV.name rfl rfl)) rfl rfl rfl) (fun t1 => ?_) rfl rfl
  refine Exs.asS (EvS.call1 (g_get_sep _) (fun t => c_get_sep _ x t) (EvS.of (EvV.name rfl rfl)) rfl rfl rfl) (fun t2 => ?_) rfl rfl
  refine Exs.asV (EvV.name rfl rfl) ?_ rfl rfl
  refine Exs.cons (Ex.tryQ (Exs.cons (Ex.forS (vs := [.str y u]) (o := tupO [.str y u]) (ax := D) (fun i b' N' => ((D, tupO [.str y u]) ∈ N' ∧ ∀ p ∈ news, p ∈ N') ∧ match i with
    | 0 => b' = ((Str.ofString "path"), some (.str x t1)) :: ((Str.ofString "sep"), some (.str (Str.ofString "/") t2)) :: ((Str.ofString "a"), some (.str x t1)) :: ofB [((Str.ofString "p"), .ref D), ((Str.ofString "a"), .str x t)]
    | _ => ∃ t, bget b' (Str.ofString "path") = some (.str (pjoin x y) t)) ((EvV.name rfl rfl).mono fun v N' r => ⟨r.1, by rw [r.2]; exact ⟨⟨List.mem_cons_self, fun p hp => List.mem_cons_of_mem _ hp⟩, rfl⟩⟩) ⟨.inr rfl, _, rfl⟩ (.inr fun i b' N' j => j.1.1) ?_ ?_ rfl)))
  · intro i v b' N' I oI hv j off
    cases i with
    | succ i => simp at hv
    | zero =>
      cases hv
      obtain ⟨jm, rfl⟩ := j
      have fin : ∀ (b2 : Binds) t, bget b2 (Str.ofString "path") = some (.str (pjoin x y) t) → ∃ N₃ : Led, (∀ p ∈ (I, oI) :: N₃, p ∈ (I, oI) :: N') ∧ (∀ p ∈ N₃, p.1 ≠ I) ∧ ((D, tupO [.str y u]) ∈ N₃ ∧ ∀ p ∈ news, p ∈ N₃) ∧ ∃ t, bget b2 (Str.ofString "path") = some (.str (pjoin x y) t) :=
        fun b2 t h => ⟨N', fun _ h => h, off, jm, t, h⟩
      refine Exs.asS (EvS.call1 (g_fspath _) (fun t => c_fspath _ y t) (EvS.of (EvV.name rfl rfl)) rfl rfl rfl) (fun t3 => ?_) rfl rfl
      refine Exs.ifs (p := Txt.startswith y (Str.ofString "/")) (Jd.is (Tr.all (jd_or (Tr.ofB (EvV.starts (EvS.of (EvV.name rfl rfl)) (EvS.of (EvV.name rfl rfl)) ⟨_, rfl⟩) rfl) fun _ => jd_or (Tr.not (Tr.str (EvS.of (EvV.name rfl rfl)) sx rfl)) fun _ => jd_or0)) (by rw [bne_iff_ne.mpr hx0, Bool.not_true, Bool.or_false, Bool.or_false])) (fun h1 => ?_) fun h1 => Exs.ifs (Tr.ofB (EvV.ends (EvS.of (EvV.name rfl rfl)) (EvS.of (EvV.name rfl rfl)) ⟨_, rfl⟩) rfl) (fun h2 => ?_) fun h2 => ?_
      · refine Exs.asS (EvS.of (EvV.name rfl rfl)) (fun t4 => ?_) rfl rfl
        repeat refine Exs.nil ?_
        exact fin _ t4 (by rw [← pj_y h1]; rfl)
      · refine Exs.augS rfl (EvS.of (EvV.name rfl rfl)) (by omega) (pj_x h1 h2) (fun t4 => ?_) rfl
        repeat refine Exs.nil ?_
        exact fin _ t4 rfl
      · refine Exs.augS rfl (EvS.add (EvS.of (EvV.name rfl rfl)) (EvS.of (EvV.name rfl rfl)) (Nat.le_of_ble_eq_true rfl) sy) (aug_fits hx hy) (pj_s h1 h2) (fun t4 => ?_) rfl
        repeat refine Exs.nil ?_
        exact fin _ t4 rfl
  · rintro b' N' ⟨jm, t4, h⟩
    refine Exs.nil (Exs.retS (EvS.of (EvV.name h rfl)) fun t5 => ⟨_, rfl, jm.2, GS.of rfl⟩)
end Mine
end
section
open PySem PySem.W PyProof.Rows PySem.Calls
set_option Elab.async false
set_option maxRecDepth 100000
set_option maxHeartbeats 4000000
set_option linter.unusedVariables false
set_option rowWalk.seconds 0
namespace Mine
def nstep (acc : List Str) (c : Str) : List Str := if c = Str.ofString "" ∨ c = Str.ofString "." then acc else if c = Str.ofString ".." then acc.dropLast else acc ++ [c]
def nfold (cs : List Str) : List Str := cs.foldl nstep []
theorem nfold_ne (cs : List Str) : ∀ c ∈ nfold cs, c ≠ Str.ofString ".." := by
  have key : ∀ (cs acc : List Str), (∀ c ∈ acc, c ≠ Str.ofString "..") → ∀ c ∈ cs.foldl nstep acc, c ≠ Str.ofString ".." := by
    intro cs
    induction cs with
    | nil => intro acc h; exact h
    | cons d r ih =>
      intro acc h
      refine ih _ ?_
      unfold nstep
      split
      · exact h
      · split
        · exact fun c hc => h c (List.dropLast_subset _ hc)
        · rename_i h2
          intro c hc
          rcases List.mem_append.mp hc with hc | hc
          · exact h c hc
          · rw [List.mem_singleton.mp hc]; exact h2
  exact key cs [] (fun _ h => nomatch h)
theorem nfold_len (cs : List Str) : (nfold cs).length ≤ cs.length := by
  have key : ∀ (cs acc : List Str), (cs.foldl nstep acc).length ≤ acc.length + cs.length := by
    intro cs
    induction cs with
    | nil => intro acc; simp
    | cons d r ih =>
      intro acc
      refine Nat.le_trans (ih _) ?_
      have : (nstep acc d).length ≤ acc.length + 1 := by
        unfold nstep
        split
        · omega
        · split <;> simp
          omega
      simp only [List.length_cons]
      omega
  have := key cs []
  simp only [List.length_nil, Nat.zero_add] at this
  exact this
theorem nfold_take {cs : List Str} {i : Nat} {c : Str} (h : cs[i]? = some c) : nfold (cs.take (i + 1)) = nstep (nfold (cs.take i)) c := by
  unfold nfold
  rw [List.take_add_one, h]
  simp
theorem nstep_a {acc : List Str} {c : Str} (h : c = Str.ofString "" ∨ c = Str.ofString ".") : nstep acc c = acc := if_pos h
theorem nstep_b {acc : List Str} : nstep acc (Str.ofString "..") = acc.dropLast := by unfold nstep; rw [if_neg (by decide), if_pos rfl]
theorem nstep_c {acc : List Str} {c : Str} (h : ¬ (c = Str.ofString "" ∨ c = Str.ofString ".")) (h2 : ¬ c = Str.ofString "..") : nstep acc c = acc ++ [c] := by unfold nstep; rw [if_neg h, if_neg h2]
theorem slash_ne (z : Str) : (Str.ofString "/") ++ z ≠ (Str.ofString "") := by
  intro e
  have h : ((Str.ofString "/") ++ z).cps.size = 0 := congrArg (fun s : Str => s.cps.size) e
  rw [show ((Str.ofString "/") ++ z).cps = (Str.ofString "/").cps ++ z.cps from rfl, Array.size_append] at h
  have : (Str.ofString "/").cps.size = 1 := rfl
  omega
theorem c_normpath (w : World) (x : Str) (cs : List Str) (t : Tok) (hx : Sz x) (hx0 : x ≠ (Str.ofString "")) (e1 : (Txt.slice x none (some 1) != (Str.ofString "/")) = false) (e2 : (Txt.slice x (some 1) (some 2) != (Str.ofString "/")) = true) (hcs : Txt.split (Txt.slice x (some 1) none) (Str.ofString "/") = cs)
    (hcl : cs.length ≤ 90000) (hcc : ∀ c ∈ cs, Sz c) (hz : ((nfold cs).map (·.length)).sum + (nfold cs).length * 1 ≤ 99999) : Pure w 179 3 [] [.str x t] (GS ((Str.ofString "/") ++ Txt.join (Str.ofString "/") (nfold cs))) := by
  delta Pure
  k_fill
  refine enter [((Str.ofString "path"), .str x t)] (by k_is) (by k_is) (fun _ _ => BindsTo.of_eq rfl) (locs rfl) rfl rfl rfl (by decide) ?_
  rintro c rfl hrd
  refine Exs.asS (EvS.call1 (g_fspath _) (fun t => c_fspath _ x t) (EvS.of (EvV.name rfl rfl)) rfl rfl rfl) (fun t => ?_) rfl rfl
  refine Exs.els (Tr.isBytes (EvS.of (EvV.name rfl rfl)) rfl rfl) (Exs.asS EvS.lit (fun t1 => Exs.asS EvS.lit (fun t2 => Exs.asS EvS.lit (fun t3 => Exs.nil ?_) rfl rfl) rfl rfl) rfl rfl)
  refine Exs.ite (Tr.not (Tr.str (EvS.of (EvV.name rfl rfl)) hx rfl)) ?_
  rw [bne_iff_ne.mpr hx0]
  refine Exs.nil (Exs.as3 (Ev.call (g_splitroot _) (Ags.one (EvS.of (EvV.name rfl rfl)))
    (R' := fun v N' => GT3 (Txt.slice x (some 1) none) v N') (fun vs N₁ r => by
      obtain ⟨⟨t, rfl⟩, rfl⟩ := r
      exact ⟨[], 2, _, c_splitroot _ x t hx e1 e2, Nat.le_of_ble_eq_true rfl, (fun _ h => nomatch h), fun r nw _ h => by rw [List.append_nil]; exact h⟩) rfl ⟨pe_name, trivial⟩ rfl) ?_ rfl rfl rfl rfl rfl)
  rintro v N' ⟨T, u1, u2, u3, rfl, rfl⟩
  refine ⟨T, _, _, _, rfl, ⟨_, .inl List.mem_cons_self, rfl, _, rfl⟩, ?_⟩
  refine Exs.asg (Ev.split (EvS.of (EvV.name rfl rfl)) (EvS.of (EvV.name rfl rfl)) rfl (sz_slice hx) (by rw [hcs]; omega) ⟨_, rfl⟩) ?_ rfl rfl
  rintro v N' ⟨C, ca, cn, rfl, rfl, offC, hS⟩
  rw [hcs] at hS
  refine Exs.asg (Ev.lst Ags.nil fun vs N₁ r => by obtain ⟨rfl, rfl⟩ := r; exact jd_newList (Nat.zero_le _)) ?_ rfl rfl
  rintro v N' ⟨D, its, n, rfl, rfl, offD, h0⟩
  have hits : its = #[] := Array.toList_eq_nil_iff.mp h0
  subst hits
  refine Exs.forN (vs := ca.toList) (o := W.listOf ca cn) (ax := C) (fun i N' => ∃ its n, N' = (D, W.listOf its n) :: (C, W.listOf ca cn) :: [(T, tupO [.str (Str.ofString "") u1, .str (Str.ofString "/") u2, .str (Txt.slice x (some 1) none) u3])] ∧ StrsAre its.toList (nfold (cs.take i)))
    ((EvV.name rfl rfl).mono fun v N' r => ⟨r.1, _, _, r.2, .nil⟩) ⟨.inl rfl, cn, rfl⟩ (.inr fun i N' ⟨its, n, e, _⟩ => by rw [e]; exact List.mem_cons_of_mem _ List.mem_cons_self) ?_ ?_ rfl
  · rintro i v N' I oI hv ⟨its, n, rfl, hI⟩ off
    obtain ⟨c, tc, rfl, hc⟩ := strs_get hS hv
    have sc : Sz c := hcc c (List.mem_of_getElem? hc)
    have hsz : its.size ≤ 90000 := by
      have a := strs_len hI
      have a2 := nfold_len (cs.take i)
      rw [List.length_take] at a2
      rw [Array.length_toList] at a
      omega
    have hsz2 : its.size ≤ 100000 := by omega
    have hID : D ≠ I := off _ List.mem_cons_self
    have off2 : ∀ (o' : Obj), ∀ p ∈ (D, o') :: (C, W.listOf ca cn) :: [(T, tupO [.str (Str.ofString "") u1, .str (Str.ofString "/") u2, .str (Txt.slice x (some 1) none) u3])], p.1 ≠ I := fun o' p hp => by
      rcases List.mem_cons.mp hp with rfl | hp
      · exact hID
      · exact off _ (List.mem_cons_of_mem _ hp)
    have hn := nfold_take hc
    refine Exs.ite (Tr.all (jd_or (Tr.not (Tr.str (EvS.of (EvV.name rfl rfl)) sc rfl)) fun _ => jd_or (Tr.eqS (EvS.of (EvV.name rfl rfl)) (EvS.of (EvV.name rfl rfl))) fun _ => jd_or0)) ?_
    cases hb : (!(c != (Str.ofString "")) || (c == (Str.ofString ".") || false))
    · have c0 : ¬ (c = (Str.ofString "") ∨ c = (Str.ofString ".")) := by rintro (rfl | rfl) <;> exact absurd hb (by decide)
      refine Exs.nil ?_
      by_cases c2 : c = (Str.ofString "..")
      · subst c2
        rw [nstep_b] at hn
        have hd := strs_drop hI
        rcases its.toList.eq_nil_or_concat with hnil | ⟨pre, v, hcat⟩
        · have hits : its = #[] := Array.toList_eq_nil_iff.mp hnil
          subst hits
          refine Exs.ite (p := false) (Jd.is (Tr.all (jd_or (Tr.neS (EvS.of (EvV.name rfl rfl)) (EvS.of (EvV.name rfl rfl))) fun _ => jd_or (Tr.all (jd_and (q := true) (Tr.not (Tr.str (EvS.of (EvV.name rfl rfl)) (Nat.le_of_ble_eq_true rfl) rfl)) fun h => absurd h (by decide))) fun _ => jd_or (Tr.all (jd_and (q := true) (Tr.list (EvV.name rfl rfl) (List.mem_cons_of_mem _ List.mem_cons_self) hsz2 rfl) fun h => absurd h (by decide))) fun _ => jd_or0)) rfl) ?_
          refine Exs.ite (p := false) (Tr.list (EvV.name rfl rfl) (List.mem_cons_of_mem _ List.mem_cons_self) hsz2 rfl) ?_
          repeat refine Exs.nil ?_
          exact turned bset (off2 _) ⟨_, _, rfl, by rw [hn]; exact hd⟩
        · have he : its.isEmpty = false := by rw [← Array.isEmpty_toList, hcat]; simp
          have hbk : its.back? = some v := by rw [← Array.getLast?_toList, hcat]; simp
          have hb2 : its[its.size - 1]? = some v := by rw [← Array.back?_eq_getElem?]; exact hbk
          obtain ⟨d, q, rfl, hd2⟩ := strs_get hI (i := its.size - 1) (v := v) (by rw [Array.getElem?_toList]; exact hb2)
          have hdd : (d == (Str.ofString "..")) = false := beq_eq_false_iff_ne.mpr (nfold_ne _ d (List.mem_of_getElem? hd2))
          have hap : its.pop.toList = its.toList.dropLast := Array.toList_pop
          refine Exs.ite (p := false) (Jd.is (Tr.all (jd_or (Tr.neS (EvS.of (EvV.name rfl rfl)) (EvS.of (EvV.name rfl rfl))) fun _ => jd_or (Tr.all (jd_and (q := true) (Tr.not (Tr.str (EvS.of (EvV.name rfl rfl)) (Nat.le_of_ble_eq_true rfl) rfl)) fun h => absurd h (by decide))) fun _ => jd_or (Tr.all (jd_and (Tr.list (EvV.name rfl rfl) (List.mem_cons_of_mem _ List.mem_cons_self) hsz2 rfl) fun _ => jd_and (Tr.eqS (EvS.of (EvV.last (EvV.name rfl rfl) (EvI.neg EvI.lit) (List.mem_cons_of_mem _ List.mem_cons_self) hbk)) (EvS.of (EvV.name rfl rfl))) fun _ => jd_and0)) fun _ => jd_or0)) (by rw [hdd, he]; rfl)) ?_
          refine Exs.ite (p := true) (Jd.is (Tr.list (EvV.name rfl rfl) (List.mem_cons_of_mem _ List.mem_cons_self) hsz2 rfl) (by rw [he]; rfl)) ?_
          refine Exs.cons (Ex.pop (EvV.name rfl rfl) (.tail (Ne.symm hID) (.head offD)) (List.mem_cons_of_mem _ List.mem_cons_self) hb2 hsz2 ?_ ⟨_, rfl⟩ rfl rfl)
          repeat refine Exs.nil ?_
          exact turned bset (off2 _) ⟨_, _, rfl, by rw [hn, hap]; exact hd⟩
      · refine Exs.ite (p := true) (Jd.is (Tr.all (jd_or (q := true) (Tr.neS (EvS.of (EvV.name rfl rfl)) (EvS.of (EvV.name rfl rfl))) fun h => absurd h (by rw [bne_iff_ne.mpr c2]; decide))) (by rw [bne_iff_ne.mpr c2]; rfl)) ?_
        refine Exs.cons (Ex.append (EvV.name rfl rfl) (List.mem_cons_of_mem _ List.mem_cons_self) (EvV.name rfl rfl) hsz2 ?_ ⟨_, rfl⟩ rfl rfl)
        rintro v N₁ ⟨rfl, rfl⟩
        refine ⟨_, .tail (Ne.symm hID) (.head offD), ?_⟩
        repeat refine Exs.nil ?_
        exact turned bset (off2 _) ⟨_, _, rfl, by rw [hn, nstep_c c0 c2, Array.toList_push]; exact strs_snoc hI⟩
    · refine Exs.cons (Ex.cont ?_)
      refine turned bset (off2 _) ⟨_, _, rfl, ?_⟩
      rw [hn, nstep_a ?_]
      · exact hI
      · by_cases h1 : c = (Str.ofString "")
        · exact .inl h1
        · rw [bne_iff_ne.mpr h1] at hb
          simp only [Bool.not_true, Bool.false_or, Bool.or_false, beq_iff_eq] at hb
          exact .inr hb
  · rintro u N' ⟨its, n, rfl, hI⟩
    rw [strs_len hS, List.take_length] at hI
    refine Exs.asV (EvV.name rfl rfl) ?_ rfl rfl
    refine Exs.asS (EvS.add (EvS.of (EvV.name rfl rfl)) (EvS.joinL (EvS.of (EvV.name rfl rfl)) (EvV.name rfl rfl) List.mem_cons_self hI (Nat.le_trans hz (Nat.le_of_ble_eq_true rfl)) ⟨_, rfl⟩) (Nat.le_of_ble_eq_true rfl) (Nat.le_trans (tjoin_len _ _) (Nat.le_trans hz (Nat.le_of_ble_eq_true rfl)))) (fun t5 => ?_) rfl rfl
    refine Exs.retS (EvS.or (EvS.of (EvV.name rfl rfl)) ?_ ?_) fun t6 => RetN.mk (GS.of rfl)
    · exact KT.len_app (Nat.le_refl 1) (Nat.le_trans (tjoin_len (Str.ofString "/") (nfold cs)) hz)
    · exact slash_ne _
end Mine
end
section
open PySem PySem.W PyProof.Rows PySem.Calls
set_option Elab.async false
set_option maxRecDepth 100000
set_option maxHeartbeats 4000000
set_option linter.unusedVariables false
namespace Mine
/-! texts as lists of signs -/
abbrev cl (x : Str) : List Nat := x.cps.toList
theorem cl_inj {x y : Str} (h : cl x = cl y) : x = y := Str.ext' (Array.toList_inj.mp h)
theorem cl_app (x y : Str) : cl (x ++ y) = cl x ++ cl y := by
  show (x.cps ++ y.cps).toList = _
  simp
theorem cl_len (x : Str) : x.length = (cl x).length := by simp [Str.length]
theorem cl_sl : cl (Str.ofString "/") = [47] := by decide +kernel
theorem cl_from {x : Str} {a : Nat} (h : a ≤ (cl x).length) : cl (Txt.slice x (some (a : Int)) none) = (cl x).drop a := by
  rw [show Txt.slice x (some (a : Int)) none = _ from StrLaws.sliceText_from (x := x) ⟨by omega, by exact_mod_cast h⟩]
  simp only [Int.toNat_natCast]
  rw [show (((x.cps.toList.length : Nat) : Int) - (a : Int)).toNat = (List.drop a x.cps.toList).length by rw [List.length_drop]; omega, List.take_length]
theorem cl_to {x : Str} {b : Nat} (h : b ≤ (cl x).length) : cl (Txt.slice x none (some (b : Int))) = (cl x).take b := by
  rw [show Txt.slice x none (some (b : Int)) = _ from StrLaws.sliceText_to (x := x) ⟨by omega, by exact_mod_cast h⟩]
  simp
theorem cl_ft {x : Str} {a b : Nat} (hab : a ≤ b) (h : b ≤ (cl x).length) : cl (Txt.slice x (some (a : Int)) (some (b : Int))) = ((cl x).drop a).take (b - a) := by
  rw [show Txt.slice x (some (a : Int)) (some (b : Int)) = _ from StrLaws.sliceText_plain (x := x) ⟨by omega, by exact_mod_cast hab, by exact_mod_cast h⟩]
  simp only [Int.toNat_natCast]
  rw [show ((b : Int) - (a : Int)).toNat = b - a by omega]
/-- joined by slashes -/
def jl : List (List Nat) → List Nat
  | [] => []
  | [a] => a
  | a :: b :: r => a ++ 47 :: jl (b :: r)
theorem cl_join (l : List Str) : cl (Txt.join (Str.ofString "/") l) = jl (l.map cl) := by
  rw [tjoin_eq]
  induction l with
  | nil => rfl
  | cons a r ih =>
    cases r with
    | nil => rfl
    | cons b r =>
      show cl (a ++ Str.ofString "/" ++ Str.join (Str.ofString "/") (b :: r)) = cl a ++ 47 :: jl ((b :: r).map cl)
      rw [cl_app, cl_app, ih, cl_sl, List.append_assoc]; rfl
/-- parted at slashes -/
def spl : List Nat → List (List Nat)
  | [] => [[]]
  | c :: r => if c = 47 then [] :: spl r else match spl r with
    | [] => [[c]]
    | h :: t => (c :: h) :: t
theorem spl_ne (l : List Nat) : spl l ≠ [] := by
  cases l with
  | nil => simp [spl]
  | cons c r =>
    unfold spl
    split
    · simp
    · split <;> simp
theorem spl_free : ∀ {a : List Nat}, 47 ∉ a → spl a = [a]
  | [], _ => rfl
  | c :: r, h => by
    unfold spl
    rw [if_neg (fun e => h (by simp [e])), spl_free (a := r) fun m => h (List.mem_cons_of_mem _ m)]
theorem spl_cut : ∀ {a : List Nat} (r : List Nat), 47 ∉ a → spl (a ++ 47 :: r) = a :: spl r
  | [], r, _ => by simp [spl]
  | c :: a, r, h => by
    show spl (c :: (a ++ 47 :: r)) = _
    rw [spl, if_neg (fun e => h (by simp [e])), spl_cut r fun m => h (List.mem_cons_of_mem _ m)]
theorem spl_jl : ∀ {l : List (List Nat)}, l ≠ [] → (∀ a ∈ l, 47 ∉ a) → spl (jl l) = l
  | [], h, _ => absurd rfl h
  | [a], _, h => spl_free (h a (by simp))
  | a :: b :: r, _, h => by
    show spl (a ++ 47 :: jl (b :: r)) = _
    rw [spl_cut _ (h a (by simp)), spl_jl (by simp) fun x hx => h x (List.mem_cons_of_mem _ hx)]
theorem map_cl_inj {l l' : List Str} (h : l.map cl = l'.map cl) : l = l' := by
  induction l generalizing l' with
  | nil => cases l' with
    | nil => rfl
    | cons a r => simp at h
  | cons a r ih => cases l' with
    | nil => simp at h
    | cons b s =>
      simp only [List.map_cons, List.cons.injEq] at h
      rw [cl_inj h.1, ih h.2]
theorem split_spl (x : Str) : (Txt.split x (Str.ofString "/")).map cl = spl (cl x) := by
  have h1 := StrLaws.join_split x (Str.ofString "/")
  have h2 := StrLaws.split_free x 47
  have e : Str.ofString "/" = (⟨#[47]⟩ : Str) := by decide +kernel
  have h3 := fact_split x (Str.ofString "/")
  rw [← tjoin_eq] at h1
  have h4 := cl_join (Txt.split x (Str.ofString "/"))
  rw [h1] at h4
  rw [h4, spl_jl]
  · intro h
    have : (Txt.split x (Str.ofString "/")).length = 0 := by have := congrArg List.length h; simpa using this
    omega
  · intro a ha
    obtain ⟨p, hp, rfl⟩ := List.mem_map.mp ha
    rw [e] at hp
    exact h2 p hp
theorem split_is {x : Str} {l : List Str} (h : spl (cl x) = l.map cl) : Txt.split x (Str.ofString "/") = l := map_cl_inj ((split_spl x).trans h)
/-- a good segment -/
def Good (g : Str) : Prop := g ≠ Str.ofString "" ∧ 47 ∉ cl g
theorem Good.ne {g : Str} (h : Good g) : cl g ≠ [] := fun e => h.1 (cl_inj (e.trans (by decide +kernel)))
/-- the text of a spot -/
def st (l : List Str) : Str := Str.ofString "/" ++ Txt.join (Str.ofString "/") l
theorem cl_st (l : List Str) : cl (st l) = 47 :: jl (l.map cl) := by
  unfold st; rw [cl_app, cl_sl, cl_join]; rfl
theorem jl_snoc : ∀ {l : List (List Nat)} {g : List Nat}, l ≠ [] → jl (l ++ [g]) = jl l ++ 47 :: g
  | [], _, h => absurd rfl h
  | [a], g, _ => rfl
  | a :: b :: r, g, _ => by
    show a ++ 47 :: jl (b :: r ++ [g]) = a ++ 47 :: jl (b :: r) ++ 47 :: g
    rw [jl_snoc (by simp)]; simp
/-- what stands before the last slash -/
def pr0 (l : List Str) : List Nat := if l = [] then [] else cl (st l)
theorem cl_snoc (l : List Str) (g : Str) : cl (st (l ++ [g])) = pr0 l ++ 47 :: cl g := by
  rw [cl_st, List.map_append]
  unfold pr0
  by_cases h : l = []
  · subst h; rfl
  · rw [if_neg h, cl_st, show List.map cl [g] = [cl g] from rfl, jl_snoc (by simpa using h)]; rfl
theorem st_inj {l l' : List Str} (h : ∀ g ∈ l, Good g) (h' : ∀ g ∈ l', Good g) (e : st l = st l') : l = l' := by
  have e1 : jl (l.map cl) = jl (l'.map cl) := by
    have := congrArg cl e
    rw [cl_st, cl_st] at this
    exact (List.cons.inj this).2
  have fr : ∀ l : List Str, (∀ g ∈ l, Good g) → ∀ a ∈ l.map cl, 47 ∉ a := fun l h a ha => by
    obtain ⟨g, hg, rfl⟩ := List.mem_map.mp ha
    exact (h g hg).2
  have em : ∀ l : List Str, (∀ g ∈ l, Good g) → jl (l.map cl) = [] → l = [] := fun l h e => by
    cases l with
    | nil => rfl
    | cons a r =>
      have ha := (h a (by simp)).ne
      cases r with
      | nil => exact absurd e ha
      | cons b r => simp [jl] at e
  by_cases c : l = []
  · subst c; exact (em l' h' e1.symm).symm
  · by_cases c' : l' = []
    · subst c'; exact absurd (em l h e1) c
    · have a1 := spl_jl (l := l.map cl) (by simpa using c) (fr l h)
      have a2 := spl_jl (l := l'.map cl) (by simpa using c') (fr l' h')
      rw [e1] at a1
      exact map_cl_inj (a1.symm.trans a2)
theorem at_iff (x : Str) (i : Nat) : StrLaws.At x (Str.ofString "/") x.length i ↔ (cl x)[i]? = some 47 := by
  unfold StrLaws.At
  rw [StrLaws.subAt_eq, show (Str.ofString "/").length = 1 by decide +kernel, show (Str.ofString "/").cps.toList = [47] from cl_sl, cl_len]
  constructor
  · rintro ⟨h1, h2⟩
    have h3 : (List.drop i x.cps.toList).take 1 = [47] := by simpa using h2
    have h4 := congrArg (fun l => l[0]?) h3
    simpa using h4
  · intro h
    have hlt : i < (cl x).length := by
      rcases Nat.lt_or_ge i (cl x).length with c | c
      · exact c
      · rw [List.getElem?_eq_none c] at h; cases h
    refine ⟨hlt, ?_⟩
    rw [beq_iff_eq]
    have := List.drop_eq_getElem_cons hlt
    rw [List.getElem?_eq_getElem hlt] at h
    have e := Option.some.inj h
    show (List.drop i (cl x)).take 1 = [47]
    rw [this, e]; rfl
theorem rfind_is {x : Str} {p g : List Nat} (h : cl x = p ++ 47 :: g) (hg : 47 ∉ g) : Txt.rfind x (Str.ofString "/") = (p.length : Int) := by
  have hp : (cl x)[p.length]? = some 47 := by rw [h]; simp
  have aft : ∀ k, p.length < k → (cl x)[k]? ≠ some 47 := fun k hk e => by
    rw [h, List.getElem?_append_right (by omega)] at e
    obtain ⟨j, rfl⟩ : ∃ j, k = p.length + (j + 1) := ⟨k - p.length - 1, by omega⟩
    rw [show p.length + (j + 1) - p.length = j + 1 by omega, List.getElem?_cons_succ] at e
    exact hg (List.mem_of_getElem? e)
  rcases rfind_whole x (Str.ofString "/") with ⟨_, hn⟩ | ⟨i, e, hi, hn⟩
  · exact absurd ((at_iff x p.length).mpr hp) (hn _)
  · rw [e]
    rw [at_iff] at hi
    rcases Nat.lt_trichotomy i p.length with c | c | c
    · exact absurd ((at_iff x p.length).mpr hp) (hn _ c)
    · rw [c]
    · exact absurd hi (aft i c)
theorem pbase_st {l : List Str} {g : Str} (hg : Good g) : pbase (st (l ++ [g])) = g := by
  have e := cl_snoc l g
  apply cl_inj
  unfold pbase
  rw [rfind_is e hg.2, show ((pr0 l).length : Int) + 1 = (((pr0 l).length + 1 : Nat) : Int) by push_cast; rfl, cl_from (by rw [e]; simp), e]
  simp
theorem phead_st {l : List Str} {g : Str} (hg : Good g) : cl (phead (st (l ++ [g]))) = pr0 l ++ [47] := by
  have e := cl_snoc l g
  unfold phead
  rw [rfind_is e hg.2, show ((pr0 l).length : Int) + 1 = (((pr0 l).length + 1 : Nat) : Int) by push_cast; rfl, cl_to (by rw [e]; simp), e]
  rw [show pr0 l ++ 47 :: cl g = (pr0 l ++ [47]) ++ cl g by simp, List.take_append_of_le_length (by simp), List.take_of_length_le (by simp)]
theorem phead_ne {l : List Str} {g : Str} (hg : Good g) : phead (st (l ++ [g])) ≠ Str.ofString "" := fun e => by
  have h := phead_st (l := l) hg
  rw [e] at h
  have := congrArg List.length h
  rw [show cl (Str.ofString "") = [] by decide +kernel] at this
  simp at this
theorem hd_end {l : List Str} (h : ∀ g ∈ l, Good g) (hl : l ≠ []) : ∃ p c, pr0 l = p ++ [c] ∧ c ≠ 47 ∧ ∃ d ∈ pr0 l, d ≠ 47 := by
  obtain ⟨pre, g, rfl⟩ : ∃ pre g, l = pre ++ [g] := ⟨l.dropLast, l.getLast hl, (List.dropLast_concat_getLast hl).symm⟩
  have hg := h g (by simp)
  unfold pr0
  rw [if_neg hl, cl_snoc]
  obtain ⟨q, c, e⟩ : ∃ q c, cl g = q ++ [c] := ⟨(cl g).dropLast, (cl g).getLast hg.ne, (List.dropLast_concat_getLast hg.ne).symm⟩
  have hc : c ≠ 47 := fun h => hg.2 (by rw [e, h]; simp)
  refine ⟨pr0 pre ++ 47 :: q, c, by rw [e]; simp, hc, c, by rw [e]; simp, hc⟩
theorem cl_mul (n : Nat) : cl (Txt.mul (Str.ofString "/") n) = List.replicate n 47 := by
  unfold Txt.mul
  have e : Str.ofString "/" = (⟨#[47]⟩ : Str) := by decide +kernel
  split
  · have : n = 0 := by omega
    subst this; rfl
  · split
    · rename_i h1 h2
      rw [e] at h2
      have : n = 1 := by
        have h3 : ((n : Int) == 1) = true := by simpa [Str.length] using h2
        have := beq_iff_eq.mp h3
        omega
      subst this; rw [e]; rfl
    · show ((List.replicate n (Str.ofString "/").cps).foldl (· ++ ·) #[]).toList = _
      rw [e]
      show ((List.replicate n #[47]).foldl (· ++ ·) #[]).toList = _
      have key : ∀ (n : Nat) (acc : Array Nat), ((List.replicate n #[47]).foldl (· ++ ·) acc).toList = acc.toList ++ List.replicate n 47 := by
        intro n
        induction n with
        | zero => intro acc; simp
        | succ n ih => intro acc; rw [List.replicate_succ, List.foldl_cons, ih, List.replicate_succ]; simp
      rw [key]; rfl
theorem pdir_st {l : List Str} {g : Str} (h : ∀ x ∈ l, Good x) (hg : Good g) : pdir (st (l ++ [g])) = st l := by
  have e := phead_st (l := l) hg
  unfold pdir
  by_cases hl : l = []
  · subst hl
    have e2 : phead (st ([] ++ [g])) = Str.ofString "/" := cl_inj (by rw [e, cl_sl]; rfl)
    rw [e2]
    decide +kernel
  · obtain ⟨p, c, ep, hc, d, hd1, hd2⟩ := hd_end h hl
    have hne : (phead (st (l ++ [g])) != Txt.mul (Str.ofString "/") (phead (st (l ++ [g]))).length) = true := by
      rw [bne_iff_ne]
      intro q
      have q := congrArg cl q
      rw [cl_mul, e] at q
      have : d ∈ List.replicate (phead (st (l ++ [g]))).length 47 := by rw [← q]; simp [hd1]
      exact hd2 (List.eq_of_mem_replicate this)
    rw [if_pos hne]
    apply cl_inj
    unfold Txt.rstripChars
    rw [PyProof.Rows.stripBy_eq]
    refine Eq.trans (StrLaws.strSub_toList _ _ _) ?_
    have gs : ∀ z, (Str.ofString "/").cps.contains z = decide (z = 47) := fun z => by
      rw [show (Str.ofString "/").cps = #[47] by decide +kernel]
      rw [Bool.eq_iff_iff]; simp
    show (List.drop 0 (cl _)).take (stripHi _ true _ 0 - 0) = _
    unfold stripHi
    rw [if_pos rfl, List.drop_zero, Nat.sub_zero, cl_len, show (phead (st (l ++ [g]))).cps.toList = cl (phead (st (l ++ [g]))) from rfl, e, ep]
    simp only [List.reverse_append, List.reverse_cons, List.reverse_nil, List.nil_append, List.cons_append, List.takeWhile_cons, gs, hc, decide_true, decide_false, if_true, Bool.false_eq_true, if_false]
    have e3 : cl (st l) = p ++ [c] := by rw [← ep]; unfold pr0; rw [if_neg hl]
    rw [e3]
    simp only [List.append_assoc, List.cons_append, List.nil_append, List.length_append, List.length_cons, List.length_nil]
    rw [show p.length + (0 + 1 + 1) - (0 + 1) = p.length + 1 by omega, show p ++ [c, 47] = (p ++ [c]) ++ [47] by simp, List.take_append_of_le_length (by simp), List.take_of_length_le (by simp)]
theorem starts_st (l : List Str) : Txt.startswith (st l) (Str.ofString "/") = true := by
  unfold Txt.startswith
  rw [StrLaws.subAt_eq, cl_len, cl_len, show (Str.ofString "/").cps.toList = [47] from cl_sl, show (cl (Str.ofString "/")) = [47] from cl_sl, show (st l).cps.toList = 47 :: jl (l.map cl) from cl_st l, show cl (st l) = 47 :: jl (l.map cl) from cl_st l]
  simp
theorem good_starts {g : Str} (h : Good g) : Txt.startswith g (Str.ofString "/") = false := by
  unfold Txt.startswith
  rw [StrLaws.subAt_eq, cl_len, cl_len, show (Str.ofString "/").cps.toList = [47] from cl_sl, show (cl (Str.ofString "/")) = [47] from cl_sl]
  have := h.ne
  cases e : cl g with
  | nil => exact absurd e this
  | cons a r =>
    have ha : a ≠ 47 := fun q => h.2 (by rw [e, q]; simp)
    rw [show g.cps.toList = a :: r from e]
    simp [ha]
theorem ends_iff (x : Str) : Txt.endswith x (Str.ofString "/") = true ↔ ∃ p, cl x = p ++ [47] := by
  unfold Txt.endswith
  rw [StrLaws.subAt_eq, cl_len, cl_len, show (Str.ofString "/").cps.toList = [47] from cl_sl, show (cl (Str.ofString "/")) = [47] from cl_sl]
  simp only [List.length_singleton, Bool.and_eq_true, decide_eq_true_eq, beq_iff_eq]
  constructor
  · rintro ⟨h1, h2⟩
    refine ⟨(cl x).take ((cl x).length - 1), ?_⟩
    have := List.take_append_drop ((cl x).length - 1) (cl x)
    have e : List.drop ((cl x).length - 1) (cl x) = [47] := by
      rw [← h2]
      exact (List.take_of_length_le (by rw [List.length_drop]; show (cl x).length - ((cl x).length - 1) ≤ 1; omega)).symm
    rw [e] at this; exact this.symm
  · rintro ⟨p, e⟩
    have hs : (cl x).length = p.length + 1 := by have := congrArg List.length e; simpa using this
    rw [hs, show x.cps.toList = p ++ [47] from e]
    simp
theorem ends_st {l : List Str} (h : ∀ x ∈ l, Good x) (hl : l ≠ []) : Txt.endswith (st l) (Str.ofString "/") = false := by
  rw [Bool.eq_false_iff]
  intro q
  obtain ⟨p, e⟩ := (ends_iff _).mp q
  obtain ⟨p', c, ep, hc, _⟩ := hd_end h hl
  unfold pr0 at ep
  rw [if_neg hl, e] at ep
  exact hc ((List.append_inj' ep rfl).2 |> List.cons.inj |>.1).symm
theorem pjoin_st {l : List Str} (h : ∀ x ∈ l, Good x) {y : Str} (hy : Txt.startswith y (Str.ofString "/") = false) : cl (pjoin (st l) y) = pr0 l ++ 47 :: cl y := by
  unfold pjoin
  rw [hy, if_neg (by decide)]
  by_cases hl : l = []
  · subst hl
    rw [if_pos (by decide +kernel), cl_app]; rfl
  · rw [ends_st h hl, if_neg (by decide), cl_app, cl_app, cl_sl]
    unfold pr0; rw [if_neg hl]; rfl
theorem pjoin_good {l : List Str} (h : ∀ x ∈ l, Good x) {g : Str} (hg : Good g) : pjoin (st l) g = st (l ++ [g]) := cl_inj (by rw [pjoin_st h (good_starts hg), cl_snoc])
end Mine
end
section
open PySem PySem.W PyProof.Rows PySem.Calls
set_option Elab.async false
set_option maxRecDepth 100000
set_option maxHeartbeats 4000000
set_option linter.unusedVariables false
namespace Mine
theorem jl_app : ∀ {A B : List (List Nat)}, A ≠ [] → B ≠ [] → jl (A ++ B) = jl A ++ 47 :: jl B
  | [], _, h, _ => absurd rfl h
  | [a], b :: r, _, _ => rfl
  | [a], [], _, h => absurd rfl h
  | a :: b :: r, B, _, h => by
    show a ++ 47 :: jl (b :: r ++ B) = a ++ 47 :: jl (b :: r) ++ 47 :: jl B
    rw [jl_app (by simp) h]; simp
theorem spl_map {l : List Str} (hl : l ≠ []) (h : ∀ x ∈ l, 47 ∉ cl x) : spl (jl (l.map cl)) = l.map cl :=
  spl_jl (by simpa using hl) fun a ha => by obtain ⟨g, hg, rfl⟩ := List.mem_map.mp ha; exact h g hg
/-- what normpath is told of the text l/y -/
theorem norm_in {l segs : List Str} {y : Str} (hl : ∀ x ∈ l, Good x) (hs : segs ≠ []) (hf : ∀ s ∈ segs, 47 ∉ cl s) (hy : cl y = jl (segs.map cl)) (hc : ∃ c r, cl y = c :: r ∧ c ≠ 47) :
    cl (pjoin (st l) y) = 47 :: jl ((l ++ segs).map cl) ∧ ∃ c r, cl (pjoin (st l) y) = 47 :: c :: r ∧ c ≠ 47 := by
  have h0 : Txt.startswith y (Str.ofString "/") = false := by
    unfold Txt.startswith
    rw [StrLaws.subAt_eq, cl_len, cl_len, show (Str.ofString "/").cps.toList = [47] from cl_sl, show (cl (Str.ofString "/")) = [47] from cl_sl]
    obtain ⟨c, r, e, hc⟩ := hc
    rw [show y.cps.toList = c :: r from e]
    simp [hc]
  have e := pjoin_st hl h0
  by_cases h : l = []
  · subst h
    have e2 : cl (pjoin (st []) y) = 47 :: cl y := e
    rw [e2]
    refine ⟨by rw [hy]; rfl, ?_⟩
    obtain ⟨c, r, e3, hc⟩ := hc
    exact ⟨c, r, by rw [e3], hc⟩
  · unfold pr0 at e
    rw [if_neg h, cl_st, hy] at e
    rw [e]
    refine ⟨by rw [List.map_append, jl_app (by simpa using h) (by simpa using hs)]; rfl, ?_⟩
    cases l with
    | nil => exact absurd rfl h
    | cons g r =>
      have hg := hl g (by simp)
      obtain ⟨c, q, e4⟩ : ∃ c q, cl g = c :: q := by
        cases e5 : cl g with
        | nil => exact absurd e5 hg.ne
        | cons c q => exact ⟨c, q, rfl⟩
      have hc : c ≠ 47 := fun q => hg.2 (by rw [e4, q]; simp)
      cases r with
      | nil => exact ⟨c, _, by simp [jl, e4]; rfl, hc⟩
      | cons g2 r => exact ⟨c, _, by simp [jl, e4]; rfl, hc⟩
theorem slash_to {x : Str} {r : List Nat} (h : cl x = 47 :: r) : (Txt.slice x none (some 1) != Str.ofString "/") = false := by
  have : Txt.slice x none (some ((1 : Nat) : Int)) = Str.ofString "/" := cl_inj (by rw [cl_to (by rw [h]; simp), h, cl_sl]; rfl)
  rw [show ((1 : Nat) : Int) = 1 from rfl] at this
  rw [this]; decide +kernel
theorem second_ne {x : Str} {c : Nat} {r : List Nat} (h : cl x = 47 :: c :: r) (hc : c ≠ 47) : (Txt.slice x (some 1) (some 2) != Str.ofString "/") = true := by
  rw [bne_iff_ne]
  intro q
  have e := congrArg cl q
  rw [show (1 : Int) = ((1 : Nat) : Int) from rfl, show (2 : Int) = ((2 : Nat) : Int) from rfl, cl_ft (by decide) (by rw [h]; simp), h, cl_sl] at e
  simp at e
  exact hc e
theorem from_one {x : Str} {l : List Str} (hl : l ≠ []) (hf : ∀ g ∈ l, 47 ∉ cl g) (h : cl x = 47 :: jl (l.map cl)) : Txt.split (Txt.slice x (some 1) none) (Str.ofString "/") = l := by
  refine split_is ?_
  rw [show (1 : Int) = ((1 : Nat) : Int) from rfl, cl_from (by rw [h]; simp), h]
  exact spl_map hl hf
/-- names of the law: false is a, true is b -/
def nm (b : Bool) : Str := if b then Str.ofString "b" else Str.ofString "a"
theorem good_nm (b : Bool) : Good (nm b) := by cases b <;> exact ⟨by decide +kernel, by decide +kernel⟩
theorem nm_inj {a b : Bool} (h : nm a = nm b) : a = b := by revert h; cases a <;> cases b <;> decide +kernel
theorem good_nms (p : List Bool) : ∀ x ∈ p.map nm, Good x := fun x hx => by obtain ⟨b, _, rfl⟩ := List.mem_map.mp hx; exact good_nm b
theorem nms_inj {p q : List Bool} (h : p.map nm = q.map nm) : p = q := by
  induction p generalizing q with
  | nil => cases q with
    | nil => rfl
    | cons a r => simp at h
  | cons a r ih => cases q with
    | nil => simp at h
    | cons b s =>
      simp only [List.map_cons, List.cons.injEq] at h
      rw [nm_inj h.1, ih h.2]
/-- the text of a place -/
def pt (p : List Bool) : Str := st (p.map nm)
theorem pt_inj {p q : List Bool} (h : pt p = pt q) : p = q := nms_inj (st_inj (good_nms p) (good_nms q) h)
theorem nstep_nm (acc : List Str) (b : Bool) : nstep acc (nm b) = acc ++ [nm b] := by
  refine nstep_c ?_ ?_ <;> cases b <;> decide +kernel
theorem nfold_nm (p : List Bool) : nfold (p.map nm) = p.map nm := by
  unfold nfold
  have key : ∀ (p : List Bool) (acc : List Str), (p.map nm).foldl nstep acc = acc ++ p.map nm := by
    intro p
    induction p with
    | nil => intro acc; simp
    | cons b r ih => intro acc; rw [List.map_cons, List.foldl_cons, nstep_nm, ih]; simp
  exact key p []
theorem nfold_app (l l' : List Str) : nfold (l ++ l') = l'.foldl nstep (nfold l) := List.foldl_append ..
def piece : Nat → Str
  | 0 => Str.ofString "a" | 1 => Str.ofString "b" | 2 => Str.ofString "../a" | 3 => Str.ofString "a/b" | 4 => Str.ofString "/a" | 5 => Str.ofString "./b/" | 6 => Str.ofString ".." | _ => Str.ofString "b//../a"
def segs : Nat → List Str
  | 0 => [Str.ofString "a"] | 1 => [Str.ofString "b"] | 2 => [Str.ofString "..", Str.ofString "a"] | 3 => [Str.ofString "a", Str.ofString "b"] | 4 => [Str.ofString "a"] | 5 => [Str.ofString ".", Str.ofString "b", Str.ofString ""] | 6 => [Str.ofString ".."] | _ => [Str.ofString "b", Str.ofString "", Str.ofString "..", Str.ofString "a"]
/-- the place that a piece leads to -/
def pl (p : List Bool) : Nat → List Bool
  | 0 => p ++ [false] | 1 => p ++ [true] | 2 => p.dropLast ++ [false] | 3 => p ++ [false, true] | 4 => [false] | 5 => p ++ [true] | 6 => p.dropLast | _ => p ++ [false]
theorem pl_len (p : List Bool) (k : Nat) : (pl p k).length ≤ p.length + 2 := by
  unfold pl; split <;> simp <;> omega
theorem nstep_dot {acc : List Str} : nstep acc (Str.ofString ".") = acc := nstep_a (.inr rfl)
theorem nstep_nil {acc : List Str} : nstep acc (Str.ofString "") = acc := nstep_a (.inl rfl)
theorem fold_place (p : List Bool) {k : Nat} (hk : k < 8) (h4 : k ≠ 4) : nfold (p.map nm ++ segs k) = (pl p k).map nm := by
  rw [nfold_app, nfold_nm]
  have ha : ∀ acc, nstep acc (Str.ofString "a") = acc ++ [Str.ofString "a"] := fun acc => nstep_nm acc false
  have hb : ∀ acc, nstep acc (Str.ofString "b") = acc ++ [Str.ofString "b"] := fun acc => nstep_nm acc true
  have na : nm false = Str.ofString "a" := rfl
  have nb : nm true = Str.ofString "b" := rfl
  match k, hk, h4 with
  | 0, _, _ => simp [segs, pl, ha, na]
  | 1, _, _ => simp [segs, pl, hb, nb]
  | 2, _, _ => simp [segs, pl, ha, nstep_b, na]
  | 3, _, _ => simp [segs, pl, ha, hb, na, nb]
  | 5, _, _ => simp [segs, pl, hb, nstep_dot, nstep_nil, nb]
  | 6, _, _ => simp [segs, pl, nstep_b]
  | 7, _, _ => simp [segs, pl, ha, hb, nstep_b, nstep_nil, na]
theorem segs_free (k : Nat) : ∀ s ∈ segs k, 47 ∉ cl s := by
  match k with
  | 0 => decide +kernel
  | 1 => decide +kernel
  | 2 => decide +kernel
  | 3 => decide +kernel
  | 4 => decide +kernel
  | 5 => decide +kernel
  | 6 => decide +kernel
  | k + 7 => show ∀ s ∈ [Str.ofString "b", Str.ofString "", Str.ofString "..", Str.ofString "a"], 47 ∉ cl s; decide +kernel
theorem piece_segs {k : Nat} (hk : k < 8) (h4 : k ≠ 4) : cl (piece k) = jl ((segs k).map cl) ∧ (∃ c r, cl (piece k) = c :: r ∧ c ≠ 47) ∧ segs k ≠ [] := by
  have e : ∀ {l : List Nat}, (match l with | [] => false | c :: _ => c != 47) = true → ∃ c r, l = c :: r ∧ c ≠ 47 := fun {l} h => by
    cases l with
    | nil => cases h
    | cons c r => exact ⟨c, r, rfl, by simpa using h⟩
  match k, hk, h4 with
  | 0, _, _ => exact ⟨by decide +kernel, e (by decide +kernel), by decide +kernel⟩
  | 1, _, _ => exact ⟨by decide +kernel, e (by decide +kernel), by decide +kernel⟩
  | 2, _, _ => exact ⟨by decide +kernel, e (by decide +kernel), by decide +kernel⟩
  | 3, _, _ => exact ⟨by decide +kernel, e (by decide +kernel), by decide +kernel⟩
  | 5, _, _ => exact ⟨by decide +kernel, e (by decide +kernel), by decide +kernel⟩
  | 6, _, _ => exact ⟨by decide +kernel, e (by decide +kernel), by decide +kernel⟩
  | 7, _, _ => exact ⟨by decide +kernel, e (by decide +kernel), by decide +kernel⟩
theorem nm_len (b : Bool) : (nm b).length = 1 := by cases b <;> decide +kernel
theorem sum_nm (p : List Bool) : ((p.map nm).map (·.length)).sum = p.length := by
  induction p with
  | nil => rfl
  | cons b r ih => simp only [List.map_cons, List.sum_cons, ih, nm_len, List.length_cons]; omega
theorem jl_len : ∀ l : List (List Nat), (jl l).length ≤ (l.map (·.length)).sum + l.length
  | [] => by simp [jl]
  | [a] => by simp [jl]
  | a :: b :: r => by
    have := jl_len (b :: r)
    simp only [jl, List.length_append, List.length_cons, List.map_cons, List.sum_cons] at this ⊢
    first | omega | skip
theorem pt_len (p : List Bool) : (pt p).length ≤ 2 * p.length + 1 := by
  rw [cl_len]
  unfold pt
  rw [cl_st]
  have := jl_len ((p.map nm).map cl)
  have e : (((p.map nm).map cl).map (·.length)).sum = p.length := by
    rw [← sum_nm p, List.map_map]
    exact congrArg List.sum (List.map_congr_left fun x _ => (cl_len x).symm)
  rw [e] at this
  simp only [List.length_cons, List.length_map] at this ⊢
  omega
theorem st_ne (l : List Str) : st l ≠ Str.ofString "" := slash_ne _
/-- what normpath asks of the joined text, and what it makes of it -/
theorem place_in (p : List Bool) {k : Nat} (hk : k < 8) (hp : p.length ≤ 1000) : ∃ cs : List Str, (Txt.slice (pjoin (pt p) (piece k)) none (some 1) != Str.ofString "/") = false ∧ (Txt.slice (pjoin (pt p) (piece k)) (some 1) (some 2) != Str.ofString "/") = true ∧
    Txt.split (Txt.slice (pjoin (pt p) (piece k)) (some 1) none) (Str.ofString "/") = cs ∧ cs.length ≤ 90000 ∧ (∀ c ∈ cs, Sz c) ∧ nfold cs = (pl p k).map nm ∧ pjoin (pt p) (piece k) ≠ Str.ofString "" ∧ Sz (pjoin (pt p) (piece k)) := by
  have hpc : (piece k).length ≤ 10 := by
    match k, hk with
    | 0, _ | 1, _ | 2, _ | 3, _ | 4, _ | 5, _ | 6, _ | 7, _ => decide +kernel
  have hsz : Sz (pjoin (pt p) (piece k)) := by
    have := pt_len p
    unfold pjoin Sz
    split
    · omega
    · split
      · have := KT.len_app (a := pt p) (b := piece k) (Nat.le_refl _) (Nat.le_refl _); omega
      · have h1 := KT.len_app (a := Str.ofString "/") (b := piece k) (Nat.le_refl _) (Nat.le_refl _)
        have h2 := KT.len_app (a := pt p) (b := Str.ofString "/" ++ piece k) (Nat.le_refl _) (Nat.le_refl _)
        rw [show (Str.ofString "/").length = 1 by decide +kernel] at h1
        omega
  have szg : ∀ b, Sz (nm b) := fun b => by unfold Sz; rw [nm_len]; decide
  by_cases h4 : k = 4
  · subst h4
    have e : pjoin (pt p) (piece 4) = Str.ofString "/a" := by unfold pjoin; rw [if_pos (by decide +kernel)]; rfl
    rw [e] at hsz ⊢
    refine ⟨[Str.ofString "a"], by decide +kernel, by decide +kernel, ?_, by decide, ?_, (show nfold [Str.ofString "a"] = [nm false] by decide +kernel), by decide +kernel, hsz⟩
    · exact from_one (l := [Str.ofString "a"]) (by simp) (by decide +kernel) (by decide +kernel)
    · intro c hc; rw [List.mem_singleton.mp hc]; exact szg false
  · obtain ⟨h1, h2, h3⟩ := piece_segs hk h4
    obtain ⟨e1, c, r, e2, hc⟩ := norm_in (good_nms p) h3 (segs_free k) h1 h2
    have ff : ∀ g ∈ p.map nm ++ segs k, 47 ∉ cl g := fun g hg => by
      rcases List.mem_append.mp hg with hg | hg
      · exact (good_nms p g hg).2
      · exact segs_free k g hg
    have hsl : (segs k).length ≤ 4 ∧ ∀ s ∈ segs k, Sz s := by
      match k, hk with
      | 0, _ | 1, _ | 2, _ | 3, _ | 4, _ | 5, _ | 6, _ | 7, _ => decide +kernel
    refine ⟨p.map nm ++ segs k, slash_to e2, second_ne e2 hc, from_one (by simp [h3]) ff e1, ?_, ?_, fold_place p hk h4, ?_, hsz⟩
    · rw [List.length_append, List.length_map]; omega
    · intro g hg
      rcases List.mem_append.mp hg with hg | hg
      · obtain ⟨b, _, rfl⟩ := List.mem_map.mp hg; exact szg b
      · exact hsl.2 g hg
    · intro q
      have q := congrArg cl q
      rw [show cl (pjoin (pt p) (piece k)) = 47 :: c :: r from e2, show cl (Str.ofString "") = [] by decide +kernel] at q
      cases q
end Mine
end
section
open PySem PySem.W PyProof.Rows PySem.Calls
set_option Elab.async false
set_option maxRecDepth 100000
set_option maxHeartbeats 4000000
set_option linter.unusedVariables false
namespace Mine
open PyProof.Rows.LCg (NsObj lst lst_snoc ns_obj fr_but news_but)
/-- the tests of a comprehension's clause -/
abbrev tests (ifs : List Expr) (ce : Env) : Sem Bool := forIn ifs true fun c r => if r = true then do let ok ← isTrue c ce (eval c ce); pure (ForInStep.yield ok) else pure (ForInStep.yield r)
section
variable {prog : Program} {w : World} {A : Around} {E : Value → Shared → Prop} {s : Shared} {h₀ : Heap} {L : Addr} {m : Str → Option Value} {env : Env}
theorem comp_loop {elt target iter : Expr} {ifs : List Expr} {scope : Scope} {pos : Pos} {it acc : Value} {env : Env} {R : Result → Shared → Prop} (I : Nat → Shared → Prop)
    (turn : ∀ n s, I n s → wpAny (model prog w) A (pyNext it) (fun r s₁ => match r with
      | none => R (.ok .next) s₁
      | some v => wpAny (model prog w) A (letOwnedTupleGo target it v) (fun _ s₀ => wpAny (model prog w) A (assign target env v) (fun _ s₂ =>
          wpAny (model prog w) A (tests ifs env) (fun ok s₃ =>
            if ok = true then wpAny (model prog w) A (eval elt env) (fun x s₄ =>
              wpAny (model prog w) A (call (.builtin "list.append") [acc, x]) (fun _ s₅ => ∃ m, m < n ∧ I m s₅) (notedBy (model prog w) A env fun e s' => R (.error e) s') s₄) (notedBy (model prog w) A env fun e s' => R (.error e) s') s₃
            else ∃ m, m < n ∧ I m s₃) (notedBy (model prog w) A env fun e s' => R (.error e) s') s₂)
          (notedBy (model prog w) A env fun e s' => R (.error e) s') s₀) (notedBy (model prog w) A env fun e s' => R (.error e) s') s₁) (notedBy (model prog w) A env fun e s' => R (.error e) s') s)
    (n : Nat) (h : I n s) : codeAny (model prog w) A (.compLoop (.ListComp elt [⟨target, iter, ifs, 0⟩] scope pos) 0 it acc env) R s := by
  refine codeAny_loop rfl I (fun n s hI => ?_) n h
  show wpAny _ A ((compTurn (.ListComp elt [⟨target, iter, ifs, 0⟩] scope pos) 0 it acc env).onRaise (fun x => do noteFrame x env; theTreesLotGoes x)) _ _ s
  refine wpAny_noted ?_
  rw [compTurn_list]
  refine wpAny_bind (wpAny_standAt (wpAny_bind (wpAny_mono (turn n s hI) (fun r s₁ h₁ => ?_) fun _ _ h' => h')))
  cases r with
  | none => exact wpAny_pure h₁
  | some v =>
    refine wpAny_bind (wpAny_mono h₁ (fun _ s₀ h₀' => ?_) fun _ _ h' => h')
    refine wpAny_bind (wpAny_mono h₀' (fun _ s₂ h₂ => wpAny_bind (wpAny_mono h₂ (fun ok s₃ h₃ => ?_) fun _ _ h' => h')) fun _ _ h' => h')
    cases ok with
    | false => exact wpAny_pure ⟨rfl, h₃⟩
    | true =>
      exact wpAny_bind (wpAny_bind (wpAny_mono h₃ (fun x s₄ h₄ => wpAny_bind (wpAny_mono h₄ (fun _ s₅ h₅ => wpAny_pure (wpAny_pure ⟨rfl, h₅⟩)) fun _ _ h' => h')) fun _ _ h' => h'))
/-- what a turn's element is asked in: ledger X ++ N', where X holds what the comprehension itself holds (at W) -/
structure InTurn (X : Led) (W : List Addr) (C : Addr) (oC : Obj) (m : Str → Option Value) (N' : Led) : Prop where
  ns : NsObj oC m
  mem : (C, oC) ∈ X
  has : ∀ a ∈ W, ∃ o, (a, o) ∈ X
  off : ∀ p ∈ N', p.1 ∉ W
/-- a turn's end -/
def Kept (X : Led) (W : List Addr) (J : Led → Prop) (N₃ : Led) : Prop := ∃ N'', (∀ p ∈ X, p ∈ N₃) ∧ (∀ p ∈ N'', p ∈ N₃) ∧ (∀ p ∈ N'', p.1 ∉ W) ∧ J N''
theorem comp_block {elt target iter : Expr} {ifs : List Expr} {scope : Scope} {cl : List (Str × Addr)} {pos : Pos} {s₂ : Shared} {I : Addr} {fp wr : List Addr} {n : Nat} {P Md : Nat → Value → Heap → Prop} {St : Nat → Heap → Prop} {news : Led}
    {VP : Nat → (Str → Option Value) → Prop} {RR : Value → Addr → Result → Shared → Prop} (J : Nat → List Value → Led → Prop)
    (W : KTurns prog w A target I fp wr n P Md St) (hsz : n ≤ sizeLine) (hIo : ∀ i h, St i h → ∀ a ∈ wr, ∃ o, h.get? a = some o) (hself : ∀ s (Q : Value → Shared → Prop) (E : Value → Shared → Prop), St 0 s.heap → Q (.ref I) s → wpAny (model prog w) A (pyIter (.ref I)) Q E s)
    (hcell : ∀ y ∈ scope.names, y.2 ≠ .cell) (hkind : scope.kind = .function) (hst : St 0 s₂.heap) (hfp : ∀ b ∈ fp, b < s₂.heap.objs.size)
    (F : Fr h₀ L s₂.heap m) (N : News h₀ L s₂.heap news) (hLf : L ∉ fp) (hwr : ∀ b ∈ wr, h₀.get? b = none) (hnw : ∀ p ∈ news, p.1 ∉ wr) (j0 : J 0 [] news)
    (hasg : ∀ i v C (s : Shared) (Q : Unit → Shared → Prop) (E : Value → Shared → Prop) m', P i v s.heap → s.heap.Ns C m' → (∀ h' tk m'', h'.Ns C m'' → VP i m'' → (∀ c o, c ≠ C → s.heap.get? c = some o → h'.get? c = some o) → Q () { s with heap := h', toks := tk }) → wpAny (model prog w) A (assign target (compEnvC scope cl C env) v) Q E s)
    (turn : ∀ i ys N' X Wl C oC m' h tk (Q : Bool → Shared → Prop) (E' : Value → Shared → Prop), i < n → VP i m' → InTurn X Wl C oC m' N' → J i ys N' → Fr h₀ L h m → News h₀ L h (X ++ N') →
      (∀ ok h₂ tk₂, (ok = false → Fr h₀ L h₂ m ∧ ∃ N₃, News h₀ L h₂ N₃ ∧ Kept X Wl (J (i + 1) ys) N₃) →
        (ok = true → ∀ (Q₂ : Value → Shared → Prop), (∀ y h₃ tk₃ N₃, Fr h₀ L h₃ m → News h₀ L h₃ N₃ → Kept X Wl (J (i + 1) (ys ++ [y])) N₃ → Q₂ y { s₂ with heap := h₃, toks := tk₃ }) → wpAny (model prog w) A (eval elt (compEnvC scope cl C env)) Q₂ E' { s₂ with heap := h₂, toks := tk₂ }) →
        Q ok { s₂ with heap := h₂, toks := tk₂ }) →
      wpAny (model prog w) A (tests ifs (compEnvC scope cl C env)) Q E' { s₂ with heap := h, toks := tk })
    (hRR : ∀ D C h tk m' ys news', Fr h₀ L h m → News h₀ L h ((D, lst ys) :: news') → (∀ p ∈ news', p.1 ≠ D) → h.Ns C m' → h₀.get? C = none → h₀.get? D = none → C ≠ L → D ≠ L → C ≠ D → (∀ p ∈ news', p.1 ≠ C) → J n ys news' → RR (.ref D) C (.ok .next) { s₂ with heap := h, toks := tk }) :
    wpAny (model prog w) A (newList []) (fun acc s₃ => wpAny (model prog w) A (newFunctionEnv scope env.globals cl [] env.qual none .none (some env)) (fun cenv s₄ =>
      codeAny (model prog w) A (.compStart (.ListComp elt [⟨target, iter, ifs, 0⟩] scope pos) 0 (.ref I) acc { cenv with scope := relabel scope env }) (RR acc cenv.locals) s₄) E s₃) E s₂ := by
  refine wpAny_newObj_type (wpAny_newFunctionEnv hcell (by intro y hy; simp at hy) (fun h₁ hns₁ hsb₁ => ?_) hkind)
  dsimp only at hns₁ hsb₁ ⊢
  generalize hH2 : s₂.heap.push { cls := .type "list", dict := none, data := .seq ([] : List Value).toArray } = H2 at hns₁ hsb₁ ⊢
  have hC : H2.objs.size = s₂.heap.objs.size + 1 := by rw [← hH2, Heap.size_push]
  have hDC : s₂.heap.objs.size ≠ H2.objs.size := by rw [hC]; exact Nat.ne_of_lt (Nat.lt_succ_self _)
  have below : ∀ b, b < s₂.heap.objs.size → b ≠ H2.objs.size ∧ b ≠ s₂.heap.objs.size := fun b hb => ⟨by rw [hC]; exact Nat.ne_of_lt (Nat.lt_succ_of_lt hb), Nat.ne_of_lt hb⟩
  have hDf : s₂.heap.objs.size ∉ fp := fun hm => Nat.lt_irrefl _ (hfp _ hm)
  have hCf : H2.objs.size ∉ fp := fun hm => by have := hfp _ hm; rw [hC] at this; exact Nat.lt_irrefl _ (Nat.lt_of_succ_lt this)
  have old : ∀ b o, s₂.heap.get? b = some o → h₁.get? b = some o := fun b o e => hsb₁.extBut b o (below b (Heap.lt_size e)).1 (Heap.get?_push_of_some _ (hH2 ▸ Heap.get?_push_of_some _ e))
  have hacc : h₁.get? s₂.heap.objs.size = some (lst []) := hsb₁.extBut _ _ hDC (Heap.get?_push_of_some _ (hH2 ▸ Heap.get?_push_size _ rfl))
  have hst₁ : St 0 h₁ := W.frame _ _ _ hst fun b _ o e => old b o e
  have fresh : ∀ a, s₂.heap.objs.size ≤ a → s₂.heap.get? a = none := fun a ha => by
    cases e : s₂.heap.get? a with
    | none => rfl
    | some o' => exact absurd (Heap.lt_size e) (Nat.not_lt.mpr ha)
  have fresh₀ : ∀ a, s₂.heap.objs.size ≤ a → h₀.get? a = none := fun a ha => by
    cases e : h₀.get? a with
    | none => rfl
    | some o' => have := F.keep a o' e; rw [fresh a ha] at this; cases this
  have hD₀ : h₀.get? s₂.heap.objs.size = none := fresh₀ _ (Nat.le_refl _)
  have hC₀ : h₀.get? H2.objs.size = none := fresh₀ _ (by rw [hC]; exact Nat.le_succ _)
  have hLlt : L < s₂.heap.objs.size := F.ns.lt
  have hDL : s₂.heap.objs.size ≠ L := Ne.symm (below L hLlt).2
  have hCL : H2.objs.size ≠ L := Ne.symm (below L hLlt).1
  have hDw : s₂.heap.objs.size ∉ wr := fun h => hDf (W.sub _ h)
  have hCw : H2.objs.size ∉ wr := fun h => hCf (W.sub _ h)
  have hLw : L ∉ wr := fun h => hLf (W.sub _ h)
  have oldw : ∀ b o, h₀.get? b = some o → b ∉ wr := fun b o e hb => by rw [hwr b hb] at e; cases e
  have hnW : ∀ p ∈ news, p.1 ∉ H2.objs.size :: s₂.heap.objs.size :: wr := fun p hp h => by
    have lt := below _ (Heap.lt_size (N p hp).1)
    rcases List.mem_cons.mp h with e | h
    · exact lt.1 e
    rcases List.mem_cons.mp h with e | h
    · exact lt.2 e
    · exact hnw p hp h
  have loop : ∀ s₃ : Shared, s₃ = { s₂ with heap := h₁, toks := s₂.toks + ([] : List (Str × Value)).length } →
      codeAny (model prog w) A (.compLoop (.ListComp elt [⟨target, iter, ifs, 0⟩] scope pos) 0 (.ref I) (.ref s₂.heap.objs.size) (compEnvC scope cl H2.objs.size env))
        (RR (.ref s₂.heap.objs.size) H2.objs.size) s₃ := by
    rintro s₃ rfl
    refine comp_loop
      (fun k s' => ∃ h' tk i ys m' news', s' = { s₂ with heap := h', toks := tk } ∧ i ≤ n ∧ k = n + 1 - i ∧ ys.length ≤ i ∧ St i h' ∧ Fr h₀ L h' m ∧ h'.Ns H2.objs.size m' ∧ News h₀ L h' ((s₂.heap.objs.size, lst ys) :: news') ∧
        (∀ p ∈ news', p.1 ∉ H2.objs.size :: s₂.heap.objs.size :: wr) ∧ J i ys news') ?_ (n + 1)
      ⟨h₁, _, 0, [], _, news, rfl, Nat.zero_le _, rfl, Nat.zero_le _, hst₁, F.keeps old, hns₁, fun p hp => ?_, hnW, j0⟩
    · rintro k s' ⟨h', tk, i, ys, m', news', rfl, hi, rfl, hyl, hst', F', hn', N', off', hJ⟩
      have offw : ∀ p ∈ news', p.1 ∉ wr := fun p hp h => off' p hp (List.mem_cons_of_mem _ (List.mem_cons_of_mem _ h))
      have offC : ∀ p ∈ news', p.1 ≠ H2.objs.size := fun p hp h => off' p hp (h ▸ List.mem_cons_self)
      have offD : ∀ p ∈ news', p.1 ≠ s₂.heap.objs.size := fun p hp h => off' p hp (h ▸ List.mem_cons_of_mem _ List.mem_cons_self)
      have nxt : ∀ h₁ : Heap, (∀ b o, b ∉ wr → h'.get? b = some o → h₁.get? b = some o) → Fr h₀ L h₁ m ∧ News h₀ L h₁ ((s₂.heap.objs.size, lst ys) :: news') ∧ h₁.Ns H2.objs.size m' := fun h₁ hk₁ =>
        ⟨⟨F'.ns.at' fun o e => hk₁ _ o hLw e, fun b o e => hk₁ b o (oldw b o e) (F'.keep b o e), F'.above⟩, fun p hp => ⟨hk₁ _ _ (by
          rcases List.mem_cons.mp hp with rfl | hp
          · exact hDw
          · exact offw p hp) (N' p hp).1, (N' p hp).2⟩, hn'.at' fun o e => hk₁ _ o hCw e⟩
      by_cases hlt : i < n
      · refine W.item i _ _ _ hlt hst' fun v h₂ tk₂ hMd hk₂ => ?_
        refine W.go i v _ _ _ hMd fun h₃ hP hst₃ hk₃ => ?_
        obtain ⟨F₃, N₃, hn₃⟩ := nxt h₃ fun b o hb x => hk₃ b o hb (hk₂ b o hb x)
        refine hasg i v _ _ _ _ _ hP hn₃ fun h₄ tk₄ m₄ hn₄ hV hk₄ => ?_
        have hst₄ : St (i + 1) h₄ := W.frame _ _ _ hst₃ fun b hb o e => hk₄ b o (fun q => hCf (q ▸ hb)) e
        obtain ⟨oC, heC, hoC⟩ := ns_obj hn₄
        have F₄ : Fr h₀ L h₄ m := ⟨F₃.ns.at' fun o e => hk₄ _ o (Ne.symm hCL) e, fun b o e => hk₄ b o (fun q => by rw [q, hC₀] at e; cases e) (F₃.keep b o e), F₃.above⟩
        have Nown : News h₀ L h₄ (PyProof.Rows.ownOf h₀ fp h₄) := news_ownOf hLf
        have N₄ : News h₀ L h₄ (((H2.objs.size, oC) :: (s₂.heap.objs.size, lst ys) :: PyProof.Rows.ownOf h₀ fp h₄) ++ news') := fun p hp => by
          rcases List.mem_append.mp hp with hp | hp
          · rcases List.mem_cons.mp hp with rfl | hp
            · exact ⟨heC, hCL, hC₀⟩
            rcases List.mem_cons.mp hp with rfl | hp
            · have z := N₃ _ (List.mem_cons_self)
              exact ⟨hk₄ _ _ hDC z.1, z.2⟩
            · exact Nown p hp
          · have z := N₃ p (List.mem_cons_of_mem _ hp)
            exact ⟨hk₄ _ _ (offC p hp) z.1, z.2⟩
        have IT : InTurn ((H2.objs.size, oC) :: (s₂.heap.objs.size, lst ys) :: PyProof.Rows.ownOf h₀ fp h₄) (H2.objs.size :: s₂.heap.objs.size :: wr) H2.objs.size oC m₄ news' := ⟨hoC, List.mem_cons_self, fun a ha => by
          rcases List.mem_cons.mp ha with rfl | ha
          · exact ⟨_, List.mem_cons_self⟩
          rcases List.mem_cons.mp ha with rfl | ha
          · exact ⟨_, List.mem_cons_of_mem _ List.mem_cons_self⟩
          · obtain ⟨o, ho⟩ := hIo _ _ hst₄ a ha
            exact ⟨o, List.mem_cons_of_mem _ (List.mem_cons_of_mem _ (mem_ownOf (W.sub a ha) (hwr a ha) ho))⟩, off'⟩
        -- the state behind a turn
        have back : ∀ h₅ N₅ (J' : Led → Prop), Fr h₀ L h₅ m → News h₀ L h₅ N₅ → Kept ((H2.objs.size, oC) :: (s₂.heap.objs.size, lst ys) :: PyProof.Rows.ownOf h₀ fp h₄) (H2.objs.size :: s₂.heap.objs.size :: wr) J' N₅ →
            ∃ N'', J' N'' ∧ (∀ p ∈ N'', p.1 ∉ H2.objs.size :: s₂.heap.objs.size :: wr) ∧ News h₀ L h₅ ((s₂.heap.objs.size, lst ys) :: N'') ∧ h₅.Ns H2.objs.size m₄ ∧ St (i + 1) h₅ := by
          rintro h₅ N₅ J' F₅ N₅' ⟨N'', k1, k2, k3, k4⟩
          refine ⟨N'', k4, k3, fun p hp => ?_, hoC.ns (N₅' _ (k1 _ List.mem_cons_self)).1, ?_⟩
          · rcases List.mem_cons.mp hp with rfl | hp
            · exact N₅' _ (k1 _ (List.mem_cons_of_mem _ List.mem_cons_self))
            · exact N₅' _ (k2 _ hp)
          · refine W.frame _ _ _ hst₄ fun b hb o e => ?_
            cases hn : h₀.get? b with
            | some o₀ =>
              have : o₀ = o := by have q := F₄.keep b o₀ hn; rw [e] at q; exact (Option.some.inj q).symm
              exact this ▸ F₅.keep b o₀ hn
            | none => exact (N₅' _ (k1 _ (List.mem_cons_of_mem _ (List.mem_cons_of_mem _ (mem_ownOf hb hn e))))).1
        refine turn i ys news' _ _ _ _ _ h₄ _ _ _ hlt hV IT hJ F₄ N₄ fun ok h₅ tk₅ hno hyes => ?_
        cases ok with
        | false =>
          obtain ⟨F₅, N₅, N₅', K⟩ := hno rfl
          obtain ⟨N'', k4, k3, N₆, hn₆, st₆⟩ := back h₅ N₅ _ F₅ N₅' K
          exact ⟨n + 1 - (i + 1), by omega, h₅, tk₅, i + 1, ys, _, N'', rfl, hlt, rfl, by omega, st₆, F₅, hn₆, N₆, k3, k4⟩
        | true =>
          refine hyes rfl _ fun y h₆ tk₆ N₆ F₆ N₆' K => ?_
          obtain ⟨N'', k4, k3, N₇, hn₇, st₇⟩ := back h₆ N₆ _ F₆ N₆' K
          refine append_at (hsz := by show ys.toArray.size ≤ sizeLine; rw [List.size_toArray]; exact Nat.le_trans hyl (Nat.le_trans hi hsz)) (N₇ _ List.mem_cons_self).1 fun h₈ hs₈ hD₈ => ?_
          refine ⟨n + 1 - (i + 1), by omega, h₈, tk₆, i + 1, ys ++ [y], _, N'', rfl, hlt, rfl, by rw [List.length_append, List.length_singleton]; omega, W.frame _ _ _ st₇ fun b hb o e => hs₈.extBut b o (fun q => hDf (q ▸ hb)) e, F₆.change hs₈ hDL hD₀,
            hn₇.sameBut hs₈ (Ne.symm hDC), fun p hp => ?_, k3, k4⟩
          rcases List.mem_cons.mp hp with rfl | hp
          · exact ⟨hD₈.trans (congrArg some (lst_snoc ys y)), hDL, hD₀⟩
          · have z := N₇ p (List.mem_cons_of_mem _ hp)
            exact ⟨hs₈.extBut _ _ (fun q => k3 p hp (q ▸ List.mem_cons_of_mem _ List.mem_cons_self)) z.1, z.2⟩
      · obtain rfl : i = n := Nat.le_antisymm hi (Nat.not_lt.mp hlt)
        refine W.done _ _ _ hst' fun h₂ tk₂ hk₂ => ?_
        obtain ⟨F₂, N₂, hn₂⟩ := nxt h₂ hk₂
        exact hRR _ _ h₂ tk₂ _ ys news' F₂ N₂ offD hn₂ hC₀ hD₀ hCL hDL (Ne.symm hDC) offC hJ
    · rcases List.mem_cons.mp hp with rfl | hp
      · exact ⟨hacc, hDL, hD₀⟩
      · exact ⟨old _ _ (N p hp).1, (N p hp).2⟩
  exact codeAny_compStart_list (loop _ rfl) (hself _ _ _ hst₁ (loop _ rfl))
end
end Mine
end
section
open PySem PySem.W PyProof.Rows PySem.Calls
set_option Elab.async false
set_option maxRecDepth 100000
set_option maxHeartbeats 4000000
set_option linter.unusedVariables false
namespace Mine
open PyProof.Rows.LCg (NsObj lst lst_snoc ns_obj fr_but news_but)
abbrev lsO (ys : List Value) : Obj := W.listOf ys.toArray ys.length
/-- an iterator, at its start -/
def Itr (f : Fx) (tg : Expr) (n : Nat) (P : Nat → Value → Heap → Prop) (Sa : List Addr) (N : Led) (it : Value) (h : Heap) : Prop :=
  ∃ (I : Addr) (fp wr : List Addr) (Md : Nat → Value → Heap → Prop) (St : Nat → Heap → Prop), it = .ref I ∧ KTurns PP f.c.w f.A tg I fp wr n P Md St ∧ (∀ i h, St i h → ∀ a ∈ wr, ∃ o, h.get? a = some o) ∧
    (∀ (s : Shared) (Q : Value → Shared → Prop) (E : Value → Shared → Prop), St 0 s.heap → Q (.ref I) s → f.Wp (pyIter (.ref I)) Q E s) ∧ St 0 h ∧ (∀ b ∈ fp, b < h.objs.size) ∧ f.c.L ∉ fp ∧ (∀ b ∈ wr, f.c.g.get? b = none) ∧ (∀ p ∈ N, p.1 ∉ wr) ∧ ∀ i h, St i h → ∀ a ∈ fp, (a ∈ wr ∨ a ∈ Sa) ∧ ∀ o, h.get? a = some o → ∀ v, o.data ≠ .cell v
/-- a source: its turns -/
def Src (f : Fx) (b : Binds) (N : Led) (en : Env) (tg e : Expr) (n : Nat) (P : Nat → Value → Heap → Prop) (Sa : List Addr) (R : Led → Prop) : Prop :=
  ∀ (s : Shared) (Q : Value → Shared → Prop) (E : Value → Shared → Prop), f.Ok → f.F s.heap b → f.N s.heap N →
    (∀ it h tk N₁, f.F h b → f.N h N₁ → Itr f tg n P Sa N₁ it h → R N₁ → Q it { s with heap := h, toks := tk }) → f.Wp (eval e en) (fun xv s₁ => f.Wp (pyIter xv) Q E s₁) E s
/-- a target takes a turn's value -/
def Takes (f : Fx) (tg : Expr) (ce : Env) (P : Nat → Value → Heap → Prop) (VP : Nat → (Str → Option Value) → Prop) : Prop :=
  ∀ i v C (s : Shared) (Q : Unit → Shared → Prop) (E : Value → Shared → Prop) m', P i v s.heap → s.heap.Ns C m' → (∀ h' tk m'', h'.Ns C m'' → VP i m'' → (∀ c o, c ≠ C → s.heap.get? c = some o → h'.get? c = some o) → Q () { s with heap := h', toks := tk }) → f.Wp (assign tg { ce with locals := C } v) Q E s
def cS (scope : Scope) : Bool := scope.kind == .function && scope.names.all fun y => y.2 != .cell && (y.2 != .local || scope.names.lookup y.1 == some .local)
theorem cS_ok {scope : Scope} (h : cS scope = true) : scope.kind = .function ∧ (∀ y ∈ scope.names, y.2 ≠ .cell) ∧ ∀ y ∈ scope.names, y.2 = .local → scope.names.lookup y.1 = some .local := by
  unfold cS at h
  simp only [Bool.and_eq_true, beq_iff_eq, List.all_eq_true, bne_iff_ne, Bool.or_eq_true] at h
  exact ⟨h.1, fun y hy => (h.2 y hy).1, fun y hy e => (h.2 y hy).2.resolve_left fun z => z e⟩
/-- a turn: the tests, and the element -/
def CTurn (f : Fx) (b : Binds) (N : Led) (ifs : List Expr) (elt : Expr) (ce : Env) (R0 : Led → Prop) (R1 : Value → Led → Prop) : Prop :=
  Jd f b N (tests ifs ce) fun ok N₃ => (ok = false → R0 N₃) ∧ (ok = true → Jd f b N₃ (eval elt ce) R1)
section
variable {f : Fx} {b : Binds} {N : Led} {en : Env}
theorem CTurn.none {elt : Expr} {ce : Env} {R0 : Led → Prop} {R1 : Value → Led → Prop} (h : Jd f b N (eval elt ce) R1) : CTurn f b N [] elt ce R0 R1 :=
  fun s _ _ _ F M q => wpAny_tests_nil (q _ _ _ _ F M ⟨fun e => (nomatch e), fun _ => h⟩)
theorem CTurn.one {c elt : Expr} {ce : Env} {p : Bool} {R0 : Led → Prop} {R1 : Value → Led → Prop} (h : Tr f ce b N c p) (h0 : p = false → R0 N) (h1 : p = true → Jd f b N (eval elt ce) R1) : CTurn f b N [c] elt ce R0 R1 :=
  fun s _ _ ok F M q => wpAny_tests_one (h s _ _ ok F M fun v hp tk N' F' M' r => by obtain ⟨rfl, rfl⟩ := r; exact q _ _ _ _ F' M' ⟨h0, h1⟩)
theorem pe_lc {e c s p} : PE (.ListComp e c s p) := ⟨fun _ _ => rfl, fun _ _ => rfl, fun _ => rfl, fun _ _ => rfl⟩
theorem comp_core {elt tg iter : Expr} {ifs : List Expr} {scope : Scope} {cl : List (Str × Addr)} {pos : Pos} {n : Nat} {P : Nat → Value → Heap → Prop} {Sa : List Addr} {VP : Nat → (Str → Option Value) → Prop} {use : Option (Value → Sem Unit)} {Q : Value → Shared → Prop} {E : Value → Shared → Prop} {s : Shared} {p2 : Pos} (J : Nat → List Value → Led → Prop)
    (src : Src f b N en tg iter n P Sa (J 0 [])) (hf : ∀ x, foldedSetIterable iter en x = pure x) (hclos : closureFor scope en = pure cl) (hc : cS scope = true) (hz : n ≤ 100000)
    (tk : ∀ C, Takes f tg (compEnvC scope cl C en) P VP)
    (turn : ∀ i ys N' X W C oC m, i < n → VP i m → InTurn X W C oC m N' → J i ys N' → CTurn f b (X ++ N') ifs elt (compEnvC scope cl C en) (Kept X W (J (i + 1) ys)) (fun y => Kept X W (J (i + 1) (ys ++ [y]))))
    (ok : f.Ok) (F₀ : f.F s.heap b) (M₀ : f.N s.heap N)
    (fin : ∀ D C h tk m' ys N', f.F h b → f.N h ((D, lsO ys) :: N') → (∀ p ∈ N', p.1 ≠ D) → h.Ns C m' → f.c.g.get? C = none → f.c.g.get? D = none → C ≠ f.c.L → D ≠ f.c.L → C ≠ D → (∀ p ∈ N', p.1 ≠ C) → J n ys N' → compPost (model PP f.c.w) f.A E use Q (.ref D) C (.ok .next) { s with heap := h, toks := tk }) :
    f.Wp (comprehension (.ListComp elt [⟨tg, iter, ifs, 0⟩] scope pos) scope en p2 (newList []) false (eval iter en) use) Q E s := by
  obtain ⟨ck, cc, cn⟩ := cS_ok hc
  refine wpAny_comprehension_free (use := use) rfl hf hclos ck cn (src _ _ _ ok F₀ M₀ fun it h tk₁ N₁ F M I j0 => ?_)
  obtain ⟨I, fp, wr, Md, St, rfl, W, hIo, hself, hst, hfp, hLf, hwr, hnw, -⟩ := I
  refine comp_block (L := f.c.L) (VP := VP) J W (Nat.le_trans hz (by rw [sizeLine_eq]; exact Nat.le_of_ble_eq_true rfl)) hIo hself cc ck hst hfp F M hLf hwr hnw j0 (fun i v C s Q E m' hP hn q => tk C i v C s Q E m' hP hn q) ?_ ?_
  · intro i ys N' X Wl C oC m' h tk₂ Q₂ E' hi hV IT hJ F₁ M₁ q
    refine turn i ys N' X Wl C oC m' hi hV IT hJ _ _ _ ok F₁ M₁ fun okb h₂ tk₃ N₃ F₂ M₂ r => ?_
    exact q okb h₂ tk₃ (fun e => ⟨F₂, N₃, M₂, r.1 e⟩) fun e Q₃ q₃ => r.2 e _ _ _ ok F₂ M₂ fun y h₃ tk₄ N₄ F₃ M₃ r₃ => q₃ y h₃ tk₄ N₄ F₃ M₃ r₃
  · intro D C h tk₂ m' ys N' F₁ M₁ offD hn hC₀ hD₀ hCL hDL hCD offC j
    exact fin D C h tk₂ m' ys N' F₁ M₁ offD hn hC₀ hD₀ hCL hDL hCD offC j
theorem Ev.lcomp {elt tg iter : Expr} {ifs : List Expr} {scope : Scope} {cl : List (Str × Addr)} {pos : Pos} {n : Nat} {P : Nat → Value → Heap → Prop} {Sa : List Addr} {VP : Nat → (Str → Option Value) → Prop} {R : Value → Led → Prop} (J : Nat → List Value → Led → Prop)
    (src : Src f b N en tg iter n P Sa (J 0 [])) (tk : ∀ C, Takes f tg (compEnvC scope cl C en) P VP) (hz : n ≤ 100000)
    (turn : ∀ i ys N' X W C oC m, i < n → VP i m → InTurn X W C oC m N' → J i ys N' → CTurn f b (X ++ N') ifs elt (compEnvC scope cl C en) (Kept X W (J (i + 1) ys)) (fun y => Kept X W (J (i + 1) (ys ++ [y]))))
    (done : ∀ D ys N', (∀ p ∈ N', p.1 ≠ D) → J n ys N' → R (.ref D) ((D, lsO ys) :: N'))
    (hclos : closureFor scope en = pure cl) (hc : cS scope = true) (hf : ∀ x, foldedSetIterable iter en x = pure x) : Ev f en b N (.ListComp elt [⟨tg, iter, ifs, 0⟩] scope pos) R := by
  refine ⟨pe_lc, fun s Q E ok F M q => ?_⟩
  show f.Wp (eval _ _) _ _ _
  rw [Fx.Wp, eval_ListComp]
  refine comp_core (use := none) J src hf hclos hc hz tk turn ok F M fun D C h tk m' ys N' F' N'' o1 hn hC₀ hD₀ hCL hDL hCD offC j => ?_
  refine ⟨m', hn, fun h'' hs'' => q _ _ _ _ (Fr.change F' hs'' hCL hC₀) (fun p hp => ?_) (done D ys N' o1 j)⟩
  refine ⟨hs''.extBut _ _ ?_ (N'' p hp).1, (N'' p hp).2⟩
  rcases List.mem_cons.mp hp with rfl | hp
  · exact Ne.symm hCD
  · exact offC p hp
/-- a comprehension, stored in a name -/
theorem Exs.asC {x : Str} {px spos : Pos} {rest : List Stmt} {K : Flow → Binds → Led → Prop} {elt tg iter : Expr} {ifs : List Expr} {scope : Scope} {cl : List (Str × Addr)} {pos : Pos} {n : Nat} {P : Nat → Value → Heap → Prop} {Sa : List Addr} {VP : Nat → (Str → Option Value) → Prop} (J : Nat → List Value → Led → Prop)
    (src : Src f b N f.env tg iter n P Sa (J 0 [])) (tk : ∀ C, Takes f tg (compEnvC scope cl C f.env) P VP) (hz : n ≤ 100000)
    (turn : ∀ i ys N' X W C oC m, i < n → VP i m → InTurn X W C oC m N' → J i ys N' → CTurn f b (X ++ N') ifs elt (compEnvC scope cl C f.env) (Kept X W (J (i + 1) ys)) (fun y => Kept X W (J (i + 1) (ys ++ [y]))))
    (done : ∀ D ys N', (∀ p ∈ N', p.1 ≠ D) → J n ys N' → Exs f ((x, some (.ref D)) :: b) ((D, lsO ys) :: N') rest K)
    (hsw : swapsWith (.ListComp elt [⟨tg, iter, ifs, 0⟩] scope pos) (some (.Name x px)) spos.line f.env = pure true) (l : lB f.cs x .local = true)
    (hclos : closureFor scope f.env = pure cl) (hc : cS scope = true) (hf : ∀ x, foldedSetIterable iter f.env x = pure x) : Exs f b N (.Assign [.Name x px] (.ListComp elt [⟨tg, iter, ifs, 0⟩] scope pos) spos :: rest) K := by
  refine Exs.cons fun s Q E ok F M q => ?_
  show f.Wp (exec _ _) _ _ _
  rw [Fx.Wp, exec_Assign_Name_used _ _ _ _ hsw]
  refine wpAny_bind (wpAny_standAt (wpAny_bind ?_))
  show f.Wp (do let _ ← comprehension (.ListComp elt [⟨tg, iter, ifs, 0⟩] scope pos) scope f.env _ (newList []) false (eval iter f.env) (some (assign (.Name x px) f.env))) _ _ s
  refine wpAny_bind (wpAny_mono (comp_core (use := some (assign (.Name x px) f.env)) (Q := fun _ s' => Q .next s') (E := E) J src hf hclos hc hz tk turn ok F M fun D C h tk m' ys N' F' N'' o1 hn hC₀ hD₀ hCL hDL hCD offC j => ?_) (fun _ s' hq => wpAny_pure (wpAny_pure hq)) fun _ _ e => e)
  show f.Wp (assign (.Name x px) f.env (.ref D)) _ _ _
  refine assign_Name (wpAny_storeName_local (lB_ok l).2.1 F'.ns (fun h₂ hn₂ hs₂ => ?_) (by show (f.cs.kind == .class || _) = false; rw [(lB_ok l).1]; rfl))
  have hL₀ : f.c.g.get? f.c.L = none := Heap.get?_none_of_le F'.above
  have F₂ : Fr f.c.g f.c.L h₂ (fun z => if z = x then some (.ref D) else bget b z) := ⟨hn₂, fun c o e => hs₂.extBut c o (fun q => by rw [q] at e; rw [show f.env.locals = f.c.L from rfl, hL₀] at e; cases e) (F'.keep c o e), F'.above⟩
  refine ⟨m', hn.sameBut hs₂ hCL, fun h'' hs'' => q .next _ _ _ ((D, lsO ys) :: N') (put_frw (F₂.change hs'' hCL hC₀)) (fun p hp => ?_) (done D ys N' o1 j)⟩
  have z : h₂.get? p.1 = some p.2 := hs₂.extBut _ _ (N'' p hp).2.1 (N'' p hp).1
  refine ⟨hs''.extBut _ _ ?_ z, (N'' p hp).2⟩
  rcases List.mem_cons.mp hp with rfl | hp
  · exact Ne.symm hCD
  · exact offC p hp
-- targets
theorem Takes.name {x : Str} {px : Pos} {scope : Scope} {cl : List (Str × Addr)} {C : Addr} {P : Nat → Value → Heap → Prop} {VP : Nat → Value → Prop} (h : ∀ i v hp, P i v hp → VP i v) (hx : scope.names.lookup x = some .local) (hc : cS scope = true) :
    Takes f (.Name x px) (compEnvC scope cl C en) P (fun i m => ∃ v, m x = some v ∧ VP i v) := fun i v C s Q E m' hP hn q =>
  assign_Name (wpAny_storeName_local (env := compEnvC scope cl C en) (lookup_relabel_local hx) hn (fun h₃ hn₃ hs₃ => q h₃ _ _ hn₃ ⟨v, by simp, h i v _ hP⟩ fun c o hc e => hs₃.extBut c o hc e) (by simp [compEnvC, relabel, (cS_ok hc).1]))
theorem Takes.pair {x y : Str} {px py tp : Pos} {k : Nat} {scope : Scope} {cl : List (Str × Addr)} {C : Addr} {P : Nat → Value → Heap → Prop} {VP : Nat → Value → Value → Prop} (h : ∀ i v hp, P i v hp → ∃ T u₁ u₂, v = .ref T ∧ hp.IsTuple T #[u₁, u₂] ∧ VP i u₁ u₂) (hxy : (x == y) = false) (hx : scope.names.lookup x = some .local) (hy : scope.names.lookup y = some .local) (hc : cS scope = true) :
    Takes f (.Tuple [.Name x px, .Name y py] k tp) (compEnvC scope cl C en) P (fun i m => ∃ u₁ u₂, m x = some u₁ ∧ m y = some u₂ ∧ VP i u₁ u₂) := fun i v C s Q E m' hP hn q => by
  obtain ⟨T, u₁, u₂, rfl, hT, hv⟩ := h i v _ hP
  have hne : x ≠ y := fun e => by rw [e, beq_self_eq_true] at hxy; cases hxy
  exact kcp_assign (env := compEnvC scope cl C en) rfl hT (lookup_relabel_local hx) (lookup_relabel_local hy) (by simp [compEnvC, relabel, (cS_ok hc).1]) hn fun h' tk hn' hk => q h' tk _ hn' ⟨u₁, u₂, by simp [hne], by simp, hv⟩ hk
-- names in a comprehension
def nB (scope : Scope) (en : Env) (x : Str) (k : NameKind) : Bool := scope.kind == .function && (relabel scope en).names.lookup x == some k && (x == ("__debug__" : Str)) == false
theorem nB_ok {scope : Scope} {x : Str} {k : NameKind} (h : nB scope en x k = true) : scope.kind = .function ∧ (relabel scope en).names.lookup x = some k ∧ (x == ("__debug__" : Str)) = false := by
  unfold nB at h
  simp only [Bool.and_eq_true, beq_iff_eq] at h
  exact ⟨h.1.1, h.1.2, h.2⟩
theorem EvV.cn {x : Str} {pos : Pos} {v : Value} {scope : Scope} {cl : List (Str × Addr)} {X N' : Led} {W : List Addr} {C : Addr} {oC : Obj} {m : Str → Option Value} (T : InTurn X W C oC m N') (hN : ∀ p ∈ X, p ∈ N) (hv : m x = some v) (l : nB scope en x .local = true) :
    EvV f (compEnvC scope cl C en) b N (.Name x pos) v := ⟨pe_name, fun s _ _ _ F M q => wpAny_Name (wpAny_loadName_local (nB_ok l).1 (nB_ok l).2.1 (T.ns.ns (M.get (hN _ T.mem))) hv (q v s.heap s.toks N F M ⟨rfl, rfl⟩)) (nB_ok l).2.2⟩
/-- a name of the def's own, that a comprehension takes with it -/
theorem EvV.ccell {x : Str} {pos : Pos} {v : Value} {scope : Scope} {cl : List (Str × Addr)} {c C : Addr} {o : Obj} (hc : cl.lookup x = some c) (hm : (c, o) ∈ N) (hd : o.data = .cell (some v)) (l : nB scope en x .cell = true) :
    EvV f (compEnvC scope cl C en) b N (.Name x pos) v := ⟨pe_name, fun s _ _ _ F M q => wpAny_Name (wpAny_loadName_cell (nB_ok l).1 (nB_ok l).2.1 hc ⟨o, M.get hm, hd⟩ (q v s.heap s.toks N F M ⟨rfl, rfl⟩)) (nB_ok l).2.2⟩
-- sources
theorem at_apart {N₁ : Led} {h : Heap} {b' : Binds} {ax : Addr} {o : Obj} (hat : At f N₁ ax o) (F : f.F h b') (M : f.N h N₁) : f.c.L ≠ ax := fun e => hat.elim (fun m => (M _ m).2.1 e.symm) fun q => absurd (Heap.lt_size q) (Nat.not_lt.mpr (e ▸ F.above))
theorem seq_nc {h : Heap} {I ax : Addr} {o1 o2 : Obj} (e1 : h.get? I = some o1) (e2 : h.get? ax = some o2) (d1 : ∀ v, o1.data ≠ .cell v) (d2 : ∀ v, o2.data ≠ .cell v) : ∀ a ∈ [I, ax], ∀ o, h.get? a = some o → ∀ v, o.data ≠ .cell v := fun a ha o e => by
  rcases List.mem_cons.mp ha with rfl | ha
  · rw [e1] at e; exact Option.some.inj e ▸ d1
  · rw [List.mem_singleton.mp ha, e2] at e; exact Option.some.inj e ▸ d2
theorem Src.seq {x : Str} {px : Pos} {e : Expr} {vs : List Value} {o : Obj} {ax : Addr} {R : Led → Prop} (hi : Ev f en b N e (fun v N₁ => v = .ref ax ∧ At f N₁ ax o ∧ R N₁)) (ho : IsSeq o vs) : Src f b N en (.Name x px) e vs.length (fun i v _ => vs[i]? = some v) [ax] R :=
  fun s Q E ok F M q => hi.jd s _ _ ok F M fun v h tk N₁ F₁ M₁ r => by
    obtain ⟨rfl, hat, r⟩ := r
    have hget := hat.get F₁ M₁
    have hlt : ax < h.objs.size := Heap.lt_size hget
    have hne : ax ≠ h.objs.size := Nat.ne_of_lt hlt
    have hLx := at_apart hat F₁ M₁
    have hLt : f.c.L < h.objs.size := F₁.ns.lt
    obtain ⟨hc, n₀, hd⟩ := ho
    have fin : ∀ (it : Obj) (St : Nat → Heap → Prop), Walks PP f.c.w f.A h.objs.size [h.objs.size, ax] [h.objs.size] vs.length (fun i v => vs[i]? = some v) St → St 0 (h.push it) → (∀ i hh, St i hh → ∃ o, hh.get? h.objs.size = some o) → (∀ i hh, St i hh → ∀ a ∈ [h.objs.size, ax], ∀ o, hh.get? a = some o → ∀ v, o.data ≠ .cell v) →
        Q (.ref h.objs.size) { s with heap := h.push it, toks := tk } := fun it St W st0 hIo hnc => by
      refine q _ _ _ N₁ (F₁.push _) (fun p hp => ⟨Heap.get?_push_of_some _ (M₁ p hp).1, (M₁ p hp).2⟩) ⟨h.objs.size, [h.objs.size, ax], [h.objs.size], _, St, rfl, KTurns.ofWalks W fun i v s Q E _ q => wpAny_pure q, fun i hh st a ha => ?_, fun s Q E st q => W.self 0 s Q E st q, st0, fun a ha => ?_, fun ha => ?_, fun a ha => ?_, fun p hp hI => ?_, fun i hh st a ha => ⟨by rcases List.mem_cons.mp ha with rfl | ha; exact .inl List.mem_cons_self; exact .inr ha, hnc i hh st a ha⟩⟩ r
      · rw [List.mem_singleton.mp ha]; exact hIo i hh st
      · rw [Heap.size_push]
        rcases List.mem_cons.mp ha with rfl | ha
        · exact Nat.lt_succ_self _
        · rw [List.mem_singleton.mp ha]; exact Nat.lt_succ_of_lt hlt
      · rcases List.mem_cons.mp ha with e | ha
        · exact absurd hLt (e ▸ Nat.lt_irrefl _)
        · exact hLx (List.mem_singleton.mp ha)
      · rw [List.mem_singleton.mp ha]; exact next_is_new F₁
      · exact absurd (Heap.lt_size (M₁ p hp).1) ((List.mem_singleton.mp hI) ▸ Nat.lt_irrefl _)
    have hsz : vs.toArray.size = vs.length := by simp
    rcases hc with hc | hc
    · have hl : h.IsList ax vs.toArray := ⟨o, hget, hc, n₀, hd⟩
      have W := Walks.list (prog := PP) (w := f.c.w) (A := f.A) rfl h.objs.size ax hne vs.toArray
      rw [hsz] at W
      simp only [List.getElem?_toArray] at W
      exact wpAny_pyIter_list hl (fin _ _ W ⟨⟨_, Heap.get?_push_size _ rfl, rfl, rfl⟩, hl.at fun o e => Heap.get?_push_of_some _ e⟩ (fun i hh st => by obtain ⟨o', e, _⟩ := st.1; exact ⟨o', e⟩) fun i hh st => by obtain ⟨⟨o1, e1, _, d1⟩, o2, e2, _, n2, d2⟩ := st; exact seq_nc e1 e2 (fun v q => by rw [d1] at q; cases q) fun v q => by rw [d2] at q; cases q)
    · have hl : h.IsTuple ax vs.toArray := ⟨o, hget, hc, n₀, hd⟩
      have W := Walks.tuple (prog := PP) (w := f.c.w) (A := f.A) rfl h.objs.size ax hne vs.toArray
      rw [hsz] at W
      simp only [List.getElem?_toArray] at W
      exact wpAny_pyIter_tuple hl (fin _ _ W ⟨⟨_, Heap.get?_push_size _ rfl, rfl, rfl⟩, hl.at fun o e => Heap.get?_push_of_some _ e⟩ (fun i hh st => by obtain ⟨o', e, _⟩ := st.1; exact ⟨o', e⟩) fun i hh st => by obtain ⟨⟨o1, e1, _, d1⟩, o2, e2, _, n2, d2⟩ := st; exact seq_nc e1 e2 (fun v q => by rw [d1] at q; cases q) fun v q => by rw [d2] at q; cases q)
end
end Mine
end
section
open PySem PySem.W PyProof.Rows PySem.Calls
set_option Elab.async false
set_option maxRecDepth 100000
set_option maxHeartbeats 4000000
set_option linter.unusedVariables false
namespace Mine
theorem nl {n k m : Nat} (h : k < m) : n + k < n + m := by omega
theorem nl0 {n m : Nat} (h : 0 < m) : n < n + m := by omega
theorem size_range (n : Nat) : Builtin.Range.rangeSize 0 (n : Int) 1 = (n : Int) := by
  rw [PyProof.Rows.rangeSize_pos (by omega) (by omega)]
  omega
theorem fits_int {i : Int} (h : 0 ≤ i) (h2 : i ≤ 100000) : Builtin.Range.rangeFitsLong i = true := by
  unfold Builtin.Range.rangeFitsLong
  simp only [Bool.and_eq_true, decide_eq_true_eq]
  omega
theorem small_range {n : Nat} (h : n ≤ 100000) : Builtin.Range.small 0 (n : Int) 1 = true := by
  unfold Builtin.Range.small
  rw [size_range, if_pos (by decide), fits_int (i := 0) (by omega) (by omega), fits_int (i := (n : Int)) (by omega) (by omega), fits_int (i := 1) (by omega) (by omega), fits_int (i := (n : Int) + (1 - 1)) (by omega) (by omega)]
  simp
theorem range_W (f : Fx) (I : Addr) (n : Nat) : Walks PP f.c.w f.A I [I] [I] n (fun i v => ∃ t, v = .int (i : Int) t) (fun i h => IsRangeIter h I (0 + (i : Nat) * 1) ((n : Int) - (i : Nat)) 1) :=
  let W := PyProof.Rows.LCg.range_walks (prog := PP) (w := f.c.w) (A := f.A) (I := I) rfl 0 n
  ⟨W.sub, W.frame, fun i s Q E hi st hQ => W.item i s Q E hi st fun v h' tk hP => hQ v h' tk (by obtain ⟨t, rfl⟩ := hP; exact ⟨t, by rw [Int.zero_add]⟩), W.done, W.self⟩
section
variable {f : Fx} {b : Binds} {N : Led} {en : Env}
theorem itr_of {tg : Expr} {n : Nat} {P : Nat → Value → Heap → Prop} {Sa : List Addr} {N₁ : Led} {h h' : Heap} {b' : Binds} {I : Addr} {fp wr : List Addr} {Md : Nat → Value → Heap → Prop} {St : Nat → Heap → Prop}
    (W : KTurns PP f.c.w f.A tg I fp wr n P Md St) (hIo : ∀ i h, St i h → ∀ a ∈ wr, ∃ o, h.get? a = some o) (hself : ∀ (s : Shared) (Q : Value → Shared → Prop) (E : Value → Shared → Prop), St 0 s.heap → Q (.ref I) s → f.Wp (pyIter (.ref I)) Q E s) (st : St 0 h')
    (F : f.F h b') (M : f.N h N₁) (hwr : ∀ a ∈ wr, h.objs.size ≤ a) (hfp : ∀ a ∈ fp, a < h'.objs.size ∧ (h.objs.size ≤ a ∨ a ≠ f.c.L)) (hS : ∀ a ∈ fp, a ∈ wr ∨ a ∈ Sa) (hnc : ∀ i h, St i h → ∀ a ∈ fp, ∀ o, h.get? a = some o → ∀ v, o.data ≠ .cell v) : Itr f tg n P Sa N₁ (.ref I) h' :=
  ⟨I, fp, wr, Md, St, rfl, W, hIo, hself, st, fun a ha => (hfp a ha).1, fun ha => by
    rcases (hfp _ ha).2 with e | e
    · exact absurd F.ns.lt (Nat.not_lt.mpr e)
    · exact e rfl, fun a ha => ktu_new F (hwr a ha), fun p hp hI => absurd (Heap.lt_size (M p hp).1) (Nat.not_lt.mpr (hwr _ hI)), fun i h st a ha => ⟨hS a ha, hnc i h st a ha⟩⟩
theorem turns_more {f : Fx} {tg : Expr} {n : Nat} {I : Addr} {fp wr wr' : List Addr} {P Md : Nat → Value → Heap → Prop} {St : Nat → Heap → Prop} (W : KTurns PP f.c.w f.A tg I fp wr n P Md St) (h : ∀ b ∈ wr, b ∈ wr') (h' : ∀ b ∈ wr', b ∈ fp) : KTurns PP f.c.w f.A tg I fp wr' n P Md St :=
  ⟨h', W.frame, fun i s Q E hi st hQ => W.item i s Q E hi st fun v hp tk hM hk => hQ v hp tk hM fun b o hb => hk b o fun m => hb (h b m), fun i v s Q E hm hQ => W.go i v s Q E hm fun hp hP st hk => hQ hp hP st fun b o hb => hk b o fun m => hb (h b m), fun s Q E st hQ => W.done s Q E st fun hp tk hk => hQ hp tk fun b o hb => hk b o fun m => hb (h b m)⟩
theorem nc_of {h : Heap} {a : Addr} {o' : Obj} (e : h.get? a = some o') (d : ∀ v, o'.data ≠ .cell v) : ∀ o, h.get? a = some o → ∀ v, o.data ≠ .cell v := fun o q => by rw [e] at q; exact Option.some.inj q ▸ d
/-- a call of a built-in type -/
theorem Ev.callT {x : Str} {np pos : Pos} {e : Expr} {rest : List Expr} {T : String} {RA : List Value → Led → Prop} {R' : Value → Led → Prop} (g : Glob f.c.w x (.type T)) (ha : Ags f en b N pos (e :: rest) RA) (hr : ∀ vs N₁, RA vs N₁ → Jd f b N₁ (PySem.call (.type T) vs) R')
    (hg : gB en x = true) (hs : PEs (e :: rest)) : Ev f en b N (.Call (.Name x np) (e :: rest) [] pos) R' :=
  ⟨pe_call, fun s _ _ ok F M q => Call_ ((EvV.glob g hg).jd s _ _ ok F M fun v h tk N₁ F₁ M₁ r => by
    obtain ⟨rfl, rfl⟩ := r
    exact PyProof.Rows.callWith_type1 (ha _ _ _ ok F₁ M₁ fun vs h tk N₂ F₂ M₂ r₂ => hr vs N₂ r₂ _ _ _ ok F₂ M₂ q) (hs.1.arg en rest) (noStar hs.2)) rfl⟩
/-- a source that is a call of a built-in type -/
theorem Src.callT {x : Str} {np pos : Pos} {tg e : Expr} {rest : List Expr} {T : String} {n : Nat} {P : Nat → Value → Heap → Prop} {Sa : List Addr} {R : Led → Prop} {RA : List Value → Led → Prop} (g : Glob f.c.w x (.type T)) (ha : Ags f en b N pos (e :: rest) RA)
    (hr : ∀ vs N₁ (s : Shared) (Q : Value → Shared → Prop) (E : Value → Shared → Prop), RA vs N₁ → f.F s.heap b → f.N s.heap N₁ → (∀ it h tk, f.F h b → f.N h N₁ → Itr f tg n P Sa N₁ it h → R N₁ → Q it { s with heap := h, toks := tk }) → f.Wp (PySem.call (.type T) vs) (fun xv s₁ => f.Wp (pyIter xv) Q E s₁) E s)
    (hg : gB en x = true) (hs : PEs (e :: rest)) : Src f b N en tg (.Call (.Name x np) (e :: rest) [] pos) n P Sa R :=
  fun s Q E ok F M q => Call_ ((EvV.glob g hg).jd s _ _ ok F M fun v h tk N₁ F₁ M₁ r => by
    obtain ⟨rfl, rfl⟩ := r
    exact PyProof.Rows.callWith_type1 (ha _ _ _ ok F₁ M₁ fun vs h₂ tk₂ N₂ F₂ M₂ r₂ => hr vs N₂ { s with heap := h₂, toks := tk₂ } Q E r₂ F₂ M₂ fun it h tk F M I R => q it h tk N₂ F M I R) (hs.1.arg en rest) (noStar hs.2)) rfl
theorem Src.range {x y : Str} {np py pos : Pos} {e : Expr} {n : Nat} {R : Led → Prop} (g : Glob f.c.w x (.type "range")) (he : Ev f en b N e (fun v N₁ => (∃ t, v = .int (n : Int) t) ∧ R N₁)) (hz : n ≤ 100000) (hg : gB en x = true) :
    Src f b N en (.Name y py) (.Call (.Name x np) [e] [] pos) n (fun i v _ => ∃ t, v = .int (i : Int) t) [] R :=
  Src.callT g (Ags.cons (R' := fun vs N₁ => (∃ t, vs = [.int (n : Int) t]) ∧ R N₁) he fun v N₁ r => Ags.nil.mono fun vs N₂ r₂ => by obtain ⟨⟨t, rfl⟩, r⟩ := r; obtain ⟨rfl, rfl⟩ := r₂; exact ⟨⟨t, rfl⟩, r⟩)
    (fun vs N₁ s Q E r F M q => by
      obtain ⟨⟨t, rfl⟩, r⟩ := r
      have hsz : (s.heap.push { cls := .type "range", data := .fields #[.int 0 s.toks, .int (n : Int) t, .int 1 (s.toks + 1)] }).objs.size = s.heap.objs.size + 1 := Heap.size_push _ _
      refine call_range_1 (wpAny_pyIter_range (Heap.get?_push_size _ rfl) (small_range hz) ?_)
      refine q _ _ _ ((F.push _).push _) (fun p hp => ⟨Heap.get?_push_of_some _ (Heap.get?_push_of_some _ (M p hp).1), (M p hp).2⟩) (itr_of (h := s.heap) (KTurns.ofWalks (range_W f _ n) fun i v s Q E _ q => wpAny_pure q) (fun i h st a ha => ?_) (fun s Q E st q => (range_W f _ n).self 0 s Q E st q) ?_ F M (fun a ha => ?_) (fun a ha => ?_) (fun a ha => .inl ha) fun i h st a ha => by rw [List.mem_singleton.mp ha]; exact nc_of st (fun v q => by cases q)) r
      · rw [List.mem_singleton.mp ha]; exact ⟨_, st⟩
      · refine Eq.trans (Heap.get?_push_size _ rfl) ?_
        rw [size_range]; simp
      · rw [List.mem_singleton.mp ha]; dsimp only; rw [hsz]; omega
      · rw [List.mem_singleton.mp ha]; dsimp only; simp only [Heap.size_push]; exact ⟨Nat.lt_succ_self _, .inl (Nat.le_add_right _ _)⟩)
    hg ⟨he.pe, trivial⟩
theorem Src.zip {x : Str} {np pos tp : Pos} {elts : List Expr} {k : Nat} {e e2 : Expr} {l1 l2 : Addr} {xs ys : List Value} {R : Led → Prop} (g : Glob f.c.w x (.type "zip")) (ha : Ags f en b N pos [e, e2] (fun vs N₁ => vs = [.ref l1, .ref l2] ∧ AtL f N₁ l1 xs ∧ AtL f N₁ l2 ys ∧ R N₁)) (hxy : xs.length = ys.length) (hg : gB en x = true) (hs : PEs [e, e2]) :
    Src f b N en (.Tuple elts k tp) (.Call (.Name x np) [e, e2] [] pos) xs.length (fun i v h => ∃ T u₁ u₂, v = .ref T ∧ h.IsTuple T #[u₁, u₂] ∧ xs[i]? = some u₁ ∧ ys[i]? = some u₂) [l1, l2] R :=
  Src.callT g ha (fun vs N₁ s Q E r F M q => by
      obtain ⟨rfl, a1, a2, r⟩ := r
      have hl1 := a1.is F M
      have hl2 := a2.is F M
      have hlt1 : l1 < s.heap.objs.size := by obtain ⟨_, e, _⟩ := hl1; exact Heap.lt_size e
      have hlt2 : l2 < s.heap.objs.size := by obtain ⟨_, e, _⟩ := hl2; exact Heap.lt_size e
      have n1 : f.c.L ≠ l1 := by obtain ⟨o, a, _⟩ := a1; exact at_apart a F M
      have n2 : f.c.L ≠ l2 := by obtain ⟨o, a, _⟩ := a2; exact at_apart a F M
      have D : ZipApart (s.heap.objs.size + 4) (s.heap.objs.size + 2) (s.heap.objs.size + 3) s.heap.objs.size (s.heap.objs.size + 1) l1 l2 := ktu_apart _ _ _ hlt1 hlt2
      refine call_zip_2 hl1 hl2 fun h' hz hTI hTO hi1 hi2 hsz hk => wpAny_pyIter_zip hz ?_
      have W := KTurns.ofWalksU (elts := elts) (k := k) (pos := tp) (WalksT.zip2 (prog := PP) (w := f.c.w) (A := f.A) rfl _ _ _ _ _ _ _ D xs.toArray ys.toArray).toU
      have hmin : min xs.toArray.size ys.toArray.size = xs.length := by simp [hxy]
      rw [hmin] at W
      have W := turns_more (f := f) W (wr' := [s.heap.objs.size + 4, s.heap.objs.size + 2, s.heap.objs.size + 3, s.heap.objs.size, s.heap.objs.size + 1]) (fun b hb => by simp at hb ⊢; rcases hb with rfl | rfl | rfl | rfl <;> simp) (fun b hb => by simp at hb ⊢; rcases hb with rfl | rfl | rfl | rfl | rfl <;> simp)
      refine q _ _ _ (F.keeps hk) (M.grown hk) ?_ r
      have hI := itr_of (f := f) (h := s.heap) (N₁ := N₁) W (h' := h') (Sa := [l1, l2]) (fun i h st a ha => ?_) (fun s Q E st q => wpAny_pyIter_zip st.1 q) ⟨hz, hTI, ⟨_, _, hTO⟩, hi1, hi2, hl1.at fun o e => hk l1 o e, hl2.at fun o e => hk l2 o e⟩ F M (fun a ha => ?_) (fun a ha => ?_) (fun a ha => by simp at ha ⊢; rcases ha with rfl | rfl | rfl | rfl | rfl | rfl | rfl <;> simp) fun i h st a ha => ?_
      · obtain ⟨I, fp, wr, Md, St, e1, W', r1, r2, r3, r4, r5, r6, r7, r8⟩ := hI
        exact ⟨I, fp, wr, Md, St, e1, ⟨W'.sub, W'.frame, W'.item, fun i v s Q E hm hQ => W'.go i v s Q E hm fun h' hP st hk => hQ h' (by obtain ⟨T, vals, rfl, ⟨x, y, hx, hy, rfl⟩, hT⟩ := hP; exact ⟨T, x, y, rfl, hT, by simpa using hx, by simpa using hy⟩) st hk, W'.done⟩, r1, r2, r3, r4, r5, r6, r7, r8⟩
      · obtain ⟨hz, hTI, ⟨a', b', hTO⟩, ⟨o1, ho1, _⟩, ⟨o2, ho2, _⟩, _⟩ := st
        have ha' : a = s.heap.objs.size + 4 ∨ a = s.heap.objs.size + 2 ∨ a = s.heap.objs.size + 3 ∨ a = s.heap.objs.size ∨ a = s.heap.objs.size + 1 := by simpa using ha
        rcases ha' with rfl | rfl | rfl | rfl | rfl
        · exact ⟨_, hz⟩
        · exact ⟨_, hTI⟩
        · exact ⟨_, hTO⟩
        · exact ⟨_, ho1⟩
        · exact ⟨_, ho2⟩
      · have ha' : a = s.heap.objs.size + 4 ∨ a = s.heap.objs.size + 2 ∨ a = s.heap.objs.size + 3 ∨ a = s.heap.objs.size ∨ a = s.heap.objs.size + 1 := by simpa using ha
        rcases ha' with rfl | rfl | rfl | rfl | rfl <;> first | exact Nat.le_add_right _ _ | exact Nat.le_refl _
      · have ha' : a = s.heap.objs.size + 4 ∨ a = s.heap.objs.size + 2 ∨ a = s.heap.objs.size + 3 ∨ a = s.heap.objs.size ∨ a = s.heap.objs.size + 1 ∨ a = l1 ∨ a = l2 := by simpa using ha
        rw [hsz]
        rcases ha' with rfl | rfl | rfl | rfl | rfl | rfl | rfl
        · exact ⟨nl (by decide), .inl (Nat.le_add_right _ _)⟩
        · exact ⟨nl (by decide), .inl (Nat.le_add_right _ _)⟩
        · exact ⟨nl (by decide), .inl (Nat.le_add_right _ _)⟩
        · exact ⟨nl0 (by decide), .inl (Nat.le_refl _)⟩
        · exact ⟨nl (by decide), .inl (Nat.le_add_right _ _)⟩
        · exact ⟨Nat.lt_of_lt_of_le hlt1 (Nat.le_add_right _ _), .inr (Ne.symm n1)⟩
        · exact ⟨Nat.lt_of_lt_of_le hlt2 (Nat.le_add_right _ _), .inr (Ne.symm n2)⟩
      · obtain ⟨hz, hTI, ⟨a', b', hTO⟩, ⟨o1, ho1, _, d1⟩, ⟨o2, ho2, _, d2⟩, ⟨q1, hq1, _, m1, e1⟩, ⟨q2, hq2, _, m2, e2⟩⟩ := st
        have ha' : a = s.heap.objs.size + 4 ∨ a = s.heap.objs.size + 2 ∨ a = s.heap.objs.size + 3 ∨ a = s.heap.objs.size ∨ a = s.heap.objs.size + 1 ∨ a = l1 ∨ a = l2 := by simpa using ha
        rcases ha' with rfl | rfl | rfl | rfl | rfl | rfl | rfl
        · exact nc_of hz fun v q => by cases q
        · exact nc_of hTI fun v q => by cases q
        · exact nc_of hTO fun v q => by cases q
        · exact nc_of ho1 fun v q => by rw [d1] at q; cases q
        · exact nc_of ho2 fun v q => by rw [d2] at q; cases q
        · exact nc_of hq1 fun v q => by rw [e1] at q; cases q
        · exact nc_of hq2 fun v q => by rw [e2] at q; cases q)
    hg hs
theorem Src.enum {x : Str} {np pos tp : Pos} {elts : List Expr} {k : Nat} {e : Expr} {l : Addr} {xs : List Value} {R : Led → Prop} (g : Glob f.c.w x (.type "enumerate")) (ha : Ags f en b N pos [e] (fun vs N₁ => vs = [.ref l] ∧ AtL f N₁ l xs ∧ R N₁)) (hg : gB en x = true) (hs : PEs [e]) :
    Src f b N en (.Tuple elts k tp) (.Call (.Name x np) [e] [] pos) xs.length (fun i v h => ∃ T t u, v = .ref T ∧ h.IsTuple T #[.int i t, u] ∧ xs[i]? = some u) [l] R :=
  Src.callT g ha (fun vs N₁ s Q E r F M q => by
      obtain ⟨rfl, a1, r⟩ := r
      have hl1 := a1.is F M
      have hlt1 : l < s.heap.objs.size := by obtain ⟨_, e, _⟩ := hl1; exact Heap.lt_size e
      have n1 : f.c.L ≠ l := by obtain ⟨o, a, _⟩ := a1; exact at_apart a F M
      refine call_enumerate_list hl1 fun h' hE hI hsz hk => wpAny_pyIter_enum hE ?_
      have W := KTurns.ofWalksU (elts := elts) (k := k) (pos := tp) (WalksT.enumerate (prog := PP) (w := f.c.w) (A := f.A) rfl (s.heap.objs.size + 1) s.heap.objs.size l (Nat.succ_ne_self _) (ktu_ne 1 hlt1) (Nat.ne_of_lt hlt1) xs.toArray).toU
      have hmin : xs.toArray.size = xs.length := by simp
      rw [hmin] at W
      refine q _ _ _ (F.keeps hk) (M.grown hk) ?_ r
      have hI := itr_of (f := f) (h := s.heap) (N₁ := N₁) W (h' := h') (Sa := [l]) (fun i h st a ha => ?_) (fun s Q E st q => let ⟨old, he⟩ := st.1; wpAny_pyIter_enum he q) ⟨⟨_, hE⟩, hI, hl1.at fun o e => hk l o e⟩ F M (fun a ha => ?_) (fun a ha => ?_) (fun a ha => by simp at ha ⊢; rcases ha with rfl | rfl | rfl <;> simp) fun i h st a ha => ?_
      · obtain ⟨I, fp, wr, Md, St, e1, W', r1, r2, r3, r4, r5, r6, r7, r8⟩ := hI
        exact ⟨I, fp, wr, Md, St, e1, ⟨W'.sub, W'.frame, W'.item, fun i v s Q E hm hQ => W'.go i v s Q E hm fun h' hP st hk => hQ h' (by obtain ⟨T, vals, rfl, ⟨t, x, hx, rfl⟩, hT⟩ := hP; exact ⟨T, t, x, rfl, hT, by simpa using hx⟩) st hk, W'.done⟩, r1, r2, r3, r4, r5, r6, r7, r8⟩
      · obtain ⟨⟨old, he⟩, ⟨o1, ho1, _⟩, _⟩ := st
        have ha' : a = s.heap.objs.size + 1 ∨ a = s.heap.objs.size := by simpa using ha
        rcases ha' with rfl | rfl
        · exact ⟨_, he⟩
        · exact ⟨_, ho1⟩
      · have ha' : a = s.heap.objs.size + 1 ∨ a = s.heap.objs.size := by simpa using ha
        rcases ha' with rfl | rfl <;> first | exact Nat.le_add_right _ _ | exact Nat.le_refl _
      · have ha' : a = s.heap.objs.size + 1 ∨ a = s.heap.objs.size ∨ a = l := by simpa using ha
        rw [hsz]
        rcases ha' with rfl | rfl | rfl
        · exact ⟨nl (by decide), .inl (Nat.le_add_right _ _)⟩
        · exact ⟨nl0 (by decide), .inl (Nat.le_refl _)⟩
        · exact ⟨Nat.lt_of_lt_of_le hlt1 (Nat.le_add_right _ _), .inr (Ne.symm n1)⟩
      · obtain ⟨⟨old, he⟩, ⟨o1, ho1, _, d1⟩, ⟨q1, hq1, _, m1, e1⟩⟩ := st
        have ha' : a = s.heap.objs.size + 1 ∨ a = s.heap.objs.size ∨ a = l := by simpa using ha
        rcases ha' with rfl | rfl | rfl
        · exact nc_of he fun v q => by cases q
        · exact nc_of ho1 fun v q => by rw [d1] at q; cases q
        · exact nc_of hq1 fun v q => by rw [e1] at q; cases q)
    hg hs
/-- a dict of texts, that the call sees -/
def AtD (f : Fx) (N : Led) (d : Addr) (kvs : List (Str × Value)) : Prop := (d == sysModules) = false ∧ ∃ o, At f N d o ∧ o.IsDictOf (PySem.strKind PP f.c.w) kvs
theorem AtD.is {h : Heap} {b' : Binds} {d : Addr} {kvs : List (Str × Value)} (x : AtD f N d kvs) (F : f.F h b') (M : f.N h N) : h.DictOf (PySem.strKind PP f.c.w) d kvs := let ⟨o, y, z⟩ := x.2; Heap.dictOf_iff.mpr ⟨o, y.get F M, z⟩
theorem Src.keys {y : Str} {py : Pos} {e : Expr} {d : Addr} {kvs : List (Str × Value)} {R : Led → Prop} (hi : Ev f en b N e (fun v N₁ => v = .ref d ∧ AtD f N₁ d kvs ∧ R N₁)) :
    Src f b N en (.Name y py) e kvs.length (fun i v _ => ∃ k x t, kvs[i]? = some (k, x) ∧ v = .str k t) [d] R :=
  fun s Q E ok F M q => hi.jd s _ _ ok F M fun v h tk N₁ F₁ M₁ r => by
    obtain ⟨rfl, a, r⟩ := r
    have hD := a.is F₁ M₁
    obtain ⟨ep, hat⟩ := hD.dictAt
    have hlt : d < h.objs.size := hat.lt_size
    have n1 : f.c.L ≠ d := by obtain ⟨_, o, a, _⟩ := a; exact at_apart a F₁ M₁
    refine wpAny_pyIter_dict a.1 hat ?_
    have W := Walks.dictKeys (knd := PySem.strKind PP f.c.w) (A := f.A) rfl h.objs.size d (Nat.ne_of_lt hlt) kvs ep
    refine q _ _ _ N₁ (F₁.push _) (fun p hp => ⟨Heap.get?_push_of_some _ (M₁ p hp).1, (M₁ p hp).2⟩) (itr_of (h := h) (KTurns.ofWalks (P := fun i v => ∃ k x t, kvs[i]? = some (k, x) ∧ v = .str k t) ⟨W.sub, W.frame, fun i s Q E hi st hQ => W.item i s Q E hi st fun v h' tk hP => hQ v h' tk (by obtain ⟨k, x, hk, hv⟩ := hP; obtain ⟨t, rfl⟩ := Value.isStrOf_shape hv; exact ⟨k, x, t, hk, rfl⟩), W.done, W.self⟩ fun i v s Q E st q => letGo_keyiter st.1 q) (fun i h st a ha => ?_) (fun s Q E st q => W.self 0 s Q E st q) ⟨⟨_, Heap.get?_push_size _ rfl, rfl, rfl⟩, hat.push _⟩ F₁ M₁ (fun a ha => ?_) (fun a ha => ?_) (fun a ha => by rcases List.mem_cons.mp ha with rfl | ha; exact .inl List.mem_cons_self; exact .inr ha) fun i h st a ha => ?_) r
    · rw [List.mem_singleton.mp ha]; obtain ⟨⟨o, e, _⟩, _⟩ := st; exact ⟨o, e⟩
    · rw [List.mem_singleton.mp ha]; exact Nat.le_refl _
    · rw [Heap.size_push]
      rcases List.mem_cons.mp ha with rfl | ha
      · exact ⟨Nat.lt_succ_self _, .inl (Nat.le_refl _)⟩
      · rw [List.mem_singleton.mp ha]; exact ⟨Nat.lt_succ_of_lt hlt, .inr (Ne.symm n1)⟩
    · obtain ⟨⟨o, e, _, d1⟩, o2, es, e2, _, d2, _⟩ := st
      rcases List.mem_cons.mp ha with rfl | ha
      · exact nc_of e fun v q => by rw [d1] at q; cases q
      · rw [List.mem_singleton.mp ha]; exact nc_of e2 fun v q => by rw [d2] at q; cases q
end
end Mine
end
section
open PySem PySem.W PyProof.Rows PySem.Calls
set_option Elab.async false
set_option maxRecDepth 100000
set_option maxHeartbeats 4000000
set_option linter.unusedVariables false
namespace Mine
section
variable {f : Fx} {b : Binds} {N : Led} {en : Env}
-- arguments that are texts
theorem Ags.nilS {pos : Pos} : Ags f en b N pos [] (fun vs N' => StrsAre vs [] ∧ N' = N) := Ags.nil.mono fun vs N' r => by obtain ⟨rfl, rfl⟩ := r; exact ⟨.nil, rfl⟩
theorem Ags.consS {pos : Pos} {e : Expr} {es : List Expr} {x : Str} {xs : List Str} (h : EvS f en b N e x) (r : Ags f en b N pos es (fun vs N' => StrsAre vs xs ∧ N' = N)) : Ags f en b N pos (e :: es) (fun vs N' => StrsAre vs (x :: xs) ∧ N' = N) :=
  Ags.cons h fun v N₁ q => by obtain ⟨⟨t, rfl⟩, rfl⟩ := q; exact r.mono fun vs N₂ q => ⟨.cons _ _ q.1, q.2⟩
theorem strs_at {vs : List Value} {xs : List Str} (h : StrsAre vs xs) : ∀ {i : Nat} {x : Str}, xs[i]? = some x → ∃ t, vs[i]? = some (.str x t) := by
  induction h with
  | nil => intro i x e; simp at e
  | cons y u _ ih =>
    intro i x e
    cases i with
    | zero => simp at e; exact ⟨u, by simp [e]⟩
    | succ i => simp at e; simpa using ih e
/-- an item of a written list of texts -/
theorem EvS.item {i : Expr} {es : List Expr} {p1 pos : Pos} {xs : List Str} {k : Nat} {x : Str} (ho : Ags f en b N p1 es (fun vs N' => StrsAre vs xs ∧ N' = N)) (hi : ∀ N', EvI f en b N' i (k : Int)) (hx : xs[k]? = some x) (hz : xs.length ≤ 100000) : EvS f en b N (.Subscript (.List es p1) i pos) x :=
  Ev.sub (R₁ := NewL N fun vs => StrsAre vs xs) (Ev.lst ho fun vs N₁ r => by obtain ⟨r, rfl⟩ := r; exact (jd_newList (by rw [strs_len r]; exact hz)).mono fun v N' ⟨D, its, n, e1, e2, e3, e4⟩ => ⟨D, its, n, e1, e2, e3, e4 ▸ r⟩) fun v N₁ r => by
    obtain ⟨D, its, n, rfl, rfl, off, hs⟩ := r
    obtain ⟨t, ht⟩ := strs_at hs hx
    have hk : k < 100000 := by
      have h1 : k < xs.length := by
        rcases Nat.lt_or_ge k xs.length with c | c
        · exact c
        · rw [List.getElem?_eq_none c] at hx; cases hx
      omega
    have hl : AtL f ((D, W.listOf its n) :: N) D its.toList := ⟨_, .inl List.mem_cons_self, rfl, n, by simp [W.listOf]⟩
    exact (hi _).mono fun u N₂ r => by
      obtain ⟨⟨t2, rfl⟩, rfl⟩ := r
      exact fun s _ _ _ F M q => tail_any (hl.is F M).typeIs slot_list_getitem.lookup (wpAny_getItem_list (hl.is F M) (by omega) (by omega) (by simpa using ht) (q _ _ _ N F (fun p hp => M p (List.mem_cons_of_mem _ hp)) ⟨⟨t, rfl⟩, rfl⟩)) ((hi []).pe.sub _ _)
theorem EvI.lenL {e : Expr} {np pos : Pos} {D : Addr} {vs : List Value} (g : Glob f.c.w (Str.ofString "len") (.builtin "len")) (he : EvV f en b N e (.ref D)) (hl : AtL f N D vs) (hz : vs.length ≤ 100000) (hg : gB en (Str.ofString "len") = true) : EvI f en b N (.Call (.Name (Str.ofString "len") np) [e] [] pos) vs.length :=
  Ev.callN g (Ags.oneV he) (fun ws N₁ r => by obtain ⟨rfl, rfl⟩ := r; exact fun s _ _ _ F M q => PyProof.Rows.len_list (hl.is F M) (by simp; omega) (by simpa using q _ _ _ N₁ F M ⟨⟨_, rfl⟩, rfl⟩)) hg ⟨he.pe, trivial⟩
theorem Ev.ifx {c e g : Expr} {p : Bool} {pos : Pos} {R : Value → Led → Prop} (h : Tr f en b N c p) (h1 : p = true → Ev f en b N e R) (h2 : p = false → Ev f en b N g R) : Ev f en b N (.IfExp c e g pos) R :=
  ⟨pe_if, fun s Q E ok F M q => wpAny_IfExp (h s _ _ ok F M fun v hp tk N' F' M' r => by
    obtain ⟨rfl, rfl⟩ := r
    cases v
    · rw [if_neg (by decide)]; exact (h2 rfl).jd _ _ _ ok F' M' q
    · rw [if_pos rfl]; exact (h1 rfl).jd _ _ _ ok F' M' q)⟩
/-- str of an int -/
theorem EvS.strI {e : Expr} {np pos : Pos} {n : Int} (g : Glob f.c.w (Str.ofString "str") (.type "str")) (he : EvI f en b N e n) (hn : n.natAbs.log2 < 1920) (hg : gB en (Str.ofString "str") = true) : EvS f en b N (.Call (.Name (Str.ofString "str") np) [e] [] pos) (Str.ofString (toString n)) :=
  Ev.callT g (Ags.cons (R' := fun vs N' => (∃ t, vs = [.int n t]) ∧ N' = N) he fun v N₁ r => Ags.nil.mono fun vs N₂ r₂ => by obtain ⟨⟨t, rfl⟩, rfl⟩ := r; obtain ⟨rfl, rfl⟩ := r₂; exact ⟨⟨t, rfl⟩, rfl⟩)
    (fun vs N₁ r => by obtain ⟨⟨t, rfl⟩, rfl⟩ := r; exact fun s _ _ _ F M q => P.str_of_int hn (q _ _ _ _ F M ⟨⟨_, rfl⟩, rfl⟩)) hg ⟨he.pe, trivial⟩
theorem EvI.abs {e : Expr} {np pos : Pos} {n : Int} (g : Glob f.c.w (Str.ofString "abs") (.builtin "abs")) (he : EvI f en b N e n) (hg : gB en (Str.ofString "abs") = true) : EvI f en b N (.Call (.Name (Str.ofString "abs") np) [e] [] pos) (if n < 0 then -n else n) :=
  Ev.callN g (Ags.cons (R' := fun vs N' => (∃ t, vs = [.int n t]) ∧ N' = N) he fun v N₁ r => Ags.nil.mono fun vs N₂ r₂ => by obtain ⟨⟨t, rfl⟩, rfl⟩ := r; obtain ⟨rfl, rfl⟩ := r₂; exact ⟨⟨t, rfl⟩, rfl⟩)
    (fun vs N₁ r => by obtain ⟨⟨t, rfl⟩, rfl⟩ := r; exact fun s _ _ _ F M q => PyProof.Rows.call_abs_int fun u tk => q _ _ _ _ F M ⟨⟨_, rfl⟩, rfl⟩) hg ⟨he.pe, trivial⟩
/-- list + list -/
theorem Ev.addL {l r : Expr} {pos : Pos} {R₁ : Value → Led → Prop} {xs : List Value} {P : List Value → Prop} {N₀ : Led} (hl : Ev f en b N l R₁) (hr : ∀ v N₁, R₁ v N₁ → ∃ l1, v = .ref l1 ∧ Ev f en b N₁ r (fun u N₂ => ∃ l2 ws, u = .ref l2 ∧ AtL f N₂ l1 xs ∧ AtL f N₂ l2 ws ∧ xs.length + ws.length ≤ 100000 ∧ P ws ∧ ∀ p ∈ N₀, p ∈ N₂)) :
    Ev f en b N (.BinOp l .Add r pos) (NewL N₀ fun vs => ∃ ws, vs = xs ++ ws ∧ P ws) :=
  Ev.bin hl fun v N₁ r₁ => by
    obtain ⟨l1, rfl, h⟩ := hr v N₁ r₁
    exact h.mono fun u N₂ r₂ => by
      obtain ⟨l2, ws, rfl, a1, a2, hz, hp, sub⟩ := r₂
      exact fun s _ _ _ F M q => PyProof.Rows.add_lists (hsz := Nat.le_trans hz (by rw [sizeLine_eq]; exact Nat.le_of_ble_eq_true rfl)) F M (a1.is F M) (a2.is F M) fun h' F' M' => q _ _ _ ((s.heap.objs.size, W.listOf (xs ++ ws).toArray 0) :: N₀) F' (fun p hp => M' p (by
        rcases List.mem_cons.mp hp with rfl | hp
        · exact List.mem_cons_self
        · exact List.mem_cons_of_mem _ (sub p hp))) ⟨_, _, _, rfl, rfl, fun p hp => Nat.ne_of_lt (Heap.lt_size (M p (sub p hp)).1), ws, rfl, hp⟩
/-- list[lo:hi] -/
theorem Ev.sliceL2 {o : Expr} {lo hi : Option Expr} {sp pos : Pos} {D : Addr} {vs : List Value} {i j : Option Int} {vl vu : Value} (ho : EvV f en b N o (.ref D)) (hl : AtL f N D vs) (hz : vs.length ≤ 100000)
    (h1 : Jd f b N (evalPart lo en) (fun v N' => N' = N ∧ IsPart v i)) (h2 : Jd f b N (evalPart hi en) (fun v N' => N' = N ∧ IsPart v j))
    (hs : ∀ a c : Value, subscripted (.Slice lo hi none sp) false a c = operate [c, a] (getItem a c)) (ht : ∀ r a, letTemporaryGo o (.ref a) r = pure ()) :
    Ev f en b N (.Subscript o (.Slice lo hi none sp) pos) (NewL N fun ws => ws = (slicePick vs.toArray i j none).toList) :=
  ⟨pe_subs, fun s Q E ok F M q => Subscript_ (ho.jd s _ _ ok F M fun v h tk N₁ F₁ M₁ r₁ => by
    obtain ⟨rfl, rfl⟩ := r₁
    refine wpAny_Slice ?_
    refine h1 _ _ _ ok F₁ M₁ fun v h tk N₂ F₂ M₂ r => ?_
    obtain ⟨rfl, p1⟩ := r
    refine h2 _ _ _ ok F₂ M₂ fun v h tk N₃ F₃ M₃ r => ?_
    obtain ⟨rfl, p2⟩ := r
    refine evalPart_none_step ?_
    exact slice_list (hsz := by rw [List.size_toArray]; exact Nat.le_trans hz (by rw [sizeLine_eq]; exact Nat.le_of_ble_eq_true rfl)) F₃ M₃ (hl.is F₃ M₃) p1 p2 (fun h' F' M' => q _ _ _ _ F' M' ⟨_, _, 0, rfl, rfl, fun p hp => Nat.ne_of_lt (Nat.lt_succ_of_lt (Heap.lt_size (M₃ p hp).1)), rfl⟩) (hs _ _) (fun r => ht r _))⟩
end
end Mine
end
section
open PySem PySem.W PyProof.Rows PySem.Calls
set_option Elab.async false
set_option maxRecDepth 100000
set_option maxHeartbeats 4000000
set_option linter.unusedVariables false
namespace Mine
section
variable {prog : Program} {w : World} {A : Around} {E : Value → Shared → Prop} {s : Shared} {h₀ : Heap} {L D : Addr} {m : Str → Option Value} {news news' : Led}
theorem insert_K {its : Array Value} {n : Nat} {y : Value} {t : Tok} {Q : Value → Shared → Prop} (F : Fr h₀ L s.heap m) (N : News h₀ L s.heap news) (U : Upd D (W.listOf its n) (W.listOf (#[y] ++ its) (n + 1)) news news') (hz : its.size ≤ sizeLine)
    (h : ∀ h', Fr h₀ L h' m → News h₀ L h' news' → Q .none { s with heap := h' }) : wpAny (model prog w) A (call (.builtin "list.insert") [.ref D, .int 0 t, y]) Q E s := by
  obtain ⟨pre, post, rfl, rfl, a, c⟩ := U.split
  have z := N (D, W.listOf its n) (by simp)
  obtain ⟨F', N'⟩ := news_upd (f := Obj.mapSeq fun xs => have k := if (0 : Int) < 0 then ((0 : Int) + (xs.size : Int)).toNat else min (0 : Int).toNat xs.size; (xs.extract 0 k).push y ++ xs.extract k) (o' := W.listOf (#[y] ++ its) (n + 1)) F N a c (by
    have e : (its.extract 0 (min 0 its.size)).push y ++ its.extract (min 0 its.size) = #[y] ++ its := by
      apply Array.ext'
      simp
    show ({ cls := _, dict := _, data := Data.seq ((its.extract 0 (min 0 its.size)).push y ++ its.extract (min 0 its.size)) (if ((((its.extract 0 (min 0 its.size)).push y ++ its.extract (min 0 its.size)).size == its.size) = true) then n else n + 1), slots := _ } : Obj) = _
    rw [e, if_neg (by simp)]) rfl
  exact call_meets PySem.F.slot_list_insert ⟨_, z.1, rfl⟩ PySem.F.entry_list_insert (PySem.F.args_list_insert_3 _ _ _) (PySem.AutoListH.list_insert_list_int_val_1 D its n 0 t y (by decide +kernel) hz) ⟨z.1, h _ F' N'⟩
end
section
variable {f : Fx} {b : Binds} {N : Led} {en : Env}
/-- a while, by what goes down -/
def TurnW (K : Flow → Binds → Led → Prop) (J : Binds → Led → Prop) : Flow → Binds → Led → Prop
  | .ret v, b, N => K (.ret v) b N
  | .brk, b, N => K .next b N
  | _, b, N => J b N
theorem Ex.whileS {test : Expr} {body : List Stmt} {pos : Pos} {K : Flow → Binds → Led → Prop} (J : Nat → Binds → Led → Prop) (n : Nat) (j : J n b N)
    (turn : ∀ n b' N', J n b' N' → ∃ p, Tr f f.env b' N' test p ∧ (p = true → Exs f b' N' body (TurnW K fun b2 N2 => ∃ m, m < n ∧ J m b2 N2)) ∧ (p = false → K .next b' N')) : Ex f b N (.While test body [] pos) K :=
  fun s Q E ok F M q => by
    refine wpAny_While (codeAny_whileLoop (fun n s' => ∃ b' N' h tk, s' = { s with heap := h, toks := tk } ∧ f.F h b' ∧ f.N h N' ∧ J n b' N') ?_ n ⟨b, N, s.heap, s.toks, rfl, F, M, j⟩)
    rintro n s' ⟨b', N', h, tk, rfl, F', M', j'⟩
    obtain ⟨p, ht, h1, h2⟩ := turn n b' N' j'
    refine ht _ _ _ ok F' M' fun v hp tk₁ N₁ F₁ M₁ r => ?_
    obtain ⟨rfl, rfl⟩ := r
    cases v
    · rw [if_neg (by decide)]
      exact wpAny_execs_nil (q _ _ _ _ _ F₁ M₁ (h2 rfl))
    · rw [if_pos rfl]
      refine h1 rfl _ _ _ ok F₁ M₁ fun fl b2 h₂ tk₂ N₂ F₂ M₂ k => ?_
      cases fl
      · obtain ⟨m, lt, j2⟩ := k; exact ⟨m, lt, b2, N₂, h₂, tk₂, rfl, F₂, M₂, j2⟩
      · exact q _ _ _ _ _ F₂ M₂ k
      · obtain ⟨m, lt, j2⟩ := k; exact ⟨m, lt, b2, N₂, h₂, tk₂, rfl, F₂, M₂, j2⟩
      · exact q _ _ _ _ _ F₂ M₂ k
/-- insert at 0, as a statement -/
theorem Ex.insert0 {o e0 e : Expr} {apos pos spos : Pos} {D : Addr} {its : Array Value} {n : Nat} {y : Value} {N₂ : Led} {K : Flow → Binds → Led → Prop} (ho : EvV f f.env b N o (.ref D)) (hm : (D, W.listOf its n) ∈ N) (h0 : EvI f f.env b N e0 0) (he : EvV f f.env b N e y) (hz : its.size ≤ 100000)
    (U : Upd D (W.listOf its n) (W.listOf (#[y] ++ its) (n + 1)) N N₂) (k : K .next b N₂) (hf : MethOk f.env o (Str.ofString "insert") apos [e0, e] pos) (hi : interactive f.env = false) (hw : swapsWith (.Call (.Attribute o (Str.ofString "insert") apos) [e0, e] [] pos) none spos.line f.env = pure false) :
    Ex f b N (.Expr (.Call (.Attribute o (Str.ofString "insert") apos) [e0, e] [] pos) spos) K :=
  fun s _ _ ok F M q => wpAny_Expr_any ((Ev.meth (id := "list.insert") (R := Is N (.ref D)) (RA := fun v vs N' => (∃ t, v = .ref D ∧ vs = [.int 0 t, y]) ∧ N' = N) (R' := fun _ N₂ => K .next b N₂) ho
    (fun v N₁ pl r => by obtain ⟨rfl, rfl⟩ := r; exact fun s _ _ _ F M q => listMethod_K M hm PySem.F.slot_list_insert PySem.F.type_list_insert (q _ _ _ _ F M ⟨rfl, rfl⟩))
    (fun v N₁ r => by
      obtain ⟨rfl, rfl⟩ := r
      exact Ags.cons h0 (fun u N₁ r => by
        obtain ⟨⟨t, rfl⟩, rfl⟩ := r
        exact (Ags.oneV he).mono fun vs N₂ r₂ => by obtain ⟨rfl, rfl⟩ := r₂; exact ⟨⟨t, rfl, rfl⟩, rfl⟩))
    (fun v vs N₁ r => by
      obtain ⟨⟨t, rfl, rfl⟩, rfl⟩ := r
      exact fun s _ _ _ F M q => insert_K F M U (Nat.le_trans hz (by rw [sizeLine_eq]; exact Nat.le_of_ble_eq_true rfl)) fun h' F' M' => q _ _ _ _ F' M' k) (show PEs [_, _] from ⟨h0.pe, he.pe, trivial⟩) hf).jd s _ _ ok F M fun v h tk N' F' M' r => q _ _ _ _ _ F' M' r) hi hw
end
end Mine
end
section
open PySem PySem.W PyProof.Rows PySem.Calls
set_option Elab.async false
set_option maxRecDepth 100000
set_option maxHeartbeats 4000000
set_option linter.unusedVariables false
namespace Mine
/-- how a body with cells is left -/
def RetC (news : Led) (R : Value → Led → Prop) : Flow → Binds → Led → Prop := fun fl _ N' => ∃ v nw, fl = .ret v ∧ (∀ p ∈ news, p ∈ N') ∧ (∀ p ∈ nw, p ∈ N') ∧ Apart nw news ∧ R v nw
theorem RetC.mk {news : Led} {R : Value → Led → Prop} {v : Value} {b : Binds} {N : Led} (h : ∀ p ∈ news, p ∈ N) (r : R v []) : RetC news R (.ret v) b N := ⟨v, [], rfl, h, (fun _ h => nomatch h), (fun _ h => nomatch h), r⟩
theorem enterC {w : World} {dz : Nat} {rd : Led} {vs : List Value} {R : Value → Led → Prop} {name qual : Str} {params : Arguments} {body : List Stmt} {scope : Scope} {dV kV doc pm cdv ct oc : Value} {an od : Option Addr} {osl : Array (Option Value)} {f : Addr} (bl bL : List (Str × Value))
    (ho : (Mine.hd.heap_1 (w).params).lookup f = some ⟨oc, od, .func (fnOf name qual params body scope dV kV doc pm an cdv ct), osl⟩) (hcd : codeIn (Mine.hd.heap_1 (w).params) cdv qual = true)
    (hbind : ∀ s, (Mine.hd.heap_1 (w).params).In s.heap → BindsTo s (fnOf name qual params body scope dV kV doc pm an cdv ct) ⟨vs, []⟩ bl.reverse) (hkind : (bl.reverse.all fun y => scope.names.lookup y.1 == some .local || scope.names.lookup y.1 == some .cell) = true)
    (hnd : ((cellsFrom 0 scope.names []).map (·.1)).Nodup)
    (hco : scope.isCoroutine = false) (hgen : scope.isGenerator = false) (hk : scope.kind = .function)
    (hL : ∀ L y, bindL (envOfC qual scope L f cdv).kindOf bl.reverse (fun _ => none) y = bget (ofB bL) y)
    (h : ∀ (c : Cx) (cells news : Led), c.w = w → CellsAre (bindC (envOfC qual scope c.L f cdv).kindOf bl.reverse fun _ => none) (cellsFrom (c.L + 1) scope.names []) cells → (∀ p ∈ rd, p ∈ news ∨ c.g.get? p.1 = some p.2) → (∀ p ∈ news, p.1 < c.L) →
      Exs ⟨c, dz, scope, cellsFrom (c.L + 1) scope.names []⟩ (ofB bL) (cells ++ news) body (RetC news R)) : Pure w f (dz + 1) rd vs R := by
  intro mean mg mb dp un gd env outer A₀ base h₀ L m s Q E news B X T hf hke h1 h2 F N hrd ret
  refine wpAny_call (code_defC B F X N T rfl hf hke ho hcd (by show dp < recursionLimit; omega) (hbind s (X.keeps F.keep)) hkind hnd (fun g L' h₁ tk cells FG F' N' Y B' X' T' lo => ?_) hco hgen hk)
  refine wpAny_mono (h ⟨w, mean, mg, mb, dp + 1, un + 3, gd, env :: outer, _, base, g, L', qual, cdv, f⟩ cells news rfl Y (fun p hp => (hrd p hp).imp id fun m => FG.keep _ _ m) lo _ (fun fl s' => ∃ r, fl = .ret r ∧ LeaveK h₀ L m g (fun r s' => match r with | .ok (.ret v) => Q v s' | .ok _ => False | .error e => E e s') r s') never ⟨B', X', T', by show dp + 1 + dz < _; omega, by show un + 3 + 8 * dz + 8 < _; omega⟩ (frw F' (hL L')) N' ?_) (fun fl s' r => ?_) fun _ _ x => x.elim
  · rintro fl b' h₂ tk₂ nw F₂ N₂ ⟨v, nw', hv, s1, s2, ap, r⟩
    refine ⟨v, hv, leaveK_ F₂ (news' := nw' ++ news) (fun p hp => ?_) fun kF kN => ret _ _ _ nw' kF kN ap r⟩
    rcases List.mem_append.mp hp with hp | hp
    · exact N₂ p (s2 p hp)
    · exact N₂ p (s1 p hp)
  · obtain ⟨r, rfl, hq⟩ := r
    exact hq
section
variable {f : Fx} {b : Binds} {N : Led} {en : Env}
/-- a name that is a cell, stored -/
theorem Exs.asCell {x : Str} {e : Expr} {px pos : Pos} {rest : List Stmt} {K : Flow → Binds → Led → Prop} {R : Value → Led → Prop} {c : Addr} (hc : f.cl.lookup x = some c) (h : Ev f f.env b N e R) (k : ∀ v N', R v N' → ∃ o v₀ g, UpdF c o N' g ∧ o.data = .cell v₀ ∧ ∀ o', o'.data = .cell (some v) → Exs f b (g o') rest K)
    (hs : swapsWith e (some (.Name x px)) pos.line f.env = pure false) (l : lB f.cs x .cell = true) : Exs f b N (.Assign [.Name x px] e pos :: rest) K :=
  Exs.cons fun s _ _ ok F N' q => wpAny_Assign_Name (h.jd s _ _ ok F N' fun v hp tk N'' F' M' r => by
    obtain ⟨o, v₀, g, U, hd, kk⟩ := k v N'' r
    exact storeX_C F' M' hc U hd (fun h' o' F₂ M₂ hd' => q .next _ _ _ (g o') F₂ M₂ (kk o' hd')) (lB_ok l).1 (lB_ok l).2.1) hs
/-- what a turn of a loop is run in -/
structure InLoop (Sa : List Addr) (X : Led) (W : List Addr) (N' : Led) : Prop where
  src : ∀ p ∈ X, p.1 ∈ W ∨ p.1 ∈ Sa
  has : ∀ a ∈ W, ∃ o, (a, o) ∈ X
  off : ∀ p ∈ N', p.1 ∉ W
  noc : ∀ p ∈ X, ∀ q ∈ N', (∃ v, q.2.data = .cell v) → p.1 ≠ q.1
theorem InLoop.ne {Sa : List Addr} {X : Led} {W : List Addr} {N' : Led} (L : InLoop Sa X W N') {q : Addr × Obj} (hq : q ∈ N') (hs : q.1 ∉ Sa) : ∀ p ∈ X, p.1 ≠ q.1 := fun p hp e => (L.src p hp).elim (fun h => L.off q hq (e ▸ h)) fun h => hs (e ▸ h)
theorem upd_app {c : Addr} {o o' : Obj} {N' N₂ : Led} : ∀ {X : Led}, (∀ p ∈ X, p.1 ≠ c) → Upd c o o' N' N₂ → Upd c o o' (X ++ N') (X ++ N₂)
  | [], _, U => U
  | p :: X, h, U => .tail (h p List.mem_cons_self) (upd_app (fun q hq => h q (List.mem_cons_of_mem _ hq)) U)
theorem updF_app {c : Addr} {o : Obj} {N' : Led} {g : Obj → Led} : ∀ {X : Led}, (∀ p ∈ X, p.1 ≠ c) → UpdF c o N' g → UpdF c o (X ++ N') (fun o' => X ++ g o')
  | [], _, U => U
  | p :: X, h, U => .tail (h p List.mem_cons_self) (updF_app (fun q hq => h q (List.mem_cons_of_mem _ hq)) U)
def TurnI (K : Flow → Binds → Led → Prop) (X : Led) (W : List Addr) (Jn : Binds → Led → Prop) : Flow → Binds → Led → Prop
  | .ret v, b, N => K (.ret v) b N
  | .brk, b, N => K .next b N
  | _, b, N => Kept X W (Jn b) N
theorem Ex.forI {tg iter : Expr} {body : List Stmt} {pos : Pos} {K : Flow → Binds → Led → Prop} {n : Nat} {P : Nat → Value → Heap → Prop} {Sa : List Addr} (J : Nat → Binds → Led → Prop)
    (src : Src f b N f.env tg iter n P Sa (J 0 b))
    (turn : ∀ i v b' N' X W (s : Shared) (Q : Flow → Shared → Prop) (E : Value → Shared → Prop), i < n → P i v s.heap → InLoop Sa X W N' → J i b' N' → f.Ok → f.F s.heap b' → f.N s.heap (X ++ N') →
      (∀ fl b2 h tk N₂, f.F h b2 → f.N h N₂ → TurnI K X W (J (i + 1)) fl b2 N₂ → Q fl { s with heap := h, toks := tk }) → f.Wp (assign tg f.env v) (fun _ s₂ => f.Wp (execs body f.env) Q E s₂) E s)
    (done : ∀ b' N', J n b' N' → K .next b' N') (hf : ∀ x, foldedSetIterable iter f.env x = pure x) : Ex f b N (.For tg iter body [] pos) K := by
  intro s Q E ok F M q
  refine wpAny_mono (For_turns (E := fun _ _ => False) (Q := Q) F (src _ _ _ ok F M fun it h tk N₁ F₁ M₁ I j0 => ?_) hf PassesOwn.never) (fun _ _ q => q) fun _ _ e => e.elim
  obtain ⟨I, fp, wr, Md, St, rfl, W, hIo, hself, hst, hfp, hLf, hwr, hnw, hnc⟩ := I
  refine ⟨I, fp, wr, n, P, Md, St, bget b, N₁, fun i m nw => ∃ b', m = bget b' ∧ J i b' nw, rfl, W, hLf, hwr, hnw, hst, F₁, M₁, ⟨b, rfl, j0⟩, ?_, ?_⟩
  · rintro i v m₁ N' h₁ tk₁ own hi hP ⟨b', rfl, hJ⟩ offw hown hget hall st₁ F₂ M₂
    refine turn i v b' N' own wr _ _ _ hi hP ⟨fun p hp => (hnc _ _ st₁ p.1 (hown p hp)).1, fun a ha => ?_, offw, fun p hp q hq ⟨v, hv⟩ e => ?_⟩ hJ ok F₂ M₂ fun fl b2 h₃ tk₃ N₂ F₃ M₃ k => ?_
    · obtain ⟨o, ho⟩ := hIo _ _ st₁ a ha
      exact ⟨o, hall a (W.sub a ha) (hwr a ha) o ho⟩
    · have g1 := (M₂ q (List.mem_append_right _ hq)).1
      rw [← e] at g1
      exact (hnc _ _ st₁ p.1 (hown p hp)).2 _ g1 v hv
    · have key : Kept own wr (J (i + 1) b2) N₂ → LoopStepU f.c.g f.env.locals wr own (fun m nw => ∃ b', m = bget b' ∧ J (i + 1) b' nw) _ .next { s with heap := h₃, toks := tk₃ } := fun ⟨N'', k1, k2, k3, k4⟩ =>
        ⟨rfl, h₃, tk₃, bget b2, N'', rfl, F₃, fun p hp => (List.mem_append.mp hp).elim (fun hp => M₃ p (k1 p hp)) fun hp => M₃ p (k2 p hp), k3, b2, rfl, k4⟩
      cases fl
      · exact key k
      · exact q _ _ _ _ _ F₃ M₃ k
      · exact key k
      · exact q _ _ _ _ _ F₃ M₃ k
  · rintro h' tk' m' N' F' M' offw ⟨b', rfl, hJ⟩
    exact q _ _ _ _ _ F' M' (done b' N' hJ)
/-- a loop whose name is a cell -/
theorem Ex.forC {x : Str} {px pos : Pos} {iter : Expr} {body : List Stmt} {K : Flow → Binds → Led → Prop} {n : Nat} {P : Nat → Value → Heap → Prop} {Sa : List Addr} {c : Addr} (J : Nat → Binds → Led → Prop)
    (src : Src f b N f.env (.Name x px) iter n P Sa (J 0 b)) (hc : f.cl.lookup x = some c)
    (turn : ∀ i v hp b' N' X W, i < n → P i v hp → InLoop Sa X W N' → J i b' N' → ∃ o v₀ g, UpdF c o (X ++ N') g ∧ o.data = .cell v₀ ∧ ∀ o', o'.data = .cell (some v) → Exs f b' (g o') body (TurnI K X W (J (i + 1))))
    (done : ∀ b' N', J n b' N' → K .next b' N') (hf : ∀ x, foldedSetIterable iter f.env x = pure x) (l : lB f.cs x .cell = true) : Ex f b N (.For (.Name x px) iter body [] pos) K :=
  Ex.forI J src (fun i v b' N' X W s Q E hi hP L hJ ok F M q => by
    obtain ⟨o, v₀, g, U, hd, kk⟩ := turn i v _ b' N' X W hi hP L hJ
    exact assign_Name (storeX_C F M hc U hd (fun h' o' F₂ M₂ hd' => kk o' hd' _ _ _ ok F₂ M₂ fun fl b2 h tk N₂ F₃ M₃ k => q fl b2 h tk N₂ F₃ M₃ k) (lB_ok l).1 (lB_ok l).2.1)) done hf
/-- a loop of two names -/
theorem Ex.forP {x y : Str} {px py tp pos : Pos} {k : Nat} {iter : Expr} {body : List Stmt} {K : Flow → Binds → Led → Prop} {n : Nat} {P : Nat → Value → Heap → Prop} {Sa : List Addr} {VP : Nat → Value → Value → Prop} (J : Nat → Binds → Led → Prop)
    (src : Src f b N f.env (.Tuple [.Name x px, .Name y py] k tp) iter n P Sa (J 0 b)) (hP : ∀ i v hp, P i v hp → ∃ T u₁ u₂, v = .ref T ∧ hp.IsTuple T #[u₁, u₂] ∧ VP i u₁ u₂)
    (turn : ∀ i u₁ u₂ b' N' X W, i < n → VP i u₁ u₂ → InLoop Sa X W N' → J i b' N' → Exs f ((y, some u₂) :: (x, some u₁) :: b') (X ++ N') body (TurnI K X W (J (i + 1))))
    (done : ∀ b' N', J n b' N' → K .next b' N') (hf : ∀ x, foldedSetIterable iter f.env x = pure x) (l1 : lB f.cs x .local = true) (l2 : lB f.cs y .local = true) : Ex f b N (.For (.Tuple [.Name x px, .Name y py] k tp) iter body [] pos) K :=
  Ex.forI J src (fun i v b' N' X W s Q E hi hPv L hJ ok F M q => by
    obtain ⟨T, u₁, u₂, rfl, hT, hv⟩ := hP i v _ hPv
    refine wpAny_assign_Tuple rfl hT rfl rfl fun h₁ he₁ => ?_
    have hF₁ : f.F h₁ b' := ⟨F.ns.at' fun o e => he₁ _ o (Nat.ne_of_lt F.ns.lt) e, fun c o e => he₁ c o (Nat.ne_of_lt (Heap.lt_size (F.keep _ _ e))) (F.keep _ _ e), F.above⟩
    have hM₁ : f.N h₁ (X ++ N') := fun p hp => ⟨he₁ _ _ (Nat.ne_of_lt (Heap.lt_size (M p hp).1)) (M p hp).1, (M p hp).2⟩
    show f.Wp (assignInOrder [assign (.Name x px) f.env, assign (.Name y py) f.env] [u₁, u₂]) _ _ _
    refine assignInOrder_cons (assign_Name (storeX_L hF₁ hM₁ (fun h₂ F₂ M₂ => ?_) (lB_ok l1).1 (lB_ok l1).2.1))
    refine assignInOrder_cons (assign_Name (storeX_L (put_frw F₂) M₂ (fun h₃ F₃ M₃ => ?_) (lB_ok l2).1 (lB_ok l2).2.1))
    exact assignInOrder_nil (turn i u₁ u₂ b' N' X W hi hv L hJ _ _ _ ok (put_frw F₃) M₃ fun fl b2 h tk N₂ F₄ M₄ kk => q fl b2 h tk N₂ F₄ M₄ kk)) done hf
end
end Mine
end
section
open PySem PySem.W PyProof.Rows PySem.Calls
set_option Elab.async false
set_option maxRecDepth 100000
set_option maxHeartbeats 4000000
set_option linter.unusedVariables false
namespace Mine
/-- two lists of the same length, item by item -/
inductive All2 {α β : Type} (R : α → β → Prop) : List α → List β → Prop
  | nil : All2 R [] []
  | cons {a b as bs} : R a b → All2 R as bs → All2 R (a :: as) (b :: bs)
section
variable {α β : Type} {R : α → β → Prop}
theorem All2.len {as : List α} {bs : List β} (h : All2 R as bs) : as.length = bs.length := by
  induction h with
  | nil => rfl
  | cons _ _ ih => simp [ih]
theorem All2.app {as as' : List α} {bs bs' : List β} (h : All2 R as bs) (h' : All2 R as' bs') : All2 R (as ++ as') (bs ++ bs') := by
  induction h with
  | nil => exact h'
  | cons r _ ih => exact .cons r ih
theorem All2.get {as : List α} {bs : List β} (h : All2 R as bs) : ∀ {i : Nat} {a : α}, as[i]? = some a → ∃ b, bs[i]? = some b ∧ R a b := by
  induction h with
  | nil => intro i a e; simp at e
  | cons r _ ih =>
    intro i a e
    cases i with
    | zero => simp at e; subst e; exact ⟨_, rfl, r⟩
    | succ i => simp at e; simpa using ih e
theorem All2.get' {as : List α} {bs : List β} (h : All2 R as bs) : ∀ {i : Nat} {b : β}, bs[i]? = some b → ∃ a, as[i]? = some a ∧ R a b := by
  induction h with
  | nil => intro i a e; simp at e
  | cons r _ ih =>
    intro i a e
    cases i with
    | zero => simp at e; subst e; exact ⟨_, rfl, r⟩
    | succ i => simp at e; simpa using ih e
theorem All2.mem {as : List α} {bs : List β} (h : All2 R as bs) {a : α} (ha : a ∈ as) : ∃ b, b ∈ bs ∧ R a b := by
  obtain ⟨i, hi⟩ := List.getElem?_of_mem ha
  obtain ⟨b, hb, r⟩ := h.get hi
  exact ⟨b, List.mem_of_getElem? hb, r⟩
theorem All2.mono {R' : α → β → Prop} {as : List α} {bs : List β} (h : All2 R as bs) (k : ∀ a b, R a b → R' a b) : All2 R' as bs := by
  induction h with
  | nil => exact .nil
  | cons r _ ih => exact .cons (k _ _ r) ih
end
theorem all2_strs {vs : List Value} {xs : List Str} (h : All2 (fun v x => ∃ t, v = .str x t) vs xs) : StrsAre vs xs := by
  induction h with
  | nil => exact .nil
  | cons r _ ih => obtain ⟨t, rfl⟩ := r; exact .cons _ _ ih
theorem strs_all2 {vs : List Value} {xs : List Str} (h : StrsAre vs xs) : All2 (fun v x => ∃ t, v = .str x t) vs xs := by
  induction h with
  | nil => exact .nil
  | cons x u _ ih => exact .cons ⟨u, rfl⟩ ih
theorem take_filt {β : Type} {rows : List β} {i : Nat} {r : β} (t : β → Bool) (h : rows[i]? = some r) : (rows.take (i + 1)).filter t = (rows.take i).filter t ++ if t r then [r] else [] := by
  rw [List.take_add_one, h, List.filter_append]
  cases ht : t r <;> simp [ht]
section
variable {f : Fx} {b : Binds} {N : Led} {en : Env}
open PyProof.Rows.LCg (NsObj)
/-- the turns of a filter (or of a map, where t is always so) -/
theorem filt_turn {β : Type} {elt c : Expr} {ce : Addr → Env} {n : Nat} {VP : Nat → (Str → Option Value) → Prop} {N₁ : Led} {RV : Value → β → Prop} {rows : List β} (t : β → Bool) (hn : n = rows.length)
    (el : ∀ i r m X W C oC, rows[i]? = some r → VP i m → InTurn X W C oC m N₁ → t r = true → Jd f b (X ++ N₁) (eval elt (ce C)) (fun v N₃ => (∀ p ∈ X ++ N₁, p ∈ N₃) ∧ RV v r))
    (te : ∀ i r m X W C oC, rows[i]? = some r → VP i m → InTurn X W C oC m N₁ → Tr f (ce C) b (X ++ N₁) c (t r)) :
    ∀ i ys N' X W C oC m, i < n → VP i m → InTurn X W C oC m N' → (N' = N₁ ∧ All2 RV ys ((rows.take i).filter t)) →
      CTurn f b (X ++ N') [c] elt (ce C) (Kept X W fun N'' => N'' = N₁ ∧ All2 RV ys ((rows.take (i + 1)).filter t)) (fun y => Kept X W fun N'' => N'' = N₁ ∧ All2 RV (ys ++ [y]) ((rows.take (i + 1)).filter t)) := by
  rintro i ys N' X W C oC m hi hV T ⟨rfl, hA⟩
  obtain ⟨r, hr⟩ : ∃ r, rows[i]? = some r := ⟨rows[i]'(hn ▸ hi), List.getElem?_eq_getElem _⟩
  have hf := take_filt t hr
  refine CTurn.one (te i r m X W C oC hr hV T) (fun h0 => ?_) fun h1 => ?_
  · refine ⟨N', fun p hp => List.mem_append_left _ hp, fun p hp => List.mem_append_right _ hp, T.off, rfl, ?_⟩
    rw [hf, h0]; simpa using hA
  · refine (el i r m X W C oC hr hV T h1).mono fun v N₃ q => ⟨N', fun p hp => q.1 p (List.mem_append_left _ hp), fun p hp => q.1 p (List.mem_append_right _ hp), T.off, rfl, ?_⟩
    rw [hf, h1]
    exact hA.app (.cons q.2 .nil)
theorem map_turn {β : Type} {elt : Expr} {ce : Addr → Env} {n : Nat} {VP : Nat → (Str → Option Value) → Prop} {N₁ : Led} {RV : Value → β → Prop} {rows : List β} (hn : n = rows.length)
    (el : ∀ i r m X W C oC, rows[i]? = some r → VP i m → InTurn X W C oC m N₁ → Jd f b (X ++ N₁) (eval elt (ce C)) (fun v N₃ => (∀ p ∈ X ++ N₁, p ∈ N₃) ∧ RV v r)) :
    ∀ i ys N' X W C oC m, i < n → VP i m → InTurn X W C oC m N' → (N' = N₁ ∧ All2 RV ys (rows.take i)) →
      CTurn f b (X ++ N') [] elt (ce C) (Kept X W fun N'' => N'' = N₁ ∧ All2 RV ys (rows.take (i + 1))) (fun y => Kept X W fun N'' => N'' = N₁ ∧ All2 RV (ys ++ [y]) (rows.take (i + 1))) := by
  rintro i ys N' X W C oC m hi hV T ⟨rfl, hA⟩
  obtain ⟨r, hr⟩ : ∃ r, rows[i]? = some r := ⟨rows[i]'(hn ▸ hi), List.getElem?_eq_getElem _⟩
  refine CTurn.none ((el i r m X W C oC hr hV T).mono fun v N₃ q => ⟨N', fun p hp => q.1 p (List.mem_append_left _ hp), fun p hp => q.1 p (List.mem_append_right _ hp), T.off, rfl, ?_⟩)
  rw [List.take_add_one, hr]
  exact hA.app (.cons q.2 .nil)
-- comparisons of lists and tuples
theorem un_lt (ok : f.Ok) : f.A.units < cLine := by have := ok.h2; show f.c.un < _; omega
theorem jd_eqNil {D1 D2 : Addr} {vs : List Value} (h1 : AtL f N D1 vs) (h2 : AtL f N D2 []) : Jd f b N (compareOp .Eq (.ref D1) (.ref D2)) (Is N (.bool vs.isEmpty)) := fun s _ _ ok F M q => by
  cases vs with
  | nil => exact SeqAt.eq_listAt (e := fun _ => true) (h1.is F M) (h2.is F M) rfl (un_lt ok) (fun j h _ => by simp at h) (q _ _ _ _ F M ⟨rfl, rfl⟩)
  | cons v r => exact SeqAt.eq_list_lengthsAt (h1.is F M) (h2.is F M) (by simp) (un_lt ok) (q _ _ _ _ F M ⟨rfl, rfl⟩)
theorem strs_eqs {vs ws : List Value} {xs ys : List Str} (h : StrsAre vs xs) (h' : StrsAre ws ys) (hl : xs.length = ys.length) : (List.range vs.length).all (fun j => (xs[j]?).getD Str.empty == (ys[j]?).getD Str.empty) = (xs == ys) := by
  have e1 := strs_len h
  rw [e1, Bool.eq_iff_iff, List.all_eq_true, beq_iff_eq]
  constructor
  · intro k
    refine List.ext_getElem hl fun i h1 h2 => ?_
    have := k i (List.mem_range.mpr h1)
    rw [List.getElem?_eq_getElem h1, List.getElem?_eq_getElem h2] at this
    simpa using this
  · rintro rfl j _; simp
theorem strs_j {A : Around} {s : Shared} {vs ws : List Value} {xs ys : List Str} (h : StrsAre vs xs) (h' : StrsAre ws ys) : ∀ j (h1 : j < vs.toArray.size) (h2 : j < ws.toArray.size), SeqAt.EqAt A s vs.toArray[j] ws.toArray[j] ((xs[j]?).getD Str.empty == (ys[j]?).getD Str.empty) := by
  intro j h1 h2
  have h1' : j < vs.length := by simpa using h1
  have h2' : j < ws.length := by simpa using h2
  obtain ⟨x, t, e1, e2⟩ := strs_get h (List.getElem?_eq_getElem h1')
  obtain ⟨y, u, e3, e4⟩ := strs_get h' (List.getElem?_eq_getElem h2')
  rw [e2, e4]
  show SeqAt.EqAt A s vs[j] ws[j] (x == y)
  rw [e1, e3]
  exact SeqAt.EqAt.str_str x t y u
theorem jd_eqStrs {D1 D2 : Addr} {vs ws : List Value} {xs ys : List Str} (h1 : AtL f N D1 vs) (h2 : AtL f N D2 ws) (hx : StrsAre vs xs) (hy : StrsAre ws ys) : Jd f b N (compareOp .Eq (.ref D1) (.ref D2)) (Is N (.bool (xs == ys))) := fun s _ _ ok F M q => by
  by_cases hl : xs.length = ys.length
  · refine SeqAt.eq_listAt (e := fun j => (xs[j]?).getD Str.empty == (ys[j]?).getD Str.empty) (h1.is F M) (h2.is F M) (by simp [strs_len hx, strs_len hy, hl]) (un_lt ok) (strs_j hx hy) (q _ _ _ _ F M ⟨?_, rfl⟩)
    rw [← strs_eqs hx hy hl]; simp
  · refine SeqAt.eq_list_lengthsAt (h1.is F M) (h2.is F M) (by simp [strs_len hx, strs_len hy, hl]) (un_lt ok) (q _ _ _ _ F M ⟨?_, rfl⟩)
    rw [beq_false_of_ne (fun e => hl (by rw [e]))]
theorem jd_neStrs {D1 D2 : Addr} {vs ws : List Value} {xs ys : List Str} (h1 : AtL f N D1 vs) (h2 : AtL f N D2 ws) (hx : StrsAre vs xs) (hy : StrsAre ws ys) : Jd f b N (compareOp .NotEq (.ref D1) (.ref D2)) (Is N (.bool (xs != ys))) := fun s _ _ ok F M q => by
  by_cases hl : xs.length = ys.length
  · refine SeqAt.RcNeAt.lists (A := f.A) (e := fun j => (xs[j]?).getD Str.empty == (ys[j]?).getD Str.empty) (h1.is F M) (h2.is F M) (by simp [strs_len hx, strs_len hy, hl]) (un_lt ok) (strs_j hx hy) _ _ _ _ (q _ _ _ _ F M ⟨?_, rfl⟩)
    show Value.bool (!_) = Value.bool (!_)
    rw [← strs_eqs hx hy hl]; simp
  · refine SeqAt.RcNeAt.lists_lengths (A := f.A) (h1.is F M) (h2.is F M) (by simp [strs_len hx, strs_len hy, hl]) (un_lt ok) _ _ _ _ (q _ _ _ _ F M ⟨?_, rfl⟩)
    show Value.bool true = Value.bool (!_)
    rw [beq_false_of_ne (fun e => hl (by rw [e]))]; rfl
/-- a row: a tuple of an int and a text -/
def RowAt (f : Fx) (N : Led) (v : Value) (r : Int × Str) : Prop := ∃ a t u, v = .ref a ∧ AtT f N a [.int r.1 t, .str r.2 u]
theorem row_eqs {A : Around} {s : Shared} {k k' : Int} {x x' : Str} {t t' u u' : Tok} : ∀ j (h1 : j < #[Value.int k t, .str x u].size) (h2 : j < #[Value.int k' t', .str x' u'].size), SeqAt.EqAt A s #[Value.int k t, .str x u][j] #[Value.int k' t', .str x' u'][j] (if j = 0 then k == k' else x == x') := by
  intro j h1 h2
  match j, h1 with
  | 0, _ => exact SeqAt.EqAt.int_int k t k' t'
  | 1, _ => exact SeqAt.EqAt.str_str x u x' u'
theorem jd_eqRow {a a' : Addr} {k k' : Int} {x x' : Str} {t t' u u' : Tok} (h : AtT f N a [.int k t, .str x u]) (h' : AtT f N a' [.int k' t', .str x' u']) : Jd f b N (compareOp .Eq (.ref a) (.ref a')) (Is N (.bool (k == k' && x == x'))) := fun s _ _ ok F M q =>
  SeqAt.eq_tupleAt (e := fun j => if j = 0 then k == k' else x == x') (h.is F M) (h'.is F M) (un_lt ok) row_eqs (q _ _ _ _ F M ⟨by simp [List.range, List.range.loop], rfl⟩)
theorem jd_inRows {D a' : Addr} {vs : List Value} {rows : List (Int × Str)} {k' : Int} {x' : Str} {t' u' : Tok} (hl : AtL f N D vs) (hr : All2 (RowAt f N) vs rows) (h' : AtT f N a' [.int k' t', .str x' u']) (hne : ∀ v ∈ vs, v ≠ .ref a') : Jd f b N (compareOp .In (.ref a') (.ref D)) (Is N (.bool (rows.any fun r => r.1 == k' && r.2 == x'))) := fun s _ _ ok F M q => by
  let e : Value → Bool := fun v => match v with
    | .ref a => match s.heap.get? a with
      | some o => match o.data with
        | .seq d _ => match d.toList with
          | [.int k _, .str x _] => k == k' && x == x'
          | _ => false
        | _ => false
      | none => false
    | _ => false
  have he : ∀ v r, RowAt f N v r → e v = (r.1 == k' && r.2 == x') := by
    rintro v ⟨k, x⟩ ⟨a, t, u, rfl, o, hat, hc, n, hd⟩
    show (match s.heap.get? a with | some o => _ | none => _) = _
    rw [hat.get F M]
    simp only [hd]
  refine SeqAt.in_listAt e (hl.is F M) (fun y hy => ?_) (q _ _ _ _ F M ⟨?_, rfl⟩)
  · have hy' : y ∈ vs := by simpa using hy
    obtain ⟨r, _, hyr⟩ := hr.mem hy'
    rw [he y r hyr]
    obtain ⟨a, t, u, rfl, hT⟩ := hyr
    refine SeqAt.EqAt.of_refs (fun q => hne _ hy' (by rw [q])) ?_
    have := SeqAt.RcAt.tuples (A := f.A.in1) (s := s) (e := fun j => if j = 0 then r.1 == k' else r.2 == x') (hT.is F M) (h'.is F M) (by have := ok.h2; show f.c.un + 1 < _; omega) row_eqs
    simpa [List.range, List.range.loop] using this
  · congr 1
    rw [List.any_toArray]
    clear hne hl q
    induction hr with
    | nil => rfl
    | cons r _ ih => rw [List.any_cons, List.any_cons, he _ _ r, ih]
-- and, or, of bools
theorem EvV.andB {e₁ e₂ : Expr} {rest : List Expr} {pos : Pos} {p q : Bool} (h : EvV f en b N e₁ (.bool p)) (h2 : p = true → EvV f en b N (.BoolOp .And (e₂ :: rest) pos) (.bool q)) (h3 : p = false → q = false) : EvV f en b N (.BoolOp .And (e₁ :: e₂ :: rest) pos) (.bool q) :=
  ⟨pe_bool, fun s _ _ ok F M k => BoolOp_and (h.jd s _ _ ok F M fun v hp tk N₁ F₁ M₁ r => by
    obtain ⟨rfl, rfl⟩ := r
    refine wpAny_truthy_bool ?_
    cases p
    · rw [if_neg (by decide)]; exact k _ _ _ _ F₁ M₁ ⟨by rw [h3 rfl], rfl⟩
    · rw [if_pos rfl]; exact (h2 rfl).jd _ _ _ ok F₁ M₁ k)⟩
theorem EvV.orB {e₁ e₂ : Expr} {rest : List Expr} {pos : Pos} {p q : Bool} (h : EvV f en b N e₁ (.bool p)) (h2 : p = false → EvV f en b N (.BoolOp .Or (e₂ :: rest) pos) (.bool q)) (h3 : p = true → q = true) : EvV f en b N (.BoolOp .Or (e₁ :: e₂ :: rest) pos) (.bool q) :=
  ⟨pe_bool, fun s _ _ ok F M k => BoolOp_or (h.jd s _ _ ok F M fun v hp tk N₁ F₁ M₁ r => by
    obtain ⟨rfl, rfl⟩ := r
    refine wpAny_truthy_bool ?_
    cases p
    · rw [if_neg (by decide)]; exact (h2 rfl).jd _ _ _ ok F₁ M₁ k
    · rw [if_pos rfl]; exact k _ _ _ _ F₁ M₁ ⟨by rw [h3 rfl], rfl⟩)⟩
theorem EvV.lastB {op : BoolOp} {e : Expr} {pos : Pos} {q : Bool} (h : EvV f en b N e (.bool q)) : EvV f en b N (.BoolOp op [e] pos) (.bool q) := ⟨pe_bool, fun s _ _ ok F M k => BoolOp_one (h.jd s _ _ ok F M k)⟩
end
end Mine
end
section
open PySem PySem.W PyProof.Rows PySem.Calls
set_option Elab.async false
set_option maxRecDepth 100000
set_option maxHeartbeats 4000000
set_option linter.unusedVariables false
namespace Mine
section
variable {f : Fx} {b : Binds} {N : Led} {en : Env}
/-- an object that the caller names -/
theorem at_rd {rd news : Led} (h : ∀ p ∈ rd, p ∈ news ∨ f.c.g.get? p.1 = some p.2) (hN : ∀ p ∈ news, p ∈ N) {a : Addr} {o : Obj} (hp : (a, o) ∈ rd) : At f N a o := (h _ hp).imp (fun m => hN _ m) id
theorem At.more {N' : Led} {a : Addr} {o : Obj} (h : At f N a o) (s : ∀ p ∈ N, p ∈ N') : At f N' a o := h.imp (fun m => s _ m) id
theorem AtL.more {N' : Led} {a : Addr} {vs : List Value} (h : AtL f N a vs) (s : ∀ p ∈ N, p ∈ N') : AtL f N' a vs := let ⟨o, x, y⟩ := h; ⟨o, x.more s, y⟩
theorem AtT.more {N' : Led} {a : Addr} {vs : List Value} (h : AtT f N a vs) (s : ∀ p ∈ N, p ∈ N') : AtT f N' a vs := let ⟨o, x, y⟩ := h; ⟨o, x.more s, y⟩
theorem atL_own {D : Addr} {its : Array Value} {n : Nat} (h : (D, W.listOf its n) ∈ N) : AtL f N D its.toList := ⟨_, .inl h, rfl, n, by simp [W.listOf]⟩
theorem atL_lst {D : Addr} {ys : List Value} (h : (D, lsO ys) ∈ N) : AtL f N D ys := ⟨_, .inl h, rfl, _, rfl⟩
theorem atT_own {D : Addr} {vs : List Value} (h : (D, tupO vs) ∈ N) : AtT f N D vs := ⟨_, .inl h, rfl, _, rfl⟩
/-- x == [] -/
theorem EvV.eqNil {e : Expr} {p1 pos : Pos} {D : Addr} {vs : List Value} (h : EvV f en b N e (.ref D)) (hl : AtL f N D vs) : EvV f en b N (.Compare e [.Eq] [.List [] p1] pos) (.bool vs.isEmpty) :=
  Ev.drop (R := fun v N' => v = .bool vs.isEmpty ∧ ∀ p ∈ N, p ∈ N') (Ev.cmp h (fun v N₁ r => by
    obtain ⟨rfl, rfl⟩ := r
    exact Ev.lst Ags.nil fun ws N₂ r => by
      obtain ⟨rfl, rfl⟩ := r
      exact (jd_newList (Nat.zero_le _)).mono fun u N₃ r => by
        obtain ⟨D2, its, n, rfl, rfl, off, h0⟩ := r
        have h2 : AtL f ((D2, W.listOf its n) :: N₂) D2 [] := h0 ▸ atL_own List.mem_cons_self
        exact (jd_eqNil (hl.more fun p hp => List.mem_cons_of_mem _ hp) h2).mono fun v N' r => ⟨r.1, fun p hp => by rw [r.2]; exact List.mem_cons_of_mem _ hp⟩) rfl) fun v N' r => ⟨N, r.2, r.1, rfl⟩
/-- a pair of an int and a text -/
theorem Ev.pairIS {e e2 : Expr} {k : Nat} {pos : Pos} {n : Int} {x : Str} (h : EvI f en b N e n) (h2 : EvS f en b N e2 x) : Ev f en b N (.Tuple [e, e2] k pos) (fun v N' => ∃ D t u, v = .ref D ∧ N' = (D, tupO [.int n t, .str x u]) :: N ∧ ∀ p ∈ N, p.1 ≠ D) :=
  Ev.tup (RA := fun vs N' => (∃ t u, vs = [.int n t, .str x u]) ∧ N' = N) (Ags.cons h fun v N₁ r => by
    obtain ⟨⟨t, rfl⟩, rfl⟩ := r
    exact (Ags.one h2).mono fun vs N₂ r₂ => by obtain ⟨⟨u, rfl⟩, rfl⟩ := r₂; exact ⟨⟨t, u, rfl⟩, rfl⟩)
    fun vs N₁ r => by
      obtain ⟨⟨t, u, rfl⟩, rfl⟩ := r
      exact (jd_newTuple (Nat.le_of_ble_eq_true rfl)).mono fun v N' r => by obtain ⟨D, rfl, rfl, off⟩ := r; exact ⟨D, t, u, rfl, rfl, off⟩
/-- (n, x) in rows -/
theorem EvV.inRows {e e2 e3 : Expr} {k : Nat} {tp pos : Pos} {n : Int} {x : Str} {D : Addr} {vs : List Value} {rows : List (Int × Str)} (h : EvI f en b N e n) (h2 : EvS f en b N e2 x) (h3 : ∀ N', EvV f en b N' e3 (.ref D)) (hl : AtL f N D vs) (hr : All2 (RowAt f N) vs rows) :
    EvV f en b N (.Compare (.Tuple [e, e2] k tp) [.In] [e3] pos) (.bool (rows.any fun r => r.1 == n && r.2 == x)) :=
  ⟨pe_cmp, fun s Q E ok F M q => by
    have hne : ∀ D' h', f.N h' ((D', tupO []) :: N) → True := fun _ _ _ => trivial
    refine wpAny_Compare1 ((Ev.pairIS h h2).jd s _ _ ok F M fun v h' tk N₁ F₁ M₁ r₁ => ?_) ((h3 []).pe.marks _)
    obtain ⟨D', t, u, rfl, rfl, off⟩ := r₁
    refine (h3 _).jd _ _ _ ok F₁ M₁ fun v h'' tk N₂ F₂ M₂ r₂ => ?_
    obtain ⟨rfl, rfl⟩ := r₂
    have sub : ∀ p ∈ N, p ∈ (D', tupO [.int n t, .str x u]) :: N := fun p hp => List.mem_cons_of_mem _ hp
    refine jd_inRows (hl.more sub) (hr.mono fun v r ⟨a, t, u, e, h⟩ => ⟨a, t, u, e, h.more sub⟩) (atT_own List.mem_cons_self) (fun v hv e => ?_) _ _ _ ok F₂ M₂ fun v h3 tk N₃ F₃ M₃ r₃ => ?_
    · obtain ⟨r, _, a, t', u', e2, o, hat, _⟩ := hr.mem hv
      rw [e2] at e
      have e := Value.ref.inj e
      subst e
      rcases hat with m | g
      · exact off _ m rfl
      · have := (M₂ _ List.mem_cons_self).2.2
        rw [g] at this; cases this
    · obtain ⟨rfl, rfl⟩ := r₃
      exact q _ _ _ N F₃ (fun p hp => M₃ p (sub p hp)) ⟨rfl, rfl⟩⟩
end
end Mine
end
section
open PySem PySem.W PyProof.Rows PySem.Calls
set_option Elab.async false
set_option maxRecDepth 100000
set_option maxHeartbeats 4000000
set_option linter.unusedVariables false
namespace Mine
section
variable {f : Fx} {b : Binds} {N : Led} {en : Env}
/-- len of what is made on the way -/
theorem EvI.lenE {e : Expr} {np pos : Pos} {n : Nat} (g : Glob f.c.w (Str.ofString "len") (.builtin "len")) (he : Ev f en b N e (fun v N' => ∃ D vs, v = .ref D ∧ AtL f N' D vs ∧ vs.length = n ∧ ∀ p ∈ N, p ∈ N')) (hz : n ≤ 100000) (hg : gB en (Str.ofString "len") = true) : EvI f en b N (.Call (.Name (Str.ofString "len") np) [e] [] pos) n :=
  Ev.drop (R := fun v N' => (∃ t, v = .int (n : Int) t) ∧ ∀ p ∈ N, p ∈ N') (Ev.callN g (Ags.cons (R' := fun ws N' => ∃ D vs, ws = [.ref D] ∧ AtL f N' D vs ∧ vs.length = n ∧ ∀ p ∈ N, p ∈ N') he fun v N₁ r => Ags.nil.mono fun ws N₂ r₂ => by
      obtain ⟨D, vs, rfl, h1, h2, h3⟩ := r
      obtain ⟨rfl, rfl⟩ := r₂
      exact ⟨D, vs, rfl, h1, h2, h3⟩) (fun ws N₁ r => by
      obtain ⟨D, vs, rfl, h1, rfl, h3⟩ := r
      exact fun s _ _ _ F M q => PyProof.Rows.len_list (h1.is F M) (by simp; omega) (q _ _ _ N₁ F M ⟨⟨s.toks + 1, by simp⟩, h3⟩)) hg ⟨he.pe, trivial⟩) fun v N' r => ⟨N, r.2, r.1, rfl⟩
/-- row == (n, x) -/
theorem Tr.eqRow {e e2 e3 : Expr} {k : Nat} {tp pos : Pos} {n : Int} {x : Str} {v : Value} {r : Int × Str} (h : EvV f en b N e v) (hr : RowAt f N v r) (h2 : EvI f en b N e2 n) (h3 : EvS f en b N e3 x) : Tr f en b N (.Compare e [.Eq] [.Tuple [e2, e3] k tp] pos) (r.1 == n && r.2 == x) :=
  fun s _ _ ok F M q => wpAny_isTrue_Compare1 (h.jd s _ _ ok F M fun v' hp tk N₁ F₁ M₁ r₁ => by
    obtain ⟨rfl, rfl⟩ := r₁
    refine (Ev.pairIS h2 h3).jd _ _ _ ok F₁ M₁ fun u hp tk N₂ F₂ M₂ r₂ => ?_
    obtain ⟨D, t, u', rfl, rfl, off⟩ := r₂
    obtain ⟨a, t1, u1, rfl, hT⟩ := hr
    refine jd_eqRow (hT.more fun p hp => List.mem_cons_of_mem _ hp) (atT_own List.mem_cons_self) _ _ _ ok F₂ M₂ fun x' hp tk N₃ F₃ M₃ r₃ => ?_
    obtain ⟨rfl, rfl⟩ := r₃
    exact wpAny_truthy_bool (q _ _ _ _ F₃ (fun p hp => M₃ p (List.mem_cons_of_mem _ hp)) ⟨rfl, rfl⟩)) rfl
theorem jd_addL {l1 l2 : Addr} {xs ws : List Value} (a1 : AtL f N l1 xs) (a2 : AtL f N l2 ws) (hz : xs.length + ws.length ≤ 100000) : Jd f b N (binaryOp .Add (.ref l1) (.ref l2)) (NewL N fun vs => vs = xs ++ ws) :=
  fun s _ _ ok F M q => PyProof.Rows.add_lists (hsz := Nat.le_trans hz (by rw [sizeLine_eq]; exact Nat.le_of_ble_eq_true rfl)) F M (a1.is F M) (a2.is F M) fun h' F' M' => q _ _ _ ((s.heap.objs.size, W.listOf (xs ++ ws).toArray 0) :: N) F' M' ⟨_, _, _, rfl, rfl, fun p hp => Nat.ne_of_lt (Heap.lt_size (M p hp).1), rfl⟩
end
end Mine
end
section
open PySem PySem.W PyProof.Rows PySem.Calls
set_option Elab.async false
set_option maxRecDepth 100000
set_option maxHeartbeats 4000000
set_option linter.unusedVariables false
namespace Mine
open PyProof.Rows.LCg (NsObj lst lst_snoc ns_obj fr_but news_but)
abbrev Psi := Nat → (Nat → Value → Heap → Prop) → List Addr → Led → Prop
/-- a source whose turns are known once it is there -/
def SrcX (f : Fx) (b : Binds) (N : Led) (en : Env) (tg e : Expr) (Ψ : Psi) : Prop :=
  ∀ (s : Shared) (Q : Value → Shared → Prop) (E : Value → Shared → Prop), f.Ok → f.F s.heap b → f.N s.heap N →
    (∀ it h tk N₁ n P Sa, f.F h b → f.N h N₁ → Itr f tg n P Sa N₁ it h → Ψ n P Sa N₁ → Q it { s with heap := h, toks := tk }) → f.Wp (eval e en) (fun xv s₁ => f.Wp (pyIter xv) Q E s₁) E s
/-- a sequence of values -/
def SeqP (vs : List Value) : Nat → Value → Heap → Prop := fun i v _ => vs[i]? = some v
section
variable {f : Fx} {b : Binds} {N : Led} {en : Env}
theorem SrcX.seq {x : Str} {px : Pos} {e : Expr} {Ψ : Psi} (hi : Ev f en b N e (fun v N₁ => ∃ ax o vs, v = .ref ax ∧ At f N₁ ax o ∧ IsSeq o vs ∧ Ψ vs.length (SeqP vs) [ax] N₁)) : SrcX f b N en (.Name x px) e Ψ :=
  fun s Q E ok F M q => hi.jd s _ _ ok F M fun v h tk N₁ F₁ M₁ r => by
    obtain ⟨ax, o, vs, rfl, hat, ho, r⟩ := r
    have hget := hat.get F₁ M₁
    have hlt : ax < h.objs.size := Heap.lt_size hget
    have hne : ax ≠ h.objs.size := Nat.ne_of_lt hlt
    have hLx := at_apart hat F₁ M₁
    have hLt : f.c.L < h.objs.size := F₁.ns.lt
    obtain ⟨hc, n₀, hd⟩ := ho
    have fin : ∀ (it : Obj) (St : Nat → Heap → Prop), Walks PP f.c.w f.A h.objs.size [h.objs.size, ax] [h.objs.size] vs.length (fun i v => vs[i]? = some v) St → St 0 (h.push it) → (∀ i hh, St i hh → ∃ o, hh.get? h.objs.size = some o) → (∀ i hh, St i hh → ∀ a ∈ [h.objs.size, ax], ∀ o, hh.get? a = some o → ∀ v, o.data ≠ .cell v) →
        Q (.ref h.objs.size) { s with heap := h.push it, toks := tk } := fun it St W st0 hIo hnc => by
      refine q _ _ _ N₁ _ _ _ (F₁.push _) (fun p hp => ⟨Heap.get?_push_of_some _ (M₁ p hp).1, (M₁ p hp).2⟩) ⟨h.objs.size, [h.objs.size, ax], [h.objs.size], _, St, rfl, KTurns.ofWalks W fun i v s Q E _ q => wpAny_pure q, fun i hh st a ha => ?_, fun s Q E st q => W.self 0 s Q E st q, st0, fun a ha => ?_, fun ha => ?_, fun a ha => ?_, fun p hp hI => ?_, fun i hh st a ha => ⟨by rcases List.mem_cons.mp ha with rfl | ha; exact .inl List.mem_cons_self; exact .inr ha, hnc i hh st a ha⟩⟩ r
      · rw [List.mem_singleton.mp ha]; exact hIo i hh st
      · rw [Heap.size_push]
        rcases List.mem_cons.mp ha with rfl | ha
        · exact Nat.lt_succ_self _
        · rw [List.mem_singleton.mp ha]; exact Nat.lt_succ_of_lt hlt
      · rcases List.mem_cons.mp ha with e | ha
        · exact absurd hLt (e ▸ Nat.lt_irrefl _)
        · exact hLx (List.mem_singleton.mp ha)
      · rw [List.mem_singleton.mp ha]; exact next_is_new F₁
      · exact absurd (Heap.lt_size (M₁ p hp).1) ((List.mem_singleton.mp hI) ▸ Nat.lt_irrefl _)
    have hsz : vs.toArray.size = vs.length := by simp
    rcases hc with hc | hc
    · have hl : h.IsList ax vs.toArray := ⟨o, hget, hc, n₀, hd⟩
      have W := Walks.list (prog := PP) (w := f.c.w) (A := f.A) rfl h.objs.size ax hne vs.toArray
      rw [hsz] at W
      simp only [List.getElem?_toArray] at W
      exact wpAny_pyIter_list hl (fin _ _ W ⟨⟨_, Heap.get?_push_size _ rfl, rfl, rfl⟩, hl.at fun o e => Heap.get?_push_of_some _ e⟩ (fun i hh st => by obtain ⟨o', e, _⟩ := st.1; exact ⟨o', e⟩) fun i hh st => by obtain ⟨⟨o1, e1, _, d1⟩, o2, e2, _, n2, d2⟩ := st; exact seq_nc e1 e2 (fun v q => by rw [d1] at q; cases q) fun v q => by rw [d2] at q; cases q)
    · have hl : h.IsTuple ax vs.toArray := ⟨o, hget, hc, n₀, hd⟩
      have W := Walks.tuple (prog := PP) (w := f.c.w) (A := f.A) rfl h.objs.size ax hne vs.toArray
      rw [hsz] at W
      simp only [List.getElem?_toArray] at W
      exact wpAny_pyIter_tuple hl (fin _ _ W ⟨⟨_, Heap.get?_push_size _ rfl, rfl, rfl⟩, hl.at fun o e => Heap.get?_push_of_some _ e⟩ (fun i hh st => by obtain ⟨o', e, _⟩ := st.1; exact ⟨o', e⟩) fun i hh st => by obtain ⟨⟨o1, e1, _, d1⟩, o2, e2, _, n2, d2⟩ := st; exact seq_nc e1 e2 (fun v q => by rw [d1] at q; cases q) fun v q => by rw [d2] at q; cases q)
/-- what a comprehension's turns come to -/
def CompOK (f : Fx) (b : Binds) (en : Env) (tg : Expr) (ifs : List Expr) (elt : Expr) (scope : Scope) (cl : List (Str × Addr)) (Fin : List Value → Led → Prop) (n : Nat) (P : Nat → Value → Heap → Prop) (N₁ : Led) : Prop :=
  ∃ (VP : Nat → (Str → Option Value) → Prop) (J : Nat → List Value → Led → Prop), J 0 [] N₁ ∧ n ≤ 100000 ∧ (∀ C, Takes f tg (compEnvC scope cl C en) P VP) ∧
    (∀ i ys N' X W C oC m, i < n → VP i m → InTurn X W C oC m N' → J i ys N' → CTurn f b (X ++ N') ifs elt (compEnvC scope cl C en) (Kept X W (J (i + 1) ys)) (fun y => Kept X W (J (i + 1) (ys ++ [y])))) ∧ ∀ ys N', J n ys N' → Fin ys N'
theorem comp_coreX {elt tg iter : Expr} {ifs : List Expr} {scope : Scope} {cl : List (Str × Addr)} {pos : Pos} {Ψ : Psi} {use : Option (Value → Sem Unit)} {Q : Value → Shared → Prop} {E : Value → Shared → Prop} {s : Shared} {p2 : Pos}
    (src : SrcX f b N en tg iter Ψ) (hf : ∀ x, foldedSetIterable iter en x = pure x) (hclos : closureFor scope en = pure cl) (hc : cS scope = true) {Fin : List Value → Led → Prop}
    (tt : ∀ n P Sa N₁, Ψ n P Sa N₁ → CompOK f b en tg ifs elt scope cl Fin n P N₁)
    (ok : f.Ok) (F₀ : f.F s.heap b) (M₀ : f.N s.heap N)
    (fin : ∀ D C h tk m' ys N', f.F h b → f.N h ((D, lsO ys) :: N') → (∀ p ∈ N', p.1 ≠ D) → h.Ns C m' → f.c.g.get? C = none → f.c.g.get? D = none → C ≠ f.c.L → D ≠ f.c.L → C ≠ D → (∀ p ∈ N', p.1 ≠ C) → Fin ys N' → compPost (model PP f.c.w) f.A E use Q (.ref D) C (.ok .next) { s with heap := h, toks := tk }) :
    f.Wp (comprehension (.ListComp elt [⟨tg, iter, ifs, 0⟩] scope pos) scope en p2 (newList []) false (eval iter en) use) Q E s := by
  obtain ⟨ck, cc, cn⟩ := cS_ok hc
  refine wpAny_comprehension_free (use := use) rfl hf hclos ck cn (src _ _ _ ok F₀ M₀ fun it h tk₁ N₁ n P Sa F M I ψ => ?_)
  obtain ⟨VP, J, j0, hz, tk, turn, dn⟩ := tt n P Sa N₁ ψ
  obtain ⟨I, fp, wr, Md, St, rfl, W, hIo, hself, hst, hfp, hLf, hwr, hnw, -⟩ := I
  refine comp_block (L := f.c.L) (VP := VP) J W (Nat.le_trans hz (by rw [sizeLine_eq]; exact Nat.le_of_ble_eq_true rfl)) hIo hself cc ck hst hfp F M hLf hwr hnw j0 (fun i v C s Q E m' hP hn q => tk C i v C s Q E m' hP hn q) ?_ ?_
  · intro i ys N' X Wl C oC m' h tk₂ Q₂ E' hi hV IT hJ F₁ M₁ q
    refine turn i ys N' X Wl C oC m' hi hV IT hJ _ _ _ ok F₁ M₁ fun okb h₂ tk₃ N₃ F₂ M₂ r => ?_
    exact q okb h₂ tk₃ (fun e => ⟨F₂, N₃, M₂, r.1 e⟩) fun e Q₃ q₃ => r.2 e _ _ _ ok F₂ M₂ fun y h₃ tk₄ N₄ F₃ M₃ r₃ => q₃ y h₃ tk₄ N₄ F₃ M₃ r₃
  · intro D C h tk₂ m' ys N' F₁ M₁ offD hn hC₀ hD₀ hCL hDL hCD offC j
    exact fin D C h tk₂ m' ys N' F₁ M₁ offD hn hC₀ hD₀ hCL hDL hCD offC (dn ys N' j)
theorem Ev.lcompX {elt tg iter : Expr} {ifs : List Expr} {scope : Scope} {cl : List (Str × Addr)} {pos : Pos} {Ψ : Psi} {Fin : List Value → Led → Prop} {R : Value → Led → Prop}
    (src : SrcX f b N en tg iter Ψ) (tt : ∀ n P Sa N₁, Ψ n P Sa N₁ → CompOK f b en tg ifs elt scope cl Fin n P N₁)
    (done : ∀ D ys N', (∀ p ∈ N', p.1 ≠ D) → Fin ys N' → R (.ref D) ((D, lsO ys) :: N'))
    (hclos : closureFor scope en = pure cl) (hc : cS scope = true) (hf : ∀ x, foldedSetIterable iter en x = pure x) : Ev f en b N (.ListComp elt [⟨tg, iter, ifs, 0⟩] scope pos) R := by
  refine ⟨pe_lc, fun s Q E ok F M q => ?_⟩
  show f.Wp (eval _ _) _ _ _
  rw [Fx.Wp, eval_ListComp]
  refine comp_coreX (use := none) src hf hclos hc tt ok F M fun D C h tk m' ys N' F' N'' o1 hn hC₀ hD₀ hCL hDL hCD offC j => ?_
  refine ⟨m', hn, fun h'' hs'' => q _ _ _ _ (Fr.change F' hs'' hCL hC₀) (fun p hp => ?_) (done D ys N' o1 j)⟩
  refine ⟨hs''.extBut _ _ ?_ (N'' p hp).1, (N'' p hp).2⟩
  rcases List.mem_cons.mp hp with rfl | hp
  · exact Ne.symm hCD
  · exact offC p hp
/-- a comprehension, stored in a name -/
theorem Exs.asCX {x : Str} {px spos : Pos} {rest : List Stmt} {K : Flow → Binds → Led → Prop} {elt tg iter : Expr} {ifs : List Expr} {scope : Scope} {cl : List (Str × Addr)} {pos : Pos} {Ψ : Psi} {Fin : List Value → Led → Prop}
    (src : SrcX f b N f.env tg iter Ψ) (tt : ∀ n P Sa N₁, Ψ n P Sa N₁ → CompOK f b f.env tg ifs elt scope cl Fin n P N₁)
    (done : ∀ D ys N', (∀ p ∈ N', p.1 ≠ D) → Fin ys N' → Exs f ((x, some (.ref D)) :: b) ((D, lsO ys) :: N') rest K)
    (hsw : swapsWith (.ListComp elt [⟨tg, iter, ifs, 0⟩] scope pos) (some (.Name x px)) spos.line f.env = pure true) (l : lB f.cs x .local = true)
    (hclos : closureFor scope f.env = pure cl) (hc : cS scope = true) (hf : ∀ x, foldedSetIterable iter f.env x = pure x) : Exs f b N (.Assign [.Name x px] (.ListComp elt [⟨tg, iter, ifs, 0⟩] scope pos) spos :: rest) K := by
  refine Exs.cons fun s Q E ok F M q => ?_
  show f.Wp (exec _ _) _ _ _
  rw [Fx.Wp, exec_Assign_Name_used _ _ _ _ hsw]
  refine wpAny_bind (wpAny_standAt (wpAny_bind ?_))
  show f.Wp (do let _ ← comprehension (.ListComp elt [⟨tg, iter, ifs, 0⟩] scope pos) scope f.env _ (newList []) false (eval iter f.env) (some (assign (.Name x px) f.env))) _ _ s
  refine wpAny_bind (wpAny_mono (comp_coreX (use := some (assign (.Name x px) f.env)) (Q := fun _ s' => Q .next s') (E := E) src hf hclos hc tt ok F M fun D C h tk m' ys N' F' N'' o1 hn hC₀ hD₀ hCL hDL hCD offC j => ?_) (fun _ s' hq => wpAny_pure (wpAny_pure hq)) fun _ _ e => e)
  show f.Wp (assign (.Name x px) f.env (.ref D)) _ _ _
  refine assign_Name (wpAny_storeName_local (lB_ok l).2.1 F'.ns (fun h₂ hn₂ hs₂ => ?_) (by show (f.cs.kind == .class || _) = false; rw [(lB_ok l).1]; rfl))
  have hL₀ : f.c.g.get? f.c.L = none := Heap.get?_none_of_le F'.above
  have F₂ : Fr f.c.g f.c.L h₂ (fun z => if z = x then some (.ref D) else bget b z) := ⟨hn₂, fun c o e => hs₂.extBut c o (fun q => by rw [q] at e; rw [show f.env.locals = f.c.L from rfl, hL₀] at e; cases e) (F'.keep c o e), F'.above⟩
  refine ⟨m', hn.sameBut hs₂ hCL, fun h'' hs'' => q .next _ _ _ ((D, lsO ys) :: N') (put_frw (F₂.change hs'' hCL hC₀)) (fun p hp => ?_) (done D ys N' o1 j)⟩
  have z : h₂.get? p.1 = some p.2 := hs₂.extBut _ _ (N'' p hp).2.1 (N'' p hp).1
  refine ⟨hs''.extBut _ _ ?_ z, (N'' p hp).2⟩
  rcases List.mem_cons.mp hp with rfl | hp
  · exact Ne.symm hCD
  · exact offC p hp
theorem Ex.forX {tg iter : Expr} {body : List Stmt} {pos : Pos} {K : Flow → Binds → Led → Prop} {Ψ : Psi}
    (src : SrcX f b N f.env tg iter Ψ)
    (tt : ∀ n P Sa N₁, Ψ n P Sa N₁ → ∃ J : Nat → Binds → Led → Prop, J 0 b N₁ ∧ (∀ i v b' N' X W (s : Shared) (Q : Flow → Shared → Prop) (E : Value → Shared → Prop), i < n → P i v s.heap → InLoop Sa X W N' → J i b' N' → f.Ok → f.F s.heap b' → f.N s.heap (X ++ N') →
      (∀ fl b2 h tk N₂, f.F h b2 → f.N h N₂ → TurnI K X W (J (i + 1)) fl b2 N₂ → Q fl { s with heap := h, toks := tk }) → f.Wp (assign tg f.env v) (fun _ s₂ => f.Wp (execs body f.env) Q E s₂) E s) ∧ ∀ b' N', J n b' N' → K .next b' N') (hf : ∀ x, foldedSetIterable iter f.env x = pure x) : Ex f b N (.For tg iter body [] pos) K := by
  intro s Q E ok F M q
  refine wpAny_mono (For_turns (E := fun _ _ => False) (Q := Q) F (src _ _ _ ok F M fun it h tk N₁ n P Sa F₁ M₁ I ψ => ?_) hf PassesOwn.never) (fun _ _ q => q) fun _ _ e => e.elim
  obtain ⟨J, j0, turn, done⟩ := tt n P Sa N₁ ψ
  obtain ⟨I, fp, wr, Md, St, rfl, W, hIo, hself, hst, hfp, hLf, hwr, hnw, hnc⟩ := I
  refine ⟨I, fp, wr, n, P, Md, St, bget b, N₁, fun i m nw => ∃ b', m = bget b' ∧ J i b' nw, rfl, W, hLf, hwr, hnw, hst, F₁, M₁, ⟨b, rfl, j0⟩, ?_, ?_⟩
  · rintro i v m₁ N' h₁ tk₁ own hi hP ⟨b', rfl, hJ⟩ offw hown hget hall st₁ F₂ M₂
    refine turn i v b' N' own wr _ _ _ hi hP ⟨fun p hp => (hnc _ _ st₁ p.1 (hown p hp)).1, fun a ha => ?_, offw, fun p hp q hq ⟨v, hv⟩ e => ?_⟩ hJ ok F₂ M₂ fun fl b2 h₃ tk₃ N₂ F₃ M₃ k => ?_
    · obtain ⟨o, ho⟩ := hIo _ _ st₁ a ha
      exact ⟨o, hall a (W.sub a ha) (hwr a ha) o ho⟩
    · have g1 := (M₂ q (List.mem_append_right _ hq)).1
      rw [← e] at g1
      exact (hnc _ _ st₁ p.1 (hown p hp)).2 _ g1 v hv
    · have key : Kept own wr (J (i + 1) b2) N₂ → LoopStepU f.c.g f.env.locals wr own (fun m nw => ∃ b', m = bget b' ∧ J (i + 1) b' nw) _ .next { s with heap := h₃, toks := tk₃ } := fun ⟨N'', k1, k2, k3, k4⟩ =>
        ⟨rfl, h₃, tk₃, bget b2, N'', rfl, F₃, fun p hp => (List.mem_append.mp hp).elim (fun hp => M₃ p (k1 p hp)) fun hp => M₃ p (k2 p hp), k3, b2, rfl, k4⟩
      cases fl
      · exact key k
      · exact q _ _ _ _ _ F₃ M₃ k
      · exact key k
      · exact q _ _ _ _ _ F₃ M₃ k
  · rintro h' tk' m' N' F' M' offw ⟨b', rfl, hJ⟩
    exact q _ _ _ _ _ F' M' (done b' N' hJ)
/-- a loop over a sequence, whose name is a cell -/
theorem Ex.forCX {x : Str} {px pos : Pos} {iter : Expr} {body : List Stmt} {K : Flow → Binds → Led → Prop} {c : Addr} (hc : f.cl.lookup x = some c)
    (hi : Ev f f.env b N iter (fun v N₁ => ∃ ax o vs, v = .ref ax ∧ At f N₁ ax o ∧ IsSeq o vs ∧ ∃ J : Nat → Binds → Led → Prop, J 0 b N₁ ∧
      (∀ i v b' N' X W, vs[i]? = some v → InLoop [ax] X W N' → J i b' N' → ∃ o v₀ g, UpdF c o (X ++ N') g ∧ o.data = .cell v₀ ∧ ∀ o', o'.data = .cell (some v) → Exs f b' (g o') body (TurnI K X W (J (i + 1)))) ∧ ∀ b' N', J vs.length b' N' → K .next b' N'))
    (l : lB f.cs x .cell = true) : Ex f b N (.For (.Name x px) iter body [] pos) K :=
  Ex.forX (SrcX.seq (Ψ := fun n P Sa N₁ => ∃ ax vs, n = vs.length ∧ P = SeqP vs ∧ Sa = [ax] ∧ ∃ J : Nat → Binds → Led → Prop, J 0 b N₁ ∧
      (∀ i v b' N' X W, vs[i]? = some v → InLoop [ax] X W N' → J i b' N' → ∃ o v₀ g, UpdF c o (X ++ N') g ∧ o.data = .cell v₀ ∧ ∀ o', o'.data = .cell (some v) → Exs f b' (g o') body (TurnI K X W (J (i + 1)))) ∧ ∀ b' N', J vs.length b' N' → K .next b' N')
      (hi.mono fun v N₁ ⟨ax, o, vs, e, a, q, r⟩ => ⟨ax, o, vs, e, a, q, ax, vs, rfl, rfl, rfl, r⟩))
    (fun n P Sa N₁ ⟨ax, vs, e1, e2, e3, J, j0, turn, done⟩ => by
      subst e1 e2 e3
      refine ⟨J, j0, fun i v b' N' X W s Q E hi hP L hJ ok F M q => ?_, done⟩
      obtain ⟨o, v₀, g, U, hd, kk⟩ := turn i v b' N' X W hP L hJ
      exact assign_Name (storeX_C F M hc U hd (fun h' o' F₂ M₂ hd' => kk o' hd' _ _ _ ok F₂ M₂ fun fl b2 h tk N₂ F₃ M₃ k => q fl b2 h tk N₂ F₃ M₃ k) (lB_ok l).1 (lB_ok l).2.1)) (hi.pe.fold _)
/-- a loop over a sequence -/
theorem Ex.forNX {x : Str} {px pos : Pos} {iter : Expr} {body : List Stmt} {K : Flow → Binds → Led → Prop}
    (hi : Ev f f.env b N iter (fun v N₁ => ∃ ax o vs, v = .ref ax ∧ At f N₁ ax o ∧ IsSeq o vs ∧ ∃ J : Nat → Binds → Led → Prop, J 0 b N₁ ∧
      (∀ i v b' N' X W, vs[i]? = some v → InLoop [ax] X W N' → J i b' N' → Exs f ((x, some v) :: b') (X ++ N') body (TurnI K X W (J (i + 1)))) ∧ ∀ b' N', J vs.length b' N' → K .next b' N'))
    (l : lB f.cs x .local = true) : Ex f b N (.For (.Name x px) iter body [] pos) K :=
  Ex.forX (SrcX.seq (Ψ := fun n P Sa N₁ => ∃ ax vs, n = vs.length ∧ P = SeqP vs ∧ Sa = [ax] ∧ ∃ J : Nat → Binds → Led → Prop, J 0 b N₁ ∧
      (∀ i v b' N' X W, vs[i]? = some v → InLoop [ax] X W N' → J i b' N' → Exs f ((x, some v) :: b') (X ++ N') body (TurnI K X W (J (i + 1)))) ∧ ∀ b' N', J vs.length b' N' → K .next b' N')
      (hi.mono fun v N₁ ⟨ax, o, vs, e, a, q, r⟩ => ⟨ax, o, vs, e, a, q, ax, vs, rfl, rfl, rfl, r⟩))
    (fun n P Sa N₁ ⟨ax, vs, e1, e2, e3, J, j0, turn, done⟩ => by
      subst e1 e2 e3
      refine ⟨J, j0, fun i v b' N' X W s Q E hi hP L hJ ok F M q => ?_, done⟩
      exact assign_Name (storeX_L F M (fun h' F₂ M₂ => turn i v b' N' X W hP L hJ _ _ _ ok (put_frw F₂) M₂ fun fl b2 h tk N₂ F₃ M₃ k => q fl b2 h tk N₂ F₃ M₃ k) (lB_ok l).1 (lB_ok l).2.1)) (hi.pe.fold _)
end
end Mine
end
section
open PySem PySem.W PyProof.Rows PySem.Calls
set_option Elab.async false
set_option maxRecDepth 100000
set_option maxHeartbeats 4000000
set_option linter.unusedVariables false
namespace Mine
section
variable {f : Fx} {b : Binds} {N : Led} {en : Env}
theorem isStr {x : Str} {t : Tok} : (PySem.strKind PP f.c.w).is x (.str x t) = true := by
  show Value.isStrOf x (.str x t) = true
  simp [Value.isStrOf]
theorem AtD.more {N' : Led} {d : Addr} {kvs : List (Str × Value)} (h : AtD f N d kvs) (s : ∀ p ∈ N, p ∈ N') : AtD f N' d kvs := let ⟨e, o, x, y⟩ := h; ⟨e, o, x.more s, y⟩
/-- d[k] -/
theorem EvV.getD {o i : Expr} {pos : Pos} {d : Addr} {kvs : List (Str × Value)} {k : Str} {v : Value} (ho : EvV f en b N o (.ref d)) (hi : EvS f en b N i k) (hd : AtD f N d kvs) (hv : valueAt kvs k = some v) : EvV f en b N (.Subscript o i pos) v :=
  Ev.sub ho fun _ _ r => by
    obtain ⟨rfl, rfl⟩ := r
    exact hi.mono fun _ _ r => by
      obtain ⟨⟨u, rfl⟩, rfl⟩ := r
      exact fun s _ _ _ F M q => tail_any (hd.is F M).typeIs slot_dict_getitem.lookup (wpAny_getItem_of (knd := PySem.strKind PP f.c.w) isStr (hd.is F M).mapOf hv (q _ _ _ _ F M ⟨rfl, rfl⟩)) (hi.pe.sub _ _)
theorem Tr.inD {l r : Expr} {pos : Pos} {d : Addr} {kvs : List (Str × Value)} {k : Str} (hl : EvS f en b N l k) (hr : EvV f en b N r (.ref d)) (hd : AtD f N d kvs) : Tr f en b N (.Compare l [.In] [r] pos) (valueAt kvs k).isSome :=
  Tr.cmp hl (fun v N₁ r₁ => by obtain ⟨⟨t, rfl⟩, rfl⟩ := r₁; exact hr.mono fun v N₁ r₂ => by obtain ⟨rfl, rfl⟩ := r₂; exact fun s _ _ _ F M q => wpAny_in_of (knd := PySem.strKind PP f.c.w) isStr hd.1 (hd.is F M).mapOf (q _ _ _ _ F M ⟨rfl, rfl⟩)) (hr.pe.marks _)
theorem Tr.notInD {l r : Expr} {pos : Pos} {d : Addr} {kvs : List (Str × Value)} {k : Str} (hl : EvS f en b N l k) (hr : EvV f en b N r (.ref d)) (hd : AtD f N d kvs) : Tr f en b N (.Compare l [.NotIn] [r] pos) (!(valueAt kvs k).isSome) :=
  Tr.cmp hl (fun v N₁ r₁ => by obtain ⟨⟨t, rfl⟩, rfl⟩ := r₁; exact hr.mono fun v N₁ r₂ => by obtain ⟨rfl, rfl⟩ := r₂; exact fun s _ _ _ F M q => wpAny_notIn_of (knd := PySem.strKind PP f.c.w) isStr hd.1 (hd.is F M).mapOf (q _ _ _ _ F M ⟨rfl, rfl⟩)) (hr.pe.marks _)
/-- isinstance of an object -/
theorem Tr.isi {e : Expr} {x : Str} {T : String} {np tp pos : Pos} {v : Value} {p : Bool} (gi : Glob f.c.w (Str.ofString "isinstance") (.builtin "isinstance")) (gt : Glob f.c.w x (.type T)) (he : EvV f en b N e v)
    (h : ∀ (s : Shared) (Q E : Value → Shared → Prop), f.F s.heap b → f.N s.heap N → (∀ tk, Q (.bool p) { s with toks := tk }) → f.Wp (call (.builtin "isinstance") [v, .type T]) Q E s) (hg : gB en (Str.ofString "isinstance") = true) (hb : gB en x = true) :
    Tr f en b N (.Call (.Name (Str.ofString "isinstance") np) [e, .Name x tp] [] pos) p :=
  Tr.ofB (Ev.callN gi (Ags.cons (R' := Is N [v, .type T]) he (fun v' N₁ r => by
      obtain ⟨rfl, rfl⟩ := r
      exact (Ags.oneV (EvV.glob gt hb)).mono fun vs N₂ r₂ => by obtain ⟨rfl, rfl⟩ := r₂; exact ⟨rfl, rfl⟩))
    (fun vs N₁ r => by obtain ⟨rfl, rfl⟩ := r; exact fun s _ _ _ F M q => h s _ _ F M fun tk => q _ _ _ _ F M ⟨rfl, rfl⟩) hg ⟨he.pe, pe_name, trivial⟩) rfl
theorem isi_LL {D : Addr} {vs : List Value} (h : AtL f N D vs) (s : Shared) (Q E : Value → Shared → Prop) (F : f.F s.heap b) (M : f.N s.heap N) (q : ∀ tk, Q (.bool true) { s with toks := tk }) : f.Wp (call (.builtin "isinstance") [.ref D, .type "list"]) Q E s := by
  obtain ⟨o, hg, hc, _⟩ := h.is F M
  exact IsiPair.list_list hg hc (q _)
theorem isi_DL {D : Addr} {kvs : List (Str × Value)} (h : AtD f N D kvs) (s : Shared) (Q E : Value → Shared → Prop) (F : f.F s.heap b) (M : f.N s.heap N) (q : ∀ tk, Q (.bool false) { s with toks := tk }) : f.Wp (call (.builtin "isinstance") [.ref D, .type "list"]) Q E s := by
  obtain ⟨o, hg, hc⟩ := (h.is F M).typeIs
  exact IsiPair.dict_list hg hc (q _)
theorem isi_DD {D : Addr} {kvs : List (Str × Value)} (h : AtD f N D kvs) (s : Shared) (Q E : Value → Shared → Prop) (F : f.F s.heap b) (M : f.N s.heap N) (q : ∀ tk, Q (.bool true) { s with toks := tk }) : f.Wp (call (.builtin "isinstance") [.ref D, .type "dict"]) Q E s := by
  obtain ⟨o, hg, hc⟩ := (h.is F M).typeIs
  exact IsiPair.dict_dict hg hc (q _)
theorem isi_LD {D : Addr} {vs : List Value} (h : AtL f N D vs) (s : Shared) (Q E : Value → Shared → Prop) (F : f.F s.heap b) (M : f.N s.heap N) (q : ∀ tk, Q (.bool false) { s with toks := tk }) : f.Wp (call (.builtin "isinstance") [.ref D, .type "dict"]) Q E s := by
  obtain ⟨o, hg, hc, _⟩ := h.is F M
  exact IsiPair.list_dict hg hc (q _)
theorem isi_SL {x : Str} {t : Tok} (s : Shared) (Q E : Value → Shared → Prop) (F : f.F s.heap b) (M : f.N s.heap N) (q : ∀ tk, Q (.bool false) { s with toks := tk }) : f.Wp (call (.builtin "isinstance") [.str x t, .type "list"]) Q E s := IsiPair.str_list (q _)
theorem isi_SD {x : Str} {t : Tok} (s : Shared) (Q E : Value → Shared → Prop) (F : f.F s.heap b) (M : f.N s.heap N) (q : ∀ tk, Q (.bool false) { s with toks := tk }) : f.Wp (call (.builtin "isinstance") [.str x t, .type "dict"]) Q E s := IsiPair.str_dict (q _)
/-- a new list == [], where there is none in it -/
theorem EvV.noneE {e : Expr} {p1 pos : Pos} {p : Bool} (h : Ev f en b N e (fun v N' => ∃ D vs, v = .ref D ∧ AtL f N' D vs ∧ vs.isEmpty = p ∧ ∀ q ∈ N, q ∈ N')) : EvV f en b N (.Compare e [.Eq] [.List [] p1] pos) (.bool p) :=
  Ev.drop (R := fun v N' => v = .bool p ∧ ∀ q ∈ N, q ∈ N') (Ev.cmp h (fun v N₁ r => by
    obtain ⟨D, vs, rfl, hl, rfl, sub⟩ := r
    exact Ev.lst Ags.nil fun ws N₂ r => by
      obtain ⟨rfl, rfl⟩ := r
      exact (jd_newList (Nat.zero_le _)).mono fun u N₃ r => by
        obtain ⟨D2, its, n, rfl, rfl, off, h0⟩ := r
        have h2 : AtL f ((D2, W.listOf its n) :: N₂) D2 [] := h0 ▸ atL_own List.mem_cons_self
        exact (jd_eqNil (hl.more fun p hp => List.mem_cons_of_mem _ hp) h2).mono fun v N' r => ⟨r.1, fun p hp => by rw [r.2]; exact List.mem_cons_of_mem _ (sub p hp)⟩) rfl) fun v N' r => ⟨N, r.2, r.1, rfl⟩
/-- lists of texts that part or do not -/
theorem Tr.neStrsE {l r : Expr} {pos : Pos} {xs ys : List Str} {R₁ : Value → Led → Prop} (hl : Ev f en b N l R₁) (hr : ∀ v N₁, R₁ v N₁ → ∃ D1 vs, v = .ref D1 ∧ StrsAre vs xs ∧ Ev f en b N₁ r (fun u N₂ => ∃ D2 ws, u = .ref D2 ∧ AtL f N₂ D1 vs ∧ AtL f N₂ D2 ws ∧ StrsAre ws ys ∧ ∀ q ∈ N, q ∈ N₂)) (hm : behindInMarks .NotEq r = false) : Tr f en b N (.Compare l [.NotEq] [r] pos) (xs != ys) :=
  fun s _ _ ok F M q => wpAny_isTrue_Compare1 (hl.jd s _ _ ok F M fun v hp tk N₁ F₁ M₁ r₁ => by
    obtain ⟨D1, vs, rfl, hx, h⟩ := hr v N₁ r₁
    refine h.jd _ _ _ ok F₁ M₁ fun u hp tk N₂ F₂ M₂ r₂ => ?_
    obtain ⟨D2, ws, rfl, a1, a2, hy, sub⟩ := r₂
    refine jd_neStrs a1 a2 hx hy _ _ _ ok F₂ M₂ fun x' hp tk N₃ F₃ M₃ r₃ => ?_
    obtain ⟨rfl, rfl⟩ := r₃
    exact wpAny_truthy_bool (q _ _ _ _ F₃ (fun p hp => M₃ p (sub p hp)) ⟨rfl, rfl⟩)) hm
end
end Mine
end
section
open PySem PySem.W PyProof.Rows PySem.Calls
set_option Elab.async false
set_option maxRecDepth 100000
set_option maxHeartbeats 4000000
set_option linter.unusedVariables false
set_option rowWalk.seconds 0
namespace Mine
theorem piece_len {k : Nat} (hk : k < 8) : (piece k).length ≤ 50000 := by
  match k, hk with
  | 0, _ | 1, _ | 2, _ | 3, _ | 4, _ | 5, _ | 6, _ | 7, _ => decide +kernel
theorem piece_at {k : Nat} (hk : k < 8) : [piece 0, piece 1, piece 2, piece 3, piece 4, piece 5, piece 6, piece 7][k]? = some (piece k) := by
  match k, hk with
  | 0, _ | 1, _ | 2, _ | 3, _ | 4, _ | 5, _ | 6, _ | 7, _ => rfl
theorem c_place (w : World) (p : List Bool) (k : Nat) (t u : Tok) (hk : k < 8) (hp : p.length ≤ 1000) : Pure w 191 4 [] [.str (pt p) t, .int (k : Int) u] (GS (pt (pl p k))) := by
  delta Pure
  k_fill
  refine enter [((Str.ofString "piece"), .int (k : Int) u), ((Str.ofString "here"), .str (pt p) t)] (by k_is) (by k_is) (fun _ _ => BindsTo.of_eq rfl) (locs rfl) rfl rfl rfl (by decide) ?_
  rintro c rfl hrd
  obtain ⟨cs, e1, e2, e3, e4, e5, e6, e7, e8⟩ := place_in p hk hp
  have hpx : (pt p).length ≤ 50000 := by have := pt_len p; omega
  have hn : ((nfold cs).map (·.length)).sum + (nfold cs).length * 1 ≤ 99999 := by
    rw [e6, sum_nm, List.length_map]; have := pl_len p k; omega
  refine Exs.retS (EvS.call1 (g_normpath _) (fun t => c_normpath _ _ cs t e8 e7 e1 e2 e3 e4 e5 hn) (EvS.call2 (g_join _) (fun t u => c_join _ (pt p) (piece k) t u hpx (piece_len hk) (st_ne _)) (EvS.of (EvV.name rfl rfl)) (EvS.item (xs := [piece 0, piece 1, piece 2, piece 3, piece 4, piece 5, piece 6, piece 7]) (k := k) ?_ (fun N' => (EvI.of (EvV.name rfl rfl))) (piece_at hk) (Nat.le_of_ble_eq_true rfl)) rfl rfl rfl) rfl rfl rfl) fun t => RetN.mk (GS.of (by rw [e6]; rfl))
  exact Ags.consS EvS.lit (Ags.consS EvS.lit (Ags.consS EvS.lit (Ags.consS EvS.lit (Ags.consS EvS.lit (Ags.consS EvS.lit (Ags.consS EvS.lit (Ags.consS EvS.lit Ags.nilS)))))))
end Mine
end
section
open PySem PySem.W PyProof.Rows PySem.Calls
set_option Elab.async false
set_option maxRecDepth 100000
set_option maxHeartbeats 4000000
set_option linter.unusedVariables false
set_option rowWalk.seconds 0
namespace Mine
theorem pt_nil : pt [] = (Str.ofString "/") := by decide +kernel
theorem pt_slash (p : List Bool) : (pt p != (Str.ofString "/")) = !p.isEmpty := by
  rw [← pt_nil, Bool.eq_iff_iff]
  cases p with
  | nil => simp
  | cons a r => simp [bne_iff_ne]; intro e; exact absurd (pt_inj e) (by simp)
/-- the texts of a place's ways -/
def ways (p : List Bool) : List Str := (List.range p.length).map fun i => pt (p.take (i + 1))
theorem ways_len (p : List Bool) : (ways p).length = p.length := by simp [ways]
theorem ways_at {p : List Bool} {i : Nat} (h : i < p.length) : (ways p)[i]? = some (pt (p.take (i + 1))) := by simp [ways, h]
theorem take_snoc {p : List Bool} {j : Nat} (h : j < p.length) : ∃ g, p.take (j + 1) = p.take j ++ [g] := ⟨p[j], by rw [List.take_add_one, List.getElem?_eq_getElem h]; rfl⟩
theorem pdir_pt {p : List Bool} {g : Bool} : pdir (pt (p ++ [g])) = pt p ∧ phead (pt (p ++ [g])) ≠ (Str.ofString "") ∧ pbase (pt (p ++ [g])) = nm g := by
  unfold pt
  rw [List.map_append]
  exact ⟨pdir_st (good_nms p) (good_nm g), phead_ne (good_nm g), pbase_st (good_nm g)⟩
def GL (xs : List Str) (r : Value) (nw : Led) : Prop := ∃ D its n, r = .ref D ∧ nw = [(D, W.listOf its n)] ∧ StrsAre its.toList xs
theorem c_ways (w : World) (p : List Bool) (t : Tok) (hp : p.length ≤ 1000) : Pure w 198 3 [] [.str (pt p) t] (GL (ways p)) := by
  delta Pure
  k_fill
  refine enter [((Str.ofString "place"), .str (pt p) t)] (by k_is) (by k_is) (fun _ _ => BindsTo.of_eq rfl) (locs rfl) rfl rfl rfl (by decide) ?_
  rintro c rfl hrd
  refine Exs.asL (Ev.lst Ags.nil fun vs N₁ r => by obtain ⟨rfl, rfl⟩ := r; exact jd_newList (Nat.zero_le _)) (fun D its n _ h0 => ?_) rfl rfl
  refine Exs.asV (EvV.name rfl rfl) ?_ rfl rfl
  have hits : its = #[] := Array.toList_eq_nil_iff.mp h0
  subst hits
  refine Exs.cons (Ex.whileS (fun j b' N' => j ≤ p.length ∧ ∃ its n t, bget b' (Str.ofString "spot") = some (.str (pt (p.take j)) t) ∧ bget b' (Str.ofString "ways") = some (.ref D) ∧ N' = [(D, W.listOf its n)] ∧ StrsAre its.toList ((ways p).drop j)) p.length ⟨Nat.le_refl _, #[], n, t, by rw [List.take_length]; rfl, rfl, rfl, by rw [List.drop_of_length_le (by rw [ways_len]; exact Nat.le_refl _)]; exact .nil⟩ ?_)
  rintro j b' N' ⟨hj, its, n, t, hs, hw, rfl, hI⟩
  refine ⟨_, Tr.neS (EvS.of (EvV.name hs rfl)) EvS.lit, fun h => ?_, fun h => ?_⟩
  · rw [pt_slash] at h
    obtain ⟨k, rfl⟩ : ∃ k, j = k + 1 := by
      cases j with
      | zero => simp at h
      | succ k => exact ⟨k, rfl⟩
    obtain ⟨g, hg⟩ := take_snoc (p := p) (j := k) hj
    obtain ⟨e1, e2, _⟩ := pdir_pt (p := p.take k) (g := g)
    rw [← hg] at e1 e2
    have hsz : its.size ≤ 1000 := by
      have a := strs_len hI
      rw [List.length_drop, ways_len, Array.length_toList] at a
      omega
    have hsp : Sz (pt (p.take (k + 1))) := by have := pt_len (p.take (k + 1)); rw [List.length_take] at this; unfold Sz; omega
    refine Exs.cons (Ex.insert0 (EvV.name hw rfl) List.mem_cons_self EvI.lit (EvV.name hs rfl) (Nat.le_trans hsz (Nat.le_of_ble_eq_true rfl)) (.head (fun _ h => nomatch h)) ?_ ⟨_, rfl⟩ rfl rfl)
    refine Exs.asS (EvS.call1 (g_dirname _) (fun t => c_dirname _ _ t hsp e2) (EvS.of (EvV.name hs rfl)) rfl rfl rfl) (fun t2 => Exs.nil ?_) rfl rfl
    refine ⟨k, Nat.lt_succ_self _, by omega, _, _, t2, by rw [e1]; rfl, hw, rfl, ?_⟩
    have hd : (ways p).drop k = pt (p.take (k + 1)) :: (ways p).drop (k + 1) := by
      rw [List.drop_eq_getElem_cons (by rw [ways_len]; omega)]
      congr 1
      have := ways_at (p := p) (i := k) (by omega)
      rw [List.getElem?_eq_getElem (by rw [ways_len]; omega)] at this
      exact Option.some.inj this
    rw [hd, Array.toList_append]
    exact .cons _ _ hI
  · rw [pt_slash] at h
    have h2 : p.take j = [] := by simpa using h
    have hj0 : (ways p).drop j = ways p := by
      have : j = 0 ∨ p = [] := by
        rcases j with _ | k
        · exact .inl rfl
        · right; simpa using h2
      rcases this with rfl | rfl
      · rfl
      · simp [ways]
    rw [hj0] at hI
    exact Exs.ret (EvV.name hw rfl) fun v N' r => by obtain ⟨rfl, rfl⟩ := r; exact ⟨_, _, .inl rfl, fun _ h => h, D, its, n, rfl, rfl, hI⟩
end Mine
end
section
open PySem PySem.W PyProof.Rows PySem.Calls
set_option Elab.async false
set_option maxRecDepth 100000
set_option maxHeartbeats 4000000
set_option linter.unusedVariables false
set_option rowWalk.seconds 0
namespace Mine
/-- the common beginning -/
def cpre : List Bool → List Bool → List Bool
  | a :: r, b :: s => if a = b then a :: cpre r s else []
  | _, _ => []
abbrev Row := Nat × List Bool
/-- a row, as an object of ro -/
def RowV (ro : Led) (v : Value) (r : Row) : Prop := ∃ a o t u, v = .ref a ∧ (a, o) ∈ ro ∧ IsT o [.int (r.1 : Int) t, .str (pt r.2) u]
def GB (p : Bool) (r : Value) (nw : Led) : Prop := r = .bool p ∧ nw = []
def tAbove (p : List Bool) (r : Row) : Bool := (r.1 : Int) == 3 && (pt (cpre r.2 p) == pt r.2 && true)
def tBelow (p : List Bool) (r : Row) : Bool := pt (cpre r.2 p) == pt p
def letB (rows : List Row) (k : Nat) (p : List Bool) : Bool :=
  if (k : Int) == 2 then (rows.filter (tAbove p)).isEmpty && ((rows.filter (tBelow p)).isEmpty || (rows.filter (tBelow p)).any fun r => (r.1 : Int) == 2 && pt r.2 == pt p)
  else if (k : Int) == 3 then (rows.filter (tAbove p)).isEmpty && (rows.filter (tBelow p)).isEmpty else (rows.filter (tAbove p)).isEmpty
theorem all2_empty {α β : Type} {R : α → β → Prop} {as : List α} {bs : List β} (h : All2 R as bs) : as.isEmpty = bs.isEmpty := by cases h <;> rfl
section
variable {f : Fx} {b : Binds} {N : Led} {en : Env}
theorem RowV.at {ro : Led} {v : Value} {r : Row} (h : RowV ro v r) (hat : ∀ a o, (a, o) ∈ ro → At f N a o) : RowAt f N v ((r.1 : Int), pt r.2) := by
  obtain ⟨a, o, t, u, e, hm, hT⟩ := h
  exact ⟨a, t, u, e, o, hat a o hm, hT⟩
/-- row[0], row[1] -/
theorem EvI.row0 {e : Expr} {pos p1 : Pos} {k : Nat} {v : Value} {r : Int × Str} (h : EvV f en b N e v) (hr : RowAt f N v r) : EvI f en b N (.Subscript e (.Constant (.int 0) k p1) pos) r.1 := by
  obtain ⟨a, t, u, rfl, hT⟩ := hr
  exact EvI.of (EvV.itemT (j := 0) h EvI.lit hT (by decide) (by decide) rfl rfl)
theorem EvS.row1 {e : Expr} {pos p1 : Pos} {k : Nat} {v : Value} {r : Int × Str} (h : EvV f en b N e v) (hr : RowAt f N v r) : EvS f en b N (.Subscript e (.Constant (.int 1) k p1) pos) r.2 := by
  obtain ⟨a, t, u, rfl, hT⟩ := hr
  exact EvS.of (EvV.itemT (j := 1) h EvI.lit hT (by decide) (by decide) rfl rfl)
theorem Ags.zip2 {x y : Str} {D1 D2 : Addr} {vs ms : List Value} {R : Led → Prop} {pos p1 p2 : Pos} (hx : bget b x = some (.ref D1)) (hy : bget b y = some (.ref D2)) (a1 : AtL f N D1 vs) (a2 : AtL f N D2 ms) (hR : R N) (l1 : lB f.cs x .local = true) (l2 : lB f.cs y .local = true) :
    Ags f f.env b N pos [.Name x p1, .Name y p2] (fun ws N₁ => ws = [.ref D1, .ref D2] ∧ AtL f N₁ D1 vs ∧ AtL f N₁ D2 ms ∧ R N₁) := by
  refine Ags.cons (EvV.name hx l1) fun v N₁ r => ?_
  obtain ⟨rfl, rfl⟩ := r
  refine (Ags.oneV (EvV.name hy l2)).mono fun ws N₂ r => ?_
  obtain ⟨rfl, rfl⟩ := r
  exact ⟨rfl, a1, a2, hR⟩
theorem rows_map {ro : Led} {zs : List Value} {rs : List Row} (h : All2 (RowV ro) zs rs) (hat : ∀ a o, (a, o) ∈ ro → At f N a o) : All2 (RowAt f N) zs (rs.map fun r => ((r.1 : Int), pt r.2)) := by
  induction h with
  | nil => exact .nil
  | cons r _ ih => exact .cons (r.at hat) ih
end
theorem c_let (w : World) (D1 D2 : Addr) (o1 o2 : Obj) (vs ms : List Value) (ro : Led) (rows : List Row) (k : Nat) (p : List Bool) (t u : Tok) (h1 : IsL o1 vs) (h2 : IsL o2 ms) (hv : All2 (RowV ro) vs rows) (hm : StrsAre ms (rows.map fun r => pt (cpre r.2 p))) (hz : rows.length ≤ 1000) :
    Pure w 210 1 ((D1, o1) :: (D2, o2) :: ro) [.ref D1, .ref D2, .int (k : Int) t, .str (pt p) u] (GB (letB rows k p)) := by
  delta Pure
  k_fill
  refine enterC [((Str.ofString "place"), .str (pt p) u), ((Str.ofString "kind"), .int (k : Int) t), ((Str.ofString "meets"), .ref D2), ((Str.ofString "current"), .ref D1)] [((Str.ofString "kind"), .int (k : Int) t), ((Str.ofString "meets"), .ref D2), ((Str.ofString "current"), .ref D1)] (by k_is) (by k_is) (fun _ _ => BindsTo.of_eq rfl) rfl (by decide) rfl rfl rfl (fun _ _ => rfl) ?_
  rintro c cells news rfl hcells hrd lo
  have hcells : CellsAre _ [((Str.ofString "place"), c.L + 1)] cells := hcells
  obtain ⟨oc, rfl, hoc⟩ := hcells.one
  have hoc : oc.data = .cell (some (.str (pt p) u)) := hoc
  show Exs _ _ ((c.L + 1, oc) :: news) _ _
  have sub : ∀ q ∈ news, q ∈ (c.L + 1, oc) :: news := fun q hq => List.mem_cons_of_mem _ hq
  have hlen := hv.len
  have hml : ms.length = rows.length := by have := strs_len hm; simpa using this
  have hzip : vs.length = ms.length := by omega
  have mth : ∀ {i : Nat} {r : Row} {u₂ : Value}, rows[i]? = some r → ms[i]? = some u₂ → ∃ t, u₂ = .str (pt (cpre r.2 p)) t := fun {i r u₂} hr hu => by
    obtain ⟨c, t, e, hc⟩ := strs_get hm hu
    rw [List.getElem?_map, hr] at hc
    exact ⟨t, by rw [e, ← Option.some.inj hc]⟩
  have rw1 : ∀ {i : Nat} {r : Row} {u₁ : Value}, rows[i]? = some r → vs[i]? = some u₁ → RowV ro u₁ r := fun {i r u₁} hr hu => by
    obtain ⟨r', hr', q⟩ := hv.get hu
    rw [hr] at hr'
    exact Option.some.inj hr' ▸ q
  refine Exs.asC (n := vs.length) (fun i ys N' => N' = (c.L + 1, oc) :: news ∧ All2 (RowV ro) ys ((rows.take i).filter (tAbove p))) (Src.zip (b_zip _) (Ags.zip2 rfl rfl ⟨o1, at_rd hrd sub List.mem_cons_self, h1⟩ ⟨o2, at_rd hrd sub (List.mem_cons_of_mem _ List.mem_cons_self), h2⟩ ⟨rfl, .nil⟩ rfl rfl) hzip rfl ⟨pe_name, pe_name, trivial⟩) (fun C => Takes.pair (VP := fun i u₁ u₂ => vs[i]? = some u₁ ∧ ms[i]? = some u₂) (fun i v hp h => h) rfl rfl rfl rfl) (by omega)
    (filt_turn (tAbove p) hlen (fun i r m X W C oC hr hV T ht => ?_) (fun i r m X W C oC hr hV T => ?_)) (fun D ys N' off j => ?_) rfl rfl rfl rfl (fun _ => rfl)
  · obtain ⟨u₁, u₂, e1, e2, i1, i2⟩ := hV
    exact (EvV.cn T (fun q hq => List.mem_append_left _ hq) e1 rfl).jd.mono fun v N₃ q => by obtain ⟨rfl, rfl⟩ := q; exact ⟨fun _ h => h, rw1 hr i1⟩
  · obtain ⟨u₁, u₂, e1, e2, i1, i2⟩ := hV
    obtain ⟨t2, rfl⟩ := mth hr i2
    exact Tr.all (jd_and (Tr.eqI (EvI.row0 (EvV.cn T (fun q hq => List.mem_append_left _ hq) e1 rfl) ((rw1 hr i1).at fun a o ha => at_rd hrd (fun q hq => List.mem_append_right _ (sub q hq)) (List.mem_cons_of_mem _ (List.mem_cons_of_mem _ ha)))) EvI.lit) fun _ => jd_and (Tr.eqS (EvS.of (EvV.cn T (fun q hq => List.mem_append_left _ hq) e2 rfl)) (EvS.row1 (EvV.cn T (fun q hq => List.mem_append_left _ hq) e1 rfl) ((rw1 hr i1).at fun a o ha => at_rd hrd (fun q hq => List.mem_append_right _ (sub q hq)) (List.mem_cons_of_mem _ (List.mem_cons_of_mem _ ha))))) fun _ => jd_and0)
  obtain ⟨rfl, hA⟩ := j
  rw [hlen, List.take_length] at hA
  have sub2 : ∀ q ∈ news, q ∈ (D, lsO ys) :: (c.L + 1, oc) :: news := fun q hq => List.mem_cons_of_mem _ (sub q hq)
  refine Exs.asC (n := vs.length) (fun i zs N' => N' = (D, lsO ys) :: (c.L + 1, oc) :: news ∧ All2 (RowV ro) zs ((rows.take i).filter (tBelow p))) (Src.zip (b_zip _) (Ags.zip2 rfl rfl ⟨o1, at_rd hrd sub2 List.mem_cons_self, h1⟩ ⟨o2, at_rd hrd sub2 (List.mem_cons_of_mem _ List.mem_cons_self), h2⟩ ⟨rfl, .nil⟩ rfl rfl) hzip rfl ⟨pe_name, pe_name, trivial⟩) (fun C => Takes.pair (VP := fun i u₁ u₂ => vs[i]? = some u₁ ∧ ms[i]? = some u₂) (fun i v hp h => h) rfl rfl rfl rfl) (by omega)
    (filt_turn (tBelow p) hlen (fun i r m X W C oC hr hV T ht => ?_) (fun i r m X W C oC hr hV T => ?_)) (fun D' zs N' off2 j => ?_) rfl rfl rfl rfl (fun _ => rfl)
  · obtain ⟨u₁, u₂, e1, e2, i1, i2⟩ := hV
    exact (EvV.cn T (fun q hq => List.mem_append_left _ hq) e1 rfl).jd.mono fun v N₃ q => by obtain ⟨rfl, rfl⟩ := q; exact ⟨fun _ h => h, rw1 hr i1⟩
  · obtain ⟨u₁, u₂, e1, e2, i1, i2⟩ := hV
    obtain ⟨t2, rfl⟩ := mth hr i2
    exact Tr.eqS (EvS.of (EvV.cn T (fun q hq => List.mem_append_left _ hq) e2 rfl)) (EvS.of (EvV.ccell (c := c.L + 1) rfl (List.mem_append_right _ (List.mem_cons_of_mem _ List.mem_cons_self)) hoc rfl))
  obtain ⟨rfl, hB⟩ := j
  rw [hlen, List.take_length] at hB
  have hN : ∀ q ∈ news, q ∈ (D', lsO zs) :: (D, lsO ys) :: (c.L + 1, oc) :: news := fun q hq => List.mem_cons_of_mem _ (sub2 q hq)
  have eA := all2_empty hA
  have eB := all2_empty hB
  have fin : ∀ {q : Bool}, q = letB rows k p → ∀ (b : Binds), RetC news (GB (letB rows k p)) (.ret (.bool q)) b ((D', lsO zs) :: (D, lsO ys) :: (c.L + 1, oc) :: news) := fun e b => RetC.mk hN ⟨by rw [e], rfl⟩
  refine Exs.ifs (Tr.eqI (EvI.of (EvV.name rfl rfl)) EvI.lit) (fun hk => ?_) fun hk => Exs.nil (Exs.ifs (Tr.eqI (EvI.of (EvV.name rfl rfl)) EvI.lit) (fun hk3 => ?_) fun hk3 => Exs.nil ?_)
  · refine Exs.retV (EvV.andB (q := letB rows k p) (EvV.eqNil (EvV.name rfl rfl) (atL_lst (List.mem_cons_of_mem _ List.mem_cons_self))) (fun hA1 => EvV.lastB (EvV.orB (q := letB rows k p) (EvV.eqNil (EvV.name rfl rfl) (atL_lst List.mem_cons_self)) (fun hB1 => EvV.lastB ((EvV.inRows EvI.lit (EvS.of (EvV.cell (c := c.L + 1) rfl (List.mem_cons_of_mem _ (List.mem_cons_of_mem _ List.mem_cons_self)) hoc rfl)) (fun N' => (EvV.name rfl rfl)) (atL_lst List.mem_cons_self) (rows_map hB fun a o ha => at_rd hrd hN (List.mem_cons_of_mem _ (List.mem_cons_of_mem _ ha)))).mono fun v N' r => ⟨by rw [r.1, letB, hk, ← eA, ← eB, hA1, hB1, List.any_map]; rfl, r.2⟩)) fun hB1 => by rw [letB, hk, ← eA, ← eB, hA1, hB1]; rfl)) fun hA1 => by rw [letB, hk, ← eA, hA1]; rfl) (fin rfl [])
  · exact Exs.retV (EvV.andB (q := letB rows k p) (EvV.eqNil (EvV.name rfl rfl) (atL_lst (List.mem_cons_of_mem _ List.mem_cons_self))) (fun hA1 => EvV.lastB ((EvV.eqNil (EvV.name rfl rfl) (atL_lst List.mem_cons_self)).mono fun v N' r => ⟨by rw [r.1, letB, hk, hk3, ← eA, ← eB, hA1]; rfl, r.2⟩)) fun hA1 => by rw [letB, hk, hk3, ← eA, hA1]; rfl) (fin rfl [])
  · exact Exs.retV (EvV.eqNil (EvV.name rfl rfl) (atL_lst (List.mem_cons_of_mem _ List.mem_cons_self))) (fin (by unfold letB; rw [hk, hk3]; exact eA) [])
end Mine
end
section
open PySem PySem.W PyProof.Rows PySem.Calls
set_option Elab.async false
set_option maxRecDepth 100000
set_option maxHeartbeats 4000000
set_option linter.unusedVariables false
set_option rowWalk.seconds 0
namespace Mine
def tKeep (p : List Bool) (r : Row) : Bool := (pt r.2 == pt p) || ((pt (cpre r.2 p) != pt p) || false)
def keptB (rows : List Row) (k : Nat) (p : List Bool) : List Row := if (k : Int) == 2 then rows.filter (tKeep p) else rows
/-- kept rows, and a new one -/
def GN (ro : Led) (kept : List Row) (k : Nat) (p : List Bool) (r : Value) (nw : Led) : Prop := ∃ D ys its n E t u, r = .ref D ∧ nw = [(D, W.listOf its n), (E, tupO [.int (k : Int) t, .str (pt p) u])] ∧ its.toList = ys ++ [.ref E] ∧ All2 (RowV ro) ys kept ∧ D ≠ E
theorem filt_le {rows : List Row} {k : Nat} {p : List Bool} : (keptB rows k p).length ≤ rows.length := by
  unfold keptB
  split
  · exact List.length_filter_le _ _
  · exact Nat.le_refl _
section
variable {f : Fx} {b : Binds} {N : Led} {rest : List Stmt}
/-- return kept + [(kind, place)] -/
theorem ret_noted {ro news : Led} {l e1 e2 : Expr} {k2 : Nat} {tp lp pos rp : Pos} {D : Addr} {ys : List Value} {kept : List Row} {k : Nat} {p : List Bool} (hl : EvV f f.env b N l (.ref D)) (h1 : EvI f f.env b N e1 (k : Int)) (h2 : EvS f f.env b N e2 (pt p)) (hA : AtL f N D ys) (hv : All2 (RowV ro) ys kept) (hz : kept.length ≤ 1000) (hN : ∀ q ∈ news, q ∈ N) :
    Exs f b N (.Return (some (.BinOp l .Add (.List [.Tuple [e1, e2] k2 tp] lp) pos)) rp :: rest) (RetC news (GN ro kept k p)) := by
  refine Exs.ret (R := fun v N' => ∃ D' its n E t u, v = .ref D' ∧ N' = (D', W.listOf its n) :: (E, tupO [.int (k : Int) t, .str (pt p) u]) :: N ∧ (∀ q ∈ (E, tupO [.int (k : Int) t, .str (pt p) u]) :: N, q.1 ≠ D') ∧ (∀ q ∈ N, q.1 ≠ E) ∧ its.toList = ys ++ [.ref E]) ?_ ?_
  · refine Ev.bin hl fun v N₁ r => ?_
    obtain ⟨rfl, rfl⟩ := r
    refine Ev.lst (RA := fun vs N' => ∃ E t u, vs = [.ref E] ∧ N' = (E, tupO [.int (k : Int) t, .str (pt p) u]) :: N₁ ∧ ∀ q ∈ N₁, q.1 ≠ E) (Ags.cons (Ev.pairIS h1 h2) fun v N₂ r => Ags.nil.mono fun vs N₃ r₂ => ?_) fun vs N₂ r => ?_
    · obtain ⟨E, t, u, rfl, rfl, off⟩ := r
      obtain ⟨rfl, rfl⟩ := r₂
      exact ⟨E, t, u, rfl, rfl, off⟩
    · obtain ⟨E, t, u, rfl, rfl, off⟩ := r
      refine (jd_newList (Nat.le_of_ble_eq_true rfl)).mono fun v N₃ r => ?_
      obtain ⟨D2, its, n, rfl, rfl, off2, e⟩ := r
      have a2 : AtL f ((D2, W.listOf its n) :: (E, tupO [.int (k : Int) t, .str (pt p) u]) :: N₁) D2 [.ref E] := e ▸ atL_own List.mem_cons_self
      refine (jd_addL (hA.more fun q hq => List.mem_cons_of_mem _ (List.mem_cons_of_mem _ hq)) a2 (by rw [hv.len]; simp; omega)).drop fun v N' r => ?_
      obtain ⟨D3, its3, n3, rfl, rfl, off3, e3⟩ := r
      exact ⟨(D3, W.listOf its3 n3) :: (E, tupO [.int (k : Int) t, .str (pt p) u]) :: N₁, fun q hq => by
        rcases List.mem_cons.mp hq with rfl | hq
        · exact List.mem_cons_self
        · exact List.mem_cons_of_mem _ (List.mem_cons_of_mem _ hq), D3, its3, n3, E, t, u, rfl, rfl, fun q hq => off3 q (List.mem_cons_of_mem _ hq), off, e3⟩
  · rintro v N' ⟨D', its, n, E, t, u, rfl, rfl, o1, o2, e⟩
    refine ⟨_, [(D', W.listOf its n), (E, tupO [.int (k : Int) t, .str (pt p) u])], rfl, fun q hq => List.mem_cons_of_mem _ (List.mem_cons_of_mem _ (hN q hq)), fun q hq => ?_, fun q hq r hr => ?_, D', ys, its, n, E, t, u, rfl, rfl, e, hv, Ne.symm (o1 _ List.mem_cons_self)⟩
    · rcases List.mem_cons.mp hq with rfl | hq
      · exact List.mem_cons_self
      · rw [List.mem_singleton.mp hq]; exact List.mem_cons_of_mem _ List.mem_cons_self
    · rcases List.mem_cons.mp hq with rfl | hq
      · exact o1 r (List.mem_cons_of_mem _ (hN r hr))
      · rw [List.mem_singleton.mp hq]; exact o2 r (hN r hr)
end
theorem c_noted (w : World) (D1 D2 : Addr) (o1 o2 : Obj) (vs ms : List Value) (ro : Led) (rows : List Row) (k : Nat) (p : List Bool) (t u : Tok) (h1 : IsL o1 vs) (h2 : IsL o2 ms) (hv : All2 (RowV ro) vs rows) (hm : StrsAre ms (rows.map fun r => pt (cpre r.2 p))) (hz : rows.length ≤ 1000) :
    Pure w 215 1 ((D1, o1) :: (D2, o2) :: ro) [.ref D1, .ref D2, .int (k : Int) t, .str (pt p) u] (GN ro (keptB rows k p) k p) := by
  delta Pure
  k_fill
  refine enterC [((Str.ofString "place"), .str (pt p) u), ((Str.ofString "kind"), .int (k : Int) t), ((Str.ofString "meets"), .ref D2), ((Str.ofString "current"), .ref D1)] [((Str.ofString "kind"), .int (k : Int) t), ((Str.ofString "meets"), .ref D2), ((Str.ofString "current"), .ref D1)] (by k_is) (by k_is) (fun _ _ => BindsTo.of_eq rfl) rfl (by decide) rfl rfl rfl (fun _ _ => rfl) ?_
  rintro c cells news rfl hcells hrd lo
  have hcells : CellsAre _ [((Str.ofString "place"), c.L + 1)] cells := hcells
  obtain ⟨oc, rfl, hoc⟩ := hcells.one
  have hoc : oc.data = .cell (some (.str (pt p) u)) := hoc
  show Exs _ _ ((c.L + 1, oc) :: news) _ _
  have sub : ∀ q ∈ news, q ∈ (c.L + 1, oc) :: news := fun q hq => List.mem_cons_of_mem _ hq
  have hlen := hv.len
  have hml : ms.length = rows.length := by have := strs_len hm; simpa using this
  have hzip : vs.length = ms.length := by omega
  have mth : ∀ {i : Nat} {r : Row} {u₂ : Value}, rows[i]? = some r → ms[i]? = some u₂ → ∃ t, u₂ = .str (pt (cpre r.2 p)) t := fun {i r u₂} hr hu => by
    obtain ⟨c, t, e, hc⟩ := strs_get hm hu
    rw [List.getElem?_map, hr] at hc
    exact ⟨t, by rw [e, ← Option.some.inj hc]⟩
  have rw1 : ∀ {i : Nat} {r : Row} {u₁ : Value}, rows[i]? = some r → vs[i]? = some u₁ → RowV ro u₁ r := fun {i r u₁} hr hu => by
    obtain ⟨r', hr', q⟩ := hv.get hu
    rw [hr] at hr'
    exact Option.some.inj hr' ▸ q
  refine Exs.asV (EvV.name rfl rfl) ?_ rfl rfl
  refine Exs.ifs (Tr.eqI (EvI.of (EvV.name rfl rfl)) EvI.lit) (fun hk => ?_) fun hk => Exs.nil ?_
  · refine Exs.asC (n := vs.length) (fun i ys N' => N' = (c.L + 1, oc) :: news ∧ All2 (RowV ro) ys ((rows.take i).filter (tKeep p))) (Src.zip (b_zip _) (Ags.zip2 rfl rfl ⟨o1, at_rd hrd sub List.mem_cons_self, h1⟩ ⟨o2, at_rd hrd sub (List.mem_cons_of_mem _ List.mem_cons_self), h2⟩ ⟨rfl, .nil⟩ rfl rfl) hzip rfl ⟨pe_name, pe_name, trivial⟩) (fun C => Takes.pair (VP := fun i u₁ u₂ => vs[i]? = some u₁ ∧ ms[i]? = some u₂) (fun i v hp h => h) rfl rfl rfl rfl) (by omega)
      (filt_turn (tKeep p) hlen (fun i r m X W C oC hr hV T ht => ?_) (fun i r m X W C oC hr hV T => ?_)) (fun D ys N' off j => ?_) rfl rfl rfl rfl (fun _ => rfl)
    · obtain ⟨u₁, u₂, e1, e2, i1, i2⟩ := hV
      exact (EvV.cn T (fun q hq => List.mem_append_left _ hq) e1 rfl).jd.mono fun v N₃ q => by obtain ⟨rfl, rfl⟩ := q; exact ⟨fun _ h => h, rw1 hr i1⟩
    · obtain ⟨u₁, u₂, e1, e2, i1, i2⟩ := hV
      obtain ⟨t2, rfl⟩ := mth hr i2
      have hpl : ∀ (f : Fx) (en : Env) (b : Binds), f.c = c → True := fun _ _ _ _ => trivial
      exact Tr.all (jd_or (Tr.eqS (EvS.row1 (EvV.cn T (fun q hq => List.mem_append_left _ hq) e1 rfl) ((rw1 hr i1).at fun a o ha => at_rd hrd (fun q hq => List.mem_append_right _ (sub q hq)) (List.mem_cons_of_mem _ (List.mem_cons_of_mem _ ha)))) (EvS.of (EvV.ccell (c := c.L + 1) rfl (List.mem_append_right _ List.mem_cons_self) hoc rfl))) fun _ =>
        jd_or (Tr.neS (EvS.of (EvV.cn T (fun q hq => List.mem_append_left _ hq) e2 rfl)) (EvS.of (EvV.ccell (c := c.L + 1) rfl (List.mem_append_right _ List.mem_cons_self) hoc rfl))) fun _ => jd_or0)
    · obtain ⟨rfl, hA⟩ := j
      rw [hlen, List.take_length] at hA
      have e : keptB rows k p = rows.filter (tKeep p) := by unfold keptB; rw [hk]; rfl
      rw [e]
      exact Exs.nil (ret_noted (EvV.name rfl rfl) (EvI.of (EvV.name rfl rfl)) (EvS.of (EvV.cell (c := c.L + 1) rfl (List.mem_cons_of_mem _ List.mem_cons_self) hoc rfl)) (atL_lst List.mem_cons_self) hA (Nat.le_trans (List.length_filter_le _ _) hz) fun q hq => List.mem_cons_of_mem _ (sub q hq))
  · have e : keptB rows k p = rows := by unfold keptB; rw [hk]; rfl
    rw [e]
    exact ret_noted (EvV.name rfl rfl) (EvI.of (EvV.name rfl rfl)) (EvS.of (EvV.cell (c := c.L + 1) rfl List.mem_cons_self hoc rfl)) ⟨o1, at_rd hrd sub List.mem_cons_self, h1⟩ hv hz sub
end Mine
end
section
open PySem PySem.W PyProof.Rows PySem.Calls
set_option Elab.async false
set_option maxRecDepth 100000
set_option maxHeartbeats 4000000
set_option linter.unusedVariables false
set_option rowWalk.seconds 0
namespace Mine
/-- the text of a number -/
def num (n : Nat) : Str := Str.ofString (toString (n : Int))
theorem good_num {n : Nat} (h : n < 30) : Good (num n) ∧ (num n).length ≤ 2 := by
  have : ∀ n : Fin 30, (num n.1 ≠ Str.ofString "" ∧ 47 ∉ cl (num n.1)) ∧ (num n.1).length ≤ 2 := by decide +kernel
  exact ⟨(this ⟨n, h⟩).1, (this ⟨n, h⟩).2⟩
/-- the tables behind the list at q -/
def cntB (rows : List Row) (q : List Bool) : Nat := (rows.filter fun r => (r.1 : Int) == 2 && pt r.2 == pt q).length
theorem cntB_le {rows : List Row} {q : List Bool} : cntB rows q ≤ rows.length := List.length_filter_le _ _
/-- where a place's way leads, and the spots that it touches -/
def fullTo (rows : List Row) (p : List Bool) : Nat → List Str
  | 0 => []
  | i + 1 => if cntB rows (p.take (i + 1)) = 0 then fullTo rows p i ++ [nm (p.getD i false)] else fullTo rows p i ++ [nm (p.getD i false)] ++ [num (cntB rows (p.take (i + 1)) - 1)]
def spotsTo (rows : List Row) (p : List Bool) : Nat → List (List Str)
  | 0 => []
  | i + 1 => spotsTo rows p i ++ if cntB rows (p.take (i + 1)) = 0 then [fullTo rows p i ++ [nm (p.getD i false)]] else [fullTo rows p i ++ [nm (p.getD i false)], fullTo rows p (i + 1)]
theorem full_good {rows : List Row} {p : List Bool} (hz : rows.length ≤ 20) : ∀ i, (∀ g ∈ fullTo rows p i, Good g ∧ g.length ≤ 2) ∧ (fullTo rows p i).length ≤ 2 * i
  | 0 => ⟨fun _ h => (nomatch h), Nat.le_refl _⟩
  | i + 1 => by
    obtain ⟨h1, h2⟩ := full_good hz (p := p) i
    have hn : Good (nm (p.getD i false)) ∧ (nm (p.getD i false)).length ≤ 2 := ⟨good_nm _, by rw [nm_len]; decide⟩
    have hc := good_num (n := cntB rows (p.take (i + 1)) - 1) (by have := cntB_le (rows := rows) (q := p.take (i + 1)); omega)
    unfold fullTo
    split
    · refine ⟨fun g hg => ?_, by simp; omega⟩
      rcases List.mem_append.mp hg with hg | hg
      · exact h1 g hg
      · rw [List.mem_singleton.mp hg]; exact hn
    · refine ⟨fun g hg => ?_, by simp; omega⟩
      rcases List.mem_append.mp hg with hg | hg
      · rcases List.mem_append.mp hg with hg | hg
        · exact h1 g hg
        · rw [List.mem_singleton.mp hg]; exact hn
      · rw [List.mem_singleton.mp hg]; exact hc
theorem st_len {l : List Str} (h : ∀ g ∈ l, g.length ≤ 2) : (st l).length ≤ 3 * l.length + 1 := by
  rw [cl_len, cl_st]
  have h1 := jl_len (l.map cl)
  have h2 : ((l.map cl).map (·.length)).sum ≤ 2 * l.length := by
    clear h1
    induction l with
    | nil => simp
    | cons a r ih =>
      have ha := h a (by simp)
      rw [cl_len] at ha
      have := ih fun g hg => h g (List.mem_cons_of_mem _ hg)
      simp only [List.map_cons, List.sum_cons, List.length_cons]
      omega
  simp only [List.length_cons, List.length_map] at h1 ⊢
  omega
theorem take_getD {p : List Bool} {i : Nat} (h : i < p.length) : p.take (i + 1) = p.take i ++ [p.getD i false] := by
  rw [List.take_add_one, List.getElem?_eq_getElem h]
  simp [List.getD, List.getElem?_eq_getElem h]
theorem c_spots (w : World) (D1 : Addr) (o1 : Obj) (vs : List Value) (ro : Led) (rows : List Row) (p : List Bool) (t : Tok) (h1 : IsL o1 vs) (hv : All2 (RowV ro) vs rows) (hz : rows.length ≤ 20) (hp : p.length ≤ 1000) :
    Pure w 220 4 ((D1, o1) :: ro) [.ref D1, .str (pt p) t] (GL ((spotsTo rows p p.length).map st)) := by
  delta Pure
  k_fill
  refine enterC [((Str.ofString "place"), .str (pt p) t), ((Str.ofString "current"), .ref D1)] [((Str.ofString "place"), .str (pt p) t), ((Str.ofString "current"), .ref D1)] (by k_is) (by k_is) (fun _ _ => BindsTo.of_eq rfl) rfl (by decide) rfl rfl rfl (fun _ _ => rfl) ?_
  rintro c cells news rfl hcells hrd lo
  have hcells : CellsAre _ [((Str.ofString "way"), c.L + 1)] cells := hcells
  obtain ⟨oc, rfl, hoc⟩ := hcells.one
  have hoc : oc.data = .cell none := hoc
  show Exs _ _ ((c.L + 1, oc) :: news) _ _
  have hlen := hv.len
  have nlo : ∀ q ∈ news, q.1 ≠ c.L + 1 := fun q hq e => absurd (lo q hq) (by rw [e]; exact Nat.not_lt.mpr (Nat.le_succ _))
  refine Exs.asL (Ev.lst Ags.nil fun vs N₁ r => by obtain ⟨rfl, rfl⟩ := r; exact jd_newList (Nat.zero_le _)) (fun S its n offS h0 => ?_) rfl rfl
  have hits : its = #[] := Array.toList_eq_nil_iff.mp h0
  subst hits
  refine Exs.asS EvS.lit (fun t2 => ?_) rfl rfl
  have hSc : S ≠ c.L + 1 := Ne.symm (offS _ List.mem_cons_self)
  have hSn : ∀ q ∈ news, q.1 ≠ S := fun q hq => offS q (List.mem_cons_of_mem _ hq)
  refine Exs.cons (Ex.forCX (c := c.L + 1) rfl (Ev.call (g_law_ways _) (Ags.one (EvS.of (EvV.name rfl rfl))) (fun ws N₁ r => ?_) rfl ⟨pe_name, trivial⟩ rfl) rfl)
  obtain ⟨⟨t3, rfl⟩, rfl⟩ := r
  refine ⟨[], 3, _, c_ways _ p t3 hp, Nat.le_of_ble_eq_true rfl, (fun _ h => nomatch h), fun r nw ap h => ?_⟩
  obtain ⟨Wl, wits, wn, rfl, rfl, hW⟩ := h
  have hWS : S ≠ Wl := ap _ List.mem_cons_self _ List.mem_cons_self
  have hWc : c.L + 1 ≠ Wl := ap _ List.mem_cons_self _ (List.mem_cons_of_mem _ List.mem_cons_self)
  refine ⟨Wl, W.listOf wits wn, wits.toList, rfl, .inl List.mem_cons_self, ⟨.inl rfl, wn, by simp [W.listOf]⟩, fun i b' N' => ∃ its n oc' v t3, N' = (Wl, W.listOf wits wn) :: (S, W.listOf its n) :: (c.L + 1, oc') :: news ∧ oc'.data = .cell v ∧ bget b' (Str.ofString "spots") = some (.ref S) ∧ bget b' (Str.ofString "spot") = some (.str (st (fullTo rows p i)) t3) ∧ bget b' (Str.ofString "current") = some (.ref D1) ∧ StrsAre its.toList ((spotsTo rows p i).map st) ∧ its.size ≤ 2 * i,
    ⟨#[], n, oc, none, t2, rfl, hoc, rfl, rfl, rfl, .nil, Nat.zero_le _⟩, ?_, ?_⟩
  · rintro i v b' N' X Wd hv' L ⟨its, n, oc', v0, t4, rfl, hd0, b1, b2, b3, hI, hsz⟩
    have hi : i < p.length := by
      have a := strs_len hW
      rw [ways_len] at a
      rcases Nat.lt_or_ge i wits.toList.length with c | c
      · omega
      · rw [List.getElem?_eq_none c] at hv'; cases hv'
    obtain ⟨x, t5, rfl, hx⟩ := strs_get hW hv'
    rw [ways_at hi] at hx
    obtain rfl := Option.some.inj hx
    have mS : (S, W.listOf its n) ∈ (Wl, W.listOf wits wn) :: (S, W.listOf its n) :: (c.L + 1, oc') :: news := List.mem_cons_of_mem _ List.mem_cons_self
    have mc : (c.L + 1, oc') ∈ (Wl, W.listOf wits wn) :: (S, W.listOf its n) :: (c.L + 1, oc') :: news := List.mem_cons_of_mem _ (List.mem_cons_of_mem _ List.mem_cons_self)
    have xS := L.ne mS (by simpa using hWS)
    have xc := L.ne mc (by simpa using hWc)
    refine ⟨oc', v0, _, updF_app xc (.tail (Ne.symm hWc) (.tail hSc (.head nlo))), hd0, fun o' hd' => ?_⟩
    obtain ⟨fg, fl⟩ := full_good (p := p) hz i
    have fst : (st (fullTo rows p i)).length ≤ 50000 := by have := st_len fun g hg => (fg g hg).2; omega
    obtain ⟨_, _, hbn⟩ := pdir_pt (p := p.take i) (g := p.getD i false)
    rw [← take_getD hi] at hbn
    have szq : Sz (pt (p.take (i + 1))) := by have := pt_len (p.take (i + 1)); rw [List.length_take] at this; unfold Sz; omega
    have hj1 := pjoin_good (fun g hg => (fg g hg).1) (good_nm (p.getD i false))
    refine Exs.asS (EvS.is (EvS.call2 (g_join _) (fun t u => c_join _ (st (fullTo rows p i)) (nm (p.getD i false)) t u fst (by rw [nm_len]; decide) (st_ne _)) (EvS.of (EvV.name b2 rfl)) (EvS.is (EvS.call1 (g_basename _) (fun t => c_basename _ _ t szq) (EvS.of (EvV.cell (c := c.L + 1) rfl (List.mem_append_right _ (List.mem_cons_of_mem _ (List.mem_cons_of_mem _ List.mem_cons_self))) hd' rfl)) rfl rfl rfl) hbn) rfl rfl rfl) hj1) (fun t6 => ?_) rfl rfl
    have offW : ∀ (its' : Array Value) (n' : Nat) (o'' : Obj), ∀ q ∈ (Wl, W.listOf wits wn) :: (S, W.listOf its' n') :: (c.L + 1, o'') :: news, q.1 ∉ Wd := fun its' n' o'' q hq => by
      rcases List.mem_cons.mp hq with rfl | hq
      · exact L.off _ List.mem_cons_self
      rcases List.mem_cons.mp hq with rfl | hq
      · exact (show S ∉ Wd from L.off (S, W.listOf its n) mS)
      rcases List.mem_cons.mp hq with rfl | hq
      · exact (show c.L + 1 ∉ Wd from L.off (c.L + 1, oc') mc)
      · exact L.off _ (List.mem_cons_of_mem _ (List.mem_cons_of_mem _ (List.mem_cons_of_mem _ hq)))
    have upS : ∀ (its1 : Array Value) (n1 : Nat) (v : Value), Upd S (W.listOf its1 n1) (W.listOf (its1.push v) (n1 + 1)) (X ++ (Wl, W.listOf wits wn) :: (S, W.listOf its1 n1) :: (c.L + 1, o') :: news) (X ++ (Wl, W.listOf wits wn) :: (S, W.listOf (its1.push v) (n1 + 1)) :: (c.L + 1, o') :: news) := fun its1 n1 v =>
      upd_app xS (.tail (Ne.symm hWS) (.head fun q hq => by
        rcases List.mem_cons.mp hq with rfl | hq
        · exact Ne.symm hSc
        · exact hSn q hq))
    have memS : ∀ (its1 : Array Value) (n1 : Nat) , (S, W.listOf its1 n1) ∈ X ++ (Wl, W.listOf wits wn) :: (S, W.listOf its1 n1) :: (c.L + 1, o') :: news := fun its1 n1 => List.mem_append_right _ (List.mem_cons_of_mem _ List.mem_cons_self)
    refine Exs.cons (Ex.append (EvV.name (bset _ (by decide) |>.trans b1) rfl) (memS _ _) (EvV.name rfl rfl) (by omega) ?_ ⟨_, rfl⟩ rfl rfl)
    rintro v N₁ ⟨rfl, rfl⟩
    refine ⟨_, upS _ _ _, ?_⟩
    have hcur : ∀ q ∈ news, q ∈ X ++ (Wl, W.listOf wits wn) :: (S, W.listOf (its.push (.str (st (fullTo rows p i ++ [nm (p.getD i false)])) t6)) (n + 1)) :: (c.L + 1, o') :: news := fun q hq => List.mem_append_right _ (List.mem_cons_of_mem _ (List.mem_cons_of_mem _ (List.mem_cons_of_mem _ hq)))
    have mo' : (c.L + 1, o') ∈ X ++ (Wl, W.listOf wits wn) :: (S, W.listOf (its.push (.str (st (fullTo rows p i ++ [nm (p.getD i false)])) t6)) (n + 1)) :: (c.L + 1, o') :: news := List.mem_append_right _ (List.mem_cons_of_mem _ (List.mem_cons_of_mem _ List.mem_cons_self))
    have hcnt := cntB_le (rows := rows) (q := p.take (i + 1))
    refine Exs.asI (y := (cntB rows (p.take (i + 1)) : Int)) (EvI.lenE (b_len _) (Ev.lcomp (n := vs.length) (fun j ys N' => N' = X ++ (Wl, W.listOf wits wn) :: (S, W.listOf (its.push (.str (st (fullTo rows p i ++ [nm (p.getD i false)])) t6)) (n + 1)) :: (c.L + 1, o') :: news ∧ All2 (RowV ro) ys ((rows.take j).filter fun r => (r.1 : Int) == 2 && pt r.2 == pt (p.take (i + 1))))
        (Src.seq (ax := D1) (o := o1) ((EvV.name (bset _ (by decide) |>.trans b3) rfl).mono fun v N' r => ⟨r.1, by rw [r.2]; exact at_rd hrd hcur List.mem_cons_self, by rw [r.2]; exact ⟨rfl, .nil⟩⟩) ⟨.inl h1.1, h1.2⟩) (fun C => Takes.name (VP := fun j v => vs[j]? = some v) (fun i v hp h => h) rfl rfl) (by omega)
        (filt_turn _ hlen (fun j r m X' W' C oC hr hV T ht => ?_) (fun j r m X' W' C oC hr hV T => ?_)) (fun D ys N' off j => ?_) rfl rfl (fun _ => rfl)) (by omega) rfl) (fun t7 => ?_) rfl rfl
    · obtain ⟨u₁, e1, i1⟩ := hV
      obtain ⟨r', hr', q⟩ := hv.get i1
      rw [hr] at hr'
      exact (EvV.cn T (fun q hq => List.mem_append_left _ hq) e1 rfl).jd.mono fun v N₃ q' => by obtain ⟨rfl, rfl⟩ := q'; exact ⟨fun _ h => h, Option.some.inj hr' ▸ q⟩
    · obtain ⟨u₁, e1, i1⟩ := hV
      obtain ⟨r', hr', q⟩ := hv.get i1
      rw [hr] at hr'
      obtain rfl := Option.some.inj hr'
      exact Tr.eqRow (EvV.cn T (fun q hq => List.mem_append_left _ hq) e1 rfl) (q.at fun a o ha => at_rd hrd (fun q hq => List.mem_append_right _ (hcur q hq)) (List.mem_cons_of_mem _ ha)) EvI.lit (EvS.of (EvV.ccell (c := c.L + 1) rfl (List.mem_append_right _ mo') hd' rfl))
    · obtain ⟨rfl, hA⟩ := j
      rw [hlen, List.take_length] at hA
      exact ⟨D, ys, rfl, atL_lst List.mem_cons_self, hA.len, fun q hq => List.mem_cons_of_mem _ hq⟩
    have fin : ∀ (b2 : Binds) (its2 : Array Value) (n2 : Nat) t8, bget b2 (Str.ofString "spots") = some (.ref S) → bget b2 (Str.ofString "spot") = some (.str (st (fullTo rows p (i + 1))) t8) → bget b2 (Str.ofString "current") = some (.ref D1) → StrsAre its2.toList ((spotsTo rows p (i + 1)).map st) → its2.size ≤ 2 * (i + 1) →
        Kept X Wd (fun N'' => ∃ its n oc' v t3, N'' = (Wl, W.listOf wits wn) :: (S, W.listOf its n) :: (c.L + 1, oc') :: news ∧ oc'.data = .cell v ∧ bget b2 (Str.ofString "spots") = some (.ref S) ∧ bget b2 (Str.ofString "spot") = some (.str (st (fullTo rows p (i + 1))) t3) ∧ bget b2 (Str.ofString "current") = some (.ref D1) ∧ StrsAre its.toList ((spotsTo rows p (i + 1)).map st) ∧ its.size ≤ 2 * (i + 1)) (X ++ (Wl, W.listOf wits wn) :: (S, W.listOf its2 n2) :: (c.L + 1, o') :: news) := fun b2 its2 n2 t8 h1 h2 h3 h4 h5 =>
      ⟨_, fun q hq => List.mem_append_left _ hq, fun q hq => List.mem_append_right _ hq, offW _ _ _, its2, n2, o', _, t8, rfl, hd', h1, h2, h3, h4, h5⟩
    refine Exs.ifs (Tr.neI (EvI.of (EvV.name rfl rfl)) EvI.lit) (fun hc => ?_) fun hc => ?_
    · have hc0 : cntB rows (p.take (i + 1)) ≠ 0 := by simpa using hc
      have e1 : fullTo rows p (i + 1) = fullTo rows p i ++ [nm (p.getD i false)] ++ [num (cntB rows (p.take (i + 1)) - 1)] := if_neg hc0
      have e2 : spotsTo rows p (i + 1) = spotsTo rows p i ++ [fullTo rows p i ++ [nm (p.getD i false)], fullTo rows p (i + 1)] := by rw [spotsTo, if_neg hc0]
      have hgn := good_num (n := cntB rows (p.take (i + 1)) - 1) (by omega)
      have gl : ∀ g ∈ fullTo rows p i ++ [nm (p.getD i false)], Good g ∧ g.length ≤ 2 := fun g hg => by
        rcases List.mem_append.mp hg with hg | hg
        · exact fg g hg
        · rw [List.mem_singleton.mp hg]; exact ⟨good_nm _, by rw [nm_len]; decide⟩
      have fst2 : (st (fullTo rows p i ++ [nm (p.getD i false)])).length ≤ 50000 := by have := st_len fun g hg => (gl g hg).2; rw [List.length_append, List.length_singleton] at this; omega
      have hj2 := pjoin_good (fun g hg => (gl g hg).1) hgn.1
      refine Exs.asS (EvS.is (EvS.call2 (g_join _) (fun t u => c_join _ _ (num (cntB rows (p.take (i + 1)) - 1)) t u fst2 (by have := hgn.2; omega) (st_ne _)) (EvS.of (EvV.name rfl rfl)) (EvS.is (EvS.strI (b_str _) (EvI.bin (EvI.of (EvV.name rfl rfl)) EvI.lit jd_subI) ?_ rfl) ?_) rfl rfl rfl) (hj2.trans (congrArg st e1.symm))) (fun t8 => ?_) rfl rfl
      · rw [show ((cntB rows (p.take (i + 1)) : Int) - 1).natAbs = cntB rows (p.take (i + 1)) - 1 by omega]
        exact Nat.lt_of_le_of_lt (Nat.log2_le_self _) (by omega)
      · unfold num; congr 2; omega
      · refine Exs.cons (Ex.append (EvV.name (b1) rfl) (memS _ _) (EvV.name rfl rfl) (by rw [Array.size_push]; omega) ?_ ⟨_, rfl⟩ rfl rfl)
        rintro v N₁ ⟨rfl, rfl⟩
        refine ⟨_, upS _ _ _, Exs.nil (Exs.nil (fin _ _ _ t8 b1 rfl b3 ?_ ?_))⟩
        · rw [e2, List.map_append, Array.toList_push, Array.toList_push, List.append_assoc]
          have := strs_snoc (y := st (fullTo rows p (i + 1))) (t := t8) (strs_snoc (y := st (fullTo rows p i ++ [nm (p.getD i false)])) (t := t6) hI)
          simpa using this
        · rw [Array.size_push, Array.size_push]; omega
    · have hc0 : cntB rows (p.take (i + 1)) = 0 := by simpa using hc
      have e1 : fullTo rows p (i + 1) = fullTo rows p i ++ [nm (p.getD i false)] := if_pos hc0
      have e2 : spotsTo rows p (i + 1) = spotsTo rows p i ++ [fullTo rows p i ++ [nm (p.getD i false)]] := by rw [spotsTo, if_pos hc0]
      refine Exs.nil (Exs.nil (fin _ _ _ t6 b1 (by rw [e1]; rfl) b3 ?_ ?_))
      · rw [e2, List.map_append, Array.toList_push]
        exact strs_snoc hI
      · rw [Array.size_push]; omega
  · rintro b' N' ⟨its, n, oc', v, t3, rfl, hd, b1, b2, b3, hI, hsz⟩
    rw [strs_len hW, ways_len] at hI
    refine Exs.ret (EvV.name b1 rfl) fun v N' r => ?_
    obtain ⟨rfl, rfl⟩ := r
    refine ⟨_, [(S, W.listOf its n)], rfl, fun q hq => List.mem_cons_of_mem _ (List.mem_cons_of_mem _ (List.mem_cons_of_mem _ hq)), fun q hq => by rw [List.mem_singleton.mp hq]; exact List.mem_cons_of_mem _ List.mem_cons_self, fun q hq r hr => by rw [List.mem_singleton.mp hq]; exact hSn r hr, S, its, n, rfl, rfl, hI⟩
end Mine
end
section
open PySem PySem.W PyProof.Rows PySem.Calls
set_option Elab.async false
set_option maxRecDepth 100000
set_option maxHeartbeats 4000000
set_option linter.unusedVariables false
set_option rowWalk.seconds 0
namespace Mine
/-- v is the tree that the tables kb (below) and kt (texts) tell of spot l -/
inductive Same (w : World) (rd : Led) (kb kt : List (Str × Value)) : Nat → Value → List Str → Prop
  | txt {n : Nat} {l : List Str} {x : Str} {t u : Tok} : valueAt kt (st l) = some (.str x t) → Same w rd kb kt (n + 1) (.str x u) l
  | lst {n : Nat} {l : List Str} {a b : Addr} {o ob : Obj} {vs ws : List Value} : valueAt kt (st l) = none → valueAt kb (st l) = some (.ref b) → (b, ob) ∈ rd → IsL ob ws → StrsAre ws (((List.range vs.length).map num).map fun x => st (l ++ [x])) → (a, o) ∈ rd → IsL o vs → vs.length ≤ 20 →
      (∀ x ∈ (List.range vs.length).map num, Sz (st (l ++ [x]))) → (∀ k v, vs[k]? = some v → Same w rd kb kt n v (l ++ [num k])) → Same w rd kb kt (n + 1) (.ref a) l
  | dct {n : Nat} {l : List Str} {a b : Addr} {o ob : Obj} {kvs : List (Str × Value)} {ws : List Value} : valueAt kt (st l) = none → valueAt kb (st l) = some (.ref b) → (b, ob) ∈ rd → IsL ob ws → StrsAre ws ((kvs.map (·.1)).map fun x => st (l ++ [x])) → (a, o) ∈ rd → o.IsDictOf (PySem.strKind PP w) kvs → (a == sysModules) = false → kvs.length ≤ 1000 →
      (∀ x ∈ kvs.map (·.1), Good x ∧ Sz (st (l ++ [x]))) → (∀ k v, valueAt kvs k = some v → Same w rd kb kt n v (l ++ [k])) → (∀ x ∈ kvs.map (·.1), ∃ v, valueAt kvs x = some v) → Same w rd kb kt (n + 1) (.ref a) l
section
variable {f : Fx} {b : Binds} {N : Led} {en : Env}
theorem Ags.four {pos : Pos} {e1 e2 e3 e4 : Expr} {v1 v2 v3 v4 : Value} (h1 : EvV f en b N e1 v1) (h2 : EvV f en b N e2 v2) (h3 : EvV f en b N e3 v3) (h4 : EvV f en b N e4 v4) : Ags f en b N pos [e1, e2, e3, e4] (Is N [v1, v2, v3, v4]) :=
  Ags.cons h1 fun v N₁ r => by
    obtain ⟨rfl, rfl⟩ := r
    exact Ags.cons h2 fun v N₁ r => by
      obtain ⟨rfl, rfl⟩ := r
      exact Ags.cons h3 fun v N₁ r => by
        obtain ⟨rfl, rfl⟩ := r
        exact (Ags.oneV h4).mono fun vs N₂ r => by obtain ⟨rfl, rfl⟩ := r; exact ⟨rfl, rfl⟩
/-- a call that answers a bool -/
theorem EvV.callB {x : Str} {np pos : Pos} {e : Expr} {rest : List Expr} {ad : Addr} {vs : List Value} {rd : Led} {dz : Nat} {p : Bool} (g : Fun f.c.w x ad) (ha : Ags f en b N pos (e :: rest) (Is N vs)) (C : Pure f.c.w ad dz rd vs (GB p)) (le : dz ≤ f.dz) (hrd : ∀ q ∈ rd, q ∈ N ∨ f.c.g.get? q.1 = some q.2)
    (hg : gB en x = true) (hs : PEs (e :: rest)) (hfk : f.cs.kind = .function) : EvV f en b N (.Call (.Name x np) (e :: rest) [] pos) (.bool p) :=
  Ev.call g ha (fun vs' N₁ r => by
    obtain ⟨rfl, rfl⟩ := r
    exact ⟨rd, dz, _, C, le, hrd, fun r nw _ h => by obtain ⟨rfl, rfl⟩ := h; exact ⟨rfl, rfl⟩⟩) hg hs hfk
end
theorem all2_none {α β : Type} {R : α → β → Prop} {as : List α} {bs : List β} (h : All2 R as (bs.filter fun _ => false)) : as = [] := by
  have e : bs.filter (fun _ => false) = [] := by simp
  rw [e] at h
  cases h; rfl
/-- a spot that is no text: its names, and a list or a dict -/
theorem same_cases {w : World} {rd : Led} {kb kt : List (Str × Value)} {n : Nat} {v : Value} {l : List Str} (h : Same w rd kb kt (n + 1) v l) :
    (∃ x t u, v = .str x u ∧ valueAt kt (st l) = some (.str x t)) ∨ ∃ xs a b o ob ws, v = .ref a ∧ valueAt kt (st l) = none ∧ valueAt kb (st l) = some (.ref b) ∧ (b, ob) ∈ rd ∧ IsL ob ws ∧ StrsAre ws (xs.map fun x => st (l ++ [x])) ∧ (∀ x ∈ xs, Good x ∧ Sz (st (l ++ [x]))) ∧ xs.length ≤ 1000 ∧ (a, o) ∈ rd ∧
      ((∃ vs, xs = (List.range vs.length).map num ∧ IsL o vs ∧ vs.length ≤ 20 ∧ ∀ k v, vs[k]? = some v → Same w rd kb kt n v (l ++ [num k])) ∨
        ∃ kvs, xs = kvs.map (·.1) ∧ o.IsDictOf (PySem.strKind PP w) kvs ∧ (a == sysModules) = false ∧ (∀ k v, valueAt kvs k = some v → Same w rd kb kt n v (l ++ [k])) ∧ ∀ x ∈ xs, ∃ v, valueAt kvs x = some v) := by
  cases h with
  | txt h => exact .inl ⟨_, _, _, rfl, h⟩
  | lst e1 e2 m1 h1 hs m2 h2 hz hsz hr =>
    refine .inr ⟨_, _, _, _, _, _, rfl, e1, e2, m1, h1, hs, fun x hx => ⟨?_, hsz x hx⟩, by simp; omega, m2, .inl ⟨_, rfl, h2, hz, hr⟩⟩
    obtain ⟨k, hk, rfl⟩ := List.mem_map.mp hx
    exact (good_num (Nat.lt_of_lt_of_le (List.mem_range.mp hk) (by omega))).1
  | dct e1 e2 m1 h1 hs m2 h2 hm hz hg hr hv => exact .inr ⟨_, _, _, _, _, _, rfl, e1, e2, m1, h1, hs, hg, by simp; omega, m2, .inr ⟨_, rfl, h2, hm, hr, hv⟩⟩
theorem c_same (w : World) (Db Dt : Addr) (ob ot : Obj) (rd : Led) (kb kt : List (Str × Value)) (hob : ob.IsDictOf (PySem.strKind PP w) kb) (hot : ot.IsDictOf (PySem.strKind PP w) kt) (hsb : (Db == sysModules) = false) (hst : (Dt == sysModules) = false) :
    ∀ (n : Nat) (v : Value) (l : List Str) (t : Tok), Same w rd kb kt n v l → Pure w 225 (n + 2) ((Db, ob) :: (Dt, ot) :: rd) [v, .str (st l) t, .ref Db, .ref Dt] (GB true) := by
  intro n
  induction n with
  | zero => intro v l t h; cases h
  | succ n ih =>
  intro v l t h
  delta Pure
  k_fill
  refine enterC [((Str.ofString "texts"), .ref Dt), ((Str.ofString "below"), .ref Db), ((Str.ofString "spot"), .str (st l) t), ((Str.ofString "value"), v)] [] (by k_is) (by k_is) (fun _ _ => BindsTo.of_eq rfl) rfl (by decide) rfl rfl rfl (fun _ _ => rfl) ?_
  rintro c cells news rfl hcells hrd lo
  have hcells : CellsAre _ [((Str.ofString "texts"), c.L + 4), ((Str.ofString "below"), c.L + 3), ((Str.ofString "spot"), c.L + 2), ((Str.ofString "value"), c.L + 1)] cells := hcells
  obtain ⟨o4, o3, o2, o1, rfl, h4, h3, h2, h1⟩ := hcells.four
  have h4 : o4.data = .cell (some (.ref Dt)) := h4
  have h3 : o3.data = .cell (some (.ref Db)) := h3
  have h2 : o2.data = .cell (some (.str (st l) t)) := h2
  have h1 : o1.data = .cell (some v) := h1
  show Exs _ _ ((c.L + 4, o4) :: (c.L + 3, o3) :: (c.L + 2, o2) :: (c.L + 1, o1) :: news) _ _
  have sub : ∀ q ∈ news, q ∈ (c.L + 4, o4) :: (c.L + 3, o3) :: (c.L + 2, o2) :: (c.L + 1, o1) :: news := fun q hq => List.mem_cons_of_mem _ (List.mem_cons_of_mem _ (List.mem_cons_of_mem _ (List.mem_cons_of_mem _ hq)))
  have q4 : (c.L + 4, o4) ∈ (c.L + 4, o4) :: (c.L + 3, o3) :: (c.L + 2, o2) :: (c.L + 1, o1) :: news := List.mem_cons_self
  have q3 : (c.L + 3, o3) ∈ (c.L + 4, o4) :: (c.L + 3, o3) :: (c.L + 2, o2) :: (c.L + 1, o1) :: news := List.mem_cons_of_mem _ List.mem_cons_self
  have q2 : (c.L + 2, o2) ∈ (c.L + 4, o4) :: (c.L + 3, o3) :: (c.L + 2, o2) :: (c.L + 1, o1) :: news := List.mem_cons_of_mem _ (List.mem_cons_of_mem _ List.mem_cons_self)
  have q1 : (c.L + 1, o1) ∈ (c.L + 4, o4) :: (c.L + 3, o3) :: (c.L + 2, o2) :: (c.L + 1, o1) :: news := List.mem_cons_of_mem _ (List.mem_cons_of_mem _ (List.mem_cons_of_mem _ List.mem_cons_self))
  generalize hN0 : (c.L + 4, o4) :: (c.L + 3, o3) :: (c.L + 2, o2) :: (c.L + 1, o1) :: news = N0 at sub q4 q3 q2 q1 ⊢
  have mB : (Db, ob) ∈ (Db, ob) :: (Dt, ot) :: rd := List.mem_cons_self
  have mT : (Dt, ot) ∈ (Db, ob) :: (Dt, ot) :: rd := List.mem_cons_of_mem _ List.mem_cons_self
  have mR : ∀ {q : Addr × Obj}, q ∈ rd → q ∈ (Db, ob) :: (Dt, ot) :: rd := fun hq => List.mem_cons_of_mem _ (List.mem_cons_of_mem _ hq)
  rcases same_cases h with ⟨x, t', u', rfl, hv⟩ | ⟨xs, a, b, o, ob', ws, rfl, e1, e2, m1, hL, hS, hG, hxz, m2, H⟩
  · refine Exs.yes (Jd.is (Tr.inD (EvS.of (EvV.cell (c := c.L + 2) rfl q2 h2 rfl)) (EvV.cell (c := c.L + 4) rfl q4 h4 rfl) ⟨hst, ot, at_rd hrd sub mT, hot⟩) (by rw [hv]; rfl)) ?_
    refine Exs.retV (x := .bool (x == x)) (Ev.cmp (EvS.of (EvV.cell (c := c.L + 1) rfl q1 h1 rfl)) (fun v N₁ r => ?_) rfl) (RetC.mk (b := []) sub ⟨by simp, rfl⟩)
    obtain ⟨⟨t, rfl⟩, rfl⟩ := r
    exact (EvS.of (EvV.getD (EvV.cell (c := c.L + 4) rfl q4 h4 rfl) (EvS.of (EvV.cell (c := c.L + 2) rfl q2 h2 rfl)) ⟨hst, ot, at_rd hrd sub mT, hot⟩ hv)).mono fun v N₁ r => by
      obtain ⟨⟨t, rfl⟩, rfl⟩ := r
      exact jd_eqS
  · refine Exs.no (Jd.is (Tr.inD (EvS.of (EvV.cell (c := c.L + 2) rfl q2 h2 rfl)) (EvV.cell (c := c.L + 4) rfl q4 h4 rfl) ⟨hst, ot, at_rd hrd sub mT, hot⟩) (by rw [e1]; rfl)) ?_
    have hwl : ws.length = xs.length := by have := strs_len hS; simpa using this
    refine Exs.asC (n := ws.length) (fun i ys N' => N' = N0 ∧ All2 (fun v x => ∃ t, v = .str x t) ys (xs.take i)) (Src.seq (ax := b) (o := ob') ((EvV.getD (EvV.cell (c := c.L + 3) rfl q3 h3 rfl) (EvS.of (EvV.cell (c := c.L + 2) rfl q2 h2 rfl)) ⟨hsb, ob, at_rd hrd sub mB, hob⟩ e2).mono fun v N' r => ⟨r.1, by rw [r.2]; exact at_rd hrd sub (mR m1), by rw [r.2]; exact ⟨rfl, .nil⟩⟩) ⟨.inl hL.1, hL.2⟩) (fun C => Takes.name (VP := fun j v => ws[j]? = some v) (fun i v hp h => h) rfl rfl) (by omega)
      (map_turn hwl fun j r m X W' C oC hr hV T => ?_) (fun D ys N' off j => ?_) rfl rfl rfl rfl (fun _ => rfl)
    · obtain ⟨u₁, f1, i1⟩ := hV
      obtain ⟨y, t5, rfl, hy⟩ := strs_get hS i1
      rw [List.getElem?_map, hr] at hy
      obtain rfl := Option.some.inj hy
      obtain ⟨g1, g2⟩ := hG r (List.mem_of_getElem? hr)
      refine (EvS.is (EvS.call1 (g_basename _) (fun t => c_basename _ _ t g2) (EvS.of (EvV.cn T (fun q hq => List.mem_append_left _ hq) f1 rfl)) (Nat.ble_eq.mpr (Nat.le_add_left _ _)) rfl rfl) (pbase_st g1)).jd.mono fun v N₃ q => by obtain ⟨q, rfl⟩ := q; exact ⟨fun _ h => h, q⟩
    obtain ⟨rfl, hA⟩ := j
    rw [hwl, List.take_length] at hA
    have hys := all2_strs hA
    have sub2 : ∀ q ∈ news, q ∈ (D, lsO ys) :: N' := fun q hq => List.mem_cons_of_mem _ (sub q hq)
    have p4 := List.mem_cons_of_mem (D, lsO ys) q4
    have p3 := List.mem_cons_of_mem (D, lsO ys) q3
    have p2 := List.mem_cons_of_mem (D, lsO ys) q2
    have p1 := List.mem_cons_of_mem (D, lsO ys) q1
    rcases H with ⟨vs, rfl, hLv, hvz, hrec⟩ | ⟨kvs, rfl, hD, hsm, hrec, hall⟩
    · refine Exs.yes (Tr.isi (b_isinstance _) (b_list _) (EvV.cell (c := c.L + 1) rfl p1 h1 rfl) (isi_LL ⟨o, at_rd hrd sub2 (mR m2), hLv⟩) rfl rfl) ?_
      refine Exs.no (Jd.is (Tr.neStrsE (xs := (List.range vs.length).map num) (ys := (List.range vs.length).map num) (EvV.name rfl rfl) (fun v N₁ r => ?_) rfl) (by simp)) ?_
      · obtain ⟨rfl, rfl⟩ := r
        refine ⟨D, ys, rfl, hys, ?_⟩
        refine Ev.lcomp (n := vs.length) (fun i zs N'' => N'' = (D, lsO ys) :: N' ∧ All2 (fun v x => ∃ t, v = .str (num x) t) zs ((List.range vs.length).take i)) (Src.range (b_range _) ((EvI.lenL (b_len _) (EvV.cell (c := c.L + 1) rfl p1 h1 rfl) ⟨o, at_rd hrd sub2 (mR m2), hLv⟩ (by omega) rfl).mono fun v N'' r => ⟨r.1, r.2, .nil⟩) (by omega) rfl) (fun C => Takes.name (VP := fun j v => ∃ t, v = .int (j : Int) t) (fun i v hp h => h) rfl rfl) (by omega)
          (map_turn (by simp) fun j r m X W' C oC hr hV T => ?_) (fun D2 zs N'' off2 j => ?_) rfl rfl (fun _ => rfl)
        · obtain ⟨u₁, f1, t5, rfl⟩ := hV
          have hj : r = j := by
            rcases Nat.lt_or_ge j vs.length with c | c
            · rw [List.getElem?_range c] at hr; exact (Option.some.inj hr).symm
            · rw [List.getElem?_eq_none (by simpa using c)] at hr; cases hr
          subst hj
          have hr20 : r < 20 := by
            have := List.mem_of_getElem? hr
            have := List.mem_range.mp this
            omega
          refine (EvS.strI (b_str _) (EvI.of (EvV.cn T (fun q hq => List.mem_append_left _ hq) f1 rfl)) (by rw [Int.natAbs_natCast]; exact Nat.lt_of_le_of_lt (Nat.log2_le_self _) (by omega)) rfl).jd.mono fun v N₃ q => by obtain ⟨q, rfl⟩ := q; exact ⟨fun _ h => h, q⟩
        · obtain ⟨rfl, hB⟩ := j
          rw [List.take_of_length_le (by simp)] at hB
          refine ⟨D2, zs, rfl, (atL_lst List.mem_cons_self).more fun q hq => List.mem_cons_of_mem _ hq, atL_lst List.mem_cons_self, ?_, fun q hq => List.mem_cons_of_mem _ hq⟩
          have hB2 : ∀ {zs : List Value} {ns : List Nat}, All2 (fun v x => ∃ t, v = .str (num x) t) zs ns → StrsAre zs (ns.map num) := fun {zs ns} h => by
            induction h with
            | nil => exact .nil
            | cons r _ ih => obtain ⟨t, rfl⟩ := r; exact .cons _ _ ih
          exact hB2 hB
      · refine Exs.retV (x := .bool true) (EvV.noneE (Ev.lcomp (n := vs.length) (fun i zs N'' => N'' = (D, lsO ys) :: N' ∧ All2 (fun _ _ => True) zs (((List.range vs.length).take i).filter fun _ => false)) (Src.range (b_range _) ((EvI.lenL (b_len _) (EvV.cell (c := c.L + 1) rfl p1 h1 rfl) ⟨o, at_rd hrd sub2 (mR m2), hLv⟩ (by omega) rfl).mono fun v N'' r => ⟨r.1, r.2, .nil⟩) (by omega) rfl) (fun C => Takes.name (VP := fun j v => ∃ t, v = .int (j : Int) t) (fun i v hp h => h) rfl rfl) (by omega)
          (filt_turn (fun _ => false) (by simp) (fun j r m X W' C oC hr hV T ht => nomatch ht) fun j r m X W' C oC hr hV T => ?_) (fun D2 zs N'' off2 j => ?_) rfl rfl (fun _ => rfl))) (RetC.mk (b := []) sub2 ⟨rfl, rfl⟩)
        · obtain ⟨u₁, f1, t5, rfl⟩ := hV
          have hjl : j < vs.length := by
            rcases Nat.lt_or_ge j vs.length with c | c
            · exact c
            · rw [List.getElem?_eq_none (by simpa using c)] at hr; cases hr
          have hvj := List.getElem?_eq_getElem hjl
          have hsub3 : ∀ q ∈ news, q ∈ X ++ (D, lsO ys) :: N' := fun q hq => List.mem_append_right _ (sub2 q hq)
          have hx : (((List.range vs.length).map num).map fun x => st (l ++ [x]))[j]? = some (st (l ++ [num j])) := by simp [hjl]
          obtain ⟨t6, hw6⟩ := strs_at hS hx
          exact Tr.not (p := true) (Tr.ofB (EvV.callB (g_law_same _) (Ags.four
            (EvV.itemL (EvV.ccell (c := c.L + 1) rfl (List.mem_append_right _ p1) h1 rfl) (EvI.of (EvV.cn T (fun q hq => List.mem_append_left _ hq) f1 rfl)) ⟨o, at_rd hrd hsub3 (mR m2), hLv⟩ (by omega) (by omega) (by rw [Int.toNat_natCast]; exact hvj))
            (EvV.itemL (EvV.getD (EvV.ccell (c := c.L + 3) rfl (List.mem_append_right _ p3) h3 rfl) (EvS.of (EvV.ccell (c := c.L + 2) rfl (List.mem_append_right _ p2) h2 rfl)) ⟨hsb, ob, at_rd hrd hsub3 mB, hob⟩ e2) (EvI.of (EvV.cn T (fun q hq => List.mem_append_left _ hq) f1 rfl)) ⟨ob', at_rd hrd hsub3 (mR m1), hL⟩ (by omega) (by omega) (by rw [Int.toNat_natCast]; exact hw6))
            (EvV.ccell (c := c.L + 3) rfl (List.mem_append_right _ p3) h3 rfl) (EvV.ccell (c := c.L + 4) rfl (List.mem_append_right _ p4) h4 rfl))
            (ih _ _ t6 (hrec j _ hvj)) (Nat.le_refl _) (fun q hq => (hrd q hq).imp (fun m => hsub3 q m) id) rfl ⟨pe_subs, pe_subs, pe_name, pe_name, trivial⟩ rfl) rfl)
        · obtain ⟨rfl, hB⟩ := j
          exact ⟨D2, zs, rfl, atL_lst List.mem_cons_self, by rw [all2_none hB]; rfl, fun q hq => List.mem_cons_of_mem _ hq⟩
    · refine Exs.els (Tr.isi (b_isinstance _) (b_list _) (EvV.cell (c := c.L + 1) rfl p1 h1 rfl) (isi_DL ⟨hsm, o, at_rd hrd sub2 (mR m2), hD⟩) rfl rfl) (Exs.nil ?_)
      refine Exs.no (Jd.is (Tr.all (jd_or (Tr.not (Tr.isi (b_isinstance _) (b_dict _) (EvV.cell (c := c.L + 1) rfl p1 h1 rfl) (isi_DD ⟨hsm, o, at_rd hrd sub2 (mR m2), hD⟩) rfl rfl)) fun _ => jd_or (Tr.neStrsE (xs := kvs.map (·.1)) (ys := kvs.map (·.1)) (R₁ := fun v N'' => ∃ D2 zs, v = .ref D2 ∧ N'' = (D2, lsO zs) :: (D, lsO ys) :: N' ∧ StrsAre zs (kvs.map (·.1))) ?_ (fun v N₁ r => ?_) rfl) fun _ => jd_or0)) (by simp)) ?_
      · refine Ev.lcomp (n := kvs.length) (fun i zs N'' => N'' = (D, lsO ys) :: N' ∧ All2 (fun v x => ∃ t, v = .str x t) zs ((kvs.map (·.1)).take i)) (Src.keys (d := a) ((EvV.cell (c := c.L + 1) rfl p1 h1 rfl).mono fun v N'' r => ⟨r.1, by rw [r.2]; exact ⟨hsm, o, at_rd hrd sub2 (mR m2), hD⟩, r.2, .nil⟩)) (fun C => Takes.name (VP := fun j v => ∃ k x t, kvs[j]? = some (k, x) ∧ v = .str k t) (fun i v hp h => h) rfl rfl) (by simp at hxz; omega)
          (map_turn (by simp) fun j r m X W' C oC hr hV T => ?_) (fun D2 zs N'' off2 j => ?_) rfl rfl (fun _ => rfl)
        · obtain ⟨u₁, f1, k, x, t5, hk, rfl⟩ := hV
          rw [List.getElem?_map, hk] at hr
          obtain rfl := Option.some.inj hr
          exact (EvV.cn T (fun q hq => List.mem_append_left _ hq) f1 rfl).jd.mono fun v N₃ q => by obtain ⟨rfl, rfl⟩ := q; exact ⟨fun _ h => h, t5, rfl⟩
        · obtain ⟨rfl, hB⟩ := j
          rw [List.take_of_length_le (by simp)] at hB
          exact ⟨D2, zs, rfl, rfl, all2_strs hB⟩
      · obtain ⟨D2, zs, rfl, rfl, hzs⟩ := r
        exact ⟨D2, zs, rfl, hzs, (EvV.name rfl rfl).mono fun v N'' r => ⟨D, ys, r.1, by rw [r.2]; exact atL_lst List.mem_cons_self, by rw [r.2]; exact atL_lst (List.mem_cons_of_mem _ List.mem_cons_self), hys, by rw [r.2]; exact fun q hq => List.mem_cons_of_mem _ hq⟩⟩
      · refine Exs.retV (x := .bool true) (EvV.noneE (Ev.lcomp (n := ws.length) (fun i zs N'' => N'' = (D, lsO ys) :: N' ∧ All2 (fun _ _ => True) zs (((kvs.map (·.1)).take i).filter fun _ => false)) (Src.seq (ax := b) (o := ob') ((EvV.getD (EvV.cell (c := c.L + 3) rfl p3 h3 rfl) (EvS.of (EvV.cell (c := c.L + 2) rfl p2 h2 rfl)) ⟨hsb, ob, at_rd hrd sub2 mB, hob⟩ e2).mono fun v N'' r => ⟨r.1, by rw [r.2]; exact at_rd hrd sub2 (mR m1), by rw [r.2]; exact ⟨rfl, .nil⟩⟩) ⟨.inl hL.1, hL.2⟩) (fun C => Takes.name (VP := fun j v => ws[j]? = some v) (fun i v hp h => h) rfl rfl) (by omega)
          (filt_turn (fun _ => false) hwl (fun j r m X W' C oC hr hV T ht => nomatch ht) fun j r m X W' C oC hr hV T => ?_) (fun D2 zs N'' off2 j => ?_) rfl rfl (fun _ => rfl))) (RetC.mk (b := []) sub2 ⟨rfl, rfl⟩)
        · obtain ⟨u₁, f1, i1⟩ := hV
          obtain ⟨y, t5, rfl, hy⟩ := strs_get hS i1
          rw [List.getElem?_map, hr] at hy
          obtain rfl := Option.some.inj hy
          have hrm := List.mem_of_getElem? hr
          obtain ⟨g1, g2⟩ := hG r hrm
          obtain ⟨vv, hvv⟩ := hall r hrm
          have hsub3 : ∀ q ∈ news, q ∈ X ++ (D, lsO ys) :: N' := fun q hq => List.mem_append_right _ (sub2 q hq)
          refine Tr.not (p := true) (Tr.ofB (EvV.callB (g_law_same _) (Ags.four
            (EvV.getD (EvV.ccell (c := c.L + 1) rfl (List.mem_append_right _ p1) h1 rfl) ?_ ⟨hsm, o, at_rd hrd hsub3 (mR m2), hD⟩ hvv)
            (EvV.cn T (fun q hq => List.mem_append_left _ hq) f1 rfl) (EvV.ccell (c := c.L + 3) rfl (List.mem_append_right _ p3) h3 rfl) (EvV.ccell (c := c.L + 4) rfl (List.mem_append_right _ p4) h4 rfl))
            (ih _ _ t5 (hrec r vv hvv)) (Nat.le_refl _) (fun q hq => (hrd q hq).imp (fun m => hsub3 q m) id) rfl ⟨pe_subs, pe_name, pe_name, pe_name, trivial⟩ rfl) rfl)
          exact EvS.is (EvS.call1 (g_basename _) (fun t => c_basename _ _ t g2) (EvS.of (EvV.cn T (fun q hq => List.mem_append_left _ hq) f1 rfl)) (Nat.ble_eq.mpr (Nat.le_add_left _ _)) rfl rfl) (pbase_st g1)
        · obtain ⟨rfl, hB⟩ := j
          exact ⟨D2, zs, rfl, atL_lst List.mem_cons_self, by rw [all2_none hB]; rfl, fun q hq => List.mem_cons_of_mem _ hq⟩
end Mine
end
section
open PySem PySem.W PyProof.Rows PySem.Calls
set_option Elab.async false
set_option maxRecDepth 100000
set_option maxHeartbeats 4000000
set_option linter.unusedVariables false
namespace Mine
structure Fx.OkS (f : Fx) : Prop where
  ok : f.Ok
  XB : (Mine.hd.heap_1 (f.c.w).params).In f.c.base
  TB : Top VV LL f.c.mean f.c.mg f.c.mb f.c.base
  hA : f.A = f.c.A₀.deeper f.env
abbrev Fx.PO (f : Fx) (E : Value → Shared → Prop) : Prop := PassesOwn (model PP f.c.w) f.A f.env E
/-- a tree that may raise: X says what is raised, and at which heap -/
def JdE {α : Type} (f : Fx) (b : Binds) (N : Led) (t : Sem α) (R : α → Led → Prop) (X : Value → Heap → Prop) : Prop :=
  ∀ (s : Shared) (Q : α → Shared → Prop) (E : Value → Shared → Prop), f.OkS → f.F s.heap b → f.N s.heap N →
    (∀ v h tk N', f.F h b → f.N h N' → R v N' → Q v { s with heap := h, toks := tk }) → (∀ e h tk, X e h → E e { s with heap := h, toks := tk }) → f.Wp t Q E s
def JsE (f : Fx) (b : Binds) (N : Led) (t : Sem Flow) (K : Flow → Binds → Led → Prop) (X : Value → Heap → Prop) : Prop :=
  ∀ (s : Shared) (Q : Flow → Shared → Prop) (E : Value → Shared → Prop), f.OkS → f.PO E → f.F s.heap b → f.N s.heap N →
    (∀ fl b' h tk N', f.F h b' → f.N h N' → K fl b' N' → Q fl { s with heap := h, toks := tk }) → (∀ e h tk, X e h → E e { s with heap := h, toks := tk }) → f.Wp t Q E s
abbrev ExE (f : Fx) (b : Binds) (N : Led) (st : Stmt) (K : Flow → Binds → Led → Prop) (X : Value → Heap → Prop) : Prop := JsE f b N (exec st f.env) K X
abbrev ExsE (f : Fx) (b : Binds) (N : Led) (sts : List Stmt) (K : Flow → Binds → Led → Prop) (X : Value → Heap → Prop) : Prop := JsE f b N (execs sts f.env) K X
def SeqE (f : Fx) (rest : List Stmt) (K : Flow → Binds → Led → Prop) (X : Value → Heap → Prop) : Flow → Binds → Led → Prop
  | .next, b, N => ExsE f b N rest K X
  | fl, b, N => K fl b N
section
variable {α : Type} {f : Fx} {b : Binds} {N : Led} {K : Flow → Binds → Led → Prop} {X : Value → Heap → Prop} {rest : List Stmt}
theorem JdE.of {t : Sem α} {R : α → Led → Prop} (h : Jd f b N t R) : JdE f b N t R X := fun s Q E ok F M q _ => h s Q E ok.ok F M q
theorem JsE.of {t : Sem Flow} (h : Js f b N t K) : JsE f b N t K X := fun s Q E ok _ F M q _ => h s Q E ok.ok F M q
theorem ExsE.cons {st : Stmt} (h : ExE f b N st (SeqE f rest K X) X) : ExsE f b N (st :: rest) K X :=
  fun s _ _ ok po F N' q x => wpAny_execs_cons (h s _ _ ok po F N' (fun fl b' hp tk N'' F' M' r => by
    cases fl
    · exact r _ _ _ ok po F' M' q x
    all_goals exact q _ _ _ _ _ F' M' r) x)
theorem ExsE.nil (k : K .next b N) : ExsE f b N [] K X := .of (Exs.nil k)
theorem ExE.ite {e : Expr} {p : Bool} {body orelse : List Stmt} {pos : Pos} (h : Tr f f.env b N e p) (k : ExsE f b N (if p then body else orelse) K X) : ExE f b N (.If e body orelse pos) K X :=
  fun s _ _ ok po F N' q x => wpAny_If (h s _ _ ok.ok F N' fun v hp tk N'' F' M' r => by
    obtain ⟨rfl, rfl⟩ := r
    cases v
    · exact k _ _ _ ok po F' M' q x
    · exact k _ _ _ ok po F' M' q x)
theorem ExsE.ite {e : Expr} {p : Bool} {body orelse : List Stmt} {pos : Pos} (h : Tr f f.env b N e p) (k : ExsE f b N (if p then body else orelse) (SeqE f rest K X) X) : ExsE f b N (.If e body orelse pos :: rest) K X := ExsE.cons (ExE.ite h k)
theorem ExsE.asg {x : Str} {e : Expr} {px pos : Pos} {R : Value → Led → Prop} (h : JdE f b N (eval e f.env) R X) (k : ∀ v N', R v N' → ExsE f ((x, some v) :: b) N' rest K X)
    (hs : swapsWith e (some (.Name x px)) pos.line f.env = pure false) (l : lB f.cs x .local = true) : ExsE f b N (.Assign [.Name x px] e pos :: rest) K X :=
  ExsE.cons fun s _ _ ok po F N' q x => wpAny_Assign_Name (h s _ _ ok F N' (fun v hp tk N'' F' M' r => storeX_L F' M' (fun h' F₂ M₂ => q _ _ _ _ _ (put_frw F₂) M₂ (k v N'' r)) (lB_ok l).1 (lB_ok l).2.1) x) hs
theorem ExsE.expr {e : Expr} {pos : Pos} {R : Value → Led → Prop} (h : JdE f b N (eval e f.env) R X) (k : ∀ v N', R v N' → ExsE f b N' rest K X) (hs : ∀ {M : Model} {A : Around} {Q : Flow → Shared → Prop} {E : Value → Shared → Prop} {s : Shared}, wpAny M A (eval e f.env) (fun _ s => Q .next s) E s → wpAny M A (exec (.Expr e pos) f.env) Q E s) : ExsE f b N (.Expr e pos :: rest) K X :=
  ExsE.cons fun s _ _ ok po F N' q x => hs (h s _ _ ok F N' (fun v hp tk N'' F' M' r => q _ _ _ _ _ F' M' (k v N'' r)) x)
theorem JsE.mono {t : Sem Flow} {K' : Flow → Binds → Led → Prop} {X' : Value → Heap → Prop} (h : JsE f b N t K X) (k : ∀ fl b' N', K fl b' N' → K' fl b' N') (x : ∀ e h, X e h → X' e h) : JsE f b N t K' X' :=
  fun s _ _ ok po F M q xx => h s _ _ ok po F M (fun fl b' h tk N' F' M' r => q _ _ _ _ _ F' M' (k _ _ _ r)) fun e h tk r => xx e h tk (x _ _ r)
theorem JsE.drop {t : Sem Flow} {N₂ : Led} (h : JsE f b N₂ t K X) (k : ∀ p ∈ N₂, p ∈ N) : JsE f b N t K X := fun s Q E ok po F N q => h s Q E ok po F (fun p m => N p (k p m)) q
theorem JsE.binds {t : Sem Flow} {b₂ : Binds} (h : JsE f b₂ N t K X) (e : ∀ y, bget b y = bget b₂ y) : JsE f b N t K X := fun s Q E ok po F N q => h s Q E ok po (frw F e) N q
theorem ExE.forI {x : Str} {px : Pos} {iter : Expr} {body : List Stmt} {pos : Pos} {n : Nat} {P : Nat → Value → Heap → Prop} {Sa : List Addr} (J : Nat → Binds → Led → Prop)
    (src : Src f b N f.env (.Name x px) iter n P Sa (J 0 b))
    (turn : ∀ i v hp b' N' Y W, i < n → P i v hp → InLoop Sa Y W N' → J i b' N' → ExsE f ((x, some v) :: b') (Y ++ N') body (TurnI K Y W (J (i + 1))) X)
    (done : ∀ b' N', J n b' N' → K .next b' N') (hf : ∀ x, foldedSetIterable iter f.env x = pure x) (l : lB f.cs x .local = true) : ExE f b N (.For (.Name x px) iter body [] pos) K X := by
  intro s Q E ok po F M q xx
  refine For_turns (Q := Q) F (src _ _ _ ok.ok F M fun it h tk N₁ F₁ M₁ I j0 => ?_) hf po
  obtain ⟨I, fp, wr, Md, St, rfl, W, hIo, hself, hst, hfp, hLf, hwr, hnw, hnc⟩ := I
  refine ⟨I, fp, wr, n, P, Md, St, bget b, N₁, fun i m nw => ∃ b', m = bget b' ∧ J i b' nw, rfl, W, hLf, hwr, hnw, hst, F₁, M₁, ⟨b, rfl, j0⟩, ?_, ?_⟩
  · rintro i v m₁ N' h₁ tk₁ own hi hP ⟨b', rfl, hJ⟩ offw hown hget hall st₁ F₂ M₂
    refine assign_Name (storeX_L F₂ M₂ (fun h₃ F₃ M₃ => turn i v _ b' N' own wr hi hP ⟨fun p hp => (hnc _ _ st₁ p.1 (hown p hp)).1, fun a ha => ?_, offw, fun p hp q hq ⟨v, hv⟩ e => ?_⟩ hJ _ _ _ ok po (put_frw F₃) M₃ (fun fl b2 h₃ tk₃ N₂ F₃ M₃ k => ?_) fun e h tk r => xx e h tk r) (lB_ok l).1 (lB_ok l).2.1)
    · obtain ⟨o, ho⟩ := hIo _ _ st₁ a ha
      exact ⟨o, hall a (W.sub a ha) (hwr a ha) o ho⟩
    · have g1 := (M₂ q (List.mem_append_right _ hq)).1
      rw [← e] at g1
      exact (hnc _ _ st₁ p.1 (hown p hp)).2 _ g1 v hv
    · have key : Kept own wr (J (i + 1) b2) N₂ → LoopStepU f.c.g f.env.locals wr own (fun m nw => ∃ b', m = bget b' ∧ J (i + 1) b' nw) _ .next { s with heap := h₃, toks := tk₃ } := fun ⟨N'', k1, k2, k3, k4⟩ =>
        ⟨rfl, h₃, tk₃, bget b2, N'', rfl, F₃, fun p hp => (List.mem_append.mp hp).elim (fun hp => M₃ p (k1 p hp)) fun hp => M₃ p (k2 p hp), k3, b2, rfl, k4⟩
      cases fl
      · exact key k
      · exact q _ _ _ _ _ F₃ M₃ k
      · exact key k
      · exact q _ _ _ _ _ F₃ M₃ k
  · rintro h' tk' m' N' F' M' offw ⟨b', rfl, hJ⟩
    exact q _ _ _ _ _ F' M' (done b' N' hJ)
end
end Mine
end
section
open PySem PySem.W PyProof.Rows PySem.Calls
set_option Elab.async false
set_option maxRecDepth 100000
set_option maxHeartbeats 4000000
set_option linter.unusedVariables false
namespace Mine
/-- what a call raises: the ledger stays -/
def RaisedC (c : Cx) (env : Env) (b : Binds) (N : Led) (a : Addr) (h : Heap) : Prop :=
  ∃ G, Fr c.g c.L G (bget b) ∧ RaisedSN c.base G (env :: c.outer) a (.type "KeyError") N h ∧ G.UpToSlots h
def XC (f : Fx) (N : Led) (X : Prop) (e : Value) (h : Heap) : Prop := X ∧ ∃ a b N', e = .ref a ∧ (∀ p ∈ N, p ∈ N') ∧ RaisedC f.c f.env b N' a h
def XR (f : Fx) (N : Led) (X : Prop) (e : Value) (h : Heap) : Prop := X ∧ ∃ a b N', e = .ref a ∧ (∀ p ∈ N, p ∈ N') ∧ (RaisedC f.c f.env b N' a h ∨ ∃ h₀, f.F h₀ b ∧ f.N h₀ N' ∧ Heap.NewExc h₀ h a "KeyError")
theorem RaisedSN.less {base G : Heap} {l : List Env} {e : Addr} {cls : Value} {news news' : Led} {h : Heap} (R : RaisedSN base G l e cls news h) (k : ∀ p ∈ news', p ∈ news) : RaisedSN base G l e cls news' h :=
  let ⟨B, a0, h1, h2, h3, h4⟩ := R
  ⟨B, a0, h1, h2, fun q m => h3 q (k q m), h4⟩
def Full (w : World) (ad : Addr) (dz : Nat) (vs : List Value) (N : Led) (R : Value → Led → Prop) (X : Prop) : Prop :=
  ∀ (mean : ExcName → Option Value) (mg mb : Str → Option Value) (dp un : Nat) (gd : Option (List Code)) (env : Env) (outer : List Env) (A₀ : Around) (base h₀ : Heap) (L : Addr) (m : Str → Option Value) (s : Shared) (Q E : Value → Shared → Prop),
    Below A₀ base outer h₀ → (Mine.hd.heap_1 (w).params).In h₀ → Top VV LL mean mg mb h₀ → (Mine.hd.heap_1 (w).params).In base → Top VV LL mean mg mb base → env.frame = some L → env.scope.kind = .function → dp + dz < recursionLimit → un + 8 * dz + 8 < cLine →
    Fr h₀ L s.heap m → News h₀ L s.heap N →
    (∀ r h' tk' N', Fr h₀ L h' m → News h₀ L h' N' → R r N' → Q r { s with heap := h', toks := tk' }) →
    (∀ e h' tk' G N', X → (∀ p ∈ N, p ∈ N') → Fr h₀ L G m → RaisedSN base G (env :: outer) e (.type "KeyError") N' h' → G.UpToSlots h' → E (.ref e) { s with heap := h', toks := tk' }) →
    wpAny (model PP w) (topA dp un gd env outer) (call (.ref ad) vs) Q E s
theorem enterF {w : World} {dz : Nat} {N : Led} {vs : List Value} {R : Value → Led → Prop} {X : Prop} {name qual : Str} {params : Arguments} {body : List Stmt} {scope : Scope} {dV kV doc pm cdv ct oc : Value} {an od : Option Addr} {osl : Array (Option Value)} {ad : Addr} (bl : List (Str × Value))
    (ho : (Mine.hd.heap_1 (w).params).lookup ad = some ⟨oc, od, .func (fnOf name qual params body scope dV kV doc pm an cdv ct), osl⟩) (hcd : codeIn (Mine.hd.heap_1 (w).params) cdv qual = true)
    (hbind : ∀ s, (Mine.hd.heap_1 (w).params).In s.heap → BindsTo s (fnOf name qual params body scope dV kV doc pm an cdv ct) ⟨vs, []⟩ bl.reverse) (hloc : ∀ y ∈ bl.reverse, scope.names.lookup y.1 = some .local)
    (hco : scope.isCoroutine = false) (hgen : scope.isGenerator = false) (hk : scope.kind = .function)
    (hcell : ∀ x ∈ scope.names, x.2 ≠ .cell)
    (h : ∀ c : Cx, c.w = w → ExsE ⟨c, dz, scope, []⟩ (ofB bl) N body (fun fl _ N' => ∃ r, (fl = .ret r ∨ (fl = .next ∧ r = .none)) ∧ R r N') (XR ⟨c, dz, scope, []⟩ N X)) : Full w ad (dz + 1) vs N R X := by
  intro mean mg mb dp un gd env outer A₀ base h₀ L m s Q E B X₀ T XB TB hf hke h1 h2 F M ret exc
  have XS := X₀.keeps F.keep
  refine wpAny_call (code_def B F X₀ M T rfl hf hke ho hcd (by show dp < recursionLimit; omega) (hbind s XS) hloc (fun g L' h₁ FG F' N' B' X' T' => ?_) hco hgen hk hcell)
  rw [List.reverse_reverse] at F'
  refine wpAny_mono (h ⟨w, mean, mg, mb, dp + 1, un + 3, gd, env :: outer, topA dp un gd env outer, base, g, L', qual, cdv, ad⟩ rfl _ (fun fl s' => LeaveK h₀ L m g (fun r s' => match r with | .ok (.ret v) => Q v s' | .ok _ => False | .error e => E e s') (match fl with | .ret v => v | _ => .none) s') _
    ⟨⟨B', X', T', by show dp + 1 + dz < _; omega, by show un + 3 + 8 * dz + 8 < _; omega⟩, XB, TB, rfl⟩ PassesOwn.leaving (ofB_frw F') N' ?_ ?_) (fun _ _ q => q) fun _ _ e => e
  · rintro fl b' h₂ tk₂ nw F₂ N₂ ⟨r, hv, hr⟩
    rcases hv with rfl | ⟨rfl, rfl⟩ <;> exact leaveK_ F₂ N₂ fun kF kN => ret _ _ _ _ kF kN hr
  · rintro e h₂ tk₂ ⟨hx, a, b, N₂, rfl, sub, ⟨G, F₂, R₂, U₂⟩ | ⟨h₃, F₃, N₃, Y⟩⟩
    · exact leave_onSN B' F₂ R₂ U₂ fun h' R' _ U' => exc a h' _ g N₂ hx sub FG R' U'
    · exact leave_newS B' Y F₃ N₃ (fun h' R' _ U' => exc a h' _ g N₂ hx sub FG R' U') hk
section
variable {f : Fx} {b : Binds} {N : Led}
/-- a call of a method of an object of the ledger -/
theorem JdE.meth {o : Expr} {name : Str} {apos pos : Pos} {e : Expr} {rest : List Expr} {ad x C : Addr} {dx : Addr} {es : List DictEntry} {n : Nat} {sl : Array (Option Value)} {RA : List Value → Led → Prop} {R' : Value → Led → Prop} {X : Value → Heap → Prop}
    (ho : EvV f f.env b N o (.ref x)) (m1 : (x, (⟨.ref C, some dx, .plain, sl⟩ : Obj)) ∈ N) (m2 : (dx, dictOf es n) ∈ N) (hg : plainGet (Mine.hd.heap_1 (f.c.w).params) C name = true)
    (hfn : findIn (Mine.hd.heap_1 (f.c.w).params) (.ref C) name = some (some (.ref ad))) (ht : isFn (Mine.hd.heap_1 (f.c.w).params) (.ref ad) = true) (hkp : keepIn (Mine.hd.heap_1 (f.c.w).params) (.ref ad) = true) (hl : getL name es = some none)
    (ha : Ags f f.env b N pos (e :: rest) RA)
    (hc : ∀ vs N₁, RA vs N₁ → ∃ dz R P, Full f.c.w ad dz (.ref x :: vs) N₁ R P ∧ dz ≤ f.dz ∧ (∀ r N', R r N' → R' r N') ∧ ∀ a h N', P → (∀ p ∈ N₁, p ∈ N') → RaisedC f.c f.env b N' a h → X (.ref a) h)
    (hs : PEs (e :: rest)) (hfk : f.cs.kind = .function) (hf : MethOk f.env o name apos (e :: rest) pos) : JdE f b N (eval (.Call (.Attribute o name apos) (e :: rest) [] pos) f.env) R' X := by
  obtain ⟨pl, hf⟩ := hf
  exact fun s Q E ok F M q xx => MethodCall_ (pl := pl) (ho.jd s _ _ ok.ok F M fun v h tk N₁ F₁ M₁ r => by
    obtain ⟨rfl, rfl⟩ := r
    refine method_inst (s := { s with heap := h, toks := tk }) F₁ ok.ok.X (InstAt.of_news M₁ m1 m2) hg hfn ht hl ?_
    refine callWith_K (ok.ok.X.keeps F₁.keep) hkp (ha _ _ _ ok.ok F₁ M₁ fun vs h₂ tk₂ N₂ F₂ M₂ r₂ => ⟨ok.ok.X.keeps F₂.keep, ?_⟩) (hs.1.arg _ rest) (noStar hs.2)
    obtain ⟨dz, R, P, C', le, hR, hX⟩ := hc vs N₂ r₂
    refine C' _ _ _ _ _ _ _ _ _ _ _ _ _ _ _ _ ok.ok.B ok.ok.X ok.ok.T ok.XB ok.TB rfl hfk (by have := ok.ok.h1; show f.c.dp + dz < _; omega) (by have := ok.ok.h2; show f.c.un + 8 * dz + 8 < _; omega) F₂ M₂ ?_ ?_
    · intro r h' tk' N' F₃ N₃ hr
      exact q _ _ _ _ F₃ N₃ (hR r N' hr)
    · intro e h' tk' G N' hP sub FG Rs U
      exact xx _ _ _ (hX e h' N' hP sub ⟨G, FG, Rs, U⟩)) hf
theorem ExsE.raise {x : Str} {np pos cpos : Pos} {e : Expr} {rest : List Stmt} {K : Flow → Binds → Led → Prop} {X : Value → Heap → Prop} {R : Value → Led → Prop} {u : Str} (g : Glob f.c.w x (.type "KeyError")) (ha : EvS f f.env b N e u)
    (hx : ∀ a h₀ h, f.F h₀ b → f.N h₀ N → Heap.NewExc h₀ h a "KeyError" → X (.ref a) h) (hg : gB f.env x = true) : ExsE f b N (.Raise (some (.Call (.Name x np) [e] [] cpos)) none pos :: rest) K X :=
  ExsE.cons fun s Q E ok po F M q xx => Raise_new rfl (Call_ ((EvV.glob g hg).jd s _ _ ok.ok F M fun v h tk N₁ F₁ M₁ r => by
    obtain ⟨rfl, rfl⟩ := r
    exact PyProof.Rows.callWith_type1 (Ags.one ha _ _ _ ok.ok F₁ M₁ fun vs h tk N₂ F₂ M₂ r₂ => by
      obtain ⟨⟨t, rfl⟩, rfl⟩ := r₂
      exact call_exc_raise excClass_KeyError fun h' e hn => xx _ _ _ (hx e h h' F₂ M₂ hn)) (ha.pe.arg _ []) rfl) rfl)
end
end Mine
end
section
open PySem PySem.W PyProof.Rows PySem.Calls
set_option Elab.async false
set_option maxRecDepth 100000
set_option maxHeartbeats 4000000
set_option linter.unusedVariables false
namespace Mine
abbrev fsOf (l : List Env) : List Addr := l.filterMap (·.frame)
abbrev Fx.at (f : Fx) (g : Heap) : Fx := ⟨⟨f.c.w, f.c.mean, f.c.mg, f.c.mb, f.c.dp, f.c.un, f.c.gd, f.c.outer, f.c.A₀, f.c.base, g, f.c.L, f.c.cn, f.c.cd, f.c.a⟩, f.dz, f.cs, f.cl⟩
structure Turned (f : Fx) (g : Heap) : Prop where
  t : KtsTurn (fsOf f.c.outer) f.c.g g
  ok : (f.at g).OkS
  d : KtsDicts (fsOf f.c.outer) g
theorem Turned.trans {f : Fx} {g g' : Heap} (h : Turned f g) (h' : Turned (f.at g) g') : Turned f g' := ⟨h.t.trans h'.t, h'.ok, h'.d⟩
/-- a tree below which something is raised and caught: the outer frames' slots may have changed -/
def JsT (f : Fx) (b : Binds) (N : Led) (t : Sem Flow) (K : Fx → Flow → Binds → Led → Prop) : Prop :=
  ∀ (s : Shared) (Q : Flow → Shared → Prop) (E : Value → Shared → Prop), Turned f f.c.g → f.PO E → f.F s.heap b → f.N s.heap N →
    (∀ g fl b' h tk N', Turned f g → (f.at g).F h b' → (f.at g).N h N' → K (f.at g) fl b' N' → Q fl { s with heap := h, toks := tk }) → f.Wp t Q E s
abbrev ExT (f : Fx) (b : Binds) (N : Led) (st : Stmt) (K : Fx → Flow → Binds → Led → Prop) : Prop := JsT f b N (exec st f.env) K
abbrev ExsT (f : Fx) (b : Binds) (N : Led) (sts : List Stmt) (K : Fx → Flow → Binds → Led → Prop) : Prop := JsT f b N (execs sts f.env) K
def SeqT (rest : List Stmt) (K : Fx → Flow → Binds → Led → Prop) : Fx → Flow → Binds → Led → Prop
  | f, .next, b, N => ExsT f b N rest K
  | f, fl, b, N => K f fl b N
section
variable {f : Fx} {b : Binds} {N : Led} {K : Fx → Flow → Binds → Led → Prop} {rest : List Stmt}
theorem JsT.of {t : Sem Flow} (h : Js f b N t (K f)) : JsT f b N t K := fun s Q E tu _ F M q => h s Q E tu.ok.ok F M fun fl b' h tk N' F' M' k => q f.c.g fl b' h tk N' tu F' M' k
theorem ExsT.cons {st : Stmt} (h : ExT f b N st (SeqT rest K)) : ExsT f b N (st :: rest) K :=
  fun s _ _ tu po F N' q => wpAny_execs_cons (h s _ _ tu po F N' (fun g fl b' hp tk N'' T' F' M' r => by
    cases fl
    · exact r _ _ _ ⟨KtsTurn.refl, T'.ok, T'.d⟩ po F' M' fun g' fl b2 h tk N3 T2 F2 M2 k => q g' fl b2 h tk N3 (T'.trans T2) F2 M2 k
    all_goals exact q _ _ _ _ _ _ T' F' M' r))
theorem ExsT.nil (k : K f .next b N) : ExsT f b N [] K := .of (Exs.nil k)
theorem JsT.mono {t : Sem Flow} {K' : Fx → Flow → Binds → Led → Prop} (h : JsT f b N t K) (k : ∀ g fl b' N', Turned f g → K (f.at g) fl b' N' → K' (f.at g) fl b' N') : JsT f b N t K' :=
  fun s _ _ tu po F M q => h s _ _ tu po F M fun g fl b' h tk N' T F' M' r => q _ _ _ _ _ _ T F' M' (k _ _ _ _ T r)
theorem JsT.drop {t : Sem Flow} {N₂ : Led} (h : JsT f b N₂ t K) (k : ∀ p ∈ N₂, p ∈ N) : JsT f b N t K := fun s Q E tu po F N q => h s Q E tu po F (fun p m => N p (k p m)) q
theorem ExsT.step {st : Stmt} (h : Ex f b N st fun fl b' N' => fl = .next ∧ ExsT f b' N' rest K) : ExsT f b N (st :: rest) K :=
  ExsT.cons (.of (h.mono fun fl b' N' r => by obtain ⟨rfl, r⟩ := r; exact r))
theorem ExsT.ite {e : Expr} {p : Bool} {body orelse : List Stmt} {pos : Pos} (h : Tr f f.env b N e p) (k : ExsT f b N (if p then body else orelse) (SeqT rest K)) : ExsT f b N (.If e body orelse pos :: rest) K :=
  ExsT.cons fun s _ _ tu po F N' q => wpAny_If (h s _ _ tu.ok.ok F N' fun v hp tk N'' F' M' r => by
    obtain ⟨rfl, rfl⟩ := r
    cases v
    · exact k _ _ _ tu po F' M' q
    · exact k _ _ _ tu po F' M' q)
end
def FullT (w : World) (ad : Addr) (dz : Nat) (vs : List Value) (N : Led) (R : Value → Led → Prop) : Prop :=
  ∀ (mean : ExcName → Option Value) (mg mb : Str → Option Value) (dp un : Nat) (gd : Option (List Code)) (env : Env) (outer : List Env) (A₀ : Around) (base h₀ : Heap) (L : Addr) (m : Str → Option Value) (s : Shared) (Q E : Value → Shared → Prop),
    Below A₀ base outer h₀ → (Mine.hd.heap_1 (w).params).In h₀ → Top VV LL mean mg mb h₀ → (Mine.hd.heap_1 (w).params).In base → Top VV LL mean mg mb base → KtsDicts (fsOf outer) h₀ → env.frame = some L → env.scope.kind = .function → dp + dz < recursionLimit → un + 8 * dz + 8 < cLine →
    Fr h₀ L s.heap m → News h₀ L s.heap N →
    (∀ r h' tk' N' h₀', KtsTurn (fsOf outer) h₀ h₀' → Below A₀ base outer h₀' → (Mine.hd.heap_1 (w).params).In h₀' → Top VV LL mean mg mb h₀' → KtsDicts (fsOf outer) h₀' → Fr h₀' L h' m → News h₀' L h' N' → R r N' → Q r { s with heap := h', toks := tk' }) →
    wpAny (model PP w) (topA dp un gd env outer) (call (.ref ad) vs) Q E s
section
variable {w : World} {A₀ A : Around} {base h₀ h : Heap} {outer : List Env} {L : Addr} {m mg mb : Str → Option Value} {env : Env} {news : Led} {mean : ExcName → Option Value}
theorem turn_in {s : Shared} (e : s.heap = h) (B : Below A₀ base outer h₀) (F : Fr h₀ L h m) (N : News h₀ L h news) (D : KtsDicts (fsOf outer) h₀) (hA : A.frames = some (env :: outer)) (hf : env.frame = some L) (hke : env.scope.kind = .function) :
    Below A base (env :: outer) (hideAll h (news.map (·.1))) ∧ h₀.StaysIn (hideAll h (news.map (·.1))) ∧ KtsDicts (fsOf (env :: outer)) (hideAll h (news.map (·.1))) := by
  subst e
  obtain ⟨FG, BG, st, _⟩ := groundX (R := fun _ _ => True) (s := s) B F N hA hf hke
  refine ⟨BG, st, fun b hb => ?_⟩
  obtain ⟨oL, es, ep, hL, hLd, _⟩ := FG.ns
  obtain ⟨e, he, hfe⟩ := List.mem_filterMap.mp hb
  rcases List.mem_cons.mp he with rfl | he
  · obtain rfl : L = b := Option.some.inj (hf.symm.trans hfe)
    exact ⟨oL, es, ep, hL, hLd⟩
  · obtain ⟨o, es', n', ho', hd'⟩ := D b (List.mem_filterMap.mpr ⟨e, he, hfe⟩)
    exact ⟨o, es', n', st b o ho', hd'⟩
theorem turn_back {s : Shared} {g' h' : Heap} {L' : Addr} {m' : Str → Option Value} {news' : Led} (e : s.heap = h) (B : Below A₀ base outer h₀) (F : Fr h₀ L h m) (N : News h₀ L h news) (XB : (Mine.hd.heap_1 (w).params).In base) (TB : Top VV LL mean mg mb base) (D : KtsDicts (fsOf outer) h₀) (hf : env.frame = some L) (hke : env.scope.kind = .function)
    (T' : KtsTurn (fsOf (env :: outer)) (hideAll h (news.map (·.1))) g') (F' : Fr g' L' h' m') (N' : News g' L' h' news') :
    ∃ h₀', KtsTurn (fsOf outer) h₀ h₀' ∧ Below A₀ base outer h₀' ∧ (Mine.hd.heap_1 (w).params).In h₀' ∧ Top VV LL mean mg mb h₀' ∧ KtsDicts (fsOf outer) h₀' ∧ Fr h₀' L h' m ∧ News h₀' L h' news' := by
  subst e
  obtain ⟨FG, BG, st, _⟩ := groundX (A := { handled := none, depth := 0, frames := some (env :: outer), guards := none, units := 0 }) (R := fun _ _ => True) (s := s) B F N rfl hf hke
  obtain ⟨oL, es, ep, hLg, hLd, hLk, hLf⟩ := FG.ns
  have nL₀ : h₀.get? L = none := kts_self F
  have memO : ∀ b, b ∈ fsOf (env :: outer) → b = L ∨ b ∈ fsOf outer := fun b hb => by
    obtain ⟨e, he, hfe⟩ := List.mem_filterMap.mp hb
    rcases List.mem_cons.mp he with rfl | he
    · exact .inl (Option.some.inj (hfe.symm.trans hf))
    · exact .inr (List.mem_filterMap.mpr ⟨e, he, hfe⟩)
  obtain ⟨sl, hs⟩ := T'.up hLg
  obtain ⟨T₁, S₁⟩ := kts_turn_at (h := h') (fs := fsOf outer) (g := h₀)
    (fun b hb => by
      obtain ⟨_, o, ho', _⟩ := B.frames.mem hb
      exact ⟨o, ho'⟩)
    (fun b o e nmem => F'.keep b o (T'.other b o (st b o e) (fun q => by
      rcases memO b q with z | z
      · rw [z, nL₀] at e
        cases e
      · exact nmem z)))
    (fun b o e hm => by
      obtain ⟨sl', hs'⟩ := T'.up (st b o e)
      exact ⟨sl', F'.keep _ _ hs'⟩)
  have B₃ : Below A₀ base outer (ktsHeap h' (fsOf outer) h₀) := ⟨B.stack, fun b o e => T₁.other b o (B.stays b o e) (fun hm => by
    rw [(B.frames.mem hm).1] at e
    cases e), B.frames.of_keeps fun b o e _ => by
    obtain ⟨sl', hs'⟩ := T₁.up e
    exact ⟨_, hs', rfl⟩⟩
  refine ⟨_, T₁, B₃, XB.keeps B₃.stays, TB.keeps B₃.stays, D.turn T₁, ⟨⟨_, es, ep, F'.keep _ _ hs, hLd, hLk, hLf⟩, S₁, by rw [T₁.size]; exact F.above⟩, fun p hp => ⟨(N' p hp).1, fun q => ?_, ?_⟩⟩
  · have := (N' p hp).2.2; rw [q, hs] at this; cases this
  · refine T₁.none_ _ ?_
    cases q : h₀.get? p.1 with
    | none => rfl
    | some o =>
      obtain ⟨sl', hs'⟩ := T'.up (st _ _ q)
      have := (N' p hp).2.2
      rw [hs'] at this
      cases this
end
def RetT (R : Value → Led → Prop) : Fx → Flow → Binds → Led → Prop := fun _ fl _ N' => ∃ r, fl = .ret r ∧ R r N'
theorem enterT {w : World} {dz : Nat} {N : Led} {vs : List Value} {R : Value → Led → Prop} {name qual : Str} {params : Arguments} {body : List Stmt} {scope : Scope} {dV kV doc pm cdv ct oc : Value} {an od : Option Addr} {osl : Array (Option Value)} {ad : Addr} (bl : List (Str × Value))
    (ho : (Mine.hd.heap_1 (w).params).lookup ad = some ⟨oc, od, .func (fnOf name qual params body scope dV kV doc pm an cdv ct), osl⟩) (hcd : codeIn (Mine.hd.heap_1 (w).params) cdv qual = true)
    (hbind : ∀ s, (Mine.hd.heap_1 (w).params).In s.heap → BindsTo s (fnOf name qual params body scope dV kV doc pm an cdv ct) ⟨vs, []⟩ bl.reverse) (hloc : ∀ y ∈ bl.reverse, scope.names.lookup y.1 = some .local)
    (hco : scope.isCoroutine = false) (hgen : scope.isGenerator = false) (hk : scope.kind = .function)
    (hcell : ∀ x ∈ scope.names, x.2 ≠ .cell)
    (h : ∀ c : Cx, c.w = w → ExsT ⟨c, dz, scope, []⟩ (ofB bl) N body (RetT R)) : FullT w ad (dz + 1) vs N R := by
  intro mean mg mb dp un gd env outer A₀ base h₀ L m s Q E B X₀ T XB TB D hf hke h1 h2 F M ret
  have XS := X₀.keeps F.keep
  have TS := T.keeps F.keep
  obtain ⟨B₂, st, D₂⟩ := turn_in (s := s) (A := topA dp un gd env outer) rfl B F M D rfl hf hke
  refine wpAny_call (codeAny_call_def (fd := fnX name qual params body scope [] dV kV doc pm an cdv ct) (body := body) (binds := bl.reverse) (show dp < recursionLimit by omega) (XS _ _ ho) rfl TS.nolimit (codeRec_of XS hcd) rfl (hbind s XS) hcell hloc (fun h₁ hns hk₁ => ?_) hco hgen hk)
  rw [List.reverse_reverse] at hns
  refine h ⟨w, mean, mg, mb, dp + 1, un + 3, gd, env :: outer, topA dp un gd env outer, base, hideAll s.heap (N.map fun p : Addr × Obj => p.1), s.heap.objs.size, qual, cdv, ad⟩ rfl _ _ _
    ⟨KtsTurn.refl, ⟨⟨B₂, X₀.keeps st, T.keeps st, by show dp + 1 + dz < _; omega, by show un + 3 + 8 * dz + 8 < _; omega⟩, XB, TB, rfl⟩, D₂⟩ PassesOwn.leaving (ofB_frw ⟨hns, fun b o e => hk₁ b o (of_hideAll _ e), Nat.le_of_eq (hideAll_size _ _)⟩)
    (fun p hp => ⟨hk₁ _ _ (M p hp).1, Nat.ne_of_lt (Heap.lt_size (M p hp).1), hideAll_none _ (List.mem_map_of_mem hp)⟩) ?_
  rintro g fl b' h₂ tk₂ nw TT F₂ N₂ ⟨r, rfl, hr⟩
  obtain ⟨h₀', t1, t2, t3, t4, t5, t6, t7⟩ := turn_back (s := s) rfl B F M XB TB D hf hke TT.t F₂ N₂
  exact ret r h₂ tk₂ nw h₀' t1 t2 t3 t4 t5 t6 t7 hr
end Mine
end
section
open PySem PySem.W PyProof.Rows PySem.Calls
set_option Elab.async false
set_option maxRecDepth 100000
set_option maxHeartbeats 4000000
set_option linter.unusedVariables false
namespace Mine
/-- try: body except KeyError: return False -/
theorem ExT.tryF {c : Cx} {dz : Nat} {cs : Scope} {b : Binds} {N : Led} {K : Fx → Flow → Binds → Led → Prop} {X : Prop} {body : List Stmt} {x : Str} {np p1 p2 pos hpos : Pos} {kd : Nat} (h : ExsE ⟨c, dz, cs, []⟩ b N body (K ⟨c, dz, cs, []⟩) (XC ⟨c, dz, cs, []⟩ N X))
    (hx : nsIn (Mine.hd.heap_1 (c.w).params) mainGlobals x = some none) (hv : bootBuiltins x = some (.type "KeyError")) (hn : x ≠ "__name__") (hdb : (x == ("__debug__" : Str)) = false) (hg : gB (Fx.env ⟨c, dz, cs, []⟩) x = true) (hk : cs.kind = .function)
    (k : ∀ g b' N', X → (∀ p ∈ N, p ∈ N') → K (Fx.at ⟨c, dz, cs, []⟩ g) (.ret (.bool false)) b' N') :
    ExT ⟨c, dz, cs, []⟩ b N (.Try body [.ExceptHandler (some (.Name x np)) none [.Return (some (.Constant (.bool false) kd p1)) p2] hpos] [] [] pos) K := by
  intro s Q E tu po F M q
  have hgk := gB_in hg
  refine wpAny_Try_except ?_
  refine h s _ _ tu.ok PassesOwn.looking F M (fun fl b' hp tk N' F' M' r => ?_) fun e hp tk r => ?_
  · have qq := q c.g fl b' hp tk N' tu F' M' r
    cases fl
    · exact wpAny_execs_nil qq
    all_goals exact qq
  · obtain ⟨hX, a, b', N', rfl, sub, G, FG, R, U⟩ := r
    have hA : Fx.A ⟨c, dz, cs, []⟩ = c.A₀.deeper (envOf c.cn cs c.L c.a c.cd) := tu.ok.hA
    show wpAny (model PP c.w) (Fx.A ⟨c, dz, cs, []⟩) (noteFrame (.ref a) (envOf c.cn cs c.L c.a c.cd)) (fun _ s₂ => wpAny (model PP c.w) (Fx.A ⟨c, dz, cs, []⟩) (setFlight (.ref a) none) (fun _ s₃ => wpAny (model PP c.w) (Fx.A ⟨c, dz, cs, []⟩) (handleBy (.ref a) (envOf c.cn cs c.L c.a c.cd) _) Q E s₃) E s₂) E _
    rw [hA]
    refine wpAny_mono (caught_SN0 (E := fun _ _ => False) (Q := Q) (T' := "KeyError") (s' := { s with heap := hp, toks := tk }) R FG tu.ok.ok.B U tu.ok.XB tu.ok.TB tu.d KtsTurn.refl hx hv hn kr_isExc_KeyError kr_notTuple_KeyError (by rw [isSubtype_type]; kernel_rfl) ?_ hk hgk.2.2.2 ?_ PassesOwnAt.never)
      (fun _ _ q => wpAny_mono q (fun _ _ q => wpAny_mono q (fun _ _ q => q) fun _ _ e => e.elim) fun _ _ e => e.elim) fun _ _ e => e.elim
    · intro h' g' t1 F' N₂ B₂ X₂ T₂ D₂
      refine wpAny_execs_cons (wpAny_Return_some (wpAny_Constant_bool ?_))
      exact q g' (.ret (.bool false)) b' h' tk N' ⟨t1, ⟨⟨B₂, X₂, T₂, tu.ok.ok.h1, tu.ok.ok.h2⟩, tu.ok.XB, tu.ok.TB, tu.ok.hA⟩, D₂⟩ F' N₂ (k g' b' N' hX sub)
    · exact hdb
theorem enterTC {w : World} {dz : Nat} {N : Led} {vs : List Value} {R : Value → Led → Prop} {name qual : Str} {params : Arguments} {body : List Stmt} {scope : Scope} {dV kV doc pm cdv ct oc : Value} {an od : Option Addr} {osl : Array (Option Value)} {ad : Addr} (bl bL : List (Str × Value))
    (ho : (Mine.hd.heap_1 (w).params).lookup ad = some ⟨oc, od, .func (fnOf name qual params body scope dV kV doc pm an cdv ct), osl⟩) (hcd : codeIn (Mine.hd.heap_1 (w).params) cdv qual = true)
    (hbind : ∀ s, (Mine.hd.heap_1 (w).params).In s.heap → BindsTo s (fnOf name qual params body scope dV kV doc pm an cdv ct) ⟨vs, []⟩ bl.reverse) (hkind : (bl.reverse.all fun y => scope.names.lookup y.1 == some .local) = true)
    (hnd : ((cellsFrom 0 scope.names []).map (·.1)).Nodup)
    (hco : scope.isCoroutine = false) (hgen : scope.isGenerator = false) (hk : scope.kind = .function)
    (hL : ∀ L y, bindL (envOfC qual scope L ad cdv).kindOf bl.reverse (fun _ => none) y = bget (ofB bL) y)
    (h : ∀ (c : Cx) (cells : Led), c.w = w → CellsAre (bindC (envOfC qual scope c.L ad cdv).kindOf bl.reverse fun _ => none) (cellsFrom (c.L + 1) scope.names []) cells → (∀ p ∈ N, p.1 < c.L) →
      ExsT ⟨c, dz, scope, cellsFrom (c.L + 1) scope.names []⟩ (ofB bL) (cells ++ N) body (RetT R)) : FullT w ad (dz + 1) vs N R := by
  intro mean mg mb dp un gd env outer A₀ base h₀ L m s Q E B X₀ T XB TB D hf hke h1 h2 F M ret
  have XS := X₀.keeps F.keep
  have TS := T.keeps F.keep
  obtain ⟨B₂, st, D₂⟩ := turn_in (s := s) (A := topA dp un gd env outer) rfl B F M D rfl hf hke
  refine wpAny_call (codeAny_call_function (show dp < recursionLimit by omega) (XS _ _ ho) rfl hco hgen rfl (codeRec_of XS hcd) (hbind s XS _ _ _ _ ?_))
  refine wpAny_newFunctionEnv_cells hk (fun x hx => .inl (beq_iff_eq.mp (List.all_eq_true.mp hkind x hx))) fun env' he s' x => ?_
  subst he
  refine ⟨TS.nolimit.keeps x.toInCall.keep, codeAny_func ?_⟩
  obtain ⟨h₁, tk, rfl, _⟩ := x.done
  have hk₁ := x.toInCall.keep
  obtain ⟨cells, NC, Y⟩ := Cl.news (h₀ := s.heap) (Nat.le_refl _) fun n c hm => ⟨x.cell n c (lookup_of_mem_nodup (cellsFrom_names scope.names 0 (s.heap.objs.size + 1) [] [] rfl ▸ hnd) hm), x.above n c hm⟩
  refine h ⟨w, mean, mg, mb, dp + 1, un + 3, gd, env :: outer, topA dp un gd env outer, base, hideAll s.heap (N.map fun p : Addr × Obj => p.1), s.heap.objs.size, qual, cdv, ad⟩ cells rfl Y (fun p hp => Heap.lt_size (M p hp).1) _ _ _
    ⟨KtsTurn.refl, ⟨⟨B₂, X₀.keeps st, T.keeps st, by show dp + 1 + dz < _; omega, by show un + 3 + 8 * dz + 8 < _; omega⟩, XB, TB, rfl⟩, D₂⟩ PassesOwn.leaving (frw ⟨x.toInCall.ns, fun b o e => hk₁ b o (of_hideAll _ e), Nat.le_of_eq (hideAll_size _ _)⟩ (hL _)) (fun p hp => ?_) ?_
  · rcases List.mem_append.mp hp with hp | hp
    · refine ⟨(NC p hp).1, (NC p hp).2.1, ?_⟩
      cases q : (hideAll s.heap (N.map (·.1))).get? p.1 with
      | none => rfl
      | some o => have := of_hideAll _ q; rw [(NC p hp).2.2] at this; cases this
    · exact ⟨hk₁ _ _ (M p hp).1, Nat.ne_of_lt (Heap.lt_size (M p hp).1), hideAll_none _ (List.mem_map_of_mem hp)⟩
  rintro g fl b' h₂ tk₂ nw TT F₂ N₂ ⟨r, rfl, hr⟩
  obtain ⟨h₀', t1, t2, t3, t4, t5, t6, t7⟩ := turn_back (s := s) rfl B F M XB TB D hf hke TT.t F₂ N₂
  exact ret r h₂ tk₂ nw h₀' t1 t2 t3 t4 t5 t6 t7 hr
section
variable {f : Fx} {b : Binds} {N : Led} {K : Fx → Flow → Binds → Led → Prop} {rest : List Stmt}
/-- what follows a call that turns the ground -/
theorem call_turn {x : Str} {np pos : Pos} {e : Expr} {r0 : List Expr} {ad : Addr} {dz : Nat} {R : Value → Led → Prop} {Q : Value → Shared → Prop} {E : Value → Shared → Prop} {s : Shared} {RA : List Value → Led → Prop} (g : Fun f.c.w x ad) (ha : Ags f f.env b N pos (e :: r0) RA) (C : ∀ vs N₁, RA vs N₁ → FullT f.c.w ad dz vs N₁ R) (le : dz ≤ f.dz)
    (tu : Turned f f.c.g) (F : f.F s.heap b) (M : f.N s.heap N) (hg : gB f.env x = true) (hs : PEs (e :: r0)) (hfk : f.cs.kind = .function)
    (q : ∀ g h tk N' v, Turned f g → (f.at g).F h b → (f.at g).N h N' → R v N' → Q v { s with heap := h, toks := tk }) : f.Wp (eval (.Call (.Name x np) (e :: r0) [] pos) f.env) Q E s :=
  Call_ ((EvV.glob g.1 hg).jd s _ _ tu.ok.ok F M fun v h tk N₁ F₁ M₁ r => by
    obtain ⟨rfl, rfl⟩ := r
    refine callWith_K (tu.ok.ok.X.keeps F₁.keep) g.2 (ha _ _ _ tu.ok.ok F₁ M₁ fun vs h₂ tk₂ N₂ F₂ M₂ r₂ => ⟨tu.ok.ok.X.keeps F₂.keep, ?_⟩) (hs.1.arg _ r0) (noStar hs.2)
    refine C vs N₂ r₂ _ _ _ _ _ _ _ _ _ _ _ _ _ _ _ _ tu.ok.ok.B tu.ok.ok.X tu.ok.ok.T tu.ok.XB tu.ok.TB tu.d rfl hfk (by have : f.c.dp + f.dz < recursionLimit := tu.ok.ok.h1; show f.c.dp + dz < _; omega) (by have : f.c.un + 8 * f.dz + 8 < cLine := tu.ok.ok.h2; show f.c.un + 8 * dz + 8 < _; omega) F₂ M₂ ?_
    intro r h' tk' N' h₀' t1 t2 t3 t4 t5 t6 t7 hr
    exact q h₀' h' tk' N' r ⟨t1, ⟨⟨t2, t3, t4, tu.ok.ok.h1, tu.ok.ok.h2⟩, tu.ok.XB, tu.ok.TB, tu.ok.hA⟩, t5⟩ t6 t7 hr) rfl
theorem ExsT.retCall {x : Str} {np pos rp : Pos} {e : Expr} {r0 : List Expr} {ad : Addr} {dz : Nat} {R : Value → Led → Prop} {RA : List Value → Led → Prop} (g : Fun f.c.w x ad) (ha : Ags f f.env b N pos (e :: r0) RA) (C : ∀ vs N₁, RA vs N₁ → FullT f.c.w ad dz vs N₁ R) (le : dz ≤ f.dz)
    (k : ∀ g v N', R v N' → K (f.at g) (.ret v) b N') (hg : gB f.env x = true) (hs : PEs (e :: r0)) (hfk : f.cs.kind = .function) : ExsT f b N (.Return (some (.Call (.Name x np) (e :: r0) [] pos)) rp :: rest) K :=
  ExsT.cons fun s Q E tu po F M q => wpAny_Return_some (call_turn g ha C le tu F M hg hs hfk fun g h tk N' v t F' M' r => q _ _ _ _ _ _ t F' M' (k g v N' r))
theorem ExsT.ifNe {x y : Str} {np pos cp yp ip : Pos} {e : Expr} {r0 : List Expr} {ad : Addr} {dz : Nat} {d : Bool} {R : Value → Led → Prop} {RA : List Value → Led → Prop} {body : List Stmt} (g : Fun f.c.w x ad) (ha : Ags f f.env b N pos (e :: r0) RA) (C : ∀ vs N₁, RA vs N₁ → FullT f.c.w ad dz vs N₁ R) (le : dz ≤ f.dz)
    (hd : bget b y = some (.bool d)) (hR : ∀ v N', R v N' → ∃ p, v = .bool p ∧ ∀ g, Turned f g → ExsT (f.at g) b N' (if p != d then body else []) (SeqT rest K))
    (hg : gB f.env x = true) (hs : PEs (e :: r0)) (hfk : f.cs.kind = .function) (l : lB f.cs y .local = true) : ExsT f b N (.If (.Compare (.Call (.Name x np) (e :: r0) [] pos) [.NotEq] [.Name y yp] cp) body [] ip :: rest) K :=
  ExsT.cons fun s Q E tu po F M q => wpAny_If (wpAny_isTrue_Compare1 (call_turn g ha C le tu F M hg hs hfk fun g h tk N' v t F' M' r => by
    obtain ⟨p, rfl, hk⟩ := hR v N' r
    refine nameX_L F' hd (ne_bool (wpAny_truthy_bool ?_)) (lB_ok l).1 (lB_ok l).2.1 (lB_ok l).2.2
    have kk := hk g t { s with heap := h, toks := tk } Q E ⟨KtsTurn.refl, t.ok, t.d⟩ po F' M' fun g' fl b2 h tk N3 T2 F2 M2 k => q g' fl b2 h tk N3 (t.trans T2) F2 M2 k
    cases hp : (p != d)
    · rw [hp] at kk; exact kk
    · rw [hp] at kk; exact kk) (pe_name.marks _))
end
end Mine
end
section
open PySem PySem.W PyProof.Rows PySem.Calls
set_option Elab.async false
set_option maxRecDepth 100000
set_option maxHeartbeats 4000000
set_option linter.unusedVariables false
namespace Mine
section
variable {f : Fx} {b : Binds} {N : Led} {en : Env}
theorem sz_seq {n : Nat} (h : n ≤ 100000) : n ≤ sizeLine := Nat.le_trans h (by rw [sizeLine_eq]; exact Nat.le_of_ble_eq_true rfl)
theorem pe_dict {ks vs pos} : PE (.Dict ks vs pos) := ⟨fun _ _ => rfl, fun _ _ => rfl, fun _ => rfl, fun _ _ => rfl⟩
/-- {} -/
def NewD (f : Fx) (N : Led) : Value → Led → Prop := fun v N' => ∃ D o, v = .ref D ∧ N' = (D, o) :: N ∧ (∀ p ∈ N, p.1 ≠ D) ∧ (D == sysModules) = false ∧ o.IsDictOf (PySem.strKind PP f.c.w) []
theorem Ev.dict0 {pos : Pos} : Ev f en b N (.Dict [] [] pos) (NewD f N) :=
  ⟨pe_dict, fun s _ _ ok F M q => newDict_K F M ok.T.nolimit fun d h' o F' M' lo sm i1 _ _ _ => q _ _ s.toks _ F' M' ⟨d, o, rfl, rfl, ne_of_lo lo, sm, i1⟩⟩
/-- the ledger with o at d -/
def put (N : Led) (d : Addr) (o : Obj) : Led := (d, o) :: N.filter fun p => !(p.1 == d)
theorem mem_put {d : Addr} {o : Obj} {p : Addr × Obj} : p ∈ put N d o ↔ p = (d, o) ∨ (p ∈ N ∧ p.1 ≠ d) := by
  unfold put
  rw [List.mem_cons, List.mem_filter]
  simp
theorem put_self {d : Addr} {o : Obj} : (d, o) ∈ put N d o := List.mem_cons_self
theorem put_other {d : Addr} {o : Obj} {p : Addr × Obj} (h : p ∈ N) (e : p.1 ≠ d) : p ∈ put N d o := mem_put.mpr (.inr ⟨h, e⟩)
theorem put_off {d : Addr} : ∀ p ∈ N.filter (fun p => !(p.1 == d)), p.1 ≠ d := fun p hp => by
  have := (List.mem_filter.mp hp).2
  simpa using this
theorem put_sub {d : Addr} {o : Obj} (h : (d, o) ∈ N) : ∀ p ∈ put N d o, p ∈ N := fun p hp => by
  rcases mem_put.mp hp with rfl | hp
  · exact h
  · exact hp.1
/-- d[k] = e -/
theorem Ex.setD {o i e : Expr} {p1 pos : Pos} {k : Str} {R : Value → Led → Prop} {K : Flow → Binds → Led → Prop} (he : Ev f f.env b N e R)
    (hk : ∀ v N₁, R v N₁ → ∃ d ob kvs, EvV f f.env b N₁ o (.ref d) ∧ EvS f f.env b N₁ i k ∧ (d, ob) ∈ N₁ ∧ ob.IsDictOf (PySem.strKind PP f.c.w) kvs ∧ kvs.length ≤ 100000 ∧ ∀ o', o'.IsDictOf (PySem.strKind PP f.c.w) (stored kvs k v) → K .next b (put N₁ d o'))
    (hs : swapsWith e (some (.Subscript o i p1)) pos.line f.env = pure false) : Ex f b N (.Assign [.Subscript o i p1] e pos) K :=
  fun s _ _ ok F M q => wpAny_Assign_Subscript (he.jd s _ _ ok F M fun v h tk N₁ F₁ M₁ r => by
    obtain ⟨d, ob, kvs, ho, hi, hm, hd, hz, kk⟩ := hk v N₁ r
    refine ho.jd _ _ _ ok F₁ M₁ fun ov h tk N₂ F₂ M₂ r₂ => ?_
    obtain ⟨rfl, rfl⟩ := r₂
    refine hi.jd _ _ _ ok F₂ M₂ fun iv h tk N₃ F₃ M₃ r₃ => ?_
    obtain ⟨⟨t, rfl⟩, rfl⟩ := r₃
    exact kda_set (knd := PySem.strKind PP f.c.w) F₃ (news := put N₃ d ob) (fun p hp => M₃ p (put_sub hm p hp)) (.head put_off) hd isStr (sz_seq hz) fun h' o' F' M' hd' => q _ _ _ _ _ F' M' (kk o' hd')) hs
theorem AtD.own {d : Addr} {o : Obj} {kvs : List (Str × Value)} (hm : (d, o) ∈ N) (hd : o.IsDictOf (PySem.strKind PP f.c.w) kvs) (hs : (d == sysModules) = false) : AtD f N d kvs := ⟨hs, o, .inl hm, hd⟩
end
end Mine
end
section
open PySem PySem.W PyProof.Rows PySem.Calls
set_option Elab.async false
set_option maxRecDepth 100000
set_option maxHeartbeats 4000000
set_option linter.unusedVariables false
namespace Mine
section
variable {f : Fx} {b : Binds} {N : Led} {en : Env}
theorem pe_attr {o a pos} : PE (.Attribute o a pos) := ⟨fun _ _ => rfl, fun _ _ => rfl, fun _ => rfl, fun _ _ => rfl⟩
theorem EvV.attr {x : Str} {name : Str} {np pos : Pos} {xa C dx : Addr} {es : List DictEntry} {n : Nat} {sl : Array (Option Value)} {v : Value} {attr : Option Value} (ho : EvV f en b N (.Name x np) (.ref xa)) (m1 : (xa, (⟨.ref C, some dx, .plain, sl⟩ : Obj)) ∈ N) (m2 : (dx, dictOf es n) ∈ N)
    (hg : plainGet (Mine.hd.heap_1 (f.c.w).params) C name = true) (hh : hasDictIn (Mine.hd.heap_1 (f.c.w).params) C = true) (ha : findIn (Mine.hd.heap_1 (f.c.w).params) (.ref C) name = some attr) (hn : noGet (Mine.hd.heap_1 (f.c.w).params) attr = true) (hl : getL name es = some (some v)) (hv : handedIn v = true) :
    EvV f en b N (.Attribute (.Name x np) name pos) v :=
  ⟨pe_attr, fun s _ _ ok F M q => Attribute_name (ho.jd s _ _ ok F M fun v' h tk N' F' M' r => by
    obtain ⟨rfl, rfl⟩ := r
    exact get_own F' ok.X (InstAt.of_news M' m1 m2) hg hh ha hn hl hv (q _ _ _ _ F' M' ⟨rfl, rfl⟩))⟩
theorem ExsE.step {st : Stmt} {rest : List Stmt} {K : Flow → Binds → Led → Prop} {X : Value → Heap → Prop} (h : Ex f b N st fun fl b' N' => fl = .next ∧ ExsE f b' N' rest K X) : ExsE f b N (st :: rest) K X :=
  ExsE.cons (.of (h.mono fun fl b' N' r => by obtain ⟨rfl, r⟩ := r; exact r))
theorem ExsE.asV {x : Str} {e : Expr} {px pos : Pos} {rest : List Stmt} {y : Value} {K : Flow → Binds → Led → Prop} {X : Value → Heap → Prop} (h : EvV f f.env b N e y) (k : ExsE f ((x, some y) :: b) N rest K X)
    (hs : swapsWith e (some (.Name x px)) pos.line f.env = pure false) (l : lB f.cs x .local = true) : ExsE f b N (.Assign [.Name x px] e pos :: rest) K X :=
  ExsE.step (Ex.asg h (fun v N' r => ⟨rfl, by obtain ⟨rfl, rfl⟩ := r; exact k⟩) hs l)
theorem ExsE.retV {e : Expr} {pos : Pos} {rest : List Stmt} {x : Value} {K : Flow → Binds → Led → Prop} {X : Value → Heap → Prop} (h : EvV f f.env b N e x) (k : K (.ret x) b N) : ExsE f b N (.Return (some e) pos :: rest) K X := .of (Exs.retV h k)
end
end Mine
end
section
open PySem PySem.W PyProof.Rows PySem.Calls
set_option Elab.async false
set_option maxRecDepth 100000
set_option maxHeartbeats 4000000
set_option linter.unusedVariables false
namespace Mine
section
variable {prog : Program} {w : World} {A : Around} {E : Value → Shared → Prop} {s : Shared} {h₀ : Heap} {L : Addr} {m : Str → Option Value} {news : Led}
theorem adjust_init (n : Nat) (hn : 1 ≤ n) : Builtin.Slice.sliceAdjust none (some (-1)) 1 (n : Int) = ((0 : Int), ((n - 1 : Nat) : Int)) := by
  unfold Builtin.Slice.sliceAdjust
  have h1 : ¬ ((1 : Int) < 0) := by omega
  have h2 : ((-1 : Int) < 0) := by omega
  simp only [h1, h2, if_false, if_true]
  congr 1
  omega
theorem places_init (n : Nat) (hn : 1 ≤ n) : Builtin.Slice.slicePlaces (0 : Int) ((n - 1 : Nat) : Int) 1 = n - 1 := by
  unfold Builtin.Slice.slicePlaces
  have h1 : (1 : Int) > 0 := by omega
  simp only [h1, if_true, Int.ediv_one]
  split <;> omega
theorem sliceApplied_init {sl : Addr} {n : Nat} {u : Tok} {Q : Int × Int × Nat → Shared → Prop} (hs : s.heap.IsSliceOf sl .none (.int (-1) u) .none) (hn : 1 ≤ n) (h : Q ((0 : Int), 1, n - 1) s) :
    wpAny (model prog w) A (Builtin.Slice.sliceApplied (.ref sl) (pure (n : Int))) Q E s := by
  obtain ⟨os, hos, hcs, hds⟩ := id hs
  unfold Builtin.Slice.sliceApplied Builtin.Slice.sliceFields
  refine wpAny_bind (wpAny_bind (wpAny_field hos hds (x := .none) rfl (wpAny_bind (wpAny_field hos hds (x := .int (-1) u) rfl (wpAny_bind (wpAny_field hos hds (x := .none) rfl (wpAny_pure ?_)))))))
  refine wpAny_bind (slicePart_none ?_)
  show wpAny _ _ (if ((1 : Int) == 0) = true then _ else _) _ _ s
  rw [if_neg (by decide)]
  refine wpAny_bind (slicePart_none (wpAny_bind (slicePart_int (wpAny_bind (wpAny_pure ?_)))))
  show wpAny _ _ (match Builtin.Slice.sliceAdjust none (some (-1)) 1 (n : Int) with | (lo, hi) => pure (lo, (1 : Int), Builtin.Slice.slicePlaces lo hi 1)) _ _ s
  rw [adjust_init n hn]
  show wpAny _ _ (pure ((0 : Int), (1 : Int), Builtin.Slice.slicePlaces (0 : Int) ((n - 1 : Nat) : Int) 1)) _ _ s
  rw [places_init n hn]
  exact wpAny_pure h
theorem pick_init (xs : Array Value) : ((List.range (xs.size - 1)).filterMap fun (k : Nat) => xs[((0 : Int) + (k : Int) * 1).toNat]?).toArray = xs.toList.dropLast.toArray := by
  have e : (fun (k : Nat) => xs[((0 : Int) + (k : Int) * 1).toNat]?) = fun k => xs[0 + k]? := by
    funext k
    have : ((0 : Int) + (k : Int) * 1).toNat = 0 + k := by omega
    rw [this]
  rw [e]
  have := pick_run xs 0 (xs.size - 1)
  rw [List.filterMap_map] at this
  have e2 : ((fun x => xs[x]?) ∘ fun x => 0 + x) = fun k => xs[0 + k]? := rfl
  rw [e2] at this
  rw [this, List.drop_zero, List.dropLast_eq_take]
  rw [Array.length_toList]
theorem getItem_tuple_init {t sl : Addr} {items : Array Value} {u : Tok} {Q : Value → Shared → Prop} (ht : IsTup s.heap t items) (hs : s.heap.IsSliceOf sl .none (.int (-1) u) .none) (h1 : 1 ≤ items.size)
    (h : Q (.ref s.heap.objs.size) { s with heap := s.heap.push { cls := .type "tuple", data := .seq items.toList.dropLast.toArray } })
    (hsz : items.size ≤ sizeLine) : wpAny (model prog w) A (getItem (.ref t) (.ref sl)) Q E s := by
  have hdrop : sizeOk (.seq items.toList.dropLast.toArray) := by
    show items.toList.dropLast.toArray.size ≤ sizeLine
    rw [List.size_toArray, List.length_dropLast, Array.length_toList]
    omega
  obtain ⟨os, hos, hcs, hds⟩ := id hs
  have hTs : s.TypeIs (.ref sl) "slice" := ⟨os, hos, hcs⟩
  unfold getItem
  try with_reducible refine wpAny_holding ?_
  first | refine wpAny_bind (wpAny_pure ?_) | skip
  refine wpAny_bind (wpAny_sequenceKey ht.typeIs (by decide) ?_)
  refine wpAny_bind (wpAny_callSpecial?_slot (name := Str.ofString "__getitem__") ht.typeIs slot_tuple_getitem
    (wpAny_call_entry slot_tuple_getitem ht.typeIs entry_tuple_getitem ?_ (args_tuple_getitem _ _)))
  show wpAny _ _ (Builtin.Tuple.tupleItemsOf (.ref t) >>= _) _ _ s
  refine wpAny_bind (tupleItemsOf_ ht ?_)
  refine wpAny_bind (wpAny_typeOf hTs ?_)
  rw [if_pos (by decide)]
  refine wpAny_bind (sliceApplied_init hs h1 ?_)
  have hno : ¬ (((0 : Int) == 0 && (1 : Int) == 1 && (items.size - 1) == items.size) = true) := by
    have : ((items.size - 1) == items.size) = false := by rw [beq_eq_false_iff_ne]; omega
    rw [this]; simp
  show wpAny _ _ (if ((0 : Int) == 0 && (1 : Int) == 1 && (items.size - 1) == items.size) = true then _ else _) _ _ s
  rw [if_neg hno, pick_init items]
  first
    | exact wpAny_bind (m := Builtin.Tuple.tupleExact _) (wpAny_newObj_type (wpAny_pure ⟨_, rfl, wpAny_pure h⟩) hdrop)
    | exact wpAny_bind (m := Builtin.Tuple.tupleExact _) (wpAny_newObj_type (wpAny_bind (wpAny_pure (wpAny_pure ⟨_, rfl, wpAny_pure h⟩))) hdrop)
    | exact wpAny_bind (wpAny_bind (m := Builtin.Tuple.tupleExact _) (wpAny_newObj_type (wpAny_pure (wpAny_pure ⟨_, rfl, wpAny_pure h⟩)) hdrop))
    | exact wpAny_bind (wpAny_bind (m := Builtin.Tuple.tupleExact _) (wpAny_newObj_type (wpAny_pure ⟨_, rfl, wpAny_pure h⟩) hdrop))
theorem slice_tuple_init {value slice : Expr} {t : Addr} {items : Array Value} {u : Tok} {Q : Value → Shared → Prop}
    (F : Fr h₀ L s.heap m) (N : News h₀ L s.heap news) (ht : IsTup s.heap t items) (h1 : 1 ≤ items.size)
    (h : ∀ h', Fr h₀ L h' m → News h₀ L h' ((s.heap.objs.size + 1, { cls := .type "tuple", data := .seq items.toList.dropLast.toArray }) :: news) → Q (.ref (s.heap.objs.size + 1)) { s with heap := h' })
    (hs : subscripted slice false (.ref t) (.ref s.heap.objs.size) = operate [.ref s.heap.objs.size, .ref t] (getItem (.ref t) (.ref s.heap.objs.size)))
    (hg : ∀ r, letTemporaryGo value (.ref t) r = pure ())
    (hsz : items.size ≤ sizeLine) :
    wpAny (model prog w) A (subscriptTail value slice (.ref t) (.ref s.heap.objs.size)) Q E { s with heap := s.heap.push { cls := .type "slice", data := .fields #[.none, .int (-1) u, .none] } } := by
  have ht' : IsTup (s.heap.push { cls := .type "slice", data := .fields #[.none, .int (-1) u, .none] }) t items := ht.keeps fun _ _ e => Heap.get?_push_of_some _ e
  refine subscriptTail_ops (s := { s with heap := s.heap.push { cls := .type "slice", data := .fields #[.none, .int (-1) u, .none] } }) ht'.typeIs slot_tuple_getitem.lookup
    (getItem_tuple_init ht' (Heap.IsSliceOf.new ..) h1 ?_ hsz) hs hg
  have N1 := News.push (F.push { cls := .type "slice", data := .fields #[.none, .int (-1) u, .none] }) (N.grown fun _ _ e => Heap.get?_push_of_some _ e) { cls := .type "tuple", data := .seq items.toList.dropLast.toArray }
  rw [Heap.size_push] at N1
  show Q (.ref (s.heap.push _).objs.size) _
  rw [Heap.size_push]
  exact h _ ((F.push _).push _) N1
end
section
variable {f : Fx} {b : Binds} {N : Led} {en : Env}
/-- t[:-1] of a tuple -/
theorem Ev.init {o hi : Expr} {sp pos : Pos} {D : Addr} {vs : List Value} (ho : EvV f en b N o (.ref D)) (hl : AtT f N D vs) (h1 : 1 ≤ vs.length) (hz : vs.length ≤ 100000) (hi1 : EvI f en b N hi (-1))
    (hs : ∀ a c : Value, subscripted (.Slice none (some hi) none sp) false a c = operate [c, a] (getItem a c)) (ht : ∀ r a, letTemporaryGo o (.ref a) r = pure ()) :
    Ev f en b N (.Subscript o (.Slice none (some hi) none sp) pos) (NewT N vs.dropLast) :=
  ⟨pe_subs, fun s Q E ok F M q => Subscript_ (ho.jd s _ _ ok F M fun v h tk N₁ F₁ M₁ r₁ => by
    obtain ⟨rfl, rfl⟩ := r₁
    refine wpAny_Slice (evalPart_none_step (evalPart_some_step (hi1.jd _ _ _ ok F₁ M₁ fun v h tk N₂ F₂ M₂ r => ?_)))
    obtain ⟨⟨u, rfl⟩, rfl⟩ := r
    refine evalPart_none_step ?_
    exact slice_tuple_init (items := vs.toArray) F₂ M₂ (hl.is F₂ M₂) (by simpa using h1) (fun h' F' M' => q _ _ _ _ F' M' ⟨_, rfl, rfl, fun p hp => Nat.ne_of_lt (Nat.lt_succ_of_lt (Heap.lt_size (M₂ p hp).1))⟩) (hs _ _) (fun r => ht r _) (by rw [List.size_toArray]; exact sz_seq hz))⟩
/-- the last of a tuple -/
theorem EvV.lastT {o i : Expr} {pos : Pos} {D : Addr} {vs : List Value} {v : Value} (ho : EvV f en b N o (.ref D)) (hi : EvI f en b N i (-1)) (hl : AtT f N D (vs ++ [v])) : EvV f en b N (.Subscript o i pos) v :=
  EvV.itemT (j := vs.length) ho hi hl (by decide) (by decide) (by
    unfold seqIndex?
    simp
    omega) (by simp)
theorem ExsE.exprA {e : Expr} {pos : Pos} {rest : List Stmt} {K : Flow → Binds → Led → Prop} {X : Value → Heap → Prop} {R : Value → Led → Prop} (h : JdE f b N (eval e f.env) R X) (k : ∀ v N', R v N' → ExsE f b N' rest K X) (hi : interactive f.env = false) (hw : swapsWith e none pos.line f.env = pure false) : ExsE f b N (.Expr e pos :: rest) K X :=
  ExsE.cons fun s _ _ ok po F N' q x => wpAny_Expr_any (h s _ _ ok F N' (fun v hp tk N'' F' M' r => q _ _ _ _ _ F' M' (k v N'' r)) x) hi hw
end
end Mine
end
section
open PySem PySem.W PyProof.Rows PySem.Calls
set_option Elab.async false
set_option maxRecDepth 100000
set_option maxHeartbeats 4000000
set_option linter.unusedVariables false
namespace Mine
/-- the tree, flat: its spots, in the order in which they were made -/
inductive SK
  | nest | lst | txt (x : Str)
def SK.node : SK → Prop
  | .txt _ => False
  | _ => True
abbrev Spot := List Str
abbrev Mp := List (Spot × SK)
def look : Mp → Spot → Option SK
  | [], _ => none
  | q :: r, s => if q.1 = s then some q.2 else look r s
def kidOf (s : Spot) (q : Spot × SK) : Option Str := if q.1.dropLast = s then q.1.getLast? else none
def kids (M : Mp) (s : Spot) : List Str := M.filterMap (kidOf s)
theorem look_app : ∀ {M M' : Mp} {s : Spot}, look (M ++ M') s = (look M s).or (look M' s)
  | [], _, _ => rfl
  | q :: r, M', s => by
    show (if q.1 = s then some q.2 else look (r ++ M') s) = Option.or (if q.1 = s then some q.2 else look r s) _
    by_cases e : q.1 = s
    · rw [if_pos e, if_pos e]; rfl
    · rw [if_neg e, if_neg e]; exact look_app
theorem look_old {M M' : Mp} {s : Spot} {k : SK} (h : look M s = some k) : look (M ++ M') s = some k := by rw [look_app, h]; rfl
theorem look_new {M : Mp} {c s : Spot} {k : SK} (h : look M s = none) : look (M ++ [(c, k)]) s = if c = s then some k else none := by rw [look_app, h]; rfl
theorem look_of_new {M : Mp} {c s : Spot} {k k' : SK} (h : look (M ++ [(c, k)]) s = some k') : look M s = some k' ∨ (look M s = none ∧ c = s ∧ k = k') := by
  cases e : look M s with
  | some k2 => rw [look_old e] at h; exact .inl h
  | none =>
    rw [look_new e] at h
    split at h
    · exact .inr ⟨rfl, by assumption, Option.some.inj h⟩
    · cases h
theorem kids_app {M M' : Mp} {s : Spot} : kids (M ++ M') s = kids M s ++ kids M' s := List.filterMap_append ..
theorem kidOf_snoc {s s' : Spot} {x : Str} {k : SK} : kidOf s (s' ++ [x], k) = if s' = s then some x else none := by simp [kidOf]
theorem kids_snoc {M : Mp} {s s' : Spot} {x : Str} {k : SK} : kids (M ++ [(s' ++ [x], k)]) s = kids M s ++ if s' = s then [x] else [] := by
  rw [kids_app]
  congr 1
  show List.filterMap (kidOf s) [(s' ++ [x], k)] = _
  rw [List.filterMap_cons, kidOf_snoc]
  by_cases e : s' = s
  · rw [if_pos e, if_pos e]; rfl
  · rw [if_neg e, if_neg e]; rfl
theorem look_mem {M : Mp} {s : Spot} : (look M s).isSome = true ↔ ∃ k, (s, k) ∈ M := by
  induction M with
  | nil => simp [look]
  | cons q r ih =>
    show (if q.1 = s then some q.2 else look r s).isSome = true ↔ _
    by_cases e : q.1 = s
    · rw [if_pos e]; simp; exact ⟨q.2, .inl (by rw [← e])⟩
    · rw [if_neg e, ih]
      constructor
      · rintro ⟨k, h⟩; exact ⟨k, List.mem_cons_of_mem _ h⟩
      · rintro ⟨k, h⟩
        rcases List.mem_cons.mp h with h | h
        · exact (e (by rw [← h])).elim
        · exact ⟨k, h⟩
theorem mem_kids {M : Mp} {s : Spot} {x : Str} : x ∈ kids M s ↔ look M (s ++ [x]) ≠ none := by
  rw [← Option.isSome_iff_ne_none, look_mem]
  unfold kids
  rw [List.mem_filterMap]
  constructor
  · rintro ⟨⟨q, k⟩, hq, h⟩
    unfold kidOf at h
    split at h
    · rename_i e
      refine ⟨k, ?_⟩
      have : q = s ++ [x] := by
        simp only at h e
        have hne : q ≠ [] := fun z => by rw [z] at h; cases h
        rw [List.getLast?_eq_some_getLast hne] at h
        rw [← e, ← Option.some.inj h]
        exact (List.dropLast_concat_getLast hne).symm
      rw [← this]; exact hq
    · cases h
  · rintro ⟨k, h⟩
    exact ⟨_, h, by rw [kidOf_snoc, if_pos rfl]⟩
theorem kids_len {M : Mp} {s : Spot} : (kids M s).length ≤ M.length := List.length_filterMap_le ..
structure WF (M : Mp) : Prop where
  root : look M [] = some .nest
  lst : ∀ c, look M c = some .lst → ∃ n, n < 20 ∧ kids M c = (List.range (n + 1)).map num ∧ ∀ i, i ≤ n → look M (c ++ [num i]) = some .nest
  par : ∀ s x, look M (s ++ [x]) ≠ none → look M s = some .nest ∨ look M s = some .lst
theorem num_inj {m n : Nat} (hm : m < 30) (hn : n < 30) (h : num m = num n) : m = n := by
  have : ∀ m, m < 30 → ∀ n, n < 30 → num m = num n → m = n := by decide +kernel
  exact this m hm n hn h
theorem snoc_inj {s s' : Spot} {x x' : Str} (h : s ++ [x] = s' ++ [x']) : s = s' ∧ x = x' := by
  have := List.append_inj' h rfl
  exact ⟨this.1, by simpa using this.2⟩
theorem snoc_ne {s : Spot} {x : Str} : s ++ [x] ≠ s := fun e => by
  have := congrArg List.length e
  simp at this
theorem WF.leaf {M : Mp} (W : WF M) {s : Spot} (h : look M s = none) (x : Str) : look M (s ++ [x]) = none := by
  cases e : look M (s ++ [x]) with
  | none => rfl
  | some k =>
    have := W.par s x (by rw [e]; simp)
    rw [h] at this
    rcases this with h | h <;> cases h
/-- a new nest or text in a nest -/
theorem WF.add {M : Mp} (W : WF M) {s : Spot} {x : Str} {k : SK} (hs : look M s = some .nest) (hc : look M (s ++ [x]) = none) (hk : k ≠ .lst) : WF (M ++ [(s ++ [x], k)]) where
  root := look_old W.root
  lst c h := by
    rcases look_of_new h with h | ⟨_, _, h⟩
    · obtain ⟨n, h1, h2, h3⟩ := W.lst c h
      refine ⟨n, h1, ?_, fun i hi => look_old (h3 i hi)⟩
      rw [kids_snoc, if_neg (fun e => by rw [← e, hs] at h; cases h), List.append_nil, h2]
    · exact (hk h).elim
  par s' x' h := by
    by_cases e : look M (s' ++ [x']) = none
    · rw [look_new e] at h
      split at h
      · rename_i q
        obtain ⟨rfl, rfl⟩ := snoc_inj q
        exact .inl (look_old hs)
      · exact (h rfl).elim
    · exact (W.par s' x' e).imp look_old look_old
/-- a new list in a nest -/
theorem WF.addL {M : Mp} (W : WF M) {s : Spot} {x : Str} (hs : look M s = some .nest) (hc : look M (s ++ [x]) = none) : WF ((M ++ [(s ++ [x], .lst)]) ++ [(s ++ [x] ++ [num 0], .nest)]) where
  root := look_old (look_old W.root)
  lst c h := by
    rcases look_of_new h with h | ⟨_, _, h⟩
    · rcases look_of_new h with h | ⟨h0, rfl, _⟩
      · obtain ⟨n, h1, h2, h3⟩ := W.lst c h
        refine ⟨n, h1, ?_, fun i hi => look_old (look_old (h3 i hi))⟩
        rw [kids_snoc, if_neg (fun e => by rw [← e, hc] at h; cases h), List.append_nil, kids_snoc, if_neg (fun e => by rw [← e, hs] at h; cases h), List.append_nil, h2]
      · refine ⟨0, by decide, ?_, fun i hi => ?_⟩
        · have : kids M (s ++ [x]) = [] := by
            cases e : kids M (s ++ [x]) with
            | nil => rfl
            | cons y r => exact absurd (W.leaf hc y) (mem_kids.mp (by rw [e]; exact List.mem_cons_self))
          rw [kids_snoc, if_pos rfl, kids_snoc, if_neg snoc_ne.symm, this]
          rfl
        · obtain rfl : i = 0 := Nat.le_zero.mp hi
          have : look M (s ++ [x] ++ [num 0]) = none := W.leaf hc _
          rw [look_new (by rw [look_new this, if_neg snoc_ne.symm]), if_pos rfl]
    · cases h
  par s' x' h := by
    by_cases e : look (M ++ [(s ++ [x], .lst)]) (s' ++ [x']) = none
    · rw [look_new e] at h
      split at h
      · rename_i q
        obtain ⟨rfl, rfl⟩ := snoc_inj q
        exact .inr (look_old (by rw [look_new hc, if_pos rfl]))
      · exact (h rfl).elim
    · by_cases e2 : look M (s' ++ [x']) = none
      · rw [look_new e2] at e
        split at e
        · rename_i q
          obtain ⟨rfl, rfl⟩ := snoc_inj q
          exact .inl (look_old (look_old hs))
        · exact (e rfl).elim
      · exact (W.par s' x' e2).imp (fun h => look_old (look_old h)) (fun h => look_old (look_old h))
/-- one nest more in a list -/
theorem WF.addI {M : Mp} (W : WF M) {c : Spot} {n : Nat} (hs : look M c = some .lst) (hn : kids M c = (List.range n).map num) (hz : n < 20) : look M (c ++ [num n]) = none ∧ WF (M ++ [(c ++ [num n], .nest)]) := by
  have hnone : look M (c ++ [num n]) = none := by
    refine Classical.not_not.mp fun e => ?_
    have := mem_kids.mpr e
    rw [hn] at this
    obtain ⟨i, hi, e2⟩ := List.mem_map.mp this
    have hi := List.mem_range.mp hi
    exact absurd (num_inj (by omega) (by omega) e2) (by omega)
  refine ⟨hnone, look_old W.root, fun c' h => ?_, fun s' x' h => ?_⟩
  · rcases look_of_new h with h | ⟨_, _, h⟩
    · obtain ⟨m, h1, h2, h3⟩ := W.lst c' h
      by_cases e : c = c'
      · subst e
        have hm : n = m + 1 := by
          have := congrArg List.length (hn.symm.trans h2)
          simpa using this
        subst hm
        refine ⟨m + 1, hz, ?_, fun i hi => ?_⟩
        · rw [kids_snoc, if_pos rfl, hn, List.range_succ (n := m + 1), List.map_append]; rfl
        · by_cases q : i ≤ m
          · exact look_old (h3 i q)
          · obtain rfl : i = m + 1 := by omega
            rw [look_new hnone, if_pos rfl]
      · refine ⟨m, h1, ?_, fun i hi => look_old (h3 i hi)⟩
        rw [kids_snoc, if_neg e, List.append_nil, h2]
    · cases h
  · by_cases e : look M (s' ++ [x']) = none
    · rw [look_new e] at h
      split at h
      · rename_i q
        obtain ⟨rfl, rfl⟩ := snoc_inj q
        exact .inr (look_old hs)
      · exact (h rfl).elim
    · exact (W.par s' x' e).imp look_old look_old
/-- get_or_create_nest, on the flat tree -/
def gocM : Mp → Spot → List Str → Option (Mp × Spot)
  | M, s, [] => some (M, s)
  | M, s, k :: ks => match look M (s ++ [k]) with
    | none => gocM (M ++ [(s ++ [k], .nest)]) (s ++ [k]) ks
    | some .nest => gocM M (s ++ [k]) ks
    | some .lst => gocM M (s ++ [k] ++ [num ((kids M (s ++ [k])).length - 1)]) ks
    | some (.txt _) => none
theorem gocM_new {s : Spot} : ∀ {ks : List Str} {M : Mp} {s : Spot}, WF M → look M s = some .nest → (∀ j, look M (s ++ [j]) = none) → gocM M s ks ≠ none
  | [], M, s, _, _, _ => by simp [gocM]
  | k :: ks, M, s, W, hs, hj => by
    unfold gocM
    rw [hj k]
    exact gocM_new (s := s ++ [k]) (W.add hs (hj k) (by simp)) (by rw [look_new (hj k), if_pos rfl]) fun j => by
      rw [look_new (W.leaf (hj k) j), if_neg snoc_ne.symm]
end Mine
end
section
open PySem PySem.W PyProof.Rows PySem.Calls
set_option Elab.async false
set_option maxRecDepth 100000
set_option maxHeartbeats 4000000
set_option linter.unusedVariables false
namespace Mine
theorem All2.monoM {α β : Type} {R R' : α → β → Prop} {as : List α} {bs : List β} (h : All2 R as bs) (k : ∀ a b, b ∈ bs → R a b → R' a b) : All2 R' as bs := by
  induction h with
  | nil => exact .nil
  | cons r _ ih => exact .cons (k _ _ List.mem_cons_self r) (ih fun a b hb => k a b (List.mem_cons_of_mem _ hb))
theorem all2_one {α β : Type} {R : α → β → Prop} {a : α} {b : β} (h : R a b) : All2 R [a] [b] := .cons h .nil
/-- what stands at c in its parent -/
def Val (M : Mp) (α : Spot → Addr) (c : Spot) (v : Value) : Prop := match look M c with
  | some (.txt x) => ∃ t, v = .str x t
  | some _ => v = .ref (α c)
  | none => False
def NodeOk (w : World) (N : Led) (α : Spot → Addr) (M : Mp) (s : Spot) : SK → Prop
  | .nest => ∃ o kvs, (α s, o) ∈ N ∧ (α s == sysModules) = false ∧ o.IsDictOf (PySem.strKind PP w) kvs ∧ All2 (fun (kv : Str × Value) x => kv.1 = x ∧ Val M α (s ++ [x]) kv.2) kvs (kids M s)
  | .lst => ∃ its n, (α s, PySem.W.listOf its n) ∈ N ∧ All2 (fun v x => Val M α (s ++ [x]) v) its.toList (kids M s)
  | .txt _ => True
structure Rep (w : World) (N : Led) (α : Spot → Addr) (M : Mp) : Prop where
  node : ∀ s k, look M s = some k → NodeOk w N α M s k
  inj : ∀ s k s' k', look M s = some k → look M s' = some k' → k.node → k'.node → α s = α s' → s = s'
def Own (M : Mp) (α : Spot → Addr) (a : Addr) : Prop := ∃ s k, look M s = some k ∧ k.node ∧ a = α s
def KeepL (N : Led) (M : Mp) (α : Spot → Addr) (N' : Led) (M' : Mp) (α' : Spot → Addr) : Prop := ∀ p ∈ N, ¬ Own M α p.1 → p ∈ N' ∧ ¬ Own M' α' p.1
theorem KeepL.trans {N N' N'' : Led} {M M' M'' : Mp} {α α' α'' : Spot → Addr} (h : KeepL N M α N' M' α') (h' : KeepL N' M' α' N'' M'' α'') : KeepL N M α N'' M'' α'' := fun p hp ho => h' p (h p hp ho).1 (h p hp ho).2
theorem KeepL.of {N N' : Led} {M : Mp} {α : Spot → Addr} (h : ∀ p ∈ N, p ∈ N') : KeepL N M α N' M α := fun p hp ho => ⟨h p hp, ho⟩
theorem KeepL.less {N N₁ N' : Led} {M M' : Mp} {α α' : Spot → Addr} (h : KeepL N₁ M α N' M' α') (k : ∀ p ∈ N, p ∈ N₁) : KeepL N M α N' M' α' := fun p hp ho => h p (k p hp) ho
theorem Val.grow {M M' : Mp} {α α' : Spot → Addr} {c : Spot} {v : Value} (h : Val M α c v) (ha : ∀ q, look M q ≠ none → α' q = α q) : Val (M ++ M') α' c v := by
  unfold Val at h ⊢
  cases e : look M c with
  | none => rw [e] at h; exact h.elim
  | some k =>
    rw [e] at h
    rw [look_old e, ha c (by rw [e]; simp)]
    exact h
theorem NodeOk.own {w : World} {N : Led} {α : Spot → Addr} {M : Mp} {s : Spot} {k : SK} (h : NodeOk w N α M s k) (hk : k.node) : ∃ o, (α s, o) ∈ N := by
  cases k with
  | nest => obtain ⟨o, _, h, _⟩ := h; exact ⟨o, h⟩
  | lst => obtain ⟨its, n, h, _⟩ := h; exact ⟨_, h⟩
  | txt x => exact hk.elim
theorem Rep.more {w : World} {N N' : Led} {α : Spot → Addr} {M : Mp} (R : Rep w N α M) (h : ∀ p ∈ N, Own M α p.1 → p ∈ N') : Rep w N' α M where
  inj := R.inj
  node s k e := by
    have := R.node s k e
    cases k with
    | nest => obtain ⟨o, kvs, h1, h2⟩ := this; exact ⟨o, kvs, h _ h1 ⟨s, _, e, trivial, rfl⟩, h2⟩
    | lst => obtain ⟨its, n, h1, h2⟩ := this; exact ⟨its, n, h _ h1 ⟨s, _, e, trivial, rfl⟩, h2⟩
    | txt x => trivial
/-- one spot more -/
theorem Rep.add {w : World} {N N' : Led} {α α' : Spot → Addr} {M : Mp} (R : Rep w N α M) {s : Spot} {x : Str} {k k0 : SK} (hs : look M s = some k0) (hk0 : k0.node) (hc : look M (s ++ [x]) = none) (ha : ∀ q, look M q ≠ none → α' q = α q)
    (hn : k.node → ∀ q k', look M q = some k' → k'.node → α' (s ++ [x]) ≠ α q) (keep : ∀ p ∈ N, Own M α p.1 → p.1 ≠ α s → p ∈ N') (nS : NodeOk w N' α' (M ++ [(s ++ [x], k)]) s k0) (nC : NodeOk w N' α' (M ++ [(s ++ [x], k)]) (s ++ [x]) k) : Rep w N' α' (M ++ [(s ++ [x], k)]) where
  node q kq e := by
    rcases look_of_new e with e1 | ⟨_, rfl, rfl⟩
    · by_cases hq : s = q
      · subst hq
        obtain rfl : k0 = kq := Option.some.inj (hs.symm.trans e1)
        exact nS
      · have old := R.node q kq e1
        have e2 : look M q ≠ none := by rw [e1]; simp
        have hk : kids (M ++ [(s ++ [x], k)]) q = kids M q := by rw [kids_snoc, if_neg hq, List.append_nil]
        cases kq with
        | nest =>
          obtain ⟨o, kvs, h1, h2, h3, h4⟩ := old
          refine ⟨o, kvs, ?_, by rw [ha q e2]; exact h2, h3, ?_⟩
          · rw [ha q e2]
            exact keep _ h1 ⟨q, _, e1, trivial, rfl⟩ fun z => hq (R.inj _ _ _ _ hs e1 hk0 trivial z.symm)
          · rw [hk]
            exact h4.mono fun a b h => ⟨h.1, h.2.grow ha⟩
        | lst =>
          obtain ⟨its, n, h1, h4⟩ := old
          refine ⟨its, n, ?_, ?_⟩
          · rw [ha q e2]
            exact keep _ h1 ⟨q, _, e1, trivial, rfl⟩ fun z => hq (R.inj _ _ _ _ hs e1 hk0 trivial z.symm)
          · rw [hk]
            exact h4.mono fun a b h => h.grow ha
        | txt y => trivial
    · exact nC
  inj q kq q' kq' e e' n n' h := by
    rcases look_of_new e with e1 | ⟨_, rfl, rfl⟩
    · rcases look_of_new e' with e2 | ⟨_, rfl, rfl⟩
      · rw [ha q (by rw [e1]; simp), ha q' (by rw [e2]; simp)] at h
        exact R.inj _ _ _ _ e1 e2 n n' h
      · rw [ha q (by rw [e1]; simp)] at h
        exact (hn n' q kq e1 n h.symm).elim
    · rcases look_of_new e' with e2 | ⟨_, rfl, rfl⟩
      · rw [ha q' (by rw [e2]; simp)] at h
        exact (hn n q' kq' e2 n' h).elim
      · rfl
theorem Own.grow {M : Mp} {α α' : Spot → Addr} {s : Spot} {x : Str} {k : SK} {a : Addr} (ha : ∀ q, look M q ≠ none → α' q = α q) (h : Own (M ++ [(s ++ [x], k)]) α' a) : Own M α a ∨ (k.node ∧ a = α' (s ++ [x])) := by
  obtain ⟨q, kq, e, n, rfl⟩ := h
  rcases look_of_new e with e1 | ⟨_, rfl, rfl⟩
  · exact .inl ⟨q, kq, e1, n, ha q (by rw [e1]; simp)⟩
  · exact .inr ⟨n, rfl⟩
abbrev setA (α : Spot → Addr) (c : Spot) (D : Addr) : Spot → Addr := fun q => if q = c then D else α q
theorem setA_old {M : Mp} {α : Spot → Addr} {c : Spot} {D : Addr} (hc : look M c = none) : ∀ q, look M q ≠ none → setA α c D q = α q := fun q h => if_neg fun e => by subst e; exact h hc
theorem keys_none {M : Mp} {α : Spot → Addr} {s : Spot} {x : Str} {kvs : List (Str × Value)} (h : All2 (fun (kv : Str × Value) x => kv.1 = x ∧ Val M α (s ++ [x]) kv.2) kvs (kids M s)) (hc : look M (s ++ [x]) = none) : valueAt kvs x = none := by
  refine valueAt_none_of_not_mem fun hm => ?_
  obtain ⟨kv, hkv, rfl⟩ := List.mem_map.mp hm
  obtain ⟨y, hy, e, _⟩ := h.mem hkv
  exact mem_kids.mp hy (e ▸ hc)
theorem kids_none {M : Mp} (W : WF M) {c : Spot} (hc : look M c = none) : kids M c = [] := by
  cases e : kids M c with
  | nil => rfl
  | cons y r => exact absurd (W.leaf hc y) (mem_kids.mp (by rw [e]; exact List.mem_cons_self))
theorem val_new {M : Mp} {α : Spot → Addr} {c : Spot} {k : SK} (hc : look M c = none) (hk : k.node) : Val (M ++ [(c, k)]) α c (.ref (α c)) := by
  unfold Val
  rw [look_new hc, if_pos rfl]
  cases k <;> first | rfl | exact hk.elim
/-- a nest with one entry more -/
theorem nest_more {w : World} {N : Led} {α α' : Spot → Addr} {M : Mp} {s : Spot} {x : Str} {k : SK} {o : Obj} {kvs : List (Str × Value)} {v : Value} (hs : look M s = some .nest) (hc : look M (s ++ [x]) = none) (ha : ∀ q, look M q ≠ none → α' q = α q) (hsy : (α s == sysModules) = false)
    (h : All2 (fun (kv : Str × Value) x => kv.1 = x ∧ Val M α (s ++ [x]) kv.2) kvs (kids M s)) (hm : (α s, o) ∈ N) (hd : o.IsDictOf (PySem.strKind PP w) (stored kvs x v)) (hv : Val (M ++ [(s ++ [x], k)]) α' (s ++ [x]) v) : NodeOk w N α' (M ++ [(s ++ [x], k)]) s .nest := by
  have e : α' s = α s := ha s (by rw [hs]; simp)
  refine ⟨o, kvs ++ [(x, v)], by rw [e]; exact hm, by rw [e]; exact hsy, by rw [stored_absent (keys_none h hc)] at hd; exact hd, ?_⟩
  rw [kids_snoc, if_pos rfl]
  exact (h.mono fun a b h => ⟨h.1, h.2.grow ha⟩).app (all2_one ⟨rfl, hv⟩)
section
variable {w : World} {N N' : Led} {α : Spot → Addr} {M : Mp} {s : Spot} {x : Str} {o' : Obj} {kvs : List (Str × Value)} {D : Addr}
theorem add_nest {oD : Obj} (R : Rep w N α M) (W : WF M) (hs : look M s = some .nest) (hc : look M (s ++ [x]) = none) (hsy : (α s == sysModules) = false) (h : All2 (fun (kv : Str × Value) x => kv.1 = x ∧ Val M α (s ++ [x]) kv.2) kvs (kids M s))
    (fr : ∀ p ∈ N, p.1 ≠ D) (hD : (D == sysModules) = false) (hoD : oD.IsDictOf (PySem.strKind PP w) []) (hd : o'.IsDictOf (PySem.strKind PP w) (stored kvs x (.ref D))) :
    Rep w (put ((D, oD) :: N) (α s) o') (setA α (s ++ [x]) D) (M ++ [(s ++ [x], .nest)]) ∧ KeepL N M α (put ((D, oD) :: N) (α s) o') (M ++ [(s ++ [x], .nest)]) (setA α (s ++ [x]) D) ∧ setA α (s ++ [x]) D (s ++ [x]) = D := by
  have e0 : setA α (s ++ [x]) D (s ++ [x]) = D := if_pos rfl
  have ow : ∀ q k', look M q = some k' → k'.node → D ≠ α q := fun q k' e n z => by
    obtain ⟨o, ho⟩ := (R.node q k' e).own n
    exact fr _ ho z.symm
  have hDs := ow s _ hs trivial
  refine ⟨R.add hs trivial hc (setA_old hc) (fun _ q k' e n => by rw [e0]; exact ow q k' e n) (fun p hp _ ne => put_other (List.mem_cons_of_mem _ hp) ne) (nest_more hs hc (setA_old hc) hsy h put_self hd (by have := val_new (α := setA α (s ++ [x]) D) (k := .nest) hc trivial; rw [e0] at this; exact this)) ?_, fun p hp ho => ⟨put_other (List.mem_cons_of_mem _ hp) fun z => ho ⟨s, _, hs, trivial, z⟩, fun z => ?_⟩, e0⟩
  · refine ⟨oD, [], by rw [e0]; exact put_other List.mem_cons_self hDs, by rw [e0]; exact hD, hoD, ?_⟩
    rw [kids_snoc, if_neg snoc_ne.symm, kids_none W hc]
    exact .nil
  · rcases z.grow (setA_old hc) with z | ⟨_, z⟩
    · exact ho z
    · rw [e0] at z; exact fr p hp z
theorem add_text {y : Str} {t : Tok} (R : Rep w N α M) (hs : look M s = some .nest) (hc : look M (s ++ [x]) = none) (hsy : (α s == sysModules) = false) (h : All2 (fun (kv : Str × Value) x => kv.1 = x ∧ Val M α (s ++ [x]) kv.2) kvs (kids M s))
    (hd : o'.IsDictOf (PySem.strKind PP w) (stored kvs x (.str y t))) :
    Rep w (put N (α s) o') α (M ++ [(s ++ [x], .txt y)]) ∧ KeepL N M α (put N (α s) o') (M ++ [(s ++ [x], .txt y)]) α := by
  refine ⟨R.add hs trivial hc (fun _ _ => rfl) (fun z => z.elim) (fun p hp _ ne => put_other hp ne) (nest_more hs hc (fun _ _ => rfl) hsy h put_self hd (by unfold Val; rw [look_new hc, if_pos rfl]; exact ⟨t, rfl⟩)) trivial, fun p hp ho => ⟨put_other hp fun z => ho ⟨s, _, hs, trivial, z⟩, fun z => ?_⟩⟩
  rcases z.grow (fun _ _ => rfl) with z | ⟨z, _⟩
  · exact ho z
  · exact z.elim
theorem add_item {oD : Obj} {its : Array Value} {n m : Nat} (R : Rep w N α M) (hs : look M s = some .lst) (hc : look M (s ++ [x]) = none) (hk : kids M (s ++ [x]) = []) (h : All2 (fun v x => Val M α (s ++ [x]) v) its.toList (kids M s))
    (fr : ∀ p ∈ N, p.1 ≠ D) (hD : (D == sysModules) = false) (hoD : oD.IsDictOf (PySem.strKind PP w) []) (hN : ∀ p ∈ put ((D, oD) :: N) (α s) (PySem.W.listOf (its.push (.ref D)) m), p ∈ N') (hN2 : (α s, PySem.W.listOf its n) ∈ N) :
    Rep w N' (setA α (s ++ [x]) D) (M ++ [(s ++ [x], .nest)]) ∧ KeepL N M α N' (M ++ [(s ++ [x], .nest)]) (setA α (s ++ [x]) D) := by
  have e0 : setA α (s ++ [x]) D (s ++ [x]) = D := if_pos rfl
  have ow : ∀ q k', look M q = some k' → k'.node → D ≠ α q := fun q k' e n z => by
    obtain ⟨o, ho⟩ := (R.node q k' e).own n
    exact fr _ ho z.symm
  have es : setA α (s ++ [x]) D s = α s := setA_old hc s (by rw [hs]; simp)
  refine ⟨R.add hs trivial hc (setA_old hc) (fun _ q k' e n => by rw [e0]; exact ow q k' e n) (fun p hp _ ne => hN p (put_other (List.mem_cons_of_mem _ hp) ne)) ?_ ?_, fun p hp ho => ⟨hN p (put_other (List.mem_cons_of_mem _ hp) fun z => ho ⟨s, _, hs, trivial, z⟩), fun z => ?_⟩⟩
  · refine ⟨its.push (.ref D), m, by rw [es]; exact hN _ put_self, ?_⟩
    rw [kids_snoc, if_pos rfl, Array.toList_push]
    have := val_new (α := setA α (s ++ [x]) D) (k := .nest) hc trivial
    rw [e0] at this
    exact (h.mono fun a b h => h.grow (setA_old hc)).app (all2_one this)
  · refine ⟨oD, [], by rw [e0]; exact hN _ (put_other List.mem_cons_self (ow s _ hs trivial)), by rw [e0]; exact hD, hoD, ?_⟩
    rw [kids_snoc, if_neg snoc_ne.symm, hk]
    exact .nil
  · rcases z.grow (setA_old hc) with z | ⟨_, z⟩
    · exact ho z
    · rw [e0] at z; exact fr p hp z
/-- a new list of one nest -/
theorem add_list {oD : Obj} {D2 : Addr} {its : Array Value} {n : Nat} (R : Rep w N α M) (W : WF M) (hs : look M s = some .nest) (hc : look M (s ++ [x]) = none) (hsy : (α s == sysModules) = false) (h : All2 (fun (kv : Str × Value) x => kv.1 = x ∧ Val M α (s ++ [x]) kv.2) kvs (kids M s))
    (fr : ∀ p ∈ N, p.1 ≠ D) (fr2 : ∀ p ∈ (D, oD) :: N, p.1 ≠ D2) (hD : (D == sysModules) = false) (hoD : oD.IsDictOf (PySem.strKind PP w) []) (hits : its.toList = [.ref D]) (hd : o'.IsDictOf (PySem.strKind PP w) (stored kvs x (.ref D2))) :
    ∃ α', Rep w (put ((D2, PySem.W.listOf its n) :: (D, oD) :: N) (α s) o') α' ((M ++ [(s ++ [x], .lst)]) ++ [(s ++ [x] ++ [num 0], .nest)]) ∧ KeepL N M α (put ((D2, PySem.W.listOf its n) :: (D, oD) :: N) (α s) o') ((M ++ [(s ++ [x], .lst)]) ++ [(s ++ [x] ++ [num 0], .nest)]) α' ∧ α' [] = α [] := by
  have e0 : setA α (s ++ [x]) D2 (s ++ [x]) = D2 := if_pos rfl
  have ow : ∀ q k', look M q = some k' → k'.node → D2 ≠ α q ∧ D ≠ α q := fun q k' e n => by
    obtain ⟨o, ho⟩ := (R.node q k' e).own n
    exact ⟨fun z => fr2 _ (List.mem_cons_of_mem _ ho) z.symm, fun z => fr _ ho z.symm⟩
  have hDD : D ≠ D2 := fr2 _ List.mem_cons_self
  -- a ledger that nobody holds: the list still empty
  have R1 : Rep w ((D2, PySem.W.listOf #[] 0) :: put N (α s) o') (setA α (s ++ [x]) D2) (M ++ [(s ++ [x], .lst)]) := by
    refine R.add hs trivial hc (setA_old hc) (fun _ q k' e n => by rw [e0]; exact (ow q k' e n).1) (fun p hp _ ne => List.mem_cons_of_mem _ (put_other hp ne)) (nest_more hs hc (setA_old hc) hsy h (List.mem_cons_of_mem _ put_self) hd (by have := val_new (α := setA α (s ++ [x]) D2) (k := .lst) hc trivial; rw [e0] at this; exact this)) ?_
    refine ⟨#[], 0, by rw [e0]; exact List.mem_cons_self, ?_⟩
    rw [kids_snoc, if_neg snoc_ne.symm, kids_none W hc]
    exact .nil
  have hcc : look (M ++ [(s ++ [x], .lst)]) (s ++ [x] ++ [num 0]) = none := by rw [look_new (W.leaf hc _), if_neg snoc_ne.symm]
  have hls : look (M ++ [(s ++ [x], .lst)]) (s ++ [x]) = some .lst := by rw [look_new hc, if_pos rfl]
  have hkk : kids (M ++ [(s ++ [x], SK.lst)]) (s ++ [x]) = [] := by rw [kids_snoc, if_neg snoc_ne.symm, kids_none W hc]; rfl
  have frD : ∀ p ∈ (D2, PySem.W.listOf #[] 0) :: put N (α s) o', p.1 ≠ D := fun p hp => by
    rcases List.mem_cons.mp hp with rfl | hp
    · exact hDD.symm
    · rcases mem_put.mp hp with rfl | ⟨hp, _⟩
      · exact (ow s _ hs trivial).2.symm
      · exact fr p hp
  obtain ⟨R2, K2⟩ := add_item (N' := put ((D2, PySem.W.listOf its n) :: (D, oD) :: N) (α s) o') (m := n) R1 hls hcc (by rw [kids_snoc, if_neg (fun e => absurd (congrArg List.length e) (by simp)), List.append_nil]; exact kids_none W (W.leaf hc _)) (by rw [hkk]; exact (show All2 _ (#[] : Array Value).toList [] from .nil)) frD hD hoD (by
    intro p hp
    rw [e0] at hp
    have hits' : (#[] : Array Value).push (.ref D) = its := by
      apply Array.toList_inj.mp
      rw [hits]; rfl
    rw [hits'] at hp
    have nD2 : D2 ≠ α s := (ow s _ hs trivial).1
    rcases mem_put.mp hp with rfl | ⟨hp, ne⟩
    · exact put_other List.mem_cons_self nD2
    · rcases List.mem_cons.mp hp with rfl | hp
      · exact put_other (List.mem_cons_of_mem _ List.mem_cons_self) (ow s _ hs trivial).2
      · rcases List.mem_cons.mp hp with rfl | hp
        · exact (ne rfl).elim
        · rcases mem_put.mp hp with rfl | ⟨hp, ne2⟩
          · exact put_self
          · exact put_other (List.mem_cons_of_mem _ (List.mem_cons_of_mem _ hp)) ne2) (by rw [e0]; exact List.mem_cons_self)
  refine ⟨_, R2, fun p hp ho => ⟨put_other (List.mem_cons_of_mem _ (List.mem_cons_of_mem _ hp)) fun z => ho ⟨s, _, hs, trivial, z⟩, fun z => ?_⟩, ?_⟩
  · rcases z.grow (setA_old hcc) with z | ⟨_, z⟩
    · rcases z.grow (setA_old hc) with z | ⟨_, z⟩
      · exact ho z
      · rw [e0] at z; exact fr2 p (List.mem_cons_of_mem _ hp) z
    · rw [show setA (setA α (s ++ [x]) D2) (s ++ [x] ++ [num 0]) D (s ++ [x] ++ [num 0]) = D from if_pos rfl] at z
      exact fr p hp z
  · show (if ([] : Spot) = s ++ [x] ++ [num 0] then D else if ([] : Spot) = s ++ [x] then D2 else α []) = α []
    rw [if_neg (by simp), if_neg (by simp)]
end
end Mine
end
section
open PySem PySem.W PyProof.Rows PySem.Calls
set_option Elab.async false
set_option maxRecDepth 100000
set_option maxHeartbeats 4000000
set_option linter.unusedVariables false
set_option rowWalk.seconds 0
namespace Mine
theorem b_KeyError (w : World) : Glob w (Str.ofString "KeyError") (.type "KeyError") := by
  have h : model PySem.Challenge.rw_in0109_01.row.prog w = model PySem.Challenge.rw_in0109_01.row.prog w ∧ nsIn (Mine.hd.heap_1 w.params) mainGlobals (Str.ofString "KeyError") = some none := by
    k_fill
    exact ⟨rfl, by k_is⟩
  exact Glob.blt h.2 (by first | boot_fast | boot_by_name) (by decide) rfl
def InstOk (N : Led) (x root : Addr) : Prop := ∃ dx es n sl, (x, (⟨.ref 53, some dx, .plain, sl⟩ : Obj)) ∈ N ∧ (dx, dictOf es n) ∈ N ∧ getL (Str.ofString "dict") es = some (some (.ref root)) ∧ getL (Str.ofString "get_or_create_nest") es = some none ∧ getL (Str.ofString "append_nest_to_list") es = some none
structure ClsOk (w : World) : Prop where
  d1 : plainGet (Mine.hd.heap_1 w.params) 53 (Str.ofString "dict") = true
  d2 : hasDictIn (Mine.hd.heap_1 w.params) 53 = true
  d3 : findIn (Mine.hd.heap_1 w.params) (.ref 53) (Str.ofString "dict") = some none
  d4 : noGet (Mine.hd.heap_1 w.params) none = true
  g1 : plainGet (Mine.hd.heap_1 w.params) 53 (Str.ofString "get_or_create_nest") = true
  g2 : findIn (Mine.hd.heap_1 w.params) (.ref 53) (Str.ofString "get_or_create_nest") = some (some (.ref 43))
  g3 : isFn (Mine.hd.heap_1 w.params) (.ref 43) = true
  g4 : keepIn (Mine.hd.heap_1 w.params) (.ref 43) = true
  a1 : plainGet (Mine.hd.heap_1 w.params) 53 (Str.ofString "append_nest_to_list") = true
  a2 : findIn (Mine.hd.heap_1 w.params) (.ref 53) (Str.ofString "append_nest_to_list") = some (some (.ref 50))
  a3 : isFn (Mine.hd.heap_1 w.params) (.ref 50) = true
  a4 : keepIn (Mine.hd.heap_1 w.params) (.ref 50) = true
theorem cls_ok (w : World) : ClsOk w := by
  have h : model PySem.Challenge.rw_in0109_01.row.prog w = model PySem.Challenge.rw_in0109_01.row.prog w ∧ (plainGet (Mine.hd.heap_1 w.params) 53 (Str.ofString "dict") = true ∧ hasDictIn (Mine.hd.heap_1 w.params) 53 = true ∧ findIn (Mine.hd.heap_1 w.params) (.ref 53) (Str.ofString "dict") = some none ∧ noGet (Mine.hd.heap_1 w.params) none = true ∧
     plainGet (Mine.hd.heap_1 w.params) 53 (Str.ofString "get_or_create_nest") = true ∧ findIn (Mine.hd.heap_1 w.params) (.ref 53) (Str.ofString "get_or_create_nest") = some (some (.ref 43)) ∧ isFn (Mine.hd.heap_1 w.params) (.ref 43) = true ∧ keepIn (Mine.hd.heap_1 w.params) (.ref 43) = true) ∧
     plainGet (Mine.hd.heap_1 w.params) 53 (Str.ofString "append_nest_to_list") = true ∧ findIn (Mine.hd.heap_1 w.params) (.ref 53) (Str.ofString "append_nest_to_list") = some (some (.ref 50)) ∧ isFn (Mine.hd.heap_1 w.params) (.ref 50) = true ∧ keepIn (Mine.hd.heap_1 w.params) (.ref 50) = true := by
    k_fill
    exact ⟨rfl, ⟨by k_is, by k_is, by k_is, by k_is, by k_is, by k_is, by k_is, by k_is⟩, by k_is, by k_is, by k_is, by k_is⟩
  exact ⟨h.2.1.1, h.2.1.2.1, h.2.1.2.2.1, h.2.1.2.2.2.1, h.2.1.2.2.2.2.1, h.2.1.2.2.2.2.2.1, h.2.1.2.2.2.2.2.2.1, h.2.1.2.2.2.2.2.2.2, h.2.2.1, h.2.2.2.1, h.2.2.2.2.1, h.2.2.2.2.2⟩
/-- what get_or_create_nest answers -/
def RGoc (w : World) (N : Led) (M : Mp) (α : Spot → Addr) (ks : List Str) (r : Value) (N' : Led) : Prop :=
  ∃ M' α' s', gocM M [] ks = some (M', s') ∧ r = .ref (α' s') ∧ look M' s' = some .nest ∧ Rep w N' α' M' ∧ WF M' ∧ KeepL N M α N' M' α' ∧ M'.length ≤ M.length + ks.length ∧ α' [] = α [] ∧ ((∃ j, look M' (s' ++ [j]) ≠ none) → ∀ p ∈ N, p ∈ N')
theorem c_goc (w : World) (N : Led) (M : Mp) (α : Spot → Addr) (x key : Addr) (ok : Obj) (vs : List Value) (ks : List Str) (R : Rep w N α M) (hW : WF M) (I : InstOk N x (α [])) (hk : (key, ok) ∈ N) (hko : ¬ Own M α key) (hT : IsT ok vs) (hks : StrsAre vs ks) (hz : M.length + ks.length ≤ 10000) :
    Full w 43 1 [.ref x, .ref key] N (RGoc w N M α ks) (gocM M [] ks = none) := by
  delta Full
  k_fill
  refine enterF [((Str.ofString "access_lists"), .bool true), ((Str.ofString "key"), .ref key), ((Str.ofString "self"), .ref x)] (by k_is) (by k_is) (by exact fun s X => kp_binds X (fun _ => rfl)) (locs rfl) rfl rfl rfl (by decide) ?_
  rintro c rfl
  have ck := cls_ok c.w
  obtain ⟨dx, es, nn, sl, I1, I2, I3, I4, I5⟩ := I
  refine ExsE.asV (EvV.attr (EvV.name (v := .ref x) rfl rfl) I1 I2 ck.d1 ck.d2 ck.d3 ck.d4 I3 rfl) ?_ rfl rfl
  have hvl := strs_len hks
  refine ExsE.cons (ExE.forI (fun i b' N' => bget b' (Str.ofString "access_lists") = some (.bool true) ∧ ∃ M' α' s', bget b' (Str.ofString "cont") = some (.ref (α' s')) ∧ Rep c.w N' α' M' ∧ WF M' ∧ look M' s' = some .nest ∧ gocM M [] ks = gocM M' s' (ks.drop i) ∧ KeepL N M α N' M' α' ∧ ((∃ j, look M' (s' ++ [j]) ≠ none) → ∀ p ∈ N, p ∈ N') ∧ M'.length ≤ M.length + i ∧ α' [] = α [])
    (Src.seq (ax := key) (o := ok) (vs := vs) ((EvV.name (v := .ref key) rfl rfl).mono fun v N' r => ⟨r.1, by rw [r.2]; exact .inl hk, by rw [r.2]; exact ⟨rfl, M, α, [], rfl, R, hW, hW.root, rfl, .of fun _ h => h, fun _ _ h => h, Nat.le_refl _, rfl⟩⟩) ⟨.inr hT.1, hT.2⟩) ?_ ?_ (fun _ => rfl) rfl)
  · rintro i v hp b' N' Y W' hi hP L ⟨hal, M', α', s', hcont, R', W1, hs', hgo, KL, hno, hlen, hroot⟩
    obtain ⟨k, t, rfl, hki⟩ := strs_get hks hP
    have hdrop : ks.drop i = k :: ks.drop (i + 1) := by
      obtain ⟨hlt, e⟩ := List.getElem?_eq_some_iff.mp hki
      rw [List.drop_eq_getElem_cons hlt, e]
    obtain ⟨o, kvs, n1, n2, n3, n4⟩ := R'.node s' _ hs'
    have hkey : α' s' ≠ key := fun e => (KL _ hk hko).2 ⟨s', _, hs', trivial, e.symm⟩
    have ysub : ∀ p ∈ N', p ∈ Y ++ N' := fun p hp => List.mem_append_right _ hp
    have hname : ∀ z : Option Value, bget (((Str.ofString "k"), z) :: b') (Str.ofString "cont") = some (.ref (α' s')) := fun z => (if_neg (by decide)).trans hcont
    have hkl : kvs.length ≤ 100000 := by have := n4.len; have := kids_len (M := M') (s := s'); omega
    have hvin : (valueAt kvs k).isSome = !(look M' (s' ++ [k])).isNone := by
      cases e : look M' (s' ++ [k]) with
      | none => rw [keys_none n4 e]; rfl
      | some kd =>
        have : k ∈ kids M' s' := mem_kids.mpr (by rw [e]; simp)
        obtain ⟨j, hj⟩ := List.getElem?_of_mem this
        obtain ⟨kv, hkv, e1, _⟩ := n4.get' hj
        rw [valueAt_isSome_eq_any]
        simp only [Option.isNone_some, Bool.not_false, List.any_eq_true, decide_eq_true_eq]
        exact ⟨kv, List.mem_of_getElem? hkv, e1⟩
    refine ExsE.cons (JsE.mono (K := fun fl b2 N2 => fl = .next ∧ b2 = ((Str.ofString "k"), some (.str k t)) :: b' ∧ ∃ M2 α2 N'' kd, (∀ p ∈ Y, p ∈ N2) ∧ (∀ p ∈ N'', p ∈ N2) ∧ (∀ p ∈ N'', p.1 ∉ W') ∧ Rep c.w N'' α2 M2 ∧ WF M2 ∧ look M2 s' = some .nest ∧ α2 s' = α' s' ∧ look M2 (s' ++ [k]) = some kd ∧ gocM M [] ks = gocM M2 s' (ks.drop i) ∧ KeepL N M α N'' M2 α2 ∧ (kd ≠ .nest ∨ (∃ j, look M2 (s' ++ [k] ++ [j]) ≠ none) → ∀ p ∈ N, p ∈ N'') ∧ M2.length ≤ M.length + (i + 1) ∧ α2 [] = α [])
      (ExE.ite (Jd.is (Tr.notInD (k := k) (kvs := kvs) (d := α' s') (EvS.of (EvV.name (v := .str k t) rfl rfl)) (EvV.name (hname _) rfl) ⟨n2, o, .inl (ysub _ n1), n3⟩) (by rw [hvin, Bool.not_not])) ?_) (fun fl b2 N2 r => ?_) (fun _ _ h => h))
    · cases hlk : look M' (s' ++ [k]) with
      | none =>
        refine ExsE.cons (.of (Ex.setD (k := k) Ev.dict0 (fun v N₁ r => ?_) rfl))
        obtain ⟨D, oD, rfl, rfl, fr, hDs, hoD⟩ := r
        refine ⟨α' s', o, kvs, EvV.name (hname _) rfl, EvS.of (EvV.name (v := .str k t) rfl rfl), List.mem_cons_of_mem _ (ysub _ n1), n3, hkl, fun o' ho' => ?_⟩
        obtain ⟨R2, K2, eD⟩ := add_nest (N := N') R' W1 hs' hlk n2 n4 (fun p hp => fr p (ysub _ hp)) hDs hoD ho'
        have hl2 : look (M' ++ [(s' ++ [k], SK.nest)]) (s' ++ [k]) = some .nest := by rw [look_new hlk, if_pos rfl]
        have hgo2 : gocM M' s' (ks.drop i) = gocM (M' ++ [(s' ++ [k], SK.nest)]) s' (ks.drop i) := by
          rw [hdrop]
          show (match look M' (s' ++ [k]) with | none => _ | some .nest => _ | some .lst => _ | some (.txt _) => _) = (match look (M' ++ [(s' ++ [k], SK.nest)]) (s' ++ [k]) with | none => _ | some .nest => _ | some .lst => _ | some (.txt _) => _)
          rw [hlk, hl2]
        refine ExsE.nil ⟨rfl, rfl, _, _, put ((D, oD) :: N') (α' s') o', .nest, fun p hp => ?_, fun p hp => ?_, fun p hp => ?_, R2, W1.add hs' hlk (by simp), look_old hs', if_neg snoc_ne.symm, hl2, hgo.trans hgo2, KL.trans K2, fun e => ?_, by simp; omega, (if_neg (by simp)).trans hroot⟩
        · exact put_other (List.mem_cons_of_mem _ (List.mem_append_left _ hp)) (L.ne (q := (α' s', o)) n1 (by simpa using hkey) p hp)
        · rcases mem_put.mp hp with rfl | ⟨hp, ne⟩
          · exact put_self
          · rcases List.mem_cons.mp hp with rfl | hp
            · exact put_other List.mem_cons_self ne
            · exact put_other (List.mem_cons_of_mem _ (ysub _ hp)) ne
        · rcases mem_put.mp hp with rfl | ⟨hp, ne⟩
          · exact L.off (α' s', o) n1
          · rcases List.mem_cons.mp hp with rfl | hp
            · intro hw
              obtain ⟨o2, ho2⟩ := L.has _ hw
              exact fr _ (List.mem_append_left _ ho2) rfl
            · exact L.off p hp
        · rcases e with e | ⟨j, hj⟩
          · exact (e rfl).elim
          · exact (hj (by rw [look_new (W1.leaf hlk j), if_neg snoc_ne.symm])).elim
      | some kd => exact ExsE.nil ⟨rfl, rfl, M', α', N', kd, fun p hp => List.mem_append_left _ hp, ysub, L.off, R', W1, hs', rfl, hlk, hgo, KL, fun _ => hno ⟨k, by rw [hlk]; simp⟩, by omega, hroot⟩
    · obtain ⟨rfl, rfl, M2, α2, N'', kd, hY, hsub, hoff, R2, W2, hs2, ea, hl2, hgo2, KL2, hno2, hlen2, hroot2⟩ := r
      obtain ⟨o2, kvs2, m1, m2, m3, m4⟩ := R2.node s' _ hs2
      have hkin : k ∈ kids M2 s' := mem_kids.mpr (by rw [hl2]; simp)
      obtain ⟨j, hj⟩ := List.getElem?_of_mem hkin
      obtain ⟨kv, hkv, rfl, hval⟩ := m4.get' hj
      have hnd : (kvs2.map (·.1)).Nodup := let ⟨_, _, _, _, _, _, hn⟩ := m3; hn
      have hva : valueAt kvs2 kv.1 = some kv.2 := valueAt_of_get hnd (v := kv.2) hkv
      refine ExsE.asV (y := kv.2) (EvV.getD (d := α2 s') (k := kv.1) (EvV.name (by rw [ea]; exact hname _) rfl) (EvS.of (EvV.name (v := .str kv.1 t) rfl rfl)) ⟨m2, o2, .inl (hsub _ m1), m3⟩ hva) ?_ rfl rfl
      have hal3 : ∀ z z', bget (((Str.ofString "cont"), z) :: ((Str.ofString "k"), z') :: b') (Str.ofString "access_lists") = some (.bool true) := fun z z' => (if_neg (by decide)).trans ((if_neg (by decide)).trans hal)
      have hc3 : ∀ z r, bget (((Str.ofString "cont"), z) :: r) (Str.ofString "cont") = z := fun z r => if_pos rfl
      have ha4 : ∀ z z' z'', bget (((Str.ofString "cont"), z) :: ((Str.ofString "cont"), z') :: ((Str.ofString "k"), z'') :: b') (Str.ofString "access_lists") = some (.bool true) := fun z z' z'' => (if_neg (by decide)).trans (hal3 _ _)
      unfold Val at hval
      rw [hl2] at hval
      cases kd with
      | nest =>
        have hval : kv.2 = .ref (α2 (s' ++ [kv.1])) := hval
        obtain ⟨oc, kvc, c1, c2, c3, c4⟩ := R2.node _ _ hl2
        rw [hval]
        refine ExsE.ite (Jd.is (Tr.all (jd_and (Tr.ofB (EvV.name (hal3 _ _) rfl) rfl) fun _ => jd_and (Tr.isi (b_isinstance _) (b_list _) (EvV.name (hc3 _ _) rfl) (isi_DL ⟨c2, oc, .inl (hsub _ c1), c3⟩) rfl rfl) fun _ => jd_and0)) (show _ = false from rfl)) (ExsE.nil ?_)
        refine ExsE.ite (Tr.not (p := true) (Tr.isi (b_isinstance _) (b_dict _) (EvV.name (hc3 _ _) rfl) (isi_DD ⟨c2, oc, .inl (hsub _ c1), c3⟩) rfl rfl)) (ExsE.nil ?_)
        refine ExsE.nil ⟨N'', hY, hsub, hoff, hal3 _ _, M2, α2, s' ++ [kv.1], hc3 _ _, R2, W2, hl2, hgo2.trans ?_, KL2, fun e => hno2 (.inr e), by omega, hroot2⟩
        all_goals
          rw [hdrop]
          show (match look M2 (s' ++ [kv.1]) with | none => _ | some .nest => _ | some .lst => _ | some (.txt _) => _) = _
          rw [hl2]
      | lst =>
        have hval : kv.2 = .ref (α2 (s' ++ [kv.1])) := hval
        obtain ⟨its, n, c1, c4⟩ := R2.node _ _ hl2
        obtain ⟨m, hm20, hkm, hnm⟩ := W2.lst _ hl2
        have hgm : (kids M2 (s' ++ [kv.1]))[m]? = some (num m) := by rw [hkm]; simp
        obtain ⟨vl, hvl2, hval2⟩ := c4.get' hgm
        have hlm := hnm m (Nat.le_refl _)
        unfold Val at hval2
        rw [hlm] at hval2
        have hval2 : vl = .ref (α2 (s' ++ [kv.1] ++ [num m])) := hval2
        obtain ⟨oc, kvc, d1, d2, d3, d4⟩ := R2.node _ _ hlm
        have hback : its.back? = some vl := by
          have hsz : its.size = m + 1 := by have := c4.len; rw [hkm] at this; simpa using this
          rw [Array.back?_eq_getElem?, hsz, Nat.add_sub_cancel, ← Array.getElem?_toList]
          exact hvl2
        rw [hval]
        refine ExsE.ite (Jd.is (Tr.all (jd_and (Tr.ofB (EvV.name (hal3 _ _) rfl) rfl) fun _ => jd_and (Tr.isi (b_isinstance _) (b_list _) (EvV.name (hc3 _ _) rfl) (isi_LL (atL_own (hsub _ c1))) rfl rfl) fun _ => jd_and0)) (show _ = true from rfl)) ?_
        refine ExsE.asV (y := vl) (EvV.last (EvV.name (hc3 _ _) rfl) (EvI.neg EvI.lit) (hsub _ c1) hback) ?_ rfl rfl
        refine ExsE.nil ?_
        rw [hval2]
        refine ExsE.ite (Tr.not (p := true) (Tr.isi (b_isinstance _) (b_dict _) (EvV.name (hc3 _ _) rfl) (isi_DD ⟨d2, oc, .inl (hsub _ d1), d3⟩) rfl rfl)) (ExsE.nil ?_)
        refine ExsE.nil ⟨N'', hY, hsub, hoff, ha4 _ _ _, M2, α2, s' ++ [kv.1] ++ [num m], hc3 _ _, R2, W2, hlm, hgo2.trans ?_, KL2, fun e => hno2 (.inl (by simp)), by omega, hroot2⟩
        all_goals
          rw [hdrop]
          show (match look M2 (s' ++ [kv.1]) with | none => _ | some .nest => _ | some .lst => gocM M2 (s' ++ [kv.1] ++ [num ((kids M2 (s' ++ [kv.1])).length - 1)]) _ | some (.txt _) => _) = _
          rw [hl2, hkm]
          simp
      | txt y =>
        obtain ⟨t', hval⟩ : ∃ t, kv.2 = .str y t := hval
        have hnone : gocM M2 s' (ks.drop i) = none := by
          rw [hdrop]
          show (match look M2 (s' ++ [kv.1]) with | none => _ | some .nest => _ | some .lst => _ | some (.txt _) => _) = _
          rw [hl2]
        rw [hval]
        refine ExsE.ite (Jd.is (Tr.all (jd_and (Tr.ofB (EvV.name (hal3 _ _) rfl) rfl) fun _ => jd_and (Tr.isi (b_isinstance _) (b_list _) (EvV.name (hc3 _ _) rfl) isi_SL rfl rfl) fun _ => jd_and0)) (show _ = false from rfl)) (ExsE.nil ?_)
        refine ExsE.ite (Tr.not (p := false) (Tr.isi (b_isinstance _) (b_dict _) (EvV.name (hc3 _ _) rfl) isi_SD rfl rfl)) ?_
        refine ExsE.raise (R := fun _ _ => True) (b_KeyError _) EvS.lit (fun a h₀ h hF hN hE => ⟨hgo2.trans hnone, a, _, _, rfl, fun p hp => hsub p (hno2 (.inl (by simp)) p hp), .inr ⟨h₀, hF, hN, hE⟩⟩) rfl
  · rintro b' N' ⟨hal, M', α', s', hcont, R', W1, hs', hgo, KL, hno, hlen, hroot⟩
    refine ExsE.retV (EvV.name hcont rfl) ⟨_, .inl rfl, M', α', s', hgo.trans ?_, rfl, hs', R', W1, KL, by omega, hroot, hno⟩
    rw [hvl, List.drop_length]
    rfl
end Mine
end
section
open PySem PySem.W PyProof.Rows PySem.Calls
set_option Elab.async false
set_option maxRecDepth 100000
set_option maxHeartbeats 4000000
set_option linter.unusedVariables false
set_option rowWalk.seconds 0
namespace Mine
def apnM (M : Mp) (ks : List Str) (k : Str) : Option Mp := match gocM M [] ks with
  | none => none
  | some (M1, s) => match look M1 (s ++ [k]) with
    | none => some ((M1 ++ [(s ++ [k], .lst)]) ++ [(s ++ [k] ++ [num 0], .nest)])
    | some .lst => some (M1 ++ [(s ++ [k] ++ [num (kids M1 (s ++ [k])).length], .nest)])
    | _ => none
/-- what the tree has become -/
def RTree (w : World) (N : Led) (M : Mp) (α : Spot → Addr) (n : Nat) (o : Option Mp) (N' : Led) : Prop :=
  ∃ M' α', o = some M' ∧ Rep w N' α' M' ∧ WF M' ∧ KeepL N M α N' M' α' ∧ α' [] = α [] ∧ M'.length ≤ M.length + n
theorem valueAt_in {w : World} {o : Obj} {kvs : List (Str × Value)} {M : Mp} {α : Spot → Addr} {s : Spot} {k : Str} (hd : o.IsDictOf (PySem.strKind PP w) kvs) (h : All2 (fun (kv : Str × Value) x => kv.1 = x ∧ Val M α (s ++ [x]) kv.2) kvs (kids M s)) :
    (∀ kd, look M (s ++ [k]) = some kd → ∃ v, valueAt kvs k = some v ∧ Val M α (s ++ [k]) v) ∧ (look M (s ++ [k]) = none → valueAt kvs k = none) := by
  refine ⟨fun kd e => ?_, keys_none h⟩
  have hkin : k ∈ kids M s := mem_kids.mpr (by rw [e]; simp)
  obtain ⟨j, hj⟩ := List.getElem?_of_mem hkin
  obtain ⟨kv, hkv, rfl, hval⟩ := h.get' hj
  exact ⟨kv.2, valueAt_of_get (let ⟨_, _, _, _, _, _, hn⟩ := hd; hn) hkv, hval⟩
theorem own_in {w : World} {N : Led} {α : Spot → Addr} {M : Mp} {a : Addr} (R : Rep w N α M) (h : Own M α a) : ∃ o, (a, o) ∈ N := by
  obtain ⟨s, k, e, n, rfl⟩ := h
  exact (R.node s k e).own n
theorem c_apn (w : World) (N : Led) (M : Mp) (α : Spot → Addr) (x key : Addr) (ok : Obj) (vs : List Value) (ks : List Str) (k : Str) (t : Tok) (R : Rep w N α M) (hW : WF M) (I : InstOk N x (α [])) (hx : ¬ Own M α x) (hk : (key, ok) ∈ N) (hko : ¬ Own M α key) (hT : IsT ok (vs ++ [.str k t])) (hks : StrsAre vs ks) (hz : M.length + ks.length ≤ 10000)
    (hb : ∀ M1 s, gocM M [] ks = some (M1, s) → look M1 (s ++ [k]) = some .lst → (kids M1 (s ++ [k])).length < 20) :
    Full w 50 2 [.ref x, .ref key] N (fun r N' => r = .none ∧ RTree w N M α (ks.length + 2) (apnM M ks k) N') (apnM M ks k = none) := by
  delta Full
  k_fill
  refine enterF [((Str.ofString "key"), .ref key), ((Str.ofString "self"), .ref x)] (by k_is) (by k_is) (fun _ _ => BindsTo.of_eq rfl) (locs rfl) rfl rfl rfl (by decide) ?_
  rintro c rfl
  have ck := cls_ok c.w
  obtain ⟨dx, es, nn, sl, I1, I2, I3, I4, I5⟩ := I
  have hvl := strs_len hks
  refine ExsE.asg (R := fun r N' => ∃ N₁, (∀ p ∈ N, p ∈ N₁) ∧ RGoc c.w N₁ M α ks r N') (JdE.meth (pos := _) (o := .Name (Str.ofString "self") _) (RA := fun vs' N₁ => ∃ T, vs' = [.ref T] ∧ N₁ = (T, tupO vs) :: N ∧ ∀ p ∈ N, p.1 ≠ T) (EvV.name (v := .ref x) rfl rfl) I1 I2 ck.g1 ck.g2 ck.g3 ck.g4 I4
    (Ags.cons (Ev.init (EvV.name (v := .ref key) rfl rfl) ⟨ok, .inl hk, hT⟩ (by simp) (by simp; omega) (EvI.neg EvI.lit) (fun _ _ => rfl) (fun _ _ => rfl)) fun v N₁ r => Ags.nil.mono fun vs2 N₂ r₂ => ?_) (fun vs' N₁ r => ?_) ⟨pe_subs, trivial⟩ rfl ⟨_, rfl⟩) ?_ rfl rfl
  · obtain ⟨T, rfl, rfl, fr⟩ := r
    obtain ⟨rfl, rfl⟩ := r₂
    exact ⟨T, rfl, by rw [List.dropLast_concat], fr⟩
  · obtain ⟨T, rfl, rfl, fr⟩ := r
    have sub : ∀ p ∈ N, p ∈ (T, tupO vs) :: N := fun p hp => List.mem_cons_of_mem _ hp
    refine ⟨1, _, _, c_goc c.w _ M α x T (tupO vs) vs ks (R.more fun p hp _ => sub p hp) hW ⟨dx, es, nn, sl, sub _ I1, sub _ I2, I3, I4, I5⟩ List.mem_cons_self (fun h => ?_) ⟨rfl, _, rfl⟩ hks (by omega), Nat.le_refl _, fun r N' h => ⟨_, sub, h⟩, fun a h N' hP s2 hR => ⟨?_, a, _, N', rfl, fun p hp => s2 p (sub p hp), .inl hR⟩⟩
    · obtain ⟨o, ho⟩ := own_in R h
      exact fr _ ho rfl
    · unfold apnM; rw [hP]
  rintro v N1 ⟨N₁, hsub, M1, α1, s1, hgo, rfl, hs1, R1, W1, K1, hl1, hr1, hun⟩
  have K0 : KeepL N M α N1 M1 α1 := K1.less hsub
  have hk1 := K0 _ hk hko
  refine ExsE.asV (EvV.lastT (v := .str k t) (vs := vs) (EvV.name (v := .ref key) rfl rfl) (EvI.neg EvI.lit) ⟨ok, .inl hk1.1, hT⟩) ?_ rfl rfl
  obtain ⟨o, kvs, n1, n2, n3, n4⟩ := R1.node s1 _ hs1
  have hkl : kvs.length ≤ 100000 := by have := n4.len; have := kids_len (M := M1) (s := s1); omega
  obtain ⟨hin, hout⟩ := valueAt_in (k := k) n3 n4
  have hcase : (valueAt kvs k).isSome = (look M1 (s1 ++ [k])).isSome := by
    cases e : look M1 (s1 ++ [k]) with
    | none => rw [hout e]; rfl
    | some kd => obtain ⟨v, hv, _⟩ := hin kd e; rw [hv]; rfl
  have hD : (α1 s1, o) ∈ N1 := n1
  refine ExsE.ite (Jd.is (Tr.inD (k := k) (kvs := kvs) (d := α1 s1) (EvS.of (EvV.name (v := .str k t) rfl rfl)) (EvV.name (v := .ref (α1 s1)) rfl rfl) ⟨n2, o, .inl n1, n3⟩) hcase) ?_
  cases hlk : look M1 (s1 ++ [k]) with
  | none =>
    refine ExsE.cons (.of (Ex.setD (k := k) (R := fun v N₂ => ∃ D oD D2 its n, v = .ref D2 ∧ N₂ = (D2, PySem.W.listOf its n) :: (D, oD) :: N1 ∧ its.toList = [.ref D] ∧ (∀ p ∈ N1, p.1 ≠ D) ∧ (∀ p ∈ (D, oD) :: N1, p.1 ≠ D2) ∧ (D == sysModules) = false ∧ oD.IsDictOf (PySem.strKind PP c.w) [])
      (Ev.lst (RA := fun vs' N₁ => ∃ D oD, vs' = [.ref D] ∧ N₁ = (D, oD) :: N1 ∧ (∀ p ∈ N1, p.1 ≠ D) ∧ (D == sysModules) = false ∧ oD.IsDictOf (PySem.strKind PP c.w) []) (Ags.cons Ev.dict0 fun v N₁ r => Ags.nil.mono fun vs2 N₂ r₂ => ?_) fun vs' N' r => ?_) (fun v N₁ r => ?_) rfl))
    · obtain ⟨D, oD, rfl, rfl, fr, hDs, hoD⟩ := r
      obtain ⟨rfl, rfl⟩ := r₂
      exact ⟨D, oD, rfl, rfl, fr, hDs, hoD⟩
    · obtain ⟨D, oD, rfl, rfl, fr, hDs, hoD⟩ := r
      exact (jd_newList (by simp)).mono fun v N' r => by
        obtain ⟨D2, its, n, rfl, rfl, fr2, hi⟩ := r
        exact ⟨D, oD, D2, its, n, rfl, rfl, hi, fr, fr2, hDs, hoD⟩
    · obtain ⟨D, oD, D2, its, n, rfl, rfl, hi, fr, fr2, hDs, hoD⟩ := r
      refine ⟨α1 s1, o, kvs, EvV.name rfl rfl, EvS.of (EvV.name (v := .str k t) rfl rfl), List.mem_cons_of_mem _ (List.mem_cons_of_mem _ n1), n3, hkl, fun o' ho' => ?_⟩
      obtain ⟨α', R2, K2, e2⟩ := add_list R1 W1 hs1 hlk n2 n4 fr fr2 hDs hoD hi ho'
      refine ExsE.nil (ExsE.nil ⟨.none, .inr ⟨rfl, rfl⟩, rfl, _, α', ?_, R2, W1.addL hs1 hlk, K0.trans K2, e2.trans hr1, ?_⟩)
      · unfold apnM
        rw [hgo]
        show (match look M1 (s1 ++ [k]) with | none => some ((M1 ++ [(s1 ++ [k], SK.lst)]) ++ [(s1 ++ [k] ++ [num 0], SK.nest)]) | some .lst => _ | _ => none) = _
        rw [hlk]
      · simp; omega
  | some kd =>
    obtain ⟨v, hv, hval⟩ := hin kd hlk
    refine ExsE.asV (y := v) (EvV.getD (d := α1 s1) (k := k) (EvV.name (v := .ref (α1 s1)) rfl rfl) (EvS.of (EvV.name (v := .str k t) rfl rfl)) ⟨n2, o, .inl n1, n3⟩ hv) ?_ rfl rfl
    have hun : ∀ p ∈ N, p ∈ N1 := fun p hp => hun ⟨k, by rw [hlk]; simp⟩ p (hsub p hp)
    unfold Val at hval
    rw [hlk] at hval
    have hno : kd ≠ .lst → apnM M ks k = none := fun h => by
      unfold apnM
      rw [hgo]
      show (match look M1 (s1 ++ [k]) with | none => _ | some .lst => _ | _ => none) = none
      rw [hlk]
      cases kd <;> first | rfl | exact (h rfl).elim
    cases kd with
    | nest =>
      have hval : v = .ref (α1 (s1 ++ [k])) := hval
      obtain ⟨oc, kvc, c1, c2, c3, c4⟩ := R1.node _ _ hlk
      rw [hval]
      refine ExsE.ite (Tr.not (p := false) (Tr.isi (b_isinstance _) (b_list _) (EvV.name (v := .ref (α1 (s1 ++ [k]))) rfl rfl) (isi_DL ⟨c2, oc, .inl c1, c3⟩) rfl rfl)) ?_
      exact ExsE.raise (R := fun _ _ => True) (b_KeyError _) EvS.lit (fun a h₀ h hF hN hE => ⟨hno (by simp), a, _, _, rfl, hun, .inr ⟨h₀, hF, hN, hE⟩⟩) rfl
    | txt y =>
      obtain ⟨t', rfl⟩ : ∃ t, v = .str y t := hval
      refine ExsE.ite (Tr.not (p := false) (Tr.isi (b_isinstance _) (b_list _) (EvV.name (v := .str y t') rfl rfl) isi_SL rfl rfl)) ?_
      exact ExsE.raise (R := fun _ _ => True) (b_KeyError _) EvS.lit (fun a h₀ h hF hN hE => ⟨hno (by simp), a, _, _, rfl, hun, .inr ⟨h₀, hF, hN, hE⟩⟩) rfl
    | lst =>
      obtain rfl : v = .ref (α1 (s1 ++ [k])) := hval
      obtain ⟨its, n, c1, c4⟩ := R1.node _ _ hlk
      refine ExsE.ite (Tr.not (p := true) (Tr.isi (b_isinstance _) (b_list _) (EvV.name (v := .ref (α1 (s1 ++ [k]))) rfl rfl) (isi_LL (atL_own c1)) rfl rfl)) (ExsE.nil ?_)
      have hitz : its.size ≤ 100000 := by
        have e : its.size = (kids M1 (s1 ++ [k])).length := by rw [← Array.length_toList]; exact c4.len
        have := kids_len (M := M1) (s := s1 ++ [k])
        omega
      refine JsE.drop (N₂ := put N1 (α1 (s1 ++ [k])) (PySem.W.listOf its n)) (ExsE.cons (.of (Ex.append (D := α1 (s1 ++ [k])) (its := its) (n := n) (EvV.name (v := .ref (α1 (s1 ++ [k]))) rfl rfl) put_self Ev.dict0 hitz (fun v N₁ r => ?_) ⟨_, rfl⟩ rfl rfl))) (put_sub c1)
      obtain ⟨D, oD, rfl, rfl, fr, hDs, hoD⟩ := r
      have hDl : D ≠ α1 (s1 ++ [k]) := (fr _ put_self).symm
      refine ⟨(D, oD) :: put N1 (α1 (s1 ++ [k])) (PySem.W.listOf (its.push (.ref D)) (n + 1)), .tail hDl (.head put_off), ?_⟩
      have hzl := hb M1 s1 hgo hlk
      obtain ⟨m, hm20, hkm, hnm⟩ := W1.lst _ hlk
      have hkl2 : (kids M1 (s1 ++ [k])).length = m + 1 := by rw [hkm]; simp
      obtain ⟨hnone, W2⟩ := W1.addI (n := m + 1) hlk hkm (by omega)
      have frN : ∀ p ∈ N1, p.1 ≠ D := fun p hp e => by
        by_cases q : p.1 = α1 (s1 ++ [k])
        · exact hDl (e.symm.trans q)
        · exact fr p (put_other hp q) e
      have hsubN : ∀ p ∈ put ((D, oD) :: N1) (α1 (s1 ++ [k])) (PySem.W.listOf (its.push (.ref D)) (n + 1)), p ∈ (D, oD) :: put N1 (α1 (s1 ++ [k])) (PySem.W.listOf (its.push (.ref D)) (n + 1)) := fun p hp => by
        rcases mem_put.mp hp with rfl | ⟨hp, ne⟩
        · exact List.mem_cons_of_mem _ put_self
        · rcases List.mem_cons.mp hp with rfl | hp
          · exact List.mem_cons_self
          · exact List.mem_cons_of_mem _ (put_other hp ne)
      obtain ⟨R2, K2⟩ := add_item (m := n + 1) R1 hlk hnone (kids_none W1 hnone) c4 frN hDs hoD hsubN c1
      refine ExsE.nil (ExsE.nil ⟨.none, .inr ⟨rfl, rfl⟩, rfl, _, _, ?_, R2, W2, K0.trans K2, ?_, ?_⟩)
      · unfold apnM
        rw [hgo]
        show (match look M1 (s1 ++ [k]) with | none => _ | some .lst => some (M1 ++ [(s1 ++ [k] ++ [num (kids M1 (s1 ++ [k])).length], SK.nest)]) | _ => none) = _
        rw [hlk, hkl2]
      · exact (if_neg (by simp)).trans hr1
      · simp; omega
end Mine
end
section
open PySem PySem.W PyProof.Rows PySem.Calls
set_option Elab.async false
set_option maxRecDepth 100000
set_option maxHeartbeats 4000000
set_option linter.unusedVariables false
set_option rowWalk.seconds 0
namespace Mine
def deedM (M : Mp) (k : Nat) (ks : List Str) (kk : Str) (y : Str) : Option Mp :=
  if k = 2 then apnM M ks kk
  else if k = 3 then match gocM M [] ks with
    | none => none
    | some (M1, s) => if look M1 (s ++ [kk]) = none then some (M1 ++ [(s ++ [kk], .txt y)]) else none
  else (gocM M [] (ks ++ [kk])).map (·.1)
def RDeed (w : World) (N : Led) (M : Mp) (α : Spot → Addr) (n : Nat) (o : Option Mp) (r : Value) (N' : Led) : Prop :=
  (r = .bool true ∧ RTree w N M α n o N') ∨ (o = none ∧ r = .bool false ∧ ∀ p ∈ N, p ∈ N')
theorem c_deed (w : World) (N : Led) (M : Mp) (α : Spot → Addr) (x key : Addr) (ok : Obj) (vs : List Value) (ks : List Str) (kk : Str) (k : Nat) (y : Str) (t u t2 : Tok) (R : Rep w N α M) (hW : WF M) (I : InstOk N x (α [])) (hx : ¬ Own M α x) (hk : (key, ok) ∈ N) (hko : ¬ Own M α key) (hT : IsT ok (vs ++ [.str kk t2])) (hks : StrsAre vs ks) (hz : M.length + ks.length + 1 ≤ 10000)
    (hb : ∀ M1 s, gocM M [] ks = some (M1, s) → look M1 (s ++ [kk]) = some .lst → (kids M1 (s ++ [kk])).length < 20) :
    FullT w 205 3 [.ref x, .int (k : Int) t, .ref key, .str y u] N (RDeed w N M α (ks.length + 3) (deedM M k ks kk y)) := by
  delta FullT
  k_fill
  refine enterT [((Str.ofString "text"), .str y u), ((Str.ofString "names"), .ref key), ((Str.ofString "kind"), .int (k : Int) t), ((Str.ofString "tree"), .ref x)] (by k_is) (by k_is) (fun _ _ => BindsTo.of_eq rfl) (locs rfl) rfl rfl rfl (by decide) ?_
  rintro c rfl
  have ck := cls_ok c.w
  have hvl := strs_len hks
  have I0 := I
  obtain ⟨dx, es, nn, sl, I1, I2, I3, I4, I5⟩ := I
  have hks1 : StrsAre (vs ++ [.str kk t2]) (ks ++ [kk]) := strs_snoc hks
  refine ExsT.cons (ExT.tryF (X := deedM M k ks kk y = none) ?_ ?_ (by first | boot_fast | boot_by_name) (by decide) rfl rfl rfl ?_)
  rotate_left
  · have h : model PySem.Challenge.rw_in0109_01.row.prog c.w = model PySem.Challenge.rw_in0109_01.row.prog c.w ∧ nsIn (Mine.hd.heap_1 c.w.params) mainGlobals (Str.ofString "KeyError") = some none := by
      k_fill
      exact ⟨rfl, by k_is⟩
    exact h.2
  · intro g b' N' hX sub
    exact ⟨_, rfl, .inr ⟨hX, rfl, sub⟩⟩
  by_cases h2 : k = 2
  · subst h2
    refine ExsE.ite (Jd.is (Tr.eqI (x := 2) (y := 2) (EvI.of (EvV.name (v := .int ((2 : Nat) : Int) t) rfl rfl)) EvI.lit) (show _ = true from rfl)) ?_
    refine ExsE.exprA (R := fun r N' => r = .none ∧ RTree c.w N M α (ks.length + 2) (apnM M ks kk) N') (JdE.meth (pos := _) (o := .Name (Str.ofString "tree") _) (RA := Is N [.ref key]) (EvV.name (v := .ref x) rfl rfl) I1 I2 ck.a1 ck.a2 ck.a3 ck.a4 I5 (Ags.oneV (EvV.name (v := .ref key) rfl rfl))
      (fun vs' N₁ r => ?_) ⟨pe_name, trivial⟩ rfl ⟨_, rfl⟩) ?_ rfl rfl
    · obtain ⟨rfl, rfl⟩ := r
      exact ⟨2, _, _, c_apn c.w _ M α x key ok vs ks kk t2 R hW I0 hx hk hko hT hks (by omega) hb, Nat.le_refl _, fun r N' h => h, fun a h N' hP s2 hR => ⟨hP, a, _, N', rfl, s2, hR⟩⟩
    · rintro v N' ⟨rfl, hRT⟩
      refine ExsE.nil (ExsE.retV EvV.lit ⟨_, rfl, .inl ⟨rfl, ?_⟩⟩)
      obtain ⟨M', α', h1, h2, h3, h4, h5, h6⟩ := hRT
      exact ⟨M', α', h1, h2, h3, h4, h5, by omega⟩
  have e2 : ((k : Int) == 2) = false := by simp; omega
  refine ExsE.ite (Jd.is (Tr.eqI (x := (k : Int)) (y := 2) (EvI.of (EvV.name (v := .int (k : Int) t) rfl rfl)) EvI.lit) e2) ?_
  by_cases h3 : k = 3
  · subst h3
    refine ExsE.ite (Jd.is (Tr.eqI (x := 3) (y := 3) (EvI.of (EvV.name (v := .int ((3 : Nat) : Int) t) rfl rfl)) EvI.lit) (show _ = true from rfl)) ?_
    refine ExsE.asg (R := fun r N' => ∃ N₁, (∀ p ∈ N, p ∈ N₁) ∧ RGoc c.w N₁ M α ks r N') (JdE.meth (pos := _) (o := .Name (Str.ofString "tree") _) (RA := fun vs' N₁ => ∃ T, vs' = [.ref T] ∧ N₁ = (T, tupO vs) :: N ∧ ∀ p ∈ N, p.1 ≠ T) (EvV.name (v := .ref x) rfl rfl) I1 I2 ck.g1 ck.g2 ck.g3 ck.g4 I4
      (Ags.cons (Ev.init (EvV.name (v := .ref key) rfl rfl) ⟨ok, .inl hk, hT⟩ (by simp) (by simp; omega) (EvI.neg EvI.lit) (fun _ _ => rfl) (fun _ _ => rfl)) fun v N₁ r => Ags.nil.mono fun vs2 N₂ r₂ => ?_) (fun vs' N₁ r => ?_) ⟨pe_subs, trivial⟩ rfl ⟨_, rfl⟩) ?_ rfl rfl
    · obtain ⟨T, rfl, rfl, fr⟩ := r
      obtain ⟨rfl, rfl⟩ := r₂
      exact ⟨T, rfl, by rw [List.dropLast_concat], fr⟩
    · obtain ⟨T, rfl, rfl, fr⟩ := r
      have sub : ∀ p ∈ N, p ∈ (T, tupO vs) :: N := fun p hp => List.mem_cons_of_mem _ hp
      refine ⟨1, _, _, c_goc c.w _ M α x T (tupO vs) vs ks (R.more fun p hp _ => sub p hp) hW ⟨dx, es, nn, sl, sub _ I1, sub _ I2, I3, I4, I5⟩ List.mem_cons_self (fun h => ?_) ⟨rfl, _, rfl⟩ hks (by omega), Nat.le_succ _, fun r N' h => ⟨_, sub, h⟩, fun a h N' hP s2 hR => ⟨?_, a, _, N', rfl, fun p hp => s2 p (sub p hp), hR⟩⟩
      · obtain ⟨o, ho⟩ := own_in R h
        exact fr _ ho rfl
      · show (match gocM M [] ks with | none => none | some (M1, s) => _) = none
        rw [hP]
    rintro v N1 ⟨N₁, hsub, M1, α1, s1, hgo, rfl, hs1, R1, W1, K1, hl1, hr1, hun⟩
    have K0 : KeepL N M α N1 M1 α1 := K1.less hsub
    have hk1 := K0 _ hk hko
    obtain ⟨o, kvs, n1, n2, n3, n4⟩ := R1.node s1 _ hs1
    have hkl : kvs.length ≤ 100000 := by have := n4.len; have := kids_len (M := M1) (s := s1); omega
    obtain ⟨hin, hout⟩ := valueAt_in (k := kk) n3 n4
    have hcase : (valueAt kvs kk).isSome = (look M1 (s1 ++ [kk])).isSome := by
      cases e : look M1 (s1 ++ [kk]) with
      | none => rw [hout e]; rfl
      | some kd => obtain ⟨v, hv, _⟩ := hin kd e; rw [hv]; rfl
    refine ExsE.ite (Jd.is (Tr.inD (k := kk) (kvs := kvs) (d := α1 s1) (EvS.of (EvV.lastT (v := .str kk t2) (vs := vs) (EvV.name (v := .ref key) rfl rfl) (EvI.neg EvI.lit) ⟨ok, .inl hk1.1, hT⟩)) (EvV.name (v := .ref (α1 s1)) rfl rfl) ⟨n2, o, .inl n1, n3⟩) hcase) ?_
    cases hlk : look M1 (s1 ++ [kk]) with
    | some kd =>
      refine ExsE.retV EvV.lit ⟨_, rfl, .inr ⟨?_, rfl, fun p hp => hun ⟨kk, by rw [hlk]; simp⟩ p (hsub p hp)⟩⟩
      show (match gocM M [] ks with | none => none | some (M1, s) => if look M1 (s ++ [kk]) = none then _ else none) = none
      rw [hgo]
      show (if look M1 (s1 ++ [kk]) = none then _ else none) = none
      rw [if_neg (by rw [hlk]; simp)]
    | none =>
      refine ExsE.nil (ExsE.cons (.of (Ex.setD (k := kk) (R := Is N1 (.str y u)) (EvV.name (v := .str y u) rfl rfl) (fun v N₁ r => ?_) rfl)))
      obtain ⟨rfl, rfl⟩ := r
      refine ⟨α1 s1, o, kvs, EvV.name rfl rfl, EvS.of (EvV.lastT (v := .str kk t2) (vs := vs) (EvV.name (v := .ref key) rfl rfl) (EvI.neg EvI.lit) ⟨ok, .inl hk1.1, hT⟩), n1, n3, hkl, fun o' ho' => ?_⟩
      obtain ⟨R2, K2⟩ := add_text R1 hs1 hlk n2 n4 ho'
      refine ExsE.nil (ExsE.nil (ExsE.retV EvV.lit ⟨_, rfl, .inl ⟨rfl, _, α1, ?_, R2, W1.add hs1 hlk (by simp), K0.trans K2, hr1, by simp; omega⟩⟩))
      show (match gocM M [] ks with | none => none | some (M1, s) => if look M1 (s ++ [kk]) = none then some (M1 ++ [(s ++ [kk], SK.txt y)]) else none) = _
      rw [hgo]
      show (if look M1 (s1 ++ [kk]) = none then some (M1 ++ [(s1 ++ [kk], SK.txt y)]) else none) = _
      rw [if_pos hlk]
  have e3 : ((k : Int) == 3) = false := by simp; omega
  have ed : deedM M k ks kk y = (gocM M [] (ks ++ [kk])).map (·.1) := by unfold deedM; rw [if_neg h2, if_neg h3]
  refine ExsE.ite (Jd.is (Tr.eqI (x := (k : Int)) (y := 3) (EvI.of (EvV.name (v := .int (k : Int) t) rfl rfl)) EvI.lit) e3) ?_
  refine ExsE.exprA (R := RGoc c.w N M α (ks ++ [kk])) (JdE.meth (pos := _) (o := .Name (Str.ofString "tree") _) (RA := Is N [.ref key]) (EvV.name (v := .ref x) rfl rfl) I1 I2 ck.g1 ck.g2 ck.g3 ck.g4 I4 (Ags.oneV (EvV.name (v := .ref key) rfl rfl))
    (fun vs' N₁ r => ?_) ⟨pe_name, trivial⟩ rfl ⟨_, rfl⟩) ?_ rfl rfl
  · obtain ⟨rfl, rfl⟩ := r
    exact ⟨1, _, _, c_goc c.w _ M α x key ok _ (ks ++ [kk]) R hW I0 hk hko hT hks1 (by simp; omega), Nat.le_succ _, fun r N' h => h, fun a h N' hP s2 hR => ⟨by rw [ed, hP]; rfl, a, _, N', rfl, s2, hR⟩⟩
  · rintro v N1 ⟨M1, α1, s1, hgo, rfl, hs1, R1, W1, K1, hl1, hr1, hun⟩
    refine ExsE.nil (ExsE.nil (ExsE.retV EvV.lit ⟨_, rfl, .inl ⟨rfl, M1, α1, by rw [ed, hgo]; rfl, R1, W1, K1, hr1, ?_⟩⟩))
    simp at hl1
    omega
end Mine
end
section
open PySem PySem.W PyProof.Rows PySem.Calls
set_option Elab.async false
set_option maxRecDepth 100000
set_option maxHeartbeats 4000000
set_option linter.unusedVariables false
namespace Mine
theorem slot_map_next : Slot "map" "__next__" "map.__next__" :=
  .of (owner := "map") (n := "__next__") (by rw [typeLookup_type, builtinLookup_eq_fast]; kernel_rfl) (by decide +kernel) (by decide +kernel) (by decide +kernel)
    (by first | exact .inl (by decide +kernel) | exact .inr (by decide +kernel)) (by rw [isSubtype_type]; kernel_rfl)
theorem slot_map_iter : Slot "map" "__iter__" "map.__iter__" :=
  .of (owner := "map") (n := "__iter__") (by rw [typeLookup_type, builtinLookup_eq_fast]; kernel_rfl) (by decide +kernel) (by decide +kernel) (by decide +kernel)
    (by first | exact .inl (by decide +kernel) | exact .inr (by decide +kernel)) (by rw [isSubtype_type]; kernel_rfl)
theorem slot_map_init : Slot "map" "__init__" "object.__init__" :=
  .of (owner := "object") (n := "__init__") (by rw [typeLookup_type, builtinLookup_eq_fast]; kernel_rfl) (by decide +kernel) (by decide +kernel) (by decide +kernel)
    (by first | exact .inl (by decide +kernel) | exact .inr (by decide +kernel)) (by rw [isSubtype_type]; kernel_rfl)
theorem entry_map_next : entryFor table "map.__next__" = some Builtin.«map.__next__» := entryFor_of_tree (by kernel_rfl)
theorem entry_map_new : entryFor table "map.__new__" = some Builtin.«map.__new__» := entryFor_of_tree (by kernel_rfl)
theorem args_map_next_1 (a : Value) : argsOk "map.__next__" ⟨[a], []⟩ := by unfold argsOk; kernel_rfl
theorem args_map_iter_1 (a : Value) : argsOk "map.__iter__" ⟨[a], []⟩ := by unfold argsOk; kernel_rfl
theorem entry_map_iter : entryFor table "map.__iter__" = some Builtin.«dict_keyiterator.__iter__» :=
  entryFor_alias (id' := "dict_keyiterator.__iter__") (by kernel_rfl) (by first | rfl | decide +kernel | (unfold String.splitOn; simp +decide [String.splitOnAux])) (by decide +kernel) (by kernel_rfl)
theorem mro_map : mroOf (.type "map") = pure [.type "map", .type "object"] := by rw [mroOf_type]; kernel_rfl
theorem lookup_map_new : typeLookup (.type "map") "__new__" = pure (some (.builtin "map.__new__")) := by rw [typeLookup_type, builtinLookup_eq_fast]; kernel_rfl
theorem called_map : TypeCalled "map" "map.__new__" "object.__init__" :=
  ⟨by decide +kernel, by decide +kernel, ⟨_, _, mro_map⟩, madeBy_type mro_map lookup_map_new (by decide +kernel), by decide +kernel, by rw [isSubtype_type]; kernel_rfl, slot_map_init⟩
theorem typeCall_map_2 (a b : Value) : checkTypeCall "map" ⟨[a, b], []⟩ = pure () := by kernel_rfl
theorem newCall_map_2 (a b : Value) : checkBuiltinCall "map.__new__" ⟨[.type "map", a, b], []⟩ = pure () := by kernel_rfl
theorem sub_map : isSubtype (.type "map") (.type "map") = pure true := by rw [isSubtype_type]; kernel_rfl
theorem nolen_map : typeLookup (.type "map") "__len__" = pure none := by rw [typeLookup_type, builtinLookup_eq_fast]; kernel_rfl
theorem nohint_map : typeLookup (.type "map") "__length_hint__" = pure none := by rw [typeLookup_type, builtinLookup_eq_fast]; kernel_rfl
abbrev IsMap (h : Heap) (z TI : Addr) (fn : Value) : Prop := h.get? z = some { cls := .type "map", dict := none, data := .fields #[.ref TI, fn], slots := #[] }
abbrev IsOne (h : Heap) (T : Addr) (a : Value) : Prop := h.get? T = some { cls := .type "tuple", data := .seq #[a] }
abbrev mapH1 (h : Heap) (l : Addr) : Heap := h.push { cls := .type "list_iterator", data := .fields #[.ref l, .int 0 0] }
abbrev mapH2 (h : Heap) (l : Addr) : Heap := (mapH1 h l).push { cls := .type "tuple", data := .seq #[.ref h.objs.size] }
abbrev mapH3 (h : Heap) (l : Addr) (fn : Value) : Heap := (mapH2 h l).push { cls := .type "map", data := .fields #[.ref (mapH1 h l).objs.size, fn] }
theorem meets_map_new (fn : Value) (l : Addr) (xs : Array Value) :
    Meets (Builtin.«map.__new__» ⟨[.type "map", fn, .ref l], []⟩) (fun _ R s => s.heap.IsList l xs ∧
      R (.ok (.ret (.ref (mapH2 s.heap l).objs.size))) { s with heap := mapH3 s.heap l fn }) :=
  .of_wp fun prog w A R s h => by
    obtain ⟨hp, g, d, tk, os⟩ := s; obtain ⟨hl1, h⟩ := h
    have hsub := sub_map
    have hL1 : Heap.IsList (Shared.heap ⟨hp, g, d, tk, os⟩) l xs := hl1
    wp_walk using wpAny_pyIter_list hL1
    exact ⟨_, rfl, h⟩
section
variable {f : Fx} {b : Binds} {N : Led}
abbrev Fx.Au (f : Fx) (un : Nat) : Around := topA f.c.dp un f.c.gd f.env f.c.outer
def IterAt (o : Obj) (l : Addr) (i : Nat) : Prop := o.cls = .type "list_iterator" ∧ o.data = .fields #[.ref l, rawInt i]
theorem led_set {h₀ h h' : Heap} {L d : Addr} {m : Str → Option Value} {o o' : Obj} (F : Fr h₀ L h m) (M : News h₀ L h N) (hm : (d, o) ∈ N) (hs : Heap.SameBut d h h') (ho' : h'.get? d = some o') : Fr h₀ L h' m ∧ News h₀ L h' (put N d o') := by
  refine ⟨F.change hs (M _ hm).2.1 (M _ hm).2.2, fun p hp => ?_⟩
  rcases mem_put.mp hp with rfl | ⟨hp, ne⟩
  · exact ⟨ho', (M _ hm).2⟩
  · exact ⟨(hs.2 _ ne).trans (M p hp).1, (M p hp).2⟩
theorem map_next_item {un : Nat} {z TI it l : Addr} {io : Obj} {i : Nat} {vs : List Value} {x : Str} {t : Tok} {Q : Value → Shared → Prop} {E : Value → Shared → Prop} {s : Shared} (ok : f.Ok) (hd : 1 ≤ f.dz) (hun : un + 20 < cLine) (hfk : f.cs.kind = .function)
    (F : f.F s.heap b) (M : f.N s.heap N) (hz : IsMap s.heap z TI (.ref 130)) (hTI : IsOne s.heap TI (.ref it)) (hit : (it, io) ∈ N) (hio : IterAt io l i) (hl : AtL f N l vs) (hv : vs[i]? = some (.str x t))
    (hQ : ∀ h' tk io' t', f.F h' b → f.N h' (put N it io') → IterAt io' l (i + 1) → Q (.str x t') { s with heap := h', toks := tk }) :
    wpAny (model PP f.c.w) (f.Au un) (Builtin.«map.__next__» ⟨[.ref z], []⟩) (fun fin s' => ∃ v, fin = .done (.ret v) ∧ Q v s') E s := by
  show wpAny _ _ (field (.ref z) 0 >>= _) _ _ _
  refine wpAny_bind (wpAny_field hz rfl (x := .ref TI) rfl ?_)
  refine wpAny_bind (wpAny_seqItems hTI rfl ?_)
  have hI : s.heap.get? it = some io := (M _ hit).1
  have hzi : z ≠ it := fun e => by rw [e] at hz; rw [hz] at hI; cases hI; exact absurd hio.1 (by simp)
  have hitr : s.heap.IsListIter it l i := ⟨io, hI, hio.1, hio.2⟩
  refine wpAny_bind (wpAny_arrayLoop ?_)
  simp only [List.forIn_cons, List.forIn_nil]
  refine wpAny_bind (wpAny_bind (wpAny_holding (wpAny_nextOf_list_item hitr (hl.is F M) (by simpa using hv) fun h' hit' hs => ?_)))
  obtain ⟨io', e1, e2, e3⟩ := hit'
  obtain ⟨F', M'⟩ := led_set F M hit hs e1
  refine wpAny_pure (wpAny_pure (wpAny_bind (wpAny_field (s := { s with heap := h' }) ((hs.2 _ hzi).trans hz) rfl (x := .ref 130) rfl ?_)))
  refine wpAny_bind (wpAny_holding ?_)
  show wpAny _ _ (call (.ref 130) [.str x t]) _ _ _
  have h1 := ok.h1
  refine c_fspath f.c.w x t _ _ _ _ un _ _ _ _ _ _ _ _ { s with heap := h' } _ _ _ ok.B ok.X ok.T rfl hfk (by show f.c.dp + 1 < _; omega) (by omega) F' M' (fun _ h => nomatch h) ?_
  rintro r h2 tk2 nw F2 M2 _ ⟨t', rfl, rfl⟩
  refine wpAny_bind (wpAny_letGo (wpAny_pure ⟨_, rfl, hQ h2 tk2 io' t' F2 M2 ⟨e2, e3⟩⟩))
theorem map_next_end {un : Nat} {z TI it l : Addr} {io : Obj} {i : Nat} {vs : List Value} {Q : Fin → Shared → Prop} {E : Value → Shared → Prop} {s : Shared}
    (F : f.F s.heap b) (M : f.N s.heap N) (hz : IsMap s.heap z TI (.ref 130)) (hTI : IsOne s.heap TI (.ref it)) (hit : (it, io) ∈ N) (hio : IterAt io l i) (hl : AtL f N l vs) (hv : vs[i]? = none)
    (hQ : ∀ h' e, f.F h' b → f.N h' (N.filter fun p => !(p.1 == it)) → (∃ o, h'.get? e = some o ∧ o.cls = .type "StopIteration") → E (.ref e) { s with heap := h' }) :
    wpAny (model PP f.c.w) (f.Au un) (Builtin.«map.__next__» ⟨[.ref z], []⟩) Q E s := by
  show wpAny _ _ (field (.ref z) 0 >>= _) _ _ _
  refine wpAny_bind (wpAny_field hz rfl (x := .ref TI) rfl ?_)
  refine wpAny_bind (wpAny_seqItems hTI rfl ?_)
  have hI : s.heap.get? it = some io := (M _ hit).1
  have hitr : s.heap.IsListIter it l i := ⟨io, hI, hio.1, hio.2⟩
  refine wpAny_bind (wpAny_arrayLoop ?_)
  simp only [List.forIn_cons, List.forIn_nil]
  refine wpAny_bind (wpAny_bind (wpAny_holding (wpAny_nextOf_list_end rfl hitr (hl.is F M) (by simpa using hv) fun h' e hs he => ?_)))
  refine hQ h' e ⟨?_, fun c o q => ?_, F.above⟩ (fun p hp => ?_) he
  · obtain ⟨oL, es, ep, hL, r⟩ := F.ns
    exact ⟨oL, es, ep, hs _ _ (Ne.symm (M _ hit).2.1) hL, r⟩
  · exact hs _ _ (fun z => by rw [z, (M _ hit).2.2] at q; cases q) (F.keep _ _ q)
  · exact ⟨hs _ _ (put_off p hp) (M p (List.mem_filter.mp hp).1).1, (M p (List.mem_filter.mp hp).1).2⟩
theorem map_pyNext_item {un : Nat} {z TI it l : Addr} {io : Obj} {i : Nat} {vs : List Value} {x : Str} {t : Tok} {Q : Option Value → Shared → Prop} {E : Value → Shared → Prop} {s : Shared} (ok : f.Ok) (hd : 1 ≤ f.dz) (hun : un + 30 < cLine) (hfk : f.cs.kind = .function)
    (F : f.F s.heap b) (M : f.N s.heap N) (hz : IsMap s.heap z TI (.ref 130)) (hTI : IsOne s.heap TI (.ref it)) (hit : (it, io) ∈ N) (hio : IterAt io l i) (hl : AtL f N l vs) (hv : vs[i]? = some (.str x t))
    (hQ : ∀ h' tk io' t', f.F h' b → f.N h' (put N it io') → IterAt io' l (i + 1) → Q (some (.str x t')) { s with heap := h', toks := tk }) :
    wpAny (model PP f.c.w) (f.Au un) (pyNext (.ref z)) Q E s := by
  have hT : s.TypeIs (.ref z) "map" := ⟨_, hz, rfl⟩
  unfold pyNext
  exact wpAny_bind (wpAny_attempt (wpAny_callSpecial?_slot (name := Str.ofString "__next__") hT slot_map_next
    (wpAny_call_entry slot_map_next hT entry_map_next
      (map_next_item (un := un + 1) ok hd (by omega) hfk F M hz hTI hit hio hl hv fun h' tk io' t' a1 a2 a3 => wpAny_pure (hQ h' tk io' t' a1 a2 a3)) (args_map_next_1 _))))
theorem map_pyNext_end {un : Nat} {z TI it l : Addr} {io : Obj} {i : Nat} {vs : List Value} {Q : Option Value → Shared → Prop} {E : Value → Shared → Prop} {s : Shared}
    (F : f.F s.heap b) (M : f.N s.heap N) (hz : IsMap s.heap z TI (.ref 130)) (hTI : IsOne s.heap TI (.ref it)) (hit : (it, io) ∈ N) (hio : IterAt io l i) (hl : AtL f N l vs) (hv : vs[i]? = none)
    (hQ : ∀ h', f.F h' b → f.N h' (N.filter fun p => !(p.1 == it)) → Q none { s with heap := h' }) :
    wpAny (model PP f.c.w) (f.Au un) (pyNext (.ref z)) Q E s := by
  have hT : s.TypeIs (.ref z) "map" := ⟨_, hz, rfl⟩
  unfold pyNext
  refine wpAny_bind (wpAny_attempt (wpAny_callSpecial?_slot (name := Str.ofString "__next__") hT slot_map_next
    (wpAny_call_entry slot_map_next hT entry_map_next (map_next_end (un := un + 1) F M hz hTI hit hio hl hv fun h' e hF hM he => ?_) (args_map_next_1 _))))
  obtain ⟨o, ho, hc⟩ := he
  refine wpAny_bind (wpAny_isInstance (T := "StopIteration") (b := true) ⟨o, ho, hc⟩ isSubtype_stop ?_)
  exact wpAny_pure (hQ _ hF hM)
theorem map_iter {un : Nat} {z TI : Addr} {Q : Value → Shared → Prop} {E : Value → Shared → Prop} {s : Shared} (hz : IsMap s.heap z TI (.ref 130)) (h : Q (.ref z) s) : wpAny (model PP f.c.w) (f.Au un) (pyIter (.ref z)) Q E s := by
  have hT : s.TypeIs (.ref z) "map" := ⟨_, hz, rfl⟩
  refine wpAny_pyIter_slot hT slot_map_iter (wpAny_call_entry slot_map_iter hT entry_map_iter ?_ (args_map_iter_1 _))
  show wpAny _ _ (ret (.ref z)) _ _ s
  exact wpAny_pure ⟨_, rfl, "map", _, hT, slot_map_next.lookup, h⟩
end
end Mine
end
section
open PySem PySem.W PyProof.Rows PySem.Calls
set_option Elab.async false
set_option maxRecDepth 100000
set_option maxHeartbeats 4000000
set_option linter.unusedVariables false
namespace Mine
section
variable {f : Fx} {b : Binds} {N : Led}
abbrev mapO (TI : Addr) : Obj := { cls := .type "map", dict := none, data := .fields #[.ref TI, .ref 130], slots := #[] }
abbrev oneO (v : Value) : Obj := { cls := .type "tuple", data := .seq #[v] }
abbrev accO (acc : Array Value) (c : Nat) : Obj := { cls := .type "list", dict := none, data := .seq acc c, slots := #[] }
structure MapSt (N₀ N : Led) (S z TI it : Addr) (so io : Obj) : Prop where
  base : ∀ p ∈ N₀, p ∈ N
  ms : (S, so) ∈ N
  mz : (z, mapO TI) ∈ N
  mt : (TI, oneO (.ref it)) ∈ N
  mi : (it, io) ∈ N
  d1 : S ≠ it
  d2 : z ≠ it
  d3 : TI ≠ it
  d4 : z ≠ S
  d5 : TI ≠ S
  d6 : ∀ p ∈ N₀, p.1 ≠ S ∧ p.1 ≠ it
theorem MapSt.setI {N₀ N : Led} {S z TI it : Addr} {so io io' : Obj} (h : MapSt N₀ N S z TI it so io) : MapSt N₀ (put N it io') S z TI it so io' :=
  ⟨fun p hp => put_other (h.base p hp) (h.d6 p hp).2, put_other h.ms h.d1, put_other h.mz h.d2, put_other h.mt h.d3, put_self, h.d1, h.d2, h.d3, h.d4, h.d5, h.d6⟩
theorem MapSt.setS {N₀ N : Led} {S z TI it : Addr} {so so' io : Obj} (h : MapSt N₀ N S z TI it so io) : MapSt N₀ (put N S so') S z TI it so' io :=
  ⟨fun p hp => put_other (h.base p hp) (h.d6 p hp).1, put_self, put_other h.mz h.d4, put_other h.mt h.d5, put_other h.mi (Ne.symm h.d1), h.d1, h.d2, h.d3, h.d4, h.d5, h.d6⟩
theorem extend_map {un : Nat} {N₀ : Led} {S z TI it l : Addr} {vs : List Value} {xs : List Str} {R : Result → Shared → Prop} (res : Value) (ok : f.Ok) (hd : 1 ≤ f.dz) (hun : un + 40 < cLine) (hfk : f.cs.kind = .function) (hl : AtL f N₀ l vs) (hx : StrsAre vs xs) (hz : vs.length ≤ 100000) :
    ∀ (k i : Nat) (s : Shared) (acc : Array Value) (c : Nat) (N : Led) (io : Obj), vs.length - i = k → i ≤ vs.length → f.F s.heap b → f.N s.heap N → MapSt N₀ N S z TI it (accO acc c) io → IterAt io l i → StrsAre acc.toList (xs.take i) → acc.size = i →
      (∀ h' tk acc' c' N', f.F h' b → f.N h' N' → (∀ p ∈ N₀, p ∈ N') → (S, accO acc' c') ∈ N' → StrsAre acc'.toList xs → R (.ok (.ret res)) { s with heap := h', toks := tk }) →
      codeAny (model PP f.c.w) (f.Au un) (.builtin "list.extend.loop" ⟨[.ref S, .ref z, res], []⟩) R s := by
  have hvl := strs_len hx
  intro k
  induction k with
  | zero =>
    intro i s acc c N io hk hi F M st hio hacc hsz hR
    have hin : i = vs.length := by omega
    subst hin
    refine codeAny_builtin PySem.F.entry_extend_loop ?_
    rw [Around.under_plainId PySem.F.plain_extend_loop _]
    show wpAny _ (f.Au (un + 1)) (pyNext (.ref z) >>= _) _ _ s
    refine wpAny_bind (map_pyNext_end (un := un + 1) F M (M _ st.mz).1 (M _ st.mt).1 st.mi hio (hl.more st.base) (by simp) fun h' F' M' => ?_)
    have := hR h' s.toks acc c _ F' M' (fun p hp => List.mem_filter.mpr ⟨st.base p hp, by simpa using (st.d6 p hp).2⟩) (List.mem_filter.mpr ⟨st.ms, by simpa using st.d1⟩) (by rw [hvl, List.take_length] at hacc; exact hacc)
    exact wpAny_pure this
  | succ k ih =>
    intro i s acc c N io hk hi F M st hio hacc hsz hR
    have hlt : i < vs.length := by omega
    obtain ⟨x, t, hv, hxi⟩ := strs_get hx (List.getElem?_eq_getElem hlt)
    refine codeAny_builtin PySem.F.entry_extend_loop ?_
    rw [Around.under_plainId PySem.F.plain_extend_loop _]
    show wpAny _ (f.Au (un + 1)) (pyNext (.ref z) >>= _) _ _ s
    refine wpAny_bind (map_pyNext_item (un := un + 1) ok hd (by omega) hfk F M (M _ st.mz).1 (M _ st.mt).1 st.mi hio (hl.more st.base) (by rw [List.getElem?_eq_getElem hlt, hv]) fun h' tk io' t' F' M' hio' => ?_)
    have st' := st.setI (io' := io')
    have hS' := (M' _ st'.ms).1
    show wpAny _ (f.Au (un + 1)) (updateSeq S (·.push (.str x t')) >>= _) _ _ _
    refine wpAny_bind (wpAny_updateSeq (s := { s with heap := h', toks := tk }) hS' rfl (wpAny_pure ⟨plainId_quiet PySem.F.plain_extend_loop _, ?_⟩) (by have := sz_seq hz; omega) (by show (acc.push _).size ≤ sizeLine + 1; rw [Array.size_push, hsz]; have := sz_seq hz; omega))
    obtain ⟨F2, M2⟩ := led_set F' M' st'.ms (Heap.SameBut.update ..) (Heap.get?_update_self (Obj.mapSeq (·.push (.str x t'))) hS' rfl)
    refine ih (i + 1) _ (acc.push (.str x t')) _ _ io' (by omega) hlt F2 M2 st'.setS hio' ?_ (by rw [Array.size_push, hsz]) fun h2 tk2 acc' c' N' F3 M3 a1 a2 a3 => hR h2 tk2 acc' c' N' F3 M3 a1 a2 a3
    rw [Array.toList_push]
    obtain ⟨hlt', e⟩ := List.getElem?_eq_some_iff.mp hxi
    rw [List.take_add_one, hxi]
    exact strs_snoc hacc
theorem nodata {S z : Addr} (h : S ≠ z) : Builtin.List.listSameRef (.ref S) (.ref z) = false := by simp [Builtin.List.listSameRef, h]
theorem collect_map {un : Nat} {z TI it l : Addr} {io : Obj} {vs : List Value} {xs : List Str} {Q : List Value → Shared → Prop} {E : Value → Shared → Prop} {s : Shared} (ok : f.Ok) (hd : 1 ≤ f.dz) (hun : un + 50 < cLine) (hfk : f.cs.kind = .function) (hl : AtL f N l vs) (hx : StrsAre vs xs) (hz : vs.length ≤ 100000)
    (F : f.F s.heap b) (M : f.N s.heap ((z, mapO TI) :: (TI, oneO (.ref it)) :: (it, io) :: N)) (hio : IterAt io l 0) (d2 : z ≠ it) (d3 : TI ≠ it) (d6 : ∀ p ∈ N, p.1 ≠ it)
    (hQ : ∀ h' tk vs' N', f.F h' b → f.N h' N' → (∀ p ∈ N, p ∈ N') → StrsAre vs' xs → Q vs' { s with heap := h', toks := tk }) : wpAny (model PP f.c.w) (f.Au un) (collect (.ref z)) Q E s := by
  have hzm := (M (z, mapO TI) List.mem_cons_self).1
  have hT : ∀ {s' : Shared}, s'.heap.get? z = some (mapO TI) → s'.TypeIs (.ref z) "map" := fun h => ⟨_, h, rfl⟩
  have hSI : s.heap.objs.size ≠ z := Ne.symm (Nat.ne_of_lt (Heap.lt_size hzm))
  unfold collect
  refine wpAny_bind (wpAny_runValue (codeAny_builtin PySem.F.entry_proto_collect ?_))
  rw [Around.under_plainId PySem.F.plain_proto_collect _]
  show wpAny _ (f.Au (un + 1)) (newList [] >>= fun l => again (.builtin "list.__iadd__" ⟨[l, .ref z], []⟩)) _ _ s
  refine wpAny_bind (wpAny_newObj_type ?_)
  refine wpAny_pure ⟨plainId_quiet PySem.F.plain_list_iadd _, codeAny_builtin PySem.F.entry_list_iadd ?_⟩
  rw [Around.under_plainId PySem.F.plain_list_iadd _]
  have F1 : f.F (s.heap.push (accO #[] 0)) b := F.push _
  have M1 : f.N (s.heap.push (accO #[] 0)) ((s.heap.objs.size, accO #[] 0) :: (z, mapO TI) :: (TI, oneO (.ref it)) :: (it, io) :: N) := M.push F (accO #[] 0)
  have hz1 := (M1 (z, mapO TI) (by simp)).1
  show wpAny _ (f.Au (un + 1)) (Builtin.List.listExtendWith (.ref s.heap.objs.size) (.ref z) (.ref s.heap.objs.size)) _ _ _
  unfold Builtin.List.listExtendWith
  refine wpAny_bind (wpAny_typeOf (hT hz1) ?_)
  have h1 := nodata hSI
  have h2 : (Value.type "map" == Value.type "list") = false := by decide
  have h3 : (Value.type "map" == Value.type "tuple") = false := by decide
  simp only [h1, h2, h3, Bool.or_false, Bool.false_eq_true, if_false]
  refine wpAny_bind (map_iter (f := f) (un := un + 1) hz1 ?_)
  refine wpAny_bind (wpAny_holding ?_)
  unfold Builtin.List.listLengthHint
  refine wpAny_bind (wpAny_specialOf (hT hz1) nolen_map ?_)
  show wpAny _ (f.Au (un + 1)) (specialOf (Value.ref z) (Str.ofString "__length_hint__") >>= _) _ _ _
  refine wpAny_bind (wpAny_specialOf (hT hz1) nohint_map ?_)
  refine wpAny_pure ?_
  show wpAny _ (f.Au (un + 1)) (rule "list.extend.makes-room" >>= fun _ => Builtin.List.listTouch (.ref s.heap.objs.size) >>= fun _ =>
    again (.builtin "list.extend.loop" ⟨[.ref s.heap.objs.size, .ref z, .ref s.heap.objs.size], []⟩)) _ _ _
  refine wpAny_bind (wpAny_rule ?_)
  have hS₁ := (M1 _ List.mem_cons_self).1
  refine wpAny_bind ?_
  show wpAny _ (f.Au (un + 1)) (updateSeq s.heap.objs.size (·.push .none) >>= fun _ => updateSeq s.heap.objs.size (·.pop)) _ _ _
  refine wpAny_bind (wpAny_updateSeq hS₁ rfl ?_)
  have hS₂ := Heap.get?_update_self (Obj.mapSeq (·.push Value.none)) hS₁ rfl
  obtain ⟨F2, M2⟩ := led_set F1 M1 List.mem_cons_self (Heap.SameBut.update ..) hS₂
  refine wpAny_updateSeq hS₂ rfl ?_
  have hS₃ := Heap.get?_update_self (Obj.mapSeq (·.pop)) hS₂ rfl
  obtain ⟨F3, M3⟩ := led_set F2 M2 put_self (Heap.SameBut.update ..) hS₃
  have offS : ∀ p ∈ (z, mapO TI) :: (TI, oneO (.ref it)) :: (it, io) :: N, p.1 ≠ s.heap.objs.size := fun p hp => Nat.ne_of_lt (Heap.lt_size (M p hp).1)
  have st0 : MapSt N ((s.heap.objs.size, accO #[] 0) :: (z, mapO TI) :: (TI, oneO (.ref it)) :: (it, io) :: N) s.heap.objs.size z TI it (accO #[] 0) io :=
    ⟨fun p hp => by simp [hp], List.mem_cons_self, by simp, by simp, by simp, (offS (it, io) (by simp)).symm, d2, d3, offS (z, mapO TI) (by simp), offS (TI, oneO (.ref it)) (by simp), fun p hp => ⟨offS p (by simp [hp]), d6 p hp⟩⟩
  refine wpAny_pure ⟨plainId_quiet PySem.F.plain_extend_loop _, extend_map (un := un) _ ok hd (by omega) hfk hl hx hz _ 0 _ #[] _ _ io rfl (Nat.zero_le _) F3 M3 st0.setS.setS hio .nil rfl fun h' tk acc' c' N' F' M' a1 a2 a3 => ?_⟩
  show wpAny _ _ (load s.heap.objs.size >>= _) _ _ _
  refine wpAny_bind (wpAny_load (M' _ a2).1 ?_)
  exact wpAny_pure (hQ h' tk acc'.toList N' F' M' a1 a3)
theorem strs_len' {vs : List Value} {xs : List Str} (h : StrsAre vs xs) : vs.length = xs.length := strs_len h
theorem call_tuple_map {un : Nat} {z TI it l : Addr} {io : Obj} {vs : List Value} {xs : List Str} {Q : Value → Shared → Prop} {E : Value → Shared → Prop} {s : Shared} (ok : f.Ok) (hd : 1 ≤ f.dz) (hun : un + 60 < cLine) (hfk : f.cs.kind = .function) (hl : AtL f N l vs) (hx : StrsAre vs xs) (hz : vs.length ≤ 100000)
    (F : f.F s.heap b) (M : f.N s.heap ((z, mapO TI) :: (TI, oneO (.ref it)) :: (it, io) :: N)) (hio : IterAt io l 0) (d2 : z ≠ it) (d3 : TI ≠ it) (d6 : ∀ p ∈ N, p.1 ≠ it)
    (hQ : ∀ h' tk D vs' N', f.F h' b → f.N h' ((D, tupO vs') :: N') → (∀ p ∈ N, p ∈ N') → (∀ p ∈ N', p.1 ≠ D) → StrsAre vs' xs → Q (.ref D) { s with heap := h', toks := tk }) : wpAny (model PP f.c.w) (f.Au un) (call (.type "tuple") [.ref z]) Q E s := by
  have hzm := (M (z, mapO TI) List.mem_cons_self).1
  have hTI : s.TypeIs (.ref z) "map" := ⟨_, hzm, rfl⟩
  refine callType_codes (Q₁ := fun obj s₁ => s₁.TypeIs obj "tuple" ∧ Q obj s₁) PySem.F.called_tuple (PySem.F.typeCall_tuple_1 _) PySem.F.entry_object_init ?_ fun obj s₁ h₁ => ?_
  · refine codeAny_of_tree ?_
    show wpAny _ (f.Au (un + 2)) (do checkBuiltinCall "tuple.__new__" ⟨[.type "tuple", .ref z], []⟩; again (.builtin "tuple.__new__" ⟨[.type "tuple", .ref z], []⟩)) _ _ s
    refine wpAny_bind (wpAny_of_eq (PySem.F.newCall_tuple_1 _) (wpAny_pure ⟨plainId_quiet PySem.F.plain_tuple_new _, codeAny_builtin PySem.F.entry_tuple_new ?_⟩))
    rw [Around.under_plainId PySem.F.plain_tuple_new _]
    have hsub := sub_tuple_self
    have hinit := init_tuple_lookup
    have hmh := madeHere_tuple
    wp_walk using wpAny_typeOf hTI, collect_map (un := un + 2) ok hd (by omega) hfk hl hx hz F M hio d2 d3 d6
    intro h' tk vs' N' F' M' a1 a2
    show wpAny _ _ (Builtin.Tuple.tupleExact vs'.toArray >>= fun v => ret v) _ _ _
    unfold Builtin.Tuple.tupleExact
    have hl2 : vs'.length = vs.length := by rw [strs_len a2, strs_len hx]
    refine wpAny_bind (wpAny_newObj_type ?_ (by show vs'.toArray.size ≤ sizeLine; rw [List.size_toArray, hl2]; exact sz_seq hz))
    refine wpAny_pure ⟨⟨_, Heap.get?_push_size _ rfl, rfl⟩, ?_⟩
    exact hQ _ tk _ vs' N' (F'.push _) (M'.push F' _) a1 (fun p hp => Nat.ne_of_lt (Heap.lt_size (M' p hp).1)) a2
  · exact ⟨h₁.1, PySem.F.args_object_init_2 obj _, object_init_meets PySem.F.called_tuple.init.lookup PySem.F.called_tuple.made (by decide) _ _ _ _ s₁ ⟨h₁.1, rfl, h₁.2⟩⟩
theorem jd_map {l : Addr} {vs : List Value} (hl : AtL f N l vs) : Jd f b N (call (.type "map") [.ref 130, .ref l]) (fun v N' => ∃ z TI it io, v = .ref z ∧ N' = (z, mapO TI) :: (TI, oneO (.ref it)) :: (it, io) :: N ∧ IterAt io l 0 ∧ z ≠ it ∧ TI ≠ it ∧ ∀ p ∈ N, p.1 ≠ it) := fun s Q E ok F M q => by
  refine callType_new called_map (by decide) (typeCall_map_2 _ _) (newCall_map_2 _ _) (fun obj => PySem.F.args_object_init_3 obj _ _) entry_map_new (meets_map_new (.ref 130) l vs.toArray) ⟨hl.is F M, ?_⟩
  have z1 : (mapH1 s.heap l).objs.size = s.heap.objs.size + 1 := Heap.size_push ..
  have z2 : (mapH2 s.heap l).objs.size = s.heap.objs.size + 2 := by rw [Heap.size_push, z1]
  have M1 := M.push F { cls := .type "list_iterator", data := .fields #[.ref l, .int 0 0] }
  have F1 : f.F (mapH1 s.heap l) b := F.push _
  have M2 := M1.push F1 { cls := .type "tuple", data := .seq #[.ref s.heap.objs.size] }
  have F2 : f.F (mapH2 s.heap l) b := F1.push _
  have M3 := M2.push F2 { cls := .type "map", data := .fields #[.ref (mapH1 s.heap l).objs.size, .ref 130] }
  refine ⟨⟨_, Heap.get?_push_size _ rfl, rfl⟩, ?_⟩
  refine q _ (mapH3 s.heap l (.ref 130)) s.toks _ (F2.push _) M3 ⟨_, _, _, _, rfl, rfl, ⟨rfl, rfl⟩, ?_, ?_, fun p hp => Nat.ne_of_lt (Heap.lt_size (M p hp).1)⟩
  · show (mapH2 s.heap l).objs.size ≠ s.heap.objs.size
    omega
  · show (mapH1 s.heap l).objs.size ≠ s.heap.objs.size
    omega
/-- tuple(map(fspath, l)) -/
theorem Ev.tupMap {x1 x2 x3 : Str} {p1 p2 p3 p4 p5 : Pos} {e : Expr} {l : Addr} {vs : List Value} {xs : List Str} (g1 : Glob f.c.w x1 (.type "tuple")) (g2 : Glob f.c.w x2 (.type "map")) (g3 : Glob f.c.w x3 (.ref 130)) (he : EvV f f.env b N e (.ref l)) (hl : AtL f N l vs) (hx : StrsAre vs xs) (hz : vs.length ≤ 100000) (hd : 8 ≤ f.dz) (hfk : f.cs.kind = .function)
    (e1 : gB f.env x1 = true) (e2 : gB f.env x2 = true) (e3 : gB f.env x3 = true) : Ev f f.env b N (.Call (.Name x1 p1) [.Call (.Name x2 p2) [.Name x3 p3, e] [] p4] [] p5) (fun v N' => ∃ D vs', v = .ref D ∧ N' = (D, tupO vs') :: N ∧ (∀ p ∈ N, p.1 ≠ D) ∧ StrsAre vs' xs) := by
  refine Ev.callT g1 (RA := fun us N' => ∃ z TI it io, us = [.ref z] ∧ N' = (z, mapO TI) :: (TI, oneO (.ref it)) :: (it, io) :: N ∧ IterAt io l 0 ∧ z ≠ it ∧ TI ≠ it ∧ ∀ p ∈ N, p.1 ≠ it) (Ags.cons (Ev.callT (R' := fun v N' => ∃ z TI it io, v = .ref z ∧ N' = (z, mapO TI) :: (TI, oneO (.ref it)) :: (it, io) :: N ∧ IterAt io l 0 ∧ z ≠ it ∧ TI ≠ it ∧ ∀ p ∈ N, p.1 ≠ it) g2 (RA := Is N [.ref 130, .ref l]) (Ags.cons (EvV.glob g3 e3) fun v N₁ r => ?_) (fun us N₁ r => ?_) e2 ⟨pe_name, he.pe, trivial⟩) fun v N₁ r => Ags.nil.mono fun us N₂ r₂ => ?_) (fun us N₁ r => ?_) e1 ⟨pe_call, trivial⟩
  · obtain ⟨rfl, rfl⟩ := r
    exact (Ags.oneV he).mono fun us N' r => by obtain ⟨rfl, rfl⟩ := r; exact ⟨rfl, rfl⟩
  · obtain ⟨rfl, rfl⟩ := r
    exact jd_map hl
  · obtain ⟨z, TI, it, io, rfl, rfl, r⟩ := r
    obtain ⟨rfl, rfl⟩ := r₂
    exact ⟨z, TI, it, io, rfl, rfl, r⟩
  · obtain ⟨z, TI, it, io, rfl, rfl, hio, d2, d3, d6⟩ := r
    exact fun s Q E ok F M q => call_tuple_map (un := f.c.un) ok (by omega) (by have := ok.h2; omega) hfk hl hx hz F M hio d2 d3 d6 fun h' tk D vs' N' F' M' a1 a2 a3 => q _ h' tk ((D, tupO vs') :: N) F' (fun p hp => M' p (by
      rcases List.mem_cons.mp hp with rfl | hp
      · exact List.mem_cons_self
      · exact List.mem_cons_of_mem _ (a1 p hp))) ⟨D, vs', rfl, rfl, fun p hp => a2 p (a1 p hp), a3⟩
end
end Mine
end
section
open PySem PySem.W PyProof.Rows PySem.Calls
set_option Elab.async false
set_option maxRecDepth 100000
set_option maxHeartbeats 4000000
set_option linter.unusedVariables false
namespace Mine
theorem entry_int_hash' : entryFor table "int.__hash__" = some Builtin.«int.__hash__» := PySem.entry_int_hash
section
variable {prog : Program} {w : World} {A : Around} {E : Value → Shared → Prop} {s : Shared}
theorem pyHash_true {Q : Int → Shared → Prop} (h : Q 1 { s with toks := s.toks + 1 }) : wpAny (model prog w) A (pyHash (.bool true)) Q E s := by
  have hT : s.TypeIs (.bool true) "bool" := rfl
  unfold pyHash
  have hv : [Value.bool true].any Value.onHeap = false := rfl
  refine wpAny_bind ?_
  rw [cRoomFor, if_neg (by rw [hv]; exact Bool.false_ne_true)]; refine wpAny_pure ?_
  refine wpAny_bind (wpAny_specialOf hT PySem.F.slot_bool_hash.lookup ?_)
  show wpAny _ _ (if (some (Value.builtin "int.__hash__") == some Value.none) = true then _ else _) Q E s
  rw [if_neg (by rw [beq_builtin_none]; exact Bool.false_ne_true)]
  refine wpAny_bind (wpAny_specialOf hT PySem.F.slot_bool_hash.lookup ?_)
  show wpAny _ _ (callSpecialIfBoundUnlessNone? (.bool true) "__hash__" _ >>= _) Q E s
  refine wpAny_bind (wpAny_callSpecialIfBoundUnlessNone?_slot hT PySem.F.slot_bool_hash
    (wpAny_call_entry PySem.F.slot_bool_hash hT entry_int_hash
      (show wpAny _ _ (do ret (← mkInt (rawHash 1))) _ _ s from wpAny_ret_mkInt ?_) (args_int_hash _)))
  have hr := rawHash_range 1
  show wpAny _ _ (if (decide (-(2 : Int) ^ 63 ≤ rawHash 1) && decide (rawHash 1 < 2 ^ 63)) = true then _ else _) Q E _
  rw [if_pos (by rw [decide_eq_true hr.1, decide_eq_true hr.2]; rfl)]
  exact wpAny_pure h
theorem eqBool_true {Q : Bool → Shared → Prop} (h : Q true s) : wpAny (model prog w) A (eqBool (.bool true) (.bool true)) Q E s := by
  unfold eqBool
  rw [if_pos (by decide)]
  exact wpAny_bind (wpAny_rule (wpAny_pure h))
abbrev setT (led : Bool) : SetTable := SetTable.fresh 0 0 led
abbrev setU (led : Bool) : SetTable := { mask := 7, place := #[1], dummies := #[], finger := 0, led := led, moves := 0, plain := true }
abbrev set0 (led : Bool) : Obj := { cls := .type "set", data := .set #[] 0 (setT led) }
abbrev set1 (led : Bool) : Obj := { cls := .type "set", data := .set #[(1, .bool true)] 1 (setU led) }
theorem lay1 (led : Bool) : layNew (setT led) #[] 1 (.bool true) = (#[(1, .bool true)], setU led, false, false) := by cases led <;> decide +kernel
theorem add_body {a : Addr} {o : Obj} {Q : Value → Shared → Prop} (ho : s.heap.get? a = some o) (hc : o.cls = .type "set") (h : wpAny (model prog w) A.in1 (setAddHashed a (.bool true) 1) (fun _ s' => Q .none s') (fun e s' => E e s') { s with toks := s.toks + 1 }) : wpAny (model prog w) A (call (.builtin "set.add") [.ref a, .bool true]) Q E s := by
  have hT : s.TypeIs (.ref a) "set" := ⟨_, ho, hc⟩
  refine wpAny_call_entry PySem.F.slot_set_add hT PySem.F.entry_set_add ?_ (PySem.F.args_set_add_2 _ _)
  unfold Builtin.«set.add» Builtin.Frozenset.oneOther
  simp only [List.isEmpty_nil, bind_assoc]
  unfold Builtin.Frozenset.addrOf setAdd
  refine wpAny_bind (wpAny_pure ?_)
  try dsimp only
  refine wpAny_bind (wpAny_pure ?_)
  try dsimp only
  refine wpAny_bind ?_
  refine wpAny_holding ?_
  refine wpAny_bind (pyHash_true ?_)
  refine wpAny_mono h (fun r s' q => ?_) fun _ _ e => e
  show wpAny _ _ (ret Value.none) _ _ _
  exact wpAny_pure ⟨_, rfl, q⟩
theorem add_first {a : Addr} {led : Bool} {Q : Value → Shared → Prop} (ho : s.heap.get? a = some (set0 led)) (h : ∀ h', Heap.SameBut a s.heap h' → h'.get? a = some (set1 led) → Q .none { s with heap := h', toks := s.toks + 1 }) : wpAny (model prog w) A (call (.builtin "set.add") [.ref a, .bool true]) Q E s := by
  refine add_body ho rfl ?_
  unfold setAddHashed setAddHashedIn
  refine wpAny_holding (wpAny_bind (wpAny_setState_of (s := { s with toks := s.toks + 1 }) ho rfl (by cases led <;> decide) ?_))
  dsimp only
  rw [if_pos (by decide +kernel)]
  unfold setAddByScan
  refine wpAny_bind ?_
  refine wpAny_bind (wpAny_rule ?_)
  refine wpAny_bind (m := setScan _ _ _ _ _) (wpAny_pure ?_)
  dsimp only
  rw [lay1]
  dsimp only
  refine wpAny_bind (wpAny_pure (a := ()) ?_)
  rw [if_pos (by cases led <;> rfl)]
  refine wpAny_bind (m := hashByValue _ _) (wpAny_pure ?_)
  rw [if_pos rfl]
  refine wpAny_bind (wpAny_storeSet_of (s := { s with toks := s.toks + 1 }) ho rfl ?_ (sz_seq (by decide)))
  rw [if_neg (by cases led <;> decide +kernel)]
  have g := Heap.get?_update_self (Obj.putSet #[(1, Value.bool true)] (setU led)) ho rfl
  exact wpAny_pure (wpAny_pure (h _ (Heap.SameBut.update ..) (g.trans (congrArg some (putSet_of _ _ (o := set0 led) rfl)))))
theorem add_again {a : Addr} {led : Bool} {Q : Value → Shared → Prop} (ho : s.heap.get? a = some (set1 led)) (h : Q .none { s with toks := s.toks + 1 }) : wpAny (model prog w) A (call (.builtin "set.add") [.ref a, .bool true]) Q E s := by
  refine add_body ho rfl ?_
  have fit : (setU led).fits (#[((1 : Int), Value.bool true)] : Array (Int × Value)).size = true := by cases led <;> decide
  unfold setAddHashed setAddHashedIn
  refine wpAny_holding (wpAny_bind (wpAny_setState_of (s := { s with toks := s.toks + 1 }) ho rfl fit ?_))
  dsimp only
  rw [if_pos (by decide +kernel)]
  unfold setAddByScan
  refine wpAny_bind ?_
  refine wpAny_bind (wpAny_rule ?_)
  refine wpAny_bind ?_
  show wpAny _ _ (setScanFrom a (.bool true) 1 true [(1, .bool true)] 0) _ _ _
  unfold setScanFrom
  rw [if_pos (by decide)]
  unfold setEpoch
  refine wpAny_bind (wpAny_bind (wpAny_setState_of (s := { s with toks := s.toks + 1 }) ho rfl fit (wpAny_pure ?_)))
  refine wpAny_bind (eqBool_true ?_)
  rw [if_pos (by decide)]
  refine wpAny_pure ?_
  dsimp only
  exact wpAny_pure (wpAny_pure h)
abbrev sitO (a : Addr) (x y : Nat) : Obj := { cls := .type "set_iterator", data := .fields #[rawInt x, rawInt y, .ref a, rawInt 1, rawInt 1] }
theorem entry_set_iter : entryFor table "set.__iter__" = some Builtin.«frozenset.__iter__» :=
  entryFor_alias (id' := "frozenset.__iter__") (by kernel_rfl) (by first | rfl | decide +kernel | (unfold String.splitOn; simp +decide [String.splitOnAux])) (by decide +kernel) (by kernel_rfl)
theorem slot_sit_next : Slot "set_iterator" "__next__" "set_iterator.__next__" :=
  .of (owner := "set_iterator") (n := "__next__") (by rw [typeLookup_type, builtinLookup_eq_fast]; kernel_rfl) (by decide +kernel) (by decide +kernel) (by decide +kernel)
    (by first | exact .inl (by decide +kernel) | exact .inr (by decide +kernel)) (by rw [isSubtype_type]; kernel_rfl)
theorem entry_sit_next : entryFor table "set_iterator.__next__" = some Builtin.«set_iterator.__next__» := entryFor_of_tree (by kernel_rfl)
theorem args_sit_next (a : Value) : argsOk "set_iterator.__next__" ⟨[a], []⟩ := by unfold argsOk; kernel_rfl
theorem set_iter {a : Addr} {led : Bool} {Q : Value → Shared → Prop} (ho : s.heap.get? a = some (set1 led)) (h : Q (.ref s.heap.objs.size) { s with heap := s.heap.push (sitO a 0 0) }) : wpAny (model prog w) A (pyIter (.ref a)) Q E s := by
  have hT : s.TypeIs (.ref a) "set" := ⟨_, ho, rfl⟩
  have fit : (setU led).fits (#[((1 : Int), Value.bool true)] : Array (Int × Value)).size = true := by cases led <;> decide
  refine wpAny_pyIter_slot hT PySem.F.slot_set_iter (wpAny_call_entry PySem.F.slot_set_iter hT entry_set_iter ?_ (PySem.F.args_set_iter_1 _))
  unfold Builtin.«frozenset.__iter__»
  refine wpAny_bind (m := Builtin.Frozenset.slot0 _ _) (wpAny_pure (a := a) ?_)
  unfold Builtin.Frozenset.sizeOf setEntries
  refine wpAny_bind (wpAny_bind (wpAny_bind (wpAny_setState_of ho rfl fit (wpAny_pure (wpAny_pure ?_)))))
  unfold setDrawn setsByText
  refine wpAny_bind (wpAny_bind (wpAny_setState_of ho rfl fit (wpAny_bind (wpAny_bind (wpAny_askSetting (wpAny_pure (wpAny_pure ?_)))))))
  rw [if_neg (fun q => by have := (Bool.and_eq_true_iff.mp q).2; revert this; cases led <;> decide +kernel)]
  refine wpAny_bind (wpAny_pure ?_)
  unfold setEpoch
  refine wpAny_bind (wpAny_bind (wpAny_setState_of ho rfl fit (wpAny_pure ?_)))
  unfold newFields
  refine wpAny_bind (wpAny_newObj_type ?_)
  exact wpAny_pure ⟨_, rfl, "set_iterator", _, ⟨_, Heap.get?_push_size _ rfl, rfl⟩, slot_sit_next.lookup, h⟩
theorem pick1 (nx : Nat → Nat) (x : Int × Value) : pickOrder nx #[x] = #[x] := by
  show pickOrder.go nx 1 0 [x] #[] = #[x]
  unfold pickOrder.go
  simp only [List.length_singleton, Nat.mod_one, List.getElem?_cons_zero]
  rfl
theorem walk1 {a : Addr} {led : Bool} {Q : Array (Int × Value) → Shared → Prop} (hb : w.params.followText "set-order" = true) (ho : s.heap.get? a = some (set1 led)) (h : Q #[(1, .bool true)] s) : wpAny (model prog w) A (setWalk a) Q E s := by
  have fit : (setU led).fits (#[((1 : Int), Value.bool true)] : Array (Int × Value)).size = true := by cases led <;> decide
  unfold setWalk setsByText
  refine wpAny_bind (wpAny_setState_of ho rfl fit (wpAny_bind (wpAny_bind (wpAny_askSetting (wpAny_pure ?_)))))
  rw [if_pos (show (⟨(model prog w).prog, (model prog w).w.params⟩ : Setting).params.followText "set-order" = true from hb)]
  refine wpAny_bind (wpAny_askSetting (wpAny_pure ?_))
  rw [pick1]
  exact h
abbrev ledW (w : World) : Bool := !w.params.followText "set-order"
theorem setNext_at {a : Addr} {x y : Nat} {Q : Option (Value × Nat) → Shared → Prop} (ho : s.heap.get? a = some (set1 (ledW w))) (h1 : w.params.followText "set-order" = true → Q ((#[((1 : Int), Value.bool true)][y]?).map fun e => (e.2, x)) s)
    (h2 : w.params.followText "set-order" = false → Q (match (#[((1 : Int), Value.bool true)] : Array (Int × Value))[SetTable.below #[1] x]?, (#[1] : Array Nat)[SetTable.below #[1] x]? with | some (_, v), some j => some (v, j + 1) | _, _ => none) s) : wpAny (model prog w) A (setNext a x y 1) Q E s := by
  have fit : (setU (ledW w)).fits (#[((1 : Int), Value.bool true)] : Array (Int × Value)).size = true := by cases ledW w <;> decide
  unfold setNext setsByText
  refine wpAny_bind (wpAny_setState_of ho rfl fit (wpAny_bind (wpAny_bind (wpAny_askSetting (wpAny_pure ?_)))))
  cases hb : w.params.followText "set-order" with
  | true =>
    rw [if_pos (show (⟨(model prog w).prog, (model prog w).w.params⟩ : Setting).params.followText "set-order" = true from hb)]
    rw [if_neg (by decide)]
    exact wpAny_bind (walk1 hb ho (wpAny_pure (h1 hb)))
  | false =>
    rw [if_neg (show ¬ (⟨(model prog w).prog, (model prog w).w.params⟩ : Setting).params.followText "set-order" = true from by rw [show (⟨(model prog w).prog, (model prog w).w.params⟩ : Setting).params.followText "set-order" = false from hb]; decide)]
    have hl : ledW w = true := by unfold ledW; rw [hb]; rfl
    rw [if_neg (fun q => by rw [hl] at q; revert q; decide +kernel)]
    refine wpAny_bind (m := _) (wpAny_of_eq (a := ()) ?_ (wpAny_pure (h2 hb)))
    rw [hl]
    rfl
theorem sit_next1 {a I : Addr} {Q : Option Value → Shared → Prop} (ho : s.heap.get? a = some (set1 (ledW w))) (hI : s.heap.get? I = some (sitO a 0 0)) (h : ∀ h' x, x = 0 ∨ x = 2 → (w.params.followText "set-order" = false → x = 2) → h'.get? I = some (sitO a x 1) → Heap.SameBut I s.heap h' → Q (some (.bool true)) { s with heap := h' }) : wpAny (model prog w) A (pyNext (.ref I)) Q E s := by
  have hT : s.TypeIs (.ref I) "set_iterator" := ⟨_, hI, rfl⟩
  have fit : (setU (ledW w)).fits (#[((1 : Int), Value.bool true)] : Array (Int × Value)).size = true := by cases ledW w <;> decide
  unfold pyNext
  refine wpAny_bind (wpAny_attempt (wpAny_callSpecial?_slot (name := Str.ofString "__next__") hT slot_sit_next
    (wpAny_call_entry slot_sit_next hT entry_sit_next ?_ (args_sit_next _))))
  have key : ∀ x : Nat, (x = 0 ∨ x = 2) → (w.params.followText "set-order" = false → x = 2) → wpAny (model prog w) A.in1 (do setField (.ref I) 0 (rawInt (x : Int)); setField (.ref I) 1 (rawInt ((0 : Nat) + 1 : Int)); ret (.bool true)) (fun fin s' => ∃ v, fin = Fin.done (Flow.ret v) ∧ wpAny (model prog w) A (pure (some v)) Q E s') (fun _ _ => False) s := by
    intro x hx hx2
    refine wpAny_bind (wpAny_setField_rec hI (by simp) fun h₁ hI₁ hs₁ => ?_)
    refine wpAny_bind (wpAny_setField_rec hI₁ (by simp) fun h₂ hI₂ hs₂ => ?_)
    exact wpAny_pure ⟨_, rfl, wpAny_pure (h h₂ x hx hx2 hI₂ (hs₁.trans hs₂))⟩
  unfold Builtin.«set_iterator.__next__»
  wp_walk
  refine wpAny_askSetting (wpAny_pure ?_)
  cases hb : w.params.followText "set-order" with
  | true =>
    rw [if_pos (show (⟨(model prog w).prog, (model prog w).w.params⟩ : Setting).params.followText "set-order" = true from hb)]
    rw [if_neg (by decide)]
    refine wpAny_bind (walk1 hb ho (wpAny_pure ?_))
    exact wpAny_mono (key 0 (.inl rfl) (fun e => by rw [hb] at e; cases e)) (fun _ _ q => q) fun _ _ e => e.elim
  | false =>
    rw [if_neg (show ¬ (⟨(model prog w).prog, (model prog w).w.params⟩ : Setting).params.followText "set-order" = true from by rw [show (⟨(model prog w).prog, (model prog w).w.params⟩ : Setting).params.followText "set-order" = false from hb]; decide)]
    have hl : ledW w = true := by unfold ledW; rw [hb]; rfl
    rw [if_neg (fun q => by rw [hl] at q; revert q; decide +kernel)]
    refine wpAny_bind (wpAny_of_eq (a := ()) (by rw [hl]; rfl) (wpAny_pure ?_))
    have e1 : SetTable.below (#[1] : Array Nat) 0 = 0 := by decide +kernel
    exact wpAny_mono (key 2 (.inr rfl) (fun _ => rfl)) (fun _ _ q => q) fun _ _ e => e.elim
theorem sit_next2 {a I : Addr} {x : Nat} {Q : Option Value → Shared → Prop} (hh : A.handled = none) (ho : s.heap.get? a = some (set1 (ledW w))) (hI : s.heap.get? I = some (sitO a x 1)) (hx : x = 0 ∨ x = 2) (hx2 : w.params.followText "set-order" = false → x = 2) (h : ∀ h', Heap.ExtBut I s.heap h' → Q none { s with heap := h' }) : wpAny (model prog w) A (pyNext (.ref I)) Q E s := by
  have hT : s.TypeIs (.ref I) "set_iterator" := ⟨_, hI, rfl⟩
  have fit : (setU (ledW w)).fits (#[((1 : Int), Value.bool true)] : Array (Int × Value)).size = true := by cases ledW w <;> decide
  unfold pyNext
  refine wpAny_bind (wpAny_attempt (wpAny_callSpecial?_slot (name := Str.ofString "__next__") hT slot_sit_next
    (wpAny_call_entry slot_sit_next hT entry_sit_next ?_ (args_sit_next _))))
  have key : wpAny (model prog w) A.in1 (do setField (.ref I) 2 .none; let e ← newExc (.type "StopIteration") []; raiseNew e) (fun (fin : Fin) s' => False) (fun e s' => wpAny (model prog w) A (match (Except.error e : Except Value (Option Value)) with
                        | Except.ok (some v) => pure (some v)
                        | Except.ok none => unsupported "iter:the-iterator's-class-has-lost-its-__next__-amid-the-walk"
                        | Except.error e => do
                          let __do_lift ← isInstance e (Value.type "StopIteration")
                          if __do_lift = true then pure none else throw e) Q E s') s := by
    refine wpAny_bind (wpAny_setField_rec hI (by simp) fun h₁ hI₁ hs₁ => ?_)
    refine wpAny_bind ?_
    simp only [newExc, newTuple]
    refine wpAny_bind (wpAny_newObj_type ?_ (by size_fits))
    refine wpAny_bind (m := firstArgMember _ _) (wpAny_of_eq (a := Value.none) (by first | rfl | (simp only [firstArgMember]; rfl)) ?_)
    refine wpAny_newObj_type ?_ (by size_fits)
    simp only [raiseNew]
    refine wpAny_bind (wpAny_handled ?_)
    rw [show A.in1.handled = none from hh]
    refine wpAny_bind (wpAny_pure (wpAny_throw ?_))
    refine wpAny_bind (wpAny_isInstance (T := "StopIteration") (b := true) ⟨_, Heap.get?_push_size _ rfl, rfl⟩ isSubtype_stop ?_)
    exact wpAny_pure (h _ ((hs₁.extBut.push _).push _))
  unfold Builtin.«set_iterator.__next__»
  wp_walk
  refine wpAny_askSetting (wpAny_pure ?_)
  cases hb : w.params.followText "set-order" with
  | true =>
    rw [if_pos (show (⟨(model prog w).prog, (model prog w).w.params⟩ : Setting).params.followText "set-order" = true from hb)]
    rw [if_neg (by decide)]
    refine wpAny_bind (walk1 hb ho (wpAny_pure ?_))
    exact wpAny_mono key (fun _ _ q => q.elim) fun _ _ e => e
  | false =>
    rw [if_neg (show ¬ (⟨(model prog w).prog, (model prog w).w.params⟩ : Setting).params.followText "set-order" = true from by rw [show (⟨(model prog w).prog, (model prog w).w.params⟩ : Setting).params.followText "set-order" = false from hb]; decide)]
    have hl : ledW w = true := by unfold ledW; rw [hb]; rfl
    rw [if_neg (fun q => by rw [hl] at q; revert q; decide +kernel)]
    refine wpAny_bind (wpAny_of_eq (a := ()) (by rw [hl]; rfl) (wpAny_pure ?_))
    obtain rfl := hx2 hb
    have e1 : SetTable.below (setU (ledW w)).place ((2 : Nat) : Int).toNat = 1 := (by decide +kernel : SetTable.below (#[1] : Array Nat) 2 = 1)
    rw [e1]
    exact wpAny_mono key (fun _ _ q => q.elim) fun _ _ e => e
end
end Mine
end
section
open PySem PySem.W PyProof.Rows PySem.Calls
set_option Elab.async false
set_option maxRecDepth 100000
set_option maxHeartbeats 4000000
set_option linter.unusedVariables false
namespace Mine
open PyProof.Rows.LCg (NsObj lst lst_snoc ns_obj fr_but news_but)
theorem compTurn_set (elt target iter : Expr) (ifs : List Expr) (scope : Scope) (pos : Pos) (it acc : Value) (env : Env) :
    compTurn (.SetComp elt [⟨target, iter, ifs, 0⟩] scope pos) 0 it acc env = (do
      standAt iter.pos
      match ← pyNext it with
      | none => pure (.done .next)
      | some v =>
        letOwnedTupleGo target it v
        assign target env v
        let mut ok := true
        for c in ifs do
          if ok then ok ← isTrue c env (eval c env)
        if ok then
          (do let v ← eval elt env; standAt elt.pos; let _ ← call (.builtin "set.add") [acc, v])
        again (.compLoop (.SetComp elt [⟨target, iter, ifs, 0⟩] scope pos) 0 it acc env)) := by rfl
section
variable {prog : Program} {w : World} {A : Around} {E : Value → Shared → Prop} {s : Shared} {h₀ : Heap} {L : Addr} {m : Str → Option Value} {env : Env}
theorem codeAny_compStart_set {elt target iter : Expr} {ifs : List Expr} {rest : List Comprehension} {scope : Scope} {pos : Pos} {it acc : Value} {env : Env} {R : Result → Shared → Prop}
    (h0 : codeAny (model prog w) A (.compLoop (.SetComp elt (⟨target, iter, ifs, 0⟩ :: rest) scope pos) 0 it acc env) R s)
    (h : wpAny (model prog w) A (pyIter it) (fun it' s' => codeAny (model prog w) A (.compLoop (.SetComp elt (⟨target, iter, ifs, 0⟩ :: rest) scope pos) 0 it' acc env) R s')
      (notedBy (model prog w) A env fun x s' => R (.error x) s') s) :
    codeAny (model prog w) A (.compStart (.SetComp elt (⟨target, iter, ifs, 0⟩ :: rest) scope pos) 0 it acc env) R s := by
  refine codeAny_of_tree ?_
  show wpAny _ _ ((compStart (.SetComp elt (⟨target, iter, ifs, 0⟩ :: rest) scope pos) 0 it acc env).onRaise (fun x => do noteFrame x env; standAt theWindowsPlace)) _ _ s
  refine wpAny_notedAt ?_
  unfold compStart
  show wpAny _ _ (ask >>= _) _ _ s
  refine wpAny_bind (wpAny_askSetting (wpAny_ite ?_))
  split
  · first
      | exact wpAny_bind (wpAny_pure (wpAny_pure (And.intro rfl h0)))
      | exact wpAny_pure (And.intro rfl h0)
  · first
      | exact wpAny_bind (wpAny_rule (wpAny_bind (wpAny_standAt (wpAny_bind (wpAny_mono h (fun it' s' h' => wpAny_pure (And.intro rfl h')) fun _ _ x => x)))))
      | (refine wpAny_bind (wpAny_rule ?_); show wpAny _ _ (standAt iter.pos >>= _) _ _ s; exact wpAny_bind (wpAny_standAt (wpAny_bind (wpAny_mono h (fun it' s' h' => wpAny_pure (And.intro rfl h')) fun _ _ x => x))))
def sO (w : World) (ys : List Value) : Obj := match ys with | [] => set0 (ledW w) | _ => set1 (ledW w)
theorem new_set {Q : Value → Shared → Prop} (h : Q (.ref s.heap.objs.size) { s with heap := s.heap.push (set0 (ledW w)) }) : wpAny (model prog w) A (newSet (.type "set")) Q E s := by
  unfold newSet setsByText
  refine wpAny_bind (wpAny_bind (wpAny_askSetting (wpAny_pure ?_)))
  exact wpAny_newObj_type h
theorem add_at {a : Addr} {ys : List Value} {y : Value} {Q : Value → Shared → Prop} (hy : y = .bool true) (ho : s.heap.get? a = some (sO w ys)) (h : ∀ h', Heap.SameBut a s.heap h' → h'.get? a = some (sO w (ys ++ [y])) → Q .none { s with heap := h', toks := s.toks + 1 }) : wpAny (model prog w) A (call (.builtin "set.add") [.ref a, y]) Q E s := by
  subst hy
  cases ys with
  | nil => exact add_first ho h
  | cons x r => exact add_again ho (h s.heap (Heap.SameBut.refl ..) ho)
theorem comp_loopS {elt target iter : Expr} {ifs : List Expr} {scope : Scope} {pos : Pos} {it acc : Value} {env : Env} {R : Result → Shared → Prop} (I : Nat → Shared → Prop)
    (turn : ∀ n s, I n s → wpAny (model prog w) A (pyNext it) (fun r s₁ => match r with
      | none => R (.ok .next) s₁
      | some v => wpAny (model prog w) A (letOwnedTupleGo target it v) (fun _ s₀ => wpAny (model prog w) A (assign target env v) (fun _ s₂ =>
          wpAny (model prog w) A (tests ifs env) (fun ok s₃ =>
            if ok = true then wpAny (model prog w) A (eval elt env) (fun x s₄ =>
              wpAny (model prog w) A (call (.builtin "set.add") [acc, x]) (fun _ s₅ => ∃ m, m < n ∧ I m s₅) (notedBy (model prog w) A env fun e s' => R (.error e) s') s₄) (notedBy (model prog w) A env fun e s' => R (.error e) s') s₃
            else ∃ m, m < n ∧ I m s₃) (notedBy (model prog w) A env fun e s' => R (.error e) s') s₂)
          (notedBy (model prog w) A env fun e s' => R (.error e) s') s₀) (notedBy (model prog w) A env fun e s' => R (.error e) s') s₁) (notedBy (model prog w) A env fun e s' => R (.error e) s') s)
    (n : Nat) (h : I n s) : codeAny (model prog w) A (.compLoop (.SetComp elt [⟨target, iter, ifs, 0⟩] scope pos) 0 it acc env) R s := by
  refine codeAny_loop rfl I (fun n s hI => ?_) n h
  show wpAny _ A ((compTurn (.SetComp elt [⟨target, iter, ifs, 0⟩] scope pos) 0 it acc env).onRaise (fun x => do noteFrame x env; theTreesLotGoes x)) _ _ s
  refine wpAny_noted ?_
  rw [compTurn_set]
  refine wpAny_bind (wpAny_standAt (wpAny_bind (wpAny_mono (turn n s hI) (fun r s₁ h₁ => ?_) fun _ _ h' => h')))
  cases r with
  | none => exact wpAny_pure h₁
  | some v =>
    refine wpAny_bind (wpAny_mono h₁ (fun _ s₀ h₀' => ?_) fun _ _ h' => h')
    refine wpAny_bind (wpAny_mono h₀' (fun _ s₂ h₂ => wpAny_bind (wpAny_mono h₂ (fun ok s₃ h₃ => ?_) fun _ _ h' => h')) fun _ _ h' => h')
    cases ok with
    | false => exact wpAny_pure ⟨rfl, h₃⟩
    | true =>
      exact wpAny_bind (wpAny_bind (wpAny_mono h₃ (fun x s₄ h₄ => wpAny_bind (wpAny_standAt (wpAny_bind (wpAny_mono h₄ (fun _ s₅ h₅ => wpAny_pure (wpAny_pure ⟨rfl, h₅⟩)) fun _ _ h' => h')))) fun _ _ h' => h'))
/-- what a turn's element is asked in: ledger X ++ N', where X holds what the comprehension itself holds (at W) -/
theorem comp_blockS {elt target iter : Expr} {ifs : List Expr} {scope : Scope} {cl : List (Str × Addr)} {pos : Pos} {s₂ : Shared} {I : Addr} {fp wr : List Addr} {n : Nat} {P Md : Nat → Value → Heap → Prop} {St : Nat → Heap → Prop} {news : Led}
    {VP : Nat → (Str → Option Value) → Prop} {RR : Value → Addr → Result → Shared → Prop} (J : Nat → List Value → Led → Prop) (hJt : ∀ i ys N', J i ys N' → ∀ y ∈ ys, y = .bool true)
    (W : KTurns prog w A target I fp wr n P Md St) (hsz : n ≤ sizeLine) (hIo : ∀ i h, St i h → ∀ a ∈ wr, ∃ o, h.get? a = some o) (hself : ∀ s (Q : Value → Shared → Prop) (E : Value → Shared → Prop), St 0 s.heap → Q (.ref I) s → wpAny (model prog w) A (pyIter (.ref I)) Q E s)
    (hcell : ∀ y ∈ scope.names, y.2 ≠ .cell) (hkind : scope.kind = .function) (hst : St 0 s₂.heap) (hfp : ∀ b ∈ fp, b < s₂.heap.objs.size)
    (F : Fr h₀ L s₂.heap m) (N : News h₀ L s₂.heap news) (hLf : L ∉ fp) (hwr : ∀ b ∈ wr, h₀.get? b = none) (hnw : ∀ p ∈ news, p.1 ∉ wr) (j0 : J 0 [] news)
    (hasg : ∀ i v C (s : Shared) (Q : Unit → Shared → Prop) (E : Value → Shared → Prop) m', P i v s.heap → s.heap.Ns C m' → (∀ h' tk m'', h'.Ns C m'' → VP i m'' → (∀ c o, c ≠ C → s.heap.get? c = some o → h'.get? c = some o) → Q () { s with heap := h', toks := tk }) → wpAny (model prog w) A (assign target (compEnvC scope cl C env) v) Q E s)
    (turn : ∀ i ys N' X Wl C oC m' h tk (Q : Bool → Shared → Prop) (E' : Value → Shared → Prop), i < n → VP i m' → InTurn X Wl C oC m' N' → J i ys N' → Fr h₀ L h m → News h₀ L h (X ++ N') →
      (∀ ok h₂ tk₂, (ok = false → Fr h₀ L h₂ m ∧ ∃ N₃, News h₀ L h₂ N₃ ∧ Kept X Wl (J (i + 1) ys) N₃) →
        (ok = true → ∀ (Q₂ : Value → Shared → Prop), (∀ y h₃ tk₃ N₃, Fr h₀ L h₃ m → News h₀ L h₃ N₃ → Kept X Wl (J (i + 1) (ys ++ [y])) N₃ → Q₂ y { s₂ with heap := h₃, toks := tk₃ }) → wpAny (model prog w) A (eval elt (compEnvC scope cl C env)) Q₂ E' { s₂ with heap := h₂, toks := tk₂ }) →
        Q ok { s₂ with heap := h₂, toks := tk₂ }) →
      wpAny (model prog w) A (tests ifs (compEnvC scope cl C env)) Q E' { s₂ with heap := h, toks := tk })
    (hRR : ∀ D C h tk m' ys news', Fr h₀ L h m → News h₀ L h ((D, sO w ys) :: news') → (∀ p ∈ news', p.1 ≠ D) → h.Ns C m' → h₀.get? C = none → h₀.get? D = none → C ≠ L → D ≠ L → C ≠ D → (∀ p ∈ news', p.1 ≠ C) → J n ys news' → RR (.ref D) C (.ok .next) { s₂ with heap := h, toks := tk }) :
    wpAny (model prog w) A (newSet (.type "set")) (fun acc s₃ => wpAny (model prog w) A (newFunctionEnv scope env.globals cl [] env.qual none .none (some env)) (fun cenv s₄ =>
      codeAny (model prog w) A (.compStart (.SetComp elt [⟨target, iter, ifs, 0⟩] scope pos) 0 (.ref I) acc { cenv with scope := relabel scope env }) (RR acc cenv.locals) s₄) E s₃) E s₂ := by
  refine new_set (wpAny_newFunctionEnv hcell (by intro y hy; simp at hy) (fun h₁ hns₁ hsb₁ => ?_) hkind)
  dsimp only at hns₁ hsb₁ ⊢
  generalize hH2 : s₂.heap.push (set0 (ledW w)) = H2 at hns₁ hsb₁ ⊢
  have hC : H2.objs.size = s₂.heap.objs.size + 1 := by rw [← hH2, Heap.size_push]
  have hDC : s₂.heap.objs.size ≠ H2.objs.size := by rw [hC]; exact Nat.ne_of_lt (Nat.lt_succ_self _)
  have below : ∀ b, b < s₂.heap.objs.size → b ≠ H2.objs.size ∧ b ≠ s₂.heap.objs.size := fun b hb => ⟨by rw [hC]; exact Nat.ne_of_lt (Nat.lt_succ_of_lt hb), Nat.ne_of_lt hb⟩
  have hDf : s₂.heap.objs.size ∉ fp := fun hm => Nat.lt_irrefl _ (hfp _ hm)
  have hCf : H2.objs.size ∉ fp := fun hm => by have := hfp _ hm; rw [hC] at this; exact Nat.lt_irrefl _ (Nat.lt_of_succ_lt this)
  have old : ∀ b o, s₂.heap.get? b = some o → h₁.get? b = some o := fun b o e => hsb₁.extBut b o (below b (Heap.lt_size e)).1 (Heap.get?_push_of_some _ (hH2 ▸ Heap.get?_push_of_some _ e))
  have hacc : h₁.get? s₂.heap.objs.size = some (sO w []) := hsb₁.extBut _ _ hDC (Heap.get?_push_of_some _ (hH2 ▸ Heap.get?_push_size _ rfl))
  have hst₁ : St 0 h₁ := W.frame _ _ _ hst fun b _ o e => old b o e
  have fresh : ∀ a, s₂.heap.objs.size ≤ a → s₂.heap.get? a = none := fun a ha => by
    cases e : s₂.heap.get? a with
    | none => rfl
    | some o' => exact absurd (Heap.lt_size e) (Nat.not_lt.mpr ha)
  have fresh₀ : ∀ a, s₂.heap.objs.size ≤ a → h₀.get? a = none := fun a ha => by
    cases e : h₀.get? a with
    | none => rfl
    | some o' => have := F.keep a o' e; rw [fresh a ha] at this; cases this
  have hD₀ : h₀.get? s₂.heap.objs.size = none := fresh₀ _ (Nat.le_refl _)
  have hC₀ : h₀.get? H2.objs.size = none := fresh₀ _ (by rw [hC]; exact Nat.le_succ _)
  have hLlt : L < s₂.heap.objs.size := F.ns.lt
  have hDL : s₂.heap.objs.size ≠ L := Ne.symm (below L hLlt).2
  have hCL : H2.objs.size ≠ L := Ne.symm (below L hLlt).1
  have hDw : s₂.heap.objs.size ∉ wr := fun h => hDf (W.sub _ h)
  have hCw : H2.objs.size ∉ wr := fun h => hCf (W.sub _ h)
  have hLw : L ∉ wr := fun h => hLf (W.sub _ h)
  have oldw : ∀ b o, h₀.get? b = some o → b ∉ wr := fun b o e hb => by rw [hwr b hb] at e; cases e
  have hnW : ∀ p ∈ news, p.1 ∉ H2.objs.size :: s₂.heap.objs.size :: wr := fun p hp h => by
    have lt := below _ (Heap.lt_size (N p hp).1)
    rcases List.mem_cons.mp h with e | h
    · exact lt.1 e
    rcases List.mem_cons.mp h with e | h
    · exact lt.2 e
    · exact hnw p hp h
  have loop : ∀ s₃ : Shared, s₃ = { s₂ with heap := h₁, toks := s₂.toks + ([] : List (Str × Value)).length } →
      codeAny (model prog w) A (.compLoop (.SetComp elt [⟨target, iter, ifs, 0⟩] scope pos) 0 (.ref I) (.ref s₂.heap.objs.size) (compEnvC scope cl H2.objs.size env))
        (RR (.ref s₂.heap.objs.size) H2.objs.size) s₃ := by
    rintro s₃ rfl
    refine comp_loopS
      (fun k s' => ∃ h' tk i ys m' news', s' = { s₂ with heap := h', toks := tk } ∧ i ≤ n ∧ k = n + 1 - i ∧ ys.length ≤ i ∧ St i h' ∧ Fr h₀ L h' m ∧ h'.Ns H2.objs.size m' ∧ News h₀ L h' ((s₂.heap.objs.size, sO w ys) :: news') ∧
        (∀ p ∈ news', p.1 ∉ H2.objs.size :: s₂.heap.objs.size :: wr) ∧ J i ys news') ?_ (n + 1)
      ⟨h₁, _, 0, [], _, news, rfl, Nat.zero_le _, rfl, Nat.zero_le _, hst₁, F.keeps old, hns₁, fun p hp => ?_, hnW, j0⟩
    · rintro k s' ⟨h', tk, i, ys, m', news', rfl, hi, rfl, hyl, hst', F', hn', N', off', hJ⟩
      have offw : ∀ p ∈ news', p.1 ∉ wr := fun p hp h => off' p hp (List.mem_cons_of_mem _ (List.mem_cons_of_mem _ h))
      have offC : ∀ p ∈ news', p.1 ≠ H2.objs.size := fun p hp h => off' p hp (h ▸ List.mem_cons_self)
      have offD : ∀ p ∈ news', p.1 ≠ s₂.heap.objs.size := fun p hp h => off' p hp (h ▸ List.mem_cons_of_mem _ List.mem_cons_self)
      have nxt : ∀ h₁ : Heap, (∀ b o, b ∉ wr → h'.get? b = some o → h₁.get? b = some o) → Fr h₀ L h₁ m ∧ News h₀ L h₁ ((s₂.heap.objs.size, sO w ys) :: news') ∧ h₁.Ns H2.objs.size m' := fun h₁ hk₁ =>
        ⟨⟨F'.ns.at' fun o e => hk₁ _ o hLw e, fun b o e => hk₁ b o (oldw b o e) (F'.keep b o e), F'.above⟩, fun p hp => ⟨hk₁ _ _ (by
          rcases List.mem_cons.mp hp with rfl | hp
          · exact hDw
          · exact offw p hp) (N' p hp).1, (N' p hp).2⟩, hn'.at' fun o e => hk₁ _ o hCw e⟩
      by_cases hlt : i < n
      · refine W.item i _ _ _ hlt hst' fun v h₂ tk₂ hMd hk₂ => ?_
        refine W.go i v _ _ _ hMd fun h₃ hP hst₃ hk₃ => ?_
        obtain ⟨F₃, N₃, hn₃⟩ := nxt h₃ fun b o hb x => hk₃ b o hb (hk₂ b o hb x)
        refine hasg i v _ _ _ _ _ hP hn₃ fun h₄ tk₄ m₄ hn₄ hV hk₄ => ?_
        have hst₄ : St (i + 1) h₄ := W.frame _ _ _ hst₃ fun b hb o e => hk₄ b o (fun q => hCf (q ▸ hb)) e
        obtain ⟨oC, heC, hoC⟩ := ns_obj hn₄
        have F₄ : Fr h₀ L h₄ m := ⟨F₃.ns.at' fun o e => hk₄ _ o (Ne.symm hCL) e, fun b o e => hk₄ b o (fun q => by rw [q, hC₀] at e; cases e) (F₃.keep b o e), F₃.above⟩
        have Nown : News h₀ L h₄ (PyProof.Rows.ownOf h₀ fp h₄) := news_ownOf hLf
        have N₄ : News h₀ L h₄ (((H2.objs.size, oC) :: (s₂.heap.objs.size, sO w ys) :: PyProof.Rows.ownOf h₀ fp h₄) ++ news') := fun p hp => by
          rcases List.mem_append.mp hp with hp | hp
          · rcases List.mem_cons.mp hp with rfl | hp
            · exact ⟨heC, hCL, hC₀⟩
            rcases List.mem_cons.mp hp with rfl | hp
            · have z := N₃ _ (List.mem_cons_self)
              exact ⟨hk₄ _ _ hDC z.1, z.2⟩
            · exact Nown p hp
          · have z := N₃ p (List.mem_cons_of_mem _ hp)
            exact ⟨hk₄ _ _ (offC p hp) z.1, z.2⟩
        have IT : InTurn ((H2.objs.size, oC) :: (s₂.heap.objs.size, sO w ys) :: PyProof.Rows.ownOf h₀ fp h₄) (H2.objs.size :: s₂.heap.objs.size :: wr) H2.objs.size oC m₄ news' := ⟨hoC, List.mem_cons_self, fun a ha => by
          rcases List.mem_cons.mp ha with rfl | ha
          · exact ⟨_, List.mem_cons_self⟩
          rcases List.mem_cons.mp ha with rfl | ha
          · exact ⟨_, List.mem_cons_of_mem _ List.mem_cons_self⟩
          · obtain ⟨o, ho⟩ := hIo _ _ hst₄ a ha
            exact ⟨o, List.mem_cons_of_mem _ (List.mem_cons_of_mem _ (mem_ownOf (W.sub a ha) (hwr a ha) ho))⟩, off'⟩
        -- the state behind a turn
        have back : ∀ h₅ N₅ (J' : Led → Prop), Fr h₀ L h₅ m → News h₀ L h₅ N₅ → Kept ((H2.objs.size, oC) :: (s₂.heap.objs.size, sO w ys) :: PyProof.Rows.ownOf h₀ fp h₄) (H2.objs.size :: s₂.heap.objs.size :: wr) J' N₅ →
            ∃ N'', J' N'' ∧ (∀ p ∈ N'', p.1 ∉ H2.objs.size :: s₂.heap.objs.size :: wr) ∧ News h₀ L h₅ ((s₂.heap.objs.size, sO w ys) :: N'') ∧ h₅.Ns H2.objs.size m₄ ∧ St (i + 1) h₅ := by
          rintro h₅ N₅ J' F₅ N₅' ⟨N'', k1, k2, k3, k4⟩
          refine ⟨N'', k4, k3, fun p hp => ?_, hoC.ns (N₅' _ (k1 _ List.mem_cons_self)).1, ?_⟩
          · rcases List.mem_cons.mp hp with rfl | hp
            · exact N₅' _ (k1 _ (List.mem_cons_of_mem _ List.mem_cons_self))
            · exact N₅' _ (k2 _ hp)
          · refine W.frame _ _ _ hst₄ fun b hb o e => ?_
            cases hn : h₀.get? b with
            | some o₀ =>
              have : o₀ = o := by have q := F₄.keep b o₀ hn; rw [e] at q; exact (Option.some.inj q).symm
              exact this ▸ F₅.keep b o₀ hn
            | none => exact (N₅' _ (k1 _ (List.mem_cons_of_mem _ (List.mem_cons_of_mem _ (mem_ownOf hb hn e))))).1
        refine turn i ys news' _ _ _ _ _ h₄ _ _ _ hlt hV IT hJ F₄ N₄ fun ok h₅ tk₅ hno hyes => ?_
        cases ok with
        | false =>
          obtain ⟨F₅, N₅, N₅', K⟩ := hno rfl
          obtain ⟨N'', k4, k3, N₆, hn₆, st₆⟩ := back h₅ N₅ _ F₅ N₅' K
          exact ⟨n + 1 - (i + 1), by omega, h₅, tk₅, i + 1, ys, _, N'', rfl, hlt, rfl, by omega, st₆, F₅, hn₆, N₆, k3, k4⟩
        | true =>
          refine hyes rfl _ fun y h₆ tk₆ N₆ F₆ N₆' K => ?_
          obtain ⟨N'', k4, k3, N₇, hn₇, st₇⟩ := back h₆ N₆ _ F₆ N₆' K
          refine add_at (hJt _ _ _ k4 y (List.mem_append_right _ List.mem_cons_self)) (N₇ _ List.mem_cons_self).1 fun h₈ hs₈ hD₈ => ?_
          refine ⟨n + 1 - (i + 1), by omega, h₈, tk₆ + 1, i + 1, ys ++ [y], _, N'', rfl, hlt, rfl, by rw [List.length_append, List.length_singleton]; omega, W.frame _ _ _ st₇ fun b hb o e => hs₈.extBut b o (fun q => hDf (q ▸ hb)) e, F₆.change hs₈ hDL hD₀,
            hn₇.sameBut hs₈ (Ne.symm hDC), fun p hp => ?_, k3, k4⟩
          rcases List.mem_cons.mp hp with rfl | hp
          · exact ⟨hD₈, hDL, hD₀⟩
          · have z := N₇ p (List.mem_cons_of_mem _ hp)
            exact ⟨hs₈.extBut _ _ (fun q => k3 p hp (q ▸ List.mem_cons_of_mem _ List.mem_cons_self)) z.1, z.2⟩
      · obtain rfl : i = n := Nat.le_antisymm hi (Nat.not_lt.mp hlt)
        refine W.done _ _ _ hst' fun h₂ tk₂ hk₂ => ?_
        obtain ⟨F₂, N₂, hn₂⟩ := nxt h₂ hk₂
        exact hRR _ _ h₂ tk₂ _ ys news' F₂ N₂ offD hn₂ hC₀ hD₀ hCL hDL (Ne.symm hDC) offC hJ
    · rcases List.mem_cons.mp hp with rfl | hp
      · exact ⟨hacc, hDL, hD₀⟩
      · exact ⟨old _ _ (N p hp).1, (N p hp).2⟩
  exact codeAny_compStart_set (loop _ rfl) (hself _ _ _ hst₁ (loop _ rfl))
end
end Mine
end
section
open PySem PySem.W PyProof.Rows PySem.Calls
set_option Elab.async false
set_option maxRecDepth 100000
set_option maxHeartbeats 4000000
set_option linter.unusedVariables false
namespace Mine
section
variable {prog : Program} {w : World} {A : Around} {E : Value → Shared → Prop} {s : Shared}
theorem unpack1 {D : Addr} {g : Value → Sem Unit} {Q : Unit → Shared → Prop} (hh : A.handled = none) (ho : s.heap.get? D = some (set1 (ledW w))) (h : ∀ h', Heap.ExtBut s.heap.objs.size s.heap h' → wpAny (model prog w) A (assignInOrder [g] [.bool true]) Q E { s with heap := h' }) :
    wpAny (model prog w) A (unpack (.ref D) [(false, g)]) Q E s := by
  have hT : s.TypeIs (.ref D) "set" := ⟨_, ho, rfl⟩
  have hlt : D ≠ s.heap.objs.size := Nat.ne_of_lt (Heap.lt_size ho)
  unfold unpack
  refine wpAny_bind (wpAny_holding ?_)
  unfold unpackItems
  refine wpAny_bind ?_
  unfold notIterableAtAll
  refine wpAny_bind (wpAny_specialOf hT PySem.F.slot_set_iter.lookup ?_)
  refine wpAny_pure ?_
  simp only [Bool.false_eq_true, if_false]
  refine wpAny_bind (wpAny_holding (set_iter ho ?_))
  show wpAny _ _ (holding _ (draw _ 1) >>= _) _ _ _
  refine wpAny_bind (wpAny_holding ?_)
  show wpAny _ _ (pyNext _ >>= _) _ _ _
  refine wpAny_bind (sit_next1 (Heap.get?_push_of_some _ ho) (Heap.get?_push_size _ rfl) fun h₁ x hx hx2 hI₁ hs₁ => ?_)
  refine wpAny_bind (wpAny_holding (wpAny_pure (wpAny_pure ?_)))
  have ho₁ := hs₁.extBut D _ hlt (Heap.get?_push_of_some (sitO D 0 0) ho)
  rw [if_neg (by simp)]
  refine wpAny_bind (wpAny_holding (sit_next2 (x := x) hh ho₁ hI₁ hx hx2 fun h₂ he₂ => ?_))
  simp only [Option.isSome_none, Bool.false_eq_true, if_false]
  refine wpAny_pure (h h₂ fun b o hb e => he₂ b o hb (hs₁.extBut b o hb (Heap.get?_push_of_some _ e)))
end
theorem pe_sc {e c s p} : PE (.SetComp e c s p) := ⟨fun _ _ => rfl, fun _ _ => rfl, fun _ => rfl, fun _ _ => rfl⟩
theorem eval_SetComp (elt gens scope pos) (env : Env) : eval (.SetComp elt gens scope pos) env = comprehension (.SetComp elt gens scope pos) scope env (firstIterPos gens pos) (newSet (.type "set")) (firstAsync gens) (firstIter gens env) := rfl
section
variable {f : Fx} {b : Binds} {N : Led} {en : Env}
theorem comp_coreS {elt tg iter : Expr} {ifs : List Expr} {scope : Scope} {cl : List (Str × Addr)} {pos : Pos} {n : Nat} {P : Nat → Value → Heap → Prop} {Sa : List Addr} {VP : Nat → (Str → Option Value) → Prop} {use : Option (Value → Sem Unit)} {Q : Value → Shared → Prop} {E : Value → Shared → Prop} {s : Shared} {p2 : Pos} (J : Nat → List Value → Led → Prop) (hJt : ∀ i ys N', J i ys N' → ∀ y ∈ ys, y = .bool true)
    (src : Src f b N en tg iter n P Sa (J 0 [])) (hf : ∀ x, foldedSetIterable iter en x = pure x) (hclos : closureFor scope en = pure cl) (hc : cS scope = true) (hz : n ≤ 100000)
    (tk : ∀ C, Takes f tg (compEnvC scope cl C en) P VP)
    (turn : ∀ i ys N' X W C oC m, i < n → VP i m → InTurn X W C oC m N' → J i ys N' → CTurn f b (X ++ N') ifs elt (compEnvC scope cl C en) (Kept X W (J (i + 1) ys)) (fun y => Kept X W (J (i + 1) (ys ++ [y]))))
    (ok : f.Ok) (F₀ : f.F s.heap b) (M₀ : f.N s.heap N)
    (fin : ∀ D C h tk m' ys N', f.F h b → f.N h ((D, sO f.c.w ys) :: N') → (∀ p ∈ N', p.1 ≠ D) → h.Ns C m' → f.c.g.get? C = none → f.c.g.get? D = none → C ≠ f.c.L → D ≠ f.c.L → C ≠ D → (∀ p ∈ N', p.1 ≠ C) → J n ys N' → compPost (model PP f.c.w) f.A E use Q (.ref D) C (.ok .next) { s with heap := h, toks := tk }) :
    f.Wp (comprehension (.SetComp elt [⟨tg, iter, ifs, 0⟩] scope pos) scope en p2 (newSet (.type "set")) false (eval iter en) use) Q E s := by
  obtain ⟨ck, cc, cn⟩ := cS_ok hc
  refine wpAny_comprehension_free (use := use) rfl hf hclos ck cn (src _ _ _ ok F₀ M₀ fun it h tk₁ N₁ F M I j0 => ?_)
  obtain ⟨I, fp, wr, Md, St, rfl, W, hIo, hself, hst, hfp, hLf, hwr, hnw, -⟩ := I
  refine comp_blockS (L := f.c.L) (VP := VP) J hJt W (Nat.le_trans hz (by rw [sizeLine_eq]; exact Nat.le_of_ble_eq_true rfl)) hIo hself cc ck hst hfp F M hLf hwr hnw j0 (fun i v C s Q E m' hP hn q => tk C i v C s Q E m' hP hn q) ?_ ?_
  · intro i ys N' X Wl C oC m' h tk₂ Q₂ E' hi hV IT hJ F₁ M₁ q
    refine turn i ys N' X Wl C oC m' hi hV IT hJ _ _ _ ok F₁ M₁ fun okb h₂ tk₃ N₃ F₂ M₂ r => ?_
    exact q okb h₂ tk₃ (fun e => ⟨F₂, N₃, M₂, r.1 e⟩) fun e Q₃ q₃ => r.2 e _ _ _ ok F₂ M₂ fun y h₃ tk₄ N₄ F₃ M₃ r₃ => q₃ y h₃ tk₄ N₄ F₃ M₃ r₃
  · intro D C h tk₂ m' ys N' F₁ M₁ offD hn hC₀ hD₀ hCL hDL hCD offC j
    exact fin D C h tk₂ m' ys N' F₁ M₁ offD hn hC₀ hD₀ hCL hDL hCD offC j
theorem Ev.scomp {elt tg iter : Expr} {ifs : List Expr} {scope : Scope} {cl : List (Str × Addr)} {pos : Pos} {n : Nat} {P : Nat → Value → Heap → Prop} {Sa : List Addr} {VP : Nat → (Str → Option Value) → Prop} {R : Value → Led → Prop} (J : Nat → List Value → Led → Prop) (hJt : ∀ i ys N', J i ys N' → ∀ y ∈ ys, y = .bool true)
    (src : Src f b N en tg iter n P Sa (J 0 [])) (tk : ∀ C, Takes f tg (compEnvC scope cl C en) P VP) (hz : n ≤ 100000)
    (turn : ∀ i ys N' X W C oC m, i < n → VP i m → InTurn X W C oC m N' → J i ys N' → CTurn f b (X ++ N') ifs elt (compEnvC scope cl C en) (Kept X W (J (i + 1) ys)) (fun y => Kept X W (J (i + 1) (ys ++ [y]))))
    (done : ∀ D ys N', (∀ p ∈ N', p.1 ≠ D) → J n ys N' → R (.ref D) ((D, sO f.c.w ys) :: N'))
    (hclos : closureFor scope en = pure cl) (hc : cS scope = true) (hf : ∀ x, foldedSetIterable iter en x = pure x) : Ev f en b N (.SetComp elt [⟨tg, iter, ifs, 0⟩] scope pos) R := by
  refine ⟨pe_sc, fun s Q E ok F M q => ?_⟩
  show f.Wp (eval _ _) _ _ _
  rw [Fx.Wp, eval_SetComp]
  refine comp_coreS (use := none) J hJt src hf hclos hc hz tk turn ok F M fun D C h tk m' ys N' F' N'' o1 hn hC₀ hD₀ hCL hDL hCD offC j => ?_
  refine ⟨m', hn, fun h'' hs'' => q _ _ _ _ (Fr.change F' hs'' hCL hC₀) (fun p hp => ?_) (done D ys N' o1 j)⟩
  refine ⟨hs''.extBut _ _ ?_ (N'' p hp).1, (N'' p hp).2⟩
  rcases List.mem_cons.mp hp with rfl | hp
  · exact Ne.symm hCD
  · exact offC p hp
/-- x, = a set of one -/
theorem Exs.asSet {x : Str} {px tp pos : Pos} {k : Nat} {e : Expr} {rest : List Stmt} {K : Flow → Binds → Led → Prop} {R : Led → Prop} (h : Ev f f.env b N e (fun v N' => ∃ D, v = .ref D ∧ (D, set1 (ledW f.c.w)) ∈ N' ∧ R N')) (kk : ∀ N', R N' → Exs f ((x, some (.bool true)) :: b) N' rest K)
    (hs : swapsWithSole [.Tuple [.Name x px] k tp] e pos.line f.env = pure false) (hw : swappedStores [.Tuple [.Name x px] k tp] e f.env = pure none) (l : lB f.cs x .local = true) : Exs f b N (.Assign [.Tuple [.Name x px] k tp] e pos :: rest) K := by
  refine Exs.cons fun s Q E ok F M q => ?_
  show f.Wp (exec _ _) _ _ _
  rw [Fx.Wp, arm_exec_Assign, hs]
  refine wpAny_bind (wpAny_standAt (wpAny_bind (wpAny_pure ?_)))
  rw [if_neg (by decide)]
  refine wpAny_bind (h.jd s _ _ ok F M fun v hp tk N' F' M' r => ?_)
  obtain ⟨D, rfl, hD, hR⟩ := r
  rw [hw]
  refine wpAny_bind (wpAny_pure ?_)
  show f.Wp (do assignAll (.ref D) [assign (.Tuple [.Name x px] k tp) f.env]; pure Flow.next) _ _ _
  refine wpAny_bind ?_
  show f.Wp (assign (.Tuple [.Name x px] k tp) f.env (.ref D)) _ _ _
  rw [Fx.Wp, arm_assign_Tuple]
  refine wpAny_bind (wpAny_standAt ?_)
  refine unpack1 rfl (M' _ hD).1 fun h' he => ?_
  have F2 : f.F h' b := ⟨F'.ns.at' fun o e => he _ o (Nat.ne_of_lt F'.ns.lt) e, fun c o e => he c o (Nat.ne_of_lt (Heap.lt_size (F'.keep _ _ e))) (F'.keep _ _ e), F'.above⟩
  have M2 : f.N h' N' := fun p hp => ⟨he _ _ (Nat.ne_of_lt (Heap.lt_size (M' p hp).1)) (M' p hp).1, (M' p hp).2⟩
  refine assignInOrder_cons (assign_Name (storeX_L F2 M2 (fun h₂ F₃ M₃ => ?_) (lB_ok l).1 (lB_ok l).2.1))
  exact assignInOrder_nil (wpAny_pure (q _ _ _ _ _ (put_frw F₃) M₃ (kk N' hR)))
end
end Mine
end
section
open PySem PySem.W PyProof.Rows PySem.Calls
open AutoSeq1 (wpAny_loadPart')
open PySem.MeetsSeq3 (plain_eq_loop entry_eq_loop)
set_option Elab.async false
set_option maxRecDepth 100000
set_option maxHeartbeats 4000000
set_option linter.unusedVariables false
namespace Mine
/-- xs < ys, as lists of texts are compared -/
def ltL : List Str → List Str → Bool
  | _, [] => false
  | [], _ :: _ => true
  | x :: xs, y :: ys => if x == y then ltL xs ys else decide (x.cps.toList < y.cps.toList)
def gtL (xs ys : List Str) : Bool := match xs, ys with
  | [], _ => false
  | _ :: _, [] => true
  | x :: xs, y :: ys => if x == y then gtL xs ys else decide (y.cps.toList < x.cps.toList)
theorem rc_str_eq (A : Around) (s : Shared) (x y : Str) (t u : Tok) : SeqAt.EqAt A s (.str x t) (.str y u) (x == y) := SeqAt.EqAt.str_str x t y u

theorem lt_loop (l b : Addr) (its its2 : Array Value) (n n2 : Nat) (xs ys : List Str) (hx : StrsAre its.toList xs) (hy : StrsAre its2.toList ys) (k : Nat) :
    ∀ i : Nat, xs.length - i = k → i ≤ xs.length → i ≤ ys.length → Meets (Builtin.«list.__eq__.loop» ⟨[.ref l, .ref b, rawInt i, rawInt 0], []⟩)
      (fun A R s => s.heap.get? l = some (W.listOf its n) ∧ s.heap.get? b = some (W.listOf its2 n2) ∧ R (.ok (.ret (.bool (ltL (xs.drop i) (ys.drop i))))) s) := by
  have lx : its.size = xs.length := by rw [← strs_len hx]; simp
  have ly : its2.size = ys.length := by rw [← strs_len hy]; simp
  induction k with
  | zero =>
    intro i hk hi1 hi2 prog w A R s h
    obtain ⟨hp, g, d, tk, os⟩ := s; obtain ⟨hl, hb, h⟩ := h
    have e1 : its[((i : Nat) : Int).toNat]? = none := by simp; omega
    have ed : xs.drop i = [] := by simp; omega
    wp_walk using wpAny_loadPart' hl, wpAny_loadPart' hb
    rw [e1]
    wp_walk using wpAny_loadPart' hl, wpAny_loadPart' hb
    show R (.ok (.ret (.bool (decide (its.size < its2.size))))) _
    have : decide (its.size < its2.size) = ltL (xs.drop i) (ys.drop i) := by
      rw [ed, lx, ly]
      cases hd : ys.drop i with
      | nil => have := congrArg List.length hd; simp at this; simp [ltL]; omega
      | cons y r => have := congrArg List.length hd; simp at this; simp [ltL]; omega
    rw [this]; exact h
  | succ k ih =>
    intro i hk hi1 hi2 prog w A R s h
    obtain ⟨hp, g, d, tk, os⟩ := s; obtain ⟨hl, hb, h⟩ := h
    have hlt : i < xs.length := by omega
    obtain ⟨t, ev⟩ := strs_at hx (List.getElem?_eq_getElem hlt)
    have e1 : its[((i : Nat) : Int).toNat]? = some (.str xs[i] t) := Array.getElem?_toList.symm.trans ev
    have ed : xs.drop i = xs[i] :: xs.drop (i + 1) := List.drop_eq_getElem_cons hlt
    by_cases hlt2 : i < ys.length
    · obtain ⟨u, ev2⟩ := strs_at hy (List.getElem?_eq_getElem hlt2)
      have e2 : its2[((i : Nat) : Int).toNat]? = some (.str ys[i] u) := Array.getElem?_toList.symm.trans ev2
      have ed2 : ys.drop i = ys[i] :: ys.drop (i + 1) := List.drop_eq_getElem_cons hlt2
      have hc : ((i : Int) + 1) = ((i + 1 : Nat) : Int) := by push_cast; rfl
      rw [ed, ed2, ltL] at h
      wp_walk using wpAny_loadPart' hl, wpAny_loadPart' hb
      rw [e1, e2]
      refine wpAny_bind (rc_str_eq _ _ _ _ t u prog w _ _ ?_)
      cases hq : xs[i] == ys[i] with
      | true =>
        rw [hq] at h
        wp_walk
        rw [hc]
        exact ⟨plainId_quiet plain_eq_loop _, codeAny_builtin entry_eq_loop (by
          rw [Around.under_plainId plain_eq_loop _]
          exact ih (i + 1) (by omega) (by omega) (by omega) prog w A R _ ⟨hl, hb, by rw [if_pos rfl] at h; exact h⟩)⟩
      | false =>
        rw [hq] at h
        wp_walk using wpAny_loadPart' hl, wpAny_loadPart' hb
        rw [e1, e2]
        refine wpAny_bind ?_
        refine PyProof.Rows.lt_str ?_
        refine wpAny_pure ?_
        rw [if_neg (by decide)] at h
        exact h
    · have e2 : its2[((i : Nat) : Int).toNat]? = none := by simp; omega
      have ed2 : ys.drop i = [] := by simp; omega
      wp_walk using wpAny_loadPart' hl, wpAny_loadPart' hb
      rw [e1, e2]
      wp_walk using wpAny_loadPart' hl, wpAny_loadPart' hb
      show R (.ok (.ret (.bool (decide (its.size < its2.size))))) _
      have : decide (its.size < its2.size) = ltL (xs.drop i) (ys.drop i) := by
        rw [ed, ed2, lx, ly]
        simp [ltL]; omega
      rw [this]; exact h
theorem lt_at (l b : Addr) (its its2 : Array Value) (n n2 : Nat) (xs ys : List Str) (hx : StrsAre its.toList xs) (hy : StrsAre its2.toList ys) :
    Meets (Builtin.«list.__lt__» ⟨[.ref l, .ref b], []⟩)
      (fun A R s => s.heap.get? l = some (W.listOf its n) ∧ s.heap.get? b = some (W.listOf its2 n2) ∧ R (.ok (.ret (.bool (ltL xs ys)))) s) := by
  intro prog w A R s h
  obtain ⟨hp, g, d, tk, os⟩ := s; obtain ⟨hl, hb, h⟩ := h
  have f3 := AutoSeq1.sub_list_list
  wp_walk using wpAny_loadPart' hl, wpAny_loadPart' hb
  exact ⟨plainId_quiet plain_eq_loop _, codeAny_builtin entry_eq_loop (by
    rw [Around.under_plainId plain_eq_loop _]
    exact lt_loop l b its its2 n n2 xs ys hx hy _ 0 rfl (Nat.zero_le _) (Nat.zero_le _) prog w A R _ ⟨hl, hb, by simpa using h⟩)⟩
theorem rc_lt {prog : Program} {w : World} {A : Around} {E : Value → Shared → Prop} {s : Shared} {l b : Addr} {its its2 : Array Value} {n n2 : Nat} {xs ys : List Str} {Q : Value → Shared → Prop}
    (hl : s.heap.get? l = some (W.listOf its n)) (hb : s.heap.get? b = some (W.listOf its2 n2)) (hx : StrsAre its.toList xs) (hy : StrsAre its2.toList ys) (hu : A.units < cLine) (h : Q (.bool (ltL xs ys)) s) :
    wpAny (model prog w) A (richCompare .Lt (.ref l) (.ref b)) Q E s :=
  richCompare_meets_room (op := .Lt) ⟨_, hl, rfl⟩ ⟨_, hb, rfl⟩ F.slot_list_lt F.entry_list_lt (F.args_list_lt_2 _ _) (lt_at l b its its2 n n2 xs ys hx hy)
    ⟨hl, hb, show Value.bool (ltL xs ys) ≠ Value.notImplemented ∧ Q (.bool (ltL xs ys)) s from ⟨(fun x => nomatch x), h⟩⟩ hu

theorem gt_loop (l b : Addr) (its its2 : Array Value) (n n2 : Nat) (xs ys : List Str) (hx : StrsAre its.toList xs) (hy : StrsAre its2.toList ys) (k : Nat) :
    ∀ i : Nat, xs.length - i = k → i ≤ xs.length → i ≤ ys.length → Meets (Builtin.«list.__eq__.loop» ⟨[.ref l, .ref b, rawInt i, rawInt 4], []⟩)
      (fun A R s => s.heap.get? l = some (W.listOf its n) ∧ s.heap.get? b = some (W.listOf its2 n2) ∧ R (.ok (.ret (.bool (gtL (xs.drop i) (ys.drop i))))) s) := by
  have lx : its.size = xs.length := by rw [← strs_len hx]; simp
  have ly : its2.size = ys.length := by rw [← strs_len hy]; simp
  induction k with
  | zero =>
    intro i hk hi1 hi2 prog w A R s h
    obtain ⟨hp, g, d, tk, os⟩ := s; obtain ⟨hl, hb, h⟩ := h
    have e1 : its[((i : Nat) : Int).toNat]? = none := by simp; omega
    have ed : xs.drop i = [] := by simp; omega
    wp_walk using wpAny_loadPart' hl, wpAny_loadPart' hb
    rw [e1]
    wp_walk using wpAny_loadPart' hl, wpAny_loadPart' hb
    show R (.ok (.ret (.bool (decide (its.size > its2.size))))) _
    have : decide (its.size > its2.size) = gtL (xs.drop i) (ys.drop i) := by
      rw [ed, lx, ly]
      cases hd : ys.drop i with
      | nil => have := congrArg List.length hd; simp at this; simp [gtL]; omega
      | cons y r => have := congrArg List.length hd; simp at this; simp [gtL]; omega
    rw [this]; exact h
  | succ k ih =>
    intro i hk hi1 hi2 prog w A R s h
    obtain ⟨hp, g, d, tk, os⟩ := s; obtain ⟨hl, hb, h⟩ := h
    have hlt : i < xs.length := by omega
    obtain ⟨t, ev⟩ := strs_at hx (List.getElem?_eq_getElem hlt)
    have e1 : its[((i : Nat) : Int).toNat]? = some (.str xs[i] t) := Array.getElem?_toList.symm.trans ev
    have ed : xs.drop i = xs[i] :: xs.drop (i + 1) := List.drop_eq_getElem_cons hlt
    by_cases hlt2 : i < ys.length
    · obtain ⟨u, ev2⟩ := strs_at hy (List.getElem?_eq_getElem hlt2)
      have e2 : its2[((i : Nat) : Int).toNat]? = some (.str ys[i] u) := Array.getElem?_toList.symm.trans ev2
      have ed2 : ys.drop i = ys[i] :: ys.drop (i + 1) := List.drop_eq_getElem_cons hlt2
      have hc : ((i : Int) + 1) = ((i + 1 : Nat) : Int) := by push_cast; rfl
      rw [ed, ed2, gtL] at h
      wp_walk using wpAny_loadPart' hl, wpAny_loadPart' hb
      rw [e1, e2]
      refine wpAny_bind (rc_str_eq _ _ _ _ t u prog w _ _ ?_)
      cases hq : xs[i] == ys[i] with
      | true =>
        rw [hq] at h
        wp_walk
        rw [hc]
        exact ⟨plainId_quiet plain_eq_loop _, codeAny_builtin entry_eq_loop (by
          rw [Around.under_plainId plain_eq_loop _]
          exact ih (i + 1) (by omega) (by omega) (by omega) prog w A R _ ⟨hl, hb, by rw [if_pos rfl] at h; exact h⟩)⟩
      | false =>
        rw [hq] at h
        wp_walk using wpAny_loadPart' hl, wpAny_loadPart' hb
        rw [e1, e2]
        refine wpAny_bind ?_
        refine PySem.P.gt_str ?_
        refine wpAny_pure ?_
        rw [if_neg (by decide)] at h
        exact h
    · have e2 : its2[((i : Nat) : Int).toNat]? = none := by simp; omega
      have ed2 : ys.drop i = [] := by simp; omega
      wp_walk using wpAny_loadPart' hl, wpAny_loadPart' hb
      rw [e1, e2]
      wp_walk using wpAny_loadPart' hl, wpAny_loadPart' hb
      show R (.ok (.ret (.bool (decide (its.size > its2.size))))) _
      have : decide (its.size > its2.size) = gtL (xs.drop i) (ys.drop i) := by
        rw [ed, ed2, lx, ly]
        simp [gtL]; omega
      rw [this]; exact h
theorem gt_at (l b : Addr) (its its2 : Array Value) (n n2 : Nat) (xs ys : List Str) (hx : StrsAre its.toList xs) (hy : StrsAre its2.toList ys) :
    Meets (Builtin.«list.__gt__» ⟨[.ref l, .ref b], []⟩)
      (fun A R s => s.heap.get? l = some (W.listOf its n) ∧ s.heap.get? b = some (W.listOf its2 n2) ∧ R (.ok (.ret (.bool (gtL xs ys)))) s) := by
  intro prog w A R s h
  obtain ⟨hp, g, d, tk, os⟩ := s; obtain ⟨hl, hb, h⟩ := h
  have f3 := AutoSeq1.sub_list_list
  wp_walk using wpAny_loadPart' hl, wpAny_loadPart' hb
  exact ⟨plainId_quiet plain_eq_loop _, codeAny_builtin entry_eq_loop (by
    rw [Around.under_plainId plain_eq_loop _]
    exact gt_loop l b its its2 n n2 xs ys hx hy _ 0 rfl (Nat.zero_le _) (Nat.zero_le _) prog w A R _ ⟨hl, hb, by simpa using h⟩)⟩
theorem rc_gt {prog : Program} {w : World} {A : Around} {E : Value → Shared → Prop} {s : Shared} {l b : Addr} {its its2 : Array Value} {n n2 : Nat} {xs ys : List Str} {Q : Value → Shared → Prop}
    (hl : s.heap.get? l = some (W.listOf its n)) (hb : s.heap.get? b = some (W.listOf its2 n2)) (hx : StrsAre its.toList xs) (hy : StrsAre its2.toList ys) (hu : A.units < cLine) (h : Q (.bool (gtL xs ys)) s) :
    wpAny (model prog w) A (richCompare .Gt (.ref l) (.ref b)) Q E s :=
  richCompare_meets_room (op := .Gt) ⟨_, hl, rfl⟩ ⟨_, hb, rfl⟩ F.slot_list_gt F.entry_list_gt (F.args_list_gt_2 _ _) (gt_at l b its its2 n n2 xs ys hx hy)
    ⟨hl, hb, show Value.bool (gtL xs ys) ≠ Value.notImplemented ∧ Q (.bool (gtL xs ys)) s from ⟨(fun x => nomatch x), h⟩⟩ hu
end Mine
end
section
open PySem PySem.W PyProof.Rows PySem.Calls
set_option Elab.async false
set_option maxRecDepth 100000
set_option maxHeartbeats 4000000
set_option linter.unusedVariables false
namespace Mine
section
variable {prog : Program} {w : World} {A : Around}
abbrev stO (xs : Array Value) (c : Nat) : Obj := { cls := .type "list", dict := none, data := .seq xs c, slots := #[] }

theorem min_go {R : Result → Shared → Prop} {I D S a b : Addr} {ia ib : Array Value} {na nb c : Nat} {xs ys : List Str} {s : Shared} (hh : A.handled = none) (hu : A.units + 8 < cLine) (hI : D ≠ I) (hSI : S ≠ I) (hSD : S ≠ D) (hSa : S ≠ a) (hSb : S ≠ b) (hIa : I ≠ a) (hIb : I ≠ b)
    (st : s.heap.IsListIter I D 0 ∧ s.heap.IsList D #[.ref a, .ref b]) (hS : s.heap.get? S = some (stO #[] c)) (ha : s.heap.get? a = some (W.listOf ia na)) (hb : s.heap.get? b = some (W.listOf ib nb)) (hx : StrsAre ia.toList xs) (hy : StrsAre ib.toList ys)
    (hR : ∀ h' tk, (∀ c o, c ≠ I → c ≠ S → s.heap.get? c = some o → h'.get? c = some o) → R (.ok (.ret (if ltL ys xs = true then .ref b else .ref a))) { s with heap := h', toks := tk }) :
    codeAny (model prog w) A (.builtin "min.loop" ⟨[.ref I, .none, .ref S], []⟩) R s := by
  have WL := Walks.list (prog := prog) (w := w) (A := A.in1) hh I D hI #[.ref a, .ref b]
  have hname : (toString "min" ++ toString ".loop" : String) = "min.loop" := by decide
  have lastT : ∀ (s₁ : Shared) (v : Value) (c₁ : Nat), (s₁.heap.IsListIter I D 2 ∧ s₁.heap.IsList D #[.ref a, .ref b]) → s₁.heap.get? S = some (stO #[v, v] c₁) → (∀ h' tk, (∀ c o, c ≠ I → c ≠ S → s₁.heap.get? c = some o → h'.get? c = some o) → R (.ok (.ret v)) { s₁ with heap := h', toks := tk }) →
      codeAny (model prog w) A (.builtin "min.loop" ⟨[.ref I, .none, .ref S], []⟩) R s₁ := by
    intro s₁ v c₁ st₁ hS₁ hR₁
    refine codeAny_builtin PySem.F.entry_min_loop ?_
    rw [Around.under_plainId PySem.F.plain_min_loop _]
    show wpAny _ A.in1 (seqItems? (.ref S) >>= _) _ _ s₁
    refine wpAny_bind (wpAny_seqItems hS₁ rfl ?_)
    show wpAny _ A.in1 (tryCatch (pyNext (.ref I)) _ >>= _) _ _ s₁
    refine wpAny_bind (wpAny_tryCatch (WL.done s₁ _ _ st₁ fun h' tk hk' => ?_))
    have hS' := hk' S _ (by simpa using hSI) hS₁
    show wpAny _ A.in1 (updateSeq S (fun _ => #[]) >>= _) _ _ _
    refine wpAny_bind ?_
    refine wpAny_updateSeq hS' rfl (wpAny_bind (wpAny_letGo (wpAny_pure ?_)))
    exact hR₁ _ tk fun d o h1 h2 e => (Heap.get?_update_other _ _ (Ne.symm h2)).trans (hk' d o (by simpa using h1) e)
  have midT : ∀ (s₁ : Shared) (c₁ : Nat), (s₁.heap.IsListIter I D 1 ∧ s₁.heap.IsList D #[.ref a, .ref b]) → s₁.heap.get? S = some (stO #[.ref a, .ref a] c₁) → s₁.heap.get? a = some (W.listOf ia na) → s₁.heap.get? b = some (W.listOf ib nb) →
      (∀ h' tk, (∀ c o, c ≠ I → c ≠ S → s₁.heap.get? c = some o → h'.get? c = some o) → R (.ok (.ret (if ltL ys xs = true then .ref b else .ref a))) { s₁ with heap := h', toks := tk }) →
      codeAny (model prog w) A (.builtin "min.loop" ⟨[.ref I, .none, .ref S], []⟩) R s₁ := by
    intro s₁ c₁ st₁ hS₁ ha₁ hb₁ hR₁
    refine codeAny_builtin PySem.F.entry_min_loop ?_
    rw [Around.under_plainId PySem.F.plain_min_loop _]
    show wpAny _ A.in1 (seqItems? (.ref S) >>= _) _ _ s₁
    refine wpAny_bind (wpAny_seqItems hS₁ rfl ?_)
    show wpAny _ A.in1 (tryCatch (pyNext (.ref I)) _ >>= _) _ _ s₁
    refine wpAny_bind (wpAny_tryCatch (WL.item 1 s₁ _ _ (Nat.le_refl 2) st₁ fun v h' tk hP hst' hk' => ?_))
    have hv : v = .ref b := by simpa using hP.symm
    subst hv
    have kp : ∀ d o, d ≠ I → s₁.heap.get? d = some o → h'.get? d = some o := fun d o h1 e => hk' d o (by simpa using h1) e
    have hS' := kp S _ hSI hS₁
    show wpAny _ A.in1 (tryCatch (holding [.ref b, .ref b] (richCompare .Lt (.ref b) (.ref a) >>= _)) _ >>= _) _ _ _
    refine wpAny_bind (wpAny_tryCatch (wpAny_holding (wpAny_bind (rc_lt (A := A.in1) (kp b _ (Ne.symm hIb) hb₁) (kp a _ (Ne.symm hIa) ha₁) hy hx (by show A.units + 1 < cLine; omega) ?_))))
    refine wpAny_bind (wpAny_holding (wpAny_truthy_bool ?_))
    refine wpAny_bind (wpAny_letGo (wpAny_pure ?_))
    cases hq : ltL ys xs with
    | true =>
      rw [hq] at hR₁
      simp only [if_true] at hR₁ ⊢
      refine wpAny_bind ?_
      refine wpAny_updateSeq hS' rfl (wpAny_bind (wpAny_letGo ?_))
      rw [hname]
      refine wpAny_pure ⟨plainId_quiet PySem.F.plain_min_loop _, lastT _ (.ref b) _ (WL.frame _ _ _ hst' fun d hd o e => ?_) (Heap.get?_update_self _ hS' rfl) fun h'' tk'' hk'' => ?_⟩
      · refine (Heap.get?_update_other _ _ (fun h : S = d => ?_)).trans e
        rcases List.mem_cons.mp hd with rfl | hd
        · exact hSI h
        · rw [List.mem_singleton.mp hd] at h; exact hSD h
      · exact hR₁ h'' tk'' fun d o h1 h2 e => hk'' d o h1 h2 ((Heap.get?_update_other _ _ (Ne.symm h2)).trans (kp d o h1 e))
    | false =>
      rw [hq] at hR₁
      simp only [Bool.false_eq_true, if_false] at hR₁ ⊢
      refine wpAny_bind (wpAny_letGo ?_)
      rw [hname]
      exact wpAny_pure ⟨plainId_quiet PySem.F.plain_min_loop _, lastT _ (.ref a) _ hst' hS' fun h'' tk'' hk'' => hR₁ h'' tk'' fun d o h1 h2 e => hk'' d o h1 h2 (kp d o h1 e)⟩
  refine codeAny_builtin PySem.F.entry_min_loop ?_
  rw [Around.under_plainId PySem.F.plain_min_loop _]
  show wpAny _ A.in1 (seqItems? (.ref S) >>= _) _ _ s
  refine wpAny_bind (wpAny_seqItems hS rfl ?_)
  show wpAny _ A.in1 (tryCatch (pyNext (.ref I)) _ >>= _) _ _ s
  refine wpAny_bind (wpAny_tryCatch (WL.item 0 s _ _ (Nat.succ_pos 1) st fun v h' tk hP hst' hk' => ?_))
  have hv : v = .ref a := by simpa using hP.symm
  subst hv
  have kp : ∀ d o, d ≠ I → s.heap.get? d = some o → h'.get? d = some o := fun d o h1 e => hk' d o (by simpa using h1) e
  have hS' := kp S _ hSI hS
  show wpAny _ A.in1 (updateSeq S (fun _ => #[.ref a, .ref a]) >>= _) _ _ _
  refine wpAny_bind ?_
  refine wpAny_updateSeq hS' rfl ?_
  rw [hname]
  refine wpAny_pure ⟨plainId_quiet PySem.F.plain_min_loop _, midT _ _ (WL.frame _ _ _ hst' fun d hd o e => ?_) (Heap.get?_update_self _ hS' rfl) ((Heap.get?_update_other _ _ hSa).trans (kp a _ (Ne.symm hIa) ha)) ((Heap.get?_update_other _ _ hSb).trans (kp b _ (Ne.symm hIb) hb)) fun h'' tk'' hk'' => ?_⟩
  · refine (Heap.get?_update_other _ _ (fun h : S = d => ?_)).trans e
    rcases List.mem_cons.mp hd with rfl | hd
    · exact hSI h
    · rw [List.mem_singleton.mp hd] at h; exact hSD h
  · exact hR h'' tk'' fun d o h1 h2 e => hk'' d o h1 h2 ((Heap.get?_update_other _ _ (Ne.symm h2)).trans (kp d o h1 e))
theorem call_min2 {D a b : Addr} {ia ib : Array Value} {na nb : Nat} {xs ys : List Str} {Q : Value → Shared → Prop} {E : Value → Shared → Prop} {s : Shared} (hh : A.handled = none) (hu : A.units + 8 < cLine)
    (hD : s.heap.IsList D #[.ref a, .ref b]) (ha : s.heap.get? a = some (W.listOf ia na)) (hb : s.heap.get? b = some (W.listOf ib nb)) (hx : StrsAre ia.toList xs) (hy : StrsAre ib.toList ys)
    (h : ∀ h' tk, (∀ c o, s.heap.get? c = some o → h'.get? c = some o) → Q (if ltL ys xs = true then .ref b else .ref a) { s with heap := h', toks := tk }) :
    wpAny (model prog w) A (call (.builtin "min") [.ref D]) Q E s := by
  have hname : (toString "min" ++ toString ".loop" : String) = "min.loop" := by decide
  have la := Heap.lt_size ha
  have lb := Heap.lt_size hb
  have lD : D < s.heap.objs.size := by obtain ⟨_, e, _⟩ := hD; exact Heap.lt_size e
  refine call_function_tree PySem.F.kind_min PySem.F.plain_min PySem.F.entry_min (PySem.F.args_min1 _) ?_
  show wpAny _ A.in1 (Builtin.Builtins.bindParams "min" ["key", "default"] 0 ⟨[], []⟩ >>= _) _ _ s
  refine wpAny_bind (wpAny_of_eq (show Builtin.Builtins.bindParams "min" ["key", "default"] 0 ⟨[], []⟩ = pure [none, none] from rfl) ?_)
  refine wpAny_bind (wpAny_pure ?_)
  refine wpAny_bind (wpAny_pyIter_list hD ?_)
  refine wpAny_bind (wpAny_newObj_type ?_)
  have zs : (s.heap.push { cls := .type "list_iterator", data := .fields #[.ref D, .int 0 0] }).objs.size = s.heap.objs.size + 1 := Heap.size_push ..
  rw [hname]
  refine wpAny_pure ⟨plainId_quiet PySem.F.plain_min_loop _, min_go (I := s.heap.objs.size) (D := D) (a := a) (b := b) (c := 0) hh hu (Nat.ne_of_lt lD) ?_ ?_ ?_ ?_ (Ne.symm (Nat.ne_of_lt la)) (Ne.symm (Nat.ne_of_lt lb)) ⟨⟨_, Heap.get?_push_of_some _ (Heap.get?_push_size _ rfl), rfl, rfl⟩, (hD.push _).push _⟩ (Heap.get?_push_size _ rfl) (Heap.get?_push_of_some _ (Heap.get?_push_of_some _ ha)) (Heap.get?_push_of_some _ (Heap.get?_push_of_some _ hb)) hx hy fun h' tk hk => ?_⟩
  · show (s.heap.push _).objs.size ≠ s.heap.objs.size; rw [zs]; omega
  · exact fun e => absurd (zs.symm.trans e) (Nat.ne_of_gt (Nat.lt_succ_of_lt lD))
  · exact fun e => absurd (zs.symm.trans e) (Nat.ne_of_gt (Nat.lt_succ_of_lt la))
  · exact fun e => absurd (zs.symm.trans e) (Nat.ne_of_gt (Nat.lt_succ_of_lt lb))
  · refine h h' tk fun c o e => hk c o ?_ ?_ (Heap.get?_push_of_some _ (Heap.get?_push_of_some _ e))
    · exact Nat.ne_of_lt (Heap.lt_size e)
    · exact fun e2 => absurd (e2.trans zs) (Nat.ne_of_lt (Nat.lt_succ_of_lt (Heap.lt_size e)))

theorem max_go {R : Result → Shared → Prop} {I D S a b : Addr} {ia ib : Array Value} {na nb c : Nat} {xs ys : List Str} {s : Shared} (hh : A.handled = none) (hu : A.units + 8 < cLine) (hI : D ≠ I) (hSI : S ≠ I) (hSD : S ≠ D) (hSa : S ≠ a) (hSb : S ≠ b) (hIa : I ≠ a) (hIb : I ≠ b)
    (st : s.heap.IsListIter I D 0 ∧ s.heap.IsList D #[.ref a, .ref b]) (hS : s.heap.get? S = some (stO #[] c)) (ha : s.heap.get? a = some (W.listOf ia na)) (hb : s.heap.get? b = some (W.listOf ib nb)) (hx : StrsAre ia.toList xs) (hy : StrsAre ib.toList ys)
    (hR : ∀ h' tk, (∀ c o, c ≠ I → c ≠ S → s.heap.get? c = some o → h'.get? c = some o) → R (.ok (.ret (if gtL ys xs = true then .ref b else .ref a))) { s with heap := h', toks := tk }) :
    codeAny (model prog w) A (.builtin "max.loop" ⟨[.ref I, .none, .ref S], []⟩) R s := by
  have WL := Walks.list (prog := prog) (w := w) (A := A.in1) hh I D hI #[.ref a, .ref b]
  have hname : (toString "max" ++ toString ".loop" : String) = "max.loop" := by decide
  have lastT : ∀ (s₁ : Shared) (v : Value) (c₁ : Nat), (s₁.heap.IsListIter I D 2 ∧ s₁.heap.IsList D #[.ref a, .ref b]) → s₁.heap.get? S = some (stO #[v, v] c₁) → (∀ h' tk, (∀ c o, c ≠ I → c ≠ S → s₁.heap.get? c = some o → h'.get? c = some o) → R (.ok (.ret v)) { s₁ with heap := h', toks := tk }) →
      codeAny (model prog w) A (.builtin "max.loop" ⟨[.ref I, .none, .ref S], []⟩) R s₁ := by
    intro s₁ v c₁ st₁ hS₁ hR₁
    refine codeAny_builtin PySem.F.entry_max_loop ?_
    rw [Around.under_plainId PySem.F.plain_max_loop _]
    show wpAny _ A.in1 (seqItems? (.ref S) >>= _) _ _ s₁
    refine wpAny_bind (wpAny_seqItems hS₁ rfl ?_)
    show wpAny _ A.in1 (tryCatch (pyNext (.ref I)) _ >>= _) _ _ s₁
    refine wpAny_bind (wpAny_tryCatch (WL.done s₁ _ _ st₁ fun h' tk hk' => ?_))
    have hS' := hk' S _ (by simpa using hSI) hS₁
    show wpAny _ A.in1 (updateSeq S (fun _ => #[]) >>= _) _ _ _
    refine wpAny_bind ?_
    refine wpAny_updateSeq hS' rfl (wpAny_bind (wpAny_letGo (wpAny_pure ?_)))
    exact hR₁ _ tk fun d o h1 h2 e => (Heap.get?_update_other _ _ (Ne.symm h2)).trans (hk' d o (by simpa using h1) e)
  have midT : ∀ (s₁ : Shared) (c₁ : Nat), (s₁.heap.IsListIter I D 1 ∧ s₁.heap.IsList D #[.ref a, .ref b]) → s₁.heap.get? S = some (stO #[.ref a, .ref a] c₁) → s₁.heap.get? a = some (W.listOf ia na) → s₁.heap.get? b = some (W.listOf ib nb) →
      (∀ h' tk, (∀ c o, c ≠ I → c ≠ S → s₁.heap.get? c = some o → h'.get? c = some o) → R (.ok (.ret (if gtL ys xs = true then .ref b else .ref a))) { s₁ with heap := h', toks := tk }) →
      codeAny (model prog w) A (.builtin "max.loop" ⟨[.ref I, .none, .ref S], []⟩) R s₁ := by
    intro s₁ c₁ st₁ hS₁ ha₁ hb₁ hR₁
    refine codeAny_builtin PySem.F.entry_max_loop ?_
    rw [Around.under_plainId PySem.F.plain_max_loop _]
    show wpAny _ A.in1 (seqItems? (.ref S) >>= _) _ _ s₁
    refine wpAny_bind (wpAny_seqItems hS₁ rfl ?_)
    show wpAny _ A.in1 (tryCatch (pyNext (.ref I)) _ >>= _) _ _ s₁
    refine wpAny_bind (wpAny_tryCatch (WL.item 1 s₁ _ _ (Nat.le_refl 2) st₁ fun v h' tk hP hst' hk' => ?_))
    have hv : v = .ref b := by simpa using hP.symm
    subst hv
    have kp : ∀ d o, d ≠ I → s₁.heap.get? d = some o → h'.get? d = some o := fun d o h1 e => hk' d o (by simpa using h1) e
    have hS' := kp S _ hSI hS₁
    show wpAny _ A.in1 (tryCatch (holding [.ref b, .ref b] (richCompare .Gt (.ref b) (.ref a) >>= _)) _ >>= _) _ _ _
    refine wpAny_bind (wpAny_tryCatch (wpAny_holding (wpAny_bind (rc_gt (A := A.in1) (kp b _ (Ne.symm hIb) hb₁) (kp a _ (Ne.symm hIa) ha₁) hy hx (by show A.units + 1 < cLine; omega) ?_))))
    refine wpAny_bind (wpAny_holding (wpAny_truthy_bool ?_))
    refine wpAny_bind (wpAny_letGo (wpAny_pure ?_))
    cases hq : gtL ys xs with
    | true =>
      rw [hq] at hR₁
      simp only [if_true] at hR₁ ⊢
      refine wpAny_bind ?_
      refine wpAny_updateSeq hS' rfl (wpAny_bind (wpAny_letGo ?_))
      rw [hname]
      refine wpAny_pure ⟨plainId_quiet PySem.F.plain_max_loop _, lastT _ (.ref b) _ (WL.frame _ _ _ hst' fun d hd o e => ?_) (Heap.get?_update_self _ hS' rfl) fun h'' tk'' hk'' => ?_⟩
      · refine (Heap.get?_update_other _ _ (fun h : S = d => ?_)).trans e
        rcases List.mem_cons.mp hd with rfl | hd
        · exact hSI h
        · rw [List.mem_singleton.mp hd] at h; exact hSD h
      · exact hR₁ h'' tk'' fun d o h1 h2 e => hk'' d o h1 h2 ((Heap.get?_update_other _ _ (Ne.symm h2)).trans (kp d o h1 e))
    | false =>
      rw [hq] at hR₁
      simp only [Bool.false_eq_true, if_false] at hR₁ ⊢
      refine wpAny_bind (wpAny_letGo ?_)
      rw [hname]
      exact wpAny_pure ⟨plainId_quiet PySem.F.plain_max_loop _, lastT _ (.ref a) _ hst' hS' fun h'' tk'' hk'' => hR₁ h'' tk'' fun d o h1 h2 e => hk'' d o h1 h2 (kp d o h1 e)⟩
  refine codeAny_builtin PySem.F.entry_max_loop ?_
  rw [Around.under_plainId PySem.F.plain_max_loop _]
  show wpAny _ A.in1 (seqItems? (.ref S) >>= _) _ _ s
  refine wpAny_bind (wpAny_seqItems hS rfl ?_)
  show wpAny _ A.in1 (tryCatch (pyNext (.ref I)) _ >>= _) _ _ s
  refine wpAny_bind (wpAny_tryCatch (WL.item 0 s _ _ (Nat.succ_pos 1) st fun v h' tk hP hst' hk' => ?_))
  have hv : v = .ref a := by simpa using hP.symm
  subst hv
  have kp : ∀ d o, d ≠ I → s.heap.get? d = some o → h'.get? d = some o := fun d o h1 e => hk' d o (by simpa using h1) e
  have hS' := kp S _ hSI hS
  show wpAny _ A.in1 (updateSeq S (fun _ => #[.ref a, .ref a]) >>= _) _ _ _
  refine wpAny_bind ?_
  refine wpAny_updateSeq hS' rfl ?_
  rw [hname]
  refine wpAny_pure ⟨plainId_quiet PySem.F.plain_max_loop _, midT _ _ (WL.frame _ _ _ hst' fun d hd o e => ?_) (Heap.get?_update_self _ hS' rfl) ((Heap.get?_update_other _ _ hSa).trans (kp a _ (Ne.symm hIa) ha)) ((Heap.get?_update_other _ _ hSb).trans (kp b _ (Ne.symm hIb) hb)) fun h'' tk'' hk'' => ?_⟩
  · refine (Heap.get?_update_other _ _ (fun h : S = d => ?_)).trans e
    rcases List.mem_cons.mp hd with rfl | hd
    · exact hSI h
    · rw [List.mem_singleton.mp hd] at h; exact hSD h
  · exact hR h'' tk'' fun d o h1 h2 e => hk'' d o h1 h2 ((Heap.get?_update_other _ _ (Ne.symm h2)).trans (kp d o h1 e))
theorem call_max2 {D a b : Addr} {ia ib : Array Value} {na nb : Nat} {xs ys : List Str} {Q : Value → Shared → Prop} {E : Value → Shared → Prop} {s : Shared} (hh : A.handled = none) (hu : A.units + 8 < cLine)
    (hD : s.heap.IsList D #[.ref a, .ref b]) (ha : s.heap.get? a = some (W.listOf ia na)) (hb : s.heap.get? b = some (W.listOf ib nb)) (hx : StrsAre ia.toList xs) (hy : StrsAre ib.toList ys)
    (h : ∀ h' tk, (∀ c o, s.heap.get? c = some o → h'.get? c = some o) → Q (if gtL ys xs = true then .ref b else .ref a) { s with heap := h', toks := tk }) :
    wpAny (model prog w) A (call (.builtin "max") [.ref D]) Q E s := by
  have hname : (toString "max" ++ toString ".loop" : String) = "max.loop" := by decide
  have la := Heap.lt_size ha
  have lb := Heap.lt_size hb
  have lD : D < s.heap.objs.size := by obtain ⟨_, e, _⟩ := hD; exact Heap.lt_size e
  refine call_function_tree PySem.F.kind_max PySem.F.plain_max PySem.F.entry_max (PySem.F.args_max1 _) ?_
  show wpAny _ A.in1 (Builtin.Builtins.bindParams "max" ["key", "default"] 0 ⟨[], []⟩ >>= _) _ _ s
  refine wpAny_bind (wpAny_of_eq (show Builtin.Builtins.bindParams "max" ["key", "default"] 0 ⟨[], []⟩ = pure [none, none] from rfl) ?_)
  refine wpAny_bind (wpAny_pure ?_)
  refine wpAny_bind (wpAny_pyIter_list hD ?_)
  refine wpAny_bind (wpAny_newObj_type ?_)
  have zs : (s.heap.push { cls := .type "list_iterator", data := .fields #[.ref D, .int 0 0] }).objs.size = s.heap.objs.size + 1 := Heap.size_push ..
  rw [hname]
  refine wpAny_pure ⟨plainId_quiet PySem.F.plain_max_loop _, max_go (I := s.heap.objs.size) (D := D) (a := a) (b := b) (c := 0) hh hu (Nat.ne_of_lt lD) ?_ ?_ ?_ ?_ (Ne.symm (Nat.ne_of_lt la)) (Ne.symm (Nat.ne_of_lt lb)) ⟨⟨_, Heap.get?_push_of_some _ (Heap.get?_push_size _ rfl), rfl, rfl⟩, (hD.push _).push _⟩ (Heap.get?_push_size _ rfl) (Heap.get?_push_of_some _ (Heap.get?_push_of_some _ ha)) (Heap.get?_push_of_some _ (Heap.get?_push_of_some _ hb)) hx hy fun h' tk hk => ?_⟩
  · show (s.heap.push _).objs.size ≠ s.heap.objs.size; rw [zs]; omega
  · exact fun e => absurd (zs.symm.trans e) (Nat.ne_of_gt (Nat.lt_succ_of_lt lD))
  · exact fun e => absurd (zs.symm.trans e) (Nat.ne_of_gt (Nat.lt_succ_of_lt la))
  · exact fun e => absurd (zs.symm.trans e) (Nat.ne_of_gt (Nat.lt_succ_of_lt lb))
  · refine h h' tk fun c o e => hk c o ?_ ?_ (Heap.get?_push_of_some _ (Heap.get?_push_of_some _ e))
    · exact Nat.ne_of_lt (Heap.lt_size e)
    · exact fun e2 => absurd (e2.trans zs) (Nat.ne_of_lt (Nat.lt_succ_of_lt (Heap.lt_size e)))
end

theorem EvV.min2 {f : Fx} {b : Binds} {N : Led} {en : Env} {e : Expr} {np pos : Pos} {D a a2 : Addr} {ia ib : Array Value} {na nb : Nat} {xs ys : List Str} (g : Glob f.c.w (Str.ofString "min") (.builtin "min")) (he : EvV f en b N e (.ref D)) (hl : AtL f N D [.ref a, .ref a2]) (ha : (a, W.listOf ia na) ∈ N) (hb : (a2, W.listOf ib nb) ∈ N) (hx : StrsAre ia.toList xs) (hy : StrsAre ib.toList ys) (hg : gB en (Str.ofString "min") = true) :
    EvV f en b N (.Call (.Name (Str.ofString "min") np) [e] [] pos) (if ltL ys xs = true then .ref a2 else .ref a) := by
  refine Ev.callN g (Ags.oneV he) (fun vs N₁ r => ?_) hg ⟨he.pe, trivial⟩ 
  obtain ⟨rfl, rfl⟩ := r
  exact fun s Q E ok F M q => call_min2 (A := f.A) rfl (by have := ok.h2; show f.c.un + 8 < _; omega) (hl.is F M) (M _ ha).1 (M _ hb).1 hx hy fun h' tk hk => q _ h' tk _ (F.grownK hk) (M.grown hk) ⟨rfl, rfl⟩

theorem EvV.max2 {f : Fx} {b : Binds} {N : Led} {en : Env} {e : Expr} {np pos : Pos} {D a a2 : Addr} {ia ib : Array Value} {na nb : Nat} {xs ys : List Str} (g : Glob f.c.w (Str.ofString "max") (.builtin "max")) (he : EvV f en b N e (.ref D)) (hl : AtL f N D [.ref a, .ref a2]) (ha : (a, W.listOf ia na) ∈ N) (hb : (a2, W.listOf ib nb) ∈ N) (hx : StrsAre ia.toList xs) (hy : StrsAre ib.toList ys) (hg : gB en (Str.ofString "max") = true) :
    EvV f en b N (.Call (.Name (Str.ofString "max") np) [e] [] pos) (if gtL ys xs = true then .ref a2 else .ref a) := by
  refine Ev.callN g (Ags.oneV he) (fun vs N₁ r => ?_) hg ⟨he.pe, trivial⟩ 
  obtain ⟨rfl, rfl⟩ := r
  exact fun s Q E ok F M q => call_max2 (A := f.A) rfl (by have := ok.h2; show f.c.un + 8 < _; omega) (hl.is F M) (M _ ha).1 (M _ hb).1 hx hy fun h' tk hk => q _ h' tk _ (F.grownK hk) (M.grown hk) ⟨rfl, rfl⟩
end Mine
end
section
open PySem PySem.W PyProof.Rows PySem.Calls
set_option Elab.async false
set_option maxRecDepth 100000
set_option maxHeartbeats 4000000
set_option linter.unusedVariables false
namespace Mine
/-- the parts of a place's text -/
def parts (p : List Bool) : List Str := Str.ofString "" :: if p = [] then [Str.ofString ""] else p.map nm
theorem split_pt (p : List Bool) : Txt.split (pt p) (Str.ofString "/") = parts p := by
  refine split_is ?_
  show spl (cl (st _)) = _
  rw [cl_st]
  have h0 := spl_cut (a := []) (jl ((p.map nm).map cl)) (by simp)
  rw [List.nil_append] at h0
  rw [h0]
  have e0 : cl (Str.ofString "") = [] := by decide +kernel
  unfold parts
  by_cases hp : p = []
  · subst hp
    rw [if_pos rfl]
    simp [e0, jl, spl]
  · rw [if_neg hp, spl_map (by simpa using hp) fun x hx => (good_nms p x hx).2]
    simp [e0]
def okC (c : Str) : Bool := (c != Str.ofString "") && ((c != Str.ofString ".") && true)
theorem okC_nm (b : Bool) : okC (nm b) = true := by cases b <;> decide +kernel
theorem filt_parts (p : List Bool) : (parts p).filter okC = p.map nm := by
  have e : okC (Str.ofString "") = false := by decide +kernel
  unfold parts
  rw [List.filter_cons, e]
  by_cases hp : p = []
  · subst hp; rw [if_pos rfl, List.filter_cons, e]; rfl
  · rw [if_neg hp]
    show List.filter okC (p.map nm) = _
    refine List.filter_eq_self.mpr fun x hx => ?_
    obtain ⟨b, _, rfl⟩ := List.mem_map.mp hx
    exact okC_nm b
theorem parts_len (p : List Bool) : (parts p).length ≤ p.length + 2 := by
  unfold parts
  split <;> simp
theorem parts_sz {p : List Bool} {x : Str} (h : x ∈ parts p) : x.length ≤ 1 := by
  unfold parts at h
  rcases List.mem_cons.mp h with rfl | h
  · decide
  · split at h
    · rw [List.mem_singleton.mp h]; decide
    · obtain ⟨b, _, rfl⟩ := List.mem_map.mp h
      rw [nm_len]; decide
theorem nm_beq (a b : Bool) : (nm a == nm b) = (a == b) := by cases a <;> cases b <;> decide +kernel
theorem nm_lt (a b : Bool) : decide ((nm a).cps.toList < (nm b).cps.toList) = (!a && b) := by cases a <;> cases b <;> decide +kernel
def ltP : List Bool → List Bool → Bool
  | _, [] => false
  | [], _ :: _ => true
  | x :: xs, y :: ys => if x == y then ltP xs ys else (!x && y)
def gtP : List Bool → List Bool → Bool
  | [], _ => false
  | _ :: _, [] => true
  | x :: xs, y :: ys => if x == y then gtP xs ys else (!y && x)
theorem ltL_nm : ∀ p q : List Bool, ltL (p.map nm) (q.map nm) = ltP p q
  | [], [] => rfl
  | _ :: _, [] => rfl
  | [], _ :: _ => rfl
  | x :: xs, y :: ys => by
    show (if nm x == nm y then ltL (xs.map nm) (ys.map nm) else decide _) = if x == y then _ else _
    rw [nm_beq, nm_lt, ltL_nm xs ys]
theorem gtL_nm : ∀ p q : List Bool, gtL (p.map nm) (q.map nm) = gtP p q
  | [], [] => rfl
  | _ :: _, [] => rfl
  | [], _ :: _ => rfl
  | x :: xs, y :: ys => by
    show (if nm x == nm y then gtL (xs.map nm) (ys.map nm) else decide _) = if x == y then _ else _
    rw [nm_beq, nm_lt, gtL_nm xs ys]
/-- the least and the greatest of two places -/
theorem min_max : ∀ p q : List Bool, ∀ a b, a = (if ltP q p then q else p) → b = (if gtP q p then q else p) → (∀ i, i < a.length → a.take i = b.take i → i < b.length) ∧ cpre a b = cpre p q
  | [], [] => fun a b ha hb => by subst ha hb; exact ⟨fun i h => absurd h (Nat.not_lt_zero _), rfl⟩
  | [], y :: ys => fun a b ha hb => by
    have ha : a = [] := ha
    subst ha hb
    exact ⟨fun i h => absurd h (Nat.not_lt_zero _), rfl⟩
  | x :: xs, [] => fun a b ha hb => by
    have ha : a = [] := ha
    have hb : b = x :: xs := hb
    subst ha hb
    exact ⟨fun i h => absurd h (Nat.not_lt_zero _), rfl⟩
  | x :: xs, y :: ys => fun a b ha hb => by
    cases hq : y == x with
    | true =>
      have e : y = x := eq_of_beq hq
      subst e
      obtain ⟨h1, h2⟩ := min_max xs ys _ _ rfl rfl
      have ha : a = y :: (if ltP ys xs then ys else xs) := by
        have e1 : ltP (y :: ys) (y :: xs) = ltP ys xs := by
          show (if y == y then _ else _) = _
          rw [hq, if_pos rfl]
        rw [ha, e1]; cases ltP ys xs <;> rfl
      have hb : b = y :: (if gtP ys xs then ys else xs) := by
        have e1 : gtP (y :: ys) (y :: xs) = gtP ys xs := by
          show (if y == y then _ else _) = _
          rw [hq, if_pos rfl]
        rw [hb, e1]; cases gtP ys xs <;> rfl
      subst ha hb
      refine ⟨fun i hi e => ?_, ?_⟩
      · cases i with
        | zero => exact Nat.succ_pos _
        | succ i => exact Nat.succ_lt_succ (h1 i (Nat.lt_of_succ_lt_succ hi) (by simpa using e))
      · unfold cpre
        rw [if_pos rfl, if_pos rfl, h2]
    | false =>
      have ne : y ≠ x := fun e => by rw [e] at hq; simp at hq
      have key : (a = y :: ys ∧ b = x :: xs) ∨ (a = x :: xs ∧ b = y :: ys) := by
        have e1 : ltP (y :: ys) (x :: xs) = (!y && x) := by
          show (if y == x then _ else _) = _
          rw [hq]; rfl
        have e2 : gtP (y :: ys) (x :: xs) = (!x && y) := by
          show (if y == x then _ else _) = _
          rw [hq]; rfl
        rw [ha, hb, e1, e2]
        revert ne
        cases x <;> cases y <;> simp
      have gen : ∀ (u v : Bool) (us vs : List Bool), u ≠ v → (∀ i, i < (u :: us).length → (u :: us).take i = (v :: vs).take i → i < (v :: vs).length) ∧ cpre (u :: us) (v :: vs) = [] := fun u v us vs hne => by
        refine ⟨fun i hi e => ?_, ?_⟩
        · cases i with
          | zero => exact Nat.succ_pos _
          | succ i => simp at e; exact absurd e.1 hne
        · unfold cpre; rw [if_neg hne]
      have e0 : cpre (x :: xs) (y :: ys) = [] := (gen x y xs ys (Ne.symm ne)).2
      rcases key with ⟨rfl, rfl⟩ | ⟨rfl, rfl⟩
      · exact ⟨(gen y x ys xs ne).1, by rw [e0]; exact (gen y x ys xs ne).2⟩
      · exact ⟨(gen x y xs ys (Ne.symm ne)).1, rfl⟩
theorem cpre_at : ∀ {a b : List Bool} {i : Nat} {x y : Bool}, a.take i = b.take i → a[i]? = some x → b[i]? = some y → x ≠ y → cpre a b = a.take i
  | [], _, i, _, _ => fun _ h => by simp at h
  | _ :: _, [], i, _, _ => fun _ _ h => by simp at h
  | u :: us, v :: vs, 0, x, y => fun _ h1 h2 ne => by
    have h1 : u = x := by simpa using h1
    have h2 : v = y := by simpa using h2
    subst h1 h2
    unfold cpre; rw [if_neg ne]; rfl
  | u :: us, v :: vs, i + 1, x, y => fun e h1 h2 ne => by
    have e2 : u = v ∧ us.take i = vs.take i := by simpa using e
    obtain ⟨rfl, e3⟩ := e2
    unfold cpre
    rw [if_pos rfl, cpre_at e3 (by simpa using h1) (by simpa using h2) ne]; rfl
theorem cpre_all : ∀ {a b : List Bool}, a = b.take a.length → cpre a b = a
  | [], _ => fun _ => rfl
  | u :: us, [] => fun h => by simp at h
  | u :: us, v :: vs => fun h => by
    have h2 : u = v ∧ us = vs.take us.length := by simpa using h
    obtain ⟨rfl, h3⟩ := h2
    unfold cpre
    rw [if_pos rfl, cpre_all h3]
theorem cpre_len : ∀ (a b : List Bool), (cpre a b).length ≤ a.length
  | [], _ => Nat.zero_le _
  | _ :: _, [] => Nat.zero_le _
  | u :: us, v :: vs => by
    unfold cpre
    split
    · exact Nat.succ_le_succ (cpre_len us vs)
    · exact Nat.zero_le _
end Mine
end
section
open PySem PySem.W PyProof.Rows PySem.Calls
set_option Elab.async false
set_option maxRecDepth 100000
set_option maxHeartbeats 4000000
set_option linter.unusedVariables false
set_option rowWalk.seconds 0
namespace Mine
/-- a list of texts, of one's own -/
def LsAt (N : Led) (v : Value) (xs : List Str) : Prop := ∃ D its n, v = .ref D ∧ (D, W.listOf its n) ∈ N ∧ StrsAre its.toList xs
theorem LsAt.more {N N' : Led} {v : Value} {xs : List Str} (h : LsAt N v xs) (s : ∀ p ∈ N, p ∈ N') : LsAt N' v xs := let ⟨D, its, n, e, m, h⟩ := h; ⟨D, its, n, e, s _ m, h⟩
def LsJ (B : Led) (L : List (List Str)) (i : Nat) (ys : List Value) (N : Led) : Prop := (∀ p ∈ B, p ∈ N) ∧ All2 (LsAt N) ys (L.take i)
section
variable {f : Fx} {b : Binds} {N : Led} {en : Env}
theorem Tr.tup {e : Expr} {D : Addr} {vs : List Value} (h : EvV f en b N e (.ref D)) (hl : AtT f N D vs) (hz : vs.length ≤ 100000) (hp : PlainT en e) : Tr f en b N e (!vs.isEmpty) :=
  Tr.ofE h (fun v N₁ r => by obtain ⟨rfl, rfl⟩ := r; exact fun s _ _ _ F M q => truthy_tuple (hl.is F M) (by simp; omega) (q _ _ _ _ F M ⟨by simp, rfl⟩)) hp
/-- l[:i] -/
theorem Ev.uptoL {o hi : Expr} {sp pos : Pos} {D : Addr} {vs : List Value} {i : Nat} (ho : EvV f en b N o (.ref D)) (hl : AtL f N D vs) (hz : vs.length ≤ 100000) (h2 : EvI f en b N hi (i : Int)) (ht : ∀ r a, letTemporaryGo o (.ref a) r = pure ()) :
    Ev f en b N (.Subscript o (.Slice none (some hi) none sp) pos) (NewL N fun ws => ws = vs.take i) := by
  have e : sliceBounds none (some (i : Int)) none vs.toArray.size = (((0 : Nat) : Int), ((min i vs.toArray.size : Nat) : Int), 1) := by
    simp only [sliceBounds, Option.getD_none, show (1 : Int) > 0 by decide, if_true, if_neg (show ¬ ((i : Int) < 0) by omega)]
    congr 1
    congr 1
    omega
  refine (Ev.sliceL2 (i := none) (j := some (i : Int)) (vl := .none) (vu := .none) ho hl hz (fun s Q E ok F M q => evalPart_none_step (q _ _ _ _ F M ⟨rfl, .none⟩)) (fun s Q E ok F M q => evalPart_some_step (h2.jd s _ _ ok F M fun v h tk N' F' M' r => ?_)) (fun _ _ => rfl) ht).mono fun v N' r => ?_
  · obtain ⟨⟨u, rfl⟩, rfl⟩ := r
    exact q _ _ _ _ F' M' ⟨rfl, .int _ _⟩
  · obtain ⟨D', its, n, e1, e2, off, e3⟩ := r
    refine ⟨D', its, n, e1, e2, off, ?_⟩
    rw [e3, kmk_pick_nat _ e]
    show (vs.drop 0).take (min i vs.toArray.size - 0) = _
    rw [List.drop_zero, Nat.sub_zero, List.size_toArray, kmk_take_min]
/-- a turn that makes a list of texts -/
theorem ls_turn {elt : Expr} {ce : Addr → Env} {n : Nat} {VP : Nat → (Str → Option Value) → Prop} {B : Led} {L : List (List Str)} (hn : n = L.length)
    (el : ∀ i xs m X W C oC N', L[i]? = some xs → VP i m → InTurn X W C oC m N' → (∀ p ∈ B, p ∈ N') → Jd f b (X ++ N') (eval elt (ce C)) (NewL (X ++ N') fun vs => StrsAre vs xs)) :
    ∀ i ys N' X W C oC m, i < n → VP i m → InTurn X W C oC m N' → LsJ B L i ys N' →
      CTurn f b (X ++ N') [] elt (ce C) (Kept X W (LsJ B L (i + 1) ys)) (fun y => Kept X W (LsJ B L (i + 1) (ys ++ [y]))) := by
  rintro i ys N' X Wl C oC m hi hV T ⟨hB, hA⟩
  obtain ⟨xs, hr⟩ : ∃ r, L[i]? = some r := ⟨L[i]'(hn ▸ hi), List.getElem?_eq_getElem _⟩
  refine CTurn.none ((el i xs m X Wl C oC N' hr hV T hB).mono fun v N₃ q => ?_)
  obtain ⟨D, its, k, rfl, rfl, off, hs⟩ := q
  have sub : ∀ p ∈ N', p ∈ (D, W.listOf its k) :: N' := fun p hp => List.mem_cons_of_mem _ hp
  refine ⟨(D, W.listOf its k) :: N', fun p hp => List.mem_cons_of_mem _ (List.mem_append_left _ hp), fun p hp => ?_, fun p hp => ?_, fun p hp => sub p (hB p hp), ?_⟩
  · rcases List.mem_cons.mp hp with rfl | hp
    · exact List.mem_cons_self
    · exact List.mem_cons_of_mem _ (List.mem_append_right _ hp)
  · rcases List.mem_cons.mp hp with rfl | hp
    · intro hW
      obtain ⟨o, ho⟩ := T.has _ hW
      exact off _ (List.mem_append_left _ ho) rfl
    · exact T.off p hp
  · rw [List.take_add_one, hr]
    exact (hA.mono fun a x h => h.more sub).app (.cons ⟨D, its, k, rfl, List.mem_cons_self, hs⟩ .nil)
end
theorem strs_take {vs : List Value} {xs : List Str} (h : StrsAre vs xs) : ∀ i, StrsAre (vs.take i) (xs.take i) := by
  induction h with
  | nil => intro i; simp; exact .nil
  | cons y t _ ih =>
    intro i
    cases i with
    | zero => exact .nil
    | succ i => exact .cons y t (ih i)
theorem c_common (w : World) (D : Addr) (o : Obj) (vs : List Value) (p q : List Bool) (h1 : IsL o vs) (hx : StrsAre vs [pt p, pt q]) (hp : p.length ≤ 1000) (hq : q.length ≤ 1000) :
    Pure w 184 9 [(D, o)] [.ref D] (GS (pt (cpre p q))) := by
  delta Pure
  k_fill
  refine enterC [((Str.ofString "paths"), .ref D)] [((Str.ofString "paths"), .ref D)] (by k_is) (by k_is) (fun _ _ => BindsTo.of_eq rfl) rfl (by decide) rfl rfl rfl (fun _ _ => rfl) ?_
  rintro c cells news rfl hcells hrd lo
  have hcells : CellsAre _ [((Str.ofString "curdir"), c.L + 2), ((Str.ofString "sep"), c.L + 1)] cells := hcells
  obtain ⟨o2, o1, rfl, h2, ho1⟩ := hcells.two
  have h2 : o2.data = .cell none := h2
  have ho1 : o1.data = .cell none := ho1
  show Exs _ _ ((c.L + 2, o2) :: (c.L + 1, o1) :: news) _ _
  have hlen : vs.length = 2 := strs_len hx
  refine Exs.asg (Ev.tupMap (b_tuple _) (b_map _) (g_fspath _).1 (EvV.name rfl rfl) ⟨o, at_rd hrd (fun q hq => List.mem_cons_of_mem _ (List.mem_cons_of_mem _ hq)) List.mem_cons_self, h1⟩ hx (by omega) (Nat.le_refl _) rfl rfl rfl rfl) (fun v N' r => ?_) rfl rfl
  obtain ⟨T, us, rfl, rfl, offT, hu⟩ := r
  have hul : us.length = 2 := strs_len hu
  obtain ⟨t0, e0⟩ := strs_at hu (i := 0) rfl
  obtain ⟨t1, e1⟩ := strs_at hu (i := 1) rfl
  refine Exs.no (Tr.not (p := true) (Jd.is (Tr.tup (EvV.name rfl rfl) (atT_own List.mem_cons_self) (by omega) rfl) (by
    cases us with
    | nil => simp at hul
    | cons => rfl))) ?_
  refine Exs.els (Tr.isBytes (EvS.of (EvV.itemT (j := 0) (EvV.name rfl rfl) EvI.lit (atT_own List.mem_cons_self) (by decide) (by decide) (by rw [hul]; rfl) e0)) rfl rfl) ?_
  have hT2 : T ≠ c.L + 2 := Ne.symm (offT _ List.mem_cons_self)
  have hT1 : T ≠ c.L + 1 := Ne.symm (offT _ (List.mem_cons_of_mem _ List.mem_cons_self))
  have h21 : c.L + 2 ≠ c.L + 1 := fun e => absurd (Nat.add_left_cancel e) (by decide)
  have nlo1 : ∀ q ∈ news, q.1 ≠ c.L + 1 := fun q hq e => absurd (lo q hq) (by rw [e]; exact Nat.not_lt.mpr (Nat.le_add_right _ _))
  have nlo2 : ∀ q ∈ news, q.1 ≠ c.L + 2 := fun q hq e => absurd (lo q hq) (by rw [e]; exact Nat.not_lt.mpr (Nat.le_add_right _ _))
  refine Exs.asCell (c := c.L + 1) rfl EvS.lit (fun v N' r => ?_) rfl rfl
  obtain ⟨⟨t2, rfl⟩, rfl⟩ := r
  refine ⟨o1, none, _, .tail hT1 (.tail h21 (.head nlo1)), ho1, fun o1' ho1 => ?_⟩
  refine Exs.asCell (c := c.L + 2) rfl EvS.lit (fun v N' r => ?_) rfl rfl
  obtain ⟨⟨t3, rfl⟩, rfl⟩ := r
  refine ⟨o2, none, _, .tail hT2 (.head fun q hq => ?_), h2, fun o2' h2 => ?_⟩
  · rcases List.mem_cons.mp hq with rfl | hq
    · exact Ne.symm h21
    · exact nlo2 q hq
  refine Exs.nil (Exs.cons (Ex.tryQ ?_))
  obtain ⟨B0, hB0⟩ : ∃ B0 : Led, B0 = (T, tupO us) :: (c.L + 2, o2') :: (c.L + 1, o1') :: news := ⟨_, rfl⟩
  have mT : (T, tupO us) ∈ B0 := by rw [hB0]; exact List.mem_cons_self
  have m2 : (c.L + 2, o2') ∈ B0 := by rw [hB0]; exact List.mem_cons_of_mem _ List.mem_cons_self
  have m1 : (c.L + 1, o1') ∈ B0 := by rw [hB0]; exact List.mem_cons_of_mem _ (List.mem_cons_of_mem _ List.mem_cons_self)
  have mN : ∀ q ∈ news, q ∈ B0 := fun q hq => by rw [hB0]; exact List.mem_cons_of_mem _ (List.mem_cons_of_mem _ (List.mem_cons_of_mem _ hq))
  rw [← hB0]
  clear hB0
  have key : ∀ {i : Nat} {x : Str} {xs : List Str}, [pt p, pt q][i]? = some x → [parts p, parts q][i]? = some xs → ∃ r, x = pt r ∧ xs = parts r ∧ r.length ≤ 1000 := by
    intro i x xs a b
    match i, a, b with
    | 0, a, b => exact ⟨p, (Option.some.inj a).symm, (Option.some.inj b).symm, hp⟩
    | 1, a, b => exact ⟨q, (Option.some.inj a).symm, (Option.some.inj b).symm, hq⟩
    | i + 2, a, b => simp at a
  refine Exs.asC (n := us.length) (LsJ B0 [parts p, parts q]) (Src.seq (ax := T) (o := tupO us) ((EvV.name (v := .ref T) rfl rfl).mono fun v N' r => ⟨r.1, by rw [r.2]; exact .inl mT, by rw [r.2]; exact ⟨fun _ h => h, .nil⟩⟩) ⟨.inr rfl, _, rfl⟩) (fun C => Takes.name (VP := fun i v => us[i]? = some v) (fun i v hp h => h) rfl rfl) (by omega)
    (ls_turn (by rw [hul]; rfl) fun i xs m X Wl C oC N' hr hV TT hB => ?_) (fun L1 ys N' off j => ?_) rfl rfl rfl rfl (fun _ => rfl)
  · obtain ⟨u, em, eu⟩ := hV
    obtain ⟨x, t, e3, e4⟩ := strs_get hu eu
    subst e3
    obtain ⟨r, rfl, rfl, hr'⟩ := key e4 hr
    have hl2 := parts_len r
    have hl3 := pt_len r
    exact (Ev.split (EvS.of (EvV.cn TT (fun q hq => List.mem_append_left _ hq) em rfl)) (EvS.of (EvV.ccell (c := c.L + 1) rfl (List.mem_append_right _ (hB _ m1)) ho1 rfl)) rfl (by unfold Sz; omega) (by rw [split_pt]; omega) ⟨_, rfl⟩).jd.mono fun v N₃ q => by rw [split_pt] at q; exact q
  obtain ⟨hB1, hA1⟩ := j
  have offL1 : ∀ p ∈ N', p.1 ≠ L1 := off
  obtain ⟨N2, hN2⟩ : ∃ N2 : Led, N2 = (L1, lsO ys) :: N' := ⟨_, rfl⟩
  have mL1 : (L1, lsO ys) ∈ N2 := by rw [hN2]; exact List.mem_cons_self
  have sB2 : ∀ p ∈ B0, p ∈ N2 := fun p hp => by rw [hN2]; exact List.mem_cons_of_mem _ (hB1 p hp)
  have hA2 : All2 (LsAt N2) ys [parts p, parts q] := by
    rw [hul] at hA1
    exact hA1.mono fun a x h => h.more fun p hp => by rw [hN2]; exact List.mem_cons_of_mem _ hp
  have hyl : ys.length = 2 := hA2.len
  rw [← hN2]
  clear hN2 hA1 hB1 off offL1
  refine Exs.cons (Ex.tryQ (Exs.asSet (R := fun N'' => ∃ D, N'' = (D, sO c.w [.bool true]) :: N2) (Ev.scomp (n := us.length) (fun i zs N'' => N'' = N2 ∧ zs.length = i ∧ ∀ y ∈ zs, y = .bool true) (fun i zs N'' j => j.2.2)
    (Src.seq (ax := T) (o := tupO us) ((EvV.name (v := .ref T) rfl rfl).mono fun v N' r => ⟨r.1, by rw [r.2]; exact .inl (sB2 _ mT), by rw [r.2]; exact ⟨rfl, rfl, fun _ h => nomatch h⟩⟩) ⟨.inr rfl, _, rfl⟩) (fun C => Takes.name (VP := fun i v => us[i]? = some v) (fun i v hp h => h) rfl rfl) (by omega) ?_ ?_ rfl rfl (fun _ => rfl)) ?_ rfl rfl rfl))
  · rintro i zs N' X Wl C oC m hi ⟨u, em, eu⟩ TT ⟨rfl, hz, hzt⟩
    obtain ⟨x, t, e3, e4⟩ := strs_get hu eu
    subst e3
    have hr : ∃ r, x = pt r := by
      match i, e4 with
      | 0, a => exact ⟨p, (Option.some.inj a).symm⟩
      | 1, a => exact ⟨q, (Option.some.inj a).symm⟩
      | i + 2, a => simp at a
    obtain ⟨r, rfl⟩ := hr
    refine CTurn.none ((EvV.starts (EvS.of (EvV.cn TT (fun q hq => List.mem_append_left _ hq) em rfl)) (EvS.of (EvV.ccell (c := c.L + 1) rfl (List.mem_append_right _ (sB2 _ m1)) ho1 rfl)) ⟨_, rfl⟩).jd.mono fun v N₃ q => ?_)
    obtain ⟨rfl, rfl⟩ := q
    have es : Txt.startswith (pt r) (Str.ofString "/") = true := starts_st _
    rw [es]
    refine ⟨_, fun q hq => List.mem_append_left _ hq, fun q hq => List.mem_append_right _ hq, TT.off, rfl, by rw [List.length_append, hz]; rfl, fun y hy => ?_⟩
    rcases List.mem_append.mp hy with hy | hy
    · exact hzt y hy
    · exact List.mem_singleton.mp hy
  · rintro D2 zs N' offD ⟨rfl, hz, hzt⟩
    rw [hul] at hz
    have e5 : sO c.w zs = sO c.w [.bool true] := by
      cases zs with
      | nil => simp at hz
      | cons => rfl
    rw [e5]
    exact ⟨D2, rfl, List.mem_cons_self, D2, rfl⟩
  rintro N3 ⟨D2, rfl⟩
  refine Exs.nil ?_
  obtain ⟨N3, hN3⟩ : ∃ N3 : Led, N3 = (D2, sO c.w [.bool true]) :: N2 := ⟨_, rfl⟩
  have s23 : ∀ p ∈ N2, p ∈ N3 := fun p hp => by rw [hN3]; exact List.mem_cons_of_mem _ hp
  rw [← hN3]
  clear hN3
  have mL3 : (L1, lsO ys) ∈ N3 := s23 _ mL1
  have sB3 : ∀ p ∈ B0, p ∈ N3 := fun p hp => s23 _ (sB2 p hp)
  refine Exs.asC (n := ys.length) (LsJ N3 [p.map nm, q.map nm]) (Src.seq (ax := L1) (o := lsO ys) ((EvV.name (v := .ref L1) rfl rfl).mono fun v N' r => ⟨r.1, by rw [r.2]; exact .inl mL3, by rw [r.2]; exact ⟨fun _ h => h, .nil⟩⟩) ⟨.inl rfl, _, rfl⟩) (fun C => Takes.name (VP := fun i v => ys[i]? = some v) (fun i v hp h => h) rfl rfl) (by omega)
    (ls_turn (by rw [hyl]; rfl) fun i xs m X Wl C oC N' hr hV TT hB => ?_) (fun L2 zs N4 off j => ?_) rfl rfl rfl rfl (fun _ => rfl)
  · obtain ⟨u, em, eu⟩ := hV
    obtain ⟨x, ex, hx3⟩ := hA2.get eu
    have hr : ∃ r, x = parts r ∧ xs = r.map nm ∧ r.length ≤ 1000 := by
      match i, ex, hr with
      | 0, a, b => exact ⟨p, (Option.some.inj a).symm, (Option.some.inj b).symm, hp⟩
      | 1, a, b => exact ⟨q, (Option.some.inj a).symm, (Option.some.inj b).symm, hq⟩
      | i + 2, a, b => simp at a
    obtain ⟨r, rfl, rfl, hr1⟩ := hr
    obtain ⟨Ds, its, k, rfl, mDs, hst⟩ := hx3
    have hl2 := parts_len r
    have hl3 := strs_len hst
    have mDs' : (Ds, W.listOf its k) ∈ X ++ N' := List.mem_append_right _ (hB _ (s23 _ mDs))
    refine (Ev.lcomp (R := NewL (X ++ N') fun vs => StrsAre vs (r.map nm)) (n := its.toList.length) (fun j zs N'' => N'' = X ++ N' ∧ All2 (fun v x => ∃ t, v = .str x t) zs (((parts r).take j).filter okC)) (Src.seq (ax := Ds) (o := W.listOf its k) ((EvV.cn TT (fun q hq => List.mem_append_left _ hq) em rfl).mono fun v N' r => ⟨r.1, by rw [r.2]; exact .inl mDs', by rw [r.2]; exact ⟨rfl, .nil⟩⟩) ⟨.inl rfl, k, by simp [W.listOf]⟩) (fun C' => Takes.name (VP := fun j v => its.toList[j]? = some v) (fun i v hp h => h) rfl rfl) (by omega)
      (filt_turn okC hl3 (fun j x m' X' W' C' oC' hx4 hV' TT' ht => ?_) fun j x m' X' W' C' oC' hx4 hV' TT' => ?_) (fun D3 zs N'' off j => ?_) rfl rfl (fun _ => rfl)).jd
    · obtain ⟨u, em', eu'⟩ := hV'
      obtain ⟨x', t, e3, e4⟩ := strs_get hst eu'
      subst e3
      obtain rfl := Option.some.inj (e4.symm.trans hx4)
      exact (EvV.cn TT' (fun q hq => List.mem_append_left _ hq) em' rfl).jd.mono fun v N₃ q => by obtain ⟨rfl, rfl⟩ := q; exact ⟨fun _ h => h, t, rfl⟩
    · obtain ⟨u, em', eu'⟩ := hV'
      obtain ⟨x', t, e3, e4⟩ := strs_get hst eu'
      subst e3
      obtain rfl := Option.some.inj (e4.symm.trans hx4)
      have hsz := parts_sz (List.mem_of_getElem? e4)
      exact Tr.all (jd_and (Tr.str (EvS.of (EvV.cn TT' (fun q hq => List.mem_append_left _ hq) em' rfl)) (by unfold Sz; omega) rfl) fun _ => jd_and (Tr.neS (EvS.of (EvV.cn TT' (fun q hq => List.mem_append_left _ hq) em' rfl)) (EvS.of (EvV.ccell (c := c.L + 2) rfl (List.mem_append_right _ (List.mem_append_right _ (hB _ (sB3 _ m2)))) h2 rfl))) fun _ => jd_and0)
    · obtain ⟨rfl, hA⟩ := j
      rw [hl3, List.take_length, filt_parts] at hA
      exact ⟨D3, zs.toArray, zs.length, rfl, rfl, off, all2_strs hA⟩
  obtain ⟨hB4, hA4⟩ := j
  rw [hyl] at hA4
  obtain ⟨A, A', ia, ib, na, nb, rfl, mA, mA', hsa, hsb⟩ : ∃ A A' ia ib na nb, zs = [.ref A, .ref A'] ∧ (A, W.listOf ia na) ∈ N4 ∧ (A', W.listOf ib nb) ∈ N4 ∧ StrsAre ia.toList (p.map nm) ∧ StrsAre ib.toList (q.map nm) := by
    cases hA4 with
    | cons a r =>
      cases r with
      | cons b r =>
        cases r
        obtain ⟨A, ia, na, rfl, mA, hsa⟩ := a
        obtain ⟨A', ib, nb, rfl, mA', hsb⟩ := b
        exact ⟨A, A', ia, ib, na, nb, rfl, mA, mA', hsa, hsb⟩
  obtain ⟨N5, hN5⟩ : ∃ N5 : Led, N5 = (L2, lsO [.ref A, .ref A']) :: N4 := ⟨_, rfl⟩
  have mL5 : (L2, lsO [.ref A, .ref A']) ∈ N5 := by rw [hN5]; exact List.mem_cons_self
  have s45 : ∀ p ∈ N4, p ∈ N5 := fun p hp => by rw [hN5]; exact List.mem_cons_of_mem _ hp
  have sB5 : ∀ p ∈ B0, p ∈ N5 := fun p hp => s45 _ (hB4 _ (sB3 p hp))
  rw [← hN5]
  clear hN5
  refine Exs.asV (EvV.min2 (b_min _) (EvV.name rfl rfl) (atL_lst mL5) (s45 _ mA) (s45 _ mA') hsa hsb rfl) ?_ rfl rfl
  refine Exs.asV (EvV.max2 (b_max _) (EvV.name rfl rfl) (atL_lst mL5) (s45 _ mA) (s45 _ mA') hsa hsb rfl) ?_ rfl rfl
  rw [ltL_nm, gtL_nm]
  obtain ⟨sa, esa⟩ : ∃ sa, sa = if ltP q p then q else p := ⟨_, rfl⟩
  obtain ⟨sb, esb⟩ : ∃ sb, sb = if gtP q p then q else p := ⟨_, rfl⟩
  obtain ⟨hG, hcp⟩ := min_max p q sa sb esa esb
  obtain ⟨V1, i1, n1, ev1, mV1, hs1⟩ : ∃ V1 i1 n1, (if ltP q p = true then Value.ref A' else .ref A) = .ref V1 ∧ (V1, W.listOf i1 n1) ∈ N5 ∧ StrsAre i1.toList (sa.map nm) := by
    cases hq : ltP q p with
    | true => rw [hq] at esa; exact ⟨A', ib, nb, rfl, s45 _ mA', by rw [esa]; exact hsb⟩
    | false => rw [hq] at esa; exact ⟨A, ia, na, rfl, s45 _ mA, by rw [esa]; exact hsa⟩
  obtain ⟨V2, i2, n2, ev2, mV2, hs2⟩ : ∃ V2 i2 n2, (if gtP q p = true then Value.ref A' else .ref A) = .ref V2 ∧ (V2, W.listOf i2 n2) ∈ N5 ∧ StrsAre i2.toList (sb.map nm) := by
    cases hq : gtP q p with
    | true => rw [hq] at esb; exact ⟨A', ib, nb, rfl, s45 _ mA', by rw [esb]; exact hsb⟩
    | false => rw [hq] at esb; exact ⟨A, ia, na, rfl, s45 _ mA, by rw [esb]; exact hsa⟩
  rw [ev1, ev2]
  have hsal : sa.length ≤ 1000 := by rw [esa]; split <;> omega
  refine Exs.asV (y := .ref V1) (EvV.name rfl rfl) ?_ rfl rfl
  have hl1 : i1.toList.length = sa.length := by rw [strs_len hs1, List.length_map]
  refine Exs.cons (Js.mono (K := fun fl b' N' => fl = .next ∧ ∃ C ic nc, bget b' (Str.ofString "common") = some (.ref C) ∧ (C, W.listOf ic nc) ∈ N' ∧ StrsAre ic.toList ((cpre p q).map nm) ∧ bget b' (Str.ofString "isabs") = some (.bool true) ∧ ∀ q ∈ N5, q ∈ N')
    (Ex.forP (n := i1.toList.length) (VP := fun i u v => (∃ t, u = .int (i : Int) t) ∧ i1.toList[i]? = some v) (fun i b' N' => N' = N5 ∧ sa.take i = sb.take i ∧ bget b' (Str.ofString "s1") = some (.ref V1) ∧ bget b' (Str.ofString "s2") = some (.ref V2) ∧ bget b' (Str.ofString "common") = some (.ref V1) ∧ bget b' (Str.ofString "isabs") = some (.bool true))
      (Src.enum (l := V1) (xs := i1.toList) (b_enumerate _) ((Ags.oneV (a := .ref V1) (EvV.name rfl rfl)).mono fun vs N' r => ⟨r.1, by rw [r.2]; exact atL_own mV1, by rw [r.2]; exact ⟨rfl, rfl, rfl, rfl, rfl, rfl⟩⟩) rfl ⟨pe_name, trivial⟩) (fun i v hp h => ?_) ?_ ?_ (fun _ => rfl) rfl rfl) ?_)
  · obtain ⟨T', t, u, rfl, hT, hu'⟩ := h
    exact ⟨T', _, _, rfl, hT, ⟨t, rfl⟩, hu'⟩
  · rintro i u₁ u₂ b' N' X Wl hi ⟨⟨t, rfl⟩, hv⟩ IL ⟨rfl, htk, b1, b2, b3, b4⟩
    obtain ⟨x, t', rfl, hxi⟩ := strs_get hs1 hv
    have hil : i < sa.length := hl1 ▸ hi
    have hi2 := hG i hil htk
    have ga : sa[i]? = some sa[i] := List.getElem?_eq_getElem hil
    have gb : sb[i]? = some sb[i] := List.getElem?_eq_getElem hi2
    have hxe : x = nm sa[i] := by
      rw [List.getElem?_map, ga] at hxi
      exact (Option.some.inj hxi).symm
    subst hxe
    obtain ⟨t4, hy⟩ := strs_at hs2 (i := i) (x := nm sb[i]) (by rw [List.getElem?_map, gb]; rfl)
    refine Exs.ifs (Tr.neS (EvS.of (EvV.name rfl rfl)) (EvS.of (EvV.itemL (k := (i : Int)) (EvV.name (bset _ (by decide) |>.trans (bset _ (by decide) |>.trans b2)) rfl) (EvI.of (EvV.name rfl rfl)) (atL_own (List.mem_append_right _ mV2)) (by omega) (by omega) (by simpa using hy)))) (fun hne => ?_) fun hne => ?_
    · have hne2 : sa[i] ≠ sb[i] := fun e => by rw [e] at hne; simp at hne
      refine Exs.asL (Ev.uptoL (EvV.name (bset _ (by decide) |>.trans (bset _ (by decide) |>.trans b1)) rfl) (atL_own (List.mem_append_right _ mV1)) (by omega) (EvI.of (EvV.name rfl rfl)) (fun _ _ => rfl)) (fun Dc ic nc offc hc => ?_) rfl rfl
      refine Exs.cons (Ex.brk ⟨rfl, Dc, ic, nc, rfl, List.mem_cons_self, ?_, (bset _ (by decide) |>.trans (bset _ (by decide) |>.trans (bset _ (by decide) |>.trans b4))), fun q hq => List.mem_cons_of_mem _ (List.mem_append_right _ hq)⟩)
      rw [hc, ← hcp, cpre_at htk ga gb hne2, List.map_take]
      exact strs_take hs1 i
    · have heq : sa[i] = sb[i] := nm_inj (by simpa using hne)
      refine Exs.nil (Exs.nil ⟨N', fun q hq => List.mem_append_left _ hq, fun q hq => List.mem_append_right _ hq, IL.off, rfl, ?_, (bset _ (by decide) |>.trans (bset _ (by decide) |>.trans b1)), (bset _ (by decide) |>.trans (bset _ (by decide) |>.trans b2)), (bset _ (by decide) |>.trans (bset _ (by decide) |>.trans b3)), (bset _ (by decide) |>.trans (bset _ (by decide) |>.trans b4))⟩)
      rw [List.take_add_one, List.take_add_one, ga, gb, htk, heq]
  · rintro b' N' ⟨rfl, htk, b1, b2, b3, b4⟩
    refine ⟨rfl, V1, i1, n1, b3, mV1, ?_, b4, fun _ h => h⟩
    rw [hl1, List.take_length] at htk
    rw [← hcp, cpre_all htk]
    exact hs1
  · rintro fl b' N' ⟨rfl, C, ic, nc, b1, mC, hsC, b2, sN⟩
    have hcl := cpre_len p q
    refine Exs.asS (Ev.ifx (p := true) (Tr.ofB (EvV.name b2 rfl) rfl) (fun _ => EvS.of (EvV.cell (c := c.L + 1) rfl (sN _ (sB5 _ m1)) ho1 rfl)) fun h => nomatch h) (fun t5 => ?_) rfl rfl
    refine Exs.retS (EvS.add (EvS.of (EvV.name rfl rfl)) (EvS.joinL (xs := (cpre p q).map nm) (EvS.of (EvV.cell (c := c.L + 1) rfl (sN _ (sB5 _ m1)) ho1 rfl)) (EvV.name (bset _ (by decide) |>.trans b1) rfl) mC hsC ?_ ⟨_, rfl⟩) (Nat.le_of_ble_eq_true rfl) ?_) fun t6 => ?_
    · rw [sum_nm, List.length_map]
      show _ + _ * 1 ≤ _
      omega
    · have := pt_len (cpre p q)
      have e : (pt (cpre p q)).length = 1 + (Txt.join (Str.ofString "/") ((cpre p q).map nm)).length := by
        show (Str.ofString "/" ++ _).length = _
        rw [strLen_append]; rfl
      unfold Sz; omega
    · exact RetC.mk (b := []) (fun q hq => sN _ (sB5 _ (mN q hq))) (GS.of rfl)
end Mine
end
section
open PySem PySem.W PyProof.Rows PySem.Calls
set_option Elab.async false
set_option maxRecDepth 100000
set_option maxHeartbeats 4000000
set_option linter.unusedVariables false
namespace Mine
def TurnT (K : Fx → Flow → Binds → Led → Prop) (I : Addr) (oI : Obj) (Jn : Binds → Led → Prop) : Fx → Flow → Binds → Led → Prop
  | f, .ret v, b, N => K f (.ret v) b N
  | f, .brk, b, N => K f .next b N
  | _, _, b, N => ∃ N'', (I, oI) ∈ N ∧ (∀ p ∈ N'', p ∈ N) ∧ (∀ p ∈ N'', p.1 ≠ I) ∧ Jn b N''
section
variable {f : Fx} {b : Binds} {N : Led} {K : Fx → Flow → Binds → Led → Prop} {rest : List Stmt}
/-- a loop over a list of one's own, whose body turns the ground -/
theorem ExT.forL {x : Str} {px pos : Pos} {iter : Expr} {body : List Stmt} {vs : List Value} {ax : Addr} {o : Obj} (J : Nat → Binds → Led → Prop)
    (hi : EvV f f.env b N iter (.ref ax)) (ho : IsL o vs) (hat : ∀ i b' N', J i b' N' → (ax, o) ∈ N') (j0 : J 0 b N)
    (turn : ∀ i v b' N' I oI g, vs[i]? = some v → J i b' N' → (∀ p ∈ N', p.1 ≠ I) → Turned f g → ExsT (f.at g) ((x, some v) :: b') ((I, oI) :: N') body (TurnT K I oI (J (i + 1))))
    (done : ∀ b' N' g, Turned f g → J vs.length b' N' → K (f.at g) .next b' N') (hf : ∀ x, foldedSetIterable iter f.env x = pure x) (l : lB f.cs x .local = true) : ExT f b N (.For (.Name x px) iter body [] pos) K := by
  intro s Q E tu po F M q
  refine wpAny_For (hi.jd s _ _ tu.ok.ok F M fun v h tk N₁ F₁ M₁ r => ?_) hf
  obtain ⟨rfl, rfl⟩ := r
  have hax := (M₁ _ (hat _ _ _ j0)).1
  obtain ⟨oc, on, od⟩ := ho
  have hls : h.IsList ax vs.toArray := ⟨o, hax, oc, on, od⟩
  have hlt : ax < h.objs.size := Heap.lt_size hax
  have hne : ax ≠ h.objs.size := Nat.ne_of_lt hlt
  refine wpAny_pyIter_list hls ?_
  have W := Walks.list (prog := PP) (w := f.c.w) (A := f.A) rfl h.objs.size ax hne vs.toArray
  have gI : f.c.g.get? h.objs.size = none := next_is_new F₁
  refine codeAny_forLoop_any (fun k s' => ∃ g h' tk' b' N' i, s' = { s with heap := h', toks := tk' } ∧ (h'.IsListIter h.objs.size ax i ∧ h'.IsList ax vs.toArray) ∧ Turned f g ∧ (f.at g).F h' b' ∧ (f.at g).N h' N' ∧ (∀ p ∈ N', p.1 ≠ h.objs.size) ∧ f.c.L ≠ h.objs.size ∧ J i b' N' ∧ i ≤ vs.length ∧ k = vs.length + 1 - i) ?_ (vs.length + 1)
    ⟨f.c.g, _, tk, b, N₁, 0, rfl, ⟨⟨_, Heap.get?_push_size _ rfl, rfl, rfl⟩, hls.push _⟩, tu, F₁.push _, fun p hp => ⟨Heap.get?_push_of_some _ (M₁ p hp).1, (M₁ p hp).2⟩, fun p hp => Nat.ne_of_lt (Heap.lt_size (M₁ p hp).1), Nat.ne_of_lt F₁.ns.lt, j0, Nat.zero_le _, rfl⟩
  rintro k s' ⟨g, h', tk', b', N', i, rfl, hst, T, F', M', off, hL, hJ, hil, rfl⟩
  have gI' : g.get? h.objs.size = none := T.t.none_ _ gI
  have next : ∀ h₁ : Heap, (∀ b o, b ∉ [h.objs.size] → h'.get? b = some o → h₁.get? b = some o) → (f.at g).F h₁ b' ∧ (f.at g).N h₁ N' := fun h₁ hk₁ =>
    ⟨⟨F'.ns.at' fun o e => hk₁ _ o (by simpa using hL) e, fun b o e => hk₁ b o (fun hm => by
      rw [List.mem_singleton.mp hm] at e
      have e : g.get? h.objs.size = some o := e
      rw [gI'] at e; cases e) (F'.keep b o e), F'.above⟩, fun p hp => ⟨hk₁ _ _ (by simpa using off p hp) (M' p hp).1, (M' p hp).2⟩⟩
  by_cases hi2 : i < vs.length
  · refine W.item i _ _ _ (by simpa using hi2) hst fun v h₁ tk₁ hP hst₁ hk₁ => wpAny_pure ?_
    have hP : vs[i]? = some v := by simpa using hP
    obtain ⟨F₂, M₂⟩ := next h₁ hk₁
    obtain ⟨oI, hoI, hoc, hod⟩ := id hst₁.1
    have M₃ : (f.at g).N h₁ ((h.objs.size, oI) :: N') := fun p hp => by
      rcases List.mem_cons.mp hp with rfl | hp
      · exact ⟨hoI, Ne.symm hL, gI'⟩
      · exact M₂ p hp
    refine wpAny_mono (E := E) (Q := fun _ s₂ => wpAny (model PP f.c.w) f.A (execs body f.env) (fun fl s₃ => match fl with
            | .next | .cont => ∃ m, m < vs.length + 1 - i ∧ ∃ g h' tk' b' N' i, s₃ = { s with heap := h', toks := tk' } ∧ (h'.IsListIter h.objs.size ax i ∧ h'.IsList ax vs.toArray) ∧ Turned f g ∧ (f.at g).F h' b' ∧ (f.at g).N h' N' ∧ (∀ p ∈ N', p.1 ≠ h.objs.size) ∧ f.c.L ≠ h.objs.size ∧ J i b' N' ∧ i ≤ vs.length ∧ m = vs.length + 1 - i
            | .brk => Q .next s₃
            | .ret v => Q (.ret v) s₃) E s₂) ?_ (fun _ s₂ hb => wpAny_mono hb (fun fl _ x => by cases fl <;> exact x) po) po
    refine assign_Name (storeX_L F₂ M₃ (fun h₃ F₃ M₄ => ?_) (lB_ok l).1 (lB_ok l).2.1)
    refine turn i v b' N' _ oI g hP hJ off T _ _ _ ⟨KtsTurn.refl, T.ok, T.d⟩ po (put_frw F₃) M₄ fun g' fl b2 h₄ tk₄ N₄ T₄ F₄ M₄ r => ?_
    have key : (∃ N'', (h.objs.size, oI) ∈ N₄ ∧ (∀ p ∈ N'', p ∈ N₄) ∧ (∀ p ∈ N'', p.1 ≠ h.objs.size) ∧ J (i + 1) b2 N'') → ∃ m, m < vs.length + 1 - i ∧ ∃ g h' tk' b' N' i, ({ s with heap := h₄, toks := tk₄ } : Shared) = { s with heap := h', toks := tk' } ∧ (h'.IsListIter h.objs.size ax i ∧ h'.IsList ax vs.toArray) ∧ Turned f g ∧ (f.at g).F h' b' ∧ (f.at g).N h' N' ∧ (∀ p ∈ N', p.1 ≠ h.objs.size) ∧ f.c.L ≠ h.objs.size ∧ J i b' N' ∧ i ≤ vs.length ∧ m = vs.length + 1 - i := fun ⟨N'', k1, k2, k3, k4⟩ =>
      ⟨vs.length + 1 - (i + 1), by omega, g', h₄, tk₄, b2, N'', i + 1, rfl, ⟨⟨oI, (M₄ _ k1).1, hoc, hod⟩, ⟨o, (M₄ _ (k2 _ (hat _ _ _ k4))).1, oc, on, od⟩⟩, T.trans T₄, F₄, fun p hp => M₄ p (k2 p hp), k3, hL, k4, hi2, rfl⟩
    cases fl
    · exact key r
    · exact q _ _ _ _ _ _ (T.trans T₄) F₄ M₄ r
    · exact key r
    · exact q _ _ _ _ _ _ (T.trans T₄) F₄ M₄ r
  · have hin : i = vs.length := by omega
    subst hin
    refine W.done _ _ _ (by simpa using hst) fun h₁ tk₁ hk₁ => wpAny_execs_nil ?_
    obtain ⟨F₂, M₂⟩ := next h₁ hk₁
    exact q _ _ _ _ _ _ T F₂ M₂ (done b' N' g T hJ)
end
end Mine
end
section
open PySem PySem.W PyProof.Rows PySem.Calls
set_option Elab.async false
set_option maxRecDepth 100000
set_option maxHeartbeats 4000000
set_option linter.unusedVariables false
namespace Mine
/-- a contract of a def's code, that takes its caller's whole ledger -/
def CodeK (w : World) (ad : Addr) (dz : Nat) (vs : List Value) (N : Led) (R : Value → Led → Prop) : Prop :=
  ∀ (mean : ExcName → Option Value) (mg mb : Str → Option Value) (dp un : Nat) (gd : Option (List Code)) (env : Env) (outer : List Env) (A₀ : Around) (base h₀ : Heap) (L : Addr) (m : Str → Option Value) (s : Shared) (RR : Result → Shared → Prop)
    (_B : Below A₀ base outer h₀) (_X₀ : (Mine.hd.heap_1 (w).params).In h₀) (_T : Top VV LL mean mg mb h₀) (_hf : env.frame = some L) (_hke : env.scope.kind = .function) (_h1 : dp + dz < recursionLimit) (_h2 : un + 8 * dz + 8 < cLine) (_F : Fr h₀ L s.heap m) (_M : News h₀ L s.heap N)
    (_ret : ∀ r h' tk' N', Fr h₀ L h' m → News h₀ L h' N' → R r N' → RR (.ok (.ret r)) { s with heap := h', toks := tk' }),
    codeAny (model PP w) (topA dp un gd env outer) (.call (.ref ad) ⟨vs, []⟩) RR s
theorem enterK {w : World} {dz : Nat} {N : Led} {vs : List Value} {R : Value → Led → Prop} {name qual : Str} {params : Arguments} {body : List Stmt} {scope : Scope} {dV kV doc pm cdv ct oc : Value} {an od : Option Addr} {osl : Array (Option Value)} {ad : Addr} (bl : List (Str × Value))
    (ho : (Mine.hd.heap_1 (w).params).lookup ad = some ⟨oc, od, .func (fnOf name qual params body scope dV kV doc pm an cdv ct), osl⟩) (hcd : codeIn (Mine.hd.heap_1 (w).params) cdv qual = true)
    (hbind : ∀ s, (Mine.hd.heap_1 (w).params).In s.heap → BindsTo s (fnOf name qual params body scope dV kV doc pm an cdv ct) ⟨vs, []⟩ bl.reverse) (hloc : ∀ y ∈ bl.reverse, scope.names.lookup y.1 = some .local)
    (hco : scope.isCoroutine = false) (hgen : scope.isGenerator = false) (hk : scope.kind = .function)
    (hcell : ∀ x ∈ scope.names, x.2 ≠ .cell)
    (h : ∀ c : Cx, c.w = w → Exs ⟨c, dz, scope, []⟩ (ofB bl) N body (fun fl _ N' => ∃ r, (fl = .ret r ∨ (fl = .next ∧ r = .none)) ∧ R r N')) : CodeK w ad (dz + 1) vs N R := by
  intro mean mg mb dp un gd env outer A₀ base h₀ L m s RR B X₀ T hf hke h1 h2 F M ret
  have XS := X₀.keeps F.keep
  refine code_def B F X₀ M T rfl hf hke ho hcd (by show dp < recursionLimit; omega) (hbind s XS) hloc (fun g L' h₁ FG F' N' B' X' T' => ?_) hco hgen hk hcell
  rw [List.reverse_reverse] at F'
  refine wpAny_mono (h ⟨w, mean, mg, mb, dp + 1, un + 3, gd, env :: outer, topA dp un gd env outer, base, g, L', qual, cdv, ad⟩ rfl _ (fun fl s' => LeaveK h₀ L m g RR (match fl with | .ret v => v | _ => .none) s') never
    ⟨B', X', T', by show dp + 1 + dz < _; omega, by show un + 3 + 8 * dz + 8 < _; omega⟩ (ofB_frw F') N' ?_) (fun _ _ q => q) fun _ _ e => e.elim
  rintro fl b' h₂ tk₂ nw F₂ N₂ ⟨r, hv, hr⟩
  rcases hv with rfl | ⟨rfl, rfl⟩ <;> exact leaveK_ F₂ N₂ fun kF kN => ret _ _ _ _ kF kN hr
section
variable {f : Fx} {b : Binds} {N : Led} {K : Flow → Binds → Led → Prop}
/-- o.name = e, o an object of the ledger -/
theorem Ex.setA {o e : Expr} {name : Str} {p1 pos : Pos} {x C dx : Addr} {sl : Array (Option Value)} {R : Value → Led → Prop} (he : Ev f f.env b N e R)
    (hk : ∀ v N₁, R v N₁ → ∃ es n, EvV f f.env b N₁ o (.ref x) ∧ (x, (⟨.ref C, some dx, .plain, sl⟩ : Obj)) ∈ N₁ ∧ (dx, dictOf es n) ∈ N₁ ∧ (getL name es).isSome = true ∧ es.length ≤ 900 ∧ ∀ hs t, K .next b (put N₁ dx (dictOf (putL name hs (.str name t) v es) (putN name es n))))
    (hsa : findIn (Mine.hd.heap_1 (f.c.w).params) (.ref C) "__setattr__" = some (some (.builtin "object.__setattr__"))) (hp : plainOver (Mine.hd.heap_1 (f.c.w).params) C = true) (ht : takerIn (Mine.hd.heap_1 (f.c.w).params) C name = some none) (hh : hasDictIn (Mine.hd.heap_1 (f.c.w).params) C = true)
    (hs : swapsWith e (some (.Attribute o name p1)) pos.line f.env = pure false) : Ex f b N (.Assign [.Attribute o name p1] e pos) K :=
  fun s _ _ ok F M q => plainObj_wpAny_Assign_Attribute (he.jd s _ _ ok F M fun v h tk N₁ F₁ M₁ r => by
    obtain ⟨es, n, ho, m1, m2, hl, hz, kk⟩ := hk v N₁ r
    refine ho.jd _ _ _ ok F₁ M₁ fun ov h tk N₂ F₂ M₂ r₂ => ?_
    obtain ⟨rfl, rfl⟩ := r₂
    have hz2 : (putL name (PyData.keyHash f.c.w.params name) (.str name (tk + 1)) v es).length ≤ 1000 := by
      have : ∀ (hsh : Int) (key v : Value) (es : List DictEntry), (putL name hsh key v es).length ≤ es.length + 1 := fun hsh key v es => by
        induction es with
        | nil => simp [putL]
        | cons e r ih => unfold putL; split <;> simp <;> omega
      have := this (PyData.keyHash f.c.w.params name) (.str name (tk + 1)) v es
      omega
    exact set_dict (s := { s with heap := h, toks := tk }) (news := put N₂ dx (dictOf es n)) F₂ ok.X (fun p hp => M₂ p (put_sub m2 p hp)) (InstAt.of_news M₂ m1 m2) rfl hsa hp ht hh hl rfl (.head put_off) hz2 fun h' F' N' => q _ _ _ _ _ F' N' (kk _ _)) hs
end
end Mine
end
section
open PySem PySem.W PyProof.Rows PySem.Calls
set_option Elab.async false
set_option maxRecDepth 100000
set_option maxHeartbeats 4000000
set_option linter.unusedVariables false
namespace Mine
/-- a ledger that says one thing of an address -/
def LFun (N : Led) : Prop := ∀ a o o', (a, o) ∈ N → (a, o') ∈ N → o = o'
theorem news_fun {g h : Heap} {L : Addr} {N : Led} (M : News g L h N) : LFun N := fun a o o' h1 h2 => by
  have e1 := (M _ h1).1
  have e2 := (M _ h2).1
  simp only at e1 e2
  rw [e1] at e2
  exact Option.some.inj e2
section
variable {f : Fx} {b : Binds} {N : Led} {K : Fx → Flow → Binds → Led → Prop} {rest : List Stmt} {en : Env}
theorem ExsT.lfun {sts : List Stmt} (h : LFun N → ExsT f b N sts K) : ExsT f b N sts K := fun s Q E tu po F M q => h (news_fun M) s Q E tu po F M q
theorem Exs.lfun {sts : List Stmt} {K : Flow → Binds → Led → Prop} (h : LFun N → Exs f b N sts K) : Exs f b N sts K := fun s Q E ok F M q => h (news_fun M) s Q E ok F M q
theorem JsT.binds {t : Sem Flow} {b₂ : Binds} (h : JsT f b₂ N t K) (e : ∀ y, bget b y = bget b₂ y) : JsT f b N t K := fun s Q E tu po F N q => h s Q E tu po (frw F e) N q
theorem ExsT.asg {x : Str} {e : Expr} {px pos : Pos} {R : Value → Led → Prop} (h : Ev f f.env b N e R) (k : ∀ v N', R v N' → ExsT f ((x, some (v)) :: b) N' rest K)
    (hs : swapsWith e (some (.Name x px)) pos.line f.env = pure false) (l : lB f.cs x .local = true) : ExsT f b N (.Assign [.Name x px] e pos :: rest) K := ExsT.step (Ex.asg h (fun v N' r => ⟨rfl, k v N' r⟩) hs l)
theorem ExsT.asS {x : Str} {e : Expr} {px pos : Pos} {y : Str} (h : EvS f f.env b N e y) (k : ∀ t, ExsT f ((x, some (.str y t)) :: b) N rest K)
    (hs : swapsWith e (some (.Name x px)) pos.line f.env = pure false) (l : lB f.cs x .local = true) : ExsT f b N (.Assign [.Name x px] e pos :: rest) K := ExsT.asg h (fun v N' ⟨⟨t, e⟩, e2⟩ => by subst e e2; exact k t) hs l
theorem ExsT.asI {x : Str} {e : Expr} {px pos : Pos} {y : Int} (h : EvI f f.env b N e y) (k : ∀ t, ExsT f ((x, some (.int y t)) :: b) N rest K)
    (hs : swapsWith e (some (.Name x px)) pos.line f.env = pure false) (l : lB f.cs x .local = true) : ExsT f b N (.Assign [.Name x px] e pos :: rest) K := ExsT.asg h (fun v N' ⟨⟨t, e⟩, e2⟩ => by subst e e2; exact k t) hs l
theorem ExsT.asV {x : Str} {e : Expr} {px pos : Pos} {y : Value} (h : EvV f f.env b N e y) (k : ExsT f ((x, some (y)) :: b) N rest K)
    (hs : swapsWith e (some (.Name x px)) pos.line f.env = pure false) (l : lB f.cs x .local = true) : ExsT f b N (.Assign [.Name x px] e pos :: rest) K := ExsT.asg h (fun v N' ⟨e, e2⟩ => by subst e e2; exact k) hs l
/-- a cell's name, stored -/
theorem Ex.asCell {x : Str} {e : Expr} {px pos : Pos} {K : Flow → Binds → Led → Prop} {R : Value → Led → Prop} {c : Addr} (hc : f.cl.lookup x = some c) (h : Ev f f.env b N e R) (k : ∀ v N', R v N' → ∃ o v₀, (c, o) ∈ N' ∧ o.data = .cell v₀ ∧ ∀ o', o'.data = .cell (some v) → K .next b (put N' c o'))
    (hs : swapsWith e (some (.Name x px)) pos.line f.env = pure false) (l : lB f.cs x .cell = true) : Ex f b N (.Assign [.Name x px] e pos) K :=
  fun s _ _ ok F N' q => wpAny_Assign_Name (h.jd s _ _ ok F N' fun v hp tk N'' F' M' r => by
    obtain ⟨o, v₀, hm, hd, kk⟩ := k v N'' r
    exact storeX_C (news := put N'' c o) F' (fun p hp => M' p (put_sub hm p hp)) hc (.head put_off) hd (fun h' o' F₂ M₂ hd' => q .next _ _ _ _ F₂ M₂ (kk o' hd')) (lB_ok l).1 (lB_ok l).2.1) hs
/-- a comprehension, stored in a name -/
theorem Ex.asC {x : Str} {px spos : Pos} {K : Flow → Binds → Led → Prop} {elt tg iter : Expr} {ifs : List Expr} {scope : Scope} {cl : List (Str × Addr)} {pos : Pos} {n : Nat} {P : Nat → Value → Heap → Prop} {Sa : List Addr} {VP : Nat → (Str → Option Value) → Prop} (J : Nat → List Value → Led → Prop)
    (src : Src f b N f.env tg iter n P Sa (J 0 [])) (tk : ∀ C, Takes f tg (compEnvC scope cl C f.env) P VP) (hz : n ≤ 100000)
    (turn : ∀ i ys N' X W C oC m, i < n → VP i m → InTurn X W C oC m N' → J i ys N' → CTurn f b (X ++ N') ifs elt (compEnvC scope cl C f.env) (Kept X W (J (i + 1) ys)) (fun y => Kept X W (J (i + 1) (ys ++ [y]))))
    (done : ∀ D ys N', (∀ p ∈ N', p.1 ≠ D) → J n ys N' → K .next ((x, some (.ref D)) :: b) ((D, lsO ys) :: N'))
    (hsw : swapsWith (.ListComp elt [⟨tg, iter, ifs, 0⟩] scope pos) (some (.Name x px)) spos.line f.env = pure true) (l : lB f.cs x .local = true)
    (hclos : closureFor scope f.env = pure cl) (hc : cS scope = true) (hf : ∀ x, foldedSetIterable iter f.env x = pure x) : Ex f b N (.Assign [.Name x px] (.ListComp elt [⟨tg, iter, ifs, 0⟩] scope pos) spos) K := by
  intro s Q E ok F M q
  show f.Wp (exec _ _) _ _ _
  rw [Fx.Wp, exec_Assign_Name_used _ _ _ _ hsw]
  refine wpAny_bind (wpAny_standAt (wpAny_bind ?_))
  show f.Wp (do let _ ← comprehension (.ListComp elt [⟨tg, iter, ifs, 0⟩] scope pos) scope f.env _ (newList []) false (eval iter f.env) (some (assign (.Name x px) f.env))) _ _ s
  refine wpAny_bind (wpAny_mono (comp_core (use := some (assign (.Name x px) f.env)) (Q := fun _ s' => Q .next s') (E := E) J src hf hclos hc hz tk turn ok F M fun D C h tk m' ys N' F' N'' o1 hn hC₀ hD₀ hCL hDL hCD offC j => ?_) (fun _ s' hq => wpAny_pure (wpAny_pure hq)) fun _ _ e => e)
  show f.Wp (assign (.Name x px) f.env (.ref D)) _ _ _
  refine assign_Name (wpAny_storeName_local (lB_ok l).2.1 F'.ns (fun h₂ hn₂ hs₂ => ?_) (by show (f.cs.kind == .class || _) = false; rw [(lB_ok l).1]; rfl))
  have hL₀ : f.c.g.get? f.c.L = none := Heap.get?_none_of_le F'.above
  have F₂ : Fr f.c.g f.c.L h₂ (fun z => if z = x then some (.ref D) else bget b z) := ⟨hn₂, fun c o e => hs₂.extBut c o (fun q => by rw [q] at e; rw [show f.env.locals = f.c.L from rfl, hL₀] at e; cases e) (F'.keep c o e), F'.above⟩
  refine ⟨m', hn.sameBut hs₂ hCL, fun h'' hs'' => q .next _ _ _ ((D, lsO ys) :: N') (put_frw (F₂.change hs'' hCL hC₀)) (fun p hp => ?_) (done D ys N' o1 j)⟩
  have z : h₂.get? p.1 = some p.2 := hs₂.extBut _ _ (N'' p hp).2.1 (N'' p hp).1
  refine ⟨hs''.extBut _ _ ?_ z, (N'' p hp).2⟩
  rcases List.mem_cons.mp hp with rfl | hp
  · exact Ne.symm hCD
  · exact offC p hp
/-- tuple(l) -/
theorem Ev.tupL {x : Str} {np pos : Pos} {e : Expr} {P : List Value → Led → Prop} (g : Glob f.c.w x (.type "tuple")) (he : Ev f en b N e (fun v N₁ => ∃ l vs, v = .ref l ∧ AtL f N₁ l vs ∧ vs.length ≤ 100000 ∧ P vs N₁)) (hg : gB en x = true) :
    Ev f en b N (.Call (.Name x np) [e] [] pos) (fun v N' => ∃ vs N₁, P vs N₁ ∧ NewT N₁ vs v N') := by
  refine Ev.callT g (RA := fun us N₁ => ∃ l vs, us = [.ref l] ∧ AtL f N₁ l vs ∧ vs.length ≤ 100000 ∧ P vs N₁) (Ags.cons he fun v N₁ r => Ags.nil.mono fun us N₂ r₂ => ?_) (fun us N₁ r => ?_) hg ⟨he.pe, trivial⟩
  · obtain ⟨rfl, rfl⟩ := r₂
    obtain ⟨l, vs, rfl, h⟩ := r
    exact ⟨l, vs, rfl, h⟩
  · obtain ⟨l, vs, rfl, hl, hz, hP⟩ := r
    intro s Q E ok F M q
    refine call_tuple_list (hl.is F M) (fun h' hk => ?_) (by rw [List.size_toArray]; exact sz_seq hz)
    have F' : f.F h' b := F.grownK hk
    have M' : f.N h' N₁ := M.grown hk
    exact q _ _ _ _ (F'.push _) (M'.push F' _) ⟨vs, N₁, hP, h'.objs.size, rfl, rfl, fun p hp => Nat.ne_of_lt (Heap.lt_size (M' p hp).1)⟩
/-- {k: []} -/
theorem Ev.dictL {k : Str} {kp lp pos : Pos} {kd : Nat} : Ev f en b N (.Dict [some (.Constant (.str k) kd kp)] [.List [] lp] pos) (fun v N' => ∃ D L o n, v = .ref D ∧ N' = (L, W.listOf #[] n) :: (D, o) :: N ∧ o.IsDictOf (PySem.strKind PP f.c.w) [(k, .ref L)] ∧ (D == sysModules) = false ∧ (∀ p ∈ N, p.1 ≠ D ∧ p.1 ≠ L) ∧ D ≠ L) := by
  refine ⟨pe_dict, fun s Q E ok F M q => kdn_str rfl F M ok.T.nolimit rfl rfl (List.cons_ne_nil _ _) (show 1 ≤ 15 by decide) fun d h' o F' M' lo hsy hd => ?_⟩
  refine pairTrees_cons_walk ?_
  refine (EvS.lit (x := k)).jd _ _ _ ok F' M' fun v h tk N' F₂ M₂ r => ?_
  obtain ⟨⟨t, rfl⟩, rfl⟩ := r
  refine (Ev.lst (RA := Is ((d, o) :: N) []) Ags.nil fun vs N₁ r => by obtain ⟨rfl, rfl⟩ := r; exact jd_newList (Nat.zero_le _)).jd _ _ _ ok F₂ M₂ fun v h tk N' F₃ M₃ r => ?_
  obtain ⟨L, its, n, rfl, rfl, off, hi⟩ := r
  have hits : its = #[] := Array.toList_eq_nil_iff.mp hi
  subst hits
  refine pairTrees_nil_walk ?_
  have hLd : L ≠ d := Ne.symm (off _ List.mem_cons_self)
  refine kdn_made_str F₃ M₃ (.tail hLd (.head fun p hp => Nat.ne_of_lt (lo p hp))) hd rfl (by simp [strPairs]) fun h' o' F' N' hd' => ?_
  exact q _ _ _ _ F' N' ⟨d, L, o', n, rfl, rfl, hd', hsy, fun p hp => ⟨Nat.ne_of_lt (lo p hp), off p (List.mem_cons_of_mem _ hp)⟩, Ne.symm hLd⟩
end
end Mine
end
section
open PySem PySem.W PyProof.Rows PySem.Calls
set_option Elab.async false
set_option maxRecDepth 100000
set_option maxHeartbeats 4000000
set_option linter.unusedVariables false
namespace Mine
/-- from the small logic to the law's own goal -/
theorem law_bridge {w : World} {mean : ExcName → Option Value} {mg mb : Str → Option Value} {h₀ : Heap} {L fa : Addr} {qual : Str} {scope : Scope} {cd : Value} {body : List Stmt} {s : Shared} {Q : Flow → Shared → Prop} {E : Value → Shared → Prop} {bl : List (Str × Value)}
    (X : (Mine.hd.heap_1 (w).params).In h₀) (T : Top VV LL mean mg mb h₀) (F : Fr h₀ L s.heap (fun y => List.lookup y bl))
    (h : ∀ c : Cx, c.w = w → c.g = h₀ → ExsT ⟨c, 122, scope, []⟩ (ofB bl) [] body (RetT fun r _ => r = .bool true))
    (q : ∀ h' tk m', Fr h₀ L h' m' → Q (.ret (.bool true)) { s with heap := h', toks := tk })
    (hE : PassesOwn (model PP w) (callerA.deeper (envOf qual scope L fa cd)) (envOf qual scope L fa cd) E) :
    wpAny (model PP w) (callerA.deeper (envOf qual scope L fa cd)) (execs body (envOf qual scope L fa cd)) Q E s := by
  refine h ⟨w, mean, mg, mb, 302, 7, callerA.guards, [], callerA, h₀, h₀, L, qual, cd, fa⟩ rfl rfl s Q E ⟨KtsTurn.refl, ⟨⟨below_caller h₀, X, T, by show 302 + 122 < 1000; decide, by show 7 + 8 * 122 + 8 < 9900; decide⟩, X, T, rfl⟩, fun b hb => (nomatch hb)⟩ hE (ofB_frw F) News.nil ?_
  rintro g fl b' h' tk N' TT F' M' ⟨r, rfl, rfl⟩
  refine q h' tk _ ⟨F'.ns, fun b o e => F'.keep b o (TT.t.other b o e (fun hm => nomatch hm)), ?_⟩
  have := TT.t.size
  have h3 := F'.above
  show h₀.objs.size ≤ L
  have e : g.objs.size = h₀.objs.size := this
  rw [← e]
  exact h3
theorem abs32 (n : Int) : (if n < 0 then -n else n).fmod 32 = ((n.natAbs % 32 : Nat) : Int) := by
  have e : (if n < 0 then -n else n) = (n.natAbs : Int) := by
    split <;> omega
  rw [e, Int.fmod_eq_emod_of_nonneg _ (by decide)]
  rfl
theorem ints_take : ∀ {vs : List Value} {ns : List Int} (i : Nat), IntsAre vs ns → IntsAre (vs.take i) (ns.take i)
  | _, _, 0, _ => .nil
  | _, _, i + 1, .nil => .nil
  | _, _, i + 1, .cons n t h => .cons n t (ints_take i h)
theorem ints_get : ∀ {vs : List Value} {ns : List Int} {j : Nat} {n : Int}, IntsAre vs ns → ns[j]? = some n → ∃ t, vs[j]? = some (.int n t)
  | _, _, j, _, .nil => fun h => by simp at h
  | _, _, 0, _, .cons m t h => fun e => ⟨t, by simp at e; subst e; rfl⟩
  | _, _, j + 1, _, .cons m t h => fun e => by
    obtain ⟨t', e'⟩ := ints_get (j := j) h (by simpa using e)
    exact ⟨t', by simpa using e'⟩
theorem ints_len : ∀ {vs : List Value} {ns : List Int}, IntsAre vs ns → vs.length = ns.length
  | _, _, .nil => rfl
  | _, _, .cons n t h => by simp [ints_len h]
end Mine
end
section
open PySem PySem.W PyProof.Rows PySem.Calls
set_option Elab.async false
set_option maxRecDepth 100000
set_option maxHeartbeats 4000000
set_option linter.unusedVariables false
set_option rowWalk.seconds 0
namespace Mine
structure MkOk (w : World) : Prop where
  m : makesIn (Mine.hd.heap_1 w.params) 53 = true
  i : findIn (Mine.hd.heap_1 w.params) (.ref 53) "__init__" = some (some (.ref 35))
  f : isFn (Mine.hd.heap_1 w.params) (.ref 35) = true
  s : findIn (Mine.hd.heap_1 w.params) (.ref 53) "__setattr__" = some (some (.builtin "object.__setattr__"))
  p : plainOver (Mine.hd.heap_1 w.params) 53 = true
  t : takerIn (Mine.hd.heap_1 w.params) 53 (Str.ofString "dict") = some none
  h : hasDictIn (Mine.hd.heap_1 w.params) 53 = true
theorem mk_ok (w : World) : MkOk w := by
  have h : model PySem.Challenge.rw_in0109_01.row.prog w = model PySem.Challenge.rw_in0109_01.row.prog w ∧ makesIn (Mine.hd.heap_1 w.params) 53 = true ∧ findIn (Mine.hd.heap_1 w.params) (.ref 53) "__init__" = some (some (.ref 35)) ∧ isFn (Mine.hd.heap_1 w.params) (.ref 35) = true ∧
    findIn (Mine.hd.heap_1 w.params) (.ref 53) "__setattr__" = some (some (.builtin "object.__setattr__")) ∧ plainOver (Mine.hd.heap_1 w.params) 53 = true ∧ takerIn (Mine.hd.heap_1 w.params) 53 (Str.ofString "dict") = some none ∧ hasDictIn (Mine.hd.heap_1 w.params) 53 = true := by
    k_fill
    exact ⟨rfl, by k_is, by k_is, by k_is, by k_is, by k_is, by k_is, by k_is⟩
  obtain ⟨_, a, b, c, d, e, f, g⟩ := h
  exact ⟨a, b, c, d, e, f, g⟩
theorem g_NestedDict (w : World) : Fun w (Str.ofString "NestedDict") 53 := by
  have h : model PySem.Challenge.rw_in0109_01.row.prog w = model PySem.Challenge.rw_in0109_01.row.prog w ∧ nsIn (Mine.hd.heap_1 w.params) mainGlobals (Str.ofString "NestedDict") = some (some (.ref 53)) ∧ keepIn (Mine.hd.heap_1 w.params) (.ref 53) = true := by
    k_fill
    exact ⟨rfl, by k_is, by k_is⟩
  exact ⟨Glob.text h.2.1 rfl, h.2.2⟩
def NTree (w : World) (N : Led) (x dx : Addr) (N' : Led) : Prop := ∃ root o n es sl, (∀ p ∈ N, p ∈ N') ∧ (x, (⟨.ref 53, some dx, .plain, sl⟩ : Obj)) ∈ N' ∧ (dx, dictOf es n) ∈ N' ∧ getL (Str.ofString "dict") es = some (some (.ref root)) ∧ getL (Str.ofString "get_or_create_nest") es = some none ∧ getL (Str.ofString "append_nest_to_list") es = some none ∧
  (root, o) ∈ N' ∧ o.IsDictOf (PySem.strKind PP w) [] ∧ (root == sysModules) = false ∧ (∀ p ∈ N, p.1 ≠ root) ∧ x ≠ root ∧ dx ≠ root
theorem c_init (w : World) (x dx : Addr) (N : Led) (hx : ∀ p ∈ N, p.1 ≠ dx) (hne : x ≠ dx) : CodeK w 35 1 [.ref x] ((x, instObj 53 dx) :: (dx, dictOf [] 0) :: N) (fun r N' => r = .none ∧ NTree w N x dx N') := by
  delta CodeK
  k_fill
  refine enterK [((Str.ofString "self"), .ref x)] (by k_is) (by k_is) (fun _ _ => BindsTo.of_eq rfl) (locs rfl) rfl rfl rfl (by decide) ?_
  rintro c rfl
  have mo := mk_ok c.w
  refine Exs.cons (Ex.setA (x := x) (C := 53) (dx := dx) (sl := #[]) Ev.dict0 (fun v N₁ r => ?_) mo.s mo.p mo.t mo.h rfl)
  obtain ⟨D, o, rfl, rfl, off, hsy, hd⟩ := r
  have oD : ∀ p ∈ N, p.1 ≠ D := fun p hp => off p (List.mem_cons_of_mem _ (List.mem_cons_of_mem _ hp))
  have oDx : dx ≠ D := off _ (List.mem_cons_of_mem _ List.mem_cons_self)
  refine ⟨[], 0, EvV.name rfl rfl, List.mem_cons_of_mem _ List.mem_cons_self, List.mem_cons_of_mem _ (List.mem_cons_of_mem _ List.mem_cons_self), rfl, Nat.zero_le _, fun hs t => Exs.nil ⟨.none, .inr ⟨rfl, rfl⟩, rfl, D, o, _, _, #[], fun p hp => put_other (List.mem_cons_of_mem _ (List.mem_cons_of_mem _ (List.mem_cons_of_mem _ hp))) (hx p hp), put_other (List.mem_cons_of_mem _ List.mem_cons_self) hne, put_self, rfl, rfl, rfl, put_other List.mem_cons_self (Ne.symm oDx), hd, hsy, oD, off _ List.mem_cons_self, oDx⟩⟩
section
variable {f : Fx} {b : Binds} {N : Led} {en : Env}
theorem Ev.tree {np pos : Pos} (hg : gB f.env (Str.ofString "NestedDict") = true) (hd : 4 ≤ f.dz) (hfk : f.cs.kind = .function) : Ev f f.env b N (.Call (.Name (Str.ofString "NestedDict") np) [] [] pos) (fun v N' => ∃ x dx, v = .ref x ∧ NTree f.c.w N x dx N' ∧ (∀ p ∈ N, p.1 ≠ x ∧ p.1 ≠ dx)) := by
  refine ⟨pe_call, fun s Q E ok F M q => ?_⟩
  have mo := mk_ok f.c.w
  refine Call_ ((EvV.glob (g_NestedDict _).1 hg).jd s _ _ ok F M fun v h tk N₁ F₁ M₁ r => ?_) rfl
  obtain ⟨rfl, rfl⟩ := r
  refine callWith_K0 (ok.X.keeps F₁.keep) (g_NestedDict _).2 ?_
  refine call_cls F₁ ok.X M₁ mo.m mo.i mo.f fun x dx h₂ F₂ M₂ lo lt => ?_
  have hC := c_init f.c.w x dx N₁ (fun p hp => Nat.ne_of_lt (lo p hp)) (Nat.ne_of_gt lt)
  refine hC _ _ _ (f.c.dp + 1) (f.c.un + 1) _ f.env f.c.outer _ _ _ _ _ _ _ ok.B ok.X ok.T rfl ?_ (by have := ok.h1; omega) (by have := ok.h2; omega) F₂ M₂ ?_
  · exact hfk
  · rintro r h' tk' N' F' M' ⟨rfl, hN⟩
    exact ⟨rfl, q _ _ _ _ F' M' ⟨x, dx, rfl, hN, fun p hp => ⟨Nat.ne_of_lt (Nat.lt_trans (lo p hp) lt), Nat.ne_of_lt (lo p hp)⟩⟩⟩
end
end Mine
end
section
open PySem PySem.W PyProof.Rows PySem.Calls
set_option Elab.async false
set_option maxRecDepth 100000
set_option maxHeartbeats 4000000
set_option linter.unusedVariables false
namespace Mine
/-- a name, no number -/
def isN (x : Str) : Bool := x == nm false || x == nm true
theorem isN_nm (b : Bool) : isN (nm b) = true := by cases b <;> decide +kernel
theorem isN_num {n : Nat} (h : n < 30) : isN (num n) = false := by
  have : ∀ n : Fin 30, isN (num n.1) = false := by decide +kernel
  exact this ⟨n, h⟩
def era (s : Spot) : List Str := s.filter isN
theorem era_app (s t : Spot) : era (s ++ t) = era s ++ era t := List.filter_append ..
theorem era_nm (b : Bool) : era [nm b] = [nm b] := by
  show List.filter isN [nm b] = _
  rw [List.filter_cons, isN_nm]; rfl
theorem era_num {n : Nat} (h : n < 30) : era [num n] = [] := by
  show List.filter isN [num n] = _
  rw [List.filter_cons, isN_num h]; rfl
/-- where the last name of p.take (i + 1) stands -/
def fb (rows : List Row) (p : List Bool) (i : Nat) : Spot := fullTo rows p i ++ [nm (p.getD i false)]
theorem full_succ {rows : List Row} {p : List Bool} {i : Nat} : fullTo rows p (i + 1) = if cntB rows (p.take (i + 1)) = 0 then fb rows p i else fb rows p i ++ [num (cntB rows (p.take (i + 1)) - 1)] := rfl
theorem era_full {rows : List Row} {p : List Bool} (hz : rows.length ≤ 20) : ∀ i, i ≤ p.length → era (fullTo rows p i) = (p.take i).map nm
  | 0, _ => by simp [fullTo, era]
  | i + 1, h => by
    have e : era (fb rows p i) = (p.take (i + 1)).map nm := by
      unfold fb
      rw [era_app, era_nm, era_full hz i (by omega), take_getD (by omega), List.map_append]; rfl
    rw [full_succ]
    split
    · exact e
    · have := cntB_le (rows := rows) (q := p.take (i + 1))
      rw [era_app, e, era_num (by omega), List.append_nil]
theorem era_fb {rows : List Row} {p : List Bool} (hz : rows.length ≤ 20) {i : Nat} (h : i < p.length) : era (fb rows p i) = (p.take (i + 1)).map nm := by
  unfold fb
  rw [era_app, era_nm, era_full hz i (by omega), take_getD h, List.map_append]; rfl
theorem take_pred {p p' : List Bool} {i : Nat} (h : p.take (i + 1) = p'.take (i + 1)) : p.take i = p'.take i := by
  have := congrArg (List.take i) h
  rwa [List.take_take, List.take_take, Nat.min_eq_left (Nat.le_succ i)] at this
theorem full_congr {rows : List Row} {p p' : List Bool} : ∀ {i : Nat}, p.take i = p'.take i → i ≤ p.length → i ≤ p'.length → fullTo rows p i = fullTo rows p' i ∧ (∀ j, j < i → fb rows p j = fb rows p' j)
  | 0, _, _, _ => ⟨rfl, fun j h => absurd h (Nat.not_lt_zero _)⟩
  | i + 1, h, h1, h2 => by
    obtain ⟨e, ej⟩ := full_congr (rows := rows) (take_pred h) (by omega) (by omega)
    have e2 : p.getD i false = p'.getD i false := by
      have tp := take_pred h
      rw [take_getD (by omega), take_getD (by omega), tp] at h
      have := (List.append_inj' h rfl).2
      simpa using this
    have e3 : fb rows p i = fb rows p' i := by unfold fb; rw [e, e2]
    refine ⟨by rw [full_succ, full_succ, h, e3], fun j hj => ?_⟩
    by_cases q : j = i
    · subst q; exact e3
    · exact ej j (by omega)
theorem rows_congr {rows rows' : List Row} {p : List Bool} : ∀ {i : Nat}, (∀ j, j < i → cntB rows (p.take (j + 1)) = cntB rows' (p.take (j + 1))) → fullTo rows p i = fullTo rows' p i
  | 0, _ => rfl
  | i + 1, h => by
    have e := rows_congr (rows := rows) (rows' := rows') (p := p) (i := i) fun j hj => h j (by omega)
    rw [full_succ, full_succ, h i (by omega)]
    unfold fb
    rw [e]
theorem rows_fb {rows rows' : List Row} {p : List Bool} {i : Nat} (h : ∀ j, j < i → cntB rows (p.take (j + 1)) = cntB rows' (p.take (j + 1))) : fb rows p i = fb rows' p i := by
  unfold fb; rw [rows_congr h]
/-- what the rows tell of a place -/
def hasR (rows : List Row) (q : List Bool) : Bool := rows.any fun r => q.isPrefixOf r.2
def hasT (rows : List Row) (q : List Bool) : Bool := rows.any fun r => r.1 == 3 && r.2 == q
def desc (rows : List Row) (q : List Bool) : Option SK := if hasT rows q = true then some (.txt (pt q)) else if cntB rows q ≠ 0 then some .lst else if hasR rows q = true then some .nest else none
theorem hasR_iff {rows : List Row} {q : List Bool} : hasR rows q = true ↔ ∃ r ∈ rows, q <+: r.2 := by simp [hasR]
theorem hasT_iff {rows : List Row} {q : List Bool} : hasT rows q = true ↔ (3, q) ∈ rows := by
  unfold hasT
  rw [List.any_eq_true]
  constructor
  · rintro ⟨⟨a, b⟩, h, e⟩
    simp only [Bool.and_eq_true, beq_iff_eq] at e
    obtain ⟨rfl, rfl⟩ := e
    exact h
  · exact fun h => ⟨_, h, by simp⟩
theorem cnt_iff {rows : List Row} {q : List Bool} : cntB rows q ≠ 0 ↔ (2, q) ∈ rows := by
  unfold cntB
  rw [ne_eq, List.length_eq_zero_iff, List.filter_eq_nil_iff]
  constructor
  · intro h
    refine Classical.not_not.mp fun h2 => h fun r hr => ?_
    intro e
    simp only [Bool.and_eq_true, beq_iff_eq] at e
    obtain ⟨a, b⟩ := r
    have e1 : a = 2 := by have := e.1; simp only at this; omega
    have e2 : b = q := pt_inj e.2
    subst e1 e2
    exact h2 hr
  · intro h h2
    exact h2 _ h (by simp)
theorem hasR_of {rows : List Row} {q : List Bool} {k : Nat} (h : (k, q) ∈ rows) : hasR rows q = true := hasR_iff.mpr ⟨_, h, List.prefix_rfl⟩
theorem desc_none {rows : List Row} {q : List Bool} : desc rows q = none ↔ hasR rows q = false := by
  unfold desc
  by_cases h1 : hasT rows q = true
  · rw [if_pos h1, hasR_of (hasT_iff.mp h1)]; simp
  · rw [if_neg h1]
    by_cases h2 : cntB rows q ≠ 0
    · rw [if_pos h2, hasR_of (cnt_iff.mp h2)]; simp
    · rw [if_neg h2]
      cases hasR rows q <;> simp
theorem hasR_up {rows : List Row} {q q' : List Bool} (h : hasR rows q = true) (hp : q' <+: q) : hasR rows q' = true := by
  obtain ⟨r, hr, h⟩ := hasR_iff.mp h
  exact hasR_iff.mpr ⟨r, hr, hp.trans h⟩
theorem take_pre {p : List Bool} {i j : Nat} (h : i ≤ j) : p.take i <+: p.take j := by
  have : p.take i = (p.take j).take i := by rw [List.take_take, Nat.min_eq_left h]
  rw [this]; exact List.take_prefix _ _
structure Live (rows : List Row) (M : Mp) : Prop where
  root : (3, []) ∉ rows
  base : ∀ p i, i < p.length → look M (fb rows p i) = desc rows (p.take (i + 1))
  lst : ∀ p i, i < p.length → desc rows (p.take (i + 1)) = some .lst → kids M (fb rows p i) = (List.range (cntB rows (p.take (i + 1)))).map num
/-- the nests that lack on p's way -/
def missTo (rows : List Row) (p : List Bool) : Nat → Mp
  | 0 => []
  | i + 1 => missTo rows p i ++ if hasR rows (p.take (i + 1)) = true then [] else [(fb rows p i, .nest)]
theorem miss_nil {rows : List Row} {p : List Bool} : ∀ {n : Nat}, hasR rows (p.take n) = true → missTo rows p n = []
  | 0, _ => rfl
  | n + 1, h => by
    unfold missTo
    rw [miss_nil (hasR_up h (take_pre (Nat.le_succ n))), if_pos h]; rfl
theorem mem_miss {rows : List Row} {p : List Bool} {q : Spot × SK} : ∀ {n : Nat}, q ∈ missTo rows p n ↔ ∃ j, j < n ∧ q = (fb rows p j, .nest) ∧ hasR rows (p.take (j + 1)) = false
  | 0 => by simp [missTo]
  | n + 1 => by
    unfold missTo
    rw [List.mem_append, mem_miss]
    constructor
    · rintro (⟨j, h1, h2, h3⟩ | h)
      · exact ⟨j, by omega, h2, h3⟩
      · split at h
        · cases h
        · rename_i hr
          exact ⟨n, by omega, List.mem_singleton.mp h, by simpa using hr⟩
    · rintro ⟨j, h1, h2, h3⟩
      by_cases e : j = n
      · subst e; exact .inr (by rw [if_neg (by simp [h3])]; exact List.mem_singleton.mpr h2)
      · exact .inl ⟨j, by omega, h2, h3⟩
theorem look_some {M : Mp} {s : Spot} {k : SK} (h : look M s = some k) : (s, k) ∈ M := by
  induction M with
  | nil => cases h
  | cons q r ih =>
    unfold look at h
    split at h
    · rename_i e
      rw [← e, ← Option.some.inj h]; exact List.mem_cons_self
    · exact List.mem_cons_of_mem _ (ih h)
theorem fb_inj {rows rows' : List Row} {p p' : List Bool} (hz : rows.length ≤ 20) (hz' : rows'.length ≤ 20) {i j : Nat} (hi : i < p.length) (hj : j < p'.length) (h : fb rows p i = fb rows' p' j) : p.take (i + 1) = p'.take (j + 1) ∧ i = j := by
  have := congrArg era h
  rw [era_fb hz hi, era_fb hz' hj] at this
  have e := nms_inj this
  refine ⟨e, ?_⟩
  have := congrArg List.length e
  simp at this
  omega
/-- what a spot of the way that lacks is -/
theorem look_miss {rows : List Row} {p : List Bool} {n : Nat} {s : Spot} {k : SK} (h : look (missTo rows p n) s = some k) : ∃ j, j < n ∧ s = fb rows p j ∧ k = .nest ∧ hasR rows (p.take (j + 1)) = false := by
  obtain ⟨j, h1, h2, h3⟩ := mem_miss.mp (look_some h)
  injection h2 with h2 h4
  exact ⟨j, h1, h2, h4, h3⟩
theorem look_none {M : Mp} {s : Spot} (h : ∀ k, (s, k) ∉ M) : look M s = none := by
  cases e : look M s with
  | none => rfl
  | some k => exact absurd (look_some e) (h k)
theorem look_way {rows : List Row} {M : Mp} (L : Live rows M) (hz : rows.length ≤ 20) {p : List Bool} {n : Nat} (hn : n < p.length) : look (M ++ missTo rows p n) (fb rows p n) = desc rows (p.take (n + 1)) := by
  rw [look_app, L.base p n hn]
  have : look (missTo rows p n) (fb rows p n) = none := look_none fun k hk => by
    obtain ⟨j, h1, h2, _⟩ := mem_miss.mp hk
    injection h2 with h2 _
    have := (fb_inj hz hz hn (by omega) h2).2
    omega
  rw [this]
  cases desc rows (p.take (n + 1)) <;> rfl
theorem goc_snoc {k : Str} : ∀ {ks : List Str} {M : Mp} {s : Spot}, gocM M s (ks ++ [k]) = match gocM M s ks with | none => none | some (M1, s1) => gocM M1 s1 [k]
  | [], M, s => rfl
  | x :: ks, M, s => by
    show gocM M s (x :: (ks ++ [k])) = _
    unfold gocM
    cases look M (s ++ [x]) with
    | none => exact goc_snoc
    | some kd => cases kd <;> first | exact goc_snoc | rfl
/-- a text at p.take n or above it -/
def txtTo (rows : List Row) (p : List Bool) (n : Nat) : Bool := rows.any fun r => r.1 == 3 && r.2.isPrefixOf (p.take n)
theorem txt_iff {rows : List Row} {p : List Bool} {n : Nat} : txtTo rows p n = true ↔ ∃ q, (3, q) ∈ rows ∧ q <+: p.take n := by
  unfold txtTo
  rw [List.any_eq_true]
  constructor
  · rintro ⟨⟨a, b⟩, h, e⟩
    simp only [Bool.and_eq_true, beq_iff_eq, List.isPrefixOf_iff_prefix] at e
    obtain ⟨rfl, e⟩ := e
    exact ⟨b, h, e⟩
  · rintro ⟨q, h, e⟩
    exact ⟨_, h, by simpa using e⟩
theorem txt_succ {rows : List Row} {p : List Bool} {n : Nat} (hn : n < p.length) : txtTo rows p (n + 1) = (txtTo rows p n || hasT rows (p.take (n + 1))) := by
  rw [Bool.eq_iff_iff, Bool.or_eq_true, txt_iff, txt_iff, hasT_iff]
  constructor
  · rintro ⟨q, h, e⟩
    rw [take_getD hn, List.prefix_concat_iff] at e
    rcases e with e | e
    · right; rw [take_getD hn, ← e]; exact h
    · exact .inl ⟨q, h, e⟩
  · rintro (⟨q, h, e⟩ | h)
    · exact ⟨q, h, e.trans (take_pre (Nat.le_succ n))⟩
    · exact ⟨_, h, List.prefix_rfl⟩
theorem desc_txt {rows : List Row} {q : List Bool} (h : hasT rows q = true) : desc rows q = some (.txt (pt q)) := if_pos h
theorem desc_lst {rows : List Row} {q : List Bool} (h : hasT rows q = false) (h2 : cntB rows q ≠ 0) : desc rows q = some .lst := by unfold desc; rw [if_neg (by simp [h]), if_pos h2]
theorem desc_nest {rows : List Row} {q : List Bool} (h : hasT rows q = false) (h2 : cntB rows q = 0) : desc rows q = if hasR rows q = true then some .nest else none := by unfold desc; rw [if_neg (by simp [h]), if_neg (by simp [h2])]
theorem goc_is {rows : List Row} {M : Mp} (L : Live rows M) (hz : rows.length ≤ 20) (p : List Bool) : ∀ n, n ≤ p.length → gocM M [] ((p.take n).map nm) = if txtTo rows p n = true then none else some (M ++ missTo rows p n, fullTo rows p n)
  | 0, _ => by
    have e : txtTo rows p 0 = false := by
      rw [Bool.eq_false_iff]
      intro h
      obtain ⟨q, h1, h2⟩ := txt_iff.mp h
      have : q = [] := by simpa using h2
      subst this
      exact L.root h1
    rw [e]
    show some (M, []) = some (M ++ [], [])
    rw [List.append_nil]
  | n + 1, h => by
    have ih := goc_is L hz p n (by omega)
    rw [take_getD (by omega), List.map_append]
    show gocM M [] ((p.take n).map nm ++ [nm (p.getD n false)]) = _
    rw [goc_snoc, ih, txt_succ (by omega)]
    cases ht : txtTo rows p n with
    | true => rfl
    | false =>
      rw [if_neg (by simp)]
      show (match look (M ++ missTo rows p n) (fb rows p n) with | none => _ | some .nest => _ | some .lst => _ | some (.txt _) => _) = _
      rw [look_way L hz (by omega)]
      cases hT : hasT rows (p.take (n + 1)) with
      | true => rw [desc_txt hT]; rfl
      | false =>
        rw [if_neg (by simp)]
        by_cases hc : cntB rows (p.take (n + 1)) = 0
        · rw [desc_nest hT hc, full_succ, if_pos hc]
          cases hR : hasR rows (p.take (n + 1)) with
          | true =>
            have : missTo rows p (n + 1) = missTo rows p n := by
              rw [miss_nil hR, miss_nil (hasR_up hR (take_pre (Nat.le_succ n)))]
            rw [this]; rfl
          | false =>
            have : missTo rows p (n + 1) = missTo rows p n ++ [(fb rows p n, .nest)] := by
              conv => lhs; unfold missTo
              rw [if_neg (by simp [hR])]
            rw [this, ← List.append_assoc]; rfl
        · have hR : hasR rows (p.take (n + 1)) = true := hasR_of (cnt_iff.mp hc)
          have d := desc_lst hT hc
          rw [d, full_succ, if_neg hc, miss_nil hR, miss_nil (hasR_up hR (take_pre (Nat.le_succ n)))]
          show some (M ++ [], fb rows p n ++ [num ((kids (M ++ []) (fb rows p n)).length - 1)]) = _
          rw [List.append_nil, L.lst p n (by omega) d, List.length_map, List.length_range]
/-- what a let deed makes of the tree -/
def newM (rows : List Row) (M : Mp) (k : Nat) (p : List Bool) : Mp :=
  if k = 2 then
    if cntB rows p = 0 then (M ++ missTo rows p (p.length - 1) ++ [(fb rows p (p.length - 1), .lst)]) ++ [(fb rows p (p.length - 1) ++ [num 0], .nest)]
    else M ++ [(fb rows p (p.length - 1) ++ [num (cntB rows p)], .nest)]
  else if k = 3 then M ++ missTo rows p (p.length - 1) ++ [(fb rows p (p.length - 1), .txt (pt p))]
  else M ++ missTo rows p p.length
theorem cpre_left : ∀ {a b : List Bool}, cpre a b = a ↔ a <+: b
  | [], b => by simp [cpre]
  | x :: xs, [] => by simp [cpre]
  | x :: xs, y :: ys => by
    unfold cpre
    by_cases e : x = y
    · subst e; rw [if_pos rfl]; simp [List.cons_prefix_cons, cpre_left]
    · rw [if_neg e]; simp [List.cons_prefix_cons, e]
theorem cpre_right : ∀ {a b : List Bool}, cpre a b = b ↔ b <+: a
  | [], [] => by simp [cpre]
  | [], y :: ys => by simp [cpre]
  | x :: xs, [] => by simp [cpre]
  | x :: xs, y :: ys => by
    unfold cpre
    by_cases e : x = y
    · subst e; rw [if_pos rfl]; simp [List.cons_prefix_cons, cpre_right]
    · rw [if_neg e]; simp [List.cons_prefix_cons, Ne.symm e]
theorem above_is {rows : List Row} {p : List Bool} : (rows.filter (tAbove p)).isEmpty = !txtTo rows p p.length := by
  rw [Bool.eq_iff_iff, List.isEmpty_iff, List.filter_eq_nil_iff]
  constructor
  · intro h
    rw [Bool.not_eq_true', Bool.eq_false_iff]
    intro h2
    obtain ⟨q, h1, h2⟩ := txt_iff.mp h2
    rw [List.take_length] at h2
    refine h _ h1 ?_
    show ((3 : Nat) : Int) == 3 && (pt (cpre q p) == pt q && true)
    rw [cpre_left.mpr h2]; simp
  · intro h
    rw [Bool.not_eq_true', Bool.eq_false_iff] at h
    rintro ⟨a, q⟩ hr e
    apply h
    unfold tAbove at e
    simp only [Bool.and_eq_true, beq_iff_eq, Bool.and_true] at e
    have ea : a = 3 := by have := e.1; omega
    subst ea
    exact txt_iff.mpr ⟨q, hr, by rw [List.take_length]; exact cpre_left.mp (pt_inj e.2)⟩
theorem tBelow_is {p : List Bool} {r : Row} : tBelow p r = p.isPrefixOf r.2 := by
  rw [Bool.eq_iff_iff]
  unfold tBelow
  rw [beq_iff_eq, List.isPrefixOf_iff_prefix, ← cpre_right]
  exact ⟨fun h => pt_inj h, fun h => by rw [h]⟩
theorem below_is {rows : List Row} {p : List Bool} : (rows.filter (tBelow p)).isEmpty = !hasR rows p := by
  rw [Bool.eq_iff_iff, List.isEmpty_iff, List.filter_eq_nil_iff, Bool.not_eq_true', Bool.eq_false_iff]
  unfold hasR
  rw [ne_eq, List.any_eq_true]
  constructor
  · rintro h ⟨r, hr, e⟩
    exact h r hr (by rw [tBelow_is]; exact e)
  · intro h r hr e
    exact h ⟨r, hr, by rw [← tBelow_is]; exact e⟩
theorem lists_is {rows : List Row} {p : List Bool} : ((rows.filter (tBelow p)).any fun r => (r.1 : Int) == 2 && pt r.2 == pt p) = !(cntB rows p == 0) := by
  rw [Bool.eq_iff_iff, List.any_eq_true]
  have : (!(cntB rows p == 0)) = true ↔ cntB rows p ≠ 0 := by simp
  rw [this, cnt_iff]
  constructor
  · rintro ⟨⟨a, q⟩, hr, e⟩
    simp only [Bool.and_eq_true, beq_iff_eq] at e
    have ea : a = 2 := by have := e.1; omega
    have eq := pt_inj e.2
    subst ea eq
    exact (List.mem_filter.mp hr).1
  · intro h
    exact ⟨_, List.mem_filter.mpr ⟨h, by rw [tBelow_is]; simp⟩, by simp⟩
theorem let_is {rows : List Row} {k : Nat} {p : List Bool} : letB rows k p = (!txtTo rows p p.length && (if k = 2 then (!hasR rows p || !(cntB rows p == 0)) else if k = 3 then !hasR rows p else true)) := by
  unfold letB
  rw [above_is, below_is, lists_is]
  by_cases h2 : k = 2
  · subst h2; rfl
  · have e2 : ((k : Int) == 2) = false := by simp; omega
    rw [e2, if_neg h2]
    by_cases h3 : k = 3
    · subst h3; rfl
    · have e3 : ((k : Int) == 3) = false := by simp; omega
      rw [e3, if_neg h3]
      simp
theorem deed_is {rows : List Row} {M : Mp} (L : Live rows M) (hz : rows.length ≤ 20) {p : List Bool} {n : Nat} (hp : p.length = n + 1) (k : Nat) :
    deedM M k ((p.take n).map nm) (nm (p.getD n false)) (pt p) = if letB rows k p = true then some (newM rows M k p) else none := by
  have hpt : p.take (n + 1) = p := by rw [← hp, List.take_length]
  have hn : n < p.length := by omega
  have ks : (p.take n).map nm ++ [nm (p.getD n false)] = (p.take (n + 1)).map nm := by rw [take_getD hn, List.map_append]; rfl
  have g0 := goc_is L hz p n (by omega)
  have g1 := goc_is L hz p (n + 1) (by omega)
  have ts := txt_succ (rows := rows) hn
  have lw := look_way L hz hn
  rw [hpt] at ts lw
  have en : p.length - 1 = n := by omega
  have etl : txtTo rows p p.length = (txtTo rows p n || hasT rows p) := by rw [hp]; exact ts
  rw [let_is, etl]
  unfold deedM newM
  rw [en]
  by_cases h2 : k = 2
  · rw [if_pos h2, if_pos h2, if_pos h2]
    unfold apnM
    rw [g0]
    cases ht : txtTo rows p n with
    | true => rfl
    | false =>
      rw [if_neg (by simp)]
      show (match look (M ++ missTo rows p n) (fb rows p n) with | none => _ | some .lst => _ | _ => none) = _
      rw [lw]
      cases hT : hasT rows p with
      | true => rw [desc_txt hT]; rfl
      | false =>
        by_cases hc : cntB rows p = 0
        · rw [desc_nest hT hc, if_pos hc, hc]
          cases hR : hasR rows p <;> rfl
        · have hR : hasR rows p = true := hasR_of (cnt_iff.mp hc)
          have d := desc_lst hT hc
          have hR0 : hasR rows (p.take n) = true := hasR_up hR (List.take_prefix _ _)
          rw [d, if_neg hc]
          have e0 : (cntB rows p == 0) = false := by simp [hc]
          rw [e0, miss_nil hR0]
          have dl := L.lst p n hn (by rw [hpt]; exact d)
          rw [hpt] at dl
          show some (M ++ [] ++ [(fb rows p n ++ [num (kids (M ++ []) (fb rows p n)).length], SK.nest)]) = _
          rw [List.append_nil, dl, List.length_map, List.length_range]
          simp
  · rw [if_neg h2, if_neg h2, if_neg h2]
    by_cases h3 : k = 3
    · rw [if_pos h3, if_pos h3, if_pos h3, g0]
      cases ht : txtTo rows p n with
      | true => rfl
      | false =>
        rw [if_neg (by simp)]
        show (if look (M ++ missTo rows p n) (fb rows p n) = none then some (M ++ missTo rows p n ++ [(fb rows p n, SK.txt (pt p))]) else none) = _
        rw [lw]
        cases hR : hasR rows p with
        | true =>
          rw [if_neg (fun e => by rw [desc_none.mp e] at hR; cases hR)]
          simp
        | false =>
          have hT : hasT rows p = false := by
            rw [Bool.eq_false_iff]
            intro h
            rw [hasR_of (hasT_iff.mp h)] at hR
            cases hR
          rw [if_pos (desc_none.mpr hR), hT]; rfl
    · rw [if_neg h3, if_neg h3, if_neg h3, ks, g1, ts, hp]
      cases txtTo rows p n || hasT rows p <;> rfl
end Mine
end
section
open PySem PySem.W PyProof.Rows PySem.Calls
set_option Elab.async false
set_option maxRecDepth 100000
set_option maxHeartbeats 4000000
set_option linter.unusedVariables false
namespace Mine
abbrev rowsN (rows : List Row) (k : Nat) (p : List Bool) : List Row := keptB rows k p ++ [(k, p)]
theorem tKeep_is {p : List Bool} {r : Row} : tKeep p r = (r.2 == p || !p.isPrefixOf r.2) := by
  unfold tKeep
  have e1 : (pt r.2 == pt p) = (r.2 == p) := by
    rw [Bool.eq_iff_iff, beq_iff_eq, beq_iff_eq]; exact ⟨fun h => pt_inj h, fun h => by rw [h]⟩
  have e2 : (pt (cpre r.2 p) != pt p) = !p.isPrefixOf r.2 := by
    rw [← tBelow_is]; rfl
  rw [e1, e2, Bool.or_false]
theorem npre {p q : List Bool} : p.isPrefixOf q = false ↔ ¬ p <+: q := by rw [Bool.eq_false_iff, ne_eq, List.isPrefixOf_iff_prefix]
theorem mem_keep {rows : List Row} {k : Nat} {p : List Bool} {r : Row} : r ∈ rowsN rows k p ↔ (r ∈ rows ∧ (k = 2 → r.2 = p ∨ ¬ p <+: r.2)) ∨ r = (k, p) := by
  unfold rowsN keptB
  rw [List.mem_append, List.mem_singleton]
  refine or_congr_left ?_
  by_cases h : k = 2
  · subst h
    show r ∈ List.filter (tKeep p) rows ↔ _
    rw [List.mem_filter, tKeep_is]
    simp [npre]
  · have e : ((k : Int) == 2) = false := by simp; omega
    rw [e, if_neg (by simp)]
    simp [h]
/-- q lies below p -/
def Under (p q : List Bool) : Prop := p <+: q ∧ q ≠ p
theorem hasR_new {rows : List Row} {k : Nat} {p q : List Bool} (hq : k = 2 → ¬ Under p q) : hasR (rowsN rows k p) q = (hasR rows q || q.isPrefixOf p) := by
  rw [Bool.eq_iff_iff, hasR_iff, Bool.or_eq_true, hasR_iff, List.isPrefixOf_iff_prefix]
  constructor
  · rintro ⟨r, hr, h⟩
    rcases mem_keep.mp hr with ⟨h1, _⟩ | rfl
    · exact .inl ⟨r, h1, h⟩
    · exact .inr h
  · rintro (⟨r, hr, h⟩ | h)
    · by_cases hk : k = 2 ∧ ¬ (r.2 = p ∨ ¬ p <+: r.2)
      · obtain ⟨h2, h3⟩ := hk
        have h3 : r.2 ≠ p ∧ p <+: r.2 := ⟨fun e => h3 (.inl e), Classical.not_not.mp fun e => h3 (.inr e)⟩
        refine ⟨(k, p), mem_keep.mpr (.inr rfl), ?_⟩
        rcases List.prefix_or_prefix_of_prefix h h3.2 with h4 | h4
        · exact h4
        · by_cases e : q = p
          · rw [e]; exact List.prefix_rfl
          · exact absurd ⟨h4, e⟩ (hq h2)
      · exact ⟨r, mem_keep.mpr (.inl ⟨hr, fun h2 => Classical.not_not.mp fun h3 => hk ⟨h2, h3⟩⟩), h⟩
    · exact ⟨(k, p), mem_keep.mpr (.inr rfl), h⟩
theorem hasR_cut {rows : List Row} {p q : List Bool} (hq : Under p q) : hasR (rowsN rows 2 p) q = false := by
  rw [Bool.eq_false_iff]
  intro h
  obtain ⟨r, hr, h⟩ := hasR_iff.mp h
  rcases mem_keep.mp hr with ⟨_, h1⟩ | rfl
  · rcases h1 rfl with h1 | h1
    · rw [h1] at h
      exact hq.2 (List.IsPrefix.eq_of_length h (Nat.le_antisymm h.length_le hq.1.length_le))
    · exact h1 (hq.1.trans h)
  · exact hq.2 (List.IsPrefix.eq_of_length h (Nat.le_antisymm h.length_le hq.1.length_le))
theorem hasT_new {rows : List Row} {k : Nat} {p q : List Bool} (hq : k = 2 → ¬ Under p q) : hasT (rowsN rows k p) q = (hasT rows q || (k == 3 && q == p)) := by
  rw [Bool.eq_iff_iff, hasT_iff, Bool.or_eq_true, hasT_iff, mem_keep]
  constructor
  · rintro (⟨h, _⟩ | h)
    · exact .inl h
    · injection h with h1 h2
      subst h1 h2
      exact .inr (by simp)
  · rintro (h | h)
    · refine .inl ⟨h, fun h2 => ?_⟩
      by_cases e : q = p
      · exact .inl e
      · exact .inr fun h3 => hq h2 ⟨h3, e⟩
    · simp only [Bool.and_eq_true, beq_iff_eq] at h
      obtain ⟨rfl, rfl⟩ := h
      exact .inr rfl
theorem cnt_app {a b : List Row} {q : List Bool} : cntB (a ++ b) q = cntB a q + cntB b q := by unfold cntB; rw [List.filter_append, List.length_append]
theorem cnt_new {rows : List Row} {k : Nat} {p q : List Bool} (hq : k = 2 → ¬ Under p q) : cntB (rowsN rows k p) q = cntB rows q + if k = 2 ∧ q = p then 1 else 0 := by
  unfold rowsN
  rw [cnt_app]
  have e1 : cntB (keptB rows k p) q = cntB rows q := by
    unfold keptB
    by_cases h : k = 2
    · subst h
      show cntB (List.filter (tKeep p) rows) q = _
      unfold cntB
      rw [List.filter_filter]
      congr 1
      refine List.filter_congr fun r _ => ?_
      cases hr : ((r.1 : Int) == 2 && pt r.2 == pt q) with
      | false => rfl
      | true =>
        simp only [Bool.and_eq_true, beq_iff_eq] at hr
        have eq := pt_inj hr.2
        rw [Bool.true_and, tKeep_is, eq]
        by_cases e : q = p
        · simp [e]
        · have : ¬ p <+: q := fun h3 => hq rfl ⟨h3, e⟩
          simp [e, npre.mpr this]
    · have e : ((k : Int) == 2) = false := by simp; omega
      rw [e, if_neg (by simp)]
  have e2 : cntB [(k, p)] q = if k = 2 ∧ q = p then 1 else 0 := by
    unfold cntB
    rw [List.filter_cons]
    by_cases h : k = 2 ∧ q = p
    · obtain ⟨rfl, rfl⟩ := h
      rw [if_pos (by simp), if_pos ⟨rfl, rfl⟩]; rfl
    · rw [if_neg h, if_neg]
      · rfl
      · intro e
        simp only [Bool.and_eq_true, beq_iff_eq] at e
        exact h ⟨by have := e.1; omega, (pt_inj e.2).symm⟩
  rw [e1, e2]
theorem cnt_cut {rows : List Row} {p q : List Bool} (hq : Under p q) : cntB (rowsN rows 2 p) q = 0 := by
  refine Classical.not_not.mp fun h => ?_
  have := hasR_of (cnt_iff.mp h)
  rw [hasR_cut hq] at this
  cases this
theorem under_take {p p' : List Bool} {i j : Nat} (hij : j ≤ i) (h : Under p (p'.take j)) : Under p (p'.take i) := by
  refine ⟨h.1.trans (take_pre hij), fun e => h.2 ?_⟩
  have h2 : p'.take j <+: p := by have := take_pre (p := p') hij; rwa [e] at this
  exact List.IsPrefix.eq_of_length h2 (Nat.le_antisymm h2.length_le h.1.length_le)
/-- above the change all ways are as they were -/
theorem fb_new {rows : List Row} {k : Nat} {p p' : List Bool} {i : Nat} (hi : i < p'.length) (hq : k = 2 → ¬ Under p (p'.take (i + 1))) : fb (rowsN rows k p) p' i = fb rows p' i := by
  refine rows_fb fun j hj => ?_
  rw [cnt_new fun h2 h => hq h2 (under_take (by omega) h), if_neg, Nat.add_zero]
  rintro ⟨h2, e⟩
  refine hq h2 ⟨by rw [← e]; exact take_pre (by omega), fun e2 => ?_⟩
  have := congrArg List.length (e.trans e2.symm)
  simp at this
  omega
theorem kids_off {X : Mp} {s : Spot} (h : ∀ e ∈ X, e.1.dropLast ≠ s) : kids X s = [] := by
  unfold kids
  rw [List.filterMap_eq_nil_iff]
  intro e he
  unfold kidOf
  rw [if_neg (h e he)]
theorem fb_drop {rows : List Row} {p : List Bool} {i : Nat} : (fb rows p i).dropLast = fullTo rows p i := by unfold fb; rw [List.dropLast_concat]
theorem take_of_pre {p q : List Bool} {n : Nat} (h : q <+: p.take n) : q = p.take q.length ∧ q.length ≤ n := by
  have h2 := h.trans (List.take_prefix n p)
  refine ⟨(List.prefix_iff_eq_take.mp h2), Nat.le_trans h.length_le (by simp; omega)⟩
/-- the spots that lack, looked at -/
theorem look_add {rows : List Row} {p p' : List Bool} {n i : Nat} (hz : rows.length ≤ 20) (hn : n ≤ p.length) (hi : i < p'.length) :
    look (missTo rows p n) (fb rows p' i) = if hasR rows (p'.take (i + 1)) = false ∧ p'.take (i + 1) <+: p.take n then some .nest else none := by
  by_cases h : hasR rows (p'.take (i + 1)) = false ∧ p'.take (i + 1) <+: p.take n
  · rw [if_pos h]
    obtain ⟨h1, h2⟩ := h
    obtain ⟨e, hl⟩ := take_of_pre h2
    have el : (p'.take (i + 1)).length = i + 1 := by simp; omega
    rw [el] at e hl
    have ef : fb rows p' i = fb rows p i := (full_congr (i := i + 1) e (by omega) (by omega)).2 i (by omega)
    have : (fb rows p' i, SK.nest) ∈ missTo rows p n := mem_miss.mpr ⟨i, by omega, by rw [ef], by rw [← e]; exact h1⟩
    cases hl2 : look (missTo rows p n) (fb rows p' i) with
    | none =>
      have := look_mem.mpr ⟨_, this⟩
      rw [hl2] at this; cases this
    | some k =>
      obtain ⟨_, _, _, rfl, _⟩ := look_miss hl2
      rfl
  · rw [if_neg h]
    refine look_none fun k hk => h ?_
    obtain ⟨j, h1, h2, h3⟩ := mem_miss.mp hk
    injection h2 with h2 _
    obtain ⟨e, rfl⟩ := fb_inj hz hz hi (by omega) h2
    rw [e]
    exact ⟨h3, take_pre (by omega)⟩
theorem full_pre {rows : List Row} {p : List Bool} {i : Nat} : ∀ {j : Nat}, i ≤ j → fullTo rows p i <+: fullTo rows p j
  | 0, h => by rw [Nat.le_zero.mp h]; exact List.prefix_rfl
  | j + 1, h => by
    by_cases e : i = j + 1
    · rw [e]; exact List.prefix_rfl
    · refine (full_pre (j := j) (by omega)).trans ?_
      rw [full_succ]
      unfold fb
      split
      · exact List.prefix_append _ _
      · rw [List.append_assoc]; exact List.prefix_append _ _
theorem leaf_ext {M : Mp} (W : WF M) {s : Spot} (h : look M s = none) : ∀ {t : Spot}, s <+: t → look M t = none := by
  rintro t ⟨u, rfl⟩
  have : ∀ v : List Str, look M (s ++ v.reverse) = none := fun v => by
    induction v with
    | nil => rw [List.reverse_nil, List.append_nil]; exact h
    | cons x v ih => rw [List.reverse_cons, ← List.append_assoc]; exact W.leaf ih x
  have := this u.reverse
  rwa [List.reverse_reverse] at this
theorem fb_last {rows rows' : List Row} {p p' : List Bool} {i j m : Nat} (hm : m < 30) : fb rows p i ≠ fb rows' p' j ++ [num m] := by
  intro e
  unfold fb at e
  have := (snoc_inj e).2
  have e2 := isN_nm (p.getD i false)
  rw [this, isN_num hm] at e2
  cases e2
theorem desc_congr {rows rows' : List Row} {q : List Bool} (h1 : hasT rows' q = hasT rows q) (h2 : cntB rows' q = cntB rows q) (h3 : hasR rows' q = hasR rows q) : desc rows' q = desc rows q := by
  unfold desc; rw [h1, h2, h3]
/-- a place that is told of, or one on the new way -/
theorem desc_grow {rows rows' : List Row} {q : List Bool} {b : Bool} (h1 : hasT rows' q = hasT rows q) (h2 : cntB rows' q = cntB rows q) (h3 : hasR rows' q = (hasR rows q || b)) : desc rows' q = (desc rows q).or (if hasR rows q = false ∧ b = true then some .nest else none) := by
  cases hd : desc rows q with
  | none =>
    have hR := desc_none.mp hd
    have hT : hasT rows q = false := by
      rw [Bool.eq_false_iff]; intro h; rw [hasR_of (hasT_iff.mp h)] at hR; cases hR
    have hc : cntB rows q = 0 := Classical.not_not.mp fun h => by rw [hasR_of (cnt_iff.mp h)] at hR; cases hR
    rw [desc_nest (h1.trans hT) (h2.trans hc), h3, hR]
    cases b <;> rfl
  | some d =>
    have hR : hasR rows q = true := by
      rw [← Bool.not_eq_false]; intro h; rw [desc_none.mpr h] at hd; cases hd
    rw [desc_congr h1 h2 (by rw [h3, hR]; rfl), hd]; rfl
theorem pre_take {p q : List Bool} {n : Nat} (hp : p.length = n + 1) (hne : q ≠ p) : q.isPrefixOf p = true ↔ q <+: p.take n := by
  rw [List.isPrefixOf_iff_prefix]
  constructor
  · intro h
    have hl : q.length ≤ n := by
      have := h.length_le
      refine Nat.le_of_lt_succ (Nat.lt_of_le_of_ne (by omega) fun e => hne ?_)
      exact List.IsPrefix.eq_of_length h (by omega)
    rw [List.prefix_iff_eq_take.mp h]
    exact take_pre hl
  · exact fun h => h.trans (List.take_prefix _ _)
theorem era_mem {rows : List Row} {p : List Bool} {n : Nat} {s : Spot} {k : SK} (hz : rows.length ≤ 20) (hn : n ≤ p.length) (h : (s, k) ∈ missTo rows p n) : ∃ j, j < n ∧ era s = (p.take (j + 1)).map nm := by
  obtain ⟨j, h1, h2, _⟩ := mem_miss.mp h
  injection h2 with h2 _
  exact ⟨j, h1, by rw [h2, era_fb hz (by omega)]⟩
theorem keep_len {rows : List Row} {k : Nat} {p : List Bool} : (rowsN rows k p).length ≤ rows.length + 1 := by
  unfold rowsN
  rw [List.length_append]
  have := filt_le (rows := rows) (k := k) (p := p)
  simp; omega
/-- no spot that lacks is a child of a list -/
theorem miss_kids {rows : List Row} {p p' : List Bool} {n i : Nat} (hz : rows.length ≤ 20) (hn : n ≤ p.length) (hi : i < p'.length) (hc : cntB rows (p'.take (i + 1)) ≠ 0) : kids (missTo rows p n) (fb rows p' i) = [] := by
  refine kids_off fun e he hd => ?_
  obtain ⟨j, h1, rfl, _⟩ := mem_miss.mp he
  rw [fb_drop] at hd
  have := congrArg era hd
  rw [era_full hz j (by omega), era_fb hz hi] at this
  have e := nms_inj this
  have ej : j = i + 1 := by
    have := congrArg List.length e
    simp at this; omega
  subst ej
  have e2 : fb rows p i = fb rows p' i := (full_congr (i := i + 1) e (by omega) (by omega)).2 i (by omega)
  rw [full_succ, e, if_neg hc, e2] at hd
  exact snoc_ne hd
theorem one_kids {rows : List Row} {p p' : List Bool} {n i : Nat} {k : SK} (hz : rows.length ≤ 20) (hn : n < p.length) (hi : i < p'.length) (hc : cntB rows (p'.take (i + 1)) ≠ 0) : kids [(fb rows p n, k)] (fb rows p' i) = [] := by
  refine kids_off fun e he hd => ?_
  rw [List.mem_singleton.mp he] at hd
  rw [fb_drop] at hd
  have := congrArg era hd
  rw [era_full hz n (by omega), era_fb hz hi] at this
  have e := nms_inj this
  have ej : n = i + 1 := by
    have := congrArg List.length e
    simp at this; omega
  subst ej
  have e2 : fb rows p i = fb rows p' i := (full_congr (i := i + 1) e (by omega) (by omega)).2 i (by omega)
  rw [full_succ, e, if_neg hc, e2] at hd
  exact snoc_ne hd
theorem or_if {a : Option SK} {c : Prop} [Decidable c] {k : SK} (h : ¬ c) : a.or (if c then some k else none) = a := by rw [if_neg h]; cases a <;> rfl
/-- a deed of kind 0 or 1 -/
theorem live_a {rows : List Row} {M : Mp} (L : Live rows M) (hz : rows.length ≤ 19) {k : Nat} (p : List Bool) (h2 : k ≠ 2) (h3 : k ≠ 3) : Live (rowsN rows k p) (M ++ missTo rows p p.length) := by
  have un : ∀ {q : List Bool}, k = 2 → ¬ Under p q := fun e => absurd e h2
  have hcn : ∀ q, cntB (rowsN rows k p) q = cntB rows q := fun q => by rw [cnt_new un, if_neg (fun e => h2 e.1), Nat.add_zero]
  have hTn : ∀ q, hasT (rowsN rows k p) q = hasT rows q := fun q => by
    rw [hasT_new un]
    have : (k == 3) = false := by simp [h3]
    rw [this]; simp
  refine ⟨fun h => ?_, fun p' i hi => ?_, fun p' i hi hd => ?_⟩
  · rcases mem_keep.mp h with ⟨h, _⟩ | h
    · exact L.root h
    · injection h with h _; exact h3 h.symm
  · rw [fb_new hi un, look_app, L.base p' i hi, look_add (by omega) (Nat.le_refl _) hi, desc_grow (hTn _) (hcn _) (hasR_new un), List.take_length]
    simp only [List.isPrefixOf_iff_prefix]
  · rw [fb_new hi un, kids_app]
    have hc : cntB rows (p'.take (i + 1)) ≠ 0 := fun h => by
      rw [desc_grow (hTn _) (hcn _) (hasR_new un)] at hd
      cases hT : hasT rows (p'.take (i + 1)) with
      | true => rw [desc_txt hT] at hd; cases hd
      | false =>
        rw [desc_nest hT h] at hd
        split at hd
        · cases hd
        · split at hd <;> cases hd
    have hd2 : desc rows (p'.take (i + 1)) = some .lst := by
      cases hT : hasT rows (p'.take (i + 1)) with
      | true => rw [desc_grow (hTn _) (hcn _) (hasR_new un), desc_txt hT] at hd; cases hd
      | false => exact desc_lst hT hc
    rw [L.lst p' i hi hd2, miss_kids (by omega) (Nat.le_refl _) hi hc, List.append_nil, hcn]
end Mine
end
section
open PySem PySem.W PyProof.Rows PySem.Calls
set_option Elab.async false
set_option maxRecDepth 100000
set_option maxHeartbeats 4000000
set_option linter.unusedVariables false
namespace Mine
theorem or_none {a : Option SK} : a.or none = a := by cases a <;> rfl
theorem hasT_R {rows : List Row} {q : List Bool} (h : hasR rows q = false) : hasT rows q = false := by
  rw [Bool.eq_false_iff]; intro h2; rw [hasR_of (hasT_iff.mp h2)] at h; cases h
theorem cnt_R {rows : List Row} {q : List Bool} (h : hasR rows q = false) : cntB rows q = 0 := Classical.not_not.mp fun h2 => by rw [hasR_of (cnt_iff.mp h2)] at h; cases h
theorem lst_of {rows : List Row} {q : List Bool} (h : desc rows q = some .lst) : hasT rows q = false ∧ cntB rows q ≠ 0 := by
  cases hT : hasT rows q with
  | true => rw [desc_txt hT] at h; cases h
  | false =>
    refine ⟨rfl, fun hc => ?_⟩
    rw [desc_nest hT hc] at h
    split at h <;> cases h
theorem fb_eq {rows : List Row} {p p' : List Bool} {n i : Nat} (hn : n < p.length) (hi : i < p'.length) (hp : p.length = n + 1) (e : p'.take (i + 1) = p) : i = n ∧ fb rows p' i = fb rows p n := by
  have ei : i = n := by
    have := congrArg List.length e
    simp at this; omega
  subst ei
  exact ⟨rfl, (full_congr (i := i + 1) (by rw [e, ← hp, List.take_length]) (by omega) (by omega)).2 i (by omega)⟩
theorem fb_ne {rows : List Row} {p p' : List Bool} {n i : Nat} (hz : rows.length ≤ 20) (hn : n < p.length) (hi : i < p'.length) (hp : p.length = n + 1) (e : p'.take (i + 1) ≠ p) : fb rows p n ≠ fb rows p' i := fun h => by
  obtain ⟨e2, e3⟩ := fb_inj hz hz hn hi h
  subst e3
  refine e ?_
  rw [← e2, ← hp, List.take_length]
theorem look_one {s s' : Spot} {k : SK} : look [(s, k)] s' = if s = s' then some k else none := rfl
/-- a text laid -/
theorem live_b {rows : List Row} {M : Mp} (L : Live rows M) (hz : rows.length ≤ 19) {p : List Bool} {n : Nat} (hp : p.length = n + 1) (hR : hasR rows p = false) : Live (rowsN rows 3 p) (M ++ missTo rows p n ++ [(fb rows p n, .txt (pt p))]) := by
  have un : ∀ {q : List Bool}, (3 : Nat) = 2 → ¬ Under p q := fun e => absurd e (by decide)
  have hcn : ∀ q, cntB (rowsN rows 3 p) q = cntB rows q := fun q => by rw [cnt_new un, if_neg (fun e => absurd e.1 (by decide)), Nat.add_zero]
  have hTn : ∀ q, q ≠ p → hasT (rowsN rows 3 p) q = hasT rows q := fun q hq => by
    rw [hasT_new un]
    have : (q == p) = false := by simp [hq]
    rw [this]; simp
  have hn : n < p.length := by omega
  refine ⟨fun h => ?_, fun p' i hi => ?_, fun p' i hi hd => ?_⟩
  · rcases mem_keep.mp h with ⟨h, _⟩ | h
    · exact L.root h
    · injection h with _ h
      rw [← h] at hp; cases hp
  · rw [fb_new hi un, look_app, look_app, L.base p' i hi, look_add (by omega) (by omega) hi, look_one]
    by_cases e : p'.take (i + 1) = p
    · obtain ⟨_, ef⟩ := fb_eq (rows := rows) hn hi hp e
      rw [if_pos ef.symm, e, desc_none.mpr hR, if_neg (fun h => by have := h.2.length_le; simp at this; omega), desc_txt]
      · rfl
      · rw [hasT_new un]; simp
    · rw [if_neg (fb_ne (by omega) hn hi hp e), or_none, desc_grow (hTn _ e) (hcn _) (hasR_new un)]
      simp only [pre_take hp e]
  · have hc := (lst_of hd).2
    have ne : p'.take (i + 1) ≠ p := fun e => by
      rw [e, hcn, cnt_R hR] at hc
      exact hc rfl
    rw [hcn] at hc
    have hT := (lst_of hd).1
    rw [hTn _ ne] at hT
    rw [fb_new hi un, kids_app, kids_app, L.lst p' i hi (desc_lst hT hc), miss_kids (by omega) (by omega) hi hc, one_kids (by omega) hn hi hc, List.append_nil, List.append_nil, hcn]
theorem under_of {p p' : List Bool} {n i : Nat} (hp : p.length = n + 1) (hi : i < p'.length) (h : Under p (p'.take (i + 1))) : n < i ∧ p'.take (n + 1) = p := by
  have hl : p.length < (p'.take (i + 1)).length := Nat.lt_of_le_of_ne h.1.length_le fun e => h.2 (List.IsPrefix.eq_of_length h.1 e).symm
  have e := List.prefix_iff_eq_take.mp (h.1.trans (List.take_prefix _ _))
  rw [hp] at e
  refine ⟨by simp at hl; omega, e.symm⟩
/-- below the change the ways go on behind it -/
theorem under_pre {rows rows' : List Row} {p p' : List Bool} {n i : Nat} (hp : p.length = n + 1) (hi : i < p'.length) (h : Under p (p'.take (i + 1))) (hw : fb rows' p n = fb rows p n) : fullTo rows' p (n + 1) <+: fb rows' p' i ∧ fb rows p n <+: fb rows' p' i := by
  obtain ⟨h1, e⟩ := under_of hp hi h
  obtain ⟨e1, e2⟩ := full_congr (rows := rows') (i := n + 1) (show p'.take (n + 1) = p.take (n + 1) by rw [e, ← hp, List.take_length]) (by omega) (by omega)
  have a : fullTo rows' p (n + 1) <+: fb rows' p' i := by
    rw [← e1]
    exact (full_pre (i := n + 1) (j := i) (by omega)).trans (by unfold fb; exact List.prefix_append _ _)
  refine ⟨a, List.IsPrefix.trans ?_ a⟩
  rw [full_succ, hw]
  split
  · exact List.prefix_rfl
  · exact List.prefix_append _ _
theorem under_era {rows : List Row} {p p' : List Bool} {n i : Nat} (hz : rows.length ≤ 20) (hp : p.length = n + 1) (hi : i < p'.length) (h : Under p (p'.take (i + 1))) (j : Nat) : era (fb rows p' i) ≠ (p.take j).map nm := fun e => by
  rw [era_fb hz hi] at e
  have := congrArg List.length (nms_inj e)
  have := (under_of hp hi h).1
  simp at *; omega
theorem desc_cut {rows : List Row} {p q : List Bool} (h : Under p q) : desc (rowsN rows 2 p) q = none := desc_none.mpr (hasR_cut h)
/-- the first table of a list -/
theorem live_c {rows : List Row} {M : Mp} (L : Live rows M) (W : WF M) (hz : rows.length ≤ 19) {p : List Bool} {n : Nat} (hp : p.length = n + 1) (hR : hasR rows p = false) :
    Live (rowsN rows 2 p) ((M ++ missTo rows p n ++ [(fb rows p n, .lst)]) ++ [(fb rows p n ++ [num 0], .nest)]) := by
  have hn : n < p.length := by omega
  have hpt : p.take (n + 1) = p := by rw [← hp, List.take_length]
  have nu : ¬ Under p p := fun h => h.2 rfl
  have hfn : fb (rowsN rows 2 p) p n = fb rows p n := fb_new hn fun _ => by rw [hpt]; exact nu
  have hlk : look M (fb rows p n) = none := by rw [L.base p n hn, hpt]; exact desc_none.mpr hR
  have hz' : (rowsN rows 2 p).length ≤ 20 := Nat.le_trans keep_len (by omega)
  refine ⟨fun h => ?_, fun p' i hi => ?_, fun p' i hi hd => ?_⟩
  · rcases mem_keep.mp h with ⟨h, _⟩ | h
    · exact L.root h
    · injection h with h _; cases h
  · by_cases hu : Under p (p'.take (i + 1))
    · rw [desc_cut hu]
      have a := leaf_ext W hlk (under_pre (rows := rows) hp hi hu hfn).2
      refine look_none fun k hk => ?_
      rcases List.mem_append.mp hk with hk | hk
      · rcases List.mem_append.mp hk with hk | hk
        · rcases List.mem_append.mp hk with hk | hk
          · have := look_mem.mpr ⟨_, hk⟩
            rw [a] at this; cases this
          · obtain ⟨j, h1, h2⟩ := era_mem (by omega) (by omega) hk
            exact under_era hz' hp hi hu _ h2
        · have e := List.mem_singleton.mp hk
          injection e with e _
          refine under_era hz' hp hi hu (n + 1) ?_
          rw [e, era_fb (by omega) hn]
      · have e := List.mem_singleton.mp hk
        injection e with e _
        refine under_era hz' hp hi hu (n + 1) ?_
        rw [e, era_app, era_fb (by omega) hn, era_num (by decide), List.append_nil]
    · rw [fb_new hi fun _ => hu, look_app, look_app, look_app, L.base p' i hi, look_add (by omega) (by omega) hi, look_one, look_one, if_neg (show fb rows p n ++ [num 0] ≠ fb rows p' i from fun e => fb_last (rows := rows) (m := 0) (by decide) e.symm), or_none]
      by_cases e : p'.take (i + 1) = p
      · obtain ⟨_, ef⟩ := fb_eq (rows := rows) hn hi hp e
        rw [if_pos ef.symm, e, desc_none.mpr hR, if_neg (fun h => by have := h.2.length_le; simp at this; omega), desc_lst]
        · rfl
        · rw [hasT_new fun _ => nu, hasT_R hR]; rfl
        · rw [cnt_new fun _ => nu, if_pos ⟨rfl, rfl⟩]; omega
      · rw [if_neg (fb_ne (by omega) hn hi hp e), or_none, desc_grow (rows := rows) (rows' := rowsN rows 2 p) (b := (p'.take (i + 1)).isPrefixOf p)]
        · simp only [pre_take hp e]
        · rw [hasT_new fun _ => hu]; simp
        · rw [cnt_new fun _ => hu, if_neg (fun h => e h.2), Nat.add_zero]
        · exact hasR_new fun _ => hu
  · obtain ⟨hT, hc⟩ := lst_of hd
    have hu : ¬ Under p (p'.take (i + 1)) := fun h => hc (cnt_cut h)
    rw [fb_new hi fun _ => hu, kids_app, kids_app, kids_app]
    by_cases e : p'.take (i + 1) = p
    · obtain ⟨_, ef⟩ := fb_eq (rows := rows) hn hi hp e
      rw [ef, e, cnt_new fun _ => nu, if_pos ⟨rfl, rfl⟩, cnt_R hR, kids_none W hlk, kids_off (X := missTo rows p n), kids_off (X := [(fb rows p n, SK.lst)])]
      · show [] ++ [] ++ [] ++ List.filterMap (kidOf (fb rows p n)) [(fb rows p n ++ [num 0], SK.nest)] = _
        rw [List.filterMap_cons, kidOf_snoc, if_pos rfl]; rfl
      · intro x hx hd
        rw [List.mem_singleton.mp hx, fb_drop] at hd
        unfold fb at hd
        exact snoc_ne hd.symm
      · intro x hx hd
        obtain ⟨j, h1, rfl, _⟩ := mem_miss.mp hx
        rw [fb_drop] at hd
        have := congrArg era hd
        rw [era_full (by omega) j (by omega), era_fb (by omega) hn] at this
        have := congrArg List.length (nms_inj this)
        simp at this; omega
    · rw [cnt_new fun _ => hu, if_neg (fun h => e h.2), Nat.add_zero] at hc ⊢
      rw [hasT_new fun _ => hu] at hT
      have hT : hasT rows (p'.take (i + 1)) = false := by simpa using hT
      rw [L.lst p' i hi (desc_lst hT hc), miss_kids (by omega) (by omega) hi hc, one_kids (by omega) hn hi hc, kids_off, List.append_nil, List.append_nil, List.append_nil]
      intro x hx hd
      rw [List.mem_singleton.mp hx, List.dropLast_concat] at hd
      exact fb_ne (by omega) hn hi hp e hd
/-- one table more -/
theorem live_d {rows : List Row} {M : Mp} (L : Live rows M) (W : WF M) (hz : rows.length ≤ 19) {p : List Bool} {n : Nat} (hp : p.length = n + 1) (hT : hasT rows p = false) (hc : cntB rows p ≠ 0) :
    Live (rowsN rows 2 p) (M ++ [(fb rows p n ++ [num (cntB rows p)], .nest)]) := by
  have hn : n < p.length := by omega
  have hpt : p.take (n + 1) = p := by rw [← hp, List.take_length]
  have nu : ¬ Under p p := fun h => h.2 rfl
  have hfn : fb (rowsN rows 2 p) p n = fb rows p n := fb_new hn fun _ => by rw [hpt]; exact nu
  have hcl := cntB_le (rows := rows) (q := p)
  have hz' : (rowsN rows 2 p).length ≤ 20 := Nat.le_trans keep_len (by omega)
  have hk := L.lst p n hn (by rw [hpt]; exact desc_lst hT hc)
  rw [hpt] at hk
  have hlk : look M (fb rows p n ++ [num (cntB rows p)]) = none := by
    refine Classical.not_not.mp fun h => ?_
    have := mem_kids.mpr h
    rw [hk] at this
    obtain ⟨j, hj, e⟩ := List.mem_map.mp this
    have hj := List.mem_range.mp hj
    exact absurd (num_inj (by omega) (by omega) e) (by omega)
  have hcp : cntB (rowsN rows 2 p) p = cntB rows p + 1 := by rw [cnt_new fun _ => nu, if_pos ⟨rfl, rfl⟩]
  refine ⟨fun h => ?_, fun p' i hi => ?_, fun p' i hi hd => ?_⟩
  · rcases mem_keep.mp h with ⟨h, _⟩ | h
    · exact L.root h
    · injection h with h _; cases h
  · by_cases hu : Under p (p'.take (i + 1))
    · rw [desc_cut hu]
      have b := (under_pre (rows := rows) hp hi hu hfn).1
      rw [full_succ, hpt, hcp, if_neg (by omega), Nat.add_sub_cancel, hfn] at b
      have a := leaf_ext W hlk b
      refine look_none fun k hk => ?_
      rcases List.mem_append.mp hk with hk | hk
      · have := look_mem.mpr ⟨_, hk⟩
        rw [a] at this; cases this
      · have e := List.mem_singleton.mp hk
        injection e with e _
        refine under_era hz' hp hi hu (n + 1) ?_
        rw [e, era_app, era_fb (by omega) hn, era_num (by omega), List.append_nil]
    · rw [fb_new hi fun _ => hu, look_app, L.base p' i hi, look_one, if_neg (show fb rows p n ++ [num (cntB rows p)] ≠ fb rows p' i from fun e => fb_last (rows := rows) (m := cntB rows p) (by omega) e.symm), or_none]
      by_cases e : p'.take (i + 1) = p
      · rw [e, desc_lst hT hc, desc_lst]
        · rw [hasT_new fun _ => nu, hT]; rfl
        · rw [hcp]; omega
      · rw [desc_congr (rows := rows) (rows' := rowsN rows 2 p)]
        · rw [hasT_new fun _ => hu]; simp
        · rw [cnt_new fun _ => hu, if_neg (fun h => e h.2), Nat.add_zero]
        · rw [hasR_new fun _ => hu]
          cases hq : (p'.take (i + 1)).isPrefixOf p with
          | false => simp
          | true => rw [hasR_up (hasR_of (cnt_iff.mp hc)) (List.isPrefixOf_iff_prefix.mp hq)]; rfl
  · obtain ⟨hT2, hc2⟩ := lst_of hd
    have hu : ¬ Under p (p'.take (i + 1)) := fun h => hc2 (cnt_cut h)
    rw [fb_new hi fun _ => hu, kids_app]
    by_cases e : p'.take (i + 1) = p
    · obtain ⟨_, ef⟩ := fb_eq (rows := rows) hn hi hp e
      rw [ef, e, hcp, hk, List.range_succ, List.map_append]
      congr 1
      show List.filterMap (kidOf (fb rows p n)) [(fb rows p n ++ [num (cntB rows p)], SK.nest)] = _
      rw [List.filterMap_cons, kidOf_snoc, if_pos rfl]; rfl
    · rw [cnt_new fun _ => hu, if_neg (fun h => e h.2), Nat.add_zero] at hc2 ⊢
      rw [hasT_new fun _ => hu] at hT2
      have hT2 : hasT rows (p'.take (i + 1)) = false := by simpa using hT2
      rw [L.lst p' i hi (desc_lst hT2 hc2), kids_off, List.append_nil]
      intro x hx hd
      rw [List.mem_singleton.mp hx, List.dropLast_concat] at hd
      exact fb_ne (by omega) hn hi hp e hd
end Mine
end
section
open PySem PySem.W PyProof.Rows PySem.Calls
set_option Elab.async false
set_option maxRecDepth 100000
set_option maxHeartbeats 4000000
set_option linter.unusedVariables false
namespace Mine
theorem let_parts {rows : List Row} {k : Nat} {p : List Bool} (h : letB rows k p = true) : txtTo rows p p.length = false ∧ (k = 2 → hasR rows p = false ∨ cntB rows p ≠ 0) ∧ (k = 3 → hasR rows p = false) := by
  rw [let_is, Bool.and_eq_true, Bool.not_eq_true'] at h
  refine ⟨h.1, fun h2 => ?_, fun h3 => ?_⟩
  · have := h.2
    rw [if_pos h2, Bool.or_eq_true] at this
    exact this.imp (fun h => by simpa using h) fun h => by simpa using h
  · have := h.2
    rw [if_neg (by omega), if_pos h3] at this
    simpa using this
theorem txt_here {rows : List Row} {p : List Bool} (h : txtTo rows p p.length = false) {q : List Bool} (hq : q <+: p) : hasT rows q = false := by
  rw [Bool.eq_false_iff] at h ⊢
  intro h2
  exact h (txt_iff.mpr ⟨q, hasT_iff.mp h2, by rw [List.take_length]; exact hq⟩)
theorem live_new {rows : List Row} {M : Mp} (L : Live rows M) (W : WF M) (hz : rows.length ≤ 19) {k : Nat} {p : List Bool} (hl : letB rows k p = true) (h0 : p = [] → k = 0) : Live (rowsN rows k p) (newM rows M k p) := by
  obtain ⟨ht, h2, h3⟩ := let_parts hl
  unfold newM
  by_cases e2 : k = 2
  · subst e2
    rw [if_pos rfl]
    obtain ⟨n, hp⟩ : ∃ n, p.length = n + 1 := by
      cases p with
      | nil => exact absurd (h0 rfl) (by decide)
      | cons a r => exact ⟨_, rfl⟩
    have en : p.length - 1 = n := by omega
    rw [en]
    by_cases hc : cntB rows p = 0
    · rw [if_pos hc]
      exact live_c L W hz hp ((h2 rfl).resolve_right fun h => h hc)
    · rw [if_neg hc]
      exact live_d L W hz hp (txt_here ht List.prefix_rfl) hc
  · rw [if_neg e2]
    by_cases e3 : k = 3
    · subst e3
      rw [if_pos rfl]
      obtain ⟨n, hp⟩ : ∃ n, p.length = n + 1 := by
        cases p with
        | nil => exact absurd (h0 rfl) (by decide)
        | cons a r => exact ⟨_, rfl⟩
      have en : p.length - 1 = n := by omega
      rw [en]
      exact live_b L hz hp (h3 rfl)
    · rw [if_neg e3]
      exact live_a L hz p e2 e3
/-- spots laid behind the others, but for those that are there -/
def addAll : List Spot → List Spot → List Spot
  | S, [] => S
  | S, x :: xs => addAll (if x ∈ S then S else S ++ [x]) xs
theorem addAll_app : ∀ {a S b : List Spot}, addAll S (a ++ b) = addAll (addAll S a) b
  | [], _, _ => rfl
  | x :: a, S, b => addAll_app (a := a)
theorem addAll_sub : ∀ {xs S : List Spot} {s : Spot}, s ∈ S → s ∈ addAll S xs
  | [], _, _, h => h
  | x :: xs, S, s, h => addAll_sub (xs := xs) (by split; exact h; exact List.mem_append_left _ h)
theorem addAll_has : ∀ {xs S : List Spot} {s : Spot}, s ∈ xs → s ∈ addAll S xs
  | x :: xs, S, s, h => by
    rcases List.mem_cons.mp h with rfl | h
    · refine addAll_sub (xs := xs) ?_
      by_cases e : s ∈ S
      · rw [if_pos e]; exact e
      · rw [if_neg e]; exact List.mem_append_right _ List.mem_cons_self
    · exact addAll_has (xs := xs) h
theorem addAll_mem : ∀ {xs S : List Spot} {s : Spot}, s ∈ addAll S xs → s ∈ S ∨ s ∈ xs
  | [], _, _, h => .inl h
  | x :: xs, S, s, h => by
    rcases addAll_mem (xs := xs) h with h | h
    · split at h
      · exact .inl h
      · rcases List.mem_append.mp h with h | h
        · exact .inl h
        · exact .inr (by rw [List.mem_singleton.mp h]; exact List.mem_cons_self)
    · exact .inr (List.mem_cons_of_mem _ h)
theorem addAll_in {S : List Spot} {x : Spot} (h : x ∈ S) : addAll S [x] = S := if_pos h
theorem addAll_out {S : List Spot} {x : Spot} (h : x ∉ S) : addAll S [x] = S ++ [x] := if_neg h
abbrev spt (M : Mp) : List Spot := M.map (·.1)
theorem mem_spt {M : Mp} {s : Spot} : s ∈ spt M ↔ look M s ≠ none := by
  rw [← Option.isSome_iff_ne_none, look_mem, List.mem_map]
  exact ⟨fun ⟨⟨a, k⟩, h, e⟩ => ⟨k, by simp only at e; rw [← e]; exact h⟩, fun ⟨k, h⟩ => ⟨_, h, rfl⟩⟩
theorem spots_way {rows : List Row} {M : Mp} (L : Live rows M) (hz : rows.length ≤ 20) {p : List Bool} (ht : txtTo rows p p.length = false) : ∀ i, i ≤ p.length → addAll (spt M) (spotsTo rows p i) = spt (M ++ missTo rows p i)
  | 0, _ => by show spt M = spt (M ++ []); rw [List.append_nil]
  | i + 1, h => by
    have ih := spots_way L hz ht i (by omega)
    have lw := look_way L hz (p := p) (n := i) (by omega)
    have hT : hasT rows (p.take (i + 1)) = false := txt_here ht (List.take_prefix _ _)
    show addAll (spt M) (spotsTo rows p i ++ if cntB rows (p.take (i + 1)) = 0 then [fb rows p i] else [fb rows p i, fullTo rows p (i + 1)]) = _
    rw [addAll_app, ih]
    cases hR : hasR rows (p.take (i + 1)) with
    | false =>
      rw [if_pos (cnt_R hR), addAll_out (fun h => mem_spt.mp h (by rw [lw]; exact desc_none.mpr hR))]
      have : missTo rows p (i + 1) = missTo rows p i ++ [(fb rows p i, .nest)] := by
        conv => lhs; unfold missTo
        rw [if_neg (by simp [hR])]
      rw [this, ← List.append_assoc]
      simp [spt]
    | true =>
      have e : missTo rows p (i + 1) = missTo rows p i := by
        rw [miss_nil hR, miss_nil (hasR_up hR (take_pre (Nat.le_succ i)))]
      have hin : fb rows p i ∈ spt (M ++ missTo rows p i) := mem_spt.mpr fun h => by
        rw [lw] at h
        rw [desc_none.mp h] at hR; cases hR
      rw [e]
      by_cases hc : cntB rows (p.take (i + 1)) = 0
      · rw [if_pos hc, addAll_in hin]
      · rw [if_neg hc]
        have e2 : addAll (spt (M ++ missTo rows p i)) [fb rows p i, fullTo rows p (i + 1)] = addAll (addAll (spt (M ++ missTo rows p i)) [fb rows p i]) [fullTo rows p (i + 1)] := rfl
        rw [e2, addAll_in hin, addAll_in]
        refine mem_spt.mpr ?_
        rw [full_succ, if_neg hc, look_app]
        have hk := L.lst p i (by omega) (desc_lst hT hc)
        have : num (cntB rows (p.take (i + 1)) - 1) ∈ kids M (fb rows p i) := by
          rw [hk]
          exact List.mem_map.mpr ⟨_, List.mem_range.mpr (by omega), rfl⟩
        have := mem_kids.mp this
        cases hl : look M (fb rows p i ++ [num (cntB rows (p.take (i + 1)) - 1)]) with
        | none => exact absurd hl this
        | some d => simp
theorem spots_congr {rows rows' : List Row} {p : List Bool} : ∀ {i : Nat}, (∀ j, j < i → cntB rows (p.take (j + 1)) = cntB rows' (p.take (j + 1))) → spotsTo rows p i = spotsTo rows' p i
  | 0, _ => rfl
  | i + 1, h => by
    have e1 := spots_congr (rows := rows) (rows' := rows') (p := p) (i := i) fun j hj => h j (by omega)
    have e2 : fullTo rows p i = fullTo rows' p i := rows_congr fun j hj => h j (by omega)
    have e3 : fullTo rows p (i + 1) = fullTo rows' p (i + 1) := rows_congr fun j hj => h j (by omega)
    show spotsTo rows p i ++ _ = spotsTo rows' p i ++ _
    rw [e1, e2, e3, h i (by omega)]
theorem cnt_way {rows : List Row} {k : Nat} {p : List Bool} {j : Nat} (hj : k = 2 → j + 1 < p.length) (hj2 : j < p.length) : cntB (rowsN rows k p) (p.take (j + 1)) = cntB rows (p.take (j + 1)) := by
  rw [cnt_new, if_neg, Nat.add_zero]
  · rintro ⟨h2, e⟩
    have := congrArg List.length e
    have := hj h2
    simp at *; omega
  · intro h2 h
    have := h.1.length_le
    have := hj h2
    simp at *; omega
theorem spots_is {rows : List Row} {M : Mp} (L : Live rows M) (W : WF M) (hz : rows.length ≤ 19) {k : Nat} {p : List Bool} (hl : letB rows k p = true) (h0 : p = [] → k = 0) : addAll (spt M) (spotsTo (rowsN rows k p) p p.length) = spt (newM rows M k p) := by
  obtain ⟨ht, h2, h3⟩ := let_parts hl
  have way := spots_way L (by omega) ht
  unfold newM
  by_cases e2 : k = 2
  · subst e2
    rw [if_pos rfl]
    obtain ⟨n, hp⟩ : ∃ n, p.length = n + 1 := by
      cases p with
      | nil => exact absurd (h0 rfl) (by decide)
      | cons a r => exact ⟨_, rfl⟩
    have en : p.length - 1 = n := by omega
    have hpt : p.take (n + 1) = p := by rw [← hp, List.take_length]
    have nu : ¬ Under p p := fun h => h.2 rfl
    have hfn : fb (rowsN rows 2 p) p n = fb rows p n := fb_new (by omega) fun _ => by rw [hpt]; exact nu
    have hcp : cntB (rowsN rows 2 p) p = cntB rows p + 1 := by rw [cnt_new fun _ => nu, if_pos ⟨rfl, rfl⟩]
    have hcl := cntB_le (rows := rows) (q := p)
    have es : spotsTo (rowsN rows 2 p) p (n + 1) = spotsTo rows p n ++ [fb rows p n, fb rows p n ++ [num (cntB rows p)]] := by
      show spotsTo (rowsN rows 2 p) p n ++ (if cntB (rowsN rows 2 p) (p.take (n + 1)) = 0 then [fb (rowsN rows 2 p) p n] else [fb (rowsN rows 2 p) p n, fullTo (rowsN rows 2 p) p (n + 1)]) = _
      rw [spots_congr (rows := rowsN rows 2 p) (rows' := rows) fun j hj => cnt_way (fun _ => by omega) (by omega), hpt, hcp, if_neg (by omega), full_succ, hpt, hcp, if_neg (by omega), hfn, Nat.add_sub_cancel]
    rw [en, hp, es, addAll_app, way n (by omega)]
    have lw := look_way L (by omega) (p := p) (n := n) (by omega)
    rw [hpt] at lw
    have e3 : ∀ S, addAll S [fb rows p n, fb rows p n ++ [num (cntB rows p)]] = addAll (addAll S [fb rows p n]) [fb rows p n ++ [num (cntB rows p)]] := fun _ => rfl
    have nmiss : look (missTo rows p n) (fb rows p n ++ [num (cntB rows p)]) = none := look_none fun kk hk => by
      obtain ⟨j, h1, h2, _⟩ := mem_miss.mp hk
      injection h2 with h2 _
      exact fb_last (by omega) h2.symm
    rw [e3]
    by_cases hc : cntB rows p = 0
    · have hR : hasR rows p = false := (h2 rfl).resolve_right fun h => h hc
      have hlk : look M (fb rows p n) = none := by rw [L.base p n (by omega), hpt]; exact desc_none.mpr hR
      rw [if_pos hc, addAll_out (fun h => mem_spt.mp h (by rw [lw]; exact desc_none.mpr hR)), addAll_out, hc]
      · simp [spt]
      · intro h
        rcases List.mem_append.mp h with h | h
        · refine mem_spt.mp h ?_
          rw [look_app, W.leaf hlk, nmiss]; rfl
        · exact snoc_ne (List.mem_singleton.mp h)
    · rw [if_neg hc]
      have hT := txt_here ht List.prefix_rfl
      have hR : hasR rows p = true := hasR_of (cnt_iff.mp hc)
      have hm : missTo rows p n = [] := miss_nil (hasR_up hR (List.take_prefix _ _))
      rw [addAll_in (mem_spt.mpr (by rw [lw, desc_lst hT hc]; simp)), addAll_out, hm]
      · simp [spt]
      · intro h
        refine mem_spt.mp h ?_
        have hk := L.lst p n (by omega) (by rw [hpt]; exact desc_lst hT hc)
        rw [hpt] at hk
        rw [look_app, nmiss, or_none]
        refine Classical.not_not.mp fun h => ?_
        have := mem_kids.mpr h
        rw [hk] at this
        obtain ⟨j, hj, e⟩ := List.mem_map.mp this
        have hj := List.mem_range.mp hj
        exact absurd (num_inj (by omega) (by omega) e) (by omega)
  · rw [if_neg e2]
    have es : ∀ i, i ≤ p.length → spotsTo (rowsN rows k p) p i = spotsTo rows p i := fun i hi => spots_congr fun j hj => cnt_way (fun h => absurd h e2) (by omega)
    rw [es _ (Nat.le_refl _)]
    by_cases e3 : k = 3
    · subst e3
      rw [if_pos rfl]
      obtain ⟨n, hp⟩ : ∃ n, p.length = n + 1 := by
        cases p with
        | nil => exact absurd (h0 rfl) (by decide)
        | cons a r => exact ⟨_, rfl⟩
      have en : p.length - 1 = n := by omega
      have hpt : p.take (n + 1) = p := by rw [← hp, List.take_length]
      have hR := h3 rfl
      have := way (n + 1) (by omega)
      rw [en, hp, this]
      have : missTo rows p (n + 1) = missTo rows p n ++ [(fb rows p n, .nest)] := by
        conv => lhs; unfold missTo
        rw [hpt, if_neg (by simp [hR])]
      rw [this]
      simp [spt]
    · rw [if_neg e3, way _ (Nat.le_refl _)]
/-- each new spot's parent is there -/
def Par : List Spot → List Spot → Prop
  | _, [] => True
  | S, x :: xs => (∃ s y, x = s ++ [y] ∧ s ∈ S) ∧ Par (if x ∈ S then S else S ++ [x]) xs
theorem Par.app : ∀ {a S b : List Spot}, Par S a → Par (addAll S a) b → Par S (a ++ b)
  | [], _, _, _, h => h
  | x :: a, S, b, h, h2 => ⟨h.1, Par.app (a := a) h.2 h2⟩
theorem par_spots {rows : List Row} {p : List Bool} {S : List Spot} (h : [] ∈ S) : ∀ i, Par S (spotsTo rows p i) ∧ fullTo rows p i ∈ addAll S (spotsTo rows p i)
  | 0 => ⟨trivial, h⟩
  | i + 1 => by
    obtain ⟨h1, h2⟩ := par_spots (rows := rows) (p := p) h i
    have hf : fb rows p i ∈ addAll (addAll S (spotsTo rows p i)) [fb rows p i] := addAll_has List.mem_cons_self
    show Par S (spotsTo rows p i ++ if cntB rows (p.take (i + 1)) = 0 then [fb rows p i] else [fb rows p i, fullTo rows p (i + 1)]) ∧ fullTo rows p (i + 1) ∈ addAll S (spotsTo rows p i ++ if cntB rows (p.take (i + 1)) = 0 then [fb rows p i] else [fb rows p i, fullTo rows p (i + 1)])
    rw [addAll_app, full_succ]
    split
    · exact ⟨h1.app ⟨⟨_, _, rfl, h2⟩, trivial⟩, hf⟩
    · exact ⟨h1.app ⟨⟨_, _, rfl, h2⟩, ⟨_, _, rfl, hf⟩, trivial⟩, addAll_has (List.mem_cons_of_mem _ List.mem_cons_self)⟩
end Mine
end
section
open PySem PySem.W PyProof.Rows PySem.Calls
set_option Elab.async false
set_option maxRecDepth 100000
set_option maxHeartbeats 4000000
set_option linter.unusedVariables false
namespace Mine
def kid1 (s q : Spot) : Option Str := if q.dropLast = s then q.getLast? else none
def kidsS (S : List Spot) (s : Spot) : List Str := S.filterMap (kid1 s)
theorem kidsS_spt {M : Mp} {s : Spot} : kidsS (spt M) s = kids M s := by
  unfold kidsS kids spt
  rw [List.filterMap_map]; rfl
theorem kidsS_snoc {S : List Spot} {s s' : Spot} {x : Str} : kidsS (S ++ [s' ++ [x]]) s = kidsS S s ++ if s' = s then [x] else [] := by
  unfold kidsS
  rw [List.filterMap_append]
  congr 1
  rw [List.filterMap_cons]
  unfold kid1
  rw [List.dropLast_concat]
  by_cases e : s' = s
  · rw [if_pos e, if_pos e]; simp
  · rw [if_neg e, if_neg e]; rfl
theorem kidsS_none {S : List Spot} {s : Spot} (h : ∀ x, s ++ [x] ∉ S) (h0 : s ≠ [] ∨ True) : kidsS S s = [] := by
  unfold kidsS
  rw [List.filterMap_eq_nil_iff]
  intro q hq
  unfold kid1
  split
  · rename_i e
    cases hl : q.getLast? with
    | none => rfl
    | some x =>
      have hne : q ≠ [] := fun z => by rw [z] at hl; cases hl
      rw [List.getLast?_eq_some_getLast hne] at hl
      have := List.dropLast_concat_getLast hne
      rw [e, Option.some.inj hl] at this
      exact absurd (this ▸ hq) (h x)
  · rfl
/-- the tables below and texts -/
def GoodS (s : Spot) : Prop := (∀ g ∈ s, Good g ∧ g.length ≤ 2) ∧ s.length ≤ 100
structure Tab (w : World) (N : Led) (β : Spot → Addr) (Db Dt : Addr) (S : List Spot) (kt : List (Str × Value)) : Prop where
  dict : ∃ ob kb, (Db, ob) ∈ N ∧ ob.IsDictOf (PySem.strKind PP w) kb ∧ All2 (fun (kv : Str × Value) s => kv.1 = st s ∧ kv.2 = .ref (β s)) kb S
  sys : (Db == sysModules) = false ∧ (Dt == sysModules) = false
  lists : ∀ s, s ∈ S → ∃ its n, (β s, PySem.W.listOf its n) ∈ N ∧ StrsAre its.toList ((kidsS S s).map fun x => st (s ++ [x]))
  inj : ∀ s s', s ∈ S → s' ∈ S → β s = β s' → s = s'
  off : ∀ s, s ∈ S → β s ≠ Db ∧ β s ≠ Dt
  tx : ∃ ot, (Dt, ot) ∈ N ∧ ot.IsDictOf (PySem.strKind PP w) kt
  ne : Db ≠ Dt
  good : ∀ s ∈ S, GoodS s
  par : ∀ s x, s ++ [x] ∈ S → s ∈ S
def Bel (β : Spot → Addr) (Db Dt : Addr) (S : List Spot) (a : Addr) : Prop := a = Db ∨ a = Dt ∨ ∃ s ∈ S, a = β s
theorem st_good {s s' : Spot} (h : GoodS s) (h' : GoodS s') (e : st s = st s') : s = s' := st_inj (fun g hg => (h.1 g hg).1) (fun g hg => (h'.1 g hg).1) e
theorem all2_val {w : World} {β : Spot → Addr} {S : List Spot} {kb : List (Str × Value)} {o : Obj} (hd : o.IsDictOf (PySem.strKind PP w) kb) (h : All2 (fun (kv : Str × Value) s => kv.1 = st s ∧ kv.2 = .ref (β s)) kb S) {s : Spot} (hs : s ∈ S) : valueAt kb (st s) = some (.ref (β s)) := by
  obtain ⟨j, hj⟩ := List.getElem?_of_mem hs
  obtain ⟨kv, hkv, e1, e2⟩ := h.get' hj
  refine valueAt_of_get (i := j) (let ⟨_, _, _, _, _, _, hn⟩ := hd; hn) ?_
  rw [hkv, ← e1, ← e2]
theorem all2_novalue {β : Spot → Addr} {S : List Spot} {kb : List (Str × Value)} (h : All2 (fun (kv : Str × Value) s => kv.1 = st s ∧ kv.2 = .ref (β s)) kb S) (hg : ∀ s ∈ S, GoodS s) {s : Spot} (gs : GoodS s) (hs : s ∉ S) : valueAt kb (st s) = none := by
  refine valueAt_none_of_not_mem fun hm => ?_
  obtain ⟨kv, hkv, e⟩ := List.mem_map.mp hm
  obtain ⟨s', hs', e1, _⟩ := h.mem hkv
  exact hs (st_good (hg s' hs') gs (e1.symm.trans e) ▸ hs')
theorem Tab.le {w : World} {N N' : Led} {β : Spot → Addr} {Db Dt : Addr} {S : List Spot} {kt : List (Str × Value)} (T : Tab w N β Db Dt S kt) (h : ∀ p ∈ N, Bel β Db Dt S p.1 → p ∈ N') : Tab w N' β Db Dt S kt where
  dict := let ⟨ob, kb, m, d, a⟩ := T.dict; ⟨ob, kb, h _ m (.inl rfl), d, a⟩
  sys := T.sys
  lists s hs := let ⟨its, n, m, a⟩ := T.lists s hs; ⟨its, n, h _ m (.inr (.inr ⟨s, hs, rfl⟩)), a⟩
  inj := T.inj
  off := T.off
  tx := let ⟨ot, m, d⟩ := T.tx; ⟨ot, h _ m (.inr (.inl rfl)), d⟩
  ne := T.ne
  good := T.good
  par := T.par
theorem bel_in {w : World} {N : Led} {β : Spot → Addr} {Db Dt : Addr} {S : List Spot} {kt : List (Str × Value)} (T : Tab w N β Db Dt S kt) {a : Addr} (h : Bel β Db Dt S a) : ∃ o, (a, o) ∈ N := by
  rcases h with rfl | rfl | ⟨s, hs, rfl⟩
  · obtain ⟨ob, _, m, _⟩ := T.dict; exact ⟨ob, m⟩
  · obtain ⟨ot, m, _⟩ := T.tx; exact ⟨ot, m⟩
  · obtain ⟨its, n, m, _⟩ := T.lists s hs; exact ⟨_, m⟩
theorem strs_snoc1 {vs : List Value} {xs : List Str} (h : StrsAre vs xs) (y : Str) (t : Tok) : StrsAre (vs ++ [.str y t]) (xs ++ [y]) := by
  induction h with
  | nil => exact .cons y t .nil
  | cons x u _ ih => exact .cons x u ih
/-- one spot more -/
theorem Tab.add {w : World} {N : Led} {β : Spot → Addr} {Db Dt D : Addr} {S : List Spot} {kt : List (Str × Value)} (T : Tab w N β Db Dt S kt) {s : Spot} {y : Str} (hs : s ∈ S) (hc : s ++ [y] ∉ S) (gc : GoodS (s ++ [y])) (fr : ∀ p ∈ N, p.1 ≠ D)
    {kb : List (Str × Value)} {ob' : Obj} (hkb : All2 (fun (kv : Str × Value) s => kv.1 = st s ∧ kv.2 = .ref (β s)) kb S) (hob : ob'.IsDictOf (PySem.strKind PP w) (stored kb (st (s ++ [y])) (.ref D))) {n0 n m : Nat} {its : Array Value} {t : Tok} (hm : (β s, PySem.W.listOf its n) ∈ N) (hi : StrsAre its.toList ((kidsS S s).map fun x => st (s ++ [x]))) :
    Tab w (put (put ((D, PySem.W.listOf #[] n0) :: N) Db ob') (β s) (PySem.W.listOf (its.push (.str (st (s ++ [y])) t)) m)) (setA β (s ++ [y]) D) Db Dt (S ++ [s ++ [y]]) kt ∧
    ∀ p ∈ N, ¬ Bel β Db Dt S p.1 → p ∈ put (put ((D, PySem.W.listOf #[] n0) :: N) Db ob') (β s) (PySem.W.listOf (its.push (.str (st (s ++ [y])) t)) m) ∧ ¬ Bel (setA β (s ++ [y]) D) Db Dt (S ++ [s ++ [y]]) p.1 := by
  have e0 : setA β (s ++ [y]) D (s ++ [y]) = D := if_pos rfl
  have e1 : ∀ q ∈ S, setA β (s ++ [y]) D q = β q := fun q hq => if_neg fun (e : q = s ++ [y]) => hc (e ▸ hq)
  have dB : Db ≠ D := let ⟨_, _, m, _⟩ := T.dict; fr _ m
  have dT : Dt ≠ D := let ⟨_, m, _⟩ := T.tx; fr _ m
  have dL : ∀ q ∈ S, β q ≠ D := fun q hq => let ⟨_, _, m, _⟩ := T.lists q hq; fr _ m
  have keep : ∀ p ∈ N, p.1 ≠ Db → p.1 ≠ β s → p ∈ put (put ((D, PySem.W.listOf #[] n0) :: N) Db ob') (β s) (PySem.W.listOf (its.push (.str (st (s ++ [y])) t)) m) := fun p hp h1 h2 => put_other (put_other (List.mem_cons_of_mem _ hp) h1) h2
  have hno : valueAt kb (st (s ++ [y])) = none := all2_novalue hkb T.good gc hc
  rw [stored_absent hno] at hob
  refine ⟨⟨?_, T.sys, fun q hq => ?_, fun q q' hq hq' e => ?_, fun q hq => ?_, ?_, T.ne, fun q hq => ?_, fun q x hq => ?_⟩, fun p hp hb => ⟨keep p hp (fun e => hb (.inl e)) fun e => hb (.inr (.inr ⟨s, hs, e⟩)), ?_⟩⟩
  · refine ⟨ob', _, put_other put_self (Ne.symm (T.off s hs).1), hob, ?_⟩
    have h1 : All2 (fun (kv : Str × Value) q => kv.1 = st q ∧ kv.2 = .ref (setA β (s ++ [y]) D q)) kb S := hkb.monoM fun kv q hq h => ⟨h.1, by rw [e1 q hq]; exact h.2⟩
    exact h1.app (.cons ⟨rfl, by rw [e0]⟩ .nil)
  · rcases List.mem_append.mp hq with hq | hq
    · rw [e1 q hq, kidsS_snoc]
      by_cases e : s = q
      · subst e
        rw [if_pos rfl, List.map_append]
        exact ⟨_, _, put_self, by rw [Array.toList_push]; exact strs_snoc1 hi _ t⟩
      · rw [if_neg e, List.append_nil]
        obtain ⟨its', n', m', a⟩ := T.lists q hq
        exact ⟨its', n', keep _ m' (T.off q hq).1 fun h => e (T.inj _ _ hq hs h).symm, a⟩
    · rw [List.mem_singleton.mp hq, e0, kidsS_snoc, if_neg (fun e => snoc_ne e.symm), List.append_nil, kidsS_none (fun x hx => hc (T.par _ _ hx)) (.inr trivial)]
      exact ⟨_, _, put_other (put_other List.mem_cons_self dB.symm) fun e => dL s hs e.symm, .nil⟩
  · rcases List.mem_append.mp hq with hq | hq
    · rcases List.mem_append.mp hq' with hq' | hq'
      · rw [e1 q hq, e1 q' hq'] at e; exact T.inj _ _ hq hq' e
      · rw [List.mem_singleton.mp hq', e0, e1 q hq] at e; exact absurd e (dL q hq)
    · rcases List.mem_append.mp hq' with hq' | hq'
      · rw [List.mem_singleton.mp hq, e0, e1 q' hq'] at e; exact absurd e.symm (dL q' hq')
      · rw [List.mem_singleton.mp hq, List.mem_singleton.mp hq']
  · rcases List.mem_append.mp hq with hq | hq
    · rw [e1 q hq]; exact T.off q hq
    · rw [List.mem_singleton.mp hq, e0]; exact ⟨dB.symm, dT.symm⟩
  · obtain ⟨ot, m1, d⟩ := T.tx
    exact ⟨ot, keep _ m1 (Ne.symm T.ne) (Ne.symm (T.off s hs).2), d⟩
  · rcases List.mem_append.mp hq with hq | hq
    · exact T.good q hq
    · rw [List.mem_singleton.mp hq]; exact gc
  · rcases List.mem_append.mp hq with hq | hq
    · exact List.mem_append_left _ (T.par _ _ hq)
    · obtain ⟨rfl, rfl⟩ := snoc_inj (List.mem_singleton.mp hq)
      exact List.mem_append_left _ hs
  · rintro (h | h | ⟨q, hq, h⟩)
    · exact hb (.inl h)
    · exact hb (.inr (.inl h))
    · rcases List.mem_append.mp hq with hq | hq
      · rw [e1 q hq] at h; exact hb (.inr (.inr ⟨q, hq, h⟩))
      · rw [List.mem_singleton.mp hq, e0] at h; exact fr p hp h
/-- the texts -/
structure Txt1 (kt : List (Str × Value)) (M : Mp) : Prop where
  has : ∀ s y, look M s = some (.txt y) → ∃ t, valueAt kt (st s) = some (.str y t)
  only : ∀ k v, valueAt kt k = some v → ∃ s y, k = st s ∧ look M s = some (.txt y)
theorem Txt1.none {kt : List (Str × Value)} {M : Mp} (h : Txt1 kt M) (hg : ∀ s ∈ spt M, GoodS s) {s : Spot} (gs : GoodS s) (hn : ∀ y, look M s ≠ some (.txt y)) : valueAt kt (st s) = none := by
  cases e : valueAt kt (st s) with
  | none => rfl
  | some v =>
    obtain ⟨s', y, e1, e2⟩ := h.only _ _ e
    have := st_good gs (hg s' (mem_spt.mpr (by rw [e2]; simp))) e1
    subst this
    exact absurd e2 (hn y)
theorem all2_keys {P : Str × Value → Str → Prop} {kvs : List (Str × Value)} {l : List Str} (h : All2 (fun (kv : Str × Value) x => kv.1 = x ∧ P kv x) kvs l) : kvs.map (·.1) = l := by
  induction h with
  | nil => rfl
  | cons h _ ih => rw [List.map_cons, h.1, ih]
theorem num_len {n : Nat} (h : n < 30) : (num n).length ≤ 2 := (good_num h).2
/-- the tree is what the tables tell -/
theorem same_of {w : World} {N : Led} {α β : Spot → Addr} {M : Mp} {Db Dt : Addr} {kt kb : List (Str × Value)} {ob : Obj} (R : Rep w N α M) (W : WF M) (T : Tab w N β Db Dt (spt M) kt) (X : Txt1 kt M) (hob : ob.IsDictOf (PySem.strKind PP w) kb) (hkb : All2 (fun (kv : Str × Value) s => kv.1 = st s ∧ kv.2 = .ref (β s)) kb (spt M)) (hz : M.length ≤ 1000) :
    ∀ (n : Nat) (s : Spot) (v : Value), Val M α s v → 101 ≤ s.length + n → Same w N kb kt n v s := by
  intro n
  induction n with
  | zero =>
    intro s v hv hn
    unfold Val at hv
    cases e : look M s with
    | none => rw [e] at hv; exact hv.elim
    | some k =>
      have := (T.good s (mem_spt.mpr (by rw [e]; simp))).2
      omega
  | succ n ih =>
    intro s v hv hn
    have hv0 := hv
    unfold Val at hv
    have gsz : ∀ x ∈ kids M s, Good x ∧ Sz (st (s ++ [x])) := fun x hx => by
      have g := T.good (s ++ [x]) (mem_spt.mpr (mem_kids.mp hx))
      refine ⟨(g.1 x (by simp)).1, ?_⟩
      have := st_len (l := s ++ [x]) fun a ha => (g.1 a ha).2
      have := g.2
      unfold Sz; omega
    cases e : look M s with
    | none => rw [e] at hv; exact hv.elim
    | some k =>
      have hin : s ∈ spt M := mem_spt.mpr (by rw [e]; simp)
      obtain ⟨its, c, mL, hL⟩ := T.lists s hin
      rw [kidsS_spt] at hL
      cases k with
      | txt y =>
        rw [e] at hv
        obtain ⟨t, rfl⟩ := hv
        obtain ⟨t', h⟩ := X.has s y e
        exact .txt h
      | nest =>
        rw [e] at hv
        obtain rfl : v = .ref (α s) := hv
        obtain ⟨o, kvs, m1, m2, m3, m4⟩ := R.node s _ e
        have hkeys : kvs.map (·.1) = kids M s := all2_keys m4
        refine .dct (ws := its.toList) (X.none T.good (T.good s hin) (fun y h => by rw [e] at h; cases h)) (all2_val hob hkb hin) mL ⟨rfl, c, by simp [PySem.W.listOf]⟩ (by rw [hkeys]; exact hL) m1 m3 m2 (by rw [m4.len]; exact Nat.le_trans kids_len hz) (by rw [hkeys]; exact gsz) (fun k v h => ?_) fun x hx => ?_
        · have hk : k ∈ kids M s := by
            rw [← hkeys]
            refine Classical.not_not.mp fun hn => ?_
            rw [valueAt_none_of_not_mem hn] at h; cases h
          obtain ⟨v', e1, e2⟩ := (valueAt_in (k := k) m3 m4).1 _ (Option.eq_some_of_isSome (Option.isSome_iff_ne_none.mpr (mem_kids.mp hk)))
          rw [e1] at h
          obtain rfl := Option.some.inj h
          exact ih _ _ e2 (by simp; omega)
        · rw [hkeys] at hx
          obtain ⟨v', e1, e2⟩ := (valueAt_in (k := x) m3 m4).1 _ (Option.eq_some_of_isSome (Option.isSome_iff_ne_none.mpr (mem_kids.mp hx)))
          exact ⟨v', e1⟩
      | lst =>
        rw [e] at hv
        obtain rfl : v = .ref (α s) := hv
        obtain ⟨its2, c2, m1, m2⟩ := R.node s _ e
        obtain ⟨q, hq, hk, _⟩ := W.lst s e
        have hl : its2.toList.length = q + 1 := by rw [m2.len, hk]; simp
        refine .lst (vs := its2.toList) (ws := its.toList) (X.none T.good (T.good s hin) (fun y h => by rw [e] at h; cases h)) (all2_val hob hkb hin) mL ⟨rfl, c, by simp [PySem.W.listOf]⟩ (by rw [hl, ← hk]; exact hL) m1 ⟨rfl, c2, by simp [PySem.W.listOf]⟩ (by omega) (fun x hx => (gsz x (by rw [hk, ← hl]; exact hx)).2) fun k v h => ?_
        obtain ⟨x, hx, hv⟩ := m2.get h
        have : x = num k := by
          rw [hk, List.getElem?_map] at hx
          cases hr : (List.range (q + 1))[k]? with
          | none => rw [hr] at hx; cases hx
          | some j =>
            rw [hr] at hx
            have := List.getElem?_eq_some_iff.mp hr
            obtain ⟨h1, h2⟩ := this
            rw [List.getElem_range] at h2
            rw [← Option.some.inj hx, ← h2]
        subst this
        exact ih _ _ hv (by simp; omega)
end Mine
end
section
open PySem PySem.W PyProof.Rows PySem.Calls
set_option Elab.async false
set_option maxRecDepth 100000
set_option maxHeartbeats 4000000
set_option linter.unusedVariables false
namespace Mine
/-- what the run holds: the tree M, the tables of S, what is left alone (Z), a cell -/
structure Core (w : World) (N : Led) (M : Mp) (α : Spot → Addr) (S : List Spot) (β : Spot → Addr) (Db Dt : Addr) (kt : List (Str × Value)) (Z : Led) (cL : Addr) : Prop where
  tree : Rep w N α M
  wf : WF M
  tab : Tab w N β Db Dt S kt
  z : ∀ p ∈ Z, p ∈ N ∧ ¬ Own M α p.1 ∧ ¬ Bel β Db Dt S p.1 ∧ p.1 ≠ cL
  nown : ∀ a, Own M α a → ¬ Bel β Db Dt S a
  cell : ∃ o v, (cL, o) ∈ N ∧ o.data = .cell v
  cown : ¬ Own M α cL
  cbel : ¬ Bel β Db Dt S cL
section
variable {w : World} {N N' : Led} {M : Mp} {α : Spot → Addr} {S : List Spot} {β : Spot → Addr} {Db Dt : Addr} {kt : List (Str × Value)} {Z : Led} {cL : Addr}
theorem Core.more (C : Core w N M α S β Db Dt kt Z cL) (h : ∀ p ∈ N, p ∈ N') : Core w N' M α S β Db Dt kt Z cL where
  tree := C.tree.more fun p hp _ => h p hp
  wf := C.wf
  tab := C.tab.le fun p hp _ => h p hp
  z p hp := ⟨h p (C.z p hp).1, (C.z p hp).2⟩
  nown := C.nown
  cell := let ⟨o, v, m, d⟩ := C.cell; ⟨o, v, h _ m, d⟩
  cown := C.cown
  cbel := C.cbel
theorem Core.cellSet (C : Core w N M α S β Db Dt kt Z cL) {o' : Obj} {v : Option Value} (h : o'.data = .cell v) : Core w (put N cL o') M α S β Db Dt kt Z cL where
  tree := C.tree.more fun p hp ho => put_other hp fun e => C.cown (e ▸ ho)
  wf := C.wf
  tab := C.tab.le fun p hp hb => put_other hp fun e => C.cbel (e ▸ hb)
  z p hp := let ⟨a, b, c, d⟩ := C.z p hp; ⟨put_other a d, b, c, d⟩
  nown := C.nown
  cell := ⟨o', v, put_self, h⟩
  cown := C.cown
  cbel := C.cbel
/-- new objects, to be left alone -/
theorem Core.fresh (C : Core w N M α S β Db Dt kt Z cL) {a : Addr} (h : ∀ p ∈ N, p.1 ≠ a) : ¬ Own M α a ∧ ¬ Bel β Db Dt S a ∧ a ≠ cL :=
  ⟨fun ho => let ⟨o, m⟩ := own_in C.tree ho; h _ m rfl, fun hb => let ⟨o, m⟩ := bel_in C.tab hb; h _ m rfl, fun e => let ⟨o, v, m, _⟩ := C.cell; h _ m e.symm⟩
theorem Core.setZ (C : Core w N M α S β Db Dt kt Z cL) {Z' : Led} (h : ∀ p ∈ Z', p ∈ N ∧ ¬ Own M α p.1 ∧ ¬ Bel β Db Dt S p.1 ∧ p.1 ≠ cL) : Core w N M α S β Db Dt kt Z' cL :=
  ⟨C.tree, C.wf, C.tab, h, C.nown, C.cell, C.cown, C.cbel⟩
/-- after a let deed -/
theorem Core.deed (C : Core w N M α S β Db Dt kt Z cL) {n : Nat} {o : Option Mp} (h : RTree w N M α n o N') : ∃ M' α', o = some M' ∧ Core w N' M' α' S β Db Dt kt Z cL ∧ α' [] = α [] ∧ M'.length ≤ M.length + n ∧ ∀ p ∈ N, ¬ Own M α p.1 → p ∈ N' := by
  obtain ⟨M', α', e, R, W, Kp, hr, hl⟩ := h
  have bo : ∀ a, Bel β Db Dt S a → ¬ Own M α a := fun a hb ho => C.nown a ho hb
  refine ⟨M', α', e, ⟨R, W, C.tab.le fun p hp hb => (Kp p hp (bo _ hb)).1, fun p hp => ?_, fun a ho hb => ?_, ?_, ?_, C.cbel⟩, hr, hl, fun p hp ho => (Kp p hp ho).1⟩
  · obtain ⟨a, b, c, d⟩ := C.z p hp
    exact ⟨(Kp p a b).1, (Kp p a b).2, c, d⟩
  · obtain ⟨o, m⟩ := bel_in C.tab hb
    exact (Kp _ m (bo _ hb)).2 ho
  · obtain ⟨o, v, m, d⟩ := C.cell
    exact ⟨o, v, (Kp _ m C.cown).1, d⟩
  · obtain ⟨o, v, m, d⟩ := C.cell
    exact (Kp _ m C.cown).2
/-- one spot more in the tables -/
theorem Core.spot (C : Core w N M α S β Db Dt kt Z cL) {D : Addr} {s : Spot} {y : Str} (hs : s ∈ S) (hc : s ++ [y] ∉ S) (gc : GoodS (s ++ [y])) (fr : ∀ p ∈ N, p.1 ≠ D)
    {kb : List (Str × Value)} {ob' : Obj} (hkb : All2 (fun (kv : Str × Value) s => kv.1 = st s ∧ kv.2 = .ref (β s)) kb S) (hob : ob'.IsDictOf (PySem.strKind PP w) (stored kb (st (s ++ [y])) (.ref D))) {n0 n m : Nat} {its : Array Value} {t : Tok} (hm : (β s, PySem.W.listOf its n) ∈ N) (hi : StrsAre its.toList ((kidsS S s).map fun x => st (s ++ [x]))) :
    Core w (put (put ((D, PySem.W.listOf #[] n0) :: N) Db ob') (β s) (PySem.W.listOf (its.push (.str (st (s ++ [y])) t)) m)) M α (S ++ [s ++ [y]]) (setA β (s ++ [y]) D) Db Dt kt Z cL ∧ ∀ p ∈ N, ¬ Bel β Db Dt S p.1 → p ∈ put (put ((D, PySem.W.listOf #[] n0) :: N) Db ob') (β s) (PySem.W.listOf (its.push (.str (st (s ++ [y])) t)) m) ∧ ¬ Bel (setA β (s ++ [y]) D) Db Dt (S ++ [s ++ [y]]) p.1 := by
  obtain ⟨T, kp⟩ := C.tab.add (t := t) (m := m) (n0 := n0) hs hc gc fr hkb hob hm hi
  refine ⟨⟨C.tree.more fun p hp ho => (kp p hp (C.nown _ ho)).1, C.wf, T, fun p hp => ?_, fun a ho => ?_, ?_, C.cown, ?_⟩, kp⟩
  · obtain ⟨a, b, c, d⟩ := C.z p hp
    exact ⟨(kp p a c).1, b, (kp p a c).2, d⟩
  · obtain ⟨o, m'⟩ := own_in C.tree ho
    exact (kp _ m' (C.nown _ ho)).2
  · obtain ⟨o, v, m', d⟩ := C.cell
    exact ⟨o, v, (kp _ m' C.cbel).1, d⟩
  · obtain ⟨o, v, m', d⟩ := C.cell
    exact (kp _ m' C.cbel).2
/-- one text more -/
theorem Core.text (C : Core w N M α S β Db Dt kt Z cL) {ot' : Obj} {kt' : List (Str × Value)} (h : ot'.IsDictOf (PySem.strKind PP w) kt') : Core w (put N Dt ot') M α S β Db Dt kt' Z cL := by
  have T := C.tab
  refine ⟨C.tree.more fun p hp ho => put_other hp fun e => C.nown _ ho (.inr (.inl e)), C.wf, ⟨?_, T.sys, fun s hs => ?_, T.inj, T.off, ⟨ot', put_self, h⟩, T.ne, T.good, T.par⟩, fun p hp => ?_, C.nown, ?_, C.cown, C.cbel⟩
  · obtain ⟨ob, kb, m, d, a⟩ := T.dict
    exact ⟨ob, kb, put_other m T.ne, d, a⟩
  · obtain ⟨its, n, m, a⟩ := T.lists s hs
    exact ⟨its, n, put_other m (T.off s hs).2, a⟩
  · obtain ⟨a, b, c, d⟩ := C.z p hp
    exact ⟨put_other a fun e => c (.inr (.inl e)), b, c, d⟩
  · obtain ⟨o, v, m, d⟩ := C.cell
    exact ⟨o, v, put_other m fun e => C.cbel (.inr (.inl e)), d⟩
end
/-- the run's numbers -/
structure Plain (i : Nat) (h : List Bool) (rows : List Row) (M : Mp) (kt : List (Str × Value)) : Prop where
  live : Live rows M
  txt : Txt1 kt M
  b1 : rows.length ≤ i
  b2 : h.length ≤ 2 * i
  b3 : ∀ r ∈ rows, r.2.length ≤ 2 * i
  b4 : M.length ≤ 1 + 30 * i
  b5 : kt.length ≤ i
theorem look_new_txt {rows : List Row} {M : Mp} {k : Nat} {p : List Bool} (L : Live rows M) (hz : rows.length ≤ 19) (h0 : p = [] → k = 0) (hl : letB rows k p = true) {s : Spot} {y : Str} (h : look (newM rows M k p) s = some (.txt y)) : look M s = some (.txt y) ∨ (k = 3 ∧ s = fb rows p (p.length - 1) ∧ y = pt p) := by
  have hm : ∀ n, look (missTo rows p n) s ≠ some (.txt y) := fun n e => by
    obtain ⟨_, _, _, e2, _⟩ := look_miss e; cases e2
  have key : ∀ X : Mp, (∀ k, (s, k) ∈ X → k ≠ .txt y ∨ False) → look (M ++ X) s = some (.txt y) → look M s = some (.txt y) := fun X hX e => by
    rw [look_app] at e
    cases e2 : look M s with
    | some d => rw [e2] at e; exact e
    | none =>
      rw [e2] at e
      have e : look X s = some (.txt y) := e
      rcases hX _ (look_some e) with h | h
      · exact absurd rfl h
      · exact h.elim
  have mk : ∀ n k, (s, k) ∈ missTo rows p n → k ≠ .txt y := fun n k hk e => by
    obtain ⟨j, _, e2, _⟩ := mem_miss.mp hk
    injection e2 with _ e2
    rw [e2] at e; cases e
  unfold newM at h
  split at h
  · left
    split at h
    · rw [List.append_assoc, List.append_assoc] at h
      refine key _ (fun k hk => .inl fun e => ?_) h
      rcases List.mem_append.mp hk with hk | hk
      · exact mk _ _ hk e
      · rcases List.mem_append.mp hk with hk | hk
        · have := List.mem_singleton.mp hk
          injection this with _ this
          rw [this] at e; cases e
        · have := List.mem_singleton.mp hk
          injection this with _ this
          rw [this] at e; cases e
    · refine key _ (fun k hk => .inl fun e => ?_) h
      have := List.mem_singleton.mp hk
      injection this with _ this
      rw [this] at e; cases e
  · split at h
    · rename_i h3
      rw [look_app] at h
      cases e : look (M ++ missTo rows p (p.length - 1)) s with
      | some d =>
        rw [e] at h
        obtain rfl : d = .txt y := Option.some.inj h
        exact .inl (key _ (fun k hk => .inl (mk _ _ hk)) e)
      | none =>
        rw [e] at h
        have h : (if fb rows p (p.length - 1) = s then some (SK.txt (pt p)) else none) = some (.txt y) := h
        split at h
        · rename_i e2
          injection h with h
          injection h with h
          exact .inr ⟨h3, e2.symm, h.symm⟩
        · cases h
    · exact .inl (key _ (fun k hk => .inl (mk _ _ hk)) h)
theorem newM_old {rows : List Row} {M : Mp} {k : Nat} {p : List Bool} {s : Spot} {d : SK} (h : look M s = some d) : look (newM rows M k p) s = some d := by
  unfold newM
  split
  · split
    · exact look_old (look_old (look_old h))
    · exact look_old h
  · split
    · exact look_old (look_old h)
    · exact look_old h
/-- the texts, where none was laid -/
theorem txt_same {rows : List Row} {M : Mp} {k : Nat} {p : List Bool} {kt : List (Str × Value)} (X : Txt1 kt M) (L : Live rows M) (hz : rows.length ≤ 19) (h0 : p = [] → k = 0) (hl : letB rows k p = true) (h3 : k ≠ 3) : Txt1 kt (newM rows M k p) where
  has s y h := by
    rcases look_new_txt L hz h0 hl h with h | ⟨h, _⟩
    · exact X.has s y h
    · exact absurd h h3
  only kk v h := by
    obtain ⟨s, y, e, h⟩ := X.only kk v h
    exact ⟨s, y, e, newM_old h⟩
theorem valueAt_snoc {kvs : List (Str × Value)} {k k' : Str} {v : Value} : valueAt (kvs ++ [(k', v)]) k = match valueAt kvs k with | some u => some u | none => if k' = k then some v else none := by
  unfold valueAt
  rw [List.find?_append]
  cases List.find? (fun kv => decide (kv.1 = k)) kvs with
  | some u => rfl
  | none =>
    simp only [Option.none_or, Option.map_none, List.find?_cons, List.find?_nil]
    by_cases e : k' = k
    · rw [decide_eq_true e, if_pos e]; rfl
    · rw [decide_eq_false e, if_neg e]; rfl
/-- the texts, where one was laid -/
theorem txt_more {rows : List Row} {M : Mp} {p : List Bool} {kt : List (Str × Value)} {t : Tok} (X : Txt1 kt M) (L : Live rows M) (hz : rows.length ≤ 19) {n : Nat} (hp : p.length = n + 1) (hl : letB rows 3 p = true) (hg : ∀ s ∈ spt M, GoodS s) (gs : GoodS (fb rows p n)) :
    valueAt kt (st (fb rows p n)) = none ∧ Txt1 (kt ++ [(st (fb rows p n), .str (pt p) t)]) (newM rows M 3 p) := by
  have hR := (let_parts hl).2.2 rfl
  have hpt : p.take (n + 1) = p := by rw [← hp, List.take_length]
  have hlk : look M (fb rows p n) = none := by rw [L.base p n (by omega), hpt]; exact desc_none.mpr hR
  have hno : valueAt kt (st (fb rows p n)) = none := X.none hg gs fun y h => by rw [hlk] at h; cases h
  have en : p.length - 1 = n := by omega
  have lw : look (M ++ missTo rows p n) (fb rows p n) = none := by rw [look_way L (by omega) (by omega), hpt]; exact desc_none.mpr hR
  have hnew : look (newM rows M 3 p) (fb rows p n) = some (.txt (pt p)) := by
    show look (M ++ missTo rows p (p.length - 1) ++ [(fb rows p (p.length - 1), .txt (pt p))]) _ = _
    rw [en, look_new lw, if_pos rfl]
  refine ⟨hno, fun s y h => ?_, fun kk v h => ?_⟩
  · rcases look_new_txt L hz (fun e => by rw [e] at hp; cases hp) hl h with h | ⟨_, e1, e2⟩
    · obtain ⟨t', e⟩ := X.has s y h
      exact ⟨t', by rw [valueAt_snoc, e]⟩
    · rw [en] at e1
      subst e1 e2
      exact ⟨t, by rw [valueAt_snoc, hno]; exact if_pos rfl⟩
  · rw [valueAt_snoc] at h
    cases e : valueAt kt kk with
    | some u =>
      obtain ⟨s, y, e1, e2⟩ := X.only kk u e
      exact ⟨s, y, e1, newM_old e2⟩
    | none =>
      rw [e] at h
      have h : (if st (fb rows p n) = kk then _ else none) = some v := h
      split at h
      · rename_i e2
        exact ⟨_, _, e2.symm, hnew⟩
      · cases h
theorem spots_last {rows : List Row} {p : List Bool} {n : Nat} (hp : p.length = n + 1) (hc : cntB rows p = 0) : (spotsTo rows p p.length).getLast? = some (fb rows p n) := by
  rw [hp]
  have hpt : p.take (n + 1) = p := by rw [← hp, List.take_length]
  show (spotsTo rows p n ++ if cntB rows (p.take (n + 1)) = 0 then [fb rows p n] else _).getLast? = _
  rw [hpt, if_pos hc, List.getLast?_append]; rfl
theorem good_spots {rows : List Row} {p : List Bool} (hz : rows.length ≤ 20) (hp : p.length ≤ 49) : ∀ i, i ≤ p.length → ∀ s ∈ spotsTo rows p i, GoodS s
  | 0, _, s, h => (nomatch h)
  | i + 1, hi, s, h => by
    have g1 := full_good hz (p := p) i
    have g2 := full_good hz (p := p) (i + 1)
    have gf : GoodS (fb rows p i) := by
      refine ⟨fun g hg => ?_, ?_⟩
      · unfold fb at hg
        rcases List.mem_append.mp hg with hg | hg
        · exact g1.1 g hg
        · rw [List.mem_singleton.mp hg]
          exact ⟨good_nm _, by rw [nm_len]; decide⟩
      · unfold fb; rw [List.length_append, List.length_singleton]; have := g1.2; omega
    have h : s ∈ spotsTo rows p i ++ if cntB rows (p.take (i + 1)) = 0 then [fb rows p i] else [fb rows p i, fullTo rows p (i + 1)] := h
    rcases List.mem_append.mp h with h | h
    · exact good_spots hz hp i (by omega) s h
    · split at h
      · rw [List.mem_singleton.mp h]; exact gf
      · rcases List.mem_cons.mp h with rfl | h
        · exact gf
        · rw [List.mem_singleton.mp h]
          exact ⟨g2.1, by have := g2.2; omega⟩
theorem st_len2 {s : Spot} (h : GoodS s) : Sz (st s) := by
  have := st_len (l := s) fun a ha => (h.1 a ha).2
  have := h.2
  unfold Sz; omega
end Mine
end
section
open PySem PySem.W PyProof.Rows PySem.Calls
set_option Elab.async false
set_option maxRecDepth 100000
set_option maxHeartbeats 4000000
set_option linter.unusedVariables false
namespace Mine
def M0 : Mp := [([], .nest)]
theorem look0 {s : Spot} {k : SK} (h : look M0 s = some k) : s = [] ∧ k = .nest := by
  have := List.mem_singleton.mp (look_some h)
  injection this with a b
  exact ⟨a, b⟩
theorem kids0 (s : Spot) : kids M0 s = [] := by
  unfold kids M0
  rw [List.filterMap_cons]
  unfold kidOf
  simp
theorem wf0 : WF M0 where
  root := rfl
  lst c h := by cases (look0 h).2
  par s x h := by
    cases e : look M0 (s ++ [x]) with
    | none => exact absurd e h
    | some k => have := (look0 e).1; simp at this
theorem live0 : Live [] M0 where
  root h := nomatch h
  base p i hi := by
    have e : look M0 (fb [] p i) = none := by
      cases e : look M0 (fb [] p i) with
      | none => rfl
      | some k => have := (look0 e).1; unfold fb at this; simp at this
    rw [e]; rfl
  lst p i hi h := by
    have h : (none : Option SK) = some .lst := h
    cases h
theorem txt0 : Txt1 [] M0 where
  has s y h := by cases (look0 h).2
  only k v h := by cases h
theorem plain0 : Plain 0 [] [] M0 [] := ⟨live0, txt0, Nat.le_refl _, Nat.le_refl _, fun r h => (nomatch h), Nat.le_refl _, Nat.le_refl _⟩
theorem core0 {w : World} {N : Led} {root L Db Dt cL : Addr} {o0 ob ot oc : Obj} {Z : Led} {n : Nat} {v : Option Value} (h1 : (root, o0) ∈ N) (h2 : o0.IsDictOf (PySem.strKind PP w) []) (h3 : (root == sysModules) = false) (h4 : (Db, ob) ∈ N) (h5 : ob.IsDictOf (PySem.strKind PP w) [(Str.ofString "/", .ref L)]) (h6 : (Db == sysModules) = false)
    (h7 : (L, PySem.W.listOf #[] n) ∈ N) (h8 : (Dt, ot) ∈ N) (h9 : ot.IsDictOf (PySem.strKind PP w) []) (h10 : (Dt == sysModules) = false) (h11 : (cL, oc) ∈ N) (h12 : oc.data = .cell v)
    (hz : ∀ p ∈ Z, p ∈ N ∧ p.1 ≠ root ∧ p.1 ≠ Db ∧ p.1 ≠ Dt ∧ p.1 ≠ L ∧ p.1 ≠ cL) (d1 : root ≠ Db) (d2 : root ≠ Dt) (d3 : root ≠ L) (d4 : root ≠ cL) (d5 : Db ≠ Dt) (d6 : L ≠ Db) (d7 : L ≠ Dt) (d8 : cL ≠ Db) (d9 : cL ≠ Dt) (d10 : cL ≠ L) :
    Core w N M0 (fun _ => root) (spt M0) (fun _ => L) Db Dt [] Z cL := by
  have own : ∀ a, Own M0 (fun _ => root) a → a = root := fun a ⟨s, k, _, _, e⟩ => e
  have bel : ∀ a, Bel (fun _ => L) Db Dt (spt M0) a → a = Db ∨ a = Dt ∨ a = L := fun a h => by
    rcases h with h | h | ⟨_, _, h⟩
    · exact .inl h
    · exact .inr (.inl h)
    · exact .inr (.inr h)
  have s0 : ∀ s, s ∈ spt M0 → s = [] := fun s hs => by simpa [spt, M0] using hs
  refine ⟨⟨fun s k e => ?_, fun s k s' k' e e' _ _ _ => (look0 e).1.trans (look0 e').1.symm⟩, wf0, ⟨⟨ob, _, h4, h5, ?_⟩, ⟨h6, h10⟩, fun s hs => ?_, fun s s' hs hs' _ => (s0 s hs).trans (s0 s' hs').symm, fun s hs => ⟨d6, d7⟩, ⟨ot, h8, h9⟩, d5, fun s hs => ?_, fun s x hs => ?_⟩, fun p hp => ?_, fun a ho hb => ?_, ⟨oc, v, h11, h12⟩, fun ho => ?_, fun hb => ?_⟩
  · obtain ⟨rfl, rfl⟩ := look0 e
    refine ⟨o0, [], h1, h3, h2, ?_⟩
    rw [kids0]; exact .nil
  · refine .cons ⟨?_, rfl⟩ .nil
    have := pt_nil
    exact this.symm
  · rw [s0 s hs]
    refine ⟨#[], n, h7, ?_⟩
    show StrsAre [] _
    rw [kidsS_spt, kids0]; exact .nil
  · rw [s0 s hs]
    exact ⟨fun g h => (nomatch h), Nat.zero_le _⟩
  · have := s0 _ hs; simp at this
  · obtain ⟨a, b1, b2, b3, b4, b5⟩ := hz p hp
    refine ⟨a, fun h => b1 (own _ h), fun h => ?_, b5⟩
    rcases bel _ h with h | h | h
    · exact b2 h
    · exact b3 h
    · exact b4 h
  · rw [own a ho] at hb
    rcases bel _ hb with h | h | h
    · exact d1 h
    · exact d2 h
    · exact d3 h
  · exact d4 (own _ ho).symm
  · rcases bel _ hb with h | h | h
    · exact d8 h
    · exact d9 h
    · exact d10 h
/-- an address left out -/
theorem Core.out {w : World} {N : Led} {M : Mp} {α : Spot → Addr} {S : List Spot} {β : Spot → Addr} {Db Dt : Addr} {kt : List (Str × Value)} {Z Z' : Led} {cL I : Addr} (C : Core w N M α S β Db Dt kt Z cL) (h1 : ¬ Own M α I) (h2 : ¬ Bel β Db Dt S I) (h3 : I ≠ cL) (hz : ∀ p ∈ Z', p ∈ Z ∧ p.1 ≠ I) :
    Core w (N.filter fun p => !(p.1 == I)) M α S β Db Dt kt Z' cL := by
  have kp : ∀ p ∈ N, p.1 ≠ I → p ∈ N.filter fun p => !(p.1 == I) := fun p hp e => List.mem_filter.mpr ⟨hp, by simp [e]⟩
  refine ⟨C.tree.more fun p hp ho => kp p hp fun e => h1 (e ▸ ho), C.wf, C.tab.le fun p hp hb => kp p hp fun e => h2 (e ▸ hb), fun p hp => ?_, C.nown, ?_, C.cown, C.cbel⟩
  · obtain ⟨a, b⟩ := hz p hp
    obtain ⟨c, d⟩ := C.z p a
    exact ⟨kp p c b, d⟩
  · obtain ⟨o, v, m, d⟩ := C.cell
    exact ⟨o, v, kp _ m (Ne.symm h3), d⟩
theorem Plain.next {i : Nat} {h : List Bool} {rows : List Row} {M : Mp} {kt : List (Str × Value)} (P : Plain i h rows M kt) : Plain (i + 1) h rows M kt :=
  ⟨P.live, P.txt, Nat.le_succ_of_le P.b1, by have := P.b2; omega, fun r hr => by have := P.b3 r hr; omega, by have := P.b4; omega, by have := P.b5; omega⟩
theorem div4 {x : Nat} (h : x < 32) : ((x : Int).fdiv 4 = ((x / 4 : Nat) : Int)) ∧ ((x : Int).fmod 4 = ((x % 4 : Nat) : Int)) ∧ Builtin.divisionGoesByPylong (x : Int) 4 = false := by
  have : ∀ x : Fin 32, ((x.1 : Int).fdiv 4 = ((x.1 / 4 : Nat) : Int)) ∧ ((x.1 : Int).fmod 4 = ((x.1 % 4 : Nat) : Int)) ∧ Builtin.divisionGoesByPylong (x.1 : Int) 4 = false := by decide +kernel
  exact this ⟨x, h⟩
theorem Par.at : ∀ {xs S : List Spot} {j : Nat} {x : Spot}, Par S xs → xs[j]? = some x → ∃ s y, x = s ++ [y] ∧ s ∈ addAll S (xs.take j)
  | [], _, _, _, _, h => by simp at h
  | z :: xs, S, 0, x, hp, h => by
    obtain rfl : z = x := by simpa using h
    exact hp.1
  | z :: xs, S, j + 1, x, hp, h => Par.at (xs := xs) hp.2 (by simpa using h)
theorem addAll_step {xs S : List Spot} {j : Nat} {x : Spot} (h : xs[j]? = some x) : addAll S (xs.take (j + 1)) = addAll (addAll S (xs.take j)) [x] := by
  rw [List.take_add_one, h, addAll_app]; rfl
theorem root_spt {M : Mp} (W : WF M) : [] ∈ spt M := mem_spt.mpr (by rw [W.root]; simp)
/-- the run's numbers after a let deed -/
theorem plain_let {i : Nat} {h : List Bool} {rows : List Row} {M : Mp} {kt kt' : List (Str × Value)} (P : Plain i h rows M kt) (W : WF M) (hi : i < 10) {k : Nat} {p h' : List Bool} (hp : p.length ≤ 2 * (i + 1)) (hh : h'.length ≤ 2 * (i + 1)) (hl : letB rows k p = true) (h0 : p = [] → k = 0) (hn : (newM rows M k p).length ≤ M.length + (p.length + 3)) (X : Txt1 kt' (newM rows M k p)) (hk : kt'.length ≤ i + 1) :
    Plain (i + 1) h' (rowsN rows k p) (newM rows M k p) kt' where
  live := live_new P.live W (by have := P.b1; omega) hl h0
  txt := X
  b1 := Nat.le_trans keep_len (by have := P.b1; omega)
  b2 := hh
  b3 r hr := by
    rcases mem_keep.mp hr with ⟨hr, _⟩ | rfl
    · have := P.b3 r hr; omega
    · exact hp
  b4 := by have := P.b4; omega
  b5 := hk
theorem addAll_len : ∀ {xs S : List Spot}, (addAll S xs).length ≤ S.length + xs.length
  | [], S => Nat.le_refl _
  | x :: xs, S => by
    have := addAll_len (xs := xs) (S := if x ∈ S then S else S ++ [x])
    show (addAll (if x ∈ S then S else S ++ [x]) xs).length ≤ _
    have h2 : (if x ∈ S then S else S ++ [x]).length ≤ S.length + 1 := by split <;> simp
    simp only [List.length_cons]
    omega
theorem spots_len {rows : List Row} {p : List Bool} : ∀ i, (spotsTo rows p i).length ≤ 2 * i
  | 0 => Nat.le_refl _
  | i + 1 => by
    have := spots_len (rows := rows) (p := p) i
    show (spotsTo rows p i ++ _).length ≤ _
    rw [List.length_append]
    split <;> simp <;> omega
theorem kidsS_len {S : List Spot} {s : Spot} : (kidsS S s).length ≤ S.length := List.length_filterMap_le ..
theorem strs_back {its : Array Value} {xs : List Str} {x : Str} (h : StrsAre its.toList xs) (hl : xs.getLast? = some x) : ∃ t, its.back? = some (.str x t) := by
  have hn := strs_len h
  have e : xs[xs.length - 1]? = some x := by rw [← List.getLast?_eq_getElem?]; exact hl
  obtain ⟨t, ht⟩ := strs_at h e
  refine ⟨t, ?_⟩
  rw [Array.back?_eq_getElem?]
  rw [Array.length_toList] at hn
  rw [hn, ← Array.getElem?_toList]
  exact ht
theorem RowV.more {ro ro' : Led} {v : Value} {r : Row} (h : RowV ro v r) (s : ∀ p ∈ ro, p ∈ ro') : RowV ro' v r := let ⟨a, o, t, u, e, m, i⟩ := h; ⟨a, o, t, u, e, s _ m, i⟩
section
variable {f : Fx} {b : Binds} {N : Led} {K : Fx → Flow → Binds → Led → Prop}
theorem ExsT.gen {sts : List Stmt} (h : ∀ bc, (∀ y, bget bc y = bget b y) → ExsT f bc N sts K) : ExsT f b N sts K := h b fun _ => rfl
theorem ExsT.genN {sts : List Stmt} (h : ∀ NN, NN = N → ExsT f b NN sts K) : ExsT f b N sts K := h N rfl
end
end Mine
end
section
open PySem PySem.W PyProof.Rows PySem.Calls
set_option Elab.async false
set_option maxRecDepth 100000
set_option maxHeartbeats 4000000
set_option linter.unusedVariables false
set_option rowWalk.seconds 0
namespace Mine
theorem strs_unsnoc : ∀ {l : List Str} {vs : List Value} {x : Str}, StrsAre vs (l ++ [x]) → ∃ vs0 t, vs = vs0 ++ [.str x t] ∧ StrsAre vs0 l
  | [], vs, x, h => by
    cases h with
    | cons y t h => cases h; exact ⟨[], t, rfl, .nil⟩
  | a :: l, vs, x, h => by
    cases h with
    | cons y t h =>
      obtain ⟨vs0, t', rfl, h0⟩ := strs_unsnoc h
      exact ⟨_, t', rfl, .cons _ _ h0⟩
/-- a deed at the root -/
theorem c_deed0 (w : World) (N : Led) (M : Mp) (α : Spot → Addr) (x key : Addr) (ok : Obj) (y : Str) (t u : Tok) (R : Rep w N α M) (hW : WF M) (I : InstOk N x (α [])) (hk : (key, ok) ∈ N) (hko : ¬ Own M α key) (hT : IsT ok []) (hz : M.length ≤ 10000) :
    FullT w 205 3 [.ref x, .int ((0 : Nat) : Int) t, .ref key, .str y u] N (RDeed w N M α 3 (some M)) := by
  delta FullT
  k_fill
  refine enterT [((Str.ofString "text"), .str y u), ((Str.ofString "names"), .ref key), ((Str.ofString "kind"), .int ((0 : Nat) : Int) t), ((Str.ofString "tree"), .ref x)] (by k_is) (by k_is) (fun _ _ => BindsTo.of_eq rfl) (locs rfl) rfl rfl rfl (by decide) ?_
  rintro c rfl
  have ck := cls_ok c.w
  have I0 := I
  obtain ⟨dx, es, nn, sl, I1, I2, I3, I4, I5⟩ := I
  refine ExsT.cons (ExT.tryF (X := False) ?_ ?_ (by first | boot_fast | boot_by_name) (by decide) rfl rfl rfl ?_)
  rotate_left
  · have h : model PySem.Challenge.rw_in0109_01.row.prog c.w = model PySem.Challenge.rw_in0109_01.row.prog c.w ∧ nsIn (Mine.hd.heap_1 c.w.params) mainGlobals (Str.ofString "KeyError") = some none := by
      k_fill
      exact ⟨rfl, by k_is⟩
    exact h.2
  · intro g b' N' hX sub
    exact hX.elim
  refine ExsE.ite (Jd.is (Tr.eqI (x := 0) (y := 2) (EvI.of (EvV.name (v := .int ((0 : Nat) : Int) t) rfl rfl)) EvI.lit) (show _ = false from rfl)) ?_
  refine ExsE.ite (Jd.is (Tr.eqI (x := 0) (y := 3) (EvI.of (EvV.name (v := .int ((0 : Nat) : Int) t) rfl rfl)) EvI.lit) (show _ = false from rfl)) ?_
  refine ExsE.exprA (R := RGoc c.w N M α []) (JdE.meth (pos := _) (o := .Name (Str.ofString "tree") _) (RA := Is N [.ref key]) (EvV.name (v := .ref x) rfl rfl) I1 I2 ck.g1 ck.g2 ck.g3 ck.g4 I4 (Ags.oneV (EvV.name (v := .ref key) rfl rfl))
    (fun vs' N₁ r => ?_) ⟨pe_name, trivial⟩ rfl ⟨_, rfl⟩) ?_ rfl rfl
  · obtain ⟨rfl, rfl⟩ := r
    exact ⟨1, _, _, c_goc c.w _ M α x key ok _ [] R hW I0 hk hko hT .nil (by simpa using hz), Nat.le_succ _, fun r N' h => h, fun a h N' hP s2 hR => ⟨(by cases hP), a, _, N', rfl, s2, hR⟩⟩
  · rintro v N1 ⟨M1, α1, s1, hgo, rfl, hs1, R1, W1, K1, hl1, hr1, hun⟩
    obtain ⟨rfl, rfl⟩ : M = M1 ∧ [] = s1 := by injection hgo with h; injection h with h1 h2; exact ⟨h1, h2⟩
    exact ExsE.nil (ExsE.nil (ExsE.retV EvV.lit ⟨_, rfl, .inl ⟨rfl, M, α1, rfl, R1, W1, K1, hr1, by omega⟩⟩))
/-- a deed, by the rows -/
theorem c_deedP (w : World) (N : Led) (M : Mp) (α : Spot → Addr) (x key : Addr) (ok : Obj) (vs : List Value) (rows : List Row) (p : List Bool) (k : Nat) (t u : Tok) (L : Live rows M) (R : Rep w N α M) (hW : WF M) (hrz : rows.length ≤ 19) (h0 : p = [] → k = 0) (I : InstOk N x (α [])) (hx : ¬ Own M α x) (hk : (key, ok) ∈ N) (hko : ¬ Own M α key) (hT : IsT ok vs) (hks : StrsAre vs (p.map nm)) (hz : M.length + p.length + 1 ≤ 10000) :
    FullT w 205 3 [.ref x, .int (k : Int) t, .ref key, .str (pt p) u] N (RDeed w N M α (p.length + 3) (if letB rows k p = true then some (newM rows M k p) else none)) := by
  by_cases hp : p = []
  · subst hp
    obtain rfl := h0 rfl
    cases hks
    have hl : letB rows 0 [] = true := by
      rw [let_is]
      have : txtTo rows [] 0 = false := by
        rw [Bool.eq_false_iff]
        intro h
        obtain ⟨q, h1, h2⟩ := txt_iff.mp h
        have : q = [] := by simpa using h2
        subst this
        exact L.root h1
      show (!txtTo rows [] 0 && _) = true
      rw [this]; rfl
    have hn : newM rows M 0 [] = M := by
      show M ++ [] = M
      exact List.append_nil _
    rw [if_pos hl, hn]
    exact c_deed0 w N M α x key ok _ t u R hW I hk hko hT (by simp at hz; omega)
  · obtain ⟨n, hn⟩ : ∃ n, p.length = n + 1 := by
      cases p with
      | nil => exact absurd rfl hp
      | cons a r => exact ⟨_, rfl⟩
    have hn2 : n < p.length := by omega
    have hpt : p.take (n + 1) = p := by rw [← hn, List.take_length]
    have e : p.map nm = (p.take n).map nm ++ [nm (p.getD n false)] := by
      conv => lhs; rw [← hpt, take_getD hn2, List.map_append]
      rfl
    rw [e] at hks
    obtain ⟨vs0, t2, rfl, hvs0⟩ := strs_unsnoc hks
    have d := deed_is L (by omega) hn k
    rw [← d]
    have hlen : ((p.take n).map nm).length = n := by simp; omega
    have cd := c_deed w N M α x key ok vs0 ((p.take n).map nm) (nm (p.getD n false)) k (pt p) t u t2 R hW I hx hk hko hT hvs0 (by rw [hlen]; omega) (fun M1 s hg hl => ?_)
    · rw [hlen] at cd
      intro mean mg mb dp un gd env outer A₀ base h₀ Lx m s Q E a1 a2 a3 a4 a5 a6 a7 a8 a9 a10 F M' ret
      refine cd mean mg mb dp un gd env outer A₀ base h₀ Lx m s Q E a1 a2 a3 a4 a5 a6 a7 a8 a9 a10 F M' fun r h' tk' N' h₀' b1 b2 b3 b4 b5 b6 b7 hr => ret r h' tk' N' h₀' b1 b2 b3 b4 b5 b6 b7 ?_
      rcases hr with ⟨rfl, M2, α2, c1, c2, c3, c4, c5, c6⟩ | hr
      · exact .inl ⟨rfl, M2, α2, c1, c2, c3, c4, c5, by omega⟩
      · exact .inr hr
    · rw [goc_is L (by omega) p n (by omega)] at hg
      split at hg
      · cases hg
      · injection hg with hg
        injection hg with h1 h2
        subst h1 h2
        have lw := look_way L (by omega) hn2
        have hl2 : look (M ++ missTo rows p n) (fb rows p n) = some .lst := hl
        rw [lw] at hl2
        obtain ⟨hTx, hc⟩ := lst_of hl2
        have hR : hasR rows (p.take (n + 1)) = true := hasR_of (cnt_iff.mp hc)
        show (kids (M ++ missTo rows p n) (fb rows p n)).length < 20
        rw [miss_nil (hasR_up hR (take_pre (Nat.le_succ n))), List.append_nil, L.lst p n hn2 hl2, List.length_map, List.length_range]
        have := cntB_le (rows := rows) (q := p.take (n + 1))
        omega
end Mine
end
section
open PySem PySem.W PyProof.Rows PySem.Calls
set_option Elab.async false
set_option maxRecDepth 100000
set_option maxHeartbeats 4000000
set_option linter.unusedVariables false
set_option rowWalk.seconds 0
namespace Mine
/-- what the run holds ahead of turn i -/
def RunJ (w : World) (D : Addr) (o : Obj) (cL : Addr) (i : Nat) (b : Binds) (N : Led) : Prop :=
  ∃ (h : List Bool) (rows : List Row) (M : Mp) (α β : Spot → Addr) (x dx Db Dt Dc : Addr) (kt : List (Str × Value)) (Z : Led) (t : Tok) (es : List DictEntry) (n : Nat) (sl : Array (Option Value)) (oc : Obj) (vs : List Value) (ro : Led),
    Plain i h rows M kt ∧ Core w N M α (spt M) β Db Dt kt Z cL ∧ (D, o) ∈ Z ∧ (x, (⟨.ref 53, some dx, .plain, sl⟩ : Obj)) ∈ Z ∧ (dx, dictOf es n) ∈ Z ∧ getL (Str.ofString "dict") es = some (some (.ref (α []))) ∧ getL (Str.ofString "get_or_create_nest") es = some none ∧ getL (Str.ofString "append_nest_to_list") es = some none ∧
    (Dc, oc) ∈ Z ∧ IsL oc vs ∧ (∀ p ∈ ro, p ∈ Z) ∧ All2 (RowV ro) vs rows ∧
    bget b (Str.ofString "tree") = some (.ref x) ∧ bget b (Str.ofString "here") = some (.str (pt h) t) ∧ bget b (Str.ofString "current") = some (.ref Dc) ∧ bget b (Str.ofString "below") = some (.ref Db) ∧ bget b (Str.ofString "texts") = some (.ref Dt)
theorem run_fin {w : World} {D : Addr} {o : Obj} {cL I : Addr} {oI : Obj} {i : Nat} {bb : Binds} {NN : Led} {h : List Bool} {rows : List Row} {M : Mp} {α β : Spot → Addr} {x dx Db Dt Dc : Addr} {kt : List (Str × Value)} {Z ZZ : Led} {t : Tok} {es : List DictEntry} {n : Nat} {sl : Array (Option Value)} {oc : Obj} {vs : List Value} {ro : Led}
    (P : Plain (i + 1) h rows M kt) (C : Core w NN M α (spt M) β Db Dt kt ZZ cL) (hI : (I, oI) ∈ ZZ) (hZ : ∀ p ∈ Z, p ∈ ZZ ∧ p.1 ≠ I) (z1 : (D, o) ∈ Z) (z2 : (x, (⟨.ref 53, some dx, .plain, sl⟩ : Obj)) ∈ Z) (z3 : (dx, dictOf es n) ∈ Z) (g1 : getL (Str.ofString "dict") es = some (some (.ref (α [])))) (g2 : getL (Str.ofString "get_or_create_nest") es = some none) (g3 : getL (Str.ofString "append_nest_to_list") es = some none)
    (z4 : (Dc, oc) ∈ Z) (hc1 : IsL oc vs) (hc2 : ∀ p ∈ ro, p ∈ Z) (hc3 : All2 (RowV ro) vs rows) (b1 : bget bb (Str.ofString "tree") = some (.ref x)) (b2 : bget bb (Str.ofString "here") = some (.str (pt h) t)) (b3 : bget bb (Str.ofString "current") = some (.ref Dc)) (b4 : bget bb (Str.ofString "below") = some (.ref Db)) (b5 : bget bb (Str.ofString "texts") = some (.ref Dt)) :
    ∃ N'', (I, oI) ∈ NN ∧ (∀ p ∈ N'', p ∈ NN) ∧ (∀ p ∈ N'', p.1 ≠ I) ∧ RunJ w D o cL (i + 1) bb N'' := by
  obtain ⟨a, b, c, d⟩ := C.z _ hI
  refine ⟨NN.filter fun p => !(p.1 == I), a, fun p hp => (List.mem_filter.mp hp).1, fun p hp => ?_, h, rows, M, α, β, x, dx, Db, Dt, Dc, kt, Z, t, es, n, sl, oc, vs, ro, P, C.out b c d hZ, z1, z2, z3, g1, g2, g3, z4, hc1, hc2, hc3, b1, b2, b3, b4, b5⟩
  have := (List.mem_filter.mp hp).2
  simpa using this
theorem c_run (w : World) (N : Led) (D : Addr) (o : Obj) (ds : List Value) (xs : List Nat) (hD : (D, o) ∈ N) (ho : IsL o ds) (hds : All2 (fun v (x : Nat) => ∃ t, v = .int (x : Int) t) ds xs) (hx : ∀ x ∈ xs, x < 32) (hl : xs.length ≤ 10) :
    FullT w 230 121 [.ref D] N (fun r N' => r = .bool true) := by
  delta FullT
  k_fill
  refine enterTC [((Str.ofString "draws"), .ref D)] [((Str.ofString "draws"), .ref D)] (by k_is) (by k_is) (fun _ _ => BindsTo.of_eq rfl) rfl (by decide) rfl rfl rfl (fun _ _ => rfl) ?_
  rintro c cells rfl hcells lo
  have hcells : CellsAre _ [((Str.ofString "place"), c.L + 1)] cells := hcells
  obtain ⟨ocl, rfl, hoc⟩ := hcells.one
  have hoc : ocl.data = .cell none := hoc
  show ExsT _ _ ((c.L + 1, ocl) :: N) _ _
  refine ExsT.asg (Ev.tree rfl (Nat.le_of_ble_eq_true rfl) rfl) (fun v N1 r => ?_) rfl rfl
  obtain ⟨x, dx, rfl, ⟨root, o0, n0, es, sl, sub, i1, i2, i3, i4, i5, r1, r2, r3, fr, e1, e2⟩, fr2⟩ := r
  refine ExsT.asS EvS.lit (fun t0 => ?_) rfl rfl
  refine ExsT.asg (Ev.lst Ags.nil fun vs N₁ r => by obtain ⟨rfl, rfl⟩ := r; exact jd_newList (Nat.zero_le _)) (fun v N2 r => ?_) rfl rfl
  obtain ⟨Dc, its, nc, rfl, rfl, frc, hits⟩ := r
  have hits : its = #[] := Array.toList_eq_nil_iff.mp hits
  subst hits
  refine ExsT.asg Ev.dictL (fun v N2 r => ?_) rfl rfl
  obtain ⟨Db, L, ob, nL, rfl, rfl, hob, hsb, frb, hbl⟩ := r
  refine ExsT.asg Ev.dict0 (fun v N2 r => ?_) rfl rfl
  obtain ⟨Dt, ot, rfl, rfl, frt, hst, hot⟩ := r
  refine ExsT.cons (ExT.forL (vs := ds) (ax := D) (o := o) (RunJ c.w D o (c.L + 1)) (EvV.name rfl rfl) ho (fun i b' N' hJ => ?_) ?_ ?_ ?_ (fun _ => rfl) rfl)
  · obtain ⟨h, rows, M, α, β, x, dx, Db, Dt, Dc, kt, Z, t, es, n, sl, oc, vs, ro, P, C, z1, _⟩ := hJ
    exact (C.z _ z1).1
  · have q0 : (c.L + 1, ocl) ∈ N1 := sub _ List.mem_cons_self
    have qD : (D, o) ∈ N1 := sub _ (List.mem_cons_of_mem _ hD)
    have up : ∀ p ∈ N1, p ∈ (Dt, ot) :: (L, PySem.W.listOf #[] nL) :: (Db, ob) :: (Dc, PySem.W.listOf #[] nc) :: N1 := fun p hp => List.mem_cons_of_mem _ (List.mem_cons_of_mem _ (List.mem_cons_of_mem _ (List.mem_cons_of_mem _ hp)))
    have nb : ∀ p ∈ N1, p.1 ≠ Db ∧ p.1 ≠ Dt ∧ p.1 ≠ L := fun p hp => ⟨(frb p (List.mem_cons_of_mem _ hp)).1, frt p (List.mem_cons_of_mem _ (List.mem_cons_of_mem _ (List.mem_cons_of_mem _ hp))), (frb p (List.mem_cons_of_mem _ hp)).2⟩
    have lD : D ≠ c.L + 1 := fun e => absurd (lo _ hD) (by rw [e]; exact Nat.not_lt.mpr (Nat.le_succ _))
    have nbc := frb _ (List.mem_cons_self (a := (Dc, PySem.W.listOf #[] nc)) (l := N1))
    have hz : ∀ p ∈ [(D, o), (x, (⟨.ref 53, some dx, .plain, sl⟩ : Obj)), (dx, dictOf es n0), (Dc, PySem.W.listOf #[] nc)], p ∈ (Dt, ot) :: (L, PySem.W.listOf #[] nL) :: (Db, ob) :: (Dc, PySem.W.listOf #[] nc) :: N1 ∧ p.1 ≠ root ∧ p.1 ≠ Db ∧ p.1 ≠ Dt ∧ p.1 ≠ L ∧ p.1 ≠ c.L + 1 := fun p hp => by
      rcases List.mem_cons.mp hp with rfl | hp
      · obtain ⟨a, b, d⟩ := nb _ qD
        exact ⟨up _ qD, fr _ (List.mem_cons_of_mem _ hD), a, b, d, lD⟩
      rcases List.mem_cons.mp hp with rfl | hp
      · obtain ⟨a, b, d⟩ := nb _ i1
        exact ⟨up _ i1, e1, a, b, d, Ne.symm (fr2 _ List.mem_cons_self).1⟩
      rcases List.mem_cons.mp hp with rfl | hp
      · obtain ⟨a, b, d⟩ := nb _ i2
        exact ⟨up _ i2, e2, a, b, d, Ne.symm (fr2 _ List.mem_cons_self).2⟩
      · rw [List.mem_singleton.mp hp]
        exact ⟨List.mem_cons_of_mem _ (List.mem_cons_of_mem _ (List.mem_cons_of_mem _ List.mem_cons_self)), Ne.symm (frc _ r1), nbc.1, frt _ (List.mem_cons_of_mem _ (List.mem_cons_of_mem _ List.mem_cons_self)), nbc.2, Ne.symm (frc _ q0)⟩
    obtain ⟨n1, n2, n3⟩ := nb _ r1
    obtain ⟨n4, n5, n6⟩ := nb _ q0
    exact ⟨[], [], M0, fun _ => root, fun _ => L, x, dx, Db, Dt, Dc, [], _, t0, es, n0, sl, PySem.W.listOf #[] nc, [], [], plain0,
      core0 (up _ r1) r2 r3 (List.mem_cons_of_mem _ (List.mem_cons_of_mem _ List.mem_cons_self)) hob hsb (List.mem_cons_of_mem _ List.mem_cons_self) List.mem_cons_self hot hst (up _ q0) hoc hz n1 n2 n3 (Ne.symm (fr _ List.mem_cons_self)) (frt _ (List.mem_cons_of_mem _ List.mem_cons_self)) (Ne.symm hbl) (frt _ List.mem_cons_self) n4 n5 n6,
      List.mem_cons_self, List.mem_cons_of_mem _ List.mem_cons_self, List.mem_cons_of_mem _ (List.mem_cons_of_mem _ List.mem_cons_self), i3, i4, i5, List.mem_cons_of_mem _ (List.mem_cons_of_mem _ (List.mem_cons_of_mem _ List.mem_cons_self)), ⟨rfl, nc, rfl⟩, fun p hp => (nomatch hp), .nil, rfl, by rw [pt_nil]; rfl, rfl, rfl, rfl⟩
  · rintro i v b' N' I oI g hv ⟨h, rows, M, α, β, x, dx, Db, Dt, Dc, kt, Z, t, es, n, sl, oc, vs, ro, P, C, z1, z2, z3, g1, g2, g3, z4, hc1, hc2, hc3, b1, b2, b3, b4, b5⟩ offI T
    obtain ⟨xn, hxn, tx, rfl⟩ := hds.get hv
    have hx32 := hx xn (List.mem_of_getElem? hxn)
    have hi : i < 10 := by
      have := List.getElem?_eq_some_iff.mp hxn
      obtain ⟨h1, _⟩ := this
      omega
    obtain ⟨dv1, dv2, dv3⟩ := div4 hx32
    obtain ⟨fI1, fI2, fI3⟩ := C.fresh offI
    have zI : ∀ p ∈ Z, p.1 ≠ I := fun p hp => offI p (C.z p hp).1
    have C1 : Core c.w ((I, oI) :: N') M α (spt M) β Db Dt kt ((I, oI) :: Z) (c.L + 1) := (C.more fun p hp => List.mem_cons_of_mem _ hp).setZ fun p hp => by
      rcases List.mem_cons.mp hp with rfl | hp
      · exact ⟨List.mem_cons_self, fI1, fI2, fI3⟩
      · obtain ⟨a, b⟩ := C.z p hp
        exact ⟨List.mem_cons_of_mem _ a, b⟩
    have hlen : h.length ≤ 1000 := by have := P.b2; omega
    refine ExsT.step (Ex.asCell (c := c.L + 1) rfl (R := IsS ((I, oI) :: N') (pt (pl h (xn / 4)))) (Ev.call (g_law_place _) (RA := fun us N₁ => (∃ t u, us = [.str (pt h) t, .int ((xn / 4 : Nat) : Int) u]) ∧ N₁ = (I, oI) :: N') ?_ (fun us N₁ r => ?_) rfl ⟨pe_name, pe_bin, trivial⟩ rfl) (fun v N₁ r => ?_) rfl rfl)
    · refine Ags.cons (EvV.name (v := .str (pt h) t) b2 rfl) fun v N₁ r => ?_
      obtain ⟨rfl, rfl⟩ := r
      refine Ags.cons (EvI.bin (EvI.of (EvV.name (v := .int (xn : Int) tx) rfl rfl)) EvI.lit (jd_divI (by decide) dv3)) fun v N₁ r => Ags.nil.mono fun us N₂ r₂ => ?_
      obtain ⟨⟨u, rfl⟩, rfl⟩ := r
      obtain ⟨rfl, rfl⟩ := r₂
      exact ⟨⟨t, u, by rw [dv1]⟩, rfl⟩
    · obtain ⟨⟨t1, u1, rfl⟩, rfl⟩ := r
      refine ⟨[], 4, _, c_place _ h (xn / 4) t1 u1 (by omega) hlen, Nat.le_of_ble_eq_true rfl, (fun _ h => nomatch h), ?_⟩
      rintro r nw _ ⟨t2, rfl, rfl⟩
      exact ⟨⟨t2, rfl⟩, rfl⟩
    obtain ⟨⟨tp, rfl⟩, rfl⟩ := r
    obtain ⟨oc0, v0, mc0, hd0⟩ := C1.cell
    refine ⟨oc0, v0, mc0, hd0, fun oc1 hd1 => ⟨rfl, ?_⟩⟩
    have C2 := C1.cellSet hd1
    have mC : (c.L + 1, oc1) ∈ put ((I, oI) :: N') (c.L + 1) oc1 := put_self
    have hpl := pl_len h (xn / 4)
    generalize put ((I, oI) :: N') (c.L + 1) oc1 = N3 at C2 mC ⊢
    generalize pl h (xn / 4) = p at hd1 hpl ⊢
    have hp2 : p.length ≤ 2 * (i + 1) := by have := P.b2; omega
    obtain ⟨kk, hkk⟩ : ∃ kk, kk = if p = [] then 0 else xn % 4 := ⟨_, rfl⟩
    have h0 : p = [] → kk = 0 := fun e => by rw [hkk, if_pos e]
    have hk4 : kk < 4 := by rw [hkk]; split <;> omega
    refine ExsT.asI (y := (kk : Int)) (Ev.ifx (p := pt p != Str.ofString "/") (Tr.neS (EvS.of (EvV.cell (c := c.L + 1) rfl mC hd1 rfl)) EvS.lit) (fun hh => ?_) fun hh => ?_) (fun tk => ?_) rfl rfl
    · have hne : p ≠ [] := fun e => by rw [e, pt_nil] at hh; simp at hh
      have e : ((kk : Nat) : Int) = (xn : Int).fmod 4 := by rw [hkk, if_neg hne, dv2]
      rw [e]
      exact EvI.bin (EvI.of (EvV.name (v := .int (xn : Int) tx) rfl rfl)) EvI.lit (jd_modI (by decide))
    · have he : p = [] := by
        rw [pt_slash] at hh
        simpa using hh
      rw [h0 he]
      exact EvI.lit
    refine ExsT.asg (Ev.tupL (b_tuple _) (P := fun vs N₁ => StrsAre vs (p.map nm) ∧ ∀ q ∈ N3, q ∈ N₁) (Ev.lcompX (Fin := fun ys N₁ => StrsAre ys (p.map nm) ∧ ∀ q ∈ N3, q ∈ N₁) (SrcX.seq (Ψ := fun n P Sa N₁ => ∃ ws, n = ws.length ∧ P = SeqP ws ∧ StrsAre ws (ways p) ∧ ∀ q ∈ N3, q ∈ N₁) (Ev.call (g_law_ways _) (Ags.one (EvS.of (EvV.cell (c := c.L + 1) rfl mC hd1 rfl))) (fun us N₁ r => ?_) rfl ⟨pe_name, trivial⟩ rfl)) (fun n Pq Sa N₁ r => ?_) (fun Dn ys N₁ off r => ?_) rfl rfl (fun _ => rfl)) rfl) (fun v N4 r => ?_) rfl rfl
    · obtain ⟨⟨t1, rfl⟩, rfl⟩ := r
      refine ⟨[], 3, _, c_ways _ p t1 (by omega), Nat.le_of_ble_eq_true rfl, (fun _ h => nomatch h), ?_⟩
      rintro r nw _ ⟨Dw, its, n, rfl, rfl, hw⟩
      exact ⟨Dw, _, its.toList, rfl, .inl List.mem_cons_self, ⟨.inl rfl, n, by simp [PySem.W.listOf]⟩, its.toList, rfl, rfl, hw, fun q hq => List.mem_cons_of_mem _ hq⟩
    · obtain ⟨ws, rfl, rfl, hws, hsub⟩ := r
      have hwl : ws.length = (p.map nm).length := by rw [strs_len hws, ways_len, List.length_map]
      refine ⟨_, fun i ys N' => N' = N₁ ∧ All2 (fun v x => ∃ t, v = .str x t) ys ((p.map nm).take i), ⟨rfl, .nil⟩, by rw [hwl, List.length_map]; omega, fun C => Takes.name (VP := fun i v => ws[i]? = some v) (fun i v hp h => h) rfl rfl, map_turn hwl (fun j y m X Wl C oC hr hV TT => ?_), fun ys N' j => ?_⟩
      · obtain ⟨u, em, eu⟩ := hV
        obtain ⟨z, t3, e3, e4⟩ := strs_get hws eu
        subst e3
        have hj : j < p.length := by
          have := List.getElem?_eq_some_iff.mp hr
          obtain ⟨h1, _⟩ := this
          simpa using h1
        rw [ways_at hj] at e4
        obtain rfl := Option.some.inj e4
        have hy : y = nm (p.getD j false) := by
          rw [List.getElem?_map, List.getElem?_eq_getElem hj] at hr
          rw [← Option.some.inj hr]
          simp [List.getD, List.getElem?_eq_getElem hj]
        have hb := (pdir_pt (p := p.take j) (g := p.getD j false)).2.2
        rw [← take_getD hj] at hb
        have hsz : Sz (pt (p.take (j + 1))) := by have := pt_len (p.take (j + 1)); simp at this; unfold Sz; omega
        refine (EvS.call1 (g_basename _) (fun t => c_basename _ _ t hsz) (EvS.of (EvV.cn TT (fun q hq => List.mem_append_left _ hq) em rfl)) rfl rfl rfl).jd.mono fun v N₃ q => ?_
        obtain ⟨⟨t4, rfl⟩, rfl⟩ := q
        exact ⟨fun _ h => h, t4, by rw [hb, hy]⟩
      · obtain ⟨rfl, hA⟩ := j
        rw [hwl, List.take_length] at hA
        exact ⟨all2_strs hA, hsub⟩
    · have := strs_len r.1
      rw [List.length_map] at this
      exact ⟨Dn, ys, rfl, atL_lst List.mem_cons_self, by omega, r.1, fun q hq => List.mem_cons_of_mem _ (r.2 q hq)⟩
    obtain ⟨nvs, N₁, ⟨hnvs, hsub⟩, Tn, rfl, rfl, offT⟩ := r
    have zZ : ∀ {q : Addr × Obj}, q ∈ Z → q ∈ (I, oI) :: Z := fun hq => List.mem_cons_of_mem _ hq
    have C2a := C2.more hsub
    obtain ⟨fT1, fT2, fT3⟩ := C2a.fresh offT
    have C3 : Core c.w ((Tn, tupO nvs) :: N₁) M α (spt M) β Db Dt kt ((I, oI) :: Z) (c.L + 1) := C2a.more fun q hq => List.mem_cons_of_mem _ hq
    have mC5 : (c.L + 1, oc1) ∈ (Tn, tupO nvs) :: N₁ := List.mem_cons_of_mem _ (hsub _ mC)
    have mT5 : (Tn, tupO nvs) ∈ (Tn, tupO nvs) :: N₁ := List.mem_cons_self
    have hI5 : (I, oI) ∈ (Tn, tupO nvs) :: N₁ := (C3.z _ List.mem_cons_self).1
    generalize (Tn, tupO nvs) :: N₁ = N5 at C3 mC5 mT5 hI5 ⊢
    have mDc : (Dc, oc) ∈ N5 := (C3.z _ (zZ z4)).1
    have hro5 : ∀ a o', (a, o') ∈ ro → (a, o') ∈ N5 := fun a o' hq => (C3.z _ (zZ (hc2 _ hq))).1
    have hvl := hc3.len
    have hr10 := P.b1
    refine ExsT.step (Ex.asC (n := vs.length) (fun i ys N'' => N'' = N5 ∧ All2 (fun v (y : Str) => ∃ t, v = .str y t) ys ((rows.map fun r => pt (cpre r.2 p)).take i)) (Src.seq (ax := Dc) (o := oc) (Ev.mono (EvV.name (v := .ref Dc) (by exact b3) rfl) fun v N' r => ⟨r.1, by rw [r.2]; exact .inl mDc, by rw [r.2]; exact ⟨rfl, .nil⟩⟩) ⟨.inl hc1.1, hc1.2⟩) (fun C => Takes.name (VP := fun i v => vs[i]? = some v) (fun i v hp h => h) rfl rfl) (by omega)
      (map_turn (by rw [hvl, List.length_map]) (fun j y m X Wl C oC hr hV TT => ?_)) (fun Dm ms N'' offm jj => ⟨rfl, ?_⟩) rfl rfl rfl rfl (fun _ => rfl))
    · obtain ⟨u, em, eu⟩ := hV
      obtain ⟨r, er, hrv⟩ := hc3.get eu
      rw [List.getElem?_map, er] at hr
      obtain rfl := Option.some.inj hr
      have hrl := P.b3 r (List.mem_of_getElem? er)
      refine (Ev.call (g_commonpath _) (RA := fun us N₁ => ∃ Dl its n, us = [.ref Dl] ∧ N₁ = (Dl, PySem.W.listOf its n) :: (X ++ N5) ∧ StrsAre its.toList [pt r.2, pt p]) (R' := fun v N₃ => (∀ q ∈ X ++ N5, q ∈ N₃) ∧ ∃ t, v = .str (pt (cpre r.2 p)) t) (Ags.cons (Ev.lst (Ags.two (EvS.row1 (EvV.cn TT (fun q hq => List.mem_append_left _ hq) em rfl) (hrv.at fun a o' ha => .inl (List.mem_append_right _ (hro5 a o' ha)))) (EvS.of (EvV.ccell (c := c.L + 1) rfl (List.mem_append_right _ mC5) hd1 rfl))) fun us N₁ r => by obtain ⟨⟨t1, t2, rfl⟩, rfl⟩ := r; exact (jd_newList (Nat.le_of_ble_eq_true rfl)).mono fun v N₂ r => (show ∃ Dl its n, v = .ref Dl ∧ N₂ = (Dl, PySem.W.listOf its n) :: (X ++ N5) ∧ StrsAre its.toList [pt _, pt p] from by
        obtain ⟨Dl, its, n, e1, e2, _, e3⟩ := r
        exact ⟨Dl, its, n, e1, e2, by rw [e3]; exact .cons _ _ (.cons _ _ .nil)⟩)) fun v N₁ r => Ags.nil.mono fun us N₂ r₂ => ?_) (fun us N₁ r => ?_) rfl ⟨pe_lst, trivial⟩ rfl).jd
      · obtain ⟨Dl, its, n, rfl, rfl, e3⟩ := r
        obtain ⟨rfl, rfl⟩ := r₂
        exact ⟨Dl, its, n, rfl, rfl, e3⟩
      · obtain ⟨Dl, its, n, rfl, rfl, e3⟩ := r
        refine ⟨_, 9, _, c_common _ Dl (PySem.W.listOf its n) its.toList r.2 p ⟨rfl, n, by simp [PySem.W.listOf]⟩ e3 (by omega) (by omega), Nat.le_of_ble_eq_true rfl, fun q hq => .inl (by rw [List.mem_singleton.mp hq]; exact List.mem_cons_self), fun r nw ap hR => ?_⟩
        obtain ⟨t2, rfl, rfl⟩ := hR
        exact ⟨fun q hq => List.mem_cons_of_mem _ hq, t2, rfl⟩
    obtain ⟨rfl, hms⟩ := jj
    rw [hvl, ← List.length_map (f := fun r : Row => pt (cpre r.2 p)), List.take_length] at hms
    have hms := all2_strs hms
    obtain ⟨fm1, fm2, fm3⟩ := C3.fresh offm
    have C4 : Core c.w ((Dm, lsO ms) :: N'') M α (spt M) β Db Dt kt ((Dm, lsO ms) :: (I, oI) :: Z) (c.L + 1) := (C3.more fun q hq => List.mem_cons_of_mem _ hq).setZ fun q hq => by
      rcases List.mem_cons.mp hq with rfl | hq
      · exact ⟨List.mem_cons_self, fm1, fm2, fm3⟩
      · obtain ⟨a, b⟩ := C3.z q hq
        exact ⟨List.mem_cons_of_mem _ a, b⟩
    have mC6 : (c.L + 1, oc1) ∈ (Dm, lsO ms) :: N'' := List.mem_cons_of_mem _ mC5
    have mT6 : (Tn, tupO nvs) ∈ (Dm, lsO ms) :: N'' := List.mem_cons_of_mem _ mT5
    have hDmI : Dm ≠ I := (offm _ hI5).symm
    generalize (Dm, lsO ms) :: N'' = N6 at C4 mC6 mT6 ⊢
    have zZ2 : ∀ {q : Addr × Obj}, q ∈ Z → q ∈ (Dm, lsO ms) :: (I, oI) :: Z := fun hq => List.mem_cons_of_mem _ (List.mem_cons_of_mem _ hq)
    have hrd : ∀ {NN : Led} {M1 : Mp} {α1 β1 : Spot → Addr} {S1 : List Spot} {kt1 : List (Str × Value)}, Core c.w NN M1 α1 S1 β1 Db Dt kt1 ((Dm, lsO ms) :: (I, oI) :: Z) (c.L + 1) → ∀ q ∈ (Dc, oc) :: (Dm, lsO ms) :: ro, q ∈ NN := fun CC q hq => by
      rcases List.mem_cons.mp hq with rfl | hq
      · exact (CC.z _ (zZ2 z4)).1
      rcases List.mem_cons.mp hq with rfl | hq
      · exact (CC.z _ List.mem_cons_self).1
      · exact (CC.z _ (zZ2 (hc2 _ hq))).1
    have hr1000 : rows.length ≤ 1000 := by omega
    refine ExsT.asV (EvV.callB (g_law_let _) (vs := [.ref Dc, .ref Dm, .int (kk : Int) tk, .str (pt p) tp]) (Ags.four (EvV.name (by exact b3) rfl) (EvV.name rfl rfl) (EvV.name rfl rfl) (EvV.cell (c := c.L + 1) rfl mC6 hd1 rfl)) (c_let _ Dc Dm oc (lsO ms) vs ms ro rows kk p tk tp hc1 ⟨rfl, _, rfl⟩ hc3 hms hr1000) (Nat.le_of_ble_eq_true rfl) (fun q hq => .inl (hrd C4 q hq)) rfl ⟨pe_name, pe_name, pe_name, pe_name, trivial⟩ rfl) ?_ rfl rfl
    have hI6 : InstOk N6 x (α []) := ⟨dx, es, n, sl, (C4.z _ (zZ2 z2)).1, (C4.z _ (zZ2 z3)).1, g1, g2, g3⟩
    refine ExsT.ifNe (d := letB rows kk p) (dz := 3) (R := RDeed c.w N6 M α (p.length + 3) (if letB rows kk p = true then some (newM rows M kk p) else none)) (g_law_deed _) (Ags.four (EvV.name (by exact b1) rfl) (EvV.name rfl rfl) (EvV.name (v := .ref Tn) rfl rfl) (EvV.cell (c := c.L + 1) rfl mC6 hd1 rfl)) (fun us N₁ r => ?_) (Nat.le_of_ble_eq_true rfl) rfl (fun v N7 r => ?_) rfl ⟨pe_name, pe_name, pe_name, pe_name, trivial⟩ rfl rfl
    · obtain ⟨rfl, rfl⟩ := r
      exact c_deedP _ _ M α x Tn (tupO nvs) nvs rows p kk tk tp P.live C4.tree C4.wf (by omega) h0 hI6 (C4.z _ (zZ2 z2)).2.1 mT6 fT1 ⟨rfl, _, rfl⟩ hnvs (by have := P.b4; omega)
    have hfin : ∀ {NN : Led} {bb : Binds}, (∀ q ∈ N6, q ∈ NN) → bget bb (Str.ofString "tree") = some (.ref x) → bget bb (Str.ofString "here") = some (.str (pt h) t) → bget bb (Str.ofString "current") = some (.ref Dc) → bget bb (Str.ofString "below") = some (.ref Db) → bget bb (Str.ofString "texts") = some (.ref Dt) → ∃ N'', (I, oI) ∈ NN ∧ (∀ p ∈ N'', p ∈ NN) ∧ (∀ p ∈ N'', p.1 ≠ I) ∧ RunJ c.w D o (c.L + 1) (i + 1) bb N'' := fun hs q1 q2 q3 q4 q5 =>
      run_fin (Z := Z) P.next (C4.more hs) (List.mem_cons_of_mem _ List.mem_cons_self) (fun q hq => ⟨zZ2 hq, zI q hq⟩) z1 z2 z3 g1 g2 g3 z4 hc1 hc2 hc3 q1 q2 q3 q4 q5
    cases hlet : letB rows kk p with
    | false =>
      rw [hlet] at r
      rcases r with ⟨_, M', α', e, _⟩ | ⟨_, rfl, hs⟩
      · cases e
      · refine ⟨false, rfl, fun g2 T2 => ?_⟩
        show ExsT _ _ _ [] _
        refine ExsT.nil ?_
        refine ExsT.ite (p := false) (Tr.ofB (EvV.name (by rw [← hlet]; rfl) rfl) rfl) ?_
        exact ExsT.nil (ExsT.nil (hfin hs b1 b2 b3 b4 b5))
    | true =>
      rw [hlet, if_pos rfl] at r
      rcases r with ⟨rfl, hRT⟩ | ⟨e, _⟩
      rotate_left
      · cases e
      obtain ⟨M', α', e, C5, hroot, hlen', hkeep⟩ := C4.deed hRT
      obtain rfl : newM rows M kk p = M' := Option.some.inj e
      have mC7 : (c.L + 1, oc1) ∈ N7 := hkeep _ mC6 C4.cown
      have hI7 : (I, oI) ∈ N7 := (C5.z _ (List.mem_cons_of_mem _ List.mem_cons_self)).1
      have g2' := g2
      refine ⟨true, rfl, fun gg2 T2 => ?_⟩
      show ExsT _ _ _ [] _
      refine ExsT.nil ?_
      refine ExsT.ite (p := true) (Tr.ofB (EvV.name (by rw [← hlet]; rfl) rfl) rfl) ?_
      refine ExsT.asg (R := fun v N8 => ∃ Dk its nk E tE uE, v = .ref Dk ∧ N8 = (Dk, PySem.W.listOf its nk) :: (E, tupO [.int (kk : Int) tE, .str (pt p) uE]) :: N7 ∧ (∀ q ∈ N7, q.1 ≠ Dk ∧ q.1 ≠ E) ∧ Dk ≠ E ∧ All2 (RowV ((E, tupO [.int (kk : Int) tE, .str (pt p) uE]) :: ro)) its.toList (rowsN rows kk p)) (Ev.call (g_law_noted _) (Ags.four (EvV.name (v := .ref Dc) (by exact b3) rfl) (EvV.name rfl rfl) (EvV.name rfl rfl) (EvV.cell (c := c.L + 1) rfl mC7 hd1 rfl)) (fun us N₁ r => ?_) rfl ⟨pe_name, pe_name, pe_name, pe_name, trivial⟩ rfl) (fun v N8 r => ?_) rfl rfl
      · obtain ⟨rfl, rfl⟩ := r
        refine ⟨_, 1, _, c_noted _ Dc Dm oc (lsO ms) vs ms ro rows kk p tk tp hc1 ⟨rfl, _, rfl⟩ hc3 hms hr1000, Nat.le_of_ble_eq_true rfl, fun q hq => .inl (hrd C5 q hq), fun r nw ap hR => ?_⟩
        obtain ⟨Dk, ys, its, nk, E, tE, uE, rfl, rfl, e1, e2, e3⟩ := hR
        refine ⟨Dk, its, nk, E, tE, uE, rfl, rfl, fun q hq => ⟨ap _ List.mem_cons_self q hq, ap _ (List.mem_cons_of_mem _ List.mem_cons_self) q hq⟩, e3, ?_⟩
        rw [e1]
        exact (e2.mono fun a r h => h.more fun q hq => List.mem_cons_of_mem _ hq).app (.cons ⟨E, _, tE, uE, rfl, List.mem_cons_self, rfl, _, rfl⟩ .nil)
      obtain ⟨Dk, its, nk, E, tE, uE, rfl, rfl, hfr, hDE, hrows⟩ := r
      have hD5 := C5.fresh (a := Dk) fun q hq => (hfr q hq).1
      have hE5 := C5.fresh (a := E) fun q hq => (hfr q hq).2
      have up8 : ∀ q ∈ N7, q ∈ (Dk, PySem.W.listOf its nk) :: (E, tupO [.int (kk : Int) tE, .str (pt p) uE]) :: N7 := fun q hq => List.mem_cons_of_mem _ (List.mem_cons_of_mem _ hq)
      have C6 : Core c.w ((Dk, PySem.W.listOf its nk) :: (E, tupO [.int (kk : Int) tE, .str (pt p) uE]) :: N7) (newM rows M kk p) α' (spt M) β Db Dt kt ((Dk, PySem.W.listOf its nk) :: (E, tupO [.int (kk : Int) tE, .str (pt p) uE]) :: (Dm, lsO ms) :: (I, oI) :: Z) (c.L + 1) := (C5.more up8).setZ fun q hq => by
        rcases List.mem_cons.mp hq with rfl | hq
        · exact ⟨List.mem_cons_self, hD5⟩
        rcases List.mem_cons.mp hq with rfl | hq
        · exact ⟨List.mem_cons_of_mem _ List.mem_cons_self, hE5⟩
        · obtain ⟨a, b⟩ := C5.z q hq
          exact ⟨up8 _ a, b⟩
      have hDI : Dk ≠ I := (hfr _ hI7).1.symm
      have hEI : E ≠ I := (hfr _ hI7).2.symm
      have mC8 := up8 _ mC7
      generalize hN8 : (Dk, PySem.W.listOf its nk) :: (E, tupO [.int (kk : Int) tE, .str (pt p) uE]) :: N7 = N8 at C6 mC8 ⊢
      clear hN8 up8
      have hkl := keep_len (rows := rows) (k := kk) (p := p)
      refine ExsT.asg (R := fun v N9 => ∃ Sp sits sn, v = .ref Sp ∧ N9 = (Sp, PySem.W.listOf sits sn) :: N8 ∧ (∀ q ∈ N8, q.1 ≠ Sp) ∧ StrsAre sits.toList ((spotsTo (rowsN rows kk p) p p.length).map st)) (Ev.call (g_law_spots _) (RA := Is N8 [.ref Dk, .str (pt p) tp]) (Ags.cons (EvV.name (v := .ref Dk) rfl rfl) fun v N₁ r => by obtain ⟨rfl, rfl⟩ := r; exact (Ags.oneV (EvV.cell (c := c.L + 1) rfl mC8 hd1 rfl)).mono fun us N₂ r₂ => (show Is N₁ [.ref Dk, .str (pt p) tp] (.ref Dk :: us) N₂ from by obtain ⟨rfl, rfl⟩ := r₂; exact ⟨rfl, rfl⟩)) (fun us N₁ r => ?_) rfl ⟨pe_name, pe_name, trivial⟩ rfl) (fun v N9 r => ?_) rfl rfl
      · obtain ⟨rfl, rfl⟩ := r
        refine ⟨_, 4, _, c_spots _ Dk (PySem.W.listOf its nk) its.toList ((E, tupO [.int (kk : Int) tE, .str (pt p) uE]) :: ro) (rowsN rows kk p) p tp ⟨rfl, nk, by simp [PySem.W.listOf]⟩ hrows (by omega) (by omega), Nat.le_of_ble_eq_true rfl, fun q hq => .inl ?_, fun r nw ap hR => ?_⟩
        · rcases List.mem_cons.mp hq with rfl | hq
          · exact (C6.z _ List.mem_cons_self).1
          rcases List.mem_cons.mp hq with rfl | hq
          · exact (C6.z _ (List.mem_cons_of_mem _ List.mem_cons_self)).1
          · exact (C6.z _ (List.mem_cons_of_mem _ (List.mem_cons_of_mem _ (zZ2 (hc2 _ hq))))).1
        · obtain ⟨Sp, sits, sn, rfl, rfl, hs⟩ := hR
          exact ⟨Sp, sits, sn, rfl, rfl, ap _ List.mem_cons_self, hs⟩
      obtain ⟨Sp, sits, sn, rfl, rfl, hfs, hsits⟩ := r
      have hS6 := C6.fresh hfs
      have C7 : Core c.w ((Sp, PySem.W.listOf sits sn) :: N8) (newM rows M kk p) α' (spt M) β Db Dt kt ((Sp, PySem.W.listOf sits sn) :: (Dk, PySem.W.listOf its nk) :: (E, tupO [.int (kk : Int) tE, .str (pt p) uE]) :: (Dm, lsO ms) :: (I, oI) :: Z) (c.L + 1) := (C6.more fun q hq => List.mem_cons_of_mem _ hq).setZ fun q hq => by
        rcases List.mem_cons.mp hq with rfl | hq
        · exact ⟨List.mem_cons_self, hS6⟩
        · obtain ⟨a, b⟩ := C6.z q hq
          exact ⟨List.mem_cons_of_mem _ a, b⟩
      have mC9 : (c.L + 1, oc1) ∈ (Sp, PySem.W.listOf sits sn) :: N8 := List.mem_cons_of_mem _ mC8
      generalize hN9 : (Sp, PySem.W.listOf sits sn) :: N8 = N9 at C7 mC9 ⊢
      clear hN9
      have hsp := strs_len hsits
      rw [List.length_map] at hsp
      have hsl := spots_len (rows := rowsN rows kk p) (p := p) p.length
      have hgs := good_spots (rows := rowsN rows kk p) (p := p) (by omega) (by omega) p.length (Nat.le_refl _)
      have hpar := (par_spots (rows := rowsN rows kk p) (p := p) (root_spt C.wf) p.length).1
      have hsis := spots_is P.live C.wf (by omega) hlet h0
      refine ExsT.gen fun bc hbc => ?_
      have k1 : bget bc (Str.ofString "tree") = some (.ref x) := (hbc _).trans (by exact b1)
      have k2 : bget bc (Str.ofString "here") = some (.str (pt h) t) := (hbc _).trans (by exact b2)
      have k3 : bget bc (Str.ofString "current") = some (.ref Dk) := (hbc _).trans rfl
      have k4 : bget bc (Str.ofString "below") = some (.ref Db) := (hbc _).trans (by exact b4)
      have k5 : bget bc (Str.ofString "texts") = some (.ref Dt) := (hbc _).trans (by exact b5)
      have k6 : bget bc (Str.ofString "kind") = some (.int (kk : Int) tk) := (hbc _).trans rfl
      have k7 : bget bc (Str.ofString "spots") = some (.ref Sp) := (hbc _).trans rfl
      clear hbc
      obtain ⟨sp, hspd⟩ : ∃ sp, sp = spotsTo (rowsN rows kk p) p p.length := ⟨_, rfl⟩
      rw [← hspd] at hsits hsp hsl hgs hpar hsis
      obtain ⟨ZZ, hZZ⟩ : ∃ ZZ, ZZ = (Sp, PySem.W.listOf sits sn) :: (Dk, PySem.W.listOf its nk) :: (E, tupO [.int (kk : Int) tE, .str (pt p) uE]) :: (Dm, lsO ms) :: (I, oI) :: Z := ⟨_, rfl⟩
      rw [← hZZ] at C7
      have zS : (Sp, PySem.W.listOf sits sn) ∈ ZZ := by rw [hZZ]; exact List.mem_cons_self
      have zI2 : (I, oI) ∈ ZZ := by rw [hZZ]; exact List.mem_cons_of_mem _ (List.mem_cons_of_mem _ (List.mem_cons_of_mem _ (List.mem_cons_of_mem _ List.mem_cons_self)))
      have zK : ∀ q ∈ (Dk, PySem.W.listOf its nk) :: (E, tupO [.int (kk : Int) tE, .str (pt p) uE]) :: Z, q ∈ ZZ ∧ q.1 ≠ I := fun q hq => by
        rw [hZZ]
        rcases List.mem_cons.mp hq with rfl | hq
        · exact ⟨List.mem_cons_of_mem _ List.mem_cons_self, hDI⟩
        rcases List.mem_cons.mp hq with rfl | hq
        · exact ⟨List.mem_cons_of_mem _ (List.mem_cons_of_mem _ List.mem_cons_self), hEI⟩
        · exact ⟨List.mem_cons_of_mem _ (List.mem_cons_of_mem _ (List.mem_cons_of_mem _ (zZ2 hq))), zI q hq⟩
      clear hZZ
      have hMl := P.b4
      have hSl : ∀ j, (addAll (spt M) (sp.take j)).length ≤ 5000 := fun j => by
        have := addAll_len (xs := sp.take j) (S := spt M)
        have h2 : (sp.take j).length ≤ sp.length := by simp; omega
        have h3 : (spt M).length = M.length := List.length_map ..
        omega
      refine ExsT.step (Ex.forS (vs := sits.toList) (o := PySem.W.listOf sits sn) (ax := Sp) (fun j b2 N2 => ∃ β2, Core c.w N2 (newM rows M kk p) α' (addAll (spt M) (sp.take j)) β2 Db Dt kt ZZ (c.L + 1) ∧ (c.L + 1, oc1) ∈ N2 ∧ ∀ y, y ≠ (Str.ofString "spot") → bget b2 y = bget bc y)
        (Ev.mono (EvV.name (v := .ref Sp) k7 rfl) fun v N' r => ⟨r.1, by rw [r.2]; exact ⟨β, C7, mC9, fun _ _ => rfl⟩⟩) ⟨.inl rfl, sn, by simp [PySem.W.listOf]⟩ (.inr fun j b2 N2 ⟨β2, CC, _⟩ => (CC.z _ zS).1) ?_ ?_ rfl)
      · rintro j v b2 N2 I2 oI2 hv2 ⟨β2, C8, mC10, hb2⟩ off2
        obtain ⟨z, t5, rfl, ez⟩ := strs_get hsits hv2
        obtain ⟨s, hsj, rfl⟩ : ∃ s, sp[j]? = some s ∧ st s = z := by
          rw [List.getElem?_map] at ez
          cases hq : sp[j]? with
          | none => rw [hq] at ez; cases ez
          | some s => rw [hq] at ez; exact ⟨s, rfl, Option.some.inj ez⟩
        have hsm := List.mem_of_getElem? hsj
        have gsp := hgs s hsm
        have hst := addAll_step (S := spt M) hsj
        have hSj := hSl j
        obtain ⟨s0, y, es, hs0⟩ := Par.at hpar hsj
        obtain ⟨S0, hS0⟩ : ∃ S0, S0 = addAll (spt M) (sp.take j) := ⟨_, rfl⟩
        rw [← hS0] at C8 hst hSj hs0
        have C9 : Core c.w ((I2, oI2) :: N2) (newM rows M kk p) α' S0 β2 Db Dt kt ZZ (c.L + 1) := C8.more fun q hq => List.mem_cons_of_mem _ hq
        have nbI : ¬ Bel β2 Db Dt S0 I2 := (C8.fresh off2).2.1
        obtain ⟨ob, kb, m1, m2, m3⟩ := C9.tab.dict
        have kbl : kb.length ≤ 100000 := by rw [m3.len]; omega
        refine Exs.ifs (Tr.notInD (k := st s) (kvs := kb) (d := Db) (EvS.of (EvV.name (v := .str (st s) t5) rfl rfl)) (EvV.name (by exact (hb2 _ (by decide)).trans k4) rfl) ⟨C9.tab.sys.1, ob, .inl m1, m2⟩) (fun hno => ?_) fun hin => ?_
        · have hv0 : valueAt kb (st s) = none := by simpa using hno
          have hns : s ∉ S0 := fun h => by rw [all2_val m2 m3 h] at hv0; cases hv0
          subst es
          refine Exs.cons (Ex.setD (k := st (s0 ++ [y])) (R := NewL ((I2, oI2) :: N2) (fun ws => ws = [])) (Ev.lst Ags.nil fun ws N₁ r => by obtain ⟨rfl, rfl⟩ := r; exact jd_newList (Nat.zero_le _)) (fun v N₁ r => ?_) rfl)
          obtain ⟨Dn, its0, n0', rfl, rfl, frn, hi0⟩ := r
          have hi0 : its0 = #[] := Array.toList_eq_nil_iff.mp hi0
          subst hi0
          refine ⟨Db, ob, kb, EvV.name (by exact (hb2 _ (by decide)).trans k4) rfl, EvS.of (EvV.name (v := .str (st (s0 ++ [y])) t5) rfl rfl), List.mem_cons_of_mem _ m1, m2, kbl, fun o' ho' => ?_⟩
          obtain ⟨its1, n1, l1, l2⟩ := C9.tab.lists s0 hs0
          obtain ⟨C10, kp10⟩ := C9.spot (t := t5) (m := n1 + 1) (n0 := n0') hs0 hns gsp frn m3 ho' l1 l2
          have gs0 := C9.tab.good s0 hs0
          have hgy : Good y := (gsp.1 y (by simp)).1
          have hdir : pdir (st (s0 ++ [y])) = st s0 := pdir_st (fun g hg => (gs0.1 g hg).1) hgy
          have hsz : Sz (st (s0 ++ [y])) := st_len2 gsp
          have hval : valueAt (stored kb (st (s0 ++ [y])) (.ref Dn)) (st s0) = some (.ref (β2 s0)) := by rw [stored_absent hv0, valueAt_snoc, all2_val m2 m3 hs0]
          have hsz1 : its1.size ≤ 100000 := by
            have h1 := strs_len l2
            rw [List.length_map, Array.length_toList] at h1
            have := kidsS_len (S := S0) (s := s0)
            omega
          have mL : (β2 s0, PySem.W.listOf its1 n1) ∈ put ((Dn, PySem.W.listOf #[] n0') :: (I2, oI2) :: N2) Db o' := put_other (List.mem_cons_of_mem _ l1) (C9.tab.off s0 hs0).1
          have mB : (Db, o') ∈ put (put ((Dn, PySem.W.listOf #[] n0') :: (I2, oI2) :: N2) Db o') (β2 s0) (PySem.W.listOf its1 n1) := put_other put_self (Ne.symm (C9.tab.off s0 hs0).1)
          refine Exs.cons (Js.drop (N₂ := put (put ((Dn, PySem.W.listOf #[] n0') :: (I2, oI2) :: N2) Db o') (β2 s0) (PySem.W.listOf its1 n1)) (Ex.append (D := β2 s0) (its := its1) (n := n1) (EvV.getD (k := st s0) (kvs := stored kb (st (s0 ++ [y])) (.ref Dn)) (EvV.name (by exact (hb2 _ (by decide)).trans k4) rfl) (EvS.is (EvS.call1 (g_dirname _) (fun t => c_dirname _ _ t hsz (phead_ne hgy)) (EvS.of (EvV.name (v := .str (st (s0 ++ [y])) t5) rfl rfl)) rfl rfl rfl) hdir) ⟨C9.tab.sys.1, o', .inl mB, ho'⟩ hval) put_self (EvV.name (v := .str (st (s0 ++ [y])) t5) rfl rfl) hsz1 (fun v N₁ r => ?_) ⟨_, rfl⟩ rfl rfl) (put_sub mL))
          obtain ⟨rfl, rfl⟩ := r
          obtain ⟨q1, q2, q3⟩ := C8.fresh off2
          have hI10 := kp10 _ List.mem_cons_self nbI
          have hc10 := (kp10 _ (List.mem_cons_of_mem _ mC10) C9.cbel).1
          refine ⟨_, .head put_off, Exs.nil (Exs.nil ⟨(put (put ((Dn, PySem.W.listOf #[] n0') :: (I2, oI2) :: N2) Db o') (β2 s0) (PySem.W.listOf (its1.push (.str (st (s0 ++ [y])) t5)) (n1 + 1))).filter fun q => !(q.1 == I2), fun q hq => ?_, fun q hq => ?_, setA β2 (s0 ++ [y]) Dn, ?_, List.mem_filter.mpr ⟨hc10, by simpa using Ne.symm q3⟩, fun y' hy' => (bset y' hy').trans (hb2 y' hy')⟩)⟩
          · rcases List.mem_cons.mp hq with rfl | hq
            · exact hI10.1
            · exact (List.mem_filter.mp hq).1
          · have := (List.mem_filter.mp hq).2
            simpa using this
          · rw [hst, addAll_out hns]
            exact C10.out (I := I2) q1 hI10.2 q3 fun q hq => ⟨hq, off2 q (C8.z q hq).1⟩
        · have hs : s ∈ S0 := Classical.not_not.mp fun h => by rw [all2_novalue m3 C9.tab.good gsp h] at hin; simp at hin
          exact Exs.nil (Exs.nil ⟨N2, fun q hq => hq, off2, β2, by rw [hst, addAll_in hs]; exact C8, mC10, fun y hy => (bset y hy).trans (hb2 y hy)⟩)
      · rintro b2 N2 ⟨β2, C8, mC10, hb2⟩
        refine ⟨rfl, ?_⟩
        have e : sp.take sits.toList.length = sp := by rw [hsp, List.take_length]
        rw [e, hsis] at C8
        by_cases h3 : kk = 3
        · subst h3
          obtain ⟨n', hn'⟩ : ∃ n, p.length = n + 1 := by
            cases p with
            | nil => exact absurd (h0 rfl) (by decide)
            | cons a r => exact ⟨_, rfl⟩
          have hR3 := (let_parts hlet).2.2 rfl
          have hcnt : cntB (rowsN rows 3 p) p = 0 := by rw [cnt_new (fun h => absurd h (by decide)), cnt_R hR3, if_neg (fun h => absurd h.1 (by decide))]
          have hfb : fb (rowsN rows 3 p) p n' = fb rows p n' := fb_new (by omega) fun h => absurd h (by decide)
          have hlast : sp.getLast? = some (fb rows p n') := by rw [hspd, spots_last hn' hcnt, hfb]
          obtain ⟨t6, hback⟩ := strs_back hsits (x := st (fb rows p n')) (by rw [List.getLast?_map, hlast]; rfl)
          have gsf : GoodS (fb rows p n') := hgs _ (List.mem_of_getLast? hlast)
          obtain ⟨hno, hX⟩ := txt_more (t := tp) P.txt P.live (by omega) hn' hlet C.tab.good gsf
          obtain ⟨ot, m1, m2⟩ := C8.tab.tx
          refine ExsT.ite (p := true) (Jd.is (Tr.eqI (EvI.of (EvV.name (v := .int ((3 : Nat) : Int) tk) (by exact (hb2 _ (by decide)).trans k6) rfl)) EvI.lit) (show _ = true from rfl)) ?_
          refine ExsT.step (Ex.setD (k := st (fb rows p n')) (R := Is N2 (.str (pt p) tp)) (EvV.cell (c := c.L + 1) rfl mC10 hd1 rfl) (fun v N₁ r => ?_) rfl)
          obtain ⟨rfl, rfl⟩ := r
          refine ⟨Dt, ot, kt, EvV.name (by exact (hb2 _ (by decide)).trans k5) rfl, EvS.of (EvV.last (EvV.name (v := .ref Sp) (by exact (hb2 _ (by decide)).trans k7) rfl) (EvI.neg EvI.lit) (C8.z _ zS).1 hback), m1, m2, by have := P.b5; omega, fun o' ho' => ⟨rfl, ?_⟩⟩
          rw [stored_absent hno] at ho'
          have C9 := C8.text ho'
          have hpn := plain_let (h' := h) P C.wf hi hp2 (by have := P.b2; omega) hlet h0 hlen' hX (by have := P.b5; simp; omega)
          exact ExsT.nil (ExsT.nil (ExsT.nil (run_fin (Z := (Dk, PySem.W.listOf its nk) :: (E, tupO [.int ((3 : Nat) : Int) tE, .str (pt p) uE]) :: Z) hpn C9 zI2 zK (List.mem_cons_of_mem _ (List.mem_cons_of_mem _ z1)) (List.mem_cons_of_mem _ (List.mem_cons_of_mem _ z2)) (List.mem_cons_of_mem _ (List.mem_cons_of_mem _ z3)) (by rw [hroot]; exact g1) g2' g3 List.mem_cons_self ⟨rfl, nk, by simp [PySem.W.listOf]⟩ (fun q hq => by
            rcases List.mem_cons.mp hq with rfl | hq
            · exact List.mem_cons_of_mem _ List.mem_cons_self
            · exact List.mem_cons_of_mem _ (List.mem_cons_of_mem _ (hc2 _ hq))) hrows (by exact (hb2 _ (by decide)).trans k1) (by exact (hb2 _ (by decide)).trans k2) (by exact (hb2 _ (by decide)).trans k3) (by exact (hb2 _ (by decide)).trans k4) (by exact (hb2 _ (by decide)).trans k5))))
        · have e3 : ((kk : Int) == 3) = false := by simp; omega
          refine ExsT.ite (Jd.is (Tr.eqI (EvI.of (EvV.name (v := .int (kk : Int) tk) (by exact (hb2 _ (by decide)).trans k6) rfl)) EvI.lit) e3) ?_
          refine ExsT.asV (EvV.cell (c := c.L + 1) rfl mC10 hd1 rfl) ?_ rfl rfl
          have hpn := plain_let (h' := p) P C.wf hi hp2 hp2 hlet h0 hlen' (txt_same P.txt P.live (by omega) h0 hlet h3) (Nat.le_succ_of_le P.b5)
          exact ExsT.nil (ExsT.nil (ExsT.nil (run_fin (Z := (Dk, PySem.W.listOf its nk) :: (E, tupO [.int (kk : Int) tE, .str (pt p) uE]) :: Z) hpn C8 zI2 zK (List.mem_cons_of_mem _ (List.mem_cons_of_mem _ z1)) (List.mem_cons_of_mem _ (List.mem_cons_of_mem _ z2)) (List.mem_cons_of_mem _ (List.mem_cons_of_mem _ z3)) (by rw [hroot]; exact g1) g2' g3 List.mem_cons_self ⟨rfl, nk, by simp [PySem.W.listOf]⟩ (fun q hq => by
            rcases List.mem_cons.mp hq with rfl | hq
            · exact List.mem_cons_of_mem _ List.mem_cons_self
            · exact List.mem_cons_of_mem _ (List.mem_cons_of_mem _ (hc2 _ hq))) hrows (by exact (hb2 _ (by decide)).trans k1) rfl (by exact (hb2 _ (by decide)).trans k3) (by exact (hb2 _ (by decide)).trans k4) (by exact (hb2 _ (by decide)).trans k5))))
  · rintro b' N' g T ⟨h, rows, M, α, β, x, dx, Db, Dt, Dc, kt, Z, t, es, n, sl, oc, vs, ro, P, C, z1, z2, z3, g1, g2, g3, z4, hc1, hc2, hc3, b1, b2, b3, b4, b5⟩
    obtain ⟨ob', kb, hob1, hob2, hob3⟩ := C.tab.dict
    obtain ⟨ot', hot1, hot2⟩ := C.tab.tx
    have ck := cls_ok c.w
    have hsame : Same c.w N' kb kt 101 (.ref (α [])) [] := same_of C.tree C.wf C.tab P.txt hob2 hob3 (by have := P.b4; have := hds.len; omega) 101 [] _ (by unfold Val; rw [C.wf.root]) (Nat.le_refl _)
    have hst0 : st [] = Str.ofString "/" := pt_nil
    have cs := fun t => c_same c.w Db Dt ob' ot' N' kb kt hob2 hot2 C.tab.sys.1 C.tab.sys.2 101 (.ref (α [])) [] t hsame
    rw [hst0] at cs
    refine JsT.of (Exs.ret (R := fun v N' => v = .bool true) (Ev.call (g_law_same _) (RA := fun us N₁ => (∃ t, us = [.ref (α []), .str (Str.ofString "/") t, .ref Db, .ref Dt]) ∧ N₁ = N') ?_ (fun us N₁ r => ?_) rfl ⟨pe_attr, pe_const, pe_name, pe_name, trivial⟩ rfl) fun v N₁ r => ⟨_, rfl, r⟩)
    · refine Ags.cons (EvV.attr (EvV.name (by exact b1) rfl) (C.z _ z2).1 (C.z _ z3).1 ck.d1 ck.d2 ck.d3 ck.d4 g1 rfl) fun v N₁ r => ?_
      obtain ⟨rfl, rfl⟩ := r
      refine Ags.cons EvS.lit fun v N₁ r => ?_
      obtain ⟨⟨t1, rfl⟩, rfl⟩ := r
      refine Ags.cons (EvV.name (by exact b4) rfl) fun v N₁ r => ?_
      obtain ⟨rfl, rfl⟩ := r
      refine Ags.cons (EvV.name (by exact b5) rfl) fun v N₁ r => Ags.nil.mono fun us N₂ r₂ => ?_
      obtain ⟨rfl, rfl⟩ := r
      obtain ⟨rfl, rfl⟩ := r₂
      exact ⟨⟨t1, rfl⟩, rfl⟩
    · obtain ⟨⟨t1, rfl⟩, rfl⟩ := r
      refine ⟨_, _, _, cs t1, Nat.le_of_ble_eq_true rfl, fun q hq => .inl ?_, fun r nw ap h => h.1⟩
      rcases List.mem_cons.mp hq with rfl | hq
      · exact hob1
      rcases List.mem_cons.mp hq with rfl | hq
      · exact hot1
      · exact hq
end Mine
end
section
open PySem PySem.W PyProof.Rows PySem.Calls
set_option Elab.async false
set_option maxRecDepth 100000
set_option maxHeartbeats 4000000
set_option linter.unusedVariables false
set_option rowWalk.seconds 0
namespace Mine
local macro_rules
  | `(tactic| k_qdec) => `(tactic| decide +kernel)
theorem law_holds : PySem.Challenge.rw_in0109_01.Holds := by
  refine Mine.hd ?_
  w_strict (k_go0; (all_goals try k_fold); (refine law_bridge (by assumption) (by assumption) (by assumption) (fun c hcw hcg => ?hl) (fun h' tk m' F => ?hq) PassesOwn.leaving))
  case hq => exact goodW_bool F (by assumption) (raisesW_false (by wrow_none_raised)) (by wrow_post)
  case hl =>
    rename_i l vs as hL ra w1 r0 hI hr hcond hcond2 K0 hD h1 F1 N0
    subst hcw
    rw [← hcg] at hL
    obtain ⟨ns, hI, hn⟩ : ∃ ns, IntsAre vs ns ∧ ns.length ≤ 63 := ⟨_, hI, by omega⟩
    clear ra w1 r0 hr hcond hcond2 K0 hD F1 N0
    have hvl := ints_len hI
    obtain ⟨ol, hol1, hol2, hol3⟩ := hL
    have it := ints_take 8 hI
    obtain ⟨nn, hnn⟩ : ∃ nn : List Nat, nn = (ns.take 8).map fun x => x.natAbs % 32 := ⟨_, rfl⟩
    have hnl : nn.length = (vs.take 8).length := by rw [hnn, List.length_map, ints_len it]
    have hz8 : (vs.take 8).length ≤ 8 := by simp; omega
    refine ExsT.asg (R := fun v N' => ∃ D its n, v = .ref D ∧ (D, PySem.W.listOf its n) ∈ N' ∧ All2 (fun v (x : Nat) => ∃ t, v = .int (x : Int) t) its.toList (2 :: 7 :: nn))
      (Ev.bin (R₁ := fun v N₁ => ∃ D2 its2 n2, v = .ref D2 ∧ N₁ = [(D2, PySem.W.listOf its2 n2)] ∧ ∃ t u, its2.toList = [.int 2 t, .int 7 u]) (Ev.lst (RA := fun us N₁ => (∃ t u, us = [.int 2 t, .int 7 u]) ∧ N₁ = []) (Ags.cons EvI.lit fun v N₁ r => ?_) fun us N₁ r => ?_) fun v N₁ r => ?_) (fun v N' r => ?_) rfl rfl
    · obtain ⟨⟨t, rfl⟩, rfl⟩ := r
      refine Ags.cons EvI.lit fun v N₁ r => Ags.nil.mono fun us N₂ r₂ => ?_
      obtain ⟨⟨u, rfl⟩, rfl⟩ := r
      obtain ⟨rfl, rfl⟩ := r₂
      exact ⟨⟨t, u, rfl⟩, rfl⟩
    · obtain ⟨⟨t, u, rfl⟩, rfl⟩ := r
      exact (jd_newList (Nat.le_of_ble_eq_true rfl)).mono fun v N₂ r => by
        obtain ⟨D2, its2, n2, e1, e2, _, e3⟩ := r
        exact ⟨D2, its2, n2, e1, e2, t, u, e3⟩
    · obtain ⟨D2, its2, n2, rfl, rfl, t, u, e3⟩ := r
      refine Ev.mono (R := fun v N₂ => ∃ D3 ys N₁, v = .ref D3 ∧ N₂ = (D3, lsO ys) :: N₁ ∧ All2 (fun v (x : Nat) => ∃ t, v = .int (x : Int) t) ys nn ∧ (D2, PySem.W.listOf its2 n2) ∈ N₁) (Ev.lcompX (Fin := fun ys N₁ => All2 (fun v (x : Nat) => ∃ t, v = .int (x : Int) t) ys nn ∧ (D2, PySem.W.listOf its2 n2) ∈ N₁) (SrcX.seq (Ψ := fun n P Sa N₁ => ∃ ws, n = ws.length ∧ P = SeqP ws ∧ ws = vs.take 8 ∧ (D2, PySem.W.listOf its2 n2) ∈ N₁) (Ev.mono (Ev.uptoL (i := 8) (vs := vs) (D := l) (EvV.name rfl rfl) ⟨ol, .inr hol1, hol2, hol3⟩ (by omega) EvI.lit (fun _ _ => rfl)) fun v N₁ r => ?_)) (fun n Pq Sa N₁ r => ?_) (fun Dn ys N₁ off r => ?_) rfl rfl (fun _ => rfl)) fun v N₂ r => ?_
      · obtain ⟨Dw, its, n, rfl, rfl, _, hw⟩ := r
        exact ⟨Dw, _, its.toList, rfl, .inl List.mem_cons_self, ⟨.inl rfl, n, by simp [PySem.W.listOf]⟩, its.toList, rfl, rfl, hw, List.mem_cons_of_mem _ List.mem_cons_self⟩
      · obtain ⟨ws, rfl, rfl, rfl, hm⟩ := r
        refine ⟨_, fun i ys N' => N' = N₁ ∧ All2 (fun v (x : Nat) => ∃ t, v = .int (x : Int) t) ys (nn.take i), ⟨rfl, .nil⟩, by omega, fun C => Takes.name (VP := fun i v => (vs.take 8)[i]? = some v) (fun i v hp h => h) rfl rfl, map_turn hnl.symm (fun j y m X Wl C oC hr hV TT => ?_), fun ys N' j => ?_⟩
        · obtain ⟨u, em, eu⟩ := hV
          rw [hnn, List.getElem?_map] at hr
          cases hq : (ns.take 8)[j]? with
          | none => rw [hq] at hr; cases hr
          | some z =>
            rw [hq] at hr
            obtain rfl := Option.some.inj hr
            obtain ⟨t3, e4⟩ := ints_get it hq
            rw [eu] at e4
            obtain rfl := Option.some.inj e4
            refine (EvI.bin (EvI.abs (b_abs _) (EvI.of (EvV.cn TT (fun q hq => List.mem_append_left _ hq) em rfl)) rfl) EvI.lit (jd_modI (by decide))).jd.mono fun v N₃ q => ?_
            obtain ⟨⟨t4, rfl⟩, rfl⟩ := q
            exact ⟨fun _ h => h, t4, by rw [abs32]⟩
        · obtain ⟨rfl, hA⟩ := j
          rw [← hnl, List.take_length] at hA
          exact ⟨hA, hm⟩
      · exact ⟨Dn, ys, N₁, rfl, rfl, r.1, r.2⟩
      · obtain ⟨D3, ys, N₁, rfl, rfl, hys, hm⟩ := r
        have hyl := hys.len
        refine (jd_addL (xs := its2.toList) (ws := ys) (atL_own (List.mem_cons_of_mem _ hm)) (atL_lst List.mem_cons_self) (by rw [e3]; simp; omega)).mono fun v N₃ q => ?_
        obtain ⟨D4, its4, n4, rfl, rfl, _, e4⟩ := q
        refine ⟨D4, its4, n4, rfl, List.mem_cons_self, ?_⟩
        rw [e4, e3]
        exact .cons ⟨t, rfl⟩ (.cons ⟨u, rfl⟩ hys)
    · obtain ⟨D, its, n, rfl, hD, hds⟩ := r
      refine ExsT.retCall (dz := 121) (g_law_run _) (Ags.oneV (EvV.name (v := .ref D) rfl rfl)) (fun us N₁ q => ?_) (Nat.le_of_ble_eq_true rfl) (fun g v N₂ q => ⟨v, rfl, q⟩) rfl ⟨pe_name, trivial⟩ rfl
      obtain ⟨rfl, rfl⟩ := q
      refine c_run _ N₁ D _ its.toList (2 :: 7 :: nn) hD ⟨rfl, n, by simp [PySem.W.listOf]⟩ hds (fun x hx => ?_) (by simp; omega)
      rcases List.mem_cons.mp hx with rfl | hx
      · decide
      rcases List.mem_cons.mp hx with rfl | hx
      · decide
      · rw [hnn] at hx
        obtain ⟨z, _, rfl⟩ := List.mem_map.mp hx
        exact Nat.mod_lt _ (by decide)
end Mine
end
set_option maxRecDepth 100000 in
set_option maxHeartbeats 8000000 in
theorem PySem.Challenge.cw_in0109_01_holds : PySem.Challenge.rw_in0109_01.Holds := by
  exact Mine.law_holds
