import PyProof.Rows.All
import Wide.All
import OpenK.AllK
import Wide.FinOn
import PySem.Challenge.RW_of0001_01
open PySem PySem.W PyProof.Rows PySem.Calls
set_option Elab.async false
set_option maxRecDepth 100000
set_option maxHeartbeats 4000000
namespace Mine
abbrev P0 : Program := PySem.Challenge.pw_of0001_01

def nth : Nat → List Stmt → Stmt
  | _, [] => .Pass ⟨0, 0, 0, 0⟩
  | 0, a :: _ => a
  | n + 1, _ :: r => nth n r
def fnArgs : Stmt → Arguments
  | .FunctionDef _ a _ _ _ _ _ _ _ _ => a
  | _ => ⟨[], [], none, [], [], none, []⟩
def fnBody : Stmt → List Stmt
  | .FunctionDef _ _ b _ _ _ _ _ _ _ => b
  | _ => []
def fnScope : Stmt → Scope
  | .FunctionDef _ _ _ _ _ _ sc _ _ _ => sc
  | _ => default
def stt (i : Nat) : Stmt := nth i P0.main.body
def stmtVal : Stmt → PySem.Expr
  | .Assign _ e _ => e
  | .If t _ _ _ => t
  | .Return (some e) _ => e
  | _ => .Constant .none 0 ⟨0, 0, 0, 0⟩
/-- the ints of the list that is a call's argument behind the first two -/
def argInts : PySem.Expr → List Int
  | .Call _ (_ :: _ :: .List es _ :: _) _ _ => es.map fun e => match e with | .Constant (.int i) _ _ => i | _ => 0
  | _ => []
/-- the compiled pattern's words -/
def cI : List Int := argInts (stmtVal (stt 5))
/-- the made function of the i-th statement -/
def fd (i : Nat) (name : Str) (pm : Value) (c : Addr) : FuncData :=
  { name := name, qualname := name, params := fnArgs (stt i), body := .stmts (fnBody (stt i)), scope := fnScope (stt i), globals := 3, closure := [], defaults := .none, kwdefaults := .none, pyModule := pm, code := .ref c }
def fobj (i : Nat) (name : Str) (pm : Value) (c : Addr) : Obj := { cls := .type "function", data := .func (fd i name pm c) }

abbrev fdDec := fd 3 "decode_rfc2231" (.str "cpy313.email.utils" 282) 37
abbrev fdJoin := fd 6 "join" (.str "cpy313.shlex" 294) 49
abbrev fdQuote := fd 8 "quote" (.str "cpy313.shlex" 294) 57
abbrev fdParted := fd 10 "_law_parted" (.str "law_of0001_01" 352) 62
abbrev fdWritten := fd 11 "_law_written" (.str "law_of0001_01" 352) 67
abbrev fdQuoted := fd 12 "_law_quoted" (.str "law_of0001_01" 352) 72

/-- what the top left, as far as the call reads it -/
structure Wd (mg mb : Str → Option Value) (h : Heap) : Prop where
  g : h.Ns mainGlobals mg
  b : h.Ns builtinsNs mb
  lim : h.NoLimit
  bi : ∀ x : Str, x ≠ "__name__" → mb x = bootBuiltins x
  gLen : mg "len" = none
  gRange : mg "range" = none
  gTick : ∃ t, mg "TICK" = some (.str "'" t)
  gDec : mg "decode_rfc2231" = some (.ref 38)
  gJoin : mg "join" = some (.ref 50)
  gFind : mg "_find_unsafe" = some (.ref 51)
  gQuote : mg "quote" = some (.ref 58)
  gParted : mg "_law_parted" = some (.ref 63)
  gWritten : mg "_law_written" = some (.ref 68)
  gQuoted : mg "_law_quoted" = some (.ref 73)
  oDec : h.get? 38 = some { cls := .type "function", data := .func fdDec }
  oJoin : h.get? 50 = some { cls := .type "function", data := .func fdJoin }
  oQuote : h.get? 58 = some { cls := .type "function", data := .func fdQuote }
  oParted : h.get? 63 = some { cls := .type "function", data := .func fdParted }
  oWritten : h.get? 68 = some { cls := .type "function", data := .func fdWritten }
  oQuoted : h.get? 73 = some { cls := .type "function", data := .func fdQuoted }
  cDec : h.CodeRec (.ref 37) "decode_rfc2231"
  cJoin : h.CodeRec (.ref 49) "join"
  cQuote : h.CodeRec (.ref 57) "quote"
  cParted : h.CodeRec (.ref 62) "_law_parted"
  cWritten : h.CodeRec (.ref 67) "_law_written"
  cQuoted : h.CodeRec (.ref 72) "_law_quoted"
  gB : mg "__builtins__" = some (.ref 4)
  oB : ∃ ob, h.get? 4 = some ob ∧ ob.cls = .type "module" ∧ ob.dict = some builtinsNs ∧ ob.data = .plain
  oFind : h.get? 51 = some { cls := .type "builtin_function_or_method", data := .fields #[.builtin "re.Pattern.search", .ref 43] }
  oPat : ∃ t u, h.get? 43 = some { cls := .type "re.Pattern", data := .fields #[t, u, .int 0 0, .none, .none, .ref 42, .int 0 0] }
  oCode : h.get? 42 = some { cls := .type "tuple", data := .seq (cI.map fun i => Value.int i 0).toArray }

/-- all but the table of join's own blocks stands -/
theorem Wd.but {mg mb : Str → Option Value} {h h' : Heap} (W : Wd mg mb h) (k : ∀ b o, b ≠ 45 → h.get? b = some o → h'.get? b = some o) : Wd mg mb h' where
  g := W.g.at' fun o e => k _ o (by decide) e
  b := W.b.at' fun o e => k _ o (by decide) e
  lim := let ⟨mc, hn, e⟩ := W.lim; ⟨mc, hn.at' fun o e => k _ o (by decide) e, e⟩
  bi := W.bi
  gLen := W.gLen
  gRange := W.gRange
  gTick := W.gTick
  gDec := W.gDec
  gJoin := W.gJoin
  gFind := W.gFind
  gQuote := W.gQuote
  gParted := W.gParted
  gWritten := W.gWritten
  gQuoted := W.gQuoted
  oDec := k _ _ (by decide) W.oDec
  oJoin := k _ _ (by decide) W.oJoin
  oQuote := k _ _ (by decide) W.oQuote
  oParted := k _ _ (by decide) W.oParted
  oWritten := k _ _ (by decide) W.oWritten
  oQuoted := k _ _ (by decide) W.oQuoted
  cDec := let ⟨c, o, vs, t, e, ho, r⟩ := W.cDec; ⟨c, o, vs, t, e, k _ _ (by cases e; decide) ho, r⟩
  cJoin := let ⟨c, o, vs, t, e, ho, r⟩ := W.cJoin; ⟨c, o, vs, t, e, k _ _ (by cases e; decide) ho, r⟩
  cQuote := let ⟨c, o, vs, t, e, ho, r⟩ := W.cQuote; ⟨c, o, vs, t, e, k _ _ (by cases e; decide) ho, r⟩
  cParted := let ⟨c, o, vs, t, e, ho, r⟩ := W.cParted; ⟨c, o, vs, t, e, k _ _ (by cases e; decide) ho, r⟩
  cWritten := let ⟨c, o, vs, t, e, ho, r⟩ := W.cWritten; ⟨c, o, vs, t, e, k _ _ (by cases e; decide) ho, r⟩
  cQuoted := let ⟨c, o, vs, t, e, ho, r⟩ := W.cQuoted; ⟨c, o, vs, t, e, k _ _ (by cases e; decide) ho, r⟩
  oFind := k _ _ (by decide) W.oFind
  oPat := let ⟨t, u, e⟩ := W.oPat; ⟨t, u, k _ _ (by decide) e⟩
  gB := W.gB
  oB := let ⟨ob, e, r⟩ := W.oB; ⟨ob, k _ _ (by decide) e, r⟩
  oCode := k _ _ (by decide) W.oCode
theorem Wd.keeps {mg mb : Str → Option Value} {h h' : Heap} (W : Wd mg mb h) (k : ∀ b o, h.get? b = some o → h'.get? b = some o) : Wd mg mb h' := W.but fun b o _ e => k b o e
end Mine

namespace Mine
abbrev Ext (h h' : Heap) : Prop := ∀ b o, h.get? b = some o → h'.get? b = some o
theorem Ext.refl (h : Heap) : Ext h h := fun _ _ e => e
theorem Ext.trans {a b c : Heap} (x : Ext a b) (y : Ext b c) : Ext a c := fun p o e => y p o (x p o e)
theorem Ext.push (h : Heap) (o : Obj) : Ext h (h.push o) := fun _ _ e => Heap.get?_push_of_some _ e
theorem size_fresh {h : Heap} : h.get? h.objs.size = none := by
  cases e : h.get? h.objs.size with
  | none => rfl
  | some o => exact absurd (Heap.lt_size e) (Nat.lt_irrefl _)
theorem Ext.fresh {h h' : Heap} (x : Ext h h') {a : Addr} (e : h'.get? a = none) : h.get? a = none := by
  cases q : h.get? a with
  | none => rfl
  | some o => rw [x a o q] at e; cases e

/-- the tree ends well, only adds to the heap, and its value is as R says -/
def Ok {α : Type} (prog : Program) (w : World) (A : Around) (t : Sem α) (h : Heap) (R : α → Heap → Prop) : Prop :=
  ∀ (s : Shared) (E : Value → Shared → Prop) (Q : α → Shared → Prop), s.heap = h → 1 ≤ s.toks →
    (∀ a h' tk, 1 ≤ tk → Ext h h' → R a h' → Q a { s with heap := h', toks := tk }) → wpAny (model prog w) A t Q E s

section
variable {prog : Program} {w : World} {A : Around} {α β : Type} {h : Heap} {env : Env}

theorem Ok.pure {a : α} {R : α → Heap → Prop} (hr : R a h) : Ok prog w A (pure a) h R := by
  intro s E Q hh ht hQ; subst hh; exact wpAny_pure (hQ a s.heap s.toks ht (Ext.refl _) hr)
theorem Ok.mono {t : Sem α} {R R' : α → Heap → Prop} (x : Ok prog w A t h R) (f : ∀ a h', Ext h h' → R a h' → R' a h') : Ok prog w A t h R' := by
  intro s E Q hh ht hQ; exact x s E Q hh ht fun a h' tk h1 e r => hQ a h' tk h1 e (f a h' e r)
theorem Ok.bind {m : Sem α} {f : α → Sem β} {R : α → Heap → Prop} {R' : β → Heap → Prop} (x : Ok prog w A m h R) (y : ∀ a h₁, Ext h h₁ → R a h₁ → Ok prog w A (f a) h₁ R') : Ok prog w A (m >>= f) h R' := by
  intro s E Q hh ht hQ
  exact wpAny_bind (x s E _ hh ht fun a h₁ tk h1 e r => y a h₁ e r _ E Q rfl h1 fun b h₂ tk₂ h2 e₂ r₂ => hQ b h₂ tk₂ h2 (e.trans e₂) r₂)
/-- a rule of the library for one value that a tree asks first -/
theorem Ok.via {t : Sem β} {m : Sem α} {f : α → Sem β} {R : α → Heap → Prop} {R' : β → Heap → Prop}
    (rule : ∀ (s : Shared) (E : Value → Shared → Prop) (Q : β → Shared → Prop), wpAny (model prog w) A m (fun a s₁ => wpAny (model prog w) A (f a) Q E s₁) E s → wpAny (model prog w) A t Q E s)
    (x : Ok prog w A m h R) (y : ∀ a h₁, Ext h h₁ → R a h₁ → Ok prog w A (f a) h₁ R') : Ok prog w A t h R' := by
  intro s E Q hh ht hQ
  exact rule s E Q (x s E _ hh ht fun a h₁ tk h1 e r => y a h₁ e r _ E Q rfl h1 fun b h₂ tk₂ h2 e₂ r₂ => hQ b h₂ tk₂ h2 (e.trans e₂) r₂)
theorem Ok.via2 {γ : Type} {t : Sem γ} {m : Sem α} {n : α → Sem β} {f : α → β → Sem γ} {R : α → Heap → Prop} {R₁ : α → β → Heap → Prop} {R' : γ → Heap → Prop}
    (rule : ∀ (s : Shared) (E : Value → Shared → Prop) (Q : γ → Shared → Prop), wpAny (model prog w) A m (fun a s₁ => wpAny (model prog w) A (n a) (fun b s₂ => wpAny (model prog w) A (f a b) Q E s₂) E s₁) E s → wpAny (model prog w) A t Q E s)
    (x : Ok prog w A m h R) (y : ∀ a h₁, Ext h h₁ → R a h₁ → Ok prog w A (n a) h₁ (R₁ a)) (z : ∀ a b h₁ h₂, Ext h h₁ → Ext h₁ h₂ → R a h₁ → R₁ a b h₂ → Ok prog w A (f a b) h₂ R') : Ok prog w A t h R' := by
  intro s E Q hh ht hQ
  exact rule s E Q (x s E _ hh ht fun a h₁ tk h1 e r => y a h₁ e r _ E _ rfl h1 fun b h₂ tk₂ h2 e₂ r₂ => z a b h₁ h₂ e e₂ r r₂ _ E Q rfl h2 fun c h₃ tk₃ h3 e₃ r₃ => hQ c h₃ tk₃ h3 ((e.trans e₂).trans e₃) r₃)

theorem Ok.int {i : Int} {k : Nat} {pos : Pos} : Ok prog w A (eval (.Constant (.int i) k pos) env) h (fun v _ => ∃ t, v = .int i t) := by
  intro s E Q hh ht hQ; subst hh; exact wpAny_Constant_int (hQ _ s.heap (s.toks + 1) (by omega) (Ext.refl _) ⟨_, rfl⟩)
theorem Ok.str {x : Str} {k : Nat} {pos : Pos} : Ok prog w A (eval (.Constant (.str x) k pos) env) h (fun v _ => ∃ t, v = .str x t) := by
  intro s E Q hh ht hQ; subst hh; exact wpAny_Constant_str (hQ _ s.heap (s.toks + 1) (by omega) (Ext.refl _) ⟨_, rfl⟩)
theorem Ok.none {k : Nat} {pos : Pos} : Ok prog w A (eval (.Constant .none k pos) env) h (fun v _ => v = .none) := by
  intro s E Q hh ht hQ; subst hh; exact wpAny_Constant_none (hQ _ s.heap s.toks ht (Ext.refl _) rfl)
theorem Ok.local {x : Str} {pos : Pos} {m : Str → Option Value} {v : Value} (hk : env.scope.kind = .function) (hl : env.kindOf x = some .local) (hn : h.Ns env.locals m) (hv : m x = some v)
    (hd : (x == ("__debug__" : Str)) = false := by decide) : Ok prog w A (eval (.Name x pos) env) h (fun a _ => a = v) := by
  intro s E Q hh ht hQ; subst hh; exact wpAny_Name (wpAny_loadName_local hk hl hn hv (hQ _ s.heap s.toks ht (Ext.refl _) rfl)) hd
theorem Ok.cell {x : Str} {pos : Pos} {c : Addr} {v : Value} (hk : env.scope.kind = .function) (hl : env.kindOf x = some .cell) (hc : env.cells.lookup x = some c) (hv : h.IsCell c (some v))
    (hd : (x == ("__debug__" : Str)) = false := by decide) : Ok prog w A (eval (.Name x pos) env) h (fun a _ => a = v) := by
  intro s E Q hh ht hQ; subst hh; exact wpAny_Name (wpAny_loadName_cell hk hl hc hv (hQ _ s.heap s.toks ht (Ext.refl _) rfl)) hd
theorem Ok.free {x : Str} {pos : Pos} {c : Addr} {v : Value} (hk : env.scope.kind = .function) (hl : env.kindOf x = some .free) (hc : env.cells.lookup x = some c) (hv : h.IsCell c (some v))
    (hd : (x == ("__debug__" : Str)) = false := by decide) (hn : (x == ("__classdict__" : Str)) = false := by decide) : Ok prog w A (eval (.Name x pos) env) h (fun a _ => a = v) := by
  intro s E Q hh ht hQ; subst hh; exact wpAny_Name (wpAny_loadName_free hk hl hc hv (hQ _ s.heap s.toks ht (Ext.refl _) rfl) hn) hd
theorem Ok.global {x : Str} {pos : Pos} {mg : Str → Option Value} {v : Value} (hk : env.scope.kind = .function) (hx : env.kindOf x = some .globalImplicit) (hg : h.Ns env.globals mg) (hv : mg x = some v)
    (hd : (x == ("__debug__" : Str)) = false := by decide) : Ok prog w A (eval (.Name x pos) env) h (fun a _ => a = v) := by
  intro s E Q hh ht hQ; subst hh; exact Name_function_global hk hx (loadGlobal_global hg hv (hQ _ s.heap s.toks ht (Ext.refl _) rfl)) hd
theorem Ok.builtin {x : Str} {pos : Pos} {mg mb : Str → Option Value} {v : Value} (hk : env.scope.kind = .function) (hx : env.kindOf x = some .globalImplicit) (hg : h.Ns env.globals mg) (hv : mg x = Option.none)
    (hb : h.Ns env.builtins mb) (hbv : mb x = some v) (hd : (x == ("__debug__" : Str)) = false := by decide) : Ok prog w A (eval (.Name x pos) env) h (fun a _ => a = v) := by
  intro s E Q hh ht hQ; subst hh; exact Name_function_global hk hx (loadGlobal_builtin hg hv hb hbv (hQ _ s.heap s.toks ht (Ext.refl _) rfl)) hd

-- arguments
theorem Ok.args0 {pos : Pos} : Ok prog w A (spliced (backTo pos (starEach [] env))) h (fun vs _ => vs = []) := by
  intro s E Q hh ht hQ; subst hh; exact spliced_none (hQ _ s.heap s.toks ht (Ext.refl _) rfl)
theorem Ok.argsC {e : PySem.Expr} {rest : List PySem.Expr} {pos : Pos} {R : Value → Heap → Prop} {R' : List Value → Heap → Prop} (he : starEach (e :: rest) env = (false, eval e env) :: starEach rest env)
    (x : Ok prog w A (eval e env) h R) (y : ∀ v h₁, Ext h h₁ → R v h₁ → Ok prog w A (spliced (backTo pos (starEach rest env))) h₁ (fun vs h₂ => R' (v :: vs) h₂)) :
    Ok prog w A (spliced (backTo pos (starEach (e :: rest) env))) h R' := by
  intro s E Q hh ht hQ
  exact spliced_more (x s E _ hh ht fun a h₁ tk h1 e r => y a h₁ e r _ E _ rfl h1 fun b h₂ tk₂ h2 e₂ r₂ => hQ (a :: b) h₂ tk₂ h2 (e.trans e₂) r₂) he
theorem Ok.args1 {e : PySem.Expr} {pos : Pos} {R : Value → Heap → Prop} (he : starEach [e] env = [(false, eval e env)]) (x : Ok prog w A (eval e env) h R) :
    Ok prog w A (spliced (backTo pos (starEach [e] env))) h (fun vs h₁ => ∃ v, vs = [v] ∧ R v h₁) :=
  Ok.argsC he x fun v h₁ _ r => by
    intro s E Q hh ht hQ; subst hh; exact spliced_none (hQ _ s.heap s.toks ht (Ext.refl _) ⟨v, rfl, r⟩)

-- calls
theorem Ok.callB {func e : PySem.Expr} {rest : List PySem.Expr} {pos : Pos} {id : String} {R : List Value → Heap → Prop} {R' : Value → Heap → Prop}
    (he : starEach (e :: rest) env = (false, eval e env) :: starEach rest env)
    (hf : Ok prog w A (eval func env) h (fun a _ => a = .builtin id)) (x : ∀ h₁, Ext h h₁ → Ok prog w A (spliced (backTo pos (starEach (e :: rest) env))) h₁ R)
    (y : ∀ vs h₁, Ext h h₁ → R vs h₁ → Ok prog w A (call (.builtin id) vs) h₁ R') (hpl : ((backTo pos (starEach rest env)).any fun x => x.fst) = false := by rfl)
    (hev : eval (.Call func (e :: rest) [] pos) env = (do callWith pos (← eval func env) [] (backTo pos (starEach (e :: rest) env)) (backToKw pos (keywordEach [] env))) := by rfl) :
    Ok prog w A (eval (.Call func (e :: rest) [] pos) env) h R' := by
  intro s E Q hh ht hQ
  refine Call_ (hf s E _ hh ht fun a h₁ tk h1 e₁ r => ?_) hev
  subst r
  exact callWith_builtin1 (x h₁ e₁ _ E _ rfl h1 fun vs h₂ tk₂ h2 e₂ r₂ => y vs h₂ (e₁.trans e₂) r₂ _ E Q rfl h2 fun c h₃ tk₃ h3 e₃ r₃ => hQ c h₃ tk₃ h3 ((e₁.trans e₂).trans e₃) r₃) he hpl
theorem Ok.callF {func e : PySem.Expr} {rest : List PySem.Expr} {pos : Pos} {f : Addr} {fd : FuncData} {o : Obj} {R : List Value → Heap → Prop} {R' : Value → Heap → Prop}
    (he : starEach (e :: rest) env = (false, eval e env) :: starEach rest env) (hdat : o.data = .func fd) (ho : h.get? f = some o)
    (hf : Ok prog w A (eval func env) h (fun a _ => a = .ref f)) (x : ∀ h₁, Ext h h₁ → Ok prog w A (spliced (backTo pos (starEach (e :: rest) env))) h₁ R)
    (y : ∀ vs h₁, Ext h h₁ → R vs h₁ → Ok prog w A (call (.ref f) vs) h₁ R')
    (hev : eval (.Call func (e :: rest) [] pos) env = (do callWith pos (← eval func env) [] (backTo pos (starEach (e :: rest) env)) (backToKw pos (keywordEach [] env))) := by rfl) :
    Ok prog w A (eval (.Call func (e :: rest) [] pos) env) h R' := by
  intro s E Q hh ht hQ
  refine Call_ (hf s E _ hh ht fun a h₁ tk h1 e₁ r => ?_) hev
  subst r
  exact callWith_def hdat (x h₁ e₁ _ E _ rfl h1 fun vs h₂ tk₂ h2 e₂ r₂ => ⟨e₂ _ _ (e₁ _ _ ho), y vs h₂ (e₁.trans e₂) r₂ _ E Q rfl h2 fun c h₃ tk₃ h3 e₃ r₃ => hQ c h₃ tk₃ h3 ((e₁.trans e₂).trans e₃) r₃⟩) he
theorem Ok.method {o e : PySem.Expr} {rest : List PySem.Expr} {name : Str} {apos pos : Pos} {pl : Sem Bool} {id : String} {first : List Value} {R : Value → Heap → Prop} {R₁ : List Value → Heap → Prop} {R' : Value → Heap → Prop}
    (he : starEach (e :: rest) env = (false, eval e env) :: starEach rest env)
    (ho : Ok prog w A (eval o env) h R) (hm : ∀ v h₁, Ext h h₁ → R v h₁ → Ok prog w A (getMethod v name pl) h₁ (fun fx _ => fx = (.builtin id, first)))
    (x : ∀ h₁, Ext h h₁ → Ok prog w A (spliced (backTo pos (starEach (e :: rest) env))) h₁ R₁)
    (y : ∀ vs h₁, Ext h h₁ → R₁ vs h₁ → Ok prog w A (call (.builtin id) (first ++ vs)) h₁ R') (hpl : ((backTo pos (starEach rest env)).any fun x => x.fst) = false := by rfl)
    (hev : eval (.Call (.Attribute o name apos) (e :: rest) [] pos) env = (do
      let ov ← eval o env
      standAt apos.atName
      let (f, first) ← holding [ov] (getMethod ov name pl)
      callWith pos f first (backTo pos (starEach (e :: rest) env)) []) := by rfl) :
    Ok prog w A (eval (.Call (.Attribute o name apos) (e :: rest) [] pos) env) h R' := by
  intro s E Q hh ht hQ
  refine MethodCall_ (pl := pl) (ho s E _ hh ht fun v h₁ tk h1 e₁ r => hm v h₁ e₁ r _ E _ rfl h1 fun fx h₂ tk₂ h2 e₂ r₂ => ?_) hev
  subst r₂
  exact callWith_method1 (x h₂ (e₁.trans e₂) _ E _ rfl h2 fun vs h₃ tk₃ h3 e₃ r₃ => y vs h₃ ((e₁.trans e₂).trans e₃) r₃ _ E Q rfl h3 fun c h₄ tk₄ h4 e₄ r₄ => hQ c h₄ tk₄ h4 (((e₁.trans e₂).trans e₃).trans e₄) r₄) he hpl

-- displays
theorem Ok.tuple {elts : List PySem.Expr} {k : Nat} {pos : Pos} {R : List Value → Heap → Prop} {R' : Value → Heap → Prop} (x : Ok prog w A (spliced (backTo pos (starEach elts env))) h R)
    (y : ∀ vs h₁, Ext h h₁ → R vs h₁ → vs.length ≤ sizeLine ∧ R' (.ref h₁.objs.size) (h₁.push { cls := .type "tuple", data := .seq vs.toArray })) : Ok prog w A (eval (.Tuple elts k pos) env) h R' := by
  intro s E Q hh ht hQ
  refine Tuple_ (x s E _ hh ht fun vs h₁ tk h1 e r => ?_)
  obtain ⟨hz, hr⟩ := y vs h₁ e r
  exact wpAny_newTuple (hQ _ _ tk h1 (e.trans (Ext.push _ _)) hr) hz
theorem Ok.list {elts : List PySem.Expr} {pos : Pos} {R : List Value → Heap → Prop} {R' : Value → Heap → Prop} (x : Ok prog w A (spliced (backTo pos (starEach elts env))) h R)
    (y : ∀ vs h₁, Ext h h₁ → R vs h₁ → vs.length ≤ sizeLine ∧ R' (.ref h₁.objs.size) (h₁.push { cls := .type "list", data := .seq vs.toArray })) : Ok prog w A (eval (.List elts pos) env) h R' := by
  intro s E Q hh ht hQ
  refine List_ (x s E _ hh ht fun vs h₁ tk h1 e r => ?_)
  obtain ⟨hz, hr⟩ := y vs h₁ e r
  exact wpAny_newList (hQ _ _ tk h1 (e.trans (Ext.push _ _)) hr) hz
end
end Mine

namespace Mine
/-- the block returns a value as R says; what stood in h₀ stands -/
def Run (prog : Program) (w : World) (A : Around) (t : Sem Flow) (h₀ h : Heap) (R : Value → Heap → Prop) : Prop :=
  ∀ (s : Shared) (E : Value → Shared → Prop) (Q : Flow → Shared → Prop), s.heap = h → 1 ≤ s.toks →
    (∀ v h' tk, 1 ≤ tk → Ext h₀ h' → R v h' → Q (.ret v) { s with heap := h', toks := tk }) → wpAny (model prog w) A t Q E s

section
variable {prog : Program} {w : World} {A : Around} {h₀ h : Heap} {env : Env} {L : Addr} {m : Str → Option Value} {R : Value → Heap → Prop}

theorem Run.ret {e : PySem.Expr} {pos : Pos} {rest : List Stmt} {R₁ : Value → Heap → Prop} (k : Ext h₀ h) (x : Ok prog w A (eval e env) h R₁) (f : ∀ v h₁, Ext h h₁ → R₁ v h₁ → R v h₁) : Run prog w A (execs (.Return (some e) pos :: rest) env) h₀ h R := by
  intro s E Q hh ht hQ
  exact wpAny_execs_cons (wpAny_Return_some (x s E _ hh ht fun v h₁ tk h1 e₁ r => hQ v h₁ tk h1 (k.trans e₁) (f v h₁ e₁ r)))
theorem Run.ifs {test : PySem.Expr} {body rest : List Stmt} {pos : Pos} {R₁ : Bool → Heap → Prop} (x : Ok prog w A (isTrue test env (eval test env)) h R₁)
    (y : ∀ h₁, Ext h h₁ → R₁ true h₁ → Run prog w A (execs body env) h₀ h₁ R) (z : ∀ h₁, Ext h h₁ → R₁ false h₁ → Run prog w A (execs rest env) h₀ h₁ R) :
    Run prog w A (execs (.If test body [] pos :: rest) env) h₀ h R := by
  intro s E Q hh ht hQ
  refine wpAny_execs_cons (wpAny_If (x s E _ hh ht fun b h₁ tk h1 e₁ r => ?_))
  cases b with
  | true => exact y h₁ e₁ r _ E _ rfl h1 fun v h₂ tk₂ h2 e₂ r₂ => hQ v h₂ tk₂ h2 e₂ r₂
  | false => exact wpAny_execs_nil (z h₁ e₁ r _ E _ rfl h1 fun v h₂ tk₂ h2 e₂ r₂ => hQ v h₂ tk₂ h2 e₂ r₂)
theorem Run.assign {x : Str} {px pos : Pos} {value : PySem.Expr} {rest : List Stmt} {R₁ : Value → Heap → Prop} (hL : env.locals = L) (F : Fr h₀ L h m) (hl : env.kindOf x = some .local)
    (v : Ok prog w A (eval value env) h R₁)
    (y : ∀ a h₁ h₂, Ext h h₁ → R₁ a h₁ → Fr h₀ L h₂ (fun z => if z = x then some a else m z) → Heap.SameBut L h₁ h₂ → Run prog w A (execs rest env) h₀ h₂ R)
    (hs : swapsWith value (some (.Name x px)) pos.line env = pure false := by rfl)
    (hp : (env.scope.kind == .class || (env.scope.kind == .module && env.locals != env.globals)) = false := by rfl) :
    Run prog w A (execs (.Assign [.Name x px] value pos :: rest) env) h₀ h R := by
  subst hL
  intro s E Q hh ht hQ
  refine wpAny_execs_cons (wpAny_Assign_Name (v s E _ hh ht fun a h₁ tk h1 e₁ r => ?_) hs)
  have F₁ : Fr h₀ env.locals h₁ m := F.keeps e₁
  refine wpAny_storeName_local hl F₁.ns (fun h₂ hn₂ hs₂ => ?_) hp
  exact y a h₁ h₂ e₁ r (F₁.set hn₂ hs₂) hs₂ _ E Q rfl (by show 1 ≤ tk + 1; omega) fun v h₂ tk₂ h2 e₂ r₂ => hQ v h₂ tk₂ h2 e₂ r₂
theorem Ok.fn {f : Addr} {fd : FuncData} {args : List Value} {binds : List (Str × Value)} {body : List Stmt} {o : Obj} (hd : A.depth < recursionLimit) (ho : h.get? f = some o) (hdat : o.data = .func fd) (hlim : h.NoLimit)
    (hcd : h.CodeRec fd.code fd.qualname) (hbody : fd.body = .stmts body) (hb : bindArgs fd ⟨args, []⟩ = Pure.pure binds) (hcell : ∀ x ∈ fd.scope.names, x.2 ≠ .cell) (hloc : ∀ x ∈ binds, fd.scope.names.lookup x.1 = some .local)
    (y : ∀ h₁, Fr h h.objs.size h₁ (fun x => binds.reverse.lookup x) → Run prog w (A.deeper (callEnv fd h.objs.size f)) (execs body (callEnv fd h.objs.size f)) h h₁ R)
    (hco : fd.scope.isCoroutine = false := by rfl) (hgen : fd.scope.isGenerator = false := by rfl) (hk : fd.scope.kind = .function := by rfl) : Ok prog w A (call (.ref f) args) h R := by
  intro s E Q hh ht hQ
  subst hh
  refine wpAny_call (codeAny_call_def (fd := fd) (binds := binds) hd ho hdat hlim hcd hbody (.of_eq hb) hcell hloc (fun h₁ hns hk => ?_) hco hgen hk)
  exact y h₁ ⟨hns, hk, Nat.le_refl _⟩ _ _ _ rfl (by show 1 ≤ s.toks + binds.length; omega) fun v h' tk h1 e r => hQ v h' tk h1 e r

-- tests
theorem Ok.cmp {l r : PySem.Expr} {op : CmpOp} {pos : Pos} {R₁ R₂ : Value → Heap → Prop} {R' : Value → Heap → Prop} (x : Ok prog w A (eval l env) h R₁) (y : ∀ a h₁, Ext h h₁ → R₁ a h₁ → Ok prog w A (eval r env) h₁ R₂)
    (z : ∀ a b h₁ h₂, Ext h h₁ → Ext h₁ h₂ → R₁ a h₁ → R₂ b h₂ → Ok prog w A (compareOp op a b) h₂ R') (hm : behindInMarks op r = false := by with_unfolding_all rfl) :
    Ok prog w A (eval (.Compare l [op] [r] pos) env) h R' :=
  Ok.via2 (fun _ _ _ k => wpAny_Compare1 k hm) x y z
theorem Ok.test {l r : PySem.Expr} {op : CmpOp} {pos : Pos} {whole : Sem Value} {R₁ R₂ : Value → Heap → Prop} {R' : Bool → Heap → Prop} (x : Ok prog w A (eval l env) h R₁) (y : ∀ a h₁, Ext h h₁ → R₁ a h₁ → Ok prog w A (eval r env) h₁ R₂)
    (z : ∀ a b h₁ h₂, Ext h h₁ → Ext h₁ h₂ → R₁ a h₁ → R₂ b h₂ → Ok prog w A (compareOp op a b) h₂ (fun v h₃ => ∃ c, v = .bool c ∧ R' c h₃)) (hm : behindInMarks op r = false := by with_unfolding_all rfl) :
    Ok prog w A (isTrue (.Compare l [op] [r] pos) env whole) h R' := by
  intro s E Q hh ht hQ
  refine wpAny_isTrue_Compare1 (x s E _ hh ht fun a h₁ tk h1 e₁ r₁ => y a h₁ e₁ r₁ _ E _ rfl h1 fun b h₂ tk₂ h2 e₂ r₂ => z a b h₁ h₂ e₁ e₂ r₁ r₂ _ E _ rfl h2 fun v h₃ tk₃ h3 e₃ r₃ => ?_) hm
  obtain ⟨c, rfl, hc⟩ := r₃
  exact wpAny_truthy_bool (hQ c h₃ tk₃ h3 ((e₁.trans e₂).trans e₃) hc)
theorem Ok.same {t : Sem Value} {v : Value} {R' : Value → Heap → Prop} (x : ∀ (s : Shared) (E : Value → Shared → Prop) (Q : Value → Shared → Prop), Q v s → wpAny (model prog w) A t Q E s) (r : R' v h) : Ok prog w A t h R' := by
  intro s E Q hh ht hQ; subst hh; exact x s E Q (hQ v s.heap s.toks ht (Ext.refl _) r)
/-- a rule that turns the counter alone -/
theorem Ok.toks {t : Sem Value} {P : Value → Prop} {R' : Value → Heap → Prop} (x : ∀ (s : Shared) (E : Value → Shared → Prop) (Q : Value → Shared → Prop), s.heap = h → 1 ≤ s.toks → (∀ v k, 1 ≤ k → P v → Q v { s with toks := k }) → wpAny (model prog w) A t Q E s) (r : ∀ v, P v → R' v h) : Ok prog w A t h R' := by
  intro s E Q hh ht hQ; exact x s E Q hh ht fun v k hk hp => by subst hh; exact hQ v s.heap k hk (Ext.refl _) (r v hp)
theorem Ok.binop {l r : PySem.Expr} {op : Operator} {pos : Pos} {R₁ R₂ : Value → Heap → Prop} {R' : Value → Heap → Prop} (x : Ok prog w A (eval l env) h R₁) (y : ∀ a h₁, Ext h h₁ → R₁ a h₁ → Ok prog w A (eval r env) h₁ R₂)
    (z : ∀ a b h₁ h₂, Ext h h₁ → Ext h₁ h₂ → R₁ a h₁ → R₂ b h₂ → Ok prog w A (binaryOp op a b) h₂ R') : Ok prog w A (eval (.BinOp l op r pos) env) h R' :=
  Ok.via2 (fun _ _ _ k => wpAny_BinOp k) x y z
theorem Ok.sub {value slice : PySem.Expr} {pos : Pos} {R₁ R₂ : Value → Heap → Prop} {R' : Value → Heap → Prop} (x : Ok prog w A (eval value env) h R₁) (y : ∀ a h₁, Ext h h₁ → R₁ a h₁ → Ok prog w A (eval slice env) h₁ R₂)
    (z : ∀ a b h₁ h₂, Ext h h₁ → Ext h₁ h₂ → R₁ a h₁ → R₂ b h₂ → Ok prog w A (subscriptTail value slice a b) h₂ R') : Ok prog w A (eval (.Subscript value slice pos) env) h R' :=
  Ok.via2 (fun _ _ _ k => Subscript_ k) x y z
theorem Ok.lenStr {x : Str} {t : Tok} (hx : x.length ≤ sizeLine) : Ok prog w A (call (.builtin "len") [.str x t]) h (fun v _ => ∃ t, v = .int x.length t) := by
  intro s E Q hh ht hQ; subst hh
  have : sizeLine = 16777216 := rfl
  exact len_str (by omega) (hQ _ s.heap _ (by omega) (Ext.refl _) ⟨_, rfl⟩)
theorem Ok.lenList {l : Addr} {its : Array Value} (hl : h.IsList l its) (hx : its.size ≤ sizeLine) : Ok prog w A (call (.builtin "len") [.ref l]) h (fun v _ => ∃ t, v = .int its.size t) := by
  intro s E Q hh ht hQ; subst hh
  have : sizeLine = 16777216 := rfl
  exact len_list hl (by omega) (hQ _ s.heap _ (by omega) (Ext.refl _) ⟨_, rfl⟩)
end
end Mine

namespace Mine
open PySem.Builtin PySem.Builtin.Str
/-- a text of signs -/
def S (l : List Nat) : Str := ⟨l.toArray⟩
def Ls (x : Str) : List Nat := x.cps.toList
theorem S_Ls (x : Str) : S (Ls x) = x := by obtain ⟨⟨l⟩⟩ := x; rfl
theorem Ls_S (l : List Nat) : Ls (S l) = l := rfl
theorem Ls_append (x y : Str) : Ls (x ++ y) = Ls x ++ Ls y := by
  show (x.cps ++ y.cps).toList = _; rw [Array.toList_append]; rfl
theorem Ls_inj {x y : Str} (h : Ls x = Ls y) : x = y := by rw [← S_Ls x, ← S_Ls y, h]
theorem Ls_length (x : Str) : (Ls x).length = x.length := by simp [Ls, Str.length]
theorem tick_is : (Str.ofString "'") = S [39] := by decide
theorem five_is : (Str.ofString "'\"'\"'") = S [39, 34, 39, 34, 39] := by decide

def q1 (c : Nat) : List Nat := if c = 39 then [39, 34, 39, 34, 39] else [c]
/-- each apostrophe as it is written -/
def rep (l : List Nat) : List Nat := l.flatMap q1
theorem rep_free : ∀ l : List Nat, 39 ∉ l → rep l = l := by
  intro l
  induction l with
  | nil => intro _; rfl
  | cons a l ih =>
    intro h
    have h1 : a ≠ 39 := fun e => h (by simp [e])
    have h2 : 39 ∉ l := fun e => h (List.mem_cons_of_mem _ e)
    show q1 a ++ rep l = _
    rw [ih h2, q1, if_neg h1]; rfl
theorem rep_append (a b : List Nat) : rep (a ++ b) = rep a ++ rep b := by simp [rep]
theorem rep_join : ∀ parts : List Str, (∀ p ∈ parts, 39 ∉ Ls p) → rep (Ls (Str.join (S [39]) parts)) = Ls (Str.join (S [39, 34, 39, 34, 39]) parts)
  | [], _ => rfl
  | [p], h => rep_free _ (h p (.head _))
  | p :: q :: r, h => by
    have e1 : Str.join (S [39]) (p :: q :: r) = p ++ S [39] ++ Str.join (S [39]) (q :: r) := rfl
    have e2 : Str.join (S [39, 34, 39, 34, 39]) (p :: q :: r) = p ++ S [39, 34, 39, 34, 39] ++ Str.join (S [39, 34, 39, 34, 39]) (q :: r) := rfl
    rw [e1, e2, Ls_append, Ls_append, Ls_append, Ls_append, rep_append, rep_append, rep_free _ (h p (.head _)), rep_join (q :: r) fun y hy => h y (.tail _ hy)]
    rfl
theorem replace_rep (x : Str) : Ls (Txt.replace x (Str.ofString "'") (Str.ofString "'\"'\"'")) = rep (Ls x) := by
  rw [tick_is, five_is]
  show Ls (Txt.replace x ⟨#[39]⟩ (S [39, 34, 39, 34, 39])) = _
  rw [StrLaws.replace_one, ← rep_join _ (StrLaws.split_free x 39)]
  have := StrLaws.join_split x ⟨#[39]⟩
  show rep (Ls (Str.join ⟨#[39]⟩ (Txt.split x ⟨#[39]⟩))) = _
  rw [this]
theorem rep_length (l : List Nat) : (rep l).length ≤ 5 * l.length := by
  induction l with
  | nil => simp [rep]
  | cons a l ih =>
    show (q1 a ++ rep l).length ≤ _
    rw [List.length_append, List.length_cons]
    have : (q1 a).length ≤ 5 := by unfold q1; split <;> simp
    omega
theorem replace_length (x : Str) : (Txt.replace x (Str.ofString "'") (Str.ofString "'\"'\"'")).length ≤ 5 * x.length := by
  rw [← Ls_length, replace_rep, ← Ls_length x]
  exact rep_length _

/-- where the apostrophes stand -/
def plc (l : List Nat) : List Nat := (List.range l.length).filter fun i => decide (l[i]? = some 39)

theorem occ_go (x : Str) (limit : Nat) : ∀ (m cur : Nat) (st : Array Nat × Nat), st.snd ≤ cur →
    (forIn (m := Id) (List.range' cur m) st (StrLaws.occBody x ⟨#[39]⟩ x.length limit)).run.fst.toList
      = st.fst.toList ++ (((List.range' cur m).filter fun i => decide ((Ls x)[i]? = some 39)).take (limit - st.fst.size))
  | 0, cur, st, _ => by simp [List.range'_zero]
  | m + 1, cur, st, h => by
    rw [List.range'_succ, List.forIn_cons]
    unfold StrLaws.occBody
    have ha := StrLaws.subAt_one x 39 cur
    have hl : (⟨#[39]⟩ : Str).length = 1 := rfl
    split
    · rename_i hc
      have hat : (Ls x)[cur]? = some 39 := ha.mp ⟨hc.1.2, hc.2⟩
      have ih := occ_go x limit m (cur + 1) (st.fst.push cur, cur + (⟨#[39]⟩ : Str).length) (by rw [hl]; exact Nat.le_refl _)
      unfold StrLaws.occBody at ih
      refine ih.trans ?_
      have e : limit - st.fst.size = (limit - (st.fst.size + 1)) + 1 := by have := hc.1.1.1; omega
      rw [List.filter_cons_of_pos (by simpa using hat), Array.toList_push, Array.size_push, e, List.take_succ_cons]
      simp
    · rename_i hc
      have ih := occ_go x limit m (cur + 1) (st.fst, st.snd) (by show st.snd ≤ cur + 1; omega)
      unfold StrLaws.occBody at ih
      refine ih.trans ?_
      show st.fst.toList ++ _ = st.fst.toList ++ _
      by_cases hat : (Ls x)[cur]? = some 39
      · have q := ha.mpr hat
        have hz : limit - st.fst.size = 0 := by
          by_cases hs : st.fst.size < limit
          · exact absurd ⟨⟨⟨hs, h⟩, q.1⟩, q.2⟩ hc
          · omega
        rw [hz]; simp
      · rw [List.filter_cons_of_neg (by simpa using hat)]
theorem occ_plc (x : Str) (limit : Nat) : occurrences x (S [39]) 0 x.length limit = (plc (Ls x)).take limit := by
  show occurrences x ⟨#[39]⟩ 0 x.length limit = _
  rw [StrLaws.occ_eq, occ_go x limit (x.length + 1 - 0) 0 (#[], 0) (Nat.le_refl _)]
  simp only [List.nil_append, Nat.sub_zero]
  show List.take (limit - 0) _ = _
  rw [Nat.sub_zero, plc, Ls_length, List.range_eq_range', List.range'_1_concat]
  simp [List.filter_append, Ls, Str.length]

theorem kind1 (x : Str) : ¬ strKind x < strKind (S [39]) := by
  have h1 : strKind (S [39]) = 1 := by decide +kernel
  rw [h1]; unfold PySem.Builtin.Str.strKind
  split
  · omega
  · split <;> omega

theorem splitMax_plc (x : Str) : Txt.splitMax x (Str.ofString "'") 2 = match plc (Ls x) with
    | [] => [x]
    | [i] => [strSub x 0 i, strSub x (i + 1) x.length]
    | i :: j :: _ => [strSub x 0 i, strSub x (i + 1) j, strSub x (j + 1) x.length] := by
  rw [tick_is]
  unfold Txt.splitMax
  have hlim : limitOf x 2 = 2 := rfl
  rw [hlim, occ_plc]
  have hl : (S [39]).length = 1 := rfl
  by_cases h0 : x.length = 0
  · have : plc (Ls x) = [] := by
      have : Ls x = [] := by apply List.eq_nil_of_length_eq_zero; rw [Ls_length]; exact h0
      rw [this]; rfl
    rw [this, if_pos (by rw [hl]; simp; omega)]
  · rw [if_neg (by rw [hl, decide_eq_false (by omega : ¬ x.length < 1), decide_eq_false (kind1 x)]; decide)]
    match plc (Ls x) with
    | [] => rfl
    | [i] => rfl
    | i :: j :: r => rfl
end Mine

namespace Mine
/-- what decode_rfc2231 hands back -/
def decD (x : Str) : PyData :=
  if (Txt.splitMax x "'" 2).length ≤ 2 then .tuple [.none, .none, .str x] else .list ((Txt.splitMax x "'" 2).map .str)

/-- an object that holds the flat datum -/
def ObjIs (o : Obj) (d : PyData) : Prop :=
  ∃ vs n xs, o.data = .seq vs n ∧ CarriedAll vs.toList xs ∧ ((o.cls = .type "list" ∧ d = .list xs) ∨ (o.cls = .type "tuple" ∧ d = .tuple xs))

/-- a new object that holds the datum -/
def Gives (h : Heap) (d : PyData) (v : Value) (h' : Heap) : Prop := ∃ T o, v = .ref T ∧ h.get? T = none ∧ h'.get? T = some o ∧ ObjIs o d

section
variable {prog : Program} {w : World} {A : Around} {mg mb : Str → Option Value} {h : Heap}

theorem splitMax_len (x y : Str) (k : Int) : (Txt.splitMax x y k).length ≤ x.length + 2 := by
  unfold Txt.splitMax
  split
  · simp
  · split
    · simp
    · have e1 := StrLaws.occ_length_le_len x y 0 x.length (limitOf x k)
      rw [length_partsBetween]; omega

theorem dec_call {x : Str} {t : Tok} (W : Wd mg mb h) (hd : A.depth < recursionLimit) (hx : x.length + 2 ≤ sizeLine) :
    Ok prog w A (call (.ref 38) [.str x t]) h (Gives h (decD x)) := by
  refine Ok.fn (fd := fdDec) (binds := [("s", .str x t)]) hd W.oDec rfl W.lim W.cDec rfl (by rfl) (by decide) (by intro y hy; rw [List.mem_singleton.mp hy]; rfl) fun h₁ F => ?_
  have hx' : sizeLine = 16777216 := rfl
  intro s E Q hh ht hQ
  subst hh
  have W₁ := W.keeps F.keep
  have N : News h h.objs.size s.heap [] := fun p hp => nomatch hp
  refine wpAny_execs_cons (wpAny_Assign_Name ?_)
  refine MethodCall_ (wpAny_Name (wpAny_loadName_local rfl rfl F.ns (v := .str x t) rfl ?_))
  refine GM.split (callWith_method1 (spliced_more ?_))
  obtain ⟨u, hu⟩ := W.gTick
  refine Name_function_global rfl rfl (loadGlobal_global (W₁.g) hu ?_)
  refine spliced_more (wpAny_Constant_int (spliced_none ?_))
  refine splitN2A (x := x) (y := "'") (k := 2) F N (by decide) (by decide) (fun l h₂ tk₂ hl hS hlen hL F₂ N₂ => ?_) hx
  dsimp only at hL N₂ ⊢
  refine wpAny_storeName_local rfl F₂.ns (fun h₃ hn₃ hs₃ => ?_)
  dsimp only at hn₃ hs₃ ⊢
  have F₃ := F₂.set hn₃ hs₃
  have N₃ := N₂.set hs₃
  have W₃ := W.keeps F₃.keep
  have hlen2 : l.length = (Txt.splitMax x "'" 2).length := by rw [← hl, List.length_map]
  have hL₃ : h₃.IsList s.heap.objs.size (strValues l).toArray := News.isList N₃ (.head _)
  have hszl : (strValues l).toArray.size = l.length := by simp [strValues]
  have hcnt := splitMax_len x "'" 2
  have key : ∀ A', Run prog w A' (execs (fnBody (stt 3)).tail (callEnv fdDec h.objs.size 38)) h h₃ (Gives h (decD x)) := by
    intro A'
    refine Run.ifs (R₁ := fun b _ => b = decide ((Txt.splitMax x "'" 2).length ≤ 2)) ?_ ?_ ?_
    · refine Ok.test (R₁ := fun v _ => ∃ t, v = .int l.length t) (R₂ := fun v _ => ∃ t, v = .int 2 t) ?_ (fun _ _ _ _ => Ok.int) ?_
      · refine Ok.callB (id := "len") (R := fun vs _ => vs = [.ref s.heap.objs.size]) rfl (Ok.builtin rfl rfl W₃.g W₃.gLen W₃.b ((W₃.bi "len" (by decide)).trans (by rfl))) (fun h₄ e₄ => ?_) (fun vs h₄ e₄ r => ?_)
        · refine (Ok.args1 rfl (Ok.local rfl rfl (F₃.ns.keeps e₄) (by rfl))).mono ?_
          rintro a h' _ ⟨v, rfl, rfl⟩; rfl
        · subst r
          refine (Ok.lenList (hL₃.at fun o e => e₄ _ o e) (by rw [hszl, hlen2]; omega)).mono ?_
          rintro a h' _ ⟨t, rfl⟩; exact ⟨t, by rw [hszl]⟩
      · rintro a b h₄ h₅ e₄ e₅ ⟨t₁, rfl⟩ ⟨t₂, rfl⟩
        exact Ok.same (fun _ _ _ q => le_int q) ⟨_, rfl, by rw [hlen2]; exact decide_eq_decide.mpr (by omega)⟩
    · intro h₄ e₄ hc
      have hc' := of_decide_eq_true hc.symm
      refine Run.ret (R₁ := Gives h (decD x)) (Ext.trans F₃.keep e₄) ?_ (fun _ _ _ r => r)
      refine Ok.tuple (R := fun vs h' => vs = [.none, .none, .str x t] ∧ Ext h h') ?_ ?_
      · refine Ok.argsC rfl Ok.none fun v h₅ e₅ r => ?_
        subst r
        refine Ok.argsC rfl Ok.none fun v h₆ e₆ r => ?_
        subst r
        refine (Ok.args1 rfl (Ok.local rfl rfl (((F₃.ns.keeps e₄).keeps e₅).keeps e₆) (by rfl))).mono ?_
        rintro a h₇ e₇ ⟨v, rfl, rfl⟩
        exact ⟨rfl, (((Ext.trans F₃.keep e₄).trans e₅).trans e₆).trans e₇⟩
      · rintro vs h₅ e₅ ⟨rfl, k⟩
        refine ⟨by show 3 ≤ sizeLine; decide, _, _, rfl, ?_, Heap.get?_push_size _ rfl, _, _, [.none, .none, .str x], rfl, ?_, .inr ⟨rfl, ?_⟩⟩
        · exact k.fresh size_fresh
        · exact .cons .none (.cons .none (.cons (.str x t) .nil))
        · rw [decD, if_pos hc']
    · intro h₄ e₄ hc
      have hc' := of_decide_eq_false hc.symm
      refine Run.ret (Ext.trans F₃.keep e₄) (Ok.local rfl rfl (F₃.ns.keeps e₄) (by rfl)) ?_
      rintro v h₅ e₅ rfl
      refine ⟨_, _, rfl, (N₃ _ (.head _)).2.2, e₅ _ _ (e₄ _ _ (N₃ _ (.head _)).1), _, _, (Txt.splitMax x "'" 2).map .str, rfl, ?_, .inl ⟨rfl, ?_⟩⟩
      · rw [← hl]; exact hS.carried
      · rw [decD, if_neg hc']
  exact key _ _ E _ rfl (Nat.le_add_left 1 tk₂) hQ
end
end Mine

namespace Mine
open PySem.Sre
def cC : Array Nat := (cI.map Int.toNat).toArray
def safeC (c : Nat) : Bool := (decide (c < 256) && (cC.getD (7 + c / 32) 0).testBit (c % 32)) || isWord c

theorem inSet5 (c : Nat) (seen : Sre.Seen) : ∃ sn, inSet cC c 34 5 true seen = .ok (!safeC c, sn) := by
  have e1 : cC.getD 5 0 = 21 := rfl
  show ∃ sn, inSet cC c 33 6 false (seen.add 21) = _
  show ∃ sn, (if (decide (c < 256) && (cC.getD (6 + (1 + c / 32)) 0).testBit (c % 32)) = true then Except.ok (false, (seen.add 21).add 9) else inSet cC c 32 15 false ((seen.add 21).add 9)) = _
  rw [show 6 + (1 + c / 32) = 7 + c / 32 by omega]
  unfold safeC
  cases h : (decide (c < 256) && (cC.getD (7 + c / 32) 0).testBit (c % 32)) with
  | true => exact ⟨_, rfl⟩
  | false =>
    simp only [Bool.false_eq_true, if_false, Bool.false_or]
    show ∃ sn, (do if ← category 4 c then pure (false, (((seen.add 21).add 9).add 8).add (55 + 4)) else inSet cC c 31 17 false ((((seen.add 21).add 9).add 8).add (55 + 4))) = _
    have hc : category 4 c = .ok (isWord c) := by
      show Except.map (· != (4 % 2 == 1)) (Except.ok (isWord c) : Except String Bool) = _
      show Except.ok (isWord c != false) = _
      cases isWord c <;> rfl
    rw [hc]
    cases hw : isWord c with
    | true => exact ⟨_, rfl⟩
    | false => exact ⟨_, rfl⟩
theorem inSet20 (c : Nat) (seen : Sre.Seen) : ∃ sn, inSet cC c 34 20 true seen = .ok (!safeC c, sn) := by
  show ∃ sn, inSet cC c 33 21 false (seen.add 21) = _
  show ∃ sn, (if (decide (c < 256) && (cC.getD (21 + (1 + c / 32)) 0).testBit (c % 32)) = true then Except.ok (false, (seen.add 21).add 9) else inSet cC c 32 30 false ((seen.add 21).add 9)) = _
  unfold safeC
  have hcs : (decide (c < 256) && (cC.getD (21 + (1 + c / 32)) 0).testBit (c % 32)) = (decide (c < 256) && (cC.getD (7 + c / 32) 0).testBit (c % 32)) := by
    by_cases hc : c < 256
    · have : c / 32 < 8 := by omega
      have e : ∀ k, k < 8 → cC.getD (21 + (1 + k)) 0 = cC.getD (7 + k) 0 := by decide
      rw [e _ this]
    · simp [hc]
  rw [hcs]
  cases h : (decide (c < 256) && (cC.getD (7 + c / 32) 0).testBit (c % 32)) with
  | true => exact ⟨_, rfl⟩
  | false =>
    simp only [Bool.false_eq_true, if_false, Bool.false_or]
    show ∃ sn, (do if ← category 4 c then pure (false, (((seen.add 21).add 9).add 8).add (55 + 4)) else inSet cC c 31 32 false ((((seen.add 21).add 9).add 8).add (55 + 4))) = _
    have hc : category 4 c = .ok (isWord c) := by
      show Except.map (· != (4 % 2 == 1)) (Except.ok (isWord c) : Except String Bool) = _
      show Except.ok (isWord c != false) = _
      cases isWord c <;> rfl
    rw [hc]
    cases hw : isWord c with
    | true => exact ⟨_, rfl⟩
    | false => exact ⟨_, rfl⟩

theorem adm (m : Sre.M) (hc : m.code = cC) : ∀ (fuel s : Nat) (seen : Sre.Seen), m.lim < s + fuel →
    ((∀ i, s ≤ i → i < m.lim → safeC (m.text.getD i 0) = true) ∧ ∃ sn, M.admitted m fuel s seen = .ok (none, sn)) ∨
    (∃ k sn, s ≤ k ∧ k < m.lim ∧ safeC (m.text.getD k 0) = false ∧ M.admitted m fuel s seen = .ok (some k, sn)) := by
  intro fuel
  induction fuel with
  | zero => intro s seen h; exact .inl ⟨fun i h1 h2 => by omega, seen, rfl⟩
  | succ n ih =>
    intro s seen h
    rw [M.admitted]
    by_cases hs : s ≥ m.lim
    · rw [if_pos hs]; exact .inl ⟨fun i h1 h2 => by omega, seen, rfl⟩
    · rw [if_neg hs, hc]
      obtain ⟨sn, e⟩ := inSet5 (m.text.getD s 0) seen
      have hz : cC.size = 34 := rfl
      rw [hz, e]
      cases hsafe : safeC (m.text.getD s 0) with
      | false => exact .inr ⟨s, sn, Nat.le_refl _, by omega, hsafe, rfl⟩
      | true =>
        rcases ih (s + 1) sn (by omega) with ⟨h1, s2, e2⟩ | ⟨k, s2, h1, h2, h3, e2⟩
        · refine .inl ⟨fun i hi hl => ?_, s2, e2⟩
          by_cases q : i = s
          · rw [q]; exact hsafe
          · exact h1 i (by omega) hl
        · exact .inr ⟨k, s2, by omega, h2, h3, e2⟩

def m1 (t : Array Nat) : Sre.M := { code := cC, text := t, lim := t.size, start := 0, lastStart := t.size, pc := 18, pos := 0, handed := 0, marks := #[], seen := ({} : Sre.Seen).add 14 }

theorem getD_all {t : Array Nat} {p : Nat → Bool} : (∀ i, i < t.size → p (t.getD i 0) = true) ↔ t.all p = true := by
  rw [Array.all_eq_true]
  constructor
  · intro h i hi
    have := h i hi
    simpa [Array.getD, hi] using this
  · intro h i hi
    have := h i hi
    simpa [Array.getD, hi] using this

theorem step_in (m : Sre.M) (hc : m.code = cC) (ho : m.outcome = none) (ha : m.answer = none) (hp : m.pc = 18) (hl : m.pos < m.lim) (hs : safeC (m.text.getD m.pos 0) = false) :
    ∃ sn, m.step = { m with seen := sn, pc := 33, pos := m.pos + 1 } := by
  obtain ⟨code, text, lim, start, lastStart, wholeText, mustAdvance, pc, pos, handed, outermost, marks, lastmark, lastindex, loops, inner, frames, weight, answer, seen, outcome⟩ := m
  simp only at hc ho ha hp hl hs
  subst hc ho ha hp
  obtain ⟨sn, e⟩ := inSet20 (text.getD pos 0) (seen.add 13)
  refine ⟨sn, ?_⟩
  have hacc : Sre.accepts cC 18 (text.getD pos 0) (seen.add 13) = .ok (true, sn) := by
    show Sre.inSet cC (text.getD pos 0) 34 20 true (seen.add 13) = _
    rw [e, hs]; rfl
  show (if pos ≥ lim then _ else match Sre.accepts cC 18 (text.getD pos 0) (seen.add 13) with
    | .error why => _
    | .ok (false, seen) => _
    | .ok (true, seen) => _) = _
  rw [if_neg (by omega), hacc]
  rfl

theorem srch (t : Array Nat) : (t.all safeC = true ∧ ((forSearch cC t 0 0 t.size false).runFor 4).outcome = some .failed) ∨ (t.all safeC = false ∧ ((forSearch cC t 0 0 t.size false).runFor 4).outcome = some .matched) := by
  by_cases h0 : t.size = 0
  · refine .inl ⟨?_, ?_⟩
    · rw [← getD_all]; intro i hi; omega
    · have : t = #[] := Array.eq_empty_of_size_eq_zero h0
      subst this
      rfl
  · have e : forSearch cC t 0 0 t.size false = M.attemptFrom (m1 t) 0 true := by
      show (if (decide (0 > t.size) || decide (t.size - 0 < 1)) = true then _ else M.attemptFrom (m1 t) 0 true) = _
      rw [if_neg]
      rw [decide_eq_false (by omega : ¬ 0 > t.size), decide_eq_false (by omega : ¬ t.size - 0 < 1)]
      decide
    rw [e]
    have e2 : M.attemptFrom (m1 t) 0 true = (match M.admitted (m1 t) (t.size + 1 - 0) 0 ((({} : Sre.Seen)).add 14) with
      | .ok (some s, seen) => { (m1 t) with mustAdvance := false, seen := seen }.attemptAt s true
      | .ok (none, seen) => { (m1 t) with seen := seen }.say false
      | .error why => (m1 t).stick why) := rfl
    rw [e2]
    rcases adm (m1 t) rfl (t.size + 1 - 0) 0 ((({} : Sre.Seen)).add 14) (by show t.size < 0 + (t.size + 1 - 0); omega) with ⟨h1, sn, e3⟩ | ⟨k, sn, h1, h2, h3, e3⟩
    · refine .inl ⟨?_, ?_⟩
      · rw [← getD_all]; intro i hi; exact h1 i (Nat.zero_le _) hi
      · rw [e3]; rfl
    · refine .inr ⟨?_, ?_⟩
      · cases hq : t.all safeC with
        | false => rfl
        | true => rw [← getD_all] at hq; have := hq k h2; rw [show (m1 t).text = t from rfl] at h3; rw [h3] at this; cases this
      · rw [e3]
        show (M.runFor 4 ({ (m1 t) with mustAdvance := false, seen := sn }.attemptAt k true)).outcome = _
        generalize hm2 : ({ (m1 t) with mustAdvance := false, seen := sn }.attemptAt k true : Sre.M) = m2
        have q : m2 = { (m1 t) with seen := sn, start := k, pos := k, handed := k, frames := [{ wait := .nextStart, pc := 18, pos := k, outermost := true }], weight := 1 } := by
          rw [← hm2]; rfl
        obtain ⟨sn2, e4⟩ := step_in m2 (by rw [q]; rfl) (by rw [q]; rfl) (by rw [q]; rfl) (by rw [q]; rfl) (by rw [q]; exact h2) (by rw [q]; exact h3)
        show (if m2.outcome.isSome then m2 else M.runFor 3 m2.step).outcome = _
        rw [if_neg (by rw [q]; exact Bool.false_ne_true), e4, q]
        rfl
end Mine

namespace Mine
open PySem.Builtin.Re
theorem kS : builtinKind "re.Pattern.search" = some .method := by decide +kernel
theorem vaS : Manifest.varargsMethods.contains "re.Pattern.search" = false := by decide +kernel
theorem plS : plainId "re.Pattern.search" = true := by decide +kernel
theorem enS : entryFor table "re.Pattern.search" = some Builtin.«re.Pattern.search» := entryFor_of_fast (by kernel_rfl)
theorem subM : isSubtype (.type "re.Pattern") (.type "module") = pure false := by kernel_rfl
theorem ckS (a b : Value) : (match Manifest.signature? "re.Pattern.search" with
    | some sig => Bind.checkArgs "re.Pattern.search" { sig with full := s!"{Bind.lastOf "re.Pattern"}.{Bind.lastOf "re.Pattern.search"}" } ⟨[a, b], []⟩ | none => pure ()) = pure () := by kernel_rfl
section
variable {prog : Program} {w : World} {A : Around} {E : Value → Shared → Prop} {s : Shared} {mg mb : Str → Option Value} {h : Heap}

theorem chkS {x : Str} {t : Tok} {o : Obj} {vs : Array Value} {Q : Unit → Shared → Prop} (ho : s.heap.get? 43 = some o) (hc : o.cls = .type "re.Pattern") (hd : o.data = .fields vs) (hQ : Q () s) :
    wpAny (model prog w) A (checkBoundCall "re.Pattern.search" ⟨[.ref 43, .str x t], []⟩) Q E s := by
  have hck := ckS (.ref 43) (.str x t)
  have hT : s.TypeIs (.ref 43) "re.Pattern" := ⟨o, ho, hc⟩
  unfold checkBoundCall
  cases hs : Manifest.signature? "re.Pattern.search" with
  | none => exact wpAny_pure hQ
  | some sig =>
    rw [hs] at hck
    simp only [kS]
    refine wpAny_bind (wpAny_isInstance hT subM ?_)
    rw [vaS]
    simp only [Bool.or_self, Bool.false_eq_true, if_false]
    have hty : ∀ {Q' : Bool → Shared → Prop}, Q' false s → wpAny (model prog w) A (isType (.ref 43)) Q' E s := by
      intro Q' q
      unfold isType loadHead
      refine wpAny_bind (wpAny_loadPart ho ?_)
      rw [hd]
      exact wpAny_pure q
    refine wpAny_bind (hty ?_)
    simp only [Bool.false_eq_true, if_false]
    refine wpAny_bind (wpAny_typeOf hT ?_)
    exact wpAny_of_eq (a := ()) hck hQ

end
end Mine

namespace Mine
open PySem.Builtin.Re
section
variable {prog : Program} {w : World} {A : Around} {E : Value → Shared → Prop} {s : Shared} {mg mb : Str → Option Value} {h : Heap}
theorem tgtS {x : Str} {t : Tok} {Q : ReTarget → Shared → Prop} (W : Wd mg mb s.heap)
    (hQ : Q { pattern := .ref 43, string := .str x t, code := cC, text := x.cps, kind := 0, groups := 0, pos := 0, lim := x.cps.size } s) (hx : x.length ≤ sizeLine) :
    wpAny (model prog w) A (reTarget "re.Pattern.search" "search" ⟨[.ref 43, .str x t], []⟩) Q E s := by
  obtain ⟨t₁, t₂, ho⟩ := W.oPat
  unfold reTarget
  refine wpAny_bind (wpAny_of_eq (a := [some (.str x t), none, none]) rfl ?_)
  refine wpAny_bind (wpAny_pure ?_)
  refine wpAny_bind (wpAny_pure ?_)
  refine wpAny_bind (wpAny_fieldsOf ho rfl ?_)
  refine wpAny_bind (wpAny_of_eq (a := (x.cps, 0)) rfl ?_)
  show wpAny _ _ (reNoCollectionInside (.str x t) 0 >>= fun _ => reRawItems (.ref 42) >>= fun l => pure { pattern := .ref 43, string := .str x t, code := l.map (·.toNat), text := x.cps, kind := 0, groups := 0, pos := min (0 : Int).toNat x.cps.size, lim := min (2 ^ 63 - 1 : Int).toNat x.cps.size }) Q E s
  refine wpAny_bind (wpAny_of_eq (a := ()) rfl ?_)
  unfold reRawItems
  refine wpAny_bind (wpAny_bind (wpAny_seqItems W.oCode rfl (wpAny_pure (wpAny_pure ?_))))
  have e1 : min (0 : Int).toNat x.cps.size = 0 := by simp
  have e2 : min (2 ^ 63 - 1 : Int).toNat x.cps.size = x.cps.size := by
    have hx' : x.cps.size ≤ 16777216 := hx
    have : (2 ^ 63 - 1 : Int).toNat = 9223372036854775807 := by decide
    omega
  rw [e1, e2]
  refine Eq.mp (congrArg (fun c => Q { pattern := .ref 43, string := .str x t, code := c, text := x.cps, kind := 0, groups := 0, pos := 0, lim := x.cps.size } s) (?_ : cC = _)) hQ
  decide +kernel

theorem drvS (m : Sre.M) (hm : (m.runFor 4).outcome.isSome = true) {Q : Sre.M → Shared → Prop} (hQ : Q (m.runFor 4) s) : wpAny (model prog w) A (reDrive (2 ^ 64) m) Q E s := by
  show wpAny _ _ (reDrive ((2 ^ 64 - 1) + 1) m) _ _ _
  rw [reDrive]
  show wpAny _ _ (if (m.runFor 4).outcome.isSome = true then pure (m.runFor 4) else _) _ _ _
  rw [if_pos hm]
  exact wpAny_pure hQ
theorem rulesS {f : Nat → Bool} {g : Nat → String} {Q : PUnit → Shared → Prop} (l : List Nat) (hQ : Q ⟨⟩ s) :
    wpAny (model prog w) A (forIn l PUnit.unit fun i _ => if f i = true then rule (g i) >>= fun _ => pure (ForInStep.yield PUnit.unit) else pure (ForInStep.yield PUnit.unit)) Q E s := by
  induction l with
  | nil => exact wpAny_pure hQ
  | cons a l ih =>
    rw [List.forIn_cons]
    refine wpAny_bind ?_
    split
    · exact wpAny_bind (wpAny_rule (wpAny_pure ih))
    · exact wpAny_pure ih
theorem endS (m : Sre.M) (o : Sre.Outcome) (hm : (m.runFor 4).outcome = some o) {Q : Option Sre.M → Shared → Prop} (h1 : (∃ q, o = .matched ∧ q = m.runFor 4 ∧ Q (some q) s) ∨ (o = .failed ∧ Q none s)) :
    wpAny (model prog w) A (reRunToEnd m) Q E s := by
  unfold reRunToEnd
  refine wpAny_bind (drvS m (by rw [hm]; rfl) ?_)
  refine wpAny_bind (rulesS _ ?_)
  rw [hm]
  rcases h1 with ⟨q, rfl, rfl, h⟩ | ⟨rfl, h⟩
  · exact wpAny_pure h
  · exact wpAny_pure h

theorem find_call {x : Str} {t : Tok} (W : Wd mg mb h) (hx : x.length ≤ sizeLine) :
    Ok prog w A (call (.ref 51) [.str x t]) h (fun v _ => (x.cps.all safeC = true ∧ v = .none) ∨ (x.cps.all safeC = false ∧ ∃ T, v = .ref T)) := by
  intro s E Q hh ht hQ
  subst hh
  obtain ⟨t₁, t₂, hoP⟩ := W.oPat
  refine wpAny_call (codeAny_of_tree ?_)
  show wpAny _ A.in1 (callAny (.ref 51) ⟨[.str x t], []⟩) _ _ s
  simp only [callAny]
  refine wpAny_bind (wpAny_load W.oFind ?_)
  simp only [show (Value.type "builtin_function_or_method" == Value.type "method" || Value.type "builtin_function_or_method" == Value.type "builtin_function_or_method" || Value.type "builtin_function_or_method" == Value.type "method-wrapper") = true by decide, if_true]
  show wpAny _ _ (if (Value.type "builtin_function_or_method" != Value.type "method") = true then (checkBoundCall "re.Pattern.search" ⟨[.ref 43, .str x t], []⟩ >>= fun _ => again (.builtin "re.Pattern.search" ⟨[.ref 43, .str x t], []⟩)) else _) _ _ _
  rw [if_pos (by decide)]
  refine wpAny_bind (chkS hoP rfl rfl (wpAny_pure ?_))
  refine ⟨plainId_quiet plS _, codeAny_builtin enS ?_⟩
  unfold Builtin.«re.Pattern.search»
  refine wpAny_bind (tgtS W ?_ hx)
  dsimp only
  unfold reAnswer
  rcases srch x.cps with ⟨ha, ho⟩ | ⟨ha, ho⟩
  · refine wpAny_bind (endS _ _ ho (.inr ⟨rfl, ?_⟩))
    exact wpAny_pure (hQ _ s.heap s.toks ht (Ext.refl _) (.inl ⟨ha, rfl⟩))
  · refine wpAny_bind (endS _ _ ho (.inl ⟨_, rfl, rfl, ?_⟩))
    dsimp only
    refine wpAny_bind ?_
    generalize (Sre.M.runFor 4 (Sre.forSearch cC x.cps 0 0 x.cps.size false)) = mm
    show wpAny _ _ (newTuple [rawInt mm.start, rawInt mm.handed] >>= fun v => newFields "re.Match" [.str x t, .ref 43, rawInt 0, rawInt x.cps.size, rawInt mm.lastindex, v]) _ _ _
    refine wpAny_bind (wpAny_newTuple ?_ (by show 2 ≤ sizeLine; decide))
    unfold newFields
    refine wpAny_newObj_type (wpAny_pure ?_)
    exact hQ _ _ s.toks ht ((Ext.push _ _).trans (Ext.push _ _)) (.inr ⟨ha, _, rfl⟩)
end
end Mine

namespace Mine
/-- what quote hands back -/
def qD (x : Str) : Str :=
  if x.length = 0 then "''" else if x.cps.all safeC = true then x else "'" ++ Txt.replace x "'" "'\"'\"'" ++ "'"
section
variable {prog : Program} {w : World} {A : Around} {mg mb : Str → Option Value} {h : Heap} {env : Env}

theorem Ok.mk {α : Type} {t : Sem α} {R : α → Heap → Prop} (x : ∀ (s : Shared) (E : Value → Shared → Prop) (Q : α → Shared → Prop), s.heap = h → 1 ≤ s.toks → (∀ a h' tk, Ext h h' → R a h' → Q a { s with heap := h', toks := tk }) → wpAny (model prog w) A t Q E s) :
    Ok prog w A t h R := by
  intro s E Q hh ht hQ
  refine wpAny_with_toks ht (x s _ _ hh ht fun a h' tk e r h1 => hQ a h' tk h1 e r)
theorem Ok.go {α : Type} {t : Sem α} {R : α → Heap → Prop} {s : Shared} {E : Value → Shared → Prop} {Q : α → Shared → Prop} (x : Ok prog w A t h R) (hh : s.heap = h) (ht : 1 ≤ s.toks)
    (hQ : ∀ a h' tk, 1 ≤ tk → Ext h h' → R a h' → Q a { s with heap := h', toks := tk }) : wpAny (model prog w) A t Q E s := x s E Q hh ht hQ
theorem Ok.truthStr {x : Str} {t : Tok} (hx : x.length ≤ sizeLine) : Ok prog w A (truthy (.str x t)) h (fun b _ => b = decide (x.length ≠ 0)) := by
  intro s E Q hh ht hQ; subst hh
  have : sizeLine = 16777216 := rfl
  refine P.truthy_str (by omega) (hQ _ s.heap _ (by omega) (Ext.refl _) ?_)
  by_cases q : x.length = 0
  · rw [q]; rfl
  · rw [decide_eq_true q]
    have : (x.length : Int) ≠ 0 := by omega
    exact bne_iff_ne.mpr this
theorem Ok.addStr {x y : Str} {t u : Tok} (hx : x.length + y.length ≤ sizeLine) : Ok prog w A (binaryOp .Add (.str x t) (.str y u)) h (fun v _ => ∃ t, v = .str (x ++ y) t) :=
  Ok.mk fun s E Q hh ht hQ => by
    subst hh
    exact add_str (fun t' tk => hQ _ s.heap tk (Ext.refl _) ⟨t', rfl⟩) hx

theorem quote_body {x : Str} {t : Tok} {h₁ : Heap} (W : Wd mg mb h) (hx : x.length ≤ 1048576) (F : Fr h h.objs.size h₁ (fun y => List.lookup y [(Str.ofString "s", Value.str x t)].reverse)) :
    Run prog w A (execs (fnBody (stt 8)) (callEnv fdQuote h.objs.size 58)) h h₁ (fun v _ => ∃ t', v = .str (qD x) t') := by
  have hsl : sizeLine = 16777216 := rfl
  have hx2 : x.length ≤ sizeLine := by omega
  have W₁ := W.keeps F.keep
  refine Run.ifs (R₁ := fun b _ => b = !decide (x.length ≠ 0)) ?_ ?_ ?_
  · intro s E Q hh ht hQ
    subst hh
    refine wpAny_isTrue_Not (isTrue_plain ?_)
    refine Ok.go (Ok.local rfl rfl F.ns (v := .str x t) rfl) rfl ht ?_
    rintro v h₂ tk h1 e₁ rfl
    refine Ok.go (Ok.truthStr hx2) rfl h1 ?_
    rintro b h₃ tk₃ h3 e₃ rfl
    exact hQ _ _ _ h3 (e₁.trans e₃) rfl
  · intro h₂ e₂ hb
    have hz : x.length = 0 := by
      by_cases q : x.length = 0
      · exact q
      · rw [decide_eq_true q] at hb; cases hb
    refine Run.ret (Ext.trans F.keep e₂) Ok.str ?_
    rintro v h₃ e₃ ⟨t', rfl⟩
    exact ⟨t', by rw [qD, if_pos hz]⟩
  · intro h₂ e₂ hb
    have hz : x.length ≠ 0 := by
      intro q
      rw [decide_eq_false (by simp [q])] at hb; cases hb
    refine Run.ifs (R₁ := fun b _ => b = x.cps.all safeC) ?_ ?_ ?_
    · refine Ok.test (R₁ := fun v _ => (x.cps.all safeC = true ∧ v = .none) ∨ (x.cps.all safeC = false ∧ ∃ T, v = .ref T)) (R₂ := fun v _ => v = .none) ?_ (fun _ _ _ _ => Ok.none) ?_
      · intro s E Q hh ht hQ
        subst hh
        refine Call_ (Ok.go (Ok.global rfl rfl (W₁.keeps e₂).g (W₁.keeps e₂).gFind) rfl ht ?_)
        rintro v h₃ tk h1 e₃ rfl
        have hfo : ∀ hq : Heap, hq.get? 51 = some { cls := .type "builtin_function_or_method", data := .fields #[.builtin "re.Pattern.search", .ref 43] } → ∃ k, (k = Keeper.frame ∨ k = Keeper.machine ∨ k = Keeper.boundFrame) ∧ Looks (model prog w) hq (keeperOf (.ref 51)) k :=
          fun hq q => ⟨.machine, .inr (.inl rfl), (Looks.ld (part := none) q).andThen .now⟩
        refine callWith_of (P := fun hq => hq.get? 51 = some { cls := .type "builtin_function_or_method", data := .fields #[.builtin "re.Pattern.search", .ref 43] }) rfl hfo (evalArgs_plain ?_)
        have W₃ := (W₁.keeps e₂).keeps e₃
        refine Ok.go (Ok.args1 rfl (Ok.local rfl rfl ((F.ns.keeps e₂).keeps e₃) (v := .str x t) rfl)) rfl h1 ?_
        rintro vs h₄ tk₄ h4 e₄ ⟨v, rfl, rfl⟩
        refine ⟨(W₃.keeps e₄).oFind, ?_⟩
        refine Ok.go (find_call (W₃.keeps e₄) hx2) rfl h4 ?_
        rintro v h₅ tk₅ h5 e₅ r
        exact hQ v h₅ tk₅ h5 ((e₃.trans e₄).trans e₅) r
      · rintro a b h₃ h₄ e₃ e₄ ha rfl
        refine Ok.same (fun _ _ _ q => is_none q) ⟨_, rfl, ?_⟩
        rcases ha with ⟨q, rfl⟩ | ⟨q, T, rfl⟩
        · rw [q]; rfl
        · rw [q]; rfl
    · intro h₃ e₃ hs
      refine Run.ret (Ext.trans F.keep (e₂.trans e₃)) (Ok.local rfl rfl (F.ns.keeps (e₂.trans e₃)) (v := .str x t) rfl) ?_
      rintro v h₄ e₄ rfl
      exact ⟨t, by rw [qD, if_neg hz, if_pos hs.symm]⟩
    · intro h₃ e₃ hs
      have hrl := replace_length x
      have hzl : (Str.ofString "'\"'\"'").length = 5 := by decide
      have h1l : (Str.ofString "'").length = 1 := by decide
      refine Run.ret (R₁ := fun v _ => ∃ t, v = .str ("'" ++ Txt.replace x "'" "'\"'\"'" ++ "'") t) (Ext.trans F.keep (e₂.trans e₃)) ?_ ?_
      · refine Ok.binop (R₁ := fun v _ => ∃ t, v = .str ("'" ++ Txt.replace x "'" "'\"'\"'") t) (R₂ := fun v _ => ∃ t, v = .str "'" t) ?_ (fun _ _ _ _ => Ok.str) ?_
        · refine Ok.binop (R₁ := fun v _ => ∃ t, v = .str "'" t) (R₂ := fun v _ => ∃ t, v = .str (Txt.replace x "'" "'\"'\"'") t) Ok.str (fun a h₄ e₄ _ => ?_) ?_
          · refine Ok.mk fun s E Q hh ht hQ => ?_
            subst hh
            refine MethodCall_ (Ok.go (Ok.local rfl rfl (F.ns.keeps ((e₂.trans e₃).trans e₄)) (v := .str x t) rfl) rfl ht ?_)
            rintro v h₅ tk h1 e₅ rfl
            refine GM.replace (callWith_method1 (spliced_more (wpAny_Constant_str (spliced_more (wpAny_Constant_str (spliced_none ?_))))))
            refine SC.replace (y := "'") (z := "'\"'\"'") (show (tk : Nat) ≠ 0 by omega) (show (tk + 1 : Nat) ≠ 0 by omega) (show (tk : Nat) ≠ tk + 1 by omega) (by decide) (by rw [hzl]; omega) fun t' k => ?_
            exact hQ _ h₅ k e₅ ⟨t', rfl⟩
          · rintro a b h₄ h₅ e₄ e₅ ⟨t₁, rfl⟩ ⟨t₂, rfl⟩
            exact Ok.addStr (by rw [h1l]; omega)
        · rintro a b h₄ h₅ e₄ e₅ ⟨t₁, rfl⟩ ⟨t₂, rfl⟩
          exact Ok.addStr (by rw [Str.length_append, h1l]; omega)
      · rintro v h₄ e₄ ⟨t', rfl⟩
        exact ⟨t', by rw [qD, if_neg hz, if_neg (by rw [← hs]; exact Bool.false_ne_true)]⟩

theorem quote_call {x : Str} {t : Tok} (W : Wd mg mb h) (hd : A.depth < recursionLimit) (hx : x.length ≤ 1048576) :
    Ok prog w A (call (.ref 58) [.str x t]) h (fun v _ => ∃ t', v = .str (qD x) t') :=
  Ok.fn (fd := fdQuote) (binds := [("s", .str x t)]) hd W.oQuote rfl W.lim W.cQuote rfl (by rfl) (by decide) (by intro y hy; rw [List.mem_singleton.mp hy]; rfl) fun h₁ F => quote_body W hx F
/-- the same where nothing is known of the counter -/
theorem quote_call0 {x : Str} {t : Tok} {s : Shared} {E : Value → Shared → Prop} {Q : Value → Shared → Prop} (W : Wd mg mb s.heap) (hd : A.depth < recursionLimit) (hx : x.length ≤ 1048576)
    (hQ : ∀ v h' tk, Ext s.heap h' → (∃ t', v = .str (qD x) t') → Q v { s with heap := h', toks := tk }) : wpAny (model prog w) A (call (.ref 58) [.str x t]) Q E s := by
  refine wpAny_call (codeAny_call_def (fd := fdQuote) (binds := [("s", .str x t)]) hd W.oQuote rfl W.lim W.cQuote rfl (.of_eq (by rfl)) (by decide) (by intro y hy; rw [List.mem_singleton.mp hy]; rfl) (fun h₁ hns hk => ?_))
  exact quote_body W hx ⟨hns, hk, Nat.le_refl _⟩ _ _ _ rfl (Nat.le_add_left 1 s.toks) fun v h' tk _ e r => hQ v h' tk e r
end
end Mine

namespace Mine
section
variable {prog : Program} {w : World} {A : Around} {h : Heap} {env : Env}

/-- the value is walked in n turns, the i-th item as P says -/
def Src (prog : Program) (w : World) (A : Around) (xv : Value) (h : Heap) (n : Nat) (P : Nat → Value → Prop) : Prop :=
  ∀ (s : Shared) (E : Value → Shared → Prop) (Q : Value → Shared → Prop), s.heap = h → 1 ≤ s.toks →
    (∀ I fp wr St h₂ tk, 1 ≤ tk → Walks prog w A I fp wr n P St → St 0 h₂ → (∀ b ∈ fp, b < h₂.objs.size) → (∀ b ∈ wr, h.get? b = none) → Ext h h₂ → Q (.ref I) { s with heap := h₂, toks := tk }) →
    wpAny (model prog w) A (pyIter xv) Q E s

theorem Src.str {x : Str} {t : Tok} (hA : A.handled = none) : Src prog w A (.str x t) h x.cps.size (SignAt x) := by
  intro s E Q hh ht hQ
  subst hh
  refine wpAny_pyIter_str fun o St W st => ?_
  refine hQ _ _ _ St _ s.toks ht (W A hA) st ?_ ?_ (Ext.push _ _)
  · intro b hb; rw [List.mem_singleton.mp hb, Heap.size_push]; exact Nat.lt_succ_self _
  · intro b hb; rw [List.mem_singleton.mp hb]; exact size_fresh
theorem Src.list {l : Addr} {its : Array Value} (hA : A.handled = none) (hl : h.IsList l its) : Src prog w A (.ref l) h its.size (fun i v => its[i]? = some v) := by
  intro s E Q hh ht hQ
  subst hh
  have hlt : l < s.heap.objs.size := by obtain ⟨_, e, _⟩ := hl; exact Heap.lt_size e
  refine wpAny_pyIter_list hl ?_
  refine hQ _ [s.heap.objs.size, l] [s.heap.objs.size] _ _ s.toks ht (Walks.list hA s.heap.objs.size l (Nat.ne_of_lt hlt) its) ⟨⟨_, Heap.get?_push_size _ rfl, rfl, rfl⟩, hl.push _⟩ ?_ ?_ (Ext.push _ _)
  · intro b hb
    rw [Heap.size_push]
    rcases List.mem_cons.mp hb with rfl | hb
    · exact Nat.lt_succ_self _
    · rw [List.mem_singleton.mp hb]; exact Nat.lt_succ_of_lt hlt
  · intro b hb; rw [List.mem_singleton.mp hb]; exact size_fresh
theorem Src.range {r : Addr} {a b c : Int} {t u v : Tok} {n : Nat} (hA : A.handled = none) (hr : IsRange h r a b c t u v) (hsm : Builtin.Range.small a b c = true) (hn : Builtin.Range.rangeSize a b c = ((n : Nat) : Int)) :
    Src prog w A (.ref r) h n (fun i v => i < n ∧ ∃ t, v = .int (a + (i : Int) * c) t) := by
  intro s E Q hh ht hQ
  subst hh
  refine wpAny_pyIter_range hr hsm ?_
  rw [hn]
  refine hQ _ [s.heap.objs.size] [s.heap.objs.size] _ _ s.toks ht (Walks.range hA s.heap.objs.size a c n).bound ?_ ?_ ?_ (Ext.push _ _)
  · show IsRangeIter _ _ _ _ _
    simpa using Heap.get?_push_size _ rfl
  · intro b hb; rw [List.mem_singleton.mp hb, Heap.size_push]; exact Nat.lt_succ_self _
  · intro b hb; rw [List.mem_singleton.mp hb]; exact size_fresh

theorem quietC {s₂ : Shared} {h₁ : Heap} {scope : Scope} {cl : List (Str × Addr)} {x : Str} {ifs : List PySem.Expr} {elt : PySem.Expr} {wr : List Addr} {P : Nat → Value → Prop} {p : Value → Bool} {F : Value → Value → Prop}
    (e : Ext h₁ s₂.heap) (ht : 1 ≤ s₂.toks) (hwr : ∀ b ∈ wr, h₁.get? b = none)
    (tests : ∀ C i v h₃ m₃, P i v → Ext h₁ h₃ → h₃.Ns C m₃ → m₃ x = some v →
      Ok prog w A (forIn ifs true fun c r => if r = true then do let ok ← isTrue c (compEnvC scope cl C env) (eval c (compEnvC scope cl C env)); pure (ForInStep.yield ok) else pure (ForInStep.yield r)) h₃ (fun ok _ => ok = p v))
    (elts : ∀ C i v h₃ m₃, P i v → p v = true → Ext h₁ h₃ → h₃.Ns C m₃ → m₃ x = some v → Ok prog w A (eval elt (compEnvC scope cl C env)) h₃ (fun y _ => F v y)) :
    QuietOnC prog w A env scope cl x ifs elt wr P p F s₂ where
  tests := fun C i v s₃ m₃ E' _ hP hn hm hk htk => by
    have e3 : Ext h₁ s₃.heap := fun b o q => hk b o (fun hb => by rw [hwr b hb] at q; cases q) (e b o q)
    exact Ok.go (tests C i v s₃.heap m₃ hP e3 hn hm) rfl (by omega) fun a h' tk _ ex r => ⟨r, h', tk, rfl, ex⟩
  elt := fun C i v s₃ m₃ E' _ hP hp hn hm hk htk => by
    have e3 : Ext h₁ s₃.heap := fun b o q => hk b o (fun hb => by rw [hwr b hb] at q; cases q) (e b o q)
    exact Ok.go (elts C i v s₃.heap m₃ hP hp e3 hn hm) rfl (by omega) fun a h' tk _ ex r => ⟨r, h', tk, rfl, ex⟩

/-- what a comprehension hands back: a new list -/
def CompOut (h : Heap) (n : Nat) (P : Nat → Value → Prop) (p : Value → Bool) (F : Value → Value → Prop) (D : Addr) (h' : Heap) : Prop :=
  ∃ (ys : Array Value) (vs : List Value), h.get? D = none ∧ h'.PlainList D ys ∧ vs.length = n ∧ (∀ j v, vs[j]? = some v → P j v) ∧ Paired F (vs.filter p) ys.toList

theorem Ok.comp {elt iter : PySem.Expr} {x : Str} {px : Pos} {ifs : List PySem.Expr} {scope : Scope} {cl : List (Str × Addr)} {pos : Pos} {n : Nat} {P : Nat → Value → Prop} (p : Value → Bool) (F : Value → Value → Prop) {R₁ : Value → Heap → Prop}
    (hclos : closureFor scope env = Pure.pure cl) (hcell : ∀ y ∈ scope.names, y.2 ≠ .cell) (hkind : scope.kind = .function)
    (hnames : ∀ y ∈ scope.names, y.2 = .local → scope.names.lookup y.1 = some .local) (hx : scope.names.lookup x = some .local) (hn : n ≤ sizeLine)
    (hi : Ok prog w A (eval iter env) h R₁) (src : ∀ xv h₁, Ext h h₁ → R₁ xv h₁ → Src prog w A xv h₁ n P)
    (tests : ∀ C i v h₃ m₃, P i v → Ext h h₃ → h₃.Ns C m₃ → m₃ x = some v →
      Ok prog w A (forIn ifs true fun c r => if r = true then do let ok ← isTrue c (compEnvC scope cl C env) (eval c (compEnvC scope cl C env)); Pure.pure (ForInStep.yield ok) else Pure.pure (ForInStep.yield r)) h₃ (fun ok _ => ok = p v))
    (elts : ∀ C i v h₃ m₃, P i v → p v = true → Ext h h₃ → h₃.Ns C m₃ → m₃ x = some v → Ok prog w A (eval elt (compEnvC scope cl C env)) h₃ (fun y _ => F v y))
    (hs : ∀ x, foldedSetIterable iter env x = Pure.pure x := by intro _; rfl) :
    Ok prog w A (eval (.ListComp elt [⟨.Name x px, iter, ifs, 0⟩] scope pos) env) h (fun r h' => ∃ D, r = .ref D ∧ CompOut h n P p F D h') := by
  refine Ok.mk fun s E Q hh ht hQ => ?_
  refine wpAny_ListComp_free p F hclos hcell hkind hnames hx (Ok.go hi hh ht ?_) hs
  rintro xv h₁ tk h1 e₁ r
  refine src xv h₁ e₁ r _ E _ rfl h1 ?_
  rintro I fp wr St h₂ tk₂ h2 W st hfp hwr e₂
  refine ⟨I, fp, wr, n, P, St, rfl, W, hn, st, hfp, quietC (h₁ := h₁) e₂ h2 hwr (fun C i v h₃ m₃ a b c d => tests C i v h₃ m₃ a (e₁.trans b) c d) (fun C i v h₃ m₃ a a' b c d => elts C i v h₃ m₃ a a' (e₁.trans b) c d), ?_⟩
  intro D h' tk₃ ys vs hD hL hPl hlen hP hpair hk
  refine hQ _ _ _ (fun b o q => hk b o (fun hb => by have := e₁ b o q; rw [hwr b hb] at this; cases this) (e₂ b o (e₁ b o q))) ⟨D, rfl, ys, vs, ?_, hPl, hlen, hP, hpair⟩
  exact (e₁.trans e₂).fresh hD

theorem Run.comp {elt iter : PySem.Expr} {x y : Str} {px py : Pos} {ifs : List PySem.Expr} {scope : Scope} {cl : List (Str × Addr)} {pos spos : Pos} {n : Nat} {P : Nat → Value → Prop} {rest : List Stmt} {h₀ : Heap} {L : Addr} {m : Str → Option Value} {R : Value → Heap → Prop}
    (p : Value → Bool) (F : Value → Value → Prop) {R₁ : Value → Heap → Prop} (hL : env.locals = L) (Fr₀ : Fr h₀ L h m)
    (hsw : swapsWith (.ListComp elt [⟨.Name x px, iter, ifs, 0⟩] scope pos) (some (.Name y py)) spos.line env = Pure.pure true)
    (hclos : closureFor scope env = Pure.pure cl) (hcell : ∀ y ∈ scope.names, y.2 ≠ .cell) (hkind : scope.kind = .function)
    (hnames : ∀ y ∈ scope.names, y.2 = .local → scope.names.lookup y.1 = some .local) (hx : scope.names.lookup x = some .local) (hy : env.kindOf y = some .local) (hn : n ≤ sizeLine)
    (hi : Ok prog w A (eval iter env) h R₁) (src : ∀ xv h₁, Ext h h₁ → R₁ xv h₁ → Src prog w A xv h₁ n P)
    (tests : ∀ C i v h₃ m₃, P i v → Ext h h₃ → h₃.Ns C m₃ → m₃ x = some v →
      Ok prog w A (forIn ifs true fun c r => if r = true then do let ok ← isTrue c (compEnvC scope cl C env) (eval c (compEnvC scope cl C env)); Pure.pure (ForInStep.yield ok) else Pure.pure (ForInStep.yield r)) h₃ (fun ok _ => ok = p v))
    (elts : ∀ C i v h₃ m₃, P i v → p v = true → Ext h h₃ → h₃.Ns C m₃ → m₃ x = some v → Ok prog w A (eval elt (compEnvC scope cl C env)) h₃ (fun y _ => F v y))
    (k : ∀ D h', CompOut h n P p F D h' → Fr h₀ L h' (fun z => if z = y then some (.ref D) else m z) → (∀ b o, b ≠ L → h.get? b = some o → h'.get? b = some o) → Run prog w A (execs rest env) h₀ h' R)
    (hp : (env.scope.kind == .class || (env.scope.kind == .module && env.locals != env.globals)) = false := by rfl)
    (hs : ∀ x, foldedSetIterable iter env x = Pure.pure x := by intro _; rfl) :
    Run prog w A (execs (.Assign [.Name y py] (.ListComp elt [⟨.Name x px, iter, ifs, 0⟩] scope pos) spos :: rest) env) h₀ h R := by
  subst hL
  intro s E Q hh ht hQ
  refine wpAny_execs_cons (wpAny_with_toks ht (wpAny_Assign_ListComp_free p F hsw hclos hcell hkind hnames hx hy hp (Ok.go hi hh ht ?_) hs))
  rintro xv h₁ tk h1 e₁ r
  refine src xv h₁ e₁ r _ _ _ rfl h1 ?_
  rintro I fp wr St h₂ tk₂ h2 W st hfp hwr e₂
  have F₂ : Fr h₀ env.locals h₂ m := (Fr₀.keeps e₁).keeps e₂
  have hLw : env.locals ∉ wr := fun hb => by
    obtain ⟨o, _, _, ho, _⟩ := (Fr₀.keeps e₁).ns
    rw [hwr _ hb] at ho; cases ho
  refine ⟨I, fp, wr, n, P, St, m, rfl, W, hn, st, hfp, hLw, F₂.ns, quietC (h₁ := h₁) e₂ h2 hwr (fun C i v h₃ m₃ a b c d => tests C i v h₃ m₃ a (e₁.trans b) c d) (fun C i v h₃ m₃ a a' b c d => elts C i v h₃ m₃ a a' (e₁.trans b) c d), ?_⟩
  intro D h' tk₃ ys vs hD hLs hPl hlen hP hpair hns hk h3
  have hk' : ∀ b o, b ≠ env.locals → h.get? b = some o → h'.get? b = some o := fun b o hb q => hk b o hb (fun hw => by have := e₁ b o q; rw [hwr b hw] at this; cases this) (e₂ b o (e₁ b o q))
  refine k D h' ⟨ys, vs, (e₁.trans e₂).fresh hD, hPl, hlen, hP, hpair⟩ ⟨hns, fun b o q => hk' b o (fun hb => ?_) (Fr₀.keep b o q), Fr₀.above⟩ hk' _ E Q rfl h3 hQ
  have := Heap.lt_size q
  rw [hb] at this
  exact Nat.lt_irrefl _ (Nat.lt_of_lt_of_le this Fr₀.above)
end
end Mine

namespace Mine
section
variable {prog : Program} {w : World} {A : Around} {h : Heap} {R : Value → Heap → Prop}
theorem Ok.fnC {f : Addr} {fd : FuncData} {args : List Value} {binds : List (Str × Value)} {body : List Stmt} {o : Obj} (hd : A.depth < recursionLimit) (ho : h.get? f = some o) (hdat : o.data = .func fd) (hlim : h.NoLimit)
    (hcd : h.CodeRec fd.code fd.qualname) (hbody : fd.body = .stmts body) (hb : bindArgs fd ⟨args, []⟩ = Pure.pure binds) (hclo : fd.closure = [])
    (hkind : ∀ x ∈ binds, fd.scope.names.lookup x.1 = some .local ∨ (fd.scope.names.lookup x.1 = some .cell ∧ ((cellsFrom (h.objs.size + 1) fd.scope.names []).lookup x.1).isSome = true))
    (y : ∀ h₁, Fr h h.objs.size h₁ (bindL (callEnvC fd h.objs.size f).kindOf binds fun _ => Option.none) → (∀ n c, (callEnvC fd h.objs.size f).cells.lookup n = some c → h₁.IsCell c (bindC (callEnvC fd h.objs.size f).kindOf binds (fun _ => Option.none) n)) →
      Run prog w (A.deeper (callEnvC fd h.objs.size f)) (execs body (callEnvC fd h.objs.size f)) h h₁ R)
    (hco : fd.scope.isCoroutine = false := by rfl) (hgen : fd.scope.isGenerator = false := by rfl) (hk : fd.scope.kind = .function := by rfl) : Ok prog w A (call (.ref f) args) h R := by
  intro s E Q hh ht hQ
  subst hh
  refine wpAny_call (codeAny_call_function hd ho hdat hco hgen hbody hcd ?_)
  rw [hb, hclo]
  refine wpAny_pure (wpAny_with_toks ht (wpAny_newFunctionEnv_cells hk hkind fun env he s₁ I h1 => ?_))
  subst he
  refine ⟨hlim.keeps I.toInCall.keep, codeAny_func ?_⟩
  obtain ⟨h₁, tk, rfl⟩ := I.toInCall.same
  exact y h₁ ⟨I.toInCall.ns, I.toInCall.keep, Nat.le_refl _⟩ I.cell _ _ _ rfl h1 fun v h' tk' h2 e r => hQ v h' tk' h2 e r
end
end Mine

namespace Mine
section
variable {prog : Program} {w : World} {A : Around} {h : Heap} {env : Env}

def IsP (v : Value) (lo : Option Int) : Prop := ∃ l : Option (Int × Tok), v = partValue l ∧ l.map (·.1) = lo
theorem IsP.none : IsP .none Option.none := ⟨Option.none, rfl, rfl⟩
theorem IsP.int (i : Int) (t : Tok) : IsP (.int i t) (some i) := ⟨some (i, t), rfl, rfl⟩
theorem Ok.partNone : Ok prog w A (evalPart Option.none env) h (fun v _ => IsP v Option.none) := Ok.pure IsP.none
theorem Ok.partSome {e : PySem.Expr} {i : Int} (x : Ok prog w A (eval e env) h (fun v _ => ∃ t, v = .int i t)) : Ok prog w A (evalPart (some e) env) h (fun v _ => IsP v (some i)) := by
  rw [evalPart_some]
  exact x.mono fun a h' _ ⟨t, e⟩ => e ▸ IsP.int i t

theorem Ok.slice {value : PySem.Expr} {lower upper : Option PySem.Expr} {p pos : Pos} {x : Str} {t : Tok} {lo hi : Option Int} (hx : x.length ≤ sizeLine)
    (hv : Ok prog w A (eval value env) h (fun a _ => a = .str x t)) (hl : ∀ h₁, Ext h h₁ → Ok prog w A (evalPart lower env) h₁ (fun v _ => IsP v lo))
    (hu : ∀ h₁, Ext h h₁ → Ok prog w A (evalPart upper env) h₁ (fun v _ => IsP v hi)) (ht' : ∀ o r, letTemporaryGo value o r = Pure.pure () := by intro _ _; rfl) :
    Ok prog w A (eval (.Subscript value (.Slice lower upper Option.none p) pos) env) h (fun v _ => ∃ t, v = .str (Txt.slice x lo hi) t) := by
  refine Ok.mk fun s E Q hh ht hQ => ?_
  refine wpAny_Subscript_str_slice (Ok.go hv hh ht ?_) ht'
  rintro a h₁ tk h1 e₁ rfl
  refine Ok.go (hl h₁ e₁) rfl h1 ?_
  rintro vl h₂ tk₂ h2 e₂ ⟨l, rfl, hl'⟩
  refine Ok.go (hu h₂ (e₁.trans e₂)) rfl h2 ?_
  rintro vu h₃ tk₃ h3 e₃ ⟨u, rfl, hu'⟩
  refine ⟨x, t, l, u, rfl, rfl, rfl, ?_⟩
  subst hl' hu'
  exact post_val_or_str ⟨Nat.le_trans (Txt.slice_le x _ _) hx, fun t' k => hQ _ _ k (((e₁.trans e₂).trans e₃).trans (Ext.push _ _)) ⟨t', rfl⟩⟩

theorem Ok.strItem {value slice : PySem.Expr} {x : Str} {t u : Tok} {k c : Nat} (hk : k < 2 ^ 24) (hc : x.cps[k]? = some c)
    (hs : subscripted slice false (.str x t) (.int k u) = operate [.str x t, .int k u] (getItem (.str x t) (.int k u)) := by with_unfolding_all rfl) :
    Ok prog w A (subscriptTail value slice (.str x t) (.int k u)) h (fun v _ => ∃ t, v = .str (S [c]) t) := by
  intro s E Q hh ht hQ
  subst hh
  refine tail_any (typeIs_str _ _ _) F.slot_str_getitem.lookup (P.getItem_str (c := c) ?_ ?_ ?_) hs
  · rw [decide_eq_false (by omega), decide_eq_false (by omega)]; rfl
  · exact StrLaws.at_nonneg (by omega) (by simpa using hc)
  · exact hQ _ s.heap _ (by omega) (Ext.refl _) ⟨_, rfl⟩
theorem Ok.listItem {value slice : PySem.Expr} {l : Addr} {its : Array Value} {u : Tok} {k : Int} {v : Value} (hl : h.IsList l its) (h0 : 0 ≤ k) (hk : k < 2 ^ 63) (hx : its[k.toNat]? = some v)
    (hs : subscripted slice false (.ref l) (.int k u) = operate [.ref l, .int k u] (getItem (.ref l) (.int k u)) := by with_unfolding_all rfl) :
    Ok prog w A (subscriptTail value slice (.ref l) (.int k u)) h (fun a _ => a = v) := by
  intro s E Q hh ht hQ
  subst hh
  exact tail_any hl.typeIs slot_list_getitem.lookup (wpAny_getItem_list hl h0 hk hx (hQ _ s.heap _ ht (Ext.refl _) rfl)) hs
theorem Ok.addInt {a b : Int} {t u : Tok} : Ok prog w A (binaryOp .Add (.int a t) (.int b u)) h (fun v _ => ∃ t, v = .int (a + b) t) := by
  intro s E Q hh ht hQ
  subst hh
  exact add_int (hQ _ s.heap _ (by omega) (Ext.refl _) ⟨_, rfl⟩)
theorem Ok.eqStr {x y : Str} {t u : Tok} : Ok prog w A (compareOp .Eq (.str x t) (.str y u)) h (fun v _ => v = .bool (x == y)) := by
  intro s E Q hh ht hQ
  subst hh
  exact PyProof.Rows.eq_str (hQ _ s.heap _ ht (Ext.refl _) rfl)
theorem Ok.range1 {n : Int} {t : Tok} : Ok prog w A (call (.type "range") [.int n t]) h (fun v h' => ∃ r t u w, v = .ref r ∧ h.get? r = Option.none ∧ IsRange h' r 0 n 1 t u w) := by
  intro s E Q hh ht hQ
  subst hh
  exact call_range_1 (hQ _ _ _ (by omega) (Ext.push _ _) ⟨_, _, _, _, rfl, size_fresh, IsRange.new _ _ _ _ _ _ _⟩)
theorem Ok.callT {func e : PySem.Expr} {rest : List PySem.Expr} {pos : Pos} {T : String} {R : List Value → Heap → Prop} {R' : Value → Heap → Prop}
    (he : starEach (e :: rest) env = (false, eval e env) :: starEach rest env)
    (hf : Ok prog w A (eval func env) h (fun a _ => a = .type T)) (x : ∀ h₁, Ext h h₁ → Ok prog w A (spliced (backTo pos (starEach (e :: rest) env))) h₁ R)
    (y : ∀ vs h₁, Ext h h₁ → R vs h₁ → Ok prog w A (call (.type T) vs) h₁ R') (hpl : ((backTo pos (starEach rest env)).any fun x => x.fst) = false := by rfl)
    (hev : eval (.Call func (e :: rest) [] pos) env = (do callWith pos (← eval func env) [] (backTo pos (starEach (e :: rest) env)) (backToKw pos (keywordEach [] env))) := by rfl) :
    Ok prog w A (eval (.Call func (e :: rest) [] pos) env) h R' := by
  intro s E Q hh ht hQ
  refine Call_ (hf s E _ hh ht fun a h₁ tk h1 e₁ r => ?_) hev
  subst r
  exact PyProof.Rows.callWith_type1 (x h₁ e₁ _ E _ rfl h1 fun vs h₂ tk₂ h2 e₂ r₂ => y vs h₂ (e₁.trans e₂) r₂ _ E Q rfl h2 fun c h₃ tk₃ h3 e₃ r₃ => hQ c h₃ tk₃ h3 ((e₁.trans e₂).trans e₃) r₃) he hpl

theorem small_up {n : Nat} (hn : n ≤ sizeLine) : Builtin.Range.small 0 n 1 = true ∧ Builtin.Range.rangeSize 0 n 1 = ((n : Nat) : Int) := by
  have hs : sizeLine = 16777216 := rfl
  have e : Builtin.Range.rangeSize 0 n 1 = ((n : Nat) : Int) := by
    unfold Builtin.Range.rangeSize
    rw [if_pos (by decide)]
    split <;> omega
  refine ⟨?_, e⟩
  unfold Builtin.Range.small
  rw [e]
  unfold Builtin.Range.rangeFitsLong
  rw [if_pos (by decide : (1 : Int) > 0)]
  simp only [Bool.and_eq_true, Bool.or_eq_true, decide_eq_true_eq]
  refine ⟨⟨⟨⟨?_, ?_⟩, ?_⟩, ?_⟩, .inr ?_⟩ <;> omega
end
end Mine

namespace Mine
/-- what _law_parted hands back -/
def partD (x : Str) : PyData := match plc (Ls x) with
  | i :: j :: _ => .list [.str (Txt.slice x none (some (i : Int))), .str (Txt.slice x (some ((i : Int) + 1)) (some (j : Int))), .str (Txt.slice x (some ((j : Int) + 1)) none)]
  | _ => .tuple [.none, .none, .str x]

theorem ints_filter {p : Value → Bool} {q : Nat → Bool} (hpq : ∀ (k : Nat) t, p (.int (k : Int) t) = q k) : ∀ (vs : List Value) (off : Nat), (∀ j v, vs[j]? = some v → ∃ t, v = Value.int ((off + j : Nat) : Int) t) →
    IntsAre (vs.filter p) (((List.range' off vs.length).filter q).map fun k : Nat => (k : Int))
  | [], off, _ => .nil
  | v :: vs, off, h => by
    obtain ⟨t, rfl⟩ := h 0 v rfl
    have ih := ints_filter hpq vs (off + 1) fun j u hu => by
      obtain ⟨t, e⟩ := h (j + 1) u (by simpa using hu)
      exact ⟨t, by rw [e]; congr 1; omega⟩
    rw [List.length_cons, List.range'_succ]
    cases hq : q off with
    | true =>
      rw [List.filter_cons_of_pos (by simpa [hpq] using hq), List.filter_cons_of_pos hq]
      exact .cons _ t ih
    | false =>
      rw [List.filter_cons_of_neg (by simp [hpq, hq]), List.filter_cons_of_neg (by simp [hq])]
      exact ih
theorem paired_eq {α : Type} : ∀ {a b : List α}, Paired (fun v y => y = v) a b → b = a
  | _, _, .nil => rfl
  | _, _, .cons e r => by rw [e, paired_eq r]

/-- the test of a place, as a function of the value -/
def isTick (x : Str) (v : Value) : Bool := match v with | .int k _ => decide ((Ls x)[k.toNat]? = some 39) | _ => false
theorem places_out {x : Str} {vs : List Value} {ys : Array Value} (hlen : vs.length = x.length) (hP : ∀ j v, vs[j]? = some v → j < x.length ∧ ∃ t, v = .int (0 + (j : Int) * 1) t) (hp : Paired (fun v y => y = v) (vs.filter (isTick x)) ys.toList) :
    IntsAre ys.toList ((plc (Ls x)).map fun k : Nat => (k : Int)) := by
  rw [paired_eq hp]
  have := ints_filter (p := isTick x) (q := fun i => decide ((Ls x)[i]? = some 39)) (fun k t => by simp [isTick]) vs 0 (fun j v hv => by
    obtain ⟨_, t, e⟩ := hP j v hv
    exact ⟨t, by rw [e]; congr 1; omega⟩)
  rw [hlen] at this
  rwa [plc, Ls_length, List.range_eq_range']
theorem intsAre_length {vs : List Value} {ns : List Int} (h : IntsAre vs ns) : vs.length = ns.length := h.length
theorem intsAre_get : ∀ {vs : List Value} {ns : List Int}, IntsAre vs ns → ∀ (i : Nat) (n : Int), ns[i]? = some n → ∃ t, vs[i]? = some (.int n t)
  | _, _, .cons m t _, 0, n, e => by simp at e; exact ⟨t, by rw [e]; rfl⟩
  | _, _, .cons _ _ h, i + 1, n, e => by simpa using intsAre_get h i n (by simpa using e)

theorem plc_lt {l : List Nat} {k : Nat} (h : k ∈ plc l) : k < l.length := by
  rw [plc, List.mem_filter] at h
  exact List.mem_range.mp h.1
theorem plc_len (l : List Nat) : (plc l).length ≤ l.length := by
  rw [plc]
  exact Nat.le_trans (List.length_filter_le _ _) (by simp)

section
variable {prog : Program} {w : World} {A : Around} {mg mb : Str → Option Value} {h : Heap} {env : Env}

/-- text[k] == "'" in a block that keeps the text in a cell -/
theorem tick_test {name : Str} {x : Str} {t tk : Tok} {C c : Addr} {i : Nat} {m : Str → Option Value} {pa pb pc pd pe : Pos} (hk : env.scope.kind = .function) (hl : env.kindOf name = some .cell) (hc : env.cells.lookup name = some c) (hv : h.IsCell c (some (.str x t)))
    (hC : env.locals = C) (hn : h.Ns C m) (hkk : env.kindOf "k" = some .local) (hm : m "k" = some (.int (i : Int) tk)) (hi : i < x.length) (hx : x.length ≤ sizeLine) (hd : (name == ("__debug__" : Str)) = false) :
    Ok prog w A (forIn [PySem.Expr.Compare (.Subscript (.Name name pa) (.Name "k" pb) pc) [.Eq] [.Constant (.str "'") 0 pd] pe] true fun c r => if r = true then do let ok ← isTrue c env (eval c env); Pure.pure (ForInStep.yield ok) else Pure.pure (ForInStep.yield r)) h
      (fun ok _ => ok = decide ((Ls x)[i]? = some 39)) := by
  subst hC
  have hsl : sizeLine = 16777216 := rfl
  refine Ok.mk fun s E Q hh ht hQ => ?_
  refine wpAny_tests_one (Ok.go (R := fun ok _ => ok = decide ((Ls x)[i]? = some 39)) ?_ hh ht fun a h' tk' h1 e r => hQ a h' tk' e r)
  have hi' : i < x.cps.size := hi
  obtain ⟨c, hc'⟩ : ∃ c, x.cps[i]? = some c := ⟨x.cps[i], by simp [hi']⟩
  have hcl : (Ls x)[i]? = some c := by simpa [Ls] using hc'
  refine Ok.test (R₁ := fun v _ => ∃ t, v = .str (S [c]) t) (R₂ := fun v _ => ∃ t, v = .str "'" t) ?_ (fun _ _ _ _ => Ok.str) ?_
  · refine Ok.sub (R₁ := fun v _ => v = .str x t) (R₂ := fun v _ => v = .int (i : Int) tk) (Ok.cell hk hl hc hv hd) (fun _ h₁ e₁ _ => Ok.local hk hkk (hn.keeps e₁) hm) ?_
    rintro a b h₁ h₂ e₁ e₂ rfl rfl
    exact Ok.strItem (by omega) hc'
  · rintro a b h₁ h₂ e₁ e₂ ⟨t₁, rfl⟩ ⟨t₂, rfl⟩
    refine Ok.eqStr.mono ?_
    rintro v h₃ e₃ rfl
    refine ⟨_, rfl, ?_⟩
    rw [hcl, tick_is]
    by_cases q : c = 39
    · subst q; decide
    · rw [decide_eq_false (by simpa using q)]
      apply beq_eq_false_iff_ne.mpr
      intro e
      have := congrArg Ls e
      simp [Ls_S] at this
      exact q this

theorem parted_call {x : Str} {t : Tok} (W : Wd mg mb h) (hd : A.depth < recursionLimit) (hA : A.handled = none) (hx : x.length ≤ sizeLine) :
    Ok prog w A (call (.ref 63) [.str x t]) h (Gives h (partD x)) := by
  have hsl : sizeLine = 16777216 := rfl
  refine Ok.fnC (fd := fdParted) (binds := [("text", .str x t)]) hd W.oParted rfl W.lim W.cParted rfl (by rfl) rfl (by intro y hy; rw [List.mem_singleton.mp hy]; exact .inr ⟨rfl, rfl⟩) fun h₁ F cells => ?_
  have W₁ := W.keeps F.keep
  have hc : h₁.IsCell (h.objs.size + 1) (some (.str x t)) := cells "text" _ rfl
  have hsm := small_up hx
  refine Run.comp (n := x.length) (P := fun i v => i < x.length ∧ ∃ t, v = .int (0 + (i : Int) * 1) t) (isTick x) (fun v y => y = v)
    (R₁ := fun v h' => ∃ r t u w, v = .ref r ∧ IsRange h' r 0 x.length 1 t u w) rfl F (by rfl) (by rfl) (by decide) rfl (by decide) rfl rfl hx ?_ ?_ ?_ ?_ ?_
  · refine Ok.callT (T := "range") (R := fun vs _ => ∃ t, vs = [.int x.length t]) rfl (Ok.builtin rfl rfl W₁.g W₁.gRange W₁.b ((W₁.bi "range" (by decide)).trans (by rfl))) (fun h₂ e₂ => ?_) ?_
    · refine (Ok.args1 (R := fun v _ => ∃ t, v = .int x.length t) rfl ?_).mono (by rintro a h' _ ⟨v, rfl, t, rfl⟩; exact ⟨t, rfl⟩)
      have W₂ := W₁.keeps e₂
      refine Ok.callB (id := "len") (R := fun vs _ => vs = [.str x t]) rfl (Ok.builtin rfl rfl W₂.g W₂.gLen W₂.b ((W₂.bi "len" (by decide)).trans (by rfl))) (fun h₃ e₃ => ?_) (fun vs h₃ e₃ r => ?_)
      · exact (Ok.args1 rfl (Ok.cell rfl rfl rfl ((hc.keeps e₂).keeps e₃))).mono (by rintro a h' _ ⟨v, rfl, rfl⟩; rfl)
      · subst r; exact Ok.lenStr hx
    · rintro vs h₂ e₂ ⟨t', rfl⟩
      exact Ok.range1.mono (by rintro v h' _ ⟨r, t, u, w, rfl, _, q⟩; exact ⟨r, t, u, w, rfl, q⟩)
  · rintro xv h₂ e₂ ⟨r, t', u, w', rfl, hr⟩
    exact Src.range hA hr hsm.1 hsm.2
  · rintro C i v h₃ m₃ ⟨hi, t', rfl⟩ e₃ hn hm
    have e0 : (0 + (i : Int) * 1) = (i : Int) := by omega
    rw [e0] at hm ⊢
    refine (tick_test rfl rfl rfl (hc.keeps e₃) rfl hn rfl hm hi hx (by decide)).mono ?_
    rintro a h' _ rfl
    simp [isTick]
  · rintro C i v h₃ m₃ _ _ e₃ hn hm
    exact Ok.local rfl rfl hn hm
  · rintro D h₂ ⟨ys, vs, hD, ⟨n, hL⟩, hlen, hP, hpair⟩ F₂ hk
    have hI := places_out hlen hP hpair
    have hc₂ : h₂.IsCell (h.objs.size + 1) (some (.str x t)) := by
      obtain ⟨o, ho, hd⟩ := hc
      exact ⟨o, hk _ o (Nat.succ_ne_self _) ho, hd⟩
    have W₂ := W.keeps F₂.keep
    have hLs : h₂.IsList D ys := ⟨_, hL, rfl, _, rfl⟩
    have hsz : ys.size = (plc (Ls x)).length := by
      have := intsAre_length hI
      rw [List.length_map] at this
      rw [← this]; simp
    have hpl := plc_len (Ls x)
    rw [Ls_length] at hpl
    refine Run.ifs (R₁ := fun b _ => b = decide ((plc (Ls x)).length < 2)) ?_ ?_ ?_
    · refine Ok.test (R₁ := fun v _ => ∃ t, v = .int ys.size t) (R₂ := fun v _ => ∃ t, v = .int 2 t) ?_ (fun _ _ _ _ => Ok.int) ?_
      · refine Ok.callB (id := "len") (R := fun vs _ => vs = [.ref D]) rfl (Ok.builtin rfl rfl W₂.g W₂.gLen W₂.b ((W₂.bi "len" (by decide)).trans (by rfl))) (fun h₄ e₄ => ?_) (fun vs h₄ e₄ r => ?_)
        · exact (Ok.args1 rfl (Ok.local rfl rfl (F₂.ns.keeps e₄) (by rfl))).mono (by rintro a h' _ ⟨v, rfl, rfl⟩; rfl)
        · subst r; exact Ok.lenList (hLs.at fun o e => e₄ _ o e) (by rw [hsz]; omega)
      · rintro a b h₄ h₅ e₄ e₅ ⟨t₁, rfl⟩ ⟨t₂, rfl⟩
        exact Ok.same (fun _ _ _ q => lt_int q) ⟨_, rfl, by rw [hsz]; exact decide_eq_decide.mpr (by omega)⟩
    · intro h₄ e₄ hlt
      have hlt' := of_decide_eq_true hlt.symm
      refine Run.ret (R₁ := Gives h (partD x)) (Ext.trans F₂.keep e₄) ?_ (fun _ _ _ r => r)
      refine Ok.tuple (R := fun vs h' => vs = [.none, .none, .str x t] ∧ Ext h h') ?_ ?_
      · refine Ok.argsC rfl Ok.none fun v h₅ e₅ r => ?_
        subst r
        refine Ok.argsC rfl Ok.none fun v h₆ e₆ r => ?_
        subst r
        refine (Ok.args1 rfl (Ok.cell rfl rfl rfl (((hc₂.keeps e₄).keeps e₅).keeps e₆))).mono ?_
        rintro a h₇ e₇ ⟨v, rfl, rfl⟩
        exact ⟨rfl, (((Ext.trans F₂.keep e₄).trans e₅).trans e₆).trans e₇⟩
      · rintro vs h₅ e₅ ⟨rfl, k⟩
        refine ⟨by show 3 ≤ sizeLine; decide, _, _, rfl, ?_, Heap.get?_push_size _ rfl, _, _, [.none, .none, .str x], rfl, ?_, .inr ⟨rfl, ?_⟩⟩
        · exact k.fresh size_fresh
        · exact .cons .none (.cons .none (.cons (.str x t) .nil))
        · unfold partD
          match hq : plc (Ls x), hlt' with
          | [], _ => rfl
          | [i], _ => rfl
          | i :: j :: r, q => simp at q; omega
    · intro h₄ e₄ hlt
      have hlt' := of_decide_eq_false hlt.symm
      obtain ⟨i, j, r, hij⟩ : ∃ i j r, plc (Ls x) = i :: j :: r := by
        match hq : plc (Ls x), hlt' with
        | [], q => simp at q
        | [i], q => simp at q
        | i :: j :: r, _ => exact ⟨i, j, r, rfl⟩
      have hi : i < x.length := by rw [← Ls_length]; exact plc_lt (by rw [hij]; simp)
      have hj : j < x.length := by rw [← Ls_length]; exact plc_lt (by rw [hij]; simp)
      obtain ⟨ti, hgi⟩ := intsAre_get hI 0 (i : Int) (by rw [hij]; rfl)
      obtain ⟨tj, hgj⟩ := intsAre_get hI 1 (j : Int) (by rw [hij]; rfl)
      refine Run.ret (R₁ := Gives h (partD x)) (Ext.trans F₂.keep e₄) ?_ (fun _ _ _ r => r)
      have item : ∀ {p₁ p₂ p₃ : Pos} {k : Nat} {q : Nat} {tq : Tok} h', Ext h₂ h' → ys[q]? = some (Value.int (k : Int) tq) → q < 2 → Ok prog w (A.deeper (callEnvC fdParted h.objs.size 63)) (eval (.Subscript (.Name "places" p₁) (.Constant (.int (q : Int)) 0 p₂) p₃) (callEnvC fdParted h.objs.size 63)) h' (fun v _ => ∃ t, v = .int (k : Int) t) := by
        intro p₁ p₂ p₃ k q tq h' e' hq hq2
        refine Ok.sub (R₁ := fun v _ => v = .ref D) (R₂ := fun v _ => ∃ t, v = .int (q : Int) t) (Ok.local rfl rfl (F₂.ns.keeps e') (by rfl)) (fun _ _ _ _ => Ok.int) ?_
        rintro a b h₅ h₆ e₅ e₆ rfl ⟨t', rfl⟩
        exact (Ok.listItem ((hLs.at fun o e => e' _ o e).at fun o e => e₆ _ o (e₅ _ o e)) (by omega) (by omega) (by simpa using hq)).mono (by rintro v h' _ rfl; exact ⟨_, rfl⟩)
      have hgi' : ys[0]? = some (Value.int (i : Int) ti) := by simpa using hgi
      have hgj' : ys[1]? = some (Value.int (j : Int) tj) := by simpa using hgj
      refine Ok.list (R := fun vs h' => ∃ t₁ t₂ t₃, vs = [.str (Txt.slice x none (some (i : Int))) t₁, .str (Txt.slice x (some ((i : Int) + 1)) (some (j : Int))) t₂, .str (Txt.slice x (some ((j : Int) + 1)) none) t₃] ∧ Ext h h') ?_ ?_
      · refine Ok.argsC rfl (Ok.slice (lo := none) (hi := some (i : Int)) hx (Ok.cell rfl rfl rfl (hc₂.keeps e₄)) (fun _ _ => Ok.partNone) (fun h₅ e₅ => Ok.partSome (item (q := 0) h₅ (e₄.trans e₅) hgi' (by omega)))) fun v h₅ e₅ r => ?_
        obtain ⟨t₁, rfl⟩ := r
        refine Ok.argsC rfl (Ok.slice (lo := some ((i : Int) + 1)) (hi := some (j : Int)) hx (Ok.cell rfl rfl rfl ((hc₂.keeps e₄).keeps e₅)) (fun h₆ e₆ => Ok.partSome ?_) (fun h₆ e₆ => Ok.partSome (item (q := 1) h₆ ((e₄.trans e₅).trans e₆) hgj' (by omega)))) fun v h₆ e₆ r => ?_
        · refine Ok.binop (item (q := 0) h₆ ((e₄.trans e₅).trans e₆) hgi' (by omega)) (R₂ := fun v _ => ∃ t, v = .int 1 t) (fun _ _ _ _ => Ok.int) ?_
          rintro a b h₇ h₈ e₇ e₈ ⟨t₂, rfl⟩ ⟨t₃, rfl⟩
          exact Ok.addInt
        obtain ⟨t₂, rfl⟩ := r
        refine (Ok.args1 rfl (Ok.slice (lo := some ((j : Int) + 1)) (hi := none) hx (Ok.cell rfl rfl rfl (((hc₂.keeps e₄).keeps e₅).keeps e₆)) (fun h₇ e₇ => Ok.partSome ?_) (fun _ _ => Ok.partNone))).mono ?_
        · refine Ok.binop (item (q := 1) h₇ (((e₄.trans e₅).trans e₆).trans e₇) hgj' (by omega)) (R₂ := fun v _ => ∃ t, v = .int 1 t) (fun _ _ _ _ => Ok.int) ?_
          rintro a b h₇ h₈ e₇ e₈ ⟨t₂, rfl⟩ ⟨t₃, rfl⟩
          exact Ok.addInt
        · rintro a h₇ e₇ ⟨v, rfl, t₃, rfl⟩
          exact ⟨t₁, t₂, t₃, rfl, (((Ext.trans F₂.keep e₄).trans e₅).trans e₆).trans e₇⟩
      · rintro vs h₅ e₅ ⟨t₁, t₂, t₃, rfl, k⟩
        refine ⟨by show 3 ≤ sizeLine; decide, _, _, rfl, ?_, Heap.get?_push_size _ rfl, _, _, [.str (Txt.slice x none (some (i : Int))), .str (Txt.slice x (some ((i : Int) + 1)) (some (j : Int))), .str (Txt.slice x (some ((j : Int) + 1)) none)], rfl, ?_, .inl ⟨rfl, ?_⟩⟩
        · exact k.fresh size_fresh
        · exact .cons (.str _ _) (.cons (.str _ _) (.cons (.str _ _) .nil))
        · unfold partD; rw [hij]
end
end Mine

namespace Mine
def inSafe (c : Nat) : Bool := decide (c ∈ [97, 65, 37, 50, 48])
/-- a word, not empty, of a's, A's and parts of %20 alone -/
def plainW (l : List Nat) : Bool := decide (l ≠ []) && l.all inSafe
theorem safe_is : Ls (Str.ofString "aA%20") = [97, 65, 37, 50, 48] := by decide

theorem signs_get {x : Str} {vs : List Value} (hP : ∀ (j : Nat) (v : Value), vs[j]? = some v → SignAt x j v) : ∀ (j : Nat) (v : Value), vs[j]? = some v → ∃ c u, (Ls x)[j]? = some c ∧ v = Value.str (S [c]) u := by
  intro j v hv
  obtain ⟨c, u, h1, h2⟩ := hP j v hv
  exact ⟨c, u, by simpa [Ls] using h1, h2⟩
theorem signs_filter {p : Value → Bool} {q : Nat → Bool} (hpq : ∀ c t, p (.str (S [c]) t) = q c) : ∀ (vs : List Value) (l : List Nat), vs.length = l.length → (∀ (j : Nat) (v : Value), vs[j]? = some v → ∃ c u, l[j]? = some c ∧ v = Value.str (S [c]) u) →
    CarriedAll (vs.filter p) ((l.filter q).map fun c => PyData.str (S [c]))
  | [], [], _, _ => .nil
  | v :: vs, c :: l, hlen, h => by
    obtain ⟨c', u, h1, rfl⟩ := h 0 v rfl
    have e : c' = c := by simpa using h1.symm
    subst e
    have ih := signs_filter hpq vs l (by simpa using hlen) fun j v hv => by simpa using h (j + 1) v (by simpa using hv)
    cases hq : q c' with
    | true =>
      rw [List.filter_cons_of_pos (by simpa [hpq] using hq), List.filter_cons_of_pos hq]
      exact .cons (.str _ _) ih
    | false =>
      rw [List.filter_cons_of_neg (by simp [hpq, hq]), List.filter_cons_of_neg (by simp [hq])]
      exact ih
theorem signs_map {g : Nat → Str} : ∀ (vs ys : List Value) (l : List Nat), vs.length = l.length → (∀ (j : Nat) (v : Value), vs[j]? = some v → ∃ c u, l[j]? = some c ∧ v = Value.str (S [c]) u) →
    Paired (fun v y => ∀ c t, v = Value.str (S [c]) t → ∃ t', y = Value.str (g c) t') vs ys → StrsAre ys (l.map g)
  | [], _, [], _, _, .nil => .nil
  | v :: vs, _, c :: l, hlen, h, .cons (b := y) hy r => by
    obtain ⟨c', u, h1, rfl⟩ := h 0 v rfl
    have e : c' = c := by simpa using h1.symm
    subst e
    obtain ⟨t', rfl⟩ := hy c' u rfl
    exact .cons _ t' (signs_map vs _ l (by simpa using hlen) (fun j v hv => by simpa using h (j + 1) v (by simpa using hv)) r)
theorem strs_values : ∀ {ys : List Value} {texts : List Str}, StrsAre ys texts → ∃ l, strValues l = ys ∧ l.map (·.1) = texts
  | _, _, .nil => ⟨[], rfl, rfl⟩
  | _, _, .cons y t r => by
    obtain ⟨l, h1, h2⟩ := strs_values r
    exact ⟨(y, t) :: l, by rw [← h1]; rfl, by rw [← h2]; rfl⟩
theorem join_empty : ∀ texts : List Str, Ls (Str.join (Str.ofString "") texts) = (texts.map Ls).flatten
  | [] => rfl
  | [x] => by simp [Str.join]
  | x :: y :: r => by
    have e : Str.join (Str.ofString "") (x :: y :: r) = x ++ Str.ofString "" ++ Str.join (Str.ofString "") (y :: r) := rfl
    have e0 : Ls (Str.ofString "") = [] := by decide
    rw [e, Ls_append, Ls_append, join_empty (y :: r), e0]
    simp
theorem sub_compare {a b : PyData} : PyData.eqv a b = PyData.eqv a b := rfl
theorem eqv_nil (ds : List PyData) : PyData.eqv (.list ds) (.list []) = decide (ds = []) := by
  cases ds <;> simp [PyData.eqv, PyData.eqvAll]
theorem all_filter {l : List Nat} {p : Nat → Bool} : (l.filter (fun c => !p c) = []) ↔ l.all p = true := by
  rw [List.filter_eq_nil_iff, List.all_eq_true]
  constructor
  · intro h c hc; simpa using h c hc
  · intro h c hc; simpa using h c hc
theorem lay_strs : ∀ l : List Str, (∀ x ∈ l, PyData.strOk x = true) → PyData.canLayAll0 (l.map PyData.str) = true ∧ PyData.depthAll (l.map PyData.str) = 0
  | [], _ => ⟨rfl, rfl⟩
  | x :: l, h => by
    have ih := lay_strs l fun y hy => h y (.tail _ hy)
    have hx := h x (.head _)
    simp [PyData.canLayAll0, PyData.canLay0, PyData.depthAll, PyData.depth, ih, hx]
theorem shaped_strs {l : List Str} (h : ∀ x ∈ l, PyData.strOk x = true) : SeqAt.shaped (.list (l.map PyData.str)) = true := by
  have := lay_strs l h
  unfold SeqAt.shaped
  rw [PyData.canLay0, PyData.depth, this.1, this.2]; decide

abbrev signScope : Scope := ⟨.function, [(".0", .local), ("sign", .local)], false, false, []⟩

section
variable {prog : Program} {w : World} {A : Around} {h : Heap} {env : Env}
theorem Ok.boolAnd2 {a b : PySem.Expr} {pos : Pos} {whole : Sem Value} {c d : Bool} (x : Ok prog w A (isTrue a env (eval a env)) h (fun r _ => r = c)) (y : ∀ h₁, Ext h h₁ → c = true → Ok prog w A (isTrue b env (eval b env)) h₁ (fun r _ => r = d)) :
    Ok prog w A (isTrue (.BoolOp .And [a, b] pos) env whole) h (fun r _ => r = (c && d)) := by
  intro s E Q hh ht hQ
  refine wpAny_isTrue_BoolOp (wpAny_allTrue_And_cons (Ok.go x hh ht ?_))
  rintro r h₁ tk h1 e₁ rfl
  cases hr : r with
  | false => exact hQ _ h₁ tk h1 e₁ (by rw [hr]; rfl)
  | true =>
    refine wpAny_allTrue_And_cons (Ok.go (y h₁ e₁ hr) rfl h1 ?_)
    rintro r' h₂ tk₂ h2 e₂ rfl
    cases hr' : r' with
    | false => exact hQ _ h₂ tk₂ h2 (e₁.trans e₂) (by rw [hr, hr']; rfl)
    | true => exact wpAny_allTrue_And_nil (hQ _ h₂ tk₂ h2 (e₁.trans e₂) (by rw [hr, hr']; rfl))

theorem cond_ok {x : Str} {t : Tok} {whole : Sem Value} {p₁ p₂ p₃ p₄ p₅ p₆ p₇ p₈ p₉ q₁ q₂ q₃ q₄ : Pos} (hA : A.handled = none) (hu : A.units + 64 < cLine) (hx : x.length ≤ sizeLine) (hok : ∀ c ∈ Ls x, c < 128)
    (hw : ∀ p h', Ext h h' → Ok prog w A (eval (.Name "word" p) env) h' (fun a _ => a = .str x t))
    (hclos : closureFor signScope env = Pure.pure []) (hsf : ∀ v, foldedSetIterable (.Name "word" p₆) env v = Pure.pure v) :
    Ok prog w A (isTrue (.BoolOp .And [.Compare (.Name "word" p₁) [.NotEq] [.Constant (.str "") 0 p₂] p₃,
      .Compare (.ListComp (.Name "sign" p₄) [⟨.Name "sign" p₅, .Name "word" p₆, [.Compare (.Name "sign" p₇) [.NotIn] [.Constant (.str "aA%20") 0 p₈] p₉], 0⟩] signScope q₁) [.Eq] [.List [] q₂] q₃] q₄) env whole) h
      (fun b _ => b = plainW (Ls x)) := by
  have e0 : Ls (Str.ofString "") = [] := by decide
  refine Ok.boolAnd2 (c := decide (Ls x ≠ [])) (d := (Ls x).all inSafe) ?_ ?_
  · refine Ok.test (R₁ := fun a _ => a = .str x t) (R₂ := fun v _ => ∃ t, v = .str "" t) (hw _ h (Ext.refl _)) (fun _ _ _ _ => Ok.str) ?_
    rintro a b h₁ h₂ e₁ e₂ rfl ⟨t', rfl⟩
    refine Ok.same (fun _ _ _ q => PyProof.Rows.ne_str q) ⟨_, rfl, ?_⟩
    by_cases q : Ls x = []
    · have : x = Str.ofString "" := Ls_inj (by rw [q, e0])
      rw [this, decide_eq_false (by simp [e0])]; decide
    · rw [decide_eq_true q]
      apply bne_iff_ne.mpr
      intro e; exact q (by rw [e, e0])
  · intro h₁ e₁ _
    refine Ok.test (R₁ := fun r h' => ∃ D, r = .ref D ∧ CompOut h₁ x.cps.size (SignAt x) (fun v => match v with | .str y _ => !inSafe ((Ls y).headD 0) | _ => false) (fun v y => y = v) D h')
      (R₂ := fun v h' => ∃ D n, v = .ref D ∧ h'.get? D = some { cls := .type "list", data := .seq #[] n }) ?_ ?_ ?_
    · refine Ok.comp (R₁ := fun a _ => a = .str x t) _ _ hclos (by decide) rfl (by decide) rfl hx (hw _ h₁ e₁) ?_ ?_ ?_ hsf
      · rintro xv h₂ e₂ rfl
        exact Src.str hA
      · rintro C i v h₃ m₃ ⟨c, u, hc, rfl⟩ e₃ hn hm
        refine Ok.mk fun s E Q hh ht hQ => ?_
        refine wpAny_tests_one (Ok.go (R := fun ok _ => ok = !inSafe c) ?_ hh ht fun a h' tk' h1 e r => hQ a h' tk' e (by rw [r]; rfl))
        refine Ok.test (R₁ := fun a _ => a = .str (S [c]) u) (R₂ := fun v _ => ∃ t, v = .str "aA%20" t) (Ok.local rfl rfl hn hm) (fun _ _ _ _ => Ok.str) ?_
        rintro a b h₄ h₅ e₄ e₅ rfl ⟨t', rfl⟩
        refine Ok.same (fun _ _ _ q => PyProof.Rows.notIn_str q) ⟨_, rfl, ?_⟩
        have := StrLaws.found_one (Str.ofString "aA%20") c
        rw [show S [c] = ⟨#[c]⟩ from rfl, this, inSafe, ← safe_is]; rfl
      · rintro C i v h₃ m₃ _ _ e₃ hn hm
        exact Ok.local rfl rfl hn hm
    · rintro a h₂ e₂ _
      refine Ok.list (R := fun vs _ => vs = []) Ok.args0 ?_
      rintro vs h₃ e₃ rfl
      exact ⟨by show 0 ≤ sizeLine; decide, _, _, rfl, Heap.get?_push_size _ rfl⟩
    · rintro a b h₂ h₃ e₂ e₃ ⟨D, rfl, ys, vs, hD, ⟨n, hL⟩, hlen, hP, hpair⟩ ⟨D', n', rfl, hL'⟩
      have hcar : CarriedAll ys.toList (((Ls x).filter fun c => !inSafe c).map fun c => PyData.str (S [c])) := by
        rw [paired_eq hpair]
        refine signs_filter (fun c t => rfl) vs (Ls x) (by rw [hlen]; simp [Ls]) (signs_get hP)
      have hL₃ : h₃.IsList D ys := ⟨_, e₃ _ _ hL, rfl, _, rfl⟩
      have hL₃' : h₃.IsList D' #[] := ⟨_, hL', rfl, _, rfl⟩
      intro s E Q hh ht hQ
      subst hh
      refine eq_dataH (reads_newData (ys := ys.toList) (by simpa using hL₃) hcar) (reads_newData (ys := []) hL₃' .nil) ?_ rfl hu (hQ _ s.heap s.toks ht (Ext.refl _) ⟨_, rfl, ?_⟩)
      · have e : ((Ls x).filter fun c => !inSafe c).map (fun c => PyData.str (S [c])) = (((Ls x).filter fun c => !inSafe c).map (fun c => S [c])).map PyData.str := by rw [List.map_map]; rfl
        rw [e]
        refine shaped_strs fun y hy => ?_
        obtain ⟨c, hc, rfl⟩ := List.mem_map.mp hy
        have := hok c (List.mem_filter.mp hc).1
        have : c < 1114112 := by omega
        simp [PyData.strOk, S, this]
      · rw [eqv_nil]
        by_cases q : (Ls x).all inSafe = true
        · rw [q, decide_eq_true]
          rw [all_filter.mpr q]; rfl
        · have q' : (Ls x).all inSafe = false := Bool.eq_false_iff.mpr q
          rw [q', decide_eq_false]
          intro e
          exact q (all_filter.mp (List.map_eq_nil_iff.mp e))

theorem Ok.joinL {sep : Str} {t : Tok} {D : Addr} {ys : Array Value} {texts : List Str} {B : Nat} (hl : h.IsList D ys) (hs : StrsAre ys.toList texts) (hB : ∀ y ∈ texts, y.length ≤ B) (hsz : texts.length * B + texts.length * sep.length ≤ 16777216) :
    Ok prog w A (call (.builtin "str.join") [.str sep t, .ref D]) h (fun v _ => ∃ t, v = .str (Str.join sep texts) t) := by
  refine Ok.mk fun s E Q hh ht hQ => ?_
  subst hh
  obtain ⟨l, h1, h2⟩ := strs_values hs
  have hl' : s.heap.IsList D (strValues l).toArray := by rw [h1]; simpa using hl
  refine SC.join hl' h2 ?_ (fun t' k => ?_)
  · unfold JoinOk
    rw [StrLaws.joinFits hB hsz]; rfl
  · have e : Txt.join sep texts = Str.join sep texts := StrLaws.glued_eq_join sep texts
    rw [e]
    exact hQ _ s.heap k (Ext.refl _) ⟨t', rfl⟩

abbrev repComp (iter : PySem.Expr) (p₃ p₄ p₅ p₆ p₇ p₈ p₉ q₁ : Pos) : PySem.Expr := .ListComp (.IfExp (.Compare (.Name "sign" p₃) [.Eq] [.Constant (.str "'") 0 p₄] p₅) (.Constant (.str "'\"'\"'") 0 p₆) (.Name "sign" p₇) p₈) [⟨.Name "sign" p₉, iter, [], 0⟩] signScope q₁
theorem rep_ok {iter : PySem.Expr} {y : Str} {pl : Sem Bool} {p₁ p₂ p₃ p₄ p₅ p₆ p₇ p₈ p₉ q₁ q₂ : Pos} (hA : A.handled = none) (hx : y.length ≤ 1048576)
    (hi : ∀ h', Ext h h' → Ok prog w A (eval iter env) h' (fun v _ => ∃ t, v = .str y t)) (hclos : closureFor signScope env = Pure.pure []) (hsf : ∀ v, foldedSetIterable iter env v = Pure.pure v)
    (hev : eval (.Call (.Attribute (.Constant (.str "") 0 p₁) "join" p₂) [repComp iter p₃ p₄ p₅ p₆ p₇ p₈ p₉ q₁] [] q₂) env = (do
      let ov ← eval (.Constant (.str "") 0 p₁) env
      standAt p₂.atName
      let (f, first) ← holding [ov] (getMethod ov "join" pl)
      callWith q₂ f first (backTo q₂ (starEach [repComp iter p₃ p₄ p₅ p₆ p₇ p₈ p₉ q₁] env)) [])) :
    Ok prog w A (eval (.Call (.Attribute (.Constant (.str "") 0 p₁) "join" p₂) [repComp iter p₃ p₄ p₅ p₆ p₇ p₈ p₉ q₁] [] q₂) env) h
      (fun v _ => ∃ t, v = .str (S (rep (Ls y))) t) := by
  have hsl : sizeLine = 16777216 := rfl
  refine Ok.mk fun s E Q hh ht hQ => ?_
  refine MethodCall_ (Ok.go (Ok.str (h := h)) hh ht ?_) hev
  rintro v h₁ tk h1 e₁ ⟨t₀, rfl⟩
  refine GM.join (callWith_method1 (Ok.go (Ok.args1 rfl (Ok.comp (n := y.cps.size) (P := SignAt y) (fun _ => true) (fun v y => ∀ c t, v = Value.str (S [c]) t → ∃ t', y = Value.str (S (q1 c)) t') (R₁ := fun v _ => ∃ t, v = .str y t) hclos (by decide) rfl (by decide) rfl (show y.length ≤ sizeLine by omega) (hi h₁ e₁) ?_ ?_ ?_ hsf)) rfl h1 ?_))
  · rintro xv h₂ e₂ ⟨t', rfl⟩
    exact Src.str hA
  · rintro C i v h₃ m₃ _ e₃ hn hm
    exact Ok.mk fun s E Q hh ht hQ => by subst hh; exact wpAny_tests_nil (hQ _ s.heap s.toks (Ext.refl _) rfl)
  · rintro C i v h₃ m₃ ⟨c, u, hc, rfl⟩ _ e₃ hn hm
    intro s E Q hh ht hQ
    refine wpAny_IfExp (Ok.go (R := fun b _ => b = decide (c = 39)) ?_ hh ht ?_)
    · refine Ok.test (R₁ := fun a _ => a = .str (S [c]) u) (R₂ := fun v _ => ∃ t, v = .str "'" t) (Ok.local rfl rfl hn hm) (fun _ _ _ _ => Ok.str) ?_
      rintro a b h₄ h₅ e₄ e₅ rfl ⟨t', rfl⟩
      refine Ok.eqStr.mono ?_
      rintro v h₆ e₆ rfl
      refine ⟨_, rfl, ?_⟩
      rw [tick_is]
      by_cases q : c = 39
      · subst q; decide
      · rw [decide_eq_false q]
        apply beq_eq_false_iff_ne.mpr
        intro e
        have := congrArg Ls e
        simp [Ls_S] at this
        exact q this
    · rintro b h₄ tk₄ h4 e₄ rfl
      by_cases q : c = 39
      · rw [decide_eq_true q]
        simp only [if_true]
        refine Ok.go Ok.str rfl h4 ?_
        rintro v h₅ tk₅ h5 e₅ ⟨t', rfl⟩
        refine hQ _ _ _ h5 (e₄.trans e₅) ?_
        intro c' t'' e
        have e2 : c = c' := by
          injection e with e1 _
          have := congrArg Ls e1
          simpa [Ls, S] using this
        subst e2
        exact ⟨t', by rw [five_is, q1, if_pos q]⟩
      · rw [decide_eq_false q]
        simp only [Bool.false_eq_true, if_false]
        refine Ok.go (Ok.local rfl rfl (hn.keeps e₄) hm) rfl h4 ?_
        rintro v h₅ tk₅ h5 e₅ rfl
        refine hQ _ _ _ h5 (e₄.trans e₅) ?_
        intro c' t'' e
        have e2 : c = c' := by
          injection e with e1 _
          have := congrArg Ls e1
          simpa [Ls, S] using this
        subst e2
        exact ⟨u, by rw [q1, if_neg q]; rfl⟩
  · rintro vs h₂ tk₂ h2 e₂ ⟨v, rfl, D, rfl, ys, vs', hD, ⟨n, hL⟩, hlen, hP, hpair⟩
    have hlen' : vs'.length = (Ls y).length := by rw [hlen]; simp [Ls]
    have hft : vs'.filter (fun _ => true) = vs' := List.filter_eq_self.mpr fun _ _ => rfl
    rw [hft] at hpair
    have hS := signs_map (g := fun c => S (q1 c)) vs' ys.toList (Ls y) hlen' (signs_get hP) hpair
    have hLs : h₂.IsList D ys := ⟨_, hL, rfl, _, rfl⟩
    refine Ok.go (Ok.joinL (B := 5) hLs hS ?_ ?_) rfl h2 ?_
    · intro z hz
      obtain ⟨c, _, rfl⟩ := List.mem_map.mp hz
      show (S (q1 c)).length ≤ 5
      unfold q1
      split
      · decide
      · show 1 ≤ 5; omega
    · have e0 : (Str.ofString "").length = 0 := by decide
      rw [e0, List.length_map, Ls_length]; omega
    · rintro v h₃ tk₃ h3 e₃ ⟨t', rfl⟩
      refine hQ _ _ _ ((e₁.trans e₂).trans e₃) ⟨t', ?_⟩
      congr 1
      apply Ls_inj
      rw [join_empty, Ls_S, rep, List.map_map, List.flatMap_def]
      rfl
end
end Mine

namespace Mine
/-- what _law_quoted hands back -/
def lqD (x : Str) : Str := if plainW (Ls x) = true then x else "'" ++ S (rep (Ls x)) ++ "'"

section
variable {prog : Program} {w : World} {A : Around} {mg mb : Str → Option Value} {h : Heap}

theorem quoted_call {x : Str} {t : Tok} (W : Wd mg mb h) (hd : A.depth < recursionLimit) (hA : A.handled = none) (hu : A.units + 100 < cLine) (hx : x.length ≤ 1048576) (hok : ∀ c ∈ Ls x, c < 128) :
    Ok prog w A (call (.ref 73) [.str x t]) h (fun v _ => ∃ t', v = .str (lqD x) t') := by
  have hsl : sizeLine = 16777216 := rfl
  have h1l : (Str.ofString "'").length = 1 := by decide
  refine Ok.fn (fd := fdQuoted) (binds := [("word", .str x t)]) hd W.oQuoted rfl W.lim W.cQuoted rfl (by rfl) (by decide) (by intro y hy; rw [List.mem_singleton.mp hy]; rfl) fun h₁ F => ?_
  have W₁ := W.keeps F.keep
  have hw : ∀ p h', Ext h₁ h' → Ok prog w (A.deeper (callEnv fdQuoted h.objs.size 73)) (eval (.Name "word" p) (callEnv fdQuoted h.objs.size 73)) h' (fun a _ => a = .str x t) := fun p h' e => Ok.local rfl rfl (F.ns.keeps e) rfl
  have hu' : (A.deeper (callEnv fdQuoted h.objs.size 73)).units + 64 < cLine := by rw [Around.deeper_units]; omega
  refine Run.ifs (R₁ := fun b _ => b = plainW (Ls x)) ?_ ?_ ?_
  · exact cond_ok hA hu' (by omega) hok hw (by rfl) (by intro v; rfl)
  · intro h₂ e₂ hb
    refine Run.ret (Ext.trans F.keep e₂) (hw _ h₂ e₂) ?_
    rintro v h₃ e₃ rfl
    exact ⟨t, by rw [lqD, if_pos hb.symm]⟩
  · intro h₂ e₂ hb
    have hrl := rep_length (Ls x)
    rw [Ls_length] at hrl
    have hSl : (S (rep (Ls x))).length = (rep (Ls x)).length := by simp [S, Str.length]
    refine Run.ret (R₁ := fun v _ => ∃ t, v = .str ("'" ++ S (rep (Ls x)) ++ "'") t) (Ext.trans F.keep e₂) ?_ ?_
    · refine Ok.binop (R₁ := fun v _ => ∃ t, v = .str ("'" ++ S (rep (Ls x))) t) (R₂ := fun v _ => ∃ t, v = .str "'" t) ?_ (fun _ _ _ _ => Ok.str) ?_
      · refine Ok.binop (R₁ := fun v _ => ∃ t, v = .str "'" t) (R₂ := fun v _ => ∃ t, v = .str (S (rep (Ls x))) t) Ok.str (fun a h₄ e₄ _ => ?_) ?_
        · exact rep_ok (y := x) hA hx (fun h' e' => (hw _ h' ((e₂.trans e₄).trans e')).mono (by rintro a h' _ rfl; exact ⟨t, rfl⟩)) (by rfl) (by intro v; rfl) (by rfl)
        · rintro a b h₄ h₅ e₄ e₅ ⟨t₁, rfl⟩ ⟨t₂, rfl⟩
          exact Ok.addStr (by rw [h1l, hSl]; omega)
      · rintro a b h₄ h₅ e₄ e₅ ⟨t₁, rfl⟩ ⟨t₂, rfl⟩
        exact Ok.addStr (by rw [Str.length_append, h1l, hSl]; omega)
    · rintro v h₄ e₄ ⟨t', rfl⟩
      exact ⟨t', by rw [lqD, if_neg (by rw [← hb]; exact Bool.false_ne_true)]⟩
end
end Mine

namespace Mine
/-- what _law_written hands back -/
def wrD (x : Str) : PyData := if plainW (Ls x) = true then .tuple [.none, .none, .str x] else match plc (Ls x) with
  | [] => .list [.str "", .str x, .str ""]
  | i :: _ => .list [.str "", .str (Txt.slice x none (some (i : Int))), .str ("\"'\"'" ++ S (rep (Ls (Txt.slice x (some ((i : Int) + 1)) none))) ++ "'")]

section
variable {prog : Program} {w : World} {A : Around} {mg mb : Str → Option Value} {h : Heap}

theorem written_call {x : Str} {t : Tok} (W : Wd mg mb h) (hd : A.depth < recursionLimit) (hA : A.handled = none) (hu : A.units + 100 < cLine) (hx : x.length ≤ 1048576) (hok : ∀ c ∈ Ls x, c < 128) :
    Ok prog w A (call (.ref 68) [.str x t]) h (Gives h (wrD x)) := by
  have hsl : sizeLine = 16777216 := rfl
  have hx' : x.length ≤ sizeLine := by omega
  have h1l : (Str.ofString "'").length = 1 := by decide
  refine Ok.fnC (fd := fdWritten) (binds := [("word", .str x t)]) hd W.oWritten rfl W.lim W.cWritten rfl (by rfl) rfl (by intro y hy; rw [List.mem_singleton.mp hy]; exact .inr ⟨rfl, rfl⟩) fun h₁ F cells => ?_
  have W₁ := W.keeps F.keep
  have hc : h₁.IsCell (h.objs.size + 1) (some (.str x t)) := cells "word" _ rfl
  have hsm := small_up hx'
  have hw : ∀ p h', Ext h₁ h' → Ok prog w (A.deeper (callEnvC fdWritten h.objs.size 68)) (eval (.Name "word" p) (callEnvC fdWritten h.objs.size 68)) h' (fun a _ => a = .str x t) := fun p h' e => Ok.cell rfl rfl rfl (hc.keeps e)
  have hu' : (A.deeper (callEnvC fdWritten h.objs.size 68)).units + 64 < cLine := by rw [Around.deeper_units]; omega
  refine Run.ifs (R₁ := fun b _ => b = plainW (Ls x)) ?_ ?_ ?_
  · exact cond_ok hA hu' (by omega) hok hw (by rfl) (by intro v; rfl)
  · intro h₂ e₂ hb
    refine Run.ret (R₁ := Gives h (wrD x)) (Ext.trans F.keep e₂) ?_ (fun _ _ _ r => r)
    refine Ok.tuple (R := fun vs h' => vs = [.none, .none, .str x t] ∧ Ext h h') ?_ ?_
    · refine Ok.argsC rfl Ok.none fun v h₅ e₅ r => ?_
      subst r
      refine Ok.argsC rfl Ok.none fun v h₆ e₆ r => ?_
      subst r
      refine (Ok.args1 rfl (hw _ h₆ ((e₂.trans e₅).trans e₆))).mono ?_
      rintro a h₇ e₇ ⟨v, rfl, rfl⟩
      exact ⟨rfl, (((Ext.trans F.keep e₂).trans e₅).trans e₆).trans e₇⟩
    · rintro vs h₅ e₅ ⟨rfl, k⟩
      refine ⟨by show 3 ≤ sizeLine; decide, _, _, rfl, ?_, Heap.get?_push_size _ rfl, _, _, [.none, .none, .str x], rfl, ?_, .inr ⟨rfl, ?_⟩⟩
      · exact k.fresh size_fresh
      · exact .cons .none (.cons .none (.cons (.str x t) .nil))
      · rw [wrD, if_pos hb.symm]
  · intro h₂ e₂ hb
    have W₂ := W₁.keeps e₂
    have F₂ : Fr h h.objs.size h₂ _ := F.keeps e₂
    have hw₂ : wrD x = match plc (Ls x) with
      | [] => .list [.str "", .str x, .str ""]
      | i :: _ => .list [.str "", .str (Txt.slice x none (some (i : Int))), .str ("\"'\"'" ++ S (rep (Ls (Txt.slice x (some ((i : Int) + 1)) none))) ++ "'")] := by
      rw [wrD, if_neg (by rw [← hb]; exact Bool.false_ne_true)]
    refine Run.comp (n := x.length) (P := fun i v => i < x.length ∧ ∃ t, v = .int (0 + (i : Int) * 1) t) (isTick x) (fun v y => y = v)
      (R₁ := fun v h' => ∃ r t u w, v = .ref r ∧ IsRange h' r 0 x.length 1 t u w) rfl F₂ (by rfl) (by rfl) (by decide) rfl (by decide) rfl rfl hx' ?_ ?_ ?_ ?_ ?_
    · refine Ok.callT (T := "range") (R := fun vs _ => ∃ t, vs = [.int x.length t]) rfl (Ok.builtin rfl rfl W₂.g W₂.gRange W₂.b ((W₂.bi "range" (by decide)).trans (by rfl))) (fun h₃ e₃ => ?_) ?_
      · refine (Ok.args1 (R := fun v _ => ∃ t, v = .int x.length t) rfl ?_).mono (by rintro a h' _ ⟨v, rfl, t, rfl⟩; exact ⟨t, rfl⟩)
        have W₃ := W₂.keeps e₃
        refine Ok.callB (id := "len") (R := fun vs _ => vs = [.str x t]) rfl (Ok.builtin rfl rfl W₃.g W₃.gLen W₃.b ((W₃.bi "len" (by decide)).trans (by rfl))) (fun h₄ e₄ => ?_) (fun vs h₄ e₄ r => ?_)
        · exact (Ok.args1 rfl (hw _ h₄ ((e₂.trans e₃).trans e₄))).mono (by rintro a h' _ ⟨v, rfl, rfl⟩; rfl)
        · subst r; exact Ok.lenStr hx'
      · rintro vs h₃ e₃ ⟨t', rfl⟩
        exact Ok.range1.mono (by rintro v h' _ ⟨r, t, u, w, rfl, _, q⟩; exact ⟨r, t, u, w, rfl, q⟩)
    · rintro xv h₃ e₃ ⟨r, t', u, w', rfl, hr⟩
      exact Src.range hA hr hsm.1 hsm.2
    · rintro C i v h₃ m₃ ⟨hi, t', rfl⟩ e₃ hn hm
      have e0 : (0 + (i : Int) * 1) = (i : Int) := by omega
      rw [e0] at hm ⊢
      refine (tick_test rfl rfl rfl ((hc.keeps e₂).keeps e₃) rfl hn rfl hm hi hx' (by decide)).mono ?_
      rintro a h' _ rfl
      simp [isTick]
    · rintro C i v h₃ m₃ _ _ e₃ hn hm
      exact Ok.local rfl rfl hn hm
    · rintro D h₃ ⟨ys, vs, hD, ⟨n, hL⟩, hlen, hP, hpair⟩ F₃ hk
      have hI := places_out hlen hP hpair
      have hc₃ : h₃.IsCell (h.objs.size + 1) (some (.str x t)) := by
        obtain ⟨o, ho, hd⟩ := hc.keeps e₂
        exact ⟨o, hk _ o (Nat.succ_ne_self _) ho, hd⟩
      have W₃ := W.keeps F₃.keep
      have hLs : h₃.IsList D ys := ⟨_, hL, rfl, _, rfl⟩
      have hcell : ∀ p h', Ext h₃ h' → Ok prog w (A.deeper (callEnvC fdWritten h.objs.size 68)) (eval (.Name "word" p) (callEnvC fdWritten h.objs.size 68)) h' (fun a _ => a = .str x t) := fun p h' e => Ok.cell rfl rfl rfl (hc₃.keeps e)
      refine Run.ifs (R₁ := fun b _ => b = decide (plc (Ls x) = [])) ?_ ?_ ?_
      · refine Ok.test (R₁ := fun v _ => v = .ref D) (R₂ := fun v h' => ∃ D n, v = .ref D ∧ h'.get? D = some { cls := .type "list", data := .seq #[] n }) (Ok.local rfl rfl F₃.ns (by rfl)) ?_ ?_
        · rintro a h₄ e₄ _
          refine Ok.list (R := fun vs _ => vs = []) Ok.args0 ?_
          rintro vs h₅ e₅ rfl
          exact ⟨by show 0 ≤ sizeLine; decide, _, _, rfl, Heap.get?_push_size _ rfl⟩
        · rintro a b h₄ h₅ e₄ e₅ rfl ⟨D', n', rfl, hL'⟩
          have hL₅ : h₅.IsList D ys := ⟨_, e₅ _ _ (e₄ _ _ hL), rfl, _, rfl⟩
          have hL₅' : h₅.IsList D' #[] := ⟨_, hL', rfl, _, rfl⟩
          intro s E Q hh ht hQ
          subst hh
          refine ke_eq_ints (xs := ys.toList) (ys := []) (by simpa using hL₅) hL₅' hI .nil hu' (hQ _ s.heap s.toks ht (Ext.refl _) ⟨_, rfl, ?_⟩)
          exact decide_eq_decide.mpr List.map_eq_nil_iff
      · intro h₄ e₄ hq
        have hq' := of_decide_eq_true hq.symm
        refine Run.ret (R₁ := Gives h (wrD x)) (Ext.trans F₃.keep e₄) ?_ (fun _ _ _ r => r)
        refine Ok.list (R := fun vs h' => ∃ t₁ t₂, vs = [.str "" t₁, .str x t, .str "" t₂] ∧ Ext h h') ?_ ?_
        · refine Ok.argsC rfl Ok.str fun v h₅ e₅ r => ?_
          obtain ⟨t₁, rfl⟩ := r
          refine Ok.argsC rfl (hcell _ h₅ (e₄.trans e₅)) fun v h₆ e₆ r => ?_
          subst r
          refine (Ok.args1 rfl Ok.str).mono ?_
          rintro a h₇ e₇ ⟨v, rfl, t₂, rfl⟩
          exact ⟨t₁, t₂, rfl, (((Ext.trans F₃.keep e₄).trans e₅).trans e₆).trans e₇⟩
        · rintro vs h₅ e₅ ⟨t₁, t₂, rfl, k⟩
          refine ⟨by show 3 ≤ sizeLine; decide, _, _, rfl, ?_, Heap.get?_push_size _ rfl, _, _, [.str "", .str x, .str ""], rfl, ?_, .inl ⟨rfl, ?_⟩⟩
          · exact k.fresh size_fresh
          · exact .cons (.str _ _) (.cons (.str _ _) (.cons (.str _ _) .nil))
          · rw [hw₂, hq']
      · intro h₄ e₄ hq
        have hq' := of_decide_eq_false hq.symm
        obtain ⟨i, r, hij⟩ : ∃ i r, plc (Ls x) = i :: r := by
          match hq : plc (Ls x), hq' with
          | [], q => exact absurd rfl q
          | i :: r, _ => exact ⟨i, r, rfl⟩
        have hi : i < x.length := by rw [← Ls_length]; exact plc_lt (by rw [hij]; simp)
        obtain ⟨ti, hgi⟩ := intsAre_get hI 0 (i : Int) (by rw [hij]; rfl)
        have hgi' : ys[0]? = some (Value.int (i : Int) ti) := by simpa using hgi
        have F₄ : Fr h h.objs.size h₄ _ := F₃.keeps e₄
        have item : ∀ {p₁ p₂ p₃ : Pos} h' (m' : Str → Option Value), h'.Ns h.objs.size m' → m' "places" = some (.ref D) → h'.IsList D ys → Ok prog w (A.deeper (callEnvC fdWritten h.objs.size 68)) (eval (.Subscript (.Name "places" p₁) (.Constant (.int 0) 0 p₂) p₃) (callEnvC fdWritten h.objs.size 68)) h' (fun v _ => ∃ t, v = .int (i : Int) t) := by
          intro p₁ p₂ p₃ h' m' hn hm hl
          refine Ok.sub (R₁ := fun v _ => v = .ref D) (R₂ := fun v _ => ∃ t, v = .int 0 t) (Ok.local rfl rfl hn hm) (fun _ _ _ _ => Ok.int) ?_
          rintro a b h₅ h₆ e₅ e₆ rfl ⟨t', rfl⟩
          exact (Ok.listItem (hl.at fun o e => e₆ _ o (e₅ _ o e)) (by omega) (by omega) (by simpa using hgi')).mono (by rintro v h' _ rfl; exact ⟨_, rfl⟩)
        have hle := Txt.slice_le x (some ((i : Int) + 1)) none
        refine Run.assign (R₁ := fun v _ => ∃ t, v = .str (S (rep (Ls (Txt.slice x (some ((i : Int) + 1)) none)))) t) rfl F₄ rfl ?_ ?_
        · refine rep_ok (y := Txt.slice x (some ((i : Int) + 1)) none) hA (by omega) (fun h' e' => ?_) (by rfl) (by intro v; rfl) (by rfl)
          refine Ok.slice hx' (hcell _ h' (e₄.trans e')) (fun h₅ e₅ => Ok.partSome ?_) (fun _ _ => Ok.partNone)
          refine Ok.binop (item h₅ _ ((F₄.ns.keeps e').keeps e₅) (by rfl) (((hLs.at fun o e => e₄ _ o e).at fun o e => e' _ o e).at fun o e => e₅ _ o e)) (R₂ := fun v _ => ∃ t, v = .int 1 t) (fun _ _ _ _ => Ok.int) ?_
          rintro a b h₇ h₈ e₇ e₈ ⟨t₂, rfl⟩ ⟨t₃, rfl⟩
          exact Ok.addInt
        · rintro a h₅ h₆ e₅ ⟨t₅, rfl⟩ F₆ hs₆
          have up : ∀ b o, b ≠ h.objs.size → h₃.get? b = some o → h₆.get? b = some o := fun b o hb e => hs₆.extBut b o hb (e₅ b o (e₄ b o e))
          have hc₆ : h₆.IsCell (h.objs.size + 1) (some (.str x t)) := by
            obtain ⟨o, ho, hd⟩ := hc₃
            exact ⟨o, up _ o (Nat.succ_ne_self _) ho, hd⟩
          have hDL : D ≠ h.objs.size := fun e => by
            obtain ⟨o, _, _, ho, _⟩ := F₂.ns
            rw [e, ho] at hD; cases hD
          have hL₆ : h₆.IsList D ys := ⟨_, up _ _ hDL hL, rfl, _, rfl⟩
          have hrl := rep_length (Ls (Txt.slice x (some ((i : Int) + 1)) none))
          rw [Ls_length] at hrl
          have hSl : (S (rep (Ls (Txt.slice x (some ((i : Int) + 1)) none)))).length = (rep (Ls (Txt.slice x (some ((i : Int) + 1)) none))).length := by simp [S, Str.length]
          have h4l : (Str.ofString "\"'\"'").length = 4 := by decide
          refine Run.ret (R₁ := Gives h (wrD x)) F₆.keep ?_ (fun _ _ _ r => r)
          refine Ok.list (R := fun vs h' => ∃ t₁ t₂ t₃, vs = [.str "" t₁, .str (Txt.slice x none (some (i : Int))) t₂, .str ("\"'\"'" ++ S (rep (Ls (Txt.slice x (some ((i : Int) + 1)) none))) ++ "'") t₃] ∧ Ext h h') ?_ ?_
          · refine Ok.argsC rfl Ok.str fun v h₇ e₇ r => ?_
            obtain ⟨t₁, rfl⟩ := r
            refine Ok.argsC rfl (Ok.slice (lo := none) (hi := some (i : Int)) hx' (Ok.cell rfl rfl rfl (hc₆.keeps e₇)) (fun _ _ => Ok.partNone) (fun h₈ e₈ => Ok.partSome (item h₈ _ ((F₆.ns.keeps e₇).keeps e₈) (by rfl) ((hL₆.at fun o e => e₇ _ o e).at fun o e => e₈ _ o e)))) fun v h₈ e₈ r => ?_
            obtain ⟨t₂, rfl⟩ := r
            refine (Ok.args1 (R := fun v _ => ∃ t, v = .str ("\"'\"'" ++ S (rep (Ls (Txt.slice x (some ((i : Int) + 1)) none))) ++ "'") t) rfl ?_).mono ?_
            · refine Ok.binop (R₁ := fun v _ => ∃ t, v = .str ("\"'\"'" ++ S (rep (Ls (Txt.slice x (some ((i : Int) + 1)) none)))) t) (R₂ := fun v _ => ∃ t, v = .str "'" t) ?_ (fun _ _ _ _ => Ok.str) ?_
              · refine Ok.binop (R₁ := fun v _ => ∃ t, v = .str "\"'\"'" t) (R₂ := fun v _ => v = .str (S (rep (Ls (Txt.slice x (some ((i : Int) + 1)) none)))) t₅) Ok.str (fun a h₉ e₉ _ => Ok.local rfl rfl (((F₆.ns.keeps e₇).keeps e₈).keeps e₉) (by rfl)) ?_
                rintro a b h₄ h₅ e₄ e₅ ⟨t₁, rfl⟩ rfl
                exact Ok.addStr (by rw [h4l, hSl]; omega)
              · rintro a b h₄ h₅ e₄ e₅ ⟨t₁, rfl⟩ ⟨t₂, rfl⟩
                exact Ok.addStr (by rw [Str.length_append, h1l, h4l, hSl]; omega)
            · rintro a h₉ e₉ ⟨v, rfl, t₃, rfl⟩
              exact ⟨t₁, t₂, t₃, rfl, ((Ext.trans F₆.keep e₇).trans e₈).trans e₉⟩
          · rintro vs h₇ e₇ ⟨t₁, t₂, t₃, rfl, k⟩
            refine ⟨by show 3 ≤ sizeLine; decide, _, _, rfl, ?_, Heap.get?_push_size _ rfl, _, _, [.str "", .str (Txt.slice x none (some (i : Int))), .str ("\"'\"'" ++ S (rep (Ls (Txt.slice x (some ((i : Int) + 1)) none))) ++ "'")], rfl, ?_, .inl ⟨rfl, ?_⟩⟩
            · exact k.fresh size_fresh
            · exact .cons (.str _ _) (.cons (.str _ _) (.cons (.str _ _) .nil))
            · rw [hw₂, hij]
end
end Mine

namespace Mine
section
variable {prog : Program} {w : World} {A : Around} {mg mb : Str → Option Value}

theorem qD_len (x : Str) : (qD x).length ≤ 5 * x.length + 2 := by
  unfold qD
  have h1l : (Str.ofString "'").length = 1 := by decide
  have h2l : (Str.ofString "''").length = 2 := by decide
  split
  · rw [h2l]; omega
  · split
    · omega
    · rw [Str.length_append, Str.length_append, h1l]
      have := replace_length x
      omega
theorem strs_at : ∀ {vs : List Value} {ys : List Str}, StrsAre vs ys → ∀ (i : Nat) (v : Value), vs[i]? = some v → ∃ y t, v = .str y t ∧ ys[i]? = some y
  | _, _, .cons y t _, 0, v, e => by simp at e; exact ⟨y, t, e.symm, rfl⟩
  | _, _, .cons _ _ h, i + 1, v, e => by simpa using strs_at h i v (by simpa using e)
theorem strs_length : ∀ {vs : List Value} {ys : List Str}, StrsAre vs ys → vs.length = ys.length
  | _, _, .nil => rfl
  | _, _, .cons _ _ h => by simp [strs_length h]
theorem passing_all (n : Nat) : passing (fun _ => true) n 0 = List.range n := by
  unfold passing; rw [List.drop_zero]; exact List.filter_eq_self.mpr fun _ _ => rfl

theorem join_call {s : Shared} {E : Value → Shared → Prop} {Q : Value → Shared → Prop} {lw : Addr} {ws : Array Value} {texts : List Str} {B : Nat} (W : Wd mg mb s.heap) (hcode : s.heap.IsCode 49 45 #[]) (htab : s.heap.TableAt 49 45 #[])
    (hA : A.handled = none) (hd : A.depth + 4 < recursionLimit) (hg : s.gens = #[]) (hl : s.heap.IsList lw ws) (hs : StrsAre ws.toList texts) (hB : ∀ x ∈ texts, x.length ≤ B) (hB1 : B ≤ 1048576)
    (hsz : texts.length * (5 * B + 2) + texts.length * 1 ≤ 16777216)
    (hQ : ∀ t h' tk gs more, Heap.ExtBut 45 s.heap h' → h'.TableAt 49 45 more → AllBare gs → Q (.str (Str.join (Str.ofString " ") (texts.map qD)) t) { s with heap := h', toks := tk, gens := gs }) :
    wpAny (model prog w) A (call (.ref 50) [.ref lw]) Q E s := by
  have hsl : sizeLine = 16777216 := rfl
  refine wpAny_call (codeAny_call_def (fd := fdJoin) (binds := [("split_command", .ref lw)]) (by omega) W.oJoin rfl W.lim W.cJoin rfl (.of_eq (by rfl)) (by decide) (by intro y hy; rw [List.mem_singleton.mp hy]; rfl) (fun h₁ hns hk => ?_))
  have W₁ := W.keeps hk
  have hl₁ : h₁.IsList lw ws := hl.at fun o e => hk _ o e
  have hlt : lw < h₁.objs.size := by obtain ⟨_, e, _⟩ := hl₁; exact Heap.lt_size e
  refine wpAny_execs_cons (wpAny_Return_some (MethodCall_ (wpAny_Constant_str ?_)))
  refine GM.join (callWith_method1 (spliced_more ?_))
  refine wpAny_GeneratorExp_walksQD (cl := []) hA rfl (by rfl) (by decide) (by rfl) (by rfl) rfl (by show A.depth + 1 < recursionLimit; omega) ?_ (by intro v; rfl)
  refine wpAny_Name (wpAny_loadName_local rfl rfl hns (v := .ref lw) rfl ?_)
  refine wpAny_pyIter_list hl₁ ⟨(W₁.keeps (Ext.push _ _)).lim, ?_⟩
  refine wpAny_genexprCodeX (c := 49) (P := 45) rfl ((hcode.keeps hk).push _) ((htab.keeps hk).push _) rfl (fun c' h₂ tk₂ hx₂ hc'1 hc'2 hcode₂ hrec₂ htab₂ _ => ?_)
  dsimp only at hx₂ hc'1 hc'2 ⊢
  have hx : ∀ b o, b ≠ 45 → s.heap.get? b = some o → h₂.get? b = some o := fun b o hb e => hx₂ b o hb (Heap.get?_push_of_some _ (hk b o e))
  have W₂ := W.but hx
  obtain ⟨ob, hob, hobc, hobd, hobp⟩ := W₂.oB
  refine wpAny_builtinsFor W₂.g W₂.gB (by decide) hob hobc hobd hobp ?_
  have hI45 : h₁.objs.size ≠ 45 := Nat.ne_of_gt (hcode.keeps hk).lt.2
  have hl45 : lw ≠ 45 := fun e => by
    obtain ⟨o, ho, hc, _⟩ := hl
    rw [e, htab.2] at ho; cases ho; exact absurd hc (by simp)
  have hIget : h₂.get? h₁.objs.size = some { cls := .type "list_iterator", data := .fields #[.ref lw, .int 0 0] } := hx₂ _ _ hI45 (Heap.get?_push_size _ rfl)
  have hl₂ : h₂.IsList lw ws := by
    obtain ⟨o, ho, r⟩ := hl
    exact ⟨o, hx _ o hl45 ho, r⟩
  have hIlt : h₁.objs.size < h₂.objs.size := Heap.lt_size hIget
  refine ⟨h₁.objs.size, [h₁.objs.size, lw], [h₁.objs.size], ws.size, _, _, (fun _ => true), (fun i v => ∃ y t, texts[i]? = some y ∧ v = .str (qD y) t), rfl, (fun A' hA' => Walks.list hA' _ _ (Nat.ne_of_lt hlt) ws), ⟨⟨_, hIget, rfl, rfl⟩, hl₂⟩, ?_, W₂.lim, ?_, ?_, ?_⟩
  · intro b hb
    rcases List.mem_cons.mp hb with rfl | hb
    · exact hIlt
    · rw [List.mem_singleton.mp hb]; exact Nat.lt_trans hlt hIlt
  · intro hb
    have := List.mem_singleton.mp hb
    have h2 : cStatics < h₁.objs.size := by obtain ⟨_, hn, _⟩ := W₁.lim; exact hn.lt
    exact absurd this (Nat.ne_of_lt h2)
  · intro href hhref
    refine ⟨fun A' E' i v s₂ m₂ hA' hdep hun hP hn hm hkk => wpAny_tests_nil ⟨rfl, s₂.heap, s₂.toks, rfl, fun _ _ e => e⟩, fun A' E' i v s₂ m₂ hA' hdep hun hP _ hn hm hkk => ?_⟩
    have hx3 : ∀ b o, b ≠ 45 → s.heap.get? b = some o → s₂.heap.get? b = some o := fun b o hb e => by
      refine hkk b (List.mem_range.mpr (Heap.lt_size (hx b o hb e))) (fun hw => ?_) o (hhref b o (hx b o hb e))
      rw [List.mem_singleton.mp hw] at e
      have := hk _ _ e
      rw [size_fresh] at this; cases this
    have W₃ := W.but hx3
    obtain ⟨y, t, rfl, hy⟩ := strs_at hs i v (by simpa using hP)
    have hyB := hB y (List.mem_of_getElem? hy)
    refine Call_ (Name_function_global rfl rfl (loadGlobal_global W₃.g W₃.gQuote ?_))
    refine callWith_def (o := { cls := .type "function", data := .func fdQuote }) rfl (spliced_more (wpAny_Name (wpAny_loadName_local rfl rfl hn hm (spliced_none ⟨W₃.oQuote, ?_⟩))))
    refine quote_call0 W₃ (by have h2 : A'.depth ≤ A.depth + 1 + 1 := hdep; omega) (by omega) ?_
    rintro v h' tk e ⟨t', rfl⟩
    exact ⟨⟨y, t', hy, rfl⟩, h', tk, rfl, e⟩
  · intro a h₅ tk gs hbare ha hsz5 hk5 Wk hGen
    refine spliced_none ?_
    dsimp only at Wk hGen ⊢
    have Wk2 := Wk.in4_2
    have hws : ws.size = texts.length := by rw [← strs_length hs]; simp
    have htl : texts.length ≤ 16777216 := by omega
    rw [passing_all, List.length_range] at Wk2
    refine SC.joinGen Wk2 (fun i s st => st.1.typeIs) hGen ?_ (List.mem_cons_self ..) ?_ ?_ (by rw [hws, hsl]; exact htl)
    · intro b hb
      show b < h₅.objs.size
      rw [hsz5]
      rcases List.mem_cons.mp hb with rfl | hb
      · exact Nat.lt_succ_self _
      · rcases List.mem_cons.mp hb with rfl | hb
        · exact Nat.lt_succ_of_lt ha
        · exact Nat.lt_succ_of_lt (Nat.lt_trans (List.mem_range.mp hb) ha)
    · rintro i v ⟨j, _, y, t, _, rfl⟩
      exact ⟨_, t, rfl⟩
    · intro s' l hm hacc
      have hlen : l.length = texts.length := by have := hacc.1; simpa [strValues, hws] using this
      have hlm : l.map (·.1) = texts.map qD := by
        apply List.ext_getElem?
        intro j
        by_cases hj : j < texts.length
        · obtain ⟨p, hp⟩ : ∃ p, l[j]? = some p := ⟨l[j], by simp [hlen ▸ hj]⟩
          obtain ⟨i, hi, y, t, hy, e⟩ := hacc.2 j (.str p.1 p.2) (by simp [strValues, hp])
          have hij : i = j := by
            rw [List.getElem?_range (by omega)] at hi
            exact (Option.some.inj hi).symm
          subst hij
          injection e with e1 _
          rw [List.getElem?_map, List.getElem?_map, hp, hy]
          simp [e1]
        · rw [List.getElem?_eq_none (by simp; omega), List.getElem?_eq_none (by simp; omega)]
      rw [hlm]
      refine ⟨?_, fun t' k => ?_⟩
      · unfold JoinOk
        rw [StrLaws.joinFits (B := 5 * B + 2) ?_ ?_]; rfl
        · intro z hz
          obtain ⟨x, hx, rfl⟩ := List.mem_map.mp hz
          have h1 := qD_len x
          have h2 := hB x hx
          omega
        · rw [List.length_map]; exact hsz
      · have e : Txt.join (Str.ofString " ") (texts.map qD) = Str.join (Str.ofString " ") (texts.map qD) := StrLaws.glued_eq_join _ _
        rw [e]
        obtain ⟨h6, g6, d6, tk6, os6⟩ := s'
        have hdr : d6 = s.drawn := hm.drawn
        have hos : os6 = s.os := hm.os
        subst hdr hos
        have hkeep : ∀ b o, b ≠ 45 → s.heap.get? b = some o → h6.get? b = some o := fun b o hb e => by
          refine hm.heap b o (fun hw => ?_) (hk5 b o (hx b o hb e))
          rcases List.mem_cons.mp hw with rfl | hw
          · have := hx _ _ hb e
            rw [size_fresh] at this; cases this
          · rw [List.mem_singleton.mp hw] at e
            have := hk _ _ e
            rw [size_fresh] at this; cases this
        have lift : ∀ b o, b ≠ h₁.objs.size → h₂.get? b = some o → h6.get? b = some o := fun b o hb e => by
          refine hm.heap b o (fun hw => ?_) (hk5 b o e)
          rcases List.mem_cons.mp hw with rfl | hw
          · rw [size_fresh] at e; cases e
          · exact hb (List.mem_singleton.mp hw)
        obtain ⟨⟨oc, vc, e1, e2⟩, e3⟩ := htab₂
        have ht6 : h6.TableAt 49 45 _ := ⟨⟨oc, vc, lift _ _ (Nat.ne_of_lt (hcode.keeps hk).lt.1) e1, e2⟩, lift _ _ (Ne.symm hI45) e3⟩
        refine hQ t' h6 k g6 _ (fun b o hb e => hkeep b o hb e) ht6 ?_
        refine GenOnlyQ.bare hm.gens ?_
        intro y hy
        have hy' : y ∈ s.gens.push gs := hy
        rw [hg] at hy'
        have : y = gs := by simpa using hy'
        rw [this]; exact hbare
end
end Mine

namespace Mine
/-- y is an object that holds the datum of v, apart from the named places -/
def HoldsAt (old : Heap) (no : Addr → Prop) (g : Value → PyData) (h : Heap) (v y : Value) : Prop := ∃ T o, y = .ref T ∧ old.get? T = none ∧ ¬ no T ∧ h.get? T = some o ∧ ObjIs o (g v)
theorem HoldsAt.up {old h h' : Heap} {no : Addr → Prop} {g : Value → PyData} {v y : Value} (x : HoldsAt old no g h v y) (k : ∀ b o, ¬ no b → h.get? b = some o → h'.get? b = some o) : HoldsAt old no g h' v y := by
  obtain ⟨T, o, e, a, b, c, d⟩ := x
  exact ⟨T, o, e, a, b, k T o b c, d⟩
theorem Paired.imp {α β : Type} {F G : α → β → Prop} (f : ∀ a b, F a b → G a b) : ∀ {l₁ : List α} {l₂ : List β}, Paired F l₁ l₂ → Paired G l₁ l₂
  | _, _, .nil => .nil
  | _, _, .cons x r => .cons (f _ _ x) (Paired.imp f r)

section
variable {prog : Program} {w : World} {A : Around} {h : Heap} {env : Env}

/-- as Src; what the walk writes is there all the time -/
def SrcV (prog : Program) (w : World) (A : Around) (xv : Value) (h : Heap) (n : Nat) (P : Nat → Value → Prop) : Prop :=
  ∀ (s : Shared) (E : Value → Shared → Prop) (Q : Value → Shared → Prop), s.heap = h → 1 ≤ s.toks →
    (∀ I fp wr St h₂ tk, 1 ≤ tk → Walks prog w A I fp wr n P St → St 0 h₂ → (∀ b ∈ fp, b < h₂.objs.size) → (∀ b ∈ wr, h.get? b = Option.none) → (∀ i hq, St i hq → ∀ b ∈ wr, ∃ o, hq.get? b = some o) → Ext h h₂ → Q (.ref I) { s with heap := h₂, toks := tk }) →
    wpAny (model prog w) A (pyIter xv) Q E s
theorem SrcV.list {l : Addr} {its : Array Value} (hA : A.handled = Option.none) (hl : h.IsList l its) : SrcV prog w A (.ref l) h its.size (fun i v => its[i]? = some v) := by
  intro s E Q hh ht hQ
  subst hh
  have hlt : l < s.heap.objs.size := by obtain ⟨_, e, _⟩ := hl; exact Heap.lt_size e
  refine wpAny_pyIter_list hl ?_
  refine hQ _ [s.heap.objs.size, l] [s.heap.objs.size] _ _ s.toks ht (Walks.list hA s.heap.objs.size l (Nat.ne_of_lt hlt) its) ⟨⟨_, Heap.get?_push_size _ rfl, rfl, rfl⟩, hl.push _⟩ ?_ ?_ ?_ (Ext.push _ _)
  · intro b hb
    rw [Heap.size_push]
    rcases List.mem_cons.mp hb with rfl | hb
    · exact Nat.lt_succ_self _
    · rw [List.mem_singleton.mp hb]; exact Nat.lt_succ_of_lt hlt
  · intro b hb; rw [List.mem_singleton.mp hb]; exact size_fresh
  · intro i hq st b hb
    rw [List.mem_singleton.mp hb]
    obtain ⟨o, e, _⟩ := st.1
    exact ⟨o, e⟩

theorem Ok.compO {elt iter : PySem.Expr} {x : Str} {px : Pos} {scope : Scope} {cl : List (Str × Addr)} {pos : Pos} {n : Nat} {P : Nat → Value → Prop} (g : Value → PyData) {R₁ : Value → Heap → Prop}
    (hclos : closureFor scope env = Pure.pure cl) (hcell : ∀ y ∈ scope.names, y.2 ≠ .cell) (hkind : scope.kind = .function)
    (hnames : ∀ y ∈ scope.names, y.2 = .local → scope.names.lookup y.1 = some .local) (hx : scope.names.lookup x = some .local) (hn : n ≤ sizeLine)
    (hi : Ok prog w A (eval iter env) h R₁) (src : ∀ xv h₁, Ext h h₁ → R₁ xv h₁ → SrcV prog w A xv h₁ n P)
    (elts : ∀ C i v h₃ m₃, P i v → Ext h h₃ → h₃.Ns C m₃ → m₃ x = some v → Ok prog w A (eval elt (compEnvC scope cl C env)) h₃ (Gives h₃ (g v)))
    (hs : ∀ x, foldedSetIterable iter env x = Pure.pure x := by intro _; rfl) :
    Ok prog w A (eval (.ListComp elt [⟨.Name x px, iter, [], 0⟩] scope pos) env) h
      (fun r h' => ∃ (D : Addr) (ys : Array Value) (vs : List Value), r = .ref D ∧ h.get? D = Option.none ∧ h'.PlainList D ys ∧ vs.length = n ∧ (∀ j v, vs[j]? = some v → P j v) ∧ Paired (HoldsAt h (fun _ => False) g h') vs ys.toList) := by
  refine Ok.mk fun s E Q hh ht hQ => ?_
  rw [eval_ListComp]
  refine wpAny_comprehension_free (use := Option.none) rfl hs hclos hkind hnames (Ok.go hi hh ht ?_)
  rintro xv h₁ tk h1 e₁ r
  refine src xv h₁ e₁ r _ E _ rfl h1 ?_
  rintro I fp wr St h₂ tk₂ h2 W st hfp hwr hlive e₂
  have e02 : Ext h h₂ := e₁.trans e₂
  refine wpAny_newObj_type ?_ (by size_fits)
  dsimp only
  -- the new list
  obtain ⟨D, hD⟩ : ∃ D, D = h₂.objs.size := ⟨_, rfl⟩
  have hD₂ : h₂.get? D = Option.none := by rw [hD]; exact size_fresh
  rw [← hD]
  generalize hH : h₂.push { cls := .type "list", dict := Option.none, data := .seq ([] : List Value).toArray } = H
  have eH : Ext h₂ H := by rw [← hH]; exact Ext.push _ _
  have hDH : H.PlainList D #[] := ⟨_, by rw [← hH, hD]; exact Heap.get?_push_size _ rfl⟩
  refine wpAny_newFunctionEnv hcell (by intro y hy; simp at hy) (fun h₃ hns₃ hsb₃ => ?_) hkind
  dsimp only at hns₃ hsb₃ ⊢
  obtain ⟨C, hC⟩ : ∃ C, C = H.objs.size := ⟨_, rfl⟩
  rw [← hC] at hns₃ hsb₃ ⊢
  have hCH : H.get? C = Option.none := by rw [hC]; exact size_fresh
  have e3 : Ext H h₃ := fun b o q => hsb₃.extBut b o (fun hb => by rw [hb, hCH] at q; cases q) (Heap.get?_push_of_some _ q)
  have hDC : D ≠ C := fun q => by obtain ⟨_, z⟩ := hDH; rw [q, hCH] at z; cases z
  have hDw : D ∉ wr := fun q => Nat.lt_irrefl _ (hD ▸ hfp D (W.sub D q))
  have hCw : C ∉ wr := fun q => by
    have := hfp C (W.sub C q)
    rw [hC, ← hH, Heap.size_push] at this
    exact Nat.lt_irrefl _ (Nat.lt_of_succ_lt this)
  have hDf : ∀ b ∈ fp, b ≠ D ∧ b ≠ C := fun b hb => ⟨fun q => Nat.lt_irrefl _ (hD ▸ q ▸ hfp b hb), fun q => by
    have := hfp b hb
    rw [q, hC, ← hH, Heap.size_push] at this
    exact Nat.lt_irrefl _ (Nat.lt_of_succ_lt this)⟩
  have st₃ : St 0 h₃ := W.frame _ _ _ st fun b _ o q => e3 _ _ (eH _ _ q)
  have e03 : Ext h h₃ := (e02.trans eH).trans e3
  have no3 : ∀ b o, h.get? b = some o → ¬ (b = C ∨ b ∈ wr ∨ b = D) := fun b o q z => by
    rcases z with z | z | z
    · have := eH _ _ (e02 b o q); rw [z, hCH] at this; cases this
    · have := e₁ b o q; rw [hwr b z] at this; cases this
    · have := e02 b o q; rw [z, hD₂] at this; cases this
  have loop : codeAny (model prog w) A (.compLoop (.ListComp elt [⟨.Name x px, iter, [], 0⟩] scope pos) 0 (.ref I) (.ref D) (compEnvC scope cl C env)) (compPost (model prog w) A E Option.none Q (.ref D) C)
      { s with heap := h₃, toks := tk₂ + ([] : List (Str × Value)).length } := by
    refine codeAny_compLoop_tests
      (fun k s' => ∃ h' tk m' ys vs, s' = { s with heap := h', toks := tk } ∧ 1 ≤ tk ∧ vs.length ≤ n ∧ k = n + 1 - vs.length ∧ St vs.length h' ∧ h'.PlainList D ys ∧ h'.Ns C m' ∧ (∀ (j : Nat) (v : Value), vs[j]? = some v → P j v) ∧
        Paired (HoldsAt h (fun b => b = C ∨ b ∈ wr ∨ b = D) g h') vs ys.toList ∧ (∀ b o, ¬ (b = C ∨ b ∈ wr ∨ b = D) → h₃.get? b = some o → h'.get? b = some o)) ?_ (n + 1)
      ⟨h₃, _, _, #[], [], rfl, h2, Nat.zero_le _, rfl, st₃, ⟨_, e3 _ _ hDH.choose_spec⟩, hns₃, fun j v q => by simp at q, .nil, fun _ _ _ q => q⟩
    rintro k s' ⟨h', tk', m', ys, vs, rfl, htk, hle, rfl, st', hL', hn', hP, hpair, hkeep⟩
    by_cases hlt : vs.length < n
    · refine wpAny_with_toks (n := 1) htk (W.item vs.length _ _ _ hlt st' fun v h₄ tk₄ hPv st₄ hk₄ htk₄ => ?_)
      have htk₄' : 1 ≤ tk₄ := htk₄
      refine wpAny_assign_Name (wpAny_storeName_local (lookup_relabel_local hx) (hn'.at' fun o q => hk₄ _ o hCw q) (fun h₅ hn₅ hs₅ => ?_) (by simp [compEnvC, relabel, hkind]))
      refine wpAny_tests_nil ?_
      simp only [if_true]
      have up5 : ∀ b o, ¬ (b = C ∨ b ∈ wr ∨ b = D) → h'.get? b = some o → h₅.get? b = some o := fun b o z q => hs₅.extBut b o (fun y => z (.inl y)) (hk₄ b o (fun y => z (.inr (.inl y))) q)
      have e05 : Ext h h₅ := fun b o q => up5 b o (no3 b o q) (hkeep b o (no3 b o q) (e03 b o q))
      have st₅ : St (vs.length + 1) h₅ := W.frame _ _ _ st₄ fun b hb o q => hs₅.extBut b o (hDf b hb).2 q
      refine Ok.go (elts C vs.length v h₅ _ hPv e05 hn₅ (by simp)) rfl (show 1 ≤ tk₄ + 1 by omega) ?_
      rintro y h₆ tk₆ h6 e₆ ⟨T, o, rfl, hT, hTo, hobj⟩
      obtain ⟨n', hL''⟩ := hL'
      have hD₅ : h₅.get? D = some { cls := .type "list", data := .seq ys n' } := hs₅.extBut _ _ hDC (hk₄ _ _ hDw hL'')
      have hTC : T ≠ C := fun q => by
        obtain ⟨oq, _, _, z, _⟩ := hn₅
        have z' : h₅.get? C = some oq := z
        rw [← q, hT] at z'; cases z'
      have hTD : T ≠ D := fun q => by rw [q, hD₅] at hT; cases hT
      have hTw : T ∉ wr := fun q => by
        obtain ⟨oq, z⟩ := hlive _ _ st₅ T q
        rw [hT] at z; cases z
      have hszy : ys.size ≤ sizeLine := by
        have := hpair.length
        have h8 : ys.toList.length = ys.size := by simp
        omega
      refine wpAny_list_append_plain (hsz := hszy) (⟨_, e₆ _ _ hD₅⟩) fun h₇ hL₇ hs₇ => ?_
      have up7 : ∀ b o, ¬ (b = C ∨ b ∈ wr ∨ b = D) → h'.get? b = some o → h₇.get? b = some o := fun b o z q => hs₇.extBut b o (fun y => z (.inr (.inr y))) (e₆ b o (up5 b o z q))
      refine ⟨n + 1 - (vs.length + 1), by omega, h₇, tk₆, _, ys.push (.ref T), vs ++ [v], rfl, h6, ?_, ?_, ?_, hL₇, (hn₅.keeps e₆).sameBut hs₇ (Ne.symm hDC), ?_, ?_, fun b o z q => up7 b o z (hkeep b o z q)⟩
      · rw [List.length_append, List.length_singleton]; exact hlt
      · rw [List.length_append, List.length_singleton]
      · rw [List.length_append, List.length_singleton]
        exact W.frame _ _ _ st₅ fun b hb o q => hs₇.extBut b o (hDf b hb).1 (e₆ b o q)
      · intro j u hj
        rcases Nat.lt_trichotomy j vs.length with z | z | z
        · exact hP j u (by rwa [List.getElem?_append_left z] at hj)
        · subst z; simp at hj; subst hj; exact hPv
        · rw [List.getElem?_eq_none (by rw [List.length_append, List.length_singleton]; omega)] at hj; cases hj
      · have hp7 := Paired.imp (G := HoldsAt h (fun b => b = C ∨ b ∈ wr ∨ b = D) g h₇) (fun a b z => z.up up7) hpair
        have hy7 : HoldsAt h (fun b => b = C ∨ b ∈ wr ∨ b = D) g h₇ v (.ref T) := ⟨T, o, rfl, e05.fresh hT, (fun z => z.elim hTC fun z => z.elim hTw hTD), hs₇.extBut _ _ hTD hTo, hobj⟩
        simpa using Paired.snoc hp7 hy7
    · have hin : vs.length = n := by omega
      refine W.done _ _ _ (hin ▸ st') fun h₄ tk₄ hk₄ => ?_
      refine ⟨m', hn'.at' fun o q => hk₄ _ o hCw q, fun h₅ hs₅ => ?_⟩
      have up5 : ∀ b o, ¬ (b = C ∨ b ∈ wr ∨ b = D) → h'.get? b = some o → h₅.get? b = some o := fun b o z q => hs₅.extBut b o (fun y => z (.inl y)) (hk₄ b o (fun y => z (.inr (.inl y))) q)
      obtain ⟨n', hL''⟩ := hL'
      refine hQ _ h₅ _ (fun b o q => up5 b o (no3 b o q) (hkeep b o (no3 b o q) (e03 b o q))) ⟨D, ys, vs, rfl, e02.fresh hD₂, ⟨n', hs₅.extBut _ _ hDC (hk₄ _ _ hDw hL'')⟩, hin, hP, ?_⟩
      refine Paired.imp (fun a b z => ?_) hpair
      obtain ⟨T, o, q1, q2, q3, q4, q5⟩ := z
      exact ⟨T, o, q1, q2, id, up5 T o q3 q4, q5⟩
  exact codeAny_compStart_list loop (W.self 0 _ _ _ st₃ loop)
end
end Mine

namespace Mine
section
variable {prog : Program} {w : World} {A : Around} {h : Heap} {env : Env}
theorem Ok.addList {l b : Addr} {its its2 : Array Value} (hl : h.IsList l its) (hb : h.IsList b its2) (hsz : its.size + its2.size ≤ sizeLine) :
    Ok prog w A (binaryOp .Add (.ref l) (.ref b)) h (fun v h' => ∃ T, v = .ref T ∧ h.get? T = Option.none ∧ h'.PlainList T (its ++ its2)) := by
  intro s E Q hh ht hQ
  subst hh
  obtain ⟨⟨cls, dd, data, sl⟩, ho, hc, n, hd⟩ := id hl
  obtain ⟨⟨cls2, dd2, data2, sl2⟩, ho2, hc2, n2, hd2⟩ := id hb
  simp only at hc hd hc2 hd2
  subst hc hd hc2 hd2
  exact concat_meets ⟨_, ho, rfl⟩ ⟨_, ho2, rfl⟩ noFill_list_add seq_list_add F.slot_list_add F.entry_list_add (F.args_list_add_2 _ _) (list_addW l b its its2 n n2 dd dd2 sl sl2 hsz)
    ⟨ho, ho2, hQ _ _ s.toks ht (Ext.push _ _) ⟨_, rfl, size_fresh, _, Heap.get?_push_size _ rfl⟩⟩
theorem isPart_of {v : Value} {lo : Option Int} (x : IsP v lo) : IsPart v lo := by
  obtain ⟨l, rfl, rfl⟩ := x
  cases l with
  | none => exact .none
  | some p => exact .int p.1 p.2
theorem Ok.sliceList {value : PySem.Expr} {lower upper : Option PySem.Expr} {p pos : Pos} {l : Addr} {its : Array Value} {lo hi : Option Int} (hl : h.IsList l its) (hx : its.size ≤ sizeLine)
    (hv : Ok prog w A (eval value env) h (fun a _ => a = .ref l)) (hlo : ∀ h₁, Ext h h₁ → Ok prog w A (evalPart lower env) h₁ (fun v _ => IsP v lo))
    (hu : ∀ h₁, Ext h h₁ → Ok prog w A (evalPart upper env) h₁ (fun v _ => IsP v hi)) (ht' : ∀ o r, letTemporaryGo value o r = Pure.pure () := by intro _ _; rfl) :
    Ok prog w A (eval (.Subscript value (.Slice lower upper Option.none p) pos) env) h (fun v h' => ∃ T, v = .ref T ∧ h.get? T = Option.none ∧ h'.PlainList T (slicePick its lo hi Option.none)) := by
  intro s E Q hh ht hQ
  refine wpAny_Subscript_list_slice (Ok.go hv hh ht ?_) ht'
  rintro a h₁ tk h1 e₁ rfl
  refine Ok.go (hlo h₁ e₁) rfl h1 ?_
  rintro vl h₂ tk₂ h2 e₂ rl
  refine Ok.go (hu h₂ (e₁.trans e₂)) rfl h2 ?_
  rintro vu h₃ tk₃ h3 e₃ ru
  have e := (e₁.trans e₂).trans e₃
  have hz : (h₃.push { cls := .type "slice", data := .fields #[vl, vu, .none] }).objs.size = h₃.objs.size + 1 := Heap.size_push ..
  have hg : ((h₃.push { cls := .type "slice", data := .fields #[vl, vu, .none] }).push { cls := .type "list", data := .seq (slicePick its lo hi Option.none) }).get? (h₃.push { cls := .type "slice", data := .fields #[vl, vu, .none] }).objs.size = some { cls := .type "list", data := .seq (slicePick its lo hi Option.none) } := Heap.get?_push_size _ rfl
  have hf : h.get? (h₃.push { cls := .type "slice", data := .fields #[vl, vu, .none] }).objs.size = Option.none := (e.trans (Ext.push _ _)).fresh size_fresh
  rw [hz] at hg hf
  exact ⟨l, its, lo, hi, rfl, hl.at fun o q => e _ o q, hx, isPart_of rl, isPart_of ru, hQ _ _ tk₃ h3 ((e.trans (Ext.push _ _)).trans (Ext.push _ _)) ⟨_, rfl, hf, _, hg⟩⟩
theorem Ok.modInt {a b : Int} {t u : Tok} (hb : b ≠ 0) : Ok prog w A (binaryOp .Mod (.int a t) (.int b u)) h (fun v _ => ∃ t, v = .int (a.fmod b) t) := by
  intro s E Q hh ht hQ
  subst hh
  exact PyProof.Rows.mod_int hb (hQ _ s.heap _ (by omega) (Ext.refl _) ⟨_, rfl⟩)
theorem Ok.neg {x : PySem.Expr} {pos : Pos} {a : Int} (hx : Ok prog w A (eval x env) h (fun v _ => ∃ t, v = .int a t)) : Ok prog w A (eval (.UnaryOp .USub x pos) env) h (fun v _ => ∃ t, v = .int (-a) t) := by
  intro s E Q hh ht hQ
  refine wpAny_UnaryOp (Ok.go hx hh ht ?_)
  rintro v h₁ tk h1 e₁ ⟨t, rfl⟩
  exact PyProof.Rows.neg_int (hQ _ h₁ _ (by show 1 ≤ tk + 1; omega) e₁ ⟨_, rfl⟩)
theorem Ok.range3 {a b c : Int} {t u v : Tok} (hc : c ≠ 0) (hs : c.natAbs < 1073741824) : Ok prog w A (call (.type "range") [.int a t, .int b u, .int c v]) h (fun r h' => ∃ R t u v, r = .ref R ∧ h.get? R = Option.none ∧ IsRange h' R a b c t u v) := by
  intro s E Q hh ht hQ
  subst hh
  exact call_range_3 hc (hQ _ _ _ ht (Ext.push _ _) ⟨_, _, _, _, rfl, size_fresh, IsRange.new _ _ _ _ _ _ _⟩) (.inl (PyProof.noPylong_small hs))

/-- a range down by twos -/
def downN (n : Nat) : Nat := (n + 1) / 2
theorem small_down {n : Nat} (hn : n ≤ sizeLine) : Builtin.Range.small n 0 (-2) = true ∧ Builtin.Range.rangeSize n 0 (-2) = ((downN n : Nat) : Int) := by
  have hs : sizeLine = 16777216 := rfl
  have e : Builtin.Range.rangeSize n 0 (-2) = ((downN n : Nat) : Int) := by
    unfold Builtin.Range.rangeSize downN
    rw [if_neg (by decide), show (- -2 : Int) = 2 from rfl]
    split <;> omega
  have hd : downN n ≤ n + 1 := by unfold downN; omega
  refine ⟨?_, e⟩
  unfold Builtin.Range.small
  rw [e]
  unfold Builtin.Range.rangeFitsLong
  rw [if_neg (by decide : ¬ (-2 : Int) > 0)]
  simp only [Bool.and_eq_true, Bool.or_eq_true, decide_eq_true_eq]
  refine ⟨⟨⟨⟨?_, ?_⟩, ?_⟩, ?_⟩, .inr ?_⟩ <;> omega
end
end Mine

namespace Mine
theorem constMethod {x : Str} {k : Nat} {p apos pos : Pos} {name : Str} {args : List PySem.Expr} {env : Env} (hpos : (apos.endLine == pos.line) = true) (hform : methodCallForm (args.length + 0) (backTo pos (starEach args env)) [] = true) :
    ∃ pl : Sem Bool, eval (.Call (.Attribute (.Constant (.str x) k p) name apos) args [] pos) env = (do
      let ov ← eval (.Constant (.str x) k p) env
      standAt apos.atName
      let (f, first) ← holding [ov] (getMethod ov name pl)
      callWith pos f first (backTo pos (starEach args env)) []) := by
  refine ⟨?_, ?h⟩
  case h =>
    rw [arm_eval_Call]
    show (do
      let ov ← eval (.Constant (.str x) k p) env
      standAt apos.atName
      methodCall (.Constant (.str x) k p) name apos pos env ov (args.length + 0) (backTo pos (starEach args env)) []) = _
    unfold methodCall calleeOf methodCallPos
    rw [hform, hpos]
    rfl
/-- a method of a written text -/
theorem methodConst {M : Model} {A : Around} {E : Value → Shared → Prop} {Q : Value → Shared → Prop} {s : Shared} {x : Str} {k : Nat} {p apos pos : Pos} {name : Str} {args : List PySem.Expr} {env : Env} (hpos : (apos.endLine == pos.line) = true)
    (hform : methodCallForm (args.length + 0) (backTo pos (starEach args env)) [] = true)
    (h : ∀ pl, wpAny M A (eval (.Constant (.str x) k p) env) (fun ov s₁ => wpAny M A (getMethod ov name pl) (fun fx s₂ => wpAny M A (callWith pos fx.1 fx.2 (backTo pos (starEach args env)) []) Q E s₂) E s₁) E s) :
    wpAny M A (eval (.Call (.Attribute (.Constant (.str x) k p) name apos) args [] pos) env) Q E s := by
  obtain ⟨pl, e⟩ := constMethod (x := x) (k := k) (p := p) (name := name) hpos hform
  exact MethodCall_ (h pl) e

abbrev fdLaw := fd 13 "law" (.str "law_of0001_01" 352) 77
/-- the value or test of the law's i-th statement -/
def lawE (i : Nat) : PySem.Expr := stmtVal (nth i (fnBody (stt 13)))
def pc : Nat → List Nat
  | 0 => [39]
  | 1 => [32]
  | 2 => [34]
  | 3 => [97]
  | 4 => [65]
  | _ => [37, 50, 48]
def tailI : List Int := [4, 0, 5, 1, 0, 2, 0, 3]
/-- the law's text -/
def textL (ns : List Int) : List Nat := (ns.take 8 ++ tailI).flatMap fun n => pc (n.fmod 6).toNat

theorem ints_strs {f : Int → Str} : ∀ {vs : List Value} {ns : List Int} {ys : List Value}, IntsAre vs ns → Paired (fun v y => ∀ n t, v = Value.int n t → ∃ t', y = Value.str (f n) t') vs ys → StrsAre ys (ns.map f)
  | _, _, _, .nil, .nil => .nil
  | _, _, _, .cons n t r, .cons hy r' => by
    obtain ⟨t', rfl⟩ := hy n t rfl
    exact .cons _ t' (ints_strs r r')
theorem list_of_get {α : Type} {vs : List α} {its : Array α} (hlen : vs.length = its.size) (h : ∀ (j : Nat) (v : α), vs[j]? = some v → its[j]? = some v) : vs = its.toList := by
  apply List.ext_getElem?
  intro j
  by_cases hj : j < vs.length
  · have := h j vs[j] (by simp [hj])
    rw [List.getElem?_eq_getElem hj]; simpa using this.symm
  · rw [List.getElem?_eq_none (by omega), List.getElem?_eq_none (by simp; omega)]
theorem intsAre_take : ∀ {vs : List Value} {ns : List Int}, IntsAre vs ns → ∀ k : Nat, IntsAre (vs.take k) (ns.take k)
  | _, _, _, 0 => .nil
  | _, _, .nil, _ + 1 => .nil
  | _, _, .cons n t r, k + 1 => .cons n t (intsAre_take r k)
theorem Walks.weaken {prog : Program} {w : World} {A : Around} {I : Addr} {fp wr : List Addr} {n : Nat} {P P' : Nat → Value → Prop} {St : Nat → Heap → Prop} (W : Walks prog w A I fp wr n P St) (f : ∀ i v, P i v → P' i v) : Walks prog w A I fp wr n P' St where
  sub := W.sub
  frame := W.frame
  item := fun i s Q E hi st hQ => W.item i s Q E hi st fun v h' tk hP => hQ v h' tk (f i v hP)
  done := W.done
  self := W.self
theorem Src.weaken {prog : Program} {w : World} {A : Around} {xv : Value} {h : Heap} {n : Nat} {P P' : Nat → Value → Prop} (x : Src prog w A xv h n P) (f : ∀ i v, P i v → P' i v) : Src prog w A xv h n P' := by
  intro s E Q hh ht hQ
  exact x s E Q hh ht fun I fp wr St h₂ tk h1 W => hQ I fp wr St h₂ tk h1 (Mine.Walks.weaken W f)
theorem ints_of_get : ∀ (vs : List Value) (ns : List Int), vs.length = ns.length → (∀ (j : Nat) (v : Value), vs[j]? = some v → ∃ n t, ns[j]? = some n ∧ v = Value.int n t) → IntsAre vs ns
  | [], [], _, _ => .nil
  | v :: vs, n :: ns, hl, h => by
    obtain ⟨n', t, h1, rfl⟩ := h 0 v rfl
    have e : n' = n := by simpa using h1.symm
    subst e
    exact .cons _ t (ints_of_get vs ns (by simpa using hl) fun j v hv => by simpa using h (j + 1) v (by simpa using hv))
theorem fmod6 (n : Int) : 0 ≤ n.fmod 6 ∧ n.fmod 6 < 6 := by
  rw [Int.fmod_eq_emod_of_nonneg _ (by decide)]
  omega

section
variable {prog : Program} {w : World} {A : Around} {mg mb : Str → Option Value} {h : Heap} {L : Addr} {m : Str → Option Value}

theorem text_ok {s : Shared} {E : Value → Shared → Prop} {Q : Value → Shared → Prop} {ls : Addr} {vs : Array Value} {ns : List Int} (hA : A.handled = none) (hn : s.heap.Ns L m) (hm : m "script" = some (.ref ls))
    (hl : s.heap.IsList ls vs) (hI : IntsAre vs.toList ns) (hlen : ns.length ≤ 63)
    (hQ : ∀ v h' tk, 1 ≤ tk → Ext s.heap h' → (∃ t, v = .str (S (textL ns)) t) → Q v { s with heap := h', toks := tk }) :
    wpAny (model prog w) A (eval (lawE 0) (callEnvC fdLaw L 78)) Q E s := by
  have hsl : sizeLine = 16777216 := rfl
  have hvl : vs.size = ns.length := by have := intsAre_length hI; simpa using this
  show wpAny _ _ (eval (PySem.Expr.Call (.Attribute (.Constant (.str "") 0 _) "join" _) [.ListComp _ [⟨.Name "x" _, _, [], 0⟩] _ _] [] _) _) _ _ _
  refine methodConst rfl rfl fun pl => wpAny_Constant_str ?_
  refine GM.join (callWith_method1 (Ok.go (h := s.heap) (Ok.args1 rfl (Ok.comp (n := (ns.take 8 ++ tailI).length) (P := fun i v => ∃ n t, (ns.take 8 ++ tailI)[i]? = some n ∧ v = Value.int n t) (fun _ => true) (fun v y => ∀ n t, v = Value.int n t → ∃ t', y = Value.str (S (pc (n.fmod 6).toNat)) t')
    (R₁ := fun v h' => ∃ T its, v = .ref T ∧ h'.PlainList T its ∧ IntsAre its.toList (ns.take 8 ++ tailI)) (by rfl) (by decide) rfl (by decide) rfl ?_ ?_ ?_ ?_ ?_ (by intro v; rfl))) rfl (Nat.le_add_left 1 _) ?_))
  · rw [List.length_append, List.length_take, hsl]; simp [tailI]; omega
  · refine Ok.binop (R₁ := fun v h' => ∃ T, v = .ref T ∧ h'.PlainList T (vs.toList.take 8).toArray) (R₂ := fun v h' => ∃ T its, v = .ref T ∧ h'.PlainList T its ∧ IntsAre its.toList tailI) ?_ ?_ ?_
    · refine (Ok.sliceList (lo := none) (hi := some 8) hl (by rw [hvl]; omega) (Ok.local rfl rfl hn hm) (fun _ _ => Ok.partNone) (fun _ _ => Ok.partSome Ok.int)).mono ?_
      rintro v h' _ ⟨T, rfl, _, n, hT⟩
      refine ⟨T, rfl, n, ?_⟩
      rw [hT, show ((8 : Int)) = ((8 : Nat) : Int) from rfl, slicePick_upto']
    · rintro a h₁ e₁ _
      refine Ok.list (R := fun ws _ => ∃ t₁ t₂ t₃ t₄ t₅ t₆ t₇ t₈, ws = [.int 4 t₁, .int 0 t₂, .int 5 t₃, .int 1 t₄, .int 0 t₅, .int 2 t₆, .int 0 t₇, .int 3 t₈]) ?_ ?_
      · refine Ok.argsC rfl Ok.int fun v h₂ e₂ r => ?_
        obtain ⟨t₁, rfl⟩ := r
        refine Ok.argsC rfl Ok.int fun v h₂ e₂ r => ?_
        obtain ⟨t₂, rfl⟩ := r
        refine Ok.argsC rfl Ok.int fun v h₂ e₂ r => ?_
        obtain ⟨t₃, rfl⟩ := r
        refine Ok.argsC rfl Ok.int fun v h₂ e₂ r => ?_
        obtain ⟨t₄, rfl⟩ := r
        refine Ok.argsC rfl Ok.int fun v h₂ e₂ r => ?_
        obtain ⟨t₅, rfl⟩ := r
        refine Ok.argsC rfl Ok.int fun v h₂ e₂ r => ?_
        obtain ⟨t₆, rfl⟩ := r
        refine Ok.argsC rfl Ok.int fun v h₂ e₂ r => ?_
        obtain ⟨t₇, rfl⟩ := r
        refine (Ok.args1 rfl Ok.int).mono ?_
        rintro a h₃ e₃ ⟨v, rfl, t₈, rfl⟩
        exact ⟨t₁, t₂, t₃, t₄, t₅, t₆, t₇, t₈, rfl⟩
      · rintro ws h₂ e₂ ⟨t₁, t₂, t₃, t₄, t₅, t₆, t₇, t₈, rfl⟩
        exact ⟨by show 8 ≤ sizeLine; decide, _, _, rfl, ⟨_, Heap.get?_push_size _ rfl⟩, .cons _ _ (.cons _ _ (.cons _ _ (.cons _ _ (.cons _ _ (.cons _ _ (.cons _ _ (.cons _ _ .nil)))))))⟩
    · rintro a b h₁ h₂ e₁ e₂ ⟨T, rfl, n, hT⟩ ⟨T', its, rfl, ⟨n', hT'⟩, hI'⟩
      have hl8 : (vs.toList.take 8).length ≤ 8 := by rw [List.length_take]; omega
      have hi8 : its.size = 8 := by have := intsAre_length hI'; simpa [tailI] using this
      refine (Ok.addList ⟨_, e₂ _ _ hT, rfl, _, rfl⟩ ⟨_, hT', rfl, _, rfl⟩ (by rw [hi8, List.size_toArray]; omega)).mono ?_
      rintro v h₃ e₃ ⟨R, rfl, _, n'', hR⟩
      refine ⟨R, _, rfl, ⟨n'', hR⟩, ?_⟩
      rw [Array.toList_append]
      exact IntsAre.append (by simpa using intsAre_take hI 8) hI'
  · rintro xv h₁ e₁ ⟨T, its, rfl, ⟨n, hT⟩, hI'⟩
    have hsz : its.size = (ns.take 8 ++ tailI).length := by have := intsAre_length hI'; simpa using this
    rw [← hsz]
    exact Src.weaken (Src.list hA ⟨_, hT, rfl, _, rfl⟩) fun i v hv => by
      obtain ⟨n, t, e1, e2⟩ := IntsAre.at hI' i v (by simpa using hv)
      exact ⟨n, t, e2, e1⟩
  · rintro C i v h₃ m₃ _ e₃ hn₃ hm₃
    exact Ok.mk fun s E Q hh ht hQ => by subst hh; exact wpAny_tests_nil (hQ _ s.heap s.toks (Ext.refl _) rfl)
  · rintro C i v h₃ m₃ ⟨n, t, _, rfl⟩ _ e₃ hn₃ hm₃
    have h6 := fmod6 n
    refine Ok.sub (R₁ := fun v h' => ∃ T its, v = .ref T ∧ h'.PlainList T its ∧ its.size = 6 ∧ ∀ k, k < 6 → ∃ t, its[k]? = some (Value.str (S (pc k)) t)) (R₂ := fun v _ => ∃ t, v = .int (n.fmod 6) t) ?_ ?_ ?_
    · refine Ok.list (R := fun ws _ => ∃ t₁ t₂ t₃ t₄ t₅ t₆, ws = [.str "'" t₁, .str " " t₂, .str "\"" t₃, .str "a" t₄, .str "A" t₅, .str "%20" t₆]) ?_ ?_
      · refine Ok.argsC rfl Ok.str fun v h₂ e₂ r => ?_
        obtain ⟨t₁, rfl⟩ := r
        refine Ok.argsC rfl Ok.str fun v h₂ e₂ r => ?_
        obtain ⟨t₂, rfl⟩ := r
        refine Ok.argsC rfl Ok.str fun v h₂ e₂ r => ?_
        obtain ⟨t₃, rfl⟩ := r
        refine Ok.argsC rfl Ok.str fun v h₂ e₂ r => ?_
        obtain ⟨t₄, rfl⟩ := r
        refine Ok.argsC rfl Ok.str fun v h₂ e₂ r => ?_
        obtain ⟨t₅, rfl⟩ := r
        refine (Ok.args1 rfl Ok.str).mono ?_
        rintro a h₃ e₃ ⟨v, rfl, t₆, rfl⟩
        exact ⟨t₁, t₂, t₃, t₄, t₅, t₆, rfl⟩
      · rintro ws h₂ e₂ ⟨t₁, t₂, t₃, t₄, t₅, t₆, rfl⟩
        refine ⟨by show 6 ≤ sizeLine; decide, _, _, rfl, ⟨_, Heap.get?_push_size _ rfl⟩, rfl, ?_⟩
        intro k hk
        have e1 : (Str.ofString "'") = S (pc 0) := by decide
        have e2 : (Str.ofString " ") = S (pc 1) := by decide
        have e3 : (Str.ofString "\"") = S (pc 2) := by decide
        have e4 : (Str.ofString "a") = S (pc 3) := by decide
        have e5 : (Str.ofString "A") = S (pc 4) := by decide
        have e6 : (Str.ofString "%20") = S (pc 5) := by decide
        match k, hk with
        | 0, _ => exact ⟨t₁, by rw [← e1]; rfl⟩
        | 1, _ => exact ⟨t₂, by rw [← e2]; rfl⟩
        | 2, _ => exact ⟨t₃, by rw [← e3]; rfl⟩
        | 3, _ => exact ⟨t₄, by rw [← e4]; rfl⟩
        | 4, _ => exact ⟨t₅, by rw [← e5]; rfl⟩
        | 5, _ => exact ⟨t₆, by rw [← e6]; rfl⟩
    · rintro a h₄ e₄ _
      refine Ok.binop (R₁ := fun v _ => v = .int n t) (R₂ := fun v _ => ∃ t, v = .int 6 t) (Ok.local rfl rfl (hn₃.keeps e₄) hm₃) (fun _ _ _ _ => Ok.int) ?_
      rintro a b h₅ h₆ e₅ e₆ rfl ⟨t', rfl⟩
      exact Ok.modInt (by decide)
    · rintro a b h₄ h₅ e₄ e₅ ⟨T, its, rfl, ⟨n', hT⟩, hsz, hit⟩ ⟨t', rfl⟩
      obtain ⟨t'', hk⟩ := hit (n.fmod 6).toNat (by omega)
      refine (Ok.listItem ⟨_, e₅ _ _ hT, rfl, _, rfl⟩ h6.1 (by omega) hk).mono ?_
      rintro v h₆ e₆ rfl
      intro n₂ t₂ e
      injection e with e1 _
      subst e1
      exact ⟨t'', rfl⟩
  · rintro ws h₁ tk h1 e₁ ⟨v, rfl, D, rfl, ys, vs', hD, ⟨n, hL⟩, hlen', hP, hpair⟩
    have hft : vs'.filter (fun _ => true) = vs' := List.filter_eq_self.mpr fun _ _ => rfl
    rw [hft] at hpair
    have hS := ints_strs (f := fun n => S (pc (n.fmod 6).toNat)) (ints_of_get vs' _ hlen' hP) hpair
    refine Ok.go (Ok.joinL (B := 3) ⟨_, hL, rfl, _, rfl⟩ hS ?_ ?_) rfl h1 ?_
    · intro y hy
      obtain ⟨n, _, rfl⟩ := List.mem_map.mp hy
      show (pc (n.fmod 6).toNat).length ≤ 3
      unfold pc
      split <;> decide
    · have e0 : (Str.ofString "").length = 0 := by decide
      rw [e0, List.length_map, List.length_append, List.length_take]; simp [tailI]; omega
    · rintro v h₂ tk₂ h2 e₂ ⟨t', rfl⟩
      refine hQ _ _ _ h2 (e₁.trans e₂) ⟨t', ?_⟩
      congr 1
      apply Ls_inj
      rw [join_empty, Ls_S, textL, List.map_map, List.flatMap_def]
      rfl
end
end Mine

namespace Mine
/-- the law's words -/
def wordsS (x : Str) : List Str := ((List.range (downN x.length)).map fun i : Nat => Txt.slice x none (some ((x.length : Int) + (i : Int) * (-2)))) ++ [Str.ofString ""]

theorem ints_down : ∀ (vs ys : List Value) (f : Nat → Str) (off : Nat), (∀ (j : Nat) (v : Value), vs[j]? = some v → ∃ (k : Int) (t : Tok), v = Value.int k t) → (∀ (j : Nat) (v y : Value), vs[j]? = some v → ys[j]? = some y → ∃ t, y = Value.str (f (off + j)) t) → vs.length = ys.length →
    StrsAre ys ((List.range' off vs.length).map f)
  | [], [], _, _, _, _, _ => .nil
  | v :: vs, y :: ys, f, off, hv, hy, hl => by
    obtain ⟨t, rfl⟩ := hy 0 v y rfl rfl
    rw [List.length_cons, List.range'_succ, List.map_cons]
    exact .cons _ t (ints_down vs ys f (off + 1) (fun j v h => hv (j + 1) v (by simpa using h)) (fun j v y h1 h2 => by
      obtain ⟨t, e⟩ := hy (j + 1) v y (by simpa using h1) (by simpa using h2)
      exact ⟨t, by rw [e]; congr 2; omega⟩) (by simpa using hl))
theorem paired_get {α β : Type} {F : α → β → Prop} : ∀ {l₁ : List α} {l₂ : List β}, Paired F l₁ l₂ → ∀ (j : Nat) (a : α) (b : β), l₁[j]? = some a → l₂[j]? = some b → F a b
  | _, _, .cons h _, 0, a, b, h1, h2 => by simp at h1 h2; subst h1 h2; exact h
  | _, _, .cons _ r, j + 1, a, b, h1, h2 => paired_get r j a b (by simpa using h1) (by simpa using h2)

section
variable {prog : Program} {w : World} {A : Around} {mg mb : Str → Option Value} {h : Heap} {L : Addr}

theorem words_ok {x : Str} {t : Tok} (W : Wd mg mb h) (hA : A.handled = none) (hx : x.length ≤ 1048576) (hc : h.IsCell (L + 1) (some (.str x t))) :
    Ok prog w A (eval (lawE 1) (callEnvC fdLaw L 78)) h (fun v h' => ∃ T its, v = .ref T ∧ h.get? T = none ∧ h'.PlainList T its ∧ StrsAre its.toList (wordsS x)) := by
  have hsl : sizeLine = 16777216 := rfl
  have hx' : x.length ≤ sizeLine := by omega
  have hsm := small_down hx'
  have hdn : downN x.length ≤ x.length := by unfold downN; omega
  show Ok prog w A (eval (PySem.Expr.BinOp (.ListComp _ [⟨.Name "k" _, _, [], 0⟩] _ _) .Add _ _) _) h _
  refine Ok.binop (R₁ := fun v h' => ∃ T its, v = .ref T ∧ h'.PlainList T its ∧ StrsAre its.toList ((List.range (downN x.length)).map fun i : Nat => Txt.slice x none (some ((x.length : Int) + (i : Int) * (-2)))))
    (R₂ := fun v h' => ∃ T t n, v = .ref T ∧ h'.get? T = some { cls := .type "list", data := .seq #[.str "" t] n }) ?_ ?_ ?_
  · refine (Ok.comp (n := downN x.length) (P := fun i v => i < downN x.length ∧ ∃ t, v = .int ((x.length : Int) + (i : Int) * (-2)) t) (fun _ => true) (fun v y => ∀ k t, v = Value.int k t → ∃ t', y = Value.str (Txt.slice x none (some k)) t')
      (R₁ := fun v h' => ∃ r t u w, v = .ref r ∧ IsRange h' r x.length 0 (-2) t u w) (by rfl) (by decide) rfl (by decide) rfl (by omega) ?_ ?_ ?_ ?_ (by intro v; rfl)).mono ?_
    · refine Ok.callT (T := "range") (R := fun vs _ => ∃ t u v, vs = [.int x.length t, .int 0 u, .int (-2) v]) rfl (Ok.builtin rfl rfl W.g W.gRange W.b ((W.bi "range" (by decide)).trans (by rfl))) (fun h₂ e₂ => ?_) ?_
      · have W₂ := W.keeps e₂
        refine Ok.argsC rfl (R := fun v _ => ∃ t, v = .int x.length t) ?_ fun v h₃ e₃ r => ?_
        · refine Ok.callB (id := "len") (R := fun vs _ => vs = [.str x t]) rfl (Ok.builtin rfl rfl W₂.g W₂.gLen W₂.b ((W₂.bi "len" (by decide)).trans (by rfl))) (fun h₃ e₃ => ?_) (fun vs h₃ e₃ r => ?_)
          · exact (Ok.args1 rfl (Ok.cell rfl rfl rfl ((hc.keeps e₂).keeps e₃))).mono (by rintro a h' _ ⟨v, rfl, rfl⟩; rfl)
          · subst r; exact Ok.lenStr hx'
        · obtain ⟨t₁, rfl⟩ := r
          refine Ok.argsC rfl Ok.int fun v h₄ e₄ r => ?_
          obtain ⟨t₂, rfl⟩ := r
          refine (Ok.args1 rfl (Ok.neg Ok.int)).mono ?_
          rintro a h₅ e₅ ⟨v, rfl, t₃, rfl⟩
          exact ⟨t₁, t₂, t₃, rfl⟩
      · rintro vs h₂ e₂ ⟨t₁, t₂, t₃, rfl⟩
        exact (Ok.range3 (by decide) (by decide)).mono (by rintro v h' _ ⟨r, t, u, w, rfl, _, q⟩; exact ⟨r, t, u, w, rfl, q⟩)
    · rintro xv h₂ e₂ ⟨r, t', u, w', rfl, hr⟩
      exact Src.range hA hr hsm.1 hsm.2
    · rintro C i v h₃ m₃ _ e₃ hn₃ hm₃
      exact Ok.mk fun s E Q hh ht hQ => by subst hh; exact wpAny_tests_nil (hQ _ s.heap s.toks (Ext.refl _) rfl)
    · rintro C i v h₃ m₃ ⟨_, t', rfl⟩ _ e₃ hn₃ hm₃
      refine (Ok.slice (lo := none) (hi := some ((x.length : Int) + (i : Int) * (-2))) hx' (Ok.cell rfl rfl rfl (hc.keeps e₃)) (fun _ _ => Ok.partNone) (fun h₄ e₄ => Ok.partSome ?_)).mono ?_
      · exact (Ok.local rfl rfl (hn₃.keeps e₄) hm₃).mono (by rintro v h' _ rfl; exact ⟨_, rfl⟩)
      · rintro v h₄ e₄ ⟨t'', rfl⟩
        intro k t₃ e
        injection e with e1 _
        subst e1
        exact ⟨t'', rfl⟩
    · rintro r h₁ e₁ ⟨D, rfl, ys, vs, hD, hL, hlen, hP, hpair⟩
      have hft : vs.filter (fun _ => true) = vs := List.filter_eq_self.mpr fun _ _ => rfl
      rw [hft] at hpair
      refine ⟨D, ys, rfl, hL, ?_⟩
      have := ints_down vs ys.toList (fun i : Nat => Txt.slice x none (some ((x.length : Int) + (i : Int) * (-2)))) 0 (fun j v hv => let ⟨_, t, e⟩ := hP j v hv; ⟨_, t, e⟩) (fun j v y h1 h2 => by
        obtain ⟨_, t, e⟩ := hP j v h1
        obtain ⟨t', e'⟩ := paired_get hpair j v y h1 h2 _ t e
        exact ⟨t', by rw [e', Nat.zero_add]⟩) hpair.length
      rwa [hlen, ← List.range_eq_range'] at this
  · rintro a h₁ e₁ _
    refine Ok.list (R := fun vs _ => ∃ t, vs = [.str "" t]) ?_ ?_
    · exact (Ok.args1 rfl Ok.str).mono (by rintro a h' _ ⟨v, rfl, t, rfl⟩; exact ⟨t, rfl⟩)
    · rintro vs h₂ e₂ ⟨t', rfl⟩
      exact ⟨by show 1 ≤ sizeLine; decide, _, t', _, rfl, Heap.get?_push_size _ rfl⟩
  · rintro a b h₁ h₂ e₁ e₂ ⟨T, its, rfl, ⟨n, hT⟩, hS⟩ ⟨T', t', n', rfl, hT'⟩
    have hsz : its.size = downN x.length := by have := strs_length hS; simpa using this
    refine (Ok.addList ⟨_, e₂ _ _ hT, rfl, _, rfl⟩ ⟨_, hT', rfl, _, rfl⟩ (by rw [hsz]; show downN x.length + 1 ≤ sizeLine; omega)).mono ?_
    rintro v h₃ e₃ ⟨R, rfl, hR, n'', hRR⟩
    refine ⟨R, _, rfl, (e₁.trans e₂).fresh hR, ⟨n'', hRR⟩, ?_⟩
    rw [Array.toList_append, wordsS]
    exact StrsAre.append' hS (.cons _ t' .nil)
end
end Mine

namespace Mine
open PySem.Builtin PySem.Builtin.Str
/-- what stands between the first two apostrophes, and around them -/
def dD (l : List Nat) : PyData := match plc l with
  | i :: j :: _ => .list [.str (S (l.take i)), .str (S ((l.drop (i + 1)).take (j - (i + 1)))), .str (S (l.drop (j + 1)))]
  | _ => .tuple [.none, .none, .str (S l)]

theorem slice_to (x : Str) (i : Nat) (h : i ≤ x.length) : Txt.slice x none (some (i : Int)) = S ((Ls x).take i) := by
  have := StrLaws.sliceText_to (x := x) (j := (i : Int)) ⟨by omega, by have := Ls_length x; show (i : Int) ≤ ((Ls x).length : Int); omega⟩
  refine Eq.trans ?_ (this.trans ?_)
  · rfl
  · show S _ = S _
    rw [Int.sub_zero, Int.toNat_natCast, List.drop_zero]; rfl
theorem slice_from (x : Str) (i : Nat) (h : i ≤ x.length) : Txt.slice x (some (i : Int)) none = S ((Ls x).drop i) := by
  have := StrLaws.sliceText_from (x := x) (i := (i : Int)) ⟨by omega, by have := Ls_length x; show (i : Int) ≤ ((Ls x).length : Int); omega⟩
  refine Eq.trans ?_ (this.trans ?_)
  · rfl
  · show S _ = S _
    congr 1
    rw [Int.toNat_natCast]
    apply List.take_of_length_le
    rw [List.length_drop]
    omega
theorem slice_mid (x : Str) (i j : Nat) (hij : i ≤ j) (h : j ≤ x.length) : Txt.slice x (some (i : Int)) (some (j : Int)) = S (((Ls x).drop i).take (j - i)) := by
  have := StrLaws.sliceText_plain (x := x) (i := (i : Int)) (j := (j : Int)) ⟨by omega, by omega, by have := Ls_length x; show (j : Int) ≤ ((Ls x).length : Int); omega⟩
  refine Eq.trans ?_ (this.trans ?_)
  · rfl
  · show S _ = S _
    congr 1
    rw [Int.toNat_natCast]
    congr 1
    omega
theorem plc_sorted (l : List Nat) : (plc l).Pairwise (· < ·) := by
  unfold plc
  exact List.Pairwise.filter _ (List.pairwise_lt_range)

theorem partD_is (x : Str) : partD x = dD (Ls x) := by
  unfold partD dD
  match hp : plc (Ls x) with
  | [] => rw [S_Ls]
  | [i] => rw [S_Ls]
  | i :: j :: r =>
    have hs := plc_sorted (Ls x)
    rw [hp] at hs
    have hij : i < j := (List.pairwise_cons.mp hs).1 j (by simp)
    have hj : j < x.length := by rw [← Ls_length]; exact plc_lt (by rw [hp]; simp)
    dsimp only
    rw [slice_to x i (by omega)]
    have e1 : ((i : Int) + 1) = ((i + 1 : Nat) : Int) := by omega
    have e2 : ((j : Int) + 1) = ((j + 1 : Nat) : Int) := by omega
    rw [e1, e2, slice_mid x (i + 1) j (by omega) (by omega), slice_from x (j + 1) (by omega)]
theorem strSub_is (x : Str) (i j : Nat) : strSub x i j = S (((Ls x).drop i).take (j - i)) := by
  apply Ls_inj
  rw [Ls_S]
  exact StrLaws.strSub_toList x i j
theorem decD_is (x : Str) : decD x = dD (Ls x) := by
  unfold decD dD
  rw [splitMax_plc]
  match hp : plc (Ls x) with
  | [] => rw [S_Ls]; rfl
  | [i] => rw [S_Ls]; rfl
  | i :: j :: r =>
    dsimp only
    rw [if_neg (by simp)]
    rw [strSub_is, strSub_is, strSub_is]
    simp only [List.map_cons, List.map_nil, List.drop_zero, Nat.sub_zero]
    rw [List.take_of_length_le (l := (Ls x).drop (j + 1)) (by rw [List.length_drop, Ls_length]; omega)]

/-- the places of a text with a first apostrophe -/
theorem plc_free : ∀ l : List Nat, 39 ∉ l → plc l = [] := by
  intro l h
  unfold plc
  rw [List.filter_eq_nil_iff]
  intro i hi e
  exact h (List.mem_of_getElem? (by simpa using e))
theorem plc_first (a b : List Nat) (h : 39 ∉ a) : plc (a ++ 39 :: b) = a.length :: (plc b).map (· + (a.length + 1)) := by
  unfold plc
  have e : (a ++ 39 :: b).length = a.length + (b.length + 1) := by simp
  rw [e, List.range_add, List.filter_append]
  have h1 : (List.range a.length).filter (fun i => decide ((a ++ 39 :: b)[i]? = some 39)) = [] := by
    rw [List.filter_eq_nil_iff]
    intro i hi e
    have hi' := List.mem_range.mp hi
    rw [List.getElem?_append_left hi'] at e
    exact h (List.mem_of_getElem? (by simpa using e))
  rw [h1, List.nil_append, List.range_succ_eq_map, List.map_cons, List.map_map, List.filter_cons_of_pos (by simp), Nat.add_zero, List.filter_map]
  congr 1
  have e2 : ((fun i => decide ((a ++ 39 :: b)[i]? = some 39)) ∘ (fun x => a.length + x) ∘ Nat.succ) = fun i => decide (b[i]? = some 39) := by
    funext i
    show decide ((a ++ 39 :: b)[a.length + (i + 1)]? = some 39) = _
    rw [List.getElem?_append_right (by omega)]
    simp
  rw [e2]
  apply List.map_congr_left
  intro i _
  show a.length + (i + 1) = i + (a.length + 1)
  omega
theorem dD_two (a b c : List Nat) (ha : 39 ∉ a) (hb : 39 ∉ b) : dD (a ++ 39 :: (b ++ 39 :: c)) = .list [.str (S a), .str (S b), .str (S c)] := by
  unfold dD
  rw [plc_first a _ ha, plc_first b c hb, List.map_cons]
  dsimp only
  have e1 : (a ++ 39 :: (b ++ 39 :: c)).take a.length = a := by simp
  have e2 : (a ++ 39 :: (b ++ 39 :: c)).drop (a.length + 1) = b ++ 39 :: c := by
    rw [← List.drop_drop, List.drop_left]; rfl
  have e3 : (b ++ 39 :: c).take (b.length + (a.length + 1) - (a.length + 1)) = b := by
    rw [Nat.add_sub_cancel]; simp
  have e4 : (a ++ 39 :: (b ++ 39 :: c)).drop (b.length + (a.length + 1) + 1) = c := by
    have : b.length + (a.length + 1) + 1 = (a.length + 1) + (b.length + 1) := by omega
    rw [this, ← List.drop_drop, e2, ← List.drop_drop, List.drop_left]; rfl
  rw [e1, e2, e3, e4]
theorem dD_free (l : List Nat) (h : 39 ∉ l) : dD l = .tuple [.none, .none, .str (S l)] := by
  unfold dD; rw [plc_free l h]

/-- the signs of the law's words -/
def Al (l : List Nat) : Prop := ∀ c ∈ l, c ∈ [39, 32, 34, 97, 65, 37, 50, 48]
theorem Al.lt {l : List Nat} (h : Al l) : ∀ c ∈ l, c < 128 := fun c hc => by
  have := h c hc
  have k : ∀ d ∈ [39, 32, 34, 97, 65, 37, 50, 48], d < 128 := by decide
  exact k c this
theorem safe_al {c : Nat} (h : c ∈ [39, 32, 34, 97, 65, 37, 50, 48]) : safeC c = inSafe c := by
  have k : ∀ d ∈ [39, 32, 34, 97, 65, 37, 50, 48], safeC d = inSafe d := by decide
  exact k c h
theorem all_safe {l : List Nat} (h : Al l) : l.all safeC = l.all inSafe := by
  induction l with
  | nil => rfl
  | cons a l ih =>
    rw [List.all_cons, List.all_cons, safe_al (h a (by simp)), ih fun c hc => h c (List.mem_cons_of_mem _ hc)]
theorem tickStr : Ls (Str.ofString "'") = [39] := by decide
theorem Ls_qD (x : Str) (h : Al (Ls x)) (hn : plainW (Ls x) = false) : Ls (qD x) = 39 :: (rep (Ls x) ++ [39]) := by
  unfold qD
  by_cases h0 : x.length = 0
  · rw [if_pos h0]
    have : Ls x = [] := by apply List.eq_nil_of_length_eq_zero; rw [Ls_length]; exact h0
    rw [this]; decide
  · rw [if_neg h0, if_neg]
    · rw [Ls_append, Ls_append, replace_rep, tickStr]; rfl
    · intro q
      have q' : (Ls x).all safeC = true := by
        have : x.cps.all safeC = x.cps.toList.all safeC := by simp
        rw [this] at q; exact q
      rw [all_safe h] at q'
      unfold plainW at hn
      rw [q', decide_eq_true] at hn
      · cases hn
      · intro e; apply h0; rw [← Ls_length, e]; rfl
theorem qD_plain (x : Str) (h : Al (Ls x)) (hn : plainW (Ls x) = true) : qD x = x ∧ 39 ∉ Ls x := by
  unfold plainW at hn
  rw [Bool.and_eq_true] at hn
  have h0 : Ls x ≠ [] := of_decide_eq_true hn.1
  constructor
  · unfold qD
    rw [if_neg, if_pos]
    · have : x.cps.all safeC = x.cps.toList.all safeC := by simp
      rw [this]
      show (Ls x).all safeC = true
      rw [all_safe h]; exact hn.2
    · intro e; apply h0; apply List.eq_nil_of_length_eq_zero; rw [Ls_length]; exact e
  · intro hm
    have := List.all_eq_true.mp hn.2 39 hm
    cases this
theorem lqD_qD (x : Str) (h : Al (Ls x)) : lqD x = qD x := by
  unfold lqD
  cases hn : plainW (Ls x) with
  | true => rw [if_pos rfl, (qD_plain x h hn).1]
  | false =>
    rw [if_neg Bool.false_ne_true]
    apply Ls_inj
    rw [Ls_qD x h hn, Ls_append, Ls_append, Ls_S, tickStr]; rfl
theorem four_is : Ls (Str.ofString "\"'\"'") = [34, 39, 34, 39] := by decide
theorem nil_is : (Str.ofString "") = S [] := by decide

/-- a word with an apostrophe: how it is written -/
theorem tick_word (x : Str) (h : Al (Ls x)) (hm : 39 ∈ Ls x) : ∃ a b, 39 ∉ a ∧ plainW (Ls x) = false ∧ Ls (qD x) = [] ++ 39 :: (a ++ 39 :: ([34, 39, 34, 39] ++ rep b ++ [39])) ∧
    wrD x = .list [.str (S []), .str (S a), .str (S ([34, 39, 34, 39] ++ rep b ++ [39]))] := by
  obtain ⟨a, b, hab, ha⟩ := List.eq_append_cons_of_mem hm
  have hp : plainW (Ls x) = false := by
    cases q : plainW (Ls x) with
    | false => rfl
    | true => exact absurd hm (qD_plain x h q).2
  refine ⟨a, b, ha, hp, ?_, ?_⟩
  · rw [Ls_qD x h hp, hab, rep_append, rep_free a ha]
    show 39 :: (a ++ (q1 39 ++ rep b) ++ [39]) = _
    simp [q1]
  · have hl : a.length < x.length := by rw [← Ls_length, hab]; simp
    unfold wrD
    rw [if_neg (by rw [hp]; exact Bool.false_ne_true), hab, plc_first a b ha]
    dsimp only
    have e1 : ((a.length : Int) + 1) = ((a.length + 1 : Nat) : Int) := by omega
    rw [slice_to x a.length (by omega), e1, slice_from x (a.length + 1) (by omega), hab, nil_is, Ls_S]
    have e2 : (a ++ 39 :: b).take a.length = a := by simp
    have e3 : (a ++ 39 :: b).drop (a.length + 1) = b := by rw [← List.drop_drop, List.drop_left]; rfl
    rw [e2, e3]
    congr 4
    have : Str.ofString "\"'\"'" ++ S (rep b) ++ Str.ofString "'" = S ([34, 39, 34, 39] ++ rep b ++ [39]) := by
      apply Ls_inj
      rw [Ls_append, Ls_append, four_is, tickStr, Ls_S, Ls_S]
    rw [this]

theorem law_two (x : Str) (h : Al (Ls x)) : decD (qD x) = wrD x := by
  rw [decD_is]
  cases hp : plainW (Ls x) with
  | true =>
    have := qD_plain x h hp
    rw [this.1, dD_free _ this.2, wrD, if_pos hp, S_Ls]
  | false =>
    by_cases hm : 39 ∈ Ls x
    · obtain ⟨a, b, ha, _, e1, e2⟩ := tick_word x h hm
      rw [e1, dD_two _ _ _ (by simp) ha, e2]
    · rw [Ls_qD x h hp, rep_free _ hm]
      have : 39 :: (Ls x ++ [39]) = [] ++ 39 :: (Ls x ++ 39 :: []) := rfl
      rw [this, dD_two _ _ _ (by simp) hm, wrD, if_neg (by rw [hp]; exact Bool.false_ne_true), plc_free _ hm]
      dsimp only
      rw [nil_is, S_Ls]

/-- the line -/
theorem law_three (x : Str) (h : Al (Ls x)) (hm : 39 ∈ Ls x) : ∃ f g : Str, wrD x = .list [.str (S []), .str f, .str g] ∧ ∀ (y : Str) (rest : List Str), decD (Str.join (Str.ofString " ") (qD x :: y :: rest)) = .list [.str (S []), .str f, .str (Str.join (Str.ofString " ") (g :: y :: rest))] := by
  obtain ⟨a, b, ha, hp, e1, e2⟩ := tick_word x h hm
  refine ⟨_, _, e2, fun y rest => ?_⟩
  rw [decD_is]
  have hb : Ls (Str.ofString " ") = [32] := by decide
  have e3 : Str.join (Str.ofString " ") (qD x :: y :: rest) = qD x ++ Str.ofString " " ++ Str.join (Str.ofString " ") (y :: rest) := rfl
  rw [e3, Ls_append, Ls_append, e1, hb]
  have e4 : [] ++ 39 :: (a ++ 39 :: ([34, 39, 34, 39] ++ rep b ++ [39])) ++ [32] ++ Ls (Str.join (Str.ofString " ") (y :: rest)) = [] ++ 39 :: (a ++ 39 :: (([34, 39, 34, 39] ++ rep b ++ [39]) ++ [32] ++ Ls (Str.join (Str.ofString " ") (y :: rest)))) := by simp
  rw [e4, dD_two _ _ _ (by simp) ha]
  congr 4
  have : S ([34, 39, 34, 39] ++ rep b ++ [39] ++ [32] ++ Ls (Str.join (Str.ofString " ") (y :: rest))) = Str.join (Str.ofString " ") (S ([34, 39, 34, 39] ++ rep b ++ [39]) :: y :: rest) := by
    apply Ls_inj
    have e5 : Str.join (Str.ofString " ") (S ([34, 39, 34, 39] ++ rep b ++ [39]) :: y :: rest) = S ([34, 39, 34, 39] ++ rep b ++ [39]) ++ Str.ofString " " ++ Str.join (Str.ofString " ") (y :: rest) := rfl
    rw [e5, Ls_append, Ls_append, hb, Ls_S, Ls_S]
  rw [this]

-- the words
theorem pc_al (k : Nat) : ∀ c ∈ pc k, c ∈ [39, 32, 34, 97, 65, 37, 50, 48] := by
  unfold pc; split <;> decide
theorem text_al (ns : List Int) : Al (textL ns) := by
  intro c hc
  obtain ⟨n, _, hn⟩ := List.mem_flatMap.mp hc
  exact pc_al _ c hn
theorem text_tick (ns : List Int) : 39 ∈ textL ns := by
  refine List.mem_flatMap.mpr ⟨0, List.mem_append_right _ (by decide), by decide⟩
theorem text_len (ns : List Int) : (textL ns).length ≤ 48 := by
  have k : ∀ l : List Int, (l.flatMap fun n => pc (n.fmod 6).toNat).length ≤ 3 * l.length := by
    intro l
    induction l with
    | nil => simp
    | cons a l ih =>
      rw [List.flatMap_cons, List.length_append, List.length_cons]
      have : (pc (a.fmod 6).toNat).length ≤ 3 := by unfold pc; split <;> decide
      omega
  have := k (ns.take 8 ++ tailI)
  have h2 : (ns.take 8 ++ tailI).length ≤ 16 := by rw [List.length_append, List.length_take]; simp [tailI]; omega
  unfold textL
  omega
end Mine

namespace Mine
theorem words_split (x : Str) (hn : 1 ≤ x.length) : ∃ y rest, wordsS x = x :: y :: rest := by
  have hd : ∃ k, downN x.length = k + 1 := ⟨downN x.length - 1, by unfold downN; omega⟩
  obtain ⟨k, hk⟩ := hd
  unfold wordsS
  rw [hk, List.range_succ_eq_map, List.map_cons, List.map_map]
  have e : Txt.slice x none (some ((x.length : Int) + ((0 : Nat) : Int) * (-2))) = x := by
    have : (x.length : Int) + ((0 : Nat) : Int) * (-2) = (x.length : Int) := by omega
    rw [this, slice_to x x.length (Nat.le_refl _), List.take_of_length_le (by rw [Ls_length]; exact Nat.le_refl _), S_Ls]
  rw [e]
  cases h : List.range k with
  | nil => exact ⟨_, [], rfl⟩
  | cons a r => exact ⟨_, _, rfl⟩
theorem words_mem (x : Str) : ∀ y ∈ wordsS x, (∀ c ∈ Ls y, c ∈ Ls x) ∧ y.length ≤ x.length := by
  intro y hy
  unfold wordsS at hy
  rcases List.mem_append.mp hy with hy | hy
  · obtain ⟨i, hi, rfl⟩ := List.mem_map.mp hy
    have hi' := List.mem_range.mp hi
    unfold downN at hi'
    have e : (x.length : Int) + (i : Int) * (-2) = ((x.length - 2 * i : Nat) : Int) := by omega
    rw [e]
    refine ⟨fun c hc => ?_, Txt.slice_le _ _ _⟩
    rw [slice_to x _ (by omega), Ls_S] at hc
    exact List.mem_of_mem_take hc
  · rw [List.mem_singleton.mp hy]
    refine ⟨fun c hc => ?_, ?_⟩
    · have : Ls (Str.ofString "") = [] := by decide
      rw [this] at hc; cases hc
    · have : (Str.ofString "").length = 0 := by decide
      rw [this]; exact Nat.zero_le _
theorem words_len (x : Str) : (wordsS x).length = downN x.length + 1 := by
  unfold wordsS; simp

theorem carried_read {h : Heap} {v : Value} {d : PyData} (c : Carried v d) : ∃ bs, Reads h v d bs := by
  cases c with
  | int i t => exact ⟨_, .int i t⟩
  | bool b => exact ⟨_, .bool b⟩
  | str x t => exact ⟨_, .str x t⟩
  | none => exact ⟨_, .none⟩
theorem carried_reads {h : Heap} : ∀ {vs : List Value} {xs : List PyData}, CarriedAll vs xs → ∃ as, ReadsAll h vs xs as
  | _, _, .nil => ⟨_, .nil⟩
  | _, _, .cons c r => by
    obtain ⟨as, q⟩ := carried_reads (h := h) r
    obtain ⟨bs, q'⟩ := carried_read (h := h) c
    exact ⟨_, .cons q' q⟩
theorem obj_reads {h : Heap} {T : Addr} {o : Obj} {d : PyData} (ho : h.get? T = some o) (x : ObjIs o d) : ∃ as, Reads h (.ref T) d as := by
  obtain ⟨vs, n, xs, hd, hc, q⟩ := x
  obtain ⟨as, r⟩ := carried_reads (h := h) hc
  rcases q with ⟨hcl, rfl⟩ | ⟨hcl, rfl⟩
  · exact ⟨_, .list ho hcl hd r⟩
  · exact ⟨_, .tuple ho hcl hd r⟩
theorem objs_read {old h : Heap} {no : Addr → Prop} {g : Str → PyData} {gv : Value → PyData} (hg : ∀ y t, gv (.str y t) = g y) : ∀ {vs ys : List Value} {texts : List Str}, StrsAre vs texts → Paired (HoldsAt old no gv h) vs ys → ∃ as, ReadsAll h ys (texts.map g) as
  | _, _, _, .nil, .nil => ⟨_, .nil⟩
  | _, _, _, .cons y t r, .cons x r' => by
    obtain ⟨as, q⟩ := objs_read hg r r'
    obtain ⟨T, o, rfl, _, _, ho, hobj⟩ := x
    rw [hg] at hobj
    obtain ⟨bs, q'⟩ := obj_reads ho hobj
    exact ⟨_, .cons q' q⟩

/-- data that the comparison takes -/
def FlatOk (d : PyData) : Prop := d.canLay0 = true ∧ d.depth ≤ 1
theorem flat_all : ∀ ds : List PyData, (∀ d ∈ ds, FlatOk d) → PyData.canLayAll0 ds = true ∧ PyData.depthAll ds ≤ 1
  | [], _ => ⟨rfl, Nat.zero_le _⟩
  | d :: ds, h => by
    have ih := flat_all ds fun e he => h e (.tail _ he)
    have hd := h d (.head _)
    have h1 := hd.2
    have h2 := ih.2
    refine ⟨?_, ?_⟩
    · rw [PyData.canLayAll0, hd.1, ih.1]; rfl
    · rw [PyData.depthAll]; omega
theorem shaped_flat {ds : List PyData} (h : ∀ d ∈ ds, FlatOk d) : SeqAt.shaped (.list ds) = true := by
  have := flat_all ds h
  unfold SeqAt.shaped
  rw [PyData.canLay0, PyData.depth, this.1, Bool.true_and]
  apply decide_eq_true
  have := this.2
  omega
theorem ok_ascii {l : List Nat} (h : ∀ c ∈ l, c < 128) : PyData.strOk (S l) = true := by
  unfold PyData.strOk S
  simp only [List.all_toArray, List.all_eq_true, decide_eq_true_eq]
  intro c hc
  have := h c hc
  omega
theorem flat_dD {l : List Nat} (h : ∀ c ∈ l, c < 128) : FlatOk (dD l) := by
  unfold dD
  split
  · refine ⟨?_, ?_⟩
    · simp only [PyData.canLay0, PyData.canLayAll0]
      rw [ok_ascii fun c hc => h c (List.mem_of_mem_take hc), ok_ascii fun c hc => h c (List.mem_of_mem_drop (List.mem_of_mem_take hc)), ok_ascii fun c hc => h c (List.mem_of_mem_drop hc)]
      rfl
    · simp [PyData.depth, PyData.depthAll]
  · refine ⟨?_, ?_⟩
    · simp only [PyData.canLay0, PyData.canLayAll0]
      rw [ok_ascii h]; rfl
    · simp [PyData.depth, PyData.depthAll]
theorem rep_ascii {l : List Nat} (h : ∀ c ∈ l, c < 128) : ∀ c ∈ rep l, c < 128 := by
  intro c hc
  obtain ⟨d, hd, hq⟩ := List.mem_flatMap.mp hc
  unfold q1 at hq
  split at hq
  · have k : ∀ e ∈ [39, 34, 39, 34, 39], e < 128 := by decide
    exact k c hq
  · rw [List.mem_singleton.mp hq]; exact h d hd
theorem qD_ascii {x : Str} (h : Al (Ls x)) : ∀ c ∈ Ls (qD x), c < 128 := by
  intro c hc
  cases hp : plainW (Ls x) with
  | true => rw [(qD_plain x h hp).1] at hc; exact h.lt c hc
  | false =>
    rw [Ls_qD x h hp] at hc
    rcases List.mem_cons.mp hc with rfl | hc
    · decide
    · rcases List.mem_append.mp hc with hc | hc
      · exact rep_ascii h.lt c hc
      · rw [List.mem_singleton.mp hc]; decide

section
variable {prog : Program} {w : World} {A : Around} {mg mb : Str → Option Value} {h : Heap} {L : Addr} {m : Str → Option Value} {env : Env}

theorem comp_words {elt : PySem.Expr} {px pi pos : Pos} {scope : Scope} {lw : Addr} {ws : Array Value} {texts : List Str} (g : Str → PyData) (hA : A.handled = none) (hek : env.scope.kind = .function) (hel : env.kindOf "words" = some .local) (hL : env.locals = L) (hn : h.Ns L m) (hm : m "words" = some (.ref lw))
    (hl : h.IsList lw ws) (hs : StrsAre ws.toList texts) (hlen : texts.length ≤ 1000) (hclos : closureFor scope env = Pure.pure []) (hcell : ∀ y ∈ scope.names, y.2 ≠ .cell) (hkind : scope.kind = .function)
    (hnames : ∀ y ∈ scope.names, y.2 = .local → scope.names.lookup y.1 = some .local) (hx : scope.names.lookup (Str.ofString "word") = some .local)
    (elts : ∀ C y t h' m', y ∈ texts → Ext h h' → h'.Ns C m' → m' "word" = some (.str y t) → Ok prog w A (eval elt (compEnvC scope [] C env)) h' (Gives h' (g y)))
    (hsf : ∀ v, foldedSetIterable (.Name "words" pi) env v = Pure.pure v) :
    Ok prog w A (eval (.ListComp elt [⟨.Name "word" px, .Name "words" pi, [], 0⟩] scope pos) env) h (fun v h' => ∃ D as, v = .ref D ∧ h.get? D = none ∧ Reads h' (.ref D) (.list (texts.map g)) as) := by
  subst hL
  have hsl : sizeLine = 16777216 := rfl
  have hws : ws.size = texts.length := by have := strs_length hs; simpa using this
  refine (Ok.compO (n := ws.size) (P := fun i v => ws[i]? = some v) (fun v => match v with | .str y _ => g y | _ => .none) (R₁ := fun a _ => a = .ref lw) hclos hcell hkind hnames hx (by rw [hws]; omega) (Ok.local hek hel hn hm) ?_ ?_ hsf).mono ?_
  · rintro xv h₁ e₁ rfl
    exact SrcV.list hA (hl.at fun o e => e₁ _ o e)
  · rintro C i v h₃ m₃ hP e₃ hn₃ hm₃
    obtain ⟨y, t, rfl, hy⟩ := strs_at hs i v (by simpa using hP)
    exact elts C y t h₃ m₃ (List.mem_of_getElem? hy) e₃ hn₃ hm₃
  · rintro v h₁ e₁ ⟨D, ys, vs, rfl, hD, ⟨n, hLD⟩, hlen', hP, hpair⟩
    have hvs : vs = ws.toList := list_of_get hlen' hP
    rw [hvs] at hpair
    obtain ⟨as, q⟩ := objs_read (g := g) (fun y t => rfl) hs hpair
    exact ⟨D, _, rfl, hD, .list hLD rfl rfl q⟩

theorem Ok.callF1 {fnm anm : Str} {pf pa pos : Pos} {f : Addr} {fd : FuncData} {o : Obj} {mg' mC : Str → Option Value} {v : Value} {R : Value → Heap → Prop} (hk : env.scope.kind = .function) (hkf : env.kindOf fnm = some .globalImplicit) (hka : env.kindOf anm = some .local)
    (hg : h.Ns env.globals mg') (hgf : mg' fnm = some (.ref f)) (ho : h.get? f = some o) (hdat : o.data = .func fd) (hn : h.Ns env.locals mC) (hm : mC anm = some v)
    (hd1 : (fnm == ("__debug__" : Str)) = false) (hd2 : (anm == ("__debug__" : Str)) = false)
    (y : ∀ h₁, Ext h h₁ → Ok prog w A (call (.ref f) [v]) h₁ R) : Ok prog w A (eval (.Call (.Name fnm pf) [.Name anm pa] [] pos) env) h R :=
  Ok.callF (R := fun vs _ => vs = [v]) rfl hdat ho (Ok.global hk hkf hg hgf hd1) (fun h₁ e₁ => (Ok.args1 rfl (Ok.local hk hka (hn.keeps e₁) hm hd2)).mono (by rintro a h' _ ⟨u, rfl, rfl⟩; rfl)) (fun vs h₁ e₁ r => by subst r; exact y h₁ e₁)
end
end Mine

namespace Mine
section
variable {prog : Program} {w : World} {A : Around} {mg mb : Str → Option Value} {h : Heap} {L : Addr} {m : Str → Option Value}

theorem ne_same {a b : Addr} {ds : List PyData} {as bs : List Addr} (ra : Reads h (.ref a) (.list ds) as) (rb : Reads h (.ref b) (.list ds) bs) (hf : ∀ d ∈ ds, FlatOk d) (hu : A.units + 64 < cLine) :
    Ok prog w A (compareOp .NotEq (.ref a) (.ref b)) h (fun v _ => ∃ c, v = .bool c ∧ c = false) := by
  intro s E Q hh ht hQ
  subst hh
  have hsh := shaped_flat hf
  refine ne_dataH ra rb hsh hsh hu (hQ _ s.heap s.toks ht (Ext.refl _) ⟨_, rfl, ?_⟩)
  have hcan : (PyData.list ds).canLay0 = true := by
    rw [PyData.canLay0]; exact (flat_all ds hf).1
  rw [SeqAt.eqv_refl _ hcan]; rfl
theorem reads_up {h h' : Heap} (e : Ext h h') {v : Value} {d : PyData} {as : List Addr} (r : Reads h v d as) : Reads h' v d as := Reads.keeps e r

theorem cmp1 {lw : Addr} {ws : Array Value} {texts : List Str} (W : Wd mg mb h) (hA : A.handled = none) (hd : A.depth + 2 < recursionLimit) (hu : A.units + 200 < cLine) (hn : h.Ns L m) (hm : m "words" = some (.ref lw))
    (hl : h.IsList lw ws) (hs : StrsAre ws.toList texts) (hlen : texts.length ≤ 1000) (hal : ∀ y ∈ texts, Al (Ls y)) (hyl : ∀ y ∈ texts, y.length ≤ 1000) :
    Ok prog w A (isTrue (lawE 2) (callEnvC fdLaw L 78) (eval (lawE 2) (callEnvC fdLaw L 78))) h (fun b _ => b = false) := by
  have hsl : sizeLine = 16777216 := rfl
  show Ok prog w A (isTrue (PySem.Expr.Compare (.ListComp _ [⟨.Name "word" _, .Name "words" _, [], 0⟩] _ _) [.NotEq] [.ListComp _ [⟨.Name "word" _, .Name "words" _, [], 0⟩] _ _] _) _ _) h _
  refine Ok.test (R₁ := fun v h' => ∃ D as, v = .ref D ∧ h.get? D = none ∧ Reads h' (.ref D) (.list (texts.map decD)) as) (R₂ := fun v h' => ∃ D as, v = .ref D ∧ Reads h' (.ref D) (.list (texts.map partD)) as) ?_ ?_ ?_
  · refine comp_words decD hA rfl rfl rfl hn hm hl hs hlen (by rfl) (by decide) rfl (by decide) rfl ?_ (by intro v; rfl)
    intro C y t h' m' hy e' hn' hm'
    have W' := W.keeps e'
    exact Ok.callF1 rfl rfl rfl W'.g W'.gDec W'.oDec rfl hn' hm' (by decide) (by decide) fun h₁ e₁ => (dec_call (W'.keeps e₁) (by omega) (by have := hyl y hy; omega)).mono fun v h₂ _ ⟨T, o, e, a, b, c⟩ => ⟨T, o, e, e₁.fresh a, b, c⟩
  · rintro a h₁ e₁ _
    refine (comp_words partD hA rfl rfl rfl (hn.keeps e₁) hm (hl.at fun o e => e₁ _ o e) hs hlen (by rfl) (by decide) rfl (by decide) rfl ?_ (by intro v; rfl)).mono (by rintro v h' _ ⟨D, as, rfl, _, r⟩; exact ⟨D, as, rfl, r⟩)
    intro C y t h' m' hy e' hn' hm'
    have W' := W.keeps (e₁.trans e')
    exact Ok.callF1 rfl rfl rfl W'.g W'.gParted W'.oParted rfl hn' hm' (by decide) (by decide) fun h₁ e₁ => (parted_call (W'.keeps e₁) (by omega) hA (by have := hyl y hy; omega)).mono fun v h₂ _ ⟨T, o, e, a, b, c⟩ => ⟨T, o, e, e₁.fresh a, b, c⟩
  · rintro a b h₁ h₂ e₁ e₂ ⟨D, as, rfl, _, r⟩ ⟨D', bs, rfl, r'⟩
    have e : texts.map decD = texts.map partD := List.map_congr_left fun y _ => by rw [decD_is, partD_is]
    rw [← e] at r'
    refine ne_same (reads_up e₂ r) r' ?_ (by omega)
    intro d hd'
    obtain ⟨y, hy, rfl⟩ := List.mem_map.mp hd'
    rw [decD_is]
    exact flat_dD (hal y hy).lt

theorem cmp2 {lw : Addr} {ws : Array Value} {texts : List Str} (W : Wd mg mb h) (hA : A.handled = none) (hd : A.depth + 2 < recursionLimit) (hu : A.units + 200 < cLine) (hn : h.Ns L m) (hm : m "words" = some (.ref lw))
    (hl : h.IsList lw ws) (hs : StrsAre ws.toList texts) (hlen : texts.length ≤ 1000) (hal : ∀ y ∈ texts, Al (Ls y)) (hyl : ∀ y ∈ texts, y.length ≤ 1000) :
    Ok prog w A (isTrue (lawE 3) (callEnvC fdLaw L 78) (eval (lawE 3) (callEnvC fdLaw L 78))) h (fun b _ => b = false) := by
  have hsl : sizeLine = 16777216 := rfl
  show Ok prog w A (isTrue (PySem.Expr.Compare (.ListComp _ [⟨.Name "word" _, .Name "words" _, [], 0⟩] _ _) [.NotEq] [.ListComp _ [⟨.Name "word" _, .Name "words" _, [], 0⟩] _ _] _) _ _) h _
  refine Ok.test (R₁ := fun v h' => ∃ D as, v = .ref D ∧ h.get? D = none ∧ Reads h' (.ref D) (.list (texts.map fun y => decD (qD y))) as) (R₂ := fun v h' => ∃ D as, v = .ref D ∧ Reads h' (.ref D) (.list (texts.map wrD)) as) ?_ ?_ ?_
  · refine comp_words (fun y => decD (qD y)) hA rfl rfl rfl hn hm hl hs hlen (by rfl) (by decide) rfl (by decide) rfl ?_ (by intro v; rfl)
    intro C y t h' m' hy e' hn' hm'
    have W' := W.keeps e'
    have hql := qD_len y
    have hyy := hyl y hy
    refine Ok.callF (R := fun vs _ => ∃ t, vs = [.str (qD y) t]) rfl (o := { cls := .type "function", data := .func fdDec }) rfl W'.oDec (Ok.global rfl rfl W'.g W'.gDec) (fun h₁ e₁ => ?_) ?_
    · refine (Ok.args1 rfl (R := fun v _ => ∃ t, v = .str (qD y) t) ?_).mono (by rintro a h' _ ⟨v, rfl, t, rfl⟩; exact ⟨t, rfl⟩)
      have W₁ := W'.keeps e₁
      exact Ok.callF1 rfl rfl rfl W₁.g W₁.gQuote W₁.oQuote rfl (hn'.keeps e₁) hm' (by decide) (by decide) fun h₂ e₂ => quote_call (W₁.keeps e₂) (by omega) (by omega)
    · rintro vs h₁ e₁ ⟨t', rfl⟩
      exact (dec_call (W'.keeps e₁) (by omega) (by omega)).mono fun v h₂ _ ⟨T, o, e, a, b, c⟩ => ⟨T, o, e, e₁.fresh a, b, c⟩
  · rintro a h₁ e₁ _
    refine (comp_words wrD hA rfl rfl rfl (hn.keeps e₁) hm (hl.at fun o e => e₁ _ o e) hs hlen (by rfl) (by decide) rfl (by decide) rfl ?_ (by intro v; rfl)).mono (by rintro v h' _ ⟨D, as, rfl, _, r⟩; exact ⟨D, as, rfl, r⟩)
    intro C y t h' m' hy e' hn' hm'
    have W' := W.keeps (e₁.trans e')
    exact Ok.callF1 rfl rfl rfl W'.g W'.gWritten W'.oWritten rfl hn' hm' (by decide) (by decide) fun h₁ e₁ => (written_call (W'.keeps e₁) (by omega) hA (by omega) (by have := hyl y hy; omega) (hal y hy).lt).mono fun v h₂ _ ⟨T, o, e, a, b, c⟩ => ⟨T, o, e, e₁.fresh a, b, c⟩
  · rintro a b h₁ h₂ e₁ e₂ ⟨D, as, rfl, _, r⟩ ⟨D', bs, rfl, r'⟩
    have e : (texts.map fun y => decD (qD y)) = texts.map wrD := List.map_congr_left fun y hy => law_two y (hal y hy)
    rw [← e] at r'
    refine ne_same (reads_up e₂ r) r' ?_ (by omega)
    intro d hd'
    obtain ⟨y, hy, rfl⟩ := List.mem_map.mp hd'
    rw [decD_is]
    exact flat_dD (qD_ascii (hal y hy))
end
end Mine

namespace Mine
/-- the right side of a comparison -/
def cmpRight : PySem.Expr → PySem.Expr
  | .Compare _ _ (r :: _) _ => r
  | e => e
def cmpLeft : PySem.Expr → PySem.Expr
  | .Compare l _ _ _ => l
  | e => e
theorem strs_drop : ∀ {vs : List Value} {ss : List Str}, StrsAre vs ss → ∀ k : Nat, StrsAre (vs.drop k) (ss.drop k) := fun h k => StrsAre.drop' h k
theorem pair_strs {g : Str → Str} : ∀ {vs ys : List Value} {texts : List Str}, StrsAre vs texts → Paired (fun v y => ∀ x t, v = Value.str x t → ∃ t', y = Value.str (g x) t') vs ys → StrsAre ys (texts.map g)
  | _, _, _, .nil, .nil => .nil
  | _, _, _, .cons y t r, .cons hy r' => by
    obtain ⟨t', rfl⟩ := hy y t rfl
    exact .cons _ t' (pair_strs r r')
theorem lqD_len (x : Str) : (lqD x).length ≤ 5 * x.length + 2 := by
  unfold lqD
  have h1l : (Str.ofString "'").length = 1 := by decide
  split
  · omega
  · rw [Str.length_append, Str.length_append, h1l]
    have h1 := rep_length (Ls x)
    rw [Ls_length] at h1
    have h2 : (S (rep (Ls x))).length = (rep (Ls x)).length := by simp [S, Str.length]
    omega
theorem strs_of_get : ∀ (vs : List Value) (ts : List Str), vs.length = ts.length → (∀ (j : Nat) (v : Value), vs[j]? = some v → ∃ y t, ts[j]? = some y ∧ v = Value.str y t) → StrsAre vs ts
  | [], [], _, _ => .nil
  | v :: vs, n :: ns, hl, h => by
    obtain ⟨n', t, h1, rfl⟩ := h 0 v rfl
    have e : n' = n := by simpa using h1.symm
    subst e
    exact .cons _ t (strs_of_get vs ns (by simpa using hl) fun j v hv => by simpa using h (j + 1) v (by simpa using hv))

section
variable {prog : Program} {w : World} {A : Around} {mg mb : Str → Option Value} {h : Heap} {L : Addr} {m : Str → Option Value}

theorem front_ok {lw : Addr} {ws : Array Value} {x : Str} {texts : List Str} (W : Wd mg mb h) (hA : A.handled = none) (hd : A.depth + 2 < recursionLimit) (hu : A.units + 200 < cLine) (hn : h.Ns L m) (hm : m "words" = some (.ref lw))
    (hl : h.IsList lw ws) (hs : StrsAre ws.toList (x :: texts)) (hal : Al (Ls x)) (hyl : x.length ≤ 1000) :
    Ok prog w A (eval (lawE 4) (callEnvC fdLaw L 78)) h (Gives h (wrD x)) := by
  show Ok prog w A (eval (PySem.Expr.Call (.Name "_law_written" _) [.Subscript (.Name "words" _) (.Constant (.int 0) 0 _) _] [] _) _) h _
  obtain ⟨t, hw0⟩ : ∃ t, ws[0]? = some (Value.str x t) := by
    cases hv : ws.toList with
    | nil => rw [hv] at hs; cases hs
    | cons v r =>
      rw [hv] at hs
      cases hs with
      | cons y t r' => exact ⟨t, by have : ws.toList[0]? = some (Value.str x t) := by rw [hv]; rfl
                                    simpa using this⟩
  refine Ok.callF (R := fun vs _ => vs = [.str x t]) rfl (o := { cls := .type "function", data := .func fdWritten }) rfl W.oWritten (Ok.global rfl rfl W.g W.gWritten) (fun h₁ e₁ => ?_) ?_
  · refine (Ok.args1 rfl (R := fun v _ => v = .str x t) ?_).mono (by rintro a h' _ ⟨v, rfl, rfl⟩; rfl)
    refine Ok.sub (R₁ := fun v _ => v = .ref lw) (R₂ := fun v _ => ∃ t, v = .int 0 t) (Ok.local rfl rfl (hn.keeps e₁) hm) (fun _ _ _ _ => Ok.int) ?_
    rintro a b h₂ h₃ e₂ e₃ rfl ⟨t', rfl⟩
    exact Ok.listItem (((hl.at fun o e => e₁ _ o e).at fun o e => e₂ _ o e).at fun o e => e₃ _ o e) (by omega) (by omega) hw0
  · rintro vs h₁ e₁ rfl
    exact (written_call (W.keeps e₁) (by omega) hA (by omega) (by omega) hal.lt).mono fun v h₂ _ ⟨T, o, e, a, b, c⟩ => ⟨T, o, e, e₁.fresh a, b, c⟩

theorem right_ok {lw lf : Addr} {ws fs : Array Value} {x f g y : Str} {texts : List Str} {t₁ t₂ t₃ : Tok} (W : Wd mg mb h) (hA : A.handled = none) (hd : A.depth + 2 < recursionLimit) (hu : A.units + 200 < cLine) (hn : h.Ns L m) (hm : m "words" = some (.ref lw))
    (hmf : m "front" = some (.ref lf)) (hl : h.IsList lw ws) (hs : StrsAre ws.toList (x :: y :: texts)) (hlf : h.IsList lf fs) (hfs : fs = #[.str (S []) t₁, .str f t₂, .str g t₃])
    (hlen : texts.length ≤ 1000) (hal : ∀ z ∈ y :: texts, Al (Ls z)) (hyl : ∀ z ∈ y :: texts, z.length ≤ 1000) (hg : g.length ≤ 10000) :
    Ok prog w A (eval (cmpRight (lawE 5)) (callEnvC fdLaw L 78)) h (fun v h' => ∃ D as, v = .ref D ∧ Reads h' (.ref D) (.list [.str (S []), .str f, .str (Str.join (Str.ofString " ") (g :: (y :: texts).map lqD))]) as) := by
  have hsl : sizeLine = 16777216 := rfl
  show Ok prog w A (eval (PySem.Expr.BinOp (.Subscript (.Name "front" _) (.Slice none (some (.Constant (.int 2) 0 _)) none _) _) .Add (.List [.Call (.Attribute (.Constant (.str " ") 0 _) "join" _) [.BinOp (.List [.Subscript (.Name "front" _) (.Constant (.int 2) 0 _) _] _) .Add (.ListComp _ [⟨.Name "word" _, .Subscript (.Name "words" _) (.Slice (some (.Constant (.int 1) 0 _)) none none _) _, [], 0⟩] _ _) _] [] _] _) _) _) h _
  have hfsz : fs.size = 3 := by rw [hfs]; rfl
  have hwsz : ws.size = texts.length + 2 := by have := strs_length hs; simpa using this
  refine Ok.binop (R₁ := fun v h' => ∃ T, v = .ref T ∧ h'.PlainList T #[.str (S []) t₁, .str f t₂]) (R₂ := fun v h' => ∃ T t n, v = .ref T ∧ h'.get? T = some { cls := .type "list", data := .seq #[.str (Str.join (Str.ofString " ") (g :: (y :: texts).map lqD)) t] n }) ?_ ?_ ?_
  · refine (Ok.sliceList (lo := none) (hi := some 2) hlf (by rw [hfsz]; decide) (Ok.local rfl rfl hn hmf) (fun _ _ => Ok.partNone) (fun _ _ => Ok.partSome Ok.int)).mono ?_
    rintro v h' _ ⟨T, rfl, _, n, hT⟩
    refine ⟨T, rfl, n, ?_⟩
    rw [hT, show ((2 : Int)) = ((2 : Nat) : Int) from rfl, slicePick_upto', hfs]; rfl
  · rintro a h₁ e₁ _
    refine Ok.list (R := fun vs _ => ∃ t, vs = [.str (Str.join (Str.ofString " ") (g :: (y :: texts).map lqD)) t]) ?_ ?_
    · refine (Ok.args1 rfl (R := fun v _ => ∃ t, v = .str (Str.join (Str.ofString " ") (g :: (y :: texts).map lqD)) t) ?_).mono (by rintro a h' _ ⟨v, rfl, t, rfl⟩; exact ⟨t, rfl⟩)
      refine Ok.mk fun s E Q hh ht hQ => ?_
      refine methodConst rfl rfl fun pl => Ok.go (Ok.str (h := h₁)) hh ht ?_
      rintro v h₂ tk h2 e₂ ⟨t₀, rfl⟩
      have e02 : Ext h h₂ := e₁.trans e₂
      refine GM.join (callWith_method1 (Ok.go (Ok.args1 rfl (R := fun v h' => ∃ D its, v = .ref D ∧ h'.PlainList D its ∧ StrsAre its.toList (g :: (y :: texts).map lqD)) ?_) rfl h2 ?_))
      · refine Ok.binop (R₁ := fun v h' => ∃ T t n, v = .ref T ∧ h'.get? T = some { cls := .type "list", data := .seq #[.str g t] n }) (R₂ := fun v h' => ∃ D ys, v = .ref D ∧ h'.PlainList D ys ∧ StrsAre ys.toList ((y :: texts).map lqD)) ?_ ?_ ?_
        · refine Ok.list (R := fun vs _ => vs = [.str g t₃]) ?_ ?_
          · refine (Ok.args1 rfl (R := fun v _ => v = .str g t₃) ?_).mono (by rintro a h' _ ⟨v, rfl, rfl⟩; rfl)
            refine Ok.sub (R₁ := fun v _ => v = .ref lf) (R₂ := fun v _ => ∃ t, v = .int 2 t) (Ok.local rfl rfl (hn.keeps e02) hmf) (fun _ _ _ _ => Ok.int) ?_
            rintro a b h₃ h₄ e₃ e₄ rfl ⟨t', rfl⟩
            exact Ok.listItem (((hlf.at fun o e => e02 _ o e).at fun o e => e₃ _ o e).at fun o e => e₄ _ o e) (by omega) (by omega) (by rw [hfs]; rfl)
          · rintro vs h₃ e₃ rfl
            exact ⟨by show 1 ≤ sizeLine; decide, _, t₃, _, rfl, Heap.get?_push_size _ rfl⟩
        · rintro a h₃ e₃ _
          have e03 : Ext h h₃ := e02.trans e₃
          have W₃ := W.keeps e03
          refine (Ok.comp (n := (y :: texts).length) (P := fun i v => ∃ z t, (y :: texts)[i]? = some z ∧ v = Value.str z t) (fun _ => true) (fun v u => ∀ z t, v = Value.str z t → ∃ t', u = Value.str (lqD z) t')
            (R₁ := fun v h' => ∃ T its, v = .ref T ∧ h'.PlainList T its ∧ StrsAre its.toList (y :: texts)) (by rfl) (by decide) rfl (by decide) rfl (by rw [List.length_cons]; omega) ?_ ?_ ?_ ?_ (by intro v; rfl)).mono ?_
          · refine (Ok.sliceList (lo := some 1) (hi := none) (hl.at fun o e => e03 _ o e) (by rw [hwsz]; omega) (Ok.local rfl rfl (hn.keeps e03) hm) (fun _ _ => Ok.partSome Ok.int) (fun _ _ => Ok.partNone)).mono ?_
            rintro v h' _ ⟨T, rfl, _, n, hT⟩
            refine ⟨T, _, rfl, ⟨n, hT⟩, ?_⟩
            rw [show ((1 : Int)) = ((1 : Nat) : Int) from rfl, slicePick_from']
            exact strs_drop hs 1
          · rintro xv h₄ e₄ ⟨T, its, rfl, ⟨n, hT⟩, hS⟩
            have hsz : its.size = (y :: texts).length := by have := strs_length hS; simpa using this
            rw [← hsz]
            exact Src.weaken (Src.list hA ⟨_, hT, rfl, _, rfl⟩) fun i v hv => by
              obtain ⟨z, t, e1, e2⟩ := strs_at hS i v (by simpa using hv)
              exact ⟨z, t, e2, e1⟩
          · rintro C i v h₄ m₄ _ e₄ hn₄ hm₄
            exact Ok.mk fun s E Q hh ht hQ => by subst hh; exact wpAny_tests_nil (hQ _ s.heap s.toks (Ext.refl _) rfl)
          · rintro C i v h₄ m₄ ⟨z, t, hz, rfl⟩ _ e₄ hn₄ hm₄
            have W₄ := W₃.keeps e₄
            have hzm := List.mem_of_getElem? hz
            refine (Ok.callF1 rfl rfl rfl W₄.g W₄.gQuoted W₄.oQuoted rfl hn₄ hm₄ (by decide) (by decide) fun h₅ e₅ => quoted_call (W₄.keeps e₅) (by omega) hA (by omega) (by have := hyl z hzm; omega) (hal z hzm).lt).mono ?_
            rintro v h₅ e₅ ⟨t', rfl⟩
            intro z' t'' e
            injection e with e1 _
            subst e1
            exact ⟨t', rfl⟩
          · rintro v h₄ e₄ ⟨D, rfl, ys, vs, hD, hL, hlen', hP, hpair⟩
            have hft : vs.filter (fun _ => true) = vs := List.filter_eq_self.mpr fun _ _ => rfl
            rw [hft] at hpair
            exact ⟨D, ys, rfl, hL, pair_strs (strs_of_get vs _ hlen' hP) hpair⟩
        · rintro a b h₃ h₄ e₃ e₄ ⟨T, t, n, rfl, hT⟩ ⟨D, ys, rfl, ⟨n', hD⟩, hS⟩
          have hsz : ys.size = texts.length + 1 := by have := strs_length hS; simpa using this
          refine (Ok.addList ⟨_, e₄ _ _ hT, rfl, _, rfl⟩ ⟨_, hD, rfl, _, rfl⟩ (by rw [hsz]; show 1 + (texts.length + 1) ≤ sizeLine; omega)).mono ?_
          rintro v h₅ e₅ ⟨R, rfl, _, hR⟩
          refine ⟨R, _, rfl, hR, ?_⟩
          rw [Array.toList_append]
          exact .cons _ t hS
      · rintro vs h₃ tk₃ h3 e₃ ⟨v, rfl, D, its, rfl, ⟨n, hD⟩, hS⟩
        refine Ok.go (Ok.joinL (B := 10000) ⟨_, hD, rfl, _, rfl⟩ hS ?_ ?_) rfl h3 ?_
        · intro z hz
          rcases List.mem_cons.mp hz with rfl | hz
          · exact hg
          · obtain ⟨z', hz', rfl⟩ := List.mem_map.mp hz
            have h1 := lqD_len z'
            have h2 := hyl z' hz'
            omega
        · have e1 : (Str.ofString " ").length = 1 := by decide
          rw [e1, List.length_cons, List.length_map, List.length_cons]; omega
        · rintro v h₄ tk₄ h4 e₄ ⟨t', rfl⟩
          exact hQ _ _ _ ((e₂.trans e₃).trans e₄) ⟨t', rfl⟩
    · rintro vs h₂ e₂ ⟨t, rfl⟩
      exact ⟨by show 1 ≤ sizeLine; decide, _, t, _, rfl, Heap.get?_push_size _ rfl⟩
  · rintro a b h₁ h₂ e₁ e₂ ⟨T, rfl, n, hT⟩ ⟨T', t, n', rfl, hT'⟩
    refine (Ok.addList ⟨_, e₂ _ _ hT, rfl, _, rfl⟩ ⟨_, hT', rfl, _, rfl⟩ (by show 2 + 1 ≤ sizeLine; decide)).mono ?_
    rintro v h₃ e₃ ⟨R, rfl, _, n'', hR⟩
    obtain ⟨as, q⟩ := carried_reads (h := h₃) (vs := [Value.str (S []) t₁, .str f t₂, .str (Str.join (Str.ofString " ") (g :: (y :: texts).map lqD)) t]) (.cons (.str _ _) (.cons (.str _ _) (.cons (.str _ _) .nil)))
    exact ⟨R, _, rfl, .list hR rfl rfl q⟩
end
end Mine

namespace Mine
theorem carried3 {vs : List Value} {a b c : Str} (h : CarriedAll vs [.str a, .str b, .str c]) : ∃ t₁ t₂ t₃, vs = [.str a t₁, .str b t₂, .str c t₃] := by
  cases h with
  | cons h1 r1 =>
    cases r1 with
    | cons h2 r2 =>
      cases r2 with
      | cons h3 r3 =>
        cases r3
        cases h1; cases h2; cases h3
        exact ⟨_, _, _, rfl⟩
theorem dD_text_len {x f g : Str} (hx : x.length ≤ 48) (h : Al (Ls x)) (hm : 39 ∈ Ls x) (e : wrD x = .list [.str (S []), .str f, .str g]) : g.length ≤ 10000 := by
  obtain ⟨a, b, ha, hp, e1, e2⟩ := tick_word x h hm
  rw [e2] at e
  have hg : S ([34, 39, 34, 39] ++ rep b ++ [39]) = g := by
    injection e with e
    injection e with _ e
    injection e with _ e
    injection e with e _
    injection e
  have hl := qD_len x
  have h2 : (Ls (qD x)).length = (qD x).length := Ls_length _
  rw [e1] at h2
  have h3 : g.length = ([34, 39, 34, 39] ++ rep b ++ [39]).length := by rw [← hg]; simp [S, Str.length]
  simp at h2 h3
  omega

theorem join_ascii : ∀ texts : List Str, (∀ x ∈ texts, ∀ c ∈ Ls x, c < 128) → ∀ c ∈ Ls (Str.join (Str.ofString " ") texts), c < 128
  | [], _, c, hc => by cases hc
  | [x], h, c, hc => h x (by simp) c hc
  | x :: y :: r, h, c, hc => by
    have hb : Ls (Str.ofString " ") = [32] := by decide
    have e3 : Str.join (Str.ofString " ") (x :: y :: r) = x ++ Str.ofString " " ++ Str.join (Str.ofString " ") (y :: r) := rfl
    rw [e3, Ls_append, Ls_append, hb] at hc
    rcases List.mem_append.mp hc with hc | hc
    · rcases List.mem_append.mp hc with hc | hc
      · exact h x (by simp) c hc
      · rw [List.mem_singleton.mp hc]; decide
    · exact join_ascii (y :: r) (fun z hz => h z (List.mem_cons_of_mem _ hz)) c hc

section
variable {prog : Program} {w : World} {A : Around} {mg mb : Str → Option Value}

theorem law_body {h₀ : Heap} {s : Shared} {E : Value → Shared → Prop} {Q : Flow → Shared → Prop} {m : Str → Option Value} {ls : Addr} {vs : Array Value} {ns : List Int}
    (W : Wd mg mb h₀) (hcode : h₀.IsCode 49 45 #[]) (htab : h₀.TableAt 49 45 #[]) (hA : A.handled = none) (hd : A.depth + 10 < recursionLimit) (hu : A.units + 300 < cLine) (hgens : s.gens = #[])
    (F : Fr h₀ h₀.objs.size s.heap m) (hm : m "script" = some (.ref ls)) (hc : s.heap.IsCell (h₀.objs.size + 1) none) (hl : h₀.IsList ls vs) (hI : IntsAre vs.toList ns) (hlen : ns.length ≤ 63)
    (hQ : ∀ h' tk gs more, Heap.ExtBut 45 h₀ h' → h'.TableAt 49 45 more → AllBare gs → Q (.ret (.bool true)) { s with heap := h', toks := tk, gens := gs }) :
    wpAny (model prog w) A (execs (fnBody (stt 13)) (callEnvC fdLaw h₀.objs.size 78)) Q E s := by
  have hsl : sizeLine = 16777216 := rfl
  have hal := text_al ns
  have htick := text_tick ns
  have htl := text_len ns
  obtain ⟨x, hxE⟩ : ∃ x, x = S (textL ns) := ⟨_, rfl⟩
  have hLx : Ls x = textL ns := by rw [hxE]; rfl
  have hxl : x.length ≤ 48 := by rw [← Ls_length, hLx]; exact htl
  have hx1 : 1 ≤ x.length := by
    rw [← Ls_length, hLx]
    exact List.length_pos_of_mem htick
  obtain ⟨y, rest, hwords⟩ := words_split x hx1
  have hwm := words_mem x
  have hwl := words_len x
  rw [hwords] at hwm hwl
  have hdn : downN x.length ≤ 48 := by unfold downN; omega
  have hAl : ∀ z ∈ x :: y :: rest, Al (Ls z) := fun z hz c hcz => hal c (by rw [← hLx]; exact (hwm z hz).1 c hcz)
  have hZl : ∀ z ∈ x :: y :: rest, z.length ≤ 48 := fun z hz => Nat.le_trans (hwm z hz).2 hxl
  have hrl : rest.length ≤ 47 := by
    have : rest.length + 2 = downN x.length + 1 := by simpa using hwl
    omega
  -- text
  show wpAny _ _ (execs (PySem.Stmt.Assign [.Name "text" _] (lawE 0) _ :: _) _) _ _ _
  refine wpAny_execs_cons (wpAny_Assign_Name (text_ok hA F.ns hm (hl.at fun o e => F.keep _ o e) hI hlen ?_) (by rfl))
  rintro v h₁ tk₁ h1 e₁ ⟨t, rfl⟩
  refine wpAny_storeName_cell rfl rfl rfl (hc.keeps e₁) (fun h₂ hc₂ hs₂ => ?_)
  dsimp only at hs₂ ⊢
  have F₂ : Fr h₀ h₀.objs.size h₂ m := by
    have F₁ := F.keeps e₁
    refine ⟨F₁.ns.at' fun o e => hs₂.extBut _ o (fun q => Nat.succ_ne_self _ q.symm) e, fun b o e => hs₂.extBut b o (fun q => ?_) (F₁.keep b o e), F₁.above⟩
    have := Heap.lt_size e
    rw [q] at this
    exact Nat.lt_irrefl _ (Nat.lt_of_succ_lt this)
  rw [← hxE] at hc₂
  have W₂ := W.keeps F₂.keep
  -- words
  show wpAny _ _ (execs (PySem.Stmt.Assign [.Name "words" _] (lawE 1) _ :: _) _) _ _ _
  refine wpAny_execs_cons (wpAny_Assign_Name (Ok.go (words_ok W₂ hA (by omega) hc₂) rfl h1 ?_) (by rfl))
  rintro v h₃ tk₃ h3 e₃ ⟨lw, ws, rfl, hlw, ⟨nw, hlwo⟩, hS⟩
  rw [hwords] at hS
  have F₃ := F₂.keeps e₃
  refine wpAny_storeName_local rfl F₃.ns (fun h₄ hn₄ hs₄ => ?_)
  dsimp only at hn₄ hs₄ ⊢
  have F₄ := F₃.set hn₄ hs₄
  have W₄ := W.keeps F₄.keep
  have hlwL : lw ≠ h₀.objs.size := fun q => by
    obtain ⟨o, _, _, ho, _⟩ := F₂.ns
    rw [q, ho] at hlw; cases hlw
  have hl₄ : h₄.IsList lw ws := ⟨_, hs₄.extBut _ _ hlwL hlwo, rfl, _, rfl⟩
  have h4 : 1 ≤ tk₃ + 1 := by omega
  have hlen' : (x :: y :: rest).length ≤ 1000 := by simp; omega
  -- the first test
  show wpAny _ _ (execs (PySem.Stmt.If (lawE 2) _ [] _ :: _) _) _ _ _
  refine wpAny_execs_cons (wpAny_If (Ok.go (cmp1 W₄ hA (by omega) (by omega) F₄.ns (by rfl) hl₄ hS hlen' hAl (fun z hz => by have := hZl z hz; omega)) rfl h4 ?_))
  rintro b h₅ tk₅ h5 e₅ rfl
  simp only [Bool.false_eq_true, if_false]
  refine wpAny_execs_nil ?_
  dsimp only
  have F₅ := F₄.keeps e₅
  have W₅ := W₄.keeps e₅
  have hl₅ : h₅.IsList lw ws := hl₄.at fun o e => e₅ _ o e
  -- the second test
  show wpAny _ _ (execs (PySem.Stmt.If (lawE 3) _ [] _ :: _) _) _ _ _
  refine wpAny_execs_cons (wpAny_If (Ok.go (cmp2 W₅ hA (by omega) (by omega) F₅.ns (by rfl) hl₅ hS hlen' hAl (fun z hz => by have := hZl z hz; omega)) rfl h5 ?_))
  rintro b h₆ tk₆ h6 e₆ rfl
  simp only [Bool.false_eq_true, if_false]
  refine wpAny_execs_nil ?_
  dsimp only
  have F₆ := F₅.keeps e₆
  have W₆ := W₅.keeps e₆
  have hl₆ : h₆.IsList lw ws := hl₅.at fun o e => e₆ _ o e
  -- front
  show wpAny _ _ (execs (PySem.Stmt.Assign [.Name "front" _] (lawE 4) _ :: _) _) _ _ _
  refine wpAny_execs_cons (wpAny_Assign_Name (Ok.go (front_ok W₆ hA (by omega) (by omega) F₆.ns (by rfl) hl₆ hS (hAl x (by simp)) (by omega)) rfl h6 ?_) (by rfl))
  rintro v h₇ tk₇ h7 e₇ ⟨lf, of, rfl, hlf, hlfo, hobj⟩
  have F₇ := F₆.keeps e₇
  refine wpAny_storeName_local rfl F₇.ns (fun h₈ hn₈ hs₈ => ?_)
  dsimp only at hn₈ hs₈ ⊢
  have F₈ := F₇.set hn₈ hs₈
  have W₈ := W.keeps F₈.keep
  have hl₈ : h₈.IsList lw ws := by
    obtain ⟨o, ho, r⟩ := hl₆
    exact ⟨o, hs₈.extBut _ _ hlwL (e₇ _ _ ho), r⟩
  have hlfL : lf ≠ h₀.objs.size := fun q => by
    obtain ⟨o, _, _, ho, _⟩ := F₆.ns
    rw [q, ho] at hlf; cases hlf
  have hlf₈ : h₈.get? lf = some of := hs₈.extBut _ _ hlfL hlfo
  obtain ⟨f, g, hwr, hline⟩ := law_three x (hAl x (by simp)) (by rw [hLx]; exact htick)
  have hgl := dD_text_len hxl (hAl x (by simp)) (by rw [hLx]; exact htick) hwr
  rw [hwr] at hobj
  obtain ⟨fs, nf, xs, hfd, hfc, hfk⟩ := hobj
  have hfk' : of.cls = .type "list" ∧ xs = [.str (S []), .str f, .str g] := by
    rcases hfk with ⟨a, b⟩ | ⟨a, b⟩
    · exact ⟨a, by injection b with b; exact b.symm⟩
    · cases b
  rw [hfk'.2] at hfc
  obtain ⟨t₁, t₂, t₃, hfl⟩ := carried3 hfc
  have hfs : fs = #[.str (S []) t₁, .str f t₂, .str g t₃] := by
    apply Array.ext'; rw [hfl]
  have hlf8 : h₈.IsList lf fs := ⟨of, hlf₈, hfk'.1, nf, hfd⟩
  -- the line
  show wpAny _ _ (execs (PySem.Stmt.Return (some (.Compare (.Call (.Name "decode_rfc2231" _) [.Call (.Name "join" _) [.Name "words" _] [] _] [] _) [.Eq] [cmpRight (lawE 5)] _)) _ :: _) _) _ _ _
  refine wpAny_execs_cons (wpAny_Return_some (wpAny_Compare1 ?_ (by with_unfolding_all rfl)))
  refine Call_ (Name_function_global rfl rfl (loadGlobal_global W₈.g W₈.gDec ?_))
  refine callWith_def (o := { cls := .type "function", data := .func fdDec }) rfl (spliced_more ?_)
  refine Call_ (Name_function_global rfl rfl (loadGlobal_global W₈.g W₈.gJoin ?_))
  refine callWith_def (o := { cls := .type "function", data := .func fdJoin }) rfl (spliced_more (wpAny_Name (wpAny_loadName_local rfl rfl F₈.ns (v := .ref lw) (by rfl) (spliced_none ⟨W₈.oJoin, ?_⟩))))
  have h45 : h₀.get? 45 = some { cls := .none, data := .fields #[] } := htab.2
  have hL45 : h₀.objs.size ≠ 45 := Nat.ne_of_gt hcode.lt.2
  have hlw45 : lw ≠ 45 := fun q => by
    have := F₂.keep _ _ h45
    rw [← q, hlw] at this; cases this
  have hlf45 : lf ≠ 45 := fun q => by
    have := F₆.keep _ _ h45
    rw [← q, hlf] at this; cases this
  have hmap : (x :: y :: rest).map qD = qD x :: qD y :: rest.map qD := rfl
  have hqe : (y :: rest).map lqD = qD y :: rest.map qD := by
    rw [List.map_cons, lqD_qD y (hAl y (by simp))]
    congr 1
    exact List.map_congr_left fun z hz => lqD_qD z (hAl z (by simp [hz]))
  obtain ⟨line, hlineE⟩ : ∃ line, line = Str.join (Str.ofString " ") ((x :: y :: rest).map qD) := ⟨_, rfl⟩
  have hdec : decD line = .list [.str (S []), .str f, .str (Str.join (Str.ofString " ") (g :: (y :: rest).map lqD))] := by
    rw [hlineE, hmap, hline, hqe]
  have hll : line.length ≤ 100000 := by
    rw [hlineE]
    have h1 := StrLaws.join_length_le (Str.ofString " ") ((x :: y :: rest).map qD)
    have h2 := StrLaws.sumLen_le (B := 300) ((x :: y :: rest).map qD) (fun z hz => by
      obtain ⟨z', hz', rfl⟩ := List.mem_map.mp hz
      have a := qD_len z'
      have b := hZl z' hz'
      omega)
    have e1 : (Str.ofString " ").length = 1 := by decide
    rw [e1] at h1
    have hN : (x :: y :: rest).length ≤ 49 := by simp; omega
    rw [List.length_map] at h1 h2
    omega
  have hasc : ∀ c ∈ Ls line, c < 128 := by
    rw [hlineE]
    exact join_ascii _ fun z hz => by
      obtain ⟨z', hz', rfl⟩ := List.mem_map.mp hz
      exact qD_ascii (hAl z' hz')
  have hflat : FlatOk (decD line) := by rw [decD_is]; exact flat_dD hasc
  refine wpAny_with_toks (n := 1) (show 1 ≤ tk₇ + 1 by omega) (join_call (B := 48) W₈ (hcode.keeps F₈.keep) (htab.keeps F₈.keep) hA (by omega) hgens hl₈ hS hZl (by omega) (by simp; omega) ?_)
  intro t₉ h₉ tk₉ gs more hx₉ htab₉ hbare h9
  rw [← hlineE]
  have hx9 : ∀ b o, b ≠ 45 → h₈.get? b = some o → h₉.get? b = some o := fun b o hb e => hx₉ b o hb e
  have W₉ : Wd mg mb h₉ := W₈.but hx9
  refine spliced_none ⟨W₉.oDec, ?_⟩
  refine Ok.go (dec_call W₉ (by omega) (by omega)) rfl h9 ?_
  rintro v h₁₀ tk₁₀ h10 e₁₀ ⟨T, o, rfl, hT, hTo, hobj⟩
  have up10 : ∀ b o, b ≠ 45 → h₈.get? b = some o → h₁₀.get? b = some o := fun b o hb e => e₁₀ b o (hx9 b o hb e)
  have W₁₀ := W₉.keeps e₁₀
  have hn₁₀ := F₈.ns.at' (h' := h₁₀) fun o e => up10 _ o hL45 e
  have hl₁₀ : h₁₀.IsList lw ws := hl₈.at fun o e => up10 _ o hlw45 e
  have hlf10 : h₁₀.IsList lf fs := hlf8.at fun o e => up10 _ o hlf45 e
  refine Ok.go (right_ok W₁₀ hA (by omega) (by omega) hn₁₀ (by rfl) (by rfl) hl₁₀ hS hlf10 hfs (by omega) (fun z hz => hAl z (List.mem_cons_of_mem _ hz)) (fun z hz => by have := hZl z (List.mem_cons_of_mem _ hz); omega) hgl) rfl h10 ?_
  rintro v h₁₁ tk₁₁ h11 e₁₁ ⟨D, as, rfl, hR⟩
  obtain ⟨bs, hL⟩ := obj_reads (e₁₁ _ _ hTo) hobj
  rw [← hdec] at hR
  have hsh : SeqAt.shaped (decD line) = true := by
    unfold SeqAt.shaped
    rw [hflat.1, Bool.true_and]
    have := hflat.2
    exact decide_eq_true (by omega)
  refine eq_dataH hL hR hsh hsh (by omega) ?_
  rw [SeqAt.eqv_refl _ hflat.1]
  exact hQ h₁₁ _ gs more (fun b o hb e => e₁₁ b o (up10 b o hb (F₈.keep b o e))) (htab₉.keeps (e₁₀.trans e₁₁)) hbare
end
end Mine

set_option maxHeartbeats 8000000 in
theorem PySem.Challenge.cw_of0001_01_holds : PySem.Challenge.rw_of0001_01.Holds := by
  w_on; o_law; k_head
  case hw => w_witness2
  k_fill
  intro w s₀ s₁ mg mb G Y fa o pm cd doc dV kV ho hd hcd hD hmg hg args vals as hpre hlay hrd hwl hlo
  have KX := kIn_of Y
  have X := (Ground.X G).1
  have V := (Ground.X G).2
  refine Ground.open G ?_
  intro T B D TE TW
  have WD : Mine.Wd mg mb s₁.heap := {
    g := T.g
    b := T.b
    lim := T.nolimit
    bi := T.builtins
    gLen := mg_none_of KX T.g (by rfl)
    gRange := mg_none_of KX T.g (by rfl)
    gTick := ⟨_, mg_of KX T.g (by rfl)⟩
    gDec := mg_of KX T.g (by rfl)
    gJoin := mg_of KX T.g (by rfl)
    gFind := mg_of KX T.g (by rfl)
    gQuote := mg_of KX T.g (by rfl)
    gParted := mg_of KX T.g (by rfl)
    gWritten := mg_of KX T.g (by rfl)
    gQuoted := mg_of KX T.g (by rfl)
    oDec := KX _ _ (by rfl)
    oJoin := KX _ _ (by rfl)
    oQuote := KX _ _ (by rfl)
    oParted := KX _ _ (by rfl)
    oWritten := KX _ _ (by rfl)
    oQuoted := KX _ _ (by rfl)
    cDec := codeRec_of KX (by rfl)
    cJoin := codeRec_of KX (by rfl)
    cQuote := codeRec_of KX (by rfl)
    cParted := codeRec_of KX (by rfl)
    cWritten := codeRec_of KX (by rfl)
    cQuoted := codeRec_of KX (by rfl)
    gB := mg_of KX T.g (by rfl)
    oB := by
      obtain ⟨bm, ob, e1, _, e2, e3, e4, e5⟩ := T.bmain
      have e6 : mg "__builtins__" = some (.ref 4) := mg_of KX T.g (by rfl)
      rw [e6] at e1
      cases e1
      exact ⟨ob, e2, e3, e4, e5⟩
    oFind := KX _ _ (by rfl)
    oPat := ⟨_, _, KX _ _ (by rfl)⟩
    oCode := KX _ _ (by rfl) }
  have hfa : fa = 78 := by
    have e : mg "law" = some (.ref 78) := mg_of KX T.g (by rfl)
    have := hmg.symm.trans e
    injection this with this
    injection this
  subst hfa
  have oLaw : s₁.heap.get? 78 = some { cls := .type "function", data := .func Mine.fdLaw } := KX _ _ (by rfl)
  have cLaw : s₁.heap.CodeRec (.ref 77) "law" := codeRec_of KX (by rfl)
  wrow_args hpre hlay hrd hwl hlo
  refine enter_call ?_
  rename IntsAre _ _ => hI
  rename s₁.heap.IsList _ _ => hL
  rename ¬ ((63 : Int) < _) => hlen
  rename List Int => ns
  rename List Value => vs
  obtain ⟨c, P, hcP, BJ⟩ := based_of_top T (name := "join") (by rfl) WD.gJoin WD.oJoin rfl
  have hc49 : c = 49 := by injection hcP with q; exact q.symm
  subst hc49
  have hP45 : P = 45 := by
    obtain ⟨⟨oc, vc, e1, _, e3, e4⟩, _⟩ := BJ.tab
    have e5 := KX 49 _ (by rfl)
    rw [e5] at e1
    cases e1
    cases e3
    have : some (Value.ref 45) = some (Value.ref P) := e4
    injection this with this
    injection this with this
    exact this.symm
  subst hP45
  have hlen' : ns.length ≤ 63 := by have q : ¬ ((63 : Int) < (ns.length : Int)) := hlen; omega
  refine codeAny_call_function (by decide) oLaw rfl rfl rfl rfl cLaw ?_
  refine wpAny_of_eq (a := [(Str.ofString "script", Value.ref _)]) (by rfl) ?_
  refine wpAny_newFunctionEnv_cells rfl (by intro y hy; rw [List.mem_singleton.mp hy]; exact .inl rfl) fun env he s₂ x => ?_
  subst he
  refine ⟨T.nolimit.keeps x.toInCall.keep, codeAny_func ?_⟩
  have hgens : s₂.gens = #[] := by obtain ⟨h', tk', e⟩ := x.toInCall.same; rw [e]; exact hg
  have hos : s₂.os = s₁.os := by obtain ⟨h', tk', e⟩ := x.toInCall.same; rw [e]
  refine Mine.law_body (vs := vs.toArray) WD BJ.code BJ.tab rfl (show (callerA.depth + 1) + 10 < recursionLimit by decide) (show (callerA.units + 3) + 300 < cLine by decide) hgens ⟨x.toInCall.ns, x.toInCall.keep, Nat.le_refl _⟩ (by rfl) (x.cell "text" _ rfl) hL (by simpa using hI) hlen' ?_
  intro h' tk gs more hx ht hbare
  refine ⟨.inl ⟨.bool true, .bool true, [], rfl, ?_, .bool true, ?_, ?_⟩, ?_, hos, hbare⟩
  · intro cls; rfl
  · exact postW_of (X := true) (by with_unfolding_all rfl) (w_eq_bool (k := true) (l := true) (w_res rfl) w_lit) rfl
  · intro _; exact ⟨.nil, fun a ha => nomatch ha⟩
  · exact OldK.step_table (OldK.refl _) BJ.tab BJ.tab (by simpa using ht) hx (by decide)
