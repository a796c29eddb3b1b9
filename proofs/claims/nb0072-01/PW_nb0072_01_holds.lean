import PyProof.Rows.All
import Wide.All
import OpenK.AllK
import Wide.FinOn
import PySem.Challenge.RW_nb0072_01
set_option Elab.async false
set_option linter.unusedVariables false

section
open PySem PySem.W PyProof.Rows
set_option maxRecDepth 100000
namespace Mine

/-! the program's parts, by place -/
abbrev top (n : Nat) : Stmt := (PySem.Challenge.pw_nb0072_01.main.body)[n]?.getD (.Pass ⟨0, 0, 0, 0⟩)
abbrev bodyOf : Stmt → List Stmt
  | .FunctionDef _ _ b _ _ _ _ _ _ _ => b
  | _ => []
abbrev argsOf : Stmt → Arguments
  | .FunctionDef _ a _ _ _ _ _ _ _ _ => a
  | _ => default
abbrev scopeOf : Stmt → Scope
  | .FunctionDef _ _ _ _ _ _ s _ _ _ => s
  | _ => default

/-! a state predicate that tokens do not touch -/
def TokOk (I : Shared → Prop) : Prop := ∀ s tk, I s → I { s with toks := tk }

section
variable {prog : Program} {w : World} {A : Around} {E : Value → Shared → Prop} {s : Shared} {env : Env} {I : Shared → Prop} {Q : Value → Shared → Prop}

theorem r_int {i : Int} {k : Nat} {pos : Pos} (T : TokOk I) (h : I s) (c : ∀ t s', I s' → Q (.int i t) s') : wpAny (model prog w) A (eval (.Constant (.int i) k pos) env) Q E s :=
  wpAny_Constant_int (c _ _ (T _ _ h))
theorem r_str {x : Str} {k : Nat} {pos : Pos} (T : TokOk I) (h : I s) (c : ∀ t s', I s' → Q (.str x t) s') : wpAny (model prog w) A (eval (.Constant (.str x) k pos) env) Q E s :=
  wpAny_Constant_str (c _ _ (T _ _ h))
theorem r_mod {a b : Int} {t u : Tok} (T : TokOk I) (h : I s) (hb : b ≠ 0) (c : ∀ t s', I s' → Q (.int (a.fmod b) t) s') : wpAny (model prog w) A (binaryOp .Mod (.int a t) (.int b u)) Q E s :=
  mod_int hb (c _ _ (T _ _ h))
theorem r_div {a b : Int} {t u : Tok} (T : TokOk I) (h : I s) (hb : b ≠ 0) (hl : b.natAbs < 1073741824) (c : ∀ t s', I s' → Q (.int (a.fdiv b) t) s') : wpAny (model prog w) A (binaryOp .FloorDiv (.int a t) (.int b u)) Q E s :=
  floordiv_int hb (c _ _ (T _ _ h)) (.inl (PyProof.noPylong_small hl))
theorem r_add {a b : Int} {t u : Tok} (T : TokOk I) (h : I s) (c : ∀ t s', I s' → Q (.int (a + b) t) s') : wpAny (model prog w) A (binaryOp .Add (.int a t) (.int b u)) Q E s :=
  PyProof.Rows.add_int (c _ _ (T _ _ h))
theorem r_sub {a b : Int} {t u : Tok} (T : TokOk I) (h : I s) (c : ∀ t s', I s' → Q (.int (a - b) t) s') : wpAny (model prog w) A (binaryOp .Sub (.int a t) (.int b u)) Q E s :=
  PyProof.Rows.sub_int (c _ _ (T _ _ h))
theorem r_mul {a b : Int} {t u : Tok} (T : TokOk I) (h : I s) (hm : IntMulOk a b) (c : ∀ t s', I s' → Q (.int (a * b) t) s') : wpAny (model prog w) A (binaryOp .Mult (.int a t) (.int b u)) Q E s :=
  PyProof.Rows.mul_int (c _ _ (T _ _ h)) hm
theorem r_cat {x y : Str} {t u : Tok} (T : TokOk I) (h : I s) (hsz : x.length + y.length ≤ sizeLine) (c : ∀ t s', I s' → Q (.str (x ++ y) t) s') : wpAny (model prog w) A (binaryOp .Add (.str x t) (.str y u)) Q E s :=
  PyProof.Rows.add_str (fun t' _ => c t' _ (T _ _ h)) hsz
theorem r_neg {a : Int} {t : Tok} (T : TokOk I) (h : I s) (c : ∀ t s', I s' → Q (.int (-a) t) s') : wpAny (model prog w) A (unaryOp .USub (.int a t)) Q E s :=
  PyProof.Rows.neg_int (c _ _ (T _ _ h))
theorem r_item {value slice : Expr} {x : Str} {t : Tok} {i : Int} {u : Tok} (T : TokOk I) (h : I s) (hr : fitsSsize i = true) (h1 : -(x.length : Int) ≤ i) (h2 : i < x.length) (c : ∀ t s', I s' → Q (.str (Txt.item x i) t) s')
    (hs : subscripted slice false (.str x t) (.int i u) = operate [.str x t, .int i u] (getItem (.str x t) (.int i u)) := by with_unfolding_all rfl)
    (ht : ∀ r, letTemporaryGo value (.str x t) r = pure () := by intro _; with_unfolding_all rfl) :
    wpAny (model prog w) A (subscriptTail value slice (.str x t) (.int i u)) Q E s := item_str hr h1 h2 (fun _ => c _ _ (T _ _ h)) hs ht

/-- a local's value -/
theorem r_ld {x : Str} {pos : Pos} {m : Str → Option Value} {v : Value} (hn : s.heap.Ns env.locals m) (hv : m x = some v) (c : Q v s)
    (hk : env.scope.kind = .function := by rfl) (hl : env.kindOf x = some .local := by rfl) (hd : (x == ("__debug__" : Str)) = false := by decide) :
    wpAny (model prog w) A (eval (.Name x pos) env) Q E s := wpAny_Name (wpAny_loadName_local hk hl hn hv c) hd
end

/-- one name more in a map -/
def put (m : Str → Option Value) (x : Str) (v : Value) : Str → Option Value := fun y => if y = x then some v else m y

theorem put_self {m : Str → Option Value} {x : Str} {v : Value} : put m x v x = some v := by simp [put]
theorem put_ne {m : Str → Option Value} {x y : Str} {v : Value} (h : (y == x) = false) : put m x v y = m y := by
  have : y ≠ x := by simpa using h
  simp [put, this]
/-- only the locals at L have changed since s₀ (and tokens) -/
def At (s₀ : Shared) (L : Addr) (m : Str → Option Value) (s : Shared) : Prop := OnlyLocals L s₀ s ∧ s.heap.Ns L m
theorem At.tok {s₀ : Shared} {L : Addr} {m : Str → Option Value} : TokOk (At s₀ L m) := fun s tk h => by
  obtain ⟨⟨h', t, rfl, hs⟩, hn⟩ := h
  exact ⟨⟨h', tk, rfl, hs⟩, hn⟩
theorem At.start {s₀ : Shared} {L : Addr} {m : Str → Option Value} (hn : s₀.heap.Ns L m) : At s₀ L m s₀ := ⟨⟨s₀.heap, s₀.toks, rfl, .refl ..⟩, hn⟩
theorem At.ns {s₀ s : Shared} {L : Addr} {m : Str → Option Value} (h : At s₀ L m s) : s.heap.Ns L m := h.2

section
variable {prog : Program} {w : World} {A : Around} {E : Value → Shared → Prop} {s s₀ : Shared} {env : Env} {m : Str → Option Value}
theorem At.st {x : Str} {v : Value} {Q : Unit → Shared → Prop} (h : At s₀ env.locals m s) (c : ∀ s', At s₀ env.locals (put m x v) s' → Q () s')
    (hl : env.kindOf x = some .local := by rfl) (hp : (env.scope.kind == .class || (env.scope.kind == .module && env.locals != env.globals)) = false := by rfl) :
    wpAny (model prog w) A (storeName env x v) Q E s := by
  refine wpAny_storeName_local hl h.2 (fun h' hn hs => c _ ?_) hp
  obtain ⟨⟨h₁, t, rfl, hs₁⟩, _⟩ := h
  exact ⟨⟨h', _, rfl, hs₁.trans hs⟩, hn⟩
end

/-! room above the stack -/
def Rm (n : Nat) (A : Around) : Prop := A.handled = none ∧ A.depth + n < recursionLimit ∧ A.units + 16 * n < cLine
theorem un_le {u : Nat} (c n : Nat) (hc : c ≤ 16) : u + c + 16 * n ≤ u + 16 * (n + 1) := by
  rw [Nat.mul_succ, Nat.add_assoc, Nat.add_comm c]
  exact Nat.add_le_add_left (Nat.add_le_add_left hc _) _
theorem Rm.deeper {n : Nat} {A : Around} {env : Env} (h : Rm (n + 1) A) : Rm n (A.deeper env) := by
  refine ⟨h.1, ?_, Nat.lt_of_le_of_lt (un_le 3 n (by decide)) h.2.2⟩
  show A.depth + 1 + n < _
  rw [Nat.add_right_comm]
  exact h.2.1
theorem Rm.le {n k : Nat} {A : Around} (h : Rm n A) (hk : k ≤ n) : Rm k A := ⟨h.1, Nat.lt_of_le_of_lt (Nat.add_le_add_left hk _) h.2.1, Nat.lt_of_le_of_lt (Nat.add_le_add_left (Nat.mul_le_mul_left 16 hk) _) h.2.2⟩
theorem Rm.room {n : Nat} {A : Around} (h : Rm n A) : A.depth < recursionLimit := Nat.lt_of_le_of_lt (Nat.le_add_right _ _) h.2.1
theorem Rm.units {n : Nat} {A : Around} (h : Rm n A) : A.units < cLine := Nat.lt_of_le_of_lt (Nat.le_add_right _ _) h.2.2
theorem sl1000 : 1000 ≤ sizeLine := by rw [sizeLine_eq]; decide
theorem sl5 : 5 ≤ sizeLine := Nat.le_trans (by decide) sl1000
theorem sl2 : 2 ≤ sizeLine := Nat.le_trans (by decide) sl1000

/-! what a run may change: the objects in X alone -/
structure Stp (X : Addr → Prop) (s s' : Shared) : Prop where
  keep : ∀ b o, ¬ X b → s.heap.get? b = some o → s'.heap.get? b = some o
  os : s'.os = s.os
  gens : ∀ (i : Nat) (g : GenState), s.gens[i]? = some g → s'.gens[i]? = some g
  bare : AllBare s.gens → AllBare s'.gens
abbrev No : Addr → Prop := fun _ => False
abbrev Is (L : Addr) : Addr → Prop := fun b => b = L
theorem Stp.refl {X : Addr → Prop} {s : Shared} : Stp X s s := ⟨fun _ _ _ e => e, rfl, fun _ _ e => e, fun e => e⟩
theorem Stp.trans {X : Addr → Prop} {s s' s'' : Shared} (a : Stp X s s') (b : Stp X s' s'') : Stp X s s'' :=
  ⟨fun x o hx e => b.keep x o hx (a.keep x o hx e), b.os.trans a.os, fun i g e => b.gens i g (a.gens i g e), fun e => b.bare (a.bare e)⟩
theorem Stp.weak {X Y : Addr → Prop} {s s' : Shared} (a : Stp X s s') (h : ∀ b, X b → Y b) : Stp Y s s' :=
  ⟨fun x o hx e => a.keep x o (fun q => hx (h x q)) e, a.os, a.gens, a.bare⟩
theorem Stp.any {X : Addr → Prop} {s s' : Shared} (a : Stp No s s') : Stp X s s' := a.weak fun _ h => h.elim
theorem Stp.tok {X : Addr → Prop} {s s' : Shared} {tk : Nat} (a : Stp X s s') : Stp X s { s' with toks := tk } := ⟨a.keep, a.os, a.gens, a.bare⟩
theorem Stp.tok' {X : Addr → Prop} {s s' : Shared} {tk : Nat} (a : Stp X s s') : Stp X { s with toks := tk } s' := ⟨a.keep, a.os, a.gens, a.bare⟩
theorem Stp.heap {X : Addr → Prop} {s : Shared} {h : Heap} {tk : Nat} (hk : ∀ b o, ¬ X b → s.heap.get? b = some o → h.get? b = some o) : Stp X s { s with heap := h, toks := tk } :=
  ⟨hk, rfl, fun _ _ e => e, fun e => e⟩
/-- a set of objects that are new is no change -/
theorem Stp.fresh {X : Addr → Prop} {s s' : Shared} (a : Stp X s s') (h : ∀ b, X b → s.heap.get? b = none) : Stp No s s' :=
  ⟨fun x o _ e => a.keep x o (fun q => by rw [h x q] at e; cases e) e, a.os, a.gens, a.bare⟩

/-! the names and the functions of the top -/
structure Names (gm bm : Str → Option Value) : Prop where
  key : gm "cmp_to_key" = some (.ref 21)
  missing : gm "_initial_missing" = some (.ref 22)
  reduce : gm "reduce" = some (.ref 30)
  chars : gm "_iter_escaped_chars" = some (.ref 37)
  written : gm "_law_written" = some (.ref 44)
  compare : gm "_law_compare" = some (.ref 49)
  lesser : gm "_law_lesser" = some (.ref 56)
  none : gm "len" = none ∧ gm "range" = none ∧ gm "sorted" = none ∧ gm "enumerate" = none ∧ gm "zip" = none ∧ gm "iter" = none ∧ gm "next" = none ∧ gm "object" = none
  len : bm "len" = some (.builtin "len")
  range : bm "range" = some (.type "range")
  sorted : bm "sorted" = some (.builtin "sorted")
  enum : bm "enumerate" = some (.type "enumerate")
  zip : bm "zip" = some (.type "zip")
  iter : bm "iter" = some (.builtin "iter")
  next : bm "next" = some (.builtin "next")
  object : bm "object" = some (.type "object")

def IsFn (h : Heap) (a : Addr) (n : Nat) (nm : Str) : Prop :=
  ∃ o pm cd doc, h.get? a = some o ∧ o.data = .func (Calls.docDef nm (argsOf (top n)) (bodyOf (top n)) (scopeOf (top n)) pm cd doc) ∧ h.CodeRec cd nm
theorem IsFn.keeps {h h' : Heap} {a : Addr} {n : Nat} {nm : Str} (x : IsFn h a n nm) (k : ∀ b o, h.get? b = some o → h'.get? b = some o) : IsFn h' a n nm :=
  by obtain ⟨o, pm, cd, doc, e, d, c⟩ := x; exact ⟨o, pm, cd, doc, k _ _ e, d, c.keeps k⟩

structure Grd (h : Heap) : Prop where
  names : ∃ gm bm, h.Ns mainGlobals gm ∧ h.Ns builtinsNs bm ∧ Names gm bm
  lim : h.NoLimit
  chars : IsFn h 37 5 "_iter_escaped_chars"
  written : IsFn h 44 7 "_law_written"
  compare : IsFn h 49 8 "_law_compare"
  lesser : IsFn h 56 9 "_law_lesser"
theorem Grd.keeps {h h' : Heap} (G : Grd h) (k : ∀ b o, h.get? b = some o → h'.get? b = some o) : Grd h' :=
  ⟨let ⟨gm, bm, a, b, c⟩ := G.names; ⟨gm, bm, a.keeps k, b.keeps k, c⟩, G.lim.keeps k, G.chars.keeps k, G.written.keeps k, G.compare.keeps k, G.lesser.keeps k⟩

section
variable {w : World} {A : Around} {E : Value → Shared → Prop} {s : Shared} {env : Env} {Q : Value → Shared → Prop}
/-- a name of the module -/
theorem r_glob {x : Str} {pos : Pos} {gm : Str → Option Value} {v : Value} (hg : s.heap.Ns env.globals gm) (hv : gm x = some v) (c : Q v s)
    (hk : env.scope.kind = .function := by rfl) (hx : env.kindOf x = some .globalImplicit := by rfl) (hd : (x == ("__debug__" : Str)) = false := by decide) :
    wpAny (model PySem.Challenge.pw_nb0072_01 w) A (eval (.Name x pos) env) Q E s := Calls.Name_function_global hk hx (Calls.loadGlobal_global hg hv c) hd
/-- a name of the built-ins -/
theorem r_blt {x : Str} {pos : Pos} {gm bm : Str → Option Value} {v : Value} (hg : s.heap.Ns env.globals gm) (hm : gm x = none) (hb : s.heap.Ns env.builtins bm) (hv : bm x = some v) (c : Q v s)
    (hk : env.scope.kind = .function := by rfl) (hx : env.kindOf x = some .globalImplicit := by rfl) (hd : (x == ("__debug__" : Str)) = false := by decide) :
    wpAny (model PySem.Challenge.pw_nb0072_01 w) A (eval (.Name x pos) env) Q E s := Calls.Name_function_global hk hx (Calls.loadGlobal_builtin hg hm hb hv c) hd
end
theorem enter {w : World} {A : Around} {s : Shared} {R : Result → Shared → Prop} {a : Addr} {n : Nat} {nm : Str} {args : List Value} {binds : List (Str × Value)} {k : Nat} (rm : Rm k A) (lim : s.heap.NoLimit) (F : IsFn s.heap a n nm)
    (hbind : ∀ pm cd doc, bindArgs (Calls.docDef nm (argsOf (top n)) (bodyOf (top n)) (scopeOf (top n)) pm cd doc) ⟨args, []⟩ = pure binds) (hloc : ∀ x ∈ binds, (scopeOf (top n)).names.lookup x.1 = some .local)
    (h : ∀ cd h₁ tk, Fr s.heap s.heap.objs.size h₁ (fun x => binds.reverse.lookup x) →
      wpAny (model PySem.Challenge.pw_nb0072_01 w) (A.deeper (envOf nm (scopeOf (top n)) s.heap.objs.size a cd)) (execs (bodyOf (top n)) (envOf nm (scopeOf (top n)) s.heap.objs.size a cd))
        (fun f s' => R (.ok (.ret (match f with | .ret v => v | _ => .none))) s') (fun _ _ => False) { s with heap := h₁, toks := tk })
    (hco : (scopeOf (top n)).isCoroutine = false := by rfl) (hgen : (scopeOf (top n)).isGenerator = false := by rfl) (hk : (scopeOf (top n)).kind = .function := by rfl)
    (hcell : ∀ x ∈ (scopeOf (top n)).names, x.2 ≠ .cell := by decide) :
    codeAny (model PySem.Challenge.pw_nb0072_01 w) A (.call (.ref a) ⟨args, []⟩) R s := by
  obtain ⟨o, pm, cd, doc, ho, hd, hc⟩ := F
  refine call_plain rm.room ho hd lim hc (hbind pm cd doc) hloc (fun h₁ F => ?_) hco hgen hk hcell
  exact wpAny_mono (h cd h₁ _ F) (fun _ _ x => x) fun _ _ x => x.elim


/-- the same but for tokens -/
def Sm (s₀ s : Shared) : Prop := ∃ tk, s = { s₀ with toks := tk }
theorem Sm.tokOk {s₀ : Shared} : TokOk (Sm s₀) := fun _ tk h => by obtain ⟨_, rfl⟩ := h; exact ⟨tk, rfl⟩
theorem Sm.refl {s₀ : Shared} : Sm s₀ s₀ := ⟨s₀.toks, rfl⟩
end Mine

end

section
open PySem PySem.W PyProof.Rows
set_option maxRecDepth 100000
namespace Mine
/-! the words -/
abbrev alpha : Str := "\"\\ab"
def dig (c : Nat) : Int := if c = 34 then 1 else if c = 92 then 2 else if c = 97 then 3 else if c = 98 then 4 else 0

/-- what _law_written keeps of the program -/
abbrev loopW : List Stmt := match (bodyOf (top 7))[4]? with
  | some (PySem.Stmt.For _ _ b _ _) => b
  | _ => []
abbrev mW (num size rest rank : Int) (text : Str) (t₁ t₂ t₃ t₄ t₅ : Tok) : Str → Option Value :=
  put (put (put (put (put (fun _ => none) "number" (.int num t₁)) "size" (.int size t₂)) "rest" (.int rest t₃)) "rank" (.int rank t₄)) "text" (.str text t₅)

def HasW (size rest rank : Int) (text : Str) (m : Str → Option Value) : Prop :=
  (∃ t, m "size" = some (.int size t)) ∧ (∃ t, m "rest" = some (.int rest t)) ∧ (∃ t, m "rank" = some (.int rank t)) ∧ (∃ t, m "text" = some (.str text t))

/-- one turn -/
def turnW (size place rest rank : Int) (text : Str) : Int × Int × Str :=
  if place < size then
    let sign : Str := Txt.item alpha (rest.fmod 4)
    (rest.fdiv 8, 5 * rank + 1 + rest.fmod 4, if (rest.fdiv 4).fmod 2 == 0 && (sign != "\\" || place == size - 1) then text ++ sign else text ++ "\\" ++ sign)
  else (rest, 5 * rank, text)

theorem r_item_fmod {prog : Program} {w : World} {A : Around} {E : Value → Shared → Prop} {s : Shared} {I : Shared → Prop} {Q : Value → Shared → Prop} {value slice : Expr} {x : Str} {t : Tok} {a b : Int} {u : Tok} (T : TokOk I) (hI : I s) (hb0 : 0 < b) (hb : b ≤ (x.length : Int)) (hx : (x.length : Int) < 9223372036854775808)
    (h : ∀ t s', I s' → (Txt.item x (a.fmod b)).length = 1 → Q (.str (Txt.item x (a.fmod b)) t) s')
    (hs : subscripted slice false (.str x t) (.int (a.fmod b) u) = operate [.str x t, .int (a.fmod b) u] (getItem (.str x t) (.int (a.fmod b) u)) := by with_unfolding_all rfl)
    (ht : ∀ r, letTemporaryGo value (.str x t) r = pure () := by intro _; with_unfolding_all rfl) :
    wpAny (model prog w) A (subscriptTail value slice (.str x t) (.int (a.fmod b) u)) Q E s :=
  item_str_fmod hb0 hb hx (fun hl => h _ _ (T _ _ hI) (by omega)) hs ht
theorem turn_written {w : World} {A : Around} {E : Value → Shared → Prop} {s : Shared} {a : Addr} {L : Addr} {nm : Str} {cd : Value} {size rest rank place : Int} {text : Str} {m : Str → Option Value} {tp : Tok}
    {Q : Flow → Shared → Prop} (hn : s.heap.Ns L (fun y => if y = "place" then some (.int place tp) else m y)) (hm : HasW size rest rank text m) (hl : text.length ≤ 100)
    (c : ∀ s' m', At s L m' s' → HasW size (turnW size place rest rank text).1 (turnW size place rest rank text).2.1 (turnW size place rest rank text).2.2 m' → Q .next s') :
    wpAny (model PySem.Challenge.pw_nb0072_01 w) A (execs loopW (envOf nm (scopeOf (top 7)) L a cd)) Q E s := by
  obtain ⟨⟨t₁, h₁⟩, ⟨t₂, h₂⟩, ⟨t₃, h₃⟩, ⟨t₄, h₄⟩⟩ := hm
  have hA : At s L (put m "place" (.int place tp)) s := At.start hn
  clear hn
  revert hA
  generalize hm0 : put m "place" (.int place tp) = m₀
  intro hA
  have e₁ : m₀ "size" = some (.int size t₁) := by rw [← hm0, put_ne (by decide)]; exact h₁
  have e₂ : m₀ "rest" = some (.int rest t₂) := by rw [← hm0, put_ne (by decide)]; exact h₂
  have e₃ : m₀ "rank" = some (.int rank t₃) := by rw [← hm0, put_ne (by decide)]; exact h₃
  have e₄ : m₀ "text" = some (.str text t₄) := by rw [← hm0, put_ne (by decide)]; exact h₄
  have e₅ : m₀ "place" = some (.int place tp) := by rw [← hm0, put_self]
  refine wpAny_execs_cons ?_
  refine wpAny_Assign_Name ?_
  refine wpAny_BinOp ?_
  refine r_int At.tok hA ?_; clear hA; intro t s₁ hA
  refine r_ld hA.ns e₃ ?_
  refine r_mul At.tok hA (IntMulOk.of_left (by decide)) ?_; clear hA s₁ t; intro t s₁ hA
  refine hA.st ?_; clear hA s₁; intro s₁ hA
  dsimp only
  revert hA
  generalize hm1 : put m₀ "rank" (.int (5 * rank) t) = m₁
  intro hA
  have f₁ : m₁ "size" = some (.int size t₁) := by rw [← hm1, put_ne (by decide)]; exact e₁
  have f₂ : m₁ "rest" = some (.int rest t₂) := by rw [← hm1, put_ne (by decide)]; exact e₂
  have f₃ : m₁ "rank" = some (.int (5 * rank) t) := by rw [← hm1, put_self]
  have f₄ : m₁ "text" = some (.str text t₄) := by rw [← hm1, put_ne (by decide)]; exact e₄
  have f₅ : m₁ "place" = some (.int place tp) := by rw [← hm1, put_ne (by decide)]; exact e₅
  clear hm1 hm0 e₁ e₂ e₃ e₄ e₅ h₁ h₂ h₃ h₄
  refine wpAny_execs_cons ?_
  refine wpAny_If ?_
  refine wpAny_isTrue_Compare1 ?_
  refine r_ld hA.ns f₅ ?_
  refine r_ld hA.ns f₁ ?_
  refine PyProof.Rows.lt_int ?_
  refine wpAny_truthy_bool ?_
  by_cases hlt : place < size
  rotate_left
  · rw [if_neg (by simpa using hlt)]
    refine wpAny_execs_nil ?_
    dsimp only
    refine wpAny_execs_nil ?_
    refine c _ _ hA ?_
    simp only [turnW, if_neg hlt]
    exact ⟨⟨_, f₁⟩, ⟨_, f₂⟩, ⟨_, f₃⟩, ⟨_, f₄⟩⟩
  rw [if_pos (by simpa using hlt)]
  refine wpAny_execs_cons ?_
  refine wpAny_Assign_Name ?_
  refine Subscript_ ?_
  refine r_str At.tok hA ?_; clear hA; intro t' s₂ hA
  refine wpAny_BinOp ?_
  refine r_ld hA.ns f₂ ?_
  refine r_int At.tok hA ?_; clear hA; intro t'' s₂ hA
  refine r_mod At.tok hA (by decide) ?_; clear hA; intro t'' s₂ hA
  refine r_item_fmod At.tok hA (by decide) (by decide) (by decide) ?_; clear hA s₂; intro t₆ s₂ hA hsl
  refine hA.st ?_; clear hA s₁ s₂; intro s₁ hA
  dsimp only
  revert hA hsl
  generalize hsg : Txt.item alpha (rest.fmod 4) = sign
  intro hsl
  generalize hm2 : put m₁ "sign" (.str sign t₆) = m₂
  intro hA
  have g₁ : m₂ "size" = some (.int size t₁) := by rw [← hm2, put_ne (by decide)]; exact f₁
  have g₂ : m₂ "rest" = some (.int rest t₂) := by rw [← hm2, put_ne (by decide)]; exact f₂
  have g₃ : m₂ "rank" = some (.int (5 * rank) t) := by rw [← hm2, put_ne (by decide)]; exact f₃
  have g₄ : m₂ "text" = some (.str text t₄) := by rw [← hm2, put_ne (by decide)]; exact f₄
  have g₅ : m₂ "place" = some (.int place tp) := by rw [← hm2, put_ne (by decide)]; exact f₅
  have g₆ : m₂ "sign" = some (.str sign t₆) := by rw [← hm2, put_self]
  clear hm2 f₁ f₂ f₃ f₄ f₅
  refine wpAny_execs_cons ?_
  refine wpAny_Assign_Name ?_
  refine wpAny_BinOp ?_
  refine wpAny_BinOp ?_
  refine r_ld hA.ns g₃ ?_
  refine r_int At.tok hA ?_; clear hA; intro t' s₂ hA
  refine r_add At.tok hA ?_; clear hA; intro t' s₂ hA
  refine wpAny_BinOp ?_
  refine r_ld hA.ns g₂ ?_
  refine r_int At.tok hA ?_; clear hA; intro t' s₂ hA
  refine r_mod At.tok hA (by decide) ?_; clear hA; intro t' s₂ hA
  refine r_add At.tok hA ?_; clear hA; intro t₃' s₂ hA
  refine hA.st ?_; clear hA s₁; intro s₁ hA
  dsimp only
  revert hA
  generalize hm3 : put m₂ "rank" (.int (5 * rank + 1 + rest.fmod 4) t₃') = m₃
  intro hA
  have e₁ : m₃ "size" = some (.int size t₁) := by rw [← hm3, put_ne (by decide)]; exact g₁
  have e₂ : m₃ "rest" = some (.int rest t₂) := by rw [← hm3, put_ne (by decide)]; exact g₂
  have e₃ : m₃ "rank" = some (.int (5 * rank + 1 + rest.fmod 4) t₃') := by rw [← hm3, put_self]
  have e₄ : m₃ "text" = some (.str text t₄) := by rw [← hm3, put_ne (by decide)]; exact g₄
  have e₅ : m₃ "place" = some (.int place tp) := by rw [← hm3, put_ne (by decide)]; exact g₅
  have e₆ : m₃ "sign" = some (.str sign t₆) := by rw [← hm3, put_ne (by decide)]; exact g₆
  clear hm3 g₁ g₂ g₃ g₄ g₅ g₆
  -- the last statement: rest // 8, from any text
  have fin : ∀ (x : Str) (m₄ : Str → Option Value) (s₁ : Shared), At s L m₄ s₁ → m₄ "size" = some (.int size t₁) → m₄ "rest" = some (.int rest t₂) → (∃ t, m₄ "rank" = some (.int (5 * rank + 1 + rest.fmod 4) t)) → (∃ t, m₄ "text" = some (.str x t)) →
      (turnW size place rest rank text).2.2 = x →
      wpAny (model PySem.Challenge.pw_nb0072_01 w) A (execs (match loopW[1]? with | some (PySem.Stmt.If _ b _ _) => b.drop 3 | _ => []) (envOf nm (scopeOf (top 7)) L a cd)) (fun f s' => match f with
          | .next => wpAny (model PySem.Challenge.pw_nb0072_01 w) A (execs [] (envOf nm (scopeOf (top 7)) L a cd)) Q E s'
          | f => Q f s') E s₁ := by
    intro x m₄ s₁ hA i₁ i₂ i₃ i₄ hx
    refine wpAny_execs_cons ?_
    refine wpAny_Assign_Name ?_
    refine wpAny_BinOp ?_
    refine r_ld hA.ns i₂ ?_
    refine r_int At.tok hA ?_; clear hA; intro t' s₂ hA
    refine r_div At.tok hA (by decide) (by decide) ?_; clear hA; intro t' s₂ hA
    refine hA.st ?_; clear hA; intro s₃ hA
    dsimp only
    refine wpAny_execs_nil ?_
    refine wpAny_execs_nil ?_
    refine c _ _ hA ⟨⟨t₁, ?_⟩, ⟨t', ?_⟩, ?_, ?_⟩
    · rw [put_ne (by decide)]; exact i₁
    · rw [put_self]; simp only [turnW, if_pos hlt]
    · obtain ⟨q, i₃⟩ := i₃
      refine ⟨q, ?_⟩
      rw [put_ne (by decide)]; simp only [turnW, if_pos hlt]; exact i₃
    · obtain ⟨q, i₄⟩ := i₄
      refine ⟨q, ?_⟩
      rw [put_ne (by decide), hx]; exact i₄
  have yes : ∀ s₁, At s L m₃ s₁ → (turnW size place rest rank text).2.2 = text ++ sign → wpAny (model PySem.Challenge.pw_nb0072_01 w) A (execs (match (match loopW[1]? with | some (PySem.Stmt.If _ b _ _) => b[2]? | _ => none) with | some (PySem.Stmt.If _ b _ _) => b | _ => []) (envOf nm (scopeOf (top 7)) L a cd))
      (fun f s' => match f with
          | .next => wpAny (model PySem.Challenge.pw_nb0072_01 w) A (execs (match loopW[1]? with | some (PySem.Stmt.If _ b _ _) => b.drop 3 | _ => []) (envOf nm (scopeOf (top 7)) L a cd)) (fun f s' => match f with
          | .next => wpAny (model PySem.Challenge.pw_nb0072_01 w) A (execs [] (envOf nm (scopeOf (top 7)) L a cd)) Q E s'
          | f => Q f s') E s'
          | f => match f with
          | .next => wpAny (model PySem.Challenge.pw_nb0072_01 w) A (execs [] (envOf nm (scopeOf (top 7)) L a cd)) Q E s'
          | f => Q f s') E s₁ := by
    intro s₁ hA hx
    refine wpAny_execs_cons ?_
    refine wpAny_Assign_Name ?_
    refine wpAny_BinOp ?_
    refine r_ld hA.ns e₄ ?_
    refine r_ld hA.ns e₆ ?_
    refine r_cat At.tok hA (by rw [sizeLine_eq]; omega) ?_; clear hA; intro t' s₂ hA
    refine hA.st ?_; clear hA; intro s₃ hA
    dsimp only
    refine wpAny_execs_nil ?_
    refine fin _ _ _ hA ?_ ?_ ⟨t₃', ?_⟩ ⟨t', ?_⟩ hx
    · rw [put_ne (by decide)]; exact e₁
    · rw [put_ne (by decide)]; exact e₂
    · rw [put_ne (by decide)]; exact e₃
    · rw [put_self]
  have no : ∀ s₁, At s L m₃ s₁ → (turnW size place rest rank text).2.2 = text ++ "\\" ++ sign → wpAny (model PySem.Challenge.pw_nb0072_01 w) A (execs (match (match loopW[1]? with | some (PySem.Stmt.If _ b _ _) => b[2]? | _ => none) with | some (PySem.Stmt.If _ _ b _) => b | _ => []) (envOf nm (scopeOf (top 7)) L a cd))
      (fun f s' => match f with
          | .next => wpAny (model PySem.Challenge.pw_nb0072_01 w) A (execs (match loopW[1]? with | some (PySem.Stmt.If _ b _ _) => b.drop 3 | _ => []) (envOf nm (scopeOf (top 7)) L a cd)) (fun f s' => match f with
          | .next => wpAny (model PySem.Challenge.pw_nb0072_01 w) A (execs [] (envOf nm (scopeOf (top 7)) L a cd)) Q E s'
          | f => Q f s') E s'
          | f => match f with
          | .next => wpAny (model PySem.Challenge.pw_nb0072_01 w) A (execs [] (envOf nm (scopeOf (top 7)) L a cd)) Q E s'
          | f => Q f s') E s₁ := by
    intro s₁ hA hx
    refine wpAny_execs_cons ?_
    refine wpAny_Assign_Name ?_
    refine wpAny_BinOp ?_
    refine wpAny_BinOp ?_
    refine r_ld hA.ns e₄ ?_
    refine r_str At.tok hA ?_; clear hA; intro t' s₂ hA
    refine r_cat At.tok hA (Nat.le_trans (Nat.add_le_add hl (show _ ≤ 1 by decide)) (by rw [sizeLine_eq]; omega)) ?_; clear hA; intro t' s₂ hA
    refine r_ld hA.ns e₆ ?_
    refine r_cat At.tok hA (by rw [Str.length_append, hsl]; exact Nat.le_trans (Nat.add_le_add (Nat.add_le_add hl (show _ ≤ 1 by decide)) (Nat.le_refl _)) (by rw [sizeLine_eq]; omega)) ?_; clear hA; intro t' s₂ hA
    refine hA.st ?_; clear hA; intro s₃ hA
    dsimp only
    refine wpAny_execs_nil ?_
    refine fin _ _ _ hA ?_ ?_ ⟨t₃', ?_⟩ ⟨t', ?_⟩ hx
    · rw [put_ne (by decide)]; exact e₁
    · rw [put_ne (by decide)]; exact e₂
    · rw [put_ne (by decide)]; exact e₃
    · rw [put_self]
  refine wpAny_execs_cons ?_
  refine wpAny_If ?_
  refine wpAny_isTrue_BoolOp ?_
  refine wpAny_allTrue_And_cons ?_
  refine wpAny_isTrue_Compare1 ?_
  refine wpAny_BinOp ?_
  refine wpAny_BinOp ?_
  refine r_ld hA.ns e₂ ?_
  refine r_int At.tok hA ?_; clear hA; intro t' s₂ hA
  refine r_div At.tok hA (by decide) (by decide) ?_; clear hA; intro t' s₂ hA
  refine r_int At.tok hA ?_; clear hA; intro t' s₂ hA
  refine r_mod At.tok hA (by decide) ?_; clear hA; intro t' s₂ hA
  refine r_int At.tok hA ?_; clear hA; intro t' s₂ hA
  refine PyProof.Rows.eq_int ?_
  refine wpAny_truthy_bool ?_
  cases hb : ((rest.fdiv 4).fmod 2 == 0) with
  | false =>
    rw [if_neg (by simp), if_neg (by simp)]
    exact no _ hA (by simp [turnW, hlt, hb, hsg])
  | true =>
    rw [if_pos rfl]
    refine wpAny_allTrue_And_cons ?_
    refine wpAny_isTrue_BoolOp ?_
    refine wpAny_allTrue_Or_cons ?_
    refine wpAny_isTrue_Compare1 ?_
    refine r_ld hA.ns e₆ ?_
    refine r_str At.tok hA ?_; clear hA; intro t' s₂ hA
    refine PyProof.Rows.ne_str ?_
    refine wpAny_truthy_bool ?_
    cases hb2 : (sign != Str.ofString "\\") with
    | true =>
      rw [if_pos rfl, if_pos rfl]
      refine wpAny_allTrue_And_nil ?_
      rw [if_pos rfl]
      exact yes _ hA (by simp [turnW, hlt, hb, hsg, hb2])
    | false =>
      rw [if_neg (by simp)]
      refine wpAny_allTrue_Or_cons ?_
      refine wpAny_isTrue_Compare1 ?_
      refine r_ld hA.ns e₅ ?_
      refine wpAny_BinOp ?_
      refine r_ld hA.ns e₁ ?_
      refine r_int At.tok hA ?_; clear hA; intro t' s₂ hA
      refine r_sub At.tok hA ?_; clear hA; intro t' s₂ hA
      refine PyProof.Rows.eq_int ?_
      refine wpAny_truthy_bool ?_
      cases hb3 : (place == size - 1) with
      | true =>
        rw [if_pos rfl, if_pos rfl]
        refine wpAny_allTrue_And_nil ?_
        rw [if_pos rfl]
        exact yes _ hA (by simp [turnW, hlt, hb, hsg, hb2, hb3])
      | false =>
        rw [if_neg (by simp)]
        refine wpAny_allTrue_Or_nil ?_
        rw [if_neg (by simp), if_neg (by simp)]
        exact no _ hA (by simp [turnW, hlt, hb, hsg, hb2, hb3])

end Mine

end

section
open PySem PySem.W PyProof.Rows
set_option maxRecDepth 100000
namespace Mine
def iterW (size rest : Int) : Nat → Int × Int × Str
  | 0 => (rest, 0, "")
  | i + 1 => turnW size i (iterW size rest i).1 (iterW size rest i).2.1 (iterW size rest i).2.2
/-- what _law_written gives -/
def wr (v : Int) : Int × Str := (iterW (v.fmod 4) (v.fdiv 4) 3).2
theorem turnW_len (size place rest rank : Int) (text : Str) : (turnW size place rest rank text).2.2.length ≤ text.length + 2 := by
  have h1 : (("\\" : Str)).length = 1 := by decide
  unfold turnW
  split
  · dsimp only
    split
    · rw [Str.length_append, len_item]; omega
    · rw [Str.length_append, Str.length_append, len_item, h1]; omega
  · dsimp only; omega
theorem iterW_len (size rest : Int) : ∀ i : Nat, (iterW size rest i).2.2.length ≤ 2 * i
  | 0 => by show (("" : Str)).length ≤ 0; decide
  | i + 1 => by
    have := iterW_len size rest i
    have h2 := turnW_len size i (iterW size rest i).1 (iterW size rest i).2.1 (iterW size rest i).2.2
    show (turnW size i (iterW size rest i).1 (iterW size rest i).2.1 (iterW size rest i).2.2).2.2.length ≤ _
    omega

theorem written_ok {w : World} {A : Around} {s : Shared} {v : Int} {t : Tok} {R : Result → Shared → Prop} (rm : Rm 3 A) (G : Grd s.heap)
    (c : ∀ s' a t u, Stp No s s' → s'.heap.get? a = some { cls := .type "tuple", data := .seq #[.int (wr v).1 t, .str (wr v).2 u] } → R (.ok (.ret (.ref a))) s') :
    codeAny (model PySem.Challenge.pw_nb0072_01 w) A (.call (.ref 44) ⟨[.int v t], []⟩) R s := by
  refine enter rm G.lim G.written (binds := [("number", .int v t)]) (fun _ _ _ => rfl) (locs rfl) (fun cd h₁ tk F => ?_)
  obtain ⟨gm, bm, hg, hb, N⟩ := G.names
  generalize hL : s.heap.objs.size = L at F ⊢
  have hLn : s.heap.get? L = none := by rw [← hL]; exact Heap.get?_none_of_le (Nat.le_refl _)
  have hA : At { s with heap := h₁, toks := tk } L (fun x => [((("number" : Str)), Value.int v t)].reverse.lookup x) { s with heap := h₁, toks := tk } := At.start F.ns
  have hG₁ : ∀ {s'}, At { s with heap := h₁, toks := tk } L (fun x => [((("number" : Str)), Value.int v t)].reverse.lookup x) s' → True := fun _ => trivial
  revert hA
  generalize hs₁ : ({ s with heap := h₁, toks := tk } : Shared) = s₁
  have keep₁ : Stp (Is L) s s₁ := by rw [← hs₁]; exact Stp.heap fun b o _ e => F.keep b o e
  generalize hm0 : (fun x => [((("number" : Str)), Value.int v t)].reverse.lookup x) = m₀
  have e₀ : m₀ "number" = some (.int v t) := by rw [← hm0]; rfl
  clear hm0 hG₁ hs₁ F
  intro hA
  refine wpAny_execs_cons ?_
  refine wpAny_Assign_Name ?_
  refine wpAny_BinOp ?_
  refine r_ld hA.ns e₀ ?_
  refine r_int At.tok hA ?_; clear hA; intro t' s₂ hA
  refine r_mod At.tok hA (by decide) ?_; clear hA; intro t₁ s₂ hA
  refine hA.st ?_; clear hA; intro s₂ hA
  dsimp only
  refine wpAny_execs_cons ?_
  refine wpAny_Assign_Name ?_
  refine wpAny_BinOp ?_
  refine r_ld hA.ns (by rw [put_ne (by decide)]; exact e₀) ?_
  refine r_int At.tok hA ?_; clear hA; intro t' s₂ hA
  refine r_div At.tok hA (by decide) (by decide) ?_; clear hA; intro t₂ s₂ hA
  refine hA.st ?_; clear hA; intro s₂ hA
  dsimp only
  refine wpAny_execs_cons ?_
  refine wpAny_Assign_Name ?_
  refine r_int At.tok hA ?_; clear hA; intro t₃ s₂ hA
  refine hA.st ?_; clear hA; intro s₂ hA
  dsimp only
  refine wpAny_execs_cons ?_
  refine wpAny_Assign_Name ?_
  refine r_str At.tok hA ?_; clear hA; intro t₄ s₂ hA
  refine hA.st ?_; clear hA; intro s₂ hA
  dsimp only
  revert hA
  generalize hm4 : put (put (put (put m₀ "size" (.int (v.fmod 4) t₁)) "rest" (.int (v.fdiv 4) t₂)) "rank" (.int 0 t₃)) "text" (.str "" t₄) = m₄
  intro hA
  have hH : HasW (v.fmod 4) (v.fdiv 4) 0 "" m₄ := by
    rw [← hm4]
    exact ⟨⟨t₁, by rw [put_ne (by decide), put_ne (by decide), put_ne (by decide), put_self]⟩, ⟨t₂, by rw [put_ne (by decide), put_ne (by decide), put_self]⟩, ⟨t₃, by rw [put_ne (by decide), put_self]⟩, ⟨t₄, by rw [put_self]⟩⟩
  clear hm4 e₀
  obtain ⟨⟨h₂, k₂, hs2, hsb⟩, hns⟩ := hA
  have st₂ : Stp (Is L) s s₂ := keep₁.trans (by rw [hs2]; exact Stp.heap fun b o hb e => hsb.extBut b o hb e)
  clear hsb hs2 keep₁
  refine wpAny_execs_cons ?_
  refine wpAny_For ?_
  refine Call_ ?_
  have kp : ∀ b o, s.heap.get? b = some o → s₂.heap.get? b = some o := fun b o e => st₂.keep b o (fun q => by rw [q, hLn] at e; cases e) e
  refine r_blt (hg.keeps kp) N.none.2.1 (hb.keeps kp) N.range ?_
  refine PyProof.Rows.callWith_type1 ?_
  refine args_cons ?_
  refine wpAny_Constant_int ?_
  refine args_nil ?_
  refine call_range_1 ?_
  dsimp only
  refine forRange_locals (Rm.deeper (n := 2) rm).1 rfl rfl (IsRange.new ..) (by decide) (hns.push _) (fun i m => HasW (v.fmod 4) (iterW (v.fmod 4) (v.fdiv 4) i).1 (iterW (v.fmod 4) (v.fdiv 4) i).2.1 (iterW (v.fmod 4) (v.fdiv 4) i).2.2 m) hH ?step ?fin PassesOwn.never
  case step =>
    intro i tk m₁ s₁ hi hJ hn
    refine turn_written (place := 0 + (i : Int) * 1) hn hJ (Nat.le_trans (iterW_len _ _ i) (Nat.le_trans (Nat.mul_le_mul_left 2 (Nat.le_of_lt (show i < 3 from hi))) (by decide))) (fun s' m' hA hW => ?_)
    refine ⟨rfl, hA.1, m', hA.2, ?_⟩
    have e : (0 + (i : Int) * 1) = (i : Int) := by rw [Int.zero_add, Int.mul_one]
    rw [e] at hW
    exact hW
  case fin =>
    intro h' tk m' hn' hJ hk
    dsimp only at hk ⊢
    obtain ⟨_, _, ⟨tr, hr⟩, ⟨tx, hx⟩⟩ := hJ
    refine wpAny_execs_cons ?_
    refine wpAny_Return_some ?_
    refine wpAny_Tuple ?_
    refine args_cons ?_
    refine r_ld hn' hr ?_
    refine args_cons ?_
    refine r_ld hn' hx ?_
    refine args_nil ?_
    refine ⟨sl2, ?_⟩
    dsimp only
    refine c _ _ tr tx ?_ (Heap.get?_push_size _ rfl)
    refine (st₂.trans (Stp.heap (X := Is L) fun b o hb e => ?_)).fresh fun b hb => by rw [hb]; exact hLn
    exact Heap.get?_push_of_some _ (hk b o hb (Heap.get?_push_of_some _ e))
end Mine

end

section
open PySem PySem.W PySem.W.X PyProof.Rows
set_option maxRecDepth 100000
namespace Mine
/-! rules for a generator's run up to its next yield -/
section
variable {M : Model} {A : Around} {P : End → Shared → Prop} {c : Code} {fs : List Frame} {s : Shared} {env : Env} {K : Flow → Sem PySem.Fin} {H : Value → Sem PySem.Fin} {gd : Bool → Bool} {lv : List Value → List Value}

theorem sx_wrap {α : Type} {m : Sem α} {K : α → Sem PySem.Fin} {H : Value → Sem PySem.Fin}
    (h : wpAny M (A.over c fs) m (fun a s' => SegX M A c (K a) fs s' P) (fun _ _ => False) s) : SegX M A c (m.wrap K H gd lv) fs s P := by
  rintro Γ p rfl hΓ
  obtain ⟨e, s', hr, hq⟩ := runs_wrap_of_wp (Φ := fun e s' => e.quiet = true ∧ P e s') K H gd lv m (h (Γ.over fs) p (hΓ.over fs)) (fun a p' s' h' => h' Γ p' rfl hΓ) (fun x p' s' h' => h'.elim)
  exact ⟨e, s', hr, hq⟩
theorem sx_at {pos : Pos} {k : Unit → Sem PySem.Fin} (h : SegX M A c (k ()) fs s P) : SegX M A c (.at pos k) fs s P :=
  sx_wrap (m := standAt pos) (K := k) (H := .raise) (gd := id) (lv := id) (wpAny_standAt h)
theorem sx_point {l : List Value} {k : Unit → Sem PySem.Fin} (h : SegX M A c (k ()) fs s P) : SegX M A c (.point l k) fs s P :=
  sx_wrap (m := point) (K := k) (H := .raise) (gd := id) (lv := fun _ => l) (wpAny_point h)
theorem sx_call {c' : Code} {hd : Option Value} {g : Bool} {l : List Value} {k : Result → Sem PySem.Fin} (x : ∀ p, SegX M A c' (M.den c') (.ret k hd g l c p [] :: fs) s P) : SegX M A c (.call c' hd g l k) fs s P := by
  rintro Γ p rfl hΓ
  obtain ⟨e, s', hr, hq⟩ := x p (Γ.goto c') p rfl (hΓ.goto c')
  exact ⟨e, s', runs_call_seg hr, hq⟩
theorem sx_again {c' : Code} (hq : c'.quiet = true) (x : SegX M A c' (M.den c') fs s P) : SegX M A c (.pure (.again c')) fs s P := by
  rintro Γ p rfl hΓ
  obtain ⟨e, s', hr, hq'⟩ := x (Γ.goto c') p rfl (hΓ.goto c')
  exact ⟨e, s', Runs.head (c₁ := c') (fun _ _ y => .again hq y) hr, hq'⟩
theorem sx_pop {k : Result → Sem PySem.Fin} {hd : Option Value} {g : Bool} {l : List Value} {c₁ : Code} {p₁ : Pos} {kp : List Value} (r : Result) (x : SegX M A c₁ (k r) fs s P) : SegX M A c (leafOf r) (.ret k hd g l c₁ p₁ kp :: fs) s P := by
  rintro Γ p rfl hΓ
  obtain ⟨e, s', hr, hq⟩ := x (Γ.goto c₁) p₁ rfl (hΓ.goto c₁)
  exact ⟨e, s', Runs.pop r hr, hq⟩
theorem sx_end (r : Result) (x : P (.ret r) s) : SegX M A c (leafOf r) [] s P := by
  rintro Γ p rfl _
  exact ⟨.ret r, s, Runs.leaf r, rfl, x⟩
theorem sx_yield {v : Value} {l : List Value} {k : Resume → Sem PySem.Fin} (hfs : splitAtGen fs = none) (hfg : fs.any Frame.guarded = false) (x : ∀ p, P (.susp v false l k c p fs) s) : SegX M A c (.yield v false l k) fs s P := by
  rintro Γ p rfl _
  exact ⟨_, s, Runs.yield' fs hfs, by simp [End.quiet, hfg], x p⟩

theorem sx_execs_nil (h : SegX M A c (K .next) fs s P) : SegX M A c ((execs [] env).wrap K H gd lv) fs s P := h
theorem sx_execs_cons {st : Stmt} {rest : List Stmt}
    (h : SegX M A c ((exec st env).wrap (fun f => match f with | .next => (execs rest env).wrap K H gd lv | f => K f) H gd lv) fs s P) :
    SegX M A c ((execs (st :: rest) env).wrap K H gd lv) fs s P := by rw [execs_cons_wrap]; exact h
theorem sx_stmt {st : Stmt} (h : wpAny M (A.over c fs) (exec st env) (fun f s' => SegX M A c (K f) fs s' P) (fun _ _ => False) s) : SegX M A c ((exec st env).wrap K H gd lv) fs s P := sx_wrap h
theorem sx_If {test : Expr} {body orelse : List Stmt} {pos : Pos}
    (h : wpAny M (A.over c fs) (isTrue test env (eval test env)) (fun b s' => if b = true then SegX M A c ((execs body env).wrap K H gd lv) fs s' P else SegX M A c ((execs orelse env).wrap K H gd lv) fs s' P) (fun _ _ => False) s) :
    SegX M A c ((exec (.If test body orelse pos) env).wrap K H gd lv) fs s P := by
  rw [exec_If, Sem.bind_eq_wrap', Sem.wrap_wrap]
  refine sx_wrap (wpAny_standAt ?_)
  (try dsimp only)
  rw [Sem.bind_eq_wrap', Sem.wrap_wrap]
  refine sx_wrap (wpAny_mono h (fun b s' hb => ?_) fun _ _ x => x)
  cases b with
  | true => exact hb
  | false => exact hb

theorem sx_Yield {e : Expr} {ypos pos : Pos} (hfs : splitAtGen fs = none) (hgd : gd false = false) (hfg : fs.any Frame.guarded = false)
    (h : wpAny M (A.over c fs) (eval e env) (fun v s' => ∀ l k p, (∀ s'', SegX M A c (K .next) fs s'' P → SegX M A c (k (.send .none)) fs s'' P) →
        (∀ P' s'', SegX M A c (K .next) fs s'' P' → SegX M A c (k (.send .none)) fs s'' P') → P (.susp v false l k c p fs) s') (fun _ _ => False) s)
    (hco : env.scope.isCoroutine = false := by rfl) (hi : interactive env = false := by rfl) :
    SegX M A c ((exec (.Expr (.Yield (some e) ypos) pos) env).wrap K H gd lv) fs s P := by
  rw [exec_Expr env _ pos hi rfl]
  show SegX M A c (.at pos fun _ => ((eval e env >>= fun v => (standAt ypos >>= fun _ => yieldOut env v)) >>= fun x =>
    dropValue (.Yield (some e) ypos) pos x).wrap K H gd lv) fs s P
  have hy : ∀ v, yieldOut env v = yieldValue v := fun v => by simp only [yieldOut, hco, Bool.false_eq_true, if_false]
  simp only [hy]
  refine sx_at ?_
  rw [Sem.bind_eq_wrap', Sem.bind_eq_wrap', Sem.wrap_wrap, Sem.wrap_wrap]
  refine sx_wrap (wpAny_mono h (fun v s' h' => ?_) fun _ _ x => x)
  refine sx_at ?_
  show SegX M A c (.yield v (gd false) _ _) fs s' P
  rw [hgd]
  exact sx_yield hfs hfg fun p => h' _ _ p (fun s'' hx => hx) (fun P' s'' hx => hx)

theorem sx_For {target iter : Expr} {body orelse : List Stmt} {pos : Pos}
    (h : wpAny M (A.over c fs) (eval iter env) (fun x s₁ => wpAny M (A.over c fs) (pyIter x) (fun it s₂ => ∀ p k, (∀ f, k (.ok f) = K f) →
      SegX M A (.forLoop target it body orelse env) (M.den (.forLoop target it body orelse env)) (.ret k none (gd false) (lv []) c p [] :: fs) s₂ P) (fun _ _ => False) s₁) (fun _ _ => False) s)
    (hs : ∀ x, foldedSetIterable iter env x = pure x := by intro _; rfl) :
    SegX M A c ((exec (.For target iter body orelse pos) env).wrap K H gd lv) fs s P := by
  rw [exec_For, Sem.bind_eq_wrap', Sem.wrap_wrap]
  refine sx_wrap (wpAny_standAt ?_)
  rw [Sem.bind_eq_wrap', Sem.wrap_wrap]
  refine sx_wrap (wpAny_mono h (fun x s₁ h₁ => ?_) fun _ _ x => x)
  (try dsimp only)
  rw [hs x, Sem.bind_eq_wrap', Sem.wrap_wrap]
  refine sx_wrap (wpAny_pure ?_)
  rw [Sem.bind_eq_wrap', Sem.wrap_wrap]
  refine sx_wrap (wpAny_standAt ?_)
  (try dsimp only)
  rw [Sem.bind_eq_wrap', Sem.wrap_wrap]
  refine sx_wrap (wpAny_holding (wpAny_mono h₁ (fun it s₂ h₂ => ?_) fun _ _ x => x))
  show SegX M A c (.call (.forLoop target it body orelse env) none (gd false) (lv []) _) fs s₂ P
  refine sx_call fun p => h₂ p _ fun f => ?_
  rfl

theorem sx_func {prog : Program} {w : World} {body : List Stmt}
    (h : SegX (model prog w) A (.func body env) ((execs body env).wrap (fun f => .pure (.done (.ret (match f with | .ret v => v | _ => .none))))
      (fun e => (leaving env e).wrap (fun _ => .raise e) .raise id id) id id) fs s P) :
    SegX (model prog w) A (.func body env) ((model prog w).den (.func body env)) fs s P := by
  show SegX _ A _ (.point [] fun _ => ((execs body env).onRaise (leaving env)) >>= _) fs s P
  refine sx_point ?_
  rw [Sem.onRaise_eq_wrap, Sem.bind_eq_wrap', Sem.wrap_wrap]
  rw [Sem.wrap_congr (execs body env) _ _ (K' := fun f => .pure (.done (.ret (match f with | .ret v => v | _ => .none))))
    (H' := fun e => (leaving env e).wrap (fun _ => .raise e) .raise id id) (fun f => by cases f <;> rfl)
    (fun e => by rw [Sem.bind_eq_wrap, Sem.wrap_wrap]; rfl)]
  exact h

theorem sx_forLoop {prog : Program} {w : World} {target : Expr} {it : Value} {body orelse : List Stmt}
    (h : wpAny (model prog w) (A.over (.forLoop target it body orelse env) fs) (pyNext it) (fun r s₁ => match r with
      | none => SegX (model prog w) A (.block orelse env) ((model prog w).den (.block orelse env)) fs s₁ P
      | some v => wpAny (model prog w) (A.over (.forLoop target it body orelse env) fs) (letOwnedTupleGo target it v) (fun _ s₁' =>
          wpAny (model prog w) (A.over (.forLoop target it body orelse env) fs) (assign target env v) (fun _ s₂ => ∀ H,
            SegX (model prog w) A (.forLoop target it body orelse env) ((execs body env).wrap (fun f => match f with
              | .next | .cont => .pure (.again (.forLoop target it body orelse env))
              | .brk => .pure (.done .next)
              | .ret v => .pure (.done (.ret v))) H id id) fs s₂ P) (fun _ _ => False) s₁') (fun _ _ => False) s₁) (fun _ _ => False) s) :
    SegX (model prog w) A (.forLoop target it body orelse env) ((model prog w).den (.forLoop target it body orelse env)) fs s P := by
  show SegX _ A _ ((forTurn target it body orelse env).onRaise (fun x => do noteFrame x env; theTreesLotGoes x)) fs s P
  unfold forTurn
  rw [Sem.onRaise_eq_wrap, Sem.bind_eq_wrap', Sem.wrap_wrap]
  refine sx_wrap (wpAny_standAt ?_)
  (try dsimp only)
  rw [Sem.bind_eq_wrap', Sem.wrap_wrap]
  refine sx_wrap (wpAny_onRaise (wpAny_mono h (fun r s₁ h₁ => ?_) fun _ _ x => x.elim))
  cases r with
  | none => exact sx_again rfl h₁
  | some v =>
    (try dsimp only)
    rw [Sem.bind_eq_wrap', Sem.wrap_wrap]
    refine sx_wrap (wpAny_mono h₁ (fun _ s₁' h₁' => ?_) fun _ _ x => x)
    (try dsimp only)
    rw [Sem.bind_eq_wrap', Sem.wrap_wrap]
    refine sx_wrap (wpAny_mono h₁' (fun _ s₂ h₂ => ?_) fun _ _ x => x)
    (try dsimp only)
    rw [Sem.bind_eq_wrap', Sem.wrap_wrap]
    rw [Sem.wrap_congr (execs body env) _ _ (K' := fun f => match f with
              | .next | .cont => .pure (.again (.forLoop target it body orelse env))
              | .brk => .pure (.done .next)
              | .ret v => .pure (.done (.ret v))) (H' := _) (fun f => by cases f <;> rfl) (fun e => rfl)]
    exact h₂ _
theorem sx_block_nil {prog : Program} {w : World} (h : SegX (model prog w) A (.block [] env) (leafOf (.ok .next)) fs s P) : SegX (model prog w) A (.block [] env) ((model prog w).den (.block [] env)) fs s P := h
end

theorem r_unpack2 {prog : Program} {w : World} {A : Around} {E : Value → Shared → Prop} {s : Shared} {env : Env} {xi xv : Str} {pi pv pos : Pos} {k : Nat} {T : Addr} {v₁ v₂ : Value} {m : Str → Option Value} {Q : Unit → Shared → Prop}
    (hh : A.handled = none) (ht : s.heap.IsTuple T #[v₁, v₂]) (hn : s.heap.Ns env.locals m)
    (c : ∀ s', Stp (Is env.locals) s s' → s'.gens = s.gens → s'.heap.Ns env.locals (put (put m xi v₁) xv v₂) → Q () s')
    (hxi : env.kindOf xi = some .local := by rfl) (hxv : env.kindOf xv = some .local := by rfl) (hp : (env.scope.kind == .class || (env.scope.kind == .module && env.locals != env.globals)) = false := by rfl) :
    wpAny (model prog w) A (assign (.Tuple [.Name xi pi, .Name xv pv] k pos) env (.ref T)) Q E s := by
  refine wpAny_assign_Tuple hh ht rfl rfl fun h₃ hx₃ => ?_
  have keep : ∀ b o, s.heap.get? b = some o → h₃.get? b = some o := fun b o e => hx₃ b o (Nat.ne_of_lt (Heap.lt_size e)) e
  show wpAny _ A (do holding [v₂] (assign (.Name xi pi) env v₁); do holding [] (assign (.Name xv pv) env v₂); pure ()) _ _ _
  refine wpAny_bind (wpAny_holding (wpAny_assign_Name (wpAny_storeName_local hxi (hn.keeps keep) (fun h₄ hn₄ hs₄ => ?_) hp)))
  refine wpAny_bind (wpAny_holding (wpAny_assign_Name (wpAny_storeName_local hxv hn₄ (fun h₅ hn₅ hs₅ => wpAny_pure ?_) hp)))
  exact c _ (Stp.heap fun b o hb e => hs₅.extBut b o hb (hs₄.extBut b o hb (keep b o e))) rfl hn₅
end Mine

end

section
open PySem PySem.W PySem.W.X PyProof.Rows
set_option maxRecDepth 100000
namespace Mine
abbrev GM (w : World) : Model := model PySem.Challenge.pw_nb0072_01 w
abbrev chr (c : Nat) : Str := ⟨#[c]⟩
def units : Bool → List Nat → List Str
  | false, [] => []
  | true, [] => ["\\"]
  | true, c :: r => (("\\" : Str) ++ chr c) :: units false r
  | false, c :: r => if c = 92 then units true r else chr c :: units false r

def KeepG (N L : Nat) (s s' : Shared) : Prop := (∀ b o, b < N → b ≠ L → s.heap.get? b = some o → s'.heap.get? b = some o) ∧ s'.os = s.os ∧ s'.gens = s.gens
theorem KeepG.refl {N L : Nat} {s : Shared} : KeepG N L s s := ⟨fun _ _ _ _ e => e, rfl, rfl⟩
theorem KeepG.trans {N L : Nat} {s s' s'' : Shared} (a : KeepG N L s s') (b : KeepG N L s' s'') : KeepG N L s s'' :=
  ⟨fun x o h1 h2 e => b.1 x o h1 h2 (a.1 x o h1 h2 e), b.2.1.trans a.2.1, b.2.2.trans a.2.2⟩
theorem KeepG.tok {N L : Nat} {s s' : Shared} {tk : Nat} (a : KeepG N L s s') : KeepG N L s { s' with toks := tk } := a
theorem KeepG.heap {N L : Nat} {s : Shared} {h : Heap} {tk : Nat} (hk : ∀ b o, b < N → b ≠ L → s.heap.get? b = some o → h.get? b = some o) : KeepG N L s { s with heap := h, toks := tk } := ⟨hk, rfl, rfl⟩
def KeepX (X : Addr → Prop) (s s' : Shared) : Prop := ∀ b o, ¬ X b → s.heap.get? b = some o → s'.heap.get? b = some o
def TupIs (h : Heap) (v : Value) (u : Str) : Prop := ∃ a n t t', v = .ref a ∧ h.IsTuple a #[.int n t, .str u t']

/-- a generator that will tell these units, one a wake, and end -/
def PostG (w : World) (A : Around) (N L : Nat) (X : Addr → Prop) : List Str → Shared → End → Shared → Prop
  | [], s₀, e, s' => KeepG N L s₀ s' ∧ e = .ret (.ok (.ret .none))
  | u :: us, s₀, e, s' => KeepG N L s₀ s' ∧ ∃ v l k c p fs, e = .susp v false l k c p fs ∧ TupIs s'.heap v u ∧
      ∀ s'', KeepX X s' s'' → SegX (GM w) A c (k (.send .none)) fs s'' (PostG w A N L X us s'')

theorem draws_str {prog : Program} {w : World} {A : Around} (hh : A.handled = none) (it : Addr) (x : Str) (t : Tok) :
    Draws prog w A it [it] x.cps.size (fun i v => ∃ c u, x.cps[i]? = some c ∧ v = .str ⟨#[c]⟩ u) (fun i h => h.IsStrIter it (strIterType x) x t i) := by
  unfold strIterType
  split
  · exact Draws.strAscii hh it x t
  · exact Draws.strWide hh it x t

/-! the loop -/
abbrev bodyI : List Stmt := bodyOf (top 5)
abbrev envI (L : Addr) (cd : Value) : Env := envOf "_iter_escaped_chars" (scopeOf (top 5)) L 37 cd
abbrev forI : Expr × List Stmt := match bodyI[2]? with
  | some (PySem.Stmt.For t _ b _ _) => (t, b)
  | _ => (default, [])
abbrev loopI (L : Addr) (cd : Value) (e : Addr) : Code := .forLoop forI.1 (.ref e) forI.2 [] (envI L cd)

structure GSt (N L e it : Nat) (x : Str) (t : Tok) (k : Nat) (esc : Bool) (s : Shared) : Prop where
  ns : ∃ m, s.heap.Ns L m ∧ m "escape" = some (.bool esc) ∧ ∃ n t, m "pos" = some (.int n t)
  enum : ∃ old, IsEnum s.heap e it k old
  iter : s.heap.IsStrIter it (strIterType x) x t k
  pl : N ≤ e ∧ N ≤ it ∧ e ≠ it ∧ L < N
theorem GSt.keep {N L e it : Nat} {x : Str} {t : Tok} {k : Nat} {esc : Bool} {s s' : Shared} {X : Addr → Prop} (g : GSt N L e it x t k esc s) (hX : ∀ b, X b → b < N ∧ b ≠ L) (hk : KeepX X s s') : GSt N L e it x t k esc s' := by
  obtain ⟨⟨m, hn, hm⟩, ⟨old, he⟩, hi, pl⟩ := g
  refine ⟨⟨m, hn.at' fun o q => hk _ o (fun h => (hX _ h).2 rfl) q, hm⟩, ⟨old, hk _ _ (fun h => absurd (hX _ h).1 (Nat.not_lt.mpr pl.1)) he⟩, ?_, pl⟩
  obtain ⟨o, ho, r⟩ := hi
  exact ⟨o, hk _ _ (fun h => absurd (hX _ h).1 (Nat.not_lt.mpr pl.2.1)) ho, r⟩

theorem over_loop {A : Around} {L : Addr} {cd : Value} {e : Addr} {k : Result → Sem PySem.Fin} {g : Bool} {l : List Value} {c : Code} {p : Pos} (h : A.handled = none) : (A.over (loopI L cd e) [.ret k none g l c p []]).handled = none := by
  show (marksOver [.ret k none g l c p []] (A.handled, A.handled)).1 = none
  rw [h]; rfl

theorem walkE {w : World} {A : Around} (hA : A.handled = none) (e it : Addr) (hne : e ≠ it) (x : Str) (t : Tok) :
    WalksT PySem.Challenge.pw_nb0072_01 w A e [e, it] [e, it] x.cps.size (fun i vals => ∃ t y, (∃ c u, x.cps[i]? = some c ∧ y = .str ⟨#[c]⟩ u) ∧ vals = #[.int i t, y])
      (fun i h => (∃ old, IsEnum h e it i old) ∧ h.IsStrIter it (strIterType x) x t i)
      (fun i T h => (∃ y, IsEnumOut h e it ((i : Int) + 1) y T) ∧ h.IsStrIter it (strIterType x) x t (i + 1) ∧ T ≠ e ∧ T ≠ it) :=
  WalksT.enumerateD (D := draws_str (A := A.in1) hA it x t) e hne (by simpa using hne) (by simp)

theorem loop_ready {w : World} {A : Around} {N L e it : Nat} {X : Addr → Prop} {x : Str} {t : Tok} {cd : Value} {p : Pos} {k₀ : Result → Sem PySem.Fin} {cF : Code} (hA : A.handled = none) (hX : ∀ b, X b → b < N ∧ b ≠ L)
    (Hend : ∀ esc s s₀, KeepG N L s₀ s → (∃ m, s.heap.Ns L m ∧ m "escape" = some (.bool esc) ∧ ∃ n t, m "pos" = some (.int n t)) → SegX (GM w) A cF (k₀ (.ok .next)) [] s (PostG w A N L X (units esc []) s₀)) :
    ∀ (cs : List Nat) (k : Nat) (esc : Bool) (s s₀ : Shared), x.cps.toList.drop k = cs → k ≤ x.cps.size → GSt N L e it x t k esc s → KeepG N L s₀ s →
      SegX (GM w) A (loopI L cd e) ((GM w).den (loopI L cd e)) [.ret k₀ none false [] cF p []] s (PostG w A N L X (units esc cs) s₀) := by
  intro cs
  induction cs with
  | nil =>
    intro k esc s s₀ hcs hle g hk
    refine sx_forLoop ?_
    have hA' := over_loop (A := A) (L := L) (cd := cd) (e := e) (k := k₀) (g := false) (l := []) (c := cF) (p := p) hA
    have W := walkE (w := w) hA' e it g.pl.2.2.1 x t
    have hkn : k = x.cps.size := by
      have h1 := congrArg List.length hcs
      rw [List.length_drop, Array.length_toList, List.length_nil] at h1
      omega
    refine W.done s _ _ ⟨hkn ▸ g.enum, hkn ▸ g.iter⟩ fun h' tk hkeep => ?_
    dsimp only
    refine sx_block_nil (sx_pop _ ?_)
    have off : ∀ b, b < N → b ∉ [e, it] := fun b hb hm => by
      have h1 := g.pl.1
      have h2 := g.pl.2.1
      simp only [List.mem_cons, List.not_mem_nil, or_false] at hm
      omega
    refine Hend esc _ s₀ (hk.trans (KeepG.heap fun b o hb _ q => hkeep b o (off b hb) q)) ?_
    obtain ⟨m, hn, hm⟩ := g.ns
    exact ⟨m, hn.at' fun o q => hkeep _ o (off _ g.pl.2.2.2) q, hm⟩
  | cons c cs ih =>
    intro k esc s s₀ hcs hle g hk
    have hlt : k < x.cps.size := by
      have h1 := congrArg List.length hcs
      rw [List.length_drop, Array.length_toList, List.length_cons] at h1
      omega
    have hck : x.cps[k]? = some c := by
      have h1 : (x.cps.toList.drop k)[0]? = some c := by rw [hcs]; rfl
      rw [List.getElem?_drop] at h1
      simpa using h1
    have hcs' : x.cps.toList.drop (k + 1) = cs := by
      rw [← List.drop_drop, hcs]; rfl
    refine sx_forLoop ?_
    have hA' := over_loop (A := A) (L := L) (cd := cd) (e := e) (k := k₀) (g := false) (l := []) (c := cF) (p := p) hA
    have W := walkE (w := w) hA' e it g.pl.2.2.1 x t
    have off : ∀ b, b < N → b ∉ [e, it] := fun b hb hm => by
      have h1 := g.pl.1
      have h2 := g.pl.2.1
      simp only [List.mem_cons, List.not_mem_nil, or_false] at hm
      omega
    obtain ⟨m, hn, hesc, hpos⟩ := g.ns
    refine W.item k s _ _ hlt ⟨g.enum, g.iter⟩ fun T vals h₁ tk hP hsz hT hMid hkeep => ?_
    obtain ⟨tp, y, ⟨c', u, hc', rfl⟩, rfl⟩ := hP
    rw [hck] at hc'
    cases hc'
    dsimp only
    refine W.go _ _ _ k T _ _ _ hMid fun h₂ hst₂ hkeep₂ => ?_
    have hTo : T ∉ [e, it] := W.apart k T h₁ hMid
    have hn₂ : h₂.Ns L m := (hn.at' fun o q => hkeep _ o (off _ g.pl.2.2.2) q).at' fun o q => hkeep₂ _ o (off _ g.pl.2.2.2) q
    have hT₂ : h₂.IsTuple T #[.int k tp, .str ⟨#[c]⟩ u] := by
      obtain ⟨o, ho, r⟩ := hT
      exact ⟨o, hkeep₂ _ o hTo ho, r⟩
    refine r_unpack2 (m := m) hA' hT₂ hn₂ (fun s₂ st₂ hg₂ hn₃ => ?_)
    intro H
    have hk₂ : KeepG N L s₀ s₂ := by
      refine hk.trans ⟨fun b o hb hbL q => st₂.keep b o hbL (hkeep₂ b o (off b hb) (hkeep b o (off b hb) q)), st₂.os, hg₂⟩
    have hneL : e ≠ L := by have h1 := g.pl.1; have h2 := g.pl.2.2.2; omega
    have hniL : it ≠ L := by have h1 := g.pl.2.1; have h2 := g.pl.2.2.2; omega
    have henum : ∃ old, IsEnum s₂.heap e it ((k + 1 : Nat) : Int) old := by
      obtain ⟨⟨old, he⟩, _⟩ := hst₂
      exact ⟨old, st₂.keep _ _ hneL he⟩
    have hiter : s₂.heap.IsStrIter it (strIterType x) x t (k + 1) := by
      obtain ⟨_, o, ho, r⟩ := hst₂
      exact ⟨o, st₂.keep _ _ hniL ho, r⟩
    have hpl := g.pl
    revert hn₃
    generalize hm2 : put (put m "pos" (.int (k : Int) tp)) "ch" (.str ⟨#[c]⟩ u) = m₂
    intro hn₃
    have e₁ : m₂ "pos" = some (.int k tp) := by rw [← hm2, put_ne (by decide), put_self]
    have e₂ : m₂ "ch" = some (.str ⟨#[c]⟩ u) := by rw [← hm2, put_self]
    have e₃ : m₂ "escape" = some (.bool esc) := by rw [← hm2, put_ne (by decide), put_ne (by decide)]; exact hesc
    clear hm2 hst₂ hkeep hkeep₂ hT hT₂ hMid hn₂ hn hg₂ hTo hsz
    refine sx_execs_cons ?_
    refine sx_If ?_
    refine wpAny_isTrue_value ?_
    refine r_ld hn₃ e₃ ?_
    refine wpAny_truthy_bool ?_
    -- the turn's end: the loop again
    have back : ∀ esc' (s' s₀' : Shared), KeepG N L s₀' s' → (∃ m, s'.heap.Ns L m ∧ m "escape" = some (.bool esc') ∧ ∃ n t, m "pos" = some (.int n t)) → (∃ old, IsEnum s'.heap e it ((k + 1 : Nat) : Int) old) → s'.heap.IsStrIter it (strIterType x) x t (k + 1) →
        SegX (GM w) A (loopI L cd e) (.pure (.again (loopI L cd e))) [.ret k₀ none false [] cF p []] s' (PostG w A N L X (units esc' cs) s₀') :=
      fun esc' s' s₀' hk' hns he hi => sx_again rfl (ih (k + 1) esc' s' s₀' hcs' hlt ⟨hns, he, hi, hpl⟩ hk')
    have g₂ : GSt N L e it x t (k + 1) esc s₂ := ⟨⟨m₂, hn₃, e₃, _, _, e₁⟩, henum, hiter, hpl⟩
    cases esc with
    | true =>
      rw [if_pos rfl]
      refine sx_execs_cons ?_
      refine sx_Yield rfl rfl rfl ?_
      refine wpAny_Tuple ?_
      refine args_cons ?_
      refine r_ld hn₃ e₁ ?_
      refine args_cons ?_
      refine wpAny_BinOp ?_
      refine r_str Sm.tokOk Sm.refl ?_; rintro t₁ _ ⟨tk₁, rfl⟩
      refine r_ld hn₃ e₂ ?_
      refine r_cat (I := Sm s₂) Sm.tokOk ⟨_, rfl⟩ sl2 ?_; rintro t₂ _ ⟨tk₂, rfl⟩
      refine args_nil ?_
      refine ⟨sl2, ?_⟩
      intro l kk pp _ hcont
      refine ⟨hk₂.trans (KeepG.heap fun b o _ _ q => Heap.get?_push_of_some _ q), _, l, kk, _, pp, _, rfl, ⟨_, _, _, _, rfl, _, Heap.get?_push_size _ rfl, rfl, _, rfl⟩, fun s'' hx => hcont _ s'' ?_⟩
      have g₃ : GSt N L e it x t (k + 1) true s'' := GSt.keep (GSt.keep (X := No) g₂ (fun _ h => h.elim) fun b o _ q => Heap.get?_push_of_some _ q) hX hx
      obtain ⟨m₃, hn₄, _, q₁, q₂, e₄⟩ := g₃.ns
      show SegX _ _ _ ((execs _ _).wrap _ _ _ _) _ _ _
      refine sx_execs_cons ?_
      refine sx_stmt ?_
      refine wpAny_Assign_Name ?_
      refine wpAny_Constant_bool ?_
      refine wpAny_storeName_local rfl hn₄ (fun h₅ hn₅ hs₅ => ?_) rfl
      show SegX _ _ _ ((execs [] _).wrap _ _ _ _) _ _ _
      refine sx_execs_nil ?_
      show SegX _ _ _ ((execs [] _).wrap _ _ _ _) _ _ _
      refine sx_execs_nil ?_
      refine back false _ s'' (KeepG.heap fun b o _ hb q => hs₅.extBut b o hb q) ⟨_, hn₅, by simp, q₁, q₂, (put_ne (m := m₃) (by decide)).trans e₄⟩ ?_ ?_
      · obtain ⟨old, he⟩ := g₃.enum
        exact ⟨old, hs₅.extBut _ _ hneL he⟩
      · obtain ⟨o, ho, r⟩ := g₃.iter
        exact ⟨o, hs₅.extBut _ _ hniL ho, r⟩
    | false =>
      rw [if_neg (by simp)]
      refine sx_execs_cons ?_
      refine sx_If ?_
      refine wpAny_isTrue_Compare1 ?_
      refine r_ld hn₃ e₂ ?_
      refine r_str Sm.tokOk Sm.refl ?_; rintro t₁ _ ⟨tk₁, rfl⟩
      refine PyProof.Rows.eq_str ?_
      refine wpAny_truthy_bool ?_
      by_cases hc : c = 92
      · subst hc
        rw [if_pos (by decide)]
        refine sx_execs_cons ?_
        refine sx_stmt ?_
        refine wpAny_Assign_Name ?_
        refine wpAny_Constant_bool ?_
        refine wpAny_storeName_local rfl hn₃ (fun h₅ hn₅ hs₅ => ?_) rfl
        show SegX _ _ _ ((execs [] _).wrap _ _ _ _) _ _ _
        refine sx_execs_nil ?_
        show SegX _ _ _ ((execs [] _).wrap _ _ _ _) _ _ _
        refine sx_execs_nil ?_
        show SegX _ _ _ ((execs [] _).wrap _ _ _ _) _ _ _
        refine sx_execs_nil ?_
        refine back true _ s₀ (hk₂.trans (KeepG.heap fun b o _ hb q => hs₅.extBut b o hb q)) ⟨_, hn₅, by simp, _, _, (put_ne (m := m₂) (by decide)).trans e₁⟩ ?_ ?_
        · obtain ⟨old, he⟩ := henum
          exact ⟨old, hs₅.extBut _ _ hneL he⟩
        · obtain ⟨o, ho, r⟩ := hiter
          exact ⟨o, hs₅.extBut _ _ hniL ho, r⟩
      · rw [if_neg (by rw [show Str.ofString "\\" = ⟨#[92]⟩ from by decide +kernel]; simpa using hc)]
        have hu : units false (c :: cs) = chr c :: units false cs := by simp [units, hc]
        rw [hu]
        refine sx_execs_cons ?_
        refine sx_Yield rfl rfl rfl ?_
        refine wpAny_Tuple ?_
        refine args_cons ?_
        refine r_ld hn₃ e₁ ?_
        refine args_cons ?_
        refine r_ld hn₃ e₂ ?_
        refine args_nil ?_
        refine ⟨sl2, ?_⟩
        intro l kk pp _ hcont
        refine ⟨hk₂.trans (KeepG.heap fun b o _ _ q => Heap.get?_push_of_some _ q), _, l, kk, _, pp, _, rfl, ⟨_, _, _, _, rfl, _, Heap.get?_push_size _ rfl, rfl, _, rfl⟩, fun s'' hx => hcont _ s'' ?_⟩
        have g₃ : GSt N L e it x t (k + 1) false s'' := GSt.keep (GSt.keep (X := No) g₂ (fun _ h => h.elim) fun b o _ q => Heap.get?_push_of_some _ q) hX hx
        show SegX _ _ _ ((execs [] _).wrap _ _ _ _) _ _ _
        refine sx_execs_nil ?_
        show SegX _ _ _ ((execs [] _).wrap _ _ _ _) _ _ _
        refine sx_execs_nil ?_
        show SegX _ _ _ ((execs [] _).wrap _ _ _ _) _ _ _
        refine sx_execs_nil ?_
        exact back false _ s'' KeepG.refl g₃.ns g₃.enum g₃.iter
end Mine

end

section
open PySem PySem.W PySem.W.X PyProof.Rows
set_option maxRecDepth 100000
namespace Mine
theorem over_func {A : Around} {L : Addr} {cd : Value} (h : A.handled = none) : (A.over (.func bodyI (envI L cd)) []).handled = none := by
  show (marksOver [] (A.handled, A.handled)).1 = none
  exact h

theorem fresh_ready {w : World} {A : Around} {N L : Nat} {X : Addr → Prop} {x : Str} {t : Tok} {cd : Value} {s : Shared} {hb : Heap} {m : Str → Option Value} (hA : A.handled = none) (hX : ∀ b, X b → b < N ∧ b ≠ L)
    (G : Grd hb) (kb : ∀ b o, hb.get? b = some o → s.heap.get? b = some o) (hbL : hb.get? L = none) (hn : s.heap.Ns L m) (hm : m "addr" = some (.str x t)) (hN : N ≤ s.heap.objs.size) (hL : L < N) :
    SegX (GM w) A (.func bodyI (envI L cd)) ((GM w).den (.func bodyI (envI L cd))) [] s (PostG w A N L X (units false x.cps.toList) s) := by
  obtain ⟨gm, bm, hg, hbn, Nm⟩ := G.names
  refine sx_func ?_
  refine sx_execs_cons ?_
  refine sx_stmt ?_
  refine wpAny_Assign_Name ?_
  refine wpAny_Constant_int ?_
  refine wpAny_storeName_local rfl hn (fun h₁ hn₁ hs₁ => ?_) rfl
  show SegX _ _ _ ((execs _ _).wrap _ _ _ _) _ _ _
  refine sx_execs_cons ?_
  refine sx_stmt ?_
  refine wpAny_Assign_Name ?_
  refine wpAny_Constant_bool ?_
  refine wpAny_storeName_local rfl hn₁ (fun h₂ hn₂ hs₂ => ?_) rfl
  dsimp only at hs₁ hs₂
  have hn₂ : h₂.Ns L (put (put m "pos" (.int 0 s.toks)) "escape" (.bool false)) := hn₂
  have hneL : ∀ b o, hb.get? b = some o → b ≠ L := fun b o e q => by rw [q, hbL] at e; cases e
  have kp : ∀ b o, hb.get? b = some o → h₂.get? b = some o := fun b o e => hs₂.extBut b o (hneL b o e) (hs₁.extBut b o (hneL b o e) (kb b o e))
  have hz : h₂.objs.size = s.heap.objs.size := hs₂.1.trans hs₁.1
  show SegX _ _ _ ((execs _ _).wrap _ _ _ _) _ _ _
  refine sx_execs_cons ?_
  refine sx_For ?_
  refine Call_ ?_
  refine r_blt (hg.keeps kp) Nm.none.2.2.2.1 (hbn.keeps kp) Nm.enum ?_
  refine PyProof.Rows.callWith_type1 ?_
  refine args_cons ?_
  refine r_ld hn₂ (v := .str x t) (by rw [put_ne (by decide), put_ne (by decide)]; exact hm) ?_
  refine args_nil ?_
  refine call_enumerate_str fun h₃ he hi hsz hk => ?_
  refine wpAny_pyIter_enum he ?_
  intro p k hkK
  have hk₃ : KeepG N L s { s with heap := h₃, toks := s.toks + 1 + 1 + 1 } := KeepG.heap fun b o _ hbL' q => hk b o (hs₂.extBut b o hbL' (hs₁.extBut b o hbL' q))
  refine loop_ready (it := h₂.objs.size) (x := x) (t := t) hA hX ?_ x.cps.toList 0 false _ s (by simp) (Nat.zero_le _) ⟨⟨_, hn₂.keeps hk, ?_, ?_⟩, ⟨_, he⟩, hi, ?_⟩ hk₃
  · intro esc s' s₀' hkk hns
    obtain ⟨m', hn', hesc, q₁, q₂, hpos⟩ := hns
    rw [hkK]
    show SegX _ _ _ ((execs _ _).wrap _ _ _ _) _ _ _
    refine sx_execs_cons ?_
    refine sx_If ?_
    refine wpAny_isTrue_value ?_
    refine r_ld hn' hesc ?_
    refine wpAny_truthy_bool ?_
    cases esc with
    | true =>
      rw [if_pos rfl]
      refine sx_execs_cons ?_
      refine sx_Yield rfl rfl rfl ?_
      refine wpAny_Tuple ?_
      refine args_cons ?_
      refine r_ld hn' hpos ?_
      refine args_cons ?_
      refine r_str Sm.tokOk Sm.refl ?_; rintro t₁ _ ⟨tk₁, rfl⟩
      refine args_nil ?_
      refine ⟨sl2, ?_⟩
      intro l kk pp _ hcont
      refine ⟨hkk.trans (KeepG.heap fun b o _ _ q => Heap.get?_push_of_some _ q), _, l, kk, _, pp, _, rfl, ⟨_, _, _, _, rfl, _, Heap.get?_push_size _ rfl, rfl, _, rfl⟩, fun s'' hx => hcont _ s'' ?_⟩
      show SegX _ _ _ ((execs [] _).wrap _ _ _ _) _ _ _
      refine sx_execs_nil ?_
      show SegX _ _ _ ((execs [] _).wrap _ _ _ _) _ _ _
      refine sx_execs_nil ?_
      exact sx_end (.ok (.ret .none)) ⟨KeepG.refl, rfl⟩
    | false =>
      rw [if_neg (by simp)]
      refine sx_execs_nil ?_
      show SegX _ _ _ ((execs [] _).wrap _ _ _ _) _ _ _
      refine sx_execs_nil ?_
      exact sx_end (.ok (.ret .none)) ⟨hkk, rfl⟩
  · exact put_self
  · exact ⟨0, s.toks, (put_ne (by decide)).trans put_self⟩
  · show N ≤ h₂.objs.size + 1 ∧ N ≤ h₂.objs.size ∧ h₂.objs.size + 1 ≠ h₂.objs.size ∧ L < N
    omega
end Mine

end

section
open PySem PySem.W PySem.W.X PyProof.Rows
set_option maxRecDepth 100000
namespace Mine
/-- how a generator's state wakes -/
def WakeAt (w : World) (gs : GenState) (c : Code) (t : Sem PySem.Fin) (fs : List Frame) : Prop :=
  (gs = .fresh c ∧ t = (GM w).den c ∧ fs = []) ∨ (∃ k l p cl, gs = .suspended k l c p fs cl ∧ t = k (.send .none))

theorem pyNext_genX {w : World} {A : Around} {E : Value → Shared → Prop} {s : Shared} {a : Addr} {g : Nat} {gs : GenState} {c : Code} {t : Sem PySem.Fin} {fs : List Frame} {P : End → Shared → Prop} {Q : Option Value → Shared → Prop}
    (hh : A.handled = none) (hl : s.heap.NoLimit) (hroom : A.depth < recursionLimit) (hg : s.heap.IsGen a g) (hgs : s.gens[g]? = some gs) (hw : WakeAt w gs c t fs)
    (x : SegX (GM w) A.in1 c t fs (s.setGen g .running) P)
    (hP : ∀ e s₁, P e s₁ → (e = .ret (.ok (.ret .none)) ∧ ∀ h', (∀ b o, s₁.heap.get? b = some o → h'.get? b = some o) → Q none { s₁.setGen g .finished with heap := h' }) ∨
      (∃ v l k c' p fs', e = .susp v false l k c' p fs' ∧ ∀ cl, Q (some v) (s₁.setGen g (.suspended k l c' p fs' cl)))) :
    wpAny (GM w) A (pyNext (.ref a)) Q E s := by
  unfold pyNext
  refine wpAny_bind (wpAny_attempt (wpAny_callSpecial?_slot (name := Str.ofString "__next__") hg.typeIs slot_gen_next
    (wpAny_call_entry slot_gen_next hg.typeIs entry_gen_next ?_ (args_gen_next _))))
  show wpAny _ _ (Builtin.Generator.genWake (.ref a) (.send .none)) _ _ s
  unfold Builtin.Generator.genWake
  refine wpAny_bind (wpAny_holding (wpAny_genNumber hg (wpAny_bind (wpAny_genState hgs ?_))))
  have key : ∀ (Q' : PySem.Fin → Shared → Prop) (E' : Value → Shared → Prop) (kk : GenResult → Sem PySem.Fin),
      (∀ e s₁, P e s₁ → wpAny (GM w) A.in1 (kk e.result) Q' E' (s₁.setGen g e.genState)) → wpAny (GM w) A.in1 (.resume g (.send .none) [] kk) Q' E' s := by
    intro Q' E' kk hk
    have hgs' : (gs = .fresh c ∧ (Resume.send Value.none) = .send .none ∧ t = denote table c ∧ fs = []) ∨ (∃ k₀ l₀ p₀ cl, gs = .suspended k₀ l₀ c p₀ fs cl ∧ t = k₀ (.send .none)) := by
      rcases hw with ⟨h1, h2, h3⟩ | ⟨k, l, p, cl, h1, h2⟩
      · exact .inl ⟨h1, rfl, h2, h3⟩
      · exact .inr ⟨k, l, p, cl, h1, h2⟩
    exact wake_any PySem.Fin PySem.Challenge.pw_nb0072_01 w hgs hgs' (fun Γ => Γ.In A.in1) (fun _ h => h) (x.mono fun e s₁ he Γ p hΓ => hk e s₁ he Γ p hΓ)
  cases gs with
  | running => rcases hw with ⟨h1, _⟩ | ⟨_, _, _, _, h1, _⟩ <;> cases h1
  | finished => rcases hw with ⟨h1, _⟩ | ⟨_, _, _, _, h1, _⟩ <;> cases h1
  | _ =>
    refine wpAny_bind (wpAny_roomToWake hl hroom ?_)
    show wpAny _ _ (.resume g (.send .none) [] _) _ _ s
    refine key _ _ _ fun e s₁ he => ?_
    rcases hP e s₁ he with ⟨rfl, hq⟩ | ⟨v, l, k, c', p, fs', rfl, hq⟩
    · show wpAny _ _ (newExc (.type "StopIteration") [] >>= _) _ _ _
      refine wpAny_bind ?_
      simp only [newExc, newTuple]
      refine wpAny_bind (wpAny_newObj_type ?_ (by size_fits))
      refine wpAny_bind (m := firstArgMember _ _) (wpAny_of_eq (a := Value.none) (by first | rfl | (simp only [firstArgMember]; rfl)) ?_)
      refine wpAny_newObj_type ?_ (by size_fits)
      simp only [raiseNew]
      refine wpAny_bind (wpAny_bind (wpAny_handled ?_))
      rw [show A.in1.handled = none from hh]
      refine wpAny_throw ?_
      refine wpAny_bind (wpAny_isInstance (T := "StopIteration") (b := true) ⟨_, Heap.get?_push_size _ rfl, rfl⟩ isSubtype_stop ?_)
      exact wpAny_pure (hq _ fun b o hb => Heap.get?_push_of_some _ (Heap.get?_push_of_some _ hb))
    · exact wpAny_pure ⟨v, rfl, wpAny_pure (hq _)⟩

section
variable {w : World} {A : Around} {s : Shared} {R : Result → Shared → Prop}
/-- a comprehension's loop by what holds between its turns -/
theorem compLoop_any {elt target iter : Expr} {scope : Scope} {pos : Pos} {it acc : Value} {env : Env} (I : Nat → Shared → Prop)
    (turn : ∀ n s, I n s → wpAny (GM w) A (pyNext it) (fun r s₁ => match r with
      | none => R (.ok .next) s₁
      | some v => wpAny (GM w) A (letOwnedTupleGo target it v) (fun _ s₁' => wpAny (GM w) A (assign target env v) (fun _ s₂ => wpAny (GM w) A (eval elt env) (fun x s₃ =>
          wpAny (GM w) A (call (.builtin "list.append") [acc, x]) (fun _ s₄ => ∃ m, m < n ∧ I m s₄) (fun _ _ => False) s₃)
          (fun _ _ => False) s₂) (fun _ _ => False) s₁') (fun _ _ => False) s₁) (fun _ _ => False) s)
    (n : Nat) (h : I n s) :
    codeAny (GM w) A (.compLoop (.ListComp elt [⟨target, iter, [], 0⟩] scope pos) 0 it acc env) R s := by
  refine codeAny_loop rfl I (fun n s hI => ?_) n h
  show wpAny _ _ ((compTurn (.ListComp elt [⟨target, iter, [], 0⟩] scope pos) 0 it acc env).onRaise (fun x => do noteFrame x env; theTreesLotGoes x)) _ _ s
  refine wpAny_noted ?_
  rw [compTurn_list1]
  refine wpAny_noRaise ?_
  refine wpAny_bind (wpAny_standAt (wpAny_bind (wpAny_mono (turn n s hI) (fun r s₁ h₁ => ?_) fun _ _ h' => h')))
  cases r with
  | none => exact wpAny_pure h₁
  | some v =>
    refine wpAny_bind (wpAny_mono h₁ (fun _ s₁' h₁ => ?_) fun _ _ x => x)
    exact wpAny_bind (wpAny_mono h₁ (fun _ s₂ h₂ => wpAny_bind (wpAny_bind (wpAny_mono h₂ (fun x s₃ h₃ => wpAny_bind (wpAny_mono h₃
      (fun _ s₄ h₄ => wpAny_pure (wpAny_pure ⟨rfl, h₄⟩)) fun _ _ h' => h')) fun _ _ h' => h'))) fun _ _ h' => h')

/-- a comprehension of one clause without a test, up to its end F (the list, the block's names, the state) -/
def CompRun (w : World) (A : Around) (env : Env) (elt target iter : Expr) (scope : Scope) (cl : List (Str × Addr)) (pos : Pos) (F : Value → Addr → Shared → Prop) (s : Shared) : Prop :=
  wpAny (GM w) A (eval iter env) (fun x s₁ => wpAny (GM w) A (pyIter x) (fun it s₂ =>
      ∀ D C h₁, D = s₂.heap.objs.size → C = s₂.heap.objs.size + 1 → (∀ b o, s₂.heap.get? b = some o → h₁.get? b = some o) → h₁.objs.size = s₂.heap.objs.size + 2 → h₁.get? D = some { cls := .type "list", data := .seq #[] } → h₁.Ns C (fun _ => none) →
        (∀ Q' : Value → Shared → Prop, Q' it { s₂ with heap := h₁ } → wpAny (GM w) A (pyIter it) Q' (fun _ _ => False) { s₂ with heap := h₁ }) ∧
        codeAny (GM w) A (.compLoop (.ListComp elt [⟨target, iter, [], 0⟩] scope pos) 0 it (.ref D) (compEnvC scope cl C env))
          (fun r s' => r = .ok .next ∧ F (.ref D) C s') { s₂ with heap := h₁ }) (fun _ _ => False) s₁) (fun _ _ => False) s

theorem comp_go {env : Env} {elt target iter : Expr} {scope : Scope} {cl : List (Str × Addr)} {pos : Pos} {F : Value → Addr → Shared → Prop} {RR : Value → Addr → Result → Shared → Prop}
    (hcell : ∀ y ∈ scope.names, y.2 ≠ .cell) (hkind : scope.kind = .function) (h : CompRun w A env elt target iter scope cl pos F s) (hF : ∀ acc C s', F acc C s' → RR acc C (.ok .next) s') :
    wpAny (GM w) A (eval iter env) (fun x s₁ => wpAny (GM w) A (pyIter x) (fun it s₂ => wpAny (GM w) A (newList []) (fun acc s₃ =>
      wpAny (GM w) A (newFunctionEnv scope env.globals cl [] env.qual none .none (some env)) (fun cenv s₄ =>
        codeAny (GM w) A (.compStart (.ListComp elt [⟨target, iter, [], 0⟩] scope pos) 0 it acc { cenv with scope := relabel scope env }) (RR acc cenv.locals) s₄) (fun _ _ => False) s₃) (fun _ _ => False) s₂) (fun _ _ => False) s₁) (fun _ _ => False) s := by
  refine wpAny_mono h (fun x s₁ h₁ => wpAny_mono h₁ (fun it s₂ h₂ => ?_) fun _ _ x => x) fun _ _ x => x
  refine wpAny_newObj_type (wpAny_newFunctionEnv hcell (by intro y hy; simp at hy) (fun h₁ hns₁ hsb₁ => ?_) hkind)
  dsimp only at hns₁ hsb₁ ⊢
  generalize hH2 : s₂.heap.push { cls := .type "list", dict := none, data := .seq ([] : List Value).toArray } = H2 at hns₁ hsb₁ ⊢
  have hC : H2.objs.size = s₂.heap.objs.size + 1 := by rw [← hH2, Heap.size_push]
  have old : ∀ b o, s₂.heap.get? b = some o → h₁.get? b = some o := fun b o e => hsb₁.extBut b o (by rw [hC]; exact Nat.ne_of_lt (Nat.lt_succ_of_lt (Heap.lt_size e))) (Heap.get?_push_of_some _ (hH2 ▸ Heap.get?_push_of_some _ e))
  have hD : h₁.get? s₂.heap.objs.size = some { cls := .type "list", data := .seq #[] } := hsb₁.extBut _ _ (by rw [hC]; exact Nat.ne_of_lt (Nat.lt_succ_self _)) (Heap.get?_push_of_some _ (hH2 ▸ Heap.get?_push_size _ rfl))
  have hsz : h₁.objs.size = s₂.heap.objs.size + 2 := by rw [hsb₁.1, Heap.size_push, hC]
  obtain ⟨hself, hloop⟩ := h₂ _ (s₂.heap.objs.size + 1) h₁ rfl rfl old hsz hD (hC ▸ hns₁)
  have loop : codeAny (GM w) A (.compLoop (.ListComp elt [⟨target, iter, [], 0⟩] scope pos) 0 it (.ref s₂.heap.objs.size) (compEnvC scope cl H2.objs.size env)) (RR (.ref s₂.heap.objs.size) H2.objs.size) { s₂ with heap := h₁ } := by
    rw [hC]
    refine codeAny_mono hloop fun r s' hr => ?_
    obtain ⟨rfl, hf⟩ := hr
    exact hF _ _ _ hf
  exact codeAny_compStart_list loop (wpAny_noRaise (hself _ loop))

theorem r_comp {E : Value → Shared → Prop} {env : Env} {elt target iter : Expr} {scope : Scope} {cl : List (Str × Addr)} {pos : Pos} {Q : Value → Shared → Prop}
    (hclos : closureFor scope env = pure cl) (hcell : ∀ y ∈ scope.names, y.2 ≠ .cell) (hkind : scope.kind = .function) (hnames : ∀ x ∈ scope.names, x.2 = .local → scope.names.lookup x.1 = some .local)
    (h : CompRun w A env elt target iter scope cl pos (fun acc C s' => (∃ m, s'.heap.Ns C m) ∧ ∀ h', Heap.SameBut C s'.heap h' → Q acc { s' with heap := h' }) s)
    (hs : ∀ x, foldedSetIterable iter env x = pure x := by intro _; rfl) :
    wpAny (GM w) A (eval (.ListComp elt [⟨target, iter, [], 0⟩] scope pos) env) Q E s := by
  refine wpAny_noRaise ?_
  rw [eval_ListComp]
  refine wpAny_comprehension_free rfl hs hclos hkind hnames ?_
  refine comp_go hcell hkind h fun acc C s' hf => ?_
  obtain ⟨⟨m, hm⟩, hq⟩ := hf
  exact ⟨m, hm, hq⟩

theorem r_compAsg {E : Value → Shared → Prop} {env : Env} {elt target iter : Expr} {scope : Scope} {cl : List (Str × Addr)} {pos spos tp : Pos} {t : Str} {Q : Flow → Shared → Prop}
    (hclos : closureFor scope env = pure cl) (hcell : ∀ y ∈ scope.names, y.2 ≠ .cell) (hkind : scope.kind = .function) (hnames : ∀ x ∈ scope.names, x.2 = .local → scope.names.lookup x.1 = some .local)
    (h : CompRun w A env elt target iter scope cl pos (fun acc C s' => wpAny (GM w) A (storeName env t acc) (fun _ s'' => (∃ m, s''.heap.Ns C m) ∧ ∀ h', Heap.SameBut C s''.heap h' → Q .next { s'' with heap := h' }) (fun _ _ => False) s') s)
    (hsw : swapsWith (.ListComp elt [⟨target, iter, [], 0⟩] scope pos) (some (.Name t tp)) spos.line env = pure true := by rfl)
    (hs : ∀ x, foldedSetIterable iter env x = pure x := by intro _; rfl) :
    wpAny (GM w) A (exec (.Assign [.Name t tp] (.ListComp elt [⟨target, iter, [], 0⟩] scope pos) spos) env) Q E s := by
  refine wpAny_noRaise ?_
  rw [exec_Assign_Name_used t tp _ spos hsw]
  refine wpAny_bind (wpAny_standAt (wpAny_bind (m := evalThenUse _ env _) ?_))
  show wpAny _ _ (do
    let _ ← comprehension (.ListComp elt [⟨target, iter, [], 0⟩] scope pos) scope env (firstIterPos [⟨target, iter, [], 0⟩] pos) (newList []) (firstAsync [⟨target, iter, [], 0⟩]) (firstIter [⟨target, iter, [], 0⟩] env) (some (assign (.Name t tp) env))) _ _ _
  refine wpAny_bind ?_
  refine wpAny_comprehension_free (Q := fun _ s' => wpAny (GM w) A (pure ()) (fun _ s' => wpAny (GM w) A (pure Flow.next) Q (fun _ _ => False) s') (fun _ _ => False) s') rfl hs hclos hkind hnames ?_
  refine comp_go hcell hkind h fun acc C s' hf => ?_
  refine wpAny_assign_Name (wpAny_mono hf (fun _ s'' hf' => ?_) fun _ _ x => x)
  obtain ⟨⟨m, hm⟩, hq⟩ := hf'
  exact ⟨m, hm, fun h' hs' => wpAny_pure (wpAny_pure (hq h' hs'))⟩
end
end Mine

end

section
open PySem PySem.W PyProof.Rows
open PySem.AutoSeq1 (wpAny_loadPart')
set_option maxRecDepth 100000
namespace Mine
/-- two lists of texts, as Python orders them -/
def ltS : List Str → List Str → Bool
  | [], [] => false
  | [], _ :: _ => true
  | _ :: _, [] => false
  | x :: xs, y :: ys => if x == y then ltS xs ys else decide (x.cps.toList < y.cps.toList)

theorem lt_loop (l b : Addr) (n n2 : Nat) : ∀ (p q r u : List Value) (xs ys : List Str), StrsAre r xs → StrsAre u ys → p.length = q.length →
    Meets (Builtin.«list.__eq__.loop» ⟨[.ref l, .ref b, rawInt p.length, rawInt 0], []⟩)
      (fun _ R s => s.heap.get? l = some { cls := .type "list", dict := none, data := .seq (p ++ r).toArray n, slots := #[] } ∧ s.heap.get? b = some { cls := .type "list", dict := none, data := .seq (q ++ u).toArray n2, slots := #[] } ∧
        R (.ok (.ret (.bool (ltS xs ys)))) s) := by
  intro p q r u xs ys hr
  induction hr generalizing p q u ys with
  | nil =>
    intro hu hpq prog w A R s h
    obtain ⟨hp, g, d, tk, os⟩ := s; obtain ⟨hl, hb, h⟩ := h
    wp_walk using wpAny_loadPart' hl, wpAny_loadPart' hb
    have hi1 : (p ++ ([] : List Value)).toArray[((p.length : Nat) : Int).toNat]? = none := by simp
    cases hu with
    | nil =>
      have hi2 : (q ++ ([] : List Value)).toArray[((p.length : Nat) : Int).toNat]? = none := by simp [hpq]
      rw [hi1, hi2]
      wp_walk using wpAny_loadPart' hl, wpAny_loadPart' hb
      show R (.ok (.ret (.bool (decide ((p ++ ([] : List Value)).toArray.size < (q ++ ([] : List Value)).toArray.size)))) ) _
      simpa [ltS, hpq] using h
    | cons y t hu =>
      rename_i us ys
      have hi2 : (q ++ (.str y t :: us)).toArray[((p.length : Nat) : Int).toNat]? = some (.str y t) := by simp [hpq]
      rw [hi1, hi2]
      wp_walk using wpAny_loadPart' hl, wpAny_loadPart' hb
      show R (.ok (.ret (.bool (decide ((p ++ ([] : List Value)).toArray.size < (q ++ (Value.str y t :: us)).toArray.size)))) ) _
      have hd : decide ((p ++ ([] : List Value)).toArray.size < (q ++ (Value.str y t :: us)).toArray.size) = true := by simp [hpq]
      rw [hd]
      exact h
  | cons x t hr ih =>
    rename_i rs xs
    intro hu hpq prog w A R s h
    obtain ⟨hp, g, d, tk, os⟩ := s; obtain ⟨hl, hb, h⟩ := h
    wp_walk using wpAny_loadPart' hl, wpAny_loadPart' hb
    have hi1 : (p ++ (.str x t :: rs)).toArray[((p.length : Nat) : Int).toNat]? = some (.str x t) := by simp
    cases hu with
    | nil =>
      have hi2 : (q ++ ([] : List Value)).toArray[((p.length : Nat) : Int).toNat]? = none := by simp [hpq]
      rw [hi1, hi2]
      wp_walk using wpAny_loadPart' hl, wpAny_loadPart' hb
      show R (.ok (.ret (.bool (decide ((p ++ (Value.str x t :: rs)).toArray.size < (q ++ ([] : List Value)).toArray.size)))) ) _
      have hd : decide ((p ++ (Value.str x t :: rs)).toArray.size < (q ++ ([] : List Value)).toArray.size) = false := by simp [hpq]
      rw [hd]
      exact h
    | cons y t' hu =>
      rename_i us ys
      have hi2 : (q ++ (.str y t' :: us)).toArray[((p.length : Nat) : Int).toNat]? = some (.str y t') := by simp [hpq]
      rw [hi1, hi2]
      refine wpAny_bind (eqBool_str ?_)
      cases hxy : x == y with
      | true =>
        simp only [ltS, hxy, if_true] at h
        wp_walk
        have hc : ((p.length : Int) + 1) = ((p ++ [Value.str x t]).length : Int) := by simp
        rw [hc]
        refine ⟨plainId_quiet MeetsSeq3.plain_eq_loop _, codeAny_builtin MeetsSeq3.entry_eq_loop ?_⟩
        rw [Around.under_plainId MeetsSeq3.plain_eq_loop _]
        exact ih (p ++ [.str x t]) (q ++ [.str y t']) us ys hu (by simp [hpq]) prog w A R _ ⟨by simpa using hl, by simpa using hb, h⟩
      | false =>
        simp only [ltS, hxy, Bool.false_eq_true, if_false] at h
        wp_walk using wpAny_loadPart' hl, wpAny_loadPart' hb
        rw [hi1, hi2]
        refine wpAny_bind (m := compareOp .Lt (.str x t) (.str y t')) (PyProof.Rows.lt_str (wpAny_pure ?_))
        exact h

theorem list_lt (l b : Addr) (n n2 : Nat) {r u : List Value} {xs ys : List Str} (hr : StrsAre r xs) (hu : StrsAre u ys) :
    Meets (Builtin.«list.__lt__» ⟨[.ref l, .ref b], []⟩)
      (fun _ R s => s.heap.get? l = some { cls := .type "list", dict := none, data := .seq r.toArray n, slots := #[] } ∧ s.heap.get? b = some { cls := .type "list", dict := none, data := .seq u.toArray n2, slots := #[] } ∧
        R (.ok (.ret (.bool (ltS xs ys)))) s) := by
  intro prog w A R s h
  obtain ⟨hp, g, d, tk, os⟩ := s; obtain ⟨hl, hb, h⟩ := h
  have f3 := AutoSeq1.sub_list_list
  wp_walk using wpAny_loadPart' hl, wpAny_loadPart' hb
  refine ⟨plainId_quiet MeetsSeq3.plain_eq_loop _, codeAny_builtin MeetsSeq3.entry_eq_loop ?_⟩
  rw [Around.under_plainId MeetsSeq3.plain_eq_loop _]
  exact lt_loop l b n n2 [] [] r u xs ys hr hu rfl prog w A R _ ⟨hl, hb, h⟩

abbrev listObj (vs : List Value) (n : Nat) : Obj := { cls := .type "list", dict := none, data := .seq vs.toArray n, slots := #[] }
theorem r_list_lt {prog : Program} {w : World} {A : Around} {E : Value → Shared → Prop} {s : Shared} {Q : Value → Shared → Prop} {a b : Addr} {n n2 : Nat} {r u : List Value} {xs ys : List Str} (hr : StrsAre r xs) (hu : StrsAre u ys)
    (ha : s.heap.get? a = some (listObj r n)) (hb : s.heap.get? b = some (listObj u n2)) (hroom : A.units < cLine) (h : Q (.bool (ltS xs ys)) s) : wpAny (model prog w) A (compareOp .Lt (.ref a) (.ref b)) Q E s := by
  show wpAny _ _ (richCompare .Lt (.ref a) (.ref b)) Q E s
  exact wpAny_richCompare_same_or (T := "list") ⟨_, ha, rfl⟩ ⟨_, hb, rfl⟩ F.slot_list_lt (call_meets F.slot_list_lt ⟨_, ha, rfl⟩ F.entry_list_lt (F.args_list_lt_2 _ _) (list_lt a b n n2 hr hu) ⟨ha, hb, by simp, h⟩) (.inr hroom)
end Mine

end

section
open PySem PySem.W PySem.W.X PyProof.Rows
set_option maxRecDepth 100000
namespace Mine
abbrev lastS (u : Str) : Str := Txt.item u (-1)
abbrev compC (n : Nat) : Expr × List Comprehension × Scope × Pos := match (bodyOf (top 8))[n]? with
  | some (PySem.Stmt.Assign _ (PySem.Expr.ListComp e g s p) _) => (e, g, s, p)
  | _ => (default, [], default, ⟨0, 0, 0, 0⟩)
abbrev envC (L : Addr) (cd : Value) : Env := envOf "_law_compare" (scopeOf (top 8)) L 49 cd

theorem set_push {α : Type} (a : Array α) (x y : α) : (a.push x).setIfInBounds a.size y = a.push y := by
  apply Array.toList_inj.mp
  rw [Array.toList_setIfInBounds, Array.toList_push, Array.toList_push, ← Array.length_toList]
  rw [List.set_append, if_neg (Nat.lt_irrefl _)]
  simp

theorem r_callF {w : World} {A : Around} {E : Value → Shared → Prop} {s : Shared} {env : Env} {Q : Value → Shared → Prop} {pos : Pos} {a : Addr} {e : Expr} {rest : List Expr} {o : Obj} {fd : FuncData}
    (h : wpAny (GM w) A (spliced (backTo pos (starEach (e :: rest) env))) (fun vs s₁ => (s₁.heap.get? a = some o ∧ o.data = .func fd) ∧ wpAny (GM w) A (call (.ref a) vs) Q E s₁) E s)
    (he : starEach (e :: rest) env = (false, eval e env) :: starEach rest env := by rfl) :
    wpAny (GM w) A (callWith pos (.ref a) [] (backTo pos (starEach (e :: rest) env)) []) Q E s := by
  rw [he] at h ⊢
  exact Calls.callWith_function (Calls.evalArgs_plain h)

theorem letOwned_gen {w : World} {A : Around} {E : Value → Shared → Prop} {s : Shared} {elts : List Expr} {k : Nat} {pos : Pos} {a g b : Nat} {Q : Unit → Shared → Prop} (hg : s.heap.IsGen a g) (h : Q () s) : wpAny (GM w) A (letOwnedTupleGo (.Tuple elts k pos) (.ref a) (.ref b)) Q E s := by
  obtain ⟨o, nm, qn, ho, hc, hd, _⟩ := hg
  unfold letOwnedTupleGo
  refine wpAny_bind (wpAny_load ho ?_)
  rw [hc, hd]
  show wpAny _ A (if (["enumerate", "zip", "dict_itemiterator", "dict_reverseitemiterator", "odict_iterator", "itertools.zip_longest", "itertools.pairwise"].contains "generator" && _) = true then _ else _) Q E s
  rw [if_neg (by simp)]
  exact wpAny_pure h

theorem last_len {u : Str} {b : Bool} {cs : List Nat} (h : u ∈ units b cs) : 1 ≤ u.length ∧ u.length ≤ 2 := by
  induction cs generalizing b with
  | nil =>
    cases b with
    | true => simp [units] at h; subst h; decide
    | false => simp [units] at h
  | cons c cs ih =>
    cases b with
    | true =>
      simp only [units, List.mem_cons] at h
      rcases h with rfl | h
      · rw [Str.length_append, show (("\\" : Str)).length = 1 from by decide]
        exact ⟨Nat.le_add_right 1 _, show 1 + 1 ≤ 2 by decide⟩
      · exact ih h
    | false =>
      simp only [units] at h
      split at h
      · exact ih h
      · simp only [List.mem_cons] at h
        rcases h with rfl | h
        · exact ⟨show 1 ≤ 1 by decide, show 1 ≤ 2 by decide⟩
        · exact ih h

theorem units_len (cs : List Nat) : ∀ b : Bool, (units b cs).length ≤ cs.length + 1 := by
  induction cs with
  | nil => intro b; cases b <;> simp [units]
  | cons c cs ih =>
    intro b
    cases b with
    | true => have := ih false; simp only [units, List.length_cons]; omega
    | false =>
      simp only [units]
      split
      · have := ih true; simp only [List.length_cons]; omega
      · have := ih false; simp only [List.length_cons]; omega

abbrev ltNat (a b : Nat) : Prop := a < b
abbrev neNat (a b : Nat) : Prop := a ≠ b
/-- what holds between the turns of the comprehension over the generator -/
def CI (w : World) (A : Around) (s : Shared) (Lg D C : Nat) (y : Str) (n : Nat) (s' : Shared) : Prop := ∃ us done vs gs cc tt ff, n = us.length + 1 ∧ done ++ us = units false y.cps.toList ∧ s'.heap.PlainList D vs.toArray ∧ StrsAre vs (done.map lastS) ∧
      s'.heap.IsGen (Lg + 1) s.gens.size ∧ s'.gens[s.gens.size]? = some gs ∧ WakeAt w gs cc tt ff ∧ SegX (GM w) A.in1 cc tt ff (s'.setGen s.gens.size .running) (PostG w A.in1 (Lg + 4) Lg (fun b => b = D ∨ b = C) us (s'.setGen s.gens.size .running)) ∧
      (∃ m, s'.heap.Ns C m) ∧ (∀ b o, s.heap.get? b = some o → s'.heap.get? b = some o) ∧ s'.os = s.os ∧ (∃ g', s'.gens = s.gens.push g')
theorem comp_signs {w : World} {A : Around} {s : Shared} {L : Addr} {cd : Value} {m : Str → Option Value} {x : Str} {y : Str} {ty : Tok} {F : Value → Addr → Shared → Prop} {p1 p2 p3 p4 p5 p6 p7 p8 p9 p10 p11 : Pos} {scope : Scope}
    (rm : Rm 4 A) (G : Grd s.heap) (hn : s.heap.Ns L m) (hx : m x = some (.str y ty)) (hxk : (envC L cd).kindOf x = some .local) (hxd : (x == ("__debug__" : Str)) = false) (hscope : scope = (compC 0).2.2.1) (hlen : y.cps.size ≤ 1000)
    (c : ∀ s' D C n vs, Stp No s s' → s.heap.get? C = none → s'.heap.get? D = some (listObj vs n) → StrsAre vs ((units false y.cps.toList).map lastS) → (∃ m, s'.heap.Ns C m) → F (.ref D) C s') :
    CompRun w A (envC L cd) (.Subscript (.Name "unit" p1) (.UnaryOp .USub (.Constant (.int 1) 0 p2) p3) p4) (.Tuple [.Name "place" p5, .Name "unit" p6] 0 p7) (.Call (.Name "_iter_escaped_chars" p8) [.Name x p9] [] p10) scope [] p11 F s := by
  subst hscope
  obtain ⟨gm, bm, hg, hb, Nm⟩ := G.names
  obtain ⟨oF, pm, cdF, doc, hoF, hdF, hcF⟩ := G.chars
  unfold CompRun
  refine Call_ ?_
  refine r_glob hg Nm.chars ?_
  refine r_callF (o := oF) (fd := Calls.docDef "_iter_escaped_chars" (argsOf (top 5)) (bodyOf (top 5)) (scopeOf (top 5)) pm cdF doc) ?_
  refine args_cons ?_
  refine r_ld hn hx ?_ rfl hxk hxd
  refine args_nil ?_
  refine ⟨⟨hoF, hdF⟩, ?_⟩
  refine wpAny_call (codeAny_call_generator (body := bodyI) rm.room hoF hdF rfl rfl rfl hcF ?_)
  refine wpAny_of_eq (a := [(("addr" : Str), Value.str y ty)]) rfl ?_
  refine wpAny_newFunctionEnv (show ∀ x ∈ (scopeOf (top 5)).names, x.2 ≠ .cell by decide) (locs (scope := scopeOf (top 5)) rfl) (fun h₁ hns₁ hsb₁ => ⟨G.lim.fresh _ hsb₁, ?_⟩) rfl
  dsimp only
  generalize hL : s.heap.objs.size = Lg at hns₁ hsb₁ ⊢
  have hLn : s.heap.get? Lg = none := by rw [← hL]; exact Heap.get?_none_of_le (Nat.le_refl _)
  have k₁ : ∀ b o, s.heap.get? b = some o → h₁.get? b = some o := fun b o e => hsb₁.extBut b o (fun q => by rw [q, hLn] at e; cases e) (Heap.get?_push_of_some _ e)
  have z₁ : h₁.objs.size = Lg + 1 := by rw [hsb₁.1, Heap.size_push, hL]
  generalize htk : s.toks + List.length [(("addr" : Str), Value.str y ty)] = tk₁
  -- the generator's object
  generalize hg₂ : h₁.push { cls := .type "generator", data := .fields #[.int (s.gens.size : Nat) 0, .str (Calls.docDef "_iter_escaped_chars" (argsOf (top 5)) (bodyOf (top 5)) (scopeOf (top 5)) pm cdF doc).name tk₁, .str (Calls.docDef "_iter_escaped_chars" (argsOf (top 5)) (bodyOf (top 5)) (scopeOf (top 5)) pm cdF doc).qualname (tk₁ + 1)] } = h₂
  have z₂ : h₂.objs.size = Lg + 2 := by rw [← hg₂, Heap.size_push, z₁]
  have k₂ : ∀ b o, h₁.get? b = some o → h₂.get? b = some o := fun b o e => by rw [← hg₂]; exact Heap.get?_push_of_some _ e
  have isg : h₂.IsGen (Lg + 1) s.gens.size := by
    rw [← hg₂, ← z₁]
    exact ⟨_, _, _, Heap.get?_push_size _ rfl, rfl, rfl, rfl⟩
  rw [z₁]
  refine wpAny_pyIter_gen (g := s.gens.size) isg ?_
  intro D C h₃ hD hC k₃ z₃ hD₃ hns₃
  dsimp only at hD hC k₃ z₃ ⊢
  rw [z₂] at hD hC z₃
  have isg₃ : h₃.IsGen (Lg + 1) s.gens.size := isg.keeps k₃
  refine ⟨fun Q' hq => wpAny_pyIter_gen (g := s.gens.size) isg₃ hq, ?_⟩
  have aD : ltNat D (Lg + 4) := by rw [hD]; exact Nat.add_lt_add_left (show 2 < 4 by decide) Lg
  have aC : ltNat C (Lg + 4) := by rw [hC]; exact Nat.add_lt_add_left (show 3 < 4 by decide) Lg
  have aG : ltNat (Lg + 1) (Lg + 4) := Nat.add_lt_add_left (show 1 < 4 by decide) Lg
  have nD : neNat D Lg := by rw [hD]; exact Nat.ne_of_gt (Nat.lt_add_of_pos_right (show 0 < 2 by decide))
  have nC : neNat C Lg := by rw [hC]; exact Nat.ne_of_gt (Nat.lt_add_of_pos_right (show 0 < 3 by decide))
  have nG : neNat (Lg + 1) Lg := Nat.ne_of_gt (Nat.lt_add_of_pos_right (show 0 < 1 by decide))
  have nDC : neNat D C := by rw [hD, hC]; exact Nat.ne_of_lt (Nat.lt_succ_self (Lg + 2))
  have up : ∀ b : Nat, b < Lg → b < Lg + 4 := fun b h => Nat.lt_of_lt_of_le h (Nat.le_add_right _ _)
  have hX : ∀ b, (b = D ∨ b = C) → b < Lg + 4 ∧ b ≠ Lg := fun b hb => by rcases hb with rfl | rfl; exact ⟨aD, nD⟩; exact ⟨aC, nC⟩
  have notX : ∀ (b : Nat), b < Lg → ¬ (b = D ∨ b = C) := fun b h q => by
    rcases q with q | q
    · rw [q, hD] at h; exact absurd h (Nat.not_lt.mpr (Nat.le_add_right _ _))
    · rw [q, hC] at h; exact absurd h (Nat.not_lt.mpr (Nat.le_add_right Lg 3))
  have kk : ∀ b o, s.heap.get? b = some o → h₃.get? b = some o := fun b o e => k₃ b o (k₂ b o (k₁ b o e))
  have out : ∀ (b : Nat) (o : Obj), s.heap.get? b = some o → b < Lg := fun b o e => by rw [← hL]; exact Heap.lt_size e
  refine compLoop_any (w := w) (A := A) (CI w A s Lg D C y) ?turn ((units false y.cps.toList).length + 1) ?start
  case start =>
    unfold CI
    refine ⟨units false y.cps.toList, [], [], .fresh (.func bodyI (envI Lg cdF)), .func bodyI (envI Lg cdF), (GM w).den (.func bodyI (envI Lg cdF)), [], rfl, rfl, ⟨0, hD₃⟩, .nil, isg₃, ?_, .inl ⟨rfl, rfl, rfl⟩, ?_, ⟨_, hns₃⟩, kk, rfl, ⟨_, rfl⟩⟩
    · exact Array.getElem?_push_size ..
    · have hm : h₃.Ns Lg (fun x => [(("addr" : Str), Value.str y ty)].reverse.lookup x) := (hns₁.keeps k₂).keeps k₃
      refine fresh_ready (hb := s.heap) (m := fun x => [(("addr" : Str), Value.str y ty)].reverse.lookup x) rm.1 hX G kk hLn hm rfl ?_ (by omega)
      show Lg + 4 ≤ h₃.objs.size
      omega
  case turn =>
    intro n s' hI
    unfold CI at hI
    obtain ⟨us, done, vs, gs, cc, tt, ff, rfl, hdu, hPL, hSA, hG', hgs, hwk, hseg, ⟨mC, hnC⟩, hkeep, hos, g', hgg⟩ := hI
    have hlim : s'.heap.NoLimit := G.lim.keeps hkeep
    refine pyNext_genX rm.1 hlim rm.room hG' hgs hwk hseg fun e s₁ hP => ?_
    cases us with
    | nil =>
      obtain ⟨⟨hkG, hosG, hgG⟩, rfl⟩ := hP
      refine .inl ⟨rfl, fun h' hk' => ?_⟩
      have fwd : ∀ b o, b < Lg + 4 → b ≠ Lg → s'.heap.get? b = some o → h'.get? b = some o := fun b o hb hbL q => hk' b o (hkG b o hb hbL q)
      refine ⟨rfl, ?_⟩
      obtain ⟨n₀, hDo⟩ := hPL
      have hD' : h'.get? D = some (listObj vs n₀) := fwd _ _ aD nD hDo
      rw [List.append_nil] at hdu
      refine c _ D C n₀ vs ⟨fun b o _ q => ?_, ?_, ?_, ?_⟩ (Heap.get?_none_of_le (by rw [hL, hC]; exact Nat.le_add_right Lg 3)) hD' (hdu ▸ hSA) ⟨mC, hnC.at' fun o q => fwd _ o aC nC q⟩
      · have hb := out b o q
        exact fwd b o (up b hb) (Nat.ne_of_lt hb) (hkeep b o q)
      · exact hosG.trans hos
      · intro i g hi
        show (s₁.gens.setIfInBounds s.gens.size .finished)[i]? = some g
        rw [hgG]
        show ((s'.gens.setIfInBounds s.gens.size .running).setIfInBounds s.gens.size .finished)[i]? = some g
        rw [hgg, set_push, set_push]
        have hlt : i < s.gens.size := (Array.getElem?_eq_some_iff.mp hi).1
        rw [Array.getElem?_push, if_neg (Nat.ne_of_lt hlt)]
        exact hi
      · intro hb
        show AllBare (s₁.gens.setIfInBounds s.gens.size .finished)
        rw [hgG]
        show AllBare ((s'.gens.setIfInBounds s.gens.size .running).setIfInBounds s.gens.size .finished)
        rw [hgg]
        intro g hg
        have e : ((s.gens.push g').setIfInBounds s.gens.size GenState.running).setIfInBounds s.gens.size .finished = s.gens.push .finished := by rw [set_push, set_push]
        rw [e] at hg
        exact (hb.push rfl) g hg
    | cons u us =>
      obtain ⟨⟨hkG, hosG, hgG⟩, v, l, k, c', p, fs', rfl, ⟨a, nn, t1, t2, rfl, htup⟩, hnext⟩ := hP
      refine .inr ⟨_, l, k, c', p, fs', rfl, fun cl' => ?_⟩
      dsimp only
      have hG₁ : s₁.heap.IsGen (Lg + 1) s.gens.size := by
        obtain ⟨o, nm, qn, ho, r⟩ := hG'
        exact ⟨o, nm, qn, hkG _ _ aG nG ho, r⟩
      have hnC₁ : s₁.heap.Ns C mC := hnC.at' fun o q => hkG _ o aC nC q
      have hPL₁ : s₁.heap.PlainList D vs.toArray := hPL.at fun o q => hkG _ o aD nD q
      have hkeep₁ : ∀ b o, s.heap.get? b = some o → s₁.heap.get? b = some o := fun b o q => by
        have hb := out b o q
        exact hkG b o (up b hb) (Nat.ne_of_lt hb) (hkeep b o q)
      have hu : u ∈ units false y.cps.toList := by rw [← hdu]; simp
      have hul := last_len hu
      refine letOwned_gen (g := s.gens.size) hG₁ ?_
      refine r_unpack2 (env := compEnvC (compC 0).2.2.1 [] C (envC L cd)) (m := mC) rm.1 htup hnC₁ (fun s₃ st₃ hg₃ hn₃ => ?_)
      refine Subscript_ ?_
      refine r_ld hn₃ (v := .str u t2) put_self ?_
      refine wpAny_UnaryOp ?_
      refine r_int Sm.tokOk Sm.refl ?_; rintro t₃ _ ⟨tk₃, rfl⟩
      refine r_neg (I := Sm s₃) Sm.tokOk ⟨_, rfl⟩ ?_; rintro t₄ _ ⟨tk₄, rfl⟩
      refine r_item (I := Sm s₃) Sm.tokOk ⟨_, rfl⟩ (by decide) (by omega) (by omega) ?_; rintro t₅ _ ⟨tk₅, rfl⟩
      have hPL₃ : s₃.heap.PlainList D vs.toArray := hPL₁.at fun o q => st₃.keep _ o nDC q
      refine wpAny_list_append_plain hPL₃ (fun h₄ hPL₄ hs₄ => ?_) ?_
      · have kX : ∀ b o, ¬ (b = D ∨ b = C) → s₁.heap.get? b = some o → h₄.get? b = some o := fun b o hb q => hs₄.extBut b o (fun h => hb (.inl h)) (st₃.keep b o (fun h => hb (.inr h)) q)
        refine ⟨us.length + 1, Nat.lt_succ_self _, ?_⟩
        unfold CI
        refine ⟨us, done ++ [u], vs ++ [.str (lastS u) t₅], .suspended k l c' p fs' cl', c', k (.send .none), fs', rfl, by rw [← hdu]; simp, ?_, ?_, ?_, ?_, .inr ⟨k, l, p, cl', rfl, rfl⟩, ?_, ?_, ?_, ?_, ?_⟩
        · rw [List.push_toArray] at hPL₄; exact hPL₄
        · rw [List.map_append]; exact hSA.append' (.cons _ _ .nil)
        · obtain ⟨o, nm, qn, ho, r⟩ := hG₁
          exact ⟨o, nm, qn, kX _ _ (by omega) ho, r⟩
        · show s₃.gens[s.gens.size]? = _
          rw [hg₃]
          show (s₁.gens.setIfInBounds s.gens.size _)[s.gens.size]? = _
          rw [hgG]
          show ((s'.gens.setIfInBounds s.gens.size .running).setIfInBounds s.gens.size _)[s.gens.size]? = _
          rw [hgg, set_push, set_push]
          exact Array.getElem?_push_size ..
        · exact hnext _ kX
        · exact ⟨_, hn₃.at' fun o q => hs₄.extBut _ o (Ne.symm nDC) q⟩
        · intro b o q
          exact kX b o (notX b (out b o q)) (hkeep₁ b o q)
        · exact (show s₃.os = _ from st₃.os).trans (hosG.trans hos)
        · show ∃ g', s₃.gens = _
          rw [hg₃]
          show ∃ g', s₁.gens.setIfInBounds s.gens.size _ = _
          rw [hgG]
          show ∃ g', (s'.gens.setIfInBounds s.gens.size .running).setIfInBounds s.gens.size _ = _
          rw [hgg, set_push, set_push]
          exact ⟨_, rfl⟩
      · have h1 := StrsAre.length hSA
        have h2 := congrArg List.length hdu
        have h3 := units_len y.cps.toList false
        simp only [List.length_append, List.length_map, List.length_cons, Array.length_toList] at h1 h2 h3
        rw [sizeLine_eq, List.size_toArray]
        omega
end Mine

end

section
open PySem PySem.W PySem.W.X PyProof.Rows
set_option maxRecDepth 100000
namespace Mine
def sg (x : Str) : List Str := (units false x.cps.toList).map lastS
def cmpV (x y : Str) : Int := if ltS (sg x) (sg y) = true then -3 else if ltS (sg y) (sg x) = true then 2 else 0

/-- a name stored in a frame: what else stood stands -/
theorem r_st {w : World} {A : Around} {E : Value → Shared → Prop} {s : Shared} {env : Env} {m : Str → Option Value} {x : Str} {v : Value} {Q : Unit → Shared → Prop} (hn : s.heap.Ns env.locals m)
    (c : ∀ s', Stp (Is env.locals) s s' → s'.heap.Ns env.locals (put m x v) → Q () s') (hl : env.kindOf x = some .local := by rfl) (hp : (env.scope.kind == .class || (env.scope.kind == .module && env.locals != env.globals)) = false := by rfl) :
    wpAny (GM w) A (storeName env x v) Q E s :=
  wpAny_storeName_local hl hn (fun _ hn' hs' => c _ (Stp.heap fun b o hb e => hs'.extBut b o hb e) hn') hp
theorem ne_ns {h : Heap} {L b : Addr} {m : Str → Option Value} {o : Obj} (hn : h.Ns L m) (hb : h.get? b = some o) (hd : ∀ es ep, o.data ≠ .dict es ep) : b ≠ L := by
  rintro rfl
  obtain ⟨o', es, ep, e, d, _⟩ := hn
  rw [hb] at e
  cases e
  exact hd _ _ d
theorem Stp.all {L : Addr} {s s' : Shared} (st : Stp (Is L) s s') (hL : s.heap.get? L = none) : ∀ b o, s.heap.get? b = some o → s'.heap.get? b = some o :=
  fun b o e => st.keep b o (fun q => by rw [q, hL] at e; cases e) e

/-- the end of a stored comprehension: the name, the list; what stood stands -/
theorem comp_stored {w : World} {A : Around} {s s' : Shared} {env : Env} {t : Str} {D C : Addr} {n : Nat} {vs : List Value} {m : Str → Option Value} {Q : Shared → Heap → Prop}
    (hn : s.heap.Ns env.locals m) (st : Stp No s s') (hC : s.heap.get? C = none) (hD : s'.heap.get? D = some (listObj vs n)) (hCn : ∃ m, s'.heap.Ns C m)
    (c : ∀ s₂ h₂, Stp (Is env.locals) s { s₂ with heap := h₂ } → h₂.Ns env.locals (put m t (.ref D)) → h₂.get? D = some (listObj vs n) → (∀ b o, s'.heap.get? b = some o → (∀ es ep, o.data ≠ .dict es ep) → h₂.get? b = some o) → Q s₂ h₂)
    (hl : env.kindOf t = some .local := by rfl) (hp : (env.scope.kind == .class || (env.scope.kind == .module && env.locals != env.globals)) = false := by rfl) :
    wpAny (GM w) A (storeName env t (.ref D)) (fun _ s'' => (∃ m, s''.heap.Ns C m) ∧ ∀ h', Heap.SameBut C s''.heap h' → Q s'' h') (fun _ _ => False) s' := by
  have hn' : s'.heap.Ns env.locals m := hn.keeps fun b o e => st.keep b o (fun h => h) e
  obtain ⟨mC, hCn⟩ := hCn
  have hCL : C ≠ env.locals := by
    rintro rfl
    obtain ⟨o, _, _, e, _⟩ := hn
    rw [hC] at e; cases e
  refine r_st hn' (fun s'' st'' hn'' => ?_) hl hp
  refine ⟨⟨mC, hCn.at' fun o q => st''.keep _ o hCL q⟩, fun h' hs' => c _ _ ⟨fun b o hb e => ?_, st''.os.trans st.os, fun i g e => st''.gens i g (st.gens i g e), fun e => st''.bare (st.bare e)⟩ (hn''.at' fun o q => hs'.extBut _ o hCL.symm q) ?_ ?_⟩
  · exact hs'.extBut b o (fun q => by rw [q, hC] at e; cases e) (st''.keep b o hb (st.keep b o (fun h => h) e))
  · exact hs'.extBut _ _ (ne_ns hCn hD (fun _ _ h => by cases h)) (st''.keep _ _ (ne_ns hn' hD (fun _ _ h => by cases h)) hD)
  · intro b o e hd
    exact hs'.extBut _ _ (ne_ns hCn e hd) (st''.keep _ _ (ne_ns hn' e hd) e)

theorem compare_ok {w : World} {A : Around} {s : Shared} {x y : Str} {tx ty : Tok} {R : Result → Shared → Prop} (rm : Rm 6 A) (G : Grd s.heap) (hx : x.cps.size ≤ 1000) (hy : y.cps.size ≤ 1000)
    (c : ∀ s' t, Stp No s s' → R (.ok (.ret (.int (cmpV x y) t))) s') :
    codeAny (GM w) A (.call (.ref 49) ⟨[.str x tx, .str y ty], []⟩) R s := by
  refine enter rm G.lim G.compare (binds := [("left", .str x tx), ("right", .str y ty)]) (fun _ _ _ => rfl) (locs rfl) (fun cd h₁ tk F => ?_)
  generalize hL : s.heap.objs.size = L at F ⊢
  have hLn : s.heap.get? L = none := by rw [← hL]; exact Heap.get?_none_of_le (Nat.le_refl _)
  have rm' : Rm 5 (A.deeper (envC L cd)) := rm.deeper
  have hn := F.ns
  have st₀ : Stp (Is L) s { s with heap := h₁, toks := tk } := Stp.heap fun b o _ e => F.keep b o e
  have hn : ({ s with heap := h₁, toks := tk } : Shared).heap.Ns L (fun z => [((("left" : Str)), Value.str x tx), ("right", .str y ty)].reverse.lookup z) := hn
  revert hn st₀
  generalize ({ s with heap := h₁, toks := tk } : Shared) = s₁
  generalize hm : (fun z => [((("left" : Str)), Value.str x tx), ("right", .str y ty)].reverse.lookup z) = m
  have e₁ : m "left" = some (.str x tx) := by rw [← hm]; rfl
  have e₂ : m "right" = some (.str y ty) := by rw [← hm]; rfl
  clear hm F
  intro st₀ hn
  refine wpAny_execs_cons ?_
  refine r_compAsg (cl := []) (closureFor_none (by decide)) (by decide) rfl (by decide) ?_
  refine comp_signs (rm'.le (by decide)) (G.keeps (st₀.all hLn)) hn e₁ rfl (by decide) rfl hx (fun s₂ D₁ C₁ n₁ vs₁ st₁ hC₁ hD₁ hs₁ hCn₁ => ?_)
  refine comp_stored (env := envC L cd) (t := "mine") hn st₁ hC₁ hD₁ hCn₁ ?_
  intro s₃ h₃ st₃
  revert st₃
  rw [show h₃ = ({ s₃ with heap := h₃ } : Shared).heap from rfl]
  generalize ({ s₃ with heap := h₃ } : Shared) = s₃
  intro st₃ hn₃ hD₃ _
  have st₃ : Stp (Is L) s s₃ := st₀.trans st₃
  clear hCn₁ hC₁ st₁ hD₁ hn
  dsimp only
  refine wpAny_execs_cons ?_
  refine r_compAsg (cl := []) (closureFor_none (by decide)) (by decide) rfl (by decide) ?_
  refine comp_signs (rm'.le (by decide)) (G.keeps (st₃.all hLn)) hn₃ (by rw [put_ne (by decide)]; exact e₂) rfl (by decide) rfl hy (fun s₄ D₂ C₂ n₂ vs₂ st₄ hC₂ hD₂ hs₂ hCn₂ => ?_)
  refine comp_stored (env := envC L cd) (t := "other") hn₃ st₄ hC₂ hD₂ hCn₂ ?_
  intro s₅ h₅ st₅
  revert st₅
  rw [show h₅ = ({ s₅ with heap := h₅ } : Shared).heap from rfl]
  generalize ({ s₅ with heap := h₅ } : Shared) = s₅
  intro st₅ hn₅ hD₅ hk₅
  have hD₁ : s₅.heap.get? D₁ = some (listObj vs₁ n₁) := hk₅ _ _ (st₄.keep _ _ (fun h => h) hD₃) (fun _ _ h => by cases h)
  have st₅ : Stp (Is L) s s₅ := st₃.trans st₅
  clear hCn₂ hC₂ st₄ hD₂ hn₃ hk₅ st₃
  dsimp only
  have hs₁ : StrsAre vs₁ (sg x) := hs₁
  have hs₂ : StrsAre vs₂ (sg y) := hs₂
  have e₃ : put (put m "mine" (.ref D₁)) "other" (.ref D₂) "mine" = some (.ref D₁) := by rw [put_ne (by decide), put_self]
  have e₄ : put (put m "mine" (.ref D₁)) "other" (.ref D₂) "other" = some (.ref D₂) := put_self
  have fin : ∀ s' t i, Sm s₅ s' → i = cmpV x y → R (.ok (.ret (.int i t))) s' := by
    rintro s' t i ⟨tk, rfl⟩ rfl
    exact c _ t (st₅.fresh fun b hb => by rw [hb]; exact hLn).tok
  refine wpAny_execs_cons ?_
  refine wpAny_If ?_
  refine wpAny_isTrue_Compare1 ?_
  refine r_ld hn₅ e₃ ?_
  refine r_ld hn₅ e₄ ?_
  refine r_list_lt hs₁ hs₂ hD₁ hD₅ rm'.units ?_
  refine wpAny_truthy_bool ?_
  cases h₁ : ltS (sg x) (sg y) with
  | true =>
    rw [if_pos rfl]
    refine wpAny_execs_cons ?_
    refine wpAny_Return_some ?_
    refine wpAny_UnaryOp ?_
    refine r_int Sm.tokOk Sm.refl ?_; rintro t₃ _ ⟨tk₃, rfl⟩
    refine r_neg (I := Sm s₅) Sm.tokOk ⟨_, rfl⟩ ?_; intro t₄ s' hs'
    exact fin _ _ _ hs' (by simp [cmpV, h₁])
  | false =>
    rw [if_neg (by simp)]
    refine wpAny_execs_nil ?_
    refine wpAny_execs_cons ?_
    refine wpAny_If ?_
    refine wpAny_isTrue_Compare1 ?_
    refine r_ld hn₅ e₄ ?_
    refine r_ld hn₅ e₃ ?_
    refine r_list_lt hs₂ hs₁ hD₅ hD₁ rm'.units ?_
    refine wpAny_truthy_bool ?_
    cases h₂ : ltS (sg y) (sg x) with
    | true =>
      rw [if_pos rfl]
      refine wpAny_execs_cons ?_
      refine wpAny_Return_some ?_
      refine r_int Sm.tokOk Sm.refl ?_; intro t₄ s' hs'
      exact fin _ _ _ hs' (by simp [cmpV, h₁, h₂])
    | false =>
      rw [if_neg (by simp)]
      refine wpAny_execs_nil ?_
      refine wpAny_execs_cons ?_
      refine wpAny_Return_some ?_
      refine r_int Sm.tokOk Sm.refl ?_; intro t₄ s' hs'
      exact fin _ _ _ hs' (by simp [cmpV, h₁, h₂])
end Mine

end

section
open PySem PySem.W PySem.W.X PyProof.Rows
set_option maxRecDepth 100000
namespace Mine
theorem sub_tuple : isSubtype (.type "tuple") (.type "tuple") = pure true := by rw [isSubtype_type]; kernel_rfl
theorem sub_dict : isSubtype (.type "dict") (.type "dict") = pure true := by rw [isSubtype_type]; kernel_rfl
theorem sub_type : isSubtype (.type "type") (.type "type") = pure true := by rw [isSubtype_type]; kernel_rfl
theorem sub_meta : isSubtype (.type "type") (.type ((Manifest.find? "object").elim "type" fun x => x.metatype)) = pure true := by rw [isSubtype_type]; kernel_rfl
theorem turned_obj : Builtin.notOverATurnedClass [.type "object"] = pure () := by kernel_rfl
theorem ext_obj : Builtin.extendedBase [.type "object"] = pure (.type "object") := by kernel_rfl
theorem best_obj : Builtin.Slots.bestBase [.type "object"] = pure (.type "object") := by kernel_rfl
theorem names_obj : Builtin.Slots.slotNamesOf (.type "object") = pure [] := by kernel_rfl
theorem dict_obj : Builtin.Slots.givesDict (.type "object") = pure false := by kernel_rfl
theorem weak_obj : Builtin.Slots.givesWeak (.type "object") = pure false := by kernel_rfl
theorem var_obj : Builtin.Slots.varSize (.type "object") = pure false := by kernel_rfl


section
variable {M : Model} {A : Around} {E : Value → Shared → Prop} {h : Heap} {g : Array GenState} {d : Drawn} {t : Nat} {os : OsState}
theorem k_alloc {o : Obj} {Q : Addr → Shared → Prop} (c : ∀ h' N, h'.get? N = some o → (∀ b o', h.get? b = some o' → h'.get? b = some o') → h.get? N = none → Q N ⟨h', g, d, t, os⟩) (ho : o.isFreed = false := by rfl) :
    wpAny M A (alloc o) Q E ⟨h, g, d, t, os⟩ :=
  wpAny_alloc (c _ _ (Heap.get?_push_size h ho) (fun _ _ e => Heap.get?_push_of_some _ e) (Heap.get?_none_of_le (Nat.le_refl _)))
theorem k_new {T : String} {data : Data} {dict : Option Addr} {Q : Value → Shared → Prop} (c : ∀ h' N, h'.get? N = some { cls := .type T, dict, data } → (∀ b o', h.get? b = some o' → h'.get? b = some o') → h.get? N = none → Q (.ref N) ⟨h', g, d, t, os⟩)
    (hd : sizeOk data := by size_fits) (ho : ({ cls := .type T, dict, data } : Obj).isFreed = false := by rfl) : wpAny M A (newObj (.type T) data dict) Q E ⟨h, g, d, t, os⟩ :=
  wpAny_newObj_type (c _ _ (Heap.get?_push_size h ho) (fun _ _ e => Heap.get?_push_of_some _ e) (Heap.get?_none_of_le (Nat.le_refl _))) hd
theorem k_upd {a : Addr} {p : Option Value} {f : Obj → Obj} {o o' : Obj} {Q : Unit → Shared → Prop} (ho : h.get? a = some o) (e : f o = o') (c : ∀ h', h'.get? a = some o' → (∀ b, b ≠ a → h'.get? b = h.get? b) → Q () ⟨h', g, d, t, os⟩) (hf : o'.isFreed = false := by rfl) :
    wpAny M A (updatePart a p f) Q E ⟨h, g, d, t, os⟩ :=
  wpAny_updatePart ho (c _ (e ▸ Heap.get?_update_self f ho (e ▸ hf)) fun b hb => Heap.get?_update_other h f (Ne.symm hb))
theorem k_update {a : Addr} {f : Obj → Obj} {o o' : Obj} {Q : Unit → Shared → Prop} (ho : h.get? a = some o) (e : f o = o') (c : ∀ h', h'.get? a = some o' → (∀ b, b ≠ a → h'.get? b = h.get? b) → Q () ⟨h', g, d, t, os⟩) (hf : o'.isFreed = false := by rfl) :
    wpAny M A (update a f) Q E ⟨h, g, d, t, os⟩ :=
  wpAny_update ho (c _ (e ▸ Heap.get?_update_self f ho (e ▸ hf)) fun b hb => Heap.get?_update_other h f (Ne.symm hb))
def strKey : Value → Bool
  | .str .. => true
  | _ => false
theorem strKeys_of {es : Array DictEntry} (hk : es.toList.all (fun e => strKey e.key) = true) : StrKeys es := fun e he => by
  have := List.all_eq_true.mp hk e (by simpa using he)
  revert this
  cases e.key <;> simp [strKey]
theorem k_nsGet {a : Addr} {name : Str} {cl : Value} {dd : Option Addr} {es : Array DictEntry} {ep : Nat} {sl : Array (Option Value)} {r : Option Value} {Q : Option Value → Shared → Prop} (ho : h.get? a = some ⟨cl, dd, .dict es ep, sl⟩)
    (hk : es.toList.all (fun e => strKey e.key) = true) (e : nsFind es name = r) (c : Q r ⟨h, g, d, t, os⟩) : wpAny M A (nsGet a name) Q E ⟨h, g, d, t, os⟩ :=
  wpAny_nsGet (m := nsFind es) ⟨_, es, ep, ho, rfl, strKeys_of hk, fun _ => rfl⟩ (by rw [e]; exact c)
theorem k_nsDel {a : Addr} {name : Str} {cl : Value} {dd : Option Addr} {es : Array DictEntry} {ep : Nat} {sl : Array (Option Value)} {o' : Obj} {Q : Bool → Shared → Prop} (ho : h.get? a = some ⟨cl, dd, .dict es ep, sl⟩)
    (e : nsHas name ⟨cl, dd, .dict es ep, sl⟩ = pure true) (e' : Obj.dropName name ⟨cl, dd, .dict es ep, sl⟩ = o') (c : ∀ h', h'.get? a = some o' → (∀ b, b ≠ a → h'.get? b = h.get? b) → Q true ⟨h', g, d, t, os⟩) (hf : o'.isFreed = false := by rfl) :
    wpAny M A (nsDel a name) Q E ⟨h, g, d, t, os⟩ := by
  unfold nsDel
  refine wpAny_bind (wpAny_loadPart ho ?_)
  refine wpAny_bind (wpAny_of_eq e ?_)
  refine wpAny_ite_true rfl ?_
  exact wpAny_bind (k_upd ho e' (fun h' x y => wpAny_pure (c h' x y)) hf)
theorem k_nsSet {a : Addr} {name : Str} {v : Value} {cl : Value} {dd : Option Addr} {es : Array DictEntry} {ep : Nat} {sl : Array (Option Value)} {Q : Unit → Shared → Prop} (ho : h.get? a = some ⟨cl, dd, .dict es ep, sl⟩)
    (hr : aRefKeyMayBeTheName name es = false) (c : ∀ h' i t', h'.get? a = some (Obj.putName name i (.str name t') v ⟨cl, dd, .dict es ep, sl⟩) → (∀ b, b ≠ a → h'.get? b = h.get? b) → Q () ⟨h', g, d, t + 1, os⟩)
    (hf : ∀ i t', (Obj.putName name i (.str name t') v ⟨cl, dd, .dict es ep, sl⟩).isFreed = false) : wpAny M A (nsSet a name v) Q E ⟨h, g, d, t, os⟩ := by
  unfold nsSet strHash
  refine wpAny_bind (wpAny_bind (wpAny_askSetting (wpAny_pure ?_)))
  refine wpAny_bind (wpAny_mkText ?_)
  refine wpAny_bind (wpAny_loadPart ho ?_)
  dsimp only
  refine wpAny_ite_false (by simp [hr]) ?_
  exact k_upd ho rfl (fun h' x y => c h' _ _ x y) (hf _ _)
end

set_option maxHeartbeats 0 in
theorem slots_read {w : World} {A : Around} {E : Value → Shared → Prop} {h : Heap} {g : Array GenState} {d : Drawn} {tk : Nat} {os : OsState} {sl : Addr} {t : Tok} {es : Array DictEntry} {e : DictEntry} {ep : Nat} {Q : Builtin.Slots.Plan → Shared → Prop}
    (he : es.find? (·.key.isStr "__slots__") = some e) (hv : e.val = .ref sl) (ho : es.any (·.key.isStr "obj") = false)
    (hl : h.get? sl = some { cls := .type "list", data := .seq #[.str "obj" t] ep })
    (c : ∀ h', (∀ b o', h.get? b = some o' → h'.get? b = some o') → Q { names := ["obj"], dict := false, weak := false, inherited := [] } ⟨h', g, d, tk, os⟩) :
    wpAny (model PySem.Challenge.pw_nb0072_01 w) A (Builtin.Slots.read "K" [.type "object"] es) Q E ⟨h, g, d, tk, os⟩ := by
  unfold Builtin.Slots.read
  refine wpAny_bind (wpAny_of_eq best_obj ?_)
  refine wpAny_bind (wpAny_of_eq names_obj ?_)
  refine wpAny_bind (wpAny_of_eq dict_obj ?_)
  refine wpAny_bind (wpAny_of_eq weak_obj ?_)
  refine wpAny_bind (wpAny_of_eq var_obj ?_)
  rw [he]
  dsimp only
  refine wpAny_bind (wpAny_rule ?_)
  rw [hv]
  iterate 7 wp_step
  refine wpAny_collect_seq sl (.inl rfl) hl rfl rfl (fun h' k => ?_)
  have h1 := var_obj
  have h2 : Builtin.Slots.isIdentifier "obj" = some true := by decide +kernel
  have h3 : ((Str.ofString "obj") == (Str.ofString "__dict__")) = false := by decide +kernel
  have h4 : ((Str.ofString "obj") == (Str.ofString "__weakref__")) = false := by decide +kernel
  have h5 : Builtin.Slots.mangle "K" "obj" = "obj" := by decide +kernel
  have h6 : ((Str.ofString "obj") == (Str.ofString "__del__")) = false := by decide +kernel
  repeat wp_step
  rw [h2]
  repeat wp_step
  refine Eq.mp (congrArg (fun p => Q p _) ?_) (c h' k)
  kernel_rfl
end Mine

end

section
open PySem PySem.W PySem.W.X PyProof.Rows
set_option maxRecDepth 100000
namespace Mine
theorem look_iter : typeLookup (.type "dict") "__iter__" = pure (some (.builtin "dict.__iter__")) := by rw [typeLookup_type, builtinLookup_eq_fast]; kernel_rfl
theorem sub_list : isSubtype (.type "list") (.type "list") = pure true := by rw [isSubtype_type]; kernel_rfl

set_option genInjectivity false in
set_option genSizeOf false in
/-- what the class body leaves in its namespace -/
structure Ent where
  hs : Nat → Int
  ks : Nat → Tok
  q0 : Str
  q1 : Str
  t0 : Tok
  t1 : Tok
  t2 : Tok
  ln : Int
  sl : Addr
  f4 : Addr
  f5 : Addr
  f6 : Addr
  f7 : Addr
  f8 : Addr
  f9 : Addr
  st : Addr
namespace Ent
def tail (e : Ent) : List DictEntry := [⟨e.hs 2, .str "__firstlineno__" (e.ks 2), .int e.ln e.t2⟩, ⟨e.hs 3, .str "__slots__" (e.ks 3), .ref e.sl⟩, ⟨e.hs 4, .str "__init__" (e.ks 4), .ref e.f4⟩, ⟨e.hs 5, .str "__lt__" (e.ks 5), .ref e.f5⟩, ⟨e.hs 6, .str "__gt__" (e.ks 6), .ref e.f6⟩,
  ⟨e.hs 7, .str "__eq__" (e.ks 7), .ref e.f7⟩, ⟨e.hs 8, .str "__le__" (e.ks 8), .ref e.f8⟩, ⟨e.hs 9, .str "__ge__" (e.ks 9), .ref e.f9⟩, ⟨e.hs 10, .str "__hash__" (e.ks 10), .none⟩, ⟨e.hs 11, .str "__static_attributes__" (e.ks 11), .ref e.st⟩]
def es1 (e : Ent) : Array DictEntry := (⟨e.hs 0, .str "__module__" (e.ks 0), .str e.q0 e.t0⟩ :: ⟨e.hs 1, .str "__qualname__" (e.ks 1), .str e.q1 e.t1⟩ :: e.tail).toArray
def es2 (e : Ent) : Array DictEntry := (⟨e.hs 0, .str "__module__" (e.ks 0), .str e.q0 e.t0⟩ :: e.tail).toArray
def es3 (e : Ent) (i : Int) (k : Tok) (D : Addr) : Array DictEntry := (⟨e.hs 0, .str "__module__" (e.ks 0), .str e.q0 e.t0⟩ :: (e.tail ++ [⟨i, .str "obj" k, .ref D⟩])).toArray
def es4 (e : Ent) (i : Int) (k : Tok) (D : Addr) (j : Int) (l : Tok) : Array DictEntry := (⟨e.hs 0, .str "__module__" (e.ks 0), .str e.q0 e.t0⟩ :: (e.tail ++ [⟨i, .str "obj" k, .ref D⟩, ⟨j, .str "__doc__" l, .none⟩])).toArray
variable (e : Ent) (i : Int) (k : Tok) (D : Addr) (j : Int) (l : Tok)
theorem slots : e.es1.find? (·.key.isStr "__slots__") = some ⟨e.hs 3, .str "__slots__" (e.ks 3), .ref e.sl⟩ := by kernel_rfl
theorem noObj : e.es1.any (·.key.isStr "obj") = false := by kernel_rfl
theorem notEmpty : e.es1.isEmpty = false := by kernel_rfl
theorem size : sizeOk (.dict e.es1) := by show _ ≤ _; exact (by decide : (12 : Nat) ≤ sizeLine + 1)
theorem hasMod : e.es1.any (·.key.isStr "__module__") = true := by kernel_rfl
theorem noDel : e.es1.any (·.key.isStr "__del__") = false := by kernel_rfl
theorem keys1 : e.es1.toList.all (fun e => strKey e.key) = true := by kernel_rfl
theorem keys2 : e.es2.toList.all (fun e => strKey e.key) = true := by kernel_rfl
theorem keys3 : (e.es3 i k D).toList.all (fun e => strKey e.key) = true := by kernel_rfl
theorem keys4 : (e.es4 i k D j l).toList.all (fun e => strKey e.key) = true := by kernel_rfl
theorem qual1 : nsFind e.es1 "__qualname__" = some (.str e.q1 e.t1) := by kernel_rfl
theorem doc1 : nsFind e.es1 "__doc__" = none := by kernel_rfl
theorem has1 : nsHas "__qualname__" ⟨.type "dict", none, .dict e.es1 0, #[]⟩ = pure true := by kernel_rfl
theorem drop1 : Obj.dropName "__qualname__" ⟨.type "dict", none, .dict e.es1 0, #[]⟩ = ⟨.type "dict", none, .dict e.es2 1, #[]⟩ := by kernel_rfl
theorem new2 : nsFind e.es2 "__new__" = none := by kernel_rfl
theorem sub2 : nsFind e.es2 "__init_subclass__" = none := by kernel_rfl
theorem item2 : nsFind e.es2 "__class_getitem__" = none := by kernel_rfl
theorem cell2 : nsFind e.es2 "__classcell__" = none := by kernel_rfl
theorem dcell2 : nsFind e.es2 "__classdictcell__" = none := by kernel_rfl
theorem obj2 : nsFind e.es2 "obj" = none := by kernel_rfl
theorem ref2 : aRefKeyMayBeTheName "obj" e.es2 = false := by kernel_rfl
theorem put2 : Obj.putName "obj" i (.str "obj" k) (.ref D) ⟨.type "dict", none, .dict e.es2 1, #[]⟩ = ⟨.type "dict", none, .dict (e.es3 i k D) 2, #[]⟩ := by kernel_rfl
theorem doc3 : nsFind (e.es3 i k D) "__doc__" = none := by kernel_rfl
theorem ref3 : aRefKeyMayBeTheName "__doc__" (e.es3 i k D) = false := by kernel_rfl
theorem put3 : Obj.putName "__doc__" j (.str "__doc__" l) .none ⟨.type "dict", none, .dict (e.es3 i k D) 2, #[]⟩ = ⟨.type "dict", none, .dict (e.es4 i k D j l) 3, #[]⟩ := by kernel_rfl
theorem eq4 : nsFind (e.es4 i k D j l) "__eq__" = some (.ref e.f7) := by kernel_rfl
theorem hash4 : nsFind (e.es4 i k D j l) "__hash__" = some .none := by kernel_rfl
end Ent
end Mine

end

section
open PySem PySem.W PySem.W.X PyProof.Rows
set_option maxRecDepth 100000
namespace Mine
theorem ite_f {M : Model} {A : Around} {α : Type} {b : Bool} {t u : Sem α} {Q : α → Shared → Prop} {E : Value → Shared → Prop} {s : Shared} (hb : b = false) (h : wpAny M A u Q E s) : wpAny M A (if b = true then t else u) Q E s := by rw [if_neg (by simp [hb])]; exact h
theorem ite_t {M : Model} {A : Around} {α : Type} {b : Bool} {t u : Sem α} {Q : α → Shared → Prop} {E : Value → Shared → Prop} {s : Shared} (hb : b = true) (h : wpAny M A t Q E s) : wpAny M A (if b = true then t else u) Q E s := by rw [if_pos hb]; exact h
theorem ite_nt {M : Model} {A : Around} {α : Type} {b : Bool} {t u : Sem α} {Q : α → Shared → Prop} {E : Value → Shared → Prop} {s : Shared} (hb : b = true) (h : wpAny M A u Q E s) : wpAny M A (if (!b) = true then t else u) Q E s := by rw [if_neg (by simp [hb])]; exact h
theorem ite_nf {M : Model} {A : Around} {α : Type} {b : Bool} {t u : Sem α} {Q : α → Shared → Prop} {E : Value → Shared → Prop} {s : Shared} (hb : b = false) (h : wpAny M A t Q E s) : wpAny M A (if (!b) = true then t else u) Q E s := by rw [if_pos (by simp [hb])]; exact h
theorem k_slot {M : Model} {A : Around} {E : Value → Shared → Prop} {h : Heap} {g : Array GenState} {d : Drawn} {t : Nat} {os : OsState} {a : Addr} {i : Nat} {v : Option Value} {o o' : Obj} {Q : Unit → Shared → Prop} (ho : h.get? a = some o) (e : { o with slots := (o.slots ++ Array.replicate (i + 1 - o.slots.size) none).setIfInBounds i v } = o')
    (c : ∀ h', h'.get? a = some o' → (∀ b, b ≠ a → h'.get? b = h.get? b) → Q () ⟨h', g, d, t, os⟩) (hi : i < sizeLine := by decide) (hf : o'.isFreed = false := by rfl) : wpAny M A (setSlotAt a i v) Q E ⟨h, g, d, t, os⟩ := by
  unfold setSlotAt
  rw [if_neg (by omega)]
  exact k_upd ho e c hf
theorem kp {h h1 h2 : Heap} {a : Addr} (hk : ∀ b o, h.get? b = some o → h1.get? b = some o) (hn : h.get? a = none) (sm : ∀ b, b ≠ a → h2.get? b = h1.get? b) : ∀ b o, h.get? b = some o → h2.get? b = some o :=
  fun b o e => (sm b (fun q => by rw [q, hn] at e; cases e)).trans (hk b o e)
theorem look_mro : typeLookup (.type "type") "mro" = pure (some (.builtin "type.mro")) := by rw [typeLookup_type, builtinLookup_eq_fast]; kernel_rfl
theorem lin_obj : Builtin.linearize [.type "object"] mroOf = pure [.type "object"] := by kernel_rfl
theorem made_obj : Bind.madeBy (.type "object") = pure (some "object.__new__") := by kernel_rfl
section
variable {M : Model} {A : Around} {E : Value → Shared → Prop} {h : Heap} {g : Array GenState} {d : Drawn} {t : Nat} {os : OsState}
theorem k_cls {a : Addr} {f : ClassData → ClassData} {cl : Value} {dd : Option Addr} {cd cd' : ClassData} {sl : Array (Option Value)} {Q : Unit → Shared → Prop} (ho : h.get? a = some ⟨cl, dd, .cls cd, sl⟩) (e : f cd = cd') (hp : (Data.cls cd').pastItsLine = none)
    (c : ∀ h', h'.get? a = some ⟨cl, dd, .cls cd', sl⟩ → (∀ b, b ≠ a → h'.get? b = h.get? b) → Q () ⟨h', g, d, t, os⟩) : wpAny M A (updateCls a f) Q E ⟨h, g, d, t, os⟩ := by
  unfold updateCls
  refine wpAny_bind (wpAny_load ho ?_)
  refine wpAny_bind (k_update (o' := ⟨cl, dd, .cls cd', sl⟩) ho (by rw [← e]; rfl) (fun h' x y => ?_))
  exact wpAny_lookBehind x hp (c h' x y)
theorem k_look {C ns : Addr} {name : Str} {cl : Value} {dd : Option Addr} {cd : ClassData} {sl : Array (Option Value)} {cl' : Value} {dd' : Option Addr} {es : Array DictEntry} {ep : Nat} {sl' : Array (Option Value)} {r : Option Value} {Q : Option Value → Shared → Prop}
    (hC : h.get? C = some ⟨cl, dd, .cls cd, sl⟩) (hm : cd.mro = [.ref C, .type "object"]) (hs : cd.ns = ns) (hn : h.get? ns = some ⟨cl', dd', .dict es ep, sl'⟩) (hk : es.toList.all (fun e => strKey e.key) = true)
    (e : (nsFind es name).or (builtinOwn "object" name) = r) (c : Q r ⟨h, g, d, t, os⟩) : wpAny M A (typeLookup (.ref C) name) Q E ⟨h, g, d, t, os⟩ := by
  subst hs
  unfold typeLookup
  refine wpAny_bind ?_
  refine wpAny_bind ?_
  refine wpAny_bind ?_
  refine wpAny_load hC ?_
  refine wpAny_pure ?_
  refine wpAny_pure ?_
  rw [hm]
  refine wpAny_bind ?_
  rw [List.forIn_cons]
  refine wpAny_bind ?_
  refine wpAny_bind ?_
  refine wpAny_bind ?_
  refine wpAny_bind ?_
  refine wpAny_load hC ?_
  refine wpAny_pure ?_
  refine k_nsGet hn hk rfl ?_
  cases hx : nsFind es name with
  | some v =>
    rw [hx] at e
    refine wpAny_pure ?_
    refine wpAny_pure ?_
    refine wpAny_pure ?_
    rw [← e] at c
    exact c
  | none =>
    rw [hx] at e
    refine wpAny_pure ?_
    dsimp only
    rw [List.forIn_cons]
    refine wpAny_bind ?_
    refine wpAny_bind ?_
    refine wpAny_pure ?_
    have e : builtinOwn "object" name = r := e
    rw [e]
    cases r with
    | some v => exact wpAny_pure (wpAny_pure (wpAny_pure c))
    | none => exact wpAny_pure (wpAny_pure (wpAny_pure c))
theorem k_maker {C ns : Addr} {cl : Value} {dd : Option Addr} {cd : ClassData} {sl : Array (Option Value)} {cl' : Value} {dd' : Option Addr} {es : Array DictEntry} {ep : Nat} {sl' : Array (Option Value)} {Q : Unit → Shared → Prop}
    (hC : h.get? C = some ⟨cl, dd, .cls cd, sl⟩) (hm : cd.mro = [.ref C, .type "object"]) (hs : cd.ns = ns) (hn : h.get? ns = some ⟨cl', dd', .dict es ep, sl'⟩) (hk : es.toList.all (fun e => strKey e.key) = true)
    (e : nsFind es "__new__" = none) (h4 : sl[4]?.join = some (.builtin "object.__new__")) (c : Q () ⟨h, g, d, t, os⟩) : wpAny M A (Bind.refreshMaker C) Q E ⟨h, g, d, t, os⟩ := by
  unfold Bind.refreshMaker slotAt
  refine wpAny_bind ?_
  refine wpAny_bind (wpAny_loadPart hC ?_)
  refine wpAny_pure ?_
  refine ite_f (by rw [h4]; rfl) ?_
  refine wpAny_bind ?_
  refine k_look (r := some (.builtin "object.__new__")) hC hm hs hn hk (by rw [e]; kernel_rfl) ?_
  refine ite_f (by decide +kernel) ?_
  exact wpAny_pure c
theorem k_install {C ns : Addr} {cl : Value} {dd : Option Addr} {cd : ClassData} {sl : Array (Option Value)} {e : Ent} {Q : Unit → Shared → Prop}
    (hC : h.get? C = some ⟨cl, dd, .cls cd, sl⟩) (hs : cd.subclasses = []) (hn : h.get? ns = some ⟨.type "dict", none, .dict e.es2 1, #[]⟩) (hne : ns ≠ C)
    (c : ∀ h' D i k j t', h'.get? C = some ⟨cl, dd, .cls { cd with hasDict := false, slotNames := ["obj"] }, sl⟩ → h'.get? ns = some ⟨.type "dict", none, .dict (e.es3 i k D) 2, #[]⟩ →
      h'.get? D = some { cls := .type "member_descriptor", data := .fields #[.str "obj" j, .ref C, .builtin "proto.slot", .builtin "proto.slot#set", rawInt 0] } →
      (∀ b o, b ≠ C → b ≠ ns → h.get? b = some o → h'.get? b = some o) → h.get? D = none → Q () ⟨h', g, d, t', os⟩) :
    wpAny M A (Builtin.Slots.install (.ref C) ns [.type "object"] { names := ["obj"], dict := false, weak := false }) Q E ⟨h, g, d, t, os⟩ := by
  unfold Builtin.Slots.install
  have g1 := e.obj2
  have g2 := e.ref2
  iterate 17 (first | with_reducible refine k_nsGet hn e.keys2 (by assumption) ?_ | with_reducible refine ite_f (by assumption) ?_ | wp_step)
  refine wpAny_bind (k_alloc (fun h' D hD k' hDn => ?_))
  have hn' := k' _ _ hn
  have hC' := k' _ _ hC
  have hDC : D ≠ C := fun q => by rw [q, hC] at hDn; cases hDn
  have hDs : D ≠ ns := fun q => by rw [q, hn] at hDn; cases hDn
  iterate 3 wp_step
  unfold nsSetByValue
  refine wpAny_bind ?_
  refine wpAny_loadPart hn' ?_
  dsimp only
  refine ite_f (by kernel_rfl) ?_
  refine k_nsSet hn' g2 (fun h2 i k hn2 s2 => ?_) (fun i k => by rw [e.put2]; rfl)
  rw [e.put2] at hn2
  have hC2 := (s2 _ hne.symm).trans hC'
  have hD2 := (s2 _ hDs).trans hD
  iterate 6 wp_step
  refine wpAny_of_eq (a := false) (by kernel_rfl) ?_
  rw [if_neg (by decide)]
  refine k_cls hC2 rfl (by show (if _ then _ else _) = none; rw [hs]; kernel_rfl) (fun h3 hC3 s3 => ?_)
  refine c h3 D i k t (t + 1 + 1) hC3 ((s3 _ hne).trans hn2) ((s3 _ hDC).trans hD2) (fun b o hb hb' x => ?_) hDn
  exact (s3 _ hb).trans ((s2 _ hb').trans (k' _ _ x))
end
end Mine

end

section
open PySem PySem.W PySem.W.X PyProof.Rows
set_option maxRecDepth 100000
namespace Mine
section
variable {M : Model} {A : Around} {E : Value → Shared → Prop} {s : Shared}
/-- a loop whose turns change nothing -/
theorem loop_keep {α β : Type} {f : α → β → Sem (ForInStep β)} {b : β} {Q : β → Shared → Prop} : ∀ {l : List α}, (∀ x ∈ l, ∀ Q' : ForInStep β → Shared → Prop, Q' (.yield b) s → wpAny M A (f x b) Q' E s) → Q b s → wpAny M A (forIn l b f) Q E s
  | [], _, c => wpAny_pure c
  | x :: l, hf, c => by
    rw [List.forIn_cons]
    refine wpAny_bind (hf x List.mem_cons_self _ ?_)
    exact loop_keep (fun y hy => hf y (List.mem_cons_of_mem _ hy)) c
theorem k_subtype {C : Addr} {cl : Value} {dd : Option Addr} {cd : ClassData} {sl : Array (Option Value)} {Q : Bool → Shared → Prop} (hC : s.heap.get? C = some ⟨cl, dd, .cls cd, sl⟩) (hm : cd.mro = [.ref C, .type "object"]) (c : Q true s) :
    wpAny M A (isSubtype (.ref C) (.ref C)) Q E s := by
  unfold isSubtype
  refine wpAny_bind ?_
  refine wpAny_bind ?_
  refine wpAny_bind ?_
  refine wpAny_load hC ?_
  refine wpAny_pure ?_
  refine wpAny_pure ?_
  rw [hm]
  refine wpAny_pure ?_
  simpa using c
end
theorem super_cls {w : World} {A : Around} {E : Value → Shared → Prop} {h : Heap} {g : Array GenState} {d : Drawn} {t : Nat} {os : OsState} {C : Addr} {cl : Value} {dd : Option Addr} {cd : ClassData} {sl : Array (Option Value)} {Q : Value → Shared → Prop}
    (hC : h.get? C = some ⟨cl, dd, .cls cd, sl⟩) (hm : cd.mro = [.ref C, .type "object"])
    (hq : ∀ h' so, h'.get? so = some { cls := .type "super", dict := none, data := .fields #[.ref C, .ref C, .ref C], slots := #[] } → (∀ y o, h.get? y = some o → h'.get? y = some o) → Q (.ref so) ⟨h', g, d, t, os⟩) :
    wpAny (model PySem.Challenge.pw_nb0072_01 w) A (call (.type "super") [.ref C, .ref C]) Q E ⟨h, g, d, t, os⟩ := by
  refine ks_callType_codesW (Q₁ := fun obj s₁ => obj = .ref h.objs.size ∧ s₁ = ⟨h.push { cls := .type "super", data := .fields #[.none, .none, .none] }, g, d, t, os⟩) F.ks_called_super (ks_wpAny_checkTypeCall_super hC rfl) F.ks_entry_super_init
    (ks_code_super_new _ _ ⟨rfl, rfl⟩) fun obj s₁ h₁ => ?_
  obtain ⟨rfl, rfl⟩ := h₁
  have up : ∀ y o, h.get? y = some o → (h.push { cls := .type "super", data := .fields #[.none, .none, .none] }).get? y = some o := fun y o e => Heap.get?_push_of_some _ e
  have hso : (h.push { cls := .type "super", data := .fields #[.none, .none, .none] }).get? h.objs.size = some { cls := .type "super", dict := none, data := .fields #[.none, .none, .none], slots := #[] } := Heap.get?_push_at rfl rfl
  have hC' := up _ _ hC
  have hne : ∀ y o, h.get? y = some o → y ≠ h.objs.size := fun y o e => Nat.ne_of_lt (Heap.lt_size e)
  revert hso hC' up
  generalize h.push { cls := .type "super", data := .fields #[.none, .none, .none] } = hp
  intro up hso hC'
  refine ⟨⟨_, hso, rfl⟩, F.ks_initArgs_super _ _ _, ?_⟩
  unfold Builtin.«super.__init__» noKeywords
  repeat (first | (with_reducible refine ks_wpAny_isType_cls hC' rfl ?_) | (with_reducible refine k_subtype hC' hm ?_) | (with_reducible refine ks_wpAny_super_set3 hso ?_) | wp_step)
  intro h' e k
  exact ⟨rfl, hq h' _ e fun y o ey => k y o (hne y o ey) (up y o ey)⟩
end Mine

end

section
open PySem PySem.W PySem.W.X PyProof.Rows
set_option maxRecDepth 100000
namespace Mine
theorem own_init : classOwn (.type "object") "__init_subclass__" = pure (some (.builtin "object.__init_subclass__")) := by kernel_rfl
theorem type_init : typeOf (.builtin "object.__init_subclass__") = pure (.type "classmethod_descriptor") := by kernel_rfl
theorem get_init : typeLookup (.type "classmethod_descriptor") "__get__" = pure (some (.builtin "classmethod_descriptor.__get__")) := by rw [typeLookup_type, builtinLookup_eq_fast]; kernel_rfl
theorem k_opaque {M : Model} {A : Around} {E : Value → Shared → Prop} {s : Shared} {C : Addr} {mc : Str → Option Value} {Q : Option Str → Shared → Prop} (hc : s.heap.Ns cStatics mc) (hm : mc "thirdparty.any" = none) (c : Q none s) : wpAny M A (opaqueClassAbove (.ref C)) Q E s := by
  unfold opaqueClassAbove anyOpaqueLoaded
  refine wpAny_bind ?_
  refine wpAny_bind ?_
  refine wpAny_nsGet hc ?_
  rw [hm]
  refine wpAny_pure ?_
  refine ite_nf rfl ?_
  exact wpAny_pure c
theorem k_subtype_obj {M : Model} {A : Around} {E : Value → Shared → Prop} {s : Shared} {C : Addr} {cl : Value} {dd : Option Addr} {cd : ClassData} {sl : Array (Option Value)} {Q : Bool → Shared → Prop} (hC : s.heap.get? C = some ⟨cl, dd, .cls cd, sl⟩) (hm : cd.mro = [.ref C, .type "object"]) (c : Q true s) :
    wpAny M A (isSubtype (.ref C) (.type "object")) Q E s := by
  unfold isSubtype
  refine wpAny_bind ?_
  refine wpAny_bind ?_
  refine wpAny_bind ?_
  refine wpAny_load hC ?_
  refine wpAny_pure ?_
  refine wpAny_pure ?_
  rw [hm]
  refine wpAny_pure ?_
  simpa using c
theorem entry_cmg : entryFor table "classmethod_descriptor.__get__" = some Builtin.«classmethod_descriptor.__get__» := entryFor_of_tree (by kernel_rfl)
theorem check_cmg (C : Addr) : checkBuiltinCall "classmethod_descriptor.__get__" ⟨[.builtin "object.__init_subclass__", .none, .ref C], []⟩ = pure () := by kernel_rfl
theorem cmg_ok {w : World} {A : Around} {E : Value → Shared → Prop} {h : Heap} {g : Array GenState} {d : Drawn} {t : Nat} {os : OsState} {C : Addr} {cl : Value} {dd : Option Addr} {cd : ClassData} {sl : Array (Option Value)} {Q : PySem.Fin → Shared → Prop}
    (hC : h.get? C = some ⟨cl, dd, .cls cd, sl⟩) (hm : cd.mro = [.ref C, .type "object"])
    (hq : ∀ h' bm, h'.get? bm = some { cls := .type "builtin_function_or_method", dict := none, data := .fields #[.builtin "object.__init_subclass__", .ref C] } → (∀ y o, h.get? y = some o → h'.get? y = some o) → Q (.done (.ret (.ref bm))) ⟨h', g, d, t, os⟩) :
    wpAny (model PySem.Challenge.pw_nb0072_01 w) A (Builtin.«classmethod_descriptor.__get__» ⟨[.builtin "object.__init_subclass__", .none, .ref C], []⟩) Q E ⟨h, g, d, t, os⟩ := by
  unfold Builtin.«classmethod_descriptor.__get__»
  iterate 8 wp_step
  have hcut : ".".intercalate ("object.__init_subclass__".cutAt '.').dropLast = "object" := by decide +kernel
  rw [hcut]
  refine wpAny_bind (wpAny_pure ?_)
  refine wpAny_bind (ks_wpAny_isType_cls hC rfl ?_)
  refine ite_nt rfl ?_
  refine wpAny_bind (k_subtype_obj hC hm ?_)
  refine ite_nt rfl ?_
  refine wpAny_bind (k_new (fun h' bm hb k _ => ?_))
  exact wpAny_pure (hq h' bm hb k)
set_option maxHeartbeats 0 in
theorem super_ga {w : World} {A : Around} {E : Value → Shared → Prop} {h : Heap} {g : Array GenState} {d : Drawn} {t : Nat} {os : OsState} {C so : Addr} {tk : Tok} {cl : Value} {dd : Option Addr} {cd : ClassData} {sl : Array (Option Value)} {mc : Str → Option Value} {Q : PySem.Fin → Shared → Prop}
    (hC : h.get? C = some ⟨cl, dd, .cls cd, sl⟩) (hm : cd.mro = [.ref C, .type "object"]) (hc : h.Ns cStatics mc) (hmc : mc "thirdparty.any" = none)
    (hso : h.get? so = some { cls := .type "super", dict := none, data := .fields #[.ref C, .ref C, .ref C], slots := #[] })
    (hq : ∀ h' bm, h'.get? bm = some { cls := .type "builtin_function_or_method", dict := none, data := .fields #[.builtin "object.__init_subclass__", .ref C] } → (∀ y o, h.get? y = some o → h'.get? y = some o) → Q (.done (.ret (.ref bm))) ⟨h', g, d, t, os⟩) :
    wpAny (model PySem.Challenge.pw_nb0072_01 w) A (Builtin.«super.__getattribute__» ⟨[.ref so, .str "__init_subclass__" tk], []⟩) Q E ⟨h, g, d, t, os⟩ := by
  have hdt : ({ cls := .type "super", dict := none, data := .fields #[.ref C, .ref C, .ref C], slots := #[] } : Obj).data = .fields #[.ref C, .ref C, .ref C] := rfl
  have f0 : (#[.ref C, .ref C, .ref C] : Array Value)[0]? = some (.ref C) := rfl
  have f1 : (#[.ref C, .ref C, .ref C] : Array Value)[1]? = some (.ref C) := rfl
  have f2 : (#[.ref C, .ref C, .ref C] : Array Value)[2]? = some (.ref C) := rfl
  have hn : ((Str.ofString "__init_subclass__") == (Str.ofString "__class__")) = false := by decide +kernel
  unfold Builtin.«super.__getattribute__»
  have hs : (Value.ref C == Value.none) = false := rfl
  have hdw : List.drop 1 (List.dropWhile (fun x => x != Value.ref C) [Value.ref C, Value.type "object"]) = [Value.type "object"] := by simp
  obtain ⟨cn, cb, cm, cns, cq, chd, csn, csb, cab, cco, chdl⟩ := cd
  dsimp only at hm
  subst hm
  have o1 := own_init
  have o2 := type_init
  have o3 := get_init
  repeat (first
    | rw [hdw]
    | (with_reducible refine wpAny_field hso hdt f0 ?_) | (with_reducible refine wpAny_field hso hdt f1 ?_) | (with_reducible refine wpAny_field hso hdt f2 ?_) | (with_reducible refine k_opaque hc hmc ?_)
    | wp_step)
  rw [if_pos (by simp)]
  refine codeAny_call_builtin (by decide +kernel) entry_cmg ?_
  refine wpAny_of_eq (check_cmg C) ?_
  refine cmg_ok hC rfl (fun h' bm hb k => ?_)
  dsimp only
  repeat wp_step
  exact hq h' bm hb k
end Mine

end

section
open PySem PySem.W PySem.W.X PyProof.Rows
set_option maxRecDepth 100000
namespace Mine
theorem super_attr {w : World} {A : Around} {E : Value → Shared → Prop} {h : Heap} {g : Array GenState} {d : Drawn} {t : Nat} {os : OsState} {C so : Addr} {cl : Value} {dd : Option Addr} {cd : ClassData} {sl : Array (Option Value)} {mc : Str → Option Value} {Q : Value → Shared → Prop}
    (hC : h.get? C = some ⟨cl, dd, .cls cd, sl⟩) (hm : cd.mro = [.ref C, .type "object"]) (hc : h.Ns cStatics mc) (hmc : mc "thirdparty.any" = none)
    (hso : h.get? so = some { cls := .type "super", dict := none, data := .fields #[.ref C, .ref C, .ref C], slots := #[] })
    (hq : ∀ h' bm t', h'.get? bm = some { cls := .type "builtin_function_or_method", dict := none, data := .fields #[.builtin "object.__init_subclass__", .ref C] } → (∀ y o, h.get? y = some o → h'.get? y = some o) → Q (.ref bm) ⟨h', g, d, t', os⟩) :
    wpAny (model PySem.Challenge.pw_nb0072_01 w) A (getAttr (.ref so) "__init_subclass__") Q E ⟨h, g, d, t, os⟩ := by
  have hlk := F.ks_slot_super_ga.lookup
  have hT : ∀ t', (⟨h, g, d, t', os⟩ : Shared).TypeIs (.ref so) "super" := fun _ => ⟨_, hso, rfl⟩
  unfold getAttr getAttrBy
  refine wpAny_bind (wpAny_mkText (wpAny_holding (wpAny_bind (wpAny_typeOf (hT _) (wpAny_bind (wpAny_of_eq hlk ?_))))))
  show wpAny _ _ (getAttrByItsOwn (.ref so) (.str "__init_subclass__" t) (.type "super") (.builtin "super.__getattribute__") true false) _ _ _
  unfold getAttrByItsOwn hookBefore callGetattribute boundAndCalled
  refine wpAny_bind (wpAny_of_eq (show (if onTheHeap (.type "super") then typeLookup (.type "super") "__getattr__" else pure none) = pure none from rfl) ?_)
  refine wpAny_bind (wpAny_attempt (wpAny_holding ?_))
  show wpAny _ _ (bindSpecial (.builtin "super.__getattribute__") (.ref so) >>= _) _ _ _
  refine wpAny_bind (wpAny_of_eq (F.ks_slot_super_ga.bind _) ?_)
  refine wpAny_mono (Q := fun v s' => ∃ bm h', v = .ref bm ∧ s' = ⟨h', g, d, t + 1, os⟩ ∧ h'.get? bm = some { cls := .type "builtin_function_or_method", dict := none, data := .fields #[.builtin "object.__init_subclass__", .ref C] } ∧ (∀ y o, h.get? y = some o → h'.get? y = some o)) (E := fun _ _ => False)
    (wpAny_call_entry F.ks_slot_super_ga (hT _) F.ks_entry_super_ga (super_ga hC hm hc hmc hso (fun h' bm hb k => ⟨_, rfl, bm, h', rfl, rfl, hb, k⟩)) (F.ks_gaArgs_super _ _)) (fun v s' hv => ?_) fun _ _ z => z.elim
  obtain ⟨bm, h', rfl, rfl, hb, k⟩ := hv
  exact wpAny_pure (hq _ _ _ hb k)
theorem entry_ois : entryFor table "object.__init_subclass__" = some Builtin.«object.__init_subclass__» := entryFor_of_tree (by kernel_rfl)
theorem sub_mod : isSubtype (.type "type") (.type "module") = pure false := by rw [isSubtype_type]; kernel_rfl
theorem ois_sig : ∃ sig, Manifest.signature? "object.__init_subclass__" = some sig ∧ ∀ C : Addr, Bind.checkArgs "object.__init_subclass__" { sig with full := "cmp_to_key.<locals>.K.__init_subclass__" } ⟨[.ref C], []⟩ = pure () := ⟨(Manifest.signature? "object.__init_subclass__").get (by decide +kernel), by simp, fun C => by kernel_rfl⟩
theorem check_ois {w : World} {A : Around} {E : Value → Shared → Prop} {h : Heap} {g : Array GenState} {d : Drawn} {t : Nat} {os : OsState} {C : Addr} {dd : Option Addr} {cd : ClassData} {sl : Array (Option Value)} {Q : Unit → Shared → Prop}
    (hC : h.get? C = some ⟨.type "type", dd, .cls cd, sl⟩) (hqn : cd.qualname = "cmp_to_key.<locals>.K") (c : Q () ⟨h, g, d, t, os⟩) :
    wpAny (model PySem.Challenge.pw_nb0072_01 w) A (checkBoundCall "object.__init_subclass__" ⟨[.ref C], []⟩) Q E ⟨h, g, d, t, os⟩ := by
  have hT : (⟨h, g, d, t, os⟩ : Shared).TypeIs (.ref C) "type" := ⟨_, hC, rfl⟩
  have h1 := sub_mod
  unfold checkBoundCall
  obtain ⟨sig, h2, h3⟩ := ois_sig
  rw [h2]
  dsimp only
  rw [show builtinKind "object.__init_subclass__" = some .classMethod by decide +kernel]
  dsimp only
  refine ite_f (by decide) ?_
  refine wpAny_bind (wpAny_isInstance hT h1 ?_)
  refine ite_f (by decide +kernel) ?_
  refine wpAny_bind (ks_wpAny_isType_cls hC rfl ?_)
  refine ite_t rfl ?_
  refine wpAny_bind (wpAny_pure ?_)
  refine wpAny_bind ?_
  refine wpAny_bind (wpAny_load hC ?_)
  refine wpAny_pure ?_
  rw [hqn]
  refine wpAny_bind (wpAny_typeOf hT ?_)
  refine ite_t rfl ?_
  have h4 := h3 C
  exact wpAny_of_eq h4 c
theorem call_ois {w : World} {A : Around} {E : Value → Shared → Prop} {h : Heap} {g : Array GenState} {d : Drawn} {t : Nat} {os : OsState} {C bm : Addr} {dd : Option Addr} {cd : ClassData} {sl : Array (Option Value)} {Q : Value → Shared → Prop}
    (hC : h.get? C = some ⟨.type "type", dd, .cls cd, sl⟩) (hqn : cd.qualname = "cmp_to_key.<locals>.K") (hb : h.get? bm = some { cls := .type "builtin_function_or_method", dict := none, data := .fields #[.builtin "object.__init_subclass__", .ref C] }) (c : Q .none ⟨h, g, d, t, os⟩) :
    wpAny (model PySem.Challenge.pw_nb0072_01 w) A (call (.ref bm) []) Q E ⟨h, g, d, t, os⟩ := by
  refine wpAny_call (codeAny_of_tree ?_)
  show wpAny _ _ (callAny (.ref bm) _) _ _ _
  unfold callAny
  refine wpAny_bind (wpAny_load hb ?_)
  refine ite_t rfl ?_
  dsimp only
  refine ite_t rfl ?_
  refine wpAny_bind (check_ois hC hqn ?_)
  refine wpAny_bind (wpAny_pure ?_)
  refine wpAny_pure ⟨plainId_quiet (by decide +kernel) _, codeAny_builtin entry_ois ?_⟩
  rw [Around.under_plainId (by decide +kernel) _]
  unfold Builtin.«object.__init_subclass__»
  dsimp only
  refine ite_t rfl ?_
  exact wpAny_pure c
end Mine

end

section
open PySem PySem.W PySem.W.X PyProof.Rows
set_option maxRecDepth 100000
namespace Mine
def Tame (s : Shared) (x : DictEntry) : Prop := Builtin.laidUnderItsOwnName x.key x.val = false ∧ ∃ T, s.TypeIs x.val T ∧ typeLookup (.type T) "__set_name__" = pure none
theorem set_str : typeLookup (.type "str") "__set_name__" = pure none := by rw [typeLookup_type, builtinLookup_eq_fast]; kernel_rfl
theorem set_int : typeLookup (.type "int") "__set_name__" = pure none := by rw [typeLookup_type, builtinLookup_eq_fast]; kernel_rfl
theorem set_list : typeLookup (.type "list") "__set_name__" = pure none := by rw [typeLookup_type, builtinLookup_eq_fast]; kernel_rfl
theorem set_fun : typeLookup (.type "function") "__set_name__" = pure none := by rw [typeLookup_type, builtinLookup_eq_fast]; kernel_rfl
theorem set_none : typeLookup (.type "NoneType") "__set_name__" = pure none := by rw [typeLookup_type, builtinLookup_eq_fast]; kernel_rfl
theorem set_tuple : typeLookup (.type "tuple") "__set_name__" = pure none := by rw [typeLookup_type, builtinLookup_eq_fast]; kernel_rfl
theorem set_md : typeLookup (.type "member_descriptor") "__set_name__" = pure none := by rw [typeLookup_type, builtinLookup_eq_fast]; kernel_rfl
def HasT (h : Heap) (a : Addr) (T : String) : Prop := ∃ o, h.get? a = some o ∧ o.cls = .type T
theorem HasT.keeps {h h' : Heap} {a : Addr} {T : String} (x : HasT h a T) (k : ∀ b o, h.get? b = some o → h'.get? b = some o) : HasT h' a T := let ⟨o, e, c⟩ := x; ⟨o, k _ _ e, c⟩
theorem tame_all {s : Shared} {e : Ent} {i : Int} {k : Tok} {D : Addr} {j : Int} {l : Tok} (hfs : ∀ a ∈ [e.f4, e.f5, e.f6, e.f7, e.f8, e.f9], HasT s.heap a "function") (hsl : HasT s.heap e.sl "list") (hst : HasT s.heap e.st "tuple") (hD : HasT s.heap D "member_descriptor") :
    ∀ x ∈ (e.es4 i k D j l).toList, Tame s x := by
  intro x hx
  simp only [Ent.es4, Ent.tail, List.toList_toArray, List.cons_append, List.nil_append, List.mem_cons, List.not_mem_nil, or_false] at hx
  simp only [List.mem_cons, List.not_mem_nil, or_false, forall_eq_or_imp, forall_eq] at hfs
  obtain ⟨h4, h5, h6, h7, h8, h9⟩ := hfs
  rcases hx with rfl | rfl | rfl | rfl | rfl | rfl | rfl | rfl | rfl | rfl | rfl | rfl | rfl
  · exact ⟨by kernel_rfl, "str", rfl, set_str⟩
  · exact ⟨by kernel_rfl, "int", rfl, set_int⟩
  · exact ⟨by kernel_rfl, "list", hsl, set_list⟩
  · exact ⟨by kernel_rfl, "function", h4, set_fun⟩
  · exact ⟨by kernel_rfl, "function", h5, set_fun⟩
  · exact ⟨by kernel_rfl, "function", h6, set_fun⟩
  · exact ⟨by kernel_rfl, "function", h7, set_fun⟩
  · exact ⟨by kernel_rfl, "function", h8, set_fun⟩
  · exact ⟨by kernel_rfl, "function", h9, set_fun⟩
  · exact ⟨by kernel_rfl, "NoneType", rfl, set_none⟩
  · exact ⟨by kernel_rfl, "tuple", hst, set_tuple⟩
  · exact ⟨by kernel_rfl, "member_descriptor", hD, set_md⟩
  · exact ⟨by kernel_rfl, "NoneType", rfl, set_none⟩
end Mine

end

section
open PySem PySem.W PySem.W.X PyProof.Rows
set_option maxRecDepth 100000
namespace Mine
abbrev clsObj (C ns b : Addr) (e : Ent) (tn : Tok) : Obj := ⟨.type "type", none, .cls { name := "K", bases := [.type "object"], mro := [.ref C, .type "object"], ns := ns, qualname := e.q1, hasDel := false, hasDict := false, slotNames := ["obj"] },
  #[some (.ref b), none, some (.str "K" tn), some (.str e.q1 e.t1), some (.builtin "object.__new__"), some (.bool false)]⟩
/-- the class K, made -/
structure KAt (h : Heap) (C : Addr) (e : Ent) (ns D b : Addr) (tn : Tok) (i : Int) (k : Tok) (j : Int) (l : Tok) (q : Tok) : Prop where
  cls : h.get? C = some (clsObj C ns b e tn)
  ns : h.get? ns = some ⟨.type "dict", none, .dict (e.es4 i k D j l) 3, #[]⟩
  desc : h.get? D = some { cls := .type "member_descriptor", data := .fields #[.str "obj" q, .ref C, .builtin "proto.slot", .builtin "proto.slot#set", rawInt 0] }
theorem KAt.keeps {h h' : Heap} {C : Addr} {e : Ent} {ns D b : Addr} {tn : Tok} {i : Int} {k : Tok} {j : Int} {l : Tok} {q : Tok} (x : KAt h C e ns D b tn i k j l q) (y : ∀ b o, h.get? b = some o → h'.get? b = some o) : KAt h' C e ns D b tn i k j l q := ⟨y _ _ x.cls, y _ _ x.ns, y _ _ x.desc⟩
set_option maxHeartbeats 0 in
theorem new_ok {w : World} {A : Around} {h : Heap} {g : Array GenState} {d : Drawn} {tk : Nat} {os : OsState} {b n : Addr} {t tn : Tok} {ep el : Nat} {e : Ent}
    (hb : h.get? b = some { cls := .type "tuple", data := .seq #[.type "object"] })
    (hn : h.get? n = some { cls := .type "dict", data := .dict e.es1 ep })
    (hl : h.get? e.sl = some { cls := .type "list", data := .seq #[.str "obj" t] el }) (hnm : (n == sysModules) = false)
    (hfs : ∀ a ∈ [e.f4, e.f5, e.f6, e.f7, e.f8, e.f9], HasT h a "function") (hst : HasT h e.st "tuple") (hq1 : e.q1 = "cmp_to_key.<locals>.K") {mc : Str → Option Value} (hcs : h.Ns cStatics mc) (hmc : mc "thirdparty.any" = none)
    {Q : PySem.Fin → Shared → Prop} {E : Value → Shared → Prop}
    (c : ∀ h' C ns D i k j l q t', (∀ b o, h.get? b = some o → h'.get? b = some o) → KAt h' C e ns D b tn i k j l q → h.get? C = none → h.get? ns = none → Q (.done (.ret (.ref C))) ⟨h', g, d, t', os⟩) :
    wpAny (model PySem.Challenge.pw_nb0072_01 w) A (Builtin.«type.__new__» ⟨[.type "type", .str "K" tn, .ref b, .ref n], []⟩) Q E ⟨h, g, d, tk, os⟩ := by
  unfold Builtin.«type.__new__»
  have hTb : (⟨h, g, d, tk, os⟩ : Shared).TypeIs (.ref b) "tuple" := ⟨_, hb, rfl⟩
  have hTn : (⟨h, g, d, tk, os⟩ : Shared).TypeIs (.ref n) "dict" := ⟨_, hn, rfl⟩
  have h1 := sub_tuple
  have h2 := sub_dict
  have h3 := sub_type
  have h6 := sub_meta
  have h7 := look_iter
  have e3 := e.notEmpty
  iterate 47 (first | with_reducible refine wpAny_isInstance hTb h1 ?_ | with_reducible refine wpAny_isInstance hTn h2 ?_ | wp_step)
  rw [show (if ((some #[Value.type "object"]).getD #[]).toList.isEmpty = true then [Value.type "object"] else ((some #[Value.type "object"]).getD #[]).toList) = [Value.type "object"] from rfl]
  refine wpAny_of_eq turned_obj ?_
  wp_step
  refine wpAny_of_eq ext_obj ?_
  iterate 10 wp_step
  refine wpAny_pure ?_
  refine wpAny_bind (wpAny_holding (slots_read e.slots rfl e.noObj hl (fun h' k => ?_)))
  refine wpAny_bind (k_new (fun h'' ns hns k' hnn => ?_) e.size)
  clear hTb hTn h1 h2 h3 h6 h7 e3
  have e4 := e.hasMod
  have e5 : ((Str.ofString "K").cps.any fun c => decide (55296 ≤ c) && decide (c ≤ 57343)) = false := by decide +kernel
  have e6 : (Str.ofString "K").cps.contains 0 = false := by decide +kernel
  have fQ := e.qual1
  have fD := e.doc1
  refine ite_nt e4 ?_
  have none_of : ∀ {x : Addr}, h''.get? x = none → h.get? x = none := fun {x} q => by
    cases hx : h.get? x with
    | none => rfl
    | some o => rw [k' _ _ (k _ _ hx)] at q; cases q
  have hnn0 : h.get? ns = none := by
    cases hx : h.get? ns with
    | none => rfl
    | some o => rw [k _ _ hx] at hnn; cases hnn
  have kk : ∀ b o, h.get? b = some o → h''.get? b = some o := fun b o x => k' b o (k b o x)
  clear k k' hnn h'
  iterate 16 (first | with_reducible refine k_nsGet hns e.keys1 (by assumption) ?_ | with_reducible refine ite_f (by assumption) ?_ | wp_step)
  refine k_alloc (fun h3 C hC k3 hCn => ?_)
  have hne : ns ≠ C := fun q => by rw [q, hCn] at hns; cases hns
  have hCn0 := none_of hCn
  clear none_of
  have hns := k3 _ _ hns
  have kk : ∀ b o, h.get? b = some o → h3.get? b = some o := fun b o x => k3 b o (kk b o x)
  clear hCn k3
  refine ite_nf rfl ?_
  refine wpAny_bind (k_slot (o' := ⟨.type "type", none, .cls { name := "K", bases := [.type "object"], mro := [], ns := ns, qualname := e.q1 }, #[some (.ref b)]⟩) hC (by kernel_rfl) (fun h4 hC s4 => ?_))
  have hns := (s4 _ hne).trans hns
  have kk := kp kk hCn0 s4
  clear s4
  refine wpAny_bind (k_slot (o' := ⟨.type "type", none, .cls { name := "K", bases := [.type "object"], mro := [], ns := ns, qualname := e.q1 }, #[some (.ref b), none, some (.str "K" tn)]⟩) hC (by kernel_rfl) (fun h4 hC s4 => ?_))
  have hns := (s4 _ hne).trans hns
  have kk := kp kk hCn0 s4
  clear s4
  refine wpAny_bind (k_slot (o' := ⟨.type "type", none, .cls { name := "K", bases := [.type "object"], mro := [], ns := ns, qualname := e.q1 }, #[some (.ref b), none, some (.str "K" tn), some (.str e.q1 e.t1)]⟩) hC (by kernel_rfl) (fun h4 hC s4 => ?_))
  have hns := (s4 _ hne).trans hns
  have kk := kp kk hCn0 s4
  clear s4
  refine wpAny_bind (k_nsDel hns e.has1 e.drop1 (fun h4 hns s4 => ?_))
  have hC := (s4 _ hne.symm).trans hC
  have kk := kp kk hnn0 s4
  clear s4 fQ fD e4 e5 e6
  have g1 := e.new2
  have g2 := e.sub2
  have g3 := e.item2
  have g4 := e.cell2
  have g5 := e.dcell2
  have m1 := look_mro
  have m2 := lin_obj
  iterate 20 (first | with_reducible refine k_nsGet hns e.keys2 (by assumption) ?_ | with_reducible refine ite_f (by assumption) ?_ | wp_step)
  iterate 12 (first | with_reducible refine k_nsGet hns e.keys2 (by assumption) ?_ | with_reducible refine ite_f (by assumption) ?_ | wp_step)
  iterate 3 wp_step
  rw [show List.filter (fun x => x != Value.ref C) [Value.ref C, Value.type "object"] = [Value.type "object"] by simp]
  refine wpAny_of_eq (a := false) (by kernel_rfl) ?_
  have e8 := e.noDel
  refine wpAny_bind (k_cls (cd' := { name := "K", bases := [.type "object"], mro := [.ref C, .type "object"], ns := ns, qualname := e.q1, hasDel := false }) hC (by simp only [e8]; rfl) (by kernel_rfl) (fun h4 hC s4 => ?_))
  have hns := (s4 _ hne).trans hns
  have kk := kp kk hCn0 s4
  clear s4
  refine wpAny_bind (wpAny_of_eq made_obj ?_)
  refine wpAny_bind (k_slot (o' := ⟨.type "type", none, .cls { name := "K", bases := [.type "object"], mro := [.ref C, .type "object"], ns := ns, qualname := e.q1, hasDel := false }, #[some (.ref b), none, some (.str "K" tn), some (.str e.q1 e.t1), some (.builtin "object.__new__")]⟩) hC (by kernel_rfl) (fun h4 hC s4 => ?_))
  have hns := (s4 _ hne).trans hns
  have kk := kp kk hCn0 s4
  clear s4
  refine wpAny_bind (k_maker hC rfl rfl hns e.keys2 g1 rfl ?_)
  refine wpAny_bind (k_install hC rfl hns hne (fun h5 D i5 k5 j5 t5 hC5 hns5 hD hk5 hDn => ?_))
  have hDC : D ≠ C := fun q => by rw [q, hC] at hDn; cases hDn
  have hDs : D ≠ ns := fun q => by rw [q, hns] at hDn; cases hDn
  have hDn0 : h.get? D = none := by
    cases hx : h.get? D with
    | none => rfl
    | some o => rw [kk _ _ hx] at hDn; cases hDn
  have kk : ∀ b o, h.get? b = some o → h5.get? b = some o := fun b o x => hk5 b o (fun q => by rw [q, hCn0] at x; cases x) (fun q => by rw [q, hnn0] at x; cases x) (kk b o x)
  clear hk5 hns hC hDn g1 g2 g3 g4 g5 m1 m2 e8
  refine wpAny_bind (wpAny_of_eq weak_obj ?_)
  refine wpAny_bind (k_slot (o' := ⟨.type "type", none, .cls { name := "K", bases := [.type "object"], mro := [.ref C, .type "object"], ns := ns, qualname := e.q1, hasDel := false, hasDict := false, slotNames := ["obj"] }, #[some (.ref b), none, some (.str "K" tn), some (.str e.q1 e.t1), some (.builtin "object.__new__"), some (.bool false)]⟩) hC5 (by kernel_rfl) (fun h6 hC s4 => ?_))
  have hns := (s4 _ hne).trans hns5
  have kk := kp kk hCn0 s4
  have hD := (s4 _ hDC).trans hD
  clear s4 hC5 hns5
  refine ite_f rfl ?_
  refine ite_f rfl ?_
  refine wpAny_bind (k_nsGet hns (e.keys3 ..) (e.doc3 ..) ?_)
  refine ite_t rfl ?_
  refine wpAny_bind (k_nsSet hns (e.ref3 ..) (fun h7 i7 k7 hns7 s4 => ?_) (fun i k => by rw [e.put3]; rfl))
  rw [e.put3] at hns7
  have hC := (s4 _ hne.symm).trans hC
  have hD := (s4 _ hDs).trans hD
  have kk := kp kk hnn0 s4
  clear hns s4
  refine wpAny_bind (k_nsGet hns7 (e.keys4 ..) (e.eq4 ..) ?_)
  refine ite_t rfl ?_
  refine wpAny_bind (k_nsGet hns7 (e.keys4 ..) (e.hash4 ..) ?_)
  refine ite_f rfl ?_
  iterate 13 wp_step
  refine wpAny_pure ?_
  have hsl' : HasT h7 e.sl "list" := ⟨_, kk _ _ hl, rfl⟩
  have hT := tame_all (s := ⟨h7, g, d, t5 + 1, os⟩) (e := e) (i := i5) (k := k5) (D := D) (j := i7) (l := k7) (fun a ha => (hfs a ha).keeps kk) hsl' (hst.keeps kk) ⟨_, hD, rfl⟩
  have hK : KAt h7 C e ns D b tn i5 k5 i7 k7 j5 := ⟨hC, hns7, hD⟩
  refine wpAny_bind (wpAny_tryCatch (wpAny_mono (E := fun _ _ => False) (wpAny_holding ?_) (fun _ _ x => x) (fun _ _ x => x.elim)))
  refine wpAny_bind (wpAny_dictEntries hns7 rfl ?_)
  rw [← Array.forIn_toList]
  refine wpAny_bind (loop_keep (fun x hx Q' hQ => ?_) ?_)
  · have hk := List.all_eq_true.mp (e.keys4 i5 k5 D i7 k7) x hx
    revert hk
    obtain ⟨hh, hk, hv⟩ := x
    cases hk <;> intro hk <;> first | cases hk | skip
    refine wpAny_bind (wpAny_pure ?_)
    refine ite_f rfl ?_
    exact wpAny_pure hQ
  refine ite_f rfl ?_
  refine wpAny_bind (wpAny_dictEntries hns7 rfl ?_)
  rw [← Array.forIn_toList]
  refine wpAny_bind (loop_keep (fun x hx Q' hQ => ?_) ?_)
  · obtain ⟨h1, T, h2, h3⟩ := hT x hx
    refine ite_f h1 ?_
    refine wpAny_bind (wpAny_specialOf h2 h3 ?_)
    exact wpAny_pure hQ
  refine wpAny_bind (super_cls hC rfl (fun h8 so hso k8 => ?_))
  have hcs := (hcs.keeps kk).keeps k8
  refine wpAny_bind (wpAny_holding (super_attr (k8 _ _ hC) rfl hcs hmc hso (fun h9 bm t9 hbm k9 => ?_)))
  refine wpAny_bind (call_ois (k9 _ _ (k8 _ _ hC)) hq1 hbm ?_)
  refine wpAny_pure ?_
  refine wpAny_pure ?_
  exact c h9 C ns D _ _ _ _ _ _ (fun b o x => k9 b o (k8 b o (kk b o x))) ((hK.keeps k8).keeps k9) hCn0 hnn0
end Mine

end

section
open PySem PySem.W PySem.W.X PyProof.Rows
set_option maxRecDepth 100000
namespace Mine
theorem made_type : Bind.madeBy (.type "type") = pure (some "type.__new__") := by kernel_rfl
theorem mro_type : mroOf (.type "type") = pure [.type "type", .type "object"] := by kernel_rfl
theorem checkT (a b c : Value) : checkTypeCall "type" ⟨[a, b, c], []⟩ = pure () := by kernel_rfl
theorem init_type : Slot "type" "__init__" "type.__init__" := .of (owner := "type") (n := "__init__") (by rw [typeLookup_type, builtinLookup_eq_fast]; kernel_rfl) (by decide +kernel) (by decide +kernel) (by decide +kernel)
  (by first | exact .inl (by decide +kernel) | exact .inr (by decide +kernel)) (by rw [isSubtype_type]; kernel_rfl)
theorem entry_tn : entryFor table "type.__new__" = some Builtin.«type.__new__» := entryFor_of_tree (by kernel_rfl)
theorem entry_ti : entryFor table "type.__init__" = some Builtin.«type.__init__» := entryFor_of_tree (by kernel_rfl)
theorem check_tn (a b c : Value) : checkBuiltinCall "type.__new__" ⟨[.type "type", a, b, c], []⟩ = pure () := by kernel_rfl
theorem ti_args (o a b c : Value) : argsOk "type.__init__" ⟨[o, a, b, c], []⟩ := by unfold argsOk; kernel_rfl
/-- what stands when the class body is done -/
structure BodyAt (h : Heap) (b n : Addr) (e : Ent) : Prop where
  bases : h.get? b = some { cls := .type "tuple", data := .seq #[.type "object"] }
  ns : ∃ ep, h.get? n = some { cls := .type "dict", data := .dict e.es1 ep }
  slots : ∃ t el, h.get? e.sl = some { cls := .type "list", data := .seq #[.str "obj" t] el }
  nm : (n == sysModules) = false
  funs : ∀ a ∈ [e.f4, e.f5, e.f6, e.f7, e.f8, e.f9], HasT h a "function"
  st : HasT h e.st "tuple"
  q1 : e.q1 = "cmp_to_key.<locals>.K"
  cs : ∃ mc, h.Ns cStatics mc ∧ mc "thirdparty.any" = none
set_option maxHeartbeats 0 in
theorem type_call {w : World} {A : Around} {E : Value → Shared → Prop} {h : Heap} {g : Array GenState} {d : Drawn} {tk : Nat} {os : OsState} {b n : Addr} {tn : Tok} {e : Ent} (B : BodyAt h b n e) {Q : Value → Shared → Prop}
    (c : ∀ h' C ns D i k j l q t', (∀ b o, h.get? b = some o → h'.get? b = some o) → KAt h' C e ns D b tn i k j l q → h.get? C = none → h.get? ns = none → Q (.ref C) ⟨h', g, d, t', os⟩) :
    wpAny (model PySem.Challenge.pw_nb0072_01 w) A (call (.type "type") [.str "K" tn, .ref b, .ref n]) Q E ⟨h, g, d, tk, os⟩ := by
  refine wpAny_call (codeAny_of_tree ?_)
  show wpAny _ _ (callAny (.type "type") _) _ _ _
  refine wpAny_pure ⟨Code.quiet_builtin _ (by decide +kernel), codeAny_builtin F.entry_type_call ?_⟩
  rw [Around.under_plain (weight_type_call_type "type" _ []) rfl]
  unfold Builtin.«type.__call__»
  dsimp only
  refine ite_t (by decide) ?_
  refine ite_f rfl ?_
  refine ite_f rfl ?_
  refine ite_f (by decide +kernel) ?_
  refine wpAny_bind (wpAny_of_eq (checkT _ _ _) ?_)
  refine wpAny_bind (wpAny_of_eq mro_type ?_)
  refine ite_f rfl ?_
  refine wpAny_bind (wpAny_of_eq made_type ?_)
  refine wpAny_bind (wpAny_pure ?_)
  refine wpAny_bind (wpAny_holding ?_)
  refine wpAny_call (codeAny_call_builtin (by decide +kernel) entry_tn ?_)
  refine wpAny_of_eq (check_tn _ _ _) ?_
  obtain ⟨ep, hn⟩ := B.ns
  obtain ⟨t, el, hl⟩ := B.slots
  obtain ⟨mc, hcs, hmc⟩ := B.cs
  refine new_ok B.bases hn hl B.nm B.funs B.st B.q1 hcs hmc (fun h' C ns D i k j l q t' kk hK hCn hSn => ?_)
  dsimp only
  have hT : (⟨h', g, d, t', os⟩ : Shared).TypeIs (.ref C) "type" := ⟨_, hK.cls, rfl⟩
  refine wpAny_bind (wpAny_isInstance hT sub_type ?_)
  refine ite_nt rfl ?_
  refine wpAny_bind (wpAny_holding ?_)
  unfold callSpecial?
  refine wpAny_bind (wpAny_specialOf hT init_type.lookup ?_)
  refine wpAny_holding ?_
  refine wpAny_bind (wpAny_of_eq (init_type.bind _) ?_)
  refine wpAny_bind (wpAny_call_entry (Q := fun v s' => wpAny _ _ (pure (some v)) _ _ s') init_type hT entry_ti ?_ (ti_args _ _ _ _))
  unfold Builtin.«type.__init__»
  dsimp only
  refine ite_f rfl ?_
  refine ite_f rfl ?_
  refine wpAny_pure ⟨_, rfl, ?_⟩
  refine wpAny_pure ?_
  refine ite_f rfl ?_
  exact wpAny_pure (c _ _ _ _ _ _ _ _ _ _ kk hK hCn hSn)
end Mine

end

section
open PySem PySem.W PySem.W.X PyProof.Rows
set_option maxRecDepth 100000
namespace Mine
abbrev classOf : Stmt → List Stmt
  | .ClassDef _ _ _ b _ _ _ _ _ _ _ => b
  | _ => []
abbrev classScope : Stmt → Scope
  | .ClassDef _ _ _ _ _ _ s _ _ _ _ => s
  | _ => default
abbrev kStmt : Stmt := (bodyOf (top 1))[0]?.getD (.Pass ⟨0, 0, 0, 0⟩)
abbrev kBody : List Stmt := classOf kStmt
abbrev kScope : Scope := classScope kStmt
abbrev meth (i : Nat) : Stmt := kBody[i]?.getD (.Pass ⟨0, 0, 0, 0⟩)
abbrev envK (n cc fr cell : Addr) : Env := { scope := kScope, locals := n, globals := mainGlobals, cells := [("mycmp", cell)], qual := "cmp_to_key.<locals>.K.", code := .ref cc, frame := some fr, builtins := builtinsNs }
abbrev dictO (es : Array DictEntry) (ep : Nat) : Obj := ⟨.type "dict", none, .dict es ep, #[]⟩

/-- a new name in the class's namespace -/
theorem cs_store {M : Model} {A : Around} {E : Value → Shared → Prop} {h : Heap} {g : Array GenState} {d : Drawn} {t : Nat} {os : OsState} {n cc fr cell : Addr} {x : Str} {v : Value} {es : Array DictEntry} {ep : Nat} {Q : Unit → Shared → Prop}
    (hn : h.get? n = some (dictO es ep)) (hnew : es.findIdx? (·.key.isStr x) = none) (hr : aRefKeyMayBeTheName x es = false)
    (c : ∀ h' i t', h'.get? n = some (dictO (es.push ⟨i, .str x t', v⟩) (ep + 1)) → (∀ b, b ≠ n → h'.get? b = h.get? b) → Q () ⟨h', g, d, t + 1, os⟩)
    (hk : (envK n cc fr cell).kindOf x = some .local ∨ (envK n cc fr cell).kindOf x = none ∧ compilersOwnNames.contains x = true) : wpAny M A (storeName (envK n cc fr cell) x v) Q E ⟨h, g, d, t, os⟩ := by
  have key : wpAny M A (localSet (envK n cc fr cell) x v) Q E ⟨h, g, d, t, os⟩ := by
    unfold localSet
    refine wpAny_bind (wpAny_load hn ?_)
    refine ite_t rfl ?_
    have e : ∀ i t', Obj.putName x i (.str x t') v (dictO es ep) = dictO (es.push ⟨i, .str x t', v⟩) (ep + 1) := fun i t' => by
      rw [Obj.putName_eq]
      simp only [Obj.putNameByArray, hnew]
    refine k_nsSet hn hr (fun h' i t' x y => c h' i t' ?_ y) (fun i t' => ?_)
    · rw [e] at x; exact x
    · rw [e]; rfl
  unfold storeName
  rcases hk with hk | ⟨hk, hc⟩
  · rw [hk]; exact key
  · rw [hk]
    refine ite_f ?_ key
    rw [hc]; rfl
/-- a name again -/
theorem cs_again {M : Model} {A : Around} {E : Value → Shared → Prop} {h : Heap} {g : Array GenState} {d : Drawn} {t : Nat} {os : OsState} {n cc fr cell : Addr} {x : Str} {v : Value} {es es' : Array DictEntry} {ep : Nat} {Q : Unit → Shared → Prop}
    (hn : h.get? n = some (dictO es ep)) (e : ∀ i t', Obj.putName x i (.str x t') v (dictO es ep) = dictO es' ep) (hr : aRefKeyMayBeTheName x es = false)
    (c : ∀ h', h'.get? n = some (dictO es' ep) → (∀ b, b ≠ n → h'.get? b = h.get? b) → Q () ⟨h', g, d, t + 1, os⟩)
    (hk : (envK n cc fr cell).kindOf x = some .local) : wpAny M A (storeName (envK n cc fr cell) x v) Q E ⟨h, g, d, t, os⟩ := by
  unfold storeName
  rw [hk]
  show wpAny M A (localSet (envK n cc fr cell) x v) Q E ⟨h, g, d, t, os⟩
  unfold localSet
  refine wpAny_bind (wpAny_load hn ?_)
  refine ite_t rfl ?_
  refine k_nsSet hn hr (fun h' i t' x y => c h' ?_ y) (fun i t' => ?_)
  · rw [e] at x; exact x
  · rw [e]; rfl
end Mine

end

section
open PySem PySem.W PySem.W.X PyProof.Rows
set_option maxRecDepth 100000
namespace Mine
theorem cs_def {M : Model} {A : Around} {E : Value → Shared → Prop} {h : Heap} {g : Array GenState} {d : Drawn} {t : Nat} {os : OsState} {n cc fr cell P : Addr} {nm : Str} {params : Arguments} {body : List Stmt} {scope : Scope} {pos : Pos} {clos : List (Str × Addr)} {ps : Array Value} {mg : Str → Option Value} {es : Array DictEntry} {ep : Nat} {Q : Flow → Shared → Prop}
    (hn : h.get? n = some (dictO es ep)) (hnew : es.findIdx? (·.key.isStr nm) = none) (hr : aRefKeyMayBeTheName nm es = false) (hk : (envK n cc fr cell).kindOf nm = some .local)
    (hcl : closureFor scope (envK n cc fr cell) = pure clos) (C : CodeHd h cc P) (hP : h.get? P = some (tabObj ps)) (ht : TriplesOk ps.toList) (hnf : codeAmong pos ps.toList = none) (hg : h.Ns mainGlobals mg) (hb : h.BuiltinsAt mg P) (hgP : mainGlobals ≠ P)
    (hd0 : params.defaults = []) (hk0 : params.kw_defaults = []) (ha : annTrees params none (envK n cc fr cell) = [])
    (c : ∀ h' f c' ctv doc tk i t', h'.get? n = some (dictO (es.push ⟨i, .str nm t', .ref f⟩) (ep + 1)) → h'.get? f = some (fnMade nm (qualnameIn (envK n cc fr cell) nm nm) params body scope clos doc ((mg "__name__").getD .none) c' ctv) → h'.CodeRec (.ref c') (qualnameIn (envK n cc fr cell) nm nm) →
      h'.get? P = some (tabObj (ps ++ #[rawInt pos.line, rawInt pos.col, .ref c'])) → (∀ b o, b ≠ n → b ≠ P → h.get? b = some o → h'.get? b = some o) → c' ≠ n → c' ≠ P → Q .next ⟨h', g, d, tk, os⟩) :
    wpAny M A (exec (.FunctionDef nm params body [] none [] scope none nm pos) (envK n cc fr cell)) Q E ⟨h, g, d, t, os⟩ := by
  refine nestDef_K hd0 hk0 ha ?_
  have hnP : n ≠ P := fun q => by rw [q, hP] at hn; cases hn
  refine makeFunction_K (mg := mg) hcl rfl hg rfl C hP ht hnf hgP hb (fun c' ctv doc h1 tk hx hge hlt hrec htb => ?_)
  have hn1 := Heap.get?_push_of_some (fnMade nm (qualnameIn (envK n cc fr cell) nm nm) params body scope clos doc ((mg "__name__").getD .none) c' ctv) (hx _ _ hnP hn)
  refine cs_store hn1 hnew hr (fun h2 i t' hn2 s2 => ?_) (.inl hk)
  have hne : h1.objs.size ≠ n := fun q => by have := Heap.lt_size (hx _ _ hnP hn); rw [q] at this; exact Nat.lt_irrefl _ this
  have keep : ∀ b o, b ≠ n → h1.get? b = some o → h2.get? b = some o := fun b o hb e => (s2 b hb).trans (Heap.get?_push_of_some _ e)
  have hcn : c' ≠ n := fun q => by have := Heap.lt_size hn; rw [← q] at this; exact absurd this (Nat.not_lt.mpr hge)
  have hcP : c' ≠ P := fun q => by have := Heap.lt_size hP; rw [← q] at this; exact absurd this (Nat.not_lt.mpr hge)
  refine c h2 h1.objs.size c' ctv doc _ i t' hn2 ((s2 _ hne).trans (Heap.get?_push_size _ rfl)) ?_ (keep _ _ hnP.symm htb) (fun b o hb hb' e => keep b o hb (hx b o hb' e)) hcn hcP
  obtain ⟨c₂, oc, vs, t₂, e2, hoc, hd, hv⟩ := hrec
  cases e2
  exact ⟨_, oc, vs, t₂, rfl, keep _ _ hcn hoc, hd, hv⟩
/-- the class body's standing ground -/
structure CS (h : Heap) (n cc P : Addr) (mg : Str → Option Value) (es : Array DictEntry) (ep : Nat) (ps : Array Value) : Prop where
  hn : h.get? n = some (dictO es ep)
  C : CodeHd h cc P
  hP : h.get? P = some (tabObj ps)
  g : h.Ns mainGlobals mg
  b : h.BuiltinsAt mg P
  gP : mainGlobals ≠ P
  gn : mainGlobals ≠ n
theorem CS.next {h h' : Heap} {n cc P : Addr} {mg : Str → Option Value} {es es' : Array DictEntry} {ep ep' : Nat} {ps ps' : Array Value} (x : CS h n cc P mg es ep ps) (hn : h'.get? n = some (dictO es' ep')) (hP : h'.get? P = some (tabObj ps'))
    (k : ∀ b o, b ≠ n → b ≠ P → h.get? b = some o → h'.get? b = some o) : CS h' n cc P mg es' ep' ps' := by
  refine ⟨hn, ?_, hP, ?_, ?_, x.gP, x.gn⟩
  · obtain ⟨o, vs, file, tf, flags, tg, inF, text, tt, e, r⟩ := x.C
    refine ⟨o, vs, file, tf, flags, tg, inF, text, tt, k _ _ ?_ r.2.2.2.2.2.2.2.2 e, r⟩
    rintro rfl
    rw [x.hn] at e
    have e := Option.some.inj e
    subst e
    exact absurd r.1 (by simp)
  · exact x.g.at' fun o e => k _ _ x.gn x.gP e
  · obtain ⟨bm, o, e1, e2, e3, e4, e5, e6, e7, e8⟩ := x.b
    refine ⟨bm, o, e1, e2, e3, e4, k _ _ ?_ e4 e5, e6, e7, e8⟩
    rintro rfl
    rw [x.hn] at e5
    cases e5
    cases e8
/-- a method of K -/
def FnK (h : Heap) (f n P : Addr) (i : Nat) (nm : Str) (clos : List (Str × Addr)) : Prop := ∃ doc pm c' ctv, h.get? f = some (fnMade nm ("cmp_to_key.<locals>.K." ++ nm) (argsOf (meth i)) (bodyOf (meth i)) (scopeOf (meth i)) clos doc pm c' ctv) ∧ h.CodeRec (.ref c') ("cmp_to_key.<locals>.K." ++ nm) ∧ c' ≠ n ∧ c' ≠ P
theorem FnK.next {h h' : Heap} {f n cc P : Addr} {i : Nat} {nm : Str} {clos : List (Str × Addr)} {mg : Str → Option Value} {es : Array DictEntry} {ep : Nat} {ps : Array Value} (x : FnK h f n P i nm clos) (y : CS h n cc P mg es ep ps)
    (k : ∀ b o, b ≠ n → b ≠ P → h.get? b = some o → h'.get? b = some o) : FnK h' f n P i nm clos := by
  obtain ⟨doc, pm, c', ctv, e, r, a, b⟩ := x
  refine ⟨doc, pm, c', ctv, k _ _ ?_ ?_ e, ?_, a, b⟩
  · rintro rfl
    rw [y.hn] at e
    exact absurd (congrArg Obj.cls (Option.some.inj e)) (by simp)
  · rintro rfl
    rw [y.hP] at e; cases e
  · obtain ⟨c₂, oc, vs, t₂, e2, hoc, hd, hv⟩ := r
    cases e2
    exact ⟨_, oc, vs, t₂, rfl, k _ _ a b hoc, hd, hv⟩
end Mine

end

section
open PySem PySem.W PySem.W.X PyProof.Rows
set_option maxRecDepth 100000
namespace Mine
/-- what the class body leaves -/
def entOf (a : Nat → Int) (k : Nat → Tok) (t0 : Tok) (q1 : Str) (t1 t2 : Tok) (ln : Int) (sl f4 f5 f6 f7 f8 f9 st : Addr) : Ent := ⟨a, k, "cpy313.functools", q1, t0, t1, t2, ln, sl, f4, f5, f6, f7, f8, f9, st⟩
set_option maxHeartbeats 0 in
theorem body_ok {w : World} {A : Around} {E : Value → Shared → Prop} {h : Heap} {g : Array GenState} {d : Drawn} {t : Nat} {os : OsState} {n cc fr cell P : Addr} {mg : Str → Option Value} {ep : Nat} {a0 a1 a2 : Int} {k0 k1 k2 : Tok} {v0 : Value} {q1 : Str} {t1 t2 : Tok} {ln : Int} {Q : Flow → Shared → Prop}
    (S : CS h n cc P mg #[⟨a0, .str "__module__" k0, v0⟩, ⟨a1, .str "__qualname__" k1, .str q1 t1⟩, ⟨a2, .str "__firstlineno__" k2, .int ln t2⟩] ep #[])
    (c : ∀ h' tk t0 a3 a4 a5 a6 a7 a8 a9 a10 k3 k4 k5 k6 k7 k8 k9 k10 sl f4 f5 f6 f7 f8 f9 ep' ps tl, CS h' n cc P mg #[⟨a0, .str "__module__" k0, .str "cpy313.functools" t0⟩, ⟨a1, .str "__qualname__" k1, .str q1 t1⟩, ⟨a2, .str "__firstlineno__" k2, .int ln t2⟩, ⟨a3, .str "__slots__" k3, .ref sl⟩,
        ⟨a4, .str "__init__" k4, .ref f4⟩, ⟨a5, .str "__lt__" k5, .ref f5⟩, ⟨a6, .str "__gt__" k6, .ref f6⟩, ⟨a7, .str "__eq__" k7, .ref f7⟩, ⟨a8, .str "__le__" k8, .ref f8⟩, ⟨a9, .str "__ge__" k9, .ref f9⟩, ⟨a10, .str "__hash__" k10, .none⟩] ep' ps →
      h'.get? sl = some { cls := .type "list", data := .seq #[.str "obj" tl] } →
      FnK h' f4 n P 2 "__init__" [] → FnK h' f5 n P 3 "__lt__" [("mycmp", cell)] → FnK h' f6 n P 4 "__gt__" [("mycmp", cell)] → FnK h' f7 n P 5 "__eq__" [("mycmp", cell)] → FnK h' f8 n P 6 "__le__" [("mycmp", cell)] → FnK h' f9 n P 7 "__ge__" [("mycmp", cell)] →
      (∀ b o, b ≠ n → b ≠ P → h.get? b = some o → h'.get? b = some o) → Q .next ⟨h', g, d, tk, os⟩) :
    wpAny (model PySem.Challenge.pw_nb0072_01 w) A (run (.body kBody (envK n cc fr cell))) Q E ⟨h, g, d, t, os⟩ := by
  refine wpAny_run (codeAny_of_tree ?_)
  show wpAny _ _ (do blockStart kBody (envK n cc fr cell); return PySem.Fin.done (← (execs kBody (envK n cc fr cell)).onRaise (leaving (envK n cc fr cell)))) _ _ _
  refine wpAny_bind ?_
  unfold blockStart
  refine ite_f (by decide +kernel) ?_
  refine ite_f rfl ?_
  rw [show docOf kBody = none by decide +kernel]
  refine wpAny_pure ?_
  refine wpAny_bind (wpAny_onRaise (wpAny_mono (E := fun _ _ => False) ?_ (fun _ _ x => x) (fun _ _ x => x.elim)))
  generalize (A.mark none).under _ = A'
  show wpAny _ A' (execs (meth 0 :: meth 1 :: meth 2 :: meth 3 :: meth 4 :: meth 5 :: meth 6 :: meth 7 :: meth 8 :: []) (envK n cc fr cell)) _ _ _
  refine wpAny_execs_cons ?_
  refine wpAny_Assign_Name ?_
  refine wpAny_Constant_str ?_
  refine cs_again S.hn (es' := #[⟨a0, .str "__module__" k0, .str "cpy313.functools" t⟩, ⟨a1, .str "__qualname__" k1, .str q1 t1⟩, ⟨a2, .str "__firstlineno__" k2, .int ln t2⟩]) (fun _ _ => by kernel_rfl) (by kernel_rfl) (fun h1 hn1 s1 => ?_) rfl
  have hP1 : h1.get? P = some (tabObj #[]) := (s1 _ (fun q => by have := S.hn; rw [← q, S.hP] at this; cases this)).trans S.hP
  have ke : ∀ b o, b ≠ n → b ≠ P → h.get? b = some o → h1.get? b = some o := fun b o hb _ e => (s1 b hb).trans e
  have S := S.next hn1 hP1 ke
  clear hn1 hP1 s1
  dsimp only
  refine wpAny_execs_cons ?_
  refine wpAny_Assign_Name ?_
  refine wpAny_List ?_
  refine Calls.spliced_cons ?_
  refine ite_f rfl ?_
  refine wpAny_Constant_str ?_
  refine Calls.spliced_nil ?_
  refine ⟨by show (1 : Nat) ≤ _; decide, ?_⟩
  have hl := Heap.get?_push_size h1 (o := { cls := .type "list", data := .seq #[Value.str "obj" (t + 1 + 1)] }) rfl
  have k2 : ∀ b o, h1.get? b = some o → (h1.push { cls := .type "list", data := .seq #[Value.str "obj" (t + 1 + 1)] }).get? b = some o := fun b o e => Heap.get?_push_of_some _ e
  have S := S.next (k2 _ _ S.hn) (k2 _ _ S.hP) (fun b o _ _ e => k2 b o e)
  have ke : ∀ b o, b ≠ n → b ≠ P → h.get? b = some o → _ := fun b o hb hb' e => k2 b o (ke b o hb hb' e)
  revert hl S ke
  show _ → _ → _ → wpAny _ _ (storeName (envK n cc fr cell) "__slots__" (.ref h1.objs.size)) _ _ ⟨h1.push { cls := .type "list", data := .seq #[Value.str "obj" (t + 1 + 1)] }, g, d, t + 1 + 1 + 1, os⟩
  generalize h1.push { cls := .type "list", data := .seq #[Value.str "obj" (t + 1 + 1)] } = h2
  generalize h1.objs.size = sl
  intro hl S ke
  refine cs_store S.hn (by kernel_rfl) (by kernel_rfl) (fun h3 a3 k3 hn3 s3 => ?_) (.inl rfl)
  clear k2
  have hP3 : h3.get? P = some (tabObj #[]) := (s3 _ (fun q => by have := S.hn; rw [← q, S.hP] at this; cases this)).trans S.hP
  have ke3 : ∀ b o, b ≠ n → b ≠ P → h2.get? b = some o → h3.get? b = some o := fun b o hb _ e => (s3 b hb).trans e
  have slP : sl ≠ P := fun q => by rw [q, S.hP] at hl; exact absurd (congrArg Obj.cls (Option.some.inj hl)) (by simp)
  have sln : sl ≠ n := fun q => by rw [q, S.hn] at hl; exact absurd (congrArg Obj.cls (Option.some.inj hl)) (by simp)
  have hl := ke3 _ _ sln slP hl
  have ke : ∀ b o, b ≠ n → b ≠ P → h.get? b = some o → h3.get? b = some o := fun b o hb hb' e => ke3 b o hb hb' (ke b o hb hb' e)
  have S := S.next hn3 hP3 ke3
  clear hn3 hP3 ke3 s3
  dsimp only
  refine wpAny_execs_cons ?_
  refine cs_def (clos := []) S.hn (by kernel_rfl) (by kernel_rfl) rfl rfl S.C S.hP trivial (by kernel_rfl) S.g S.b S.gP rfl rfl rfl (fun h4 f4 c4 v4 o4 tk4 a4 k4 hn4 hf4 hr4 hP4 k4' u4 u4' => ?_)
  have F4 : FnK h4 f4 n P 2 "__init__" [] := ⟨_, _, _, _, hf4, hr4, u4, u4'⟩
  have hl := k4' _ _ sln slP hl
  have ke : ∀ b o, b ≠ n → b ≠ P → h.get? b = some o → h4.get? b = some o := fun b o hb hb' e => k4' b o hb hb' (ke b o hb hb' e)
  have S := S.next hn4 hP4 k4'
  clear hn4 hf4 hr4 hP4 k4'
  dsimp only
  refine wpAny_execs_cons ?_
  refine cs_def (clos := [("mycmp", cell)]) S.hn (by kernel_rfl) (by kernel_rfl) rfl rfl S.C S.hP trivial (by kernel_rfl) S.g S.b S.gP rfl rfl rfl (fun h5 f5 c5 v5 o5 tk5 a5 k5 hn5 hf5 hr5 hP5 k5' u5 u5' => ?_)
  have F5 : FnK h5 f5 n P 3 "__lt__" [("mycmp", cell)] := ⟨_, _, _, _, hf5, hr5, u5, u5'⟩
  have F4 := F4.next S k5'
  have hl := k5' _ _ sln slP hl
  have ke : ∀ b o, b ≠ n → b ≠ P → h.get? b = some o → h5.get? b = some o := fun b o hb hb' e => k5' b o hb hb' (ke b o hb hb' e)
  have S := S.next hn5 hP5 k5'
  clear hn5 hf5 hr5 hP5 k5'
  dsimp only
  refine wpAny_execs_cons ?_
  refine cs_def (clos := [("mycmp", cell)]) S.hn (by kernel_rfl) (by kernel_rfl) rfl rfl S.C S.hP trivial (by kernel_rfl) S.g S.b S.gP rfl rfl rfl (fun h6 f6 c6 v6 o6 tk6 a6 k6 hn6 hf6 hr6 hP6 k6' u6 u6' => ?_)
  have F6 : FnK h6 f6 n P 4 "__gt__" [("mycmp", cell)] := ⟨_, _, _, _, hf6, hr6, u6, u6'⟩
  have F4 := F4.next S k6'
  have F5 := F5.next S k6'
  have hl := k6' _ _ sln slP hl
  have ke : ∀ b o, b ≠ n → b ≠ P → h.get? b = some o → h6.get? b = some o := fun b o hb hb' e => k6' b o hb hb' (ke b o hb hb' e)
  have S := S.next hn6 hP6 k6'
  clear hn6 hf6 hr6 hP6 k6'
  dsimp only
  refine wpAny_execs_cons ?_
  refine cs_def (clos := [("mycmp", cell)]) S.hn (by kernel_rfl) (by kernel_rfl) rfl rfl S.C S.hP trivial (by kernel_rfl) S.g S.b S.gP rfl rfl rfl (fun h7 f7 c7 v7 o7 tk7 a7 k7 hn7 hf7 hr7 hP7 k7' u7 u7' => ?_)
  have F7 : FnK h7 f7 n P 5 "__eq__" [("mycmp", cell)] := ⟨_, _, _, _, hf7, hr7, u7, u7'⟩
  have F4 := F4.next S k7'
  have F5 := F5.next S k7'
  have F6 := F6.next S k7'
  have hl := k7' _ _ sln slP hl
  have ke : ∀ b o, b ≠ n → b ≠ P → h.get? b = some o → h7.get? b = some o := fun b o hb hb' e => k7' b o hb hb' (ke b o hb hb' e)
  have S := S.next hn7 hP7 k7'
  clear hn7 hf7 hr7 hP7 k7'
  dsimp only
  refine wpAny_execs_cons ?_
  refine cs_def (clos := [("mycmp", cell)]) S.hn (by kernel_rfl) (by kernel_rfl) rfl rfl S.C S.hP trivial (by kernel_rfl) S.g S.b S.gP rfl rfl rfl (fun h8 f8 c8 v8 o8 tk8 a8 k8 hn8 hf8 hr8 hP8 k8' u8 u8' => ?_)
  have F8 : FnK h8 f8 n P 6 "__le__" [("mycmp", cell)] := ⟨_, _, _, _, hf8, hr8, u8, u8'⟩
  have F4 := F4.next S k8'
  have F5 := F5.next S k8'
  have F6 := F6.next S k8'
  have F7 := F7.next S k8'
  have hl := k8' _ _ sln slP hl
  have ke : ∀ b o, b ≠ n → b ≠ P → h.get? b = some o → h8.get? b = some o := fun b o hb hb' e => k8' b o hb hb' (ke b o hb hb' e)
  have S := S.next hn8 hP8 k8'
  clear hn8 hf8 hr8 hP8 k8'
  dsimp only
  refine wpAny_execs_cons ?_
  refine cs_def (clos := [("mycmp", cell)]) S.hn (by kernel_rfl) (by kernel_rfl) rfl rfl S.C S.hP trivial (by kernel_rfl) S.g S.b S.gP rfl rfl rfl (fun h9 f9 c9 v9 o9 tk9 a9 k9 hn9 hf9 hr9 hP9 k9' u9 u9' => ?_)
  have F9 : FnK h9 f9 n P 7 "__ge__" [("mycmp", cell)] := ⟨_, _, _, _, hf9, hr9, u9, u9'⟩
  have F4 := F4.next S k9'
  have F5 := F5.next S k9'
  have F6 := F6.next S k9'
  have F7 := F7.next S k9'
  have F8 := F8.next S k9'
  have hl := k9' _ _ sln slP hl
  have ke : ∀ b o, b ≠ n → b ≠ P → h.get? b = some o → h9.get? b = some o := fun b o hb hb' e => k9' b o hb hb' (ke b o hb hb' e)
  have S := S.next hn9 hP9 k9'
  clear hn9 hf9 hr9 hP9 k9'
  dsimp only
  refine wpAny_execs_cons ?_
  refine wpAny_Assign_Name ?_
  refine wpAny_Constant_none ?_
  refine cs_store S.hn (by kernel_rfl) (by kernel_rfl) (fun h10 a10 k10 hn10 s10 => ?_) (.inl rfl)
  have hP10 : h10.get? P = some (tabObj _) := (s10 _ (fun q => by have := S.hn; rw [← q, S.hP] at this; cases this)).trans S.hP
  have ke10 : ∀ b o, b ≠ n → b ≠ P → h9.get? b = some o → h10.get? b = some o := fun b o hb _ e => (s10 b hb).trans e
  refine wpAny_execs_nil ?_
  refine wpAny_pure ?_
  exact c h10 _ t a3 a4 a5 a6 a7 a8 a9 a10 k3 k4 k5 k6 k7 k8 k9 k10 sl f4 f5 f6 f7 f8 f9 _ _ _ (S.next hn10 hP10 ke10) (ke10 _ _ sln slP hl) (F4.next S ke10) (F5.next S ke10) (F6.next S ke10) (F7.next S ke10) (F8.next S ke10) (F9.next S ke10)
    (fun b o hb hb' e => ke10 b o hb hb' (ke b o hb hb' e))
end Mine

end

section
open PySem PySem.W PySem.W.X PyProof.Rows
set_option maxRecDepth 100000
namespace Mine
theorem wpAny_congr {α : Type} {M : Model} {A : Around} {t u : Sem α} {Q : α → Shared → Prop} {E : Value → Shared → Prop} {s : Shared} (e : t = u) (h : wpAny M A u Q E s) : wpAny M A t Q E s := e ▸ h
theorem pr_look : typeLookup (.type "type") "__prepare__" = pure (some (.builtin "type.__prepare__")) := by rw [typeLookup_type, builtinLookup_eq_fast]; kernel_rfl
theorem pr_type : typeOf (.builtin "type.__prepare__") = pure (.type "classmethod_descriptor") := by kernel_rfl
theorem cmd_set : typeLookup (.type "classmethod_descriptor") "__set__" = pure none := by rw [typeLookup_type, builtinLookup_eq_fast]; kernel_rfl
theorem cmd_del : typeLookup (.type "classmethod_descriptor") "__delete__" = pure none := by rw [typeLookup_type, builtinLookup_eq_fast]; kernel_rfl
theorem cmd_get : typeLookup (.type "classmethod_descriptor") "__get__" = pure (some (.builtin "classmethod_descriptor.__get__")) := by rw [typeLookup_type, builtinLookup_eq_fast]; kernel_rfl
theorem pr_check : checkBuiltinCall "classmethod_descriptor.__get__" ⟨[.builtin "type.__prepare__", .none, .type "type"], []⟩ = pure () := by kernel_rfl
theorem typ_type : typeOf (.type "type") = pure (.type "type") := by kernel_rfl
theorem isT_type : isType (.type "type") = pure true := by kernel_rfl
theorem opq_type : opaqueClassAbove (.type "type") = pure none := by kernel_rfl
theorem pr_get {w : World} {A : Around} {E : Value → Shared → Prop} {h : Heap} {g : Array GenState} {d : Drawn} {t : Nat} {os : OsState} {Q : PySem.Fin → Shared → Prop}
    (hq : ∀ h' bm, h'.get? bm = some { cls := .type "builtin_function_or_method", dict := none, data := .fields #[.builtin "type.__prepare__", .type "type"] } → (∀ y o, h.get? y = some o → h'.get? y = some o) → Q (.done (.ret (.ref bm))) ⟨h', g, d, t, os⟩) :
    wpAny (model PySem.Challenge.pw_nb0072_01 w) A (Builtin.«classmethod_descriptor.__get__» ⟨[.builtin "type.__prepare__", .none, .type "type"], []⟩) Q E ⟨h, g, d, t, os⟩ := by
  unfold Builtin.«classmethod_descriptor.__get__»
  iterate 8 wp_step
  have hcut : ".".intercalate ("type.__prepare__".cutAt '.').dropLast = "type" := by decide +kernel
  rw [hcut]
  refine wpAny_bind (wpAny_pure ?_)
  refine wpAny_bind (wpAny_of_eq isT_type ?_)
  refine ite_nt rfl ?_
  refine wpAny_bind (wpAny_of_eq sub_type ?_)
  refine ite_nt rfl ?_
  refine wpAny_bind (k_new (fun h' bm hb k _ => ?_))
  exact wpAny_pure (hq h' bm hb k)
set_option maxHeartbeats 0 in
theorem pr_ga {w : World} {A : Around} {E : Value → Shared → Prop} {h : Heap} {g : Array GenState} {d : Drawn} {t : Nat} {os : OsState} {tk : Tok} {Q : PySem.Fin → Shared → Prop}
    (hq : ∀ h' bm, h'.get? bm = some { cls := .type "builtin_function_or_method", dict := none, data := .fields #[.builtin "type.__prepare__", .type "type"] } → (∀ y o, h.get? y = some o → h'.get? y = some o) → Q (.done (.ret (.ref bm))) ⟨h', g, d, t, os⟩) :
    wpAny (model PySem.Challenge.pw_nb0072_01 w) A (Builtin.«type.__getattribute__» ⟨[.type "type", .str "__prepare__" tk], []⟩) Q E ⟨h, g, d, t, os⟩ := by
  unfold Builtin.«type.__getattribute__» specialOf
  refine wpAny_bind (wpAny_pure ?_)
  refine wpAny_bind (wpAny_of_eq opq_type ?_)
  refine wpAny_bind (wpAny_of_eq typ_type ?_)
  refine wpAny_bind (wpAny_of_eq pr_look ?_)
  refine wpAny_bind (wpAny_bind (wpAny_of_eq pr_type (wpAny_of_eq cmd_get ?_)))
  refine wpAny_bind (wpAny_bind (wpAny_of_eq pr_type (wpAny_of_eq cmd_set ?_)))
  refine ite_f rfl ?_
  refine wpAny_bind (wpAny_bind (wpAny_of_eq pr_type (wpAny_of_eq cmd_del ?_)))
  refine wpAny_bind (wpAny_pure ?_)
  refine ite_f rfl ?_
  refine wpAny_bind (wpAny_of_eq pr_look ?_)
  refine ite_f (by decide +kernel) ?_
  refine wpAny_bind (wpAny_of_eq pr_type ?_)
  refine ite_f (by decide +kernel) ?_
  refine wpAny_bind (wpAny_bind (wpAny_of_eq pr_type (wpAny_of_eq cmd_get ?_)))
  refine wpAny_bind (wpAny_holding ?_)
  refine wpAny_call (codeAny_call_builtin (by decide +kernel) entry_cmg ?_)
  refine wpAny_of_eq pr_check ?_
  refine pr_get (fun h' bm hb k => ?_)
  exact wpAny_bind (wpAny_pure (wpAny_pure (hq h' bm hb k)))
theorem prep_attr {w : World} {A : Around} {E : Value → Shared → Prop} {h : Heap} {g : Array GenState} {d : Drawn} {t : Nat} {os : OsState} {Q : Option Value → Shared → Prop}
    (hq : ∀ h' bm t', h'.get? bm = some { cls := .type "builtin_function_or_method", dict := none, data := .fields #[.builtin "type.__prepare__", .type "type"] } → (∀ y o, h.get? y = some o → h'.get? y = some o) → Q (some (.ref bm)) ⟨h', g, d, t', os⟩) :
    wpAny (model PySem.Challenge.pw_nb0072_01 w) A (getAttr? (.type "type") "__prepare__") Q E ⟨h, g, d, t, os⟩ := by
  have hlk := KF.slot_tga.lookup
  have hT : ∀ t', (⟨h, g, d, t', os⟩ : Shared).TypeIs (.type "type") "type" := fun _ => typ_type
  unfold getAttr? getAttrBy? getAttrBy
  refine wpAny_bind (wpAny_mkText (wpAny_bind (wpAny_attempt (wpAny_holding (wpAny_bind (wpAny_of_eq typ_type (wpAny_bind (wpAny_of_eq hlk ?_))))))))
  refine ite_f (by decide) ?_
  unfold getAttrByItsOwn hookBefore callGetattribute boundAndCalled
  refine wpAny_bind (wpAny_of_eq (show (if onTheHeap (.type "type") then typeLookup (.type "type") "__getattr__" else pure none) = pure none from rfl) ?_)
  refine wpAny_bind (wpAny_attempt (wpAny_holding ?_))
  show wpAny _ _ (bindSpecial (.builtin "type.__getattribute__") (.type "type") >>= _) _ _ _
  refine wpAny_bind (wpAny_of_eq (KF.slot_tga.bind _) ?_)
  refine wpAny_mono (Q := fun v s' => ∃ bm h', v = .ref bm ∧ s' = ⟨h', g, d, t + 1, os⟩ ∧ h'.get? bm = some { cls := .type "builtin_function_or_method", dict := none, data := .fields #[.builtin "type.__prepare__", .type "type"] } ∧ (∀ y o, h.get? y = some o → h'.get? y = some o)) (E := fun _ _ => False)
    (wpAny_call_entry KF.slot_tga (hT _) KF.entry_tga (pr_ga (fun h' bm hb k => ⟨_, rfl, bm, h', rfl, rfl, hb, k⟩)) (KF.args_tga _ _)) (fun v s' hv => ?_) fun _ _ z => z.elim
  obtain ⟨bm, h', rfl, rfl, hb, k⟩ := hv
  exact wpAny_pure (wpAny_pure (hq _ _ _ hb k))
theorem entry_prep : entryFor table "type.__prepare__" = some Builtin.«type.__prepare__» := entryFor_of_tree (by kernel_rfl)
theorem check_prep (a b : Value) : checkBoundCall "type.__prepare__" ⟨[.type "type", a, b], []⟩ = pure () := by kernel_rfl
theorem prep_call {w : World} {A : Around} {E : Value → Shared → Prop} {h : Heap} {g : Array GenState} {d : Drawn} {t : Nat} {os : OsState} {bm : Addr} {a b : Value} {Q : Value → Shared → Prop}
    (hb : h.get? bm = some { cls := .type "builtin_function_or_method", dict := none, data := .fields #[.builtin "type.__prepare__", .type "type"] })
    (c : ∀ h' n, h'.get? n = some (dictO #[] 0) → (∀ y o, h.get? y = some o → h'.get? y = some o) → h.get? n = none → Q (.ref n) ⟨h', g, d, t, os⟩) :
    wpAny (model PySem.Challenge.pw_nb0072_01 w) A (call (.ref bm) [a, b]) Q E ⟨h, g, d, t, os⟩ := by
  refine wpAny_call (codeAny_of_tree ?_)
  show wpAny _ _ (callAny (.ref bm) _) _ _ _
  unfold callAny
  refine wpAny_bind (wpAny_load hb ?_)
  refine ite_t rfl ?_
  dsimp only
  refine ite_t rfl ?_
  refine wpAny_bind (wpAny_of_eq (check_prep _ _) ?_)
  refine wpAny_pure ⟨plainId_quiet (by decide +kernel) _, codeAny_builtin entry_prep ?_⟩
  rw [Around.under_plainId (by decide +kernel) _]
  unfold Builtin.«type.__prepare__»
  refine wpAny_bind (k_new (fun h' n hn k hnn => ?_))
  exact wpAny_pure (c h' n hn k hnn)
end Mine

end

section
open PySem PySem.W PySem.W.X PyProof.Rows
set_option maxRecDepth 100000
namespace Mine
theorem cc_ok {M : Model} {A : Around} {E : Value → Shared → Prop} {s : Shared} {env : Env} {c P : Addr} {pos : Pos} {ln : Nat} {name qual : Str} {sc : Scope} {Q : Value → Shared → Prop}
    (hc : env.code = .ref c) (C : CodeHd s.heap c P) (hP : s.heap.get? P = some (tabObj #[]))
    (k : ∀ c' P' h' tk, Heap.ExtBut P s.heap h' → s.heap.get? c' = none → s.heap.get? P' = none → h'.CodeRec (.ref c') qual → h'.get? P = some (tabObj #[rawInt pos.line, rawInt pos.col, .ref c']) → CodeHd h' c' P' → h'.get? P' = some (tabObj #[]) → Q (.ref c') { s with heap := h', toks := tk }) :
    wpAny M A (classCode env pos ln name qual sc) Q E s := by
  obtain ⟨o, vs, file, tf, flags, tg, inF, text, tt, ho, hcl, hd, h11, h11', h18, h7, h9, h10, hne⟩ := id C
  unfold classCode codeAt
  rw [hc]
  refine ite_f rfl ?_
  refine wpAny_bind (wpAny_fieldsOf ho hd ?_)
  rw [h11']
  refine wpAny_bind (wpAny_fieldsOf hP rfl ?_)
  rw [h18, h7, h9, h10]
  refine wpAny_bind (wpAny_newCodeX fun c' P' h' tk hk hc' hP' hcode' htab' hrec' => ?_)
  have hP1 := hk _ _ hP
  refine wpAny_bind (wpAny_updateFieldsOfTheText hP1 rfl ?_)
  have hget : (h'.update P (Obj.mapFields fun vs => if (codeAmong pos vs.toList).isSome = true then vs else vs ++ #[rawInt pos.line, rawInt pos.col, .ref c'])).get? P = some (tabObj #[rawInt pos.line, rawInt pos.col, .ref c']) :=
    Heap.get?_update_self (h := h') _ hP1 rfl
  refine wpAny_bind (wpAny_fieldsOf hget rfl ?_)
  rw [show codeAmong pos (#[rawInt pos.line, rawInt pos.col, Value.ref c'] : Array Value).toList = some (.ref c') by simp [codeAmong, rawInt]]
  have sm : Heap.SameBut P h' (h'.update P (Obj.mapFields fun vs => if (codeAmong pos vs.toList).isSome = true then vs else vs ++ #[rawInt pos.line, rawInt pos.col, .ref c'])) := Heap.SameBut.update ..
  have hcP : c' ≠ P := Nat.ne_of_gt (Nat.lt_of_lt_of_le (Heap.lt_size hP) hc')
  have hP'P : P' ≠ P := Nat.ne_of_gt (Nat.lt_of_lt_of_le (Heap.lt_size hP) hP')
  refine wpAny_pure (k c' P' _ _ (fun b o' hb e => sm.extBut b o' hb (hk b o' e)) (Heap.get?_none_of_le hc') (Heap.get?_none_of_le hP') ?_ hget ?_ (sm.extBut _ _ hP'P htab'.2))
  · obtain ⟨c₂, o₂, vs₂, t₂, e₂, g₂, r₂⟩ := hrec'
    cases e₂
    exact ⟨_, o₂, vs₂, t₂, rfl, sm.extBut _ _ hcP g₂, r₂⟩
  · obtain ⟨o1, vs1, file1, tf1, flags1, tg1, inF1, text1, tt1, e1, r1⟩ := CodeHd.of hcode' htab'
    exact ⟨o1, vs1, file1, tf1, flags1, tg1, inF1, text1, tt1, sm.extBut _ _ hcP e1, r1⟩
theorem cs_name {M : Model} {A : Around} {E : Value → Shared → Prop} {s : Shared} {n cc fr cell : Addr} {gm : Str → Option Value} {v : Value} {Q : Value → Shared → Prop} (hn : s.heap.get? n = some (dictO #[] 0)) (hg : s.heap.Ns mainGlobals gm) (hv : gm "__name__" = some v) (c : Q v s) :
    wpAny M A (loadName (envK n cc fr cell) "__name__") Q E s := by
  unfold loadName
  refine ite_f (by kernel_rfl) ?_
  rw [show (envK n cc fr cell).blockKind = .class by rfl, show (envK n cc fr cell).kindOf "__name__" = none by rfl]
  dsimp only
  refine ite_nt (by decide +kernel) ?_
  unfold localGet
  refine wpAny_bind (wpAny_bind (wpAny_load hn ?_))
  refine ite_t rfl ?_
  refine wpAny_nsGet (m := fun _ => none) ⟨_, _, _, hn, rfl, strKeys_of rfl, fun _ => rfl⟩ ?_
  unfold loadGlobal
  refine wpAny_bind (wpAny_nsGet hg ?_)
  rw [hv]
  exact wpAny_pure c
end Mine

end

section
open PySem PySem.W PySem.W.X PyProof.Rows
set_option maxRecDepth 100000
namespace Mine
abbrev env1 (L : Addr) (c : Addr) : Env := envOfC "cmp_to_key" (scopeOf (top 1)) L 21 (.ref c)
/-- what the class statement needs of the ground -/
structure ClsG (h : Heap) (c P : Addr) (gm bm mc : Str → Option Value) : Prop where
  hg : h.Ns mainGlobals gm
  hb : h.Ns builtinsNs bm
  hc : h.Ns cStatics mc
  tp : mc "thirdparty.any" = none
  go : gm "object" = none
  bo : bm "object" = some (.type "object")
  bb : bm "__build_class__" = some (.builtin "__build_class__")
  gn : ∃ x t, gm "__name__" = some (.str x t)
  gb : h.BuiltinsAt gm P
  code : CodeHd h c P
  tab : h.get? P = some (tabObj #[])
  Pg : mainGlobals ≠ P
  sm : ∃ o, h.get? sysModules = some o
  lim : h.NoLimit
theorem clos_k (L c : Addr) : closureFor kScope (env1 L c) = pure [(("mycmp" : Str), L + 1)] := by kernel_rfl
theorem look_item : ∃ v, typeLookup (.type "dict") "__getitem__" = pure (some v) := ⟨.builtin "dict.__getitem__", by rw [typeLookup_type, builtinLookup_eq_fast]; kernel_rfl⟩
theorem isT_obj : isType (.type "object") = pure true := by kernel_rfl
theorem typ_obj : typeOf (.type "object") = pure (.type "type") := by kernel_rfl
def FnC (h : Heap) (f : Addr) (i : Nat) (nm : Str) (clos : List (Str × Addr)) : Prop := ∃ doc pm c' ctv, h.get? f = some (fnMade nm ("cmp_to_key.<locals>.K." ++ nm) (argsOf (meth i)) (bodyOf (meth i)) (scopeOf (meth i)) clos doc pm c' ctv) ∧ h.CodeRec (.ref c') ("cmp_to_key.<locals>.K." ++ nm)
theorem FnC.keeps {h h' : Heap} {f : Addr} {i : Nat} {nm : Str} {clos : List (Str × Addr)} (x : FnC h f i nm clos) (k : ∀ b o, h.get? b = some o → h'.get? b = some o) : FnC h' f i nm clos :=
  by obtain ⟨doc, pm, c', ctv, e, r⟩ := x; exact ⟨doc, pm, c', ctv, k _ _ e, r.keeps k⟩
/-- the class K and its methods -/
structure ClassOk (h : Heap) (C : Addr) (e : Ent) (cell ns : Addr) : Prop where
  at_ : ∃ D b tn i k j l q, KAt h C e ns D b tn i k j l q
  q1 : e.q1 = "cmp_to_key.<locals>.K"
  f4 : FnC h e.f4 2 "__init__" []
  f5 : FnC h e.f5 3 "__lt__" [("mycmp", cell)]
  f6 : FnC h e.f6 4 "__gt__" [("mycmp", cell)]
  f7 : FnC h e.f7 5 "__eq__" [("mycmp", cell)]
  f8 : FnC h e.f8 6 "__le__" [("mycmp", cell)]
  f9 : FnC h e.f9 7 "__ge__" [("mycmp", cell)]
theorem ClassOk.keeps {h h' : Heap} {C : Addr} {e : Ent} {cell ns : Addr} (x : ClassOk h C e cell ns) (k : ∀ b o, h.get? b = some o → h'.get? b = some o) : ClassOk h' C e cell ns :=
  ⟨by obtain ⟨D, b, tn, i, k', j, l, q, y⟩ := x.at_; exact ⟨D, b, tn, i, k', j, l, q, y.keeps k⟩, x.q1, x.f4.keeps k, x.f5.keeps k, x.f6.keeps k, x.f7.keeps k, x.f8.keeps k, x.f9.keeps k⟩
theorem FnK.has {h : Heap} {f n P : Addr} {i : Nat} {nm : Str} {clos : List (Str × Addr)} (x : FnK h f n P i nm clos) : HasT h f "function" := by obtain ⟨_, _, _, _, e, _⟩ := x; exact ⟨_, e, rfl⟩
theorem FnK.fn {h : Heap} {f n P : Addr} {i : Nat} {nm : Str} {clos : List (Str × Addr)} (x : FnK h f n P i nm clos) : FnC h f i nm clos := by obtain ⟨a, b, c, d, e, r, _⟩ := x; exact ⟨a, b, c, d, e, r⟩
structure Same {α : Type} (a b : α) : Prop where
  eq : a = b
set_option maxHeartbeats 0 in
theorem build_ok {w : World} {A : Around} {E : Value → Shared → Prop} {h : Heap} {g : Array GenState} {d : Drawn} {t : Nat} {os : OsState} {L c P : Addr} {gm bm mc : Str → Option Value} {pos : Pos} {ln : Nat} {body : List Stmt} {sc : Scope} {Q : Value → Shared → Prop}
    (G : ClsG h c P gm bm mc) (hbody : Same body kBody) (hsc : Same sc kScope) (hroom : A.depth < recursionLimit)
    (fin : ∀ h' C e t' cc ns, (∀ b o, b ≠ P → h.get? b = some o → h'.get? b = some o) → ClassOk h' C e (L + 1) ns → h'.get? P = some (tabObj #[rawInt pos.line, rawInt pos.col, .ref cc]) → h.get? C = none → h.get? ns = none → Q (.ref C) ⟨h', g, d, t', os⟩) :
    wpAny (model PySem.Challenge.pw_nb0072_01 w) A (buildClass "K" "cmp_to_key.<locals>.K" [.type "object"] [] body sc ["obj"] ln (env1 L c) pos none) Q E ⟨h, g, d, t, os⟩ := by
  unfold buildClass
  have i1 := isT_obj
  have i2 := typ_obj
  have i3 := isT_type
  have i4 := sub_type
  refine wpAny_bind (k_new (fun h1 bt hbt k1 hbtn => ?_) (by size_fits))
  refine wpAny_bind (wpAny_of_eq (a := ⟨[.type "object"], false⟩) (by kernel_rfl) ?_)
  refine wpAny_bind (wpAny_of_eq i2 ?_)
  refine wpAny_bind (wpAny_of_eq i3 ?_)
  refine ite_t rfl ?_
  refine wpAny_bind (wpAny_of_eq (a := .type "type") (by kernel_rfl) ?_)
  refine wpAny_bind (wpAny_mkText ?_)
  refine ite_f rfl ?_
  refine wpAny_bind (wpAny_pure ?_)
  refine wpAny_holding ?_
  refine wpAny_bind (prep_attr (fun h2 bm t2 hbm k2 => ?_))
  refine wpAny_bind (prep_call hbm (fun h3 n hn k3 hnn => ?_))
  clear i1 i2 i3 i4
  have kk : ∀ y o, h.get? y = some o → h3.get? y = some o := fun y o x => k3 y o (k2 y o (k1 y o x))
  have hnn0 : h.get? n = none := by
    cases hx : h.get? n with
    | none => rfl
    | some o => rw [k2 _ _ (k1 _ _ hx)] at hnn; cases hnn
  have hns : (n == sysModules) = false := by
    obtain ⟨o, ho⟩ := G.sm
    rw [beq_eq_false_iff_ne]
    rintro rfl
    rw [hnn0] at ho; cases ho
  have hbt := k3 _ _ (k2 _ _ hbt)
  clear k1 k2 k3 hbm hbtn hnn
  refine wpAny_bind ?_
  unfold notTheModulesDict
  refine ite_f hns ?_
  refine wpAny_pure ?_
  obtain ⟨gi, hgi⟩ := look_item
  refine wpAny_bind (wpAny_specialOf (T := "dict") ⟨_, hn, rfl⟩ hgi ?_)
  refine ite_f rfl ?_
  refine wpAny_holding ?_
  refine ite_f (by rw [hsc.eq]; decide +kernel) ?_
  refine wpAny_bind (wpAny_pure ?_)
  refine ite_f (by rw [hsc.eq]; decide +kernel) ?_
  refine wpAny_bind (wpAny_pure ?_)
  refine wpAny_bind (cc_ok (c := c) (P := P) rfl (G.code.keeps kk) (kk _ _ G.tab) (fun cc P' h4 t4 x4 hccn hPn hrec htab C' hP' => ?_))
  obtain ⟨rfl⟩ := hsc
  obtain ⟨rfl⟩ := hbody
  have kk4 : ∀ y o, y ≠ P → h.get? y = some o → h4.get? y = some o := fun y o hy x => x4 y o hy (kk y o x)
  have hnP : n ≠ P := fun q => by have := G.tab; rw [← q, hnn0] at this; cases this
  have hn := x4 _ _ hnP hn
  have hbtP : bt ≠ P := fun q => by have := kk _ _ G.tab; rw [← q, hbt] at this; exact absurd (congrArg Obj.cls (Option.some.inj this)) (by simp)
  have hbt := x4 _ _ hbtP hbt
  have hg4 : h4.Ns mainGlobals gm := G.hg.at' fun o e => kk4 _ _ G.Pg e
  obtain ⟨mb, ob, b1, b2, b3, b4, b5, b6, b7, b8⟩ := G.gb
  have b5' := kk4 _ _ b4 b5
  refine wpAny_bind (wpAny_builtinsFor hg4 b1 b2 b5' b6 b7 b8 ?_)
  unfold newBodyFrame
  refine wpAny_bind (wpAny_bind (wpAny_nsGet hg4 ?_))
  refine k_alloc (fun h5 fr hfr k5 hfrn => ?_)
  refine wpAny_bind (wpAny_of_eq (clos_k L c) ?_)
  rw [show (Str.ofString "cmp_to_key.<locals>.K" ++ Str.ofString "." : Str) = "cmp_to_key.<locals>.K." by decide +kernel]
  refine wpAny_holding ?_
  have hc5 : h5.Ns cStatics mc := by
    have hcP : cStatics ≠ P := fun q => by
      obtain ⟨o, es, ep, e, hd, _⟩ := G.hc
      rw [q, G.tab] at e; cases e; cases hd
    exact G.hc.at' fun o e => k5 _ _ (kk4 _ _ hcP e)
  have hl5 : h5.NoLimit := by
    obtain ⟨m0, e1, e2⟩ := G.lim
    have hcP : cStatics ≠ P := fun q => by
      obtain ⟨o, es, ep, e, hd, _⟩ := G.hc
      rw [q, G.tab] at e; cases e; cases hd
    exact ⟨m0, e1.at' fun o e => k5 _ _ (kk4 _ _ hcP e), e2⟩
  refine wpAny_bind (wpAny_enterFrame hl5 hroom ?_)
  refine wpAny_bind (wpAny_onRaise (wpAny_mono (E := fun _ _ => False) ?_ (fun _ _ x => x) (fun _ _ x => x.elim)))
  have hn := k5 _ _ hn
  have hbt := k5 _ _ hbt
  have htab := k5 _ _ htab
  have hP' := k5 _ _ hP'
  have C' := C'.keeps k5
  have hg5 : h5.Ns mainGlobals gm := hg4.keeps k5
  obtain ⟨xn, tn, hgn⟩ := G.gn
  have hnP' : n ≠ P' := fun q => by rw [q, hP'] at hn; cases hn
  have S5 : CS h5 n cc P' gm #[] 0 #[] := by
    refine ⟨hn, C', hP', hg5, ⟨mb, ob, b1, b2, b3, ?_, k5 _ _ b5', b6, b7, b8⟩, ?_, ?_⟩
    · rintro rfl
      rw [kk _ _ b5] at hPn; cases hPn
    · rintro rfl
      obtain ⟨o, _, _, e, _⟩ := G.hg
      rw [kk _ _ e] at hPn; cases hPn
    · rintro rfl
      obtain ⟨o, _, _, e, _⟩ := G.hg
      rw [e] at hnn0; cases hnn0
  refine wpAny_bind (cs_name (cell := L + 1) hn hg5 hgn ?_)
  refine wpAny_bind (cs_store (cell := L + 1) hn (by kernel_rfl) (by kernel_rfl) (fun h6 i0 k0 hn6 s6 => ?_) (.inl rfl))
  have S6 := S5.next hn6 ((s6 _ hnP'.symm).trans hP') (fun b o hb _ e => (s6 b hb).trans e)
  refine wpAny_bind (wpAny_mkText ?_)
  refine wpAny_bind (cs_store (cell := L + 1) hn6 (by kernel_rfl) (by kernel_rfl) (fun h7 i1 k1 hn7 s7 => ?_) (.inr ⟨rfl, by decide +kernel⟩))
  have S7 := S6.next hn7 ((s7 _ hnP'.symm).trans S6.hP) (fun b o hb _ e => (s7 b hb).trans e)
  refine wpAny_bind (wpAny_mkInt ?_)
  refine wpAny_bind (cs_store (cell := L + 1) hn7 (by kernel_rfl) (by kernel_rfl) (fun h8 i2 k2 hn8 s8 => ?_) (.inr ⟨rfl, by decide +kernel⟩))
  have S8 := S7.next hn8 ((s8 _ hnP'.symm).trans S7.hP) (fun b o hb _ e => (s8 b hb).trans e)
  have k58 : ∀ b o, b ≠ n → h5.get? b = some o → h8.get? b = some o := fun b o hb e => (s8 b hb).trans ((s7 b hb).trans ((s6 b hb).trans e))
  clear s6 s7 s8 S6 S7 hn6 hn7
  refine wpAny_pure ?_
  refine wpAny_bind (body_ok (cell := L + 1) (cc := cc) (fr := fr) S8 (fun h9 t9 t0 a3 a4 a5 a6 a7 a8 a9 a10 k3 k4 k5' k6 k7 k8 k9 k10 sl f4 f5 f6 f7 f8 f9 ep' ps tl S9 hl F4 F5 F6 F7 F8 F9 ke => ?_))
  refine wpAny_bind (wpAny_onRaise (wpAny_mono (E := fun _ _ => False) ?_ (fun _ _ x => x) (fun _ _ x => x.elim)))
  refine wpAny_bind ?_
  refine wpAny_mkStrs (fun fs => ?_)
  refine wpAny_bind (wpAny_newTextTuple ?_)
  have hst := Heap.get?_push_size h9 (o := { cls := .type "tuple", data := .seq fs.toArray }) rfl
  have kp9 : ∀ b o, h9.get? b = some o → (h9.push { cls := .type "tuple", data := .seq fs.toArray }).get? b = some o := fun b o e => Heap.get?_push_of_some _ e
  dsimp only
  revert hst kp9
  generalize h9.push { cls := .type "tuple", data := .seq fs.toArray } = h10
  generalize h9.objs.size = st
  intro hst kp9
  have S10 := S9.next (kp9 _ _ S9.hn) (kp9 _ _ S9.hP) (fun b o _ _ e => kp9 b o e)
  refine wpAny_bind (cs_store (cell := L + 1) S10.hn (by kernel_rfl) (by kernel_rfl) (fun h11 i11 k11 hn11 s11 => ?_) (.inr ⟨rfl, by decide +kernel⟩))
  have K9 : ∀ b o, b ≠ n → h9.get? b = some o → h11.get? b = some o := fun b o hb e => (s11 b hb).trans (kp9 b o e)
  have K511 : ∀ b o, b ≠ n → b ≠ P' → h5.get? b = some o → h11.get? b = some o := fun b o hb hb' e => K9 b o hb (ke b o hb hb' (k58 b o hb e))
  have stn : st ≠ n := fun q => by rw [q, S10.hn] at hst; exact absurd (congrArg Obj.cls (Option.some.inj hst)) (by simp)
  have sln : sl ≠ n := fun q => by rw [q, S9.hn] at hl; exact absurd (congrArg Obj.cls (Option.some.inj hl)) (by simp)
  have btn : bt ≠ n := fun q => by rw [q, hn] at hbt; exact absurd (congrArg Obj.cls (Option.some.inj hbt)) (by simp)
  have btP : bt ≠ P' := fun q => by rw [q, hP'] at hbt; exact absurd (congrArg Obj.cls (Option.some.inj hbt)) (by simp)
  have hP0 : h.get? P' = none := by
    cases hx : h.get? P' with
    | none => rfl
    | some o => rw [kk _ _ hx] at hPn; cases hPn
  have PP : P ≠ P' := fun q => by have := G.tab; rw [q, hP0] at this; cases this
  have F4 := F4.next S9 (fun b o hb _ e => K9 b o hb e)
  have F5 := F5.next S9 (fun b o hb _ e => K9 b o hb e)
  have F6 := F6.next S9 (fun b o hb _ e => K9 b o hb e)
  have F7 := F7.next S9 (fun b o hb _ e => K9 b o hb e)
  have F8 := F8.next S9 (fun b o hb _ e => K9 b o hb e)
  have F9 := F9.next S9 (fun b o hb _ e => K9 b o hb e)
  refine wpAny_pure ?_
  refine ite_f rfl ?_
  have B : BodyAt h11 bt n ⟨fun x => [i0, i1, i2, a3, a4, a5, a6, a7, a8, a9, a10, i11].getD x 0, fun x => [k0, k1, k2, k3, k4, k5', k6, k7, k8, k9, k10, k11].getD x 0, "cpy313.functools", "cmp_to_key.<locals>.K", t0, t4 + 1, t4 + 1 + 1 + 1, ln, sl, f4, f5, f6, f7, f8, f9, st⟩ := by
    refine ⟨K511 _ _ btn btP hbt, ⟨_, hn11⟩, ⟨tl, 0, K9 _ _ sln hl⟩, hns, ?_, ⟨_, (s11 _ stn).trans hst, rfl⟩, rfl, ⟨mc, ?_, G.tp⟩⟩
    · simp only [List.mem_cons, List.not_mem_nil, or_false, forall_eq_or_imp, forall_eq]
      exact ⟨F4.has, F5.has, F6.has, F7.has, F8.has, F9.has⟩
    · refine hc5.at' fun o e => K511 _ _ ?_ ?_ e
      · rintro rfl
        obtain ⟨o, _, _, e, _⟩ := G.hc
        rw [e] at hnn0; cases hnn0
      · rintro rfl
        obtain ⟨o, _, _, e, _⟩ := G.hc
        rw [e] at hP0; cases hP0
  refine wpAny_bind (type_call B (fun h12 C ns D i k j l q t' k12 hK hCn hSn => ?_))
  refine wpAny_pure ?_
  have all : ∀ b o, b ≠ P → h.get? b = some o → h12.get? b = some o := fun b o hb e =>
    k12 b o (K511 b o (fun q => by rw [q, hnn0] at e; cases e) (fun q => by rw [q, hP0] at e; cases e) (k5 b o (kk4 b o hb e)))
  have new : ∀ X, h12.get? X ≠ some (tabObj #[rawInt pos.line, rawInt pos.col, .ref cc]) → h11.get? X = none → h.get? X = none := fun X hX hXn => by
    cases hx : h.get? X with
    | none => rfl
    | some o =>
      by_cases hXP : X = P
      · subst hXP
        exact absurd (k12 _ _ (K511 _ _ hnP.symm PP htab)) hX
      · rw [K511 _ _ (fun q => by rw [q, hnn0] at hx; cases hx) (fun q => by rw [q, hP0] at hx; cases hx) (k5 _ _ (kk4 _ _ hXP hx))] at hXn
        cases hXn
  refine fin h12 C _ t' cc ns all ⟨⟨D, bt, _, i, k, j, l, q, hK⟩, rfl, F4.fn.keeps k12, F5.fn.keeps k12, F6.fn.keeps k12, F7.fn.keeps k12, F8.fn.keeps k12, F9.fn.keeps k12⟩ (k12 _ _ (K511 _ _ hnP.symm PP htab)) (new _ ?_ hCn) (new _ ?_ hSn)
  · rw [hK.cls]; exact fun q => absurd (congrArg Obj.cls (Option.some.inj q)) (by simp)
  · rw [hK.ns]; exact fun q => absurd (congrArg Obj.cls (Option.some.inj q)) (by simp)
end Mine

end

section
open PySem PySem.W PySem.W.X PyProof.Rows
set_option maxRecDepth 100000
namespace Mine
theorem ne_dict {h : Heap} {L b : Addr} {m : Str → Option Value} {o : Obj} (hn : h.Ns L m) (hb : h.get? b = some o) (hd : ∀ es ep, o.data ≠ .dict es ep) : b ≠ L := by
  rintro rfl
  obtain ⟨o', es, ep, e, d, _⟩ := hn
  rw [hb] at e
  cases e
  exact hd _ _ d
theorem FnC.but {h h' : Heap} {f L : Addr} {i : Nat} {nm : Str} {clos : List (Str × Addr)} {m : Str → Option Value} (x : FnC h f i nm clos) (hL : h.Ns L m) (k : ∀ b o, b ≠ L → h.get? b = some o → h'.get? b = some o) : FnC h' f i nm clos := by
  obtain ⟨doc, pm, c', ctv, e, r⟩ := x
  refine ⟨doc, pm, c', ctv, k _ _ (ne_dict hL e (fun _ _ q => by cases q)) e, ?_⟩
  obtain ⟨c₂, oc, vs, t₂, e2, hoc, hd, hv⟩ := r
  cases e2
  exact ⟨_, oc, vs, t₂, rfl, k _ _ (ne_dict hL hoc (fun _ _ q => by rw [hd] at q; cases q)) hoc, hd, hv⟩
theorem ClassOk.but {h h' : Heap} {C L : Addr} {e : Ent} {cell ns : Addr} {m : Str → Option Value} (x : ClassOk h C e cell ns) (hL : h.Ns L m) (hn : ns ≠ L) (k : ∀ b o, b ≠ L → h.get? b = some o → h'.get? b = some o) : ClassOk h' C e cell ns := by
  refine ⟨?_, x.q1, x.f4.but hL k, x.f5.but hL k, x.f6.but hL k, x.f7.but hL k, x.f8.but hL k, x.f9.but hL k⟩
  obtain ⟨D, b, tn, i, k', j, l, q, y⟩ := x.at_
  exact ⟨D, b, tn, i, k', j, l, q, k _ _ (ne_dict hL y.cls (fun _ _ q => by cases q)) y.cls, k _ _ hn y.ns, k _ _ (ne_dict hL y.desc (fun _ _ q => by cases q)) y.desc⟩
set_option maxHeartbeats 0 in
theorem class_ok {w : World} {A : Around} {E : Value → Shared → Prop} {h : Heap} {g : Array GenState} {d : Drawn} {t : Nat} {os : OsState} {L c P : Addr} {gm bm mc m : Str → Option Value} {Q : Flow → Shared → Prop}
    (G : ClsG h c P gm bm mc) (hL : h.Ns L m) (hLP : L ≠ P) (hroom : A.depth < recursionLimit)
    (fin : ∀ h' C e t' cc ns, (∀ b o, b ≠ P → b ≠ L → h.get? b = some o → h'.get? b = some o) → h'.Ns L (fun x => if x = "K" then some (.ref C) else m x) → ClassOk h' C e (L + 1) ns → h'.get? P = some (tabObj #[rawInt 4, rawInt 4, .ref cc]) → h.get? C = none → Q .next ⟨h', g, d, t', os⟩) :
    wpAny (model PySem.Challenge.pw_nb0072_01 w) A (exec kStmt (env1 L c)) Q E ⟨h, g, d, t, os⟩ := by
  refine wpAny_congr (arm_exec_ClassDef _ _ _ _ _ _ _ _ _ _ _) ?_
  refine wpAny_bind (wpAny_pure ?_)
  refine wpAny_bind (wpAny_standAt ?_)
  unfold buildClassGuard
  refine wpAny_bind ?_
  refine wpAny_bind (wpAny_nsGet G.hb ?_)
  rw [G.bb]
  refine wpAny_pure ?_
  refine wpAny_bind (wpAny_holding ?_)
  refine wpAny_bind ?_
  unfold evalArgs
  refine wpAny_bind (Calls.spliced_cons ?_)
  refine ite_f rfl ?_
  refine r_blt G.hg G.go G.hb G.bo ?_
  refine Calls.spliced_nil ?_
  refine wpAny_bind (wpAny_pure ?_)
  refine wpAny_holding ?_
  refine ite_t rfl ?_
  refine wpAny_bind (wpAny_pure ?_)
  refine wpAny_bind (wpAny_pure ?_)
  refine wpAny_pure ?_
  refine wpAny_bind (wpAny_standAt ?_)
  refine wpAny_holding ?_
  rw [show qualnameIn (env1 L c) "K" "K" = "cmp_to_key.<locals>.K" by kernel_rfl]
  refine build_ok G ⟨rfl⟩ ⟨rfl⟩ hroom (fun h' C e t' cc ns k hK hP hCn hSn => ?_)
  refine wpAny_bind (wpAny_pure ?_)
  refine wpAny_bind (wpAny_standAt ?_)
  have hL' : h'.Ns L m := hL.at' fun o e => k _ _ hLP e
  refine wpAny_bind (wpAny_bindName ?_)
  refine wpAny_storeName_local rfl hL' (fun h2 hL2 s2 => ?_) rfl
  refine wpAny_pure ?_
  have hSL : ns ≠ L := fun q => by
    obtain ⟨o, _, _, e, _⟩ := hL
    rw [← q, hSn] at e; cases e
  have k2 : ∀ b o, b ≠ L → h'.get? b = some o → h2.get? b = some o := fun b o hb e => s2.extBut b o hb e
  exact fin h2 C e _ cc ns (fun b o hb hb' x => k2 b o hb' (k b o hb x)) hL2 (hK.but hL' hSL k2) (k2 _ _ hLP.symm hP) hCn
end Mine

end

section
open PySem PySem.W PySem.W.X PyProof.Rows
set_option maxRecDepth 100000
namespace Mine
theorem ClsG.keeps {h h' : Heap} {c P : Addr} {gm bm mc : Str → Option Value} (x : ClsG h c P gm bm mc) (k : ∀ b o, h.get? b = some o → h'.get? b = some o) : ClsG h' c P gm bm mc :=
  ⟨x.hg.keeps k, x.hb.keeps k, x.hc.keeps k, x.tp, x.go, x.bo, x.bb, x.gn, by obtain ⟨a, b, c, d, e, f, g, r⟩ := x.gb; exact ⟨a, b, c, d, e, f, k _ _ g, r⟩, x.code.keeps k, k _ _ x.tab, x.Pg, let ⟨o, e⟩ := x.sm; ⟨o, k _ _ e⟩, x.lim.keeps k⟩
/-- cmp_to_key(_law_compare) makes the class K over a cell that holds the function -/
theorem key_ok {w : World} {A : Around} {s : Shared} {R : Result → Shared → Prop} {c P : Addr} {gm bm mc : Str → Option Value} {o : Obj} {pm doc : Value} (rm : Rm 2 A) (G : ClsG s.heap c P gm bm mc)
    (ho : s.heap.get? 21 = some o) (hd : o.data = .func (Calls.docDef "cmp_to_key" (argsOf (top 1)) (bodyOf (top 1)) (scopeOf (top 1)) pm (.ref c) doc)) (hc : s.heap.CodeRec (.ref c) "cmp_to_key")
    (k : ∀ s' C e cell ns cc, Stp (Is P) s s' → ClassOk s'.heap C e cell ns → s'.heap.IsCell cell (some (.ref 49)) → s'.heap.get? P = some (tabObj #[rawInt 4, rawInt 4, .ref cc]) → s.heap.get? C = none → R (.ok (.ret (.ref C))) s') :
    codeAny (model PySem.Challenge.pw_nb0072_01 w) A (.call (.ref 21) ⟨[.ref 49], []⟩) R s := by
  refine call_cellsN_ret (binds := [("mycmp", .ref 49)]) rm.room ho hd G.lim hc rfl ?_ (by decide) (fun h₁ tk cells F N X => ?_)
  · intro x hx
    simp only [List.mem_cons, List.not_mem_nil, or_false] at hx
    subst hx
    exact .inr ⟨rfl, rfl⟩
  generalize hL : s.heap.objs.size = L at F N X ⊢
  have hLn : s.heap.get? L = none := by rw [← hL]; exact Heap.get?_none_of_le (Nat.le_refl _)
  have hLP : L ≠ P := fun q => by have := G.tab; rw [← q, hLn] at this; cases this
  have X : CellsAre _ [(("mycmp" : Str), L + 1)] cells := X
  obtain ⟨oc, rfl, hoc⟩ := X.one
  have hcell := (N _ (.head _)).1
  have G1 := G.keeps (F.keep)
  refine wpAny_execs_cons ?_
  refine class_ok G1 F.ns hLP rm.deeper.room (fun h' C e t' cc ns kk hL' hK hP hCn => ?_)
  have hcL : L + 1 ≠ L := Nat.succ_ne_self L
  have hcP : L + 1 ≠ P := fun q => by
    have := G.tab
    rw [← q] at this
    have := Heap.lt_size this
    rw [hL] at this
    exact absurd this (Nat.not_lt.mpr (Nat.le_succ L))
  refine wpAny_execs_cons ?_
  refine wpAny_Return_some ?_
  refine r_ld hL' (by rfl) ?_
  refine k _ C e (L + 1) ns cc ⟨fun b o hb x => kk b o hb (fun q => by rw [q, hLn] at x; cases x) (F.keep b o x), rfl, fun _ _ e => e, fun e => e⟩ hK ⟨oc, kk _ _ hcP hcL hcell, hoc⟩ hP ?_
  cases hx : s.heap.get? C with
  | none => rfl
  | some o => rw [F.keep _ _ hx] at hCn; cases hCn
end Mine

end

section
open PySem PySem.W PySem.W.X PyProof.Rows
set_option maxRecDepth 100000
namespace Mine
section
variable {M : Model} {h : Heap} {C : Addr} {e : Ent} {cell ns : Addr}
theorem ClassOk.look (x : ClassOk h C e cell ns) {name : Str} {r : Option Value} (hr : ∀ i k D j l, (nsFind (e.es4 i k D j l) name).or (builtinOwn "object" name) = r) : Looks M h (typeLookup (.ref C) name) r := by
  obtain ⟨D, b, tn, i, k, j, l, q, y⟩ := x.at_
  intro A Q E s kk hq
  obtain ⟨h', g, d, t, os⟩ := s
  exact k_look (kk _ _ y.cls) rfl rfl (kk _ _ y.ns) (e.keys4 i k D j l) (hr i k D j l) hq
theorem call_type : typeLookup (.type "type") "__call__" = pure (some (.builtin "type.__call__")) := by rw [typeLookup_type, builtinLookup_eq_fast]; kernel_rfl
theorem ClassOk.makes (x : ClassOk h C e cell ns) : Makes M h C := by
  obtain ⟨D, b, tn, i, k, j, l, q, y⟩ := id x.at_
  have hm : Looks M h (mroOf (.ref C)) [.ref C, .type "object"] := ((Looks.ld (part := none) y.cls).andThen .now).andThen .now
  have made : Looks M h (Bind.madeBy (.ref C)) (some "object.__new__") := by
    intro A Q E s kk q
    unfold Bind.madeBy
    refine wpAny_bind (hm A _ E s kk ?_)
    rw [List.forIn_cons]
    refine wpAny_bind (wpAny_bind (wpAny_bind (wpAny_bind (wpAny_loadPart (kk _ _ y.cls) (wpAny_pure ?_)))))
    exact wpAny_pure (wpAny_pure (wpAny_pure q))
  refine ⟨⟨_, _, _, _, y.cls, rfl, rfl, rfl⟩, made, ?_, ?_, ?_, ?_, ?_⟩
  · intro A Q E s kk q
    unfold Bind.staticBase
    refine wpAny_bind (hm A _ E s kk ?_)
    rw [List.forIn_cons]
    exact wpAny_bind (wpAny_bind (wpAny_bind (made A _ E s kk (wpAny_pure (wpAny_pure (wpAny_pure q))))))
  · intro A Q E s kk q
    exact k_subtype (kk _ _ y.cls) rfl q
  · intro A Q E s kk q
    exact k_subtype_obj (kk _ _ y.cls) rfl q
  · intro A Q E s kk q
    exact wpAny_specialOf (T := "type") ⟨_, kk _ _ y.cls, rfl⟩ call_type q
  · intro A Q E s kk q
    exact wpAny_isInstance (T := "type") ⟨_, kk _ _ y.cls, rfl⟩ sub_type q
theorem ClassOk.init (x : ClassOk h C e cell ns) : Looks M h (typeLookup (.ref C) "__init__") (some (.ref e.f4)) := x.look fun _ _ _ _ _ => by kernel_rfl
theorem FnC.bind {f : Addr} {i : Nat} {nm : Str} {clos : List (Str × Addr)} (x : FnC h f i nm clos) (self : Value) : Looks M h (bindSpecial (.ref f) self) (.ref f, [self]) := by
  obtain ⟨doc, pm, c', ctv, y, r⟩ := x
  intro A Q E s kk q
  unfold bindSpecial
  refine wpAny_bind (wpAny_typeOf (T := "function") ⟨_, kk _ _ y, rfl⟩ ?_)
  refine ite_t rfl ?_
  exact wpAny_pure q
end
end Mine

end

section
open PySem PySem.W PySem.W.X PyProof.Rows
set_option maxRecDepth 100000
namespace Mine
/-- a fragment that tells the class and its methods -/
structure FragK (K : Frag) (C : Addr) (e : Ent) (cell D : Addr) : Prop where
  cls : ∃ ns b tn i k j l, K.lookup C = some (clsObj C ns b e tn) ∧ K.lookup ns = some (dictO (e.es4 i k D j l) 3)
  desc : ∃ q, K.lookup D = some { cls := .type "member_descriptor", data := .fields #[.str "obj" q, .ref C, .builtin "proto.slot", .builtin "proto.slot#set", rawInt 0] }
  f4 : ∃ doc pm c' ctv, K.lookup e.f4 = some (fnMade "__init__" ("cmp_to_key.<locals>.K." ++ "__init__") (argsOf (meth 2)) (bodyOf (meth 2)) (scopeOf (meth 2)) [] doc pm c' ctv)
  f5 : ∃ doc pm c' ctv, K.lookup e.f5 = some (fnMade "__lt__" ("cmp_to_key.<locals>.K." ++ "__lt__") (argsOf (meth 3)) (bodyOf (meth 3)) (scopeOf (meth 3)) [("mycmp", cell)] doc pm c' ctv)
  f6 : ∃ doc pm c' ctv, K.lookup e.f6 = some (fnMade "__gt__" ("cmp_to_key.<locals>.K." ++ "__gt__") (argsOf (meth 4)) (bodyOf (meth 4)) (scopeOf (meth 4)) [("mycmp", cell)] doc pm c' ctv)
  f7 : ∃ doc pm c' ctv, K.lookup e.f7 = some (fnMade "__eq__" ("cmp_to_key.<locals>.K." ++ "__eq__") (argsOf (meth 5)) (bodyOf (meth 5)) (scopeOf (meth 5)) [("mycmp", cell)] doc pm c' ctv)
  f8 : ∃ doc pm c' ctv, K.lookup e.f8 = some (fnMade "__le__" ("cmp_to_key.<locals>.K." ++ "__le__") (argsOf (meth 6)) (bodyOf (meth 6)) (scopeOf (meth 6)) [("mycmp", cell)] doc pm c' ctv)
  f9 : ∃ doc pm c' ctv, K.lookup e.f9 = some (fnMade "__ge__" ("cmp_to_key.<locals>.K." ++ "__ge__") (argsOf (meth 7)) (bodyOf (meth 7)) (scopeOf (meth 7)) [("mycmp", cell)] doc pm c' ctv)
/-- the fragment of what stands in a heap at some places -/
def fragAt (h : Heap) : List Addr → Frag
  | [] => []
  | a :: r => match h.get? a with
    | some o => (a, o) :: fragAt h r
    | none => fragAt h r
theorem fragAt_in {h : Heap} : ∀ {l : List Addr}, (fragAt h l).In h
  | [] => fun a o e => by cases e
  | x :: l => fun a o e => by
    unfold fragAt at e
    split at e
    · rename_i o' ho
      rw [List.lookup_cons] at e
      split at e
      · rename_i q
        cases e
        rw [beq_iff_eq] at q
        rw [q]; exact ho
      · exact fragAt_in a o e
    · exact fragAt_in a o e
theorem fragAt_has {h : Heap} {a : Addr} {o : Obj} (e : h.get? a = some o) : ∀ {l : List Addr}, a ∈ l → (fragAt h l).lookup a = some o
  | [], m => by cases m
  | x :: l, m => by
    unfold fragAt
    by_cases q : a = x
    · subst q
      rw [e]
      simp
    · have m' : a ∈ l := by cases m with | head => exact absurd rfl q | tail _ m => exact m
      cases hx : h.get? x with
      | none => exact fragAt_has e m'
      | some o' =>
        rw [List.lookup_cons]
        rw [show (a == x) = false by simpa using q]
        exact fragAt_has e m'
theorem ClassOk.frag {h : Heap} {C : Addr} {e : Ent} {cell ns : Addr} (x : ClassOk h C e cell ns) : ∃ K D, K.In h ∧ FragK K C e cell D := by
  obtain ⟨D, b, tn, i, k, j, l, q, y⟩ := x.at_
  refine ⟨fragAt h [C, ns, D, e.f4, e.f5, e.f6, e.f7, e.f8, e.f9], D, fragAt_in, ⟨ns, b, tn, i, k, j, l, fragAt_has y.cls (by simp), fragAt_has y.ns (by simp)⟩, ⟨q, fragAt_has y.desc (by simp)⟩, ?_, ?_, ?_, ?_, ?_, ?_⟩
  · obtain ⟨a, b, c, d, z, _⟩ := x.f4; exact ⟨a, b, c, d, fragAt_has z (by simp)⟩
  · obtain ⟨a, b, c, d, z, _⟩ := x.f5; exact ⟨a, b, c, d, fragAt_has z (by simp)⟩
  · obtain ⟨a, b, c, d, z, _⟩ := x.f6; exact ⟨a, b, c, d, fragAt_has z (by simp)⟩
  · obtain ⟨a, b, c, d, z, _⟩ := x.f7; exact ⟨a, b, c, d, fragAt_has z (by simp)⟩
  · obtain ⟨a, b, c, d, z, _⟩ := x.f8; exact ⟨a, b, c, d, fragAt_has z (by simp)⟩
  · obtain ⟨a, b, c, d, z, _⟩ := x.f9; exact ⟨a, b, c, d, fragAt_has z (by simp)⟩
end Mine

end

section
open PySem PySem.W PySem.W.X PyProof.Rows
set_option maxRecDepth 100000
namespace Mine
section
variable {K : Frag} {C : Addr} {e : Ent} {cell D : Addr}
theorem FragK.find (x : FragK K C e cell D) {name : Str} {r : Option Value} (hr : ∀ i k j l, (match nsIn [(0, dictO (e.es4 i k D j l) 3)] 0 name with | some (some v) => some (some v) | some none => alongIn [] name [.type "object"] | none => none) = some r) :
    findIn K (.ref C) name = some r := by
  obtain ⟨ns, b, tn, i, k, j, l, h1, h2⟩ := x.cls
  have hN : nsIn K ns name = nsIn [(0, dictO (e.es4 i k D j l) 3)] 0 name := by unfold nsIn; rw [h2]; rfl
  have hA : alongIn K name [.type "object"] = alongIn [] name [.type "object"] := rfl
  unfold findIn
  dsimp only
  rw [h1]
  show alongIn K name [.ref C, .type "object"] = _
  rw [← hr i k j l, ← hN, ← hA]
  show (match ownIn K name (.ref C) with | some (some v) => some (some v) | some none => alongIn K name [.type "object"] | none => none) = _
  rw [show ownIn K name (.ref C) = nsIn K ns name by unfold ownIn; dsimp only; rw [h1]]
theorem FragK.clsK (x : FragK K C e cell D) : ∃ cd, clsIn K C = some cd ∧ cd.mro = [.ref C, .type "object"] ∧ cd.hasDict = false ∧ cd.slotNames = [("obj" : Str)] := by
  obtain ⟨ns, b, tn, i, k, j, l, h1, h2⟩ := x.cls
  exact ⟨_, by unfold clsIn; rw [h1], rfl, rfl, rfl⟩
theorem FragK.getattribute (x : FragK K C e cell D) : findIn K (.ref C) "__getattribute__" = some (some (.builtin "object.__getattribute__")) := x.find fun _ _ _ _ => by kernel_rfl
theorem FragK.setattr (x : FragK K C e cell D) : findIn K (.ref C) "__setattr__" = some (some (.builtin "object.__setattr__")) := x.find fun _ _ _ _ => by kernel_rfl
theorem FragK.getattr (x : FragK K C e cell D) : findIn K (.ref C) "__getattr__" = some none := x.find fun _ _ _ _ => by kernel_rfl
theorem FragK.obj (x : FragK K C e cell D) : findIn K (.ref C) "obj" = some (some (.ref D)) := x.find fun _ _ _ _ => by kernel_rfl
theorem FragK.lt (x : FragK K C e cell D) : findIn K (.ref C) "__lt__" = some (some (.ref e.f5)) := x.find fun _ _ _ _ => by kernel_rfl
theorem FragK.gt (x : FragK K C e cell D) : findIn K (.ref C) "__gt__" = some (some (.ref e.f6)) := x.find fun _ _ _ _ => by kernel_rfl
theorem FragK.eq (x : FragK K C e cell D) : findIn K (.ref C) "__eq__" = some (some (.ref e.f7)) := x.find fun _ _ _ _ => by kernel_rfl
theorem FragK.le (x : FragK K C e cell D) : findIn K (.ref C) "__le__" = some (some (.ref e.f8)) := x.find fun _ _ _ _ => by kernel_rfl
theorem FragK.ge (x : FragK K C e cell D) : findIn K (.ref C) "__ge__" = some (some (.ref e.f9)) := x.find fun _ _ _ _ => by kernel_rfl
theorem FragK.typeD (x : FragK K C e cell D) : typeIn K (.ref D) = some (.type "member_descriptor") := by
  obtain ⟨q, h⟩ := x.desc
  show (K.lookup D).map (·.cls) = _
  rw [h]; rfl
theorem FragK.slot (x : FragK K C e cell D) : slotIn K D C = some 0 := by
  obtain ⟨q, h⟩ := x.desc
  obtain ⟨ns, b, tn, i, k, j, l, h1, h2⟩ := x.cls
  unfold slotIn recIn clsIn
  rw [h, h1]
  simp [rawInt]
theorem FragK.plain (x : FragK K C e cell D) : plainOver K C = true := by
  obtain ⟨cd, h1, h2, _⟩ := x.clsK
  unfold plainOver
  rw [h1]
  show onlyObject cd.mro = true
  rw [h2]; rfl
theorem FragK.specialD (x : FragK K C e cell D) {name : Str} : specialIn K (.ref D) name = fastLookup "member_descriptor" name := by
  unfold specialIn
  rw [x.typeD]; rfl
theorem FragK.takes (x : FragK K C e cell D) : takesIn K (.ref D) = some true := by
  unfold takesIn
  rw [x.specialD]
  kernel_rfl
theorem FragK.taker (x : FragK K C e cell D) : takerIn K C "obj" = some (some (.ref D)) := by
  unfold takerIn
  rw [x.obj]
  show (takesIn K (.ref D)).map _ = _
  rw [x.takes]; rfl
theorem FragK.findObj (x : FragK K C e cell D) {od : Option Obj} : W.findObj K C od "obj" = some (.bind (.builtin "member_descriptor.__get__") (.ref D)) := by
  obtain ⟨cd, h1, _⟩ := x.clsK
  unfold W.findObj
  rw [h1, x.obj]
  show ((specialIn K (.ref D) "__get__").bind _) = _
  rw [x.specialD, show fastLookup "member_descriptor" "__get__" = some (some (.builtin "member_descriptor.__get__")) by kernel_rfl]
  show ((takesIn K (.ref D)).bind _) = _
  rw [x.takes]; rfl
end
end Mine

end

section
open PySem PySem.W PySem.W.X PyProof.Rows Builtin.Getset_descriptor
set_option maxRecDepth 100000
namespace Mine
section
variable {w : World} {A : Around} {E : Value → Shared → Prop} {K : Frag} {C : Addr} {e : Ent} {cell D : Addr}
theorem obj_get {s : Shared} {x : Addr} {ox : Obj} {od : Option Obj} {y : Str} {ty : Tok} {expr : Bool} {Q : Value → Shared → Prop} (X : K.In s.heap) (FK : FragK K C e cell D) (I : InstAt s.heap x ox C od) (hv : (ox.slots[0]?).join = some (.str y ty)) (c : Q (.str y ty) { s with toks := s.toks + 1 }) :
    wpAny (model PySem.Challenge.pw_nb0072_01 w) A (getAttr (.ref x) "obj" expr) Q E s := by
  refine get_bind X I FK.getattribute FK.findObj FK.getattr ?_
  refine wpAny_call (slot_get (s := { s with toks := s.toks + 1 }) X I FK.slot hv ?_)
  exact wpAny_pure c
/-- a key made by K over a text -/
def InstK (h : Heap) (C x : Addr) (y : Str) (ty : Tok) : Prop := ∃ dx, h.get? x = some ⟨.ref C, some dx, .plain, #[some (.str y ty)]⟩ ∧ h.get? dx = some emptyDict
theorem InstK.keeps {h h' : Heap} {x : Addr} {y : Str} {ty : Tok} (z : InstK h C x y ty) (k : ∀ b o, h.get? b = some o → h'.get? b = some o) : InstK h' C x y ty := let ⟨dx, a, b⟩ := z; ⟨dx, k _ _ a, k _ _ b⟩
theorem InstK.inst {h : Heap} {x : Addr} {y : Str} {ty : Tok} (z : InstK h C x y ty) : ∃ ox, InstAt h x ox C (some emptyDict) ∧ (ox.slots[0]?).join = some (.str y ty) := let ⟨_, a, b⟩ := z; ⟨_, ⟨a, rfl, rfl, b⟩, rfl⟩
theorem obj_set {s : Shared} {x dx : Addr} {y : Str} {ty : Tok} {tk : Tok} {R : Result → Shared → Prop} (X : K.In s.heap) (FK : FragK K C e cell D) (hx : s.heap.get? x = some (instObj C dx)) (hd : s.heap.get? dx = some emptyDict)
    (c : ∀ h', h'.get? x = some ⟨.ref C, some dx, .plain, #[some (.str y ty)]⟩ → (∀ b, b ≠ x → h'.get? b = s.heap.get? b) → R (.ok (.ret .none)) { s with heap := h' }) :
    codeAny (model PySem.Challenge.pw_nb0072_01 w) A (.call (.builtin "object.__setattr__") ⟨[.ref x, .str "obj" tk, .str y ty], []⟩) R s := by
  have I : InstAt s.heap x (instObj C dx) C (some emptyDict) := ⟨hx, rfl, rfl, hd⟩
  refine osa_descr KF.slot_mset X I FK.plain FK.taker FK.typeD ?_
  obtain ⟨n, tn, owner, behind, tb, d, sl, cd, ho, hc, hm, hb, hi⟩ := slot_of X FK.slot
  obtain ⟨cd', hc', _, _, hsn⟩ := FK.clsK
  rw [hc] at hc'
  cases hc'
  obtain ⟨hh, g, dr, t, os⟩ := s
  have L0 := I.type (M := model PySem.Challenge.pw_nb0072_01 w)
  have L1 := looks_mroIn (M := model PySem.Challenge.pw_nb0072_01 w) X hm
  have L2 : Looks (model PySem.Challenge.pw_nb0072_01 w) hh (Builtin.Slots.slotNamesOf (.ref C)) cd.slotNames := (looks_clsIn X hc).andThen .now
  have f0 := looks_field (M := model PySem.Challenge.pw_nb0072_01 w) ho 0 (v := .str n tn) rfl
  have f1 := looks_field (M := model PySem.Challenge.pw_nb0072_01 w) ho 1 (v := owner) rfl
  have f3 := looks_field (M := model PySem.Challenge.pw_nb0072_01 w) ho 3 (v := .builtin "proto.slot#set") rfl
  have f4 := looks_field (M := model PySem.Challenge.pw_nb0072_01 w) ho 4 (v := .int behind tb) rfl
  have f5 : Looks (model PySem.Challenge.pw_nb0072_01 w) hh (descrItself (.ref D)) [.ref D] := ((Looks.ld (part := none) ho).andThen .now).andThen (Looks.of_pure (by kernel_rfl))
  dsimp only at ho hx L0 L1
  refine codeAny_call_builtin KF.slot_mset.plain KF.entry_mset (KF.slot_mset.check _ _ _ _ _ _ _ _ ⟨_, ho, rfl⟩ (KF.args_mset _ _ _) ?_)
  unfold Builtin.«member_descriptor.__set__» descrSet descrStoreThrough descrCheckInstance descrNameAndClass isInstance
  repeat lk
  refine ⟨Code.quiet_builtin _ (by decide +kernel), codeAny_builtin KF.entry_slotset ?_⟩
  unfold Builtin.«proto.slot#set» Builtin.Slots.target
  repeat lk
  rw [if_neg hb]
  refine wpAny_pure ?_
  rw [← hi]
  refine wpAny_bind (k_slot (o' := ⟨.ref C, some dx, .plain, #[some (.str y ty)]⟩) hx rfl (fun h' hx' sm => ?_))
  exact wpAny_pure (c h' hx' sm)
end
end Mine

end

section
open PySem PySem.W PySem.W.X PyProof.Rows
set_option maxRecDepth 100000
namespace Mine
theorem enterC {w : World} {A : Around} {s : Shared} {R : Result → Shared → Prop} {f : Addr} {i : Nat} {nm : Str} {clos : List (Str × Addr)} {args : List Value} {binds : List (Str × Value)} {k : Nat} (rm : Rm k A) (lim : s.heap.NoLimit) (F : FnC s.heap f i nm clos)
    (hbind : ∀ doc pm cd ct, bindArgs (fnX nm ("cmp_to_key.<locals>.K." ++ nm) (argsOf (meth i)) (bodyOf (meth i)) (scopeOf (meth i)) clos .none .none doc pm none cd ct) ⟨args, []⟩ = pure binds) (hloc : ∀ x ∈ binds, (scopeOf (meth i)).names.lookup x.1 = some .local)
    (h : ∀ cd h₁ tk, h₁.Ns s.heap.objs.size (fun x => binds.reverse.lookup x) → (∀ b o, s.heap.get? b = some o → h₁.get? b = some o) →
      wpAny (model PySem.Challenge.pw_nb0072_01 w) (A.deeper (envX ("cmp_to_key.<locals>.K." ++ nm) (scopeOf (meth i)) s.heap.objs.size f cd clos)) (execs (bodyOf (meth i)) (envX ("cmp_to_key.<locals>.K." ++ nm) (scopeOf (meth i)) s.heap.objs.size f cd clos))
        (fun f s' => R (.ok (.ret (match f with | .ret v => v | _ => .none))) s') (fun _ _ => False) { s with heap := h₁, toks := tk })
    (hco : (scopeOf (meth i)).isCoroutine = false := by rfl) (hgen : (scopeOf (meth i)).isGenerator = false := by rfl) (hk : (scopeOf (meth i)).kind = .function := by rfl)
    (hcell : ∀ x ∈ (scopeOf (meth i)).names, x.2 ≠ .cell := by decide) :
    codeAny (model PySem.Challenge.pw_nb0072_01 w) A (.call (.ref f) ⟨args, []⟩) R s := by
  obtain ⟨doc, pm, c', ctv, e, r⟩ := F
  refine codeAny_call_def rm.room e rfl lim r rfl (.of_eq (hbind doc pm (.ref c') ctv)) hcell hloc (fun h₀ hns hkeep => ?_) hco hgen hk
  exact wpAny_mono (h (.ref c') h₀ _ hns hkeep) (fun _ _ x => x) fun _ _ x => x.elim
end Mine

end

section
open PySem PySem.W PySem.W.X PyProof.Rows
set_option maxRecDepth 100000
namespace Mine
theorem init_ok {w : World} {A : Around} {s : Shared} {R : Result → Shared → Prop} {C : Addr} {e : Ent} {cell ns x dx : Addr} {y : Str} {ty : Tok} (rm : Rm 3 A) (lim : s.heap.NoLimit) (G : ClassOk s.heap C e cell ns) (hx : s.heap.get? x = some (instObj C dx)) (hd : s.heap.get? dx = some emptyDict)
    (c : ∀ s', InstK s'.heap C x y ty → Stp (Is x) s s' → R (.ok (.ret .none)) s') :
    codeAny (model PySem.Challenge.pw_nb0072_01 w) A (.call (.ref e.f4) ⟨[.ref x, .str y ty], []⟩) R s := by
  refine enterC rm lim G.f4 (binds := [("self", .ref x), ("obj", .str y ty)]) (fun _ _ _ _ => rfl) (locs rfl) (fun cd h₁ tk hns kk => ?_)
  generalize hL : s.heap.objs.size = L at hns ⊢
  have hLn : s.heap.get? L = none := by rw [← hL]; exact Heap.get?_none_of_le (Nat.le_refl _)
  refine wpAny_execs_cons ?_
  refine plainObj_wpAny_Assign_Attribute ?_
  refine r_ld hns (by rfl) ?_
  refine r_ld hns (by rfl) ?_
  unfold setAttr callSpecial?
  refine wpAny_bind (wpAny_mkText ?_)
  have G1 := G.keeps kk
  obtain ⟨K, D, X, FK⟩ := G1.frag
  have hx1 := kk _ _ hx
  have I : InstAt h₁ x (instObj C dx) C (some emptyDict) := ⟨hx1, rfl, rfl, kk _ _ hd⟩
  refine wpAny_bind (wpAny_bind ?_)
  unfold specialOf
  refine wpAny_bind ((I.type (M := model PySem.Challenge.pw_nb0072_01 w)).at ?_)
  refine (looks_findIn (M := model PySem.Challenge.pw_nb0072_01 w) X FK.setattr).at ?_
  refine wpAny_holding ?_
  refine wpAny_bind (wpAny_of_eq (PySem.F.store_object.slot.bind _) ?_)
  refine wpAny_bind (wpAny_call ?_)
  refine obj_set (s := ⟨h₁, s.gens, s.drawn, tk + 1, s.os⟩) X FK hx1 (kk _ _ hd) (fun h' hx' sm => ?_)
  refine wpAny_pure ?_
  refine wpAny_pure ?_
  refine wpAny_execs_nil ?_
  have hdx : dx ≠ x := fun q => by rw [q, hx] at hd; cases hd
  exact c _ ⟨dx, hx', (sm _ hdx).trans (kk _ _ hd)⟩ ⟨fun b o hb e => (sm b hb).trans (kk b o e), rfl, fun _ _ e => e, fun e => e⟩
end Mine

end

section
open PySem PySem.W PySem.W.X PyProof.Rows
set_option maxRecDepth 100000
namespace Mine
theorem wgt_call (C : Addr) (rest : List Value) : (Code.builtin "type.__call__" ⟨.ref C :: rest, []⟩).weight = 1 := by kernel_rfl
theorem unt_call (C : Addr) (rest : List Value) : (Code.builtin "type.__call__" ⟨.ref C :: rest, []⟩).cUnits ≤ 16 := Nat.le_of_ble_eq_true (by kernel_rfl)
theorem Rm.under {n : Nat} {A : Around} {rest : List Value} {C : Addr} (h : Rm (n + 1) A) : Rm n (A.under (.builtin "type.__call__" ⟨.ref C :: rest, []⟩)) := by
  refine ⟨h.1, ?_, Nat.lt_of_le_of_lt (un_le _ n (unt_call C rest)) h.2.2⟩
  show A.depth + (Code.builtin "type.__call__" ⟨.ref C :: rest, []⟩).weight + n < _
  rw [wgt_call, Nat.add_right_comm]
  exact h.2.1
/-- K(text) -/
theorem make_ok {w : World} {A : Around} {s : Shared} {R : Result → Shared → Prop} {C : Addr} {e : Ent} {cell ns : Addr} {y : Str} {ty : Tok} (rm : Rm 4 A) (lim : s.heap.NoLimit) (G : ClassOk s.heap C e cell ns)
    (c : ∀ s' x, InstK s'.heap C x y ty → Stp No s s' → s.heap.get? x = none → R (.ok (.ret (.ref x))) s') :
    codeAny (model PySem.Challenge.pw_nb0072_01 w) A (.call (.ref C) ⟨[.str y ty], []⟩) R s := by
  obtain ⟨h, g, d, t, os⟩ := s
  refine make_core G.makes G.init (fun self => G.f4.bind self) (.inl rfl) ?_
  have k1 : ∀ b o, h.get? b = some o → ((h.push emptyDict).push (instObj C h.objs.size)).get? b = some o := fun b o e => Heap.get?_push_of_some _ (Heap.get?_push_of_some _ e)
  have hx : ((h.push emptyDict).push (instObj C h.objs.size)).get? (h.objs.size + 1) = some (instObj C h.objs.size) := by
    have := Heap.get?_push_size (h.push emptyDict) (o := instObj C h.objs.size) rfl
    rwa [Heap.size_push] at this
  have hd : ((h.push emptyDict).push (instObj C h.objs.size)).get? h.objs.size = some emptyDict := Heap.get?_push_of_some _ (Heap.get?_push_size h rfl)
  have hxn : h.get? (h.objs.size + 1) = none := Heap.get?_none_of_le (Nat.le_succ _)
  refine init_ok (rm := rm.under) (lim.keeps k1) (G.keeps k1) hx hd (fun s' hI st => ⟨rfl, c s' _ hI ⟨fun b o _ e => st.keep b o (fun q => by rw [q, hxn] at e; cases e) (k1 b o e), st.os, st.gens, st.bare⟩ hxn⟩)
end Mine

end

section
open PySem PySem.W PySem.W.X PyProof.Rows
set_option maxRecDepth 100000
namespace Mine
theorem meth_ok {w : World} {A : Around} {s : Shared} {R : Result → Shared → Prop} {C : Addr} {e : Ent} {cell ns f x z : Addr} {y1 y2 : Str} {u1 u2 : Tok} {i : Nat} {nm : Str} {op : CmpOp} {fb : Int → Bool} {p1 p2 p3 p4 p5 p6 p7 p8 p9 : Pos} {kc : Nat}
    (hb : bodyOf (meth i) = [.Return (some (.Compare (.Call (.Name "mycmp" p1) [.Attribute (.Name "self" p2) "obj" p3, .Attribute (.Name "other" p4) "obj" p5] [] p6) [op] [.Constant (.int 0) kc p7] p8)) p9])
    (ha : ∀ v v' doc pm cd ct, bindArgs (fnX nm ("cmp_to_key.<locals>.K." ++ nm) (argsOf (meth i)) (bodyOf (meth i)) (scopeOf (meth i)) [("mycmp", cell)] .none .none doc pm none cd ct) ⟨[v, v'], []⟩ = pure [(("self" : Str), v), (("other" : Str), v')])
    (hn : (scopeOf (meth i)).names = [(("self" : Str), NameKind.local), (("other" : Str), NameKind.local), (("mycmp" : Str), NameKind.free)])
    (hco : (scopeOf (meth i)).isCoroutine = false) (hgen : (scopeOf (meth i)).isGenerator = false) (hk : (scopeOf (meth i)).kind = .function)
    (hop : ∀ (A : Around) (s : Shared) (v : Int) (t u : Tok) (Q : Value → Shared → Prop) (E : Value → Shared → Prop), Q (.bool (fb v)) s → wpAny (GM w) A (compareOp op (.int v t) (.int 0 u)) Q E s)
    (rm : Rm 8 A) (G : Grd s.heap) (F : FnC s.heap f i nm [("mycmp", cell)]) (CK : ClassOk s.heap C e cell ns) (hc : s.heap.IsCell cell (some (.ref 49))) (hx : InstK s.heap C x y1 u1) (hz : InstK s.heap C z y2 u2) (h1 : y1.cps.size ≤ 1000) (h2 : y2.cps.size ≤ 1000)
    (c : ∀ s', Stp No s s' → R (.ok (.ret (.bool (fb (cmpV y1 y2))))) s') :
    codeAny (GM w) A (.call (.ref f) ⟨[.ref x, .ref z], []⟩) R s := by
  refine enterC rm G.lim F (binds := [("self", .ref x), ("other", .ref z)]) (ha _ _) (locs (by rw [hn]; rfl)) (fun cd h₁ tk hns kk => ?_) hco hgen hk (by rw [hn]; decide)
  generalize hL : s.heap.objs.size = L at hns ⊢
  have hLn : s.heap.get? L = none := by rw [← hL]; exact Heap.get?_none_of_le (Nat.le_refl _)
  rw [hb]
  have kself : (envX ("cmp_to_key.<locals>.K." ++ nm) (scopeOf (meth i)) L f cd [("mycmp", cell)]).kindOf "self" = some .local := by unfold Env.kindOf; rw [hn]; rfl
  have kother : (envX ("cmp_to_key.<locals>.K." ++ nm) (scopeOf (meth i)) L f cd [("mycmp", cell)]).kindOf "other" = some .local := by unfold Env.kindOf; rw [hn]; rfl
  have kcmp : (envX ("cmp_to_key.<locals>.K." ++ nm) (scopeOf (meth i)) L f cd [("mycmp", cell)]).kindOf "mycmp" = some .free := by unfold Env.kindOf; rw [hn]; rfl
  refine wpAny_execs_cons ?_
  refine wpAny_Return_some ?_
  refine wpAny_Compare1 ?_
  refine wpAny_Call_Name_kw ?_
  refine wpAny_Name (wpAny_loadName_free hk kcmp rfl (v := .ref 49) ?_ ?_) (by decide)
  · obtain ⟨o, ho, hd⟩ := hc; exact ⟨o, kk _ _ ho, hd⟩
  obtain ⟨oc, pm, cd', doc, e1, e2, e3⟩ := G.compare
  refine r_callF (o := oc) (fd := Calls.docDef "_law_compare" (argsOf (top 8)) (bodyOf (top 8)) (scopeOf (top 8)) pm cd' doc) ?_
  obtain ⟨K, D, X, FK⟩ := (CK.keeps kk).frag
  obtain ⟨ox, Ix, vx⟩ := (hx.keeps kk).inst
  obtain ⟨oz, Iz, vz⟩ := (hz.keeps kk).inst
  refine Calls.spliced_cons ?_
  refine ite_f rfl ?_
  refine Attribute_name ?_
  refine r_ld (m := fun q => [(("self" : Str), Value.ref x), ("other", .ref z)].reverse.lookup q) hns rfl ?_ hk kself
  refine obj_get X FK Ix vx ?_
  refine Calls.spliced_cons ?_
  refine ite_f rfl ?_
  refine Attribute_name ?_
  refine r_ld (m := fun q => [(("self" : Str), Value.ref x), ("other", .ref z)].reverse.lookup q) hns rfl ?_ hk kother
  refine obj_get X FK Iz vz ?_
  refine Calls.spliced_nil ?_
  refine ⟨⟨kk _ _ e1, e2⟩, ?_⟩
  refine wpAny_call ?_
  refine compare_ok (rm.deeper.le (by decide)) (G.keeps kk) h1 h2 (fun s' t st => ?_)
  refine wpAny_Constant_int ?_
  refine hop _ _ _ _ _ _ _ ?_
  refine c _ ⟨fun b o hb e => st.keep b o hb (kk b o e), st.os, st.gens, st.bare⟩
end Mine

end

section
open PySem PySem.W PyProof.Rows
namespace Mine
def ans {α : Type} (lt : Nat → Nat → Bool) : KasT α → α
  | .ret a => a
  | .ask i j k => ans lt (k (lt i j))
theorem ans_bind {α β : Type} (lt : Nat → Nat → Bool) (f : α → KasT β) : ∀ t : KasT α, ans lt (t.bind f) = ans lt (f (ans lt t))
  | .ret _ => rfl
  | .ask i j k => ans_bind lt f (k (lt i j))
section
variable (r : Nat → Int)
def ltR (i j : Nat) : Bool := decide (r i < r j)
def Ord (i j : Nat) : Prop := r i < r j ∨ (r i = r j ∧ i < j)
structure Inv (n : Nat) (p : Array Nat) (k : Nat) : Prop where
  size : p.size = n
  le : k ≤ n
  low : ∀ a, a < k → p.getD a 0 < k
  tail : ∀ a, k ≤ a → a < n → p.getD a 0 = a
  ord : ∀ a b, a < b → b < k → Ord r (p.getD a 0) (p.getD b 0)
  perm : p.Perm (List.range n).toArray
structure Dsc (n : Nat) (p : Array Nat) (k : Nat) : Prop where
  size : p.size = n
  le : k ≤ n
  low : ∀ a, a < k → p.getD a 0 < k
  tail : ∀ a, k ≤ a → a < n → p.getD a 0 = a
  ord : ∀ a b, a < b → b < k → Ord r (p.getD b 0) (p.getD a 0)
  perm : p.Perm (List.range n).toArray
structure J (n : Nat) (p : Array Nat) (k q : Nat) : Prop where
  size : p.size = n
  le : k + q + 1 ≤ n
  low : ∀ a, a < k → p.getD a 0 < k
  tail : ∀ a, k ≤ a → a < n → p.getD a 0 = a
  ord : ∀ a b, a < b → b < k → Ord r (p.getD b 0) (p.getD a 0)
  gap : ∀ a b, a < k → k ≤ b → b ≤ k + q → r b < r (p.getD a 0)
  run : ∀ b, k ≤ b → b ≤ k + q → r b = r k
  perm : p.Perm (List.range n).toArray
variable {r}
theorem ltR_pos {i j : Nat} (h : r i < r j) : ltR r i j = true := decide_eq_true h
theorem ltR_neg {i j : Nat} (h : ¬ r i < r j) : ¬ ltR r i j = true := fun q => h (of_decide_eq_true q)
theorem Ord.le {i j : Nat} (h : Ord r i j) : r i ≤ r j := h.elim Int.le_of_lt fun q => Int.le_of_eq q.1
theorem ord_asym {a b : Nat} (h1 : Ord r a b) (h2 : Ord r b a) : False := by
  rcases h1 with h1 | h1 <;> rcases h2 with h2 | h2
  · exact Int.lt_irrefl _ (Int.lt_trans h1 h2)
  · rw [h2.1] at h1; exact Int.lt_irrefl _ h1
  · rw [h1.1] at h2; exact Int.lt_irrefl _ h2
  · exact Nat.lt_irrefl _ (Nat.lt_trans h1.2 h2.2)
theorem Ord.of_le {i j : Nat} (h : r i ≤ r j) (hij : i < j) : Ord r i j := (Int.lt_or_eq_of_le h).imp id fun q => ⟨q, hij⟩
theorem getD_some (p : Array Nat) (a : Nat) : p.getD a 0 = (p[a]?).getD 0 := by simp [Array.getD_eq_getD_getElem?]
theorem rev_getD {p : Array Nat} {i j : Nat} (hj : j ≤ p.size) (a : Nat) : (kas_rev p i j).getD a 0 = if i ≤ a ∧ a < j then p.getD (i + j - 1 - a) 0 else p.getD a 0 := by
  rw [getD_some, getD_some, getD_some]
  unfold kas_rev
  rw [getElem?_mirror_all hj]
  split <;> rfl
theorem rev0_getD {p : Array Nat} {m : Nat} (hj : m ≤ p.size) (a : Nat) : (kas_rev p 0 m).getD a 0 = if a < m then p.getD (m - 1 - a) 0 else p.getD a 0 := by
  rw [rev_getD hj, Nat.zero_add]
  by_cases h : a < m
  · rw [if_pos ⟨Nat.zero_le _, h⟩, if_pos h]
  · rw [if_neg fun q => h q.2, if_neg h]
theorem bub_getD {p : Array Nat} {src d : Nat} (hs : src < p.size) (hd : d ≤ src) (k : Nat) : (bubble p src d).getD k 0 = if k = src - d then p.getD src 0 else if src - d < k ∧ k ≤ src then p.getD (k - 1) 0 else p.getD k 0 := by
  rw [getD_some, getD_some, getD_some, getD_some, getElem?_bubble hs d hd]
  split
  · rfl
  · split <;> rfl
theorem rev_perm {p : Array Nat} {i j : Nat} : (kas_rev p i j).Perm p := mirror_perm _ _ _ _
theorem sub1_lt {m : Nat} (h : 1 ≤ m) : m - 1 < m := Nat.sub_lt h Nat.one_pos
theorem mir0_lt {m a : Nat} (h : a < m) : m - 1 - a < m := Nat.lt_of_le_of_lt (Nat.sub_le _ _) (sub1_lt (Nat.lt_of_le_of_lt (Nat.zero_le a) h))
theorem mir0_ord {m a b : Nat} (h : a < b) (hb : b < m) : m - 1 - b < m - 1 - a := Nat.sub_lt_sub_left (Nat.lt_of_lt_of_le h (Nat.le_sub_one_of_lt hb)) h
theorem mir_bd {k q a : Nat} (h1 : k ≤ a) (h2 : a < k + q + 1) : k ≤ k + (k + q + 1) - 1 - a ∧ k + (k + q + 1) - 1 - a ≤ k + q :=
  ⟨Nat.le_sub_of_add_le (Nat.add_le_add_left (Nat.le_of_lt_succ h2) k), Nat.sub_le_of_le_add (Nat.le_trans (Nat.le_of_eq (Nat.add_comm k (k + q))) (Nat.add_le_add_left h1 (k + q)))⟩
theorem mir_lt {k q a b : Nat} (h : a < b) (h2 : b < k + q + 1) : k + (k + q + 1) - 1 - b < k + (k + q + 1) - 1 - a :=
  Nat.sub_lt_sub_left (Nat.lt_of_lt_of_le h (Nat.le_trans (Nat.le_of_lt_succ h2) (Nat.le_add_left (k + q) k))) h
theorem mid_bd {l u f : Nat} (h : ¬ l ≥ u) (h3 : u - l ≤ f + 1) : l ≤ (l + u) / 2 ∧ (l + u) / 2 < u ∧ (l + u) / 2 - l ≤ f ∧ u - ((l + u) / 2 + 1) ≤ f := by
  have h : l < u := Nat.lt_of_not_le h
  have b1 : l ≤ (l + u) / 2 := (Nat.le_div_iff_mul_le Nat.two_pos).mpr (by rw [Nat.mul_two]; exact Nat.add_le_add_left (Nat.le_of_lt h) l)
  have b2 : (l + u) / 2 < u := (Nat.div_lt_iff_lt_mul Nat.two_pos).mpr (by rw [Nat.mul_two]; exact Nat.add_lt_add_right h u)
  exact ⟨b1, b2, Nat.le_of_lt_succ (Nat.lt_of_lt_of_le (Nat.sub_lt_sub_right b1 b2) h3), Nat.le_trans (Nat.sub_le_sub_left (Nat.succ_le_succ b1) u) (Nat.pred_le_pred h3)⟩
theorem more_lt {k q n f : Nat} (hf : k + q + 1 + (f + 1) = n) : k + q + 1 < n := hf ▸ Nat.lt_add_of_pos_right (Nat.succ_pos f)
theorem le_kq (k q : Nat) : k ≤ k + q + 1 := Nat.le_trans (Nat.le_add_right k q) (Nat.le_succ _)
theorem Inv.mono {n : Nat} {p : Array Nat} {k a b : Nat} (I : Inv r n p k) (hab : a ≤ b) (hb : b < k) : r (p.getD a 0) ≤ r (p.getD b 0) :=
  (Nat.lt_or_eq_of_le hab).elim (fun h => (I.ord a b h hb).le) fun h => h ▸ Int.le_refl _
theorem Inv.more {n : Nat} {p : Array Nat} {m : Nat} (I : Inv r n p m) (h1 : 1 ≤ m) (hn : m < n) (h : ¬ r (p.getD m 0) < r (p.getD (m - 1) 0)) : Inv r n p (m + 1) := by
  have hm : p.getD m 0 = m := I.tail m (Nat.le_refl _) hn
  rw [hm] at h
  have hlt : ∀ a, a < m + 1 → a ≠ m → a < m := fun a ha q => Nat.lt_of_le_of_ne (Nat.le_of_lt_succ ha) q
  refine ⟨I.size, hn, fun a ha => ?_, fun a ha hb => I.tail a (Nat.le_of_succ_le ha) hb, fun a b hab hb => ?_, I.perm⟩
  · by_cases q : a = m
    · rw [q, hm]; exact Nat.lt_succ_self m
    · exact Nat.lt_succ_of_lt (I.low a (hlt a ha q))
  · by_cases q : b = m
    · rw [q] at hab ⊢
      rw [hm]
      exact .of_le (Int.le_trans (I.mono (Nat.le_sub_one_of_lt hab) (sub1_lt h1)) (Int.not_lt.mp h)) (I.low a hab)
    · exact I.ord a b hab (hlt b hb q)
theorem asc_ok {n : Nat} {p : Array Nat} : ∀ (f m : Nat), 1 ≤ m → m + f = n → Inv r n p m →
    m ≤ ans (ltR r) (kas_asc p f m) ∧ Inv r n p (ans (ltR r) (kas_asc p f m)) ∧ (ans (ltR r) (kas_asc p f m) < n → r (p.getD (ans (ltR r) (kas_asc p f m)) 0) < r (p.getD (ans (ltR r) (kas_asc p f m) - 1) 0))
  | 0, m, h1, hf, I => by
    show m ≤ m ∧ Inv r n p m ∧ (m < n → _)
    refine ⟨Nat.le_refl _, I, fun h => ?_⟩
    rw [← hf] at h
    exact absurd h (Nat.lt_irrefl m)
  | f + 1, m, h1, hf, I => by
    have e : ans (ltR r) (kas_asc p (f + 1) m) = if r (p.getD m 0) < r (p.getD (m - 1) 0) then m else ans (ltR r) (kas_asc p f (m + 1)) := by
      show ans (ltR r) (if ltR r (p.getD m 0) (p.getD (m - 1) 0) = true then KasT.ret m else kas_asc p f (m + 1)) = _
      by_cases h : r (p.getD m 0) < r (p.getD (m - 1) 0)
      · rw [if_pos h, if_pos (ltR_pos h)]; rfl
      · rw [if_neg h, if_neg (ltR_neg h)]
    rw [e]
    split
    · rename_i h; exact ⟨Nat.le_refl _, I, fun _ => h⟩
    · rename_i h
      obtain ⟨a, b, c⟩ := asc_ok f (m + 1) (Nat.le_add_left 1 m) ((Nat.add_right_comm m 1 f).trans hf) (I.more h1 (hf ▸ Nat.lt_add_of_pos_right (Nat.succ_pos f)) h)
      exact ⟨Nat.le_of_succ_le a, b, c⟩
theorem J.close {n : Nat} {p : Array Nat} {k q : Nat} (I : J r n p k q) : Dsc r n (kas_rev p k (k + q + 1)) (k + q + 1) := by
  have g : ∀ a, (kas_rev p k (k + q + 1)).getD a 0 = if k ≤ a ∧ a < k + q + 1 then (k + (k + q + 1) - 1 - a) else p.getD a 0 := fun a => by
    rw [rev_getD (by rw [I.size]; exact I.le)]
    split
    · rename_i h
      exact I.tail _ (mir_bd h.1 h.2).1 (Nat.lt_of_le_of_lt (mir_bd h.1 h.2).2 I.le)
    · rfl
  refine ⟨(mirror_size _ _ _ _).trans I.size, I.le, fun a ha => ?_, fun a ha hb => ?_, fun a b hab hb => ?_, rev_perm.trans I.perm⟩
  · rw [g]
    split
    · rename_i h; exact Nat.lt_succ_of_le (mir_bd h.1 h.2).2
    · rename_i h; exact Nat.lt_of_lt_of_le (I.low a (Nat.lt_of_not_le fun q => h ⟨q, ha⟩)) (le_kq k q)
  · rw [g, if_neg fun h => absurd h.2 (Nat.not_lt.mpr ha)]; exact I.tail a (Nat.le_trans (le_kq k q) ha) hb
  · rw [g, g]
    by_cases ha : k ≤ a
    · have h1 : a < k + q + 1 := Nat.lt_trans hab hb
      have h2 : k ≤ b := Nat.le_trans ha (Nat.le_of_lt hab)
      rw [if_pos ⟨h2, hb⟩, if_pos ⟨ha, h1⟩]
      exact .inr ⟨(I.run _ (mir_bd h2 hb).1 (mir_bd h2 hb).2).trans (I.run _ (mir_bd ha h1).1 (mir_bd ha h1).2).symm, mir_lt hab hb⟩
    · rw [if_neg fun h : k ≤ a ∧ a < k + q + 1 => ha h.1]
      by_cases hb' : k ≤ b
      · rw [if_pos ⟨hb', hb⟩]
        exact .inl (I.gap a _ (Nat.lt_of_not_le ha) (mir_bd hb' hb).1 (mir_bd hb' hb).2)
      · rw [if_neg fun h => hb' h.1]
        exact I.ord a b hab (Nat.lt_of_not_le hb')
theorem J.next {n : Nat} {p : Array Nat} {k q : Nat} (I : J r n p k q) (hm : k + q + 1 < n) (h : r (k + q + 1) < r (k + q)) : J r n (kas_rev p k (k + q + 1)) (k + q + 1) 0 := by
  have D := I.close
  refine ⟨D.size, hm, D.low, D.tail, D.ord, fun a b ha hb hb' => ?_, fun b hb hb' => congrArg r (Nat.le_antisymm hb' hb), D.perm⟩
  rw [show b = k + q + 1 from Nat.le_antisymm hb' hb, rev_getD (by rw [I.size]; exact I.le)]
  split
  · rename_i x
    rw [I.tail _ (mir_bd x.1 x.2).1 (Nat.lt_of_le_of_lt (mir_bd x.1 x.2).2 I.le), I.run _ (mir_bd x.1 x.2).1 (mir_bd x.1 x.2).2, ← I.run (k + q) (Nat.le_add_right _ _) (Nat.le_refl _)]
    exact h
  · rename_i x
    exact Int.lt_trans h (I.gap a (k + q) (Nat.lt_of_not_le fun z => x ⟨z, ha⟩) (Nat.le_add_right _ _) (Nat.le_refl _))
theorem rev_one {p : Array Nat} {k : Nat} : kas_rev p k (k + 0 + 1) = p := by
  unfold kas_rev mirror
  rw [show (k + 0 + 1 - k) / 2 = 0 by rw [Nat.add_zero, Nat.add_sub_cancel_left]]; rfl
theorem desc_ok {n : Nat} : ∀ (f : Nat) (p : Array Nat) (k q : Nat), k + q + 1 + f = n → J r n p k q →
    ∃ p' k' q', ans (ltR r) (kas_desc f p (k + q + 1) q) = (p', k' + q' + 1, q') ∧ J r n p' k' q' ∧ k + q ≤ k' + q'
  | 0, p, k, q, hf, I => ⟨p, k, q, rfl, I, Nat.le_refl _⟩
  | f + 1, p, k, q, hf, I => by
    have hn : k + q + 1 < n := more_lt hf
    have e0 : p.getD (k + q + 1) 0 = k + q + 1 := I.tail _ (le_kq k q) hn
    have e1 : p.getD (k + q + 1 - 1) 0 = k + q := I.tail (k + q) (Nat.le_add_right _ _) (Nat.lt_of_succ_lt hn)
    have hf' : k + q + 1 + 1 + f = n := (Nat.add_right_comm (k + q + 1) 1 f).trans hf
    have e : ans (ltR r) (kas_desc (f + 1) p (k + q + 1) q) = if r (k + q + 1) < r (k + q) then ans (ltR r) (kas_desc f (kas_rev p k (k + q + 1)) (k + q + 1 + 1) 0) else if r (k + q) < r (k + q + 1) then (p, k + q + 1, q) else ans (ltR r) (kas_desc f p (k + q + 1 + 1) (q + 1)) := by
      show ans (ltR r) (if ltR r (p.getD (k + q + 1) 0) (p.getD (k + q + 1 - 1) 0) = true then (if q > 0 then kas_desc f (kas_rev p (k + q + 1 - (q + 1)) (k + q + 1)) (k + q + 1 + 1) 0 else kas_desc f p (k + q + 1 + 1) 0)
        else KasT.ask (p.getD (k + q + 1 - 1) 0) (p.getD (k + q + 1) 0) fun d => if d = true then KasT.ret (p, k + q + 1, q) else kas_desc f p (k + q + 1 + 1) (q + 1)) = _
      rw [e0, e1]
      have hk : k + q + 1 - (q + 1) = k := Nat.add_sub_cancel (n := k) (m := q + 1)
      rw [hk]
      have eq : (if q > 0 then kas_desc f (kas_rev p k (k + q + 1)) (k + q + 1 + 1) 0 else kas_desc f p (k + q + 1 + 1) 0) = kas_desc f (kas_rev p k (k + q + 1)) (k + q + 1 + 1) 0 := by
        split
        · rfl
        · rename_i h
          obtain rfl : q = 0 := Nat.eq_zero_of_not_pos h
          rw [rev_one]
      rw [eq]
      by_cases h : r (k + q + 1) < r (k + q)
      · rw [if_pos h, if_pos (ltR_pos h)]
      · rw [if_neg h, if_neg (ltR_neg h)]
        show ans (ltR r) (if ltR r (k + q) (k + q + 1) = true then KasT.ret (p, k + q + 1, q) else kas_desc f p (k + q + 1 + 1) (q + 1)) = _
        by_cases h2 : r (k + q) < r (k + q + 1)
        · rw [if_pos h2, if_pos (ltR_pos h2)]; rfl
        · rw [if_neg h2, if_neg (ltR_neg h2)]
    rw [e]
    split
    · rename_i h
      obtain ⟨p', k', q', a, b, c⟩ := desc_ok f (kas_rev p k (k + q + 1)) (k + q + 1) 0 hf' (I.next hn h)
      exact ⟨p', k', q', a, b, Nat.le_of_succ_le c⟩
    · split
      · exact ⟨p, k, q, rfl, I, Nat.le_refl _⟩
      · rename_i h1 h2
        have last : ∀ b, b ≤ k + (q + 1) → ¬ b ≤ k + q → b = k + q + 1 := fun b x y => Nat.le_antisymm x (Nat.lt_of_not_le y)
        obtain ⟨p', k', q', a, b, c⟩ := desc_ok f p k (q + 1) hf' ⟨I.size, hn, I.low, I.tail, I.ord, fun a b ha hb hb' => by
          by_cases hq : b ≤ k + q
          · exact I.gap a b ha hb hq
          · rw [last b hb' hq]
            exact Int.lt_of_le_of_lt (Int.not_lt.mp h2) (I.gap a (k + q) ha (Nat.le_add_right _ _) (Nat.le_refl _)), fun b hb hb' => by
          by_cases hq : b ≤ k + q
          · exact I.run b hb hq
          · rw [last b hb' hq]
            exact (Int.le_antisymm (Int.not_lt.mp h2) (Int.not_lt.mp h1)).trans (I.run (k + q) (Nat.le_add_right _ _) (Nat.le_refl _)), I.perm⟩
        exact ⟨p', k', q', a, b, Nat.le_of_succ_le c⟩
theorem Dsc.turn {n : Nat} {p : Array Nat} {m : Nat} (I : Dsc r n p m) : Inv r n (kas_rev p 0 m) m := by
  have g := rev0_getD (p := p) (m := m) (by rw [I.size]; exact I.le)
  refine ⟨(mirror_size _ _ _ _).trans I.size, I.le, fun a ha => ?_, fun a ha hb => ?_, fun a b hab hb => ?_, rev_perm.trans I.perm⟩
  · rw [g, if_pos ha]; exact I.low _ (mir0_lt ha)
  · rw [g, if_neg (Nat.not_lt.mpr ha)]; exact I.tail a ha hb
  · rw [g, g, if_pos (Nat.lt_trans hab hb), if_pos hb]
    exact I.ord _ _ (mir0_ord hab hb) (mir0_lt (Nat.lt_trans hab hb))
theorem tail_ok {n : Nat} {p : Array Nat} {m : Nat} (h1 : 1 ≤ m) (I : Dsc r n p m) : 1 ≤ (ans (ltR r) (kas_tail3 m n p)).1 ∧ Inv r n (ans (ltR r) (kas_tail3 m n p)).2 (ans (ltR r) (kas_tail3 m n p)).1 := by
  unfold kas_tail3
  rw [ans_bind]
  have J := asc_ok (n - m) m h1 (Nat.add_sub_of_le I.le) I.turn
  exact ⟨Nat.le_trans h1 J.1, J.2.1⟩
theorem descPart_ok {n : Nat} {p : Array Nat} {m : Nat} (I : J r n p m 0) : 1 ≤ (ans (ltR r) (kas_descPart m n p)).1 ∧ Inv r n (ans (ltR r) (kas_descPart m n p)).2 (ans (ltR r) (kas_descPart m n p)).1 := by
  unfold kas_descPart
  rw [ans_bind]
  obtain ⟨p', k', q', a, b, c⟩ := desc_ok (n - (m + 1)) p m 0 (Nat.add_sub_of_le I.le) I
  have a : ans (ltR r) (kas_desc (n - (m + 1)) p (m + 1) 0) = (p', k' + q' + 1, q') := a
  rw [a]
  dsimp only
  have hk : k' + q' + 1 - (q' + 1) = k' := Nat.add_sub_cancel (n := k') (m := q' + 1)
  rw [hk]
  by_cases hq : q' > 0
  · rw [if_pos hq]
    exact tail_ok (Nat.le_add_left 1 _) b.close
  · rw [if_neg hq]
    obtain rfl : q' = 0 := Nat.eq_zero_of_not_pos hq
    have := b.close
    rw [rev_one] at this
    exact tail_ok (Nat.le_add_left 1 _) this
theorem range_getD {n a : Nat} (h : a < n) : ((List.range n).toArray).getD a 0 = a := by simp [h]
theorem count_ok {n : Nat} (hn : 1 ≤ n) : 1 ≤ (ans (ltR r) (kas_count n (List.range n).toArray)).1 ∧ Inv r n (ans (ltR r) (kas_count n (List.range n).toArray)).2 (ans (ltR r) (kas_count n (List.range n).toArray)).1 := by
  have lt1 : ∀ a, a < 1 → a = 0 := fun a h => Nat.eq_zero_of_le_zero (Nat.le_of_lt_succ h)
  have I0 : Inv r n (List.range n).toArray 1 := ⟨by simp, hn, fun a ha => by rw [lt1 a ha, range_getD hn]; exact Nat.one_pos, fun a ha hb => range_getD hb, fun a b hab hb => by rw [lt1 b hb] at hab; exact absurd hab (Nat.not_lt_zero _), .refl _⟩
  obtain ⟨h1, I, hst⟩ := asc_ok (n - 1) 1 (Nat.le_refl _) (Nat.add_sub_of_le hn) I0
  unfold kas_count
  rw [ans_bind]
  revert h1 I hst
  generalize ans (ltR r) (kas_asc (List.range n).toArray (n - 1) 1) = m
  intro h1 I hst
  by_cases e1 : (m == n) = true
  · rw [if_pos e1]; exact ⟨h1, I⟩
  rw [if_neg e1]
  have hmn : m < n := Nat.lt_of_le_of_ne I.le fun q => e1 (by rw [q]; exact beq_self_eq_true n)
  have hst := hst hmn
  have hm1 : m - 1 < n := Nat.lt_trans (sub1_lt h1) hmn
  rw [range_getD hmn, range_getD hm1] at hst
  by_cases e2 : m > 1
  · rw [if_pos e2]
    show 1 ≤ (ans (ltR r) (if ltR r _ _ = true then KasT.ret (m, _) else kas_descPart m n _)).1 ∧ Inv r n (ans (ltR r) (if ltR r _ _ = true then KasT.ret (m, _) else kas_descPart m n _)).2 (ans (ltR r) (if ltR r _ _ = true then KasT.ret (m, _) else kas_descPart m n _)).1
    rw [range_getD hn, range_getD hm1]
    by_cases h : r 0 < r (m - 1)
    · rw [if_pos (ltR_pos h)]
      exact ⟨h1, I⟩
    · rw [if_neg (ltR_neg h)]
      refine descPart_ok ?_
      have all : ∀ a, a < m → r a = r 0 := fun a ha => by
        have i1 := I.mono (Nat.zero_le a) ha
        have i2 := I.mono (Nat.le_sub_one_of_lt ha) (sub1_lt h1)
        rw [range_getD hn, range_getD (Nat.lt_trans ha hmn)] at i1
        rw [range_getD (Nat.lt_trans ha hmn), range_getD hm1] at i2
        exact Int.le_antisymm (Int.le_trans i2 (Int.not_lt.mp h)) i1
      have g : ∀ a, a < n → (kas_rev (List.range n).toArray 0 m).getD a 0 = if a < m then m - 1 - a else a := fun a ha => by
        rw [rev0_getD (by rw [List.size_toArray, List.length_range]; exact Nat.le_of_lt hmn)]
        by_cases h : a < m
        · rw [if_pos h, if_pos h, range_getD (Nat.lt_trans (mir0_lt h) hmn)]
        · rw [if_neg h, if_neg h, range_getD ha]
      refine ⟨(mirror_size _ _ _ _).trans (by simp), hmn, fun a ha => ?_, fun a ha hb => ?_, fun a b hab hb => ?_, fun a b ha hb hb' => ?_, fun b hb hb' => congrArg r (Nat.le_antisymm hb' hb), rev_perm⟩
      · rw [g _ (Nat.lt_trans ha hmn), if_pos ha]; exact mir0_lt ha
      · rw [g _ hb, if_neg (Nat.not_lt.mpr ha)]
      · have ha := Nat.lt_trans hab hb
        rw [g _ (Nat.lt_trans hb hmn), g _ (Nat.lt_trans ha hmn), if_pos hb, if_pos ha]
        exact .inr ⟨(all _ (mir0_lt hb)).trans (all _ (mir0_lt ha)).symm, mir0_ord hab hb⟩
      · rw [show b = m from Nat.le_antisymm hb' hb, g _ (Nat.lt_trans ha hmn), if_pos ha, all (m - 1 - a) (mir0_lt ha), ← all (m - 1) (sub1_lt h1)]
        exact hst
  · rw [if_neg e2]
    obtain rfl : m = 1 := Nat.le_antisymm (Nat.not_lt.mp e2) h1
    refine descPart_ok ⟨by simp, hmn, fun a ha => ?_, fun a ha hb => range_getD hb, fun a b hab hb => ?_, fun a b ha hb hb' => ?_, fun b hb hb' => congrArg r (Nat.le_antisymm hb' hb), .refl _⟩
    · rw [lt1 a ha, range_getD hn]; exact Nat.one_pos
    · rw [lt1 b hb] at hab; exact absurd hab (Nat.not_lt_zero _)
    · rw [lt1 a ha, range_getD hn, show b = 1 from Nat.le_antisymm hb' hb]
      exact hst
theorem place_ok {n : Nat} {p : Array Nat} {k : Nat} (I : Inv r n p k) (hk : k < n) : ∀ (f l u : Nat), l ≤ u → u ≤ k → u - l ≤ f → (∀ a, a < l → r (p.getD a 0) ≤ r k) → (∀ a, u ≤ a → a < k → r k < r (p.getD a 0)) →
    ans (ltR r) (kas_place p k f l u) ≤ k ∧ (∀ a, a < ans (ltR r) (kas_place p k f l u) → r (p.getD a 0) ≤ r k) ∧ (∀ a, ans (ltR r) (kas_place p k f l u) ≤ a → a < k → r k < r (p.getD a 0))
  | 0, l, u, h1, h2, h3, h4, h5 => by
    obtain rfl : l = u := Nat.le_antisymm h1 (Nat.sub_eq_zero_iff_le.mp (Nat.eq_zero_of_le_zero h3))
    exact ⟨h2, h4, h5⟩
  | f + 1, l, u, h1, h2, h3, h4, h5 => by
    have hkk : p.getD k 0 = k := I.tail k (Nat.le_refl _) hk
    have e : ans (ltR r) (kas_place p k (f + 1) l u) = if l ≥ u then l else if r k < r (p.getD ((l + u) / 2) 0) then ans (ltR r) (kas_place p k f l ((l + u) / 2)) else ans (ltR r) (kas_place p k f ((l + u) / 2 + 1) u) := by
      show ans (ltR r) (if l ≥ u then KasT.ret l else KasT.ask (p.getD k 0) (p.getD ((l + u) / 2) 0) fun c => if c = true then kas_place p k f l ((l + u) / 2) else kas_place p k f ((l + u) / 2 + 1) u) = _
      rw [hkk]
      by_cases h : l ≥ u
      · rw [if_pos h, if_pos h]; rfl
      · rw [if_neg h, if_neg h]
        show ans (ltR r) (if ltR r k (p.getD ((l + u) / 2) 0) = true then _ else _) = _
        by_cases h' : r k < r (p.getD ((l + u) / 2) 0)
        · rw [if_pos h', if_pos (ltR_pos h')]
        · rw [if_neg h', if_neg (ltR_neg h')]
    rw [e]
    split
    · rename_i h
      obtain rfl : l = u := Nat.le_antisymm h1 h
      exact ⟨h2, h4, h5⟩
    · rename_i h
      obtain ⟨b1, b2, b3, b4⟩ := mid_bd h h3
      have b5 := Nat.lt_of_lt_of_le b2 h2
      split
      · rename_i h'
        exact place_ok I hk f l _ b1 (Nat.le_of_lt b5) b3 h4 (fun a ha hb => Int.lt_of_lt_of_le h' (I.mono ha hb))
      · rename_i h'
        exact place_ok I hk f _ u b2 h2 b4 (fun a ha => Int.le_trans (I.mono (Nat.le_of_lt_succ ha) b5) (Int.not_lt.mp h')) h5
theorem bin_ok {n : Nat} : ∀ (f : Nat) (p : Array Nat) (k : Nat), k + f = n → Inv r n p k → Inv r n (ans (ltR r) (kas_bin f p k)) n
  | 0, p, k, hf, I => by
    obtain rfl : k = n := hf
    exact I
  | f + 1, p, k, hf, I => by
    have hk : k < n := hf ▸ Nat.lt_add_of_pos_right (Nat.succ_pos f)
    obtain ⟨h1, h2, h3⟩ := place_ok I hk k 0 k (Nat.zero_le _) (Nat.le_refl _) (Nat.le_refl _) (fun a ha => absurd ha (Nat.not_lt_zero _)) (fun a ha hb => absurd hb (Nat.not_lt.mpr ha))
    show Inv r n (ans (ltR r) ((kas_place p k k 0 k).bind fun l => kas_bin f (bubble p k (k - l)) (k + 1))) n
    rw [ans_bind]
    revert h1 h2 h3
    generalize ans (ltR r) (kas_place p k k 0 k) = l
    intro h1 h2 h3
    have hkk : p.getD k 0 = k := I.tail k (Nat.le_refl _) hk
    have g : ∀ a, (bubble p k (k - l)).getD a 0 = if a = l then k else if l < a ∧ a ≤ k then p.getD (a - 1) 0 else p.getD a 0 := fun a => by
      rw [bub_getD (by rw [I.size]; exact hk) (Nat.sub_le _ _), hkk, Nat.sub_sub_self h1]
    have pl : ∀ a, l < a → a ≤ k → a - 1 < k := fun a x y => Nat.lt_of_lt_of_le (sub1_lt (Nat.lt_of_le_of_lt (Nat.zero_le l) x)) y
    have sm : ∀ a, ¬ a = l → ¬ (l < a ∧ a ≤ k) → a < k + 1 → a < l := fun a x y z => Nat.lt_of_le_of_ne (Nat.le_of_not_lt fun q => y ⟨q, Nat.le_of_lt_succ z⟩) x
    refine bin_ok f _ (k + 1) ((Nat.add_right_comm k 1 f).trans hf) ⟨(bubble_size _ _ _).trans I.size, hk, fun a ha => ?_, fun a ha hb => ?_, fun a b hab hb => ?_, (bubble_perm _ _ _).trans I.perm⟩
    · rw [g]
      split
      · exact Nat.lt_succ_self k
      · split
        · rename_i x; exact Nat.lt_succ_of_lt (I.low _ (pl a x.1 x.2))
        · rename_i x y; exact Nat.lt_succ_of_lt (I.low a (Nat.lt_of_lt_of_le (sm a x y ha) h1))
    · rw [g, if_neg (Nat.ne_of_gt (Nat.lt_of_le_of_lt h1 ha)), if_neg fun q => absurd ha (Nat.not_lt.mpr q.2)]; exact I.tail a (Nat.le_of_succ_le ha) hb
    · have hbk := Nat.le_of_lt_succ hb
      rw [g, g]
      by_cases qa : a = l
      · have lb : l < b := qa ▸ hab
        rw [if_pos qa, if_neg (Nat.ne_of_gt lb), if_pos ⟨lb, hbk⟩]
        exact .inl (h3 _ (Nat.le_sub_one_of_lt lb) (pl b lb hbk))
      · rw [if_neg qa]
        by_cases qb : b = l
        · have al : a < l := qb ▸ hab
          rw [if_pos qb, if_neg fun q => absurd al (Nat.lt_asymm q.1)]
          exact .of_le (h2 a al) (I.low a (Nat.lt_of_lt_of_le al h1))
        · rw [if_neg qb]
          by_cases ha : l < a ∧ a ≤ k
          · have lb : l < b := Nat.lt_trans ha.1 hab
            rw [if_pos ha, if_pos ⟨lb, hbk⟩]
            exact I.ord _ _ (Nat.sub_lt_sub_right (Nat.lt_of_le_of_lt (Nat.zero_le l) ha.1) hab) (pl b lb hbk)
          · have al := sm a qa ha (Nat.lt_trans hab hb)
            rw [if_neg ha]
            by_cases hb' : l < b ∧ b ≤ k
            · rw [if_pos hb']
              exact I.ord _ _ (Nat.lt_of_lt_of_le al (Nat.le_sub_one_of_lt hb'.1)) (pl b hb'.1 hb'.2)
            · rw [if_neg hb']
              exact I.ord _ _ hab (Nat.lt_of_lt_of_le (sm b qb hb' hb) h1)
theorem sort_ok {n : Nat} (hn : 1 ≤ n) : Inv r n (ans (ltR r) (kas_sort n)) n := by
  obtain ⟨h1, I⟩ := count_ok (r := r) hn
  unfold kas_sort
  rw [ans_bind]
  revert h1 I
  generalize ans (ltR r) (kas_count n (List.range n).toArray) = c
  intro h1 I
  by_cases h : c.1 < n
  · rw [if_pos h, Nat.max_eq_left h1]
    exact bin_ok _ _ _ (Nat.add_sub_of_le I.le) I
  · rw [if_neg h]
    show Inv r n c.2 n
    rw [Nat.le_antisymm I.le (Nat.not_lt.mp h)] at I
    exact I
/-- a sorted array's list -/
theorem Inv.pair {n : Nat} {p : Array Nat} (I : Inv r n p n) : p.toList.Pairwise (Ord r) := by
  rw [List.pairwise_iff_getElem]
  intro i j hi hj hij
  have hi' : i < p.size := by simpa using hi
  have hj' : j < p.size := by simpa using hj
  have := I.ord i j hij (by rw [← I.size]; exact hj')
  rw [getD_some, getD_some] at this
  simpa [hi', hj'] using this
theorem Inv.uniq {n : Nat} {p : Array Nat} {l : List Nat} (I : Inv r n p n) (hl : l.Perm (List.range n)) (hp : l.Pairwise (Ord r)) : p.toList = l := by
  have P : p.toList.Perm (List.range n) := by simpa using Array.perm_iff_toList_perm.mp I.perm
  refine List.Perm.eq_of_pairwise (le := Ord r) (fun a b _ _ h1 h2 => (ord_asym h1 h2).elim) I.pair hp (P.trans hl.symm)
end
end Mine

end

section
open PySem PySem.W PyProof.Rows
set_option maxRecDepth 100000
namespace Mine
/-- the sign of a figure 1 .. 4 -/
def sgn (d : Nat) : Str := chr (if d = 1 then 34 else if d = 2 then 92 else if d = 3 then 97 else 98)
def pc (a : Int) (b last : Bool) : List Nat := (if b && (Txt.item alpha a != "\\" || last) then Txt.item alpha a else "\\" ++ Txt.item alpha a).cps.toList
theorem it0 : Txt.item alpha 0 = chr 34 := by decide +kernel
theorem it1 : Txt.item alpha 1 = chr 92 := by decide +kernel
theorem it2 : Txt.item alpha 2 = chr 97 := by decide +kernel
theorem it3 : Txt.item alpha 3 = chr 98 := by decide +kernel
theorem bs : (("\\" : Str)) = chr 92 := by decide +kernel
theorem four {a : Int} (h0 : 0 ≤ a) (h4 : a < 4) : a = 0 ∨ a = 1 ∨ a = 2 ∨ a = 3 := by lia
theorem last1 (c : Nat) : lastS (chr c) = chr c := by rfl
theorem last2 (c : Nat) : lastS (chr 92 ++ chr c) = chr c := by rfl
theorem pc_in {a : Int} (h0 : 0 ≤ a) (h4 : a < 4) (b : Bool) (cs : List Nat) : (units false (pc a b false ++ cs)).map lastS = sgn (a.toNat + 1) :: (units false cs).map lastS := by
  unfold pc
  rcases four h0 h4 with rfl | rfl | rfl | rfl <;> cases b <;> simp only [it0, it1, it2, it3, bs] <;> rfl
theorem pc_end {a : Int} (h0 : 0 ≤ a) (h4 : a < 4) (b : Bool) : (units false (pc a b true)).map lastS = [sgn (a.toNat + 1)] := by
  unfold pc
  rcases four h0 h4 with rfl | rfl | rfl | rfl <;> cases b <;> simp only [it0, it1, it2, it3, bs] <;> rfl
theorem turn_lt {size place rest rank : Int} {text : Str} (h : place < size) : (turnW size place rest rank text).1 = rest.fdiv 8 ∧ (turnW size place rest rank text).2.1 = 5 * rank + 1 + rest.fmod 4 ∧
    (turnW size place rest rank text).2.2.cps.toList = text.cps.toList ++ pc (rest.fmod 4) ((rest.fdiv 4).fmod 2 == 0) (place == size - 1) := by
  unfold turnW
  rw [if_pos h]
  refine ⟨rfl, rfl, ?_⟩
  dsimp only
  unfold pc
  split
  · show (text.cps ++ _).toList = _
    simp
  · show ((text.cps ++ _) ++ _).toList = _ ++ (_ ++ _ : Array Nat).toList
    simp
theorem turn_ge {size place rest rank : Int} {text : Str} (h : ¬ place < size) : turnW size place rest rank text = (rest, 5 * rank, text) := by
  unfold turnW; rw [if_neg h]
/-- a word as a number of k figures by five -/
def V : Nat → List Nat → Nat
  | 0, _ => 0
  | _ + 1, [] => 0
  | k + 1, d :: r => 5 ^ k * d + V k r
def val (ds : List Nat) : Int := (V 3 ds : Nat)
theorem val1 (a : Nat) : val [a] = 25 * (a : Int) := Int.natCast_mul 25 a
theorem val2 (a b : Nat) : val [a, b] = 25 * (a : Int) + 5 * (b : Int) := by
  show ((25 * a + (5 * b + 0) : Nat) : Int) = _
  rw [Nat.add_zero, Int.natCast_add, Int.natCast_mul, Int.natCast_mul]; rfl
theorem val3 (a b c : Nat) : val [a, b, c] = 25 * (a : Int) + 5 * (b : Int) + (c : Int) := by
  show ((25 * a + (5 * b + (1 * c + 0)) : Nat) : Int) = _
  rw [Nat.add_zero, Nat.one_mul, Int.natCast_add, Int.natCast_add, Int.natCast_mul, Int.natCast_mul, Int.add_assoc]; rfl
def Word (ds : List Nat) : Prop := ds.length ≤ 3 ∧ ∀ d ∈ ds, 1 ≤ d ∧ d ≤ 4
theorem fm {x : Int} : 0 ≤ x.fmod 4 ∧ x.fmod 4 < 4 := by
  rw [Int.fmod_eq_emod_of_nonneg x (by decide)]
  lia
theorem castF (x : Int) : (((x.fmod 4).toNat + 1 : Nat) : Int) = x.fmod 4 + 1 := by rw [Int.natCast_add, Int.toNat_of_nonneg fm.1]; rfl
theorem rank1 (a : Int) : 5 * (5 * (5 * 0 + 1 + a)) = 25 * (a + 1) := by lia
theorem rank2 (a b : Int) : 5 * (5 * (5 * 0 + 1 + a) + 1 + b) = 25 * (a + 1) + 5 * (b + 1) := by lia
theorem rank3 (a b c : Int) : 5 * (5 * (5 * 0 + 1 + a) + 1 + b) + 1 + c = 25 * (a + 1) + 5 * (b + 1) + (c + 1) := by lia
theorem wr_word (v : Int) : ∃ ds, Word ds ∧ sg (wr v).2 = ds.map sgn ∧ (wr v).1 = val ds := by
  unfold wr
  have hs := fm (x := v)
  revert hs
  generalize v.fmod 4 = size
  generalize v.fdiv 4 = r0
  intro hs
  show ∃ ds, Word ds ∧ sg (turnW size 2 (turnW size 1 (turnW size 0 r0 0 "").1 (turnW size 0 r0 0 "").2.1 (turnW size 0 r0 0 "").2.2).1 (turnW size 1 (turnW size 0 r0 0 "").1 (turnW size 0 r0 0 "").2.1 (turnW size 0 r0 0 "").2.2).2.1
    (turnW size 1 (turnW size 0 r0 0 "").1 (turnW size 0 r0 0 "").2.1 (turnW size 0 r0 0 "").2.2).2.2).2.2 = ds.map sgn ∧ (turnW size 2 (turnW size 1 (turnW size 0 r0 0 "").1 (turnW size 0 r0 0 "").2.1 (turnW size 0 r0 0 "").2.2).1
    (turnW size 1 (turnW size 0 r0 0 "").1 (turnW size 0 r0 0 "").2.1 (turnW size 0 r0 0 "").2.2).2.1 (turnW size 1 (turnW size 0 r0 0 "").1 (turnW size 0 r0 0 "").2.1 (turnW size 0 r0 0 "").2.2).2.2).2.1 = val ds
  have e0 : (("" : Str)).cps.toList = [] := by decide +kernel
  have hd : ∀ x : Int, 1 ≤ (x.fmod 4).toNat + 1 ∧ (x.fmod 4).toNat + 1 ≤ 4 := fun x => by have := fm (x := x); lia
  rcases four hs.1 hs.2 with rfl | rfl | rfl | rfl
  · rw [turn_ge (by decide), turn_ge (by decide), turn_ge (by decide)]
    exact ⟨[], ⟨by decide, by simp⟩, show sg "" = [] by decide +kernel, rfl⟩
  · obtain ⟨a1, b1, c1⟩ := turn_lt (size := 1) (place := 0) (rest := r0) (rank := 0) (text := "") (by decide)
    rw [turn_ge (place := 2) (by decide), turn_ge (place := 1) (by decide)]
    refine ⟨[(r0.fmod 4).toNat + 1], ⟨by simp, by intro d h; simp at h; subst h; exact hd _⟩, ?_, ?_⟩
    · show (units false (turnW 1 0 r0 0 "").2.2.cps.toList).map lastS = _
      rw [c1, e0]
      exact pc_end fm.1 fm.2 _
    · show 5 * (5 * (turnW 1 0 r0 0 "").2.1) = _
      rw [val1, b1, castF]; exact rank1 _
  · obtain ⟨a1, b1, c1⟩ := turn_lt (size := 2) (place := 0) (rest := r0) (rank := 0) (text := "") (by decide)
    revert a1 b1 c1
    generalize turnW 2 0 r0 0 "" = T1
    intro a1 b1 c1
    obtain ⟨a2, b2, c2⟩ := turn_lt (size := 2) (place := 1) (rest := T1.1) (rank := T1.2.1) (text := T1.2.2) (by decide)
    rw [turn_ge (place := 2) (by decide)]
    refine ⟨[(r0.fmod 4).toNat + 1, (T1.1.fmod 4).toNat + 1], ⟨by simp, by intro d h; simp at h; rcases h with rfl | rfl <;> exact hd _⟩, ?_, ?_⟩
    · show (units false (turnW 2 1 T1.1 T1.2.1 T1.2.2).2.2.cps.toList).map lastS = _
      rw [c2, c1, e0]
      show (units false (pc _ _ false ++ pc _ _ true)).map lastS = _
      rw [pc_in fm.1 fm.2, pc_end fm.1 fm.2]; rfl
    · show 5 * (turnW 2 1 T1.1 T1.2.1 T1.2.2).2.1 = _
      rw [val2, b2, b1, castF, castF]; exact rank2 _ _
  · obtain ⟨a1, b1, c1⟩ := turn_lt (size := 3) (place := 0) (rest := r0) (rank := 0) (text := "") (by decide)
    revert a1 b1 c1
    generalize turnW 3 0 r0 0 "" = T1
    intro a1 b1 c1
    obtain ⟨a2, b2, c2⟩ := turn_lt (size := 3) (place := 1) (rest := T1.1) (rank := T1.2.1) (text := T1.2.2) (by decide)
    revert a2 b2 c2
    generalize turnW 3 1 T1.1 T1.2.1 T1.2.2 = T2
    intro a2 b2 c2
    obtain ⟨a3, b3, c3⟩ := turn_lt (size := 3) (place := 2) (rest := T2.1) (rank := T2.2.1) (text := T2.2.2) (by decide)
    refine ⟨[(r0.fmod 4).toNat + 1, (T1.1.fmod 4).toNat + 1, (T2.1.fmod 4).toNat + 1], ⟨by simp, by intro d h; simp at h; rcases h with rfl | rfl | rfl <;> exact hd _⟩, ?_, ?_⟩
    · show (units false (turnW 3 2 T2.1 T2.2.1 T2.2.2).2.2.cps.toList).map lastS = _
      rw [c3, c2, c1, e0]
      show (units false ((pc _ _ false ++ pc _ _ false) ++ pc _ _ true)).map lastS = _
      rw [List.append_assoc, pc_in fm.1 fm.2, pc_in fm.1 fm.2, pc_end fm.1 fm.2]; rfl
    · show (turnW 3 2 T2.1 T2.2.1 T2.2.2).2.1 = _
      rw [val3, b3, b2, b1, castF, castF, castF]; exact rank3 _ _ _
theorem sgn_all : ∀ a, a < 5 → ∀ b, b < 5 → 1 ≤ a → 1 ≤ b → (sgn a == sgn b) = decide (a = b) ∧ decide ((sgn a).cps.toList < (sgn b).cps.toList) = decide (a < b) := by decide +kernel
theorem sgn_eq {a b : Nat} (ha : 1 ≤ a ∧ a ≤ 4) (hb : 1 ≤ b ∧ b ≤ 4) : (sgn a == sgn b) = decide (a = b) := (sgn_all a (Nat.lt_succ_of_le ha.2) b (Nat.lt_succ_of_le hb.2) ha.1 hb.1).1
theorem sgn_lt {a b : Nat} (ha : 1 ≤ a ∧ a ≤ 4) (hb : 1 ≤ b ∧ b ≤ 4) : decide ((sgn a).cps.toList < (sgn b).cps.toList) = decide (a < b) := (sgn_all a (Nat.lt_succ_of_le ha.2) b (Nat.lt_succ_of_le hb.2) ha.1 hb.1).2
theorem lt_cons {a b : Nat} {x y : List Str} (ha : 1 ≤ a ∧ a ≤ 4) (hb : 1 ≤ b ∧ b ≤ 4) : ltS (sgn a :: x) (sgn b :: y) = if a = b then ltS x y else decide (a < b) := by
  show (if (sgn a == sgn b) = true then ltS x y else decide ((sgn a).cps.toList < (sgn b).cps.toList)) = _
  rw [sgn_eq ha hb, sgn_lt ha hb]
  by_cases h : a = b <;> simp [h]
theorem V_lt : ∀ (k : Nat) (r : List Nat), (∀ d ∈ r, 1 ≤ d ∧ d ≤ 4) → V k r < 5 ^ k
  | 0, _, _ => Nat.one_pos
  | k + 1, [], _ => Nat.pow_pos (show 0 < 5 by decide)
  | k + 1, d :: r, h => by
    show 5 ^ k * d + V k r < 5 ^ k * 5
    exact Nat.lt_of_lt_of_le (Nat.add_lt_add_of_le_of_lt (Nat.mul_le_mul_left _ (h d (.head _)).2) (V_lt k r fun e he => h e (.tail _ he))) (Nat.le_refl (5 ^ k * 4 + 5 ^ k))
theorem V_step {P a b u v : Nat} (h : a < b) (hu : u < P) : P * a + u < P * b + v :=
  Nat.lt_of_lt_of_le (Nat.add_lt_add_left hu (P * a)) (Nat.le_trans (Nat.mul_le_mul_left P h) (Nat.le_add_right _ _))
theorem lt_V : ∀ (k : Nat) (x y : List Nat), x.length ≤ k → y.length ≤ k → (∀ d ∈ x, 1 ≤ d ∧ d ≤ 4) → (∀ d ∈ y, 1 ≤ d ∧ d ≤ 4) → (ltS (x.map sgn) (y.map sgn) = true ↔ V k x < V k y)
  | k, [], [], _, _, _, _ => ⟨fun h => Bool.noConfusion h, fun h => absurd h (Nat.lt_irrefl _)⟩
  | 0, _ :: _, _, h, _, _, _ => absurd h (Nat.not_succ_le_zero _)
  | 0, _, _ :: _, _, h, _, _ => absurd h (Nat.not_succ_le_zero _)
  | k + 1, [], b :: y, _, _, _, hy => ⟨fun _ => Nat.lt_of_lt_of_le (Nat.mul_pos (Nat.pow_pos (show 0 < 5 by decide)) (hy b (.head _)).1) (Nat.le_add_right _ _), fun _ => rfl⟩
  | k + 1, a :: x, [], _, _, _, _ => ⟨fun h => Bool.noConfusion h, fun h => absurd h (Nat.not_lt_zero _)⟩
  | k + 1, a :: x, b :: y, lx, ly, hx, hy => by
    have hx' : ∀ d ∈ x, 1 ≤ d ∧ d ≤ 4 := fun d h => hx d (.tail _ h)
    have hy' : ∀ d ∈ y, 1 ≤ d ∧ d ≤ 4 := fun d h => hy d (.tail _ h)
    show ltS (sgn a :: x.map sgn) (sgn b :: y.map sgn) = true ↔ 5 ^ k * a + V k x < 5 ^ k * b + V k y
    rw [lt_cons (hx a (.head _)) (hy b (.head _))]
    by_cases h : a = b
    · rw [if_pos h, h, Nat.add_lt_add_iff_left]
      exact lt_V k x y (Nat.le_of_succ_le_succ lx) (Nat.le_of_succ_le_succ ly) hx' hy'
    · rw [if_neg h, decide_eq_true_eq]
      refine ⟨fun q => V_step q (V_lt k x hx'), fun q => ?_⟩
      rcases Nat.lt_or_ge a b with h1 | h1
      · exact h1
      · exact absurd q (Nat.lt_asymm (V_step (Nat.lt_of_le_of_ne h1 (Ne.symm h)) (V_lt k y hy')))
theorem lt_val {x y : List Nat} (hx : Word x) (hy : Word y) : ltS (x.map sgn) (y.map sgn) = true ↔ val x < val y :=
  (lt_V 3 x y hx.1 hy.1 hx.2 hy.2).trans Int.ofNat_lt.symm
/-- the words' order is the ranks' -/
theorem wr_lt (v u : Int) : ltS (sg (wr v).2) (sg (wr u).2) = decide ((wr v).1 < (wr u).1) := by
  obtain ⟨x, hx, ex, vx⟩ := wr_word v
  obtain ⟨y, hy, ey, vy⟩ := wr_word u
  rw [ex, ey, vx, vy, Bool.eq_iff_iff, decide_eq_true_eq]
  exact lt_val hx hy
theorem wr_cmp (v u : Int) : cmpV (wr v).2 (wr u).2 = if (wr v).1 < (wr u).1 then -3 else if (wr u).1 < (wr v).1 then 2 else 0 := by
  unfold cmpV
  rw [wr_lt, wr_lt]
  simp only [decide_eq_true_eq]
theorem wr_len (v : Int) : (wr v).2.length ≤ 6 := iterW_len _ _ 3
end Mine

end

section
open PySem PySem.W PySem.W.X PyProof.Rows
set_option maxRecDepth 100000
namespace Mine
/-- the class K over _law_compare -/
def Kls (h : Heap) (C : Addr) : Prop := ∃ e cell ns, ClassOk h C e cell ns ∧ h.IsCell cell (some (.ref 49))
theorem Kls.keeps {h h' : Heap} {C : Addr} (x : Kls h C) (k : ∀ b o, h.get? b = some o → h'.get? b = some o) : Kls h' C :=
  by obtain ⟨e, cell, ns, a, o, b, c⟩ := x; exact ⟨e, cell, ns, a.keeps k, o, k _ _ b, c⟩
def opB : CmpOp → Int → Bool
  | .Lt, v => decide (v < 0)
  | .Gt, v => decide (v > 0)
  | .Eq, v => v == 0
  | .LtE, v => decide (v ≤ 0)
  | .GtE, v => decide (v ≥ 0)
  | _, _ => false
section
variable {w : World} {A : Around} {s : Shared} {C : Addr} {x z : Addr} {y1 y2 : Str} {u1 u2 : Tok}
theorem rich_inst {E : Value → Shared → Prop} {op : CmpOp} {f : Addr} {K : Frag} {ox oz : Obj} {od oe : Option Obj} {Q : Value → Shared → Prop} (hu : A.units < cLine) (X : K.In s.heap) (I : InstAt s.heap x ox C od) (I' : InstAt s.heap z oz C oe)
    (hs : findIn K (.ref C) (cmpInfo op).2.1 = some (some (.ref f))) (hf : isFn K (.ref f) = true)
    (h : wpAny (GM w) A (call (.ref f) [.ref x, .ref z]) (fun v s' => ∃ b, v = .bool b ∧ Q v s') E s) : wpAny (GM w) A (richCompare op (.ref x) (.ref z)) Q E s := by
  unfold richCompare
  simp only [oneThing_ref]
  refine wpAny_holding (wpAny_bind (wpAny_cRoomFor hu ?_))
  refine wpAny_bind (I.type.here (wpAny_bind (I'.type.here ?_)))
  rw [if_neg (by simp)]
  refine wpAny_bind (wpAny_pure ?_)
  simp only [Bool.false_eq_true, if_false]
  refine wpAny_bind ?_
  unfold tryCompare
  refine wpAny_bind (ifBound_K X I hs hf (wpAny_mono h (fun v s' hv => ?_) fun _ _ e => e))
  obtain ⟨b, rfl, hq⟩ := hv
  exact wpAny_pure (wpAny_pure hq)
theorem fn_is {K : Frag} {f : Addr} {nm q : Str} {a : Arguments} {b : List Stmt} {sc : Scope} {cl : List (Str × Addr)} {doc pm : Value} {c : Addr} {ct : Value} (e : K.lookup f = some (fnMade nm q a b sc cl doc pm c ct)) : isFn K (.ref f) = true := by
  unfold isFn typeIn
  dsimp only
  rw [e]
  rfl
theorem lt_call {R : Result → Shared → Prop} {e : Ent} {cell ns : Addr} (rm : Rm 8 A) (G : Grd s.heap) (CK : ClassOk s.heap C e cell ns) (hc : s.heap.IsCell cell (some (.ref 49))) (hx : InstK s.heap C x y1 u1) (hz : InstK s.heap C z y2 u2) (h1 : y1.cps.size ≤ 1000) (h2 : y2.cps.size ≤ 1000)
    (c : ∀ s', Stp No s s' → R (.ok (.ret (.bool (opB .Lt (cmpV y1 y2))))) s') : codeAny (GM w) A (.call (.ref e.f5) ⟨[.ref x, .ref z], []⟩) R s :=
  meth_ok (op := .Lt) (fb := opB .Lt) rfl (fun _ _ _ _ _ _ => rfl) rfl rfl rfl rfl (fun _ _ _ _ _ _ _ h => PyProof.Rows.lt_int h) rm G CK.f5 CK hc hx hz h1 h2 c
theorem gt_call {R : Result → Shared → Prop} {e : Ent} {cell ns : Addr} (rm : Rm 8 A) (G : Grd s.heap) (CK : ClassOk s.heap C e cell ns) (hc : s.heap.IsCell cell (some (.ref 49))) (hx : InstK s.heap C x y1 u1) (hz : InstK s.heap C z y2 u2) (h1 : y1.cps.size ≤ 1000) (h2 : y2.cps.size ≤ 1000)
    (c : ∀ s', Stp No s s' → R (.ok (.ret (.bool (opB .Gt (cmpV y1 y2))))) s') : codeAny (GM w) A (.call (.ref e.f6) ⟨[.ref x, .ref z], []⟩) R s :=
  meth_ok (op := .Gt) (fb := opB .Gt) rfl (fun _ _ _ _ _ _ => rfl) rfl rfl rfl rfl (fun _ _ _ _ _ _ _ h => PyProof.Rows.gt_int h) rm G CK.f6 CK hc hx hz h1 h2 c
theorem eq_call {R : Result → Shared → Prop} {e : Ent} {cell ns : Addr} (rm : Rm 8 A) (G : Grd s.heap) (CK : ClassOk s.heap C e cell ns) (hc : s.heap.IsCell cell (some (.ref 49))) (hx : InstK s.heap C x y1 u1) (hz : InstK s.heap C z y2 u2) (h1 : y1.cps.size ≤ 1000) (h2 : y2.cps.size ≤ 1000)
    (c : ∀ s', Stp No s s' → R (.ok (.ret (.bool (opB .Eq (cmpV y1 y2))))) s') : codeAny (GM w) A (.call (.ref e.f7) ⟨[.ref x, .ref z], []⟩) R s :=
  meth_ok (op := .Eq) (fb := opB .Eq) rfl (fun _ _ _ _ _ _ => rfl) rfl rfl rfl rfl (fun _ _ _ _ _ _ _ h => PyProof.Rows.eq_int h) rm G CK.f7 CK hc hx hz h1 h2 c
theorem le_call {R : Result → Shared → Prop} {e : Ent} {cell ns : Addr} (rm : Rm 8 A) (G : Grd s.heap) (CK : ClassOk s.heap C e cell ns) (hc : s.heap.IsCell cell (some (.ref 49))) (hx : InstK s.heap C x y1 u1) (hz : InstK s.heap C z y2 u2) (h1 : y1.cps.size ≤ 1000) (h2 : y2.cps.size ≤ 1000)
    (c : ∀ s', Stp No s s' → R (.ok (.ret (.bool (opB .LtE (cmpV y1 y2))))) s') : codeAny (GM w) A (.call (.ref e.f8) ⟨[.ref x, .ref z], []⟩) R s :=
  meth_ok (op := .LtE) (fb := opB .LtE) rfl (fun _ _ _ _ _ _ => rfl) rfl rfl rfl rfl (fun _ _ _ _ _ _ _ h => PyProof.Rows.le_int h) rm G CK.f8 CK hc hx hz h1 h2 c
theorem ge_call {R : Result → Shared → Prop} {e : Ent} {cell ns : Addr} (rm : Rm 8 A) (G : Grd s.heap) (CK : ClassOk s.heap C e cell ns) (hc : s.heap.IsCell cell (some (.ref 49))) (hx : InstK s.heap C x y1 u1) (hz : InstK s.heap C z y2 u2) (h1 : y1.cps.size ≤ 1000) (h2 : y2.cps.size ≤ 1000)
    (c : ∀ s', Stp No s s' → R (.ok (.ret (.bool (opB .GtE (cmpV y1 y2))))) s') : codeAny (GM w) A (.call (.ref e.f9) ⟨[.ref x, .ref z], []⟩) R s :=
  meth_ok (op := .GtE) (fb := opB .GtE) rfl (fun _ _ _ _ _ _ => rfl) rfl rfl rfl rfl (fun _ _ _ _ _ _ _ h => PyProof.Rows.ge_int h) rm G CK.f9 CK hc hx hz h1 h2 c

/-- the five comparisons of two keys -/
theorem cmp_keys {E : Value → Shared → Prop} {op : CmpOp} {Q : Value → Shared → Prop} (hop : op = .Lt ∨ op = .Gt ∨ op = .Eq ∨ op = .LtE ∨ op = .GtE) (rm : Rm 8 A) (G : Grd s.heap) (CK : Kls s.heap C) (hx : InstK s.heap C x y1 u1) (hz : InstK s.heap C z y2 u2) (h1 : y1.cps.size ≤ 1000) (h2 : y2.cps.size ≤ 1000)
    (c : ∀ s', Stp No s s' → Q (.bool (opB op (cmpV y1 y2))) s') : wpAny (GM w) A (compareOp op (.ref x) (.ref z)) Q E s := by
  obtain ⟨e, cell, ns, CK, hc⟩ := CK
  obtain ⟨K, D, X, FK⟩ := CK.frag
  obtain ⟨ox, Ix, _⟩ := hx.inst
  obtain ⟨oz, Iz, _⟩ := hz.inst
  rcases hop with rfl | rfl | rfl | rfl | rfl
  · obtain ⟨_, _, _, _, z⟩ := FK.f5
    exact cmp_ofLt (rich_inst rm.units X Ix Iz FK.lt (fn_is z) (wpAny_call (lt_call rm G CK hc hx hz h1 h2 fun s' st => ⟨_, rfl, c s' st⟩)))
  · obtain ⟨_, _, _, _, z⟩ := FK.f6
    exact cmp_ofGt (rich_inst rm.units X Ix Iz FK.gt (fn_is z) (wpAny_call (gt_call rm G CK hc hx hz h1 h2 fun s' st => ⟨_, rfl, c s' st⟩)))
  · obtain ⟨_, _, _, _, z⟩ := FK.f7
    exact cmp_ofEq (rich_inst rm.units X Ix Iz FK.eq (fn_is z) (wpAny_call (eq_call rm G CK hc hx hz h1 h2 fun s' st => ⟨_, rfl, c s' st⟩)))
  · obtain ⟨_, _, _, _, z⟩ := FK.f8
    exact cmp_ofLtE (rich_inst rm.units X Ix Iz FK.le (fn_is z) (wpAny_call (le_call rm G CK hc hx hz h1 h2 fun s' st => ⟨_, rfl, c s' st⟩)))
  · obtain ⟨_, _, _, _, z⟩ := FK.f9
    exact cmp_ofGtE (rich_inst rm.units X Ix Iz FK.ge (fn_is z) (wpAny_call (ge_call rm G CK hc hx hz h1 h2 fun s' st => ⟨_, rfl, c s' st⟩)))
/-- the sort's question to two keys -/
theorem ask_keys {E : Value → Shared → Prop} {Q : Bool → Shared → Prop} (rm : Rm 8 A) (G : Grd s.heap) (CK : Kls s.heap C) (hx : InstK s.heap C x y1 u1) (hz : InstK s.heap C z y2 u2) (h1 : y1.cps.size ≤ 1000) (h2 : y2.cps.size ≤ 1000)
    (c : ∀ s', Stp No s s' → Q (decide (cmpV y1 y2 < 0)) s') : wpAny (GM w) A (keyLt' oneType' (.ref x) (.ref z)) Q E s := by
  obtain ⟨e, cell, ns, CK, hc⟩ := CK
  obtain ⟨K, D, X, FK⟩ := CK.frag
  obtain ⟨ox, Ix, _⟩ := hx.inst
  obtain ⟨_, _, _, _, z⟩ := FK.f5
  rw [keyLt'_oneType, oneLt'_eq]
  simp only [if_true]
  refine wpAny_bind (wpAny_cRoomFor rm.units ?_)
  refine wpAny_bind (ifBound_K X Ix FK.lt (fn_is z) (wpAny_call (lt_call rm G CK hc hx hz h1 h2 fun s' st => ?_)))
  exact wpAny_truthy_bool (c s' st)
end
end Mine

end

section
open PySem PySem.W PyProof.Rows
namespace Mine
/-- a tree that asks of places below n alone, and ends in P -/
def Run {α : Type} (n : Nat) (P : α → Prop) : KasT α → Prop
  | .ret a => P a
  | .ask i j k => i < n ∧ j < n ∧ ∀ b, Run n P (k b)
theorem Run.bind {α β : Type} {n : Nat} {P : α → Prop} {P' : β → Prop} {f : α → KasT β} : ∀ {t : KasT α}, Run n P t → (∀ a, P a → Run n P' (f a)) → Run n P' (t.bind f)
  | .ret a, h, hf => hf a h
  | .ask _ _ k, h, hf => ⟨h.1, h.2.1, fun b => Run.bind (t := k b) (h.2.2 b) hf⟩
theorem Run.mono {α : Type} {n : Nat} {P P' : α → Prop} (hp : ∀ a, P a → P' a) : ∀ {t : KasT α}, Run n P t → Run n P' t
  | .ret a, h => hp a h
  | .ask _ _ k, h => ⟨h.1, h.2.1, fun b => Run.mono hp (t := k b) (h.2.2 b)⟩
theorem Run.wp {α : Type} {n : Nat} {P : α → Prop} {lt : Nat → Nat → Bool} {cmp : Nat → Nat → (Bool → Shared → Prop) → Shared → Prop} {I : Shared → Prop} {Q : α → Shared → Prop}
    (hc : ∀ i j s C, i < n → j < n → I s → (∀ s', I s' → C (lt i j) s') → cmp i j C s) : ∀ {t : KasT α} {s : Shared}, Run n P t → I s → (∀ s', I s' → Q (ans lt t) s') → t.kasWp cmp Q s
  | .ret _, s, _, h, q => q s h
  | .ask i j k, s, r, h, q => hc i j s _ r.1 r.2.1 h fun s' h' => Run.wp hc (t := k (lt i j)) (r.2.2 _) h' q
/-- an array of places below n -/
def Lo (n : Nat) (p : Array Nat) : Prop := ∀ a, p.getD a 0 < n
theorem Lo.of {n : Nat} {p : Array Nat} (hn : 0 < n) (h : ∀ x ∈ p, x < n) : Lo n p := fun a => by
  rw [getD_some]
  cases e : p[a]? with
  | none => exact hn
  | some x => exact h x (Array.mem_of_getElem? e)
theorem Lo.mem {n : Nat} {p : Array Nat} (h : Lo n p) : ∀ x ∈ p, x < n := fun x hx => by
  obtain ⟨i, hi, e⟩ := Array.mem_iff_getElem.mp hx
  have := h i
  rw [getD_some, Array.getElem?_eq_getElem hi, e] at this
  exact this
theorem Lo.perm {n : Nat} {p q : Array Nat} (h : Lo n p) (e : q.Perm p) : Lo n q := Lo.of (Nat.lt_of_le_of_lt (Nat.zero_le _) (h 0)) fun x hx => h.mem x ((Array.Perm.mem_iff e).mp hx)
section
variable {n : Nat}
theorem run_asc {p : Array Nat} (h : Lo n p) : ∀ f m, Run n (fun _ => True) (kas_asc p f m)
  | 0, m => trivial
  | f + 1, m => ⟨h _, h _, fun b => by cases b; exact run_asc h f (m + 1); exact trivial⟩
theorem run_desc : ∀ f (p : Array Nat) m q, Lo n p → Run n (fun r : Array Nat × Nat × Nat => Lo n r.1) (kas_desc f p m q)
  | 0, p, m, q, h => h
  | f + 1, p, m, q, h => ⟨h _, h _, fun b => by
    cases b with
    | false => exact ⟨h _, h _, fun b => by cases b; exact run_desc f p _ _ h; exact h⟩
    | true =>
      show Run n _ (if q > 0 then kas_desc f (kas_rev p (m - (q + 1)) m) (m + 1) 0 else kas_desc f p (m + 1) 0)
      split
      · exact run_desc f _ _ _ (h.perm rev_perm)
      · exact run_desc f p _ _ h⟩
theorem run_tail3 {p : Array Nat} (h : Lo n p) (m k : Nat) : Run n (fun r : Nat × Array Nat => Lo n r.2) (kas_tail3 m k p) :=
  Run.bind (run_asc (h.perm rev_perm) _ _) fun _ _ => h.perm rev_perm
theorem run_descPart {p : Array Nat} (h : Lo n p) (m k : Nat) : Run n (fun r : Nat × Array Nat => Lo n r.2) (kas_descPart m k p) :=
  Run.bind (run_desc _ _ _ _ h) fun r hr => by
    try dsimp only
    split
    · exact run_tail3 (hr.perm rev_perm) _ _
    · exact run_tail3 hr _ _
theorem run_count {p : Array Nat} (h : Lo n p) (k : Nat) : Run n (fun r : Nat × Array Nat => Lo n r.2) (kas_count k p) :=
  Run.bind (run_asc h _ _) fun m _ => by
    try dsimp only
    split
    · exact h
    · split
      · refine ⟨h _, h _, fun b => ?_⟩
        cases b
        · exact run_descPart (h.perm rev_perm) _ _
        · exact h
      · exact run_descPart h _ _
theorem run_place {p : Array Nat} (h : Lo n p) (k : Nat) : ∀ f l r, Run n (fun _ => True) (kas_place p k f l r)
  | 0, l, r => trivial
  | f + 1, l, r => by
    show Run n _ (if l ≥ r then KasT.ret l else KasT.ask (p.getD k 0) (p.getD ((l + r) / 2) 0) fun c => if c = true then kas_place p k f l ((l + r) / 2) else kas_place p k f ((l + r) / 2 + 1) r)
    split
    · trivial
    · exact ⟨h _, h _, fun b => by cases b; exact run_place h k f _ _; exact run_place h k f _ _⟩
theorem run_bin : ∀ f (p : Array Nat) k, Lo n p → Run n (fun _ => True) (kas_bin f p k)
  | 0, p, k, h => trivial
  | f + 1, p, k, h => Run.bind (run_place h k _ _ _) fun l _ => run_bin f _ _ (h.perm (bubble_perm _ _ _))
theorem run_sort (hn : 0 < n) : Run n (fun _ => True) (kas_sort n) :=
  Run.bind (run_count (Lo.of hn fun x hx => by simpa using hx) n) fun r hr => by
    try dsimp only
    split
    · exact run_bin _ _ _ hr
    · trivial
end
end Mine

end

section
open PySem PySem.W PySem.W.X PyProof.Rows
set_option maxRecDepth 100000
namespace Mine
theorem Stp.upd {s₀ s : Shared} {a : Addr} {f : Obj → Obj} (st : Stp No s₀ s) (ha : s₀.heap.get? a = none) : Stp No s₀ { s with heap := s.heap.update a f } :=
  ⟨fun b o _ e => by
    have hb : b ≠ a := fun q => by rw [q, ha] at e; cases e
    show (s.heap.update a f).get? b = some o
    rw [Heap.get?_update_ne _ _ _ _ hb]
    exact st.keep b o (fun h => h) e, st.os, st.gens, st.bare⟩
theorem Stp.psh {s₀ s : Shared} {o : Obj} (st : Stp No s₀ s) : Stp No s₀ { s with heap := s.heap.push o } :=
  ⟨fun b x _ e => Heap.get?_push_of_some _ (st.keep b x (fun h => h) e), st.os, st.gens, st.bare⟩
theorem Stp.new {s₀ s : Shared} {b : Addr} (st : Stp No s₀ s) (h : s.heap.objs.size ≤ b) : s₀.heap.get? b = none := by
  cases e : s₀.heap.get? b with
  | none => rfl
  | some o => exact absurd (Heap.lt_size (st.keep b o (fun h => h) e)) (Nat.not_lt.mpr h)
theorem InstK.upd {h : Heap} {C x a : Addr} {y : Str} {t : Tok} {c : String} {xs : Array Value} {n : Nat} {f : Obj → Obj} (z : InstK h C x y t) (ha : h.get? a = some (seqObj c xs n)) : InstK (h.update a f) C x y t := by
  obtain ⟨dx, p, q⟩ := z
  have h1 : x ≠ a := fun e => by rw [e, ha] at p; cases p
  have h2 : dx ≠ a := fun e => by rw [e, ha] at q; cases q
  exact ⟨dx, by rw [Heap.get?_update_ne _ _ _ _ h1]; exact p, by rw [Heap.get?_update_ne _ _ _ _ h2]; exact q⟩
structure Keyd (s₀ s : Shared) (a kS : Addr) (e1 : Nat) (C : Addr) (ys : List Str) (xs : List Addr) (e : Nat) : Prop where
  st : Stp No s₀ s
  ha : s.heap.get? a = some (seqObj "list" #[] e1)
  hk : s.heap.get? kS = some (seqObj "list" (xs.map Value.ref).toArray e)
  inst : ∀ (j : Nat) (x : Addr), xs[j]? = some x → ∃ y t, ys[j]? = some y ∧ InstK s.heap C x y t
theorem Keyd.next {s₀ s s' : Shared} {a kS : Addr} {e1 : Nat} {C : Addr} {ys : List Str} {xs : List Addr} {e : Nat} (k : Keyd s₀ s a kS e1 C ys xs e) (st : Stp No s s') : Keyd s₀ s' a kS e1 C ys xs e :=
  ⟨k.st.trans st, st.keep _ _ (fun h => h) k.ha, st.keep _ _ (fun h => h) k.hk, fun j x hx => let ⟨y, t, hy, hi⟩ := k.inst j x hx; ⟨y, t, hy, hi.keeps fun b o e => st.keep b o (fun h => h) e⟩⟩
theorem rev_get {α : Type} {l : List α} {b : Bool} {i : Nat} (h : i < l.length) : (katRev b l)[i]? = l[if b = true then l.length - 1 - i else i]? := by
  unfold katRev
  cases b
  · rfl
  · rw [if_pos rfl, if_pos rfl, List.getElem?_reverse h]
theorem rev_map {α β : Type} {f : α → β} {l : List α} {b : Bool} : katRev b (l.map f) = (katRev b l).map f := by
  unfold katRev
  cases b
  · rfl
  · rw [if_pos rfl, if_pos rfl, List.map_reverse]
/-- what the sort of texts gives -/
def outK (b : Bool) (vs : List Value) (ys : List Str) : List Value :=
  katRev b ((ans (fun i j => decide (cmpV ((katRev b ys).getD i "") ((katRev b ys).getD j "") < 0)) (kas_sort vs.length)).toList.map fun i => (katRev b vs).getD i Value.none)
section
variable {w : World} {A : Around} {E : Value → Shared → Prop} {s₀ s : Shared} {a C : Addr} {b : Bool} {vs : List Value} {ys : List Str} {n : Nat} {P : PySem.Fin → Shared → Prop}
theorem sortK_end {kS : Addr} {e1 e : Nat} {xs : List Addr} (rm : Rm 8 A) (G : Grd s₀.heap) (CK : Kls s₀.heap C) (ha : s₀.heap.get? a = none) (hkS : s₀.heap.get? kS = none) (hne : a ≠ kS) (hvs : StrsAre vs ys) (h2 : 2 ≤ vs.length) (h64 : vs.length < 64) (hsz : ∀ y ∈ ys, y.cps.size ≤ 1000)
    (hl : xs.length = vs.length) (k : Keyd s₀ s a kS e1 C ys xs e)
    (c : ∀ s' m, Stp No s₀ s' → s'.heap.get? a = some (seqObj "list" (outK b vs ys).toArray m) → P (.done (.ret .none)) s') :
    wpAny (GM w) A (ksk_end a b vs.toArray e1 (.ref kS) (List.toArray (xs.map Value.ref))) P E s := by
  have hyl : vs.length = ys.length := hvs.length
  have hn2 : ¬ vs.toArray.size < 2 := by rw [List.size_toArray]; lia
  have hlk : (xs.map Value.ref).length = vs.length := by rw [List.length_map, hl]
  have hlr : (katRev b (xs.map Value.ref)).length = (katRev b vs).length := by rw [kat_len, kat_len, hlk]
  have step : ∀ t : Sem PySem.Fin, wpAny (GM w) A t P E s → wpAny (GM w) A (if b = true then (do let _ ← rule "list.sort.reverse"; t) else t) P E s := by
    intro t ht
    split
    · exact wpAny_bind (wpAny_rule ht)
    · exact ht
  have hT : ∀ v ∈ xs.map Value.ref, Looks (GM w) s.heap (typeOf v) (.ref C) := by
    intro v hv
    obtain ⟨x, hx, rfl⟩ := List.mem_map.mp hv
    obtain ⟨j, hj⟩ := List.getElem?_of_mem hx
    obtain ⟨y, t, _, hi⟩ := k.inst j x hj
    obtain ⟨ox, I, _⟩ := hi.inst
    exact I.type
  unfold ksk_end
  try dsimp only
  refine step _ ?_
  rw [if_neg hn2, if_neg hn2]
  refine wpAny_bind (kas_kind (by rw [hlk]; exact h2) hT rfl (by simp) ?_)
  rw [kat_pairs b hlk]
  refine wpAny_bind (wpAny_mono (kat_run (Q := fun st' s' => ∃ p : Array Nat, p.size = (katRev b vs).length ∧ arrOf st' = p.map (kas_item ((List.toArray (katRev b (xs.map Value.ref))).zip (List.toArray (katRev b vs)))) ∧ failedOf st' = none ∧
      (p = ans (fun i j => decide (cmpV ((katRev b ys).getD i "") ((katRev b ys).getD j "") < 0)) (kas_sort vs.length) ∧ Keyd s₀ s' a kS e1 C ys xs e))
    hlr (by rw [kat_len]; exact h2) (by rw [kat_len]; exact h64) (fun p' st' s' a1 a2 a3 a4 => ⟨p', a1, a2, a3, a4⟩) ?ask) ?_ fun _ _ x => x)
  case ask =>
    rw [kat_len]
    refine (run_sort (n := vs.length) (Nat.lt_of_lt_of_le Nat.two_pos h2)).wp (I := fun s' => Keyd s₀ s' a kS e1 C ys xs e) (fun i j s' Cc hi hj hI hC => ?_) k (fun s' hI => ⟨rfl, hI⟩)
    have look : ∀ i, i < vs.length → ∃ x y t, (katRev b (xs.map Value.ref)).getD i Value.none = .ref x ∧ (katRev b ys).getD i "" = y ∧ y ∈ ys ∧ InstK s'.heap C x y t := by
      intro i hi
      have hi1 : (if b = true then xs.length - 1 - i else i) < xs.length := by split <;> lia
      have e1 : (katRev b xs)[i]? = xs[if b = true then xs.length - 1 - i else i]? := rev_get (by lia)
      rw [List.getElem?_eq_getElem hi1] at e1
      obtain ⟨y, t, hy, hin⟩ := hI.inst _ _ (List.getElem?_eq_getElem hi1)
      refine ⟨_, y, t, ?_, ?_, List.mem_of_getElem? hy, hin⟩
      · rw [rev_map, List.getD_eq_getElem?_getD, List.getElem?_map, e1]; rfl
      · rw [List.getD_eq_getElem?_getD, rev_get (by lia)]
        rw [show ys.length = xs.length by lia, hy]; rfl
    obtain ⟨x, y, t, ex, ey, hym, hxi⟩ := look i hi
    obtain ⟨z, u, t', ez, eu, hum, hzi⟩ := look j hj
    show wpAny (GM w) A (keyLt' oneType' ((katRev b (xs.map Value.ref)).getD i Value.none) ((katRev b (xs.map Value.ref)).getD j Value.none)) Cc (fun _ _ => False) s'
    rw [ex, ez]
    have kp : ∀ b o, s₀.heap.get? b = some o → s'.heap.get? b = some o := fun b o e => hI.st.keep b o (fun h => h) e
    refine ask_keys rm (G.keeps kp) (CK.keeps kp) hxi hzi (hsz _ hym) (hsz _ hum) (fun s'' st => ?_)
    have := hC s'' (hI.next st)
    rw [ey, eu] at this
    exact this
  rintro ⟨⟨⟩, st'⟩ s' ⟨p, hp, har, hf, hpe, hI⟩
  try dsimp only
  have hout := kat_snds hlr har
  have hck : ∃ ck, (s'.heap.update kS (Obj.mapSeq fun _ => (#[] : Array Value))).get? kS = some (seqObj "list" #[] ck) := ⟨_, get?_update_seq hI.hk fun _ => #[]⟩
  have ha' : (s'.heap.update kS (Obj.mapSeq fun _ => (#[] : Array Value))).get? a = some (seqObj "list" #[] e1) := by rw [Heap.get?_update_ne _ _ _ _ hne]; exact hI.ha
  unfold ksk_tail
  try dsimp only
  rw [hout, kat_outs]
  have ho : katRev b (p.toList.map fun i => (katRev b vs).getD i Value.none) = outK b vs ys := by rw [hpe]; rfl
  rw [ho]
  have hz : (outK b vs ys).toArray.size = vs.length := by rw [← ho, List.size_toArray, kat_len, List.length_map, Array.length_toList, hp, kat_len]
  refine wpAny_bind (listUpdate_at hI.hk rfl ?_ (by rw [List.size_toArray, sizeLine_eq]; lia) (Nat.zero_le _))
  refine wpAny_bind (wpAny_letGo ?_)
  refine wpAny_bind (seqEpoch_at ha' rfl ?_)
  refine wpAny_bind (listUpdate_at ha' rfl ?_ (Nat.zero_le _) (Nat.le_trans (Nat.le_of_eq hz) (by rw [sizeLine_eq]; lia)))
  rw [hf]
  simp only [bne_self_eq_false, Bool.false_eq_true, if_false]
  refine wpAny_pure (c _ _ ((hI.st.upd hkS).upd ha) (get?_update_seq ha' fun _ => (outK b vs ys).toArray))
theorem sortK_tree (rm : Rm 8 A) (st : Stp No s₀ s) (G : Grd s₀.heap) (CK : Kls s₀.heap C) (ha : s₀.heap.get? a = none) (ho : s.heap.get? a = some (seqObj "list" vs.toArray n)) (hvs : StrsAre vs ys) (h2 : 2 ≤ vs.length) (h64 : vs.length < 64) (hsz : ∀ y ∈ ys, y.cps.size ≤ 1000)
    (c : ∀ s' m, Stp No s₀ s' → s'.heap.get? a = some (seqObj "list" (outK b vs ys).toArray m) → P (.done (.ret .none)) s') :
    wpAny (GM w) A (ksk_tree a (.ref C) b) P E s := by
  obtain ⟨e1, ho1⟩ : ∃ e1, (s.heap.update a (Obj.mapSeq fun _ => (#[] : Array Value))).get? a = some (seqObj "list" #[] e1) := ⟨_, get?_update_seq ho fun _ => #[]⟩
  unfold ksk_tree
  refine wpAny_bind (listItems_at ho rfl ?_)
  refine wpAny_bind (listUpdate_at ho rfl ?_ (by rw [List.size_toArray, sizeLine_eq]; lia) (Nat.zero_le _))
  refine wpAny_bind (seqEpoch_at ho1 rfl ?_)
  refine wpAny_bind (wpAny_newTuple ?_ (by show vs.length ≤ _; rw [sizeLine_eq]; lia))
  refine wpAny_bind (wpAny_newList ?_ (Nat.zero_le _))
  refine wpAny_holding ?_
  dsimp only
  have st1 : Stp No s₀ { s with heap := s.heap.update a (Obj.mapSeq fun _ => (#[] : Array Value)) } := st.upd ha
  have st2 := (st1.psh (o := seqObj "tuple" vs.toArray 0)).psh (o := seqObj "list" #[] 0)
  dsimp only at st2
  have hkn := (st1.psh (o := seqObj "tuple" vs.toArray 0)).new (Nat.le_refl _)
  dsimp only at hkn
  have hkk : (((s.heap.update a (Obj.mapSeq fun _ => (#[] : Array Value))).push (seqObj "tuple" vs.toArray 0)).push (seqObj "list" #[] 0)).get? ((s.heap.update a (Obj.mapSeq fun _ => (#[] : Array Value))).push (seqObj "tuple" vs.toArray 0)).objs.size = some (seqObj "list" #[] 0) := Heap.get?_push_size _ rfl
  have haa : (((s.heap.update a (Obj.mapSeq fun _ => (#[] : Array Value))).push (seqObj "tuple" vs.toArray 0)).push (seqObj "list" #[] 0)).get? a = some (seqObj "list" #[] e1) := Heap.get?_push_of_some _ (Heap.get?_push_of_some _ ho1)
  have hne : a ≠ ((s.heap.update a (Obj.mapSeq fun _ => (#[] : Array Value))).push (seqObj "tuple" vs.toArray 0)).objs.size := Nat.ne_of_lt (Heap.lt_size (Heap.get?_push_of_some _ ho1))
  revert st2 hkn hkk haa hne
  generalize ((s.heap.update a (Obj.mapSeq fun _ => (#[] : Array Value))).push (seqObj "tuple" vs.toArray 0)).objs.size = kS
  show Stp No s₀ { s with heap := (((s.heap.update a (Obj.mapSeq fun _ => (#[] : Array Value))).push (seqObj "tuple" vs.toArray 0)).push (seqObj "list" #[] 0)) } → _ → _ → _ → _ → wpAny (GM w) A (ksk_rest a (.ref C) b vs.toArray e1 (.ref kS)) P E { s with heap := (((s.heap.update a (Obj.mapSeq fun _ => (#[] : Array Value))).push (seqObj "tuple" vs.toArray 0)).push (seqObj "list" #[] 0)) }
  generalize (((s.heap.update a (Obj.mapSeq fun _ => (#[] : Array Value))).push (seqObj "tuple" vs.toArray 0)).push (seqObj "list" #[] 0)) = h₂
  intro st2 hkn hkk haa hne
  unfold ksk_rest
  refine wpAny_bind (wpAny_rule ?_)
  rw [List.forIn_toArray]
  refine wpAny_bind (ksk_fold (fun i s' => ∃ xs e, xs.length = i ∧ Keyd s₀ s' a kS e1 C ys xs e) vs 0 _ ⟨[], 0, rfl, st2, haa, hkk, fun j x hx => by simp at hx⟩ (fun j v s' hv hI => ?_) (fun s' hI => ?_))
  · obtain ⟨xs, e, hl, hK⟩ := hI
    obtain ⟨y, t, rfl, hy⟩ := hvs.item j v hv
    have kp : ∀ b o, s₀.heap.get? b = some o → s'.heap.get? b = some o := fun b o e => hK.st.keep b o (fun h => h) e
    obtain ⟨_, _, _, z, _⟩ := CK.keeps kp
    refine wpAny_bind (wpAny_attempt (wpAny_call (make_ok (rm.le (by decide)) ((G.keeps kp).lim) z (fun s'' x hi st'' _ => ?_))))
    try dsimp only
    have hK' := hK.next st''
    have hj : j < vs.length := (List.getElem?_eq_some_iff.mp hv).1
    have hjl : xs.length = j := by lia
    refine wpAny_bind (listUpdate_at hK'.hk rfl ?_ (by rw [List.size_toArray, List.length_map, sizeLine_eq]; lia) (Nat.le_trans (Nat.le_of_eq (Array.size_push ..)) (by rw [List.size_toArray, List.length_map, sizeLine_eq]; lia)))
    refine wpAny_pure ⟨rfl, xs ++ [x], if ((xs.map Value.ref).toArray.push (.ref x)).size == (xs.map Value.ref).toArray.size then e else e + 1, by simp; lia, ?_⟩
    refine ⟨hK'.st.upd hkn, ?_, ?_, ?_⟩
    · show (s''.heap.update kS _).get? a = _
      rw [Heap.get?_update_ne _ _ _ _ hne]; exact hK'.ha
    · have := get?_update_seq hK'.hk (·.push (.ref x))
      rw [show ((xs ++ [x]).map Value.ref).toArray = ((xs.map Value.ref).toArray.push (.ref x)) by simp]
      exact this
    · intro i z hz
      rw [List.getElem?_append] at hz
      split at hz
      · obtain ⟨y', t', hy', hi'⟩ := hK'.inst i z hz
        exact ⟨y', t', hy', hi'.upd hK'.hk⟩
      · rename_i hge
        have : i = xs.length := by
          have := (List.getElem?_eq_some_iff.mp hz).1
          simp at this; lia
        subst this
        simp at hz
        subst hz
        exact ⟨y, t, by rw [hjl]; exact hy, hi.upd hK'.hk⟩
  · obtain ⟨xs, e, hl, hK⟩ := hI
    rw [Nat.zero_add] at hl
    try dsimp only
    refine wpAny_bind (listItems_at hK.hk rfl ?_)
    exact sortK_end rm G CK ha hkn hne hvs h2 h64 hsz hl hK c
end
end Mine

end

section
open PySem PySem.W PySem.W.X PyProof.Rows
set_option maxRecDepth 100000
namespace Mine
section
variable {w : World} {A : Around} {E : Value → Shared → Prop} {s : Shared} {vs : List Value} {l : Addr}
theorem Rm.in2 {n : Nat} {A : Around} (h : Rm (n + 1) A) : Rm n A.in1.in1 := ⟨h.1, Nat.lt_of_le_of_lt (Nat.add_le_add_left (Nat.le_succ n) _) h.2.1, Nat.lt_of_le_of_lt (un_le 2 n (by decide)) h.2.2⟩
/-- the shell of sorted(list, ...) -/
theorem sorted_shell {kw : List (Str × Value)} {Q : Value → Shared → Prop} (hl : s.heap.IsList l vs.toArray) (h64 : vs.length < 64) (ha1 : argsOk "sorted" ⟨[.ref l], kw⟩) (ha2 : ∀ x, argsOk "list.sort" ⟨[.ref x], kw⟩)
    (h : ∀ s' D, Stp No s s' → s.heap.get? D = none → s'.heap.get? D = some (seqObj "list" vs.toArray 0) →
      wpAny (GM w) A.in1.in1 (Builtin.«list.sort» ⟨[.ref D], kw⟩) (fun fin s'' => fin = .done (.ret .none) ∧ Q (.ref D) s'') E s') :
    wpAny (GM w) A (call (.builtin "sorted") [.ref l] kw) Q E s := by
  refine call_function_entry_kw kind_sorted plain_sorted entry_sorted ha1 ?_
  unfold Builtin.«sorted»
  refine wpAny_bind (m := checkCount "sorted" 1 1 _) (wpAny_pure ?_)
  refine wpAny_bind (collect_list hl ?_ (by rw [sizeLine_eq]; lia))
  refine wpAny_bind (wpAny_newList ?_ (by rw [sizeLine_eq]; lia))
  have st : Stp No s { s with heap := (s.heap.push (seqObj "list" #[] 0)).update s.heap.objs.size (Obj.mapSeq (· ++ vs.toArray)) } :=
    (Stp.upd (s := { s with heap := s.heap.push (seqObj "list" #[] 0) }) (Stp.psh Stp.refl) (Heap.get?_none_of_le (Nat.le_refl _)))
  have st2 := st.psh (o := seqObj "list" vs.toArray 0)
  have hD := st.new (Nat.le_refl _)
  have hoD : (((s.heap.push (seqObj "list" #[] 0)).update s.heap.objs.size (Obj.mapSeq (· ++ vs.toArray))).push (seqObj "list" vs.toArray 0)).get? ((s.heap.push (seqObj "list" #[] 0)).update s.heap.objs.size (Obj.mapSeq (· ++ vs.toArray))).objs.size = some (seqObj "list" vs.toArray 0) := Heap.get?_push_size _ rfl
  dsimp only at st2 hD ⊢
  have hh := h _ _ st2 hD hoD
  refine wpAny_bind (wpAny_holding (wpAny_call_entry_kw slot_list_sort ⟨_, hoD, rfl⟩ entry_list_sort (wpAny_mono hh (fun fin s'' hq => ?_) fun _ _ e => e) (ha2 _)))
  obtain ⟨rfl, hq⟩ := hq
  exact ⟨_, rfl, wpAny_pure ⟨_, rfl, hq⟩⟩
/-- sorted(texts, key=K) and sorted(texts, key=K, reverse=True) -/
theorem sortedK {b : Bool} {C : Addr} {ys : List Str} {kw : List (Str × Value)} {Q : Value → Shared → Prop} (hkw : (kw = [(Str.ofString "key", .ref C)] ∧ b = false) ∨ kw = [(Str.ofString "key", .ref C), (Str.ofString "reverse", .bool b)])
    (rm : Rm 9 A) (G : Grd s.heap) (CK : Kls s.heap C) (hl : s.heap.IsList l vs.toArray) (hvs : StrsAre vs ys) (h2 : 2 ≤ vs.length) (h64 : vs.length < 64) (hsz : ∀ y ∈ ys, y.cps.size ≤ 1000)
    (c : ∀ s' D m, Stp No s s' → s.heap.get? D = none → s'.heap.get? D = some (listObj (outK b vs ys) m) → Q (.ref D) s') :
    wpAny (GM w) A (call (.builtin "sorted") [.ref l] kw) Q E s := by
  have ha1 : argsOk "sorted" ⟨[.ref l], kw⟩ := by rcases hkw with ⟨rfl, _⟩ | rfl; exact ksk_s1 _ _; exact ksk_s2 _ _ _
  have ha2 : ∀ x, argsOk "list.sort" ⟨[.ref x], kw⟩ := by intro x; rcases hkw with ⟨rfl, _⟩ | rfl; exact ksk_l1 _ _; exact ksk_l2 _ _ _
  have ht : ∀ x, Builtin.«list.sort» ⟨[.ref x], kw⟩ = ksk_tree x (.ref C) b := by intro x; rcases hkw with ⟨rfl, rfl⟩ | rfl; exact ksk_t1 _ _; exact ksk_t2 _ _ _
  refine sorted_shell hl h64 ha1 ha2 (fun s' D st hD hoD => ?_)
  rw [ht]
  exact sortK_tree rm.in2 st G CK hD hoD hvs h2 h64 hsz (fun s'' m st' h' => ⟨rfl, c s'' D m st' hD h'⟩)

/-- pairs (rank, place) -/
def PairsAre (h : Heap) : List Value → List (Int × Int) → Prop
  | [], [] => True
  | v :: vs, p :: ps => (∃ a t u, v = .ref a ∧ h.get? a = some (seqObj "tuple" #[.int p.1 t, .int p.2 u] 0)) ∧ PairsAre h vs ps
  | _, _ => False
theorem PairsAre.keeps {h h' : Heap} (k : ∀ b o, h.get? b = some o → h'.get? b = some o) : ∀ {vs : List Value} {ps : List (Int × Int)}, PairsAre h vs ps → PairsAre h' vs ps
  | [], [], _ => trivial
  | [], _ :: _, h => h.elim
  | _ :: _, [], h => h.elim
  | _ :: _, _ :: _, ⟨⟨a, t, u, e, g⟩, r⟩ => ⟨⟨a, t, u, e, k _ _ g⟩, PairsAre.keeps k r⟩
theorem PairsAre.length {h : Heap} : ∀ {vs : List Value} {ps : List (Int × Int)}, PairsAre h vs ps → vs.length = ps.length
  | [], [], _ => rfl
  | [], _ :: _, h => h.elim
  | _ :: _, [], h => h.elim
  | _ :: _, _ :: _, ⟨_, r⟩ => by simp [PairsAre.length r]
theorem PairsAre.get {h : Heap} : ∀ {vs : List Value} {ps : List (Int × Int)}, PairsAre h vs ps → ∀ (i : Nat) (p : Int × Int), ps[i]? = some p → ∃ a t u, vs[i]? = some (.ref a) ∧ h.get? a = some (seqObj "tuple" #[.int p.1 t, .int p.2 u] 0)
  | [], [], _, i, p, e => by simp at e
  | [], _ :: _, h, _, _, _ => h.elim
  | _ :: _, [], h, _, _, _ => h.elim
  | _ :: _, _ :: _, ⟨⟨a, t, u, ev, g⟩, r⟩, i, p, e => by
    cases i with
    | zero => simp at e; subst e; exact ⟨a, t, u, by simp [ev], g⟩
    | succ i => simp at e; obtain ⟨a, t, u, e1, g⟩ := PairsAre.get r i p e; exact ⟨a, t, u, by simpa using e1, g⟩
theorem PairsAre.tups {h : Heap} : ∀ {vs : List Value} {ps : List (Int × Int)}, PairsAre h vs ps → ∃ fs, KatTups h vs fs ∧ fs.length = ps.length ∧ ∀ f ∈ fs, ∃ i t, f = .int i t
  | [], [], _ => ⟨[], trivial, rfl, by simp⟩
  | [], _ :: _, h => h.elim
  | _ :: _, [], h => h.elim
  | _ :: _, p :: _, ⟨⟨a, t, u, e, g⟩, r⟩ => by
    obtain ⟨fs, k, hl, hf⟩ := PairsAre.tups r
    refine ⟨.int p.1 t :: fs, ?_, by simp [hl], ?_⟩
    · rw [e]; exact KatTups.cons g rfl rfl rfl k
    · intro f hf'
      rcases List.mem_cons.mp hf' with rfl | h'
      · exact ⟨_, _, rfl⟩
      · exact hf f h'
def ltP (ps : List (Int × Int)) (i j : Nat) : Bool := decide ((ps.getD i (0, 0)).1 < (ps.getD j (0, 0)).1 ∨ ((ps.getD i (0, 0)).1 = (ps.getD j (0, 0)).1 ∧ (ps.getD i (0, 0)).2 < (ps.getD j (0, 0)).2))
/-- what the sort of pairs gives -/
def outP (vs : List Value) (ps : List (Int × Int)) : List Value := (ans (ltP ps) (kas_sort vs.length)).toList.map fun i => vs.getD i Value.none
theorem pair_ask {x y : Addr} {a b c d : Int} {t u t' u' : Tok} {Q : Bool → Shared → Prop} (hx : s.heap.get? x = some (seqObj "tuple" #[.int a t, .int b u] 0)) (hy : s.heap.get? y = some (seqObj "tuple" #[.int c t', .int d u'] 0))
    (h : ∀ tk, Q (decide (a < c ∨ (a = c ∧ b < d))) { s with toks := tk }) : wpAny (GM w) A (keyLt' (tuples' true) (.ref x) (.ref y)) Q E s := by
  refine kat_lt hx rfl hy rfl ?_
  show KatLex _ w A true (decide (2 < 2)) Q [(.int a t, .int c t'), (.int b u, .int d u')] 0 s
  refine kat_cons (wpAny_eqBool_int ?_)
  refine kat_go (fun h1 => kat_yes ?_) (fun h1 => kat_no ?_)
  · have h1 : a = c := by simpa using h1
    refine kat_cons (wpAny_eqBool_int ?_)
    refine kat_go (fun h2 => kat_yes ?_) (fun h2 => kat_no ?_)
    · have h2 : b = d := by simpa using h2
      refine kat_nil ?_
      have := h s.toks
      rw [show decide (a < c ∨ (a = c ∧ b < d)) = decide (2 < 2) by simp [h1, h2]] at this
      exact this
    · have h2 : b ≠ d := by simpa using h2
      refine kat_one _ _ (PyProof.Rows.lt_int ?_)
      have := h s.toks
      rw [show decide (a < c ∨ (a = c ∧ b < d)) = decide (b < d) by simp [h1]] at this
      exact this
  · have h1 : a ≠ c := by simpa using h1
    refine oneLt_int ?_
    have := h s.toks
    rw [show decide (a < c ∨ (a = c ∧ b < d)) = decide (a < c) by simp [h1]] at this
    exact this
theorem sortP_tree {s₀ : Shared} {a : Addr} {ps : List (Int × Int)} {n : Nat} {P : PySem.Fin → Shared → Prop} (st : Stp No s₀ s) (ha : s₀.heap.get? a = none) (ho : s.heap.get? a = some (seqObj "list" vs.toArray n)) (hvs : PairsAre s₀.heap vs ps) (h2 : 2 ≤ vs.length) (h64 : vs.length < 64)
    (c : ∀ s' m, Stp No s₀ s' → s'.heap.get? a = some (seqObj "list" (outP vs ps).toArray m) → P (.done (.ret .none)) s') :
    wpAny (GM w) A (Builtin.«list.sort» ⟨[.ref a], []⟩) P E s := by
  obtain ⟨e1, ho1⟩ : ∃ e1, (s.heap.update a (Obj.mapSeq fun _ => (#[] : Array Value))).get? a = some (seqObj "list" #[] e1) := ⟨_, get?_update_seq ho fun _ => #[]⟩
  have hpl := hvs.length
  rw [list_sort_plain]
  refine wpAny_bind (listItems_at ho rfl ?_)
  refine wpAny_bind (listUpdate_at ho rfl ?_ (by rw [List.size_toArray, sizeLine_eq]; lia) (Nat.zero_le _))
  refine wpAny_bind (seqEpoch_at ho1 rfl ?_)
  refine wpAny_bind (wpAny_newTuple ?_ (by show vs.length ≤ _; rw [sizeLine_eq]; lia))
  refine wpAny_bind (wpAny_newList ?_ (Nat.zero_le _))
  refine wpAny_holding ?_
  have st1 : Stp No s₀ { s with heap := s.heap.update a (Obj.mapSeq fun _ => (#[] : Array Value)) } := st.upd ha
  have st2 := (st1.psh (o := seqObj "tuple" vs.toArray 0)).psh (o := seqObj "list" #[] 0)
  have haa : (((s.heap.update a (Obj.mapSeq fun _ => (#[] : Array Value))).push (seqObj "tuple" vs.toArray 0)).push (seqObj "list" #[] 0)).get? a = some (seqObj "list" #[] e1) := Heap.get?_push_of_some _ (Heap.get?_push_of_some _ ho1)
  dsimp only at st2 ⊢
  have hn2 : ¬ vs.toArray.size < 2 := by rw [List.size_toArray]; lia
  rw [if_neg hn2, if_neg hn2]
  show wpAny (GM w) A _ P E { s with heap := ((s.heap.update a (Obj.mapSeq fun _ => (#[] : Array Value))).push (seqObj "tuple" vs.toArray 0)).push (seqObj "list" #[] 0) }
  revert st2 haa
  generalize (((s.heap.update a (Obj.mapSeq fun _ => (#[] : Array Value))).push (seqObj "tuple" vs.toArray 0)).push (seqObj "list" #[] 0)) = h₂
  intro st2 haa
  have hv2 := hvs.keeps fun b o e => st2.keep b o (fun h => h) e
  obtain ⟨fs, hfs, hfl, hfi⟩ := hv2.tups
  refine wpAny_bind (kat_kind (s := { s with heap := h₂ }) (T := .type "int") hfs (by lia) (fun v hv => ?_) rfl ?_)
  · obtain ⟨i, t, rfl⟩ := hfi v hv
    exact Looks.of_pure rfl
  rw [show (Value.type "int" != Value.type "tuple") = true from rfl]
  refine wpAny_bind (wpAny_mono (kat_run (vs := vs) (ks := vs) (Q := fun st' s' => ∃ p : Array Nat, p.size = vs.length ∧ arrOf st' = p.map (kas_item (vs.toArray.zip vs.toArray)) ∧ failedOf st' = none ∧
      (p = ans (ltP ps) (kas_sort vs.length) ∧ Stp No s₀ s' ∧ s'.heap.get? a = some (seqObj "list" #[] e1)))
    rfl h2 h64 (fun p' st' s' a1 a2 a3 a4 => ⟨p', a1, a2, a3, a4⟩) ?ask) ?_ fun _ _ x => x)
  case ask =>
    refine (run_sort (n := vs.length) (by lia)).wp (I := fun s' => Stp No s₀ s' ∧ s'.heap.get? a = some (seqObj "list" #[] e1)) (fun i j s' Cc hi hj hI hC => ?_) ⟨st2, haa⟩ (fun s' hI => ⟨rfl, hI⟩)
    have hv' := hvs.keeps fun b o e => hI.1.keep b o (fun h => h) e
    obtain ⟨x, t, u, ex, gx⟩ := hv'.get i (ps.getD i (0, 0)) (by rw [List.getD_eq_getElem?_getD, List.getElem?_eq_getElem (by lia)]; rfl)
    obtain ⟨y, t', u', ey, gy⟩ := hv'.get j (ps.getD j (0, 0)) (by rw [List.getD_eq_getElem?_getD, List.getElem?_eq_getElem (by lia)]; rfl)
    show wpAny (GM w) A (keyLt' (tuples' true) (vs.getD i Value.none) (vs.getD j Value.none)) Cc (fun _ _ => False) s'
    rw [List.getD_eq_getElem?_getD, ex, List.getD_eq_getElem?_getD, ey]
    refine pair_ask gx gy (fun tk => ?_)
    exact hC _ ⟨hI.1.tok, hI.2⟩
  rintro ⟨⟨⟩, st'⟩ s' ⟨p, hp, har, hf, hpe, hst, hI⟩
  dsimp only
  have hout := kat_snds rfl har
  rw [hout]
  have ho' : (p.toList.map fun i => vs.getD i Value.none) = outP vs ps := by rw [hpe]; rfl
  rw [ho']
  have hz : (outP vs ps).toArray.size = vs.length := by rw [← ho', List.size_toArray, List.length_map, Array.length_toList, hp]
  refine wpAny_bind (seqEpoch_at hI rfl ?_)
  refine wpAny_bind (listUpdate_at hI rfl ?_ (Nat.zero_le _) (Nat.le_trans (Nat.le_of_eq hz) (by rw [sizeLine_eq]; lia)))
  rw [hf]
  simp only [bne_self_eq_false, Bool.false_eq_true, if_false]
  refine wpAny_pure (c _ _ (hst.upd ha) (get?_update_seq hI fun _ => (outP vs ps).toArray))
/-- sorted(pairs) -/
theorem sortedP {ps : List (Int × Int)} {Q : Value → Shared → Prop} (hl : s.heap.IsList l vs.toArray) (hvs : PairsAre s.heap vs ps) (h2 : 2 ≤ vs.length) (h64 : vs.length < 64)
    (c : ∀ s' D m, Stp No s s' → s.heap.get? D = none → s'.heap.get? D = some (listObj (outP vs ps) m) → Q (.ref D) s') :
    wpAny (GM w) A (call (.builtin "sorted") [.ref l]) Q E s :=
  sorted_shell hl h64 (args_sorted1 _) (fun _ => args_list_sort _) (fun _ D st hD hoD => sortP_tree st hD hoD hvs h2 h64 (fun s'' m st' h' => ⟨rfl, c s'' D m st' hD h'⟩))
end
end Mine

end

section
open PySem PySem.W PySem.W.X PyProof.Rows
set_option maxRecDepth 100000
namespace Mine
def lesser (x y : Str) : Str := if cmpV y x < 0 then y else x
theorem lesser_ok {w : World} {A : Around} {s : Shared} {x y : Str} {tx ty : Tok} {R : Result → Shared → Prop} (rm : Rm 7 A) (G : Grd s.heap) (hx : x.cps.size ≤ 1000) (hy : y.cps.size ≤ 1000)
    (c : ∀ s' t, Stp No s s' → R (.ok (.ret (.str (lesser x y) t))) s') :
    codeAny (GM w) A (.call (.ref 56) ⟨[.str x tx, .str y ty], []⟩) R s := by
  refine enter rm G.lim G.lesser (binds := [("left", .str x tx), ("right", .str y ty)]) (fun _ _ _ => rfl) (locs rfl) (fun cd h₁ tk F => ?_)
  obtain ⟨gm, bm, hg, hb, N⟩ := G.names
  generalize hL : s.heap.objs.size = L at F ⊢
  have hLn : s.heap.get? L = none := by rw [← hL]; exact Heap.get?_none_of_le (Nat.le_refl _)
  have hn := F.ns
  have kk := F.keep
  clear F
  refine wpAny_execs_cons ?_
  refine wpAny_If ?_
  refine wpAny_isTrue_Compare1 ?_
  refine Call_ ?_
  refine r_glob (hg.keeps kk) N.compare ?_
  obtain ⟨oc, pm, cd', doc, e1, e2, e3⟩ := G.compare
  refine r_callF (o := oc) (fd := Calls.docDef "_law_compare" (argsOf (top 8)) (bodyOf (top 8)) (scopeOf (top 8)) pm cd' doc) ?_
  refine args_cons ?_
  refine r_ld hn (v := .str y ty) rfl ?_
  refine args_cons ?_
  refine r_ld hn (v := .str x tx) rfl ?_
  refine args_nil ?_
  refine ⟨⟨kk _ _ e1, e2⟩, ?_⟩
  refine wpAny_call ?_
  refine compare_ok (rm.deeper.le (by decide)) (G.keeps kk) hy hx (fun s' t st => ?_)
  have hn' : s'.heap.Ns L _ := hn.keeps fun b o e => st.keep b o (fun h => h) e
  have fin : Stp No s s' := ⟨fun b o hb e => st.keep b o hb (kk b o e), st.os, st.gens, st.bare⟩
  refine wpAny_Constant_int ?_
  refine PyProof.Rows.lt_int ?_
  refine wpAny_truthy_bool ?_
  by_cases h : cmpV y x < 0
  · rw [if_pos (by simpa using h)]
    refine wpAny_execs_cons ?_
    refine wpAny_Return_some ?_
    refine r_ld (s := { s' with toks := _ }) hn' (v := .str y ty) rfl ?_
    have := c { s' with toks := s'.toks + 1 } ty fin.tok
    rw [show lesser x y = y from if_pos h] at this
    exact this
  · rw [if_neg (by simpa using h)]
    refine wpAny_execs_nil ?_
    refine wpAny_execs_cons ?_
    refine wpAny_Return_some ?_
    refine r_ld (s := { s' with toks := _ }) hn' (v := .str x tx) rfl ?_
    have := c { s' with toks := s'.toks + 1 } tx fin.tok
    rw [show lesser x y = x from if_neg h] at this
    exact this

section
variable {w : World} {A : Around} {E : Value → Shared → Prop} {s : Shared}
theorem iter_list {l : Addr} {items : Array Value} {Q : Value → Shared → Prop} (hl : s.heap.IsList l items)
    (h : Q (.ref s.heap.objs.size) { s with heap := s.heap.push { cls := .type "list_iterator", data := .fields #[.ref l, .int 0 0] } }) : wpAny (GM w) A (call (.builtin "iter") [.ref l]) Q E s := by
  refine Calls.call_function_entry (by decide +kernel) (by decide +kernel) kdk_entry_iter (kdk_args_iter _) ?_
  unfold Builtin.«iter»
  refine wpAny_bind (m := someArgs "iter" 1 2 _) (wpAny_of_eq (a := [Value.ref l]) (by first | rfl | kernel_rfl!) ?_)
  show wpAny _ _ (pyIter (.ref l) >>= _) _ _ _
  refine wpAny_bind (wpAny_pyIter_list hl ?_)
  exact wpAny_pure ⟨_, rfl, h⟩
theorem next_list {it l : Addr} {i : Nat} {items : Array Value} {x : Value} {Q : Value → Shared → Prop} (hit : s.heap.IsListIter it l i) (hl : s.heap.IsList l items) (hx : items[i]? = some x)
    (hQ : ∀ h', h'.IsListIter it l (i + 1) → Heap.SameBut it s.heap h' → Q x { s with heap := h' }) : wpAny (GM w) A (call (.builtin "next") [.ref it]) Q E s := by
  obtain ⟨o, ho, hc, hd⟩ := id hit
  obtain ⟨ol, hol, _, nl, hdl⟩ := hl
  refine Calls.call_function_entry (by decide +kernel) (by decide +kernel) kdk_entry_next (kdk_args_next _) ?_
  unfold Builtin.«next»
  refine wpAny_bind (m := someArgs "next" 1 2 _) (wpAny_of_eq (a := [Value.ref it]) (by first | rfl | kernel_rfl!) ?_)
  dsimp only
  refine wpAny_bind (wpAny_specialOf (name := Str.ofString "__next__") hit.typeIs slot_listiter_next.lookup ?_)
  refine wpAny_ite_split (fun hab => absurd hab (by decide)) (fun _ => ?_)
  refine wpAny_bind (wpAny_callSpecial?_slot (name := Str.ofString "__next__") hit.typeIs slot_listiter_next
    (wpAny_call_entry slot_listiter_next hit.typeIs entry_listiter_next ?_ (args_listiter_next _)))
  show wpAny _ _ (field (.ref it) 0 >>= _) _ _ s
  refine wpAny_bind (wpAny_field ho hd (x := .ref l) rfl ?_)
  refine ite_f rfl ?_
  refine wpAny_bind (wpAny_field ho hd (x := .int i 0) rfl ?_)
  refine wpAny_bind (wpAny_seqItems hol hdl ?_)
  simp only [Int.toNat_natCast, hx]
  refine wpAny_bind (wpAny_setField ho hd (by simp) (wpAny_pure ⟨x, rfl, wpAny_pure ⟨_, rfl, hQ _ ?_ (Heap.SameBut.update ..)⟩⟩))
  exact ⟨_, Heap.get?_update_self _ ho (Obj.isFreed_of_fields (Obj.data_mapFields hd _)), (Obj.cls_mapFields ..).trans hc, by rw [Obj.data_mapFields hd]; simp [rawInt]⟩
end
end Mine

end

section
open PySem PySem.W PySem.W.X PyProof.Rows
set_option maxRecDepth 100000
namespace Mine
def red : List Str → Str
  | [] => ""
  | y :: r => r.foldl lesser y
theorem red_snoc {l : List Str} {y : Str} (h : l ≠ []) : red (l ++ [y]) = lesser (red l) y := by
  cases l with
  | nil => exact absurd rfl h
  | cons x r => show (r ++ [y]).foldl lesser x = _; rw [List.foldl_append]; rfl
theorem lesser_or (x y : Str) : lesser x y = x ∨ lesser x y = y := by
  unfold lesser; split
  · exact .inr rfl
  · exact .inl rfl
def RedFn (h : Heap) : Prop := ∃ o pm cd doc, h.get? 30 = some o ∧ o.data = .func { Calls.docDef "reduce" (argsOf (top 3)) (bodyOf (top 3)) (scopeOf (top 3)) pm cd doc with defaults := .ref 23 } ∧ h.CodeRec cd "reduce" ∧ h.get? 23 = some (seqObj "tuple" #[.ref 22] 0)
/-- what holds between the turns -/
def DI (ys : List Str) (s : Shared) (it l L n : Nat) (s' : Shared) : Prop := ∃ k v t m, n + k = ys.length ∧ 1 ≤ k ∧ v = red (ys.take k) ∧ v ∈ ys ∧ s'.heap.Ns L m ∧ m "function" = some (.ref 56) ∧ m "value" = some (.str v t) ∧ s'.heap.IsListIter it l k ∧ Stp (fun b => b = L ∨ b = it) s s'
theorem reduce_ok {w : World} {A : Around} {s : Shared} {l : Addr} {vs : List Value} {ys : List Str} {R : Result → Shared → Prop} (rm : Rm 9 A) (G : Grd s.heap) (RF : RedFn s.heap) (hl : s.heap.IsList l vs.toArray) (hvs : StrsAre vs ys) (h1 : 1 ≤ ys.length) (hsz : ∀ y ∈ ys, y.cps.size ≤ 1000)
    (c : ∀ s' t, Stp No s s' → R (.ok (.ret (.str (red ys) t))) s') :
    codeAny (GM w) A (.call (.ref 30) ⟨[.ref 56, .ref l], []⟩) R s := by
  obtain ⟨gm, bm, hg, hb, N⟩ := G.names
  obtain ⟨o, pm, cd, doc, ho, hd, hc, h23⟩ := RF
  obtain ⟨ol, e1l, e2l, e3l, e4l, e5l, e6l⟩ := G.lesser
  refine codeAny_call_def rm.room ho hd G.lim hc rfl (binds := [("function", .ref 56), ("sequence", .ref l), ("initial", .ref 22)]) (BindsTo.of_defaults rfl h23 rfl rfl rfl) (show ∀ x ∈ (scopeOf (top 3)).names, x.2 ≠ NameKind.cell by decide) (locs rfl) (fun h₁ hn kk => ?_)
  refine wpAny_mono (E := fun _ _ => False) ?_ (fun _ _ x => x) fun _ _ x => x.elim
  show wpAny (GM w) (A.deeper (envOf "reduce" (scopeOf (top 3)) s.heap.objs.size 30 cd)) (execs (bodyOf (top 3)) (envOf "reduce" (scopeOf (top 3)) s.heap.objs.size 30 cd)) (fun f s' => R (.ok (.ret (match f with | .ret v => v | _ => .none))) s') (fun _ _ => False) _
  generalize hL : s.heap.objs.size = L at hn ⊢
  have hLn : s.heap.get? L = none := by rw [← hL]; exact Heap.get?_none_of_le (Nat.le_refl _)
  have rm' : Rm 8 (A.deeper (envOf "reduce" (scopeOf (top 3)) L 30 cd)) := rm.deeper
  revert rm'
  generalize A.deeper (envOf "reduce" (scopeOf (top 3)) L 30 cd) = A'
  intro rm'
  have st₀ : Stp (Is L) s { s with heap := h₁, toks := s.toks + [(("function" : Str), Value.ref 56), ("sequence", .ref l), ("initial", .ref 22)].length } := Stp.heap fun b o _ e => kk b o e
  have hn : ({ s with heap := h₁, toks := s.toks + [(("function" : Str), Value.ref 56), ("sequence", .ref l), ("initial", .ref 22)].length } : Shared).heap.Ns L (fun z => [(("function" : Str), Value.ref 56), ("sequence", .ref l), ("initial", .ref 22)].reverse.lookup z) := hn
  revert hn st₀
  generalize ({ s with heap := h₁, toks := s.toks + [(("function" : Str), Value.ref 56), ("sequence", .ref l), ("initial", .ref 22)].length } : Shared) = s₁
  generalize hm : (fun z => [(("function" : Str), Value.ref 56), ("sequence", .ref l), ("initial", .ref 22)].reverse.lookup z) = m
  have m1 : m "function" = some (.ref 56) := by rw [← hm]; rfl
  have m2 : m "sequence" = some (.ref l) := by rw [← hm]; rfl
  have m3 : m "initial" = some (.ref 22) := by rw [← hm]; rfl
  clear hm kk
  intro st₁ hn
  have kk := st₁.all hLn
  -- it = iter(sequence)
  refine wpAny_execs_cons ?_
  refine wpAny_Assign_Name ?_
  refine Call_ ?_
  refine r_blt (hg.keeps kk) N.none.2.2.2.2.2.1 (hb.keeps kk) N.iter ?_
  refine PyProof.Rows.callWith_builtin1 ?_
  refine args_cons ?_
  refine r_ld hn m2 ?_
  refine args_nil ?_
  refine iter_list (hl.at fun o e => kk _ _ e) ?_
  generalize hit : s₁.heap.objs.size = it
  have hitn : s.heap.get? it = none := by
    cases e : s.heap.get? it with
    | none => rfl
    | some o => have := Heap.lt_size (kk _ _ e); rw [hit] at this; exact absurd this (Nat.lt_irrefl _)
  have hLit : it ≠ L := by
    intro q
    have := hn.lt
    rw [hit, q] at this
    exact absurd this (Nat.lt_irrefl _)
  have it0 : (s₁.heap.push { cls := .type "list_iterator", data := .fields #[.ref l, .int 0 0] }).IsListIter it l 0 := ⟨_, by rw [← hit]; exact Heap.get?_push_size _ rfl, rfl, rfl⟩
  have st2 : Stp (fun b => b = L ∨ b = it) s { s₁ with heap := s₁.heap.push { cls := .type "list_iterator", data := .fields #[.ref l, .int 0 0] } } :=
    (st₁.weak fun _ h => .inl h).trans ⟨fun b o _ e => Heap.get?_push_of_some _ e, rfl, fun _ _ e => e, fun e => e⟩
  have hn2 := hn.push { cls := .type "list_iterator", data := .fields #[.ref l, .int 0 0] }
  revert it0 st2 hn2
  rw [show s₁.heap.push { cls := .type "list_iterator", data := .fields #[.ref l, .int 0 0] } = ({ s₁ with heap := s₁.heap.push { cls := .type "list_iterator", data := .fields #[.ref l, .int 0 0] } } : Shared).heap from rfl]
  generalize ({ s₁ with heap := s₁.heap.push { cls := .type "list_iterator", data := .fields #[.ref l, .int 0 0] } } : Shared) = s₂
  intro it0 st2 hn2
  have fresh : ∀ b, (b = L ∨ b = it) → s.heap.get? b = none := fun b h => by rcases h with rfl | rfl; exact hLn; exact hitn
  refine r_st hn2 (fun s₃ st3 hn3 => ?_)
  have it3 : s₃.heap.IsListIter it l 0 := it0.at fun o e => st3.keep _ _ hLit e
  have st3 : Stp (fun b => b = L ∨ b = it) s s₃ := st2.trans (st3.weak fun _ h => .inl h)
  dsimp only
  have kk3 : ∀ b o, s.heap.get? b = some o → s₃.heap.get? b = some o := fun b o e => st3.keep b o (fun h => by rw [fresh b h] at e; cases e) e
  -- if initial is _initial_missing
  refine wpAny_execs_cons ?_
  refine wpAny_If ?_
  refine wpAny_isTrue_Compare1 ?_
  refine r_ld hn3 (v := .ref 22) (by rw [put_ne (by decide)]; exact m3) ?_
  refine r_glob (hg.keeps kk3) N.missing ?_
  refine wpAny_is_ref_self ?_
  refine wpAny_truthy_bool ?_
  rw [if_pos rfl]
  refine wpAny_execs_cons ?_
  refine wpAny_Try_except ?_
  refine wpAny_execs_cons ?_
  refine wpAny_Assign_Name ?_
  refine Call_ ?_
  refine r_blt (hg.keeps kk3) N.none.2.2.2.2.2.2.1 (hb.keeps kk3) N.next ?_
  refine PyProof.Rows.callWith_builtin1 ?_
  refine args_cons ?_
  refine r_ld hn3 (v := .ref it) put_self ?_
  refine args_nil ?_
  obtain ⟨y0, yr, hy0⟩ : ∃ y0 yr, ys = y0 :: yr := by
    cases ys with
    | nil => simp at h1
    | cons a b => exact ⟨a, b, rfl⟩
  obtain ⟨t0, ht0⟩ := hvs.at (j := 0) (y := y0) (by rw [hy0]; rfl)
  refine next_list it3 (hl.at fun o e => kk3 _ _ e) (x := .str y0 t0) (by simpa using ht0) (fun h₄ it4 sb4 => ?_)
  have hn4 : h₄.Ns L (put m "it" (.ref it)) := hn3.sameBut sb4 hLit.symm
  have st4 : Stp (fun b => b = L ∨ b = it) s { s₃ with heap := h₄ } := st3.trans ⟨fun b o hb e => sb4.extBut b o (fun q => hb (.inr q)) e, rfl, fun _ _ e => e, fun e => e⟩
  refine r_st (s := { s₃ with heap := h₄ }) hn4 (fun s₅ st5 hn5 => ?_)
  have it5 : s₅.heap.IsListIter it l 1 := it4.at fun o e => st5.keep _ _ hLit e
  have st5 : Stp (fun b => b = L ∨ b = it) s s₅ := st4.trans (st5.weak fun _ h => .inl h)
  dsimp only
  refine wpAny_execs_nil ?_
  dsimp only
  refine wpAny_execs_nil ?_
  dsimp only
  refine wpAny_execs_nil ?_
  -- for element in it
  refine wpAny_execs_cons ?_
  refine wpAny_For ?_
  refine r_ld hn5 (v := .ref it) (by rw [put_ne (by decide), put_self]) ?_
  refine wpAny_pyIter_listiter it5 ?_
  refine codeAny_forLoop (DI ys s it l L) ?turn (ys.length - 1) ?start
  case start =>
    unfold DI
    refine ⟨1, y0, t0, _, Nat.sub_add_cancel h1, Nat.le_refl _, by rw [hy0]; rfl, by rw [hy0]; simp, hn5, ?_, put_self, it5, st5⟩
    rw [put_ne (by decide), put_ne (by decide)]; exact m1
  case turn =>
    intro n s' hI
    unfold DI at hI
    obtain ⟨k, v, t, m', hnk, hk1, hv, hvy, hnm, mf, mv, hik, hst⟩ := hI
    have kk' : ∀ b o, s.heap.get? b = some o → s'.heap.get? b = some o := fun b o e => hst.keep b o (fun h => by rw [fresh b h] at e; cases e) e
    have hl' : s'.heap.IsList l vs.toArray := hl.at fun o e => kk' _ _ e
    cases n with
    | zero =>
      have hkl : k = ys.length := (Nat.zero_add k).symm.trans hnk
      refine wpAny_pyNext_list_end rm'.1 hik hl' ?_ (fun h' hx => ?_)
      · have := hvs.length; simp; omega
      dsimp only
      refine wpAny_execs_nil ?_
      refine wpAny_execs_cons ?_
      refine wpAny_Return_some ?_
      refine r_ld (s := { s' with heap := h' }) (hnm.extBut hx hLit.symm) mv ?_
      rw [hv, hkl, List.take_length]
      refine c _ t ?_
      exact (hst.trans ⟨fun b o hb e => hx b o (fun q => hb (.inr q)) e, rfl, fun _ _ e => e, fun e => e⟩ : Stp (fun b => b = L ∨ b = it) s { s' with heap := h' }).fresh fresh
    | succ n =>
      have hkl : k < ys.length := Nat.lt_of_lt_of_le (Nat.lt_add_of_pos_left (Nat.succ_pos n)) (Nat.le_of_eq hnk)
      obtain ⟨tk, htk⟩ := hvs.at (j := k) (y := ys[k]) (List.getElem?_eq_getElem hkl)
      refine wpAny_pyNext_list_item hik hl' (x := .str ys[k] tk) (by simpa using htk) (fun h' hik' sb => ?_)
      dsimp only
      have hn' : h'.Ns L m' := hnm.sameBut sb hLit.symm
      have st' : Stp (fun b => b = L ∨ b = it) s { s' with heap := h' } := hst.trans ⟨fun b o hb e => sb.extBut b o (fun q => hb (.inr q)) e, rfl, fun _ _ e => e, fun e => e⟩
      refine wpAny_assign_Name ?_
      refine r_st (s := { s' with heap := h' }) hn' (fun s₆ st6 hn6 => ?_)
      have it6 : s₆.heap.IsListIter it l (k + 1) := hik'.at fun o e => st6.keep _ _ hLit e
      have st6 : Stp (fun b => b = L ∨ b = it) s s₆ := st'.trans (st6.weak fun _ h => .inl h)
      have kk6 : ∀ b o, s.heap.get? b = some o → s₆.heap.get? b = some o := fun b o e => st6.keep b o (fun h => by rw [fresh b h] at e; cases e) e
      refine wpAny_execs_cons ?_
      refine wpAny_Assign_Name ?_
      refine Call_ ?_
      refine r_ld hn6 (v := .ref 56) (by rw [put_ne (by decide)]; exact mf) ?_
      refine r_callF (o := ol) (fd := Calls.docDef "_law_lesser" (argsOf (top 9)) (bodyOf (top 9)) (scopeOf (top 9)) e1l e2l e3l) ?_
      refine args_cons ?_
      refine r_ld hn6 (v := .str v t) (by rw [put_ne (by decide)]; exact mv) ?_
      refine args_cons ?_
      refine r_ld hn6 (v := .str ys[k] tk) put_self ?_
      refine args_nil ?_
      refine ⟨⟨kk6 _ _ e4l, e5l⟩, ?_⟩
      refine wpAny_call ?_
      refine lesser_ok (rm'.le (by decide)) (G.keeps kk6) (hsz _ hvy) (hsz _ (List.getElem_mem hkl)) (fun s₇ t7 st7 => ?_)
      have hn7 : s₇.heap.Ns L _ := hn6.keeps fun b o e => st7.keep b o (fun h => h) e
      have it7 : s₇.heap.IsListIter it l (k + 1) := it6.at fun o e => st7.keep _ _ (fun h => h) e
      have st7 : Stp (fun b => b = L ∨ b = it) s s₇ := st6.trans (st7.any)
      refine r_st hn7 (fun s₈ st8 hn8 => ?_)
      have it8 : s₈.heap.IsListIter it l (k + 1) := it7.at fun o e => st8.keep _ _ hLit e
      have st8 : Stp (fun b => b = L ∨ b = it) s s₈ := st7.trans (st8.weak fun _ h => .inl h)
      dsimp only
      refine wpAny_execs_nil ?_
      refine ⟨n, Nat.lt_succ_self n, ?_⟩
      unfold DI
      refine ⟨k + 1, lesser v ys[k], t7, _, (Nat.succ_add_eq_add_succ n k).symm.trans hnk, Nat.le_add_left 1 k, ?_, ?_, hn8, ?_, put_self, it8, st8⟩
      · rw [List.take_succ_eq_append_getElem hkl, red_snoc, hv]
        intro q
        rcases List.take_eq_nil_iff.mp q with q | q
        · omega
        · rw [q] at hkl; exact absurd hkl (Nat.not_lt_zero _)
      · rcases lesser_or v ys[k] with h | h
        · rw [h]; exact hvy
        · rw [h]; exact List.getElem_mem hkl
      · rw [put_ne (by decide), put_ne (by decide)]; exact mf
end Mine

end

section
open PySem PySem.W PySem.W.X PyProof.Rows
set_option maxRecDepth 100000
namespace Mine
theorem letOwned_name {w : World} {A : Around} {E : Value → Shared → Prop} {s : Shared} {x : Str} {p : Pos} {it v : Value} {Q : Unit → Shared → Prop} (h : Q () s) : wpAny (GM w) A (letOwnedTupleGo (.Name x p) it v) Q E s := wpAny_pure h
theorem letOwned_li {w : World} {A : Around} {E : Value → Shared → Prop} {s : Shared} {elts : List Expr} {k : Nat} {pos : Pos} {it l i : Nat} {v : Value} {Q : Unit → Shared → Prop} (hi : s.heap.IsListIter it l i) (h : Q () s) : wpAny (GM w) A (letOwnedTupleGo (.Tuple elts k pos) (.ref it) v) Q E s := by
  obtain ⟨o, ho, hc, hd⟩ := hi
  unfold letOwnedTupleGo
  cases v with
  | ref b =>
    refine wpAny_bind (wpAny_load ho ?_)
    rw [hc, hd]
    show wpAny _ A (if (["enumerate", "zip", "dict_itemiterator", "dict_reverseitemiterator", "odict_iterator", "itertools.zip_longest", "itertools.pairwise"].contains "list_iterator" && _) = true then _ else _) Q E s
    rw [if_neg (by simp)]
    exact wpAny_pure h
  | _ => exact wpAny_pure h
theorem nn1 (L : Nat) : L ≠ L + 1 := Nat.ne_of_lt (Nat.lt_succ_self L)
theorem nn2 (L : Nat) : L ≠ L + 2 := Nat.ne_of_lt (Nat.lt_add_of_pos_right (show 0 < 2 by decide))
/-- what one turn of a comprehension over a list must do -/
def Turn (w : World) (A : Around) (elt target : Expr) (cenv : Env) (C : Addr) (vs : List Value) (P : Nat → Value → Heap → Prop) (s₁ : Shared) : Prop :=
  ∀ (j : Nat) (v : Value) (s' : Shared) (m : Str → Option Value), vs[j]? = some v → Stp No s₁ s' → s'.heap.Ns C m →
    wpAny (GM w) A (assign target cenv v) (fun _ s₂ => wpAny (GM w) A (eval elt cenv) (fun x s₃ => Stp (Is C) s' s₃ ∧ (∃ m', s₃.heap.Ns C m') ∧ P j x s₃.heap) (fun _ _ => False) s₂) (fun _ _ => False) s'
/-- what holds between the turns -/
def LI (P : Nat → Value → Heap → Prop) (s₁ : Shared) (it l D C N n : Nat) (s' : Shared) : Prop := ∃ (k : Nat) (xs : List Value) (m : Str → Option Value), n + k = N ∧ xs.length = k ∧ s'.heap.IsListIter it l k ∧ s'.heap.PlainList D xs.toArray ∧ (∀ (j : Nat) (x : Value), xs[j]? = some x → P j x s'.heap) ∧ s'.heap.Ns C m ∧ Stp (fun b => b = it ∨ b = D ∨ b = C) s₁ s'
theorem comp_listE {w : World} {A : Around} {s : Shared} {env : Env} {elt target iter : Expr} {scope : Scope} {cl : List (Str × Addr)} {pos : Pos} {F : Value → Addr → Shared → Prop} {P : Nat → Value → Heap → Prop} {N : Nat}
    (hh : A.handled = none) (hvl : N ≤ 1000)
    (hP : ∀ j x h h', P j x h → (∀ b xs n, h.get? b = some (seqObj "tuple" xs n) → h'.get? b = some (seqObj "tuple" xs n)) → P j x h')
    (hown : ∀ (s' : Shared) (it l i : Nat) (v : Value) (Q : Unit → Shared → Prop), s'.heap.IsListIter it l i → Q () s' → wpAny (GM w) A (letOwnedTupleGo target (.ref it) v) Q (fun _ _ => False) s')
    (hiter : wpAny (GM w) A (eval iter env) (fun x s₁ => ∃ l vs, x = .ref l ∧ vs.length = N ∧ Stp No s s₁ ∧ s₁.heap.IsList l vs.toArray ∧ ∀ C, s₁.heap.get? C = none → Turn w A elt target (compEnvC scope cl C env) C vs P s₁) (fun _ _ => False) s)
    (c : ∀ s' D C n xs, Stp No s s' → s.heap.get? C = none → s.heap.get? D = none → s'.heap.get? D = some (listObj xs n) → xs.length = N → (∀ (j : Nat) (x : Value), xs[j]? = some x → P j x s'.heap) → (∃ m, s'.heap.Ns C m) → F (.ref D) C s') :
    CompRun w A env elt target iter scope cl pos F s := by
  unfold CompRun
  refine wpAny_mono hiter (fun v s₁ h₁ => ?_) fun _ _ x => x
  obtain ⟨l, vs, rfl, hN, st₁, hl, turn⟩ := h₁
  rw [← hN] at hvl
  refine wpAny_pyIter_list hl ?_
  intro D C h₁ hD hC k₁ z₁ hD₁ hns₁
  dsimp only at hD hC k₁ z₁ ⊢
  rw [Heap.size_push] at hD hC z₁
  generalize hit : s₁.heap.objs.size = it at *
  have hli : h₁.IsListIter it l 0 := ⟨_, k₁ _ _ (by rw [← hit]; exact Heap.get?_push_size _ rfl), rfl, rfl⟩
  refine ⟨fun Q' hq => wpAny_pyIter_listiter hli hq, ?_⟩
  have fr : ∀ b, (b = it ∨ b = D ∨ b = C) → s₁.heap.get? b = none := fun b hb => Heap.get?_none_of_le (by rw [hit]; rcases hb with q | q | q; exact Nat.le_of_eq q.symm; rw [q, hD]; exact Nat.le_succ it; rw [q, hC]; exact Nat.le_add_right it 2)
  have hle : l < it := by obtain ⟨o, ho, _⟩ := hl; rw [← hit]; exact Heap.lt_size ho
  have hitD : it ≠ D := by rw [hD]; exact nn1 it
  have hitC : it ≠ C := by rw [hC]; exact nn2 it
  have hDC : D ≠ C := by rw [hD, hC]; exact nn1 (it + 1)
  have turn := turn C (fr C (.inr (.inr rfl)))
  refine compLoop_any (w := w) (A := A) (LI P s₁ it l D C vs.length) ?turn vs.length ?start
  case start =>
    unfold LI
    refine ⟨0, [], _, Nat.add_zero _, rfl, hli, ⟨0, hD₁⟩, fun j x hx => by simp at hx, hns₁, ⟨fun b o hb e => k₁ b o (Heap.get?_push_of_some _ e), rfl, fun _ _ e => e, fun e => e⟩⟩
  case turn =>
    intro n s' hI
    unfold LI at hI
    obtain ⟨k, xs, m, hnk, hxk, hik, hDl, hPx, hnC, hst⟩ := hI
    have st' := hst.fresh fr
    have hl' : s'.heap.IsList l vs.toArray := hl.at fun o e => st'.keep _ _ (fun h => h) e
    cases n with
    | zero =>
      refine wpAny_pyNext_list_end hh hik hl' (by rw [List.getElem?_toArray, List.getElem?_eq_none (Nat.le_of_eq (hnk.symm.trans (Nat.zero_add k)))]) (fun h' hx => ?_)
      refine ⟨rfl, ?_⟩
      obtain ⟨nD, hDo⟩ := hDl
      have hD' : h'.get? D = some (listObj xs nD) := hx _ _ (Ne.symm hitD) hDo
      refine c _ D C nD xs (st₁.trans ?_) ?_ ?_ hD' (hxk.trans ((Nat.zero_add k).symm.trans (hnk.trans hN))) (fun j x hj => hP _ _ _ _ (hPx j x hj) fun b ts tn e => ?_) ⟨m, hnC.extBut hx (Ne.symm hitC)⟩
      · exact (hst.trans ⟨fun b o hb e => hx b o (fun q => hb (.inl q)) e, rfl, fun _ _ e => e, fun e => e⟩ : Stp (fun b => b = it ∨ b = D ∨ b = C) s₁ { s' with heap := h' }).fresh fr
      · exact st₁.new (by rw [hit, hC]; exact Nat.le_add_right it 2)
      · exact st₁.new (by rw [hit, hD]; exact Nat.le_succ it)
      · refine hx b _ (fun q => ?_) e
        obtain ⟨oi, hoi, hci, _⟩ := hik
        rw [q, hoi] at e
        rw [Option.some.inj e] at hci
        exact absurd hci (show ¬ (Value.type "tuple" = Value.type "list_iterator") by decide)
    | succ n =>
      have hkl : k < vs.length := Nat.lt_of_lt_of_le (Nat.lt_add_of_pos_left (Nat.succ_pos n)) (Nat.le_of_eq hnk)
      refine wpAny_pyNext_list_item hik hl' (x := vs[k]) (by simp [hkl]) (fun h' hik' sb => ?_)
      dsimp only
      refine hown { s' with heap := h' } it l (k + 1) vs[k] _ hik' ?_
      have stX : Stp (fun b => b = it ∨ b = D ∨ b = C) s₁ { s' with heap := h' } := hst.trans ⟨fun b o hb e => sb.extBut b o (fun q => hb (.inl q)) e, rfl, fun _ _ e => e, fun e => e⟩
      have hnC' : h'.Ns C m := hnC.sameBut sb (Ne.symm hitC)
      refine wpAny_mono (turn k vs[k] { s' with heap := h' } m (List.getElem?_eq_getElem hkl) (stX.fresh fr) hnC') (fun _ s₂ h₂ => wpAny_mono h₂ (fun x s₃ h₃ => ?_) fun _ _ x => x) fun _ _ x => x
      obtain ⟨st3, ⟨m3, hn3⟩, hPk⟩ := h₃
      have hD3 : s₃.heap.PlainList D xs.toArray := (hDl.at fun o e => sb.extBut _ o (Ne.symm hitD) e).at fun o e => st3.keep _ _ hDC e
      refine wpAny_list_append_plain hD3 (fun h4 hD4 sb4 => ?_) (by rw [List.size_toArray, hxk]; exact Nat.le_trans (Nat.le_of_lt hkl) (Nat.le_trans hvl sl1000))
      have tup : ∀ b ts tn, s₃.heap.get? b = some (seqObj "tuple" ts tn) → h4.get? b = some (seqObj "tuple" ts tn) := fun b ts tn e => by
        refine sb4.extBut b _ (fun q => ?_) e
        obtain ⟨nD, hDo⟩ := hD3
        rw [q, hDo] at e
        exact absurd (congrArg Obj.cls (Option.some.inj e)) (show ¬ (Value.type "list" = Value.type "tuple") by decide)
      have tup0 : ∀ b ts tn, s'.heap.get? b = some (seqObj "tuple" ts tn) → h4.get? b = some (seqObj "tuple" ts tn) := fun b ts tn e => by
        refine tup b ts tn (st3.keep b _ (fun q => ?_) (sb.extBut b _ (fun q => ?_) e))
        · obtain ⟨oC, es, ep, hoC, hdC, _⟩ := hnC
          rw [show b = C from q, hoC] at e
          cases e
          cases hdC
        · obtain ⟨oi, hoi, hci, _⟩ := hik
          rw [q, hoi] at e
          rw [Option.some.inj e] at hci
          exact absurd hci (show ¬ (Value.type "tuple" = Value.type "list_iterator") by decide)
      refine ⟨n, Nat.lt_succ_self n, ?_⟩
      unfold LI
      refine ⟨k + 1, xs ++ [x], m3, (Nat.succ_add_eq_add_succ n k).symm.trans hnk, by rw [List.length_append, hxk]; rfl, ?_, ?_, ?_, ?_, ?_⟩
      · exact (hik'.at fun o e => st3.keep _ o hitC e).at fun o e => sb4.extBut _ o hitD e
      · rw [List.push_toArray] at hD4; exact hD4
      · intro j y hj
        rw [List.getElem?_append] at hj
        split at hj
        · exact hP _ _ _ _ (hPx j y hj) tup0
        · have hjk : j = k := by
            have := (List.getElem?_eq_some_iff.mp hj).1
            simp at this; lia
          subst hjk
          rw [hxk] at hj
          simp at hj
          subst hj
          exact hP _ _ _ _ hPk tup
      · exact hn3.sameBut sb4 hDC.symm
      · exact stX.trans ((st3.weak fun _ h => .inr (.inr h)).trans ⟨fun b o hb e => sb4.extBut b o (fun q => hb (.inr (.inl q))) e, rfl, fun _ _ e => e, fun e => e⟩)
theorem comp_list {w : World} {A : Around} {s : Shared} {env : Env} {elt target iter : Expr} {scope : Scope} {cl : List (Str × Addr)} {pos : Pos} {F : Value → Addr → Shared → Prop} {P : Nat → Value → Heap → Prop} {vs : List Value}
    (hh : A.handled = none) (hvl : vs.length ≤ 1000)
    (hP : ∀ j x h h', P j x h → (∀ b xs n, h.get? b = some (seqObj "tuple" xs n) → h'.get? b = some (seqObj "tuple" xs n)) → P j x h')
    (hown : ∀ (s' : Shared) (it l i : Nat) (v : Value) (Q : Unit → Shared → Prop), s'.heap.IsListIter it l i → Q () s' → wpAny (GM w) A (letOwnedTupleGo target (.ref it) v) Q (fun _ _ => False) s')
    (hiter : wpAny (GM w) A (eval iter env) (fun x s₁ => ∃ l, x = .ref l ∧ Stp No s s₁ ∧ s₁.heap.IsList l vs.toArray ∧ ∀ C, s₁.heap.get? C = none → Turn w A elt target (compEnvC scope cl C env) C vs P s₁) (fun _ _ => False) s)
    (c : ∀ s' D C n xs, Stp No s s' → s.heap.get? C = none → s.heap.get? D = none → s'.heap.get? D = some (listObj xs n) → xs.length = vs.length → (∀ (j : Nat) (x : Value), xs[j]? = some x → P j x s'.heap) → (∃ m, s'.heap.Ns C m) → F (.ref D) C s') :
    CompRun w A env elt target iter scope cl pos F s :=
  comp_listE hh hvl hP hown (wpAny_mono hiter (fun _ _ h => by obtain ⟨l, e, st, hl, t⟩ := h; exact ⟨l, vs, e, rfl, st, hl, t⟩) fun _ _ x => x) c
end Mine

end

section
open PySem PySem.W PySem.W.X PyProof.Rows
set_option maxRecDepth 100000
namespace Mine
/-- one turn of a comprehension over a range -/
def TurnR (w : World) (A : Around) (elt target : Expr) (cenv : Env) (C : Addr) (N : Nat) (P : Nat → Value → Heap → Prop) (s₁ : Shared) : Prop :=
  ∀ (j : Nat) (t : Tok) (s' : Shared) (m : Str → Option Value), j < N → Stp No s₁ s' → s'.heap.Ns C m →
    wpAny (GM w) A (assign target cenv (.int j t)) (fun _ s₂ => wpAny (GM w) A (eval elt cenv) (fun x s₃ => Stp (Is C) s' s₃ ∧ (∃ m', s₃.heap.Ns C m') ∧ P j x s₃.heap) (fun _ _ => False) s₂) (fun _ _ => False) s'
theorem small_n {N : Nat} (h : N ≤ 1000) : Builtin.Range.small 0 N 1 = true := small_one (by decide) (by decide) (by lia) (by lia)
theorem size_n (N : Nat) : Builtin.Range.rangeSize 0 N 1 = N := by
  rw [rangeSize_one]
  split <;> lia
/-- what holds between the turns -/
def RI (P : Nat → Value → Heap → Prop) (s₁ : Shared) (it D C N n : Nat) (s' : Shared) : Prop := ∃ (k : Nat) (xs : List Value) (m : Str → Option Value), n + k = N ∧ xs.length = k ∧ IsRangeIter s'.heap it (k : Nat) (N - (k : Nat) : Int) 1 ∧ s'.heap.PlainList D xs.toArray ∧ (∀ (j : Nat) (x : Value), xs[j]? = some x → P j x s'.heap) ∧ s'.heap.Ns C m ∧ Stp (fun b => b = it ∨ b = D ∨ b = C) s₁ s'
theorem comp_range {w : World} {A : Around} {s : Shared} {env : Env} {elt iter : Expr} {x : Str} {px : Pos} {scope : Scope} {cl : List (Str × Addr)} {pos : Pos} {F : Value → Addr → Shared → Prop} {P : Nat → Value → Heap → Prop} {N : Nat}
    (hh : A.handled = none) (hN : N ≤ 1000)
    (hP : ∀ j x h h', P j x h → (∀ b xs n, h.get? b = some (seqObj "tuple" xs n) → h'.get? b = some (seqObj "tuple" xs n)) → P j x h')
    (hiter : wpAny (GM w) A (eval iter env) (fun x' s₁ => ∃ l t u v, x' = .ref l ∧ Stp No s s₁ ∧ IsRange s₁.heap l 0 N 1 t u v ∧ ∀ C, s₁.heap.get? C = none → TurnR w A elt (.Name x px) (compEnvC scope cl C env) C N P s₁) (fun _ _ => False) s)
    (c : ∀ s' D C n xs, Stp No s s' → s.heap.get? C = none → s.heap.get? D = none → s'.heap.get? D = some (listObj xs n) → xs.length = N → (∀ (j : Nat) (x : Value), xs[j]? = some x → P j x s'.heap) → (∃ m, s'.heap.Ns C m) → F (.ref D) C s') :
    CompRun w A env elt (.Name x px) iter scope cl pos F s := by
  unfold CompRun
  refine wpAny_mono hiter (fun v s₁ h₁ => ?_) fun _ _ x => x
  obtain ⟨l, t, u, v, rfl, st₁, hl, turn⟩ := h₁
  refine wpAny_pyIter_range hl (small_n hN) ?_
  intro D C h₁ hD hC k₁ z₁ hD₁ hns₁
  dsimp only at hD hC k₁ z₁ ⊢
  rw [Heap.size_push] at hD hC z₁
  generalize hit : s₁.heap.objs.size = it at *
  have hli : IsRangeIter h₁ it (0 : Nat) (N - (0 : Nat) : Int) 1 := by
    have := k₁ it _ (by rw [← hit]; exact Heap.get?_push_size _ rfl)
    rw [size_n] at this
    simpa using this
  refine ⟨fun Q' hq => wpAny_pyIter_rangeiter hli hq, ?_⟩
  have fr : ∀ b, (b = it ∨ b = D ∨ b = C) → s₁.heap.get? b = none := fun b hb => Heap.get?_none_of_le (by rw [hit]; rcases hb with q | q | q; exact Nat.le_of_eq q.symm; rw [q, hD]; exact Nat.le_succ it; rw [q, hC]; exact Nat.le_add_right it 2)
  have hitD : it ≠ D := by rw [hD]; exact nn1 it
  have hitC : it ≠ C := by rw [hC]; exact nn2 it
  have hDC : D ≠ C := by rw [hD, hC]; exact nn1 (it + 1)
  have turn := turn C (fr C (.inr (.inr rfl)))
  refine compLoop_any (w := w) (A := A) (RI P s₁ it D C N) ?turn N ?start
  case start =>
    unfold RI
    refine ⟨0, [], _, Nat.add_zero _, rfl, hli, ⟨0, hD₁⟩, fun j x hx => by simp at hx, hns₁, ⟨fun b o hb e => k₁ b o (Heap.get?_push_of_some _ e), rfl, fun _ _ e => e, fun e => e⟩⟩
  case turn =>
    intro n s' hI
    unfold RI at hI
    obtain ⟨k, xs, m, hnk, hxk, hik, hDl, hPx, hnC, hst⟩ := hI
    have st' := hst.fresh fr
    cases n with
    | zero =>
      refine wpAny_pyNext_range_end hh hik (by lia) (fun h' hx => ?_)
      refine ⟨rfl, ?_⟩
      obtain ⟨nD, hDo⟩ := hDl
      have hD' : h'.get? D = some (listObj xs nD) := hx _ _ (Ne.symm hitD) hDo
      refine c _ D C nD xs (st₁.trans ?_) ?_ ?_ hD' (hxk.trans ((Nat.zero_add k).symm.trans hnk)) (fun j x hj => hP _ _ _ _ (hPx j x hj) fun b ts tn e => ?_) ⟨m, hnC.extBut hx (Ne.symm hitC)⟩
      · exact (hst.trans ⟨fun b o hb e => hx b o (fun q => hb (.inl q)) e, rfl, fun _ _ e => e, fun e => e⟩ : Stp (fun b => b = it ∨ b = D ∨ b = C) s₁ { s' with heap := h' }).fresh fr
      · exact st₁.new (by rw [hit, hC]; exact Nat.le_add_right it 2)
      · exact st₁.new (by rw [hit, hD]; exact Nat.le_succ it)
      · refine hx b _ (fun q => ?_) e
        rw [q, hik] at e
        exact absurd (congrArg Obj.cls (Option.some.inj e)) (show ¬ (Value.type "range_iterator" = Value.type "tuple") by decide)
    | succ n =>
      have hkl : k < N := Nat.lt_of_lt_of_le (Nat.lt_add_of_pos_left (Nat.succ_pos n)) (Nat.le_of_eq hnk)
      refine wpAny_pyNext_range_item hik (by lia) (fun h' hik' sb => ?_)
      have hik' : IsRangeIter h' it ((k + 1 : Nat) : Int) (N - ((k + 1 : Nat) : Int)) 1 := by
        rw [show ((k + 1 : Nat) : Int) = (k : Int) + 1 from rfl, ← Int.sub_sub]
        exact hik'
      dsimp only
      refine letOwned_name ?_
      have stX : Stp (fun b => b = it ∨ b = D ∨ b = C) s₁ { s' with heap := h', toks := s'.toks + 1 } := hst.trans ⟨fun b o hb e => sb.extBut b o (fun q => hb (.inl q)) e, rfl, fun _ _ e => e, fun e => e⟩
      have hnC' : h'.Ns C m := hnC.sameBut sb (Ne.symm hitC)
      refine wpAny_mono (turn k _ { s' with heap := h', toks := s'.toks + 1 } m hkl (stX.fresh fr) hnC') (fun _ s₂ h₂ => wpAny_mono h₂ (fun x s₃ h₃ => ?_) fun _ _ x => x) fun _ _ x => x
      obtain ⟨st3, ⟨m3, hn3⟩, hPk⟩ := h₃
      have hD3 : s₃.heap.PlainList D xs.toArray := (hDl.at fun o e => sb.extBut _ o (Ne.symm hitD) e).at fun o e => st3.keep _ _ hDC e
      refine wpAny_list_append_plain hD3 (fun h4 hD4 sb4 => ?_) (by rw [List.size_toArray, hxk]; exact Nat.le_trans (Nat.le_of_lt hkl) (Nat.le_trans hN sl1000))
      have tup : ∀ b ts tn, s₃.heap.get? b = some (seqObj "tuple" ts tn) → h4.get? b = some (seqObj "tuple" ts tn) := fun b ts tn e => by
        refine sb4.extBut b _ (fun q => ?_) e
        obtain ⟨nD, hDo⟩ := hD3
        rw [q, hDo] at e
        exact absurd (congrArg Obj.cls (Option.some.inj e)) (show ¬ (Value.type "list" = Value.type "tuple") by decide)
      have tup0 : ∀ b ts tn, s'.heap.get? b = some (seqObj "tuple" ts tn) → h4.get? b = some (seqObj "tuple" ts tn) := fun b ts tn e => by
        refine tup b ts tn (st3.keep b _ (fun q => ?_) (sb.extBut b _ (fun q => ?_) e))
        · obtain ⟨oC, es, ep, hoC, hdC, _⟩ := hnC
          rw [show b = C from q, hoC] at e
          cases e
          cases hdC
        · rw [q, hik] at e
          exact absurd (congrArg Obj.cls (Option.some.inj e)) (show ¬ (Value.type "range_iterator" = Value.type "tuple") by decide)
      refine ⟨n, Nat.lt_succ_self n, ?_⟩
      unfold RI
      refine ⟨k + 1, xs ++ [x], m3, (Nat.succ_add_eq_add_succ n k).symm.trans hnk, by rw [List.length_append, hxk]; rfl, ?_, ?_, ?_, ?_, ?_⟩
      · exact sb4.extBut _ _ hitD (st3.keep _ _ hitC hik')
      · rw [List.push_toArray] at hD4; exact hD4
      · intro j y hj
        rw [List.getElem?_append] at hj
        split at hj
        · exact hP _ _ _ _ (hPx j y hj) tup0
        · have hjk : j = k := by
            have := (List.getElem?_eq_some_iff.mp hj).1
            simp at this; lia
          subst hjk
          rw [hxk] at hj
          simp at hj
          subst hj
          exact hP _ _ _ _ hPk tup
      · exact hn3.sameBut sb4 hDC.symm
      · exact stX.trans ((st3.weak fun _ h => .inr (.inr h)).trans ⟨fun b o hb e => sb4.extBut b o (fun q => hb (.inr (.inl q))) e, rfl, fun _ _ e => e, fun e => e⟩)
end Mine

end

section
open PySem PySem.W PySem.W.X PyProof.Rows
set_option maxRecDepth 100000
namespace Mine
def Asc (x : Str) : Prop := ∀ c ∈ x.cps.toList, c < 200
theorem pc_asc {a : Int} (h0 : 0 ≤ a) (h4 : a < 4) (b last : Bool) : ∀ c ∈ pc a b last, c < 200 := by
  unfold pc
  rcases four h0 h4 with rfl | rfl | rfl | rfl <;> cases b <;> cases last <;> simp only [it0, it1, it2, it3, bs] <;> decide +kernel
theorem turn_asc {size place rest rank : Int} {text : Str} (h : Asc text) : Asc (turnW size place rest rank text).2.2 := by
  by_cases hl : place < size
  · intro c hc
    rw [(turn_lt hl).2.2] at hc
    rcases List.mem_append.mp hc with hc | hc
    · exact h c hc
    · exact pc_asc fm.1 fm.2 _ _ c hc
  · rw [turn_ge hl]; exact h
theorem iter_asc (size rest : Int) : ∀ i : Nat, Asc (iterW size rest i).2.2
  | 0 => by
    have e0 : (("" : Str)).cps.toList = [] := by decide +kernel
    intro c hc
    have hc : c ∈ (("" : Str)).cps.toList := hc
    rw [e0] at hc; cases hc
  | i + 1 => turn_asc (iter_asc size rest i)
theorem wr_asc (v : Int) : Asc (wr v).2 := iter_asc _ _ 3
theorem Asc.ok {x : Str} (h : Asc x) : PyData.strOk x = true := by
  unfold PyData.strOk
  rw [Array.all_eq_true_iff_forall_mem]
  intro c hc
  have := h c (Array.mem_toList_iff.mpr hc)
  exact decide_eq_true (by omega)
theorem lay_strs : ∀ ys : List Str, (∀ y ∈ ys, Asc y) → PyData.canLayAll0 (ys.map PyData.str) = true
  | [], _ => rfl
  | y :: r, h => by simp [PyData.canLayAll0, PyData.canLay0, (h y (by simp)).ok, lay_strs r fun z hz => h z (by simp [hz])]
theorem depth_strs : ∀ ys : List Str, PyData.depthAll (ys.map PyData.str) = 0
  | [] => rfl
  | _ :: r => by simp [PyData.depthAll, PyData.depth, depth_strs r]
theorem shaped_strs {ys : List Str} (h : ∀ y ∈ ys, Asc y) : SeqAt.shaped (.list (ys.map PyData.str)) = true := by
  simp [SeqAt.shaped, PyData.canLay0, PyData.depth, lay_strs ys h, depth_strs]
theorem same_strs : ∀ ys : List Str, PySem.Spec.sameAll (ys.map PyData.str) (ys.map PyData.str) = true
  | [] => by simp [PySem.Spec.sameAll]
  | y :: r => by simp [PySem.Spec.sameAll, PySem.Spec.same, same_strs r]
section
variable {w : World} {A : Around} {E : Value → Shared → Prop} {s : Shared} {Q : Value → Shared → Prop}
theorem ne_strs {a b : Addr} {xs zs : List Value} {ys : List Str} (ha : s.heap.IsList a xs.toArray) (hb : s.heap.IsList b zs.toArray) (hi : StrsAre xs ys) (hj : StrsAre zs ys) (hu : A.units + 64 < cLine) (hasc : ∀ y ∈ ys, Asc y) (h : Q (.bool false) s) :
    wpAny (GM w) A (compareOp .NotEq (.ref a) (.ref b)) Q E s := by
  refine ne_dataH_same (reads_newData ha hi.carried) (reads_newData hb hj.carried) (shaped_strs hasc) (shaped_strs hasc) hu (SeqAt.noMix_of_shape (.list .str) rfl _ _ (list_map_has fun _ => rfl) (list_map_has fun _ => rfl)) ?_
  have e : PySem.Spec.same (.list (ys.map PyData.str)) (.list (ys.map PyData.str)) = true := by simp only [PySem.Spec.same]; exact same_strs ys
  rw [e]
  exact h
theorem add_l {l b : Addr} {vs ws : List Value} (hl : s.heap.IsList l vs.toArray) (hb : s.heap.IsList b ws.toArray) (hsz : vs.length + ws.length ≤ 1000)
    (h : Q (.ref s.heap.objs.size) { s with heap := s.heap.push (listObj (vs ++ ws) 0) }) : wpAny (GM w) A (binaryOp .Add (.ref l) (.ref b)) Q E s := by
  obtain ⟨⟨cls, dd, data, sl⟩, ho, hc, n, hd⟩ := id hl
  obtain ⟨⟨cls2, dd2, data2, sl2⟩, ho2, hc2, n2, hd2⟩ := id hb
  simp only at hc hd hc2 hd2
  subst hc hd hc2 hd2
  have e : vs.toArray ++ ws.toArray = (vs ++ ws).toArray := by simp
  refine concat_meets ⟨_, ho, rfl⟩ ⟨_, ho2, rfl⟩ noFill_list_add seq_list_add PySem.F.slot_list_add PySem.F.entry_list_add (PySem.F.args_list_add_2 _ _) (list_addW l b vs.toArray ws.toArray n n2 dd dd2 sl sl2 (by rw [sizeLine_eq]; simp; omega)) ⟨ho, ho2, ?_⟩
  rw [e]
  exact h
theorem item_neg {value slice : Expr} {l : Addr} {items : Array Value} {k : Int} {u : Tok} {x : Value} (hl : s.heap.IsList l items)
    (h0 : k < 0) (h1 : -(items.size : Int) ≤ k) (hfit : -(2 ^ 63) ≤ k) (hx : items[(k + items.size).toNat]? = some x) (h : Q x s)
    (hs : subscripted slice false (.ref l) (.int k u) = operate [.ref l, .int k u] (getItem (.ref l) (.int k u)) := by with_unfolding_all rfl) (hg : ∀ r, letTemporaryGo value (.ref l) r = pure () := by intro _; with_unfolding_all rfl) :
    wpAny (GM w) A (subscriptTail value slice (.ref l) (.int k u)) Q E s :=
  subscriptTail_ops hl.typeIs list_getitem_lookup (wpAny_getItem_list_neg hl h0 h1 hfit hx h) hs hg
end
end Mine

end

section
open PySem PySem.W PySem.W.X PyProof.Rows
set_option maxRecDepth 100000
namespace Mine
abbrev envL (L : Addr) (cd : Value) : Env := envOfC "law" (scopeOf (top 10)) L 61 cd
abbrev compL (n : Nat) : Expr × List Comprehension × Scope × Pos := match (bodyOf (top 10))[n]? with
  | some (PySem.Stmt.Assign _ (PySem.Expr.ListComp e g s p) _) => (e, g, s, p)
  | _ => (default, [], default, ⟨0, 0, 0, 0⟩)
abbrev gen0 (c : Expr × List Comprehension × Scope × Pos) : Comprehension := match c.2.1 with
  | g :: _ => g
  | _ => ⟨default, default, [], 0⟩
def inp (ns : List Int) : List Int := [9, 25] ++ ns.take 5
/-- the numbers as the rows take them -/
def nums (ns : List Int) : List Int := (inp ns).map fun v => v.fmod 2048
def RowAt (ns : List Int) (j : Nat) (x : Value) (h : Heap) : Prop := ∃ v a t u, (nums ns)[j]? = some v ∧ x = .ref a ∧ h.get? a = some (seqObj "tuple" #[.int (wr v).1 t, .str (wr v).2 u] 0)
theorem RowAt.pers {ns : List Int} {j : Nat} {x : Value} {h h' : Heap} (r : RowAt ns j x h) (k : ∀ b xs n, h.get? b = some (seqObj "tuple" xs n) → h'.get? b = some (seqObj "tuple" xs n)) : RowAt ns j x h' := by
  obtain ⟨v, a, t, u, e1, e2, e3⟩ := r; exact ⟨v, a, t, u, e1, e2, k _ _ _ e3⟩
theorem inp_len (ns : List Int) : 2 ≤ (inp ns).length ∧ (inp ns).length ≤ 7 := by
  unfold inp; simp; omega
theorem nums_len (ns : List Int) : (nums ns).length = (inp ns).length := by unfold nums; simp
theorem Stp.untok {X : Addr → Prop} {s s' : Shared} {tk : Nat} (a : Stp X { s with toks := tk } s') : Stp X s s' := ⟨a.keep, a.os, a.gens, a.bare⟩
theorem ints_item {vs : List Value} {ns : List Int} (h : IntsAre vs ns) (j : Nat) (v : Value) (hv : vs[j]? = some v) : ∃ i t, v = .int i t ∧ ns[j]? = some i := by
  have hj : j < ns.length := by have := (List.getElem?_eq_some_iff.mp hv).1; have := h.length; omega
  obtain ⟨t, e⟩ := h.get j ns[j] (List.getElem?_eq_getElem hj)
  rw [hv] at e
  exact ⟨_, t, Option.some.inj e, List.getElem?_eq_getElem hj⟩
theorem rows_ok {w : World} {A : Around} {s : Shared} {L l0 : Addr} {cd : Value} {m : Str → Option Value} {vs0 : List Value} {ns : List Int} {F : Value → Addr → Shared → Prop} {pos : Pos} (rm : Rm 5 A) (G : Grd s.heap) (hn : s.heap.Ns L m) (hm : m "script" = some (.ref l0))
    (hl : s.heap.IsList l0 vs0.toArray) (hi : IntsAre vs0 ns) (hb : ns.length ≤ 100)
    (c : ∀ s' D C n xs, Stp No s s' → s.heap.get? C = none → s.heap.get? D = none → s'.heap.get? D = some (listObj xs n) → xs.length = (nums ns).length → (∀ (j : Nat) (x : Value), xs[j]? = some x → RowAt ns j x s'.heap) → (∃ m, s'.heap.Ns C m) → F (.ref D) C s') :
    CompRun w A (envL L cd) (compL 0).1 (gen0 (compL 0)).target (gen0 (compL 0)).iter (compL 0).2.2.1 [] pos F s := by
  obtain ⟨gm, bm, hg, hbn, N⟩ := G.names
  have hslice : IntsAre (slicePick vs0.toArray none (some 5) none).toList (ns.take 5) := slice_ints_uptoW hi (by decide)
  obtain ⟨ws, hws⟩ : ∃ ws : List Value, (slicePick vs0.toArray none (some 5) none) = ws.toArray := ⟨_, (Array.toArray_toList).symm⟩
  rw [hws] at hslice
  have hslice : IntsAre ws (ns.take 5) := by simpa using hslice
  have hwl := hslice.length
  rw [List.length_take] at hwl
  have h7 := inp_len ns
  refine comp_list (vs := [.int 9 s.toks, .int 25 (s.toks + 1)] ++ ws) (P := RowAt ns) rm.1 (by simp; omega) (fun j x h h' => RowAt.pers) (fun s' it l i v Q hi hq => letOwned_name hq) ?_ (fun s' D C n xs st hC hD hDo hxl hP hCn => c s' D C n xs st hC hD hDo ?_ hP hCn)
  · refine wpAny_BinOp ?_
    refine List_ ?_
    refine args_cons ?_
    refine wpAny_Constant_int ?_
    refine args_cons ?_
    refine wpAny_Constant_int ?_
    refine args_nil ?_
    refine wpAny_newList ?_ sl2
    dsimp only
    refine Subscript_ ?_
    refine r_ld (env := envL L cd) (s := { s with heap := _, toks := _ }) (hn.push _) hm ?_
    refine wpAny_Slice ?_
    rw [evalPart_none]
    refine wpAny_pure ?_
    rw [evalPart_some]
    refine wpAny_Constant_int ?_
    refine wpAny_pure ?_
    dsimp only
    refine subscriptTail_ops (T := "list") (ops := _) ((hl.push _).push _).typeIs list_getitem_lookup (wpAny_getItem_list_slice ((hl.push _).push _) (Heap.IsSliceOf.new ..) .none (.int 5 _) .none (by simp) ?_ ?_) rfl (fun _ => rfl)
    · dsimp only
      refine add_l (vs := [.int 9 s.toks, .int 25 (s.toks + 1)]) (ws := ws) ⟨_, Heap.get?_push_of_some _ (Heap.get?_push_of_some _ (Heap.get?_push_size _ rfl)), rfl, 0, rfl⟩ ⟨_, Heap.get?_push_size _ rfl, rfl, 0, by rw [hws]⟩ (by simp; omega) ?_
      dsimp only
      refine ⟨_, rfl, ⟨fun b o _ e => Heap.get?_push_of_some _ (Heap.get?_push_of_some _ (Heap.get?_push_of_some _ (Heap.get?_push_of_some _ e))), rfl, fun _ _ e => e, fun e => e⟩, ⟨_, Heap.get?_push_size _ rfl, rfl, 0, rfl⟩, ?_⟩
      intro C hC j v s' mC hv st hnC
      have hall : IntsAre ([.int 9 s.toks, .int 25 (s.toks + 1)] ++ ws) (inp ns) := (IntsAre.cons 9 _ (IntsAre.cons 25 _ .nil)).append hslice
      obtain ⟨i, t, rfl, hij⟩ := ints_item hall j v hv
      have kk : ∀ b o, s.heap.get? b = some o → s'.heap.get? b = some o := fun b o e => st.keep b o (fun h => h) (Heap.get?_push_of_some _ (Heap.get?_push_of_some _ (Heap.get?_push_of_some _ (Heap.get?_push_of_some _ e))))
      have hC0 : s.heap.get? C = none := by
        cases e : s.heap.get? C with
        | none => rfl
        | some o => rw [Heap.get?_push_of_some _ (Heap.get?_push_of_some _ (Heap.get?_push_of_some _ (Heap.get?_push_of_some _ e)))] at hC; cases hC
      refine wpAny_assign_Name ?_
      refine r_st (env := compEnvC (compL 0).2.2.1 [] C (envL L cd)) hnC (fun s₂ st₂ hn₂ => ?_)
      have kk2 : ∀ b o, s.heap.get? b = some o → s₂.heap.get? b = some o := fun b o e => st₂.keep b o (fun q => by rw [show b = C from q, hC0] at e; cases e) (kk b o e)
      refine Call_ ?_
      refine r_glob (env := compEnvC (compL 0).2.2.1 [] C (envL L cd)) (hg.keeps kk2) N.written ?_
      obtain ⟨ow, pm, cd', doc, e1, e2, e3⟩ := G.written
      refine r_callF (o := ow) (fd := Calls.docDef "_law_written" (argsOf (top 7)) (bodyOf (top 7)) (scopeOf (top 7)) pm cd' doc) ?_
      refine args_cons ?_
      refine wpAny_BinOp ?_
      refine r_ld (env := compEnvC (compL 0).2.2.1 [] C (envL L cd)) hn₂ put_self ?_
      refine wpAny_Constant_int ?_
      refine mod_int (by decide) ?_
      refine args_nil ?_
      refine ⟨⟨kk2 _ _ e1, e2⟩, ?_⟩
      refine wpAny_call ?_
      refine written_ok (s := { s₂ with toks := _ }) (rm.le (by decide)) (G.keeps kk2) (fun s₃ a t₁ u₁ st₃ hT => ?_)
      refine ⟨?_, ⟨_, hn₂.keeps fun b o e => st₃.keep b o (fun h => h) e⟩, i.fmod 2048, a, t₁, u₁, ?_, rfl, hT⟩
      · exact st₂.trans (Stp.untok st₃.any)
      · unfold nums; rw [List.getElem?_map, hij]; rfl
    · rw [sizeLine_eq, List.size_toArray]; have := hi.length; omega
  · rw [hxl, nums_len]; unfold inp; simp; omega
end Mine

end

section
open PySem PySem.W PySem.W.X PyProof.Rows
set_option maxRecDepth 100000
namespace Mine
theorem ints_build : ∀ {xs : List Value} {is : List Int}, xs.length = is.length → (∀ (j : Nat) (x : Value), xs[j]? = some x → ∃ i t, is[j]? = some i ∧ x = .int i t) → IntsAre xs is
  | [], [], _, _ => .nil
  | [], _ :: _, h, _ => by simp at h
  | _ :: _, [], h, _ => by simp at h
  | x :: xs, i :: is, h, p => by
    obtain ⟨i', t, e1, e2⟩ := p 0 x rfl
    cases e1
    rw [e2]
    exact .cons _ t (ints_build (by simpa using h) fun j y hy => p (j + 1) y hy)
theorem strs_build : ∀ {xs : List Value} {is : List Str}, xs.length = is.length → (∀ (j : Nat) (x : Value), xs[j]? = some x → ∃ i t, is[j]? = some i ∧ x = .str i t) → StrsAre xs is
  | [], [], _, _ => .nil
  | [], _ :: _, h, _ => by simp at h
  | _ :: _, [], h, _ => by simp at h
  | x :: xs, i :: is, h, p => by
    obtain ⟨i', t, e1, e2⟩ := p 0 x rfl
    cases e1
    rw [e2]
    exact .cons _ t (strs_build (by simpa using h) fun j y hy => p (j + 1) y hy)
def rks (ns : List Int) : List Int := (nums ns).map fun v => (wr v).1
def txs (ns : List Int) : List Str := (nums ns).map fun v => (wr v).2
theorem rks_len (ns : List Int) : (rks ns).length = (nums ns).length := by unfold rks; simp
theorem txs_len (ns : List Int) : (txs ns).length = (nums ns).length := by unfold txs; simp
theorem nums_le (ns : List Int) : 2 ≤ (nums ns).length ∧ (nums ns).length ≤ 7 := by rw [nums_len]; exact inp_len ns
theorem n64 (ns : List Int) : (nums ns).length < 64 := Nat.lt_of_le_of_lt (nums_le ns).2 (by decide)
theorem n1000 (ns : List Int) : (nums ns).length ≤ 1000 := Nat.le_trans (nums_le ns).2 (by decide)
theorem i0 (k : Nat) : (0 : Int) ≤ (k : Int) := Int.natCast_nonneg k
theorem i63 {ns : List Int} {k : Nat} (h : k < (nums ns).length) : (k : Int) < 2 ^ 63 := by have := (nums_le ns).2; omega
theorem nI63 (ns : List Int) : ((nums ns).length : Int) < 2 ^ 63 := by have := (nums_le ns).2; omega
section
variable {w : World} {A : Around} {s : Shared} {L R : Addr} {cd : Value} {m : Str → Option Value} {xs : List Value} {ns : List Int} {F : Value → Addr → Shared → Prop} {pos : Pos}
theorem ranks_ok (hh : A.handled = none) (hn : s.heap.Ns L m) (hm : m "rows" = some (.ref R)) (hR : s.heap.IsList R xs.toArray) (hxl : xs.length = (nums ns).length) (hx : ∀ (j : Nat) (x : Value), xs[j]? = some x → RowAt ns j x s.heap)
    (c : ∀ s' D C n vs, Stp No s s' → s.heap.get? C = none → s.heap.get? D = none → s'.heap.get? D = some (listObj vs n) → IntsAre vs (rks ns) → (∃ m, s'.heap.Ns C m) → F (.ref D) C s') :
    CompRun w A (envL L cd) (compL 1).1 (gen0 (compL 1)).target (gen0 (compL 1)).iter (compL 1).2.2.1 [] pos F s := by
  have h7 := nums_le ns
  refine comp_list (vs := xs) (P := fun j x _ => ∃ v t, (nums ns)[j]? = some v ∧ x = .int (wr v).1 t) hh (by omega) (fun j x h h' p _ => p) (fun s' it l i v Q hi hq => letOwned_li hi hq) ?_
    (fun s' D C n vs st hC hD hDo hvl hP hCn => c s' D C n vs st hC hD hDo (ints_build (by rw [rks_len]; omega) fun j x hj => ?_) hCn)
  · refine r_ld (env := envL L cd) hn hm ?_
    refine ⟨R, rfl, Stp.refl, hR, fun C hC j v s' mC hv st hnC => ?_⟩
    obtain ⟨i, a, t, u, hi, rfl, hT⟩ := hx j v hv
    refine r_unpack2 (env := compEnvC (compL 1).2.2.1 [] C (envL L cd)) (m := mC) hh (v₁ := .int (wr i).1 t) (v₂ := .str (wr i).2 u) ⟨_, st.keep _ _ (fun h => h) hT, rfl, 0, rfl⟩ hnC (fun s₃ st₃ hg₃ hn₃ => ?_)
    refine r_ld (env := compEnvC (compL 1).2.2.1 [] C (envL L cd)) hn₃ (v := .int (wr i).1 t) (by rw [put_ne (by decide), put_self]) ?_
    exact ⟨st₃, ⟨_, hn₃⟩, i, t, hi, rfl⟩
  · obtain ⟨v, t, e1, e2⟩ := hP j x hj
    exact ⟨_, t, by unfold rks; rw [List.getElem?_map, e1]; rfl, e2⟩
theorem texts_ok (hh : A.handled = none) (hn : s.heap.Ns L m) (hm : m "rows" = some (.ref R)) (hR : s.heap.IsList R xs.toArray) (hxl : xs.length = (nums ns).length) (hx : ∀ (j : Nat) (x : Value), xs[j]? = some x → RowAt ns j x s.heap)
    (c : ∀ s' D C n vs, Stp No s s' → s.heap.get? C = none → s.heap.get? D = none → s'.heap.get? D = some (listObj vs n) → StrsAre vs (txs ns) → (∃ m, s'.heap.Ns C m) → F (.ref D) C s') :
    CompRun w A (envL L cd) (compL 2).1 (gen0 (compL 2)).target (gen0 (compL 2)).iter (compL 2).2.2.1 [] pos F s := by
  have h7 := nums_le ns
  refine comp_list (vs := xs) (P := fun j x _ => ∃ v t, (nums ns)[j]? = some v ∧ x = .str (wr v).2 t) hh (by omega) (fun j x h h' p _ => p) (fun s' it l i v Q hi hq => letOwned_li hi hq) ?_
    (fun s' D C n vs st hC hD hDo hvl hP hCn => c s' D C n vs st hC hD hDo (strs_build (by rw [txs_len]; omega) fun j x hj => ?_) hCn)
  · refine r_ld (env := envL L cd) hn hm ?_
    refine ⟨R, rfl, Stp.refl, hR, fun C hC j v s' mC hv st hnC => ?_⟩
    obtain ⟨i, a, t, u, hi, rfl, hT⟩ := hx j v hv
    refine r_unpack2 (env := compEnvC (compL 2).2.2.1 [] C (envL L cd)) (m := mC) hh (v₁ := .int (wr i).1 t) (v₂ := .str (wr i).2 u) ⟨_, st.keep _ _ (fun h => h) hT, rfl, 0, rfl⟩ hnC (fun s₃ st₃ hg₃ hn₃ => ?_)
    refine r_ld (env := compEnvC (compL 2).2.2.1 [] C (envL L cd)) hn₃ (v := .str (wr i).2 u) put_self ?_
    exact ⟨st₃, ⟨_, hn₃⟩, i, u, hi, rfl⟩
  · obtain ⟨v, t, e1, e2⟩ := hP j x hj
    exact ⟨_, t, by unfold txs; rw [List.getElem?_map, e1]; rfl, e2⟩
end
end Mine

end

section
open PySem PySem.W PySem.W.X PyProof.Rows
set_option maxRecDepth 100000
namespace Mine
abbrev innL (n : Nat) : Expr × List Comprehension × Scope × Pos := match (gen0 (compL n)).iter with
  | PySem.Expr.Call _ (PySem.Expr.ListComp e g s p :: _) _ _ => (e, g, s, p)
  | _ => (default, [], default, ⟨0, 0, 0, 0⟩)
abbrev exprL (c : Expr × List Comprehension × Scope × Pos) : Expr := .ListComp c.1 [gen0 c] c.2.2.1 c.2.2.2
theorem PairsAre.pers {h h' : Heap} (k : ∀ b xs n, h.get? b = some (seqObj "tuple" xs n) → h'.get? b = some (seqObj "tuple" xs n)) : ∀ {vs : List Value} {ps : List (Int × Int)}, PairsAre h vs ps → PairsAre h' vs ps
  | [], [], _ => trivial
  | [], _ :: _, h => h.elim
  | _ :: _, [], h => h.elim
  | _ :: _, _ :: _, ⟨⟨a, t, u, e, g⟩, r⟩ => ⟨⟨a, t, u, e, k _ _ _ g⟩, PairsAre.pers k r⟩
def PairAt (ps : List (Int × Int)) (j : Nat) (x : Value) (h : Heap) : Prop := ∃ p a t u, ps[j]? = some p ∧ x = .ref a ∧ h.get? a = some (seqObj "tuple" #[.int p.1 t, .int p.2 u] 0)
theorem PairAt.pers {ps : List (Int × Int)} {j : Nat} {x : Value} {h h' : Heap} (r : PairAt ps j x h) (k : ∀ b xs n, h.get? b = some (seqObj "tuple" xs n) → h'.get? b = some (seqObj "tuple" xs n)) : PairAt ps j x h' := by
  obtain ⟨v, a, t, u, e1, e2, e3⟩ := r; exact ⟨v, a, t, u, e1, e2, k _ _ _ e3⟩
theorem pairs_build {h : Heap} : ∀ {xs : List Value} {ps : List (Int × Int)}, xs.length = ps.length → (∀ (j : Nat) (x : Value), xs[j]? = some x → PairAt ps j x h) → PairsAre h xs ps
  | [], [], _, _ => trivial
  | [], _ :: _, h, _ => by simp at h
  | _ :: _, [], h, _ => by simp at h
  | x :: xs, p :: ps, hl, hp => by
    obtain ⟨p', a, t, u, e1, e2, e3⟩ := hp 0 x rfl
    cases e1
    exact ⟨⟨a, t, u, e2, e3⟩, pairs_build (by simpa using hl) fun j y hy => hp (j + 1) y hy⟩
def psUp (ns : List Int) : List (Int × Int) := (rks ns).zipIdx.map fun p => (p.1, (p.2 : Int))
def psDn (ns : List Int) : List (Int × Int) := (rks ns).zipIdx.map fun p => (-p.1, (p.2 : Int))
theorem psUp_get {ns : List Int} {j : Nat} {r : Int} (h : (rks ns)[j]? = some r) : (psUp ns)[j]? = some (r, (j : Int)) := by
  unfold psUp; rw [List.getElem?_map, List.getElem?_zipIdx, h]; simp
theorem psDn_get {ns : List Int} {j : Nat} {r : Int} (h : (rks ns)[j]? = some r) : (psDn ns)[j]? = some (-r, (j : Int)) := by
  unfold psDn; rw [List.getElem?_map, List.getElem?_zipIdx, h]; simp
theorem psUp_len (ns : List Int) : (psUp ns).length = (nums ns).length := by unfold psUp; simp [rks_len]
theorem psDn_len (ns : List Int) : (psDn ns).length = (nums ns).length := by unfold psDn; simp [rks_len]
section
variable {w : World} {A : Around} {s : Shared} {L RK TX : Addr} {cd : Value} {m : Str → Option Value} {rvs tvs : List Value} {ns : List Int}
/-- range(len(ranks)) in the law -/
theorem range_ranks {E : Value → Shared → Prop} {Q : Value → Shared → Prop} (G : Grd s.heap) (hc : s.heap.IsCell (L + 1) (some (.ref RK))) (hRK : s.heap.IsList RK rvs.toArray) (hI : IntsAre rvs (rks ns))
    (c : ∀ s₁ l t u v, Stp No s s₁ → IsRange s₁.heap l 0 (nums ns).length 1 t u v → Q (.ref l) s₁) {n : Nat} (hn : n = 3 ∨ n = 4) :
    wpAny (GM w) A (eval (gen0 (innL n)).iter (envL L cd)) Q E s := by
  obtain ⟨gm, bm, hg, hbn, N⟩ := G.names
  have hlen : rvs.toArray.size = (nums ns).length := by rw [List.size_toArray, hI.length, rks_len]
  have h7 := nums_le ns
  rcases hn with rfl | rfl <;>
  · refine Call_ ?_
    refine r_blt (env := envL L cd) hg N.none.2.1 hbn N.range ?_
    refine PyProof.Rows.callWith_type1 ?_
    refine args_cons ?_
    refine Call_ ?_
    refine r_blt (env := envL L cd) hg N.none.1 hbn N.len ?_
    refine PyProof.Rows.callWith_builtin1 ?_
    refine args_cons ?_
    refine wpAny_Name (wpAny_loadName_cell (env := envL L cd) rfl rfl rfl hc ?_) (by decide)
    refine args_nil ?_
    refine len_list hRK (by rw [hlen]; exact nI63 ns) ?_
    refine args_nil ?_
    refine call_range_1 ?_
    dsimp only
    rw [hlen]
    exact c _ _ _ _ _ ⟨fun b o _ e => Heap.get?_push_of_some _ e, rfl, fun _ _ e => e, fun e => e⟩ (IsRange.new ..)
/-- the list of pairs (rank, place) -/
theorem pairsUp {E : Value → Shared → Prop} {Q : Value → Shared → Prop} (hh : A.handled = none) (G : Grd s.heap) (hc : s.heap.IsCell (L + 1) (some (.ref RK))) (hRK : s.heap.IsList RK rvs.toArray) (hI : IntsAre rvs (rks ns))
    (c : ∀ s' D vs n, Stp No s s' → s'.heap.get? D = some (listObj vs n) → PairsAre s'.heap vs (psUp ns) → Q (.ref D) s') :
    wpAny (GM w) A (eval (exprL (innL 3)) (envL L cd)) Q E s := by
  have h7 := nums_le ns
  refine r_comp (cl := [(("ranks" : Str), L + 1)]) (by kernel_rfl) (by decide) rfl (by decide) ?_
  refine comp_range (P := PairAt (psUp ns)) (N := (nums ns).length) hh (n1000 ns) (fun _ _ _ _ => PairAt.pers) ?_ (fun s' D C n vs st hC hD hDo hvl hP hCn => ⟨hCn, fun h' sb => ?_⟩)
  · refine range_ranks G hc hRK hI (fun s₁ l t u v st hr => ⟨l, t, u, v, rfl, st, hr, fun C hC j tj s' mC hj st' hnC => ?_⟩) (.inl rfl)
    have hCn : s.heap.get? C = none := by
      cases e : s.heap.get? C with
      | none => rfl
      | some o => rw [st.keep _ _ (fun h => h) e] at hC; cases hC
    refine wpAny_assign_Name ?_
    refine r_st (env := compEnvC (innL 3).2.2.1 [(("ranks" : Str), L + 1)] C (envL L cd)) hnC (fun s₂ st₂ hn₂ => ?_)
    have kk2 : ∀ b o, s.heap.get? b = some o → s₂.heap.get? b = some o := fun b o e => st₂.keep b o (fun q => by rw [show b = C from q, hCn] at e; cases e) ((st.trans st').keep b o (fun h => h) e)
    have hc2 : s₂.heap.IsCell (L + 1) (some (.ref RK)) := let ⟨o, e, d⟩ := hc; ⟨o, kk2 _ _ e, d⟩
    have hjr : j < (rks ns).length := by rw [rks_len]; exact hj
    obtain ⟨tr, hr⟩ := hI.get j (rks ns)[j] (List.getElem?_eq_getElem hjr)
    refine wpAny_Tuple ?_
    refine args_cons ?_
    refine Subscript_ ?_
    refine wpAny_Name (wpAny_loadName_cell (env := compEnvC (innL 3).2.2.1 [(("ranks" : Str), L + 1)] C (envL L cd)) rfl rfl rfl hc2 ?_) (by decide)
    refine r_ld (env := compEnvC (innL 3).2.2.1 [(("ranks" : Str), L + 1)] C (envL L cd)) hn₂ put_self ?_
    refine item_list (hRK.at fun o e => kk2 _ _ e) (i0 _) (i63 hj) (x := .int (rks ns)[j] tr) (by simpa using hr) ?_
    refine args_cons ?_
    refine r_ld (env := compEnvC (innL 3).2.2.1 [(("ranks" : Str), L + 1)] C (envL L cd)) hn₂ put_self ?_
    refine args_nil ?_
    refine ⟨sl2, ?_⟩
    dsimp only
    refine ⟨st₂.trans ⟨fun b o _ e => Heap.get?_push_of_some _ e, rfl, fun _ _ e => e, fun e => e⟩, ⟨_, hn₂.push _⟩, ((rks ns)[j], (j : Int)), s₂.heap.objs.size, tr, tj, psUp_get (List.getElem?_eq_getElem hjr), rfl, Heap.get?_push_size _ rfl⟩
  · have tup : ∀ b xs n, s'.heap.get? b = some (seqObj "tuple" xs n) → h'.get? b = some (seqObj "tuple" xs n) := fun b xs n e => by
      obtain ⟨mC, hCn⟩ := hCn
      exact sb.extBut b _ (ne_ns hCn e (fun _ _ h => by cases h)) e
    refine c _ D vs n ⟨fun b o hb e => ?_, st.os, st.gens, st.bare⟩ ?_ ((pairs_build (hvl.trans (psUp_len ns).symm) hP).pers tup)
    · exact sb.extBut b o (fun q => by rw [q, hC] at e; cases e) (st.keep b o hb e)
    · obtain ⟨mC, hCn⟩ := hCn
      exact sb.extBut D _ (ne_ns hCn hDo (fun _ _ h => by cases h)) hDo
theorem pairsDn {E : Value → Shared → Prop} {Q : Value → Shared → Prop} (hh : A.handled = none) (G : Grd s.heap) (hc : s.heap.IsCell (L + 1) (some (.ref RK))) (hRK : s.heap.IsList RK rvs.toArray) (hI : IntsAre rvs (rks ns))
    (c : ∀ s' D vs n, Stp No s s' → s'.heap.get? D = some (listObj vs n) → PairsAre s'.heap vs (psDn ns) → Q (.ref D) s') :
    wpAny (GM w) A (eval (exprL (innL 4)) (envL L cd)) Q E s := by
  have h7 := nums_le ns
  refine r_comp (cl := [(("ranks" : Str), L + 1)]) (by kernel_rfl) (by decide) rfl (by decide) ?_
  refine comp_range (P := PairAt (psDn ns)) (N := (nums ns).length) hh (n1000 ns) (fun _ _ _ _ => PairAt.pers) ?_ (fun s' D C n vs st hC hD hDo hvl hP hCn => ⟨hCn, fun h' sb => ?_⟩)
  · refine range_ranks G hc hRK hI (fun s₁ l t u v st hr => ⟨l, t, u, v, rfl, st, hr, fun C hC j tj s' mC hj st' hnC => ?_⟩) (.inr rfl)
    have hCn : s.heap.get? C = none := by
      cases e : s.heap.get? C with
      | none => rfl
      | some o => rw [st.keep _ _ (fun h => h) e] at hC; cases hC
    refine wpAny_assign_Name ?_
    refine r_st (env := compEnvC (innL 4).2.2.1 [(("ranks" : Str), L + 1)] C (envL L cd)) hnC (fun s₂ st₂ hn₂ => ?_)
    have kk2 : ∀ b o, s.heap.get? b = some o → s₂.heap.get? b = some o := fun b o e => st₂.keep b o (fun q => by rw [show b = C from q, hCn] at e; cases e) ((st.trans st').keep b o (fun h => h) e)
    have hc2 : s₂.heap.IsCell (L + 1) (some (.ref RK)) := let ⟨o, e, d⟩ := hc; ⟨o, kk2 _ _ e, d⟩
    have hjr : j < (rks ns).length := by rw [rks_len]; exact hj
    obtain ⟨tr, hr⟩ := hI.get j (rks ns)[j] (List.getElem?_eq_getElem hjr)
    refine wpAny_Tuple ?_
    refine args_cons ?_
    refine wpAny_UnaryOp ?_
    refine Subscript_ ?_
    refine wpAny_Name (wpAny_loadName_cell (env := compEnvC (innL 4).2.2.1 [(("ranks" : Str), L + 1)] C (envL L cd)) rfl rfl rfl hc2 ?_) (by decide)
    refine r_ld (env := compEnvC (innL 4).2.2.1 [(("ranks" : Str), L + 1)] C (envL L cd)) hn₂ put_self ?_
    refine item_list (hRK.at fun o e => kk2 _ _ e) (i0 _) (i63 hj) (x := .int (rks ns)[j] tr) (by simpa using hr) ?_
    refine r_neg (I := Sm s₂) Sm.tokOk Sm.refl ?_; rintro t4 _ ⟨tk4, rfl⟩
    refine args_cons ?_
    refine r_ld (env := compEnvC (innL 4).2.2.1 [(("ranks" : Str), L + 1)] C (envL L cd)) (s := { s₂ with toks := tk4 }) hn₂ put_self ?_
    refine args_nil ?_
    refine ⟨sl2, ?_⟩
    dsimp only
    refine ⟨st₂.trans ⟨fun b o _ e => Heap.get?_push_of_some _ e, rfl, fun _ _ e => e, fun e => e⟩, ⟨_, hn₂.push _⟩, (-(rks ns)[j], (j : Int)), s₂.heap.objs.size, t4, tj, psDn_get (List.getElem?_eq_getElem hjr), rfl, Heap.get?_push_size _ rfl⟩
  · have tup : ∀ b xs n, s'.heap.get? b = some (seqObj "tuple" xs n) → h'.get? b = some (seqObj "tuple" xs n) := fun b xs n e => by
      obtain ⟨mC, hCn⟩ := hCn
      exact sb.extBut b _ (ne_ns hCn e (fun _ _ h => by cases h)) e
    refine c _ D vs n ⟨fun b o hb e => ?_, st.os, st.gens, st.bare⟩ ?_ ((pairs_build (hvl.trans (psDn_len ns).symm) hP).pers tup)
    · exact sb.extBut b o (fun q => by rw [q, hC] at e; cases e) (st.keep b o hb e)
    · obtain ⟨mC, hCn⟩ := hCn
      exact sb.extBut D _ (ne_ns hCn hDo (fun _ _ h => by cases h)) hDo
end
end Mine

end

section
open PySem PySem.W PyProof.Rows
set_option maxRecDepth 100000
namespace Mine
theorem wr0 : wr 0 = ((0 : Int), ("" : Str)) := by decide +kernel
theorem cmp_neg (a b : Int) : decide ((if a < b then (-3 : Int) else if b < a then 2 else 0) < 0) = decide (a < b) := by
  rw [decide_eq_decide]
  by_cases h : a < b
  · rw [if_pos h]; exact ⟨fun _ => h, fun _ => by decide⟩
  · rw [if_neg h]
    refine ⟨fun q => ?_, fun q => absurd q h⟩
    split at q <;> lia
def rk (ns : List Int) (i : Nat) : Int := (wr ((nums ns).getD i 0)).1
theorem n1 (ns : List Int) : 1 ≤ (nums ns).length := Nat.le_of_succ_le (nums_le ns).1
theorem lex8 {a b c d : Int} (h1 : 0 ≤ b ∧ b < 8) (h2 : 0 ≤ d ∧ d < 8) : (a < c ∨ a = c ∧ b < d) ↔ 8 * a + b < 8 * c + d := by lia
theorem txs_getD (ns : List Int) (i : Nat) : (txs ns).getD i "" = (wr ((nums ns).getD i 0)).2 := by
  unfold txs
  rw [List.getD_eq_getElem?_getD, List.getD_eq_getElem?_getD, List.getElem?_map]
  cases (nums ns)[i]? with
  | none => show "" = (wr 0).2; rw [wr0]
  | some v => rfl
theorem lt_txs (ns : List Int) : (fun i j => decide (cmpV ((txs ns).getD i "") ((txs ns).getD j "") < 0)) = ltR (rk ns) := by
  funext i j
  rw [txs_getD, txs_getD, wr_cmp]
  exact cmp_neg _ _
theorem ltP_eq {ps : List (Int × Int)} (h : ∀ i, 0 ≤ (ps.getD i (0, 0)).2 ∧ (ps.getD i (0, 0)).2 < 8) : ltP ps = ltR (fun i => 8 * (ps.getD i (0, 0)).1 + (ps.getD i (0, 0)).2) := by
  funext i j
  unfold ltP ltR
  have h1 := h i
  have h2 := h j
  rw [decide_eq_decide]
  exact lex8 h1 h2
def ordOf (ps : List (Int × Int)) : List Nat := (ans (ltP ps) (kas_sort ps.length)).toList
/-- the order of the pairs is the one by rank and place -/
theorem ord_is {ps : List (Int × Int)} {f : Nat → Int} (h2 : 1 ≤ ps.length) (h7 : ps.length ≤ 8) (hf : ∀ i, i < ps.length → ps.getD i (0, 0) = (f i, (i : Int))) :
    (ordOf ps).Perm (List.range ps.length) ∧ (ordOf ps).Pairwise (Ord f) := by
  have hb : ∀ i, 0 ≤ (ps.getD i (0, 0)).2 ∧ (ps.getD i (0, 0)).2 < 8 := fun i => by
    by_cases hi : i < ps.length
    · rw [hf i hi]; dsimp only; lia
    · rw [List.getD_eq_getElem?_getD, List.getElem?_eq_none (by lia)]; decide
  have I := sort_ok (r := fun i => 8 * (ps.getD i (0, 0)).1 + (ps.getD i (0, 0)).2) h2
  rw [← ltP_eq hb] at I
  have P : (ordOf ps).Perm (List.range ps.length) := by simpa [ordOf] using Array.perm_iff_toList_perm.mp I.perm
  refine ⟨P, ?_⟩
  refine List.Pairwise.imp_of_mem ?_ I.pair
  intro a b ha hb' hab
  have ha : a < ps.length := by have := P.mem_iff.mp ha; simpa using this
  have hb' : b < ps.length := by have := P.mem_iff.mp hb'; simpa using this
  unfold Ord at hab ⊢
  dsimp only at hab
  rw [hf a ha, hf b hb'] at hab
  dsimp only at hab
  lia
theorem rk_get {ns : List Int} {i : Nat} (h : i < (nums ns).length) : (rks ns)[i]? = some (rk ns i) := by
  unfold rks rk
  rw [List.getElem?_map, List.getD_eq_getElem?_getD, List.getElem?_eq_getElem h]; rfl
theorem up_getD {ns : List Int} {i : Nat} (h : i < (psUp ns).length) : (psUp ns).getD i (0, 0) = (rk ns i, (i : Int)) := by
  rw [psUp_len] at h
  rw [List.getD_eq_getElem?_getD, psUp_get (rk_get h)]; rfl
theorem dn_getD {ns : List Int} {i : Nat} (h : i < (psDn ns).length) : (psDn ns).getD i (0, 0) = (-rk ns i, (i : Int)) := by
  rw [psDn_len] at h
  rw [List.getD_eq_getElem?_getD, psDn_get (rk_get h)]; rfl
theorem up_ord (ns : List Int) : (ordOf (psUp ns)).Perm (List.range (nums ns).length) ∧ (ordOf (psUp ns)).Pairwise (Ord (rk ns)) := by
  have h7 := nums_le ns
  have := ord_is (ps := psUp ns) (f := rk ns) (by rw [psUp_len]; exact n1 ns) (by rw [psUp_len]; exact Nat.le_succ_of_le (nums_le ns).2) (fun i h => up_getD h)
  rw [psUp_len] at this
  exact this
theorem dn_ord (ns : List Int) : (ordOf (psDn ns)).Perm (List.range (nums ns).length) ∧ (ordOf (psDn ns)).Pairwise (Ord fun i => -rk ns i) := by
  have h7 := nums_le ns
  have := ord_is (ps := psDn ns) (f := fun i => -rk ns i) (by rw [psDn_len]; exact n1 ns) (by rw [psDn_len]; exact Nat.le_succ_of_le (nums_le ns).2) (fun i h => dn_getD h)
  rw [psDn_len] at this
  exact this
def riseS (ns : List Int) : List Str := (ordOf (psUp ns)).map fun i => (txs ns).getD i ""
def sinkS (ns : List Int) : List Str := (ordOf (psDn ns)).map fun i => (txs ns).getD i ""
theorem strs_pick {vs : List Value} {ys : List Str} (h : StrsAre vs ys) : ∀ {l : List Nat}, (∀ i ∈ l, i < ys.length) → StrsAre (l.map fun i => vs.getD i Value.none) (l.map fun i => ys.getD i "")
  | [], _ => .nil
  | i :: l, hl => by
    have hi : i < ys.length := hl i (by simp)
    obtain ⟨t, e⟩ := h.at (j := i) (y := ys[i]) (List.getElem?_eq_getElem hi)
    have e1 : vs.getD i Value.none = .str ys[i] t := by rw [List.getD_eq_getElem?_getD, e]; rfl
    have e2 : ys.getD i "" = ys[i] := by rw [List.getD_eq_getElem?_getD, List.getElem?_eq_getElem hi]; rfl
    show StrsAre (vs.getD i Value.none :: _) (ys.getD i "" :: _)
    rw [e1, e2]
    exact .cons _ t (strs_pick h fun j hj => hl j (by simp [hj]))
theorem out_up {ns : List Int} {vs : List Value} (h : StrsAre vs (txs ns)) : StrsAre (outK false vs (txs ns)) (riseS ns) := by
  have h7 := nums_le ns
  have hl : vs.length = (nums ns).length := by rw [h.length, txs_len]
  have e : (ans (ltR (rk ns)) (kas_sort vs.length)).toList = ordOf (psUp ns) := by
    rw [hl]
    exact (sort_ok (r := rk ns) (n1 ns)).uniq (up_ord ns).1 (up_ord ns).2
  show StrsAre ((ans (fun i j => decide (cmpV ((txs ns).getD i "") ((txs ns).getD j "") < 0)) (kas_sort vs.length)).toList.map fun i => vs.getD i Value.none) _
  rw [lt_txs, e]
  refine strs_pick h fun i hi => ?_
  have := (up_ord ns).1.mem_iff.mp hi
  rw [txs_len]
  simpa using this
theorem rev_getD' {α : Type} {l : List α} {d : α} {i : Nat} (h : i < l.length) : l.reverse.getD i d = l.getD (l.length - 1 - i) d := by
  rw [List.getD_eq_getElem?_getD, List.getD_eq_getElem?_getD, List.getElem?_reverse h]
theorem out_dn {ns : List Int} {vs : List Value} (h : StrsAre vs (txs ns)) : StrsAre (outK true vs (txs ns)) (sinkS ns) := by
  have h7 := nums_le ns
  have hl : vs.length = (nums ns).length := by rw [h.length, txs_len]
  let r' : Nat → Int := fun i => (wr ((nums ns).reverse.getD i 0)).1
  have hr : ∀ i, i < (nums ns).length → r' i = rk ns ((nums ns).length - 1 - i) := fun i hi => by
    show (wr ((nums ns).reverse.getD i 0)).1 = _
    rw [rev_getD' hi]; rfl
  have hy : ∀ i, (txs ns).reverse.getD i "" = (wr ((nums ns).reverse.getD i 0)).2 := fun i => by
    unfold txs
    rw [← List.map_reverse, List.getD_eq_getElem?_getD, List.getD_eq_getElem?_getD, List.getElem?_map]
    cases (nums ns).reverse[i]? with
    | none => show "" = (wr 0).2; rw [wr0]
    | some v => rfl
  have hlt : (fun i j => decide (cmpV ((txs ns).reverse.getD i "") ((txs ns).reverse.getD j "") < 0)) = ltR r' := by
    funext i j
    rw [hy, hy, wr_cmp]
    show _ = decide ((wr ((nums ns).reverse.getD i 0)).1 < (wr ((nums ns).reverse.getD j 0)).1)
    exact cmp_neg _ _
  have I := sort_ok (r := r') (n := (nums ns).length) (n1 ns)
  show StrsAre ((ans (fun i j => decide (cmpV ((txs ns).reverse.getD i "") ((txs ns).reverse.getD j "") < 0)) (kas_sort vs.length)).toList.map fun i => vs.reverse.getD i Value.none).reverse _
  rw [hlt, hl]
  have P : (ans (ltR r') (kas_sort (nums ns).length)).toList.Perm (List.range (nums ns).length) := by simpa using Array.perm_iff_toList_perm.mp I.perm
  have W := I.pair
  revert P W
  generalize (ans (ltR r') (kas_sort (nums ns).length)).toList = p
  intro P W
  have hm : ∀ i ∈ p, i < (nums ns).length := fun i hi => by have := P.mem_iff.mp hi; simpa using this
  have e1 : (p.map fun i => vs.reverse.getD i Value.none) = (p.map fun i => (nums ns).length - 1 - i).map fun i => vs.getD i Value.none := by
    rw [List.map_map]
    refine List.map_congr_left fun i hi => ?_
    have := hm i hi
    rw [rev_getD' (by rw [hl]; exact this), hl]; rfl
  have e2 : (p.map fun i => (nums ns).length - 1 - i).reverse = ordOf (psDn ns) := by
    refine List.Perm.eq_of_pairwise (le := Ord fun i => -rk ns i) (fun a b _ _ q1 q2 => (ord_asym q1 q2).elim) ?_ (dn_ord ns).2 ?_
    · rw [List.pairwise_reverse, List.pairwise_map]
      refine List.Pairwise.imp_of_mem ?_ W
      intro a b ha hb hab
      have := hm a ha
      have := hm b hb
      unfold Ord at hab
      rw [hr a (hm a ha), hr b (hm b hb)] at hab
      rcases hab with q | q
      · exact .inl (Int.neg_lt_neg q)
      · exact .inr ⟨congrArg Neg.neg q.1.symm, mir0_ord q.2 (hm b hb)⟩
    · refine ((List.reverse_perm _).trans (P.map _)).trans ?_
      refine List.Perm.trans ?_ (dn_ord ns).1.symm
      have : (List.range (nums ns).length).map (fun i => (nums ns).length - 1 - i) = (List.range (nums ns).length).reverse := by
        refine List.ext_getElem (by simp) fun i h1 h2 => ?_
        simp
      rw [this]
      exact List.reverse_perm _
  rw [e1, ← List.map_reverse, e2]
  refine strs_pick h fun i hi => ?_
  have := (dn_ord ns).1.mem_iff.mp hi
  rw [txs_len]
  simpa using this
/-- reduce tells the first of the least -/
theorem red_is (ns : List Int) : ∀ k, 1 ≤ k → k ≤ (nums ns).length → ∃ i, i < k ∧ red ((txs ns).take k) = (txs ns).getD i "" ∧ ∀ j, j < k → j ≠ i → Ord (rk ns) i j
  | 0, h, _ => absurd h (Nat.not_succ_le_zero 0)
  | 1, _, h => by
    refine ⟨0, Nat.one_pos, ?_, fun j hj hne => absurd (Nat.eq_zero_of_le_zero (Nat.le_of_lt_succ hj)) hne⟩
    have hl : 0 < (txs ns).length := by rw [txs_len]; exact h
    rw [show (1 : Nat) = 0 + 1 from rfl, List.take_succ_eq_append_getElem hl, List.getD_eq_getElem?_getD, List.getElem?_eq_getElem hl]
    rfl
  | k + 2, _, h => by
    obtain ⟨i, hi, e, o⟩ := red_is ns (k + 1) (Nat.le_add_left 1 k) (Nat.le_of_succ_le h)
    have hl : k + 1 < (txs ns).length := by rw [txs_len]; exact h
    have e' : (txs ns)[k + 1] = (txs ns).getD (k + 1) "" := by rw [List.getD_eq_getElem?_getD, List.getElem?_eq_getElem hl]; rfl
    rw [List.take_succ_eq_append_getElem hl, red_snoc (fun q => by rcases List.take_eq_nil_iff.mp q with q | q; exact absurd q (Nat.succ_ne_zero k); rw [q] at hl; exact absurd hl (Nat.not_lt_zero _)), e, e']
    unfold lesser
    rw [txs_getD, txs_getD, wr_cmp]
    by_cases hc : rk ns (k + 1) < rk ns i
    · have hc' : (wr ((nums ns).getD (k + 1) 0)).1 < (wr ((nums ns).getD i 0)).1 := hc
      rw [if_pos hc', if_pos (by decide)]
      refine ⟨k + 1, Nat.lt_succ_self _, by rw [txs_getD], fun j hj hne => ?_⟩
      by_cases q : j = i
      · rw [q]; exact .inl hc
      · exact .inl (Int.lt_of_lt_of_le hc (o j (Nat.lt_of_le_of_ne (Nat.le_of_lt_succ hj) hne) q).le)
    · have hc' : ¬ (wr ((nums ns).getD (k + 1) 0)).1 < (wr ((nums ns).getD i 0)).1 := hc
      rw [if_neg hc', if_neg (by split <;> lia)]
      refine ⟨i, Nat.lt_succ_of_lt hi, by rw [txs_getD], fun j hj hne => ?_⟩
      by_cases q : j = k + 1
      · subst q; exact .of_le (Int.not_lt.mp hc) hi
      · exact o j (Nat.lt_of_le_of_ne (Nat.le_of_lt_succ hj) q) hne
theorem red_rise (ns : List Int) : ∃ r, riseS ns = red (txs ns) :: r := by
  have h7 := nums_le ns
  obtain ⟨i, hi, e, o⟩ := red_is ns (nums ns).length (n1 ns) (Nat.le_refl _)
  rw [← txs_len, List.take_length] at e
  obtain ⟨P, W⟩ := up_ord ns
  unfold riseS
  revert P W
  generalize ordOf (psUp ns) = p
  intro P W
  cases p with
  | nil => have := P.length_eq; simp at this; lia
  | cons a p =>
    have ha : a < (nums ns).length := by have := P.mem_iff.mp (List.mem_cons_self (a := a) (l := p)); simpa using this
    have hia : a = i := by
      have hm : i ∈ a :: p := P.mem_iff.mpr (by simpa using hi)
      rcases List.mem_cons.mp hm with q | q
      · exact q.symm
      · by_cases qq : a = i
        · exact qq
        · have h1 := List.rel_of_pairwise_cons W q
          have h2 := o a ha qq
          exact (ord_asym h1 h2).elim
    exact ⟨_, by rw [List.map_cons, hia, ← e]⟩
end Mine

end

section
open PySem PySem.W PySem.W.X PyProof.Rows
set_option maxRecDepth 100000
namespace Mine
theorem Stp.cell {s s' : Shared} {c : Addr} {v : Option Value} (st : Stp No s s') (h : s.heap.IsCell c v) : s'.heap.IsCell c v := let ⟨o, e, d⟩ := h; ⟨o, st.keep _ _ (fun h => h) e, d⟩
theorem Stp.kk {s s' : Shared} (st : Stp No s s') : ∀ b o, s.heap.get? b = some o → s'.heap.get? b = some o := fun b o e => st.keep b o (fun h => h) e
/-- the pair at a place of the sorted pairs -/
theorem outP_get {h : Heap} {vs : List Value} {ps : List (Int × Int)} {f : Nat → Int} (hP : PairsAre h vs ps) (hp : (ordOf ps).Perm (List.range ps.length)) (hf : ∀ i, i < ps.length → ps.getD i (0, 0) = (f i, (i : Int))) {j : Nat} {v : Value} (hv : (outP vs ps)[j]? = some v) :
    ∃ i a t u, i < ps.length ∧ (ordOf ps)[j]? = some i ∧ v = .ref a ∧ h.get? a = some (seqObj "tuple" #[.int (f i) t, .int (i : Int) u] 0) := by
  have e : outP vs ps = (ordOf ps).map fun i => vs.getD i Value.none := by unfold outP ordOf; rw [hP.length]
  rw [e, List.getElem?_map] at hv
  cases hi : (ordOf ps)[j]? with
  | none => rw [hi] at hv; cases hv
  | some i =>
    rw [hi] at hv
    have hil : i < ps.length := by have := hp.mem_iff.mp (List.mem_of_getElem? hi); simpa using this
    have hg : ps[i]? = some (f i, (i : Int)) := by
      have := hf i hil
      rw [List.getD_eq_getElem?_getD, List.getElem?_eq_getElem hil] at this
      rw [List.getElem?_eq_getElem hil]; exact congrArg some this
    obtain ⟨a, t, u, e1, g⟩ := hP.get i _ hg
    have hv : some (vs.getD i Value.none) = some v := hv
    rw [List.getD_eq_getElem?_getD, e1] at hv
    cases hv
    exact ⟨i, a, t, u, hil, rfl, rfl, g⟩
section
variable {w : World} {A : Around} {s : Shared} {L RK TX : Addr} {cd : Value} {rvs tvs : List Value} {ns : List Int} {F : Value → Addr → Shared → Prop} {pos : Pos}
theorem rising_ok (hh : A.handled = none) (G : Grd s.heap) (hc : s.heap.IsCell (L + 1) (some (.ref RK))) (hRK : s.heap.IsList RK rvs.toArray) (hI : IntsAre rvs (rks ns))
    (hcT : s.heap.IsCell (L + 2) (some (.ref TX))) (hTX : s.heap.IsList TX tvs.toArray) (hT : StrsAre tvs (txs ns))
    (c : ∀ s' D C n zs, Stp No s s' → s.heap.get? C = none → s.heap.get? D = none → s'.heap.get? D = some (listObj zs n) → StrsAre zs (riseS ns) → (∃ m, s'.heap.Ns C m) → F (.ref D) C s') :
    CompRun w A (envL L cd) (compL 3).1 (gen0 (compL 3)).target (gen0 (compL 3)).iter (compL 3).2.2.1 [(("texts" : Str), L + 2)] pos F s := by
  obtain ⟨gm, bm, hg, hbn, Nm⟩ := G.names
  have h7 := nums_le ns
  have hol : (ordOf (psUp ns)).length = (nums ns).length := by rw [(up_ord ns).1.length_eq, List.length_range]
  refine comp_listE (N := (nums ns).length) (P := fun j x _ => ∃ i t, i < (nums ns).length ∧ (ordOf (psUp ns))[j]? = some i ∧ x = .str ((txs ns).getD i "") t) hh (n1000 ns) (fun j x h h' p _ => p) (fun s' it l i v Q hi hq => letOwned_li hi hq) ?_
    (fun s' D C n zs st hC hD hDo hzl hP hCn => c s' D C n zs st hC hD hDo (strs_build (by unfold riseS; rw [List.length_map, hol, hzl]) fun j x hj => ?_) hCn)
  · refine Call_ ?_
    refine r_blt (env := envL L cd) hg Nm.none.2.2.1 hbn Nm.sorted ?_
    refine PyProof.Rows.callWith_builtin1 ?_
    refine args_cons ?_
    refine pairsUp hh G hc hRK hI (fun s₁ D vs n st₁ hD hP => ?_)
    refine args_nil ?_
    have hvl : vs.length = (nums ns).length := by rw [hP.length, psUp_len]
    refine sortedP (vs := vs) ⟨_, hD, rfl, n, rfl⟩ hP (by rw [hvl]; exact (nums_le ns).1) (by rw [hvl]; exact n64 ns) (fun s₂ D₂ n₂ st₂ _ hD₂ => ?_)
    refine ⟨D₂, outP vs (psUp ns), rfl, ?_, st₁.trans st₂, ⟨_, hD₂, rfl, n₂, rfl⟩, fun C hC j v s' mC hv st' hnC => ?_⟩
    · have : (outP vs (psUp ns)).length = (ordOf (psUp ns)).length := by unfold outP ordOf; rw [List.length_map, hP.length]
      rw [this, hol]
    have st3 : Stp No s s' := (st₁.trans st₂).trans st'
    have hCs : s.heap.get? C = none := by
      cases e : s.heap.get? C with
      | none => rfl
      | some o => rw [(st₁.trans st₂).kk _ _ e] at hC; cases hC
    obtain ⟨i, a, t, u, hil, hoi, rfl, hT'⟩ := outP_get (f := rk ns) (hP.keeps (st₂.trans st').kk) (by rw [psUp_len]; exact (up_ord ns).1) (fun i hi => up_getD hi) hv
    rw [psUp_len] at hil
    refine r_unpack2 (env := compEnvC (compL 3).2.2.1 [(("texts" : Str), L + 2)] C (envL L cd)) (m := mC) hh (v₁ := .int (rk ns i) t) (v₂ := .int (i : Int) u) ⟨_, hT', rfl, 0, rfl⟩ hnC (fun s₃ st₃ hg₃ hn₃ => ?_)
    have kk3 : ∀ b o, s.heap.get? b = some o → s₃.heap.get? b = some o := fun b o e => st₃.keep b o (fun q => by rw [show b = C from q, hCs] at e; cases e) (st3.kk b o e)
    have hit : i < (txs ns).length := by rw [txs_len]; exact hil
    obtain ⟨tt, ht⟩ := hT.at (j := i) (y := (txs ns).getD i "") (by rw [List.getD_eq_getElem?_getD, List.getElem?_eq_getElem hit]; rfl)
    refine Subscript_ ?_
    refine wpAny_Name (wpAny_loadName_cell (env := compEnvC (compL 3).2.2.1 [(("texts" : Str), L + 2)] C (envL L cd)) rfl rfl rfl (v := .ref TX) (let ⟨o, e, d⟩ := hcT; ⟨o, kk3 _ _ e, d⟩) ?_) (by decide)
    refine r_ld (env := compEnvC (compL 3).2.2.1 [(("texts" : Str), L + 2)] C (envL L cd)) hn₃ (v := .int (i : Int) u) put_self ?_
    refine item_list (hTX.at fun o e => kk3 _ _ e) (i0 _) (i63 hil) (x := .str ((txs ns).getD i "") tt) (by simpa using ht) ?_
    exact ⟨st₃, ⟨_, hn₃⟩, i, tt, hil, hoi, rfl⟩
  · obtain ⟨i, t, hi, e1, e2⟩ := hP j x hj
    exact ⟨_, t, by unfold riseS; rw [List.getElem?_map, e1]; rfl, e2⟩
theorem sinking_ok (hh : A.handled = none) (G : Grd s.heap) (hc : s.heap.IsCell (L + 1) (some (.ref RK))) (hRK : s.heap.IsList RK rvs.toArray) (hI : IntsAre rvs (rks ns))
    (hcT : s.heap.IsCell (L + 2) (some (.ref TX))) (hTX : s.heap.IsList TX tvs.toArray) (hT : StrsAre tvs (txs ns))
    (c : ∀ s' D C n zs, Stp No s s' → s.heap.get? C = none → s.heap.get? D = none → s'.heap.get? D = some (listObj zs n) → StrsAre zs (sinkS ns) → (∃ m, s'.heap.Ns C m) → F (.ref D) C s') :
    CompRun w A (envL L cd) (compL 4).1 (gen0 (compL 4)).target (gen0 (compL 4)).iter (compL 4).2.2.1 [(("texts" : Str), L + 2)] pos F s := by
  obtain ⟨gm, bm, hg, hbn, Nm⟩ := G.names
  have h7 := nums_le ns
  have hol : (ordOf (psDn ns)).length = (nums ns).length := by rw [(dn_ord ns).1.length_eq, List.length_range]
  refine comp_listE (N := (nums ns).length) (P := fun j x _ => ∃ i t, i < (nums ns).length ∧ (ordOf (psDn ns))[j]? = some i ∧ x = .str ((txs ns).getD i "") t) hh (n1000 ns) (fun j x h h' p _ => p) (fun s' it l i v Q hi hq => letOwned_li hi hq) ?_
    (fun s' D C n zs st hC hD hDo hzl hP hCn => c s' D C n zs st hC hD hDo (strs_build (by unfold sinkS; rw [List.length_map, hol, hzl]) fun j x hj => ?_) hCn)
  · refine Call_ ?_
    refine r_blt (env := envL L cd) hg Nm.none.2.2.1 hbn Nm.sorted ?_
    refine PyProof.Rows.callWith_builtin1 ?_
    refine args_cons ?_
    refine pairsDn hh G hc hRK hI (fun s₁ D vs n st₁ hD hP => ?_)
    refine args_nil ?_
    have hvl : vs.length = (nums ns).length := by rw [hP.length, psDn_len]
    refine sortedP (vs := vs) ⟨_, hD, rfl, n, rfl⟩ hP (by rw [hvl]; exact (nums_le ns).1) (by rw [hvl]; exact n64 ns) (fun s₂ D₂ n₂ st₂ _ hD₂ => ?_)
    refine ⟨D₂, outP vs (psDn ns), rfl, ?_, st₁.trans st₂, ⟨_, hD₂, rfl, n₂, rfl⟩, fun C hC j v s' mC hv st' hnC => ?_⟩
    · have : (outP vs (psDn ns)).length = (ordOf (psDn ns)).length := by unfold outP ordOf; rw [List.length_map, hP.length]
      rw [this, hol]
    have st3 : Stp No s s' := (st₁.trans st₂).trans st'
    have hCs : s.heap.get? C = none := by
      cases e : s.heap.get? C with
      | none => rfl
      | some o => rw [(st₁.trans st₂).kk _ _ e] at hC; cases hC
    obtain ⟨i, a, t, u, hil, hoi, rfl, hT'⟩ := outP_get (f := fun i => -rk ns i) (hP.keeps (st₂.trans st').kk) (by rw [psDn_len]; exact (dn_ord ns).1) (fun i hi => dn_getD hi) hv
    rw [psDn_len] at hil
    refine r_unpack2 (env := compEnvC (compL 4).2.2.1 [(("texts" : Str), L + 2)] C (envL L cd)) (m := mC) hh (v₁ := .int (-rk ns i) t) (v₂ := .int (i : Int) u) ⟨_, hT', rfl, 0, rfl⟩ hnC (fun s₃ st₃ hg₃ hn₃ => ?_)
    have kk3 : ∀ b o, s.heap.get? b = some o → s₃.heap.get? b = some o := fun b o e => st₃.keep b o (fun q => by rw [show b = C from q, hCs] at e; cases e) (st3.kk b o e)
    have hit : i < (txs ns).length := by rw [txs_len]; exact hil
    obtain ⟨tt, ht⟩ := hT.at (j := i) (y := (txs ns).getD i "") (by rw [List.getD_eq_getElem?_getD, List.getElem?_eq_getElem hit]; rfl)
    refine Subscript_ ?_
    refine wpAny_Name (wpAny_loadName_cell (env := compEnvC (compL 4).2.2.1 [(("texts" : Str), L + 2)] C (envL L cd)) rfl rfl rfl (v := .ref TX) (let ⟨o, e, d⟩ := hcT; ⟨o, kk3 _ _ e, d⟩) ?_) (by decide)
    refine r_ld (env := compEnvC (compL 4).2.2.1 [(("texts" : Str), L + 2)] C (envL L cd)) hn₃ (v := .int (i : Int) u) put_self ?_
    refine item_list (hTX.at fun o e => kk3 _ _ e) (i0 _) (i63 hil) (x := .str ((txs ns).getD i "") tt) (by simpa using ht) ?_
    exact ⟨st₃, ⟨_, hn₃⟩, i, tt, hil, hoi, rfl⟩
  · obtain ⟨i, t, hi, e1, e2⟩ := hP j x hj
    exact ⟨_, t, by unfold sinkS; rw [List.getElem?_map, e1]; rfl, e2⟩
end
end Mine

end

section
open PySem PySem.W PySem.W.X PyProof.Rows
set_option maxRecDepth 100000
namespace Mine
theorem nn3 (L : Nat) : L + 1 ≠ L + 2 := nn1 (L + 1)
abbrev Lx (L : Addr) : Addr → Prop := fun b => b = L ∨ b = L + 1 ∨ b = L + 2
/-- the law's frame and its two cells -/
structure At3 (s₀ s : Shared) (L : Addr) (m : Str → Option Value) (rv tv : Option Value) : Prop where
  ns : s.heap.Ns L m
  rc : s.heap.IsCell (L + 1) rv
  tc : s.heap.IsCell (L + 2) tv
  st : Stp (Lx L) s₀ s
theorem At3.next {s₀ s s' : Shared} {L : Addr} {m : Str → Option Value} {rv tv : Option Value} (a : At3 s₀ s L m rv tv) (st : Stp No s s') : At3 s₀ s' L m rv tv :=
  ⟨a.ns.keeps st.kk, st.cell a.rc, st.cell a.tc, a.st.trans st.any⟩
theorem At3.loc {s₀ s s' : Shared} {L : Addr} {m m' : Str → Option Value} {rv tv : Option Value} (a : At3 s₀ s L m rv tv) (st : Stp (Is L) s s') (hn : s'.heap.Ns L m') : At3 s₀ s' L m' rv tv :=
  ⟨hn, let ⟨o, e, d⟩ := a.rc; ⟨o, st.keep _ _ (Nat.succ_ne_self L) e, d⟩, let ⟨o, e, d⟩ := a.tc; ⟨o, st.keep _ _ (nn2 L).symm e, d⟩, a.st.trans (st.weak fun _ h => .inl h)⟩
theorem ne_cell {h : Heap} {c b : Addr} {v : Option Value} {o : Obj} (hc : h.IsCell c v) (hb : h.get? b = some o) (hd : ∀ v, o.data ≠ .cell v) : b ≠ c := by
  rintro rfl
  obtain ⟨o', e, d⟩ := hc
  rw [hb] at e
  cases e
  exact hd _ d
section
variable {w : World} {A : Around} {E : Value → Shared → Prop} {s₀ s : Shared} {L : Addr} {cd : Value} {m : Str → Option Value} {rv tv : Option Value}
/-- ranks = v -/
theorem st_ranks {v : Value} {Q : Unit → Shared → Prop} (a : At3 s₀ s L m rv tv) (c : ∀ s', At3 s₀ s' L m (some v) tv → Stp (Is (L + 1)) s s' → Q () s') : wpAny (GM w) A (storeName (envL L cd) "ranks" v) Q E s := by
  refine wpAny_storeName_cell (env := envL L cd) rfl rfl rfl a.rc (fun h' hv sb => c _ ⟨a.ns.sameBut sb (nn1 L), hv, ?_, a.st.trans ⟨fun b o hb e => sb.extBut b o (fun q => hb (.inr (.inl q))) e, rfl, fun _ _ e => e, fun e => e⟩⟩ ⟨fun b o hb e => sb.extBut b o hb e, rfl, fun _ _ e => e, fun e => e⟩)
  obtain ⟨o, e, d⟩ := a.tc
  exact ⟨o, sb.extBut _ _ (nn3 L).symm e, d⟩
/-- texts = v -/
theorem st_texts {v : Value} {Q : Unit → Shared → Prop} (a : At3 s₀ s L m rv tv) (c : ∀ s', At3 s₀ s' L m rv (some v) → Stp (Is (L + 2)) s s' → Q () s') : wpAny (GM w) A (storeName (envL L cd) "texts" v) Q E s := by
  refine wpAny_storeName_cell (env := envL L cd) rfl rfl rfl a.tc (fun h' hv sb => c _ ⟨a.ns.sameBut sb (nn2 L), ?_, hv, a.st.trans ⟨fun b o hb e => sb.extBut b o (fun q => hb (.inr (.inr q))) e, rfl, fun _ _ e => e, fun e => e⟩⟩ ⟨fun b o hb e => sb.extBut b o hb e, rfl, fun _ _ e => e, fun e => e⟩)
  obtain ⟨o, e, d⟩ := a.rc
  exact ⟨o, sb.extBut _ _ (nn3 L) e, d⟩
end
/-- a list made in a comprehension, the comprehension's names gone -/
theorem comp_gone {s s' : Shared} {C D : Addr} {n : Nat} {vs : List Value} {h' : Heap} (st : Stp No s s') (hC : s.heap.get? C = none) (hD : s'.heap.get? D = some (listObj vs n)) (hCn : ∃ m, s'.heap.Ns C m) (sb : Heap.SameBut C s'.heap h') : Stp No s { s' with heap := h' } ∧ h'.get? D = some (listObj vs n) := by
  obtain ⟨mC, hCn⟩ := hCn
  exact ⟨⟨fun b o hb e => sb.extBut b o (fun q => by rw [q, hC] at e; cases e) (st.keep b o hb e), st.os, st.gens, st.bare⟩, sb.extBut D _ (ne_ns hCn hD (fun _ _ h => by cases h)) hD⟩
set_option maxHeartbeats 1000000 in
theorem law_first {w : World} {A : Around} {E : Value → Shared → Prop} {s₀ s : Shared} {L l0 : Addr} {cd : Value} {m : Str → Option Value} {vs0 : List Value} {ns : List Int} {Q : Flow → Shared → Prop} (rm : Rm 5 A) (G : Grd s₀.heap) (fr : ∀ b, Lx L b → s₀.heap.get? b = none)
    (a : At3 s₀ s L m none none) (hm : m "script" = some (.ref l0)) (hi0 : m "__init__" = none) (hl : s₀.heap.IsList l0 vs0.toArray) (hi : IntsAre vs0 ns) (hb : ns.length ≤ 100)
    (c : ∀ s' m' RK TX RI SI rvs tvs rz sz, At3 s₀ s' L m' (some (.ref RK)) (some (.ref TX)) → s'.heap.IsList RK rvs.toArray → IntsAre rvs (rks ns) → s'.heap.IsList TX tvs.toArray → StrsAre tvs (txs ns) → m' "rising" = some (.ref RI) → s'.heap.IsList RI rz.toArray → StrsAre rz (riseS ns) →
      m' "sinking" = some (.ref SI) → s'.heap.IsList SI sz.toArray → StrsAre sz (sinkS ns) → m' "script" = some (.ref l0) → m' "__init__" = none → wpAny (GM w) A (execs ((bodyOf (top 10)).drop 5) (envL L cd)) Q E s') :
    wpAny (GM w) A (execs (bodyOf (top 10)) (envL L cd)) Q E s := by
  have gr : ∀ {s'}, Stp (Lx L) s₀ s' → Grd s'.heap := fun st => G.keeps fun b o e => st.keep b o (fun q => by rw [fr b q] at e; cases e) e
  have il : ∀ {s'}, Stp (Lx L) s₀ s' → s'.heap.IsList l0 vs0.toArray := fun st => hl.at fun o e => st.keep _ o (fun q => by rw [fr _ q] at e; cases e) e
  -- rows
  refine wpAny_execs_cons ?_
  refine r_compAsg (cl := []) (closureFor_none (by decide)) (by decide) rfl (by decide) ?_
  refine rows_ok (ns := ns) rm (gr a.st) a.ns hm (il a.st) hi hb (fun s₁ D₁ C₁ n₁ xs st₁ hC₁ hDn₁ hD₁ hxl hrow hCn₁ => ?_)
  refine comp_stored (env := envL L cd) (t := "rows") a.ns st₁ hC₁ hD₁ hCn₁ ?_
  intro s₂ h₂ st₂
  revert st₂
  rw [show h₂ = ({ s₂ with heap := h₂ } : Shared).heap from rfl]
  generalize ({ s₂ with heap := h₂ } : Shared) = s₂
  intro st₂ hn₂ hD₂ hk₂
  have hrow : ∀ (j : Nat) (x : Value), xs[j]? = some x → RowAt ns j x s₂.heap := fun j x hj => (hrow j x hj).pers fun b ts tn e => hk₂ b _ e (fun _ _ h => by cases h)
  have a := a.loc st₂ hn₂
  dsimp only
  -- ranks
  refine wpAny_execs_cons ?_
  refine wpAny_Assign_Name ?_
  refine r_comp (cl := []) (closureFor_none (by decide)) (by decide) rfl (by decide) ?_
  refine ranks_ok (ns := ns) rm.1 a.ns (R := D₁) (by exact put_self) ⟨_, hD₂, rfl, n₁, rfl⟩ hxl hrow (fun s₃ RK C₃ n₃ rvs st₃ hC₃ hDn₃ hD₃ hI hCn₃ => ⟨hCn₃, fun h₃ sb₃ => ?_⟩)
  obtain ⟨st₃, hD₃⟩ := comp_gone st₃ hC₃ hD₃ hCn₃ sb₃
  revert st₃ hD₃
  rw [show h₃ = ({ s₃ with heap := h₃ } : Shared).heap from rfl]
  generalize ({ s₃ with heap := h₃ } : Shared) = s₃
  intro st₃ hD₃
  have a := a.next st₃
  have hrow : ∀ (j : Nat) (x : Value), xs[j]? = some x → RowAt ns j x s₃.heap := fun j x hj => (hrow j x hj).pers fun b ts tn e => st₃.kk b _ e
  have hD₂ := st₃.kk _ _ hD₂
  refine st_ranks a (fun s₄ a₄ st₄ => ?_)
  have nc : ∀ (b : Nat) (o : Obj), s₃.heap.get? b = some o → (∀ v, o.data ≠ .cell v) → s₄.heap.get? b = some o := fun b o e hd => st₄.keep b o (ne_cell a.rc e hd) e
  have hD₂ := nc _ _ hD₂ (fun _ h => by cases h)
  have hRK := nc _ _ hD₃ (fun _ h => by cases h)
  have hrow : ∀ (j : Nat) (x : Value), xs[j]? = some x → RowAt ns j x s₄.heap := fun j x hj => (hrow j x hj).pers fun b ts tn e => nc b _ e (fun _ h => by cases h)
  dsimp only
  -- texts
  refine wpAny_execs_cons ?_
  refine wpAny_Assign_Name ?_
  refine r_comp (cl := []) (closureFor_none (by decide)) (by decide) rfl (by decide) ?_
  refine texts_ok (ns := ns) rm.1 a₄.ns (R := D₁) (by exact put_self) ⟨_, hD₂, rfl, n₁, rfl⟩ hxl hrow (fun s₅ TX C₅ n₅ tvs st₅ hC₅ hDn₅ hD₅ hT hCn₅ => ⟨hCn₅, fun h₅ sb₅ => ?_⟩)
  obtain ⟨st₅, hD₅⟩ := comp_gone st₅ hC₅ hD₅ hCn₅ sb₅
  revert st₅ hD₅
  rw [show h₅ = ({ s₅ with heap := h₅ } : Shared).heap from rfl]
  generalize ({ s₅ with heap := h₅ } : Shared) = s₅
  intro st₅ hD₅
  have a := a₄.next st₅
  have hRK := st₅.kk _ _ hRK
  refine st_texts a (fun s₆ a₆ st₆ => ?_)
  have nc : ∀ (b : Nat) (o : Obj), s₅.heap.get? b = some o → (∀ v, o.data ≠ .cell v) → s₆.heap.get? b = some o := fun b o e hd => st₆.keep b o (ne_cell a.tc e hd) e
  have hRK := nc _ _ hRK (fun _ h => by cases h)
  have hTX := nc _ _ hD₅ (fun _ h => by cases h)
  dsimp only
  -- rising
  refine wpAny_execs_cons ?_
  refine r_compAsg (cl := [(("texts" : Str), L + 2)]) (by kernel_rfl) (by decide) rfl (by decide) ?_
  refine rising_ok (ns := ns) rm.1 (gr a₆.st) a₆.rc ⟨_, hRK, rfl, n₃, rfl⟩ hI a₆.tc ⟨_, hTX, rfl, n₅, rfl⟩ hT (fun s₇ RI C₇ n₇ rz st₇ hC₇ hDn₇ hD₇ hrz hCn₇ => ?_)
  refine comp_stored (env := envL L cd) (t := "rising") a₆.ns st₇ hC₇ hD₇ hCn₇ ?_
  intro s₈ h₈ st₈
  revert st₈
  rw [show h₈ = ({ s₈ with heap := h₈ } : Shared).heap from rfl]
  generalize ({ s₈ with heap := h₈ } : Shared) = s₈
  intro st₈ hn₈ hRI _
  have hRK := st₈.keep _ _ (ne_ns a₆.ns hRK (fun _ _ h => by cases h)) hRK
  have hTX := st₈.keep _ _ (ne_ns a₆.ns hTX (fun _ _ h => by cases h)) hTX
  have a₈ := a₆.loc st₈ hn₈
  dsimp only
  -- sinking
  refine wpAny_execs_cons ?_
  refine r_compAsg (cl := [(("texts" : Str), L + 2)]) (by kernel_rfl) (by decide) rfl (by decide) ?_
  refine sinking_ok (ns := ns) rm.1 (gr a₈.st) a₈.rc ⟨_, hRK, rfl, n₃, rfl⟩ hI a₈.tc ⟨_, hTX, rfl, n₅, rfl⟩ hT (fun s₇ SI C₇ n₉ sz st₇ hC₇ hDn₇ hD₇ hsz hCn₇ => ?_)
  refine comp_stored (env := envL L cd) (t := "sinking") a₈.ns st₇ hC₇ hD₇ hCn₇ ?_
  intro s₉ h₉ st₉
  revert st₉
  rw [show h₉ = ({ s₉ with heap := h₉ } : Shared).heap from rfl]
  generalize ({ s₉ with heap := h₉ } : Shared) = s₉
  intro st₉ hn₉ hSI _
  have hRK := st₉.keep _ _ (ne_ns a₈.ns hRK (fun _ _ h => by cases h)) hRK
  have hTX := st₉.keep _ _ (ne_ns a₈.ns hTX (fun _ _ h => by cases h)) hTX
  have hRI := st₉.keep _ _ (ne_ns a₈.ns hRI (fun _ _ h => by cases h)) hRI
  have a₉ := a₈.loc st₉ hn₉
  dsimp only
  refine c s₉ _ RK TX RI SI rvs tvs rz sz a₉ ⟨_, hRK, rfl, n₃, rfl⟩ hI ⟨_, hTX, rfl, n₅, rfl⟩ hT ?_ ⟨_, hRI, rfl, n₇, rfl⟩ hrz put_self ⟨_, hSI, rfl, n₉, rfl⟩ hsz ?_ ?_
  · rw [put_ne (by decide), put_self]
  · rw [put_ne (by decide), put_ne (by decide), put_ne (by decide)]; exact hm
  · rw [put_ne (by decide), put_ne (by decide), put_ne (by decide)]; exact hi0
end Mine

end

section
open PySem PySem.W PySem.W.X PyProof.Rows
set_option maxRecDepth 100000
namespace Mine
theorem keepK {K : Frag} {C : Addr} {e : Ent} {cell D : Addr} (x : FragK K C e cell D) : keepIn K (.ref C) = true := by
  obtain ⟨ns, b, tn, i, k, j, l, h1, h2⟩ := x.cls
  have ht : typeIn K (.ref C) = some (.type "type") := by
    show (K.lookup C).map (·.cls) = _
    rw [h1]; rfl
  have hs : specialIn K (.ref C) "__call__" = some (some (.builtin "type.__call__")) := by
    unfold specialIn
    rw [ht]
    show fastLookup "type" "__call__" = _
    kernel_rfl
  unfold keepIn
  dsimp only
  rw [h1]
  dsimp only
  rw [hs]
  rfl
/-- the ground, but for the code table 16 -/
theorem IsFn.but {h h' : Heap} {a P : Addr} {n : Nat} {nm : Str} (x : IsFn h a n nm) (hP : h.get? P = some (tabObj #[])) (k : ∀ b o, b ≠ P → h.get? b = some o → h'.get? b = some o) : IsFn h' a n nm := by
  obtain ⟨o, pm, cd, doc, e, d, c⟩ := x
  refine ⟨o, pm, cd, doc, k _ _ (fun q => ?_) e, d, ?_⟩
  · rw [q, hP] at e; cases e; cases d
  · obtain ⟨c₂, oc, vs, t₂, e2, hoc, hd, hv⟩ := c
    refine ⟨c₂, oc, vs, t₂, e2, k _ _ (fun q => ?_) hoc, hd, hv⟩
    rw [q, hP] at hoc; cases hoc
    have : (#[] : Array Value) = vs := by cases hd; rfl
    rw [← this] at hv
    simp at hv
theorem Ns.but {h h' : Heap} {a P : Addr} {m : Str → Option Value} (x : h.Ns a m) (hP : h.get? P = some (tabObj #[])) (k : ∀ b o, b ≠ P → h.get? b = some o → h'.get? b = some o) : h'.Ns a m := by
  obtain ⟨o, es, ep, e, d, r⟩ := x
  exact ⟨o, es, ep, k _ _ (fun q => by rw [q, hP] at e; cases e; cases d) e, d, r⟩
theorem Grd.but {h h' : Heap} {P : Addr} (G : Grd h) (hP : h.get? P = some (tabObj #[])) (k : ∀ b o, b ≠ P → h.get? b = some o → h'.get? b = some o) : Grd h' :=
  ⟨let ⟨gm, bm, a, b, c⟩ := G.names; ⟨gm, bm, Ns.but a hP k, Ns.but b hP k, c⟩, let ⟨mc, a, b⟩ := G.lim; ⟨mc, Ns.but a hP k, b⟩, G.chars.but hP k, G.written.but hP k, G.compare.but hP k, G.lesser.but hP k⟩
theorem RedFn.but {h h' : Heap} {P : Addr} (x : RedFn h) (hP : h.get? P = some (tabObj #[])) (k : ∀ b o, b ≠ P → h.get? b = some o → h'.get? b = some o) : RedFn h' := by
  obtain ⟨o, pm, cd, doc, e, d, c, t⟩ := x
  refine ⟨o, pm, cd, doc, k _ _ (fun q => ?_) e, d, ?_, k _ _ (fun q => ?_) t⟩
  · rw [q, hP] at e; cases e; cases d
  · obtain ⟨c₂, oc, vs, t₂, e2, hoc, hd, hv⟩ := c
    refine ⟨c₂, oc, vs, t₂, e2, k _ _ (fun q => ?_) hoc, hd, hv⟩
    rw [q, hP] at hoc; cases hoc
    have : (#[] : Array Value) = vs := by cases hd; rfl
    rw [← this] at hv
    simp at hv
  · rw [q, hP] at t; cases t
/-- the law's ground -/
structure Gr (h : Heap) : Prop where
  grd : Grd h
  red : RedFn h
  cls : ∃ gm bm mc, ClsG h 20 16 gm bm mc
  keyf : ∃ o pm doc, h.get? 21 = some o ∧ o.data = .func (Calls.docDef "cmp_to_key" (argsOf (top 1)) (bodyOf (top 1)) (scopeOf (top 1)) pm (.ref 20) doc) ∧ h.CodeRec (.ref 20) "cmp_to_key"
theorem Gr.tab {h : Heap} (G : Gr h) : h.get? 16 = some (tabObj #[]) := let ⟨_, _, _, x⟩ := G.cls; x.tab
/-- the state from the key on -/
structure Ph (s₀ s : Shared) (L : Addr) (m : Str → Option Value) (RK TX C cc : Addr) (rvs tvs : List Value) : Prop where
  st : Stp (Is 16) s₀ s
  tab : s.heap.get? 16 = some (tabObj #[rawInt 4, rawInt 4, .ref cc])
  ns : s.heap.Ns L m
  rc : s.heap.IsCell (L + 1) (some (.ref RK))
  tc : s.heap.IsCell (L + 2) (some (.ref TX))
  rl : s.heap.IsList RK rvs.toArray
  tl : s.heap.IsList TX tvs.toArray
  kls : ∃ e cell n, ClassOk s.heap C e cell n ∧ s.heap.IsCell cell (some (.ref 49)) ∧ n ≠ L
section
variable {s₀ s s' : Shared} {L RK TX C cc : Addr} {m m' : Str → Option Value} {rvs tvs : List Value}
theorem Ph.next (p : Ph s₀ s L m RK TX C cc rvs tvs) (st : Stp No s s') : Ph s₀ s' L m RK TX C cc rvs tvs :=
  ⟨p.st.trans st.any, st.kk _ _ p.tab, p.ns.keeps st.kk, st.cell p.rc, st.cell p.tc, p.rl.at fun o e => st.kk _ _ e, p.tl.at fun o e => st.kk _ _ e, by obtain ⟨e, cell, n, a, b, c⟩ := p.kls; exact ⟨e, cell, n, a.keeps st.kk, st.cell b, c⟩⟩
theorem list_but {h h' : Heap} {a L : Addr} {vs : Array Value} {m : Str → Option Value} (x : h.IsList a vs) (hn : h.Ns L m) (k : ∀ b o, b ≠ L → h.get? b = some o → h'.get? b = some o) : h'.IsList a vs := by
  obtain ⟨o, e, c, n, d⟩ := x
  exact ⟨o, k _ _ (ne_ns hn e (fun _ _ q => by rw [d] at q; cases q)) e, c, n, d⟩
theorem cell_but {h h' : Heap} {a L : Addr} {v : Option Value} {m : Str → Option Value} (x : h.IsCell a v) (hn : h.Ns L m) (k : ∀ b o, b ≠ L → h.get? b = some o → h'.get? b = some o) : h'.IsCell a v := by
  obtain ⟨o, e, d⟩ := x
  exact ⟨o, k _ _ (ne_ns hn e (fun _ _ q => by rw [d] at q; cases q)) e, d⟩
theorem Ph.loc (p : Ph s₀ s L m RK TX C cc rvs tvs) (hL : s₀.heap.get? L = none) (st : Stp (Is L) s s') (hn : s'.heap.Ns L m') : Ph s₀ s' L m' RK TX C cc rvs tvs := by
  have k : ∀ b o, b ≠ L → s.heap.get? b = some o → s'.heap.get? b = some o := fun b o hb e => st.keep b o hb e
  refine ⟨⟨fun b o hb e => k b o (fun q => by rw [q, hL] at e; cases e) (p.st.keep b o hb e), st.os.trans p.st.os, fun i g e => st.gens i g (p.st.gens i g e), fun e => st.bare (p.st.bare e)⟩, k _ _ (ne_ns p.ns p.tab (fun _ _ q => by cases q)) p.tab, hn, cell_but p.rc p.ns k, cell_but p.tc p.ns k, list_but p.rl p.ns k, list_but p.tl p.ns k, ?_⟩
  obtain ⟨e, cell, n, a, b, c⟩ := p.kls
  exact ⟨e, cell, n, a.but p.ns c k, cell_but b p.ns k, c⟩
theorem Ph.grd (p : Ph s₀ s L m RK TX C cc rvs tvs) (G : Gr s₀.heap) : Grd s.heap := G.grd.but G.tab fun b o hb e => p.st.keep b o hb e
theorem Ph.red (p : Ph s₀ s L m RK TX C cc rvs tvs) (G : Gr s₀.heap) : RedFn s.heap := G.red.but G.tab fun b o hb e => p.st.keep b o hb e
theorem Ph.cls (p : Ph s₀ s L m RK TX C cc rvs tvs) : Kls s.heap C := by obtain ⟨e, cell, n, a, b, _⟩ := p.kls; exact ⟨e, cell, n, a, b⟩
end
/-- key = cmp_to_key(_law_compare) -/
theorem key_stmt {w : World} {A : Around} {E : Value → Shared → Prop} {s₀ s : Shared} {L RK TX : Addr} {cd : Value} {m : Str → Option Value} {rvs tvs : List Value} {Q : Flow → Shared → Prop} (rm : Rm 2 A) (G : Gr s₀.heap) (fr : ∀ b, Lx L b → s₀.heap.get? b = none)
    (a : At3 s₀ s L m (some (.ref RK)) (some (.ref TX))) (hR : s.heap.IsList RK rvs.toArray) (hT : s.heap.IsList TX tvs.toArray) (hi0 : m "__init__" = none)
    (c : ∀ s' C cc, Ph s₀ s' L (put m "key" (.ref C)) RK TX C cc rvs tvs → (∀ b vs, s.heap.IsList b vs → s'.heap.IsList b vs) → Q .next s') :
    wpAny (GM w) A (exec ((bodyOf (top 10))[5]?.getD (.Pass ⟨0, 0, 0, 0⟩)) (envL L cd)) Q E s := by
  have kk : ∀ b o, s₀.heap.get? b = some o → s.heap.get? b = some o := fun b o e => a.st.keep b o (fun q => by rw [fr b q] at e; cases e) e
  obtain ⟨gm, bm, hg, hb, N⟩ := G.grd.names
  obtain ⟨gm', bm', mc, CG⟩ := G.cls
  obtain ⟨o, pm, doc, e1, e2, e3⟩ := G.keyf
  have h16 := kk _ _ G.tab
  have hL16 : L ≠ 16 := fun q => by have := G.tab; rw [← q, fr L (.inl rfl)] at this; cases this
  refine wpAny_Assign_Name ?_
  refine Call_ ?_
  refine r_glob (env := envL L cd) (hg.keeps kk) N.key ?_
  refine r_callF (o := o) (fd := Calls.docDef "cmp_to_key" (argsOf (top 1)) (bodyOf (top 1)) (scopeOf (top 1)) pm (.ref 20) doc) ?_
  refine args_cons ?_
  refine r_glob (env := envL L cd) (hg.keeps kk) N.compare ?_
  refine args_nil ?_
  refine ⟨⟨kk _ _ e1, e2⟩, ?_⟩
  refine wpAny_call ?_
  refine key_ok rm (CG.keeps kk) (kk _ _ e1) e2 (e3.keeps kk) (fun s' C e cell n cc st CO hcell htab hCn => ?_)
  have k' : ∀ b o, b ≠ 16 → s.heap.get? b = some o → s'.heap.get? b = some o := fun b o hb e => st.keep b o hb e
  have hn' : s'.heap.Ns L m := a.ns.at' fun o e => k' _ _ hL16 e
  have cel : ∀ {c v}, s.heap.IsCell c v → s'.heap.IsCell c v := fun ⟨o, e, d⟩ => ⟨o, k' _ _ (fun q => by rw [q, h16] at e; cases e; cases d) e, d⟩
  have lst : ∀ {b vs}, s.heap.IsList b vs → s'.heap.IsList b vs := fun ⟨o, e, c, n, d⟩ => ⟨o, k' _ _ (fun q => by rw [q, h16] at e; cases e; cases d) e, c, n, d⟩
  have hnL : n ≠ L := fun q => by
    obtain ⟨D, b, tn, i, k, j, l, q', y⟩ := CO.at_
    obtain ⟨o, es, ep, eo, d, _, hf⟩ := hn'
    rw [← q, y.ns] at eo
    cases eo
    cases d
    have := hf "__init__"
    rw [hi0] at this
    have hne : nsFind (e.es4 i k D j l) "__init__" = some (.ref e.f4) := by kernel_rfl
    rw [hne] at this
    cases this
  have P : Ph s₀ s' L m RK TX C cc rvs tvs := ⟨⟨fun b o hb e => k' b o hb (kk b o e), st.os.trans a.st.os, fun i g e => st.gens i g (a.st.gens i g e), fun e => st.bare (a.st.bare e)⟩, htab, hn', cel a.rc, cel a.tc, lst hR, lst hT, e, cell, n, CO, hcell, hnL⟩
  refine r_st (env := envL L cd) hn' (fun s₂ st₂ hn₂ => ?_)
  exact c s₂ C cc (P.loc (fr L (.inl rfl)) st₂ hn₂) fun b vs x => list_but (lst x) hn' fun b o hb e => st₂.keep b o hb e
end Mine

end

section
open PySem PySem.W PySem.W.X PyProof.Rows
set_option maxRecDepth 100000
namespace Mine
abbrev lawSt (n : Nat) : Stmt := (bodyOf (top 10))[n]?.getD (.Pass ⟨0, 0, 0, 0⟩)
theorem txs_size {ns : List Int} : ∀ y ∈ txs ns, y.cps.size ≤ 1000 := by
  intro y hy
  obtain ⟨v, _, rfl⟩ := List.mem_map.mp hy
  have := wr_len v
  have : (wr v).2.cps.size ≤ 6 := this
  omega
theorem pick_asc {ns : List Int} {l : List Nat} : ∀ y ∈ l.map (fun i => (txs ns).getD i ""), Asc y := by
  intro y hy
  obtain ⟨i, _, rfl⟩ := List.mem_map.mp hy
  rw [txs_getD]
  exact wr_asc _
theorem Rm.u64 {n : Nat} {A : Around} (h : Rm (n + 5) A) : A.units + 64 < cLine :=
  Nat.lt_of_le_of_lt (Nat.add_le_add_left (Nat.le_trans (show 64 ≤ 16 * 5 by decide) (Nat.mul_le_mul_left 16 (Nat.le_add_left 5 n))) _) h.2.2
section
variable {w : World} {A : Around} {E : Value → Shared → Prop} {s₀ s : Shared} {L RK TX C cc : Addr} {cd : Value} {m : Str → Option Value} {rvs tvs : List Value} {ns : List Int} {Q : Flow → Shared → Prop}
theorem sort_up {RI : Addr} {rz : List Value} (rm : Rm 9 A) (G : Gr s₀.heap) (P : Ph s₀ s L m RK TX C cc rvs tvs) (hT : StrsAre tvs (txs ns)) (hk : m "key" = some (.ref C)) (hr : m "rising" = some (.ref RI)) (hRI : s.heap.IsList RI rz.toArray) (hrz : StrsAre rz (riseS ns))
    (c : ∀ s', Stp No s s' → Q .next s') : wpAny (GM w) A (exec (lawSt 6) (envL L cd)) Q E s := by
  obtain ⟨gm, bm, hg, hb, N⟩ := (P.grd G).names
  have h7 := nums_le ns
  have hl : tvs.length = (nums ns).length := by rw [hT.length, txs_len]
  refine wpAny_If ?_
  refine wpAny_isTrue_Compare1 ?_
  refine wpAny_Call_Name_kw ?_
  refine r_blt (env := envL L cd) hg N.none.2.2.1 hb N.sorted ?_
  refine callWith_kw ?_
  refine args_cons ?_
  refine wpAny_Name (wpAny_loadName_cell (env := envL L cd) rfl rfl rfl P.tc ?_) (by decide)
  refine args_nil ?_
  refine kws_cons ?_
  refine r_ld (env := envL L cd) P.ns hk ?_
  refine kws_nil ?_
  refine sortedK (b := false) (C := C) (.inl ⟨rfl, rfl⟩) rm (P.grd G) P.cls P.tl hT (by rw [hl]; exact (nums_le ns).1) (by rw [hl]; exact n64 ns) txs_size (fun s' D n st _ hD => ?_)
  refine r_ld (env := envL L cd) (P.ns.keeps st.kk) hr ?_
  refine ne_strs ⟨_, hD, rfl, n, rfl⟩ (hRI.at fun o e => st.kk _ _ e) (out_up hT) hrz rm.u64 pick_asc ?_
  refine wpAny_truthy_bool ?_
  rw [if_neg (by simp)]
  exact wpAny_execs_nil (c s' st)
theorem sort_dn {SI : Addr} {sz : List Value} (rm : Rm 9 A) (G : Gr s₀.heap) (P : Ph s₀ s L m RK TX C cc rvs tvs) (hT : StrsAre tvs (txs ns)) (hk : m "key" = some (.ref C)) (hr : m "sinking" = some (.ref SI)) (hSI : s.heap.IsList SI sz.toArray) (hsz : StrsAre sz (sinkS ns))
    (c : ∀ s', Stp No s s' → Q .next s') : wpAny (GM w) A (exec (lawSt 7) (envL L cd)) Q E s := by
  obtain ⟨gm, bm, hg, hb, N⟩ := (P.grd G).names
  have h7 := nums_le ns
  have hl : tvs.length = (nums ns).length := by rw [hT.length, txs_len]
  refine wpAny_If ?_
  refine wpAny_isTrue_Compare1 ?_
  refine wpAny_Call_Name_kw ?_
  refine r_blt (env := envL L cd) hg N.none.2.2.1 hb N.sorted ?_
  refine callWith_kw ?_
  refine args_cons ?_
  refine wpAny_Name (wpAny_loadName_cell (env := envL L cd) rfl rfl rfl P.tc ?_) (by decide)
  refine args_nil ?_
  refine kws_cons ?_
  refine r_ld (env := envL L cd) P.ns hk ?_
  refine kws_cons ?_
  refine wpAny_Constant_bool ?_
  refine kws_nil ?_
  refine sortedK (b := true) (C := C) (.inr rfl) rm (P.grd G) P.cls P.tl hT (by rw [hl]; exact (nums_le ns).1) (by rw [hl]; exact n64 ns) txs_size (fun s' D n st _ hD => ?_)
  refine r_ld (env := envL L cd) (P.ns.keeps st.kk) hr ?_
  refine ne_strs ⟨_, hD, rfl, n, rfl⟩ (hSI.at fun o e => st.kk _ _ e) (out_dn hT) hsz rm.u64 pick_asc ?_
  refine wpAny_truthy_bool ?_
  rw [if_neg (by simp)]
  exact wpAny_execs_nil (c s' st)
theorem red_stmt {RI : Addr} {rz : List Value} (rm : Rm 9 A) (G : Gr s₀.heap) (P : Ph s₀ s L m RK TX C cc rvs tvs) (hT : StrsAre tvs (txs ns)) (hr : m "rising" = some (.ref RI)) (hRI : s.heap.IsList RI rz.toArray) (hrz : StrsAre rz (riseS ns))
    (c : ∀ s', Stp No s s' → Q .next s') : wpAny (GM w) A (exec (lawSt 8) (envL L cd)) Q E s := by
  obtain ⟨gm, bm, hg, hb, N⟩ := (P.grd G).names
  obtain ⟨o, pm, cd', doc, e1, e2, e3, e4⟩ := id (P.red G)
  have h7 := nums_le ns
  refine wpAny_If ?_
  refine wpAny_isTrue_Compare1 ?_
  refine Call_ ?_
  refine r_glob (env := envL L cd) hg N.reduce ?_
  refine r_callF (o := o) (fd := { Calls.docDef "reduce" (argsOf (top 3)) (bodyOf (top 3)) (scopeOf (top 3)) pm cd' doc with defaults := .ref 23 }) ?_
  refine args_cons ?_
  refine r_glob (env := envL L cd) hg N.lesser ?_
  refine args_cons ?_
  refine wpAny_Name (wpAny_loadName_cell (env := envL L cd) rfl rfl rfl P.tc ?_) (by decide)
  refine args_nil ?_
  refine ⟨⟨e1, e2⟩, ?_⟩
  refine wpAny_call ?_
  refine reduce_ok rm (P.grd G) (P.red G) P.tl hT (by rw [txs_len]; exact Nat.le_of_succ_le (nums_le ns).1) txs_size (fun s' t st => ?_)
  obtain ⟨r, hrr⟩ := red_rise ns
  rw [hrr] at hrz
  obtain ⟨t0, rz', rfl, _⟩ := hrz.cons_inv
  refine Subscript_ ?_
  refine r_ld (env := envL L cd) (P.ns.keeps st.kk) hr ?_
  refine wpAny_Constant_int ?_
  refine item_list (s := { s' with toks := _ }) (hRI.at fun o e => st.kk _ _ e) (by decide) (by decide) (x := .str (red (txs ns)) t0) (by simp) ?_
  refine PyProof.Rows.ne_str ?_
  refine wpAny_truthy_bool ?_
  rw [if_neg (by simp)]
  exact wpAny_execs_nil (c _ st.tok)
end
end Mine

end

section
open PySem PySem.W PySem.W.X PyProof.Rows
set_option maxRecDepth 100000
namespace Mine
abbrev forBody : Stmt → List Stmt
  | .For _ _ b _ _ => b
  | _ => []
abbrev loopL : List Stmt := forBody (lawSt 9)
abbrev loopSt (n : Nat) : Stmt := loopL[n]?.getD (.Pass ⟨0, 0, 0, 0⟩)
theorem gt5 {a b : Nat} (h : a < b) (k : Nat) : a ≠ b + k := by omega
/-- what holds between the turns -/
def ZI (m : Str → Option Value) (s₁ : Shared) (S T1 T2 L n : Nat) (s' : Shared) : Prop := ∃ (k : Nat) (m' : Str → Option Value), n + k = 5 ∧ IsZip s'.heap (S + 4) (S + 2) (S + 3) .none ∧ IsPair s'.heap (S + 2) (.ref S) (.ref (S + 1)) ∧ (∃ a b, IsPair s'.heap (S + 3) a b) ∧ s'.heap.IsListIter S T1 k ∧ s'.heap.IsListIter (S + 1) T2 k ∧
    s'.heap.Ns L m' ∧ (∀ z : Str, z ≠ ("said" : Str) → z ≠ ("due" : Str) → m' z = m z) ∧ Stp (fun b => b = L ∨ S ≤ b) s₁ s'
/-- for said, due in zip(told, [x < y, ...]): ... -/
theorem zip_stmt {w : World} {A : Around} {E : Value → Shared → Prop} {s : Shared} {L T1 : Addr} {cd : Value} {m : Str → Option Value} {x y : Int} {tx ty : Tok} {bs : List Bool} {Q : Flow → Shared → Prop} (hh : A.handled = none) (G : Grd s.heap) (hn : s.heap.Ns L m)
    (hx : m "x" = some (.int x tx)) (hy : m "y" = some (.int y ty)) (ht : m "told" = some (.ref T1)) (hT1 : s.heap.IsList T1 (bs.map Value.bool).toArray) (hbs : bs = [decide (x < y), decide (x ≤ y), x == y, decide (x ≥ y), decide (x > y)])
    (c : ∀ s' m', Stp (Is L) s s' → s'.heap.Ns L m' → (∀ z : Str, z ≠ ("said" : Str) → z ≠ ("due" : Str) → m' z = m z) → Q .next s') : wpAny (GM w) A (exec (loopSt 4) (envL L cd)) Q E s := by
  obtain ⟨gm, bm, hg, hb, N⟩ := G.names
  refine wpAny_For ?_
  refine Call_ ?_
  refine r_blt (env := envL L cd) hg N.none.2.2.2.2.1 hb N.zip ?_
  refine PyProof.Rows.callWith_type1 ?_
  refine args_cons ?_
  refine r_ld (env := envL L cd) hn ht ?_
  refine args_cons ?_
  refine List_ ?_
  refine args_cons ?_
  refine wpAny_Compare1 ?_
  refine r_ld (env := envL L cd) hn hx ?_
  refine r_ld (env := envL L cd) hn hy ?_
  refine PyProof.Rows.lt_int ?_
  refine args_cons ?_
  refine wpAny_Compare1 ?_
  refine r_ld (env := envL L cd) hn hx ?_
  refine r_ld (env := envL L cd) hn hy ?_
  refine PyProof.Rows.le_int ?_
  refine args_cons ?_
  refine wpAny_Compare1 ?_
  refine r_ld (env := envL L cd) hn hx ?_
  refine r_ld (env := envL L cd) hn hy ?_
  refine PyProof.Rows.eq_int ?_
  refine args_cons ?_
  refine wpAny_Compare1 ?_
  refine r_ld (env := envL L cd) hn hx ?_
  refine r_ld (env := envL L cd) hn hy ?_
  refine PyProof.Rows.ge_int ?_
  refine args_cons ?_
  refine wpAny_Compare1 ?_
  refine r_ld (env := envL L cd) hn hx ?_
  refine r_ld (env := envL L cd) hn hy ?_
  refine PyProof.Rows.gt_int ?_
  refine args_nil ?_
  refine wpAny_newList ?_ sl5
  refine args_nil ?_
  have hT2 : (s.heap.push (listObj (bs.map Value.bool) 0)).IsList s.heap.objs.size (bs.map Value.bool).toArray := ⟨_, Heap.get?_push_size _ rfl, rfl, 0, rfl⟩
  have hT1' : (s.heap.push (listObj (bs.map Value.bool) 0)).IsList T1 (bs.map Value.bool).toArray := hT1.push _
  have hn1 := hn.push (listObj (bs.map Value.bool) 0)
  have st1 : Stp No s { s with heap := s.heap.push (listObj (bs.map Value.bool) 0) } := Stp.psh Stp.refl
  show wpAny (GM w) A (call (.type "zip") [.ref T1, .ref s.heap.objs.size]) _ _ { s with heap := s.heap.push (listObj [.bool (decide (x < y)), .bool (decide (x ≤ y)), .bool (x == y), .bool (decide (x ≥ y)), .bool (decide (x > y))] 0) }
  rw [show [Value.bool (decide (x < y)), .bool (decide (x ≤ y)), .bool (x == y), .bool (decide (x ≥ y)), .bool (decide (x > y))] = bs.map Value.bool by rw [hbs]; rfl]
  have hlen : bs.length = 5 := by rw [hbs]; rfl
  clear hbs hx hy ht
  revert hT2 hT1' hn1 st1
  generalize s.heap.objs.size = T2
  rw [show s.heap.push (listObj (bs.map Value.bool) 0) = ({ s with heap := s.heap.push (listObj (bs.map Value.bool) 0) } : Shared).heap from rfl]
  generalize ({ s with heap := s.heap.push (listObj (bs.map Value.bool) 0) } : Shared) = s₁
  intro hT2 hT1' hn1 st1
  refine call_zip_2 hT1' hT2 (fun h₂ hz hTI hTO hi1 hi2 hsz₂ k₂ => ?_)
  have l1 : T1 < s₁.heap.objs.size := by obtain ⟨o, e, _⟩ := hT1'; exact Heap.lt_size e
  have l2 : T2 < s₁.heap.objs.size := by obtain ⟨o, e, _⟩ := hT2; exact Heap.lt_size e
  have lL : L < s₁.heap.objs.size := hn1.lt
  have fr : ∀ b, s₁.heap.objs.size ≤ b → s₁.heap.get? b = none := fun b hb => Heap.get?_none_of_le hb
  generalize hs₁ : s₁.heap.objs.size = S at *
  have D : ZipApart (S + 4) (S + 2) (S + 3) S (S + 1) T1 T2 := by
    have l1 : T1 < S := l1
    have l2 : T2 < S := l2
    exact ⟨by simp, by simp, (gt5 (Nat.lt_succ_self S) 3), by simp, by simp, by simp, by simp, by simp, by simp, by simp, gt5 l1 4, gt5 l1 3, gt5 l1 0, gt5 l1 1, gt5 l2 4, gt5 l2 3, gt5 l2 0, gt5 l2 1⟩
  refine wpAny_pyIter_zip hz ?_
  have neL : ∀ k : Nat, S + k ≠ L := fun k q => by
    have lL : L < S := lL
    rw [← q] at lL
    exact absurd lL (Nat.not_lt.mpr (Nat.le_add_right _ _))
  refine codeAny_forLoop_any (ZI m s₁ S T1 T2 L) ?turn 5 ?start
  case start =>
    unfold ZI
    exact ⟨0, m, rfl, hz, hTI, ⟨_, _, hTO⟩, hi1, hi2, hn1.keeps k₂, fun _ _ _ => rfl, ⟨fun b o _ e => k₂ b o e, rfl, fun _ _ e => e, fun e => e⟩⟩
  case turn =>
    intro n s' hI
    unfold ZI at hI
    obtain ⟨k, m', hnk, hz, hTI, ⟨ta, tb, hTO⟩, hi1, hi2, hn', hm', hst⟩ := hI
    have old : ∀ (b : Nat) (o : Obj), b ≠ L → b < S → s₁.heap.get? b = some o → s'.heap.get? b = some o := fun b o h1 h2 e => hst.keep b o (fun q => q.elim h1 fun q => absurd h2 (Nat.not_lt.mpr q)) e
    have hl1 : s'.heap.IsList T1 (bs.map Value.bool).toArray := hT1'.at fun o e => old _ _ (by obtain ⟨o', e', c', n', d'⟩ := hT1'; exact ne_ns hn1 e' (fun _ _ q => by rw [d'] at q; cases q)) l1 e
    have hl2 : s'.heap.IsList T2 (bs.map Value.bool).toArray := hT2.at fun o e => old _ _ (by obtain ⟨o', e', c', n', d'⟩ := hT2; exact ne_ns hn1 e' (fun _ _ q => by rw [d'] at q; cases q)) l2 e
    have hL4 : L ≠ S + 4 := (neL 4).symm
    have hL3 : L ≠ S + 3 := (neL 3).symm
    have hL1 : L ≠ S + 1 := (neL 1).symm
    have hL0 : L ≠ S := (neL 0).symm
    cases n with
    | zero =>
      refine wpAny_pyNext_zip_end hh D hz hTI hTO hi1 hi2 hl1 hl2 (.inl (by simp; omega)) (fun h' hk => ?_)
      try dsimp only
      refine wpAny_execs_nil ?_
      try dsimp only
      refine c _ m' (st1.any.trans ?_) (hn'.at' fun o e => hk _ o hL4 hL3 hL0 hL1 e) hm'
      refine ⟨fun b o hb e => ?_, hst.os, hst.gens, hst.bare⟩
      have hbS : b < S := by rw [← hs₁]; exact Heap.lt_size e
      exact hk b o (fun q => by rw [q] at hbS; exact absurd hbS (Nat.not_lt.mpr (Nat.le_add_right _ _))) (fun q => by rw [q] at hbS; exact absurd hbS (Nat.not_lt.mpr (Nat.le_add_right _ _))) (Nat.ne_of_lt hbS) (fun q => by rw [q] at hbS; exact absurd hbS (Nat.not_lt.mpr (Nat.le_add_right _ _))) (old b o hb hbS e)
    | succ n =>
      have hk5 : k < bs.length := by omega
      refine wpAny_pyNext_zip_item D hz hTI hTO hi1 hi2 hl1 hl2 (x := .bool bs[k]) (y := .bool bs[k]) (by simp [hk5]) (by simp [hk5]) (fun h' hz' hTO' hi1' hi2' hP hsz' hk => ?_)
      try dsimp only
      refine wpAny_letOwnedTupleGo_zip hz' (fun h₃ hz₃ sb₃ => ?_)
      have hT : s'.heap.objs.size ≠ S + 4 := Nat.ne_of_gt (Heap.lt_size hz)
      have hP₃ : IsPair h₃ s'.heap.objs.size (.bool bs[k]) (.bool bs[k]) := sb₃.extBut _ _ hT hP
      have hn₃ : h₃.Ns L m' := (hn'.at' fun o e => hk _ o hL4 hL3 hL0 hL1 e).sameBut sb₃ hL4
      have hTI₃ : IsPair h₃ (S + 2) (.ref S) (.ref (S + 1)) := sb₃.extBut _ _ D.TIz (hk _ _ D.TIz D.TITO D.TIi1 D.TIi2 hTI)
      have hTO₃ := sb₃.extBut _ _ D.TOz hTO'
      have hi1₃ : h₃.IsListIter S T1 (k + 1) := hi1'.at fun o e => sb₃.extBut _ o D.i1z e
      have hi2₃ : h₃.IsListIter (S + 1) T2 (k + 1) := hi2'.at fun o e => sb₃.extBut _ o D.i2z e
      refine r_unpack2 (env := envL L cd) (s := { s' with heap := h₃ }) (m := m') hh (v₁ := .bool bs[k]) (v₂ := .bool bs[k]) ⟨_, hP₃, rfl, 0, rfl⟩ hn₃ (fun s₄ st₄ hg₄ hn₄ => ?_)
      refine wpAny_execs_cons ?_
      refine wpAny_If ?_
      refine wpAny_isTrue_Compare1 ?_
      refine r_ld (env := envL L cd) hn₄ (v := .bool bs[k]) (by rw [put_ne (by decide), put_self]) ?_
      refine r_ld (env := envL L cd) hn₄ (v := .bool bs[k]) put_self ?_
      refine wpAny_isNot_self rfl ?_
      refine wpAny_truthy_bool ?_
      rw [if_neg (by simp)]
      refine wpAny_execs_nil ?_
      try dsimp only
      refine wpAny_execs_nil ?_
      try dsimp only
      have k4 : ∀ (b : Nat) (o : Obj), b ≠ L → h₃.get? b = some o → s₄.heap.get? b = some o := fun b o hb e => st₄.keep b o hb e
      refine ⟨n, Nat.lt_succ_self n, ?_⟩
      unfold ZI
      refine ⟨k + 1, _, (Nat.succ_add_eq_add_succ n k).symm.trans hnk, k4 _ _ (neL 4) hz₃, k4 _ _ (neL 2) hTI₃, ⟨_, _, k4 _ _ (neL 3) hTO₃⟩, hi1₃.at fun o e => k4 _ _ (neL 0) e, hi2₃.at fun o e => k4 _ _ (neL 1) e, hn₄, fun z h1 h2 => ?_, ⟨fun b o hb e => ?_, ?_, ?_, ?_⟩⟩
      · show put (put m' "said" _) "due" _ z = _
        rw [put_ne (by simpa using h2), put_ne (by simpa using h1)]
        exact hm' z h1 h2
      · have hbL : b ≠ L := fun q => hb (.inl q)
        have hbS : b < S := Nat.lt_of_not_le fun q => hb (.inr q)
        have f : ∀ j, b ≠ S + j := fun j => gt5 hbS j
        exact k4 b o hbL (sb₃.extBut b o (f 4) (hk b o (f 4) (f 3) (f 0) (f 1) (old b o hbL hbS e)))
      · exact st₄.os.trans hst.os
      · exact fun i g e => st₄.gens i g (hst.gens i g e)
      · exact fun e => st₄.bare (hst.bare e)
end Mine

end

section
open PySem PySem.W PySem.W.X PyProof.Rows
set_option maxRecDepth 100000
namespace Mine
theorem InstK.but {h h' : Heap} {C x L : Addr} {y : Str} {t : Tok} {m : Str → Option Value} {v : Value} (z : InstK h C x y t) (hn : h.Ns L m) (hm : m "script" = some v) (k : ∀ b o, b ≠ L → h.get? b = some o → h'.get? b = some o) : InstK h' C x y t := by
  obtain ⟨dx, p, q⟩ := z
  refine ⟨dx, k _ _ (ne_ns hn p (fun _ _ q => by cases q)) p, k _ _ (fun e => ?_) q⟩
  obtain ⟨o, es, ep, eo, d, _, hf⟩ := hn
  rw [← e, q] at eo
  cases eo
  cases d
  have := hf "script"
  rw [hm] at this
  cases this
def prevIx (k N : Nat) : Nat := if k = 0 then N - 1 else k - 1
theorem prev_lt {k N : Nat} (h : k < N) : prevIx k N < N := by
  unfold prevIx
  split
  · exact sub1_lt (Nat.lt_of_le_of_lt (Nat.zero_le k) h)
  · exact Nat.lt_of_le_of_lt (Nat.sub_le _ _) h
theorem pv0 (N : Nat) : ((0 : Nat) : Int) - 1 < 0 ∧ -(2 ^ 63) ≤ ((0 : Nat) : Int) - 1 ∧ (((0 : Nat) : Int) - 1 + (N : Int)).toNat = N - 1 :=
  ⟨by decide, by decide, by rw [show ((0 : Nat) : Int) - 1 + (N : Int) = (N : Int) - ((1 : Nat) : Int) from Int.add_comm _ _]; exact Int.toNat_sub N 1⟩
theorem pv1 {N : Nat} (h : 0 < N) : -(N : Int) ≤ ((0 : Nat) : Int) - 1 := Int.neg_le_neg (Int.ofNat_le.mpr h)
theorem pv2 {k N : Nat} (h : k < N) (hN : N ≤ 100) (h0 : ¬ k = 0) : 0 ≤ (k : Int) - 1 ∧ (k : Int) - 1 < 2 ^ 63 ∧ ((k : Int) - 1).toNat = k - 1 := by
  have e : (k : Int) - 1 = ((k - 1 : Nat) : Int) := (Int.natCast_sub (Nat.pos_of_ne_zero h0)).symm
  rw [e]
  exact ⟨Int.natCast_nonneg _, Int.lt_of_lt_of_le (Int.ofNat_lt.mpr (Nat.lt_of_le_of_lt (Nat.sub_le k 1) (Nat.lt_of_lt_of_le h hN))) (by decide), Int.toNat_natCast _⟩
theorem item_prev {w : World} {A : Around} {E : Value → Shared → Prop} {s : Shared} {Q : Value → Shared → Prop} {value slice : Expr} {l : Addr} {vs : List Value} {k : Nat} {u : Tok} {x : Value} (hl : s.heap.IsList l vs.toArray) (hk : k < vs.length) (hN : vs.length ≤ 100) (hx : vs[prevIx k vs.length]? = some x) (h : Q x s)
    (hs : subscripted slice false (.ref l) (.int ((k : Int) - 1) u) = operate [.ref l, .int ((k : Int) - 1) u] (getItem (.ref l) (.int ((k : Int) - 1) u)) := by with_unfolding_all rfl) (hg : ∀ r, letTemporaryGo value (.ref l) r = pure () := by intro _; with_unfolding_all rfl) :
    wpAny (GM w) A (subscriptTail value slice (.ref l) (.int ((k : Int) - 1) u)) Q E s := by
  unfold prevIx at hx
  by_cases hk0 : k = 0
  · subst hk0
    rw [if_pos rfl] at hx
    refine item_neg (items := vs.toArray) hl (pv0 vs.length).1 (by rw [List.size_toArray]; exact pv1 hk) (pv0 vs.length).2.1 ?_ h hs hg
    rw [List.size_toArray, (pv0 vs.length).2.2]
    simpa using hx
  · rw [if_neg hk0] at hx
    have p := pv2 hk hN hk0
    refine item_list hl p.1 p.2.1 ?_ h hs hg
    rw [p.2.2]
    simpa using hx
theorem told_due (ns : List Int) (i j : Nat) :
    [opB .Lt (cmpV ((txs ns).getD i "") ((txs ns).getD j "")), opB .LtE (cmpV ((txs ns).getD i "") ((txs ns).getD j "")), opB .Eq (cmpV ((txs ns).getD i "") ((txs ns).getD j "")), opB .GtE (cmpV ((txs ns).getD i "") ((txs ns).getD j "")), opB .Gt (cmpV ((txs ns).getD i "") ((txs ns).getD j ""))]
      = [decide (rk ns i < rk ns j), decide (rk ns i ≤ rk ns j), rk ns i == rk ns j, decide (rk ns i ≥ rk ns j), decide (rk ns i > rk ns j)] := by
  rw [txs_getD, txs_getD, wr_cmp]
  show _ = [decide ((wr ((nums ns).getD i 0)).1 < (wr ((nums ns).getD j 0)).1), decide ((wr ((nums ns).getD i 0)).1 ≤ (wr ((nums ns).getD j 0)).1), (wr ((nums ns).getD i 0)).1 == (wr ((nums ns).getD j 0)).1, decide ((wr ((nums ns).getD i 0)).1 ≥ (wr ((nums ns).getD j 0)).1), decide ((wr ((nums ns).getD i 0)).1 > (wr ((nums ns).getD j 0)).1)]
  generalize (wr ((nums ns).getD i 0)).1 = a
  generalize (wr ((nums ns).getD j 0)).1 = b
  by_cases h1 : a < b
  · rw [if_pos h1]
    have e1 : (a == b) = false := by simpa using (show a ≠ b by omega)
    rw [e1, decide_eq_true h1, decide_eq_true (show a ≤ b by omega), decide_eq_false (show ¬ a ≥ b by omega), decide_eq_false (show ¬ a > b by omega)]
    decide
  · rw [if_neg h1]
    by_cases h2 : b < a
    · rw [if_pos h2]
      have e1 : (a == b) = false := by simpa using (show a ≠ b by omega)
      rw [e1, decide_eq_false h1, decide_eq_false (show ¬ a ≤ b by omega), decide_eq_true (show a ≥ b by omega), decide_eq_true (show a > b by omega)]
      decide
    · rw [if_neg h2]
      have e1 : (a == b) = true := by simpa using (show a = b by omega)
      rw [e1, decide_eq_false h1, decide_eq_true (show a ≤ b by omega), decide_eq_true (show a ≥ b by omega), decide_eq_false (show ¬ a > b by omega)]
      decide
theorem txs_at {ns : List Int} {tvs : List Value} (hT : StrsAre tvs (txs ns)) {k : Nat} (hk : k < (nums ns).length) : ∃ t, tvs[k]? = some (.str ((txs ns).getD k "") t) := by
  have hl : k < (txs ns).length := by rw [txs_len]; exact hk
  exact hT.at (by rw [List.getD_eq_getElem?_getD, List.getElem?_eq_getElem hl]; rfl)
theorem txs_sz (ns : List Int) (k : Nat) : ((txs ns).getD k "").cps.size ≤ 1000 := by
  rw [txs_getD]
  have := wr_len ((nums ns).getD k 0)
  have : (wr ((nums ns).getD k 0)).2.cps.size ≤ 6 := this
  omega
set_option maxHeartbeats 1000000 in
theorem loop_body {w : World} {A : Around} {E : Value → Shared → Prop} {s₀ s : Shared} {L RK TX C cc : Addr} {cd : Value} {m : Str → Option Value} {rvs tvs : List Value} {ns : List Int} {k : Nat} {ti : Tok} {sv : Value} {Q : Flow → Shared → Prop} (rm : Rm 9 A) (G : Gr s₀.heap) (hL0 : s₀.heap.get? L = none)
    (P : Ph s₀ s L m RK TX C cc rvs tvs) (hT : StrsAre tvs (txs ns)) (hI : IntsAre rvs (rks ns)) (hk : m "key" = some (.ref C)) (hsc : m "script" = some sv) (hi : m "i" = some (.int k ti)) (hkN : k < (nums ns).length)
    (c : ∀ s' m', Stp (Is L) s s' → s'.heap.Ns L m' → m' "key" = some (.ref C) → m' "script" = some sv → Q .next s') :
    wpAny (GM w) A (execs loopL (envL L cd)) Q E s := by
  have h7 := nums_le ns
  have hlT : tvs.length = (nums ns).length := by rw [hT.length, txs_len]
  have hlR : rvs.length = (nums ns).length := by rw [hI.length, rks_len]
  have hpN := prev_lt hkN
  generalize hp : prevIx k (nums ns).length = p at hpN
  obtain ⟨t1, ht1⟩ := txs_at hT hkN
  obtain ⟨t2, ht2⟩ := txs_at hT hpN
  obtain ⟨r1, hr1⟩ := hI.get k _ (rk_get hkN)
  obtain ⟨r2, hr2⟩ := hI.get p _ (rk_get hpN)
  -- one = key(texts[i])
  refine wpAny_execs_cons ?_
  refine wpAny_Assign_Name ?_
  refine Call_ ?_
  refine r_ld (env := envL L cd) P.ns hk ?_
  obtain ⟨en, cell, nn, CO, hcell, hnn⟩ := P.kls
  obtain ⟨K, D, X, FK⟩ := CO.frag
  refine callWith_K X (keepK FK) ?_
  refine args_cons ?_
  refine Subscript_ ?_
  refine wpAny_Name (wpAny_loadName_cell (env := envL L cd) rfl rfl rfl P.tc ?_) (by decide)
  refine r_ld (env := envL L cd) P.ns hi ?_
  refine item_list P.tl (i0 _) (i63 hkN) (x := .str ((txs ns).getD k "") t1) (by simpa using ht1) ?_
  refine args_nil ?_
  refine ⟨X, ?_⟩
  refine wpAny_call ?_
  refine make_ok (rm.le (by decide)) (P.grd G).lim CO (fun s₁ x1 hI1 st₁ _ => ?_)
  have P1 := P.next st₁
  refine r_st (env := envL L cd) P1.ns (fun s₂ st₂ hn₂ => ?_)
  have P2 := P1.loc hL0 st₂ hn₂
  have hI1 : InstK s₂.heap C x1 _ t1 := hI1.but P1.ns hsc fun b o hb e => st₂.keep b o hb e
  have stA : Stp (Is L) s s₂ := st₁.any.trans st₂
  clear P1 X FK CO hcell st₁ st₂ hn₂
  dsimp only
  -- ahead = key(texts[i - 1])
  refine wpAny_execs_cons ?_
  refine wpAny_Assign_Name ?_
  refine Call_ ?_
  refine r_ld (env := envL L cd) P2.ns (v := .ref C) (by rw [put_ne (by decide)]; exact hk) ?_
  obtain ⟨en, cell, nn, CO, hcell, hnn⟩ := P2.kls
  obtain ⟨K, D, X, FK⟩ := CO.frag
  refine callWith_K X (keepK FK) ?_
  refine args_cons ?_
  refine Subscript_ ?_
  refine wpAny_Name (wpAny_loadName_cell (env := envL L cd) rfl rfl rfl P2.tc ?_) (by decide)
  refine wpAny_BinOp ?_
  refine r_ld (env := envL L cd) P2.ns (v := .int k ti) (by rw [put_ne (by decide)]; exact hi) ?_
  refine wpAny_Constant_int ?_
  refine PyProof.Rows.sub_int ?_
  refine item_prev P2.tl (by rw [hlT]; exact hkN) (by rw [hlT]; exact Nat.le_trans h7.2 (by decide)) (x := .str ((txs ns).getD p "") t2) (by rw [hlT, hp]; exact ht2) ?_
  refine args_nil ?_
  refine ⟨X, ?_⟩
  refine wpAny_call ?_
  refine make_ok (s := { s₂ with toks := _ }) (rm.le (by decide)) (P2.grd G).lim CO (fun s₃ x2 hI2 st₃ _ => ?_)
  have st₃ : Stp No s₂ s₃ := st₃.untok
  have P3 := P2.next st₃
  have hI1 : InstK s₃.heap C x1 _ t1 := hI1.keeps st₃.kk
  refine r_st (env := envL L cd) P3.ns (fun s₄ st₄ hn₄ => ?_)
  have P4 := P3.loc hL0 st₄ hn₄
  have hsc3 : put m "one" (.ref x1) "script" = some sv := by rw [put_ne (by decide)]; exact hsc
  have hI1 : InstK s₄.heap C x1 _ t1 := hI1.but P3.ns hsc3 fun b o hb e => st₄.keep b o hb e
  have hI2 : InstK s₄.heap C x2 _ t2 := hI2.but P3.ns hsc3 fun b o hb e => st₄.keep b o hb e
  have stB : Stp (Is L) s s₄ := stA.trans (st₃.any.trans st₄)
  clear P2 P3 X FK CO hcell st₃ st₄ hn₄ stA hsc3
  dsimp only
  have m4k : put (put m "one" (.ref x1)) "ahead" (.ref x2) "key" = some (.ref C) := by rw [put_ne (by decide), put_ne (by decide)]; exact hk
  have m4s : put (put m "one" (.ref x1)) "ahead" (.ref x2) "script" = some sv := by rw [put_ne (by decide), put_ne (by decide)]; exact hsc
  have m4i : put (put m "one" (.ref x1)) "ahead" (.ref x2) "i" = some (.int k ti) := by rw [put_ne (by decide), put_ne (by decide)]; exact hi
  have m41 : put (put m "one" (.ref x1)) "ahead" (.ref x2) "one" = some (.ref x1) := by rw [put_ne (by decide), put_self]
  have m42 : put (put m "one" (.ref x1)) "ahead" (.ref x2) "ahead" = some (.ref x2) := put_self
  revert P4 m4k m4s m4i m41 m42
  generalize put (put m "one" (.ref x1)) "ahead" (.ref x2) = m4
  intro P4 m4k m4s m4i m41 m42
  -- told
  refine wpAny_execs_cons ?_
  refine wpAny_Assign_Name ?_
  refine List_ ?_
  refine args_cons ?_
  refine wpAny_Compare1 ?_
  refine r_ld (env := envL L cd) P4.ns m41 ?_
  refine r_ld (env := envL L cd) P4.ns m42 ?_
  refine cmp_keys (.inl rfl) (rm.le (by decide)) (P4.grd G) P4.cls hI1 hI2 (txs_sz _ _) (txs_sz _ _) (fun s₅ st₅ => ?_)
  have P5 := P4.next st₅
  have hI1 := hI1.keeps st₅.kk
  have hI2 := hI2.keeps st₅.kk
  have stB := stB.trans st₅.any
  clear P4 st₅
  refine args_cons ?_
  refine wpAny_Compare1 ?_
  refine r_ld (env := envL L cd) P5.ns m41 ?_
  refine r_ld (env := envL L cd) P5.ns m42 ?_
  refine cmp_keys (.inr (.inr (.inr (.inl rfl)))) (rm.le (by decide)) (P5.grd G) P5.cls hI1 hI2 (txs_sz _ _) (txs_sz _ _) (fun s₆ st₆ => ?_)
  have P6 := P5.next st₆
  have hI1 := hI1.keeps st₆.kk
  have hI2 := hI2.keeps st₆.kk
  have stB := stB.trans st₆.any
  clear P5 st₆
  refine args_cons ?_
  refine wpAny_Compare1 ?_
  refine r_ld (env := envL L cd) P6.ns m41 ?_
  refine r_ld (env := envL L cd) P6.ns m42 ?_
  refine cmp_keys (.inr (.inr (.inl rfl))) (rm.le (by decide)) (P6.grd G) P6.cls hI1 hI2 (txs_sz _ _) (txs_sz _ _) (fun s₇ st₇ => ?_)
  have P7 := P6.next st₇
  have hI1 := hI1.keeps st₇.kk
  have hI2 := hI2.keeps st₇.kk
  have stB := stB.trans st₇.any
  clear P6 st₇
  refine args_cons ?_
  refine wpAny_Compare1 ?_
  refine r_ld (env := envL L cd) P7.ns m41 ?_
  refine r_ld (env := envL L cd) P7.ns m42 ?_
  refine cmp_keys (.inr (.inr (.inr (.inr rfl)))) (rm.le (by decide)) (P7.grd G) P7.cls hI1 hI2 (txs_sz _ _) (txs_sz _ _) (fun s₈ st₈ => ?_)
  have P8 := P7.next st₈
  have hI1 := hI1.keeps st₈.kk
  have hI2 := hI2.keeps st₈.kk
  have stB := stB.trans st₈.any
  clear P7 st₈
  refine args_cons ?_
  refine wpAny_Compare1 ?_
  refine r_ld (env := envL L cd) P8.ns m41 ?_
  refine r_ld (env := envL L cd) P8.ns m42 ?_
  refine cmp_keys (.inr (.inl rfl)) (rm.le (by decide)) (P8.grd G) P8.cls hI1 hI2 (txs_sz _ _) (txs_sz _ _) (fun s₉ st₉ => ?_)
  have P9 := P8.next st₉
  have stB := stB.trans st₉.any
  clear P8 st₉ hI1 hI2
  refine args_nil ?_
  refine wpAny_newList ?_ sl5
  have td := told_due ns k p
  generalize hbs : [opB .Lt (cmpV ((txs ns).getD k "") ((txs ns).getD p "")), opB .LtE (cmpV ((txs ns).getD k "") ((txs ns).getD p "")), opB .Eq (cmpV ((txs ns).getD k "") ((txs ns).getD p "")), opB .GtE (cmpV ((txs ns).getD k "") ((txs ns).getD p "")), opB .Gt (cmpV ((txs ns).getD k "") ((txs ns).getD p ""))] = bs at td
  have hT1 : (s₉.heap.push (listObj (bs.map Value.bool) 0)).IsList s₉.heap.objs.size (bs.map Value.bool).toArray := ⟨_, Heap.get?_push_size _ rfl, rfl, 0, rfl⟩
  have stC : Stp No s₉ { s₉ with heap := s₉.heap.push (listObj (bs.map Value.bool) 0) } := Stp.psh Stp.refl
  have PC := P9.next stC
  revert hT1 stC PC
  show _ → _ → _ → wpAny (GM w) A (storeName (envL L cd) "told" (.ref s₉.heap.objs.size)) _ _ { s₉ with heap := s₉.heap.push (listObj [.bool _, .bool _, .bool _, .bool _, .bool _] 0) }
  rw [show [Value.bool (opB .Lt (cmpV ((txs ns).getD k "") ((txs ns).getD p ""))), .bool (opB .LtE (cmpV ((txs ns).getD k "") ((txs ns).getD p ""))), .bool (opB .Eq (cmpV ((txs ns).getD k "") ((txs ns).getD p ""))), .bool (opB .GtE (cmpV ((txs ns).getD k "") ((txs ns).getD p ""))), .bool (opB .Gt (cmpV ((txs ns).getD k "") ((txs ns).getD p "")))] = bs.map Value.bool by rw [← hbs]; rfl]
  generalize s₉.heap.objs.size = T1
  rw [show s₉.heap.push (listObj (bs.map Value.bool) 0) = ({ s₉ with heap := s₉.heap.push (listObj (bs.map Value.bool) 0) } : Shared).heap from rfl]
  generalize ({ s₉ with heap := s₉.heap.push (listObj (bs.map Value.bool) 0) } : Shared) = sC
  intro hT1 stC PC
  have stB := stB.trans stC.any
  clear P9 stC hbs
  refine r_st (env := envL L cd) PC.ns (fun sD stD hnD => ?_)
  have PD := PC.loc hL0 stD hnD
  have hT1 : sD.heap.IsList T1 (bs.map Value.bool).toArray := list_but hT1 PC.ns fun b o hb e => stD.keep b o hb e
  have stB := stB.trans stD
  clear PC stD hnD
  dsimp only
  -- x, y = (ranks[i], ranks[i - 1])
  refine wpAny_execs_cons ?_
  refine Assign_Tuple_swapped (names := [("x" : Str), ("y" : Str)]) ?_
  refine wpAny_Tuple ?_
  refine args_cons ?_
  refine Subscript_ ?_
  refine wpAny_Name (wpAny_loadName_cell (env := envL L cd) rfl rfl rfl PD.rc ?_) (by decide)
  refine r_ld (env := envL L cd) PD.ns (v := .int k ti) (by rw [put_ne (by decide)]; exact m4i) ?_
  refine item_list PD.rl (i0 _) (i63 hkN) (x := .int (rk ns k) r1) (by simpa using hr1) ?_
  refine args_cons ?_
  refine Subscript_ ?_
  refine wpAny_Name (wpAny_loadName_cell (env := envL L cd) rfl rfl rfl PD.rc ?_) (by decide)
  refine wpAny_BinOp ?_
  refine r_ld (env := envL L cd) PD.ns (v := .int k ti) (by rw [put_ne (by decide)]; exact m4i) ?_
  refine wpAny_Constant_int ?_
  refine PyProof.Rows.sub_int ?_
  refine item_prev (s := { sD with toks := _ }) PD.rl (by rw [hlR]; exact hkN) (by rw [hlR]; exact Nat.le_trans h7.2 (by decide)) (x := .int (rk ns p) r2) (by rw [hlR, hp]; exact hr2) ?_
  refine args_nil ?_
  refine ⟨sl2, ?_⟩
  dsimp only
  refine unpackItems_tuple (items := #[.int (rk ns k) r1, .int (rk ns p) r2]) rm.1 ⟨_, Heap.get?_push_size _ rfl, rfl, 0, rfl⟩ (fun h' he => ?_)
  have keep' : ∀ b o, sD.heap.get? b = some o → h'.get? b = some o := fun b o e => he b o (by rw [Heap.size_push]; exact Nat.ne_of_lt (Nat.lt_succ_of_lt (Heap.lt_size e))) (Heap.get?_push_of_some _ e)
  show wpAny (GM w) A (do holding [_] (bindName (envL L cd) "y" (.int (rk ns p) r2)); do holding [] (bindName (envL L cd) "x" (.int (rk ns k) r1)); pure ()) _ _ _
  have hnE : h'.Ns L _ := PD.ns.keeps keep'
  refine wpAny_bind (wpAny_holding (wpAny_bindName ?_))
  refine r_st (env := envL L cd) (s := { sD with heap := h', toks := _ }) hnE (fun sE stE hnE' => ?_)
  refine wpAny_bind (wpAny_holding (wpAny_bindName ?_))
  refine r_st (env := envL L cd) hnE' (fun sF stF hnF => ?_)
  refine wpAny_pure ?_
  try dsimp only
  have stDF : Stp (Is L) sD sF := ⟨fun b o hb e => stF.keep b o hb (stE.keep b o hb (keep' b o e)), stF.os.trans stE.os, fun i g e => stF.gens i g (stE.gens i g e), fun e => stF.bare (stE.bare e)⟩
  have PF := PD.loc hL0 stDF hnF
  have hT1 : sF.heap.IsList T1 (bs.map Value.bool).toArray := list_but hT1 PD.ns fun b o hb e => stDF.keep b o hb e
  have stB := stB.trans stDF
  -- the zip
  refine wpAny_execs_cons ?_
  refine zip_stmt (x := rk ns k) (y := rk ns p) (tx := r1) (ty := r2) (T1 := T1) (bs := bs) rm.1 (PF.grd G) hnF put_self (by rw [put_ne (by decide), put_self]) (by rw [put_ne (by decide), put_ne (by decide), put_self]) hT1 td (fun sG mG stG hnG hmG => ?_)
  dsimp only
  refine wpAny_execs_nil ?_
  refine c sG mG (stB.trans stG) hnG ?_ ?_
  · rw [hmG _ (by decide) (by decide), put_ne (by decide), put_ne (by decide), put_ne (by decide)]; exact m4k
  · rw [hmG _ (by decide) (by decide), put_ne (by decide), put_ne (by decide), put_ne (by decide)]; exact m4s
end Mine

end

section
open PySem PySem.W PySem.W.X PyProof.Rows
set_option maxRecDepth 100000
namespace Mine
/-- what holds between the turns -/
def FI (ns : List Int) (s₁ : Shared) (it L C : Nat) (sv : Value) (n : Nat) (s' : Shared) : Prop := ∃ (k : Nat) (m' : Str → Option Value), n + k = (nums ns).length ∧ IsRangeIter s'.heap it (k : Int) ((nums ns).length - (k : Int)) 1 ∧ Stp (fun b => b = L ∨ b = it) s₁ s' ∧ s'.heap.Ns L m' ∧ m' "key" = some (.ref C) ∧ m' "script" = some sv
theorem loop_stmt {w : World} {A : Around} {E : Value → Shared → Prop} {s₀ s : Shared} {L RK TX C cc : Addr} {cd : Value} {m : Str → Option Value} {rvs tvs : List Value} {ns : List Int} {sv : Value} {Q : Flow → Shared → Prop} (rm : Rm 9 A) (G : Gr s₀.heap) (hL0 : s₀.heap.get? L = none)
    (P : Ph s₀ s L m RK TX C cc rvs tvs) (hT : StrsAre tvs (txs ns)) (hI : IntsAre rvs (rks ns)) (hk : m "key" = some (.ref C)) (hsc : m "script" = some sv)
    (c : ∀ s' m', Ph s₀ s' L m' RK TX C cc rvs tvs → Q .next s') :
    wpAny (GM w) A (exec (lawSt 9) (envL L cd)) Q E s := by
  have h7 := nums_le ns
  have hlT : tvs.toArray.size = (nums ns).length := by rw [List.size_toArray, hT.length, txs_len]
  obtain ⟨gm, bm, hg, hb, N⟩ := (P.grd G).names
  refine wpAny_For ?_
  refine Call_ ?_
  refine r_blt (env := envL L cd) hg N.none.2.1 hb N.range ?_
  refine PyProof.Rows.callWith_type1 ?_
  refine args_cons ?_
  refine Call_ ?_
  refine r_blt (env := envL L cd) hg N.none.1 hb N.len ?_
  refine PyProof.Rows.callWith_builtin1 ?_
  refine args_cons ?_
  refine wpAny_Name (wpAny_loadName_cell (env := envL L cd) rfl rfl rfl P.tc ?_) (by decide)
  refine args_nil ?_
  refine len_list P.tl (by rw [hlT]; exact nI63 ns) ?_
  refine args_nil ?_
  refine call_range_1 ?_
  dsimp only
  rw [hlT]
  have st1 : Stp No s { s with heap := s.heap.push { cls := .type "range", data := .fields #[.int 0 (s.toks + 1 + 1), .int ((nums ns).length : Int) (s.toks + 1), .int 1 (s.toks + 1 + 1 + 1)] }, toks := s.toks + 1 + 1 + 1 + 1 } := ⟨fun b o _ e => Heap.get?_push_of_some _ e, rfl, fun _ _ e => e, fun e => e⟩
  have hr := IsRange.new s.heap 0 ((nums ns).length : Int) 1 (s.toks + 1 + 1) (s.toks + 1) (s.toks + 1 + 1 + 1)
  have P1 := P.next st1
  revert st1 hr P1
  generalize s.heap.objs.size = R
  rw [show s.heap.push { cls := .type "range", data := .fields #[.int 0 (s.toks + 1 + 1), .int ((nums ns).length : Int) (s.toks + 1), .int 1 (s.toks + 1 + 1 + 1)] } = ({ s with heap := s.heap.push { cls := .type "range", data := .fields #[.int 0 (s.toks + 1 + 1), .int ((nums ns).length : Int) (s.toks + 1), .int 1 (s.toks + 1 + 1 + 1)] }, toks := s.toks + 1 + 1 + 1 + 1 } : Shared).heap from rfl]
  generalize ({ s with heap := s.heap.push { cls := .type "range", data := .fields #[.int 0 (s.toks + 1 + 1), .int ((nums ns).length : Int) (s.toks + 1), .int 1 (s.toks + 1 + 1 + 1)] }, toks := s.toks + 1 + 1 + 1 + 1 } : Shared) = s₁
  intro st1 hr P1
  refine wpAny_pyIter_range hr (small_n (n1000 ns)) ?_
  rw [size_n]
  have hitn : s₁.heap.get? s₁.heap.objs.size = none := Heap.get?_none_of_le (Nat.le_refl _)
  have hitL : s₁.heap.objs.size ≠ L := Nat.ne_of_gt P1.ns.lt
  have hit0 : IsRangeIter (s₁.heap.push { cls := .type "range_iterator", data := .fields #[rawInt 0, rawInt ((nums ns).length : Int), rawInt 1] }) s₁.heap.objs.size ((0 : Nat) : Int) ((nums ns).length - ((0 : Nat) : Int)) 1 := by
    have : IsRangeIter (s₁.heap.push { cls := .type "range_iterator", data := .fields #[rawInt 0, rawInt ((nums ns).length : Int), rawInt 1] }) s₁.heap.objs.size 0 ((nums ns).length : Int) 1 := Heap.get?_push_size _ rfl
    simpa using this
  generalize s₁.heap.objs.size = it at *
  refine codeAny_forLoop (FI ns s₁ it L C sv) ?turn (nums ns).length ?start
  case start =>
    unfold FI
    exact ⟨0, m, rfl, hit0, ⟨fun b o _ e => Heap.get?_push_of_some _ e, rfl, fun _ _ e => e, fun e => e⟩, P1.ns.push _, hk, hsc⟩
  case turn =>
    intro n s' hF
    unfold FI at hF
    obtain ⟨k, m', hnk, hik, hst, hn', hk', hs'⟩ := hF
    have only : ∀ {s''}, Stp (fun b => b = L ∨ b = it) s₁ s'' → Stp (Is L) s₁ s'' := fun st => ⟨fun b o hb e => st.keep b o (fun q => q.elim hb fun q => by rw [q, hitn] at e; cases e) e, st.os, st.gens, st.bare⟩
    cases n with
    | zero =>
      refine wpAny_pyNext_range_end rm.1 hik (by omega) (fun h' hx => ?_)
      dsimp only
      refine wpAny_execs_nil ?_
      try dsimp only
      have hn2 : h'.Ns L m' := hn'.extBut hx hitL.symm
      exact c _ m' (P1.loc hL0 (only (hst.trans ⟨fun b o hb e => hx b o (fun q => hb (.inr q)) e, rfl, fun _ _ e => e, fun e => e⟩ : Stp (fun b => b = L ∨ b = it) s₁ { s' with heap := h' })) hn2)
    | succ n =>
      have hkl : k < (nums ns).length := Nat.lt_of_lt_of_le (Nat.lt_add_of_pos_left (Nat.succ_pos n)) (Nat.le_of_eq hnk)
      refine wpAny_pyNext_range_item hik (by omega) (fun h' hik' sb => ?_)
      have hik' : IsRangeIter h' it ((k + 1 : Nat) : Int) ((nums ns).length - ((k + 1 : Nat) : Int)) 1 := by
        rw [show ((k + 1 : Nat) : Int) = (k : Int) + 1 from rfl, ← Int.sub_sub]
        exact hik'
      dsimp only
      refine wpAny_assign_Name ?_
      have hn2 : h'.Ns L m' := hn'.sameBut sb hitL.symm
      refine r_st (env := envL L cd) (s := { s' with heap := h', toks := s'.toks + 1 }) hn2 (fun s₂ st₂ hn₂ => ?_)
      have stX : Stp (fun b => b = L ∨ b = it) s₁ s₂ := (hst.trans ⟨fun b o hb e => sb.extBut b o (fun q => hb (.inr q)) e, rfl, fun _ _ e => e, fun e => e⟩ : Stp (fun b => b = L ∨ b = it) s₁ { s' with heap := h', toks := s'.toks + 1 }).trans (st₂.weak fun _ h => .inl h)
      have hik2 := st₂.keep _ _ hitL hik'
      have P2 := P1.loc hL0 (only stX) hn₂
      refine loop_body (ns := ns) rm G hL0 P2 hT hI (k := k) (by rw [put_ne (by decide)]; exact hk') (sv := sv) (by rw [put_ne (by decide)]; exact hs') put_self hkl (fun s₃ m₃ st₃ hn₃ hk₃ hs₃ => ?_)
      refine ⟨n, Nat.lt_succ_self n, ?_⟩
      unfold FI
      exact ⟨k + 1, m₃, (Nat.succ_add_eq_add_succ n k).symm.trans hnk, st₃.keep _ _ hitL hik2, stX.trans (st₃.weak fun _ h => .inl h), hn₃, hk₃, hs₃⟩
theorem law_rest {w : World} {A : Around} {E : Value → Shared → Prop} {s₀ s : Shared} {L l0 RK TX RI SI : Addr} {cd : Value} {m : Str → Option Value} {rvs tvs rz sz : List Value} {ns : List Int} {Q : Flow → Shared → Prop} (rm : Rm 9 A) (G : Gr s₀.heap) (fr : ∀ b, Lx L b → s₀.heap.get? b = none)
    (a : At3 s₀ s L m (some (.ref RK)) (some (.ref TX))) (hR : s.heap.IsList RK rvs.toArray) (hI : IntsAre rvs (rks ns)) (hTX : s.heap.IsList TX tvs.toArray) (hT : StrsAre tvs (txs ns)) (hri : m "rising" = some (.ref RI)) (hRI : s.heap.IsList RI rz.toArray) (hrz : StrsAre rz (riseS ns))
    (hsi : m "sinking" = some (.ref SI)) (hSI : s.heap.IsList SI sz.toArray) (hsz : StrsAre sz (sinkS ns)) (hsc : m "script" = some (.ref l0)) (hi0 : m "__init__" = none)
    (c : ∀ s' cc, Stp (Is 16) s₀ s' → s'.heap.get? 16 = some (tabObj #[rawInt 4, rawInt 4, .ref cc]) → Q (.ret (.bool true)) s') :
    wpAny (GM w) A (execs ((bodyOf (top 10)).drop 5) (envL L cd)) Q E s := by
  refine wpAny_execs_cons ?_
  refine key_stmt (rm.le (by decide)) G fr a hR hTX hi0 (fun s₁ C cc P₁ kl => ?_)
  dsimp only
  have hRI₁ := kl _ _ hRI
  have hSI₁ := kl _ _ hSI
  have mk : put m "key" (.ref C) "key" = some (.ref C) := put_self
  have mr : put m "key" (.ref C) "rising" = some (.ref RI) := by rw [put_ne (by decide)]; exact hri
  have ms : put m "key" (.ref C) "sinking" = some (.ref SI) := by rw [put_ne (by decide)]; exact hsi
  have mc : put m "key" (.ref C) "script" = some (.ref l0) := by rw [put_ne (by decide)]; exact hsc
  refine wpAny_execs_cons ?_
  refine sort_up (ns := ns) rm G P₁ hT mk mr hRI₁ hrz (fun s₂ st₂ => ?_)
  dsimp only
  have P₂ := P₁.next st₂
  refine wpAny_execs_cons ?_
  refine sort_dn (ns := ns) rm G P₂ hT mk ms (hSI₁.at fun o e => st₂.kk _ _ e) hsz (fun s₃ st₃ => ?_)
  dsimp only
  have P₃ := P₂.next st₃
  refine wpAny_execs_cons ?_
  refine red_stmt (ns := ns) rm G P₃ hT mr ((hRI₁.at fun o e => st₂.kk _ _ e).at fun o e => st₃.kk _ _ e) hrz (fun s₄ st₄ => ?_)
  dsimp only
  have P₄ := P₃.next st₄
  refine wpAny_execs_cons ?_
  refine loop_stmt (ns := ns) rm G (fr L (.inl rfl)) P₄ hT hI mk mc (fun s₅ m₅ P₅ => ?_)
  dsimp only
  refine wpAny_execs_cons ?_
  refine wpAny_Return_some ?_
  refine wpAny_Constant_bool ?_
  exact c s₅ cc P₅.st P₅.tab
theorem law_ok {w : World} {A : Around} {s : Shared} {l0 : Addr} {vs0 : List Value} {ns : List Int} {R : Result → Shared → Prop} (rm : Rm 10 A) (G : Gr s.heap) (F : IsFn s.heap 61 10 "law") (hl : s.heap.IsList l0 vs0.toArray) (hi : IntsAre vs0 ns) (hb : ns.length ≤ 63)
    (c : ∀ s' cc, Stp (Is 16) s s' → s'.heap.get? 16 = some (tabObj #[rawInt 4, rawInt 4, .ref cc]) → R (.ok (.ret (.bool true))) s') :
    codeAny (GM w) A (.call (.ref 61) ⟨[.ref l0], []⟩) R s := by
  obtain ⟨o, pm, cd, doc, ho, hd, hc⟩ := F
  refine call_cellsN_ret (binds := [("script", .ref l0)]) rm.room ho hd G.grd.lim hc rfl ?_ (by decide) (fun h₁ tk cells F N X => ?_)
  · intro x hx
    simp only [List.mem_cons, List.not_mem_nil, or_false] at hx
    subst hx
    exact .inl rfl
  generalize hL : s.heap.objs.size = L at F N X ⊢
  have hfr : ∀ b, Lx L b → s.heap.get? b = none := fun b hb => Heap.get?_none_of_le (by rw [hL]; rcases hb with rfl | rfl | rfl; exact Nat.le_refl _; exact Nat.le_succ _; exact Nat.le_add_right _ _)
  have X : CellsAre _ [(("texts" : Str), L + 2), (("ranks" : Str), L + 1)] cells := X
  obtain ⟨oT, oR, rfl, hoT, hoR⟩ := X.two
  have a : At3 s { s with heap := h₁, toks := tk } L _ none none := ⟨F.ns, ⟨oR, (N _ (.tail _ (.head _))).1, hoR⟩, ⟨oT, (N _ (.head _)).1, hoT⟩, Stp.heap fun b o _ e => F.keep b o e⟩
  refine law_first (ns := ns) (rm.deeper.le (by decide)) G.grd hfr a (l0 := l0) rfl rfl hl hi (by omega) (fun s₁ m₁ RK TX RI SI rvs tvs rz sz a₁ h1 h2 h3 h4 h5 h6 h7 h8 h9 h10 h11 h12 => ?_)
  exact law_rest (ns := ns) rm.deeper G hfr a₁ h1 h2 h3 h4 h5 h6 h7 h8 h9 h10 h11 h12 (fun s' cc st ht => c s' cc st ht)
end Mine

end

section
open PySem PySem.W PySem.W.X PyProof.Rows
set_option maxRecDepth 100000
namespace Mine
/-! from the start's fragment to the ground -/
def entsOf (K : Frag) (a : Addr) : Array DictEntry := match K.lookup a with
  | some o => (match o.data with
    | .dict es _ => es
    | _ => #[])
  | none => #[]
def keyS : Value → Bool
  | .str _ _ => true
  | _ => false
def nsB (K : Frag) (a : Addr) : Bool := match K.lookup a with
  | some o => (match o.data with
    | .dict es _ => es.toList.all fun e => keyS e.key
    | _ => false)
  | none => false
theorem ns_of {K : Frag} {h : Heap} {a : Addr} (KX : K.In h) (hb : nsB K a = true) : h.Ns a (nsFind (entsOf K a)) := by
  unfold nsB at hb
  cases hl : K.lookup a with
  | none => rw [hl] at hb; cases hb
  | some o =>
    rw [hl] at hb
    dsimp only at hb
    cases hd : o.data with
    | dict es ep =>
      rw [hd] at hb
      dsimp only at hb
      have he : entsOf K a = es := by unfold entsOf; rw [hl]; dsimp only; rw [hd]
      rw [he]
      refine ⟨o, es, ep, KX _ _ hl, hd, fun e hm => ?_, fun _ => rfl⟩
      have := List.all_eq_true.mp hb e (Array.mem_toList_iff.mpr hm)
      cases hk : e.key with
      | str n t => exact ⟨n, t, rfl⟩
      | _ => rw [hk] at this; cases this
    | _ => rw [hd] at hb; cases hb
def strO : Option Value → Bool
  | some (.str _ _) => true
  | _ => false
theorem str_of {o : Option Value} (h : strO o = true) : ∃ x t, o = some (.str x t) := by
  cases o with
  | none => cases h
  | some v =>
    cases v with
    | str x t => exact ⟨x, t, rfl⟩
    | _ => cases h
theorem fn_of {h : Heap} {a c : Addr} {n : Nat} {nm : Str} {o oc : Obj} {vs : Array Value} {t : Tok} {pm doc : Value} (ho : h.get? a = some o) (hc : h.get? c = some oc) (hd : o.data = .func (Calls.docDef nm (argsOf (top n)) (bodyOf (top n)) (scopeOf (top n)) pm (.ref c) doc))
    (hcd : oc.data = .fields vs) (hv : vs[1]? = some (.str nm t)) : IsFn h a n nm := ⟨o, pm, .ref c, doc, ho, hd, c, oc, vs, t, rfl, hc, hcd, hv⟩
theorem old_of {s₁ s' : Shared} {cc : Addr} (G : Gr s₁.heap) (st : Stp (Is 16) s₁ s') (ht : s'.heap.get? 16 = some (tabObj #[rawInt 4, rawInt 4, .ref cc])) : OldK s₁.heap s'.heap := by
  obtain ⟨gm, bm, mc, CG⟩ := G.cls
  obtain ⟨o, vs, file, tf, flags, tg, inF, text, tt, e1, e2, e3, e4, _⟩ := CG.code
  have h0 : s₁.heap.TableAt 20 16 #[] := ⟨⟨o, vs, e1, e2, e3, e4⟩, CG.tab⟩
  have h1 : s'.heap.TableAt 20 16 (#[] ++ #[rawInt 4, rawInt 4, .ref cc]) := ⟨⟨o, vs, st.keep _ _ (show ¬ (20 : Nat) = 16 by decide) e1, e2, e3, e4⟩, ht⟩
  exact (OldK.refl _).step_table h0 h0 h1 (fun b o hb e => st.keep b o hb e) (show (16 : Nat) ≠ 2 by decide)
end Mine

end

open PySem PySem.W PyProof.Rows
set_option maxRecDepth 100000 in
set_option maxHeartbeats 8000000 in
theorem PySem.Challenge.cw_nb0072_01_holds : PySem.Challenge.rw_nb0072_01.Holds := by
  w_on
  o_law
  x_head
  (case hw => w_witness2)
  k_fill
  intro w s₀ s₁ mg mb G Y fa o pm cd doc dV kV ho hd hcd hD hmg hg args vals as hpre hlay hrd hwl hlo
  have KX := kIn_of Y
  refine Ground.open G ?_
  intro T B D TE TW
  wrow_args hpre hlay hrd hwl hlo
  x_fa T KX hmg
  have N3 := Mine.ns_of (a := 3) KX (by kernel_rfl)
  have N0 := Mine.ns_of (a := 0) KX (by kernel_rfl)
  have N2 := Mine.ns_of (a := 2) KX (by kernel_rfl)
  have hlim := T.nolimit
  have nm : Mine.Names (nsFind (Mine.entsOf (PySem.Challenge.cw_nb0072_01_holds.heap_39 w.params) 3)) (nsFind (Mine.entsOf (PySem.Challenge.cw_nb0072_01_holds.heap_39 w.params) 0)) := by
    refine ⟨?_, ?_, ?_, ?_, ?_, ?_, ?_, ⟨?_, ?_, ?_, ?_, ?_, ?_, ?_, ?_⟩, ?_, ?_, ?_, ?_, ?_, ?_, ?_, ?_⟩ <;> kernel_rfl
  have f37 : Mine.IsFn s₁.heap 37 5 "_iter_escaped_chars" := Mine.fn_of (c := 36) (KX 37 _ rfl) (KX 36 _ rfl) rfl rfl rfl
  have f44 : Mine.IsFn s₁.heap 44 7 "_law_written" := Mine.fn_of (c := 43) (KX 44 _ rfl) (KX 43 _ rfl) rfl rfl rfl
  have f49 : Mine.IsFn s₁.heap 49 8 "_law_compare" := Mine.fn_of (c := 48) (KX 49 _ rfl) (KX 48 _ rfl) rfl rfl rfl
  have f56 : Mine.IsFn s₁.heap 56 9 "_law_lesser" := Mine.fn_of (c := 55) (KX 56 _ rfl) (KX 55 _ rfl) rfl rfl rfl
  have f61 : Mine.IsFn s₁.heap 61 10 "law" := Mine.fn_of (c := 60) (KX 61 _ rfl) (KX 60 _ rfl) rfl rfl rfl
  have h30 : Mine.RedFn s₁.heap := ⟨_, .str (Str.ofString "cpy313.functools") 187, .ref 29, .none, KX 30 _ rfl, rfl, ⟨29, _, _, _, rfl, KX 29 _ rfl, rfl, rfl⟩, KX 23 _ rfl⟩
  have h21 : ∃ o pm doc, s₁.heap.get? 21 = some o ∧ o.data = .func (Calls.docDef "cmp_to_key" (Mine.argsOf (Mine.top 1)) (Mine.bodyOf (Mine.top 1)) (Mine.scopeOf (Mine.top 1)) pm (.ref 20) doc) ∧ s₁.heap.CodeRec (.ref 20) "cmp_to_key" := ⟨_, _, _, KX 21 _ rfl, rfl, ⟨20, _, _, _, rfl, KX 20 _ rfl, rfl, rfl⟩⟩
  have hcode : CodeHd s₁.heap 20 16 := ⟨_, _, _, _, _, _, _, _, _, KX 20 _ rfl, rfl, rfl, rfl, rfl, rfl, rfl, rfl, rfl, by decide⟩
  have hbm : nsFind (Mine.entsOf (PySem.Challenge.cw_nb0072_01_holds.heap_39 w.params) 3) "__builtins__" = some (.ref 4) := by kernel_rfl
  have gr : Mine.Gr s₁.heap :=
    ⟨⟨⟨_, _, N3, N0, nm⟩, hlim, f37, f44, f49, f56⟩, h30,
      ⟨_, _, _, N3, N0, N2, by kernel_rfl, by kernel_rfl, by kernel_rfl, by kernel_rfl, Mine.str_of (by kernel_rfl), ⟨4, _, hbm, by decide, by decide, by decide, KX 4 _ rfl, rfl, rfl, rfl⟩, hcode, KX 16 _ rfl, by decide, ⟨_, KX 1 _ rfl⟩, hlim⟩, h21⟩
  refine wpAny_call ?_
  refine Mine.law_ok (A := callerA) ⟨rfl, by decide, by decide⟩ gr f61 (by assumption) (by assumption) (by omega) (fun s' cc st ht => ?_)
  exact ⟨.inl ⟨.bool true, .bool true, [], rfl, fun _ => rfl, .bool _, by kernel_rfl, fun _ => ⟨.nil, by simp⟩⟩, Mine.old_of gr st ht, st.os, st.bare (.of_eq hg)⟩

