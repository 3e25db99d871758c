import PyProof.Rows.All
import Wide.All
import OpenK.AllK
import Wide.FinOn
import PySem.Challenge.RW_rs0012_01
set_option Elab.async false

section
open PySem PySem.W PyProof.Rows
set_option maxRecDepth 100000
set_option maxHeartbeats 8000000
namespace Mine
open_top hd for PySem.Challenge.rw_rs0012_01
end Mine
end

section
open PySem PySem.Spec PySem.Calls PyProof.Rows PySem.W
set_option maxRecDepth 100000
namespace Mine

/-! the defs of the text, by their place in the top -/
def stm (n : Nat) : Stmt := (PySem.Challenge.pw_rs0012_01.main.body)[n]?.getD (.Pass default)
def nmOf : Stmt → Str
  | .FunctionDef name _ _ _ _ _ _ _ _ _ => name
  | _ => Str.ofString ""
def prOf : Stmt → Arguments
  | .FunctionDef _ args _ _ _ _ _ _ _ _ => args
  | _ => { posonlyargs := [], args := [], vararg := none, kwonlyargs := [], kw_defaults := [], kwarg := none, defaults := [] }
def bdOf : Stmt → List Stmt
  | .FunctionDef _ _ body _ _ _ _ _ _ _ => body
  | _ => []
def scOf : Stmt → Scope
  | .FunctionDef _ _ _ _ _ _ scope _ _ _ => scope
  | _ => PySem.Challenge.pw_rs0012_01.main.scope
def nm (n : Nat) : Str := nmOf (stm n)
def pr (n : Nat) : Arguments := prOf (stm n)
def bd (n : Nat) : List Stmt := bdOf (stm n)
def sc (n : Nat) : Scope := scOf (stm n)

/-- the object at `a` is the `n`-th statement's function -/
def IsFn (h : Heap) (a : Addr) (n : Nat) : Prop :=
  ∃ o pm cd doc, h.get? a = some o ∧ o.data = .func (docDef (nm n) (pr n) (bd n) (sc n) pm cd doc) ∧ h.CodeRec cd (nm n)

def Sub (h h' : Heap) : Prop := ∀ b o, h.get? b = some o → h'.get? b = some o
theorem Sub.refl (h : Heap) : Sub h h := fun _ _ e => e
theorem Sub.trans {a b c : Heap} (x : Sub a b) (y : Sub b c) : Sub a c := fun p o e => y p o (x p o e)
theorem Sub.push (h : Heap) (o : Obj) : Sub h (h.push o) := fun _ _ e => Heap.get?_push_of_some o e

theorem IsFn.keeps {h h' : Heap} {a : Addr} {n : Nat} (x : IsFn h a n) (k : Sub h h') : IsFn h' a n :=
  let ⟨o, pm, cd, doc, e, d, c⟩ := x; ⟨o, pm, cd, doc, k _ _ e, d, c.keeps k⟩

/-- the text's ground: what every heap of the call holds -/
structure Bs (h : Heap) (mg mb : Str → Option Value) : Prop where
  g : h.Ns mainGlobals mg
  b : h.Ns builtinsNs mb
  nolimit : h.NoLimit
  fn : ∀ p ∈ [(4, "ISNONTERMINAL"), (5, "ISEOF"), (7, "_parse_varint"), (12, "quotedata"), (14, "_law_told"), (15, "_law_line"), (16, "_law_back"), (17, "_law_rings"), (18, "_law_passed")], ∃ a, mg (Str.ofString p.2) = some (.ref a) ∧ IsFn h a p.1
  nt : ∃ t, mg (Str.ofString "NT_OFFSET") = some (.int 256 t)
  em : ∃ t, mg (Str.ofString "ENDMARKER") = some (.int 0 t)
  crlf : ∃ t, mg (Str.ofString "CRLF") = some (.str (Str.ofString "\r\n") t)
  builtins : ∀ x : Str, x ≠ "__name__" → mb x = bootBuiltins x
  free : ∀ x ∈ ["next", "iter", "ord", "len", "range", "chr", "min", "abs", "sum"], mg (Str.ofString x) = none

theorem Bs.keeps {h h' : Heap} {mg mb : Str → Option Value} (B : Bs h mg mb) (k : Sub h h') : Bs h' mg mb where
  g := B.g.keeps k
  b := B.b.keeps k
  nolimit := B.nolimit.keeps k
  fn := fun n hn => let ⟨a, e, f⟩ := B.fn n hn; ⟨a, e, f.keeps k⟩
  nt := B.nt
  em := B.em
  crlf := B.crlf
  builtins := B.builtins
  free := B.free

/-- the frame: `h₀` what is kept, `L` the locals -/
structure FX (h₀ : Heap) (L : Addr) (h : Heap) (m : Str → Option Value) : Prop where
  ns : h.Ns L m
  keep : Sub h₀ h
  off : h₀.get? L = none

theorem FX.ofFr {h₀ h : Heap} {L : Addr} {m : Str → Option Value} (F : Fr h₀ L h m) : FX h₀ L h m :=
  ⟨F.ns, F.keep, by
    cases e : h₀.get? L with
    | none => rfl
    | some o => exact absurd (Heap.lt_size e) (Nat.not_lt.mpr F.above)⟩
theorem FX.set {h₀ h h' : Heap} {L : Addr} {m m' : Str → Option Value} (F : FX h₀ L h m) (hn : h'.Ns L m') (hs : Heap.SameBut L h h') : FX h₀ L h' m' :=
  ⟨hn, fun b o e => (hs.2 b (by rintro rfl; rw [F.off] at e; cases e)).trans (F.keep b o e), F.off⟩
theorem FX.push {h₀ h : Heap} {L : Addr} {m : Str → Option Value} (F : FX h₀ L h m) (o : Obj) : FX h₀ L (h.push o) m :=
  ⟨F.ns.push o, F.keep.trans (Sub.push h o), F.off⟩
/-- an object `x` of the heap, not `L`, not of `h₀`, is turned; new ones may come -/
theorem FX.ext {h₀ h h' : Heap} {L x : Addr} {m : Str → Option Value} (F : FX h₀ L h m) (hx : Heap.ExtBut x h h') (hL : L ≠ x) (h0 : h₀.get? x = none) : FX h₀ L h' m :=
  ⟨F.ns.extBut hx hL, fun b o e => hx b o (by rintro rfl; rw [h0] at e; cases e) (F.keep b o e), F.off⟩
theorem FX.keeps {h₀ h h' : Heap} {L : Addr} {m : Str → Option Value} (F : FX h₀ L h m) (hx : Sub h h') : FX h₀ L h' m :=
  ⟨F.ns.keeps hx, F.keep.trans hx, F.off⟩

section
variable {M : Model} {A : Around} {E : Value → Shared → Prop} {s : Shared} {env : Env} {h₀ : Heap} {m mg mb : Str → Option Value}

/-- a local name -/
theorem ldn {x : Str} {v : Value} {Q : Value → Shared → Prop} (F : FX h₀ env.locals s.heap m) (hv : m x = some v) (h : Q v s)
    (hk : env.scope.kind = .function := by rfl) (hl : env.kindOf x = some .local := by rfl) : wpAny M A (loadName env x) Q E s := wpAny_loadName_local hk hl F.ns hv h
theorem ld {x : Str} {pos : Pos} {v : Value} {Q : Value → Shared → Prop} (F : FX h₀ env.locals s.heap m) (hv : m x = some v) (h : Q v s)
    (hk : env.scope.kind = .function := by rfl) (hl : env.kindOf x = some .local := by rfl) (hd : (x == ("__debug__" : Str)) = false := by decide) :
    wpAny M A (eval (.Name x pos) env) Q E s := wpAny_Name (wpAny_loadName_local hk hl F.ns hv h) hd
theorem st {x : Str} {v : Value} {Q : Unit → Shared → Prop} (F : FX h₀ env.locals s.heap m)
    (h : ∀ h', FX h₀ env.locals h' (fun y => if y = x then some v else m y) → Heap.SameBut env.locals s.heap h' → Q () { s with heap := h', toks := s.toks + 1 })
    (hk : (env.scope.kind == .class || (env.scope.kind == .module && env.locals != env.globals)) = false := by rfl) (hl : env.kindOf x = some .local := by rfl) :
    wpAny M A (storeName env x v) Q E s :=
  wpAny_storeName_local hl F.ns (fun h' hn hs => h h' (F.set hn hs) hs) hk
/-- a global name -/
theorem gl {x : Str} {pos : Pos} {v : Value} {Q : Value → Shared → Prop} (B : Bs s.heap mg mb) (hv : mg x = some v) (h : Q v s)
    (hg : env.globals = mainGlobals := by rfl)
    (hk : env.scope.kind = .function := by rfl) (hl : env.kindOf x = some .globalImplicit := by rfl) (hd : (x == ("__debug__" : Str)) = false := by decide) :
    wpAny M A (eval (.Name x pos) env) Q E s := Name_function_global hk hl (loadGlobal_global (hg ▸ B.g) hv h) hd
/-- a built-in's name -/
theorem bl {x : Str} {pos : Pos} {v : Value} {Q : Value → Shared → Prop} (B : Bs s.heap mg mb) (hx : mg x = none) (hv : bootBuiltins x = some v) (h : Q v s)
    (hg : env.globals = mainGlobals := by rfl) (hb : env.builtins = builtinsNs := by rfl)
    (hk : env.scope.kind = .function := by rfl) (hl : env.kindOf x = some .globalImplicit := by rfl)
    (hd : (x == ("__debug__" : Str)) = false := by decide) (hn : x ≠ "__name__" := by decide) :
    wpAny M A (eval (.Name x pos) env) Q E s :=
  Name_function_global hk hl (loadGlobal_builtin (hg ▸ B.g) hx (hb ▸ B.b) ((B.builtins x hn).trans hv) h) hd
end

section
variable {prog : Program} {w : World} {A : Around} {E : Value → Shared → Prop} {s : Shared} {mg mb : Str → Option Value}

/-- a def of one argument, no cells: its body walked -/
theorem fn1 {n : Nat} {a : Addr} {v : Value} {x : Str} {Q : Value → Shared → Prop} (f : IsFn s.heap a n) (B : Bs s.heap mg mb) (hroom : A.depth < recursionLimit)
    (hbind : ∀ pm cd doc, bindArgs (docDef (nm n) (pr n) (bd n) (sc n) pm cd doc) ⟨[v], []⟩ = pure [(x, v)])
    (hloc : (sc n).names.lookup x = some .local)
    (h : ∀ L cd h₁, FX s.heap L h₁ (fun y => if y = x then some v else none) →
      wpAny (model prog w) (A.deeper (envOf (nm n) (sc n) L a cd)) (execs (bd n) (envOf (nm n) (sc n) L a cd))
        (fun fl s' => Q (match fl with | .ret v => v | _ => .none) s') (fun _ _ => False)
        { s with heap := h₁, toks := s.toks + 1 })
    (hco : (sc n).isCoroutine = false := by rfl) (hgen : (sc n).isGenerator = false := by rfl) (hk : (sc n).kind = .function := by rfl)
    (hcell : ∀ x ∈ (sc n).names, x.2 ≠ .cell := by decide) :
    wpAny (model prog w) A (call (.ref a) [v]) Q E s := by
  obtain ⟨o, pm, cd, doc, ho, hd, hc⟩ := f
  refine wpAny_call (call_plain_ret hroom ho hd B.nolimit hc (hbind pm cd doc) (fun y hy => ?_) (fun h₁ F => ?_) hco hgen hk hcell)
  · rw [List.mem_singleton.mp hy]; exact hloc
  · have e : (fun y => ([(x, v)] : List (Str × Value)).reverse.lookup y) = fun y => if y = x then some v else none := by
      funext y
      by_cases q : y = x
      · subst q; simp
      · have q' : (y == x) = false := beq_eq_false_iff_ne.mpr q
        simp [List.lookup_cons, q', q]
    rw [e] at F
    exact h _ _ _ (FX.ofFr F)
end

/-! calls -/
section
variable {M : Model} {A : Around} {E : Value → Shared → Prop} {s : Shared}
theorem callWith_ref {pos : Pos} {a : Addr} {first : List Value} {args : List (Bool × Sem Value)} {Q : Value → Shared → Prop}
    (h : wpAny M A (evalArgs (.ref a) true args []) (fun x s₁ => ∃ o fd, s₁.heap.get? a = some o ∧ o.data = .func fd ∧ wpAny M A (call (.ref a) (first ++ x.pos) x.kw) Q E s₁) E s) :
    wpAny M A (callWith pos (.ref a) first args []) Q E s := by
  unfold callWith
  refine wpAny_bind (wpAny_holding (wpAny_mono h (fun x s₁ h₁ => wpAny_bind (wpAny_standAt ?_)) fun _ _ x => x))
  obtain ⟨o, fd, ho, hd, h₁⟩ := h₁
  have tail : ∀ {t : Sem Value}, wpAny M A t Q E s₁ → wpAny M A (t >>= fun r => holding [r] point >>= fun _ => pure r) Q E s₁ :=
    fun ht => wpAny_bind (wpAny_mono ht (fun r s₂ hr => wpAny_bind (wpAny_holding (wpAny_point (wpAny_pure hr)))) fun _ _ x => x)
  cases hs : args.any (·.1) <;> simp only [List.any_nil, Bool.or_false] <;>
    refine wpAny_bind (m := keeperOf (.ref a)) ?_ <;> unfold keeperOf <;>
    refine wpAny_bind (wpAny_load ho ?_) <;> rw [hd] <;> refine wpAny_pure ?_
  · first
      | refine wpAny_ite ?_
      | skip
    split <;> first
      | exact tail h₁
      | exact tail (by unfold callMarked; exact wpAny_keep h₁)
  · first
      | exact tail (by unfold callMarked; exact wpAny_keep h₁)
      | exact tail h₁
end
section
variable {prog : Program} {w : World} {A : Around} {E : Value → Shared → Prop} {s : Shared} {env : Env} {Q : Value → Shared → Prop}

/-- `f(e)`, f a built-in -/
theorem callB1 {x : Str} {p pos : Pos} {e : Expr} {id : String}
    (h : wpAny (model prog w) A (eval (.Name x p) env) (fun f s₁ => f = .builtin id ∧ wpAny (model prog w) A (eval e env) (fun v s₂ => wpAny (model prog w) A (call (.builtin id) [v]) Q E s₂) E s₁) E s)
    (hs : starEach [e] env = [(false, eval e env)] := by rfl) : wpAny (model prog w) A (eval (.Call (.Name x p) [e] [] pos) env) Q E s := by
  refine wpAny_Call_NameR (wpAny_mono h (fun f s₁ h₁ => ?_) fun _ _ x => x)
  obtain ⟨rfl, h₁⟩ := h₁
  rw [hs]
  refine callWith_builtin rfl (evalArgs_plain (spliced_cons (wpAny_mono h₁ (fun v s₂ h₂ => spliced_nil ?_) fun _ _ x => x)))
  exact h₂
/-- `f(e, e')`, f a built-in -/
theorem callB2 {x : Str} {p pos : Pos} {e e' : Expr} {id : String}
    (h : wpAny (model prog w) A (eval (.Name x p) env) (fun f s₁ => f = .builtin id ∧ wpAny (model prog w) A (eval e env) (fun v s₂ => wpAny (model prog w) A (eval e' env) (fun v' s₃ => wpAny (model prog w) A (call (.builtin id) [v, v']) Q E s₃) E s₂) E s₁) E s)
    (hs : starEach [e, e'] env = [(false, eval e env), (false, eval e' env)] := by rfl) : wpAny (model prog w) A (eval (.Call (.Name x p) [e, e'] [] pos) env) Q E s := by
  refine wpAny_Call_NameR (wpAny_mono h (fun f s₁ h₁ => ?_) fun _ _ x => x)
  obtain ⟨rfl, h₁⟩ := h₁
  rw [hs]
  refine callWith_builtin rfl (evalArgs_plain (spliced_cons (wpAny_mono h₁ (fun v s₂ h₂ => spliced_cons (wpAny_mono h₂ (fun v' s₃ h₃ => spliced_nil ?_) fun _ _ x => x)) fun _ _ x => x)))
  exact h₃
/-- `T(e)`, T a built-in type -/
theorem callT1 {x : Str} {p pos : Pos} {e : Expr} {T : String}
    (h : wpAny (model prog w) A (eval (.Name x p) env) (fun f s₁ => f = .type T ∧ wpAny (model prog w) A (eval e env) (fun v s₂ => wpAny (model prog w) A (call (.type T) [v]) Q E s₂) E s₁) E s)
    (hs : starEach [e] env = [(false, eval e env)] := by rfl) : wpAny (model prog w) A (eval (.Call (.Name x p) [e] [] pos) env) Q E s := by
  refine wpAny_Call_NameR (wpAny_mono h (fun f s₁ h₁ => ?_) fun _ _ x => x)
  obtain ⟨rfl, h₁⟩ := h₁
  rw [hs]
  refine PySem.callWith_type rfl (evalArgs_plain (spliced_cons (wpAny_mono h₁ (fun v s₂ h₂ => spliced_nil ?_) fun _ _ x => x)))
  exact h₂
theorem callT2 {x : Str} {p pos : Pos} {e e' : Expr} {T : String}
    (h : wpAny (model prog w) A (eval (.Name x p) env) (fun f s₁ => f = .type T ∧ wpAny (model prog w) A (eval e env) (fun v s₂ => wpAny (model prog w) A (eval e' env) (fun v' s₃ => wpAny (model prog w) A (call (.type T) [v, v']) Q E s₃) E s₂) E s₁) E s)
    (hs : starEach [e, e'] env = [(false, eval e env), (false, eval e' env)] := by rfl) : wpAny (model prog w) A (eval (.Call (.Name x p) [e, e'] [] pos) env) Q E s := by
  refine wpAny_Call_NameR (wpAny_mono h (fun f s₁ h₁ => ?_) fun _ _ x => x)
  obtain ⟨rfl, h₁⟩ := h₁
  rw [hs]
  refine PySem.callWith_type rfl (evalArgs_plain (spliced_cons (wpAny_mono h₁ (fun v s₂ h₂ => spliced_cons (wpAny_mono h₂ (fun v' s₃ h₃ => spliced_nil ?_) fun _ _ x => x)) fun _ _ x => x)))
  exact h₃
/-- `f(e)`, f a def of the text -/
theorem callF1 {x : Str} {p pos : Pos} {e : Expr} {a : Addr} {n : Nat}
    (h : wpAny (model prog w) A (eval (.Name x p) env) (fun f s₁ => f = .ref a ∧ wpAny (model prog w) A (eval e env) (fun v s₂ => IsFn s₂.heap a n ∧ wpAny (model prog w) A (call (.ref a) [v]) Q E s₂) E s₁) E s)
    (hs : starEach [e] env = [(false, eval e env)] := by rfl) : wpAny (model prog w) A (eval (.Call (.Name x p) [e] [] pos) env) Q E s := by
  refine wpAny_Call_NameR (wpAny_mono h (fun f s₁ h₁ => ?_) fun _ _ x => x)
  obtain ⟨rfl, h₁⟩ := h₁
  rw [hs]
  refine callWith_ref (evalArgs_plain (spliced_cons (wpAny_mono h₁ (fun v s₂ h₂ => spliced_nil ?_) fun _ _ x => x)))
  obtain ⟨⟨o, pm, cd, doc, ho, hd, hc⟩, h₂⟩ := h₂
  exact ⟨o, _, ho, hd, h₂⟩
/-- `o.name(e)`, a built-in type's method -/
theorem callM1 {o e : Expr} {name : Str} {apos pos : Pos} {T id : String} (pa : PlainAttrs T) (slot : Slot T name id) (hty : typeOf (.builtin id) = pure (.type "method_descriptor"))
    (h : wpAny (model prog w) A (eval o env) (fun ov s₁ => s₁.TypeIs ov T ∧ (∀ a, ov = .ref a → ∃ ob, s₁.heap.get? a = some ob ∧ ob.dict = none) ∧
      wpAny (model prog w) A (eval e env) (fun v s₂ => wpAny (model prog w) A (call (.builtin id) [ov, v]) Q E s₂) E s₁) E s)
    (hbase : attributeBase o name env (eval o env) = eval o env := by rfl) (hs : starEach [e] env = [(false, eval e env)] := by rfl) (hline : (apos.endLine == pos.line) = true := by rfl) :
    wpAny (model prog w) A (eval (.Call (.Attribute o name apos) [e] [] pos) env) Q E s := by
  refine Call_method1 hbase hs hline (wpAny_mono h (fun ov s₁ h₁ => ?_) fun _ _ x => x)
  obtain ⟨hT, hd, h₁⟩ := h₁
  refine ⟨T, id, pa, slot, hty, hT, hd, callWith_builtin rfl (evalArgs_plain (spliced_cons (wpAny_mono h₁ (fun v s₂ h₂ => spliced_nil ?_) fun _ _ x => x)))⟩
  exact h₂
theorem callM2 {o e e' : Expr} {name : Str} {apos pos : Pos} {T id : String} (pa : PlainAttrs T) (slot : Slot T name id) (hty : typeOf (.builtin id) = pure (.type "method_descriptor"))
    (h : wpAny (model prog w) A (eval o env) (fun ov s₁ => s₁.TypeIs ov T ∧ (∀ a, ov = .ref a → ∃ ob, s₁.heap.get? a = some ob ∧ ob.dict = none) ∧
      wpAny (model prog w) A (eval e env) (fun v s₂ => wpAny (model prog w) A (eval e' env) (fun v' s₃ => wpAny (model prog w) A (call (.builtin id) [ov, v, v']) Q E s₃) E s₂) E s₁) E s)
    (hbase : attributeBase o name env (eval o env) = eval o env := by rfl) (hs : starEach [e, e'] env = [(false, eval e env), (false, eval e' env)] := by rfl) (hline : (apos.endLine == pos.line) = true := by rfl) :
    wpAny (model prog w) A (eval (.Call (.Attribute o name apos) [e, e'] [] pos) env) Q E s := by
  refine Call_method2 hbase hs hline (wpAny_mono h (fun ov s₁ h₁ => ?_) fun _ _ x => x)
  obtain ⟨hT, hd, h₁⟩ := h₁
  refine ⟨T, id, pa, slot, hty, hT, hd, callWith_builtin rfl (evalArgs_plain (spliced_cons (wpAny_mono h₁ (fun v s₂ h₂ => spliced_cons (wpAny_mono h₂ (fun v' s₃ h₃ => spliced_nil ?_) fun _ _ x => x)) fun _ _ x => x)))⟩
  exact h₃
end
end Mine
end

section
open PySem PySem.Sre
set_option maxRecDepth 100000
namespace Mine
def c1 : Array Nat := #[14, 4, 0, 1, 1, 6, 1, 16, 46, 1]
def c2 : Array Nat := #[14, 9, 4, 1, 2, 16, 10, 16, 13, 0, 7, 7, 16, 13, 16, 10, 15, 18, 5, 16, 10, 15, 13, 11, 16, 13, 5, 5, 0, 16, 10, 1, 15, 2, 0, 1]

/-- `m` comes to `m'` in `n` steps -/
def Goes (n : Nat) (m m' : M) : Prop := M.runFor n m = m'

theorem runFor_out {n : Nat} {m : M} (h : m.outcome.isSome = true) : M.runFor n m = m := by
  cases n with
  | zero => rfl
  | succ n => unfold M.runFor; rw [if_pos h]
theorem runFor_add (a b : Nat) (m : M) : M.runFor (a + b) m = M.runFor b (M.runFor a m) := by
  induction a generalizing m with
  | zero => rw [Nat.zero_add]; rfl
  | succ a ih =>
    rw [Nat.succ_add]
    show (if m.outcome.isSome then m else M.runFor (a + b) m.step) = M.runFor b (if m.outcome.isSome then m else M.runFor a m.step)
    by_cases h : m.outcome.isSome = true
    · rw [if_pos h, if_pos h, runFor_out h]
    · rw [if_neg h, if_neg h, ih]
theorem runFor_step {m m' : M} (h : m.step = m') (ho : m.outcome = none) (n : Nat) : M.runFor (n + 1) m = M.runFor n m' := by
  show (if m.outcome.isSome then m else M.runFor n m.step) = _
  rw [ho, h]; rfl

/-- the machine of pattern 1 -/
abbrev m1 (text : Array Nat) (lim start pc pos handed : Nat) (om : Bool) (frames : List Sre.Frame) (weight : Nat) (answer : Option Bool) (seen : Seen) (oc : Option Sre.Outcome) : M :=
  { code := c1, text, lim, start, lastStart := lim, pc, pos, handed, outermost := om, marks := #[], lastmark := -1, lastindex := -1, frames, weight, answer, seen, outcome := oc }

section
variable {text : Array Nat} {lim start pos handed : Nat} {om : Bool} {frames : List Sre.Frame} {weight : Nat} {seen : Seen}
theorem step1_at : (m1 text lim start 5 pos handed om frames weight none seen none).step =
    if (pos == 0 || text.getD (pos - 1) 0 == 10) = true then m1 text lim start 7 pos handed om frames weight none ((seen.add 6).add 44) none
    else m1 text lim start 5 pos handed om frames weight (some false) ((seen.add 6).add 44) none := by rfl
theorem step1_lit : (m1 text lim start 7 pos handed om frames weight none seen none).step =
    if pos ≥ lim then m1 text lim start 7 pos handed om frames weight (some false) (seen.add 16) none
    else if (text.getD pos 0 == 46) = true then m1 text lim start 9 (pos + 1) handed om frames weight none (seen.add 16) none
    else m1 text lim start 7 pos handed om frames weight (some false) (seen.add 16) none := by
  show (if pos ≥ lim then _ else match (Except.ok ((text.getD pos 0 == 46), seen.add 16) : Except String (Bool × Seen)) with | .error why => _ | .ok (false, seen) => _ | .ok (true, seen) => _) = _
  split
  · rfl
  · cases h : (text.getD pos 0 == 46) <;> rfl
theorem step1_suc : (m1 text lim start 9 pos handed om frames weight none seen none).step = m1 text lim start 9 pos pos om frames weight (some true) (seen.add 1) none := by
  show (if (om && ((false && pos != lim) || (false && pos == start))) = true then _ else _) = _
  simp
  rfl

abbrev fr1 (s : Nat) (om : Bool) : Sre.Frame := { wait := .nextStart, pc := 5, pos := s, outermost := om }
/-- the start of a try at `s` -/
abbrev x1 (text : Array Nat) (lim s : Nat) (om : Bool) (seen : Seen) : M := m1 text lim s 5 s s om [fr1 s om] 1 none seen none

theorem step1_no {pc : Nat} {s : Nat} : (m1 text lim start pc pos handed om [fr1 s om] 1 (some false) seen none).step =
    if s < lim then x1 text lim (s + 1) false seen else m1 text lim start 5 s handed om [] 0 (some false) seen none := by
  show (if (false = true) then _ else if s < lim then _ else _) = _
  rfl
theorem step1_yes {pc : Nat} {s : Nat} : (m1 text lim start pc pos handed om [fr1 s om] 1 (some true) seen none).step = m1 text lim start 5 s handed om [] 0 (some true) seen none := by
  rfl
theorem step1_end {pc : Nat} {b : Bool} : (m1 text lim start pc pos handed om [] 0 (some b) seen none).step = m1 text lim start pc pos handed om [] 0 (some b) seen (some (if b then .matched else .failed)) := by
  rfl
end

/-- a dot that stands first in a row -/
def ok1 (text : Array Nat) (lim j : Nat) : Bool := (j == 0 || text.getD (j - 1) 0 == 10) && (decide (j < lim) && text.getD j 0 == 46)

/-- how a search ends -/
inductive Ends1 (text : Array Nat) (lim s : Nat) (m : M) : Prop
  | found (j : Nat) (h1 : s ≤ j) (h2 : ok1 text lim j = true) (h3 : ∀ i, s ≤ i → i < j → ok1 text lim i = false) (ho : m.outcome = some .matched) (hs : m.start = j) (hh : m.handed = j + 1)
  | not (h : ∀ i, s ≤ i → ok1 text lim i = false) (ho : m.outcome = some .failed)

theorem run1 {text : Array Nat} {lim : Nat} : ∀ (k s : Nat) (om : Bool) (seen : Seen), s + k = lim → ∃ n, n ≤ 3 * k + 6 ∧ Ends1 text lim s (M.runFor n (x1 text lim s om seen)) := by
  intro k
  induction k with
  | zero =>
    intro s om seen hs
    have hs' : ¬ s < lim := by omega
    have hno : ∀ i, s ≤ i → ok1 text lim i = false := fun i hi => by
      have : ¬ i < lim := by omega
      simp [ok1, this]
    by_cases hat : (s == 0 || text.getD (s - 1) 0 == 10) = true
    · refine ⟨4, by omega, ?_⟩
      rw [runFor_step (step1_at.trans (if_pos hat)) rfl, runFor_step (step1_lit.trans (if_pos (by omega))) rfl, runFor_step (step1_no.trans (if_neg hs')) rfl, runFor_step step1_end rfl]
      exact .not hno rfl
    · refine ⟨3, by omega, ?_⟩
      rw [runFor_step (step1_at.trans (if_neg hat)) rfl, runFor_step (step1_no.trans (if_neg hs')) rfl, runFor_step step1_end rfl]
      exact .not hno rfl
  | succ k ih =>
    intro s om seen hs
    have hs' : s < lim := by omega
    by_cases hat : (s == 0 || text.getD (s - 1) 0 == 10) = true
    · by_cases hd : (text.getD s 0 == 46) = true
      · refine ⟨5, by omega, ?_⟩
        rw [runFor_step (step1_at.trans (if_pos hat)) rfl, runFor_step (step1_lit.trans ((if_neg (by omega)).trans (if_pos hd))) rfl, runFor_step step1_suc rfl, runFor_step step1_yes rfl, runFor_step step1_end rfl]
        exact .found s (Nat.le_refl _) (by unfold ok1; rw [hat, hd, decide_eq_true hs']; rfl) (fun i h1 h2 => absurd h1 (by omega)) rfl rfl rfl
      · have hok : ok1 text lim s = false := by
          have : (text.getD s 0 == 46) = false := by simpa using hd
          unfold ok1; rw [this]; simp
        obtain ⟨n, hn, he⟩ := ih (s + 1) false (((seen.add 6).add 44).add 16) (by omega)
        refine ⟨n + 3, by omega, ?_⟩
        rw [runFor_step (step1_at.trans (if_pos hat)) rfl, runFor_step (step1_lit.trans ((if_neg (by omega)).trans (if_neg hd))) rfl, runFor_step (step1_no.trans (if_pos hs')) rfl]
        cases he with
        | found j h1 h2 h3 ho h4 h5 => exact .found j (by omega) h2 (fun i a b => (Nat.eq_or_lt_of_le a).elim (fun e => e ▸ hok) (fun e => h3 i e b)) ho h4 h5
        | not h ho => exact .not (fun i a => (Nat.eq_or_lt_of_le a).elim (fun e => e ▸ hok) (fun e => h i e)) ho
    · have hok : ok1 text lim s = false := by
        have : (s == 0 || text.getD (s - 1) 0 == 10) = false := by simpa using hat
        unfold ok1; rw [this]; rfl
      obtain ⟨n, hn, he⟩ := ih (s + 1) false ((seen.add 6).add 44) (by omega)
      refine ⟨n + 2, by omega, ?_⟩
      rw [runFor_step (step1_at.trans (if_neg hat)) rfl, runFor_step (step1_no.trans (if_pos hs')) rfl]
      cases he with
      | found j h1 h2 h3 ho h4 h5 => exact .found j (by omega) h2 (fun i a b => (Nat.eq_or_lt_of_le a).elim (fun e => e ▸ hok) (fun e => h3 i e b)) ho h4 h5
      | not h ho => exact .not (fun i a => (Nat.eq_or_lt_of_le a).elim (fun e => e ▸ hok) (fun e => h i e)) ho

theorem search1 {text : Array Nat} {lim s : Nat} (hs : s ≤ lim) : ∃ n, n ≤ 3 * lim + 6 ∧ Ends1 text lim s (M.runFor n (forSearch c1 text 0 s lim false)) := by
  by_cases h : s < lim
  · obtain ⟨n, hn, he⟩ := run1 (text := text) (lim := lim) (lim - s) s true (({} : Seen).add 14) (by omega)
    refine ⟨n, by omega, ?_⟩
    have e : forSearch c1 text 0 s lim false = x1 text lim s true (({} : Seen).add 14) := by
      show (if (decide (s > lim) || decide (lim - s < 1)) = true then _ else _) = _
      rw [if_neg (by simp; omega)]
      rfl
    rw [e]; exact he
  · have hs' : s = lim := by omega
    refine ⟨1, by omega, ?_⟩
    have e : (M.runFor 1 (forSearch c1 text 0 s lim false)).outcome = some .failed := by
      have : forSearch c1 text 0 s lim false = (M.say { code := c1, text, lim, start := s, pc := 5, pos := s, handed := s, marks := #[], mustAdvance := false, seen := ({} : Seen).add 14 } false) := by
        show (if (decide (s > lim) || decide (lim - s < 1)) = true then _ else _) = _
        rw [if_pos (by simp; omega)]
        rfl
      rw [this]; rfl
    exact .not (fun i hi => by have : ¬ i < lim := by omega
                               simp [ok1, this]) e
end Mine
end

section
open PySem PySem.Sre
set_option maxRecDepth 100000
namespace Mine

abbrev m2 (text : Array Nat) (lim start pc pos handed : Nat) (om : Bool) (frames : List Sre.Frame) (weight : Nat) (answer : Option Bool) (seen : Seen) (oc : Option Sre.Outcome) : M :=
  { code := c2, text, lim, start, lastStart := lim, pc, pos, handed, outermost := om, marks := #[], lastmark := -1, lastindex := -1, frames, weight, answer, seen, outcome := oc }
abbrev fr2 (s : Nat) (om : Bool) : Sre.Frame := { wait := .nextStart, pc := 10, pos := s, outermost := om }
abbrev br2 (pc s : Nat) (om : Bool) : Sre.Frame := { wait := .nextBranch, pc, pos := s, outermost := om, kept := { lastmark := -1, lastindex := -1 } }
abbrev lk2 (s : Nat) (om : Bool) : Sre.Frame := { wait := .lookNot, pc := 26, pos := s, outermost := om, kept := { lastmark := -1, lastindex := -1 } }

section
variable {text : Array Nat} {lim start pos handed s : Nat} {om : Bool} {frames : List Sre.Frame} {seen : Seen}
/-- a literal's step -/
theorem lit2 (pc v : Nat) {weight : Nat} (h : (m2 text lim start pc pos handed om frames weight none seen none).step =
      if pos ≥ lim then m2 text lim start pc pos handed om frames weight (some false) (seen.add 16) none
      else match (Except.ok ((text.getD pos 0 == v), seen.add 16) : Except String (Bool × Seen)) with
        | .error why => (m2 text lim start pc pos handed om frames weight none (seen.add 16) none).stick why
        | .ok (false, sn) => m2 text lim start pc pos handed om frames weight (some false) sn none
        | .ok (true, sn) => m2 text lim start (pc + 2) (pos + 1) handed om frames weight none sn none := by rfl) :
    (m2 text lim start pc pos handed om frames weight none seen none).step =
    if (decide (pos < lim) && text.getD pos 0 == v) = true then m2 text lim start (pc + 2) (pos + 1) handed om frames weight none (seen.add 16) none
    else m2 text lim start pc pos handed om frames weight (some false) (seen.add 16) none := by
  rw [h]
  by_cases hp : pos < lim
  · rw [if_neg (by omega), decide_eq_true hp]
    cases h : (text.getD pos 0 == v) <;> rfl
  · rw [if_pos (by omega), decide_eq_false hp]; rfl
theorem s2_12 {weight : Nat} : (m2 text lim start 12 pos handed om frames weight none seen none).step =
    if (decide (pos < lim) && text.getD pos 0 == 13) = true then m2 text lim start 14 (pos + 1) handed om frames weight none (seen.add 16) none
    else m2 text lim start 12 pos handed om frames weight (some false) (seen.add 16) none := lit2 12 13 rfl
theorem s2_14 {weight : Nat} : (m2 text lim start 14 pos handed om frames weight none seen none).step =
    if (decide (pos < lim) && text.getD pos 0 == 10) = true then m2 text lim start 16 (pos + 1) handed om frames weight none (seen.add 16) none
    else m2 text lim start 14 pos handed om frames weight (some false) (seen.add 16) none := lit2 14 10 rfl
theorem s2_19 {weight : Nat} : (m2 text lim start 19 pos handed om frames weight none seen none).step =
    if (decide (pos < lim) && text.getD pos 0 == 10) = true then m2 text lim start 21 (pos + 1) handed om frames weight none (seen.add 16) none
    else m2 text lim start 19 pos handed om frames weight (some false) (seen.add 16) none := lit2 19 10 rfl
theorem s2_24 {weight : Nat} : (m2 text lim start 24 pos handed om frames weight none seen none).step =
    if (decide (pos < lim) && text.getD pos 0 == 13) = true then m2 text lim start 26 (pos + 1) handed om frames weight none (seen.add 16) none
    else m2 text lim start 24 pos handed om frames weight (some false) (seen.add 16) none := lit2 24 13 rfl
theorem s2_29 {weight : Nat} : (m2 text lim start 29 pos handed om frames weight none seen none).step =
    if (decide (pos < lim) && text.getD pos 0 == 10) = true then m2 text lim start 31 (pos + 1) handed om frames weight none (seen.add 16) none
    else m2 text lim start 29 pos handed om frames weight (some false) (seen.add 16) none := lit2 29 10 rfl
theorem s2_10 : (m2 text lim start 10 pos handed om frames 1 none seen none).step = m2 text lim start 12 pos pos om (br2 11 pos om :: frames) 2 none (seen.add 7) none := by rfl
theorem s2_16 {weight : Nat} : (m2 text lim start 16 pos handed om frames weight none seen none).step = m2 text lim start 35 pos handed om frames weight none (seen.add 15) none := by rfl
theorem s2_21 {weight : Nat} : (m2 text lim start 21 pos handed om frames weight none seen none).step = m2 text lim start 35 pos handed om frames weight none (seen.add 15) none := by rfl
theorem s2_32 {weight : Nat} : (m2 text lim start 32 pos handed om frames weight none seen none).step = m2 text lim start 35 pos handed om frames weight none (seen.add 15) none := by rfl
theorem s2_26 : (m2 text lim start 26 pos handed om frames 2 none seen none).step = m2 text lim start 29 pos pos false (lk2 pos om :: frames) 3 none (seen.add 5) none := by rfl
theorem s2_35 {weight : Nat} : (m2 text lim start 35 pos handed om frames weight none seen none).step = m2 text lim start 35 pos pos om frames weight (some true) (seen.add 1) none := by
  show (if (om && ((false && pos != lim) || (false && pos == start))) = true then _ else _) = _
  simp
  rfl
theorem b2_yes {pc pcb : Nat} {om' : Bool} : (m2 text lim start pc pos handed om' (br2 pcb s om :: frames) 2 (some true) seen none).step = m2 text lim start pcb s handed om frames 1 (some true) seen none := by rfl
theorem b2_no11 {pc : Nat} {om' : Bool} : (m2 text lim start pc pos handed om' (br2 11 s om :: frames) 2 (some false) seen none).step = m2 text lim start 19 s s om (br2 18 s om :: frames) 2 none seen none := by rfl
theorem b2_no18 {pc : Nat} {om' : Bool} : (m2 text lim start pc pos handed om' (br2 18 s om :: frames) 2 (some false) seen none).step = m2 text lim start 24 s s om (br2 23 s om :: frames) 2 none seen none := by rfl
theorem l2_no {pc : Nat} {om' : Bool} : (m2 text lim start pc pos handed om' (lk2 s om :: frames) 3 (some false) seen none).step = m2 text lim start 32 s handed om frames 2 none seen none := by rfl
theorem f2_yes {pc : Nat} {om' : Bool} : (m2 text lim start pc pos handed om' [fr2 s om] 1 (some true) seen none).step = m2 text lim start 10 s handed om [] 0 (some true) seen none := by rfl
theorem e2 {pc : Nat} {b : Bool} : (m2 text lim start pc pos handed om [] 0 (some b) seen none).step = m2 text lim start pc pos handed om [] 0 (some b) seen (some (if b then .matched else .failed)) := by rfl
end

/-- where a row's end that begins at `j` ends -/
def end2 (text : Array Nat) (lim j : Nat) : Nat := if (text.getD j 0 == 13 && (decide (j + 1 < lim) && text.getD (j + 1) 0 == 10)) = true then j + 2 else j + 1
def ok2 (text : Array Nat) (lim j : Nat) : Bool := decide (j < lim) && (text.getD j 0 == 10 || text.getD j 0 == 13)
abbrev x2 (text : Array Nat) (lim s : Nat) (om : Bool) (seen : Seen) : M := m2 text lim s 10 s s om [fr2 s om] 1 none seen none

theorem run2 {text : Array Nat} {lim s : Nat} {om : Bool} {seen : Seen} (h : ok2 text lim s = true) :
    ∃ n, n ≤ 20 ∧ (M.runFor n (x2 text lim s om seen)).outcome = some .matched ∧ (M.runFor n (x2 text lim s om seen)).start = s ∧ (M.runFor n (x2 text lim s om seen)).handed = end2 text lim s := by
  unfold ok2 at h
  obtain ⟨hl, hc⟩ := Bool.and_eq_true_iff.mp h
  by_cases h13 : (text.getD s 0 == 13) = true
  · have h12 : (decide (s < lim) && text.getD s 0 == 13) = true := by rw [hl, h13]; rfl
    have h19 : ¬ (decide (s < lim) && text.getD s 0 == 10) = true := by
      have : text.getD s 0 = 13 := by simpa using h13
      rw [this]; simp
    by_cases h10 : (decide (s + 1 < lim) && text.getD (s + 1) 0 == 10) = true
    · refine ⟨8, by omega, ?_⟩
      rw [runFor_step s2_10 rfl, runFor_step (s2_12.trans (if_pos h12)) rfl, runFor_step (s2_14.trans (if_pos h10)) rfl, runFor_step s2_16 rfl, runFor_step s2_35 rfl, runFor_step b2_yes rfl, runFor_step f2_yes rfl, runFor_step e2 rfl]
      refine ⟨rfl, rfl, ?_⟩
      unfold end2; rw [h13, h10]; rfl
    · refine ⟨15, by omega, ?_⟩
      rw [runFor_step s2_10 rfl, runFor_step (s2_12.trans (if_pos h12)) rfl, runFor_step (s2_14.trans (if_neg h10)) rfl, runFor_step b2_no11 rfl, runFor_step (s2_19.trans (if_neg h19)) rfl, runFor_step b2_no18 rfl,
        runFor_step (s2_24.trans (if_pos h12)) rfl, runFor_step s2_26 rfl, runFor_step (s2_29.trans (if_neg h10)) rfl, runFor_step l2_no rfl, runFor_step s2_32 rfl, runFor_step s2_35 rfl, runFor_step b2_yes rfl, runFor_step f2_yes rfl, runFor_step e2 rfl]
      refine ⟨rfl, rfl, ?_⟩
      have : (decide (s + 1 < lim) && text.getD (s + 1) 0 == 10) = false := by simpa using h10
      unfold end2; rw [this]; simp [M.runFor]
  · have h12 : ¬ (decide (s < lim) && text.getD s 0 == 13) = true := by
      have : (text.getD s 0 == 13) = false := by simpa using h13
      rw [this]; simp
    have h10 : (text.getD s 0 == 10) = true := by
      rcases Bool.or_eq_true_iff.mp hc with q | q
      · exact q
      · exact absurd q h13
    have h19 : (decide (s < lim) && text.getD s 0 == 10) = true := by rw [hl, h10]; rfl
    refine ⟨9, by omega, ?_⟩
    rw [runFor_step s2_10 rfl, runFor_step (s2_12.trans (if_neg h12)) rfl, runFor_step b2_no11 rfl, runFor_step (s2_19.trans (if_pos h19)) rfl, runFor_step s2_21 rfl, runFor_step s2_35 rfl, runFor_step b2_yes rfl, runFor_step f2_yes rfl, runFor_step e2 rfl]
    refine ⟨rfl, rfl, ?_⟩
    have : (text.getD s 0 == 13) = false := by simpa using h13
    unfold end2; rw [this]; simp [M.runFor]

theorem inset2 (c : Nat) (seen : Seen) : ∃ seen', inSet c2 c 36 5 true seen = .ok ((c == 10 || c == 13), seen') := by
  have e : inSet c2 c 36 5 true seen = if (c == 10) = true then .ok (true, seen.add 16) else if (c == 13) = true then .ok (true, (seen.add 16).add 16) else .ok (false, ((seen.add 16).add 16).add 0) := by rfl
  rw [e]
  cases h1 : (c == 10) <;> cases h2 : (c == 13) <;> exact ⟨_, rfl⟩

inductive Adm (text : Array Nat) (lim s : Nat) (r : Except String (Option Nat × Seen)) : Prop
  | some (j : Nat) (seen' : Seen) (h1 : s ≤ j) (h2 : ok2 text lim j = true) (h3 : ∀ i, s ≤ i → i < j → ok2 text lim i = false) (e : r = .ok (some j, seen'))
  | none (seen' : Seen) (h : ∀ i, s ≤ i → ok2 text lim i = false) (e : r = .ok (none, seen'))

theorem adm2 {text : Array Nat} {lim : Nat} {m : M} (hc : m.code = c2) (ht : m.text = text) (hl : m.lim = lim) : ∀ (k s : Nat) (seen : Seen), s + k = lim + 1 → Adm text lim s (m.admitted k s seen) := by
  intro k
  induction k with
  | zero => intro s seen hs; exact .none seen (fun i hi => by have : ¬ i < lim := by omega
                                                              simp [ok2, this]) rfl
  | succ k ih =>
    intro s seen hs
    have e : m.admitted (k + 1) s seen = if s ≥ lim then .ok (none, seen) else match inSet c2 (text.getD s 0) 36 5 true seen with
      | .ok (true, seen) => .ok (some s, seen)
      | .ok (false, seen) => m.admitted k (s + 1) seen
      | .error why => .error why := by
        conv => lhs; unfold M.admitted
        rw [hc, ht, hl]; rfl
    rw [e]
    by_cases hsl : s ≥ lim
    · rw [if_pos hsl]
      exact .none seen (fun i hi => by have : ¬ i < lim := by omega
                                       simp [ok2, this]) rfl
    · rw [if_neg hsl]
      obtain ⟨seen', hi⟩ := inset2 (text.getD s 0) seen
      rw [hi]
      cases hb : (text.getD s 0 == 10 || text.getD s 0 == 13) with
      | true => exact .some s seen' (Nat.le_refl _) (by unfold ok2; rw [hb]; simp; omega) (fun i a b => absurd a (by omega)) rfl
      | false =>
        have hok : ok2 text lim s = false := by unfold ok2; rw [hb]; simp
        show Adm text lim s (m.admitted k (s + 1) seen')
        cases ih (s + 1) seen' (by omega) with
        | some j sn h1 h2 h3 e => exact .some j sn (by omega) h2 (fun i a b => (Nat.eq_or_lt_of_le a).elim (fun e => e ▸ hok) (fun e => h3 i e b)) e
        | none sn h e => exact .none sn (fun i a => (Nat.eq_or_lt_of_le a).elim (fun e => e ▸ hok) (fun e => h i e)) e

inductive Ends2 (text : Array Nat) (lim s : Nat) (m : M) : Prop
  | found (j : Nat) (h1 : s ≤ j) (h2 : ok2 text lim j = true) (h3 : ∀ i, s ≤ i → i < j → ok2 text lim i = false) (ho : m.outcome = some .matched) (hs : m.start = j) (hh : m.handed = end2 text lim j)
  | not (h : ∀ i, s ≤ i → ok2 text lim i = false) (ho : m.outcome = some .failed)

theorem search2 {text : Array Nat} {lim s : Nat} (hs : s ≤ lim) : ∃ n, n ≤ 20 ∧ Ends2 text lim s (M.runFor n (forSearch c2 text 0 s lim false)) := by
  by_cases h : s < lim
  · have e : forSearch c2 text 0 s lim false = M.attemptFrom (m2 text lim s 10 s s true [] 0 none (({} : Seen).add 14) none) s true := by
      show (if (decide (s > lim) || decide (lim - s < 1)) = true then _ else _) = _
      rw [if_neg (by simp; omega)]
      rfl
    have e' : M.attemptFrom (m2 text lim s 10 s s true [] 0 none (({} : Seen).add 14) none) s true =
        match (m2 text lim s 10 s s true [] 0 none (({} : Seen).add 14) none).admitted (lim + 1 - s) s (({} : Seen).add 14) with
        | .ok (some s', seen) => x2 text lim s' true seen
        | .ok (none, seen) => m2 text lim s 10 s s true [] 0 (some false) seen none
        | .error why => (m2 text lim s 10 s s true [] 0 none (({} : Seen).add 14) none).stick why := by rfl
    rw [e, e']
    cases adm2 (text := text) (lim := lim) (m := m2 text lim s 10 s s true [] 0 none (({} : Seen).add 14) none) rfl rfl rfl (lim + 1 - s) s (({} : Seen).add 14) (by omega) with
    | some j sn h1 h2 h3 e =>
      rw [e]
      obtain ⟨n, hn, a, b, c⟩ := run2 (om := true) (seen := sn) h2
      exact ⟨n, hn, .found j h1 h2 h3 a b c⟩
    | none sn h e =>
      rw [e]
      exact ⟨1, by omega, .not h rfl⟩
  · have hs' : s = lim := by omega
    refine ⟨1, by omega, ?_⟩
    have e : (M.runFor 1 (forSearch c2 text 0 s lim false)).outcome = some .failed := by
      have : forSearch c2 text 0 s lim false = (M.say { code := c2, text, lim, start := s, pc := 10, pos := s, handed := s, marks := #[], mustAdvance := false, seen := ({} : Seen).add 14 } false) := by
        show (if (decide (s > lim) || decide (lim - s < 1)) = true then _ else _) = _
        rw [if_pos (by simp; omega)]
        rfl
      rw [this]; rfl
    exact .not (fun i hi => by have : ¬ i < lim := by omega
                               simp [ok2, this]) e
end Mine
end

section
open PySem PySem.Sre
set_option maxRecDepth 100000
namespace Mine

/-- every row's end a return and a feed (`b`: behind a return that is told already) -/
def crlf : Bool → List Nat → List Nat
  | _, [] => []
  | b, c :: r => if c == 10 then (if b then crlf false r else 13 :: 10 :: crlf false r) else if c == 13 then 13 :: 10 :: crlf true r else c :: crlf false r
/-- a dot more ahead of each dot that stands first in its row (`b`: at a row's head) -/
def dotd : Bool → List Nat → List Nat
  | _, [] => []
  | b, c :: r => if b && c == 46 then 46 :: 46 :: dotd false r else c :: dotd (c == 10) r

def cut (text : Array Nat) (p j : Nat) : List Nat := (text.toList.drop p).take (j - p)
theorem cut_eq (text : Array Nat) (p j : Nat) : (text.extract p j).toList = cut text p j := by
  unfold cut; rw [Array.toList_extract]
theorem cut_len {text : Array Nat} {p j : Nat} : (cut text p j).length ≤ text.size := by
  unfold cut; simp; omega
theorem getD_drop {text : Array Nat} {p : Nat} (h : p < text.size) : text.toList.drop p = text.getD p 0 :: text.toList.drop (p + 1) := by
  rw [List.drop_eq_getElem_cons (by simpa using h)]
  simp [Array.getD, h]
theorem drop_none {text : Array Nat} {p : Nat} (h : ¬ p < text.size) : text.toList.drop p = [] := by
  apply List.drop_eq_nil_of_le; simp; omega

/-- signs that nothing touches are handed on -/
theorem crlf_cut {text : Array Nat} : ∀ (k p j : Nat), p + k = j → j ≤ text.size → (∀ i, p ≤ i → i < j → ok2 text text.size i = false) →
    crlf false (text.toList.drop p) = cut text p j ++ crlf false (text.toList.drop j) := by
  intro k
  induction k with
  | zero => intro p j hk _ _; have : p = j := by omega
            subst this; simp [cut]
  | succ k ih =>
    intro p j hk hj h
    have hp : p < text.size := by omega
    have h0 := h p (Nat.le_refl _) (by omega)
    unfold ok2 at h0
    rw [decide_eq_true hp, Bool.true_and] at h0
    obtain ⟨a, b⟩ := Bool.or_eq_false_iff.mp h0
    have e : cut text p j = text.getD p 0 :: cut text (p + 1) j := by
      unfold cut; rw [getD_drop hp, show j - p = (j - (p + 1)) + 1 by omega, List.take_succ_cons]
    rw [e, getD_drop hp]
    show (if (text.getD p 0 == 10) = true then _ else if (text.getD p 0 == 13) = true then _ else _) = _
    rw [a, b]
    show text.getD p 0 :: crlf false _ = _
    rw [ih (p + 1) j (by omega) hj (fun i h1 h2 => h i (by omega) h2)]
    rfl

/-- at a row's head -/
def bol (text : Array Nat) (p : Nat) : Bool := p == 0 || text.getD (p - 1) 0 == 10
theorem dotd_cut {text : Array Nat} : ∀ (k p j : Nat), p + k = j → j ≤ text.size → (∀ i, p ≤ i → i < j → ok1 text text.size i = false) →
    dotd (bol text p) (text.toList.drop p) = cut text p j ++ dotd (bol text j) (text.toList.drop j) := by
  intro k
  induction k with
  | zero => intro p j hk _ _; have : p = j := by omega
            subst this; simp [cut]
  | succ k ih =>
    intro p j hk hj h
    have hp : p < text.size := by omega
    have h0 := h p (Nat.le_refl _) (by omega)
    unfold ok1 at h0
    rw [decide_eq_true hp, Bool.true_and] at h0
    have e : cut text p j = text.getD p 0 :: cut text (p + 1) j := by
      unfold cut; rw [getD_drop hp, show j - p = (j - (p + 1)) + 1 by omega, List.take_succ_cons]
    rw [e, getD_drop hp]
    show (if (bol text p && text.getD p 0 == 46) = true then _ else _) = _
    rw [show (bol text p && text.getD p 0 == 46) = false from h0]
    show text.getD p 0 :: dotd (text.getD p 0 == 10) _ = _
    have hb : bol text (p + 1) = (text.getD p 0 == 10) := by simp [bol]
    rw [← hb, ih (p + 1) j (by omega) hj (fun i h1 h2 => h i (by omega) h2)]
    rfl

theorem crlf_flag {r : List Nat} (h : ∀ c r', r = c :: r' → c ≠ 10) : crlf true r = crlf false r := by
  cases r with
  | nil => rfl
  | cons c r =>
    have hc : (c == 10) = false := by simpa using h c r rfl
    show (if (c == 10) = true then _ else _) = (if (c == 10) = true then _ else _)
    rw [hc]; rfl

theorem end2_cases (text : Array Nat) (lim j : Nat) : (end2 text lim j = j + 2 ∧ j + 1 < lim) ∨ end2 text lim j = j + 1 := by
  unfold end2
  by_cases q : (text.getD j 0 == 13 && (decide (j + 1 < lim) && text.getD (j + 1) 0 == 10)) = true
  · rw [if_pos q]
    exact .inl ⟨rfl, of_decide_eq_true (Bool.and_eq_true_iff.mp (Bool.and_eq_true_iff.mp q).2).1⟩
  · rw [if_neg q]; exact .inr rfl

/-- a search's end, told by the plain function `G` -/
inductive Told (text : Array Nat) (r : List Nat) (G : Nat → List Nat) (p : Nat) (m : M) : Prop
  | found (j e : Nat) (h1 : p ≤ j) (h2 : j < e) (h3 : e ≤ text.size) (ho : m.outcome = some .matched) (hs : m.start = j) (hh : m.handed = e) (hG : G p = cut text p j ++ r ++ G e)
  | not (ho : m.outcome = some .failed) (hG : G p = text.toList.drop p)

theorem told2 {text : Array Nat} {p : Nat} (hp : p ≤ text.size) :
    ∃ n, n ≤ 3 * text.size + 20 ∧ Told text [13, 10] (fun q => crlf false (text.toList.drop q)) p (M.runFor n (forSearch c2 text 0 p text.size false)) := by
  obtain ⟨n, hn, he⟩ := search2 (text := text) hp
  refine ⟨n, by omega, ?_⟩
  cases he with
  | found j h1 h2 h3 ho hs hh =>
    have hj : j < text.size := by unfold ok2 at h2; simpa using (Bool.and_eq_true_iff.mp h2).1
    have hc := (Bool.and_eq_true_iff.mp h2).2
    have key := crlf_cut (j - p) p j (by omega) (by omega) h3
    refine .found j (end2 text text.size j) h1 (by rcases end2_cases text text.size j with ⟨q, _⟩ | q <;> omega) (by rcases end2_cases text text.size j with ⟨q, _⟩ | q <;> omega) ho hs hh ?_
    · show crlf false _ = _
      rw [key, List.append_assoc]
      congr 1
      rw [getD_drop hj]
      show (if (text.getD j 0 == 10) = true then _ else if (text.getD j 0 == 13) = true then _ else _) = _
      by_cases h13 : (text.getD j 0 == 13) = true
      · have e13 : text.getD j 0 = 13 := by simpa using h13
        have h10 : (text.getD j 0 == 10) = false := by rw [e13]; rfl
        rw [h10, h13]
        show 13 :: 10 :: crlf true _ = _
        by_cases q : (decide (j + 1 < text.size) && text.getD (j + 1) 0 == 10) = true
        · have ee : end2 text text.size j = j + 2 := by unfold end2; rw [h13, q]; rfl
          rw [ee]
          obtain ⟨q1, q2⟩ := Bool.and_eq_true_iff.mp q
          rw [getD_drop (of_decide_eq_true q1)]
          show 13 :: 10 :: (if (text.getD (j + 1) 0 == 10) = true then _ else _) = _
          rw [q2]; rfl
        · have ee : end2 text text.size j = j + 1 := by
            have : (decide (j + 1 < text.size) && text.getD (j + 1) 0 == 10) = false := by simpa using q
            unfold end2; rw [this]; simp
          rw [ee, crlf_flag]
          · rfl
          · intro c r' hr
            by_cases hl : j + 1 < text.size
            · rw [getD_drop hl] at hr
              cases hr
              intro hc
              apply q
              rw [decide_eq_true hl, hc]; rfl
            · rw [drop_none hl] at hr; cases hr
      · have h13' : (text.getD j 0 == 13) = false := by simpa using h13
        rw [h13', Bool.or_false] at hc
        have ee : end2 text text.size j = j + 1 := by unfold end2; rw [h13']; simp
        rw [hc, ee]; rfl
  | not h ho =>
    refine .not ho ?_
    show crlf false _ = _
    rw [crlf_cut (text.size - p) p text.size (by omega) (Nat.le_refl _) (fun i h1 _ => h i h1), drop_none (Nat.lt_irrefl _)]
    unfold cut
    simp [crlf]
    rw [List.take_of_length_le]; simp

theorem told1 {text : Array Nat} {p : Nat} (hp : p ≤ text.size) :
    ∃ n, n ≤ 3 * text.size + 20 ∧ Told text [46, 46] (fun q => dotd (bol text q) (text.toList.drop q)) p (M.runFor n (forSearch c1 text 0 p text.size false)) := by
  obtain ⟨n, hn, he⟩ := search1 (text := text) hp
  refine ⟨n, by omega, ?_⟩
  cases he with
  | found j h1 h2 h3 ho hs hh =>
    unfold ok1 at h2
    obtain ⟨ha, hb⟩ := Bool.and_eq_true_iff.mp h2
    obtain ⟨hb, hc⟩ := Bool.and_eq_true_iff.mp hb
    have hj := of_decide_eq_true hb
    have ec : text.getD j 0 = 46 := by simpa using hc
    refine .found j (j + 1) h1 (by omega) (by omega) ho hs hh ?_
    show dotd _ _ = _
    rw [dotd_cut (j - p) p j (by omega) (by omega) h3, List.append_assoc]
    congr 1
    rw [getD_drop hj]
    show (if (bol text j && text.getD j 0 == 46) = true then _ else _) = _
    rw [show (bol text j && text.getD j 0 == 46) = true by rw [show bol text j = true from ha, hc]; rfl]
    have : bol text (j + 1) = false := by simp [bol, ec]
    rw [this]; rfl
  | not h ho =>
    refine .not ho ?_
    show dotd _ _ = _
    rw [dotd_cut (text.size - p) p text.size (by omega) (Nat.le_refl _) (fun i h1 _ => h i h1), drop_none (Nat.lt_irrefl _)]
    unfold cut
    simp [dotd]
    rw [List.take_of_length_le]; simp
end Mine
end

section
open PySem PySem.Sre PySem.Builtin PySem.Builtin.Re PySem.Calls
set_option maxRecDepth 100000
namespace Mine
theorem slot_sub : Slot "re.Pattern" "sub" "re.Pattern.sub" :=
  .of (owner := "re.Pattern") (n := "sub") (by rw [typeLookup_type, builtinLookup_eq_fast]; kernel_rfl) (by decide +kernel) (by decide +kernel) (by decide +kernel)
    (by first | exact .inl (by decide +kernel) | exact .inr (by decide +kernel)) (by rw [isSubtype_type]; kernel_rfl)
theorem type_sub : typeOf (.builtin "re.Pattern.sub") = pure (.type "method_descriptor") := by show builtinType _ = _; rw [builtinType_eq_fast]; kernel_rfl
theorem entry_sub : entryFor table "re.Pattern.sub" = some Builtin.«re.Pattern.sub» := entryFor_of_tree (by kernel_rfl)
theorem entry_subloop : entryFor table "re.Pattern.sub.loop" = some Builtin.«re.Pattern.sub.loop» := entryFor_of_tree (by kernel_rfl)
theorem args_sub (a b c : Value) : argsOk "re.Pattern.sub" ⟨[a, b, c], []⟩ := by
  unfold argsOk; kernel_rfl
end Mine
end

section
open PySem PySem.Builtin PySem.Builtin.Re PySem.Calls PyProof.Rows
set_option maxRecDepth 100000
namespace Mine
theorem plainAttrs_re : PlainAttrs "re.Pattern" :=
  ⟨⟨"object.__getattribute__", by rw [typeLookup_type, builtinLookup_eq_fast]; kernel_rfl, by decide +kernel⟩, by rw [typeLookup_type, builtinLookup_eq_fast]; kernel_rfl⟩

section
variable {Mo : Model} {A : Around} {E : Value → Shared → Prop} {s : Shared}
theorem run_same {n k : Nat} {m : Sre.M} (hn : (Sre.M.runFor n m).outcome.isSome = true) (hk : (Sre.M.runFor k m).outcome.isSome = true) : Sre.M.runFor k m = Sre.M.runFor n m := by
  rcases Nat.le_total k n with h | h
  · obtain ⟨d, rfl⟩ := Nat.exists_eq_add_of_le h
    rw [runFor_add, runFor_out hk]
  · obtain ⟨d, rfl⟩ := Nat.exists_eq_add_of_le h
    rw [runFor_add, runFor_out hn]
theorem wpAny_reDrive {Q : Sre.M → Shared → Prop} : ∀ (T n : Nat) (m : Sre.M), n ≤ 4 * T → (Sre.M.runFor n m).outcome.isSome = true → 0 < T → Q (Sre.M.runFor n m) s → wpAny Mo A (reDrive T m) Q E s := by
  intro T
  induction T with
  | zero => intro n m _ _ h0 _; exact absurd h0 (Nat.lt_irrefl _)
  | succ T ih =>
    intro n m hn ho _ hQ
    show wpAny Mo A (if (Sre.M.runFor 4 m).outcome.isSome = true then pure (Sre.M.runFor 4 m) else (do rule "sre.turn"; reDrive T (Sre.M.runFor 4 m))) Q E s
    by_cases h4 : (Sre.M.runFor 4 m).outcome.isSome = true
    · rw [if_pos h4]
      refine wpAny_pure ?_
      rw [run_same ho h4]; exact hQ
    · rw [if_neg h4]
      refine wpAny_bind (wpAny_rule ?_)
      have hlt : 4 < n := by
        rcases Nat.lt_or_ge 4 n with h | h
        · exact h
        · obtain ⟨d, hd⟩ := Nat.exists_eq_add_of_le h
          exfalso; apply h4
          rw [hd, runFor_add, runFor_out ho]; exact ho
      obtain ⟨d, rfl⟩ := Nat.exists_eq_add_of_le (Nat.le_of_lt hlt)
      rw [runFor_add] at ho hQ
      refine ih d (Sre.M.runFor 4 m) (by omega) ho ?_ hQ
      omega

theorem wpAny_reRun {Q : Option Sre.M → Shared → Prop} {m : Sre.M} {n : Nat} (hn : n ≤ 2 ^ 60) (h : (∃ (_ : (Sre.M.runFor n m).outcome = some .matched), Q (some (Sre.M.runFor n m)) s) ∨ (∃ (_ : (Sre.M.runFor n m).outcome = some .failed), Q none s)) :
    wpAny Mo A (reRunToEnd m) Q E s := by
  have ho : (Sre.M.runFor n m).outcome.isSome = true := by
    rcases h with ⟨h, _⟩ | ⟨h, _⟩ <;> rw [h] <;> rfl
  unfold reRunToEnd
  refine wpAny_bind (wpAny_reDrive (2 ^ 64) n m (by omega) ho (by decide) ?_)
  refine wpAny_bind ?_
  refine wpAny_forIn_list _ (fun _ _ s' => s' = s) _ ?_ ?_ _ _ rfl
  · rintro i rest b s' rfl
    refine wpAny_ite ?_
    split
    · exact wpAny_bind (wpAny_rule (wpAny_pure rfl))
    · exact wpAny_pure rfl
  · rintro b s' rfl
    rcases h with ⟨h, q⟩ | ⟨h, q⟩
    · rw [h]; exact wpAny_pure q
    · rw [h]; exact wpAny_pure q
end
end Mine
end

section
open PySem PySem.Builtin PySem.Builtin.Re PySem.Calls PyProof.Rows
set_option maxRecDepth 100000
namespace Mine
def IsPat (h : Heap) (p : Addr) (code : Array Nat) : Prop :=
  ∃ o a b tp ot items n, h.get? p = some o ∧ o.cls = .type "re.Pattern" ∧ o.dict = none ∧ o.data = .fields #[a, b, .int 0 0, .none, .none, .ref tp, .int 0 0] ∧ h.get? tp = some ot ∧ ot.data = .seq items n ∧ (items.map reRawOf).map (·.toNat) = code
theorem IsPat.keeps {h h' : Heap} {p : Addr} {code : Array Nat} (x : IsPat h p code) (k : Sub h h') : IsPat h' p code :=
  let ⟨o, a, b, tp, ot, items, n, e1, e2, e3, e4, e5, e6, e7⟩ := x; ⟨o, a, b, tp, ot, items, n, k _ _ e1, e2, e3, e4, k _ _ e5, e6, e7⟩

def flat (ys : List Str) : List Nat := (ys.map (·.cps.toList)).flatten
theorem flat_append (a b : List Str) : flat (a ++ b) = flat a ++ flat b := by simp [flat]
theorem join_flat (ys : List Str) : Txt.join ⟨#[]⟩ ys = ⟨(flat ys).toArray⟩ := by
  show Str.glued ⟨#[]⟩ ys = _
  rw [StrLaws.glued_eq_join]
  induction ys with
  | nil => rfl
  | cons y r ih =>
    cases r with
    | nil => simp [Str.join, flat]
    | cons z r =>
      show y ++ ⟨#[]⟩ ++ Str.join ⟨#[]⟩ (z :: r) = _
      rw [ih]
      apply Str.ext'
      rw [Str.cps_append, Str.cps_append]
      apply Array.ext'
      simp [flat]
theorem strsAre_snoc {vs : List Value} {ys : List Str} (h : StrsAre vs ys) (y : Str) (t : Tok) : StrsAre (vs ++ [.str y t]) (ys ++ [y]) := by
  induction h with
  | nil => exact .cons y t .nil
  | cons z u _ ih => exact .cons z u ih
theorem strsAre_len {vs : List Value} {ys : List Str} (h : StrsAre vs ys) : vs.length = ys.length := by
  induction h with
  | nil => rfl
  | cons z u _ ih => simp [ih]
theorem flat_len (ys : List Str) : (ys.map (·.length)).sum = (flat ys).length := by
  induction ys with
  | nil => rfl
  | cons y r ih => simp [flat, Str.length] at ih ⊢; omega

section
variable {Mo : Model} {A : Around} {E : Value → Shared → Prop} {s : Shared}
theorem wpAny_target {p : Addr} {x : Str} {t : Tok} {code : Array Nat} {Q : ReTarget → Shared → Prop} (hp : IsPat s.heap p code)
    (h : Q ⟨.ref p, .str x t, code, x.cps, 0, 0, 0, x.cps.size⟩ s) : wpAny Mo A (reWholeTarget (.ref p) (.str x t)) Q E s := by
  obtain ⟨o, a, b, tp, ot, items, n, e1, e2, e3, e4, e5, e6, e7⟩ := hp
  unfold reWholeTarget
  refine wpAny_bind (wpAny_fieldsOf e1 e4 ?_)
  refine wpAny_bind (m := reTextOf (.str x t)) (wpAny_of_eq (a := (x.cps, 0)) rfl ?_)
  show wpAny Mo A (reRawItems (.ref tp) >>= _) Q E s
  unfold reRawItems
  refine wpAny_bind (wpAny_bind (wpAny_seqItems e5 e6 (wpAny_pure ?_)))
  refine wpAny_pure ?_
  subst e7
  exact h
end
end Mine
end

section
open PySem PySem.Builtin PySem.Builtin.Re PySem.Calls PyProof.Rows
set_option maxRecDepth 100000
namespace Mine
section
variable {prog : Program} {w : World} {A : Around} {E : Value → Shared → Prop}

theorem push_list {s : Shared} {l : Addr} {items : Array Value} {v : Value} {Mo : Model} {A : Around} {Q : Unit → Shared → Prop} (hl : s.heap.IsList l items) (hsz : items.size ≤ sizeLine)
    (hQ : ∀ h', h'.IsList l (items.push v) → Heap.SameBut l s.heap h' → Q () { s with heap := h' }) : wpAny Mo A (updateSeq l (·.push v)) Q E s := by
  obtain ⟨o, ho, hc, n, hd⟩ := id hl
  obtain ⟨n', hd'⟩ := Obj.data_mapSeq hd (·.push v)
  exact wpAny_updateSeq ho hd (hQ _ ⟨_, Heap.get?_update_self _ ho (Obj.isFreed_of_seq hd'), (Obj.cls_mapSeq ..).trans hc, n', hd'⟩ (Heap.SameBut.update ..)) hsz

theorem sub_loop {R : Result → Shared → Prop} {hP : Heap} {p l : Addr} {x r : Str} {t tr : Tok} {code : Array Nat} {G : Nat → List Nat}
    (hx : x.cps.size ≤ 1000000) (hr : r.cps.size = 2)
    (hT : ∀ q, q ≤ x.cps.size → ∃ n, n ≤ 3 * x.cps.size + 20 ∧ Told x.cps r.cps.toList G q (Sre.M.runFor n (Sre.forSearch code x.cps 0 q x.cps.size false)))
    (pat : IsPat hP p code) (off : hP.get? l = none) : ∀ (k done : Nat) (n : Int) (s : Shared) (items : Array Value) (ys : List Str), done + k = x.cps.size → Sub hP s.heap → s.heap.IsList l items → StrsAre items.toList ys →
      items.size ≤ 2 * done → (flat ys).length ≤ 2 * done →
      (∀ h' tk tok, Heap.ExtBut l s.heap h' → R (.ok (.ret (.str ⟨(flat ys ++ G done).toArray⟩ tok))) { s with heap := h', toks := tk }) →
      codeAny (model prog w) A (.builtin "re.Pattern.sub.loop" ⟨[.ref p, .str x t, .str r tr, rawInt 0, rawInt 0, rawInt n, rawInt done, rawInt done, .bool false, .ref l, .bool false], []⟩) R s := by
  intro k
  induction k using Nat.strongRecOn with
  | ind k ih =>
  intro done n s items ys hk keep hl hys hb1 hb2 hR
  have e24 : sizeLine = 16777216 := by decide
  refine codeAny_builtin entry_subloop ?_
  rw [Around.under_plainId (by decide +kernel)]
  show wpAny _ _ (reWholeTarget (.ref p) (.str x t) >>= _) _ _ s
  refine wpAny_bind (wpAny_target (pat.keeps keep) ?_)
  dsimp only
  show wpAny _ _ (reLiteralCannotBeTurned (.str r tr) >>= _) _ _ s
  refine wpAny_bind (wpAny_of_eq (a := ()) rfl ?_)
  show wpAny _ _ (reNextFound _ (done : Int).toNat false >>= _) _ _ s
  obtain ⟨nn, hn, told⟩ := hT done (by omega)
  refine wpAny_bind ?_
  unfold reNextFound
  rw [Int.toNat_natCast]
  refine wpAny_reRun (n := nn) (Nat.le_trans hn (by omega)) ?_
  cases told with
  | found j e h1 h2 h3 ho hs hh hG =>
    refine .inl ⟨ho, ?_⟩
    dsimp only
    rw [hs, hh]
    have hcl := @cut_len x.cps done j
    -- the piece ahead of the find, if there is one
    have key : ∀ (s₁ : Shared) (items₁ : Array Value) (ys₁ : List Str), (∃ h₁ tk₁, s₁ = { s with heap := h₁, toks := tk₁ } ∧ Heap.ExtBut l s.heap h₁) → s₁.heap.IsList l items₁ → StrsAre items₁.toList ys₁ → items₁.size ≤ 2 * done + 1 →
        flat ys₁ = flat ys ++ cut x.cps done j →
        wpAny (model prog w) A.in1 (if (Value.str r tr != Value.none) = true then (do
            updateSeq l (·.push (.str r tr))
            again (.builtin "re.Pattern.sub.loop" ⟨[.ref p, .str x t, .str r tr, rawInt 0, rawInt 0, rawInt (n + 1), rawInt e, rawInt e, .bool (e == j), .ref l, .bool false], []⟩)) else
            again (.builtin "re.Pattern.sub.loop" ⟨[.ref p, .str x t, .str r tr, rawInt 0, rawInt 0, rawInt (n + 1), rawInt e, rawInt e, .bool (e == j), .ref l, .bool false], []⟩))
          (fun fin s' => match fin with | .done f => R (.ok f) s' | .again c' => c'.quiet = true ∧ codeAny (model prog w) A c' R s') (fun e s' => R (.error e) s') s₁ := by
      rintro s₁ items₁ ys₁ ⟨h₁, tk₁, rfl, hx₁⟩ hl₁ hys₁ hsz₁ hfl
      rw [if_pos (show (Value.str r tr != Value.none) = true from rfl)]
      refine wpAny_bind (push_list hl₁ (by omega) fun h₂ hl₂ hs₂ => wpAny_pure ?_)
      refine ⟨plainId_quiet (by decide +kernel) _, ?_⟩
      have hej : (e == j) = false := by simp; omega
      rw [hej]
      refine ih (x.cps.size - e) (by omega) e (n + 1) _ (items₁.push (.str r tr)) (ys₁ ++ [r]) (by omega) ?_ hl₂ ?_ ?_ ?_ ?_
      · intro b o hb
        have hbl : b ≠ l := by rintro rfl; rw [off] at hb; cases hb
        exact hs₂.extBut b o hbl (hx₁ b o hbl (keep b o hb))
      · rw [Array.toList_push]; exact strsAre_snoc hys₁ r tr
      · rw [Array.size_push]; omega
      · rw [flat_append, hfl]
        simp only [flat, List.map_cons, List.map_nil, List.flatten_cons, List.flatten_nil, List.append_nil, List.length_append, Array.length_toList]
        have : (cut x.cps done j).length ≤ j - done := by unfold cut; simp; omega
        simp only [flat] at hb2
        omega
      · intro h' tk tok hx'
        have := hR h' tk tok (fun b o hb e => hx' b o hb (hs₂.extBut b o hb (hx₁ b o hb e)))
        rw [flat_append, hfl]
        rw [hG] at this
        have ef : flat [r] = r.cps.toList := by simp [flat]
        rw [ef]
        simpa only [List.append_assoc] using this
    by_cases hd : done < j
    · rw [if_pos hd]
      have esl : reSlice x.cps 0 done j = mkStr ⟨x.cps.extract done j⟩ := rfl
      rw [esl]
      refine wpAny_bind (wpAny_mkStr ?_ ?_)
      · refine wpAny_bind (push_list hl (by omega) fun h₂ hl₂ hs₂ => ?_)
        refine key _ (items.push (.str ⟨x.cps.extract done j⟩ s.toks)) (ys ++ [⟨x.cps.extract done j⟩]) ⟨h₂, _, rfl, hs₂.extBut⟩ hl₂ ?_ ?_ ?_
        · rw [Array.toList_push]; exact strsAre_snoc hys _ _
        · rw [Array.size_push]; omega
        · rw [flat_append]
          simp [flat, ← cut_eq]
      · show (x.cps.extract done j).size ≤ sizeLine
        rw [Array.size_extract]; omega
    · rw [if_neg hd]
      have : done = j := by omega
      refine key s items ys ⟨s.heap, s.toks, rfl, fun _ _ _ e => e⟩ hl hys (by omega) ?_
      subst this
      simp [cut]
  | not ho hG =>
    refine .inr ⟨ho, ?_⟩
    dsimp only
    have fin : ∀ (s₁ : Shared) (items₁ : Array Value) (ys₁ : List Str), (∃ h₁ tk₁, s₁ = { s with heap := h₁, toks := tk₁ } ∧ Heap.ExtBut l s.heap h₁) → s₁.heap.IsList l items₁ → StrsAre items₁.toList ys₁ → items₁.size ≤ 2 * done + 1 →
        flat ys₁ = flat ys ++ G done →
        wpAny (model prog w) A.in1 (do
            let joiner ← reSlice x.cps 0 0 0
            let text ← if ((← seqItems? (.ref l)).getD #[]).isEmpty then pure joiner
              else call (.builtin (if (0 == 0) = true then "str.join" else "bytes.join")) [joiner, .ref l]
            if false = true then ret (← holding [text] do newTuple [text, ← mkInt n]) else ret text)
          (fun fin s' => match fin with | .done f => R (.ok f) s' | .again c' => c'.quiet = true ∧ codeAny (model prog w) A c' R s') (fun e s' => R (.error e) s') s₁ := by
      rintro s₁ items₁ ys₁ ⟨h₁, tk₁, rfl, hx₁⟩ hl₁ hys₁ hsz₁ hfl
      have ee : x.cps.extract 0 0 = #[] := by simp
      have esl : reSlice x.cps 0 0 0 = mkStr ⟨#[]⟩ := by show mkStr ⟨x.cps.extract 0 0⟩ = _; rw [ee]
      rw [esl]
      refine wpAny_bind (wpAny_mkStr ?_ (by show (0 : Nat) ≤ _; omega))
      obtain ⟨o, ho', hc, nn', hd⟩ := id hl₁
      refine wpAny_bind (wpAny_seqItems (s := { s with heap := h₁, toks := tk₁ + 1 }) ho' hd ?_)
      show wpAny _ _ (if items₁.isEmpty = true then _ else _) _ _ _
      by_cases hemp : items₁.isEmpty = true
      · rw [if_pos hemp]
        refine wpAny_bind (wpAny_pure ?_)
        have hy : ys₁ = [] := by
          have : items₁.toList = [] := by simpa using hemp
          rw [this] at hys₁; cases hys₁; rfl
        rw [hy] at hfl
        have := hR h₁ (tk₁ + 1) tk₁ hx₁
        rw [← hfl] at this
        exact wpAny_pure this
      · rw [if_neg hemp]
        have hlen := flat_len ys₁
        have hg : (G done).length ≤ x.cps.size := by rw [hG]; simp
        have hl2 : (flat ys₁).length ≤ 2 * done + x.cps.size := by rw [hfl, List.length_append]; omega
        refine wpAny_bind (join_list (s := { s with heap := h₁, toks := tk₁ + 1 }) hl₁ hys₁ ?_ ?_)
        · show _ + _ * 0 ≤ _
          omega
        · intro t' k'
          have := hR h₁ k' t' hx₁
          rw [← hfl] at this
          rw [join_flat]
          exact wpAny_pure this
    by_cases hd : done < x.cps.size
    · rw [if_pos hd]
      have esl : reSlice x.cps 0 done x.cps.size = mkStr ⟨x.cps.extract done x.cps.size⟩ := rfl
      rw [esl]
      refine wpAny_bind (wpAny_mkStr ?_ ?_)
      · refine wpAny_bind (push_list hl (by omega) fun h₂ hl₂ hs₂ => ?_)
        refine fin _ (items.push (.str ⟨x.cps.extract done x.cps.size⟩ s.toks)) (ys ++ [⟨x.cps.extract done x.cps.size⟩]) ⟨h₂, _, rfl, hs₂.extBut⟩ hl₂ ?_ ?_ ?_
        · rw [Array.toList_push]; exact strsAre_snoc hys _ _
        · rw [Array.size_push]; omega
        · rw [flat_append, hG]
          have : flat [⟨x.cps.extract done x.cps.size⟩] = cut x.cps done x.cps.size := by simp [flat, ← cut_eq]
          rw [this]
          congr 1
          unfold cut
          rw [List.take_of_length_le]; simp
      · show (x.cps.extract done x.cps.size).size ≤ sizeLine
        rw [Array.size_extract]; omega
    · rw [if_neg hd]
      refine fin s items ys ⟨s.heap, s.toks, rfl, fun _ _ _ e => e⟩ hl hys (by omega) ?_
      rw [hG, drop_none hd, List.append_nil]
end
end Mine
end

section
open PySem PySem.Builtin PySem.Builtin.Re PySem.Calls PyProof.Rows
set_option maxRecDepth 100000
namespace Mine
theorem str_nocall : typeLookup (.type "str") (Str.ofString "__call__") = pure none := by rw [typeLookup_type, builtinLookup_eq_fast]; kernel_rfl
section
variable {prog : Program} {w : World} {A : Around} {E : Value → Shared → Prop} {s : Shared}
theorem call_sub {p : Addr} {x r : Str} {t tr : Tok} {code : Array Nat} {G : Nat → List Nat} {Q : Value → Shared → Prop}
    (hx : x.cps.size ≤ 1000000) (hr : r.cps.size = 2) (h92 : r.cps.contains 92 = false)
    (hT : ∀ q, q ≤ x.cps.size → ∃ n, n ≤ 3 * x.cps.size + 20 ∧ Told x.cps r.cps.toList G q (Sre.M.runFor n (Sre.forSearch code x.cps 0 q x.cps.size false)))
    (pat : IsPat s.heap p code)
    (h : ∀ h' tk tok, Sub s.heap h' → Q (.str ⟨(G 0).toArray⟩ tok) { s with heap := h', toks := tk }) :
    wpAny (model prog w) A (call (.builtin "re.Pattern.sub") [.ref p, .str r tr, .str x t]) Q E s := by
  obtain ⟨o, a, b, tp, ot, items, n, e1, e2, e3, e4, e5, e6, e7⟩ := id pat
  refine wpAny_call (codeAny_call_builtin slot_sub.plain entry_sub (slot_sub.check _ _ _ _ _ _ _ _ ⟨o, e1, e2⟩ (args_sub _ _ _) ?_))
  show wpAny _ _ (reNamed "re.Pattern.sub" "sub" ["repl", "string", "count"] 2 [.str r tr, .str x t] [] >>= _) _ _ s
  refine wpAny_bind (wpAny_of_eq (a := [some (.str r tr), some (.str x t), none]) rfl ?_)
  dsimp only
  refine wpAny_bind (wpAny_pure ?_)
  refine wpAny_bind (wpAny_specialOf (typeIs_str _ _ _) str_nocall ?_)
  refine wpAny_ite ?_
  rw [if_neg (show ¬ ((none : Option Value).isSome = true) from Bool.false_ne_true)]
  refine wpAny_bind (wpAny_of_eq (a := some r) rfl ?_)
  dsimp only
  rw [h92]
  refine wpAny_bind (wpAny_pure ?_)
  refine wpAny_bind (wpAny_pure ?_)
  refine wpAny_bind (wpAny_holding (wpAny_target pat ?_))
  show wpAny _ _ (newList [] >>= _) _ _ s
  refine wpAny_bind (wpAny_newObj_type (wpAny_pure ⟨plainId_quiet (by decide +kernel) _, ?_⟩))
  refine sub_loop (hP := s.heap) hx hr hT pat ?_ x.cps.size 0 0 _ #[] [] (by omega) (Sub.push _ _) ?_ .nil (by simp) (by simp [flat]) ?_
  · cases e : s.heap.get? s.heap.objs.size with
    | none => rfl
    | some o => exact absurd (Heap.lt_size e) (Nat.lt_irrefl _)
  · exact ⟨_, Heap.get?_push_size _ rfl, rfl, _, rfl⟩
  · intro h' tk tok hx'
    refine h h' tk tok fun b o e => hx' b o (Nat.ne_of_lt (Heap.lt_size e)) (Heap.get?_push_of_some _ e)
end
end Mine
end

section
open PySem PySem.Builtin PySem.Builtin.Re PySem.Calls PyProof.Rows
set_option maxRecDepth 100000
namespace Mine
/-- the two patterns stand in the ground -/
structure Ps (h : Heap) (mg : Str → Option Value) : Prop where
  one : ∃ p, mg (Str.ofString "_twin_re_1") = some (.ref p) ∧ IsPat h p c1
  two : ∃ p, mg (Str.ofString "_twin_re_2") = some (.ref p) ∧ IsPat h p c2
theorem Ps.keeps {h h' : Heap} {mg : Str → Option Value} (B : Ps h mg) (k : Sub h h') : Ps h' mg where
  one := let ⟨a, e, f⟩ := B.one; ⟨a, e, f.keeps k⟩
  two := let ⟨a, e, f⟩ := B.two; ⟨a, e, f.keeps k⟩
theorem IsPat.typeIs {s : Shared} {p : Addr} {c : Array Nat} (h : IsPat s.heap p c) : s.TypeIs (.ref p) "re.Pattern" := let ⟨o, _, _, _, _, _, _, e1, e2, _⟩ := h; ⟨o, e1, e2⟩
theorem IsPat.noDict {h : Heap} {p : Addr} {c : Array Nat} (x : IsPat h p c) : ∀ a, Value.ref p = .ref a → ∃ ob, h.get? a = some ob ∧ ob.dict = none := fun a e => by
  cases e
  exact let ⟨o, _, _, _, _, _, _, e1, _, e3, _⟩ := x; ⟨o, e1, e3⟩

/-- what `quotedata` makes of a text -/
def quoted (x : List Nat) : List Nat := dotd true (crlf false x)
theorem crlf_len : ∀ (x : List Nat) (b : Bool), (crlf b x).length ≤ 2 * x.length
  | [], _ => Nat.le_refl _
  | c :: r, b => by
    unfold crlf
    have h1 := crlf_len r false
    have h2 := crlf_len r true
    (repeat' split) <;> simp only [List.length_cons] <;> omega

section
variable {prog : Program} {w : World} {A : Around} {E : Value → Shared → Prop} {s : Shared} {mg mb : Str → Option Value}
set_option maxHeartbeats 1000000 in
theorem quoted_call {a : Addr} {x : Str} {t : Tok} {Q : Value → Shared → Prop} (f : IsFn s.heap a 12) (B : Bs s.heap mg mb) (P : Ps s.heap mg) (hroom : A.depth < recursionLimit) (hx : x.cps.size ≤ 100000)
    (h : ∀ h' tk t', Sub s.heap h' → Q (.str ⟨(quoted x.cps.toList).toArray⟩ t') { s with heap := h', toks := tk }) :
    wpAny (model prog w) A (call (.ref a) [.str x t]) Q E s := by
  refine fn1 (x := Str.ofString "data") f B hroom (fun _ _ _ => rfl) rfl (fun L cd h₁ F => ?_)
  obtain ⟨p1, e1, P1⟩ := P.one
  obtain ⟨p2, e2, P2⟩ := P.two
  obtain ⟨tc, hc⟩ := B.crlf
  have B₁ := B.keeps F.keep
  have P1' := P1.keeps F.keep
  have P2' := P2.keeps F.keep
  refine wpAny_execs_cons ?_
  refine wpAny_Return_some ?_
  refine callM2 plainAttrs_re slot_sub type_sub ?_
  refine gl B₁ e1 ?_
  refine ⟨P1'.typeIs, P1'.noDict, ?_⟩
  refine wpAny_Constant_str ?_
  refine callM2 plainAttrs_re slot_sub type_sub ?_
  refine gl B₁ e2 ?_
  refine ⟨P2'.typeIs, P2'.noDict, ?_⟩
  refine gl B₁ hc ?_
  refine ld F rfl ?_
  refine call_sub (G := fun q => crlf false (x.cps.toList.drop q)) (by omega) (by decide +kernel) (by decide +kernel) (fun q hq => told2 hq) P2' ?_
  intro h₂ tk₂ t₂ k₂
  have hlen := crlf_len x.cps.toList false
  have hsz : (crlf false x.cps.toList).length ≤ 200000 := by
    have : x.cps.toList.length = x.cps.size := by simp
    omega
  refine call_sub (x := ⟨(crlf false (x.cps.toList.drop 0)).toArray⟩) (G := fun q => dotd (bol (crlf false (x.cps.toList.drop 0)).toArray q) ((crlf false (x.cps.toList.drop 0)).toArray.toList.drop q)) ?_ (by decide +kernel) (by decide +kernel) (fun q hq => told1 hq) (P1'.keeps k₂) ?_
  · show (crlf false (x.cps.toList.drop 0)).toArray.size ≤ _
    simp only [List.drop_zero, List.size_toArray]; omega
  · intro h₃ tk₃ t₃ k₃
    have := h h₃ tk₃ t₃ ((F.keep.trans k₂).trans k₃)
    simpa [quoted, bol] using this

set_option maxHeartbeats 400000 in
theorem iseof_call {a : Addr} {x : Int} {t : Tok} {Q : Value → Shared → Prop} (f : IsFn s.heap a 5) (B : Bs s.heap mg mb) (hroom : A.depth < recursionLimit)
    (h : ∀ h' tk, Sub s.heap h' → Q (.bool (x == 0)) { s with heap := h', toks := tk }) :
    wpAny (model prog w) A (call (.ref a) [.int x t]) Q E s := by
  refine fn1 (x := Str.ofString "x") f B hroom (fun _ _ _ => rfl) rfl (fun L cd h₁ F => ?_)
  obtain ⟨te, he⟩ := B.em
  refine wpAny_execs_cons ?_
  refine wpAny_Return_some ?_
  refine wpAny_Compare1 ?_
  refine ld F rfl ?_
  refine gl (B.keeps F.keep) he ?_
  refine PyProof.Rows.eq_int ?_
  exact h _ _ F.keep
set_option maxHeartbeats 400000 in
theorem isnont_call {a : Addr} {x : Int} {t : Tok} {Q : Value → Shared → Prop} (f : IsFn s.heap a 4) (B : Bs s.heap mg mb) (hroom : A.depth < recursionLimit)
    (h : ∀ h' tk, Sub s.heap h' → Q (.bool (decide (256 ≤ x))) { s with heap := h', toks := tk }) :
    wpAny (model prog w) A (call (.ref a) [.int x t]) Q E s := by
  refine fn1 (x := Str.ofString "x") f B hroom (fun _ _ _ => rfl) rfl (fun L cd h₁ F => ?_)
  obtain ⟨te, he⟩ := B.nt
  refine wpAny_execs_cons ?_
  refine wpAny_Return_some ?_
  refine wpAny_Compare1 ?_
  refine ld F rfl ?_
  refine gl (B.keeps F.keep) he ?_
  refine PyProof.Rows.ge_int ?_
  exact h _ _ F.keep
end
end Mine
end

section
open PySem PySem.Builtin PySem.Calls PyProof.Rows
set_option maxRecDepth 100000
namespace Mine
theorem isList_keeps {h h' : Heap} {a : Addr} {items : Array Value} (x : h.IsList a items) (k : Sub h h') : h'.IsList a items := let ⟨o, ho, r⟩ := x; ⟨o, k _ _ ho, r⟩
abbrev NoE : Value → Shared → Prop := fun _ _ => False

section
variable {prog : Program} {w : World} {A : Around} {s : Shared} {env : Env} {Q : Flow → Shared → Prop}
/-- a while by an invariant and a measure; nothing raises -/
theorem whileX {test : Expr} {body : List Stmt} {pos : Pos} (I : Nat → Shared → Prop) {n : Nat} (h : I n s)
    (turn : ∀ n s, I n s → wpAny (model prog w) A (isTrue test env (eval test env)) (fun b s₂ =>
      if b = true then wpAny (model prog w) A (execs body env) (fun f s₃ => match f with
          | .next => ∃ m, m < n ∧ I m s₃
          | .cont => ∃ m, m < n ∧ I m s₃
          | .brk => Q .next s₃
          | .ret v => Q (.ret v) s₃) NoE s₂ else Q .next s₂) NoE s) :
    wpAny (model prog w) A (exec (.While test body [] pos) env) Q NoE s := by
  refine wpAny_While (codeAny_whileLoop I (fun n s hI => ?_) n h)
  refine wpAny_mono (turn n s hI) (fun b s₂ h₂ => ?_) fun _ _ x => x.elim
  cases b with
  | false =>
    simp only [Bool.false_eq_true, if_false] at h₂ ⊢
    exact wpAny_execs_nil h₂
  | true =>
    simp only [if_true] at h₂ ⊢
    refine wpAny_mono h₂ (fun f s₃ h₃ => ?_) fun _ _ x => x.elim
    cases f <;> exact h₃
end

section
variable {prog : Program} {w : World} {A : Around} {E : Value → Shared → Prop} {s : Shared}
theorem next_list {it l : Addr} {i : Nat} {items : Array Value} {x : Value} {Q : Value → Shared → Prop} (hit : s.heap.IsListIter it l i) (hl : s.heap.IsList l items) (hx : items[i]? = some x)
    (hQ : ∀ h', h'.IsListIter it l (i + 1) → Heap.SameBut it s.heap h' → Q x { s with heap := h' }) :
    wpAny (model prog w) A (call (.builtin "next") [.ref it]) Q E s := by
  obtain ⟨o, ho, hc, hd⟩ := id hit
  obtain ⟨ol, hol, _, nl, hdl⟩ := hl
  refine call_function_entry (by decide +kernel) (by decide +kernel) W.kdk_entry_next (W.kdk_args_next _) ?_
  unfold Builtin.«next»
  refine wpAny_bind (m := someArgs "next" 1 2 _) (wpAny_of_eq (a := [Value.ref it]) (by first | rfl | kernel_rfl!) ?_)
  dsimp only
  refine wpAny_bind (wpAny_specialOf (name := Str.ofString "__next__") hit.typeIs slot_listiter_next.lookup ?_)
  refine wpAny_ite ?_
  rw [if_neg (show ¬ ((some (Value.builtin "list_iterator.__next__") : Option Value).isNone = true) from Bool.false_ne_true)]
  refine wpAny_bind (wpAny_callSpecial?_slot (name := Str.ofString "__next__") hit.typeIs slot_listiter_next
    (wpAny_call_entry slot_listiter_next hit.typeIs entry_listiter_next ?_ (args_listiter_next _)))
  show wpAny _ _ (field (.ref it) 0 >>= _) _ _ s
  refine wpAny_bind (wpAny_field ho hd (x := .ref l) rfl ?_)
  show wpAny _ _ (if (Value.ref l == Value.none) = true then _ else _) _ _ s
  rw [if_neg (show ¬ ((Value.ref l == Value.none) = true) from Bool.false_ne_true)]
  show wpAny _ _ (field (.ref it) 1 >>= _) _ _ s
  refine wpAny_bind (wpAny_field ho hd (x := .int i 0) rfl ?_)
  show wpAny _ _ (seqItems? (.ref l) >>= _) _ _ s
  refine wpAny_bind (wpAny_seqItems hol hdl ?_)
  simp only [Int.toNat_natCast, hx]
  refine wpAny_bind (wpAny_setField ho hd (by simp) (wpAny_pure ⟨x, rfl, wpAny_pure ⟨_, rfl, hQ _ ?_ (Heap.SameBut.update ..)⟩⟩))
  exact ⟨_, Heap.get?_update_self _ ho (Obj.isFreed_of_fields (Obj.data_mapFields hd _)), (Obj.cls_mapFields ..).trans hc, by
    rw [Obj.data_mapFields hd]; simp [rawInt]⟩
end

theorem bitAnd_nat (a b : Nat) : Builtin.bitAnd (a : Int) (b : Int) = ((a &&& b : Nat) : Int) := by
  rw [bitAnd_pp (by omega) (by omega)]; simp
theorem bitOr_nat (a b : Nat) : Builtin.bitOr (a : Int) (b : Int) = ((a ||| b : Nat) : Int) := by
  unfold Builtin.bitOr
  have ha : ¬ (0 ≤ Builtin.bitNot (a : Int)) := by unfold Builtin.bitNot; omega
  have hb : ¬ (0 ≤ Builtin.bitNot (b : Int)) := by unfold Builtin.bitNot; omega
  rw [bitAnd_nn ha hb]
  have e : ∀ c : Nat, Builtin.bitNot (Builtin.bitNot (c : Int)) = c := fun c => by unfold Builtin.bitNot; omega
  rw [e, e, e]; simp

/-- a number off the tape: what it is, and what is left -/
def vgo (val b : Nat) : List Nat → Option (Nat × List Nat)
  | [] => if b &&& 64 != 0 then none else some (val, [])
  | b' :: r => if b &&& 64 != 0 then (if val < 1000000 then vgo ((val * 64) ||| (b' &&& 63)) b' r else none) else some (val, b' :: r)
def varint : List Nat → Option (Nat × List Nat)
  | [] => none
  | b :: r => vgo (b &&& 63) b r

abbrev nats (ns : List Nat) : List Int := ns.map Int.ofNat
theorem intsAre_get {vs : List Value} {ns : List Int} (h : IntsAre vs ns) {i : Nat} {n : Int} (e : ns[i]? = some n) : ∃ t, vs[i]? = some (.int n t) := h.get i n e

section
variable {prog : Program} {w : World} {A : Around} {E : Value → Shared → Prop} {s : Shared} {mg mb : Str → Option Value} {hB : Heap}
set_option maxHeartbeats 1000000 in
theorem varint_call {a it l : Addr} {i : Nat} {vs : List Value} {ns rest : List Nat} {v : Nat} {Q : Value → Shared → Prop} (f : IsFn hB a 7) (B : Bs hB mg mb) (kB : Sub hB s.heap) (oB : hB.get? it = none) (hroom : A.depth < recursionLimit)
    (hit : s.heap.IsListIter it l i) (hl : s.heap.IsList l vs.toArray) (hi : IntsAre vs (nats ns)) (hne : it ≠ l) (hv : varint (ns.drop i) = some (v, rest))
    (h : ∀ h' tk t j, Heap.ExtBut it s.heap h' → h'.IsListIter it l j → ns.drop j = rest → i < j → Q (.int v t) { s with heap := h', toks := tk }) :
    wpAny (model prog w) A (call (.ref a) [.ref it]) Q E s := by
  refine fn1 (x := Str.ofString "iterator") (f.keeps kB) (B.keeps kB) hroom (fun _ _ _ => rfl) rfl (fun L cd h₁ F₀ => ?_)
  -- the ground without the iterator
  have F : FX (s.heap.hide it) L h₁ (fun y => if y = Str.ofString "iterator" then some (.ref it) else none) :=
    ⟨F₀.ns, fun b o e => F₀.keep b o (Heap.of_hide e), by
      cases e : (s.heap.hide it).get? L with
      | none => rfl
      | some o => have := Heap.of_hide e; rw [F₀.off] at this; cases this⟩
  have hLit : L ≠ it := by rintro rfl; obtain ⟨o, ho, _⟩ := hit; rw [F₀.off] at ho; cases ho
  have BB : Bs (s.heap.hide it) mg mb := B.keeps fun b o e => (Heap.hide_ne _ (by rintro rfl; rw [oB] at e; cases e)).trans (kB b o e)
  have hl0 : (s.heap.hide it).IsList l vs.toArray := let ⟨o, ho, r⟩ := hl; ⟨o, (Heap.hide_ne _ (Ne.symm hne)).trans ho, r⟩
  have hself := Heap.hide_self s.heap it
  have hnext := B.free "next" (by decide)
  have hit1 : h₁.IsListIter it l i := let ⟨o, ho, r⟩ := hit; ⟨o, F₀.keep _ _ ho, r⟩
  have back : ∀ {h' : Heap} {m : Str → Option Value}, FX (s.heap.hide it) L h' m → Heap.ExtBut it s.heap h' := fun F' b o hb e => F'.keep b o ((Heap.hide_ne _ hb).trans e)
  have getN : ∀ {j b r}, ns.drop j = b :: r → ∃ t, vs.toArray[j]? = some (.int (b : Int) t) := fun {j b r} e => by
    have : ns[j]? = some b := by rw [← List.head?_drop, e]; rfl
    obtain ⟨t, ht⟩ := hi.get j (b : Int) (by simp [nats, this])
    exact ⟨t, by simpa using ht⟩
  cases hd : ns.drop i with
  | nil => rw [hd] at hv; cases hv
  | cons b r =>
  rw [hd] at hv
  obtain ⟨t0, ht0⟩ := getN hd
  refine wpAny_execs_cons ?_
  refine wpAny_Assign_Name ?_
  refine callB1 (id := "next") ?_
  refine bl (BB.keeps F.keep) hnext rfl ?_
  refine ⟨rfl, ?_⟩
  refine ld F rfl ?_
  refine next_list (s := { s with heap := h₁, toks := s.toks + 1 }) hit1 (isList_keeps hl0 F.keep) ht0 ?_
  intro h₂ hit2 hs2
  have F2 := F.ext hs2.extBut hLit hself
  refine st F2 (fun h₃ F3 hs3 => ?_)
  have hit3 : h₃.IsListIter it l (i + 1) := hit2.extBut hs3.extBut hLit.symm
  refine wpAny_execs_cons ?_
  refine wpAny_Assign_Name ?_
  refine wpAny_BinOp ?_
  refine ld F3 rfl ?_
  refine wpAny_Constant_int ?_
  refine and_int ?_
  refine st F3 (fun h₄ F4 hs4 => ?_)
  have hit4 : h₄.IsListIter it l (i + 1) := hit3.extBut hs4.extBut hLit.symm
  refine wpAny_execs_cons ?_
  have hr : ns.drop (i + 1) = r := by rw [← List.drop_drop, hd]; rfl
  rw [show (Builtin.bitAnd (b : Int) 63) = ((b &&& 63 : Nat) : Int) from bitAnd_nat b 63] at F4
  -- the loop
  refine whileX (fun n s' => ∃ h' tk j val bb tv tb, s' = { s with heap := h', toks := tk } ∧ h'.IsListIter it l j ∧ i < j ∧
      FX (s.heap.hide it) L h' (fun y => if y = Str.ofString "val" then some (.int ((val : Nat) : Int) tv) else if y = Str.ofString "b" then some (.int ((bb : Nat) : Int) tb) else if y = Str.ofString "iterator" then some (.ref it) else none) ∧
      vgo val bb (ns.drop j) = some (v, rest) ∧ n = (ns.drop j).length) (n := r.length) ⟨h₄, _, i + 1, b &&& 63, b, _, t0, rfl, hit4, by omega, F4, ?_, by rw [hr]⟩ ?_
  · rw [hr]; exact hv
  · rintro n s' ⟨h', tk, j, val, bb, tv, tb, rfl, hitj, hij, Fj, hvg, hn⟩
    refine wpAny_isTrue_value ?_
    refine wpAny_BinOp ?_
    refine ld Fj rfl ?_
    refine wpAny_Constant_int ?_
    refine and_int ?_
    refine PyProof.Rows.truthy_int ?_
    have e64 : Builtin.bitAnd ((bb : Nat) : Int) 64 = ((bb &&& 64 : Nat) : Int) := bitAnd_nat bb 64
    rw [e64]
    by_cases hb : bb &&& 64 = 0
    · rw [hb]
      rw [if_neg (by decide)]
      have hres : val = v ∧ ns.drop j = rest := by
        cases hdj : ns.drop j with
        | nil => rw [hdj] at hvg; simp [vgo, hb] at hvg; exact ⟨hvg.1, hvg.2.symm⟩
        | cons b' r' => rw [hdj] at hvg; simp [vgo, hb] at hvg; exact ⟨hvg.1, hvg.2⟩
      refine wpAny_execs_cons ?_
      refine wpAny_Return_some ?_
      refine ld Fj rfl ?_
      rw [hres.1]
      exact h h' _ tv j (back Fj) hitj hres.2 hij
    · rw [if_pos (by simpa using hb)]
      cases hdj : ns.drop j with
      | nil => rw [hdj] at hvg; simp [vgo, hb] at hvg
      | cons b' r' =>
      rw [hdj] at hvg
      have hb' : (bb &&& 64 != 0) = true := by simpa using hb
      unfold vgo at hvg
      rw [hb', if_pos rfl] at hvg
      by_cases hval : val < 1000000
      · rw [if_pos hval] at hvg
        obtain ⟨tj, htj⟩ := getN hdj
        refine wpAny_execs_cons ?_
        refine wpAny_AugAssign_Name ?_
        refine ldn Fj rfl ?_
        refine wpAny_Constant_int ?_
        refine ilshift_int_small (by decide) (by decide) (by omega) ?_
        refine st Fj (fun h₅ F5 hs5 => ?_)
        have hit5 : h₅.IsListIter it l j := hitj.extBut hs5.extBut hLit.symm
        refine wpAny_execs_cons ?_
        refine wpAny_Assign_Name ?_
        refine callB1 (id := "next") ?_
        refine bl (BB.keeps F5.keep) hnext rfl ?_
        refine ⟨rfl, ?_⟩
        refine ld F5 rfl ?_
        refine next_list (s := ⟨h₅, _, _, _, _⟩) hit5 (isList_keeps hl0 F5.keep) htj ?_
        intro h₆ hit6 hs6
        have F6 := F5.ext hs6.extBut hLit hself
        refine st F6 (fun h₇ F7 hs7 => ?_)
        have hit7 : h₇.IsListIter it l (j + 1) := hit6.extBut hs7.extBut hLit.symm
        refine wpAny_execs_cons ?_
        refine wpAny_AugAssign_Name ?_
        refine ldn F7 rfl ?_
        refine wpAny_BinOp ?_
        refine ld F7 rfl ?_
        refine wpAny_Constant_int ?_
        refine and_int ?_
        refine ior_int ?_
        refine st F7 (fun h₈ F8 hs8 => ?_)
        have hit8 : h₈.IsListIter it l (j + 1) := hit7.extBut hs8.extBut hLit.symm
        refine wpAny_execs_nil ?_
        have hr' : ns.drop (j + 1) = r' := by rw [← List.drop_drop, hdj]; rfl
        have hlen : n = r'.length + 1 := by rw [hn, hdj]; rfl
        have e1 : Builtin.bitAnd ((b' : Nat) : Int) 63 = ((b' &&& 63 : Nat) : Int) := bitAnd_nat b' 63
        have e2 : ((val : Nat) : Int) * 2 ^ (6 : Int).toNat = ((val * 64 : Nat) : Int) := by
          show ((val : Nat) : Int) * 64 = _
          push_cast; rfl
        have em : ∀ (q1 q2 q3 q4 : Value) , (fun y => if y = Str.ofString "val" then some q1 else if y = Str.ofString "b" then some q2 else if y = Str.ofString "val" then some q3 else if y = Str.ofString "val" then some q4 else if y = Str.ofString "b" then some (.int ((bb : Nat) : Int) tb) else if y = Str.ofString "iterator" then some (.ref it) else none) =
            (fun y => if y = Str.ofString "val" then some q1 else if y = Str.ofString "b" then some q2 else if y = Str.ofString "iterator" then some (Value.ref it) else none) := by
          intro q1 q2 q3 q4
          funext y
          by_cases c1 : y = Str.ofString "val"
          · simp [c1]
          · by_cases c2 : y = Str.ofString "b" <;> simp [c1, c2]
        rw [e1, e2, bitOr_nat (val * 64) (b' &&& 63), em] at F8
        refine ⟨r'.length, by omega, h₈, _, j + 1, (val * 64) ||| (b' &&& 63), b', _, tj, rfl, hit8, by omega, F8, ?_, by rw [hr']⟩
        · rw [hr']; exact hvg
      · rw [if_neg hval] at hvg; cases hvg
end
end Mine
end

section
open PySem PySem.Builtin PySem.Calls PyProof.Rows
set_option maxRecDepth 100000
namespace Mine
theorem fresh_none (h : Heap) : h.get? h.objs.size = none := by
  cases e : h.get? h.objs.size with
  | none => rfl
  | some o => exact absurd (Heap.lt_size e) (Nat.lt_irrefl _)
abbrev lst (vs : List Value) : Obj := { cls := .type "list", data := .seq vs.toArray }
theorem isList_push (h : Heap) (vs : List Value) : (h.push (lst vs)).IsList h.objs.size vs.toArray := ⟨_, Heap.get?_push_size _ rfl, rfl, _, rfl⟩
abbrev tpl (vs : List Value) : Obj := { cls := .type "tuple", data := .seq vs.toArray }
theorem isTuple_push (h : Heap) (vs : List Value) : (h.push (tpl vs)).IsTuple h.objs.size vs.toArray := ⟨_, Heap.get?_push_size _ rfl, rfl, _, rfl⟩

section
variable {prog : Program} {w : World} {A : Around} {E : Value → Shared → Prop} {s : Shared}
theorem addL {l b : Addr} {vs ws : List Value} {Q : Value → Shared → Prop} (hl : s.heap.IsList l vs.toArray) (hb : s.heap.IsList b ws.toArray) (hsz : vs.length + ws.length ≤ sizeLine)
    (h : ∀ d h', Sub s.heap h' → h'.PlainList d (vs ++ ws).toArray → s.heap.get? d = none → Q (.ref d) { s with heap := h' }) :
    wpAny (model prog w) A (binaryOp .Add (.ref l) (.ref b)) Q E s := by
  obtain ⟨⟨cls, dd, data, sl⟩, ho, hc, n, hd⟩ := id hl
  obtain ⟨⟨cls2, dd2, data2, sl2⟩, ho2, hc2, n2, hd2⟩ := id hb
  simp only at hc hd hc2 hd2
  subst hc hd hc2 hd2
  have e : vs.toArray ++ ws.toArray = (vs ++ ws).toArray := by simp
  refine concat_meets ⟨_, ho, rfl⟩ ⟨_, ho2, rfl⟩ noFill_list_add seq_list_add PySem.F.slot_list_add PySem.F.entry_list_add (PySem.F.args_list_add_2 _ _) (list_addW l b vs.toArray ws.toArray n n2 dd dd2 sl sl2 (by simpa using hsz)) ⟨ho, ho2, ?_⟩
  rw [e]
  exact h _ _ (Sub.push _ _) ⟨_, Heap.get?_push_size _ rfl⟩ (fresh_none _)
theorem iterL {l : Addr} {items : Array Value} {Q : Value → Shared → Prop} (hl : s.heap.IsList l items)
    (h : ∀ it h', Sub s.heap h' → h'.IsListIter it l 0 → s.heap.get? it = none → Q (.ref it) { s with heap := h' }) :
    wpAny (model prog w) A (call (.builtin "iter") [.ref l]) Q E s := by
  refine call_function_entry (by decide +kernel) (by decide +kernel) W.kdk_entry_iter (W.kdk_args_iter _) ?_
  unfold Builtin.«iter»
  refine wpAny_bind (m := someArgs "iter" 1 2 _) (wpAny_of_eq (a := [Value.ref l]) (by first | rfl | kernel_rfl!) ?_)
  show wpAny _ _ (pyIter (.ref l) >>= _) _ _ _
  exact wpAny_bind (wpAny_pyIter_list hl (wpAny_pure ⟨_, rfl, h _ _ (Sub.push _ _) ⟨_, Heap.get?_push_size _ rfl, rfl, rfl⟩ (fresh_none _)⟩))
/-- a list's display -/
theorem dispL {env : Env} {elts : List Expr} {pos : Pos} {Q : Value → Shared → Prop}
    (h : wpAny (model prog w) A (spliced (backTo pos (starEach elts env))) (fun vs s₁ => vs.length ≤ sizeLine ∧ ∀ d h', Sub s₁.heap h' → h'.PlainList d vs.toArray → s₁.heap.get? d = none → Q (.ref d) { s₁ with heap := h' }) E s) :
    wpAny (model prog w) A (eval (.List elts pos) env) Q E s :=
  wpAny_List (wpAny_mono h (fun vs s₁ h₁ => ⟨h₁.1, h₁.2 _ _ (Sub.push _ _) ⟨_, Heap.get?_push_size _ rfl⟩ (fresh_none _)⟩) fun _ _ x => x)
/-- a tuple's display -/
theorem dispT {env : Env} {elts : List Expr} {k : Nat} {pos : Pos} {Q : Value → Shared → Prop}
    (h : wpAny (model prog w) A (spliced (backTo pos (starEach elts env))) (fun vs s₁ => vs.length ≤ sizeLine ∧ ∀ d h', Sub s₁.heap h' → h'.IsTuple d vs.toArray → s₁.heap.get? d = none → Q (.ref d) { s₁ with heap := h' }) E s) :
    wpAny (model prog w) A (eval (.Tuple elts k pos) env) Q E s :=
  wpAny_Tuple (wpAny_mono h (fun vs s₁ h₁ => ⟨h₁.1, h₁.2 _ _ (Sub.push _ _) ⟨_, Heap.get?_push_size _ rfl, rfl, _, rfl⟩ (fresh_none _)⟩) fun _ _ x => x)
theorem appendL {l : Addr} {vs : List Value} {x : Value} {Q : Value → Shared → Prop} (hl : s.heap.PlainList l vs.toArray) (hsz : vs.length ≤ sizeLine)
    (hQ : ∀ h', h'.PlainList l (vs ++ [x]).toArray → Heap.SameBut l s.heap h' → Q .none { s with heap := h' }) :
    wpAny (model prog w) A (call (.builtin "list.append") [.ref l, x]) Q E s :=
  wpAny_list_append_plain hl (fun h' hp hs => hQ h' (by simpa using hp) hs) (by simpa using hsz)
end
end Mine
end

section
open PySem PySem.Builtin PySem.Calls PyProof.Rows
set_option maxRecDepth 100000
namespace Mine

theorem Sub.keeps {s : Shared} {h' : Heap} {tk : Nat} (k : Sub s.heap h') : Keeps s { s with heap := h', toks := tk } := ⟨h', tk, rfl, k⟩

theorem FX.rebase {h₀ hK h : Heap} {L : Addr} {m : Str → Option Value} (F : FX h₀ L h m) (k : Sub hK h) : FX (hK.hide L) L h m :=
  ⟨F.ns, fun b o e => k b o (Heap.of_hide e), Heap.hide_self _ _⟩
theorem sub_hide {h h' : Heap} {L : Addr} (k : Sub h h') (o : h.get? L = none) : Sub h (h'.hide L) := fun b ob e =>
  (Heap.hide_ne _ (by rintro rfl; rw [o] at e; cases e)).trans (k b ob e)
theorem ns_ne {h : Heap} {L a : Addr} {m : Str → Option Value} (hn : h.Ns L m) (ha : h.get? a = none) : L ≠ a := by
  rintro rfl; obtain ⟨_, _, _, ho, _⟩ := hn; rw [ho] at ha; cases ha
theorem sub_none {h h' : Heap} {a : Addr} (k : Sub h h') (ha : h'.get? a = none) : h.get? a = none := by
  cases e : h.get? a with
  | none => rfl
  | some o => rw [k _ _ e] at ha; cases ha
theorem some_ne {h : Heap} {a b : Addr} {o : Obj} (hb : h.get? b = some o) (ha : h.get? a = none) : b ≠ a := by rintro rfl; rw [hb] at ha; cases ha
theorem iter_ne {h : Heap} {a b l : Addr} {i : Nat} (hb : h.IsListIter b l i) (ha : h.get? a = none) : b ≠ a := let ⟨_, ho, _⟩ := hb; some_ne ho ha
theorem iter_keeps {h h' : Heap} {it l : Addr} {i : Nat} (x : h.IsListIter it l i) (k : Sub h h') : h'.IsListIter it l i := let ⟨o, ho, r⟩ := x; ⟨o, k _ _ ho, r⟩
theorem keeps_refl (s : Shared) : Keeps s s := ⟨_, _, rfl, fun _ _ e => e⟩
theorem keeps_tok (s : Shared) (t : Nat) : Keeps s { s with toks := t } := ⟨_, _, rfl, fun _ _ e => e⟩
/-- a local name, by the frame's map alone -/
theorem ldN {M : Model} {A : Around} {E : Value → Shared → Prop} {s : Shared} {env : Env} {m : Str → Option Value} {x : Str} {pos : Pos} {v : Value} {Q : Value → Shared → Prop} (F : s.heap.Ns env.locals m) (hv : m x = some v) (h : Q v s)
    (hk : env.scope.kind = .function := by rfl) (hl : env.kindOf x = some .local := by rfl) (hd : (x == ("__debug__" : Str)) = false := by decide) :
    wpAny M A (eval (.Name x pos) env) Q E s := wpAny_Name (wpAny_loadName_local hk hl F hv h) hd
/-- a statement, told by what it leaves -/
theorem execs_cut {M : Model} {A : Around} {E : Value → Shared → Prop} {s : Shared} {env : Env} {sm : Stmt} {rest : List Stmt} {Q : Flow → Shared → Prop} (Mid : Shared → Prop)
    (h1 : wpAny M A (exec sm env) (fun f s' => f = .next ∧ Mid s') E s) (h2 : ∀ s', Mid s' → wpAny M A (execs rest env) Q E s') : wpAny M A (execs (sm :: rest) env) Q E s := by
  refine wpAny_execs_cons (wpAny_mono h1 (fun f s' hm => ?_) fun _ _ x => x)
  obtain ⟨rfl, hm⟩ := hm
  exact h2 s' hm
theorem old_new {h : Heap} {b : Addr} {o : Obj} (e : h.get? b = some o) (q : b ∈ [h.objs.size]) : False :=
  absurd (Heap.lt_size e) (by rw [List.mem_singleton.mp q]; exact Nat.lt_irrefl _)
theorem new_none {h : Heap} {C : Addr} {o' : Obj} (q : (h.push o').objs.size ≤ C) : h.get? C = none := by
  cases e : h.get? C with
  | none => rfl
  | some o =>
    rw [Heap.size_push] at q
    exact absurd (Heap.lt_size e) (Nat.not_lt.mpr (Nat.le_trans (Nat.le_succ _) q))
theorem intsAre_of : ∀ {vs : List Value} {ns : List Int}, vs.length = ns.length → (∀ (j : Nat) (n : Int), ns[j]? = some n → ∃ t, vs[j]? = some (.int n t)) → IntsAre vs ns
  | [], [], _, _ => .nil
  | [], _ :: _, h, _ => by cases h
  | _ :: _, [], h, _ => by cases h
  | v :: vs, n :: ns, hl, h => by
    obtain ⟨t, e⟩ := h 0 n rfl
    cases e
    exact .cons n t (intsAre_of (by simpa using hl) fun j n' hj => h (j + 1) n' hj)
/-- the places are below the end -/
theorem walks_lt {prog : Program} {w : World} {A : Around} {I : Addr} {fp wr : List Addr} {n : Nat} {P : Nat → Value → Prop} {St : Nat → Heap → Prop} (W : Walks prog w A I fp wr n P St) : Walks prog w A I fp wr n (fun i v => i < n ∧ P i v) St where
  sub := W.sub
  frame := W.frame
  item := fun i s Q E hi st hQ => W.item i s Q E hi st fun v h' tk hP => hQ v h' tk ⟨hi, hP⟩
  done := W.done
  self := W.self

section
variable {prog : Program} {w : World} {A : Around} {E : Value → Shared → Prop} {s : Shared} {env : Env}

/-- what a comprehension's source is to give -/
def Src (prog : Program) (w : World) (A : Around) (env : Env) (scope : Scope) (cl : List (Str × Addr)) (x : Str) (ifs : List Expr) (elt : Expr) (p : Value → Bool) (F : Value → Value → Prop) (Q : Value → Shared → Prop) (it : Value) (s₂ : Shared) : Prop :=
  ∃ I fp wr n P St, it = .ref I ∧ Walks prog w A I fp wr n P St ∧ n ≤ sizeLine ∧ St 0 s₂.heap ∧ (∀ b ∈ fp, b < s₂.heap.objs.size) ∧
      QuietOnC prog w A env scope cl x ifs elt wr P p F s₂ ∧
      (∀ D h' tk ys (vs : List Value), s₂.heap.get? D = none → h'.IsList D ys → h'.PlainList D ys → vs.length = n → (∀ j v, vs[j]? = some v → P j v) → Paired F (vs.filter p) ys.toList →
        (∀ b o, b ∉ wr → s₂.heap.get? b = some o → h'.get? b = some o) → Q (.ref D) { s₂ with heap := h', toks := tk })

abbrev tests (ifs : List Expr) (cenv : Env) : Sem Bool := forIn ifs true fun c r => if r = true then do let ok ← isTrue c cenv (eval c cenv); pure (ForInStep.yield ok) else pure (ForInStep.yield r)

theorem noTests {M : Model} {cenv : Env} {Q : Bool → Shared → Prop} (h : Q true s) : wpAny M A (tests [] cenv) Q E s := by
  show wpAny M A (forIn [] true _) Q E s
  rw [List.forIn_nil]; exact wpAny_pure h
theorem oneTest {M : Model} {cenv : Env} {c : Expr} {Q : Bool → Shared → Prop} (h : wpAny M A (isTrue c cenv (eval c cenv)) Q E s) : wpAny M A (tests [c] cenv) Q E s := by
  show wpAny M A (forIn [c] true _) Q E s
  rw [List.forIn_cons]
  refine wpAny_bind ?_
  rw [if_pos rfl]
  refine wpAny_bind (wpAny_mono h (fun ok s' h' => wpAny_pure ?_) fun _ _ x => x)
  dsimp only
  rw [List.forIn_nil]
  exact wpAny_pure h'

/-- a comprehension of one clause -/
theorem lc {elt iter : Expr} {x : Str} {px : Pos} {ifs : List Expr} {scope : Scope} {pos : Pos} {Q : Value → Shared → Prop} (cl : List (Str × Addr)) (p : Value → Bool) (F : Value → Value → Prop)
    (hclos : closureFor scope env = pure cl) (hcell : ∀ y ∈ scope.names, y.2 ≠ .cell) (hkind : scope.kind = .function)
    (hnames : ∀ y ∈ scope.names, y.2 = .local → scope.names.lookup y.1 = some .local) (hx : scope.names.lookup x = some .local)
    (hs : ∀ x, foldedSetIterable iter env x = pure x)
    (h : wpAny (model prog w) A (eval iter env) (fun xv s₁ => wpAny (model prog w) A (pyIter xv) (Src prog w A env scope cl x ifs elt p F Q) E s₁) E s) :
    wpAny (model prog w) A (eval (.ListComp elt [⟨.Name x px, iter, ifs, 0⟩] scope pos) env) Q E s := wpAny_ListComp_free p F hclos hcell hkind hnames hx h hs

variable {scope : Scope} {cl : List (Str × Addr)} {x : Str} {ifs : List Expr} {elt : Expr} {p : Value → Bool} {F : Value → Value → Prop} {Q : Value → Shared → Prop}

theorem srcList {l : Addr} {vs : List Value} (hh : A.handled = none) (hl : s.heap.IsList l vs.toArray) (hsz : vs.length ≤ sizeLine)
    (ht : ∀ C v s₃ m₃ E', v ∈ vs → s₃.heap.Ns C m₃ → m₃ x = some v → Sub s.heap s₃.heap → s.heap.get? C = none → wpAny (model prog w) A (tests ifs (compEnvC scope cl C env)) (fun ok s₄ => ok = p v ∧ Keeps s₃ s₄) E' s₃)
    (he : ∀ C v s₃ m₃ E', v ∈ vs → p v = true → s₃.heap.Ns C m₃ → m₃ x = some v → Sub s.heap s₃.heap → s.heap.get? C = none → wpAny (model prog w) A (eval elt (compEnvC scope cl C env)) (fun y s₄ => F v y ∧ Keeps s₃ s₄) E' s₃)
    (fin : ∀ D h' tk (ys : List Value), s.heap.get? D = none → h'.PlainList D ys.toArray → Paired F (vs.filter p) ys → Sub s.heap h' → Q (.ref D) { s with heap := h', toks := tk }) :
    wpAny (model prog w) A (pyIter (.ref l)) (Src prog w A env scope cl x ifs elt p F Q) E s := by
  refine wpAny_pyIter_list hl ?_
  obtain ⟨ol, hol, _⟩ := id hl
  have hne : l ≠ s.heap.objs.size := Nat.ne_of_lt (Heap.lt_size hol)
  have up : ∀ {b o}, s.heap.get? b = some o → (s.heap.push { cls := .type "list_iterator", data := .fields #[.ref l, .int 0 0] }).get? b = some o := fun e => Heap.get?_push_of_some _ e
  have nw : ∀ {b o}, s.heap.get? b = some o → b ∉ [s.heap.objs.size] := fun e q => old_new e q
  have fr : ∀ {C}, (s.heap.push { cls := .type "list_iterator", data := .fields #[.ref l, .int 0 0] }).objs.size ≤ C → s.heap.get? C = none := fun q => new_none q
  refine ⟨s.heap.objs.size, _, _, _, _, _, rfl, Walks.list hh _ l hne vs.toArray, by simpa using hsz, ⟨⟨_, Heap.get?_push_size _ rfl, rfl, rfl⟩, hl.push _⟩, ?_, ⟨?_, ?_⟩, ?_⟩
  · intro b hb
    show b < (s.heap.push _).objs.size
    rw [Heap.size_push]
    rcases List.mem_cons.mp hb with e | hb
    · rw [e]; exact Nat.lt_succ_self _
    · rw [List.mem_singleton.mp hb]; exact Nat.lt_succ_of_lt (Heap.lt_size hol)
  · intro C i v s₃ m₃ E' hC hv hn hm hk _
    exact ht C v s₃ m₃ E' (by have : vs[i]? = some v := by simpa using hv
                              exact List.mem_of_getElem? this) hn hm (fun b o e => hk b o (nw e) (up e)) (fr hC)
  · intro C i v s₃ m₃ E' hC hv hp hn hm hk _
    exact he C v s₃ m₃ E' (by have : vs[i]? = some v := by simpa using hv
                              exact List.mem_of_getElem? this) hp hn hm (fun b o e => hk b o (nw e) (up e)) (fr hC)
  · intro D h' tk ys vs' hD _ hpl hlen hP hF hk
    have e : vs' = vs := by
      apply List.ext_getElem?
      intro j
      by_cases hj : j < vs'.length
      · have := hP j vs'[j] (by simp [hj])
        rw [List.getElem?_eq_getElem hj]
        simpa using this.symm
      · rw [List.getElem?_eq_none (by omega), List.getElem?_eq_none (by simp at hlen; omega)]
    subst e
    refine fin D h' tk ys.toList ?_ (by simpa using hpl) hF (fun b o e => hk b o (nw e) (up e))
    cases e : s.heap.get? D with
    | none => rfl
    | some o => rw [up e] at hD; cases hD

theorem srcRange {r : Addr} {a b : Int} {t u v : Tok} (hh : A.handled = none) (hr : IsRange s.heap r a b 1 t u v) (ha : 0 ≤ a) (hab : a ≤ b) (hb : b ≤ 1000000)
    (ht : ∀ C i t s₃ m₃ E', a ≤ i → i < b → s₃.heap.Ns C m₃ → m₃ x = some (.int i t) → Sub s.heap s₃.heap → s.heap.get? C = none → wpAny (model prog w) A (tests ifs (compEnvC scope cl C env)) (fun ok s₄ => ok = p (.int i t) ∧ Keeps s₃ s₄) E' s₃)
    (he : ∀ C i t s₃ m₃ E', a ≤ i → i < b → p (.int i t) = true → s₃.heap.Ns C m₃ → m₃ x = some (.int i t) → Sub s.heap s₃.heap → s.heap.get? C = none → wpAny (model prog w) A (eval elt (compEnvC scope cl C env)) (fun y s₄ => F (.int i t) y ∧ Keeps s₃ s₄) E' s₃)
    (fin : ∀ D h' tk (vs ys : List Value), s.heap.get? D = none → h'.PlainList D ys.toArray → IntsAre vs ((List.range (b - a).toNat).map fun i => a + Int.ofNat i) → Paired F (vs.filter p) ys → Sub s.heap h' → Q (.ref D) { s with heap := h', toks := tk }) :
    wpAny (model prog w) A (pyIter (.ref r)) (Src prog w A env scope cl x ifs elt p F Q) E s := by
  have e24 : sizeLine = 16777216 := by decide
  refine wpAny_pyIter_range hr (small_one (by omega) (by omega) (by omega) (by omega)) ?_
  rw [rangeSize_one]
  have up : ∀ {b' o o'}, s.heap.get? b' = some o → (s.heap.push o').get? b' = some o := fun e => Heap.get?_push_of_some _ e
  have nw : ∀ {b o}, s.heap.get? b = some o → b ∉ [s.heap.objs.size] := fun e q => old_new e q
  have fr : ∀ {C o'}, (s.heap.push o').objs.size ≤ C → s.heap.get? C = none := fun q => new_none q
  have en : (if a < b then b - a else 0) = ((b - a).toNat : Int) := by split <;> omega
  rw [en]
  refine ⟨s.heap.objs.size, _, _, _, _, _, rfl, walks_lt (Walks.range hh _ a 1 (b - a).toNat), by omega, ?_, ?_, ⟨?_, ?_⟩, ?_⟩
  · have : IsRangeIter (s.heap.push { cls := .type "range_iterator", data := .fields #[rawInt a, rawInt ((b - a).toNat : Int), rawInt 1] }) s.heap.objs.size a ((b - a).toNat : Int) 1 := Heap.get?_push_size _ rfl
    simpa using this
  · intro b' hb'
    show b' < (s.heap.push _).objs.size
    rw [Heap.size_push, List.mem_singleton.mp hb']; exact Nat.lt_succ_self _
  · rintro C i v s₃ m₃ E' hC ⟨hi, t', rfl⟩ hn hm hk _
    exact ht C (a + i * 1) t' s₃ m₃ E' (by omega) (by omega) hn hm (fun b o e => hk b o (nw e) (up e)) (fr hC)
  · rintro C i v s₃ m₃ E' hC ⟨hi, t', rfl⟩ hp hn hm hk _
    exact he C (a + i * 1) t' s₃ m₃ E' (by omega) (by omega) hp hn hm (fun b o e => hk b o (nw e) (up e)) (fr hC)
  · intro D h' tk ys vs hD _ hpl hlen hP hF hk
    refine fin D h' tk vs ys.toList ?_ (by simpa using hpl) ?_ hF (fun b o e => hk b o (nw e) (up e))
    · cases e : s.heap.get? D with
      | none => rfl
      | some o => rw [up e] at hD; cases hD
    · refine intsAre_of (by simpa using hlen) ?_
      intro j n hj
      simp only [List.getElem?_map, Option.map_eq_some_iff] at hj
      obtain ⟨k, hk, rfl⟩ := hj
      have hjl : j < (b - a).toNat := by
        by_cases q : j < (b - a).toNat
        · exact q
        · rw [List.getElem?_eq_none (by simp; omega)] at hk; cases hk
      have : k = j := by rw [List.getElem?_range hjl] at hk; exact (Option.some.inj hk).symm
      subst this
      have hjv : k < vs.length := by omega
      obtain ⟨_, t', e⟩ := hP k vs[k] (by simp [hjv])
      refine ⟨t', ?_⟩
      rw [List.getElem?_eq_getElem hjv, e]
      simp

theorem srcStr {y : Str} {t : Tok} (hh : A.handled = none) (hsz : y.cps.size ≤ sizeLine)
    (ht : ∀ C c t s₃ m₃ E', s₃.heap.Ns C m₃ → m₃ x = some (.str ⟨#[c]⟩ t) → Sub s.heap s₃.heap → s.heap.get? C = none → wpAny (model prog w) A (tests ifs (compEnvC scope cl C env)) (fun ok s₄ => ok = p (.str ⟨#[c]⟩ t) ∧ Keeps s₃ s₄) E' s₃)
    (he : ∀ C c t s₃ m₃ E', p (.str ⟨#[c]⟩ t) = true → s₃.heap.Ns C m₃ → m₃ x = some (.str ⟨#[c]⟩ t) → Sub s.heap s₃.heap → s.heap.get? C = none → wpAny (model prog w) A (eval elt (compEnvC scope cl C env)) (fun y s₄ => F (.str ⟨#[c]⟩ t) y ∧ Keeps s₃ s₄) E' s₃)
    (fin : ∀ D h' tk (vs ys : List Value), s.heap.get? D = none → h'.PlainList D ys.toArray → vs.length = y.cps.size → (∀ j v, vs[j]? = some v → SignAt y j v) → Paired F (vs.filter p) ys → Sub s.heap h' → Q (.ref D) { s with heap := h', toks := tk }) :
    wpAny (model prog w) A (pyIter (.str y t)) (Src prog w A env scope cl x ifs elt p F Q) E s := by
  refine wpAny_pyIter_str fun o St W hst => ?_
  have up : ∀ {b' o'}, s.heap.get? b' = some o' → (s.heap.push o).get? b' = some o' := fun e => Heap.get?_push_of_some _ e
  have nw : ∀ {b o}, s.heap.get? b = some o → b ∉ [s.heap.objs.size] := fun e q => old_new e q
  have fr : ∀ {C o'}, (s.heap.push o').objs.size ≤ C → s.heap.get? C = none := fun q => new_none q
  refine ⟨s.heap.objs.size, _, _, _, _, _, rfl, W A hh, hsz, hst, ?_, ⟨?_, ?_⟩, ?_⟩
  · intro b' hb'
    show b' < (s.heap.push _).objs.size
    rw [Heap.size_push, List.mem_singleton.mp hb']; exact Nat.lt_succ_self _
  · rintro C i v s₃ m₃ E' hC ⟨c, t', _, rfl⟩ hn hm hk _
    exact ht C c t' s₃ m₃ E' hn hm (fun b o e => hk b o (nw e) (up e)) (fr hC)
  · rintro C i v s₃ m₃ E' hC ⟨c, t', _, rfl⟩ hp hn hm hk _
    exact he C c t' s₃ m₃ E' hp hn hm (fun b o e => hk b o (nw e) (up e)) (fr hC)
  · intro D h' tk ys vs hD _ hpl hlen hP hF hk
    refine fin D h' tk vs ys.toList ?_ (by simpa using hpl) hlen hP hF (fun b o e => hk b o (nw e) (up e))
    cases e : s.heap.get? D with
    | none => rfl
    | some o => rw [up e] at hD; cases hD
end
end Mine
end

section
open PySem PySem.Builtin PySem.Calls PyProof.Rows
set_option maxRecDepth 100000
namespace Mine

def toldGo : Nat → Nat → Nat → List (Nat × Nat) → Nat → List Nat → Option (List (Nat × Nat))
  | 0, _, _, _, _, _ => none
  | k + 1, dots, name, acc, number, rest =>
    if number == 0 then some acc else
    match varint rest with
    | none => none
    | some (n', rest') =>
      if 256 ≤ number then toldGo k dots number acc n' rest'
      else if number % 64 == 46 then toldGo k (dots + 1) name acc n' rest'
      else toldGo k 0 name (acc ++ [(dots, name)]) n' rest'
def told (mail : List Nat) : Option (List (Nat × Nat)) :=
  match varint (mail ++ [0]) with
  | none => none
  | some (n, rest) => toldGo (mail.length + 2) 0 0 [] n rest

theorem told_inv {mail : List Nat} {rs : List (Nat × Nat)} (h : told mail = some rs) : ∃ n rest, varint (mail ++ [0]) = some (n, rest) ∧ toldGo (mail.length + 2) 0 0 [] n rest = some rs := by
  unfold told at h
  cases hv : varint (mail ++ [0]) with
  | none => rw [hv] at h; cases h
  | some p => rw [hv] at h; exact ⟨p.1, p.2, rfl, h⟩
theorem toldGo_inv {k dots name : Nat} {acc rs : List (Nat × Nat)} {number : Nat} {rest : List Nat} (h : toldGo k dots name acc number rest = some rs) :
    ∃ k', k = k' + 1 ∧ ((number = 0 ∧ acc = rs) ∨ (number ≠ 0 ∧ ∃ n' rest', varint rest = some (n', rest') ∧
      ((256 ≤ number ∧ toldGo k' dots number acc n' rest' = some rs) ∨ (¬ 256 ≤ number ∧ number % 64 = 46 ∧ toldGo k' (dots + 1) name acc n' rest' = some rs) ∨
        (¬ 256 ≤ number ∧ number % 64 ≠ 46 ∧ toldGo k' 0 name (acc ++ [(dots, name)]) n' rest' = some rs)))) := by
  cases k with
  | zero => cases h
  | succ k =>
    refine ⟨k, rfl, ?_⟩
    unfold toldGo at h
    by_cases h0 : number = 0
    · subst h0; exact .inl ⟨rfl, Option.some.inj h⟩
    · rw [if_neg (by simpa using h0)] at h
      refine .inr ⟨h0, ?_⟩
      cases hv : varint rest with
      | none => rw [hv] at h; cases h
      | some p =>
        obtain ⟨n', rest'⟩ := p
        rw [hv] at h
        refine ⟨n', rest', rfl, ?_⟩
        dsimp only at h
        by_cases h1 : 256 ≤ number
        · rw [if_pos h1] at h; exact .inl ⟨h1, h⟩
        · rw [if_neg h1] at h
          by_cases h2 : number % 64 = 46
          · rw [if_pos (by simpa using h2)] at h; exact .inr (.inl ⟨h1, h2, h⟩)
          · rw [if_neg (by simpa using h2)] at h; exact .inr (.inr ⟨h1, h2, h⟩)

/-- pairs of ints, as tuples at addresses of which `P` is so -/
inductive RowsAt (h : Heap) (P : Addr → Prop) : List Value → List (Nat × Nat) → Prop
  | nil : RowsAt h P [] []
  | cons {a : Addr} {d n : Nat} {t u : Tok} {vs : List Value} {rs : List (Nat × Nat)} (hX : P a) (ht : h.IsTuple a #[.int d t, .int n u]) (r : RowsAt h P vs rs) : RowsAt h P (.ref a :: vs) ((d, n) :: rs)
theorem RowsAt.keeps {h h' : Heap} {P : Addr → Prop} (k : ∀ b o, P b → h.get? b = some o → h'.get? b = some o) : ∀ {vs : List Value} {rs : List (Nat × Nat)}, RowsAt h P vs rs → RowsAt h' P vs rs
  | _, _, .nil => .nil
  | _, _, .cons hX ⟨o, ho, q⟩ r => .cons hX ⟨o, k _ _ hX ho, q⟩ (r.keeps k)
theorem RowsAt.snoc {h : Heap} {P : Addr → Prop} {a : Addr} {d n : Nat} {t u : Tok} : ∀ {vs : List Value} {rs : List (Nat × Nat)}, RowsAt h P vs rs → P a → h.IsTuple a #[.int d t, .int n u] → RowsAt h P (vs ++ [.ref a]) (rs ++ [(d, n)])
  | _, _, .nil, hX, ht => .cons hX ht .nil
  | _, _, .cons hX' ht' r, hX, ht => .cons hX' ht' (r.snoc hX ht)
theorem RowsAt.length {h : Heap} {P : Addr → Prop} : ∀ {vs : List Value} {rs : List (Nat × Nat)}, RowsAt h P vs rs → vs.length = rs.length
  | _, _, .nil => rfl
  | _, _, .cons _ _ r => by simp [r.length]
theorem RowsAt.mono {h : Heap} {P P' : Addr → Prop} (hp : ∀ a o, h.get? a = some o → P a → P' a) : ∀ {vs : List Value} {rs : List (Nat × Nat)}, RowsAt h P vs rs → RowsAt h P' vs rs
  | _, _, .nil => .nil
  | _, _, .cons hX ⟨o, ho, q⟩ r => .cons (hp _ o ho hX) ⟨o, ho, q⟩ (r.mono hp)
theorem RowsAt.get {h : Heap} {P : Addr → Prop} : ∀ {vs : List Value} {rs : List (Nat × Nat)}, RowsAt h P vs rs → ∀ {i : Nat} {d n : Nat}, rs[i]? = some (d, n) → ∃ a t u, vs[i]? = some (.ref a) ∧ h.IsTuple a #[.int d t, .int n u]
  | _, _, .nil, _, _, _, e => by simp at e
  | _, _, .cons hX ht r, 0, _, _, e => by cases e; exact ⟨_, _, _, rfl, ht⟩
  | _, _, .cons hX ht r, i + 1, _, _, e => by
    obtain ⟨a, t, u, e1, e2⟩ := r.get (i := i) (by simpa using e)
    exact ⟨a, t, u, by simpa using e1, e2⟩

theorem mem0 {b L : Addr} {X : List Addr} (e : b = L) : b ∈ L :: X := List.mem_cons.mpr (.inl e)
theorem mem1 {b L M : Addr} {X : List Addr} (e : b = L) : b ∈ M :: L :: X := List.mem_cons.mpr (.inr (mem0 e))
theorem mem2 {b L M N : Addr} {X : List Addr} (e : b = L) : b ∈ M :: N :: L :: X := List.mem_cons.mpr (.inr (mem1 e))
theorem fmod_eq {n : Nat} (h : n % 64 = 46) : (((n : Int).fmod 64) == 46) = true := by
  have : (n : Int).fmod 64 = 46 := by rw [Int.fmod_eq_emod_of_nonneg _ (by decide)]; omega
  rw [this]; rfl
theorem fmod_ne {n : Nat} (h : n % 64 ≠ 46) : (((n : Int).fmod 64) == 46) = false := by
  have : ¬ (n : Int).fmod 64 = 46 := by rw [Int.fmod_eq_emod_of_nonneg _ (by decide)]; omega
  simpa using this
theorem plain_noDict {h : Heap} {l : Addr} {items : Array Value} (x : h.PlainList l items) : ∀ a, Value.ref l = .ref a → ∃ ob, h.get? a = some ob ∧ ob.dict = none := fun a e => by
  cases e
  exact let ⟨_, ho⟩ := x; ⟨_, ho, rfl⟩
theorem filter_all (vs : List Value) : vs.filter (fun _ => true) = vs := List.filter_eq_self.mpr (by simp)
theorem plain_keeps {h h' : Heap} {a : Addr} {items : Array Value} (x : h.PlainList a items) (k : Sub h h') : h'.PlainList a items := let ⟨n, e⟩ := x; ⟨n, k _ _ e⟩

/-- the sign's numbers -/
theorem signs_ints {y : Str} {vs ys : List Value} (hlen : vs.length = y.cps.size) (hP : ∀ (j : Nat) v, vs[j]? = some v → SignAt y j v)
    (hF : Paired (fun v z => ∃ c u t, v = Value.str ⟨#[c]⟩ u ∧ z = Value.int (c : Nat) t) vs ys) : IntsAre ys (nats y.cps.toList) := by
  have key : ∀ (l : List Nat) (vs ys : List Value), vs.length = l.length → (∀ (j : Nat) v, vs[j]? = some v → ∃ c u, l[j]? = some c ∧ v = Value.str ⟨#[c]⟩ u) →
      Paired (fun v z => ∃ c u t, v = Value.str ⟨#[c]⟩ u ∧ z = Value.int (c : Nat) t) vs ys → IntsAre ys (nats l) := by
    intro l
    induction l with
    | nil =>
      intro vs ys hl _ hF
      cases vs with
      | nil => cases hF; exact .nil
      | cons => cases hl
    | cons c l ih =>
      intro vs ys hl hP hF
      cases vs with
      | nil => cases hl
      | cons v vs =>
        cases hF with
        | cons h1 h2 =>
          obtain ⟨c', u', t', rfl, rfl⟩ := h1
          obtain ⟨c'', u'', e1, e2⟩ := hP 0 _ rfl
          cases e2
          have : c = c' := by simpa using e1
          subst this
          exact .cons _ _ (ih vs _ (by simpa using hl) (fun j v hj => hP (j + 1) v hj) h2)
  exact key y.cps.toList vs ys (by simpa using hlen) (fun j v hj => by
    obtain ⟨c, u, e1, e2⟩ := hP j v hj
    exact ⟨c, u, by simpa using e1, e2⟩) hF
theorem intsAre_append : ∀ {vs ws : List Value} {ns ms : List Int}, IntsAre vs ns → IntsAre ws ms → IntsAre (vs ++ ws) (ns ++ ms)
  | _, _, _, _, .nil, h => h
  | _, _, _, _, .cons n t r, h => .cons n t (intsAre_append r h)

section
variable {prog : Program} {w : World} {A : Around} {E : Value → Shared → Prop} {s : Shared} {mg mb : Str → Option Value}
set_option maxHeartbeats 2000000 in
theorem told_call {a : Addr} {x : Str} {t : Tok} {rs : List (Nat × Nat)} {Q : Value → Shared → Prop} (f : IsFn s.heap a 14) (B : Bs s.heap mg mb) (hroom : A.depth + 1 < recursionLimit) (hh : A.handled = none) (hx : x.cps.size ≤ 100000)
    (hr : told x.cps.toList = some rs)
    (h : ∀ h' tk r vs, Sub s.heap h' → h'.PlainList r vs.toArray → s.heap.get? r = none → RowsAt h' (fun a => s.heap.get? a = none) vs rs → Q (.ref r) { s with heap := h', toks := tk }) :
    wpAny (model prog w) A (call (.ref a) [.str x t]) Q E s := by
  have e24 : sizeLine = 16777216 := by decide
  obtain ⟨n0, rest0, hv, hto⟩ := told_inv hr
  refine fn1 (x := Str.ofString "mail") f B (by omega) (fun _ _ _ => rfl) rfl (fun L cd h₁ F => ?_)
  have hroom' : (A.deeper (envOf (nm 14) (sc 14) L a cd)).depth < recursionLimit := hroom
  have hh' : (A.deeper (envOf (nm 14) (sc 14) L a cd)).handled = none := hh
  have B₁ := B.keeps F.keep
  refine wpAny_execs_cons ?_
  refine wpAny_Assign_Name ?_
  refine callB1 (id := "iter") ?_
  refine bl B₁ (B.free "iter" (by decide)) PyProof.Rows.Boot.«iter» ?_
  refine ⟨rfl, ?_⟩
  refine wpAny_BinOp ?_
  refine lc [] (fun _ => true) (fun v z => ∃ c u t, v = Value.str ⟨#[c]⟩ u ∧ z = Value.int (c : Nat) t) ?c1 ?c2 ?c3 ?c4 ?c5 ?c6 ?_
  case c1 => exact closureFor_none (by decide)
  case c2 => decide
  case c3 => rfl
  case c4 => decide
  case c5 => rfl
  case c6 => intro _; rfl
  refine ld F rfl ?_
  refine srcStr hh' ?d1 (fun C c t s₃ m₃ E' hn hm hk hC => ?_) (fun C c t s₃ m₃ E' _ hn hm hk hC => ?_) ?_
  case d1 => omega
  · exact noTests ⟨rfl, keeps_refl _⟩
  · refine callB1 (id := "ord") ?_
    refine bl (B₁.keeps hk) (B.free "ord" (by decide)) PyProof.Rows.Boot.«ord» ?_
    refine ⟨rfl, ?_⟩
    refine ldN hn hm ?_
    refine P.ord_of_char ?_
    exact ⟨⟨c, t, _, rfl, rfl⟩, keeps_tok _ _⟩
  intro D h₂ tk₂ vs ys hD hpl hlen hP hF hk₂
  have hints : IntsAre ys (nats x.cps.toList) := signs_ints hlen hP (by rw [filter_all] at hF; exact hF)
  have hyl : ys.length = x.cps.size := by rw [hints.length]; simp [nats]
  have F2 := F.keeps hk₂
  refine dispL ?_
  refine wpAny_items_cons ?_
  refine wpAny_Constant_int ?_
  refine wpAny_items_nil ?_
  refine ⟨by show 1 ≤ sizeLine; omega, fun d₃ h₃ k₃ hl₃ _ => ?_⟩
  refine addL (vs := ys) (ws := [.int 0 tk₂]) (plain_keeps hpl k₃).isList hl₃.isList ?d2 (fun l h₄ k₄ hl₄ nl => ?_)
  case d2 => show ys.length + 1 ≤ _; omega
  refine iterL hl₄.isList (fun it h₅ k₅ hit₅ nit => ?_)
  -- the ground of the loop
  have F4 := F2.keeps (k₃.trans k₄)
  have k04 : Sub s.heap h₄ := F4.keep
  have hLit : L ≠ it := ns_ne F4.ns nit
  have oit : s.heap.get? it = none := sub_none k04 nit
  have hLl : L ≠ l := ns_ne (F2.keeps k₃).ns nl
  have F5 : FX (h₄.hide L) L h₅ _ := (F4.keeps k₅).rebase k₅
  have ks : Sub s.heap (h₄.hide L) := sub_hide k04 F.off
  have hoit : (h₄.hide L).get? it = none := sub_none (fun b o e => Heap.of_hide e) nit
  have hl0 : (h₄.hide L).IsList l (ys ++ [Value.int 0 tk₂]).toArray := let ⟨o, ho, r⟩ := hl₄.isList; ⟨o, (Heap.hide_ne _ hLl.symm).trans ho, r⟩
  have hits : IntsAre (ys ++ [Value.int 0 tk₂]) (nats (x.cps.toList ++ [0])) := by
    have := intsAre_append hints (IntsAre.cons 0 tk₂ .nil)
    simpa [nats] using this
  have hlit : it ≠ l := by
    obtain ⟨o, ho, _⟩ := hl₄.isList
    exact (some_ne ho nit).symm
  have Bh := B.keeps ks
  obtain ⟨av, eav, fav⟩ := B.fn (7, "_parse_varint") (by decide)
  obtain ⟨ae, eae, fae⟩ := B.fn (5, "ISEOF") (by decide)
  obtain ⟨an, ean, fan⟩ := B.fn (4, "ISNONTERMINAL") (by decide)
  refine st F5 (fun h₆ F6 hs6 => ?_)
  have hit6 := hit₅.extBut hs6.extBut hLit.symm
  refine wpAny_execs_cons ?_
  refine wpAny_Assign_Name ?_
  refine dispL ?_
  refine wpAny_items_nil ?_
  refine ⟨Nat.zero_le _, fun r h₇ k₇ hr₇ nr => ?_⟩
  have hLr : L ≠ r := ns_ne F6.ns nr
  have hitr : it ≠ r := iter_ne hit6 nr
  have hor : (h₄.hide L).get? r = none := sub_none F6.keep nr
  have F7 := F6.keeps k₇
  have hit7 := iter_keeps hit6 k₇
  refine st F7 (fun h₈ F8 hs8 => ?_)
  have hit8 := hit7.extBut hs8.extBut hLit.symm
  have hr8 := hr₇.extBut hs8.extBut hLr.symm
  refine wpAny_execs_cons ?_
  refine wpAny_Assign_Name ?_
  refine wpAny_Constant_int ?_
  refine st F8 (fun h₉ F9 hs9 => ?_)
  have hit9 := hit8.extBut hs9.extBut hLit.symm
  have hr9 := hr8.extBut hs9.extBut hLr.symm
  refine wpAny_execs_cons ?_
  refine wpAny_Assign_Name ?_
  refine wpAny_Constant_int ?_
  refine st F9 (fun g₁ G1 gs1 => ?_)
  have hitg := hit9.extBut gs1.extBut hLit.symm
  have hrg := hr9.extBut gs1.extBut hLr.symm
  refine wpAny_execs_cons ?_
  refine wpAny_Assign_Name ?_
  refine callF1 (a := av) (n := 7) ?_
  refine gl (Bh.keeps G1.keep) eav ?_
  refine ⟨rfl, ?_⟩
  refine ld G1 rfl ?_
  refine ⟨fav.keeps (ks.trans G1.keep), ?_⟩
  refine varint_call (ns := x.cps.toList ++ [0]) fav B (ks.trans G1.keep) oit hroom' hitg (isList_keeps hl0 G1.keep) hits hlit hv ?_
  intro g₂ tkg tg j gx hitj hj hij
  have G2 := G1.ext gx hLit hoit
  have hr2 := hrg.extBut gx hitr.symm
  refine st G2 (fun g₃ G3 gs3 => ?_)
  have hit3 := hitj.extBut gs3.extBut hLit.symm
  have hr3 := hr2.extBut gs3.extBut hLr.symm
  refine wpAny_execs_cons ?_
  refine whileX (fun n s' => ∃ h' tk m j dots name acc number vs td tn tv, s' = { s with heap := h', toks := tk } ∧ FX (h₄.hide L) L h' m ∧
      m (Str.ofString "tape") = some (.ref it) ∧ m (Str.ofString "rows") = some (.ref r) ∧ m (Str.ofString "dots") = some (.int ((dots : Nat) : Int) td) ∧ m (Str.ofString "name") = some (.int ((name : Nat) : Int) tn) ∧ m (Str.ofString "number") = some (.int ((number : Nat) : Int) tv) ∧
      h'.IsListIter it l j ∧ h'.PlainList r (vs : List Value).toArray ∧ RowsAt h' (fun a => a ∉ [L, it, r] ∧ s.heap.get? a = none) vs acc ∧ acc.length + n ≤ 200000 ∧
      toldGo n dots name acc number ((x.cps.toList ++ [0]).drop j) = some rs) (n := x.cps.toList.length + 2)
    ⟨g₃, _, _, j, 0, 0, [], n0, [], _, _, _, rfl, G3, rfl, rfl, rfl, rfl, rfl, hit3, hr3, .nil, ?_, ?_⟩ ?_
  · simp; omega
  · rw [hj]; exact hto
  rintro n s' ⟨h', tk, m, j, dots, name, acc, number, vs, td, tn, tv, rfl, F', e1, e2, e3, e4, e5, hit', hrow, hrows, hbd, hgo⟩
  obtain ⟨k', rfl, hcase⟩ := toldGo_inv hgo
  refine wpAny_isTrue_Not ?_
  refine wpAny_isTrue_value ?_
  refine callF1 (a := ae) (n := 5) ?_
  refine gl (Bh.keeps F'.keep) eae ?_
  refine ⟨rfl, ?_⟩
  refine ld F' e5 ?_
  refine ⟨fae.keeps (ks.trans F'.keep), ?_⟩
  refine iseof_call (fae.keeps (ks.trans F'.keep)) (Bh.keeps F'.keep) hroom' ?_
  intro p₁ tp₁ kp₁
  refine wpAny_truthy_bool ?_
  have P1 := F'.keeps kp₁
  have hitp := iter_keeps hit' kp₁
  have hrowp := plain_keeps hrow kp₁
  have hrowsp := hrows.keeps (fun b o _ e => kp₁ b o e)
  rcases hcase with ⟨h0, hacc⟩ | ⟨h0, n', rest', hvn, hcase⟩
  · have eb : (((number : Nat) : Int) == 0) = true := by rw [h0]; rfl
    rw [eb]
    show wpAny _ _ _ _ _ _
    refine wpAny_execs_cons ?_
    refine wpAny_Return_some ?_
    refine ld P1 e2 ?_
    subst hacc
    exact h p₁ _ r vs (ks.trans P1.keep) hrowp (sub_none ks hor) (hrowsp.mono fun a _ _ q => q.2)
  · have eb : (((number : Nat) : Int) == 0) = false := by
      have : ¬ ((number : Nat) : Int) = 0 := by omega
      simpa using this
    rw [eb]
    show wpAny _ _ _ _ _ _
    refine execs_cut (fun s' => ∃ q tq m' dots' name' acc' vs' td' tn', s' = { s with heap := q, toks := tq } ∧ FX (h₄.hide L) L q m' ∧
        m' (Str.ofString "tape") = some (.ref it) ∧ m' (Str.ofString "rows") = some (.ref r) ∧ m' (Str.ofString "dots") = some (.int ((dots' : Nat) : Int) td') ∧ m' (Str.ofString "name") = some (.int ((name' : Nat) : Int) tn') ∧
        q.IsListIter it l j ∧ q.PlainList r (vs' : List Value).toArray ∧ RowsAt q (fun a => a ∉ [L, it, r] ∧ s.heap.get? a = none) vs' acc' ∧ acc'.length + k' ≤ 200000 ∧ toldGo k' dots' name' acc' n' rest' = some rs) ?_ ?_
    · refine wpAny_If ?_
      refine wpAny_isTrue_value ?_
      refine callF1 (a := an) (n := 4) ?_
      refine gl (Bh.keeps P1.keep) ean ?_
      refine ⟨rfl, ?_⟩
      refine ld P1 e5 ?_
      refine ⟨fan.keeps (ks.trans P1.keep), ?_⟩
      refine isnont_call (fan.keeps (ks.trans P1.keep)) (Bh.keeps P1.keep) hroom' ?_
      intro p₂ tp₂ kp₂
      refine wpAny_truthy_bool ?_
      have P2 := P1.keeps kp₂
      have hit2 := iter_keeps hitp kp₂
      have hrow2 := plain_keeps hrowp kp₂
      have hrows2 := hrowsp.keeps (fun b o _ e => kp₂ b o e)
      rcases hcase with ⟨c1, hc⟩ | ⟨c1, c2, hc⟩ | ⟨c1, c2, hc⟩
      · rw [decide_eq_true (show (256 : Int) ≤ ((number : Nat) : Int) by omega), if_pos rfl]
        refine wpAny_execs_cons ?_
        refine wpAny_Assign_Name ?_
        refine ld P2 e5 ?_
        refine st P2 (fun q Q1 qs => ?_)
        refine wpAny_execs_nil ?_
        exact ⟨rfl, q, _, _, dots, number, acc, vs, td, tv, rfl, Q1, e1, e2, e3, rfl, hit2.extBut qs.extBut hLit.symm, hrow2.extBut qs.extBut hLr.symm,
          hrows2.keeps (fun b o hb e => qs.extBut b o (fun e' => hb.1 (mem0 e')) e), by omega, hc⟩
      · rw [decide_eq_false (show ¬ (256 : Int) ≤ ((number : Nat) : Int) by omega), if_neg Bool.false_ne_true]
        refine wpAny_execs_cons ?_
        refine wpAny_If ?_
        refine wpAny_isTrue_Compare1 ?_
        refine wpAny_BinOp ?_
        refine ld P2 e5 ?_
        refine wpAny_Constant_int ?_
        refine PyProof.Rows.mod_int (by decide) ?_
        refine wpAny_Constant_int ?_
        refine PyProof.Rows.eq_int ?_
        refine wpAny_truthy_bool ?_
        rw [fmod_eq c2, if_pos rfl]
        refine wpAny_execs_cons ?_
        refine wpAny_AugAssign_Name ?_
        refine ldn P2 e3 ?_
        refine wpAny_Constant_int ?_
        refine PyProof.Rows.iadd_int ?_
        refine st P2 (fun q Q1 qs => ?_)
        refine wpAny_execs_nil ?_
        refine wpAny_execs_nil ?_
        exact ⟨rfl, q, _, _, dots + 1, name, acc, vs, _, tn, rfl, Q1, e1, e2, rfl, e4, hit2.extBut qs.extBut hLit.symm, hrow2.extBut qs.extBut hLr.symm,
          hrows2.keeps (fun b o hb e => qs.extBut b o (fun e' => hb.1 (mem0 e')) e), by omega, hc⟩
      · rw [decide_eq_false (show ¬ (256 : Int) ≤ ((number : Nat) : Int) by omega), if_neg Bool.false_ne_true]
        refine wpAny_execs_cons ?_
        refine wpAny_If ?_
        refine wpAny_isTrue_Compare1 ?_
        refine wpAny_BinOp ?_
        refine ld P2 e5 ?_
        refine wpAny_Constant_int ?_
        refine PyProof.Rows.mod_int (by decide) ?_
        refine wpAny_Constant_int ?_
        refine PyProof.Rows.eq_int ?_
        refine wpAny_truthy_bool ?_
        rw [fmod_ne c2, if_neg Bool.false_ne_true]
        refine wpAny_execs_cons ?_
        refine wpAny_Expr ?_
        refine callM1 PySem.F.plainAttrs_list PySem.F.slot_list_append PySem.F.type_list_append ?_
        refine ld P2 e2 ?_
        refine ⟨hrow2.isList.typeIs, plain_noDict hrow2, ?_⟩
        refine dispT ?_
        refine wpAny_items_cons ?_
        refine ld P2 e3 ?_
        refine wpAny_items_cons ?_
        refine ld P2 e4 ?_
        refine wpAny_items_nil ?_
        refine ⟨by show 2 ≤ sizeLine; omega, fun tu q k₁ htu ntu => ?_⟩
        have P3 := P2.keeps k₁
        refine appendL (plain_keeps hrow2 k₁) (by rw [hrows2.length]; omega) (fun q₂ hpl₂ qs₂ => ?_)
        have P4 := P3.ext qs₂.extBut hLr hor
        refine wpAny_execs_cons ?_
        refine wpAny_Assign_Name ?_
        refine wpAny_Constant_int ?_
        refine st P4 (fun q₃ Q3 qs₃ => ?_)
        refine wpAny_execs_nil ?_
        refine wpAny_execs_nil ?_
        have hxt : tu ∉ [L, it, r] := by
          intro hm
          rcases List.mem_cons.mp hm with e | hm
          · exact ns_ne P2.ns ntu e.symm
          · rcases List.mem_cons.mp hm with e | hm
            · exact iter_ne hit2 ntu e.symm
            · obtain ⟨_, ho⟩ := hrow2
              exact some_ne ho ntu (List.mem_singleton.mp hm).symm
        refine ⟨rfl, q₃, _, _, 0, name, acc ++ [(dots, name)], vs ++ [.ref tu], _, tn, rfl, Q3, e1, e2, rfl, e4, ((iter_keeps hit2 k₁).extBut qs₂.extBut hitr).extBut qs₃.extBut hLit.symm, hpl₂.extBut qs₃.extBut hLr.symm,
          ?_, by simp; omega, hc⟩
        refine RowsAt.keeps (fun b o hb e => qs₃.extBut b o (fun e' => hb.1 (mem0 e')) e) (RowsAt.keeps (fun b o hb e => qs₂.extBut b o (fun e' => hb.1 (mem2 e')) e) ?_)
        exact (hrows2.keeps (fun b o _ e => k₁ b o e)).snoc ⟨hxt, sub_none (ks.trans P2.keep) ntu⟩ htu
    · rintro s' ⟨q, tq, m', dots', name', acc', vs', td', tn', rfl, Q1, f1, f2, f3, f4, hit2, hrow2, hrows2, hbd2, hgo2⟩
      refine wpAny_execs_cons ?_
      refine wpAny_Assign_Name ?_
      refine callF1 (a := av) (n := 7) ?_
      refine gl (Bh.keeps Q1.keep) eav ?_
      refine ⟨rfl, ?_⟩
      refine ld Q1 f1 ?_
      refine ⟨fav.keeps (ks.trans Q1.keep), ?_⟩
      refine varint_call (ns := x.cps.toList ++ [0]) fav B (ks.trans Q1.keep) oit hroom' hit2 (isList_keeps hl0 Q1.keep) hits hlit hvn ?_
      intro q₂ tkq tq₂ j₂ qx hitj2 hj2 _
      have Q2 := Q1.ext qx hLit hoit
      refine st Q2 (fun q₃ Q3 qs3 => ?_)
      refine wpAny_execs_nil ?_
      refine ⟨k', Nat.lt_succ_self _, q₃, _, _, j₂, dots', name', acc', n', vs', td', tn', _, rfl, Q3, f1, f2, f3, f4, rfl, hitj2.extBut qs3.extBut hLit.symm, (hrow2.extBut qx hitr.symm).extBut qs3.extBut hLr.symm,
        (hrows2.keeps (fun b o hb e => qx b o (fun e' => hb.1 (mem1 e')) e)).keeps (fun b o hb e => qs3.extBut b o (fun e' => hb.1 (mem0 e')) e), by omega, ?_⟩
      rw [hj2]; exact hgo2
end
end Mine
end

section
open PySem PySem.Builtin PySem.Calls PyProof.Rows
set_option maxRecDepth 100000
namespace Mine
theorem FX.rebaseX {h₀ h : Heap} {L : Addr} {m : Str → Option Value} (F : FX h₀ L h m) (X : List Addr) : FX (W.hideAll (h.hide L) X) L h m :=
  ⟨F.ns, fun b o e => Heap.of_hide (W.of_hideAll X e), by
    cases e : (W.hideAll (h.hide L) X).get? L with
    | none => rfl
    | some o => have := W.of_hideAll X e; rw [Heap.hide_self] at this; cases this⟩
theorem sub_hideX {h h' : Heap} {L : Addr} {X : List Addr} (k : Sub h h') (o : h.get? L = none) (oX : ∀ a ∈ X, h.get? a = none) : Sub h (W.hideAll (h'.hide L) X) := fun b ob e =>
  W.hideAll_get X (sub_hide k o b ob e) fun hb => by have := oX b hb; rw [e] at this; cases this
theorem hideX_get {h : Heap} {L b : Addr} {X : List Addr} {o : Obj} (e : h.get? b = some o) (hL : b ≠ L) (hX : b ∉ X) : (W.hideAll (h.hide L) X).get? b = some o :=
  W.hideAll_get X ((Heap.hide_ne _ hL).trans e) hX
theorem FX.weaken {h₀ h₁ h : Heap} {L : Addr} {m : Str → Option Value} (F : FX h₁ L h m) (k : Sub h₀ h₁) : FX h₀ L h m :=
  ⟨F.ns, k.trans F.keep, sub_none k F.off⟩

section
variable {prog : Program} {w : World} {A : Around} {s : Shared} {env : Env} {Q : Flow → Shared → Prop} {h₀ : Heap}
/-- a for over `range(n)`, by an invariant of the turn's number, the heap and the frame's map -/
theorem forRangeX {x : Str} {px pos : Pos} {iter : Expr} {body : List Stmt} {n : Nat} (J : Addr → Nat → Heap → (Str → Option Value) → Prop) (hh : A.handled = none) (hn : n ≤ 1000000)
    (hx : env.kindOf x = some .local) (hp : (env.scope.kind == .class || (env.scope.kind == .module && env.locals != env.globals)) = false) (hs : ∀ x, foldedSetIterable iter env x = pure x)
    (h : wpAny (model prog w) A (eval iter env) (fun xv s₁ => ∃ h₁ tk₁ r t u v m, s₁ = { s with heap := h₁, toks := tk₁ } ∧ xv = .ref r ∧ IsRange h₁ r 0 n 1 t u v ∧ FX h₀ env.locals h₁ m ∧
      (∀ it, h₁.get? it = none → ∀ h₂, Sub h₁ h₂ → J it 0 h₂ m)) NoE s)
    (stab : ∀ it i h h' m, J it i h m → Heap.ExtBut it h h' → J it i h' m)
    (turn : ∀ it i h m tk ti, i < n → it ≠ env.locals → h₀.get? it = none → (∃ o, h.get? it = some o) → J it i h m → FX h₀ env.locals h (fun y => if y = x then some (.int (Int.ofNat i) ti) else m y) →
      wpAny (model prog w) A (execs body env) (fun f s' => f = .next ∧ ∃ h' tk' m', s' = { s with heap := h', toks := tk' } ∧ FX h₀ env.locals h' m' ∧ J it (i + 1) h' m' ∧ (∀ o, h.get? it = some o → h'.get? it = some o)) NoE { s with heap := h, toks := tk })
    (stabL : ∀ it i h h' m, J it i h m → Heap.SameBut env.locals h h' → J it i h' m)
    (fin : ∀ it h tk m, J it n h m → FX h₀ env.locals h m → Q .next { s with heap := h, toks := tk }) :
    wpAny (model prog w) A (exec (.For (.Name x px) iter body [] pos) env) Q NoE s := by
  refine wpAny_For (wpAny_mono h (fun xv s₁ h₁ => ?_) fun _ _ x => x) hs
  obtain ⟨h₁, tk₁, r, t, u, v, m, rfl, rfl, hr, F, hJ⟩ := h₁
  refine wpAny_pyIter_range hr (small_one (by omega) (by omega) (by omega) (by omega)) ?_
  rw [rangeSize_one]
  have en : (if (0 : Int) < (n : Int) then (n : Int) - 0 else 0) = (n : Int) := by split <;> omega
  rw [en]
  have nit : h₁.get? h₁.objs.size = none := fresh_none h₁
  have hitL : h₁.objs.size ≠ env.locals := (ns_ne F.ns nit).symm
  have oit : h₀.get? h₁.objs.size = none := sub_none F.keep nit
  refine codeAny_forLoop (fun k s' => ∃ h' tk m' i, s' = { s with heap := h', toks := tk } ∧ IsRangeIter h' h₁.objs.size ((i : Nat) : Int) ((n : Int) - (i : Nat)) 1 ∧ FX h₀ env.locals h' m' ∧ J h₁.objs.size i h' m' ∧ i ≤ n ∧ k = n - i) ?_ n
    ⟨_, tk₁, m, 0, rfl, by simpa using (Heap.get?_push_size h₁ rfl : IsRangeIter (h₁.push { cls := .type "range_iterator", data := .fields #[rawInt 0, rawInt (n : Int), rawInt 1] }) h₁.objs.size 0 (n : Int) 1), F.push _, hJ _ nit _ (Sub.push _ _), Nat.zero_le _, rfl⟩
  rintro k s' ⟨h', tk, m', i, rfl, hit, F', hJi, hi, rfl⟩
  by_cases hlt : i < n
  · refine wpAny_pyNext_range_item hit (by omega) fun h₂ hit₂ hs₂ => ?_
    have F2 := F'.ext hs₂.extBut hitL.symm oit
    refine wpAny_assign_Name (wpAny_storeName_local hx F2.ns (fun h₃ hn₃ hs₃ => ?_) hp)
    have F3 := F2.set hn₃ hs₃
    have hJ3 := stabL _ _ _ h₃ _ (stab _ _ _ h₂ _ hJi hs₂.extBut) hs₃
    refine wpAny_mono (turn h₁.objs.size i h₃ m' _ _ hlt hitL oit ⟨_, (hs₃.2 _ hitL).trans hit₂⟩ hJ3 F3) (fun f s₄ h₄ => ?_) fun _ _ x => x.elim
    obtain ⟨rfl, h₄, tk₄, m₄, rfl, F4, hJ4, hk4⟩ := h₄
    refine ⟨n - (i + 1), by omega, h₄, tk₄, m₄, i + 1, rfl, ?_, F4, hJ4, hlt, rfl⟩
    have := hk4 _ ((hs₃.2 _ hitL).trans hit₂)
    have e1 : (((i + 1 : Nat) : Nat) : Int) = (i : Int) + 1 := by omega
    have e2 : (n : Int) - ((i : Int) + 1) = (n : Int) - (i : Int) - 1 := by omega
    rw [e1, e2]; exact this
  · have hin : i = n := by omega
    subst hin
    refine wpAny_pyNext_range_end hh hit (by omega) fun h₂ he₂ => wpAny_execs_nil ?_
    exact fin _ _ _ _ (stab _ _ _ _ _ hJi he₂) (F'.ext he₂ hitL.symm oit)
end
end Mine
end

section
open PySem PySem.Builtin PySem.Calls PyProof.Rows
set_option maxRecDepth 100000
namespace Mine
theorem dot_eq : Str.ofString "." = ⟨#[46]⟩ := by decide +kernel
theorem mul_dots (d : Nat) : (Txt.mul (Str.ofString ".") (d : Int)).cps.toList = List.replicate d 46 := by
  rw [dot_eq]
  unfold Txt.mul
  by_cases h1 : (d : Int) < 1
  · have : d = 0 := by omega
    subst this; rfl
  · rw [if_neg h1]
    by_cases h2 : d = 1
    · subst h2; rfl
    · have h3 : (((d : Int) == 1) || (⟨#[46]⟩ : Str).length == 0) = false := by
        have : ¬ (d : Int) = 1 := by omega
        simp [Str.length, this]
      rw [h3, if_neg Bool.false_ne_true, Int.toNat_natCast]
      have key : ∀ (k : Nat) (acc : Array Nat), ((List.replicate k (#[46] : Array Nat)).foldl (· ++ ·) acc).toList = acc.toList ++ List.replicate k 46 := by
        intro k
        induction k with
        | zero => intro acc; simp
        | succ k ih => intro acc; rw [List.replicate_succ, List.foldl_cons, ih]; simp [List.replicate_succ]
      rw [key]; simp
theorem mulOk_dots {d : Nat} (h : d ≤ 10000) : MulOk (Str.ofString ".") (d : Int) := by
  have hl : (Str.ofString ".").length = 1 := by decide +kernel
  have e24 : sizeLine = 16777216 := by decide
  unfold MulOk
  rw [hl]
  refine ⟨by simp; omega, fun h1 _ => ?_, fun _ _ => ?_⟩
  · have : (1 : Int) ≤ (2 ^ 63 - 1) / (d : Int) := by
      rw [Int.le_ediv_iff_mul_le (by omega)]; omega
    show ¬ ((1 : Int) > _)
    omega
  · unfold Builtin.Str.tooLong
    exact decide_eq_false (by rw [Int.toNat_natCast]; omega)
theorem count_dots (x : Str) : Txt.count x (Str.ofString ".") = ((x.cps.toList.count 46 : Nat) : Int) := by
  rw [dot_eq, count_is]
  have key : ∀ l : List Nat, cnt 46 l = ((l.count 46 : Nat) : Int) := by
    intro l
    induction l with
    | nil => rfl
    | cons c l ih =>
      rw [cnt_cons, ih, List.count_cons]
      by_cases h : c = 46
      · subst h; simp; omega
      · simp [h]
  exact key _

section
variable {prog : Program} {w : World} {A : Around} {E : Value → Shared → Prop} {s : Shared} {env : Env}
/-- an item of a list at a place in it -/
theorem subL {value slice : Expr} {pos : Pos} {Q : Value → Shared → Prop}
    (h : wpAny (model prog w) A (eval value env) (fun o s₁ => wpAny (model prog w) A (eval slice env) (fun i s₂ => ∃ l vs k u v, o = .ref l ∧ i = .int (Int.ofNat k) u ∧ s₂.heap.IsList l (vs : List Value).toArray ∧ k < 1000000000 ∧ vs[k]? = some v ∧ Q v s₂) E s₁) E s)
    (hs : ∀ l k u, subscripted slice false (.ref l) (.int k u) = operate [.ref l, .int k u] (getItem (.ref l) (.int k u))) : wpAny (model prog w) A (eval (.Subscript value slice pos) env) Q E s := by
  refine Subscript_ (wpAny_mono h (fun o s₁ h₁ => wpAny_mono h₁ (fun i s₂ h₂ => ?_) fun _ _ x => x) fun _ _ x => x)
  obtain ⟨l, vs, k, u, v, rfl, rfl, hl, hk, hv, hq⟩ := h₂
  exact tail_any hl.typeIs slot_list_getitem.lookup (wpAny_getItem_list hl (by simp) (by show (k : Int) < _; omega) (by simpa using hv) hq) (hs _ _ _)
/-- two names off a pair -/
theorem assign2 {x y : Str} {px py tpos : Pos} {k : Nat} {t : Addr} {v1 v2 : Value} {Q : Unit → Shared → Prop} (hh : A.handled = none) (ht : s.heap.IsTuple t #[v1, v2])
    (h : ∀ h', Sub s.heap h' → wpAny (model prog w) A (storeName env x v1) (fun _ s₁ => wpAny (model prog w) A (storeName env y v2) Q E s₁) E { s with heap := h' }) :
    wpAny (model prog w) A (assign (.Tuple [.Name x px, .Name y py] k tpos) env (.ref t)) Q E s := by
  refine wpAny_assign_Tuple hh ht rfl rfl fun h' hx => ?_
  show wpAny _ _ (assignInOrder [assign (.Name x px) env, assign (.Name y py) env] [v1, v2]) _ _ _
  refine assignInOrder_cons (assign_Name (wpAny_mono (h h' fun b o e => hx b o (Nat.ne_of_lt (Heap.lt_size e)) e) (fun _ s₁ h₁ => ?_) fun _ _ x => x))
  exact assignInOrder_cons (assign_Name (wpAny_mono h₁ (fun _ s₂ h₂ => assignInOrder_nil h₂) fun _ _ x => x))
end
end Mine
end

section
open PySem PySem.Builtin PySem.Calls PyProof.Rows
set_option maxRecDepth 100000
namespace Mine
def term3 (k : Nat) : List Nat := if k % 3 == 0 then [10] else if k % 3 == 1 then [13] else [13, 10]
def shield (i c j d : Nat) : List Nat := if j == i || decide (d < c) then [67] else []
def rowTxt (i c j : Nat) (r : Nat × Nat) : List Nat := shield i c j r.1 ++ (List.replicate r.1 46 ++ (64 + r.2 / 64) :: term3 (i + j))
def mailGo (i c : Nat) : Nat → List (Nat × Nat) → List Nat
  | _, [] => []
  | j, r :: rs => rowTxt i c j r ++ mailGo i c (j + 1) rs
def lineGo : List Nat → Nat → List (Nat × Nat) → List Int → Option (List (Nat × Nat) × List Int)
  | [], _, rows, laid => some (rows, laid)
  | c :: cs, i, rows, laid =>
    if (rows ++ [(c, 64 * (4 + i) + 13)]).length == i + 1 && (decide (i ≤ 100) && (rows ++ [(c, 64 * (4 + i) + 13)]).all fun r => decide (r.1 ≤ 100) && decide (r.2 ≤ 60000)) then
      match told (quoted (mailGo i c 0 (rows ++ [(c, 64 * (4 + i) + 13)]))) with
      | none => none
      | some rows' => lineGo cs (i + 1) rows' (laid ++ [((quoted (mailGo i c 0 (rows ++ [(c, 64 * (4 + i) + 13)]))).count 46 : Int) - ((mailGo i c 0 (rows ++ [(c, 64 * (4 + i) + 13)])).count 46 : Int)])
    else none

theorem lineGo_inv {c : Nat} {cs : List Nat} {i : Nat} {rows : List (Nat × Nat)} {laid : List Int} {res : List (Nat × Nat) × List Int} (h : lineGo (c :: cs) i rows laid = some res) :
    ∃ rows1, rows1 = rows ++ [(c, 64 * (4 + i) + 13)] ∧ rows1.length = i + 1 ∧ i ≤ 100 ∧ (∀ r ∈ rows1, r.1 ≤ 100 ∧ r.2 ≤ 60000) ∧ ∃ rows', told (quoted (mailGo i c 0 rows1)) = some rows' ∧
      lineGo cs (i + 1) rows' (laid ++ [((quoted (mailGo i c 0 rows1)).count 46 : Int) - ((mailGo i c 0 rows1).count 46 : Int)]) = some res := by
  unfold lineGo at h
  refine ⟨_, rfl, ?_⟩
  generalize rows ++ [(c, 64 * (4 + i) + 13)] = rows1 at h
  by_cases hc : (rows1.length == i + 1 && (decide (i ≤ 100) && rows1.all fun r => decide (r.1 ≤ 100) && decide (r.2 ≤ 60000))) = true
  · rw [if_pos hc] at h
    obtain ⟨h1, h2⟩ := Bool.and_eq_true_iff.mp hc
    obtain ⟨h2, h3⟩ := Bool.and_eq_true_iff.mp h2
    refine ⟨by simpa using h1, of_decide_eq_true h2, fun r hr => by simpa using List.all_eq_true.mp h3 r hr, ?_⟩
    cases ht : told (quoted (mailGo i c 0 rows1)) with
    | none => rw [ht] at h; cases h
    | some rows' => rw [ht] at h; exact ⟨rows', rfl, h⟩
  · rw [if_neg hc] at h; cases h
theorem mailGo_append (i c : Nat) : ∀ (j : Nat) (a b : List (Nat × Nat)), mailGo i c j (a ++ b) = mailGo i c j a ++ mailGo i c (j + a.length) b
  | j, [], b => by simp [mailGo]
  | j, r :: a, b => by
    show rowTxt i c j r ++ mailGo i c (j + 1) (a ++ b) = rowTxt i c j r ++ mailGo i c (j + 1) a ++ _
    rw [mailGo_append i c (j + 1) a b, List.append_assoc, List.length_cons, show j + 1 + a.length = j + (a.length + 1) by omega]
theorem mailGo_take {i c : Nat} {rows : List (Nat × Nat)} {j : Nat} {r : Nat × Nat} (h : rows[j]? = some r) : mailGo i c 0 (rows.take (j + 1)) = mailGo i c 0 (rows.take j) ++ rowTxt i c j r := by
  have hj : j < rows.length := by
    rcases Nat.lt_or_ge j rows.length with q | q
    · exact q
    · rw [List.getElem?_eq_none q] at h; cases h
  rw [List.take_add_one, h, mailGo_append]
  simp [mailGo, Nat.min_eq_left (Nat.le_of_lt hj)]
theorem rowTxt_len {i c j : Nat} {r : Nat × Nat} (h : r.1 ≤ 100) : (rowTxt i c j r).length ≤ 105 := by
  unfold rowTxt shield term3
  (repeat' split) <;> simp <;> omega
theorem mailGo_len {i c : Nat} : ∀ (j : Nat) (rows : List (Nat × Nat)), (∀ r ∈ rows, r.1 ≤ 100) → (mailGo i c j rows).length ≤ 105 * rows.length
  | _, [], _ => Nat.le_refl _
  | j, r :: rs, h => by
    have h1 := mailGo_len (i := i) (c := c) (j + 1) rs fun r hr => h r (List.mem_cons_of_mem _ hr)
    have h2 := rowTxt_len (i := i) (c := c) (j := j) (h r List.mem_cons_self)
    show (rowTxt i c j r ++ mailGo i c (j + 1) rs).length ≤ _
    rw [List.length_append, List.length_cons]; omega
end Mine
end

section
open PySem PySem.Builtin PySem.Calls PyProof.Rows
set_option maxRecDepth 100000
/-! the rules once more, over a state written out: no term of a state grows -/
namespace Mine.R
variable {prog : Program} {w : World} {A : Around} {E : Value → Shared → Prop} {env : Env} {hp h₀ : Heap} {g : Array GenState} {d : Drawn} {tk : Nat} {o : OsState}
/-- a state's tokens forgotten -/
theorem tok {α : Type} {t : Sem α} {Q : α → Shared → Prop} {M : Model} (h : ∀ tk', wpAny M A t Q E ⟨hp, g, d, tk', o⟩) : wpAny M A t Q E ⟨hp, g, d, tk, o⟩ := h tk

theorem cI {i : Int} {k : Nat} {pos : Pos} {Q : Value → Shared → Prop} (h : ∀ t tk', Q (.int i t) ⟨hp, g, d, tk', o⟩) : wpAny (model prog w) A (eval (.Constant (.int i) k pos) env) Q E ⟨hp, g, d, tk, o⟩ := wpAny_Constant_int (h _ _)
theorem cS {x : Str} {k : Nat} {pos : Pos} {Q : Value → Shared → Prop} (h : ∀ t tk', Q (.str x t) ⟨hp, g, d, tk', o⟩) : wpAny (model prog w) A (eval (.Constant (.str x) k pos) env) Q E ⟨hp, g, d, tk, o⟩ := wpAny_Constant_str (h _ _)
section
variable {a b : Int} {t u : Tok} {Q : Value → Shared → Prop}
theorem add (h : ∀ t tk', Q (.int (a + b) t) ⟨hp, g, d, tk', o⟩) : wpAny (model prog w) A (binaryOp .Add (.int a t) (.int b u)) Q E ⟨hp, g, d, tk, o⟩ := PyProof.Rows.add_int (h _ _)
theorem iadd (h : ∀ t tk', Q (.int (a + b) t) ⟨hp, g, d, tk', o⟩) : wpAny (model prog w) A (inplaceOp .Add (.int a t) (.int b u)) Q E ⟨hp, g, d, tk, o⟩ := PyProof.Rows.iadd_int (h _ _)
theorem sub (h : ∀ t tk', Q (.int (a - b) t) ⟨hp, g, d, tk', o⟩) : wpAny (model prog w) A (binaryOp .Sub (.int a t) (.int b u)) Q E ⟨hp, g, d, tk, o⟩ := PyProof.Rows.sub_int (h _ _)
theorem mul (hm : IntMulOk a b) (h : ∀ t tk', Q (.int (a * b) t) ⟨hp, g, d, tk', o⟩) : wpAny (model prog w) A (binaryOp .Mult (.int a t) (.int b u)) Q E ⟨hp, g, d, tk, o⟩ := PyProof.Rows.mul_int (h _ _) hm
theorem mod (hb : b ≠ 0) (h : ∀ t tk', Q (.int (a.fmod b) t) ⟨hp, g, d, tk', o⟩) : wpAny (model prog w) A (binaryOp .Mod (.int a t) (.int b u)) Q E ⟨hp, g, d, tk, o⟩ := PyProof.Rows.mod_int hb (h _ _)
theorem fdiv (hb : b ≠ 0) (hb2 : b.natAbs < 1073741824) (h : ∀ t tk', Q (.int (a.fdiv b) t) ⟨hp, g, d, tk', o⟩) : wpAny (model prog w) A (binaryOp .FloorDiv (.int a t) (.int b u)) Q E ⟨hp, g, d, tk, o⟩ := floordiv_int hb (h _ _) (.inl (PyProof.noPylong_small hb2))
end
section
variable {x y : Str} {t u : Tok} {Q : Value → Shared → Prop}
theorem addS (hsz : x.cps.size + y.cps.size ≤ 1000000) (h : ∀ t tk', Q (.str (x ++ y) t) ⟨hp, g, d, tk', o⟩) : wpAny (model prog w) A (binaryOp .Add (.str x t) (.str y u)) Q E ⟨hp, g, d, tk, o⟩ :=
  PyProof.Rows.add_str (fun t' k => h t' k) (by show x.cps.size + y.cps.size ≤ 16777216; omega)
theorem mulS {n : Nat} (hn : n ≤ 10000) (h : ∀ z t tk', z.cps.toList = List.replicate n 46 → Q (.str z t) ⟨hp, g, d, tk', o⟩) : wpAny (model prog w) A (binaryOp .Mult (.str (Str.ofString ".") t) (.int (n : Int) u)) Q E ⟨hp, g, d, tk, o⟩ :=
  SB.mul (mulOk_dots hn) fun t' k => h _ t' k (mul_dots n)
theorem chr {i : Int} {n : Nat} (e : i = (n : Int)) (hi : n ≤ 100000) (h : ∀ t tk', Q (.str ⟨#[n]⟩ t) ⟨hp, g, d, tk', o⟩) : wpAny (model prog w) A (call (.builtin "chr") [.int i t]) Q E ⟨hp, g, d, tk, o⟩ := by
  subst e
  exact P.chr_of_int (by simp; omega) (by rw [Int.toNat_natCast]; exact h _ _)
theorem count (h : ∀ t tk', Q (.int ((x.cps.toList.count 46 : Nat) : Int) t) ⟨hp, g, d, tk', o⟩) : wpAny (model prog w) A (call (.builtin "str.count") [.str x t, .str (Str.ofString ".") u]) Q E ⟨hp, g, d, tk, o⟩ :=
  SC.count (by rw [count_dots]; exact h _ _)
end
section
variable {m : Str → Option Value}
theorem st {x : Str} {v : Value} {Q : Unit → Shared → Prop} (F : FX h₀ env.locals hp m)
    (h : ∀ h' tk', FX h₀ env.locals h' (fun y => if y = x then some v else m y) → Heap.SameBut env.locals hp h' → Q () ⟨h', g, d, tk', o⟩)
    (hk : (env.scope.kind == .class || (env.scope.kind == .module && env.locals != env.globals)) = false := by rfl) (hl : env.kindOf x = some .local := by rfl) :
    wpAny (model prog w) A (storeName env x v) Q E ⟨hp, g, d, tk, o⟩ := Mine.st (s := ⟨hp, g, d, tk, o⟩) F (fun h' F' hs => h h' _ F' hs) hk hl
end
section
variable {Q : Value → Shared → Prop}
theorem addL {l b : Addr} {vs ws : List Value} (hl : hp.IsList l vs.toArray) (hb : hp.IsList b ws.toArray) (hsz : vs.length + ws.length ≤ 1000000)
    (h : ∀ dd h', Sub hp h' → h'.PlainList dd (vs ++ ws).toArray → hp.get? dd = none → Q (.ref dd) ⟨h', g, d, tk, o⟩) :
    wpAny (model prog w) A (binaryOp .Add (.ref l) (.ref b)) Q E ⟨hp, g, d, tk, o⟩ := Mine.addL (s := ⟨hp, g, d, tk, o⟩) hl hb (Nat.le_trans hsz (by decide)) h
theorem dispL {elts : List Expr} {pos : Pos}
    (h : wpAny (model prog w) A (spliced (backTo pos (starEach elts env))) (fun vs s₁ => ∃ h₁ tk₁, s₁ = ⟨h₁, g, d, tk₁, o⟩ ∧ vs.length ≤ 1000000 ∧ ∀ dd h', Sub h₁ h' → h'.PlainList dd vs.toArray → h₁.get? dd = none → Q (.ref dd) ⟨h', g, d, tk₁, o⟩) E ⟨hp, g, d, tk, o⟩) :
    wpAny (model prog w) A (eval (.List elts pos) env) Q E ⟨hp, g, d, tk, o⟩ :=
  Mine.dispL (wpAny_mono h (fun vs s₁ ⟨h₁, tk₁, e, hl, q⟩ => by subst e; exact ⟨Nat.le_trans hl (by decide), q⟩) fun _ _ x => x)
theorem dispT {elts : List Expr} {k : Nat} {pos : Pos}
    (h : wpAny (model prog w) A (spliced (backTo pos (starEach elts env))) (fun vs s₁ => ∃ h₁ tk₁, s₁ = ⟨h₁, g, d, tk₁, o⟩ ∧ vs.length ≤ 1000000 ∧ ∀ dd h', Sub h₁ h' → h'.IsTuple dd vs.toArray → h₁.get? dd = none → Q (.ref dd) ⟨h', g, d, tk₁, o⟩) E ⟨hp, g, d, tk, o⟩) :
    wpAny (model prog w) A (eval (.Tuple elts k pos) env) Q E ⟨hp, g, d, tk, o⟩ :=
  Mine.dispT (wpAny_mono h (fun vs s₁ ⟨h₁, tk₁, e, hl, q⟩ => by subst e; exact ⟨Nat.le_trans hl (by decide), q⟩) fun _ _ x => x)
theorem appendL {l : Addr} {vs : List Value} {x : Value} (hl : hp.PlainList l vs.toArray) (hsz : vs.length ≤ 1000000)
    (hQ : ∀ h', h'.PlainList l (vs ++ [x]).toArray → Heap.SameBut l hp h' → Q .none ⟨h', g, d, tk, o⟩) :
    wpAny (model prog w) A (call (.builtin "list.append") [.ref l, x]) Q E ⟨hp, g, d, tk, o⟩ := Mine.appendL (s := ⟨hp, g, d, tk, o⟩) hl (Nat.le_trans hsz (by decide)) hQ
theorem len {l : Addr} {vs : List Value} (hl : hp.IsList l vs.toArray) (hsz : vs.length ≤ 1000000) (h : ∀ t tk', Q (.int (Int.ofNat vs.length) t) ⟨hp, g, d, tk', o⟩) :
    wpAny (model prog w) A (call (.builtin "len") [.ref l]) Q E ⟨hp, g, d, tk, o⟩ := by
  refine call_len_list (s := ⟨hp, g, d, tk, o⟩) hl (by simp; omega) ?_
  have := h (tk + 1) (tk + 1 + 1)
  simpa using this
theorem range {n : Nat} {t : Tok} (h : ∀ r t u v h' tk', Sub hp h' → IsRange h' r 0 (n : Int) 1 t u v → hp.get? r = none → Q (.ref r) ⟨h', g, d, tk', o⟩) :
    wpAny (model prog w) A (call (.type "range") [.int (n : Int) t]) Q E ⟨hp, g, d, tk, o⟩ := call_range_1 (s := ⟨hp, g, d, tk, o⟩) (h _ _ _ _ _ _ (Sub.push _ _) (IsRange.new _ _ _ _ _ _ _) (fresh_none _))
theorem range2 {a n : Nat} {t t' : Tok} (h : ∀ r t u v h' tk', Sub hp h' → IsRange h' r (a : Int) (n : Int) 1 t u v → hp.get? r = none → Q (.ref r) ⟨h', g, d, tk', o⟩) :
    wpAny (model prog w) A (call (.type "range") [.int (a : Int) t, .int (n : Int) t']) Q E ⟨hp, g, d, tk, o⟩ := call_range_2 (s := ⟨hp, g, d, tk, o⟩) (h _ _ _ _ _ _ (Sub.push _ _) (IsRange.new _ _ _ _ _ _ _) (fresh_none _))
theorem assign2 {x y : Str} {px py tpos : Pos} {k : Nat} {t : Addr} {v1 v2 : Value} {Q : Unit → Shared → Prop} (hh : A.handled = none) (ht : hp.IsTuple t #[v1, v2])
    (h : ∀ h', Sub hp h' → wpAny (model prog w) A (storeName env x v1) (fun _ s₁ => wpAny (model prog w) A (storeName env y v2) Q E s₁) E ⟨h', g, d, tk, o⟩) :
    wpAny (model prog w) A (assign (.Tuple [.Name x px, .Name y py] k tpos) env (.ref t)) Q E ⟨hp, g, d, tk, o⟩ := Mine.assign2 (s := ⟨hp, g, d, tk, o⟩) hh ht h
end
section
variable {mg mb : Str → Option Value} {Q : Value → Shared → Prop} {a : Addr}
theorem quoted_call {x : Str} {t : Tok} (f : IsFn hp a 12) (B : Bs hp mg mb) (P : Ps hp mg) (hroom : A.depth < recursionLimit) (hx : x.cps.size ≤ 100000)
    (h : ∀ h' tk t', Sub hp h' → Q (.str ⟨(quoted x.cps.toList).toArray⟩ t') ⟨h', g, d, tk, o⟩) :
    wpAny (model prog w) A (call (.ref a) [.str x t]) Q E ⟨hp, g, d, tk, o⟩ := Mine.quoted_call (s := ⟨hp, g, d, tk, o⟩) f B P hroom hx h
theorem told_call {x : Str} {t : Tok} {rs : List (Nat × Nat)} (f : IsFn hp a 14) (B : Bs hp mg mb) (hroom : A.depth + 1 < recursionLimit) (hh : A.handled = none) (hx : x.cps.size ≤ 100000) (hr : told x.cps.toList = some rs)
    (h : ∀ h' tk r vs, Sub hp h' → h'.PlainList r vs.toArray → hp.get? r = none → RowsAt h' (fun a => hp.get? a = none) vs rs → Q (.ref r) ⟨h', g, d, tk, o⟩) :
    wpAny (model prog w) A (call (.ref a) [.str x t]) Q E ⟨hp, g, d, tk, o⟩ := Mine.told_call (s := ⟨hp, g, d, tk, o⟩) f B hroom hh hx hr h
end
/-- the frame at a call's start, its state written out -/
theorem fn1 {n : Nat} {a : Addr} {v : Value} {x : Str} {Q : Value → Shared → Prop} {mg mb : Str → Option Value} (f : IsFn hp a n) (B : Bs hp mg mb) (hroom : A.depth < recursionLimit)
    (hbind : ∀ pm cd doc, bindArgs (docDef (nm n) (pr n) (bd n) (sc n) pm cd doc) ⟨[v], []⟩ = pure [(x, v)])
    (hloc : (sc n).names.lookup x = some .local)
    (h : ∀ L cd h₁ tk₁, FX hp L h₁ (fun y => if y = x then some v else none) →
      wpAny (model prog w) (A.deeper (envOf (nm n) (sc n) L a cd)) (execs (bd n) (envOf (nm n) (sc n) L a cd))
        (fun fl s' => Q (match fl with | .ret v => v | _ => .none) s') (fun _ _ => False) ⟨h₁, g, d, tk₁, o⟩)
    (hco : (sc n).isCoroutine = false := by rfl) (hgen : (sc n).isGenerator = false := by rfl) (hk : (sc n).kind = .function := by rfl)
    (hcell : ∀ x ∈ (sc n).names, x.2 ≠ .cell := by decide) :
    wpAny (model prog w) A (call (.ref a) [v]) Q E ⟨hp, g, d, tk, o⟩ := Mine.fn1 (s := ⟨hp, g, d, tk, o⟩) f B hroom hbind hloc (fun L cd h₁ F => h L cd h₁ _ F) hco hgen hk hcell
theorem forRangeX {x : Str} {px pos : Pos} {iter : Expr} {body : List Stmt} {n : Nat} {Q : Flow → Shared → Prop} (J : Addr → Nat → Heap → (Str → Option Value) → Prop) (hh : A.handled = none) (hn : n ≤ 1000000)
    (hx : env.kindOf x = some .local) (hpp : (env.scope.kind == .class || (env.scope.kind == .module && env.locals != env.globals)) = false) (hs : ∀ x, foldedSetIterable iter env x = pure x)
    (h : wpAny (model prog w) A (eval iter env) (fun xv s₁ => ∃ h₁ tk₁ r t u v m, s₁ = ⟨h₁, g, d, tk₁, o⟩ ∧ xv = .ref r ∧ IsRange h₁ r 0 n 1 t u v ∧ FX h₀ env.locals h₁ m ∧
      (∀ it, h₁.get? it = none → ∀ h₂, Sub h₁ h₂ → J it 0 h₂ m)) NoE ⟨hp, g, d, tk, o⟩)
    (stab : ∀ it i h h' m, J it i h m → Heap.ExtBut it h h' → J it i h' m)
    (turn : ∀ it i h m tk ti, i < n → it ≠ env.locals → h₀.get? it = none → (∃ o, h.get? it = some o) → J it i h m → FX h₀ env.locals h (fun y => if y = x then some (.int (Int.ofNat i) ti) else m y) →
      wpAny (model prog w) A (execs body env) (fun f s' => f = .next ∧ ∃ h' tk' m', s' = ⟨h', g, d, tk', o⟩ ∧ FX h₀ env.locals h' m' ∧ J it (i + 1) h' m' ∧ (∀ o, h.get? it = some o → h'.get? it = some o)) NoE ⟨h, g, d, tk, o⟩)
    (stabL : ∀ it i h h' m, J it i h m → Heap.SameBut env.locals h h' → J it i h' m)
    (fin : ∀ it h tk m, J it n h m → FX h₀ env.locals h m → Q .next ⟨h, g, d, tk, o⟩) :
    wpAny (model prog w) A (exec (.For (.Name x px) iter body [] pos) env) Q NoE ⟨hp, g, d, tk, o⟩ := Mine.forRangeX (s := ⟨hp, g, d, tk, o⟩) J hh hn hx hpp hs h stab turn stabL fin
end Mine.R
end

section
open PySem PySem.Builtin PySem.Calls PyProof.Rows
set_option maxRecDepth 100000
namespace Mine
theorem dotd_len : ∀ (x : List Nat) (b : Bool), (dotd b x).length ≤ 2 * x.length
  | [], _ => Nat.le_refl _
  | c :: r, b => by
    unfold dotd
    have h1 := dotd_len r false
    have h2 := dotd_len r (c == 10)
    split <;> simp only [List.length_cons] <;> omega
theorem quoted_len (x : List Nat) : (quoted x).length ≤ 4 * x.length := by
  have h1 := dotd_len (crlf false x) true
  have h2 := crlf_len x false
  unfold quoted; omega
theorem intMul64 (b : Int) : IntMulOk 64 b := IntMulOk.of_left (by decide +kernel)

theorem fdiv64 (n : Nat) : (64 + (n : Int).fdiv 64 : Int) = ((64 + n / 64 : Nat) : Int) := by
  rw [Int.fdiv_eq_ediv_of_nonneg _ (by decide)]; omega
theorem fmod3 (i j : Nat) : (Int.ofNat i + Int.ofNat j).fmod 3 = Int.ofNat ((i + j) % 3) := by
  rw [Int.fmod_eq_emod_of_nonneg _ (by decide)]
  show ((i : Int) + (j : Int)) % 3 = (((i + j) % 3 : Nat) : Int)
  omega
theorem pick3 (k : Nat) (t1 t2 t3 : Tok) : ∃ y t, [Value.str (Str.ofString "\n") t1, .str (Str.ofString "\r") t2, .str (Str.ofString "\r\n") t3][k % 3]? = some (.str y t) ∧ y.cps.toList = term3 k ∧ y.cps.size ≤ 2 := by
  have h : k % 3 = 0 ∨ k % 3 = 1 ∨ k % 3 = 2 := by omega
  rcases h with e | e | e
  · rw [e]; exact ⟨_, _, rfl, by unfold term3; rw [e]; decide +kernel, by decide +kernel⟩
  · rw [e]; exact ⟨_, _, rfl, by unfold term3; rw [e]; decide +kernel, by decide +kernel⟩
  · rw [e]; exact ⟨_, _, rfl, by unfold term3; rw [e]; decide +kernel, by decide +kernel⟩
theorem tuple_int {h : Heap} {a : Addr} {x y y' : Int} {t u : Tok} (ht : h.IsTuple a #[.int x t, .int y u]) (e : y = y') : h.IsTuple a #[.int x t, .int y' u] := e ▸ ht
theorem tuple_keeps {h h' : Heap} {a : Addr} {vs : Array Value} (x : h.IsTuple a vs) (k : Sub h h') : h'.IsTuple a vs := let ⟨o, ho, r⟩ := x; ⟨o, k _ _ ho, r⟩
theorem drop_get {l : List Nat} {i : Nat} (h : i < l.length) : ∃ c, l[i]? = some c ∧ l.drop i = c :: l.drop (i + 1) :=
  ⟨l[i], by simp [h], List.drop_eq_getElem_cons h⟩
section
variable {prog : Program} {w : World} {A : Around} {E : Value → Shared → Prop} {mg mb : Str → Option Value} {hp : Heap} {gn : Array GenState} {dr : Drawn} {tk₀ : Nat} {os : OsState}
set_option maxHeartbeats 2000000 in
theorem line_call {a c : Addr} {cv : List Value} {codes : List Nat} {rows : List (Nat × Nat)} {laid : List Int} {Q : Value → Shared → Prop} (f : IsFn hp a 15) (B : Bs hp mg mb) (P : Ps hp mg) (hroom : A.depth + 2 < recursionLimit) (hh : A.handled = none)
    (hc : hp.IsList c cv.toArray) (hci : IntsAre cv (nats codes)) (hlen : codes.length ≤ 1000) (hres : lineGo codes 0 [] [] = some (rows, laid))
    (h : ∀ h' tk tup r vs ld lv, Sub hp h' → h'.IsTuple tup #[.ref r, .ref ld] → h'.PlainList r vs.toArray → RowsAt h' (fun _ => True) vs rows → h'.PlainList ld lv.toArray → IntsAre lv laid → Q (.ref tup) ⟨h', gn, dr, tk, os⟩) :
    wpAny (model prog w) A (call (.ref a) [.ref c]) Q E ⟨hp, gn, dr, tk₀, os⟩ := by
  have e24 : sizeLine = 16777216 := by decide
  obtain ⟨aq, eaq, faq⟩ := B.fn (12, "quotedata") (by decide)
  obtain ⟨at_, eat, fat⟩ := B.fn (14, "_law_told") (by decide)
  have hcl : cv.length = codes.length := by rw [hci.length]; simp [nats]
  refine R.fn1 (x := Str.ofString "codes") f B (by omega) (fun _ _ _ => rfl) rfl (fun L cd h₁ tk₁ F => ?_)
  have hroom' : (A.deeper (envOf (nm 15) (sc 15) L a cd)).depth + 1 < recursionLimit := by show A.depth + 1 + 1 < _; omega
  have hh' : (A.deeper (envOf (nm 15) (sc 15) L a cd)).handled = none := hh
  refine wpAny_execs_cons ?_
  refine wpAny_Assign_Name ?_
  refine R.dispL ?_
  refine wpAny_items_nil ?_
  refine ⟨_, _, rfl, Nat.zero_le _, fun r0 h₂ k₂ hr0 nr0 => ?_⟩
  have F2 := F.keeps k₂
  have hLr0 : L ≠ r0 := ns_ne F.ns nr0
  refine R.st F2 (fun h₃ tk₃ F3 hs3 => ?_)
  have hr3 := hr0.extBut hs3.extBut hLr0.symm
  refine wpAny_execs_cons ?_
  refine wpAny_Assign_Name ?_
  refine R.dispL ?_
  refine wpAny_items_nil ?_
  refine ⟨_, _, rfl, Nat.zero_le _, fun ld h₄ k₄ hld nld => ?_⟩
  have F4 := F3.keeps k₄
  have hLld : L ≠ ld := ns_ne F3.ns nld
  have old : hp.get? ld = none := sub_none F3.keep nld
  have hr4 := plain_keeps hr3 k₄
  have hr0ld : r0 ≠ ld := by obtain ⟨_, ho⟩ := hr3; exact some_ne ho nld
  refine R.st F4 (fun h₅ tk₅ F5 hs5 => ?_)
  have hr5 := hr4.extBut hs5.extBut hLr0.symm
  have hld5 := hld.extBut hs5.extBut hLld.symm
  -- the loop over the rows
  refine execs_cut (fun s' => ∃ h' tk m r vs lv, s' = ⟨h', gn, dr, tk, os⟩ ∧ FX hp L h' m ∧ m (Str.ofString "rows") = some (.ref r) ∧ m (Str.ofString "laid") = some (.ref ld) ∧
      h'.PlainList r (vs : List Value).toArray ∧ RowsAt h' (fun _ => True) vs rows ∧ h'.PlainList ld (lv : List Value).toArray ∧ IntsAre lv laid) ?_ ?_
  · refine R.forRangeX (h₀ := hp) (n := codes.length) (fun it i h' m => m (Str.ofString "codes") = some (.ref c) ∧ m (Str.ofString "laid") = some (.ref ld) ∧ ld ≠ it ∧ ∃ r vs lv rws ld0, m (Str.ofString "rows") = some (.ref r) ∧
        h'.PlainList r (vs : List Value).toArray ∧ r ∉ [L, it, ld] ∧ RowsAt h' (fun a => a ∉ [L, it, ld]) vs rws ∧ h'.PlainList ld (lv : List Value).toArray ∧ IntsAre lv ld0 ∧ ld0.length = i ∧ lineGo (codes.drop i) i rws ld0 = some (rows, laid))
      hh' (by omega) rfl rfl (by intro _; rfl) ?_ ?_ ?_ ?_ ?_
    · refine callT1 (T := "range") ?_
      refine bl (B.keeps F5.keep) (B.free "range" (by decide)) PyProof.Rows.Boot.«range» ?_
      refine ⟨rfl, ?_⟩
      refine callB1 (id := "len") ?_
      refine bl (B.keeps F5.keep) (B.free "len" (by decide)) PyProof.Rows.Boot.«len» ?_
      refine ⟨rfl, ?_⟩
      refine Mine.ld F5 rfl ?_
      refine R.len (isList_keeps hc F5.keep) (by omega) (fun tl tk₆ => ?_)
      rw [hcl]
      refine R.range (n := codes.length) (fun rr t u v h₆ tk₇ k₆ hrr _ => ?_)
      refine ⟨_, _, _, _, _, _, _, rfl, rfl, hrr, F5.keeps k₆, ?_⟩
      intro it nit h₇ k₇
      have up : Sub h₅ h₇ := k₆.trans k₇
      have nit5 : h₅.get? it = none := sub_none k₆ nit
      have q1 : ld ≠ it := by obtain ⟨_, ho⟩ := hld5; exact some_ne ho nit5
      have q2 : r0 ≠ it := by obtain ⟨_, ho⟩ := hr5; exact some_ne ho nit5
      refine ⟨rfl, rfl, q1, r0, [], [], [], [], rfl, plain_keeps hr5 up, ?_, .nil, plain_keeps hld5 up, .nil, rfl, hres⟩
      simp [hLr0.symm, q2, hr0ld]
    · rintro it i g g' m ⟨e1, e2, q1, r, vs, lv, rws, ld0, e3, hr, hrX, hrows, hl, hi, hll, hgo⟩ hx
      refine ⟨e1, e2, q1, r, vs, lv, rws, ld0, e3, hr.extBut hx (fun e => hrX (mem1 e)), hrX, hrows.keeps (fun b o hb e => hx b o (fun e' => hb (mem1 e')) e), hl.extBut hx q1, hi, hll, hgo⟩
    · rintro it i g m tk ti hi hitL oit ⟨oI, hoI⟩ ⟨e1, e2, q1, r, vs, lv, rws, ld0, e3, hr, hrX, hrows, hl, hii, hll, hgo⟩ Fi
      obtain ⟨ci, hcodei, hdrop⟩ := drop_get hi
      rw [hdrop] at hgo
      obtain ⟨rows1, er1, hl1, hi100, hb, rows', htold, hgo'⟩ := lineGo_inv hgo
      -- the turn's ground
      have kT : Sub hp (W.hideAll (g.hide L) [ld]) := sub_hideX Fi.keep F.off (fun a ha => by rw [List.mem_singleton.mp ha]; exact old)
      have T1 : FX (W.hideAll (g.hide L) [ld]) L g _ := Fi.rebaseX [ld]
      have oldT : (W.hideAll (g.hide L) [ld]).get? ld = none := W.hideAll_none _ (by simp)
      have hrT : (W.hideAll (g.hide L) [ld]).PlainList r vs.toArray := hr.at fun o e => hideX_get e (fun e => hrX (mem0 e)) (fun e => hrX (mem2 (List.mem_singleton.mp e)))
      have hrowsT := hrows.keeps (h' := W.hideAll (g.hide L) [ld]) (fun b o hb e => hideX_get e (fun e => hb (mem0 e)) (fun e => hb (mem2 (List.mem_singleton.mp e))))
      have hitT : ∀ o, g.get? it = some o → (W.hideAll (g.hide L) [ld]).get? it = some o := fun o e => hideX_get e hitL (fun e => q1 (List.mem_singleton.mp e).symm)
      generalize W.hideAll (g.hide L) [ld] = hT at kT T1 oldT hrT hrowsT hitT
      obtain ⟨tc, htc⟩ := hci.get i (ci : Int) (by simp [nats, hcodei])
      refine wpAny_execs_cons ?_
      refine wpAny_Assign_Name ?_
      refine wpAny_BinOp ?_
      refine Mine.ld T1 e3 ?_
      refine R.dispL ?_
      refine wpAny_items_cons ?_
      refine R.dispT ?_
      refine wpAny_items_cons ?_
      refine subL ?_ (by intros; rfl)
      refine Mine.ld T1 e1 ?_
      refine Mine.ld T1 rfl ?_
      refine ⟨c, cv, i, ti, _, rfl, rfl, isList_keeps hc (kT.trans T1.keep), by omega, htc, ?_⟩
      refine wpAny_items_cons ?_
      refine wpAny_BinOp ?_
      refine wpAny_BinOp ?_
      refine R.cI (fun _ _ => ?_)
      refine wpAny_BinOp ?_
      refine R.cI (fun _ _ => ?_)
      refine Mine.ld T1 rfl ?_
      refine R.add (fun _ _ => ?_)
      refine R.mul (intMul64 _) (fun _ _ => ?_)
      refine R.cI (fun _ _ => ?_)
      refine R.add (fun tt _ => ?_)
      refine wpAny_items_nil ?_
      refine ⟨_, _, rfl, by show 2 ≤ 1000000; omega, fun tu g₁ k₁ htu ntu => ?_⟩
      refine wpAny_items_nil ?_
      refine ⟨_, _, rfl, by show 1 ≤ 1000000; omega, fun d₁ g₂ k₂' hd₁ _ => ?_⟩
      have hvl : vs.length = rws.length := hrows.length
      have hrl : rws.length ≤ 1000 := by
        have := congrArg List.length er1
        simp at this; omega
      refine R.addL (vs := vs) (ws := [.ref tu]) (plain_keeps hrT (T1.keep.trans (k₁.trans k₂'))).isList hd₁.isList (by show vs.length + 1 ≤ _; omega) (fun r1 g₃ k₃ hr1 nr1 => ?_)
      have kk : Sub g g₃ := (k₁.trans k₂').trans k₃
      have T3 := T1.keeps kk
      have hl3 := plain_keeps hl kk
      have htu' : g₁.IsTuple tu #[.int (ci : Int) tc, .int ((64 * (4 + i) + 13 : Nat) : Int) tt] := tuple_int htu (show (64 * (4 + Int.ofNat i) + 13 : Int) = _ by show (64 * (4 + (i : Int)) + 13 : Int) = _; omega)
      have hLtu : tu ≠ L := (ns_ne T1.ns ntu).symm
      have hldtu : tu ≠ ld := by obtain ⟨_, ho⟩ := hl; exact (some_ne ho ntu).symm
      have hLr1 : r1 ≠ L := (ns_ne (T1.keeps (k₁.trans k₂')).ns nr1).symm
      have hldr1 : r1 ≠ ld := by obtain ⟨_, ho⟩ := plain_keeps hl (k₁.trans k₂'); exact (some_ne ho nr1).symm
      have hrows1 : RowsAt g₃ (fun a => a ≠ L ∧ a ≠ ld) (vs ++ [Value.ref tu]) rows1 := by
        rw [er1]
        refine RowsAt.snoc (t := tc) (u := tt) ((hrows.keeps (fun b o _ e => kk b o e)).mono (fun a _ _ q => ⟨fun e => q (mem0 e), fun e => q (mem2 e)⟩)) ⟨hLtu, hldtu⟩ ?_
        obtain ⟨o, ho, qq⟩ := htu'
        exact ⟨o, (k₂'.trans k₃) _ _ ho, qq⟩
      refine R.st T3 (fun g₄ tk₄ T4 gs4 => ?_)
      have hl4 := hl3.extBut gs4.extBut hLld.symm
      -- the second ground: the new rows in it
      have U1 : FX (W.hideAll (g₄.hide L) [ld]) L g₄ _ := T4.rebaseX [ld]
      have kU : Sub hT (W.hideAll (g₄.hide L) [ld]) := sub_hideX T4.keep T4.off (fun a ha => by rw [List.mem_singleton.mp ha]; exact oldT)
      have oldU : (W.hideAll (g₄.hide L) [ld]).get? ld = none := W.hideAll_none _ (by simp)
      have hr1U : (W.hideAll (g₄.hide L) [ld]).PlainList r1 (vs ++ [Value.ref tu]).toArray := (hr1.extBut gs4.extBut hLr1).at fun o e => hideX_get e hLr1 (fun e => hldr1 (List.mem_singleton.mp e))
      have hrows1U := (hrows1.keeps (fun b o hb e => gs4.extBut b o hb.1 e)).keeps (h' := W.hideAll (g₄.hide L) [ld]) (fun b o hb e => hideX_get e hb.1 (fun e => hb.2 (List.mem_singleton.mp e)))
      generalize W.hideAll (g₄.hide L) [ld] = hU at U1 kU oldU hr1U hrows1U
      refine wpAny_execs_cons ?_
      refine wpAny_Assign_Name ?_
      refine R.cS (fun _ _ => ?_)
      refine R.st U1 (fun g₅ tk₅' U5 gs5 => ?_)
      have hl5 := hl4.extBut gs5.extBut hLld.symm
      -- the mail
      refine execs_cut (fun s' => ∃ h' tk m x t, s' = ⟨h', gn, dr, tk, os⟩ ∧ FX hU L h' m ∧ m (Str.ofString "codes") = some (.ref c) ∧ m (Str.ofString "laid") = some (.ref ld) ∧ h'.PlainList ld lv.toArray ∧
          m (Str.ofString "mail") = some (.str x t) ∧ x.cps.toList = mailGo i ci 0 rows1) ?_ ?_
      · refine R.forRangeX (h₀ := hU) (n := i + 1) (fun it2 j h' m' => m' (Str.ofString "codes") = some (.ref c) ∧ m' (Str.ofString "laid") = some (.ref ld) ∧ m' (Str.ofString "rows") = some (.ref r1) ∧ m' (Str.ofString "i") = some (.int (Int.ofNat i) ti) ∧ ld ≠ it2 ∧ h'.PlainList ld lv.toArray ∧
            ∃ x t, m' (Str.ofString "mail") = some (.str x t) ∧ x.cps.toList = mailGo i ci 0 (rows1.take j))
          hh' (by omega) rfl rfl (by intro _; rfl) ?_ ?_ ?_ ?_ ?_
        · refine callT1 (T := "range") ?_
          refine bl (B.keeps (kT.trans (kU.trans U5.keep))) (B.free "range" (by decide)) PyProof.Rows.Boot.«range» ?_
          refine ⟨rfl, ?_⟩
          refine wpAny_BinOp ?_
          refine Mine.ld U5 rfl ?_
          refine R.cI (fun _ _ => ?_)
          refine R.add (fun _ _ => ?_)
          refine R.range (n := i + 1) (fun rr t u v h₆ tk₇ k₆ hrr _ => ?_)
          refine ⟨_, _, _, _, _, _, _, rfl, rfl, hrr, U5.keeps k₆, ?_⟩
          intro it2 nit h₇ k₇
          have q2 : ld ≠ it2 := by obtain ⟨_, ho⟩ := hl5; exact some_ne ho (sub_none k₆ nit)
          exact ⟨e1, e2, rfl, rfl, q2, plain_keeps hl5 (k₆.trans k₇), _, _, rfl, rfl⟩
        · rintro it2 j h' h'' m' ⟨f1, f2, f3, f4, f5, f6, x, t, f7, f8⟩ hx
          exact ⟨f1, f2, f3, f4, f5, f6.extBut hx f5, x, t, f7, f8⟩
        · rintro it2 j g₆ m' tk₆ tj hj hit2L oit2 _ ⟨f1, f2, f3, f4, f5, f6, x, t, f7, f8⟩ V1
          obtain ⟨dn, hdn⟩ : ∃ dn, rows1[j]? = some dn := ⟨rows1[j], by simp [hl1, hj]⟩
          obtain ⟨dd, nn⟩ := dn
          obtain ⟨hd100, hn60⟩ := hb (dd, nn) (List.mem_of_getElem? hdn)
          obtain ⟨ta, t1, t2, hta, hta2⟩ := hrows1U.get hdn
          have hxl : x.cps.size ≤ 105 * j := by
            have h1 := mailGo_len (i := i) (c := ci) 0 (rows1.take j) (fun r hr => (hb r (List.mem_of_mem_take hr)).1)
            have h2 : x.cps.size = (mailGo i ci 0 (rows1.take j)).length := by rw [← f8]; simp
            have h3 : (rows1.take j).length ≤ j := by simp; omega
            have h4 : 105 * (rows1.take j).length ≤ 105 * j := Nat.mul_le_mul_left _ h3
            omega
          refine wpAny_execs_cons ?_
          refine Assign_Tuple ?_
          refine subL ?_ (by intros; rfl)
          refine Mine.ld V1 f3 ?_
          refine Mine.ld V1 rfl ?_
          refine ⟨r1, _, j, tj, _, rfl, rfl, (plain_keeps hr1U V1.keep).isList, by omega, hta, ?_⟩
          refine R.assign2 hh' (tuple_keeps hta2 V1.keep) (fun g₇ k₇ => ?_)
          have V7 := V1.keeps k₇
          have hl7 := plain_keeps f6 k₇
          refine R.st V7 (fun g₈ tk₈ V8 gs8 => ?_)
          have hl8 := hl7.extBut gs8.extBut hLld.symm
          refine R.st V8 (fun g₉ tk₉ V9 gs9 => ?_)
          have hl9 := hl8.extBut gs9.extBut hLld.symm
          -- the shield
          refine execs_cut (fun s' => ∃ h' tk m y u, s' = ⟨h', gn, dr, tk, os⟩ ∧ FX hU L h' m ∧ h'.PlainList ld lv.toArray ∧ (∀ o, g₉.get? it2 = some o → h'.get? it2 = some o) ∧ m (Str.ofString "codes") = some (.ref c) ∧ m (Str.ofString "laid") = some (.ref ld) ∧ m (Str.ofString "rows") = some (.ref r1) ∧ m (Str.ofString "i") = some (.int (Int.ofNat i) ti) ∧
              m (Str.ofString "j") = some (.int (Int.ofNat j) tj) ∧ m (Str.ofString "dots") = some (.int (dd : Int) t1) ∧ m (Str.ofString "name") = some (.int (nn : Int) t2) ∧ m (Str.ofString "mail") = some (.str x t) ∧ m (Str.ofString "shield") = some (.str y u) ∧ y.cps.toList = shield i ci j dd) ?_ ?_
          · refine wpAny_Assign_Name ?_
            refine wpAny_IfExp ?_
            refine wpAny_isTrue_BoolOp ?_
            refine wpAny_allTrue_Or_cons ?_
            refine wpAny_isTrue_Compare1 ?_
            refine Mine.ld V9 rfl ?_
            refine Mine.ld V9 f4 ?_
            refine PyProof.Rows.eq_int ?_
            refine wpAny_truthy_bool ?_
            by_cases hji : j = i
            · have eb : ((Int.ofNat j == Int.ofNat i) : Bool) = true := by rw [hji]; simp
              rw [eb, if_pos rfl, if_pos rfl]
              refine R.cS (fun _ _ => ?_)
              refine R.st V9 (fun q tkq V10 qs => ?_)
              refine ⟨rfl, q, _, _, _, _, rfl, V10, hl9.extBut qs.extBut hLld.symm, fun o e => qs.extBut _ _ hit2L e, f1, f2, f3, f4, rfl, rfl, rfl, f7, rfl, ?_⟩
              rw [hji]; simp [shield]; decide +kernel
            · have eb : ((Int.ofNat j == Int.ofNat i) : Bool) = false := by
                have : ¬ (Int.ofNat j = Int.ofNat i) := by intro e; exact hji (Int.ofNat.inj e)
                simpa using this
              rw [eb, if_neg Bool.false_ne_true]
              refine wpAny_allTrue_Or_cons ?_
              refine wpAny_isTrue_Compare1 ?_
              refine Mine.ld V9 rfl ?_
              refine subL ?_ (by intros; rfl)
              refine Mine.ld V9 f1 ?_
              refine Mine.ld V9 f4 ?_
              refine ⟨c, cv, i, ti, _, rfl, rfl, isList_keeps hc (kT.trans (kU.trans V9.keep)), by omega, htc, ?_⟩
              refine PyProof.Rows.lt_int ?_
              refine wpAny_truthy_bool ?_
              by_cases hdc : dd < ci
              · rw [decide_eq_true (show ((dd : Nat) : Int) < (ci : Int) by omega), if_pos rfl, if_pos rfl]
                refine R.cS (fun _ _ => ?_)
                refine R.st V9 (fun q tkq V10 qs => ?_)
                refine ⟨rfl, q, _, _, _, _, rfl, V10, hl9.extBut qs.extBut hLld.symm, fun o e => qs.extBut _ _ hit2L e, f1, f2, f3, f4, rfl, rfl, rfl, f7, rfl, ?_⟩
                simp [shield, hdc]; decide +kernel
              · rw [decide_eq_false (show ¬ ((dd : Nat) : Int) < (ci : Int) by omega), if_neg Bool.false_ne_true]
                refine wpAny_allTrue_Or_nil ?_
                rw [if_neg Bool.false_ne_true]
                refine R.cS (fun _ _ => ?_)
                refine R.st V9 (fun q tkq V10 qs => ?_)
                refine ⟨rfl, q, _, _, _, _, rfl, V10, hl9.extBut qs.extBut hLld.symm, fun o e => qs.extBut _ _ hit2L e, f1, f2, f3, f4, rfl, rfl, rfl, f7, rfl, ?_⟩
                simp [shield, hdc, hji]; decide +kernel
          · rintro s' ⟨p, tkp, mp, y, u, rfl, X1, hlp, hitp, p1, p2, p3, p4, p5, p6, p7, p8, p9, hy⟩
            refine wpAny_execs_cons ?_
            refine wpAny_Assign_Name ?_
            refine wpAny_BinOp ?_
            refine wpAny_BinOp ?_
            refine wpAny_BinOp ?_
            refine wpAny_BinOp ?_
            refine Mine.ld X1 p8 ?_
            refine Mine.ld X1 p9 ?_
            have hyl : y.cps.size ≤ 1 := by
              have : y.cps.size = (shield i ci j dd).length := by rw [← hy]; simp
              rw [this]; unfold shield; split <;> simp
            refine R.addS (by omega) (fun _ _ => ?_)
            refine wpAny_BinOp ?_
            refine R.cS (fun _ _ => ?_)
            refine Mine.ld X1 p6 ?_
            refine R.mulS (by omega) (fun z _ _ hz => ?_)
            have hzl : z.cps.size = dd := by
              have : z.cps.toList.length = dd := by rw [hz]; simp
              simpa using this
            refine R.addS (by rw [Str.cps_append, Array.size_append]; omega) (fun _ _ => ?_)
            refine callB1 (id := "chr") ?_
            refine bl (B.keeps (kT.trans (kU.trans X1.keep))) (B.free "chr" (by decide)) PyProof.Rows.Boot.«chr» ?_
            refine ⟨rfl, ?_⟩
            refine wpAny_BinOp ?_
            refine R.cI (fun _ _ => ?_)
            refine wpAny_BinOp ?_
            refine Mine.ld X1 p7 ?_
            refine R.cI (fun _ _ => ?_)
            refine R.fdiv (by decide) (by decide) (fun _ _ => ?_)
            refine R.add (fun _ _ => ?_)
            refine R.chr (n := 64 + nn / 64) (fdiv64 nn) (by omega) (fun _ _ => ?_)
            refine R.addS (by rw [Str.cps_append, Str.cps_append, Array.size_append, Array.size_append]; show _ + 1 ≤ _; omega) (fun _ _ => ?_)
            refine subL ?_ (by intros; rfl)
            refine R.dispL ?_
            refine wpAny_items_cons ?_
            refine R.cS (fun u1 _ => ?_)
            refine wpAny_items_cons ?_
            refine R.cS (fun u2 _ => ?_)
            refine wpAny_items_cons ?_
            refine R.cS (fun u3 _ => ?_)
            refine wpAny_items_nil ?_
            refine ⟨_, _, rfl, by show 3 ≤ 1000000; omega, fun ml p₂ kp₂ hml _ => ?_⟩
            have X2 := X1.keeps kp₂
            refine wpAny_BinOp ?_
            refine wpAny_BinOp ?_
            refine Mine.ld X2 p4 ?_
            refine Mine.ld X2 p5 ?_
            refine R.add (fun _ _ => ?_)
            refine R.cI (fun _ _ => ?_)
            refine R.mod (by decide) (fun um _ => ?_)
            obtain ⟨y3, u3', hy3, hy3t, hy3l⟩ := pick3 (i + j) u1 u2 u3
            refine ⟨ml, _, (i + j) % 3, um, .str y3 u3', rfl, by rw [fmod3 i j], hml.isList, by omega, hy3, ?_⟩
            refine R.addS (by rw [Str.cps_append, Str.cps_append, Str.cps_append, Array.size_append, Array.size_append, Array.size_append]; show _ + 1 + _ ≤ _; omega) (fun _ _ => ?_)
            refine R.st X2 (fun p₃ tkp₃ X3 ps₃ => ?_)
            refine wpAny_execs_nil ?_
            refine ⟨rfl, p₃, _, _, rfl, X3, ⟨p1, p2, p3, p4, f5, (plain_keeps hlp kp₂).extBut ps₃.extBut hLld.symm, _, _, rfl, ?_⟩, fun o e => ps₃.extBut _ _ hit2L (kp₂ _ _ (hitp _ (gs9.extBut _ _ hit2L (gs8.extBut _ _ hit2L (k₇ _ _ e)))))⟩
            rw [mailGo_take hdn, Str.cps_append, Str.cps_append, Str.cps_append, Str.cps_append]
            simp only [Array.toList_append, f8, hy, hz, hy3t, rowTxt, List.append_assoc]
            rfl
        · rintro it2 j h' h'' m' ⟨f1, f2, f3, f4, f5, f6, x, t, f7, f8⟩ hx
          exact ⟨f1, f2, f3, f4, f5, f6.extBut hx.extBut hLld.symm, x, t, f7, f8⟩
        · rintro it2 h' tk' m' ⟨f1, f2, f3, f4, f5, f6, x, t, f7, f8⟩ F'
          rw [List.take_of_length_le (by omega)] at f8
          exact ⟨rfl, h', tk', m', x, t, rfl, F', f1, f2, f6, f7, f8⟩
      · rintro s' ⟨p, tkp, mp, x, t, rfl, X1, p1, p2, hlp, p3, hx⟩
        have ks : Sub hp p := kT.trans (kU.trans X1.keep)
        have hxl : x.cps.size ≤ 20000 := by
          have h1 := mailGo_len (i := i) (c := ci) 0 rows1 (fun r hr => (hb r hr).1)
          have h2 : x.cps.size = (mailGo i ci 0 rows1).length := by rw [← hx]; simp
          have h3 : 105 * rows1.length ≤ 105 * 101 := Nat.mul_le_mul_left _ (by omega)
          omega
        refine wpAny_execs_cons ?_
        refine wpAny_Assign_Name ?_
        refine callF1 (a := aq) (n := 12) ?_
        refine gl (B.keeps ks) eaq ?_
        refine ⟨rfl, ?_⟩
        refine Mine.ld X1 p3 ?_
        refine ⟨faq.keeps ks, ?_⟩
        refine R.quoted_call (faq.keeps ks) (B.keeps ks) (P.keeps ks) (by omega) (by omega) (fun p₂ tk₂ t₂ kp₂ => ?_)
        have X2 := X1.keeps kp₂
        have hl2 := plain_keeps hlp kp₂
        refine R.st X2 (fun p₃ tk₃ X3 ps3 => ?_)
        have hl3' := hl2.extBut ps3.extBut hLld.symm
        refine wpAny_execs_cons ?_
        refine wpAny_Expr ?_
        refine callM1 PySem.F.plainAttrs_list PySem.F.slot_list_append PySem.F.type_list_append ?_
        refine Mine.ld X3 p2 ?_
        refine ⟨(Heap.IsList.typeIs (s := ⟨p₃, gn, dr, tk₃, os⟩) hl3'.isList), plain_noDict hl3', ?_⟩
        refine wpAny_BinOp ?_
        refine callM1 PySem.F.plainAttrs_str PySem.F.slot_str_count PySem.F.type_str_count ?_
        refine Mine.ld X3 rfl ?_
        refine ⟨typeIs_str _ _ _, (fun _ e => nomatch e), ?_⟩
        refine R.cS (fun _ _ => ?_)
        refine R.count (fun _ _ => ?_)
        refine callM1 PySem.F.plainAttrs_str PySem.F.slot_str_count PySem.F.type_str_count ?_
        refine Mine.ld X3 p3 ?_
        refine ⟨typeIs_str _ _ _, (fun _ e => nomatch e), ?_⟩
        refine R.cS (fun _ _ => ?_)
        refine R.count (fun _ _ => ?_)
        refine R.sub (fun tl _ => ?_)
        refine R.appendL hl3' (by rw [hii.length]; omega) (fun p₄ hl4' ps4 => ?_)
        have X4 := X3.ext ps4.extBut hLld oldU
        refine wpAny_execs_cons ?_
        refine wpAny_Assign_Name ?_
        have ks4 : Sub hp p₄ := kT.trans (kU.trans X4.keep)
        refine callF1 (a := at_) (n := 14) ?_
        refine gl (B.keeps ks4) eat ?_
        refine ⟨rfl, ?_⟩
        refine Mine.ld X4 rfl ?_
        refine ⟨fat.keeps ks4, ?_⟩
        have hql := quoted_len (mailGo i ci 0 rows1)
        have hml : (mailGo i ci 0 rows1).length = x.cps.size := by rw [← hx]; simp
        refine R.told_call (fat.keeps ks4) (B.keeps ks4) hroom' hh' (by show (quoted x.cps.toList).toArray.size ≤ _; rw [hx, List.size_toArray]; omega) (by rw [hx]; exact htold) (fun p₅ tk₅'' r' vs' kp₅ hr' nr' hrows' => ?_)
        have X5 := X4.keeps kp₅
        have hl5'' := plain_keeps hl4' kp₅
        refine R.st X5 (fun p₆ tk₆ X6 ps6 => ?_)
        have hLr' : r' ≠ L := (ns_ne X4.ns nr').symm
        have hI4 : p₄.get? it = some oI := X4.keep _ _ (kU _ _ (hitT _ hoI))
        have hoff : ∀ b, p₄.get? b = none → b ∉ [L, it, ld] := fun b hb hm => by
          rcases List.mem_cons.mp hm with e | hm
          · exact ns_ne X4.ns hb e.symm
          · rcases List.mem_cons.mp hm with e | hm
            · exact some_ne hI4 hb e.symm
            · obtain ⟨_, ho⟩ := hl4'
              exact some_ne ho hb (List.mem_singleton.mp hm).symm
        refine wpAny_execs_nil ?_
        refine ⟨rfl, p₆, _, _, rfl, X6.weaken (kT.trans kU), ⟨p1, p2, q1, r', vs', lv ++ [.int _ tl], rows', ld0 ++ [_], rfl, hr'.extBut ps6.extBut hLr', hoff _ nr', ?_, hl5''.extBut ps6.extBut hLld.symm,
          intsAre_append hii (.cons _ tl .nil), by simp [hll], ?_⟩, fun o e => X6.keep _ _ (kU _ _ (hitT _ e))⟩
        · exact ((hrows'.mono (fun b _ _ q => hoff b q)).keeps (fun b o hb e => ps6.extBut b o (fun e' => hb (mem0 e')) e))
        · rw [← hgo', hx]
    · rintro it i g g' m ⟨e1, e2, q1, r, vs, lv, rws, ld0, e3, hr, hrX, hrows, hl, hi, hll, hgo⟩ hx
      refine ⟨e1, e2, q1, r, vs, lv, rws, ld0, e3, hr.extBut hx.extBut (fun e => hrX (mem0 e)), hrX, hrows.keeps (fun b o hb e => hx.extBut b o (fun e' => hb (mem0 e')) e), hl.extBut hx.extBut hLld.symm, hi, hll, hgo⟩
    · rintro it g tk m ⟨e1, e2, q1, r, vs, lv, rws, ld0, e3, hr, hrX, hrows, hl, hi, hll, hgo⟩ F'
      rw [List.drop_length] at hgo
      cases hgo
      exact ⟨rfl, g, tk, m, r, vs, lv, rfl, F', e3, e2, hr, hrows.mono (fun _ _ _ _ => trivial), hl, hi⟩
  · rintro s' ⟨h', tk, m, r, vs, lv, rfl, F', e1, e2, hr, hrows, hl, hi⟩
    refine wpAny_execs_cons ?_
    refine wpAny_Return_some ?_
    refine R.dispT ?_
    refine wpAny_items_cons ?_
    refine Mine.ld F' e1 ?_
    refine wpAny_items_cons ?_
    refine Mine.ld F' e2 ?_
    refine wpAny_items_nil ?_
    refine ⟨_, _, rfl, by show 2 ≤ 1000000; omega, fun tu q k₁ htu ntu => ?_⟩
    exact h q _ tu r vs ld lv (F'.keep.trans k₁) htu (plain_keeps hr k₁) (hrows.keeps fun b o _ e => k₁ b o e) (plain_keeps hl k₁) hi
end
end Mine
end

section
open PySem PySem.Builtin PySem.Calls PyProof.Rows
set_option maxRecDepth 100000
namespace Mine
def ringW (line : List Nat) : Nat → Nat → List Nat → Option (List Nat)
  | 0, _, _ => none
  | k + 1, a, seen => if seen.contains a then some seen else
    match line[a]? with
    | none => none
    | some v => if v == 0 then none else ringW line k (v - 1) (seen ++ [a])
def ringsGo (line : List Nat) : Nat → Nat → List Nat → Nat → Option Nat
  | 0, _, _, rings => some rings
  | k + 1, i, seen, rings =>
    match ringW line (line.length + 2) i seen with
    | none => none
    | some seen' => ringsGo line k (i + 1) seen' (if seen.contains i then rings else rings + 1)
def ringsOf (line : List Nat) : Option Nat := ringsGo line line.length 0 [] 0

theorem ringW_inv {line : List Nat} {k a : Nat} {seen res : List Nat} (h : ringW line k a seen = some res) :
    ∃ k', k = k' + 1 ∧ ((seen.contains a = true ∧ seen = res) ∨ (seen.contains a = false ∧ ∃ v, line[a]? = some (v + 1) ∧ ringW line k' v (seen ++ [a]) = some res)) := by
  cases k with
  | zero => cases h
  | succ k =>
    refine ⟨k, rfl, ?_⟩
    unfold ringW at h
    cases hc : seen.contains a with
    | true => rw [hc, if_pos rfl] at h; exact .inl ⟨rfl, Option.some.inj h⟩
    | false =>
      rw [hc, if_neg Bool.false_ne_true] at h
      refine .inr ⟨rfl, ?_⟩
      cases hv : line[a]? with
      | none => rw [hv] at h; cases h
      | some v =>
        rw [hv] at h
        dsimp only at h
        cases v with
        | zero => cases h
        | succ v => exact ⟨v, rfl, h⟩
theorem ringsGo_inv {line : List Nat} {k i : Nat} {seen : List Nat} {rings res : Nat} (h : ringsGo line (k + 1) i seen rings = some res) :
    ∃ seen', ringW line (line.length + 2) i seen = some seen' ∧ ringsGo line k (i + 1) seen' (if seen.contains i then rings else rings + 1) = some res := by
  unfold ringsGo at h
  cases hv : ringW line (line.length + 2) i seen with
  | none => rw [hv] at h; cases h
  | some s' => rw [hv] at h; exact ⟨s', rfl, h⟩
theorem any_nats (l : List Nat) (a : Nat) : (nats l).any (· == Int.ofNat a) = l.contains a := by
  induction l with
  | nil => rfl
  | cons b l ih =>
    show ((Int.ofNat b == Int.ofNat a) || (nats l).any (· == Int.ofNat a)) = _
    rw [ih, List.contains_cons]
    congr 1
    by_cases h : a = b
    · subst h; simp
    · have : ¬ (Int.ofNat b = Int.ofNat a) := fun e => h (Int.ofNat.inj e).symm
      rw [beq_eq_false_iff_ne.mpr this, beq_eq_false_iff_ne.mpr h]

section
variable {prog : Program} {w : World} {A : Around} {E : Value → Shared → Prop} {mg mb : Str → Option Value} {hp : Heap} {gn : Array GenState} {dr : Drawn} {tk₀ : Nat} {os : OsState}
set_option maxHeartbeats 2000000 in
theorem rings_call {a l : Addr} {vl : List Value} {line : List Nat} {res : Nat} {Q : Value → Shared → Prop} (f : IsFn hp a 17) (B : Bs hp mg mb) (hroom : A.depth < recursionLimit) (hh : A.handled = none)
    (hl : hp.IsList l vl.toArray) (hli : IntsAre vl (nats line)) (hlen : line.length ≤ 100) (hres : ringsOf line = some res)
    (h : ∀ h' tk t, Sub hp h' → Q (.int (Int.ofNat res) t) ⟨h', gn, dr, tk, os⟩) :
    wpAny (model prog w) A (call (.ref a) [.ref l]) Q E ⟨hp, gn, dr, tk₀, os⟩ := by
  have hll : vl.length = line.length := by rw [hli.length]; simp [nats]
  refine R.fn1 (x := Str.ofString "line") f B hroom (fun _ _ _ => rfl) rfl (fun L cd h₁ tk₁ F => ?_)
  have hh' : (A.deeper (envOf (nm 17) (sc 17) L a cd)).handled = none := hh
  refine wpAny_execs_cons ?_
  refine wpAny_Assign_Name ?_
  refine R.dispL ?_
  refine wpAny_items_nil ?_
  refine ⟨_, _, rfl, Nat.zero_le _, fun sn h₂ k₂ hsn nsn => ?_⟩
  have F2 := F.keeps k₂
  have hLsn : L ≠ sn := ns_ne F.ns nsn
  have osn : hp.get? sn = none := sub_none F.keep nsn
  refine R.st F2 (fun h₃ tk₃ F3 hs3 => ?_)
  have hsn3 := hsn.extBut hs3.extBut hLsn.symm
  refine wpAny_execs_cons ?_
  refine wpAny_Assign_Name ?_
  refine R.cI (fun tr _ => ?_)
  refine R.st F3 (fun h₄ tk₄ F4 hs4 => ?_)
  have hsn4 := hsn3.extBut hs4.extBut hLsn.symm
  refine execs_cut (fun s' => ∃ h' tk m t, s' = ⟨h', gn, dr, tk, os⟩ ∧ FX hp L h' m ∧ m (Str.ofString "rings") = some (.int (Int.ofNat res) t)) ?_ ?_
  · refine R.forRangeX (h₀ := hp) (n := line.length) (fun it i h' m => m (Str.ofString "line") = some (.ref l) ∧ m (Str.ofString "seen") = some (.ref sn) ∧ sn ≠ it ∧ ∃ sv seen rings t, h'.PlainList sn (sv : List Value).toArray ∧ IntsAre sv (nats seen) ∧ seen.length ≤ i * 2000 ∧
        m (Str.ofString "rings") = some (.int (Int.ofNat rings) t) ∧ ringsGo line (line.length - i) i seen rings = some res)
      hh' (by omega) rfl rfl (by intro _; rfl) ?_ ?_ ?_ ?_ ?_
    · refine callT1 (T := "range") ?_
      refine bl (B.keeps F4.keep) (B.free "range" (by decide)) PyProof.Rows.Boot.«range» ?_
      refine ⟨rfl, ?_⟩
      refine callB1 (id := "len") ?_
      refine bl (B.keeps F4.keep) (B.free "len" (by decide)) PyProof.Rows.Boot.«len» ?_
      refine ⟨rfl, ?_⟩
      refine Mine.ld F4 rfl ?_
      refine R.len (isList_keeps hl F4.keep) (by omega) (fun tl tk₆ => ?_)
      rw [hll]
      refine R.range (n := line.length) (fun rr t u v h₆ tk₇ k₆ hrr _ => ?_)
      refine ⟨_, _, _, _, _, _, _, rfl, rfl, hrr, F4.keeps k₆, ?_⟩
      intro it nit h₇ k₇
      have q1 : sn ≠ it := by obtain ⟨_, ho⟩ := hsn4; exact some_ne ho (sub_none k₆ nit)
      exact ⟨rfl, rfl, q1, [], [], 0, tr, plain_keeps hsn4 (k₆.trans k₇), .nil, Nat.zero_le _, rfl, hres⟩
    · rintro it i g g' m ⟨e1, e2, q1, sv, seen, rings, t, f1, f2, f3, f4, f5⟩ hx
      exact ⟨e1, e2, q1, sv, seen, rings, t, f1.extBut hx q1, f2, f3, f4, f5⟩
    · rintro it i g m tk ti hi hitL oit _ ⟨e1, e2, q1, sv, seen, rings, t, f1, f2, f3, f4, f5⟩ Fi
      have f5' : ringsGo line ((line.length - (i + 1)) + 1) i seen rings = some res := by rw [show line.length - (i + 1) + 1 = line.length - i by omega]; exact f5
      obtain ⟨seen', hw, hgo⟩ := ringsGo_inv f5'
      have kT : Sub hp (W.hideAll (g.hide L) [sn]) := sub_hideX Fi.keep F.off (fun a ha => by rw [List.mem_singleton.mp ha]; exact osn)
      have T1 : FX (W.hideAll (g.hide L) [sn]) L g _ := Fi.rebaseX [sn]
      have osT : (W.hideAll (g.hide L) [sn]).get? sn = none := W.hideAll_none _ (by simp)
      have hitT : ∀ o, g.get? it = some o → (W.hideAll (g.hide L) [sn]).get? it = some o := fun o e => hideX_get e hitL (fun e => q1 (List.mem_singleton.mp e).symm)
      generalize W.hideAll (g.hide L) [sn] = hT at kT T1 osT hitT
      refine wpAny_execs_cons ?_
      refine wpAny_Assign_Name ?_
      refine Mine.ld T1 rfl ?_
      refine R.st T1 (fun g₁ tk₁' T2 gs1 => ?_)
      have hs1 := f1.extBut gs1.extBut hLsn.symm
      refine execs_cut (fun s' => ∃ h' tk m' t', s' = ⟨h', gn, dr, tk, os⟩ ∧ FX hT L h' m' ∧ h'.PlainList sn sv.toArray ∧ m' (Str.ofString "line") = some (.ref l) ∧ m' (Str.ofString "seen") = some (.ref sn) ∧ m' (Str.ofString "at") = some (.int (Int.ofNat i) ti) ∧
          m' (Str.ofString "rings") = some (.int (Int.ofNat (if seen.contains i then rings else rings + 1)) t')) ?_ ?_
      · refine wpAny_If ?_
        refine wpAny_isTrue_Compare1 ?_
        refine Mine.ld T2 rfl ?_
        refine Mine.ld T2 e2 ?_
        refine notin_list_ints (s := ⟨g₁, gn, dr, tk₁', os⟩) hs1.isList f2 ?_
        refine wpAny_truthy_bool ?_
        rw [any_nats]
        cases hc : seen.contains i with
        | true =>
          show wpAny _ _ _ _ _ _
          exact wpAny_execs_nil ⟨rfl, g₁, _, _, _, rfl, T2, hs1, e1, e2, rfl, f4⟩
        | false =>
          show wpAny _ _ _ _ _ _
          refine wpAny_execs_cons ?_
          refine wpAny_AugAssign_Name ?_
          refine ldn T2 f4 ?_
          refine R.cI (fun _ _ => ?_)
          refine R.iadd (fun _ _ => ?_)
          refine R.st T2 (fun g₂ tk₂' T3 gs2 => ?_)
          exact wpAny_execs_nil ⟨rfl, g₂, _, _, _, rfl, T3, hs1.extBut gs2.extBut hLsn.symm, e1, e2, rfl, rfl⟩
      · rintro s' ⟨p, tkp, mp, t', rfl, X1, hsp, p1, p2, p3, p4⟩
        refine wpAny_execs_cons ?_
        refine whileX (fun n s' => ∃ h' tk m' at_ ta sv' seen1, s' = ⟨h', gn, dr, tk, os⟩ ∧ FX hT L h' m' ∧ h'.PlainList sn (sv' : List Value).toArray ∧ IntsAre sv' (nats seen1) ∧ m' (Str.ofString "line") = some (.ref l) ∧ m' (Str.ofString "seen") = some (.ref sn) ∧ m' (Str.ofString "at") = some (.int (Int.ofNat at_) ta) ∧
            m' (Str.ofString "rings") = some (.int (Int.ofNat (if seen.contains i then rings else rings + 1)) t') ∧ ringW line n at_ seen1 = some seen' ∧ seen1.length + n ≤ i * 2000 + 1002) (n := line.length + 2)
          ⟨p, tkp, mp, i, ti, sv, seen, rfl, X1, hsp, f2, p1, p2, p3, p4, hw, by omega⟩ ?_
        rintro n s' ⟨h', tk', m', at_, ta, sv', seen1, rfl, Y1, hs', hi', y1, y2, y3, y4, hw', hb'⟩
        obtain ⟨k', rfl, hcase⟩ := ringW_inv hw'
        refine wpAny_isTrue_Compare1 ?_
        refine Mine.ld Y1 y3 ?_
        refine Mine.ld Y1 y2 ?_
        refine notin_list_ints (s := ⟨h', gn, dr, tk', os⟩) hs'.isList hi' ?_
        refine wpAny_truthy_bool ?_
        rw [any_nats]
        rcases hcase with ⟨hc, hse⟩ | ⟨hc, v, hv, hw2⟩
        · rw [hc]
          show wpAny _ _ _ _ _ _
          subst hse
          exact wpAny_execs_nil ⟨rfl, h', _, _, rfl, Y1.weaken kT, ⟨y1, y2, q1, sv', seen1, _, t', hs', hi', by omega, y4, hgo⟩, fun o e => Y1.keep _ _ (hitT _ e)⟩
        · rw [hc]
          show wpAny _ _ _ _ _ _
          obtain ⟨tv, htv⟩ := hli.get at_ (Int.ofNat (v + 1)) (by simp [nats, hv])
          have hat : at_ < line.length := by
            rcases Nat.lt_or_ge at_ line.length with q | q
            · exact q
            · rw [List.getElem?_eq_none q] at hv; cases hv
          refine wpAny_execs_cons ?_
          refine wpAny_Expr ?_
          refine callM1 PySem.F.plainAttrs_list PySem.F.slot_list_append PySem.F.type_list_append ?_
          refine Mine.ld Y1 y2 ?_
          refine ⟨Heap.IsList.typeIs (s := ⟨h', gn, dr, tk', os⟩) hs'.isList, plain_noDict hs', ?_⟩
          refine Mine.ld Y1 y3 ?_
          have hsl : sv'.length = seen1.length := by rw [hi'.length]; simp [nats]
          refine R.appendL hs' (by omega) (fun q₁ hq₁ qs₁ => ?_)
          have Y2 := Y1.ext qs₁.extBut hLsn osT
          refine wpAny_execs_cons ?_
          refine wpAny_Assign_Name ?_
          refine wpAny_BinOp ?_
          refine subL ?_ (by intros; rfl)
          refine Mine.ld Y2 y1 ?_
          refine Mine.ld Y2 y3 ?_
          refine ⟨l, vl, at_, ta, _, rfl, rfl, isList_keeps hl (kT.trans Y2.keep), by omega, htv, ?_⟩
          refine R.cI (fun _ _ => ?_)
          refine R.sub (fun ts _ => ?_)
          refine R.st Y2 (fun q₂ tkq Y3 qs₂ => ?_)
          refine wpAny_execs_nil ?_
          refine ⟨k', Nat.lt_succ_self _, q₂, _, _, v, ts, sv' ++ [.int (Int.ofNat at_) ta], seen1 ++ [at_], rfl, Y3, hq₁.extBut qs₂.extBut hLsn.symm, ?_, y1, y2, ?_, y4, hw2, by simp; omega⟩
          · have := intsAre_append hi' (IntsAre.cons (Int.ofNat at_) ta .nil)
            simpa [nats] using this
          · show some (Value.int (Int.ofNat (v + 1) - 1) ts) = _
            congr 2
            show ((v + 1 : Nat) : Int) - 1 = (v : Int)
            omega
    · rintro it i g g' m ⟨e1, e2, q1, sv, seen, rings, t, f1, f2, f3, f4, f5⟩ hx
      exact ⟨e1, e2, q1, sv, seen, rings, t, f1.extBut hx.extBut hLsn.symm, f2, f3, f4, f5⟩
    · rintro it g tk m ⟨e1, e2, q1, sv, seen, rings, t, f1, f2, f3, f4, f5⟩ F'
      rw [Nat.sub_self] at f5
      cases f5
      exact ⟨rfl, g, tk, m, t, rfl, F', f4⟩
  · rintro s' ⟨p, tkp, mp, t, rfl, X1, p1⟩
    refine wpAny_execs_cons ?_
    refine wpAny_Return_some ?_
    refine Mine.ld X1 p1 ?_
    exact h p _ t X1.keep
end
end Mine
end

section
open PySem PySem.Builtin PySem.Calls PyProof.Rows
set_option maxRecDepth 100000
namespace Mine
theorem plain_ne_ns {h : Heap} {a L : Addr} {its : Array Value} {m : Str → Option Value} (x : h.PlainList a its) (n : h.Ns L m) : a ≠ L := by
  rintro rfl
  obtain ⟨_, e⟩ := x
  obtain ⟨o, es, ep, ho, hd, _⟩ := n
  rw [e] at ho; cases ho; cases hd
theorem plain_ne_cell {h : Heap} {a c : Addr} {its : Array Value} {v : Option Value} (x : h.PlainList a its) (n : h.IsCell c v) : a ≠ c := by
  rintro rfl
  obtain ⟨_, e⟩ := x
  obtain ⟨o, ho, hd⟩ := n
  rw [e] at ho; cases ho; cases hd
theorem cell_ne_ns {h : Heap} {a L : Addr} {v : Option Value} {m : Str → Option Value} (x : h.IsCell a v) (n : h.Ns L m) : a ≠ L := by
  rintro rfl
  obtain ⟨o', ho', hd'⟩ := x
  obtain ⟨o, es, ep, ho, hd, _⟩ := n
  rw [ho'] at ho; cases ho; rw [hd'] at hd; cases hd
theorem cell_keeps {h h' : Heap} {c : Addr} {v : Option Value} (x : h.IsCell c v) (k : Sub h h') : h'.IsCell c v := x.keeps k
theorem cell_ext {h h' : Heap} {c a : Addr} {v : Option Value} (x : h.IsCell c v) (k : Heap.ExtBut a h h') (hn : c ≠ a) : h'.IsCell c v := let ⟨o, ho, hd⟩ := x; ⟨o, k _ _ hn ho, hd⟩
theorem cell_ne_none {h : Heap} {a c : Addr} {v : Option Value} (n : h.IsCell c v) (ha : h.get? a = none) : c ≠ a := let ⟨_, ho, _⟩ := n; some_ne ho ha
theorem plain_ne_none {h : Heap} {a c : Addr} {its : Array Value} (n : h.PlainList c its) (ha : h.get? a = none) : c ≠ a := let ⟨_, ho⟩ := n; some_ne ho ha

/-- an assignment of a comprehension, in one -/
def SrcA (prog : Program) (w : World) (A : Around) (env : Env) (scope : Scope) (cl : List (Str × Addr)) (x y : Str) (ifs : List Expr) (elt : Expr) (p : Value → Bool) (F : Value → Value → Prop) (Q : Flow → Shared → Prop) (it : Value) (s₂ : Shared) : Prop :=
  ∃ I fp wr n P St m, it = .ref I ∧ Walks prog w A I fp wr n P St ∧ n ≤ sizeLine ∧ St 0 s₂.heap ∧ (∀ b ∈ fp, b < s₂.heap.objs.size) ∧
      env.locals ∉ wr ∧ s₂.heap.Ns env.locals m ∧ QuietOnC prog w A env scope cl x ifs elt wr P p F s₂ ∧
      (∀ D h' tk ys (vs : List Value), s₂.heap.get? D = none → h'.IsList D ys → h'.PlainList D ys → vs.length = n → (∀ j v, vs[j]? = some v → P j v) → Paired F (vs.filter p) ys.toList →
        h'.Ns env.locals (fun z => if z = y then some (.ref D) else m z) → (∀ b o, b ≠ env.locals → b ∉ wr → s₂.heap.get? b = some o → h'.get? b = some o) → Q .next { s₂ with heap := h', toks := tk })

section
variable {prog : Program} {w : World} {A : Around} {E : Value → Shared → Prop} {s : Shared} {env : Env}
theorem asg {elt iter : Expr} {x y : Str} {px py : Pos} {ifs : List Expr} {scope : Scope} {pos spos : Pos} {Q : Flow → Shared → Prop} (cl : List (Str × Addr)) (p : Value → Bool) (F : Value → Value → Prop)
    (hsw : swapsWith (.ListComp elt [⟨.Name x px, iter, ifs, 0⟩] scope pos) (some (.Name y py)) spos.line env = pure true)
    (hclos : closureFor scope env = pure cl) (hcell : ∀ z ∈ scope.names, z.2 ≠ .cell) (hkind : scope.kind = .function)
    (hnames : ∀ z ∈ scope.names, z.2 = .local → scope.names.lookup z.1 = some .local) (hx : scope.names.lookup x = some .local)
    (hy : env.kindOf y = some .local) (hp : (env.scope.kind == .class || (env.scope.kind == .module && env.locals != env.globals)) = false) (hs : ∀ x, foldedSetIterable iter env x = pure x)
    (h : wpAny (model prog w) A (eval iter env) (fun xv s₁ => wpAny (model prog w) A (pyIter xv) (SrcA prog w A env scope cl x y ifs elt p F Q) E s₁) E s) :
    wpAny (model prog w) A (exec (.Assign [.Name y py] (.ListComp elt [⟨.Name x px, iter, ifs, 0⟩] scope pos) spos) env) Q E s := wpAny_Assign_ListComp_free p F hsw hclos hcell hkind hnames hx hy hp h hs

variable {scope : Scope} {cl : List (Str × Addr)} {x y : Str} {ifs : List Expr} {elt : Expr} {p : Value → Bool} {F : Value → Value → Prop} {Q : Flow → Shared → Prop}
theorem srcAList {l : Addr} {vs : List Value} {m : Str → Option Value} (hh : A.handled = none) (hl : s.heap.IsList l vs.toArray) (hsz : vs.length ≤ sizeLine) (hn : s.heap.Ns env.locals m)
    (ht : ∀ C v s₃ m₃ E', v ∈ vs → s₃.heap.Ns C m₃ → m₃ x = some v → Sub s.heap s₃.heap → s.heap.get? C = none → wpAny (model prog w) A (tests ifs (compEnvC scope cl C env)) (fun ok s₄ => ok = p v ∧ Keeps s₃ s₄) E' s₃)
    (he : ∀ C v s₃ m₃ E', v ∈ vs → p v = true → s₃.heap.Ns C m₃ → m₃ x = some v → Sub s.heap s₃.heap → s.heap.get? C = none → wpAny (model prog w) A (eval elt (compEnvC scope cl C env)) (fun y s₄ => F v y ∧ Keeps s₃ s₄) E' s₃)
    (fin : ∀ D h' tk (ys : List Value), s.heap.get? D = none → h'.PlainList D ys.toArray → Paired F (vs.filter p) ys → h'.Ns env.locals (fun z => if z = y then some (.ref D) else m z) → Heap.ExtBut env.locals s.heap h' → Q .next { s with heap := h', toks := tk }) :
    wpAny (model prog w) A (pyIter (.ref l)) (SrcA prog w A env scope cl x y ifs elt p F Q) E s := by
  refine wpAny_pyIter_list hl ?_
  obtain ⟨ol, hol, _⟩ := id hl
  have hne : l ≠ s.heap.objs.size := Nat.ne_of_lt (Heap.lt_size hol)
  have up : ∀ {b o}, s.heap.get? b = some o → (s.heap.push { cls := .type "list_iterator", data := .fields #[.ref l, .int 0 0] }).get? b = some o := fun e => Heap.get?_push_of_some _ e
  have nw : ∀ {b o}, s.heap.get? b = some o → b ∉ [s.heap.objs.size] := fun e q => old_new e q
  have fr : ∀ {C}, (s.heap.push { cls := .type "list_iterator", data := .fields #[.ref l, .int 0 0] }).objs.size ≤ C → s.heap.get? C = none := fun q => new_none q
  refine ⟨s.heap.objs.size, _, _, _, _, _, m, rfl, Walks.list hh _ l hne vs.toArray, by simpa using hsz, ⟨⟨_, Heap.get?_push_size _ rfl, rfl, rfl⟩, hl.push _⟩, ?_, ?_, hn.push _, ⟨?_, ?_⟩, ?_⟩
  · intro b hb
    show b < (s.heap.push _).objs.size
    rw [Heap.size_push]
    rcases List.mem_cons.mp hb with e | hb
    · rw [e]; exact Nat.lt_succ_self _
    · rw [List.mem_singleton.mp hb]; exact Nat.lt_succ_of_lt (Heap.lt_size hol)
  · obtain ⟨_, _, _, ho, _⟩ := hn; exact nw ho
  · intro C i v s₃ m₃ E' hC hv hn hm hk _
    exact ht C v s₃ m₃ E' (by have : vs[i]? = some v := by simpa using hv
                              exact List.mem_of_getElem? this) hn hm (fun b o e => hk b o (nw e) (up e)) (fr hC)
  · intro C i v s₃ m₃ E' hC hv hp hn hm hk _
    exact he C v s₃ m₃ E' (by have : vs[i]? = some v := by simpa using hv
                              exact List.mem_of_getElem? this) hp hn hm (fun b o e => hk b o (nw e) (up e)) (fr hC)
  · intro D h' tk ys vs' hD _ hpl hlen hP hF hn' hk
    have e : vs' = vs := by
      apply List.ext_getElem?
      intro j
      by_cases hj : j < vs'.length
      · have := hP j vs'[j] (by simp [hj])
        rw [List.getElem?_eq_getElem hj]
        simpa using this.symm
      · rw [List.getElem?_eq_none (by omega), List.getElem?_eq_none (by simp at hlen; omega)]
    subst e
    refine fin D h' tk ys.toList ?_ (by simpa using hpl) hF hn' (fun b o hb e => hk b o hb (nw e) (up e))
    exact sub_none (fun _ _ e => up e) hD

theorem srcARange {r : Addr} {a b : Int} {t u v : Tok} {m : Str → Option Value} (hh : A.handled = none) (hr : IsRange s.heap r a b 1 t u v) (ha : 0 ≤ a) (hab : a ≤ b) (hb : b ≤ 1000000) (hn : s.heap.Ns env.locals m)
    (ht : ∀ C i t s₃ m₃ E', a ≤ i → i < b → s₃.heap.Ns C m₃ → m₃ x = some (.int i t) → Sub s.heap s₃.heap → s.heap.get? C = none → wpAny (model prog w) A (tests ifs (compEnvC scope cl C env)) (fun ok s₄ => ok = p (.int i t) ∧ Keeps s₃ s₄) E' s₃)
    (he : ∀ C i t s₃ m₃ E', a ≤ i → i < b → p (.int i t) = true → s₃.heap.Ns C m₃ → m₃ x = some (.int i t) → Sub s.heap s₃.heap → s.heap.get? C = none → wpAny (model prog w) A (eval elt (compEnvC scope cl C env)) (fun y s₄ => F (.int i t) y ∧ Keeps s₃ s₄) E' s₃)
    (fin : ∀ D h' tk (vs ys : List Value), s.heap.get? D = none → h'.PlainList D ys.toArray → IntsAre vs ((List.range (b - a).toNat).map fun i => a + Int.ofNat i) → Paired F (vs.filter p) ys → h'.Ns env.locals (fun z => if z = y then some (.ref D) else m z) → Heap.ExtBut env.locals s.heap h' → Q .next { s with heap := h', toks := tk }) :
    wpAny (model prog w) A (pyIter (.ref r)) (SrcA prog w A env scope cl x y ifs elt p F Q) E s := by
  have e24 : sizeLine = 16777216 := by decide
  refine wpAny_pyIter_range hr (small_one (by omega) (by omega) (by omega) (by omega)) ?_
  rw [rangeSize_one]
  have up : ∀ {b' o o'}, s.heap.get? b' = some o → (s.heap.push o').get? b' = some o := fun e => Heap.get?_push_of_some _ e
  have nw : ∀ {b o}, s.heap.get? b = some o → b ∉ [s.heap.objs.size] := fun e q => old_new e q
  have fr : ∀ {C o'}, (s.heap.push o').objs.size ≤ C → s.heap.get? C = none := fun q => new_none q
  have en : (if a < b then b - a else 0) = ((b - a).toNat : Int) := by split <;> omega
  rw [en]
  refine ⟨s.heap.objs.size, _, _, _, _, _, m, rfl, walks_lt (Walks.range hh _ a 1 (b - a).toNat), by omega, ?_, ?_, ?_, hn.push _, ⟨?_, ?_⟩, ?_⟩
  · have : IsRangeIter (s.heap.push { cls := .type "range_iterator", data := .fields #[rawInt a, rawInt ((b - a).toNat : Int), rawInt 1] }) s.heap.objs.size a ((b - a).toNat : Int) 1 := Heap.get?_push_size _ rfl
    simpa using this
  · intro b' hb'
    show b' < (s.heap.push _).objs.size
    rw [Heap.size_push, List.mem_singleton.mp hb']; exact Nat.lt_succ_self _
  · obtain ⟨_, _, _, ho, _⟩ := hn; exact nw ho
  · rintro C i v s₃ m₃ E' hC ⟨hi, t', rfl⟩ hn hm hk _
    exact ht C (a + i * 1) t' s₃ m₃ E' (by omega) (by omega) hn hm (fun b o e => hk b o (nw e) (up e)) (fr hC)
  · rintro C i v s₃ m₃ E' hC ⟨hi, t', rfl⟩ hp hn hm hk _
    exact he C (a + i * 1) t' s₃ m₃ E' (by omega) (by omega) hp hn hm (fun b o e => hk b o (nw e) (up e)) (fr hC)
  · intro D h' tk ys vs hD _ hpl hlen hP hF hn' hk
    refine fin D h' tk vs ys.toList (sub_none (fun _ _ e => up e) hD) (by simpa using hpl) ?_ hF hn' (fun b o hb e => hk b o hb (nw e) (up e))
    refine intsAre_of (by simpa using hlen) ?_
    intro j n hj
    simp only [List.getElem?_map, Option.map_eq_some_iff] at hj
    obtain ⟨k, hk, rfl⟩ := hj
    have hjl : j < (b - a).toNat := by
      by_cases q : j < (b - a).toNat
      · exact q
      · rw [List.getElem?_eq_none (by simp; omega)] at hk; cases hk
    have : k = j := by rw [List.getElem?_range hjl] at hk; exact (Option.some.inj hk).symm
    subst this
    have hjv : k < vs.length := by omega
    obtain ⟨_, t', e⟩ := hP k vs[k] (by simp [hjv])
    refine ⟨t', ?_⟩
    rw [List.getElem?_eq_getElem hjv, e]
    simp
end

namespace R
variable {prog : Program} {w : World} {A : Around} {E : Value → Shared → Prop} {env : Env} {hp h₀ : Heap} {g : Array GenState} {d : Drawn} {tk : Nat} {o : OsState}
theorem ldC {x : Str} {pos : Pos} {c : Addr} {v : Value} {Q : Value → Shared → Prop} (hc : hp.IsCell c (some v)) (h : Q v ⟨hp, g, d, tk, o⟩)
    (he : env.cells.lookup x = some c := by rfl) (hk : env.scope.kind = .function := by rfl) (hl : env.kindOf x = some .cell := by rfl) (hd : (x == ("__debug__" : Str)) = false := by decide) :
    wpAny (model prog w) A (eval (.Name x pos) env) Q E ⟨hp, g, d, tk, o⟩ := wpAny_Name (wpAny_loadName_cell hk hl he hc h) hd
theorem stC {x : Str} {c : Addr} {v₀ : Option Value} {v : Value} {Q : Unit → Shared → Prop} (hc : hp.IsCell c v₀) (h : ∀ h', h'.IsCell c (some v) → Heap.SameBut c hp h' → Q () ⟨h', g, d, tk, o⟩)
    (he : env.cells.lookup x = some c := by rfl) (hk : env.scope.kind = .function := by rfl) (hl : env.kindOf x = some .cell := by rfl) :
    wpAny (model prog w) A (storeName env x v) Q E ⟨hp, g, d, tk, o⟩ := wpAny_storeName_cell (s := ⟨hp, g, d, tk, o⟩) hk hl he hc h
theorem neg {a : Int} {t : Tok} {Q : Value → Shared → Prop} (h : ∀ t tk', Q (.int (-a) t) ⟨hp, g, d, tk', o⟩) : wpAny (model prog w) A (unaryOp .USub (.int a t)) Q E ⟨hp, g, d, tk, o⟩ := PyProof.Rows.neg_int (h _ _)
/-- a list's last item -/
theorem lastL {value slice : Expr} {pos : Pos} {Q : Value → Shared → Prop} {s : Shared}
    (h : wpAny (model prog w) A (eval value env) (fun ov s₁ => wpAny (model prog w) A (eval slice env) (fun i s₂ => ∃ l vs u v, ov = .ref l ∧ i = .int (-1) u ∧ s₂.heap.IsList l (vs ++ [v] : List Value).toArray ∧ Q v s₂) E s₁) E s)
    (hs : ∀ l k u, subscripted slice false (.ref l) (.int k u) = operate [.ref l, .int k u] (getItem (.ref l) (.int k u))) : wpAny (model prog w) A (eval (.Subscript value slice pos) env) Q E s := by
  refine Subscript_ (wpAny_mono h (fun o s₁ h₁ => wpAny_mono h₁ (fun i s₂ h₂ => ?_) fun _ _ x => x) fun _ _ x => x)
  obtain ⟨l, vs, u, v, rfl, rfl, hl, hq⟩ := h₂
  refine tail_any hl.typeIs slot_list_getitem.lookup (wpAny_getItem_list_neg hl (by decide) (by simp; omega) (by decide) ?_ hq) (hs _ _ _)
  have : ((-1 : Int) + ((vs ++ [v]).toArray.size : Nat)).toNat = vs.length := by simp; omega
  rw [this]; simp
/-- a list's slice -/
theorem sliceL {value : Expr} {lower upper : Option Expr} {p pos : Pos} {Q : Value → Shared → Prop} {s : Shared}
    (h : wpAny (model prog w) A (eval value env) (fun ov s₁ => wpAny (model prog w) A (evalPart lower env) (fun vl s₂ => wpAny (model prog w) A (evalPart upper env) (fun vu s₃ =>
      ∃ h₃ tk₃ l vs lo hi zs, s₃ = ⟨h₃, g, d, tk₃, o⟩ ∧ ov = .ref l ∧ h₃.IsList l (vs : List Value).toArray ∧ vs.length ≤ 2000000 ∧ IsPart vl lo ∧ IsPart vu hi ∧ slicePick vs.toArray lo hi none = (zs : List Value).toArray ∧
        ∀ dd h', Sub h₃ h' → h'.PlainList dd zs.toArray → h₃.get? dd = none → Q (.ref dd) ⟨h', g, d, tk₃, o⟩) E s₂) E s₁) E s) :
    wpAny (model prog w) A (eval (.Subscript value (.Slice lower upper none p) pos) env) Q E s := by
  refine Subscript_ (wpAny_mono h (fun ov s₁ h₁ => wpAny_Slice (wpAny_mono h₁ (fun vl s₂ h₂ => wpAny_mono h₂ (fun vu s₃ h₃ => ?_) fun _ _ e => e) fun _ _ e => e)) fun _ _ e => e)
  obtain ⟨h₃, tk₃, l, vs, lo, hi, zs, rfl, rfl, hl, hsz, pl, pu, hz, hQ⟩ := h₃
  rw [evalPart_none]
  refine wpAny_pure ?_
  refine tail_any (Heap.IsList.typeIs (s := ⟨h₃.push { cls := .type "slice", data := .fields #[vl, vu, .none] }, g, d, tk₃, o⟩) (hl.push _)) slot_list_getitem.lookup
    (wpAny_getItem_list_slice (hl.push _) (Heap.IsSliceOf.new ..) pl pu .none (by simp) ?_ (by simp; exact Nat.le_trans hsz (by decide))) rfl
  rw [hz]
  refine hQ _ _ ((Sub.push _ _).trans (Sub.push _ _)) ⟨_, Heap.get?_push_size _ rfl⟩ ?_
  exact sub_none (Sub.push _ _) (fresh_none _)
end R
end Mine
end

section
open PySem PySem.Builtin PySem.Calls PyProof.Rows
set_option maxRecDepth 100000
namespace Mine
theorem list_ne_ns {h : Heap} {a L : Addr} {its : Array Value} {m : Str → Option Value} (x : h.IsList a its) (n : h.Ns L m) : a ≠ L := by
  rintro rfl
  obtain ⟨o', e, _, _, ed⟩ := x
  obtain ⟨o, es, ep, ho, hd, _⟩ := n
  rw [e] at ho; cases ho; rw [ed] at hd; cases hd
theorem list_ne_cell {h : Heap} {a c : Addr} {its : Array Value} {v : Option Value} (x : h.IsList a its) (n : h.IsCell c v) : a ≠ c := by
  rintro rfl
  obtain ⟨o', e, _, _, ed⟩ := x
  obtain ⟨o, ho, hd⟩ := n
  rw [e] at ho; cases ho; rw [ed] at hd; cases hd
/-- the frame of a def with cells -/
structure FC (h₀ : Heap) (L : Addr) (cs : List (Str × Addr)) (h : Heap) (m cm : Str → Option Value) : Prop where
  x : FX h₀ L h m
  cell : ∀ n c, cs.lookup n = some c → h.IsCell c (cm n)
  apart : ∀ n n' c, cs.lookup n = some c → cs.lookup n' = some c → n = n'
  offc : ∀ n c, cs.lookup n = some c → h₀.get? c = none
namespace FC
variable {h₀ h h' : Heap} {L : Addr} {cs : List (Str × Addr)} {m m' cm : Str → Option Value}
theorem keeps (F : FC h₀ L cs h m cm) (k : Sub h h') : FC h₀ L cs h' m cm := ⟨F.x.keeps k, fun n c e => (F.cell n c e).keeps k, F.apart, F.offc⟩
theorem set (F : FC h₀ L cs h m cm) (hn : h'.Ns L m') (hs : Heap.SameBut L h h') : FC h₀ L cs h' m' cm :=
  ⟨F.x.set hn hs, fun n c e => (F.cell n c e).sameBut hs (cell_ne_ns (F.cell n c e) F.x.ns), F.apart, F.offc⟩
theorem setE (F : FC h₀ L cs h m cm) (hn : h'.Ns L m') (hs : Heap.ExtBut L h h') : FC h₀ L cs h' m' cm :=
  ⟨⟨hn, fun b o e => hs b o (by rintro rfl; rw [F.x.off] at e; cases e) (F.x.keep b o e), F.x.off⟩, fun n c e => cell_ext (F.cell n c e) hs (cell_ne_ns (F.cell n c e) F.x.ns), F.apart, F.offc⟩
theorem setC {x : Str} {c : Addr} {v : Value} (F : FC h₀ L cs h m cm) (hc : cs.lookup x = some c) (hv : h'.IsCell c (some v)) (hs : Heap.SameBut c h h') : FC h₀ L cs h' m (fun y => if y = x then some v else cm y) := by
  refine ⟨F.x.ext hs.extBut (cell_ne_ns (F.cell x c hc) F.x.ns).symm (F.offc x c hc), fun n c' e => ?_, F.apart, F.offc⟩
  by_cases hn : n = x
  · subst hn; rw [hc] at e; cases e; simpa using hv
  · have hcc : c' ≠ c := fun q => hn (F.apart n x c' e (by rw [q]; exact hc))
    simpa [hn] using (F.cell n c' e).sameBut hs hcc
theorem ext {x : Addr} (F : FC h₀ L cs h m cm) (hs : Heap.ExtBut x h h') (hL : L ≠ x) (hc : ∀ n c, cs.lookup n = some c → c ≠ x) (h0 : h₀.get? x = none) : FC h₀ L cs h' m cm :=
  ⟨F.x.ext hs hL h0, fun n c e => cell_ext (F.cell n c e) hs (hc n c e), F.apart, F.offc⟩
theorem extP {x : Addr} {vs : Array Value} (F : FC h₀ L cs h m cm) (hs : Heap.ExtBut x h h') (hx : h.PlainList x vs) (h0 : h₀.get? x = none) : FC h₀ L cs h' m cm :=
  F.ext hs (plain_ne_ns hx F.x.ns).symm (fun n c e => (plain_ne_cell hx (F.cell n c e)).symm) h0
theorem weaken {h₁ : Heap} (F : FC h₁ L cs h m cm) (k : Sub h₀ h₁) : FC h₀ L cs h m cm := ⟨F.x.weaken k, F.cell, F.apart, fun n c e => sub_none k (F.offc n c e)⟩
/-- a new ground: all that stands now but the locals and the cells -/
theorem turn (F : FC h₀ L cs h m cm) : ∃ hT, Sub h₀ hT ∧ FC hT L cs h m cm ∧ ∀ b o, h.get? b = some o → b ≠ L → (∀ n c, cs.lookup n = some c → b ≠ c) → hT.get? b = some o := by
  have hX : ∀ a ∈ cs.map (fun p => (cs.lookup p.1).getD p.2), ∃ n, cs.lookup n = some a := by
    intro a ha
    obtain ⟨p, hp, rfl⟩ := List.mem_map.mp ha
    cases e : cs.lookup p.1 with
    | none =>
      exact absurd (List.lookup_eq_none_iff.mp e p hp) (by simp)
    | some c => exact ⟨p.1, e⟩
  have hY : ∀ n c, cs.lookup n = some c → c ∈ cs.map (fun p => (cs.lookup p.1).getD p.2) := fun n c e => List.mem_map.mpr ⟨(n, c), mem_of_lookup e, by simp [e]⟩
  refine ⟨W.hideAll (h.hide L) (cs.map fun p => (cs.lookup p.1).getD p.2), ?_, ⟨F.x.rebaseX _, F.cell, F.apart, fun n c e => W.hideAll_none _ (hY n c e)⟩, fun b o e hL hc => ?_⟩
  · exact sub_hideX F.x.keep F.x.off fun a ha => let ⟨n, e⟩ := hX a ha; F.offc n a e
  · exact hideX_get e hL fun hb => let ⟨n, e⟩ := hX b hb; hc n b e rfl
theorem turnL (F : FC h₀ L cs h m cm) : ∃ hT, Sub h₀ hT ∧ FC hT L cs h m cm ∧ (∀ b vs, h.IsList b vs → hT.IsList b vs) ∧ (∀ b vs, h.PlainList b vs → hT.PlainList b vs) := by
  obtain ⟨hT, k, T, e⟩ := F.turn
  refine ⟨hT, k, T, fun b vs hb => ?_, fun b vs hb => ?_⟩
  · obtain ⟨o, ho, r⟩ := id hb
    exact ⟨o, e b o ho (list_ne_ns hb F.x.ns) (fun n c q => list_ne_cell hb (F.cell n c q)), r⟩
  · obtain ⟨o, ho⟩ := id hb
    exact ⟨o, e b _ ho (plain_ne_ns hb F.x.ns) (fun n c q => plain_ne_cell hb (F.cell n c q))⟩
end FC
namespace R
variable {prog : Program} {w : World} {A : Around} {E : Value → Shared → Prop} {env : Env} {hp h₀ : Heap} {g : Array GenState} {d : Drawn} {tk : Nat} {o : OsState} {mg mb m cm : Str → Option Value} {cs : List (Str × Addr)}
/-- a def of one argument, with cells -/
theorem fnC1 {n : Nat} {a : Addr} {v : Value} {x : Str} {Q : Value → Shared → Prop} (f : IsFn hp a n) (B : Bs hp mg mb) (hroom : A.depth < recursionLimit)
    (hbind : ∀ pm cd doc, bindArgs (docDef (nm n) (pr n) (bd n) (sc n) pm cd doc) ⟨[v], []⟩ = pure [(x, v)])
    (hloc : (sc n).names.lookup x = some .local) (hkof : ∀ L cd, (envOfC (nm n) (sc n) L a cd).kindOf x = some .local)
    (h : ∀ L cd h₁ tk₁, FC hp L (cellsFrom (L + 1) (sc n).names []) h₁ (fun y => if y = x then some v else none) (fun _ => none) →
      wpAny (model prog w) (A.deeper (envOfC (nm n) (sc n) L a cd)) (execs (bd n) (envOfC (nm n) (sc n) L a cd))
        (fun fl s' => Q (match fl with | .ret v => v | _ => .none) s') (fun _ _ => False) ⟨h₁, g, d, tk₁, o⟩)
    (hco : (sc n).isCoroutine = false := by rfl) (hgen : (sc n).isGenerator = false := by rfl) (hk : (sc n).kind = .function := by rfl) :
    wpAny (model prog w) A (call (.ref a) [v]) Q E ⟨hp, g, d, tk, o⟩ := by
  obtain ⟨ob, pm, cd, doc, ho, hd, hc⟩ := f
  refine wpAny_call (call_cells_ret (s := ⟨hp, g, d, tk, o⟩) hroom ho hd B.nolimit hc (hbind pm cd doc) (fun y hy => ?_) (fun h₁ tk₁ F X => ?_) hco hgen hk)
  · rw [List.mem_singleton.mp hy]; exact .inl hloc
  · refine h _ _ _ _ ⟨FX.ofFr ?_, ?_, fun n n' c e e' => name_of_addr X.apart (mem_of_lookup e) (mem_of_lookup e'), fun n c e => ?_⟩
    · have e : bindL (envOfC (nm n) (sc n) hp.objs.size a cd).kindOf [(x, v)] (fun _ => none) = fun y => if y = x then some v else none := by
        funext y
        simp only [bindL, hkof]
        rfl
      rw [← e]
      exact F
    · have e : bindC (envOfC (nm n) (sc n) hp.objs.size a cd).kindOf [(x, v)] (fun _ => none) = fun _ => none := by
        simp only [bindC, hkof]
        rfl
      rw [e] at X
      exact X.cell
    · have := X.above n c (mem_of_lookup e)
      cases q : hp.get? c with
      | none => rfl
      | some o => exact absurd (Nat.lt_trans (Heap.lt_size q) this) (Nat.lt_irrefl _)
/-- a local is set -/
theorem stF {x : Str} {v : Value} {Q : Unit → Shared → Prop} (F : FC h₀ env.locals cs hp m cm)
    (h : ∀ h' tk', FC h₀ env.locals cs h' (fun y => if y = x then some v else m y) cm → Heap.SameBut env.locals hp h' → Q () ⟨h', g, d, tk', o⟩)
    (hk : (env.scope.kind == .class || (env.scope.kind == .module && env.locals != env.globals)) = false := by rfl) (hl : env.kindOf x = some .local := by rfl) :
    wpAny (model prog w) A (storeName env x v) Q E ⟨hp, g, d, tk, o⟩ := R.st F.x (fun h' tk' F' hs => h h' tk' (F.set F'.ns hs) hs) hk hl
/-- a cell is read -/
theorem ldF {x : Str} {pos : Pos} {c : Addr} {v : Value} {Q : Value → Shared → Prop} (F : FC h₀ env.locals cs hp m cm) (hc : cs.lookup x = some c) (hv : cm x = some v) (h : Q v ⟨hp, g, d, tk, o⟩)
    (he : env.cells.lookup x = some c := by rfl) (hk : env.scope.kind = .function := by rfl) (hl : env.kindOf x = some .cell := by rfl) (hd : (x == ("__debug__" : Str)) = false := by decide) :
    wpAny (model prog w) A (eval (.Name x pos) env) Q E ⟨hp, g, d, tk, o⟩ := R.ldC (hv ▸ F.cell x c hc) h he hk hl hd
/-- a cell is set -/
theorem stCF {x : Str} {c : Addr} {v : Value} {Q : Unit → Shared → Prop} (F : FC h₀ env.locals cs hp m cm) (hc : cs.lookup x = some c)
    (h : ∀ h', FC h₀ env.locals cs h' m (fun y => if y = x then some v else cm y) → Heap.SameBut c hp h' → Q () ⟨h', g, d, tk, o⟩)
    (he : env.cells.lookup x = some c := by rfl) (hk : env.scope.kind = .function := by rfl) (hl : env.kindOf x = some .cell := by rfl) :
    wpAny (model prog w) A (storeName env x v) Q E ⟨hp, g, d, tk, o⟩ := R.stC (F.cell x c hc) (fun h' hv hs => h h' (F.setC hc hv hs) hs) he hk hl
end R
end Mine
end

section
open PySem PySem.Builtin PySem.Calls PyProof.Rows
set_option maxRecDepth 100000
namespace Mine
def backGo : Nat → List Int → List Int → Option (List Int)
  | 0, _, _ => none
  | k + 1, left, codes =>
    match left.getLast? with
    | none => some codes
    | some c => backGo k (left.dropLast.map fun x => if c < x then x - 1 else x) (c :: codes)
theorem backGo_inv {k : Nat} {left codes res : List Int} (h : backGo k left codes = some res) :
    ∃ k', k = k' + 1 ∧ ((left = [] ∧ codes = res) ∨ ∃ ini c, left = ini ++ [c] ∧ backGo k' (ini.map fun x => if c < x then x - 1 else x) (c :: codes) = some res) := by
  cases k with
  | zero => cases h
  | succ k =>
    refine ⟨k, rfl, ?_⟩
    unfold backGo at h
    rcases List.eq_nil_or_concat left with rfl | ⟨ini, c, rfl⟩
    · exact .inl ⟨rfl, Option.some.inj h⟩
    · refine .inr ⟨ini, c, by simp, ?_⟩
      simpa using h
theorem intsAre_snoc : ∀ {vs : List Value} {ini : List Int} {c : Int}, IntsAre vs (ini ++ [c]) → ∃ us t, vs = us ++ [.int c t] ∧ IntsAre us ini
  | _, [], c, h => by
    cases h with
    | cons n t r => cases r; exact ⟨[], t, rfl, .nil⟩
  | _, x :: ini, c, h => by
    cases h with
    | cons n t r =>
      obtain ⟨us, t', e, hi⟩ := intsAre_snoc r
      exact ⟨.int x t :: us, t', by rw [e]; rfl, .cons _ _ hi⟩
/-- a comprehension over ints whose items are a function of them -/
theorem intsAre_map {f : Int → Int} {p : Value → Bool} {q : Int → Bool} (hq : ∀ n t, p (.int n t) = q n) : ∀ {vs ys : List Value} {ns : List Int}, IntsAre vs ns →
    Paired (fun v y => ∃ n t u, v = Value.int n t ∧ y = Value.int (f n) u) (vs.filter p) ys → IntsAre ys ((ns.filter q).map f)
  | _, _, _, .nil, h => by
    simp only [List.filter_nil] at h
    cases h; exact .nil
  | _, _, _, .cons (vs := vs) (ns := ns) n t r, h => by
    rw [List.filter_cons, hq] at h
    rw [List.filter_cons]
    cases e : q n with
    | true =>
      rw [e, if_pos rfl] at h
      rw [if_pos rfl]
      cases h with
      | cons hv hr =>
        obtain ⟨n', t', u, e1, rfl⟩ := hv
        cases e1
        exact .cons _ _ (intsAre_map hq r hr)
    | false =>
      rw [e, if_neg Bool.false_ne_true] at h
      rw [if_neg Bool.false_ne_true]
      exact intsAre_map hq r h
end Mine
end

section
open PySem PySem.Builtin PySem.Calls PyProof.Rows
set_option maxRecDepth 100000
namespace Mine
theorem le_line {n : Nat} (h : n ≤ 1000000) : n ≤ sizeLine := Nat.le_trans h (by decide)
section
variable {prog : Program} {w : World} {A : Around} {E : Value → Shared → Prop} {mg mb : Str → Option Value} {hp : Heap} {gn : Array GenState} {dr : Drawn} {tk₀ : Nat} {os : OsState}
set_option maxHeartbeats 2000000 in
theorem back_call {a l : Addr} {vl : List Value} {line res : List Int} {Q : Value → Shared → Prop} (f : IsFn hp a 16) (B : Bs hp mg mb) (hroom : A.depth < recursionLimit) (hu : A.units + 67 < cLine) (hh : A.handled = none)
    (hl : hp.IsList l vl.toArray) (hli : IntsAre vl line) (hlen : line.length ≤ 100) (hres : backGo (line.length + 1) line [] = some res)
    (h : ∀ h' tk D ys, Sub hp h' → h'.PlainList D (ys : List Value).toArray → IntsAre ys res → Q (.ref D) ⟨h', gn, dr, tk, os⟩) :
    wpAny (model prog w) A (call (.ref a) [.ref l]) Q E ⟨hp, gn, dr, tk₀, os⟩ := by
  refine R.fnC1 (x := Str.ofString "line") f B hroom (fun _ _ _ => rfl) rfl (fun _ _ => rfl) (fun L cd h₁ tk₁ F => ?_)
  have hh' : (A.deeper (envOfC (nm 16) (sc 16) L a cd)).handled = none := hh
  have hu' : (A.deeper (envOfC (nm 16) (sc 16) L a cd)).units + 64 < cLine := by show A.units + 3 + 64 < cLine; omega
  have hcs : (cellsFrom (L + 1) (sc 16).names []).lookup (Str.ofString "codes") = some (L + 1) := rfl
  generalize hcsg : cellsFrom (L + 1) (sc 16).names [] = cs at F hcs
  refine wpAny_execs_cons ?_
  refine wpAny_Assign_Name ?_
  refine R.dispL ?_
  refine wpAny_items_nil ?_
  refine ⟨_, _, rfl, Nat.zero_le _, fun cl₀ h₂ k₂ hcl₀ _ => ?_⟩
  have F2 := F.keeps k₂
  obtain ⟨hT, kT, T2, tl, tp⟩ := F2.turnL
  refine R.stCF T2 hcs (fun h₃ T3 _ => ?_)
  have hcl3 := plain_keeps (tp _ _ hcl₀) T3.x.keep
  have F3 := T3.weaken kT
  refine wpAny_execs_cons ?_
  refine wpAny_Assign_Name ?_
  refine Mine.ld F3.x rfl ?_
  obtain ⟨hT', kT', T3', tl', tp'⟩ := F3.turnL
  refine R.stF T3' (fun h₄ tk₄ T4 _ => ?_)
  have hcl4 := plain_keeps (tp' _ _ hcl3) T4.x.keep
  have F4 := T4.weaken kT'
  refine execs_cut (fun s' => ∃ h' tk m cm D ys, s' = ⟨h', gn, dr, tk, os⟩ ∧ FC hp L cs h' m cm ∧ cm (Str.ofString "codes") = some (.ref D) ∧ h'.PlainList D (ys : List Value).toArray ∧ IntsAre ys res) ?_ ?_
  · refine whileX (fun n s' => ∃ h' tk m cm lf vl' left D ys codes, s' = ⟨h', gn, dr, tk, os⟩ ∧ FC hp L cs h' m cm ∧ m (Str.ofString "left") = some (.ref lf) ∧ h'.IsList lf (vl' : List Value).toArray ∧ IntsAre vl' left ∧ left.length ≤ 100 ∧
        cm (Str.ofString "codes") = some (.ref D) ∧ h'.PlainList D (ys : List Value).toArray ∧ IntsAre ys codes ∧ codes.length + n ≤ 200 ∧ backGo n left codes = some res) (n := line.length + 1)
      ⟨h₄, tk₄, _, _, l, vl, line, cl₀, [], [], rfl, F4, rfl, isList_keeps hl F4.x.keep, hli, hlen, rfl, hcl4, .nil, by simp; omega, hres⟩ ?_
    rintro n s' ⟨h', tk, m, cm, lf, vl', left, D, ys, codes, rfl, G, e1, hlf, hli', hlen', e2, hD, hys, hcl, hgo⟩
    obtain ⟨k', rfl, hcase⟩ := backGo_inv hgo
    obtain ⟨gT, kG, G1, gl, gp⟩ := G.turnL
    have hlfT := gl _ _ hlf
    have hDT := gp _ _ hD
    clear hlf hD G hgo
    refine wpAny_isTrue_Compare1 ?_
    refine Mine.ld G1.x e1 ?_
    refine R.dispL ?_
    refine wpAny_items_nil ?_
    refine ⟨_, _, rfl, Nat.zero_le _, fun em h₅ k₅ hem _ => ?_⟩
    have G2 := G1.keeps k₅
    refine W.ne_intsK (s := ⟨h₅, gn, dr, tk, os⟩) (isList_keeps hlfT G2.x.keep) hli' hem.isList .nil hu' ?_
    refine wpAny_truthy_bool ?_
    rcases hcase with ⟨rfl, rfl⟩ | ⟨ini, c, rfl, hgo⟩
    · have e : (!decide (([] : List Int) = ([] : List Int))) = false := by simp
      rw [e, if_neg Bool.false_ne_true]
      exact ⟨rfl, h₅, tk, m, cm, D, ys, rfl, G2.weaken kG, e2, plain_keeps hDT G2.x.keep, hys⟩
    · have e : (!decide (ini ++ [c] = ([] : List Int))) = true := by simp
      rw [e, if_pos rfl]
      obtain ⟨us, tc, rfl, hus⟩ := intsAre_snoc hli'
      have hul : us.length = ini.length := hus.length
      have hil : ini.length + 1 ≤ 100 := by simpa using hlen'
      have hyl : ys.length = codes.length := hys.length
      refine wpAny_execs_cons ?_
      refine wpAny_Assign_Name ?_
      refine wpAny_BinOp ?_
      refine R.dispL ?_
      refine wpAny_items_cons ?_
      refine R.lastL ?_ (by intros; rfl)
      refine Mine.ld G2.x e1 ?_
      refine wpAny_UnaryOp ?_
      refine R.cI (fun _ _ => ?_)
      refine R.neg (fun _ _ => ?_)
      refine ⟨lf, us, _, _, rfl, rfl, isList_keeps hlfT G2.x.keep, ?_⟩
      refine wpAny_items_nil ?_
      refine ⟨_, _, rfl, by simp, fun one h₆ k₆ hone _ => ?_⟩
      have G3 := G2.keeps k₆
      refine R.ldF G3 hcs e2 ?_
      refine R.addL (vs := [.int c tc]) hone.isList (plain_keeps hDT G3.x.keep).isList (by simp; omega) (fun D' h₇ k₇ hD' _ => ?_)
      have G4 := G3.keeps k₇
      obtain ⟨gT', kG', G4', gl', gp'⟩ := G4.turnL
      have hDT' := gp' _ _ hD'
      have hlfT' := gl' _ _ (isList_keeps hlfT G4.x.keep)
      refine R.stCF G4' hcs (fun h₈ G5 _ => ?_)
      refine wpAny_execs_cons ?_
      refine asg [(Str.ofString "codes", L + 1)] (fun _ => true) (fun v y => ∃ n t u, v = Value.int n t ∧ y = Value.int (if c < n then n - 1 else n) u) ?c1 ?c2 ?c3 ?c4 ?c5 ?c6 ?c7 ?c8 ?c9 ?_
      case c1 => rfl
      case c2 => rfl
      case c3 => decide
      case c4 => rfl
      case c5 => decide
      case c6 => rfl
      case c7 => rfl
      case c8 => rfl
      case c9 => intro _; rfl
      refine R.sliceL (g := gn) (d := dr) (o := os) ?_
      refine Mine.ld G5.x e1 ?_
      rw [evalPart_none]
      refine wpAny_pure ?_
      rw [evalPart_some]
      refine wpAny_UnaryOp ?_
      refine R.cI (fun _ _ => ?_)
      refine R.neg (fun _ tk₉ => ?_)
      refine ⟨h₈, tk₉, lf, us ++ [.int c tc], none, some (-1), us, rfl, rfl, isList_keeps hlfT' G5.x.keep, by simp; omega, .none, .int _ _, ?_, fun dd h₉ k₉ hdd _ => ?_⟩
      · have := slicePick_butLast (us ++ [Value.int c tc]).toArray 1 (by decide)
        simpa using this
      have G6 := G5.keeps k₉
      have hc6 : h₉.IsCell (L + 1) (some (.ref D')) := G6.cell _ _ hcs
      refine srcAList (s := ⟨h₉, gn, dr, tk₉, os⟩) hh' hdd.isList (le_line (by omega)) G6.x.ns (fun C v s₃ m₃ E' hv hn hm hk hC => ?_) (fun C v s₃ m₃ E' hv _ hn hm hk hC => ?_) ?_
      · exact noTests ⟨rfl, keeps_refl _⟩
      · rcases s₃ with ⟨h₁₀, gg, dd', tt, oo⟩
        obtain ⟨n', t', hvi⟩ : ∃ n' t', v = .int n' t' := by
          obtain ⟨j, hj⟩ := List.mem_iff_getElem?.mp hv
          have hjl : j < ini.length := by
            rcases Nat.lt_or_ge j us.length with q | q
            · omega
            · rw [List.getElem?_eq_none q] at hj; cases hj
          obtain ⟨t', e'⟩ := hus.get j ini[j] (by simp [hjl])
          rw [e'] at hj; cases hj; exact ⟨_, _, rfl⟩
        subst hvi
        refine wpAny_IfExp ?_
        refine wpAny_isTrue_Compare1 ?_
        refine ldN hn hm ?_
        refine subL ?_ (by intros; rfl)
        refine R.ldC (c := L + 1) (cell_keeps hc6 hk) ?_
        refine R.cI (fun t0 tk0 => ?_)
        refine ⟨D', [.int c tc] ++ ys, 0, t0, .int c tc, rfl, rfl, (plain_keeps hDT' (G6.x.keep.trans hk)).isList, by simp, rfl, ?_⟩
        refine gt_int ?_
        refine wpAny_truthy_bool ?_
        by_cases hlt : c < n'
        · rw [decide_eq_true hlt]
          rw [if_pos rfl]
          refine wpAny_BinOp ?_
          refine ldN hn hm ?_
          refine R.cI (fun _ _ => ?_)
          refine R.sub (fun t2 tk2 => ?_)
          exact ⟨⟨n', t', t2, rfl, by rw [if_pos hlt]⟩, ⟨_, _, rfl, fun _ _ e => e⟩⟩
        · rw [decide_eq_false hlt]
          rw [if_neg Bool.false_ne_true]
          refine ldN hn hm ?_
          exact ⟨⟨n', t', t', rfl, by rw [if_neg hlt]⟩, ⟨_, _, rfl, fun _ _ e => e⟩⟩
      intro D2 h₁₀ tk₁₀ zs nD2 hD2 hF hns hx
      have G7 := G6.setE hns hx
      refine wpAny_execs_nil ?_
      refine ⟨k', Nat.lt_succ_self _, h₁₀, tk₁₀, _, _, D2, zs, ini.map (fun x => if c < x then x - 1 else x), D', [.int c tc] ++ ys, c :: codes, rfl, G7.weaken (kG.trans kG'), rfl, hD2.isList, ?_, by simp; omega, rfl, plain_keeps hDT' G7.x.keep, .cons _ _ hys, by simp; omega, hgo⟩
      have := intsAre_map (q := fun _ => true) (fun _ _ => rfl) hus hF
      rw [List.filter_eq_self.mpr (fun _ _ => rfl)] at this
      exact this
  · rintro s' ⟨h', tk, m, cm, D, ys, rfl, G, e, hD, hys⟩
    refine wpAny_execs_cons ?_
    refine wpAny_Return_some ?_
    refine R.ldF G hcs e ?_
    exact h h' tk D ys G.x.keep hD hys
end
end Mine
end

section
open PySem PySem.Builtin PySem.Calls PyProof.Rows
set_option maxRecDepth 100000
namespace Mine
def put (ini : List Int) (c : Int) (k : Nat) : List Int := ini.take k ++ [c] ++ ini.drop (k + 1)
def gain (l3 : List Int) (c : Int) (k : Nat) : Nat :=
  let more := ((l3.take k).filter (fun x => decide (c < x))).length
  let fewer := ((l3.drop (k + 1)).filter (fun x => decide (x < c))).length
  if fewer < more then fewer else more
def passedGo : Nat → List Int → Nat → Option Nat
  | 0, _, _ => none
  | k + 1, left, total =>
    match left.getLast? with
    | none => some total
    | some c =>
      if left.length ≤ 1 then some total
      else if left.all (fun x => decide (x.natAbs < 1024)) && left.contains (left.length : Int) then
        if left.idxOf (left.length : Int) < left.dropLast.length then
          passedGo k (put left.dropLast c (left.idxOf (left.length : Int))) (total + gain (put left.dropLast c (left.idxOf (left.length : Int))) c (left.idxOf (left.length : Int)))
        else passedGo k left.dropLast total
      else none
theorem passedGo_inv {k : Nat} {left : List Int} {total res : Nat} (h : passedGo k left total = some res) :
    ∃ k', k = k' + 1 ∧ ((left.length ≤ 1 ∧ total = res) ∨ (1 < left.length ∧ (∀ x ∈ left, x.natAbs < 1024) ∧ (left.length : Int) ∈ left ∧ ∃ ini c, left = ini ++ [c] ∧
      ((left.idxOf (left.length : Int) < ini.length ∧ passedGo k' (put ini c (left.idxOf (left.length : Int))) (total + gain (put ini c (left.idxOf (left.length : Int))) c (left.idxOf (left.length : Int))) = some res) ∨
       (¬ left.idxOf (left.length : Int) < ini.length ∧ passedGo k' ini total = some res)))) := by
  cases k with
  | zero => cases h
  | succ k =>
    refine ⟨k, rfl, ?_⟩
    unfold passedGo at h
    rcases List.eq_nil_or_concat left with rfl | ⟨ini, c, rfl⟩
    · exact .inl ⟨by simp, Option.some.inj h⟩
    · simp only [List.concat_eq_append] at h ⊢
      rw [List.getLast?_concat] at h
      dsimp only at h
      rw [List.dropLast_concat] at h
      split at h
      · rename_i h1; exact .inl ⟨h1, Option.some.inj h⟩
      · rename_i h1
        split at h
        · rename_i h2
          rw [Bool.and_eq_true] at h2
          refine .inr ⟨by omega, fun x hx => of_decide_eq_true (List.all_eq_true.mp h2.1 x hx), by simpa using h2.2, ini, c, rfl, ?_⟩
          split at h
          · rename_i h3; exact .inl ⟨h3, h⟩
          · rename_i h3; exact .inr ⟨h3, h⟩
        · cases h
theorem weight_small : ∀ {ns : List Int}, (∀ x ∈ ns, x.natAbs < 1024) → PyData.weightAll (ns.map .int) ≤ ns.length * 20
  | [], _ => by simp [PyData.weightAll]
  | n :: ns, h => by
    have ih := weight_small (ns := ns) fun x hx => h x (.tail _ hx)
    have hb : (if (n == 0) = true then 0 else n.natAbs.log2 + 1) ≤ 11 := by
      split
      · decide
      · rename_i hn
        have : n.natAbs.log2 < 10 := (Nat.log2_lt (by simpa using hn)).mpr (h n (.head _))
        omega
    simp only [List.map_cons, PyData.weightAll, PyData.weight, List.length_cons]
    omega
theorem layable_small {ns : List Int} (h : ∀ x ∈ ns, x.natAbs < 1024) (hl : ns.length ≤ 1000) : PyData.layable0 (.list (ns.map .int)) = true := by
  show (PyData.canLay0 (.list (ns.map .int)) && decide (PyData.depth (.list (ns.map .int)) ≤ 64) && decide (PyData.weight (.list (ns.map .int)) ≤ 2 ^ 20)) = true
  rw [Bool.and_eq_true, Bool.and_eq_true]
  refine ⟨⟨?_, ?_⟩, decide_eq_true ?_⟩
  · simp only [PyData.canLay0, canLayAll_ints]
  · simp only [PyData.depth, depthAll_ints]
    decide
  · have := weight_small h
    simp only [PyData.weight]
    have : (2 : Nat) ^ 20 = 1048576 := by decide
    omega
theorem IntsAre.take : ∀ {vs : List Value} {ns : List Int} (k : Nat), IntsAre vs ns → IntsAre (vs.take k) (ns.take k)
  | _, _, 0, _ => by simpa using IntsAre.nil
  | _, _, _ + 1, .nil => by simpa using IntsAre.nil
  | _, _, k + 1, .cons n t r => .cons n t (IntsAre.take k r)
theorem IntsAre.drop : ∀ {vs : List Value} {ns : List Int} (k : Nat), IntsAre vs ns → IntsAre (vs.drop k) (ns.drop k)
  | _, _, 0, h => h
  | _, _, _ + 1, .nil => by simpa using IntsAre.nil
  | _, _, k + 1, .cons n t r => IntsAre.drop k r
theorem IntsAre.mem {vs : List Value} {ns : List Int} (h : IntsAre vs ns) {v : Value} (hv : v ∈ vs) : ∃ n t, v = .int n t ∧ n ∈ ns := by
  induction h with
  | nil => cases hv
  | cons n t r ih =>
    rcases List.mem_cons.mp hv with rfl | hv
    · exact ⟨n, t, rfl, .head _⟩
    · obtain ⟨n', t', e, hm⟩ := ih hv; exact ⟨n', t', e, .tail _ hm⟩
end Mine
end

section
open PySem PySem.Builtin PySem.Calls PyProof.Rows
set_option maxRecDepth 100000
namespace Mine
namespace R
variable {prog : Program} {w : World} {A : Around} {E : Value → Shared → Prop} {hp : Heap} {g : Array GenState} {d : Drawn} {tk : Nat} {o : OsState} {Q : Value → Shared → Prop}
theorem index {l : Addr} {vs : List Value} {ns : List Int} {k : Int} {t : Tok} (hl : hp.IsList l vs.toArray) (hi : IntsAre vs ns) (hs : ∀ x ∈ ns, x.natAbs < 1024) (hlen : ns.length ≤ 1000) (hk : k ∈ ns)
    (h : ∀ t tk', Q (.int (Int.ofNat (ns.idxOf k)) t) ⟨hp, g, d, tk', o⟩) : wpAny (model prog w) A (call (.builtin "list.index") [.ref l, .int k t]) Q E ⟨hp, g, d, tk, o⟩ :=
  index_list_ints (s := ⟨hp, g, d, tk, o⟩) hl hi (layable_small hs hlen) hk (h _ _)
theorem min2 {a b : Nat} {t u : Tok} (hh : A.handled = none) (h : ∀ h' tk' t, Sub hp h' → Q (.int (Int.ofNat (if b < a then b else a)) t) ⟨h', g, d, tk', o⟩) :
    wpAny (model prog w) A (call (.builtin "min") [.int (Int.ofNat a) t, .int (Int.ofNat b) u]) Q E ⟨hp, g, d, tk, o⟩ := by
  refine min_two_ints (s := ⟨hp, g, d, tk, o⟩) hh (fun h' tk' k => ?_)
  by_cases q : b < a
  · have : Int.ofNat b < Int.ofNat a := Int.ofNat_lt.mpr q
    have e := h h' tk' u k
    rw [if_pos q] at e
    rw [if_pos this]; exact e
  · have : ¬ Int.ofNat b < Int.ofNat a := fun c => q (Int.ofNat_lt.mp c)
    have e := h h' tk' t k
    rw [if_neg q] at e
    rw [if_neg this]; exact e
end R
section
variable {prog : Program} {w : World} {A : Around} {E : Value → Shared → Prop} {mg mb : Str → Option Value} {hp : Heap} {gn : Array GenState} {dr : Drawn} {tk₀ : Nat} {os : OsState}
set_option maxHeartbeats 2000000 in
theorem passed_call {a l : Addr} {vl : List Value} {line : List Int} {res : Nat} {Q : Value → Shared → Prop} (f : IsFn hp a 18) (B : Bs hp mg mb) (hroom : A.depth < recursionLimit) (hh : A.handled = none)
    (hl : hp.PlainList l vl.toArray) (hli : IntsAre vl line) (hlen : line.length ≤ 100) (hres : passedGo (line.length + 1) line 0 = some res)
    (h : ∀ h' tk t, Sub hp h' → Q (.int (Int.ofNat res) t) ⟨h', gn, dr, tk, os⟩) :
    wpAny (model prog w) A (call (.ref a) [.ref l]) Q E ⟨hp, gn, dr, tk₀, os⟩ := by
  refine R.fnC1 (x := Str.ofString "line") f B hroom (fun _ _ _ => rfl) rfl (fun _ _ => rfl) (fun L cd h₁ tk₁ F => ?_)
  have hh' : (A.deeper (envOfC (nm 18) (sc 18) L a cd)).handled = none := hh
  have hcs : (cellsFrom (L + 1) (sc 18).names []).lookup (Str.ofString "moved") = some (L + 1) := rfl
  generalize hcsg : cellsFrom (L + 1) (sc 18).names [] = cs at F hcs
  refine wpAny_execs_cons ?_
  refine wpAny_Assign_Name ?_
  refine R.cI (fun t0 _ => ?_)
  refine R.stF F (fun h₂ tk₂ F2 _ => ?_)
  refine wpAny_execs_cons ?_
  refine wpAny_Assign_Name ?_
  refine Mine.ld F2.x rfl ?_
  refine R.stF F2 (fun h₃ tk₃ F3 _ => ?_)
  refine execs_cut (fun s' => ∃ h' tk m cm t, s' = ⟨h', gn, dr, tk, os⟩ ∧ FC hp L cs h' m cm ∧ m (Str.ofString "total") = some (.int (Int.ofNat res) t)) ?_ ?_
  · refine whileX (fun n s' => ∃ h' tk m cm lf vl' left total t, s' = ⟨h', gn, dr, tk, os⟩ ∧ FC hp L cs h' m cm ∧ m (Str.ofString "left") = some (.ref lf) ∧ h'.PlainList lf (vl' : List Value).toArray ∧ IntsAre vl' left ∧ left.length ≤ 100 ∧
        m (Str.ofString "total") = some (.int (Int.ofNat total) t) ∧ passedGo n left total = some res) (n := line.length + 1)
      ⟨h₃, tk₃, _, _, l, vl, line, 0, t0, rfl, F3, rfl, plain_keeps hl F3.x.keep, hli, hlen, rfl, hres⟩ ?_
    rintro n s' ⟨h', tk, m, cm, lf, vl', left, total, tt, rfl, G, e1, hlf, hli', hlen', e2, hgo⟩
    obtain ⟨k', rfl, hcase⟩ := passedGo_inv hgo
    obtain ⟨gT, kG, G1, gl, gp⟩ := G.turnL
    have hlfT := gp _ _ hlf
    have hvl : vl'.length = left.length := hli'.length
    clear hlf G hgo
    refine wpAny_isTrue_Compare1 ?_
    refine callB1 (id := "len") ?_
    refine bl (B.keeps (kG.trans G1.x.keep)) (B.free "len" (by decide)) PyProof.Rows.Boot.«len» ?_
    refine ⟨rfl, ?_⟩
    refine Mine.ld G1.x e1 ?_
    refine R.len (plain_keeps hlfT G1.x.keep).isList (by omega) (fun _ tk₄ => ?_)
    refine R.cI (fun _ tk₅ => ?_)
    refine gt_int ?_
    refine wpAny_truthy_bool ?_
    rcases hcase with ⟨hle, rfl⟩ | ⟨hlt, hsm, hmem, ini, c, rfl, hcase⟩
    · rw [decide_eq_false (show ¬ (1 : Int) < Int.ofNat vl'.length by simp; omega), if_neg Bool.false_ne_true]
      exact ⟨rfl, h', tk₅, m, cm, tt, rfl, G1.weaken kG, e2⟩
    · rw [decide_eq_true (show (1 : Int) < Int.ofNat vl'.length by simp; omega), if_pos rfl]
      obtain ⟨us, tc, rfl, hus⟩ := intsAre_snoc hli'
      have hul : us.length = ini.length := hus.length
      have hil : ini.length + 1 ≤ 100 := by simpa using hlen'
      refine wpAny_execs_cons ?_
      refine wpAny_Assign_Name ?_
      refine callM1 PySem.F.plainAttrs_list PySem.F.slot_list_index PySem.F.type_list_index ?_
      refine Mine.ld G1.x e1 ?_
      have hlf1 := plain_keeps hlfT G1.x.keep
      refine ⟨Heap.IsList.typeIs (s := ⟨h', gn, dr, tk₅, os⟩) hlf1.isList, plain_noDict hlf1, ?_⟩
      refine callB1 (id := "len") ?_
      refine bl (B.keeps (kG.trans G1.x.keep)) (B.free "len" (by decide)) PyProof.Rows.Boot.«len» ?_
      refine ⟨rfl, ?_⟩
      refine Mine.ld G1.x e1 ?_
      refine R.len hlf1.isList (by omega) (fun _ tk₆ => ?_)
      rw [hvl]
      refine R.index hlf1.isList hli' hsm (by omega) hmem (fun ta tk₇ => ?_)
      have hat0 : (ini ++ [c]).idxOf ((ini ++ [c]).length : Int) ≤ ini.length := by
        have := List.idxOf_lt_length_iff.mpr hmem
        have e : (ini ++ [c]).length = ini.length + 1 := by simp
        omega
      have eI : (ini ++ [c]).idxOf (Int.ofNat (ini ++ [c]).length) = (ini ++ [c]).idxOf ((ini ++ [c]).length : Int) := rfl
      rw [eI]
      generalize hat : (ini ++ [c]).idxOf ((ini ++ [c]).length : Int) = at_ at hcase hat0
      refine R.stF G1 (fun h₈ tk₈ G2 _ => ?_)
      refine wpAny_execs_cons ?_
      refine wpAny_Assign_Name ?_
      refine R.lastL ?_ (by intros; rfl)
      refine Mine.ld G2.x e1 ?_
      refine wpAny_UnaryOp ?_
      refine R.cI (fun _ _ => ?_)
      refine R.neg (fun _ _ => ?_)
      refine ⟨lf, us, _, _, rfl, rfl, (plain_keeps hlfT G2.x.keep).isList, ?_⟩
      refine R.stCF G2 hcs (fun h₉ G3 _ => ?_)
      refine wpAny_execs_cons ?_
      refine wpAny_Assign_Name ?_
      refine R.sliceL (g := gn) (d := dr) (o := os) ?_
      refine Mine.ld G3.x e1 ?_
      rw [evalPart_none]
      refine wpAny_pure ?_
      rw [evalPart_some]
      refine wpAny_UnaryOp ?_
      refine R.cI (fun _ _ => ?_)
      refine R.neg (fun _ tk₉ => ?_)
      refine ⟨h₉, tk₉, lf, us ++ [.int c tc], none, some (-1), us, rfl, rfl, (plain_keeps hlfT G3.x.keep).isList, by simp; omega, .none, .int _ _, ?_, fun l2 h₁₀ k₁₀ hl2 _ => ?_⟩
      · have := slicePick_butLast (us ++ [Value.int c tc]).toArray 1 (by decide)
        simpa using this
      have G4 := G3.keeps k₁₀
      obtain ⟨gT4, kG4, G4', gl4, gp4⟩ := G4.turnL
      have hl2T := gp4 _ _ hl2
      refine R.stF G4' (fun h₁₁ tk₁₁ G5 _ => ?_)
      have kB5 := (kG.trans kG4).trans G5.x.keep
      refine wpAny_execs_cons ?_
      refine wpAny_If ?_
      refine wpAny_isTrue_Compare1 ?_
      refine Mine.ld G5.x rfl ?_
      refine callB1 (id := "len") ?_
      refine bl (B.keeps kB5) (B.free "len" (by decide)) PyProof.Rows.Boot.«len» ?_
      refine ⟨rfl, ?_⟩
      refine Mine.ld G5.x rfl ?_
      refine R.len (plain_keeps hl2T G5.x.keep).isList (by omega) (fun _ tk₁₂ => ?_)
      refine lt_int ?_
      refine wpAny_truthy_bool ?_
      rcases hcase with ⟨hlt2, hgo⟩ | ⟨hnl, hgo⟩
      · rw [decide_eq_true (show Int.ofNat at_ < Int.ofNat us.length by simp; omega), if_pos rfl]
        refine wpAny_execs_cons ?_
        refine wpAny_Assign_Name ?_
        refine wpAny_BinOp ?_
        refine wpAny_BinOp ?_
        refine R.sliceL (g := gn) (d := dr) (o := os) ?_
        refine Mine.ld G5.x rfl ?_
        rw [evalPart_none]
        refine wpAny_pure ?_
        rw [evalPart_some]
        refine Mine.ld G5.x rfl ?_
        refine ⟨h₁₁, _, l2, us, none, some (Int.ofNat at_), us.take at_, rfl, rfl, (plain_keeps hl2T G5.x.keep).isList, by omega, .none, .int _ _, slicePick_upto' _ _, fun p1 h₁₂ k₁₂ hp1 _ => ?_⟩
        have G6 := G5.keeps k₁₂
        refine R.dispL ?_
        refine wpAny_items_cons ?_
        refine R.ldF G6 hcs rfl ?_
        refine wpAny_items_nil ?_
        refine ⟨_, _, rfl, by simp, fun p2 h₁₃ k₁₃ hp2 _ => ?_⟩
        have G7 := G6.keeps k₁₃
        refine R.addL (plain_keeps hp1 k₁₃).isList hp2.isList (by simp; omega) (fun p3 h₁₄ k₁₄ hp3 _ => ?_)
        have G8 := G7.keeps k₁₄
        refine R.sliceL (g := gn) (d := dr) (o := os) ?_
        refine Mine.ld G8.x rfl ?_
        rw [evalPart_some]
        refine wpAny_BinOp ?_
        refine Mine.ld G8.x rfl ?_
        refine R.cI (fun _ _ => ?_)
        refine R.add (fun _ tk₁₅ => ?_)
        rw [evalPart_none]
        refine wpAny_pure ?_
        refine ⟨h₁₄, tk₁₅, l2, us, some (Int.ofNat (at_ + 1)), none, us.drop (at_ + 1), rfl, rfl, (plain_keeps hl2T G8.x.keep).isList, by omega, .int _ _, .none, slicePick_from' _ _, fun p4 h₁₅ k₁₅ hp4 _ => ?_⟩
        have G9 := G8.keeps k₁₅
        refine R.addL (plain_keeps hp3 k₁₅).isList hp4.isList (by simp; omega) (fun l3 h₁₆ k₁₆ hl3 _ => ?_)
        have G10 := G9.keeps k₁₆
        have hl3i : IntsAre (us.take at_ ++ [.int c tc] ++ us.drop (at_ + 1)) (put ini c at_) := intsAre_append (intsAre_append (IntsAre.take _ hus) (.cons _ _ .nil)) (IntsAre.drop _ hus)
        have hl3l : (put ini c at_).length ≤ 100 := by unfold put; simp; omega
        generalize us.take at_ ++ [.int c tc] ++ us.drop (at_ + 1) = v3 at hl3 hl3i
        generalize hpt : put ini c at_ = left3 at hl3i hl3l hgo
        have hv3 : v3.length = left3.length := hl3i.length
        obtain ⟨gT5, kG5, G10', gl5, gp5⟩ := G10.turnL
        have hl3T := gp5 _ _ hl3
        refine R.stF G10' (fun h₁₇ tk₁₇ G11 _ => ?_)
        refine wpAny_execs_cons ?_
        refine asg [(Str.ofString "moved", L + 1)] (fun v => match v with | .int n _ => decide (c < n) | _ => false) (fun v y => ∃ n t u, v = Value.int n t ∧ y = Value.int n u) ?c1 ?c2 ?c3 ?c4 ?c5 ?c6 ?c7 ?c8 ?c9 ?_
        case c1 => rfl
        case c2 => rfl
        case c3 => decide
        case c4 => rfl
        case c5 => decide
        case c6 => rfl
        case c7 => rfl
        case c8 => rfl
        case c9 => intro _; rfl
        refine R.sliceL (g := gn) (d := dr) (o := os) ?_
        refine Mine.ld G11.x rfl ?_
        rw [evalPart_none]
        refine wpAny_pure ?_
        rw [evalPart_some]
        refine Mine.ld G11.x rfl ?_
        refine ⟨h₁₇, _, l3, v3, none, some (Int.ofNat at_), v3.take at_, rfl, rfl, (plain_keeps hl3T G11.x.keep).isList, by omega, .none, .int _ _, slicePick_upto' _ _, fun q1 h₁₈ k₁₈ hq1 _ => ?_⟩
        have G12 := G11.keeps k₁₈
        have hc12 : h₁₈.IsCell (L + 1) (some (.int c tc)) := G12.cell _ _ hcs
        refine srcAList (s := ⟨h₁₈, gn, dr, tk₁₇, os⟩) hh' hq1.isList (le_line (by simp; omega)) G12.x.ns (fun C v s₃ m₃ E' hv hn hm hk hC => ?_) (fun C v s₃ m₃ E' hv _ hn hm hk hC => ?_) ?_
        · rcases s₃ with ⟨hq, gg, dd', tt', oo⟩
          obtain ⟨n', t', rfl, _⟩ := IntsAre.mem (IntsAre.take at_ hl3i) hv
          refine oneTest ?_
          refine wpAny_isTrue_Compare1 ?_
          refine ldN hn hm ?_
          refine R.ldC (c := L + 1) (cell_keeps hc12 hk) ?_
          refine gt_int ?_
          refine wpAny_truthy_bool ?_
          exact ⟨rfl, keeps_refl _⟩
        · obtain ⟨n', t', rfl, _⟩ := IntsAre.mem (IntsAre.take at_ hl3i) hv
          refine ldN hn hm ?_
          exact ⟨⟨n', t', t', rfl, rfl⟩, keeps_refl _⟩
        intro mo h₁₉ tk₁₉ zs nmo hmo hFm hns hx
        have G13 := G12.setE hns hx
        have izs := intsAre_map (f := fun n => n) (q := fun n => decide (c < n)) (fun _ _ => rfl) (IntsAre.take at_ hl3i) hFm
        have lzs : zs.length = ((left3.take at_).filter (fun x => decide (c < x))).length := by rw [izs.length]; simp
        obtain ⟨gT6, kG6, G13', gl6, gp6⟩ := G13.turnL
        have hmoT := gp6 _ _ hmo
        have hl3T6 := gp6 _ _ (plain_keeps hl3T G13.x.keep)
        clear izs hFm hmo
        refine wpAny_execs_cons ?_
        refine asg [(Str.ofString "moved", L + 1)] (fun v => match v with | .int n _ => decide (n < c) | _ => false) (fun v y => ∃ n t u, v = Value.int n t ∧ y = Value.int n u) ?e1 ?e2 ?e3 ?e4 ?e5 ?e6 ?e7 ?e8 ?e9 ?_
        case e1 => rfl
        case e2 => rfl
        case e3 => decide
        case e4 => rfl
        case e5 => decide
        case e6 => rfl
        case e7 => rfl
        case e8 => rfl
        case e9 => intro _; rfl
        refine R.sliceL (g := gn) (d := dr) (o := os) ?_
        refine Mine.ld G13'.x rfl ?_
        rw [evalPart_some]
        refine wpAny_BinOp ?_
        refine Mine.ld G13'.x rfl ?_
        refine R.cI (fun _ _ => ?_)
        refine R.add (fun _ tk₂₀ => ?_)
        rw [evalPart_none]
        refine wpAny_pure ?_
        refine ⟨h₁₉, tk₂₀, l3, v3, some (Int.ofNat (at_ + 1)), none, v3.drop (at_ + 1), rfl, rfl, (plain_keeps hl3T6 G13'.x.keep).isList, by omega, .int _ _, .none, slicePick_from' _ _, fun q2 h₂₀ k₂₀ hq2 _ => ?_⟩
        have G14 := G13'.keeps k₂₀
        have hc14 : h₂₀.IsCell (L + 1) (some (.int c tc)) := G14.cell _ _ hcs
        refine srcAList (s := ⟨h₂₀, gn, dr, tk₂₀, os⟩) hh' hq2.isList (le_line (by simp; omega)) G14.x.ns (fun C v s₃ m₃ E' hv hn hm hk hC => ?_) (fun C v s₃ m₃ E' hv _ hn hm hk hC => ?_) ?_
        · rcases s₃ with ⟨hq, gg, dd', tt', oo⟩
          obtain ⟨n', t', rfl, _⟩ := IntsAre.mem (IntsAre.drop (at_ + 1) hl3i) hv
          refine oneTest ?_
          refine wpAny_isTrue_Compare1 ?_
          refine ldN hn hm ?_
          refine R.ldC (c := L + 1) (cell_keeps hc14 hk) ?_
          refine lt_int ?_
          refine wpAny_truthy_bool ?_
          exact ⟨rfl, keeps_refl _⟩
        · obtain ⟨n', t', rfl, _⟩ := IntsAre.mem (IntsAre.drop (at_ + 1) hl3i) hv
          refine ldN hn hm ?_
          exact ⟨⟨n', t', t', rfl, rfl⟩, keeps_refl _⟩
        intro fe h₂₁ tk₂₁ ws nfe hfe hFf hns' hx'
        have G15 := G14.setE hns' hx'
        have iws := intsAre_map (f := fun n => n) (q := fun n => decide (n < c)) (fun _ _ => rfl) (IntsAre.drop (at_ + 1) hl3i) hFf
        have lws : ws.length = ((left3.drop (at_ + 1)).filter (fun x => decide (x < c))).length := by rw [iws.length]; simp
        clear iws hFf
        have lz1 : zs.length ≤ 100 := by rw [lzs]; exact Nat.le_trans (List.length_filter_le _ _) (by simp; omega)
        have lw1 : ws.length ≤ 100 := by rw [lws]; exact Nat.le_trans (List.length_filter_le _ _) (by simp; omega)
        have kH : Sub hp gT6 := ((kG.trans kG4).trans kG5).trans kG6
        have kB15 := kH.trans G15.x.keep
        refine wpAny_execs_cons ?_
        refine wpAny_AugAssign_Name ?_
        refine ldn G15.x e2 ?_
        refine callB2 (id := "min") ?_
        refine bl (B.keeps kB15) (B.free "min" (by decide)) PyProof.Rows.Boot.«min» ?_
        refine ⟨rfl, ?_⟩
        refine callB1 (id := "len") ?_
        refine bl (B.keeps kB15) (B.free "len" (by decide)) PyProof.Rows.Boot.«len» ?_
        refine ⟨rfl, ?_⟩
        refine Mine.ld G15.x rfl ?_
        refine R.len (plain_keeps hmoT G15.x.keep).isList (by omega) (fun _ _ => ?_)
        refine callB1 (id := "len") ?_
        refine bl (B.keeps kB15) (B.free "len" (by decide)) PyProof.Rows.Boot.«len» ?_
        refine ⟨rfl, ?_⟩
        refine Mine.ld G15.x rfl ?_
        refine R.len hfe.isList (by omega) (fun _ _ => ?_)
        refine R.min2 hh' (fun h₂₂ _ _ k₂₂ => ?_)
        have G16 := G15.keeps k₂₂
        refine R.iadd (fun tn _ => ?_)
        refine R.stF G16 (fun h₂₃ tk₂₃ G17 _ => ?_)
        refine wpAny_execs_nil ?_
        refine wpAny_execs_nil ?_
        refine ⟨k', Nat.lt_succ_self _, h₂₃, tk₂₃, _, _, l3, v3, left3, total + gain left3 c at_, tn, rfl, G17.weaken kH, rfl, plain_keeps hl3T6 G17.x.keep, hl3i, hl3l, ?_, hgo⟩
        show some (Value.int (Int.ofNat total + Int.ofNat (if ws.length < zs.length then ws.length else zs.length)) tn) = _
        rw [lzs, lws]
        rfl
      · rw [decide_eq_false (show ¬ Int.ofNat at_ < Int.ofNat us.length by simp; omega), if_neg Bool.false_ne_true]
        refine wpAny_execs_nil ?_
        refine wpAny_execs_nil ?_
        exact ⟨k', Nat.lt_succ_self _, h₁₁, tk₁₂, _, _, l2, us, ini, total, tt, rfl, G5.weaken (kG.trans kG4), rfl, plain_keeps hl2T G5.x.keep, hus, by omega, e2, hgo⟩
  · rintro s' ⟨h', tk, m, cm, t, rfl, G, e⟩
    refine wpAny_execs_cons ?_
    refine wpAny_Return_some ?_
    refine Mine.ld G.x e ?_
    exact h h' tk t G.x.keep
end
end Mine
end

section
open PySem PySem.Builtin PySem.Calls PyProof.Rows
set_option maxRecDepth 100000
namespace Mine
section
variable {prog : Program} {w : World} {A : Around} {E : Value → Shared → Prop} {R : Result → Shared → Prop} {s : Shared}
/-- a turn of a comprehension of one clause, any target -/
theorem turn1 {elt target iter : Expr} {scope : Scope} {pos : Pos} {it acc : Value} {env : Env} (I : Nat → Shared → Prop)
    (turn : ∀ n s, I n s → wpAny (model prog w) A (pyNext it) (fun r s₁ => match r with
      | none => R (.ok .next) s₁
      | some v => wpAny (model prog w) A (letOwnedTupleGo target it v) (fun _ s₂ => wpAny (model prog w) A (assign target env v) (fun _ s₃ => wpAny (model prog w) A (eval elt env) (fun x s₄ =>
          wpAny (model prog w) A (call (.builtin "list.append") [acc, x]) (fun _ s₅ => ∃ m, m < n ∧ I m s₅) NoE s₄) NoE s₃) NoE s₂) NoE s₁) NoE s)
    (n : Nat) (h : I n s) : codeAny (model prog w) A (.compLoop (.ListComp elt [⟨target, iter, [], 0⟩] scope pos) 0 it acc env) R s := by
  refine codeAny_loop rfl I (fun n s hI => ?_) n h
  show wpAny _ A ((compTurn (.ListComp elt [⟨target, iter, [], 0⟩] scope pos) 0 it acc env).onRaise (fun x => do noteFrame x env; theTreesLotGoes x)) _ _ s
  refine wpAny_noted ?_
  rw [compTurn_list1]
  refine wpAny_bind (wpAny_standAt (wpAny_bind (wpAny_mono (turn n s hI) (fun r s₁ h₁ => ?_) fun _ _ h' => h'.elim)))
  cases r with
  | none => exact wpAny_pure h₁
  | some v =>
    refine wpAny_bind (wpAny_mono h₁ (fun _ s₂ h₂ => ?_) fun _ _ h' => h'.elim)
    exact wpAny_bind (wpAny_mono h₂ (fun _ s₂ h₂ => wpAny_bind (wpAny_bind (wpAny_mono h₂ (fun x s₃ h₃ => wpAny_bind (wpAny_mono h₃
      (fun _ s₄ h₄ => wpAny_pure (wpAny_pure ⟨rfl, h₄⟩)) fun _ _ h' => h'.elim)) fun _ _ h' => h'.elim))) fun _ _ h' => h'.elim)
end
section
variable {prog : Program} {w : World} {A : Around} {E : Value → Shared → Prop} {env : Env} {g : Array GenState} {d : Drawn} {o : OsState} {s : Shared}
/-- a comprehension over a list, up to its loop -/
theorem lcRaw {elt target iter : Expr} {ifs : List Expr} {rest : List Comprehension} {scope : Scope} {pos : Pos} {Q : Value → Shared → Prop} (cl : List (Str × Addr))
    (hclos : closureFor scope env = pure cl) (hcell : ∀ y ∈ scope.names, y.2 ≠ .cell) (hkind : scope.kind = .function)
    (hnames : ∀ y ∈ scope.names, y.2 = .local → scope.names.lookup y.1 = some .local) (hs : ∀ x, foldedSetIterable iter env x = pure x)
    (h : wpAny (model prog w) A (eval iter env) (fun xv s₁ => ∃ h₁ tk₁ l vs, s₁ = ⟨h₁, g, d, tk₁, o⟩ ∧ xv = .ref l ∧ h₁.IsList l (vs : List Value).toArray ∧
      ∀ I D C h₃ tk₃, Sub h₁ h₃ → h₁.get? I = none → h₁.get? D = none → h₁.get? C = none → I ≠ D → I ≠ C → D ≠ C → h₃.IsListIter I l 0 → h₃.PlainList D #[] → (∃ m, h₃.Ns C m) →
        codeAny (model prog w) A (.compLoop (.ListComp elt (⟨target, iter, ifs, 0⟩ :: rest) scope pos) 0 (.ref I) (.ref D) (compEnvC scope cl C env))
          (fun r s' => r = .ok .next ∧ ∃ h' tk' m, s' = ⟨h', g, d, tk', o⟩ ∧ h'.Ns C m ∧ ∀ h'', Heap.SameBut C h' h'' → Q (.ref D) ⟨h'', g, d, tk', o⟩) ⟨h₃, g, d, tk₃, o⟩) E s) :
    wpAny (model prog w) A (eval (.ListComp elt (⟨target, iter, ifs, 0⟩ :: rest) scope pos) env) Q E s := by
  rw [eval_ListComp]
  refine wpAny_comprehension_free (use := none) rfl hs hclos hkind hnames (wpAny_mono h (fun xv s₁ h₁ => ?_) fun _ _ e => e)
  obtain ⟨h₁, tk₁, l, vs, rfl, rfl, hl, hloop⟩ := h₁
  refine wpAny_pyIter_list hl ?_
  refine wpAny_newObj_type (wpAny_newFunctionEnv hcell (by intro y hy; simp at hy) (fun h₃ hns₃ hsb₃ => ?_) hkind)
  dsimp only at hns₃ hsb₃ ⊢
  generalize hH1 : h₁.push { cls := .type "list_iterator", data := .fields #[.ref l, .int 0 0] } = H1 at hns₃ hsb₃ ⊢
  generalize hH2 : H1.push { cls := .type "list", dict := none, data := .seq ([] : List Value).toArray } = H2 at hns₃ hsb₃ ⊢
  have k1 : Sub h₁ H1 := hH1 ▸ Sub.push _ _
  have k2 : Sub H1 H2 := hH2 ▸ Sub.push _ _
  have nI : h₁.get? h₁.objs.size = none := fresh_none _
  have nD : H1.get? H1.objs.size = none := fresh_none _
  have nC : H2.get? H2.objs.size = none := fresh_none _
  have eI : H1.get? h₁.objs.size = some { cls := .type "list_iterator", data := .fields #[.ref l, .int 0 0] } := hH1 ▸ Heap.get?_push_size _ rfl
  have eD : H2.get? H1.objs.size = some { cls := .type "list", dict := none, data := .seq ([] : List Value).toArray } := hH2 ▸ Heap.get?_push_size _ rfl
  have hID : h₁.objs.size ≠ H1.objs.size := some_ne eI nD
  have hIC : h₁.objs.size ≠ H2.objs.size := some_ne (k2 _ _ eI) nC
  have hDC : H1.objs.size ≠ H2.objs.size := some_ne eD nC
  have k3 : Sub H2 h₃ := fun b ob e => hsb₃.extBut b ob (some_ne e nC) (Heap.get?_push_of_some _ e)
  have loop : ∀ tk₃, codeAny (model prog w) A (.compLoop (.ListComp elt (⟨target, iter, ifs, 0⟩ :: rest) scope pos) 0 (.ref h₁.objs.size) (.ref H1.objs.size) (compEnvC scope cl H2.objs.size env))
      (compPost (model prog w) A E none Q (.ref H1.objs.size) H2.objs.size) ⟨h₃, g, d, tk₃, o⟩ := by
    intro tk₃
    refine codeAny_mono (hloop h₁.objs.size H1.objs.size H2.objs.size h₃ tk₃ (k1.trans (k2.trans k3)) nI (sub_none k1 nD) (sub_none (k1.trans k2) nC) hID hIC hDC ⟨_, k3 _ _ (k2 _ _ eI), rfl, rfl⟩ ⟨_, k3 _ _ eD⟩ ⟨_, hns₃⟩) ?_
    rintro r s' ⟨rfl, h', tk', m, rfl, hn, hq⟩
    exact ⟨m, hn, hq⟩
  exact codeAny_compStart_list (loop _) (wpAny_pyIter_listiter (s := ⟨h₃, g, d, _, o⟩) ⟨_, k3 _ _ (k2 _ _ eI), rfl, rfl⟩ (loop _))
end
end Mine
end

section
open PySem PySem.Builtin PySem.Calls PyProof.Rows
set_option maxRecDepth 100000
namespace Mine
section
variable {prog : Program} {w : World} {A : Around} {E : Value → Shared → Prop} {env : Env} {g : Array GenState} {d : Drawn} {o : OsState} {s : Shared}
theorem tup_ext {h h' : Heap} {a x : Addr} {vs : Array Value} (t : h.IsTuple a vs) (k : Heap.ExtBut x h h') (hn : a ≠ x) : h'.IsTuple a vs := let ⟨o, ho, r⟩ := t; ⟨o, k _ _ hn ho, r⟩
/-- `[… for x, y in rows]` -/
theorem lcPairs {elt iter : Expr} {x y : Str} {px py tpos : Pos} {k : Nat} {scope : Scope} {pos : Pos} {Q : Value → Shared → Prop} (cl : List (Str × Addr)) (sel : Nat × Nat → Nat)
    (hclos : closureFor scope env = pure cl) (hcell : ∀ y ∈ scope.names, y.2 ≠ .cell) (hkind : scope.kind = .function)
    (hnames : ∀ y ∈ scope.names, y.2 = .local → scope.names.lookup y.1 = some .local) (hs : ∀ x, foldedSetIterable iter env x = pure x)
    (hx : scope.names.lookup x = some .local) (hy : scope.names.lookup y = some .local) (hxy : x ≠ y) (hh : A.handled = none)
    (h : wpAny (model prog w) A (eval iter env) (fun xv s₁ => ∃ h₁ tk₁ l vs rs, s₁ = ⟨h₁, g, d, tk₁, o⟩ ∧ xv = .ref l ∧ h₁.IsList l (vs : List Value).toArray ∧ RowsAt h₁ (fun _ => True) vs rs ∧ vs.length ≤ 1000 ∧
      (∀ C m h' tk p t1 t2 Q', h'.Ns C m → m x = some (.int (Int.ofNat (p : Nat × Nat).1) t1) → m y = some (.int (Int.ofNat p.2) t2) → (∀ t, Q' (.int (Int.ofNat (sel p)) t) ⟨h', g, d, tk, o⟩) →
        wpAny (model prog w) A (eval elt (compEnvC scope cl C env)) Q' NoE ⟨h', g, d, tk, o⟩) ∧
      ∀ D h' tk ys, h₁.get? D = none → h'.PlainList D (ys : List Value).toArray → IntsAre ys (nats (rs.map sel)) → Sub h₁ h' → Q (.ref D) ⟨h', g, d, tk, o⟩) E s) :
    wpAny (model prog w) A (eval (.ListComp elt [⟨.Tuple [.Name x px, .Name y py] k tpos, iter, [], 0⟩] scope pos) env) Q E s := by
  refine lcRaw (g := g) (d := d) (o := o) cl hclos hcell hkind hnames hs (wpAny_mono h (fun xv s₁ h₁ => ?_) fun _ _ e => e)
  obtain ⟨h₁, tk₁, l, vs, rs, rfl, rfl, hl, hrs, hlen, helt, hfin⟩ := h₁
  refine ⟨h₁, tk₁, l, vs, rfl, rfl, hl, fun I D C h₃ tk₃ k₃ nI nD nC hID hIC hDC hI hD ⟨m₃, hC⟩ => ?_⟩
  have hkC : (compEnvC scope cl C env).scope.kind = .function := by simp [compEnvC, relabel, hkind]
  have hp : ((compEnvC scope cl C env).scope.kind == .class || ((compEnvC scope cl C env).scope.kind == .module && (compEnvC scope cl C env).locals != (compEnvC scope cl C env).globals)) = false := by rw [hkC]; rfl
  have hxl : (compEnvC scope cl C env).kindOf x = some .local := lookup_relabel_local hx
  have hyl : (compEnvC scope cl C env).kindOf y = some .local := lookup_relabel_local hy
  -- what is kept: all of h₁
  refine turn1 (fun n s' => ∃ h' tk m i ys, s' = ⟨h', g, d, tk, o⟩ ∧ Sub h₁ h' ∧ h'.Ns C m ∧ h'.IsListIter I l i ∧ h'.PlainList D (ys : List Value).toArray ∧ IntsAre ys (nats ((rs.take i).map sel)) ∧ i + n = vs.length) ?_ vs.length
    ⟨h₃, tk₃, m₃, 0, [], rfl, k₃, hC, hI, hD, .nil, by simp⟩
  rintro n s' ⟨h', tk, m, i, ys, rfl, k', hC', hI', hD', hys, hin⟩
  have kx : ∀ {a : Addr} {q q' : Heap}, h₁.get? a = none → Sub h₁ q → Heap.ExtBut a q q' → Sub h₁ q' := fun ha kq e b ob eb => e b ob (some_ne eb ha) (kq b ob eb)
  by_cases hi : i < vs.length
  · have hir : i < rs.length := by have := hrs.length; omega
    obtain ⟨a, t1, t2, ea, ht⟩ := hrs.get (i := i) (d := rs[i].1) (n := rs[i].2) (by simp [hir])
    refine wpAny_pyNext_list_item hI' (isList_keeps hl k') (by simpa using ea) fun h₄ hI4 hs4 => ?_
    have k4 := kx nI k' hs4.extBut
    have hC4 := hC'.extBut hs4.extBut hIC.symm
    have hD4 := hD'.extBut hs4.extBut hID.symm
    refine wpAny_letOwnedTupleGo_listiter (l := l) (i := i + 1) hI4 ?_
    refine R.assign2 hh (tuple_keeps ht k4) fun h₅ k5 => ?_
    have hC5 := hC4.keeps k5
    refine wpAny_storeName_local (s := ⟨h₅, g, d, tk, o⟩) hxl hC5 (fun h₆ hC6 hs6 => ?_) hp
    refine wpAny_storeName_local hyl hC6 (fun h₇ hC7 hs7 => ?_) hp
    have k7 := kx nC (kx nC (k4.trans k5) hs6.extBut) hs7.extBut
    have hI7 : h₇.IsListIter I l (i + 1) := by
      obtain ⟨ob, ho, r⟩ := hI4
      exact ⟨ob, hs7.extBut _ _ hIC (hs6.extBut _ _ hIC (k5 _ _ ho)), r⟩
    have hD7 := ((plain_keeps hD4 k5).extBut hs6.extBut hDC).extBut hs7.extBut hDC
    refine helt C _ h₇ _ rs[i] t1 t2 _ hC7 ?_ ?_ (fun t => ?_)
    · simp [hxy]
    · simp
    · have hyl' : ys.length ≤ 1000 := by rw [hys.length]; simp [nats]; omega
      refine R.appendL hD7 (by omega) (fun h₈ hD8 hs8 => ?_)
      refine ⟨n - 1, by omega, h₈, _, _, i + 1, _, rfl, kx nD k7 hs8.extBut, hC7.extBut hs8.extBut hDC.symm, ?_, hD8, ?_, by omega⟩
      · obtain ⟨ob, ho, r⟩ := hI7
        exact ⟨ob, hs8.extBut _ _ hID ho, r⟩
      · have e : rs.take (i + 1) = rs.take i ++ [rs[i]] := by simp
        rw [e, List.map_append, nats, List.map_append]
        exact intsAre_append hys (.cons _ _ .nil)
  · refine wpAny_pyNext_list_end hh hI' (isList_keeps hl k') (by simp; omega) fun h₄ he4 => ?_
    have k4 := kx nI k' he4
    refine ⟨rfl, h₄, tk, m, rfl, hC'.extBut he4 hIC.symm, fun h₅ hs5 => ?_⟩
    have hrl : rs.length ≤ i := by have := hrs.length; omega
    rw [List.take_of_length_le hrl] at hys
    exact hfin D h₅ tk ys nD ((hD'.extBut he4 hID.symm).extBut hs5.extBut hDC) hys (kx nC k4 hs5.extBut)
end
end Mine
end

section
open PySem PySem.Builtin PySem.Calls PyProof.Rows
set_option maxRecDepth 100000
namespace Mine
section
variable {prog : Program} {w : World} {A : Around} {E : Value → Shared → Prop} {R : Result → Shared → Prop} {s : Shared}
theorem compTurn_two0 (elt t0 i0 t1 i1 : Expr) (scope : Scope) (pos : Pos) (it acc : Value) (env : Env) :
    compTurn (.ListComp elt [⟨t0, i0, [], 0⟩, ⟨t1, i1, [], 0⟩] scope pos) 0 it acc env = (standAt i0.pos >>= fun _ => pyNext it >>= fun r => match r with
      | none => pure (.done .next)
      | some v => letOwnedTupleGo t0 it v >>= fun _ => assign t0 env v >>= fun _ => eval i1 env >>= fun x => standAt i1.pos >>= fun _ => foldedSetIterable i1 env x >>= fun x => holding [x] (pyIter x) >>= fun it' =>
        runOwn (.compStart (.ListComp elt [⟨t0, i0, [], 0⟩, ⟨t1, i1, [], 0⟩] scope pos) 1 it' acc env) env >>= fun _ =>
          again (.compLoop (.ListComp elt [⟨t0, i0, [], 0⟩, ⟨t1, i1, [], 0⟩] scope pos) 0 it acc env)) := by rfl
theorem compTurn_two1 (elt t0 i0 t1 i1 : Expr) (scope : Scope) (pos : Pos) (it acc : Value) (env : Env) :
    compTurn (.ListComp elt [⟨t0, i0, [], 0⟩, ⟨t1, i1, [], 0⟩] scope pos) 1 it acc env = (standAt i1.pos >>= fun _ => pyNext it >>= fun r => match r with
      | none => pure (.done .next)
      | some v => letOwnedTupleGo t1 it v >>= fun _ => assign t1 env v >>= fun _ =>
        (eval elt env >>= fun x => call (.builtin "list.append") [acc, x] >>= fun _ => pure ()) >>= fun _ =>
          again (.compLoop (.ListComp elt [⟨t0, i0, [], 0⟩, ⟨t1, i1, [], 0⟩] scope pos) 1 it acc env)) := by rfl
theorem start1 {elt t0 i0 t1 i1 : Expr} {scope : Scope} {pos : Pos} {it acc : Value} {env : Env}
    (h0 : codeAny (model prog w) A (.compLoop (.ListComp elt [⟨t0, i0, [], 0⟩, ⟨t1, i1, [], 0⟩] scope pos) 1 it acc env) R s)
    (h : wpAny (model prog w) A (pyIter it) (fun it' s' => codeAny (model prog w) A (.compLoop (.ListComp elt [⟨t0, i0, [], 0⟩, ⟨t1, i1, [], 0⟩] scope pos) 1 it' acc env) R s') NoE s) :
    codeAny (model prog w) A (.compStart (.ListComp elt [⟨t0, i0, [], 0⟩, ⟨t1, i1, [], 0⟩] scope pos) 1 it acc env) R s := by
  refine codeAny_of_tree ?_
  show wpAny _ _ ((compStart (.ListComp elt [⟨t0, i0, [], 0⟩, ⟨t1, i1, [], 0⟩] scope pos) 1 it acc env).onRaise (fun x => do noteFrame x env; standAt theWindowsPlace)) _ _ s
  refine wpAny_notedAt ?_
  unfold compStart
  show wpAny _ _ (ask >>= _) _ _ s
  refine wpAny_bind (wpAny_askSetting (wpAny_ite ?_))
  split
  · first
      | exact wpAny_bind (wpAny_pure (wpAny_pure (And.intro rfl h0)))
      | exact wpAny_pure (And.intro rfl h0)
  · first
      | exact wpAny_bind (wpAny_rule (wpAny_bind (wpAny_standAt (wpAny_bind (wpAny_mono h (fun it' s' h' => wpAny_pure (And.intro rfl h')) fun _ _ x => x.elim)))))
      | (refine wpAny_bind (wpAny_rule ?_); show wpAny _ _ (standAt i1.pos >>= _) _ _ s; exact wpAny_bind (wpAny_standAt (wpAny_bind (wpAny_mono h (fun it' s' h' => wpAny_pure (And.intro rfl h')) fun _ _ x => x.elim))))
theorem turn21 {elt t0 i0 t1 i1 : Expr} {scope : Scope} {pos : Pos} {it acc : Value} {env : Env} (I : Nat → Shared → Prop)
    (turn : ∀ n s, I n s → wpAny (model prog w) A (pyNext it) (fun r s₁ => match r with
      | none => R (.ok .next) s₁
      | some v => wpAny (model prog w) A (assign t1 env v) (fun _ s₃ => wpAny (model prog w) A (eval elt env) (fun x s₄ =>
          wpAny (model prog w) A (call (.builtin "list.append") [acc, x]) (fun _ s₅ => ∃ m, m < n ∧ I m s₅) NoE s₄) NoE s₃) NoE s₁) NoE s)
    (n : Nat) (h : I n s) (ht : ∀ v, letOwnedTupleGo t1 it v = pure ()) : codeAny (model prog w) A (.compLoop (.ListComp elt [⟨t0, i0, [], 0⟩, ⟨t1, i1, [], 0⟩] scope pos) 1 it acc env) R s := by
  refine codeAny_loop rfl I (fun n s hI => ?_) n h
  show wpAny _ A ((compTurn (.ListComp elt [⟨t0, i0, [], 0⟩, ⟨t1, i1, [], 0⟩] scope pos) 1 it acc env).onRaise (fun x => do noteFrame x env; theTreesLotGoes x)) _ _ s
  refine wpAny_noted ?_
  rw [compTurn_two1]
  refine wpAny_bind (wpAny_standAt (wpAny_bind (wpAny_mono (turn n s hI) (fun r s₁ h₁ => ?_) fun _ _ h' => h'.elim)))
  cases r with
  | none => exact wpAny_pure h₁
  | some v =>
    refine wpAny_bind (wpAny_of_eq (ht v) ?_)
    exact wpAny_bind (wpAny_mono h₁ (fun _ s₂ h₂ => wpAny_bind (wpAny_bind (wpAny_mono h₂ (fun x s₃ h₃ => wpAny_bind (wpAny_mono h₃
      (fun _ s₄ h₄ => wpAny_pure (wpAny_pure ⟨rfl, h₄⟩)) fun _ _ h' => h'.elim)) fun _ _ h' => h'.elim))) fun _ _ h' => h'.elim)
theorem turn20 {elt t0 i0 t1 i1 : Expr} {scope : Scope} {pos : Pos} {it acc : Value} {env : Env} (I : Nat → Shared → Prop)
    (turn : ∀ n s, I n s → wpAny (model prog w) A (pyNext it) (fun r s₁ => match r with
      | none => R (.ok .next) s₁
      | some v => wpAny (model prog w) A (assign t0 env v) (fun _ s₃ => wpAny (model prog w) A (eval i1 env) (fun x s₄ => wpAny (model prog w) A (pyIter x) (fun it' s₅ =>
          codeAny (model prog w) A (.compStart (.ListComp elt [⟨t0, i0, [], 0⟩, ⟨t1, i1, [], 0⟩] scope pos) 1 it' acc env) (fun r s₆ => r = .ok .next ∧ ∃ m, m < n ∧ I m s₆) s₅) NoE s₄) NoE s₃) NoE s₁) NoE s)
    (n : Nat) (h : I n s) (ht : ∀ v, letOwnedTupleGo t0 it v = pure ()) (hf : ∀ x, foldedSetIterable i1 env x = pure x) : codeAny (model prog w) A (.compLoop (.ListComp elt [⟨t0, i0, [], 0⟩, ⟨t1, i1, [], 0⟩] scope pos) 0 it acc env) R s := by
  refine codeAny_loop rfl I (fun n s hI => ?_) n h
  show wpAny _ A ((compTurn (.ListComp elt [⟨t0, i0, [], 0⟩, ⟨t1, i1, [], 0⟩] scope pos) 0 it acc env).onRaise (fun x => do noteFrame x env; theTreesLotGoes x)) _ _ s
  refine wpAny_noted ?_
  rw [compTurn_two0]
  refine wpAny_bind (wpAny_standAt (wpAny_bind (wpAny_mono (turn n s hI) (fun r s₁ h₁ => ?_) fun _ _ h' => h'.elim)))
  cases r with
  | none => exact wpAny_pure h₁
  | some v =>
    refine wpAny_bind (wpAny_of_eq (ht v) ?_)
    refine wpAny_bind (wpAny_mono h₁ (fun _ s₂ h₂ => ?_) fun _ _ h' => h'.elim)
    refine wpAny_bind (wpAny_mono h₂ (fun x s₃ h₃ => ?_) fun _ _ h' => h'.elim)
    refine wpAny_bind (wpAny_standAt ?_)
    refine wpAny_bind (wpAny_of_eq (hf x) ?_)
    refine wpAny_bind (wpAny_holding (wpAny_mono h₃ (fun it' s₄ h₄ => ?_) fun _ _ h' => h'.elim))
    refine wpAny_bind (wpAny_runOwn (codeAny_mono (A := A) h₄ fun r s₅ h₅ => ?_))
    obtain ⟨rfl, h₅⟩ := h₅
    exact wpAny_pure ⟨rfl, h₅⟩
end
end Mine
end

section
open PySem PySem.Builtin PySem.Calls PyProof.Rows
set_option maxRecDepth 100000
namespace Mine
namespace R
variable {prog : Program} {w : World} {A : Around} {E : Value → Shared → Prop} {hp : Heap} {g : Array GenState} {d : Drawn} {tk : Nat} {o : OsState} {Q : Value → Shared → Prop}
theorem iaddL {l b : Addr} {vs ws : List Value} (hl : hp.PlainList l vs.toArray) (hb : hp.PlainList b ws.toArray) (hsz : vs.length + ws.length ≤ 1000000)
    (h : ∀ h', h'.PlainList l (vs ++ ws).toArray → Heap.SameBut l hp h' → Q (.ref l) ⟨h', g, d, tk, o⟩) :
    wpAny (model prog w) A (inplaceOp .Add (.ref l) (.ref b)) Q E ⟨hp, g, d, tk, o⟩ := by
  have e24 : sizeLine = 16777216 := by decide
  obtain ⟨n, ho⟩ := id hl
  obtain ⟨n2, ho2⟩ := id hb
  have ha : Shared.TypeIs ⟨hp, g, d, tk, o⟩ (.ref l) "list" := hl.isList.typeIs
  have hb' : Shared.TypeIs ⟨hp, g, d, tk, o⟩ (.ref b) "list" := hb.isList.typeIs
  have hlk : typeLookup (.type "list") (dunderI "add") = pure (some (.builtin "list.__iadd__")) := PySem.F.slot_list_iadd.lookup
  have hseq : isSeqSlot (some (.builtin "list.__iadd__")) = true := by decide +kernel
  unfold inplaceOp
  refine wpAny_holding ?_
  have hfi : fillsInplaceSlot (.type "list") "add" (Operator.Add == .Add) = pure false := by
    unfold fillsInplaceSlot
    show (typeLookup (.type "list") (dunderI "add") >>= fun fi => pure (fi.isSome && !isSeqSlot fi)) = pure false
    rw [hlk, pure_bind, hseq]; rfl
  refine wpAny_bind (wpAny_typeOf ha (wpAny_bind (wpAny_of_eq hfi ?_)))
  show wpAny _ A (if false = true then _ else _) Q E _
  rw [if_neg Bool.false_ne_true]
  refine wpAny_bind (wpAny_binaryOp1_none (nm := "add") ha hb' noFill_list_add ?_)
  refine wpAny_bind (wpAny_of_eq (PySem.seqSlot_of hlk hseq) ?_)
  refine wpAny_bind (wpAny_rule ?_)
  refine call_meets PySem.F.slot_list_iadd ha PySem.F.entry_list_iadd (PySem.F.args_list_iadd_2 _ _) (AutoSeq1.list___iadd___list_list_0 l vs.toArray n b ws.toArray n2 ?_ ?_ ?_) ⟨ho, ho2, ?_⟩
  · intro q
    have q2 := (Bool.and_eq_true_iff.mp q).2
    revert q2
    show ¬ Builtin.List.listTooLong (vs.toArray.size + ws.toArray.size) = true
    unfold Builtin.List.listTooLong
    simp
    omega
  · simp; omega
  · simp; omega
  · refine h _ ?_ (Heap.SameBut.update ..)
    exact ⟨if ws = [] then n else n + 1, by
      rw [Heap.get?_update_self _ ho (Obj.isFreed_of_seq (Obj.data_mapSeq rfl _).choose_spec)]
      simp [Obj.mapSeq]⟩
/-- is a list empty? -/
theorem eqEmpty {l b : Addr} {vs : List Value} (hl : hp.IsList l vs.toArray) (hb : hp.IsList b #[]) (hu : A.units < cLine)
    (h : Q (.bool (decide (vs.length = 0))) ⟨hp, g, d, tk, o⟩) : wpAny (model prog w) A (compareOp .Eq (.ref l) (.ref b)) Q E ⟨hp, g, d, tk, o⟩ := by
  cases vs with
  | nil => exact PySem.SeqAt.eq_listAt (s := ⟨hp, g, d, tk, o⟩) (e := fun _ => true) hl hb rfl hu (fun j h1 _ => absurd h1 (Nat.not_lt_zero _)) h
  | cons v vs => exact PySem.SeqAt.eq_list_lengthsAt (s := ⟨hp, g, d, tk, o⟩) hl hb (by simp) hu h
/-- the sum of a list of ints -/
theorem sumL {l : Addr} {vs : List Value} {ns : List Int} (hh : A.handled = none) (hl : hp.IsList l vs.toArray) (hi : IntsAre vs ns)
    (h : ∀ h' tk' t, Sub hp h' → Q (.int ns.sum t) ⟨h', g, d, tk', o⟩) : wpAny (model prog w) A (call (.builtin "sum") [.ref l]) Q E ⟨hp, g, d, tk, o⟩ := by
  refine call_sum_walkG (wpAny_pyIter_list (s := ⟨hp, g, d, tk, o⟩) hl ?_)
  obtain ⟨ol, hol, _⟩ := id hl
  have hne : l ≠ hp.objs.size := Nat.ne_of_lt (Heap.lt_size hol)
  have hlen := hi.length
  refine ⟨hp.objs.size, _, _, _, _, _, fun i => ns.getD i 0, rfl, Walks.list (A := A.in1) hh _ l hne vs.toArray, ⟨⟨_, Heap.get?_push_size _ rfl, rfl, rfl⟩, hl.push _⟩, ?_, ?_, ?_⟩
  · intro b hb
    show b < (hp.push _).objs.size
    rw [Heap.size_push]
    rcases List.mem_cons.mp hb with e | hb
    · rw [e]; exact Nat.lt_succ_self _
    · rw [List.mem_singleton.mp hb]; exact Nat.lt_succ_of_lt (Heap.lt_size hol)
  · intro i v hv
    have hv' : vs[i]? = some v := by simpa using hv
    have hil : i < ns.length := by
      rcases Nat.lt_or_ge i vs.length with q | q
      · omega
      · rw [List.getElem?_eq_none q] at hv'; cases hv'
    obtain ⟨t, e⟩ := hi.get i ns[i] (by simp [hil])
    rw [e] at hv'; cases hv'
    exact ⟨t, by simp [List.getD, hil]⟩
  · intro h' tk' t' hk
    rw [preSum_getD]
    have e : ns.take vs.toArray.size = ns := List.take_of_length_le (by simp; omega)
    rw [e]
    exact h h' tk' t' fun b ob eb => hk b ob (fun q => old_new eb q) (Heap.get?_push_of_some _ eb)
theorem abs {a : Int} {t : Tok} (h : ∀ t tk', Q (.int (if a < 0 then -a else a) t) ⟨hp, g, d, tk', o⟩) : wpAny (model prog w) A (call (.builtin "abs") [.int a t]) Q E ⟨hp, g, d, tk, o⟩ := call_abs_int (s := ⟨hp, g, d, tk, o⟩) (fun u tk => h u tk)
theorem minI {a b : Int} {t u : Tok} (hh : A.handled = none) (h : ∀ h' tk' t, Sub hp h' → Q (.int (if b < a then b else a) t) ⟨h', g, d, tk', o⟩) :
    wpAny (model prog w) A (call (.builtin "min") [.int a t, .int b u]) Q E ⟨hp, g, d, tk, o⟩ := by
  refine min_two_ints (s := ⟨hp, g, d, tk, o⟩) hh (fun h' tk' k => ?_)
  by_cases q : b < a
  · have e := h h' tk' u k
    rw [if_pos q] at e
    rw [if_pos q]; exact e
  · have e := h h' tk' t k
    rw [if_neg q] at e
    rw [if_neg q]; exact e
end R
end Mine
end

section
open PySem PySem.Builtin PySem.Calls PyProof.Rows
set_option maxRecDepth 100000
namespace Mine
/-- a new ground, without one object more -/
theorem FC.turnX {h₀ h : Heap} {L : Addr} {cs : List (Str × Addr)} {m cm : Str → Option Value} (F : FC h₀ L cs h m cm) (x : Addr) (hx : h₀.get? x = none) :
    ∃ hT, Sub h₀ hT ∧ FC hT L cs h m cm ∧ hT.get? x = none ∧ ∀ b o, h.get? b = some o → b ≠ L → (∀ n c, cs.lookup n = some c → b ≠ c) → b ≠ x → hT.get? b = some o := by
  obtain ⟨hT, k, T, e⟩ := F.turn
  refine ⟨W.hideAll hT [x], ?_, ⟨⟨T.x.ns, fun b o eb => T.x.keep b o (W.of_hideAll _ eb), ?_⟩, T.cell, T.apart, fun n c q => ?_⟩, W.hideAll_none _ (.head _), fun b o eb hL hc hbx => W.hideAll_get _ (e b o eb hL hc) fun q => hbx (List.mem_singleton.mp q)⟩
  · exact fun b o eb => W.hideAll_get _ (k b o eb) fun q => some_ne eb hx (List.mem_singleton.mp q)
  · cases q : (W.hideAll hT [x]).get? L with
    | none => rfl
    | some o => have := W.of_hideAll _ q; rw [T.x.off] at this; cases this
  · cases q' : (W.hideAll hT [x]).get? c with
    | none => rfl
    | some o => have := W.of_hideAll _ q'; rw [T.offc n c q] at this; cases this
section
variable {prog : Program} {w : World} {A : Around} {E : Value → Shared → Prop} {env : Env} {g : Array GenState} {d : Drawn} {o : OsState} {s : Shared}
/-- `[… for x in l for y in l']`: how many there are -/
theorem lcTwo {elt i0 i1 : Expr} {x y : Str} {px py : Pos} {scope : Scope} {pos : Pos} {Q : Value → Shared → Prop} (cl : List (Str × Addr))
    (hclos : closureFor scope env = pure cl) (hcell : ∀ y ∈ scope.names, y.2 ≠ .cell) (hkind : scope.kind = .function)
    (hnames : ∀ y ∈ scope.names, y.2 = .local → scope.names.lookup y.1 = some .local) (hs : ∀ x, foldedSetIterable i0 env x = pure x) (hs1 : ∀ C x, foldedSetIterable i1 (compEnvC scope cl C env) x = pure x)
    (hx : scope.names.lookup x = some .local) (hy : scope.names.lookup y = some .local) (hxy : x ≠ y) (hh : A.handled = none)
    (h : wpAny (model prog w) A (eval i0 env) (fun xv s₁ => ∃ h₁ tk₁ l vs l' us, s₁ = ⟨h₁, g, d, tk₁, o⟩ ∧ xv = .ref l ∧ h₁.IsList l (vs : List Value).toArray ∧ h₁.IsList l' (us : List Value).toArray ∧ vs.length ≤ 100 ∧ us.length ≤ 100 ∧
      (∀ C h' tk Q', Sub h₁ h' → Q' (.ref l') ⟨h', g, d, tk, o⟩ → wpAny (model prog w) A (eval i1 (compEnvC scope cl C env)) Q' NoE ⟨h', g, d, tk, o⟩) ∧
      (∀ C m h' tk v u Q', Sub h₁ h' → h'.Ns C m → m x = some v → m y = some u → (∀ z h'' tk'', Sub h' h'' → Q' z ⟨h'', g, d, tk'', o⟩) →
        wpAny (model prog w) A (eval elt (compEnvC scope cl C env)) Q' NoE ⟨h', g, d, tk, o⟩) ∧
      ∀ D h' tk ys, h₁.get? D = none → h'.PlainList D (ys : List Value).toArray → ys.length = vs.length * us.length → Sub h₁ h' → Q (.ref D) ⟨h', g, d, tk, o⟩) E s) :
    wpAny (model prog w) A (eval (.ListComp elt [⟨.Name x px, i0, [], 0⟩, ⟨.Name y py, i1, [], 0⟩] scope pos) env) Q E s := by
  refine lcRaw (g := g) (d := d) (o := o) cl hclos hcell hkind hnames hs (wpAny_mono h (fun xv s₁ h₁ => ?_) fun _ _ e => e)
  obtain ⟨h₁, tk₁, l, vs, l', us, rfl, rfl, hl, hl', hlen, hlen', hi1, helt, hfin⟩ := h₁
  refine ⟨h₁, tk₁, l, vs, rfl, rfl, hl, fun I D C h₃ tk₃ k₃ nI nD nC hID hIC hDC hI hD ⟨m₃, hC⟩ => ?_⟩
  have hkC : (compEnvC scope cl C env).scope.kind = .function := by simp [compEnvC, relabel, hkind]
  have hp : ((compEnvC scope cl C env).scope.kind == .class || ((compEnvC scope cl C env).scope.kind == .module && (compEnvC scope cl C env).locals != (compEnvC scope cl C env).globals)) = false := by rw [hkC]; rfl
  have hxl : (compEnvC scope cl C env).kindOf x = some .local := lookup_relabel_local hx
  have hyl : (compEnvC scope cl C env).kindOf y = some .local := lookup_relabel_local hy
  have kx : ∀ {a : Addr} {q q' : Heap}, h₁.get? a = none → Sub h₁ q → Heap.ExtBut a q q' → Sub h₁ q' := fun ha kq e b ob eb => e b ob (some_ne eb ha) (kq b ob eb)
  refine turn20 (fun n s' => ∃ h' tk m i ys, s' = ⟨h', g, d, tk, o⟩ ∧ Sub h₁ h' ∧ h'.Ns C m ∧ h'.IsListIter I l i ∧ h'.PlainList D (ys : List Value).toArray ∧ ys.length = i * us.length ∧ i + n = vs.length) ?_ vs.length
    ⟨h₃, tk₃, m₃, 0, [], rfl, k₃, hC, hI, hD, by simp, by simp⟩ (fun _ => rfl) (hs1 C)
  rintro n s' ⟨h', tk, m, i, ys, rfl, k', hC', hI', hD', hys, hin⟩
  by_cases hi : i < vs.length
  · have hbig : i * us.length ≤ 100 * 100 := Nat.mul_le_mul (by omega) hlen'
    refine wpAny_pyNext_list_item (x := vs[i]) hI' (isList_keeps hl k') (by simp [hi]) fun h₄ hI4 hs4 => ?_
    have k4 := kx nI k' hs4.extBut
    have hC4 := hC'.extBut hs4.extBut hIC.symm
    have hD4 := hD'.extBut hs4.extBut hID.symm
    refine wpAny_assign_Name (wpAny_storeName_local (s := ⟨h₄, g, d, tk, o⟩) hxl hC4 (fun h₅ hC5 hs5 => ?_) hp)
    have k5 := kx nC k4 hs5.extBut
    have hD5 := hD4.extBut hs5.extBut hDC
    have hI5 : h₅.IsListIter I l (i + 1) := by
      obtain ⟨ob, ho, r⟩ := hI4
      exact ⟨ob, hs5.extBut _ _ hIC ho, r⟩
    refine hi1 C h₅ _ _ k5 ?_
    refine wpAny_pyIter_list (isList_keeps hl' k5) ?_
    -- the inner iterator
    have nJ : h₅.get? h₅.objs.size = none := fresh_none _
    generalize hH6 : h₅.push { cls := .type "list_iterator", data := .fields #[.ref l', .int 0 0] } = h₆
    have k6 : Sub h₅ h₆ := hH6 ▸ Sub.push _ _
    have eJ : h₆.get? h₅.objs.size = some { cls := .type "list_iterator", data := .fields #[.ref l', .int 0 0] } := hH6 ▸ Heap.get?_push_size _ rfl
    generalize h₅.objs.size = J at nJ eJ
    have hJI : J ≠ I := by obtain ⟨ob, ho, _⟩ := hI5; exact (some_ne ho nJ).symm
    have hJC : J ≠ C := (ns_ne hC5 nJ).symm
    have hJD : J ≠ D := by obtain ⟨ob, ho⟩ := hD5; exact (some_ne ho nJ).symm
    have n1J : h₁.get? J = none := sub_none k5 nJ
    have loop : ∀ tk₇, codeAny (model prog w) A (.compLoop (.ListComp elt [⟨.Name x px, i0, [], 0⟩, ⟨.Name y py, i1, [], 0⟩] scope pos) 1 (.ref J) (.ref D) (compEnvC scope cl C env))
        (fun r s₆ => r = .ok .next ∧ ∃ m_1, m_1 < n ∧ ∃ h' tk m i ys, s₆ = ⟨h', g, d, tk, o⟩ ∧ Sub h₁ h' ∧ h'.Ns C m ∧ h'.IsListIter I l i ∧ h'.PlainList D (ys : List Value).toArray ∧ ys.length = i * us.length ∧ i + m_1 = vs.length) ⟨h₆, g, d, tk₇, o⟩ := by
      intro tk₇
      refine turn21 (fun n' s' => ∃ h' tk m j ys', s' = ⟨h', g, d, tk, o⟩ ∧ Sub h₁ h' ∧ h'.Ns C m ∧ m x = some vs[i] ∧ h'.IsListIter I l (i + 1) ∧ h'.IsListIter J l' j ∧ h'.PlainList D (ys' : List Value).toArray ∧ ys'.length = i * us.length + j ∧ j + n' = us.length) ?_ us.length
        ⟨h₆, tk₇, _, 0, ys, rfl, k5.trans k6, hC5.keeps k6, by simp, iter_keeps hI5 k6, ⟨_, eJ, rfl, rfl⟩, plain_keeps hD5 k6, by simpa using hys, by simp⟩ (fun _ => rfl)
      rintro n' s' ⟨q, tq, mq, j, ys', rfl, kq, hCq, hmx, hIq, hJq, hDq, hys', hjn⟩
      by_cases hj : j < us.length
      · refine wpAny_pyNext_list_item (x := us[j]) hJq (isList_keeps hl' kq) (by simp [hj]) fun q₁ hJ1 hs1 => ?_
        have k1 := kx n1J kq hs1.extBut
        have hC1 := hCq.extBut hs1.extBut hJC.symm
        have hD1 := hDq.extBut hs1.extBut hJD.symm
        have hI1 : q₁.IsListIter I l (i + 1) := by
          obtain ⟨ob, ho, r⟩ := hIq
          exact ⟨ob, hs1.extBut _ _ hJI.symm ho, r⟩
        refine wpAny_assign_Name (wpAny_storeName_local (s := ⟨q₁, g, d, tq, o⟩) hyl hC1 (fun q₂ hC2 hs2 => ?_) hp)
        have k2 := kx nC k1 hs2.extBut
        have hD2 := hD1.extBut hs2.extBut hDC
        have hI2 : q₂.IsListIter I l (i + 1) := by
          obtain ⟨ob, ho, r⟩ := hI1
          exact ⟨ob, hs2.extBut _ _ hIC ho, r⟩
        have hJ2 : q₂.IsListIter J l' (j + 1) := by
          obtain ⟨ob, ho, r⟩ := hJ1
          exact ⟨ob, hs2.extBut _ _ hJC ho, r⟩
        refine helt C _ q₂ _ vs[i] us[j] _ k2 hC2 (by simp [hxy, hmx]) (by simp) (fun z q₃ tq₃ k3 => ?_)
        refine R.appendL (plain_keeps hD2 k3) (by omega) (fun q₄ hD4' hs4' => ?_)
        refine ⟨n' - 1, by omega, q₄, _, _, j + 1, _, rfl, kx nD (k2.trans k3) hs4'.extBut, (hC2.keeps k3).extBut hs4'.extBut hDC.symm, by simp [hxy, hmx], ?_, ?_, hD4', by simp; omega, by omega⟩
        · obtain ⟨ob, ho, r⟩ := iter_keeps hI2 k3
          exact ⟨ob, hs4'.extBut _ _ hID ho, r⟩
        · obtain ⟨ob, ho, r⟩ := iter_keeps hJ2 k3
          exact ⟨ob, hs4'.extBut _ _ hJD ho, r⟩
      · refine wpAny_pyNext_list_end hh hJq (isList_keeps hl' kq) (by simp; omega) fun q₁ he1 => ?_
        refine ⟨rfl, n - 1, by omega, q₁, tq, mq, i + 1, ys', rfl, kx n1J kq he1, hCq.extBut he1 hJC.symm, ?_, hDq.extBut he1 hJD.symm, ?_, by omega⟩
        · obtain ⟨ob, ho, r⟩ := hIq
          exact ⟨ob, he1 _ _ hJI.symm ho, r⟩
        · have : j = us.length := by omega
          rw [hys', this, Nat.succ_mul]
    exact start1 (loop _) (wpAny_pyIter_listiter (s := ⟨h₆, g, d, _, o⟩) ⟨_, eJ, rfl, rfl⟩ (loop _))
  · refine wpAny_pyNext_list_end hh hI' (isList_keeps hl k') (by simp; omega) fun h₄ he4 => ?_
    have k4 := kx nI k' he4
    refine ⟨rfl, h₄, tk, m, rfl, hC'.extBut he4 hIC.symm, fun h₅ hs5 => ?_⟩
    have hiv : i = vs.length := by omega
    rw [hiv] at hys
    exact hfin D h₅ tk ys nD ((hD'.extBut he4 hID.symm).extBut hs5.extBut hDC) hys (kx nC k4 hs5.extBut)
end
end Mine
end

section
open PySem PySem.Builtin PySem.Calls PyProof.Rows
set_option maxRecDepth 100000
namespace Mine
namespace R
variable {prog : Program} {w : World} {A : Around} {env : Env} {Q : Flow → Shared → Prop} {h₀ hp : Heap} {g : Array GenState} {d : Drawn} {tk : Nat} {o : OsState} {cs : List (Str × Addr)}
/-- a for over `range(n)` whose name is a cell -/
theorem forRangeC {x : Str} {c : Addr} {px pos : Pos} {iter : Expr} {body : List Stmt} {n : Nat} (J : Addr → Nat → Heap → (Str → Option Value) → (Str → Option Value) → Prop) (hh : A.handled = none) (hn : n ≤ 1000000)
    (hc : cs.lookup x = some c) (hce : env.cells.lookup x = some c) (hk : env.scope.kind = .function) (hx : env.kindOf x = some .cell) (hs : ∀ x, foldedSetIterable iter env x = pure x)
    (h : wpAny (model prog w) A (eval iter env) (fun xv s₁ => ∃ h₁ tk₁ r t u v m cm, s₁ = ⟨h₁, g, d, tk₁, o⟩ ∧ xv = .ref r ∧ IsRange h₁ r 0 n 1 t u v ∧ FC h₀ env.locals cs h₁ m cm ∧
      (∀ it, h₁.get? it = none → ∀ h₂, Sub h₁ h₂ → J it 0 h₂ m cm)) NoE ⟨hp, g, d, tk, o⟩)
    (stab : ∀ it i h h' m cm, J it i h m cm → Heap.ExtBut it h h' → J it i h' m cm)
    (stabC : ∀ it i h h' m cm v, J it i h m cm → h.IsCell c v → Heap.SameBut c h h' → J it i h' m cm)
    (turn : ∀ it i h m cm tk ti, i < n → it ≠ env.locals → (∀ n c, cs.lookup n = some c → it ≠ c) → h₀.get? it = none → (∃ o, h.get? it = some o) → J it i h m cm → FC h₀ env.locals cs h m (fun y => if y = x then some (.int (Int.ofNat i) ti) else cm y) →
      wpAny (model prog w) A (execs body env) (fun f s' => f = .next ∧ ∃ h' tk' m' cm', s' = ⟨h', g, d, tk', o⟩ ∧ FC h₀ env.locals cs h' m' cm' ∧ J it (i + 1) h' m' cm' ∧ (∀ o, h.get? it = some o → h'.get? it = some o)) NoE ⟨h, g, d, tk, o⟩)
    (fin : ∀ it h tk m cm, J it n h m cm → FC h₀ env.locals cs h m cm → Q .next ⟨h, g, d, tk, o⟩) :
    wpAny (model prog w) A (exec (.For (.Name x px) iter body [] pos) env) Q NoE ⟨hp, g, d, tk, o⟩ := by
  refine wpAny_For (wpAny_mono h (fun xv s₁ h₁ => ?_) fun _ _ x => x) hs
  obtain ⟨h₁, tk₁, r, t, u, v, m, cm, rfl, rfl, hr, F, hJ⟩ := h₁
  refine wpAny_pyIter_range (s := ⟨h₁, g, d, tk₁, o⟩) hr (small_one (by omega) (by omega) (by omega) (by omega)) ?_
  rw [rangeSize_one]
  have en : (if (0 : Int) < (n : Int) then (n : Int) - 0 else 0) = (n : Int) := by split <;> omega
  rw [en]
  have nit : h₁.get? h₁.objs.size = none := fresh_none h₁
  have hitL : h₁.objs.size ≠ env.locals := (ns_ne F.x.ns nit).symm
  have oit : h₀.get? h₁.objs.size = none := sub_none F.x.keep nit
  have hitC : ∀ n c, cs.lookup n = some c → h₁.objs.size ≠ c := fun n c e => (cell_ne_none (F.cell n c e) nit).symm
  refine codeAny_forLoop (fun k s' => ∃ h' tk m' cm' i, s' = ⟨h', g, d, tk, o⟩ ∧ IsRangeIter h' h₁.objs.size ((i : Nat) : Int) ((n : Int) - (i : Nat)) 1 ∧ FC h₀ env.locals cs h' m' cm' ∧ J h₁.objs.size i h' m' cm' ∧ i ≤ n ∧ k = n - i) ?_ n
    ⟨_, tk₁, m, cm, 0, rfl, by simpa using (Heap.get?_push_size h₁ rfl : IsRangeIter (h₁.push { cls := .type "range_iterator", data := .fields #[rawInt 0, rawInt (n : Int), rawInt 1] }) h₁.objs.size 0 (n : Int) 1), F.keeps (Sub.push _ _), hJ _ nit _ (Sub.push _ _), Nat.zero_le _, rfl⟩
  rintro k s' ⟨h', tk, m', cm', i, rfl, hit, F', hJi, hi, rfl⟩
  by_cases hlt : i < n
  · refine wpAny_pyNext_range_item (s := ⟨h', g, d, tk, o⟩) hit (by omega) fun h₂ hit₂ hs₂ => ?_
    have F2 := F'.ext hs₂.extBut hitL.symm (fun n c e => (hitC n c e).symm) oit
    refine wpAny_assign_Name (R.stCF F2 hc (fun h₃ F3 hs₃ => ?_) hce hk hx)
    have hJ3 := stabC _ _ _ h₃ _ _ _ (stab _ _ _ h₂ _ _ hJi hs₂.extBut) (F2.cell _ _ hc) hs₃
    have hitc := hitC x c hc
    refine wpAny_mono (turn h₁.objs.size i h₃ m' cm' _ _ hlt hitL hitC oit ⟨_, (hs₃.2 _ hitc).trans hit₂⟩ hJ3 F3) (fun f s₄ h₄ => ?_) fun _ _ x => x.elim
    obtain ⟨rfl, h₄, tk₄, m₄, cm₄, rfl, F4, hJ4, hk4⟩ := h₄
    refine ⟨n - (i + 1), by omega, h₄, tk₄, m₄, cm₄, i + 1, rfl, ?_, F4, hJ4, hlt, rfl⟩
    have := hk4 _ ((hs₃.2 _ hitc).trans hit₂)
    have e1 : (((i + 1 : Nat) : Nat) : Int) = (i : Int) + 1 := by omega
    have e2 : (n : Int) - ((i : Int) + 1) = (n : Int) - (i : Int) - 1 := by omega
    rw [e1, e2]; exact this
  · have hin : i = n := by omega
    subst hin
    refine wpAny_pyNext_range_end (s := ⟨h', g, d, tk, o⟩) hh hit (by omega) fun h₂ he₂ => wpAny_execs_nil ?_
    exact fin _ _ _ _ _ (stab _ _ _ _ _ _ hJi he₂) (F'.ext he₂ hitL.symm (fun n c e => (hitC n c e).symm) oit)
end R
end Mine
end

section
open PySem PySem.Builtin PySem.Calls PyProof.Rows
set_option maxRecDepth 100000
namespace Mine
def nAbs (a : Int) : Int := if a < 0 then -a else a
def nMin (a b : Int) : Int := if b < a then b else a
def awayOf (line : List Nat) (n : Nat) : List Int := (List.range n).map fun i => nAbs ((line.getD i 0 : Int) - (i : Int) - 1)
def bothOf (codes line : List Nat) (laid : List Int) (n : Nat) : List Int := (List.range n).map fun i => nMin (laid.getD i 0) ((line.getD i 0 : Int) - (codes.getD i 0 : Int))
def aheadN (line : List Nat) (j : Nat) : Nat := ((List.range j).filter fun i => decide (line.getD j 0 < line.getD i 0)).length
def behindN (line : List Nat) (n j : Nat) : Nat := ((List.range (n - (j + 1))).filter fun k => decide (line.getD (j + 1 + k) 0 < line.getD j 0)).length
def fallsGo (line : List Nat) (n : Nat) : Nat → Nat → Nat → Nat
  | 0, _, c => c
  | k + 1, j, c => fallsGo line n k (j + 1) (c + aheadN line j * behindN line n j)
structure Fits (codes : List Nat) (rows : List (Nat × Nat)) (laid : List Int) (r p : Nat) : Prop where
  names : rows.map (·.2) = (List.range codes.length).map fun i => 64 * (4 + i) + 13
  back : backGo (codes.length + 1) (nats (rows.map (·.1))) [] = some (nats codes)
  laidLen : laid.length = codes.length
  rings : ringsOf (rows.map (·.1)) = some r
  passed : passedGo (codes.length + 1) (nats (rows.map (·.1))) 0 = some p
  first : (awayOf (rows.map (·.1)) codes.length).sum = 2 * laid.sum - 2 * (bothOf codes (rows.map (·.1)) laid codes.length).sum
  second : (awayOf (rows.map (·.1)) codes.length).sum = laid.sum + codes.length - r + 2 * p
  last : decide ((awayOf (rows.map (·.1)) codes.length).sum = 2 * laid.sum) = decide (fallsGo (rows.map (·.1)) codes.length codes.length 0 0 = 0)
def goodP (codes : List Nat) : Bool :=
  match lineGo codes 0 [] [] with
  | none => false
  | some (rows, laid) =>
    match ringsOf (rows.map (·.1)), passedGo (codes.length + 1) (nats (rows.map (·.1))) 0 with
    | some r, some p =>
      decide (rows.map (·.2) = (List.range codes.length).map fun i => 64 * (4 + i) + 13) &&
      (decide (backGo (codes.length + 1) (nats (rows.map (·.1))) [] = some (nats codes)) &&
      (decide (laid.length = codes.length) &&
      (decide ((awayOf (rows.map (·.1)) codes.length).sum = 2 * laid.sum - 2 * (bothOf codes (rows.map (·.1)) laid codes.length).sum) &&
      (decide ((awayOf (rows.map (·.1)) codes.length).sum = laid.sum + codes.length - r + 2 * p) &&
      decide (decide ((awayOf (rows.map (·.1)) codes.length).sum = 2 * laid.sum) = decide (fallsGo (rows.map (·.1)) codes.length codes.length 0 0 = 0))))))
    | _, _ => false
theorem fits_of {codes : List Nat} (h : goodP codes = true) : ∃ rows laid r p, lineGo codes 0 [] [] = some (rows, laid) ∧ Fits codes rows laid r p := by
  unfold goodP at h
  cases e : lineGo codes 0 [] [] with
  | none => rw [e] at h; cases h
  | some x =>
    obtain ⟨rows, laid⟩ := x
    rw [e] at h
    dsimp only at h
    cases er : ringsOf (rows.map (·.1)) with
    | none => rw [er] at h; cases h
    | some r =>
      cases ep : passedGo (codes.length + 1) (nats (rows.map (·.1))) 0 with
      | none => rw [er, ep] at h; cases h
      | some p =>
        rw [er, ep] at h
        dsimp only at h
        simp only [Bool.and_eq_true, decide_eq_true_eq] at h
        obtain ⟨h1, h2, h3, h4, h5, h6⟩ := h
        exact ⟨rows, laid, r, p, rfl, h1, h2, h3, er, ep, h4, h5, h6⟩
def codesAll : Nat → List (List Nat)
  | 0 => [[]]
  | n + 1 => (codesAll n).flatMap fun c => (List.range (n + 1)).map fun k => c ++ [k + 1]
end Mine
end

section
set_option maxRecDepth 100000
namespace Mine
theorem all5 : (codesAll 5).all goodP = true := by decide +kernel
theorem all61 : (codesAll 5).all (fun c => goodP (c ++ [1])) = true := by decide +kernel
theorem all62 : (codesAll 5).all (fun c => goodP (c ++ [2])) = true := by decide +kernel
theorem all63 : (codesAll 5).all (fun c => goodP (c ++ [3])) = true := by decide +kernel
theorem all64 : (codesAll 5).all (fun c => goodP (c ++ [4])) = true := by decide +kernel
theorem all65 : (codesAll 5).all (fun c => goodP (c ++ [5])) = true := by decide +kernel
theorem all66 : (codesAll 5).all (fun c => goodP (c ++ [6])) = true := by decide +kernel
theorem good5 {c : List Nat} (h : c ∈ codesAll 5) : goodP c = true := List.all_eq_true.mp all5 c h
theorem good6 {c : List Nat} (h : c ∈ codesAll 6) : goodP c = true := by
  obtain ⟨c', hc', hm⟩ := List.mem_flatMap.mp (show c ∈ (codesAll 5).flatMap fun c => (List.range 6).map fun k => c ++ [k + 1] from h)
  obtain ⟨k, hk, rfl⟩ := List.mem_map.mp hm
  have hk6 := List.mem_range.mp hk
  have : k = 0 ∨ k = 1 ∨ k = 2 ∨ k = 3 ∨ k = 4 ∨ k = 5 := by omega
  rcases this with rfl | rfl | rfl | rfl | rfl | rfl
  · exact List.all_eq_true.mp all61 c' hc'
  · exact List.all_eq_true.mp all62 c' hc'
  · exact List.all_eq_true.mp all63 c' hc'
  · exact List.all_eq_true.mp all64 c' hc'
  · exact List.all_eq_true.mp all65 c' hc'
  · exact List.all_eq_true.mp all66 c' hc'
end Mine
end

section
open PySem PySem.Builtin PySem.Calls PyProof.Rows
set_option maxRecDepth 100000
namespace Mine
def numsOf (script : List Int) : List Nat := (script.take 6).map (fun x => (x.fmod 1000000).toNat) ++ [4, 7, 9, 12, 16, 9].drop (script.take 6).length
def sizeOf6 (N : List Nat) : Nat := 5 + N.getD 0 0 % 2
def codesOf (N : List Nat) : List Nat := (List.range (sizeOf6 N)).map fun i => 1 + N.getD i 0 % (i + 1)
theorem nums_len (script : List Int) : (numsOf script).length = 6 := by
  unfold numsOf
  simp
  omega
theorem codesOf_mem (f : Nat → Nat) : ∀ n, ((List.range n).map fun i => 1 + f i % (i + 1)) ∈ codesAll n
  | 0 => by simp [codesAll]
  | n + 1 => by
    rw [List.range_succ, List.map_append]
    unfold codesAll
    refine List.mem_flatMap.mpr ⟨_, codesOf_mem f n, List.mem_map.mpr ⟨f n % (n + 1), List.mem_range.mpr (Nat.mod_lt _ (Nat.succ_pos _)), ?_⟩⟩
    simp [Nat.add_comm]
theorem size56 (N : List Nat) : sizeOf6 N = 5 ∨ sizeOf6 N = 6 := by unfold sizeOf6; omega
theorem codes_len (N : List Nat) : (codesOf N).length = sizeOf6 N := by simp [codesOf]
theorem ofNat_fmod' (a b : Nat) : (Int.ofNat a).fmod (Int.ofNat b) = Int.ofNat (a % b) := by
  exact (Int.ofNat_fmod a b).symm
/-- the law's frame -/
abbrev lawE (L a : Addr) (cd : Value) : Env := envOfC (nm 19) (sc 19) L a cd
def ls (k : Nat) : Stmt := (bd 19)[k]?.getD (.Pass default)
theorem bd19 : bd 19 = [ls 0, ls 1, ls 2, ls 3, ls 4, ls 5, ls 6, ls 7, ls 8, ls 9, ls 10, ls 11, ls 12, ls 13, ls 14] := by rfl
def lawC (L : Addr) : List (Str × Addr) := cellsFrom (L + 1) (sc 19).names []
theorem lawC_numbers (L : Addr) : (lawC L).lookup (Str.ofString "numbers") = some (L + 1) := rfl
theorem lawC_codes (L : Addr) : (lawC L).lookup (Str.ofString "codes") = some (L + 2) := rfl
theorem lawC_laid (L : Addr) : (lawC L).lookup (Str.ofString "laid") = some (L + 3) := rfl
theorem lawC_line (L : Addr) : (lawC L).lookup (Str.ofString "line") = some (L + 4) := rfl
theorem lawC_j (L : Addr) : (lawC L).lookup (Str.ofString "j") = some (L + 5) := rfl
theorem lawC_behind (L : Addr) : (lawC L).lookup (Str.ofString "behind") = some (L + 6) := rfl
/-- ints of a list -/
def LI (h : Heap) (v : Option Value) (ns : List Int) : Prop := ∃ l vs, v = some (.ref l) ∧ h.PlainList l (vs : List Value).toArray ∧ IntsAre vs ns
theorem LI.keeps {h h' : Heap} {v : Option Value} {ns : List Int} (x : LI h v ns) (k : ∀ b vs, h.PlainList b vs → h'.PlainList b vs) : LI h' v ns := let ⟨l, vs, e, p, i⟩ := x; ⟨l, vs, e, k _ _ p, i⟩
theorem LI.sub {h h' : Heap} {v : Option Value} {ns : List Int} (x : LI h v ns) (k : Sub h h') : LI h' v ns := x.keeps fun _ _ p => plain_keeps p k
theorem tup_ne_ns {h : Heap} {a L : Addr} {its : Array Value} {m : Str → Option Value} (x : h.IsTuple a its) (n : h.Ns L m) : a ≠ L := by
  rintro rfl
  obtain ⟨o', e, _, _, ed⟩ := x
  obtain ⟨o, es, ep, ho, hd, _⟩ := n
  rw [e] at ho; cases ho; rw [ed] at hd; cases hd
theorem tup_ne_cell {h : Heap} {a c : Addr} {its : Array Value} {v : Option Value} (x : h.IsTuple a its) (n : h.IsCell c v) : a ≠ c := by
  rintro rfl
  obtain ⟨o', e, _, _, ed⟩ := x
  obtain ⟨o, ho, hd⟩ := n
  rw [e] at ho; cases ho; rw [ed] at hd; cases hd
/-- a new ground, with its tuples too -/
theorem FC.turnT {h₀ h : Heap} {L : Addr} {cs : List (Str × Addr)} {m cm : Str → Option Value} (F : FC h₀ L cs h m cm) :
    ∃ hT, Sub h₀ hT ∧ FC hT L cs h m cm ∧ (∀ b vs, h.PlainList b vs → hT.PlainList b vs) ∧ (∀ b vs, h.IsTuple b vs → hT.IsTuple b vs) := by
  obtain ⟨hT, k, T, e⟩ := F.turn
  refine ⟨hT, k, T, fun b vs hb => ?_, fun b vs hb => ?_⟩
  · obtain ⟨o, ho⟩ := id hb
    exact ⟨o, e b _ ho (plain_ne_ns hb F.x.ns) (fun n c q => plain_ne_cell hb (F.cell n c q))⟩
  · obtain ⟨o, ho, r⟩ := id hb
    exact ⟨o, e b o ho (tup_ne_ns hb F.x.ns) (fun n c q => tup_ne_cell hb (F.cell n c q)), r⟩
theorem RowsAt.move {h h' : Heap} (k : ∀ b vs, h.IsTuple b vs → h'.IsTuple b vs) : ∀ {vs : List Value} {rs : List (Nat × Nat)}, RowsAt h (fun _ => True) vs rs → RowsAt h' (fun _ => True) vs rs
  | _, _, .nil => .nil
  | _, _, .cons _ ht r => .cons trivial (k _ _ ht) (r.move k)
namespace R
variable {prog : Program} {w : World} {A : Around} {E : Value → Shared → Prop} {hp : Heap} {g : Array GenState} {d : Drawn} {tk : Nat} {o : OsState} {Q : Value → Shared → Prop}
theorem pow6 {t u : Tok} (h : ∀ t tk', Q (.int 1000000 t) ⟨hp, g, d, tk', o⟩) : wpAny (model prog w) A (binaryOp .Pow (.int 10 t) (.int 6 u)) Q E ⟨hp, g, d, tk, o⟩ :=
  AutoIntOps.pow_4 (by decide) (by decide) (by decide) (by decide) (by decide) (h _ _)
theorem modN {a b : Nat} {t u : Tok} (hb : b ≠ 0) (h : ∀ t tk', Q (.int (Int.ofNat (a % b)) t) ⟨hp, g, d, tk', o⟩) : wpAny (model prog w) A (binaryOp .Mod (.int (Int.ofNat a) t) (.int (Int.ofNat b) u)) Q E ⟨hp, g, d, tk, o⟩ :=
  R.mod (fun e => hb (Int.ofNat.inj e)) (fun t tk' => by rw [ofNat_fmod']; exact h t tk')
end R
end Mine
end

section
open PySem PySem.Builtin PySem.Calls PyProof.Rows
set_option maxRecDepth 100000
namespace Mine
section
variable {prog : Program} {w : World} {A : Around} {mg mb : Str → Option Value} {hp : Heap} {gn : Array GenState} {dr : Drawn} {os : OsState} {L a : Addr} {cd : Value}
/-- the state after some statements -/
def At (hp : Heap) (gn : Array GenState) (dr : Drawn) (os : OsState) (L : Addr) (P : Heap → (Str → Option Value) → (Str → Option Value) → Prop) (s : Shared) : Prop :=
  ∃ h tk m cm, s = ⟨h, gn, dr, tk, os⟩ ∧ FC hp L (lawC L) h m cm ∧ P h m cm
def P1 (ns : List Nat) (h : Heap) (_ cm : Str → Option Value) : Prop := LI h (cm (Str.ofString "numbers")) (nats ns)
theorem fmod_nat (x : Int) : x.fmod 1000000 = Int.ofNat (x.fmod 1000000).toNat := (Int.toNat_of_nonneg (Int.fmod_nonneg_of_pos x (by decide))).symm

set_option maxHeartbeats 2000000 in
theorem law0 {l : Addr} {vl : List Value} {script : List Int} {h : Heap} {tk : Nat} {m cm : Str → Option Value} (hh : A.handled = none) (F : FC hp L (lawC L) h m cm) (e1 : m (Str.ofString "script") = some (.ref l)) (hl : hp.IsList l vl.toArray) (hli : IntsAre vl script)
    (hlen : vl.length ≤ 2000000) : wpAny (model prog w) A (exec (ls 0) (lawE L a cd)) (fun f s' => f = .next ∧ At hp gn dr os L (P1 ((script.take 6).map fun x => (x.fmod 1000000).toNat)) s') NoE ⟨h, gn, dr, tk, os⟩ := by
  refine wpAny_Assign_Name ?_
  refine lc [] (fun _ => true) (fun v y => ∃ n t u, v = Value.int n t ∧ y = Value.int (Int.ofNat (n.fmod 1000000).toNat) u) ?c1 ?c2 ?c3 ?c4 ?c5 ?c6 ?_
  case c1 => exact closureFor_none (by decide)
  case c2 => decide
  case c3 => rfl
  case c4 => decide
  case c5 => rfl
  case c6 => intro _; rfl
  refine R.sliceL (g := gn) (d := dr) (o := os) ?_
  refine Mine.ld F.x e1 ?_
  rw [evalPart_none]
  refine wpAny_pure ?_
  rw [evalPart_some]
  refine R.cI (fun _ tk₁ => ?_)
  refine ⟨h, tk₁, l, vl, none, some (Int.ofNat 6), vl.take 6, rfl, rfl, isList_keeps hl F.x.keep, hlen, .none, .int _ _, slicePick_upto' _ _, fun dd h₁ k₁ hdd _ => ?_⟩
  have F1 := F.keeps k₁
  have hdi := IntsAre.take 6 hli
  refine srcList (s := ⟨h₁, gn, dr, tk₁, os⟩) hh hdd.isList (le_line (by simp; omega)) (fun C v s₃ m₃ E' hv hn hm hk hC => ?_) (fun C v s₃ m₃ E' hv _ hn hm hk hC => ?_) ?_
  · exact noTests ⟨rfl, keeps_refl _⟩
  · rcases s₃ with ⟨hq, gg, dd', tt', oo⟩
    obtain ⟨n', t', rfl, _⟩ := IntsAre.mem hdi hv
    refine wpAny_BinOp ?_
    refine ldN hn hm ?_
    refine wpAny_BinOp ?_
    refine R.cI (fun _ _ => ?_)
    refine R.cI (fun _ _ => ?_)
    refine R.pow6 (fun _ _ => ?_)
    refine R.mod (by decide) (fun u _ => ?_)
    exact ⟨⟨n', t', u, rfl, by rw [← fmod_nat]⟩, ⟨_, _, rfl, fun _ _ e => e⟩⟩
  intro D h₂ tk₂ ys nD hD hF hk₂
  have F2 := F1.keeps hk₂
  obtain ⟨hT, kT, T, tp, _⟩ := F2.turnT
  refine R.stCF T (lawC_numbers L) (fun h₃ T3 _ => ?_)
  refine ⟨rfl, h₃, tk₂, _, _, rfl, T3.weaken kT, D, ys, rfl, plain_keeps (tp _ _ hD) T3.x.keep, ?_⟩
  have := intsAre_map (f := fun n => Int.ofNat (n.fmod 1000000).toNat) (q := fun _ => true) (fun _ _ => rfl) hdi hF
  rw [List.filter_eq_self.mpr (fun _ _ => rfl)] at this
  rw [nats, List.map_map]
  exact this

set_option maxHeartbeats 2000000 in
theorem law1 {ns : List Nat} {s : Shared} (B : Bs hp mg mb) (hs : At hp gn dr os L (P1 ns) s) (hlen : ns.length ≤ 6) :
    wpAny (model prog w) A (exec (ls 1) (lawE L a cd)) (fun f s' => f = .next ∧ At hp gn dr os L (P1 (ns ++ [4, 7, 9, 12, 16, 9].drop ns.length)) s') NoE s := by
  obtain ⟨h, tk, m, cm, rfl, F0, D, ys, eD, hD0, hys⟩ := hs
  obtain ⟨hT, kT, F, tp, _⟩ := F0.turnT
  have hD := tp _ _ hD0
  have hyl : ys.length = ns.length := by rw [hys.length]; simp [nats]
  refine wpAny_Assign_Name ?_
  refine wpAny_BinOp ?_
  refine R.ldF F (lawC_numbers L) eD ?_
  refine R.sliceL (g := gn) (d := dr) (o := os) ?_
  refine R.dispL ?_
  refine wpAny_items_cons ?_
  refine R.cI (fun t1 _ => ?_)
  refine wpAny_items_cons ?_
  refine R.cI (fun t2 _ => ?_)
  refine wpAny_items_cons ?_
  refine R.cI (fun t3 _ => ?_)
  refine wpAny_items_cons ?_
  refine R.cI (fun t4 _ => ?_)
  refine wpAny_items_cons ?_
  refine R.cI (fun t5 _ => ?_)
  refine wpAny_items_cons ?_
  refine R.cI (fun t6 tk₁ => ?_)
  refine wpAny_items_nil ?_
  refine ⟨_, _, rfl, by simp, fun six h₁ k₁ hsix _ => ?_⟩
  have F1 := F.keeps k₁
  rw [evalPart_some]
  refine callB1 (id := "len") ?_
  refine bl (B.keeps (kT.trans F1.x.keep)) (B.free "len" (by decide)) PyProof.Rows.Boot.«len» ?_
  refine ⟨rfl, ?_⟩
  refine R.ldF F1 (lawC_numbers L) eD ?_
  refine R.len (plain_keeps hD F1.x.keep).isList (by omega) (fun _ tk₂ => ?_)
  rw [evalPart_none]
  refine wpAny_pure ?_
  have h6i : IntsAre [Value.int 4 t1, .int 7 t2, .int 9 t3, .int 12 t4, .int 16 t5, .int 9 t6] (nats [4, 7, 9, 12, 16, 9]) := .cons _ _ (.cons _ _ (.cons _ _ (.cons _ _ (.cons _ _ (.cons _ _ .nil)))))
  generalize hv6 : [Value.int 4 t1, .int 7 t2, .int 9 t3, .int 12 t4, .int 16 t5, .int 9 t6] = v6 at hsix h6i
  have hl6 : v6.length = 6 := by rw [← hv6]; rfl
  refine ⟨h₁, tk₂, six, v6, some (Int.ofNat ys.length), none, v6.drop ys.length, rfl, rfl, hsix.isList, by omega, .int _ _, .none, slicePick_from' _ _, fun tl h₂ k₂ htl _ => ?_⟩
  have F2 := F1.keeps k₂
  refine R.addL (plain_keeps hD F2.x.keep).isList htl.isList (by simp; omega) (fun D' h₃ k₃ hD' _ => ?_)
  have F3 := F2.keeps k₃
  obtain ⟨hT', kT', T, tp', _⟩ := F3.turnT
  refine R.stCF T (lawC_numbers L) (fun h₄ T4 _ => ?_)
  refine ⟨rfl, h₄, _, _, _, rfl, (T4.weaken kT').weaken kT, D', _, rfl, plain_keeps (tp' _ _ hD') T4.x.keep, ?_⟩
  have := intsAre_append hys (IntsAre.drop ys.length h6i)
  rw [hyl] at this ⊢
  simpa [nats] using this

def P3 (N : List Nat) (h : Heap) (m cm : Str → Option Value) : Prop := LI h (cm (Str.ofString "numbers")) (nats N) ∧ ∃ t, m (Str.ofString "size") = some (.int (Int.ofNat (sizeOf6 N)) t)
theorem law2 {N : List Nat} {s : Shared} (hs : At hp gn dr os L (P1 N) s) (hlen : N.length = 6) :
    wpAny (model prog w) A (exec (ls 2) (lawE L a cd)) (fun f s' => f = .next ∧ At hp gn dr os L (P3 N) s') NoE s := by
  obtain ⟨h, tk, m, cm, rfl, F0, D, ys, eD, hD0, hys⟩ := hs
  obtain ⟨hT, kT, F, tp, _⟩ := F0.turnT
  have hD := tp _ _ hD0
  refine wpAny_Assign_Name ?_
  refine wpAny_BinOp ?_
  refine R.cI (fun _ _ => ?_)
  refine wpAny_BinOp ?_
  refine subL ?_ (by intros; rfl)
  refine R.ldF F (lawC_numbers L) eD ?_
  refine R.cI (fun t0 tk0 => ?_)
  obtain ⟨tv, htv⟩ := hys.get 0 (Int.ofNat (N.getD 0 0)) (by
    have : 0 < N.length := by omega
    simp [nats, List.getD, this])
  refine ⟨D, ys, 0, t0, _, rfl, rfl, (plain_keeps hD F.x.keep).isList, by decide, htv, ?_⟩
  refine R.cI (fun _ _ => ?_)
  refine R.modN (b := 2) (by decide) (fun _ _ => ?_)
  refine R.add (fun t _ => ?_)
  refine R.stF F (fun h₁ tk₁ F1 _ => ?_)
  exact ⟨rfl, h₁, tk₁, _, _, rfl, F1.weaken kT, ⟨D, ys, eD, plain_keeps hD F1.x.keep, hys⟩, t, rfl⟩

def P4 (codes : List Nat) (h : Heap) (m cm : Str → Option Value) : Prop := LI h (cm (Str.ofString "codes")) (nats codes) ∧ ∃ t, m (Str.ofString "size") = some (.int (Int.ofNat codes.length) t)
set_option maxHeartbeats 2000000 in
theorem law3 {N : List Nat} {s : Shared} (B : Bs hp mg mb) (hh : A.handled = none) (hs : At hp gn dr os L (P3 N) s) (hlen : N.length = 6) :
    wpAny (model prog w) A (exec (ls 3) (lawE L a cd)) (fun f s' => f = .next ∧ At hp gn dr os L (P4 (codesOf N)) s') NoE s := by
  obtain ⟨h, tk, m, cm, rfl, F0, ⟨D, ys, eD, hD0, hys⟩, ts, es⟩ := hs
  obtain ⟨hT, kT, F, tp, _⟩ := F0.turnT
  have hD := tp _ _ hD0
  have h56 := size56 N
  refine wpAny_Assign_Name ?_
  refine lc [(Str.ofString "numbers", L + 1)] (fun _ => true) (fun v y => ∃ n t u, v = Value.int n t ∧ y = Value.int (Int.ofNat (1 + N.getD n.toNat 0 % (n.toNat + 1))) u) ?c1 ?c2 ?c3 ?c4 ?c5 ?c6 ?_
  case c1 => rfl
  case c2 => decide
  case c3 => rfl
  case c4 => decide
  case c5 => rfl
  case c6 => intro _; rfl
  refine callT1 (T := "range") ?_
  refine bl (B.keeps (kT.trans F.x.keep)) (B.free "range" (by decide)) PyProof.Rows.Boot.«range» ?_
  refine ⟨rfl, ?_⟩
  refine Mine.ld F.x es ?_
  refine R.range (n := sizeOf6 N) (fun rr t u v h₁ tk₁ k₁ hrr _ => ?_)
  have F1 := F.keeps k₁
  have hc1 : h₁.IsCell (L + 1) (some (.ref D)) := eD ▸ F1.cell _ _ (lawC_numbers L)
  have hD1 := plain_keeps hD F1.x.keep
  refine srcRange (s := ⟨h₁, gn, dr, tk₁, os⟩) hh hrr (by omega) (by omega) (by omega) (fun C i t s₃ m₃ E' h0 h1 hn hm hk hC => ?_) (fun C i t s₃ m₃ E' h0 h1 _ hn hm hk hC => ?_) ?_
  · exact noTests ⟨rfl, keeps_refl _⟩
  · rcases s₃ with ⟨hq, gg, dd', tt', oo⟩
    obtain ⟨k, rfl⟩ : ∃ k : Nat, i = Int.ofNat k := ⟨i.toNat, (Int.toNat_of_nonneg h0).symm⟩
    have hk6 : k < N.length := by have : (k : Int) < _ := h1; omega
    obtain ⟨tv, htv⟩ := hys.get k (Int.ofNat (N.getD k 0)) (by simp [nats, List.getD, hk6])
    refine wpAny_BinOp ?_
    refine R.cI (fun _ _ => ?_)
    refine wpAny_BinOp ?_
    refine subL ?_ (by intros; rfl)
    refine R.ldC (c := L + 1) (cell_keeps hc1 hk) ?_
    refine ldN hn hm ?_
    refine ⟨D, ys, k, t, _, rfl, rfl, (plain_keeps hD1 hk).isList, by omega, htv, ?_⟩
    refine wpAny_BinOp ?_
    refine ldN hn hm ?_
    refine R.cI (fun _ _ => ?_)
    refine R.add (fun _ _ => ?_)
    refine R.modN (b := k + 1) (by omega) (fun _ _ => ?_)
    refine R.add (fun u _ => ?_)
    exact ⟨⟨_, t, u, rfl, rfl⟩, ⟨_, _, rfl, fun _ _ e => e⟩⟩
  intro D2 h₂ tk₂ vs zs nD hD2 hvs hF hk₂
  have F2 := F1.keeps hk₂
  obtain ⟨hT', kT', T, tp', _⟩ := F2.turnT
  refine R.stCF T (lawC_codes L) (fun h₃ T3 _ => ?_)
  refine ⟨rfl, h₃, tk₂, _, _, rfl, (T3.weaken kT').weaken kT, ⟨D2, zs, rfl, plain_keeps (tp' _ _ hD2) T3.x.keep, ?_⟩, ts, by rw [codes_len]; exact es⟩
  have := intsAre_map (f := fun n => Int.ofNat (1 + N.getD n.toNat 0 % (n.toNat + 1))) (q := fun _ => true) (fun _ _ => rfl) hvs hF
  rw [List.filter_eq_self.mpr (fun _ _ => rfl)] at this
  simpa [nats, codesOf, Function.comp_def] using this

def P5 (codes : List Nat) (rows : List (Nat × Nat)) (laid : List Int) (h : Heap) (m cm : Str → Option Value) : Prop :=
  P4 codes h m cm ∧ LI h (cm (Str.ofString "laid")) laid ∧ ∃ r vs, m (Str.ofString "rows") = some (.ref r) ∧ h.PlainList r (vs : List Value).toArray ∧ RowsAt h (fun _ => True) vs rows
set_option maxHeartbeats 2000000 in
theorem law4 {codes : List Nat} {rows : List (Nat × Nat)} {laid : List Int} {s : Shared} (B : Bs hp mg mb) (P : Ps hp mg) (hroom : A.depth + 2 < recursionLimit) (hh : A.handled = none) (hs : At hp gn dr os L (P4 codes) s) (hlen : codes.length ≤ 6)
    (hline : lineGo codes 0 [] [] = some (rows, laid)) :
    wpAny (model prog w) A (exec (ls 4) (lawE L a cd)) (fun f s' => f = .next ∧ At hp gn dr os L (P5 codes rows laid) s') NoE s := by
  obtain ⟨h, tk, m, cm, rfl, F0, ⟨D, ys, eD, hD0, hys⟩, ts, es⟩ := hs
  obtain ⟨hT, kT, F, tp, _⟩ := F0.turnT
  have hD := tp _ _ hD0
  obtain ⟨fl, efl, ffl⟩ := B.fn (15, "_law_line") (by decide)
  refine Assign_Tuple ?_
  refine callF1 (a := fl) (n := 15) ?_
  refine gl (B.keeps (kT.trans F.x.keep)) efl ?_
  refine ⟨rfl, ?_⟩
  refine R.ldF F (lawC_codes L) eD ?_
  refine ⟨ffl.keeps (kT.trans F.x.keep), ?_⟩
  refine line_call (ffl.keeps (kT.trans F.x.keep)) (B.keeps (kT.trans F.x.keep)) (P.keeps (kT.trans F.x.keep)) hroom hh (plain_keeps hD F.x.keep).isList hys (by omega) hline
    (fun h₁ tk₁ tup r vs ld lv k₁ htup hr hrs hld hlv => ?_)
  have F1 := F.keeps k₁
  refine R.assign2 hh htup fun h₂ k₂ => ?_
  have F2 := F1.keeps k₂
  obtain ⟨hT2, kT2, T, tp2, tt2⟩ := F2.turnT
  refine R.stF T (fun h₃ tk₃ T3 _ => ?_)
  refine R.stCF T3 (lawC_laid L) (fun h₄ T4 _ => ?_)
  refine ⟨rfl, h₄, _, _, _, rfl, (T4.weaken kT2).weaken kT, ⟨⟨D, ys, eD, plain_keeps (tp2 _ _ (plain_keeps hD F2.x.keep)) T4.x.keep, hys⟩, ts, es⟩, ⟨ld, lv, rfl, plain_keeps (tp2 _ _ (plain_keeps hld k₂)) T4.x.keep, hlv⟩, r, vs, rfl, plain_keeps (tp2 _ _ (plain_keeps hr k₂)) T4.x.keep, ?_⟩
  exact RowsAt.move (fun b vs q => tuple_keeps (tt2 _ _ (tuple_keeps q k₂)) T4.x.keep) hrs
end
end Mine
end

section
open PySem PySem.Builtin PySem.Calls PyProof.Rows
set_option maxRecDepth 100000
namespace Mine
theorem intMul2 (b : Int) : IntMulOk 2 b := .of_left (by decide)
section
variable {prog : Program} {w : World} {A : Around} {mg mb : Str → Option Value} {hp : Heap} {gn : Array GenState} {dr : Drawn} {os : OsState} {L a : Addr} {cd : Value}
theorem compRange_nats {n : Nat} {f : Nat → Nat} {vs zs : List Value} (hvs : IntsAre vs ((List.range ((n : Int) - 0).toNat).map fun i => (0 : Int) + Int.ofNat i))
    (hF : Paired (fun v y => ∃ n t u, v = Value.int n t ∧ y = Value.int (Int.ofNat (f n.toNat)) u) (vs.filter fun _ => true) zs) : IntsAre zs (nats ((List.range n).map f)) := by
  have := intsAre_map (f := fun n => Int.ofNat (f n.toNat)) (q := fun _ => true) (fun _ _ => rfl) hvs hF
  rw [List.filter_eq_self.mpr (fun _ _ => rfl)] at this
  simpa [nats, Function.comp_def] using this
theorem compRange_ints {n : Nat} {f : Nat → Int} {vs zs : List Value} (hvs : IntsAre vs ((List.range ((n : Int) - 0).toNat).map fun i => (0 : Int) + Int.ofNat i))
    (hF : Paired (fun v y => ∃ n t u, v = Value.int n t ∧ y = Value.int (f n.toNat) u) (vs.filter fun _ => true) zs) : IntsAre zs ((List.range n).map f) := by
  have := intsAre_map (f := fun n => f n.toNat) (q := fun _ => true) (fun _ _ => rfl) hvs hF
  rw [List.filter_eq_self.mpr (fun _ _ => rfl)] at this
  simpa [Function.comp_def] using this

set_option maxHeartbeats 2000000 in
theorem law5 {codes : List Nat} {rows : List (Nat × Nat)} {laid : List Int} {s : Shared} (B : Bs hp mg mb) (hh : A.handled = none) (hu : A.units + 70 < cLine) (hs : At hp gn dr os L (P5 codes rows laid) s) (hlen : codes.length ≤ 6)
    (hnames : rows.map (·.2) = (List.range codes.length).map fun i => 64 * (4 + i) + 13) :
    wpAny (model prog w) A (exec (ls 5) (lawE L a cd)) (fun f s' => f = .next ∧ At hp gn dr os L (P5 codes rows laid) s') NoE s := by
  obtain ⟨h, tk, m, cm, rfl, F0, ⟨⟨D, ys, eD, hD0, hys⟩, ts, es⟩, ⟨ld, lv, eld, hld0, hlv⟩, r, vs, er, hr0, hrs0⟩ := hs
  obtain ⟨hT, kT, F, tp, tt⟩ := F0.turnT
  have hD := tp _ _ hD0
  have hld := tp _ _ hld0
  have hr := tp _ _ hr0
  have hrs := RowsAt.move tt hrs0
  have hrl : rows.length = codes.length := by simpa using congrArg List.length hnames
  refine wpAny_If ?_
  refine wpAny_isTrue_Compare1 ?_
  refine lcPairs (g := gn) (d := dr) (o := os) [] (fun p => p.2) ?c1 ?c2 ?c3 ?c4 ?c5 ?c6 ?c7 ?c8 hh ?_
  case c1 => exact closureFor_none (by decide)
  case c2 => decide
  case c3 => rfl
  case c4 => decide
  case c5 => intro _; rfl
  case c6 => rfl
  case c7 => rfl
  case c8 => decide
  refine Mine.ld F.x er ?_
  refine ⟨h, tk, r, vs, rows, rfl, rfl, (plain_keeps hr F.x.keep).isList, RowsAt.move (fun b vs q => tuple_keeps q F.x.keep) hrs, by rw [hrs.length]; omega, fun C m' h' tk' p t1 t2 Q' hn hx hy hq => ?_, fun D1 h₁ tk₁ zs nD1 hD1 hzs k₁ => ?_⟩
  · refine ldN hn hy ?_
    exact hq _
  have F1 := F.keeps k₁
  refine lc [] (fun _ => true) (fun v y => ∃ n t u, v = Value.int n t ∧ y = Value.int (Int.ofNat ((fun i => 64 * (4 + i) + 13) n.toNat)) u) ?d1 ?d2 ?d3 ?d4 ?d5 ?d6 ?_
  case d1 => exact closureFor_none (by decide)
  case d2 => decide
  case d3 => rfl
  case d4 => decide
  case d5 => rfl
  case d6 => intro _; rfl
  refine callT1 (T := "range") ?_
  refine bl (B.keeps (kT.trans F1.x.keep)) (B.free "range" (by decide)) PyProof.Rows.Boot.«range» ?_
  refine ⟨rfl, ?_⟩
  refine Mine.ld F1.x es ?_
  refine R.range (n := codes.length) (fun rr t u v h₂ tk₂ k₂ hrr _ => ?_)
  have F2 := F1.keeps k₂
  refine srcRange (s := ⟨h₂, gn, dr, tk₂, os⟩) hh hrr (by omega) (by omega) (by omega) (fun C i t s₃ m₃ E' h0 h1 hn hm hk hC => ?_) (fun C i t s₃ m₃ E' h0 h1 _ hn hm hk hC => ?_) ?_
  · exact noTests ⟨rfl, keeps_refl _⟩
  · rcases s₃ with ⟨hq, gg, dd', tt', oo⟩
    obtain ⟨k, rfl⟩ : ∃ k : Nat, i = Int.ofNat k := ⟨i.toNat, (Int.toNat_of_nonneg h0).symm⟩
    refine wpAny_BinOp ?_
    refine wpAny_BinOp ?_
    refine R.cI (fun _ _ => ?_)
    refine wpAny_BinOp ?_
    refine R.cI (fun _ _ => ?_)
    refine ldN hn hm ?_
    refine R.add (fun _ _ => ?_)
    refine R.mul (.of_left (by decide)) (fun _ _ => ?_)
    refine R.cI (fun _ _ => ?_)
    refine R.add (fun u _ => ?_)
    exact ⟨⟨_, t, u, rfl, rfl⟩, ⟨_, _, rfl, fun _ _ e => e⟩⟩
  intro D2 h₃ tk₃ vs' zs' nD2 hD2 hvs' hF' k₃
  have F3 := F2.keeps k₃
  refine W.ne_intsK (s := ⟨h₃, gn, dr, tk₃, os⟩) (plain_keeps hD1 (k₂.trans k₃)).isList hzs hD2.isList (compRange_nats (f := fun i => 64 * (4 + i) + 13) hvs' hF') (by omega) ?_
  refine wpAny_truthy_bool ?_
  have e : (!decide (nats (rows.map (·.2)) = nats ((List.range codes.length).map fun i => 64 * (4 + i) + 13))) = false := by rw [hnames]; simp
  rw [e, if_neg Bool.false_ne_true]
  refine wpAny_execs_nil ?_
  exact ⟨rfl, h₃, tk₃, m, cm, rfl, F3.weaken kT, ⟨⟨D, ys, eD, plain_keeps hD F3.x.keep, hys⟩, ts, es⟩, ⟨ld, lv, eld, plain_keeps hld F3.x.keep, hlv⟩, r, vs, er, plain_keeps hr F3.x.keep, RowsAt.move (fun b vs q => tuple_keeps q F3.x.keep) hrs⟩

def P7 (codes line : List Nat) (laid : List Int) (h : Heap) (m cm : Str → Option Value) : Prop :=
  P4 codes h m cm ∧ LI h (cm (Str.ofString "laid")) laid ∧ LI h (cm (Str.ofString "line")) (nats line)
set_option maxHeartbeats 2000000 in
theorem law6 {codes : List Nat} {rows : List (Nat × Nat)} {laid : List Int} {s : Shared} (hh : A.handled = none) (hs : At hp gn dr os L (P5 codes rows laid) s) (hlen : rows.length ≤ 6) :
    wpAny (model prog w) A (exec (ls 6) (lawE L a cd)) (fun f s' => f = .next ∧ At hp gn dr os L (P7 codes (rows.map (·.1)) laid) s') NoE s := by
  obtain ⟨h, tk, m, cm, rfl, F0, ⟨⟨D, ys, eD, hD0, hys⟩, ts, es⟩, ⟨ld, lv, eld, hld0, hlv⟩, r, vs, er, hr0, hrs0⟩ := hs
  obtain ⟨hT, kT, F, tp, tt⟩ := F0.turnT
  have hD := tp _ _ hD0
  have hld := tp _ _ hld0
  have hr := tp _ _ hr0
  have hrs := RowsAt.move tt hrs0
  refine wpAny_Assign_Name ?_
  refine lcPairs (g := gn) (d := dr) (o := os) [] (fun p => p.1) ?c1 ?c2 ?c3 ?c4 ?c5 ?c6 ?c7 ?c8 hh ?_
  case c1 => exact closureFor_none (by decide)
  case c2 => decide
  case c3 => rfl
  case c4 => decide
  case c5 => intro _; rfl
  case c6 => rfl
  case c7 => rfl
  case c8 => decide
  refine Mine.ld F.x er ?_
  refine ⟨h, tk, r, vs, rows, rfl, rfl, (plain_keeps hr F.x.keep).isList, RowsAt.move (fun b vs q => tuple_keeps q F.x.keep) hrs, by rw [hrs.length]; omega, fun C m' h' tk' p t1 t2 Q' hn hx hy hq => ?_, fun D1 h₁ tk₁ zs nD1 hD1 hzs k₁ => ?_⟩
  · refine ldN hn hx ?_
    exact hq _
  have F1 := F.keeps k₁
  obtain ⟨hT', kT', T, tp', _⟩ := F1.turnT
  refine R.stCF T (lawC_line L) (fun h₂ T2 _ => ?_)
  have kk : ∀ b vs, hT.PlainList b vs → h₂.PlainList b vs := fun b vs q => plain_keeps (tp' _ _ (plain_keeps q F1.x.keep)) T2.x.keep
  exact ⟨rfl, h₂, _, _, _, rfl, (T2.weaken kT').weaken kT, ⟨⟨D, ys, eD, kk _ _ hD, hys⟩, ts, es⟩, ⟨ld, lv, eld, kk _ _ hld, hlv⟩, D1, zs, rfl, plain_keeps (tp' _ _ hD1) T2.x.keep, hzs⟩

set_option maxHeartbeats 2000000 in
theorem law7 {codes line : List Nat} {laid : List Int} {s : Shared} (B : Bs hp mg mb) (hroom : A.depth < recursionLimit) (hh : A.handled = none) (hu : A.units + 70 < cLine) (hs : At hp gn dr os L (P7 codes line laid) s) (hlen : codes.length ≤ 6) (hll : line.length = codes.length)
    (hback : backGo (codes.length + 1) (nats line) [] = some (nats codes)) :
    wpAny (model prog w) A (exec (ls 7) (lawE L a cd)) (fun f s' => f = .next ∧ At hp gn dr os L (P7 codes line laid) s') NoE s := by
  obtain ⟨h, tk, m, cm, rfl, F0, ⟨⟨D, ys, eD, hD0, hys⟩, ts, es⟩, ⟨ld, lv, eld, hld0, hlv⟩, ln, nv, eln, hln0, hnv⟩ := hs
  obtain ⟨hT, kT, F, tp, tt⟩ := F0.turnT
  have hD := tp _ _ hD0
  have hld := tp _ _ hld0
  have hln := tp _ _ hln0
  obtain ⟨fb, efb, ffb⟩ := B.fn (16, "_law_back") (by decide)
  have kB := kT.trans F.x.keep
  have hnl : (nats line).length = codes.length := by simp [nats, hll]
  refine wpAny_If ?_
  refine wpAny_isTrue_Compare1 ?_
  refine callF1 (a := fb) (n := 16) ?_
  refine gl (B.keeps kB) efb ?_
  refine ⟨rfl, ?_⟩
  refine R.ldF F (lawC_line L) eln ?_
  refine ⟨ffb.keeps kB, ?_⟩
  refine back_call (ffb.keeps kB) (B.keeps kB) hroom (by omega) hh (plain_keeps hln F.x.keep).isList hnv (by omega) (by rw [hnl]; exact hback) (fun h₁ tk₁ D1 zs k₁ hD1 hzs => ?_)
  have F1 := F.keeps k₁
  refine R.ldF F1 (lawC_codes L) eD ?_
  refine W.ne_intsK (s := ⟨h₁, gn, dr, tk₁, os⟩) hD1.isList hzs (plain_keeps hD F1.x.keep).isList hys (by omega) ?_
  refine wpAny_truthy_bool ?_
  have e : (!decide (nats codes = nats codes)) = false := by simp
  rw [e, if_neg Bool.false_ne_true]
  refine wpAny_execs_nil ?_
  exact ⟨rfl, h₁, tk₁, m, cm, rfl, F1.weaken kT, ⟨⟨D, ys, eD, plain_keeps hD F1.x.keep, hys⟩, ts, es⟩, ⟨ld, lv, eld, plain_keeps hld F1.x.keep, hlv⟩, ln, nv, eln, plain_keeps hln F1.x.keep, hnv⟩

def P8 (codes line : List Nat) (laid : List Int) (ast : Int) (h : Heap) (m cm : Str → Option Value) : Prop := P7 codes line laid h m cm ∧ ∃ t, m (Str.ofString "astray") = some (.int ast t)
set_option maxHeartbeats 2000000 in
theorem law8 {codes line : List Nat} {laid : List Int} {s : Shared} (B : Bs hp mg mb) (hh : A.handled = none) (hs : At hp gn dr os L (P7 codes line laid) s) (hlen : codes.length ≤ 6) (hll : line.length = codes.length) :
    wpAny (model prog w) A (exec (ls 8) (lawE L a cd)) (fun f s' => f = .next ∧ At hp gn dr os L (P8 codes line laid (awayOf line codes.length).sum) s') NoE s := by
  obtain ⟨h, tk, m, cm, rfl, F0, ⟨⟨D, ys, eD, hD0, hys⟩, ts, es⟩, ⟨ld, lv, eld, hld0, hlv⟩, ln, nv, eln, hln0, hnv⟩ := hs
  obtain ⟨hT, kT, F, tp, tt⟩ := F0.turnT
  have hD := tp _ _ hD0
  have hld := tp _ _ hld0
  have hln := tp _ _ hln0
  have kB := kT.trans F.x.keep
  refine wpAny_Assign_Name ?_
  refine callB1 (id := "sum") ?_
  refine bl (B.keeps kB) (B.free "sum" (by decide)) PyProof.Rows.Boot.«sum» ?_
  refine ⟨rfl, ?_⟩
  refine lc [(Str.ofString "line", L + 4)] (fun _ => true) (fun v y => ∃ n t u, v = Value.int n t ∧ y = Value.int ((fun i : Nat => nAbs ((line.getD i 0 : Int) - (i : Int) - 1)) n.toNat) u) ?d1 ?d2 ?d3 ?d4 ?d5 ?d6 ?_
  case d1 => rfl
  case d2 => decide
  case d3 => rfl
  case d4 => decide
  case d5 => rfl
  case d6 => intro _; rfl
  refine callT1 (T := "range") ?_
  refine bl (B.keeps kB) (B.free "range" (by decide)) PyProof.Rows.Boot.«range» ?_
  refine ⟨rfl, ?_⟩
  refine Mine.ld F.x es ?_
  refine R.range (n := codes.length) (fun rr t u v h₂ tk₂ k₂ hrr _ => ?_)
  have F2 := F.keeps k₂
  have hc2 : h₂.IsCell (L + 4) (some (.ref ln)) := eln ▸ F2.cell _ _ (lawC_line L)
  have hln2 := plain_keeps hln F2.x.keep
  refine srcRange (s := ⟨h₂, gn, dr, tk₂, os⟩) hh hrr (by omega) (by omega) (by omega) (fun C i t s₃ m₃ E' h0 h1 hn hm hk hC => ?_) (fun C i t s₃ m₃ E' h0 h1 _ hn hm hk hC => ?_) ?_
  · exact noTests ⟨rfl, keeps_refl _⟩
  · rcases s₃ with ⟨hq, gg, dd', tt', oo⟩
    obtain ⟨k, rfl⟩ : ∃ k : Nat, i = Int.ofNat k := ⟨i.toNat, (Int.toNat_of_nonneg h0).symm⟩
    have hk6 : k < line.length := by have : (k : Int) < _ := h1; omega
    obtain ⟨tv, htv⟩ := hnv.get k (Int.ofNat (line.getD k 0)) (by simp [nats, List.getD, hk6])
    refine callB1 (id := "abs") ?_
    refine bl (B.keeps (kB.trans (k₂.trans hk))) (B.free "abs" (by decide)) PyProof.Rows.Boot.«abs» ?_
    refine ⟨rfl, ?_⟩
    refine wpAny_BinOp ?_
    refine wpAny_BinOp ?_
    refine subL ?_ (by intros; rfl)
    refine R.ldC (c := L + 4) (cell_keeps hc2 hk) ?_
    refine ldN hn hm ?_
    refine ⟨ln, nv, k, t, _, rfl, rfl, (plain_keeps hln2 hk).isList, by omega, htv, ?_⟩
    refine ldN hn hm ?_
    refine R.sub (fun _ _ => ?_)
    refine R.cI (fun _ _ => ?_)
    refine R.sub (fun _ _ => ?_)
    refine R.abs (fun u _ => ?_)
    exact ⟨⟨_, t, u, rfl, rfl⟩, ⟨_, _, rfl, fun _ _ e => e⟩⟩
  intro D2 h₃ tk₃ vs' zs' nD2 hD2 hvs' hF' k₃
  have F3 := F2.keeps k₃
  refine R.sumL hh hD2.isList (compRange_ints (f := fun i : Nat => nAbs ((line.getD i 0 : Int) - (i : Int) - 1)) hvs' hF') (fun h₄ tk₄ t k₄ => ?_)
  have F4 := F3.keeps k₄
  refine R.stF F4 (fun h₅ tk₅ F5 _ => ?_)
  exact ⟨rfl, h₅, tk₅, _, _, rfl, F5.weaken kT, ⟨⟨⟨D, ys, eD, plain_keeps hD F5.x.keep, hys⟩, ts, es⟩, ⟨ld, lv, eld, plain_keeps hld F5.x.keep, hlv⟩, ln, nv, eln, plain_keeps hln F5.x.keep, hnv⟩, t, rfl⟩
end
end Mine
end

section
open PySem PySem.Builtin PySem.Calls PyProof.Rows
set_option maxRecDepth 100000
namespace Mine
section
variable {prog : Program} {w : World} {A : Around} {mg mb : Str → Option Value} {hp : Heap} {gn : Array GenState} {dr : Drawn} {os : OsState} {L a : Addr} {cd : Value}
def P9 (codes line : List Nat) (laid : List Int) (ast bo : Int) (h : Heap) (m cm : Str → Option Value) : Prop := P8 codes line laid ast h m cm ∧ ∃ t, m (Str.ofString "both") = some (.int bo t)
set_option maxHeartbeats 2000000 in
theorem law9 {codes line : List Nat} {laid : List Int} {ast : Int} {s : Shared} (B : Bs hp mg mb) (hh : A.handled = none) (hs : At hp gn dr os L (P8 codes line laid ast) s) (hlen : codes.length ≤ 6) (hll : line.length = codes.length) (hdl : laid.length = codes.length) :
    wpAny (model prog w) A (exec (ls 9) (lawE L a cd)) (fun f s' => f = .next ∧ At hp gn dr os L (P9 codes line laid ast (bothOf codes line laid codes.length).sum) s') NoE s := by
  obtain ⟨h, tk, m, cm, rfl, F0, ⟨⟨⟨D, ys, eD, hD0, hys⟩, ts, es⟩, ⟨ld, lv, eld, hld0, hlv⟩, ln, nv, eln, hln0, hnv⟩, ta, ea⟩ := hs
  obtain ⟨hT, kT, F, tp, tt⟩ := F0.turnT
  have hD := tp _ _ hD0
  have hld := tp _ _ hld0
  have hln := tp _ _ hln0
  have kB := kT.trans F.x.keep
  refine wpAny_Assign_Name ?_
  refine callB1 (id := "sum") ?_
  refine bl (B.keeps kB) (B.free "sum" (by decide)) PyProof.Rows.Boot.«sum» ?_
  refine ⟨rfl, ?_⟩
  refine lc [(Str.ofString "line", L + 4), (Str.ofString "laid", L + 3), (Str.ofString "codes", L + 2)] (fun _ => true) (fun v y => ∃ n t u, v = Value.int n t ∧ y = Value.int ((fun i : Nat => nMin (laid.getD i 0) ((line.getD i 0 : Int) - (codes.getD i 0 : Int))) n.toNat) u) ?d1 ?d2 ?d3 ?d4 ?d5 ?d6 ?_
  case d1 => rfl
  case d2 => decide
  case d3 => rfl
  case d4 => decide
  case d5 => rfl
  case d6 => intro _; rfl
  refine callT1 (T := "range") ?_
  refine bl (B.keeps kB) (B.free "range" (by decide)) PyProof.Rows.Boot.«range» ?_
  refine ⟨rfl, ?_⟩
  refine Mine.ld F.x es ?_
  refine R.range (n := codes.length) (fun rr t u v h₂ tk₂ k₂ hrr _ => ?_)
  have F2 := F.keeps k₂
  have hc2 : h₂.IsCell (L + 4) (some (.ref ln)) := eln ▸ F2.cell _ _ (lawC_line L)
  have hc3 : h₂.IsCell (L + 3) (some (.ref ld)) := eld ▸ F2.cell _ _ (lawC_laid L)
  have hc4 : h₂.IsCell (L + 2) (some (.ref D)) := eD ▸ F2.cell _ _ (lawC_codes L)
  have hln2 := plain_keeps hln F2.x.keep
  have hld2 := plain_keeps hld F2.x.keep
  have hD2' := plain_keeps hD F2.x.keep
  refine srcRange (s := ⟨h₂, gn, dr, tk₂, os⟩) hh hrr (by omega) (by omega) (by omega) (fun C i t s₃ m₃ E' h0 h1 hn hm hk hC => ?_) (fun C i t s₃ m₃ E' h0 h1 _ hn hm hk hC => ?_) ?_
  · exact noTests ⟨rfl, keeps_refl _⟩
  · rcases s₃ with ⟨hq, gg, dd', tt', oo⟩
    obtain ⟨k, rfl⟩ : ∃ k : Nat, i = Int.ofNat k := ⟨i.toNat, (Int.toNat_of_nonneg h0).symm⟩
    have hk6 : k < codes.length := by have : (k : Int) < _ := h1; omega
    obtain ⟨tv, htv⟩ := hnv.get k (Int.ofNat (line.getD k 0)) (by simp [nats, List.getD, hll, hk6])
    obtain ⟨tw, htw⟩ := hys.get k (Int.ofNat (codes.getD k 0)) (by simp [nats, List.getD, hk6])
    obtain ⟨tx, htx⟩ := hlv.get k (laid.getD k 0) (by simp [List.getD, hdl, hk6])
    refine callB2 (id := "min") ?_
    refine bl (B.keeps (kB.trans (k₂.trans hk))) (B.free "min" (by decide)) PyProof.Rows.Boot.«min» ?_
    refine ⟨rfl, ?_⟩
    refine subL ?_ (by intros; rfl)
    refine R.ldC (c := L + 3) (cell_keeps hc3 hk) ?_
    refine ldN hn hm ?_
    refine ⟨ld, lv, k, t, _, rfl, rfl, (plain_keeps hld2 hk).isList, by omega, htx, ?_⟩
    refine wpAny_BinOp ?_
    refine subL ?_ (by intros; rfl)
    refine R.ldC (c := L + 4) (cell_keeps hc2 hk) ?_
    refine ldN hn hm ?_
    refine ⟨ln, nv, k, t, _, rfl, rfl, (plain_keeps hln2 hk).isList, by omega, htv, ?_⟩
    refine subL ?_ (by intros; rfl)
    refine R.ldC (c := L + 2) (cell_keeps hc4 hk) ?_
    refine ldN hn hm ?_
    refine ⟨D, ys, k, t, _, rfl, rfl, (plain_keeps hD2' hk).isList, by omega, htw, ?_⟩
    refine R.sub (fun _ _ => ?_)
    refine R.minI hh (fun h' tk' u k' => ?_)
    exact ⟨⟨_, t, u, rfl, rfl⟩, ⟨_, _, rfl, k'⟩⟩
  intro D2 h₃ tk₃ vs' zs' nD2 hD2 hvs' hF' k₃
  have F3 := F2.keeps k₃
  refine R.sumL hh hD2.isList (compRange_ints (f := fun i : Nat => nMin (laid.getD i 0) ((line.getD i 0 : Int) - (codes.getD i 0 : Int))) hvs' hF') (fun h₄ tk₄ t k₄ => ?_)
  have F4 := F3.keeps k₄
  refine R.stF F4 (fun h₅ tk₅ F5 _ => ?_)
  exact ⟨rfl, h₅, tk₅, _, _, rfl, F5.weaken kT, ⟨⟨⟨⟨D, ys, eD, plain_keeps hD F5.x.keep, hys⟩, ts, es⟩, ⟨ld, lv, eld, plain_keeps hld F5.x.keep, hlv⟩, ln, nv, eln, plain_keeps hln F5.x.keep, hnv⟩, ta, ea⟩, t, rfl⟩

set_option maxHeartbeats 2000000 in
theorem law10 {codes line : List Nat} {laid : List Int} {ast bo : Int} {s : Shared} (B : Bs hp mg mb) (hh : A.handled = none) (hs : At hp gn dr os L (P9 codes line laid ast bo) s) (heq : ast = 2 * laid.sum - 2 * bo) :
    wpAny (model prog w) A (exec (ls 10) (lawE L a cd)) (fun f s' => f = .next ∧ At hp gn dr os L (P8 codes line laid ast) s') NoE s := by
  obtain ⟨h, tk, m, cm, rfl, F0, ⟨⟨⟨⟨D, ys, eD, hD0, hys⟩, ts, es⟩, ⟨ld, lv, eld, hld0, hlv⟩, ln, nv, eln, hln0, hnv⟩, ta, ea⟩, tb, eb⟩ := hs
  obtain ⟨hT, kT, F, tp, tt⟩ := F0.turnT
  have hD := tp _ _ hD0
  have hld := tp _ _ hld0
  have hln := tp _ _ hln0
  have kB := kT.trans F.x.keep
  refine wpAny_If ?_
  refine wpAny_isTrue_Compare1 ?_
  refine Mine.ld F.x ea ?_
  refine wpAny_BinOp ?_
  refine wpAny_BinOp ?_
  refine R.cI (fun _ _ => ?_)
  refine callB1 (id := "sum") ?_
  refine bl (B.keeps kB) (B.free "sum" (by decide)) PyProof.Rows.Boot.«sum» ?_
  refine ⟨rfl, ?_⟩
  refine R.ldF F (lawC_laid L) eld ?_
  refine R.sumL hh (plain_keeps hld F.x.keep).isList hlv (fun h₁ tk₁ t k₁ => ?_)
  have F1 := F.keeps k₁
  refine R.mul (intMul2 _) (fun _ _ => ?_)
  refine wpAny_BinOp ?_
  refine R.cI (fun _ _ => ?_)
  refine Mine.ld F1.x eb ?_
  refine R.mul (intMul2 _) (fun _ _ => ?_)
  refine R.sub (fun _ tk₂ => ?_)
  refine ne_int ?_
  refine wpAny_truthy_bool ?_
  have e : (ast != 2 * laid.sum - 2 * bo) = false := by rw [← heq]; simp
  rw [e, if_neg Bool.false_ne_true]
  refine wpAny_execs_nil ?_
  exact ⟨rfl, h₁, tk₂, m, cm, rfl, F1.weaken kT, ⟨⟨⟨D, ys, eD, plain_keeps hD F1.x.keep, hys⟩, ts, es⟩, ⟨ld, lv, eld, plain_keeps hld F1.x.keep, hlv⟩, ln, nv, eln, plain_keeps hln F1.x.keep, hnv⟩, ta, ea⟩

set_option maxHeartbeats 2000000 in
theorem law11 {codes line : List Nat} {laid : List Int} {ast : Int} {r p : Nat} {s : Shared} (B : Bs hp mg mb) (hroom : A.depth < recursionLimit) (hh : A.handled = none) (hs : At hp gn dr os L (P8 codes line laid ast) s) (hlen : codes.length ≤ 6) (hll : line.length = codes.length)
    (hr : ringsOf line = some r) (hp' : passedGo (codes.length + 1) (nats line) 0 = some p) (heq : ast = laid.sum + codes.length - r + 2 * p) :
    wpAny (model prog w) A (exec (ls 11) (lawE L a cd)) (fun f s' => f = .next ∧ At hp gn dr os L (P8 codes line laid ast) s') NoE s := by
  obtain ⟨h, tk, m, cm, rfl, F0, ⟨⟨⟨D, ys, eD, hD0, hys⟩, ts, es⟩, ⟨ld, lv, eld, hld0, hlv⟩, ln, nv, eln, hln0, hnv⟩, ta, ea⟩ := hs
  obtain ⟨hT, kT, F, tp, tt⟩ := F0.turnT
  have hD := tp _ _ hD0
  have hld := tp _ _ hld0
  have hln := tp _ _ hln0
  have kB := kT.trans F.x.keep
  obtain ⟨fr, efr, ffr⟩ := B.fn (17, "_law_rings") (by decide)
  obtain ⟨fp, efp, ffp⟩ := B.fn (18, "_law_passed") (by decide)
  have hnl : (nats line).length = codes.length := by simp [nats, hll]
  refine wpAny_If ?_
  refine wpAny_isTrue_Compare1 ?_
  refine Mine.ld F.x ea ?_
  refine wpAny_BinOp ?_
  refine wpAny_BinOp ?_
  refine wpAny_BinOp ?_
  refine callB1 (id := "sum") ?_
  refine bl (B.keeps kB) (B.free "sum" (by decide)) PyProof.Rows.Boot.«sum» ?_
  refine ⟨rfl, ?_⟩
  refine R.ldF F (lawC_laid L) eld ?_
  refine R.sumL hh (plain_keeps hld F.x.keep).isList hlv (fun h₁ tk₁ t k₁ => ?_)
  have F1 := F.keeps k₁
  have kB1 := kT.trans F1.x.keep
  refine Mine.ld F1.x es ?_
  refine R.add (fun _ _ => ?_)
  refine callF1 (a := fr) (n := 17) ?_
  refine gl (B.keeps kB1) efr ?_
  refine ⟨rfl, ?_⟩
  refine R.ldF F1 (lawC_line L) eln ?_
  refine ⟨ffr.keeps kB1, ?_⟩
  refine rings_call (ffr.keeps kB1) (B.keeps kB1) hroom hh (plain_keeps hln F1.x.keep).isList hnv (by omega) hr (fun h₂ tk₂ t₂ k₂ => ?_)
  have F2 := F1.keeps k₂
  have kB2 := kT.trans F2.x.keep
  refine R.sub (fun _ _ => ?_)
  refine wpAny_BinOp ?_
  refine R.cI (fun _ _ => ?_)
  refine callF1 (a := fp) (n := 18) ?_
  refine gl (B.keeps kB2) efp ?_
  refine ⟨rfl, ?_⟩
  refine R.ldF F2 (lawC_line L) eln ?_
  refine ⟨ffp.keeps kB2, ?_⟩
  refine passed_call (ffp.keeps kB2) (B.keeps kB2) hroom hh (plain_keeps hln F2.x.keep) hnv (by omega) (by rw [hnl]; exact hp') (fun h₃ tk₃ t₃ k₃ => ?_)
  have F3 := F2.keeps k₃
  refine R.mul (intMul2 _) (fun _ _ => ?_)
  refine R.add (fun _ tk₄ => ?_)
  refine ne_int ?_
  refine wpAny_truthy_bool ?_
  have e : (ast != laid.sum + Int.ofNat codes.length - Int.ofNat r + 2 * Int.ofNat p) = false := by
    have : laid.sum + Int.ofNat codes.length - Int.ofNat r + 2 * Int.ofNat p = ast := heq.symm
    rw [this]; simp
  rw [e, if_neg Bool.false_ne_true]
  refine wpAny_execs_nil ?_
  exact ⟨rfl, h₃, tk₄, m, cm, rfl, F3.weaken kT, ⟨⟨⟨D, ys, eD, plain_keeps hD F3.x.keep, hys⟩, ts, es⟩, ⟨ld, lv, eld, plain_keeps hld F3.x.keep, hlv⟩, ln, nv, eln, plain_keeps hln F3.x.keep, hnv⟩, ta, ea⟩
end
end Mine
end

section
open PySem PySem.Builtin PySem.Calls PyProof.Rows
set_option maxRecDepth 100000
namespace Mine
section
variable {prog : Program} {w : World} {A : Around} {mg mb : Str → Option Value} {hp : Heap} {gn : Array GenState} {dr : Drawn} {os : OsState} {L a : Addr} {cd : Value}
def P12 (hB : Heap) (n : Nat) (line : List Nat) (laid : List Int) (ast : Int) (X : Addr → Nat → Prop) (h : Heap) (m cm : Str → Option Value) : Prop :=
  LI hB (cm (Str.ofString "laid")) laid ∧ LI hB (cm (Str.ofString "line")) (nats line) ∧ (∃ t, m (Str.ofString "size") = some (.int (Int.ofNat n) t)) ∧ (∃ t, m (Str.ofString "astray") = some (.int ast t)) ∧
    ∃ fl vs, m (Str.ofString "falls") = some (.ref fl) ∧ h.PlainList fl (vs : List Value).toArray ∧ hB.get? fl = none ∧ X fl vs.length
theorem law12 {codes line : List Nat} {laid : List Int} {ast : Int} {s : Shared} (hs : At hp gn dr os L (P8 codes line laid ast) s) :
    wpAny (model prog w) A (exec (ls 12) (lawE L a cd)) (fun f s' => f = .next ∧ ∃ hB, Sub hp hB ∧ At hB gn dr os L (P12 hB codes.length line laid ast (fun _ c => c = 0)) s') NoE s := by
  obtain ⟨h, tk, m, cm, rfl, F0, ⟨⟨⟨D, ys, eD, hD0, hys⟩, ts, es⟩, ⟨ld, lv, eld, hld0, hlv⟩, ln, nv, eln, hln0, hnv⟩, ta, ea⟩ := hs
  obtain ⟨hT, kT, F, tp, tt⟩ := F0.turnT
  have hld := tp _ _ hld0
  have hln := tp _ _ hln0
  refine wpAny_Assign_Name ?_
  refine R.dispL ?_
  refine wpAny_items_nil ?_
  refine ⟨_, _, rfl, Nat.zero_le _, fun fl h₁ k₁ hfl nfl => ?_⟩
  have F1 := F.keeps k₁
  refine R.stF F1 (fun h₂ tk₂ F2 hs2 => ?_)
  exact ⟨rfl, hT, kT, h₂, tk₂, _, _, rfl, F2, ⟨ld, lv, eld, hld, hlv⟩, ⟨ln, nv, eln, hln, hnv⟩, ⟨ts, es⟩, ⟨ta, ea⟩, fl, [], rfl, hfl.extBut hs2.extBut (plain_ne_ns hfl F1.x.ns), sub_none F.x.keep nfl, rfl⟩

theorem dec_lt (a b : Nat) : decide (Int.ofNat a < Int.ofNat b) = decide (a < b) := by
  by_cases h : a < b
  · rw [decide_eq_true h]; exact decide_eq_true (Int.ofNat_lt.mpr h)
  · rw [decide_eq_false h]; exact decide_eq_false (fun c => h (Int.ofNat_lt.mp c))

set_option maxHeartbeats 4000000 in
theorem law13 {n : Nat} {line : List Nat} {laid : List Int} {ast : Int} {s : Shared} (B : Bs hp mg mb) (hh : A.handled = none) (hs : At hp gn dr os L (P12 hp n line laid ast (fun _ c => c = 0)) s) (hn6 : n ≤ 6) (hll : line.length = n) :
    wpAny (model prog w) A (exec (ls 13) (lawE L a cd)) (fun f s' => f = .next ∧ At hp gn dr os L (P12 hp n line laid ast (fun _ c => c = fallsGo line n n 0 0)) s') NoE s := by
  obtain ⟨h, tk, m, cm, rfl, F, hld, hln, ⟨ts, es⟩, ⟨ta, ea⟩, fl, vs, efl, hfl, nfl, hc0⟩ := hs
  have hv0 : vs.length = 0 := hc0
  refine R.forRangeC (h₀ := hp) (cs := lawC L) (c := L + 5) (n := n) (fun it i h' m cm => P12 hp n line laid ast (fun fl c => fl ≠ it ∧ fallsGo line n (n - i) i c = fallsGo line n n 0 0 ∧ c ≤ i * 10000) h' m cm) hh (by omega) (lawC_j L) rfl rfl rfl (by intro _; rfl) ?_ ?_ ?_ ?_ ?_
  · refine callT1 (T := "range") ?_
    refine bl (B.keeps F.x.keep) (B.free "range" (by decide)) PyProof.Rows.Boot.«range» ?_
    refine ⟨rfl, ?_⟩
    refine Mine.ld F.x es ?_
    refine R.range (n := n) (fun rr t u v h₂ tk₂ k₂ hrr _ => ?_)
    refine ⟨h₂, tk₂, rr, t, u, v, m, cm, rfl, rfl, hrr, F.keeps k₂, fun it nit h₃ k₃ => ⟨hld, hln, ⟨ts, es⟩, ⟨ta, ea⟩, fl, vs, efl, plain_keeps hfl (k₂.trans k₃), nfl, ?_, ?_, ?_⟩⟩
    · exact plain_ne_none (plain_keeps hfl k₂) nit
    · rw [hv0]; rfl
    · omega
  · rintro it i h h' m cm ⟨q1, q2, q3, q4, fl, vs, e, p, nf, ne, r⟩ hx
    exact ⟨q1, q2, q3, q4, fl, vs, e, p.extBut hx ne, nf, ne, r⟩
  · rintro it i h h' m cm v ⟨q1, q2, q3, q4, fl, vs, e, p, nf, ne, r⟩ hc hx
    exact ⟨q1, q2, q3, q4, fl, vs, e, p.extBut hx.extBut (plain_ne_cell p hc), nf, ne, r⟩
  · clear hld hln es ea efl hfl nfl hc0 hv0 F
    rintro it j h m cm tk tj hj hitL hitC oit _ ⟨hld, ⟨ln, nv, eln, hln, hnv⟩, ⟨ts, es⟩, ⟨ta, ea⟩, fl, vs, efl, hfl, nfl, hne, hgo, hcl⟩ F0
    obtain ⟨hT, kT, F, nT, tk'⟩ := F0.turnX fl nfl
    have hitT : ∀ o, h.get? it = some o → hT.get? it = some o := fun o e => tk' it o e hitL hitC hne.symm
    have hlnT := plain_keeps hln kT
    have kB := kT.trans F.x.keep
    have hjl : j < line.length := by omega
    obtain ⟨tv, htv⟩ := hnv.get j (Int.ofNat (line.getD j 0)) (by simp [nats, List.getD, hjl])
    -- ahead
    refine wpAny_execs_cons ?_
    refine asg [(Str.ofString "line", L + 4), (Str.ofString "j", L + 5)] (fun v => match v with | .int n _ => decide (line.getD j 0 < line.getD n.toNat 0) | _ => false) (fun v y => ∃ n t u, v = Value.int n t ∧ y = Value.int n u) ?c1 ?c2 ?c3 ?c4 ?c5 ?c6 ?c7 ?c8 ?c9 ?_
    case c1 => rfl
    case c2 => rfl
    case c3 => decide
    case c4 => rfl
    case c5 => decide
    case c6 => rfl
    case c7 => rfl
    case c8 => rfl
    case c9 => intro _; rfl
    refine callT1 (T := "range") ?_
    refine bl (B.keeps kB) (B.free "range" (by decide)) PyProof.Rows.Boot.«range» ?_
    refine ⟨rfl, ?_⟩
    refine R.ldF F (lawC_j L) rfl ?_
    refine R.range (n := j) (fun rr t u v h₁ tk₁ k₁ hrr _ => ?_)
    have F1 := F.keeps k₁
    have hcl1 : h₁.IsCell (L + 4) (some (.ref ln)) := eln ▸ F1.cell _ _ (lawC_line L)
    have hcj1 : h₁.IsCell (L + 5) (some (.int (Int.ofNat j) tj)) := F1.cell _ _ (lawC_j L)
    have hln1 := plain_keeps hlnT F1.x.keep
    refine srcARange (s := ⟨h₁, gn, dr, tk₁, os⟩) hh hrr (by omega) (by omega) (by omega) F1.x.ns (fun C i t s₃ m₃ E' h0 h1 hn hm hk hC => ?_) (fun C i t s₃ m₃ E' h0 h1 _ hn hm hk hC => ?_) ?_
    · rcases s₃ with ⟨hq, gg, dd', tt', oo⟩
      obtain ⟨k, rfl⟩ : ∃ k : Nat, i = Int.ofNat k := ⟨i.toNat, (Int.toNat_of_nonneg h0).symm⟩
      have hk6 : k < line.length := by have : (k : Int) < _ := h1; omega
      obtain ⟨tw, htw⟩ := hnv.get k (Int.ofNat (line.getD k 0)) (by simp [nats, List.getD, hk6])
      refine oneTest ?_
      refine wpAny_isTrue_Compare1 ?_
      refine subL ?_ (by intros; rfl)
      refine R.ldC (c := L + 4) (cell_keeps hcl1 hk) ?_
      refine ldN hn hm ?_
      refine ⟨ln, nv, k, t, _, rfl, rfl, (plain_keeps hln1 hk).isList, by omega, htw, ?_⟩
      refine subL ?_ (by intros; rfl)
      refine R.ldC (c := L + 4) (cell_keeps hcl1 hk) ?_
      refine R.ldC (c := L + 5) (cell_keeps hcj1 hk) ?_
      refine ⟨ln, nv, j, tj, _, rfl, rfl, (plain_keeps hln1 hk).isList, by omega, htv, ?_⟩
      refine gt_int ?_
      refine wpAny_truthy_bool ?_
      exact ⟨dec_lt _ _, keeps_refl _⟩
    · refine ldN hn hm ?_
      exact ⟨⟨i, t, t, rfl, rfl⟩, keeps_refl _⟩
    intro ah h₂ tk₂ vs1 ys1 nah hah hvs1 hF1 hns2 hx2
    have F2 := F1.setE hns2 hx2
    have hfl2 : h₂.PlainList fl vs.toArray := (plain_keeps hfl k₁).extBut hx2 (plain_ne_ns (plain_keeps hfl k₁) F1.x.ns)
    have la : ys1.length = aheadN line j := by
      have := intsAre_map (f := fun n => n) (q := fun n => decide (line.getD j 0 < line.getD n.toNat 0)) (fun _ _ => rfl) hvs1 hF1
      rw [this.length]
      simp [aheadN, List.filter_map, Function.comp_def]
    have hla6 : aheadN line j ≤ 6 := Nat.le_trans (List.length_filter_le _ _) (by simp; omega)
    clear hvs1 hF1
    obtain ⟨hU, kU, U2, nU, uk⟩ := F2.turnX fl nT
    have hahU : hU.PlainList ah ys1.toArray := by
      obtain ⟨q, e⟩ := id hah
      refine ⟨q, uk _ _ e (plain_ne_ns hah F2.x.ns) (fun n c e' => plain_ne_cell hah (F2.cell n c e')) ?_⟩
      exact (plain_ne_none (plain_keeps hfl k₁) nah).symm
    have kB2 := (kT.trans kU).trans U2.x.keep
    -- behind
    refine wpAny_execs_cons ?_
    refine wpAny_Assign_Name ?_
    refine lc [(Str.ofString "line", L + 4), (Str.ofString "j", L + 5)] (fun v => match v with | .int n _ => decide (line.getD n.toNat 0 < line.getD j 0) | _ => false) (fun v y => ∃ n t u, v = Value.int n t ∧ y = Value.int n u) ?d1 ?d2 ?d3 ?d4 ?d5 ?d6 ?_
    case d1 => rfl
    case d2 => decide
    case d3 => rfl
    case d4 => decide
    case d5 => rfl
    case d6 => intro _; rfl
    refine callT2 (T := "range") ?_
    refine bl (B.keeps kB2) (B.free "range" (by decide)) PyProof.Rows.Boot.«range» ?_
    refine ⟨rfl, ?_⟩
    refine wpAny_BinOp ?_
    refine R.ldF U2 (lawC_j L) rfl ?_
    refine R.cI (fun _ _ => ?_)
    refine R.add (fun _ _ => ?_)
    refine Mine.ld U2.x es ?_
    refine R.range2 (a := j + 1) (n := n) (fun rr2 t u v h₃ tk₃ k₃ hrr2 _ => ?_)
    have U3 := U2.keeps k₃
    have hcl3 : h₃.IsCell (L + 4) (some (.ref ln)) := eln ▸ U3.cell _ _ (lawC_line L)
    have hcj3 : h₃.IsCell (L + 5) (some (.int (Int.ofNat j) tj)) := U3.cell _ _ (lawC_j L)
    have hln3 := plain_keeps hlnT (kU.trans U3.x.keep)
    refine srcRange (s := ⟨h₃, gn, dr, tk₃, os⟩) hh hrr2 (by omega) (by omega) (by omega) (fun C i t s₃ m₃ E' h0 h1 hn hm hk hC => ?_) (fun C i t s₃ m₃ E' h0 h1 _ hn hm hk hC => ?_) ?_
    · rcases s₃ with ⟨hq, gg, dd', tt', oo⟩
      obtain ⟨k, rfl⟩ : ∃ k : Nat, i = Int.ofNat k := ⟨i.toNat, (Int.toNat_of_nonneg (by omega)).symm⟩
      have hk6 : k < line.length := by have : (k : Int) < _ := h1; omega
      obtain ⟨tw, htw⟩ := hnv.get k (Int.ofNat (line.getD k 0)) (by simp [nats, List.getD, hk6])
      refine oneTest ?_
      refine wpAny_isTrue_Compare1 ?_
      refine subL ?_ (by intros; rfl)
      refine R.ldC (c := L + 4) (cell_keeps hcl3 hk) ?_
      refine ldN hn hm ?_
      refine ⟨ln, nv, k, t, _, rfl, rfl, (plain_keeps hln3 hk).isList, by omega, htw, ?_⟩
      refine subL ?_ (by intros; rfl)
      refine R.ldC (c := L + 4) (cell_keeps hcl3 hk) ?_
      refine R.ldC (c := L + 5) (cell_keeps hcj3 hk) ?_
      refine ⟨ln, nv, j, tj, _, rfl, rfl, (plain_keeps hln3 hk).isList, by omega, htv, ?_⟩
      refine lt_int ?_
      refine wpAny_truthy_bool ?_
      exact ⟨dec_lt _ _, keeps_refl _⟩
    · refine ldN hn hm ?_
      exact ⟨⟨i, t, t, rfl, rfl⟩, keeps_refl _⟩
    intro be h₄ tk₄ vs2 ys2 nbe hbe hvs2 hF2 k₄
    have U4 := U3.keeps k₄
    have hfl4 := plain_keeps hfl2 (k₃.trans k₄)
    have lb : ys2.length = behindN line n j := by
      have := intsAre_map (f := fun n => n) (q := fun n => decide (line.getD n.toNat 0 < line.getD j 0)) (fun _ _ => rfl) hvs2 hF2
      rw [this.length]
      have e1 : ((n : Int) - ((j + 1 : Nat) : Int)).toNat = n - (j + 1) := by omega
      have e2 : ∀ x : Nat, (((j + 1 : Nat) : Int) + Int.ofNat x).toNat = j + 1 + x := fun x => by show (((j + 1 : Nat) : Int) + (x : Int)).toNat = _; omega
      simp only [List.map_id', List.filter_map, List.length_map, Function.comp_def, e1, e2]
      rfl
    have hlb6 : behindN line n j ≤ 6 := Nat.le_trans (List.length_filter_le _ _) (by simp; omega)
    clear hvs2 hF2
    have hflbe : fl ≠ be := plain_ne_none (plain_keeps hfl2 k₃) nbe
    refine R.stCF U4 (lawC_behind L) (fun h₅ U5 hs5 => ?_)
    have hbe5 := hbe.extBut hs5.extBut (plain_ne_cell hbe (U4.cell _ _ (lawC_behind L)))
    have hfl5 := hfl4.extBut hs5.extBut (plain_ne_cell hfl4 (U4.cell _ _ (lawC_behind L)))
    have hah5 := plain_keeps hahU U5.x.keep
    -- falls
    refine wpAny_execs_cons ?_
    refine wpAny_AugAssign_Name ?_
    refine ldn U5.x efl ?_
    refine lcTwo (g := gn) (d := dr) (o := os) [(Str.ofString "j", L + 5), (Str.ofString "behind", L + 6)] ?e1 ?e2 ?e3 ?e4 ?e5 ?e6 ?e7 ?e8 ?e9 hh ?_
    case e1 => rfl
    case e2 => decide
    case e3 => rfl
    case e4 => decide
    case e5 => intro _; rfl
    case e6 => intro _ _; rfl
    case e7 => rfl
    case e8 => rfl
    case e9 => decide
    refine Mine.ld U5.x rfl ?_
    have hcb5 : h₅.IsCell (L + 6) (some (.ref be)) := U5.cell _ _ (lawC_behind L)
    have hcj5 : h₅.IsCell (L + 5) (some (.int (Int.ofNat j) tj)) := U5.cell _ _ (lawC_j L)
    refine ⟨h₅, _, ah, ys1, be, ys2, rfl, rfl, hah5.isList, hbe5.isList, by omega, by omega, fun C h' tk' Q' k' hq => ?_, fun C m' h' tk' v u Q' k' hn hx hy hq => ?_, fun D h₆ tk₆ zs nD hD hzl k₆ => ?_⟩
    · exact R.ldC (c := L + 6) (cell_keeps hcb5 k') hq
    · refine R.dispT ?_
      refine wpAny_items_cons ?_
      refine ldN hn hx ?_
      refine wpAny_items_cons ?_
      refine R.ldC (c := L + 5) (cell_keeps hcj5 k') ?_
      refine wpAny_items_cons ?_
      refine ldN hn hy ?_
      refine wpAny_items_nil ?_
      exact ⟨_, _, rfl, by simp, fun dd h'' k'' _ _ => hq _ _ _ k''⟩
    have U6 := U5.keeps k₆
    have hfl6 := plain_keeps hfl5 k₆
    have hzb : zs.length ≤ 36 := by rw [hzl, la, lb]; exact Nat.mul_le_mul hla6 hlb6
    refine R.iaddL hfl6 hD (by omega) (fun h₇ hfl7 hs7 => ?_)
    have U7 := U6.extP hs7.extBut hfl6 nU
    refine R.stF U7 (fun h₈ tk₈ U8 hs8 => ?_)
    refine wpAny_execs_nil ?_
    refine ⟨rfl, h₈, tk₈, _, _, rfl, U8.weaken (kT.trans kU), ⟨hld, ⟨ln, nv, eln, hln, hnv⟩, ⟨ts, es⟩, ⟨ta, ea⟩, fl, vs ++ zs, rfl, hfl7.extBut hs8.extBut (plain_ne_ns hfl7 U7.x.ns), nfl, hne, ?_, ?_⟩, fun o e => U8.x.keep _ _ (kU _ _ (hitT _ e))⟩
    · rw [← hgo, List.length_append, hzl, la, lb, show n - j = (n - (j + 1)) + 1 by omega]
      rfl
    · rw [List.length_append]; omega
  · rintro it h tk m cm ⟨q1, q2, q3, q4, fl, vs, e, p, nf, ne, hgo, _⟩ F
    rw [Nat.sub_self] at hgo
    exact ⟨rfl, h, tk, m, cm, rfl, F, q1, q2, q3, q4, fl, vs, e, p, nf, hgo⟩
end
end Mine
end

section
open PySem PySem.Builtin PySem.Calls PyProof.Rows
set_option maxRecDepth 100000
namespace Mine
section
variable {prog : Program} {w : World} {A : Around} {mg mb : Str → Option Value} {hp : Heap} {gn : Array GenState} {dr : Drawn} {os : OsState} {L a : Addr} {cd : Value}
set_option maxHeartbeats 2000000 in
theorem law14 {n c : Nat} {line : List Nat} {laid : List Int} {ast : Int} {s : Shared} {Q : Flow → Shared → Prop} (B : Bs hp mg mb) (hh : A.handled = none) (hu : A.units + 70 < cLine) (hs : At hp gn dr os L (P12 hp n line laid ast (fun _ c' => c' = c)) s)
    (hlast : decide (ast = 2 * laid.sum) = decide (c = 0)) (hQ : ∀ h' tk', Sub hp h' → Q (.ret (.bool true)) ⟨h', gn, dr, tk', os⟩) :
    wpAny (model prog w) A (exec (ls 14) (lawE L a cd)) Q NoE s := by
  obtain ⟨h, tk, m, cm, rfl, F, ⟨ld, lv, eld, hld, hlv⟩, ⟨ln, nv, eln, hln, hnv⟩, ⟨ts, es⟩, ⟨ta, ea⟩, fl, vs, efl, hfl, nfl, hc⟩ := hs
  have hc' : vs.length = c := hc
  have kB := F.x.keep
  refine wpAny_Return_some ?_
  refine wpAny_Compare1 ?_
  refine wpAny_Compare1 ?_
  refine Mine.ld F.x ea ?_
  refine wpAny_BinOp ?_
  refine R.cI (fun _ _ => ?_)
  refine callB1 (id := "sum") ?_
  refine bl (B.keeps kB) (B.free "sum" (by decide)) PyProof.Rows.Boot.«sum» ?_
  refine ⟨rfl, ?_⟩
  refine R.ldF F (lawC_laid L) eld ?_
  refine R.sumL hh (plain_keeps hld F.x.keep).isList hlv (fun h₁ tk₁ t k₁ => ?_)
  have F1 := F.keeps k₁
  refine R.mul (intMul2 _) (fun _ _ => ?_)
  refine eq_int ?_
  refine wpAny_Compare1 ?_
  refine Mine.ld F1.x efl ?_
  refine R.dispL ?_
  refine wpAny_items_nil ?_
  refine ⟨_, _, rfl, Nat.zero_le _, fun em h₂ k₂ hem _ => ?_⟩
  have F2 := F1.keeps k₂
  refine R.eqEmpty (plain_keeps hfl (k₁.trans k₂)).isList hem.isList (by omega) ?_
  refine eq_bool ?_
  have e : ((ast == 2 * laid.sum) == decide (vs.length = 0)) = true := by
    rw [hc', ← hlast]
    have : (ast == 2 * laid.sum) = decide (ast = 2 * laid.sum) := by
      by_cases q : ast = 2 * laid.sum
      · rw [decide_eq_true q]; simpa using q
      · rw [decide_eq_false q]; simpa using q
    rw [this]; simp
  rw [e]
  exact hQ _ _ F2.x.keep

theorem codes_good (N : List Nat) : goodP (codesOf N) = true := by
  have hm := codesOf_mem (fun i => N.getD i 0) (sizeOf6 N)
  rcases size56 N with e | e
  · rw [e] at hm; exact good5 (by unfold codesOf; rw [e]; exact hm)
  · rw [e] at hm; exact good6 (by unfold codesOf; rw [e]; exact hm)

theorem law_exec {l : Addr} {vl : List Value} {script : List Int} {h : Heap} {tk : Nat} {m cm : Str → Option Value} {Q : Flow → Shared → Prop} (B : Bs hp mg mb) (P : Ps hp mg) (hroom : A.depth + 2 < recursionLimit) (hh : A.handled = none) (hu : A.units + 70 < cLine)
    (F : FC hp L (lawC L) h m cm) (e1 : m (Str.ofString "script") = some (.ref l)) (hl : hp.IsList l vl.toArray) (hli : IntsAre vl script) (hlen : vl.length ≤ 2000000)
    (hQ : ∀ h' tk', Sub hp h' → Q (.ret (.bool true)) ⟨h', gn, dr, tk', os⟩) : wpAny (model prog w) A (execs (bd 19) (lawE L a cd)) Q NoE ⟨h, gn, dr, tk, os⟩ := by
  obtain ⟨rows, laid, r, p, hline, fit⟩ := fits_of (codes_good (numsOf script))
  have h6 : (codesOf (numsOf script)).length ≤ 6 := by rw [codes_len]; rcases size56 (numsOf script) with e | e <;> omega
  have hN := nums_len script
  have hrl : rows.length = (codesOf (numsOf script)).length := by simpa using congrArg List.length fit.names
  have hll : (rows.map (·.1)).length = (codesOf (numsOf script)).length := by simpa using hrl
  have hfst : ((script.take 6).map fun x => (x.fmod 1000000).toNat) ++ [4, 7, 9, 12, 16, 9].drop ((script.take 6).map fun x => (x.fmod 1000000).toNat).length = numsOf script := by unfold numsOf; simp
  rw [bd19]
  refine execs_cut _ (law0 hh F e1 hl hli hlen) fun s0 hs0 => ?_
  refine execs_cut _ (law1 B hs0 (by simp; omega)) fun s1 hs1 => ?_
  rw [hfst] at hs1
  refine execs_cut _ (law2 hs1 hN) fun s2 hs2 => ?_
  refine execs_cut _ (law3 B hh hs2 hN) fun s3 hs3 => ?_
  generalize codesOf (numsOf script) = codes at *
  refine execs_cut _ (law4 B P hroom hh hs3 h6 hline) fun s4 hs4 => ?_
  refine execs_cut _ (law5 B hh hu hs4 h6 fit.names) fun s5 hs5 => ?_
  refine execs_cut _ (law6 hh hs5 (by omega)) fun s6 hs6 => ?_
  refine execs_cut _ (law7 B (by omega) hh hu hs6 h6 hll fit.back) fun s7 hs7 => ?_
  refine execs_cut _ (law8 B hh hs7 h6 hll) fun s8 hs8 => ?_
  refine execs_cut _ (law9 B hh hs8 h6 hll fit.laidLen) fun s9 hs9 => ?_
  refine execs_cut _ (law10 B hh hs9 fit.first) fun s10 hs10 => ?_
  refine execs_cut _ (law11 B (by omega) hh hs10 h6 hll fit.rings fit.passed fit.second) fun s11 hs11 => ?_
  refine execs_cut _ (law12 hs11) fun s12 hs12 => ?_
  obtain ⟨hB, kB, hs12⟩ := hs12
  refine execs_cut _ (law13 (B.keeps kB) hh hs12 h6 hll) fun s13 hs13 => ?_
  refine wpAny_execs_cons ?_
  exact law14 (B.keeps kB) hh hu hs13 fit.last (fun h' tk' k => hQ h' tk' (kB.trans k))
end
end Mine
end

section
open PySem PySem.W PyProof.Rows PySem.Calls
set_option maxRecDepth 100000
set_option maxHeartbeats 4000000
namespace Mine
def psOf : Stmt → Pos
  | .FunctionDef _ _ _ _ _ _ _ _ _ pos => pos
  | _ => default
def ps (n : Nat) : Pos := psOf (stm n)
theorem recs_eq : recsOf hd.view_39 = [⟨nm 4, pr 4, bd 4, sc 4, ps 4⟩, ⟨nm 5, pr 5, bd 5, sc 5, ps 5⟩, ⟨nm 7, pr 7, bd 7, sc 7, ps 7⟩, ⟨nm 12, pr 12, bd 12, sc 12, ps 12⟩,
    ⟨nm 14, pr 14, bd 14, sc 14, ps 14⟩, ⟨nm 15, pr 15, bd 15, sc 15, ps 15⟩, ⟨nm 16, pr 16, bd 16, sc 16, ps 16⟩, ⟨nm 17, pr 17, bd 17, sc 17, ps 17⟩,
    ⟨nm 18, pr 18, bd 18, sc 18, ps 18⟩, ⟨nm 19, pr 19, bd 19, sc 19, ps 19⟩] := by rfl
section
variable {loose : List Str} {mean : ExcName → Option Value} {mg mb : Str → Option Value} {h : Heap}
theorem fn_of (T : Top hd.view_39 loose mean mg mb h) (n : Nat) (pos : Pos) (hm : (⟨nm n, pr n, bd n, sc n, pos⟩ : DefRec) ∈ recsOf hd.view_39) : ∃ a, mg (nm n) = some (.ref a) ∧ IsFn h a n := by
  obtain ⟨a, o, pm, code, doc, e, ho, hd, hc⟩ := T.fn _ hm
  exact ⟨a, e, o, pm, code, doc, ho, hd, hc⟩
theorem bs_of (T : Top hd.view_39 loose mean mg mb h) (hl : loose = looseW hd.view_39 [Str.ofString "_twin_re_1", Str.ofString "_twin_re_2"]) : Bs h mg mb where
  g := T.g
  b := T.b
  nolimit := T.nolimit
  fn := by
    intro p hp
    simp only [List.mem_cons, List.not_mem_nil, or_false] at hp
    rcases hp with rfl | rfl | rfl | rfl | rfl | rfl | rfl | rfl | rfl
    · exact fn_of T 4 _ (by rw [recs_eq]; exact .head _)
    · exact fn_of T 5 _ (by rw [recs_eq]; exact .tail _ (.head _))
    · exact fn_of T 7 _ (by rw [recs_eq]; exact .tail _ (.tail _ (.head _)))
    · exact fn_of T 12 _ (by rw [recs_eq]; exact .tail _ (.tail _ (.tail _ (.head _))))
    · exact fn_of T 14 _ (by rw [recs_eq]; exact .tail _ (.tail _ (.tail _ (.tail _ (.head _)))))
    · exact fn_of T 15 _ (by rw [recs_eq]; exact .tail _ (.tail _ (.tail _ (.tail _ (.tail _ (.head _))))))
    · exact fn_of T 16 _ (by rw [recs_eq]; exact .tail _ (.tail _ (.tail _ (.tail _ (.tail _ (.tail _ (.head _)))))))
    · exact fn_of T 17 _ (by rw [recs_eq]; exact .tail _ (.tail _ (.tail _ (.tail _ (.tail _ (.tail _ (.tail _ (.head _))))))))
    · exact fn_of T 18 _ (by rw [recs_eq]; exact .tail _ (.tail _ (.tail _ (.tail _ (.tail _ (.tail _ (.tail _ (.tail _ (.head _)))))))))
  nt := by
    obtain ⟨v, e, r⟩ := T.const (Str.ofString "NT_OFFSET") (.int 256) rfl
    cases r h with
    | int => exact ⟨_, e⟩
  em := by
    obtain ⟨v, e, r⟩ := T.const (Str.ofString "ENDMARKER") (.int 0) rfl
    cases r h with
    | int => exact ⟨_, e⟩
  crlf := by
    obtain ⟨v, e, r⟩ := T.const (Str.ofString "CRLF") (.str (Str.ofString "\r\n")) rfl
    cases r h with
    | str => exact ⟨_, e⟩
  builtins := T.builtins
  free := by
    intro x hx
    simp only [List.mem_cons, List.not_mem_nil, or_false] at hx
    subst hl
    rcases hx with rfl | rfl | rfl | rfl | rfl | rfl | rfl | rfl | rfl <;> exact T.free _ (by decide +kernel) (by decide +kernel) (by decide +kernel) (by decide +kernel) (by decide +kernel)
theorem ps_of {P : Params} (K : (hd.heap_39 P).In h) (G : h.Ns mainGlobals mg) : Ps h mg where
  one := ⟨57, mg_of K G rfl, _, _, _, 56, _, _, _, K 57 _ rfl, rfl, rfl, rfl, K 56 _ rfl, rfl, by decide +kernel⟩
  two := ⟨62, mg_of K G rfl, _, _, _, 61, _, _, _, K 62 _ rfl, rfl, rfl, rfl, K 61 _ rfl, rfl, by decide +kernel⟩
end
end Mine
end

section
open PySem PySem.W PyProof.Rows PySem.Calls
set_option maxRecDepth 100000
set_option maxHeartbeats 4000000
namespace Mine
theorem law_code {prog : Program} {w : World} {s : Shared} {mg mb : Str → Option Value} {fa l : Addr} {vl : List Value} {script : List Int} {R : Result → Shared → Prop} (f : IsFn s.heap fa 19) (B : Bs s.heap mg mb) (P : Ps s.heap mg)
    (hl : s.heap.IsList l vl.toArray) (hli : IntsAre vl script) (hlen : vl.length ≤ 2000000) (hR : ∀ h' tk', Sub s.heap h' → R (.ok (.ret (.bool true))) ⟨h', s.gens, s.drawn, tk', s.os⟩) :
    codeAny (model prog w) callerA (.call (.ref fa) ⟨[.ref l], []⟩) R s := by
  obtain ⟨hp, g, d, tk, o⟩ := s
  obtain ⟨ob, pm, cd, doc, ho, hd, hc⟩ := f
  refine call_cells_ret (s := ⟨hp, g, d, tk, o⟩) (binds := [(Str.ofString "script", .ref l)]) (by decide) ho hd B.nolimit hc rfl (fun y hy => ?_) (fun h₁ tk₁ F X => ?_)
  · rw [List.mem_singleton.mp hy]; exact .inl rfl
  · have FF : FC hp hp.objs.size (lawC hp.objs.size) h₁ (fun y => if y = Str.ofString "script" then some (.ref l) else none) (fun _ => none) := by
      refine ⟨FX.ofFr ?_, ?_, fun n n' c e e' => name_of_addr X.apart (mem_of_lookup e) (mem_of_lookup e'), fun n c e => ?_⟩
      · have e : bindL (envOfC (nm 19) (sc 19) hp.objs.size fa cd).kindOf [(Str.ofString "script", .ref l)] (fun _ => none) = fun y => if y = Str.ofString "script" then some (.ref l) else none := by
          funext y
          simp only [bindL]
          rfl
        rw [← e]
        exact F
      · have e : bindC (envOfC (nm 19) (sc 19) hp.objs.size fa cd).kindOf [(Str.ofString "script", .ref l)] (fun _ => none) = fun _ => none := by
          simp only [bindC]
          rfl
        rw [e] at X
        exact X.cell
      · have := X.above n c (mem_of_lookup e)
        cases q : hp.get? c with
        | none => rfl
        | some o => exact absurd (Nat.lt_trans (Heap.lt_size q) this) (Nat.lt_irrefl _)
    exact law_exec B P (show callerA.depth + 1 + 2 < recursionLimit by decide) rfl (show callerA.units + 3 + 70 < cLine by decide) FF rfl hl hli hlen (fun h' tk' k => hR h' tk' k)
end Mine
end
open PySem PySem.W PyProof.Rows PySem.Calls Mine
set_option maxRecDepth 100000
set_option maxHeartbeats 8000000 in
theorem PySem.Challenge.cw_rs0012_01_holds : PySem.Challenge.rw_rs0012_01.Holds :=
  hd (by
  k_fill
  intro w s₀ s₁ mg mb G Y fa o pm cd doc dV kV ho hd' hcd hD hmg hg args vals as hpre hlay hrd hwl hlo
  have KX := kIn_of Y
  refine Ground.open G ?_
  intro T B D TE TW
  try (refine guard_noD D (by decide +kernel) ?_; clear D)
  wrow_args hpre hlay hrd hwl hlo
  all_goals (
    first | refine callC_kw (enter_call ?_) | refine enter_call ?_ | refine callC_kw (enter_callW ?_) | refine enter_callW ?_ | w_how
    w_top on
    try refine codeAny_mono ?_ (fun _ _ g => GoodW.toG g)
    clear hcd hD hd'
    have hmg' : mg (nm 19) = some (.ref fa) := hmg
    have f : IsFn s₁.heap fa 19 := by
      obtain ⟨a, e, f⟩ := fn_of T 19 _ (by rw [recs_eq]; exact .tail _ (.tail _ (.tail _ (.tail _ (.tail _ (.tail _ (.tail _ (.tail _ (.tail _ (.head _))))))))))
      rw [hmg'] at e; cases e; exact f
    rename_i hI _ hcond _
    refine law_code f (bs_of T rfl) (ps_of KX T.g) (by assumption) hI (by rw [hI.length]; omega) (fun h' tk' k => ?_)
    refine ⟨.inl ⟨.bool true, .bool true, [], rfl, raisesW_false ?_, .bool true, ?_, unshared_nil⟩, k, rfl, hg⟩
    · wrow_none_raised
    · wrow_post))
