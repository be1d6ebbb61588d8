import PyProof.Rows.All
import Wide.All
import OpenK.AllK
import Wide.FinOn
import Open.Line
import Lean
import PySem.Challenge.RW_in0160_01
section
set_option maxRecDepth 100000
set_option Elab.async false
namespace Mine
open PySem PySem.W PySem.Calls PyProof.Rows

/-- a key: the text's signs, then the place -/
abbrev Key := List Nat × Int
def kLt (a b : Key) : Bool := decide (a.1 < b.1) || (a.1 == b.1 && decide (a.2 < b.2))

/-- the tuple (text, int) that stands at r -/
def Tp (h : Heap) (r : Addr) (k : Key) : Prop :=
  ∃ o x t u n, h.get? r = some o ∧ o.cls = .type "tuple" ∧ o.data = .seq #[.str x t, .int k.2 u] n ∧ x.cps.toList = k.1

theorem Tp.of {h h' : Heap} {r : Addr} {k : Key} (x : Tp h r k) (e : ∀ o, h.get? r = some o → h'.get? r = some o) : Tp h' r k :=
  let ⟨o, a, t, u, n, ho, y⟩ := x; ⟨o, a, t, u, n, e o ho, y⟩
theorem Tp.ne_list {h : Heap} {r a : Addr} {k : Key} {items : Array Value} (x : Tp h r k) (l : h.IsList a items) : r ≠ a := by
  rintro rfl
  obtain ⟨o, _, _, _, _, ho, hc, _⟩ := x
  obtain ⟨o', ho', hc', _⟩ := l
  rw [ho] at ho'; cases ho'
  rw [hc] at hc'; simp at hc'
theorem Tp.ne_ns {h : Heap} {r a : Addr} {k : Key} {m} (x : Tp h r k) (l : h.Ns a m) : r ≠ a := by
  rintro rfl
  obtain ⟨o, _, _, _, _, ho, _, hd, _⟩ := x
  obtain ⟨o', _, _, ho', hd', _⟩ := l
  rw [ho] at ho'; cases ho'
  rw [hd] at hd'; cases hd'

section
variable {prog : Program} {w : World} {A : Around} {E : Value → Shared → Prop} {s : Shared}
theorem rich_lt {M : Model} {a b : Value} {Q : Value → Shared → Prop} (h : wpAny M A (compareOp .Lt a b) Q E s) : wpAny M A (richCompare .Lt a b) Q E s := h
theorem lt_tup {a b : Addr} {ka kb : Key} {Q : Value → Shared → Prop} (ha : Tp s.heap a ka) (hb : Tp s.heap b kb) (hu : A.units < cLine)
    (h : Q (.bool (kLt ka kb)) s) : wpAny (model prog w) A (compareOp .Lt (.ref a) (.ref b)) Q E s := by
  obtain ⟨oa, x, t, u, na, hoa, hca, hda, hxa⟩ := ha
  obtain ⟨ob, y, t', u', nb, hob, hcb, hdb, hxb⟩ := hb
  have hTa : s.TypeIs (.ref a) "tuple" := ⟨_, hoa, hca⟩
  have hTb : s.TypeIs (.ref b) "tuple" := ⟨_, hob, hcb⟩
  show wpAny _ _ (richCompare .Lt (.ref a) (.ref b)) Q E s
  refine wpAny_richCompare_same_room (op := .Lt) hTa hTb F.slot_tuple_lt (wpAny_call_entry F.slot_tuple_lt hTa F.entry_tuple_lt ?_ (F.args_tuple_lt_2 _ _)) hu
  show wpAny _ _ (isInstance (.ref b) (.type "tuple") >>= _) _ _ s
  refine wpAny_bind (wpAny_isInstance hTb isSubtype_tuple_tuple ?_)
  simp only [Bool.not_true, Bool.false_eq_true, if_false]
  refine wpAny_bind (wpAny_tupleItemsOf hoa hda ?_)
  refine wpAny_bind (wpAny_tupleItemsOf hob hdb ?_)
  show wpAny _ _ (forIn ([(Value.str x t, Value.str y t'), (Value.int ka.2 u, Value.int kb.2 u')] : List (Value × Value)) _ _ >>= _) _ _ s
  rw [List.forIn_cons]
  refine wpAny_bind (wpAny_bind (wpAny_bind (wpAny_eqBool_str ?_)))
  by_cases hxy : x = y
  · subst hxy
    rw [decide_eq_true rfl]
    simp only [Bool.not_true, Bool.false_eq_true, if_false]
    refine wpAny_pure ?_
    dsimp only
    rw [List.forIn_cons]
    refine wpAny_bind (wpAny_bind (wpAny_eqBool_int ?_))
    have hk : ka.1 = kb.1 := hxa.symm.trans hxb
    by_cases hkk : ka.2 = kb.2
    · have e : (ka.2 == kb.2) = true := by simp [hkk]
      rw [e]
      simp only [Bool.not_true, Bool.false_eq_true, if_false]
      refine wpAny_pure ?_
      dsimp only
      rw [List.forIn_nil]
      refine wpAny_pure (wpAny_pure ⟨.bool false, rfl, nofun, ?_⟩)
      have : kLt ka kb = false := by simp [kLt, hk, hkk, List.lt_irrefl]
      rw [this] at h
      exact h
    · have e : (ka.2 == kb.2) = false := by simpa using hkk
      rw [e]
      simp only [Bool.not_false, if_true]
      refine wpAny_bind (wpAny_rule ?_)
      refine wpAny_bind (rich_lt (P.lt_int ?_))
      have : kLt ka kb = decide (ka.2 < kb.2) := by simp [kLt, hk, List.lt_irrefl]
      rw [this] at h
      exact wpAny_pure (wpAny_pure (wpAny_pure ⟨_, rfl, nofun, h⟩))
  · rw [decide_eq_false hxy]
    simp only [Bool.not_false, if_true]
    refine wpAny_bind (wpAny_rule ?_)
    refine wpAny_bind (rich_lt (P.lt_str ?_))
    have hne : ka.1 ≠ kb.1 := fun e => hxy (by
      cases x; cases y
      simp only [Str.mk.injEq]
      exact Array.toList_inj.mp (hxa.trans (e.trans hxb.symm)))
    have : kLt ka kb = decide (x.cps.toList < y.cps.toList) := by simp [kLt, hne, hxa, hxb]
    rw [this] at h
    exact wpAny_pure (wpAny_pure (wpAny_pure ⟨_, rfl, nofun, h⟩))
end

/-- the text's statements, by place -/
def stm (i : Nat) : Stmt := PySem.Challenge.pw_in0160_01.main.body.getD i (.Pass default)
def nameOf : Stmt → Str | .FunctionDef n .. => n | _ => ""
def parsOf : Stmt → Arguments | .FunctionDef _ a .. => a | _ => default
def bodyOf : Stmt → List Stmt | .FunctionDef _ _ b .. => b | _ => []
def scopeOf : Stmt → Scope | .FunctionDef _ _ _ _ _ _ s .. => s | _ => default
def loopOf : Stmt → List Stmt | .While _ b _ _ => b | .For _ _ b _ _ => b | _ => []
def stAt (l : List Stmt) (i : Nat) : Stmt := l.getD i (.Pass default)
def plainDefs : List Nat := [2, 3, 4, 5, 8, 11, 13, 14, 16, 18, 19, 20, 21, 22]
abbrev fdOf (i : Nat) (pm cd doc : Value) : FuncData := docDef (nameOf (stm i)) (parsOf (stm i)) (bodyOf (stm i)) (scopeOf (stm i)) pm cd doc

abbrev Keeps' (h h' : Heap) : Prop := ∀ b o, h.get? b = some o → h'.get? b = some o

structure FnAt (h : Heap) (i : Nat) (a : Addr) (pm cd doc : Value) : Prop where
  at_ : ∃ o, h.get? a = some o ∧ o.data = .func (fdOf i pm cd doc)
  rec_ : h.CodeRec cd (nameOf (stm i))
theorem FnAt.keeps {h h' : Heap} {i a pm cd doc} (x : FnAt h i a pm cd doc) (hk : Keeps' h h') : FnAt h' i a pm cd doc :=
  ⟨let ⟨o, ho, r⟩ := x.at_; ⟨o, hk _ _ ho, r⟩, x.rec_.keeps hk⟩

structure Wd (mg mb : Str → Option Value) (h : Heap) : Prop where
  g : h.Ns mainGlobals mg
  b : h.Ns builtinsNs mb
  bi : ∀ x : Str, x ≠ "__name__" → mb x = bootBuiltins x
  free : ∀ x ∈ ["len", "range", "object", "isinstance", "str", "bytearray", "bytes", "list", "sorted", "ord", "chr"].map Str.ofString, mg x = none
  lim : h.NoLimit
  fn : ∀ i ∈ plainDefs, ∃ a pm cd doc, mg (nameOf (stm i)) = some (.ref a) ∧ FnAt h i a pm cd doc
theorem Wd.keeps {mg mb} {h h' : Heap} (x : Wd mg mb h) (hk : Keeps' h h') : Wd mg mb h' :=
  ⟨x.g.keeps hk, x.b.keeps hk, x.bi, x.free, x.lim.keeps hk, fun i hi => let ⟨a, pm, cd, doc, e, f⟩ := x.fn i hi; ⟨a, pm, cd, doc, e, f.keeps hk⟩⟩
theorem Wd.at {mg mb} {h : Heap} (x : Wd mg mb h) (i : Nat) {a : Addr} (hm : mg (nameOf (stm i)) = some (.ref a)) (hi : i ∈ plainDefs := by decide) : ∃ pm cd doc, FnAt h i a pm cd doc := by
  obtain ⟨a', pm, cd, doc, e, f⟩ := x.fn i hi
  rw [hm] at e; cases e
  exact ⟨pm, cd, doc, f⟩

structure AOk (A : Around) (d u : Nat) : Prop where
  hh : A.handled = none
  dep : A.depth + d < recursionLimit
  un : A.units + u < cLine
theorem AOk.le {A : Around} {d u d' u' : Nat} (x : AOk A d u) (hd : d' ≤ d := by omega) (hu : u' ≤ u := by omega) : AOk A d' u' := ⟨x.hh, by have := x.dep; omega, by have := x.un; omega⟩
theorem AOk.deeper {A : Around} {d u d' u' : Nat} (env : Env) (x : AOk A d u) (hd : d' + 1 ≤ d := by omega) (hu : u' + 3 ≤ u := by omega) : AOk (A.deeper env) d' u' :=
  ⟨x.hh, by have := x.dep; show A.depth + 1 + d' < _; omega, by have := x.un; show A.units + 3 + u' < _; omega⟩

/-- a state: all but the heap and the count of tokens is s0's -/
def St (s0 : Shared) (H : Heap) (T : Nat) : Shared := { s0 with heap := H, toks := T }

/-- nothing is raised -/
def NoE : Value → Shared → Prop := fun _ _ => False
/-- what is asked behind a statement: the rest of the block -/
def Then (M : Model) (A : Around) (env : Env) (rest : List Stmt) (Q : Flow → Shared → Prop) (E : Value → Shared → Prop) (f : Flow) (s : Shared) : Prop := match f with
  | .next => wpAny M A (execs rest env) Q E s
  | f => Q f s
/-- what is asked behind a turn of a loop -/
def Turn (I : Nat → Shared → Prop) (n : Nat) (Q : Flow → Shared → Prop) (f : Flow) (s : Shared) : Prop := match f with
  | .next | .cont => ∃ m, m < n ∧ I m s
  | .brk => Q .next s
  | .ret v => Q (.ret v) s
def Ret (Q : Value → Shared → Prop) (f : Flow) (s : Shared) : Prop := match f with
  | .ret v => Q v s
  | _ => Q .none s

/-- the list that stands at a -/
def Ls (h : Heap) (a : Addr) (items : Array Value) : Prop := ∃ n, IsL h a items n
theorem Ls.isList {h : Heap} {a : Addr} {items : Array Value} (x : Ls h a items) : h.IsList a items := let ⟨_, y⟩ := x; y.isList
theorem Ls.at {h h' : Heap} {a : Addr} {items : Array Value} (x : Ls h a items) (e : ∀ o, h.get? a = some o → h'.get? a = some o) : Ls h' a items := let ⟨n, y⟩ := x; ⟨n, e _ y⟩
theorem Ls.same {h h' : Heap} {a b : Addr} {items : Array Value} (x : Ls h a items) (e : Heap.SameBut b h h') (n : a ≠ b) : Ls h' a items := x.at fun o ho => e.extBut a o n ho
theorem Ls.ne_ns {h : Heap} {r a : Addr} {items : Array Value} {m} (x : Ls h r items) (l : h.Ns a m) : r ≠ a := by
  rintro rfl
  obtain ⟨n, ho⟩ := x
  obtain ⟨o', _, _, ho', hd', _⟩ := l
  rw [ho] at ho'; cases ho'; cases hd'
theorem Tp.ne_ls {h : Heap} {r a : Addr} {k : Key} {items : Array Value} (x : Tp h r k) (l : Ls h a items) : r ≠ a := x.ne_list l.isList

section
variable {M : Model} {A : Around} {E : Value → Shared → Prop} {s : Shared} {env : Env} {s0 : Shared} {H : Heap} {T : Nat}
theorem ldv {x : Str} {pos : Pos} {m} {v : Value} {Q : Value → Shared → Prop} (hn : H.Ns env.locals m) (hv : m x = some v) (h : Q v (St s0 H T))
    (hk : env.scope.kind = .function := by rfl) (hl : env.kindOf x = some .local := by rfl) (hd : (x == ("__debug__" : Str)) = false := by decide) :
    wpAny M A (eval (.Name x pos) env) Q E (St s0 H T) := wpAny_Name (wpAny_loadName_local hk hl hn hv h) hd
theorem ldg {x : Str} {pos : Pos} {mg} {v : Value} {Q : Value → Shared → Prop} (hg : H.Ns mainGlobals mg) (hv : mg x = some v) (h : Q v (St s0 H T))
    (he : env.globals = mainGlobals := by rfl) (hk : env.scope.kind = .function := by rfl) (hl : env.kindOf x = some .globalImplicit := by rfl) (hd : (x == ("__debug__" : Str)) = false := by decide) :
    wpAny M A (eval (.Name x pos) env) Q E (St s0 H T) := Name_function_global hk hl (loadGlobal_global (env := env) (he.symm ▸ hg) hv h) hd
theorem ldb {x : Str} {pos : Pos} {mg mb} {v : Value} {Q : Value → Shared → Prop} (W : Wd mg mb H) (hf : x ∈ ["len", "range", "object", "isinstance", "str", "bytearray", "bytes", "list", "sorted", "ord", "chr"].map Str.ofString) (hv : bootBuiltins x = some v) (h : Q v (St s0 H T))
    (he : env.globals = mainGlobals := by rfl) (hb : env.builtins = builtinsNs := by rfl) (hk : env.scope.kind = .function := by rfl) (hl : env.kindOf x = some .globalImplicit := by rfl) (hd : (x == ("__debug__" : Str)) = false := by decide)
    (hn : x ≠ "__name__" := by decide) :
    wpAny M A (eval (.Name x pos) env) Q E (St s0 H T) := Name_function_global hk hl (loadGlobal_builtin (env := env) (he.symm ▸ W.g) (W.free x hf) (hb.symm ▸ W.b) ((W.bi x hn).trans hv) h) hd
theorem stn {x : Str} {v : Value} {m} {Q : Unit → Shared → Prop} (hn : H.Ns env.locals m) (h : ∀ h' T', h'.Ns env.locals (fun y => if y = x then some v else m y) → Heap.SameBut env.locals H h' → Q () (St s0 h' T'))
    (hl : env.kindOf x = some .local := by rfl) (hp : (env.scope.kind == .class || (env.scope.kind == .module && env.locals != env.globals)) = false := by rfl) :
    wpAny M A (storeName env x v) Q E (St s0 H T) := wpAny_storeName_local hl hn (fun h' n s => h h' _ n s) hp
theorem asg {x : Str} {pos' pos : Pos} {value : Expr} {Q : Flow → Shared → Prop}
    (h : wpAny M A (eval value env) (fun v s₁ => wpAny M A (storeName env x v) (fun _ => Q .next) E s₁) E s)
    (hs : swapsWith value (some (.Name x pos')) pos.line env = pure false := by rfl) : wpAny M A (exec (.Assign [.Name x pos'] value pos) env) Q E s := wpAny_Assign_Name h hs
theorem seqX {st : Stmt} {rest : List Stmt} {Q : Flow → Shared → Prop} (h : wpAny M A (exec st env) (Then M A env rest Q E) E s) : wpAny M A (execs (st :: rest) env) Q E s :=
  wpAny_execs_cons (wpAny_mono h (fun f _ q => by cases f <;> exact q) fun _ _ e => e)
theorem asgX {x : Str} {pos' pos : Pos} {value : Expr} {rest : List Stmt} {Q : Flow → Shared → Prop}
    (h : wpAny M A (eval value env) (fun v s₁ => wpAny M A (storeName env x v) (fun _ s₂ => wpAny M A (execs rest env) Q E s₂) E s₁) E s)
    (hs : swapsWith value (some (.Name x pos')) pos.line env = pure false := by rfl) : wpAny M A (execs (.Assign [.Name x pos'] value pos :: rest) env) Q E s := wpAny_execs_cons (wpAny_Assign_Name h hs)
theorem ifX {test : Expr} {body orelse rest : List Stmt} {pos : Pos} {Q : Flow → Shared → Prop}
    (h : wpAny M A (isTrue test env (eval test env)) (fun b s₂ => wpAny M A (execs (if b then body else orelse) env) (Then M A env rest Q E) E s₂) E s) : wpAny M A (execs (.If test body orelse pos :: rest) env) Q E s :=
  seqX (wpAny_If (wpAny_mono h (fun b _ q => by cases b <;> exact q) fun _ _ e => e))
theorem putX {o i : Expr} {value : Expr} {pos' pos : Pos} {rest : List Stmt} {Q : Flow → Shared → Prop}
    (h : wpAny M A (eval value env) (fun v s₁ => wpAny M A (eval o env) (fun ov s₂ => wpAny M A (eval i env) (fun iv s₃ => wpAny M A (setItem ov iv v) (fun _ s₄ => wpAny M A (execs rest env) Q E s₄) E s₃) E s₂) E s₁) E s)
    (hs : swapsWith value (some (.Subscript o i pos')) pos.line env = pure false := by rfl) : wpAny M A (execs (.Assign [.Subscript o i pos'] value pos :: rest) env) Q E s := wpAny_execs_cons (wpAny_Assign_Subscript h hs)
theorem nilX {Q : Flow → Shared → Prop} (h : Q .next s) : wpAny M A (execs [] env) Q E s := wpAny_execs_nil h
theorem brkX {pos : Pos} {rest : List Stmt} {Q : Flow → Shared → Prop} (h : Q .brk s) : wpAny M A (execs (.Break pos :: rest) env) Q E s := wpAny_execs_cons (wpAny_Break h)
theorem contX {pos : Pos} {rest : List Stmt} {Q : Flow → Shared → Prop} (h : Q .cont s) : wpAny M A (execs (.Continue pos :: rest) env) Q E s := wpAny_execs_cons (wpAny_Continue h)
theorem retX {e : Expr} {pos : Pos} {rest : List Stmt} {Q : Flow → Shared → Prop} (h : wpAny M A (eval e env) (fun v => Q (.ret v)) E s) : wpAny M A (execs (.Return (some e) pos :: rest) env) Q E s := wpAny_execs_cons (wpAny_Return_some h)
theorem exprX {e : Expr} {pos : Pos} {rest : List Stmt} {Q : Flow → Shared → Prop} (h : wpAny M A (eval e env) (fun v s' => v = .none ∧ wpAny M A (execs rest env) Q E s') E s)
    (hi : interactive env = false := by rfl) (hs : swapsWith e none pos.line env = pure false := by rfl) : wpAny M A (execs (.Expr e pos :: rest) env) Q E s :=
  wpAny_execs_cons (wpAny_Expr (wpAny_mono h (fun v s' q => by obtain ⟨rfl, q⟩ := q; exact q) fun _ _ e => e) hi hs)
/-- a comparison's test -/
theorem cmpX {l r : Expr} {op : CmpOp} {pos : Pos} {whole : Sem Value} {Q : Bool → Shared → Prop}
    (h : wpAny M A (eval l env) (fun a s₁ => wpAny M A (eval r env) (fun b s₂ => wpAny M A (compareOp op a b) (fun c s₃ => wpAny M A (truthy c) Q E s₃) E s₂) E s₁) E s)
    (hm : behindInMarks op r = false := by rfl) : wpAny M A (isTrue (.Compare l [op] [r] pos) env whole) Q E s := wpAny_isTrue_Compare1 h hm
theorem cint {i k pos} {Q : Value → Shared → Prop} (h : ∀ t T', Q (.int i t) (St s0 H T')) : wpAny M A (eval (.Constant (.int i) k pos) env) Q E (St s0 H T) := wpAny_Constant_int (h _ _)
theorem cstr {x k pos} {Q : Value → Shared → Prop} (h : ∀ t T', Q (.str x t) (St s0 H T')) : wpAny M A (eval (.Constant (.str x) k pos) env) Q E (St s0 H T) := wpAny_Constant_str (h _ _)
theorem sn {s1 : Shared} {h' : Heap} {T' : Nat} : ({ s1 with heap := h', toks := T' } : Shared) = St s1 h' T' := rfl
/-- the parts of a call's list, one by one -/
theorem it1 {pos : Pos} {e : Expr} {Q : List Value → Shared → Prop} (h : wpAny M A (eval e env) (fun v s₁ => Q [v] s₁) E s)
    (he : starEach [e] env = (false, eval e env) :: starEach [] env := by rfl) : wpAny M A (spliced (backTo pos (starEach [e] env))) Q E s :=
  wpAny_items_cons (wpAny_mono h (fun _ _ q => wpAny_items_nil q) fun _ _ e => e) he
theorem it2 {pos : Pos} {e f : Expr} {Q : List Value → Shared → Prop} (h : wpAny M A (eval e env) (fun v s₁ => wpAny M A (eval f env) (fun u s₂ => Q [v, u] s₂) E s₁) E s)
    (he : starEach [e, f] env = (false, eval e env) :: starEach [f] env := by rfl) (hf : starEach [f] env = (false, eval f env) :: starEach [] env := by rfl) : wpAny M A (spliced (backTo pos (starEach [e, f] env))) Q E s :=
  wpAny_items_cons (wpAny_mono h (fun _ _ q => it1 (wpAny_mono q (fun _ _ q => q) fun _ _ e => e) hf) fun _ _ e => e) he
theorem it3 {pos : Pos} {e f g : Expr} {Q : List Value → Shared → Prop} (h : wpAny M A (eval e env) (fun v s₁ => wpAny M A (eval f env) (fun u s₂ => wpAny M A (eval g env) (fun x s₃ => Q [v, u, x] s₃) E s₂) E s₁) E s)
    (he : starEach [e, f, g] env = (false, eval e env) :: starEach [f, g] env := by rfl) (hf : starEach [f, g] env = (false, eval f env) :: starEach [g] env := by rfl) (hg : starEach [g] env = (false, eval g env) :: starEach [] env := by rfl) : wpAny M A (spliced (backTo pos (starEach [e, f, g] env))) Q E s :=
  wpAny_items_cons (wpAny_mono h (fun _ _ q => it2 (wpAny_mono q (fun _ _ q => wpAny_mono q (fun _ _ q => q) fun _ _ e => e) fun _ _ e => e) hf hg) fun _ _ e => e) he
theorem st_eq {m : Str → Option Value} {x : Str} {v : Value} : (fun z => if z = x then some v else m z) x = some v := if_pos rfl
/-- a call by the name of a def -/
theorem callN {x : Str} {p pos : Pos} {e : Expr} {rest : List Expr} {mg} {f : Addr} {o : Obj} {fd : FuncData} {Q : Value → Shared → Prop} (hg : H.Ns mainGlobals mg) (hf : mg x = some (.ref f)) (ho : o.data = .func fd)
    (h : wpAny M A (spliced (backTo pos (starEach (e :: rest) env))) (fun vs s₁ => s₁.heap.get? f = some o ∧ wpAny M A (call (.ref f) vs []) Q E s₁) E (St s0 H T))
    (he : env.globals = mainGlobals := by rfl) (hk : env.scope.kind = .function := by rfl) (hl : env.kindOf x = some .globalImplicit := by rfl) (hd : (x == ("__debug__" : Str)) = false := by decide)
    (hs : starEach (e :: rest) env = (false, eval e env) :: starEach rest env := by rfl) :
    wpAny M A (eval (.Call (.Name x p) (e :: rest) [] pos) env) Q E (St s0 H T) := by
  refine wpAny_Call_Name_kw (ldg hg hf ?_ he hk hl hd)
  refine callWith_function (o := o) (fd := fd) (first := []) ?_
  rw [hs] at h ⊢
  exact evalArgs_plain (wpAny_mono h (fun vs s₁ h₁ => ⟨⟨h₁.1, ho⟩, h₁.2⟩) fun _ _ e => e)
/-- a call of a built-in function by its name -/
theorem callB {x : Str} {id : String} {p pos : Pos} {e : Expr} {rest : List Expr} {mg mb} {Q : Value → Shared → Prop} (W : Wd mg mb H) (hf : x ∈ ["len", "range", "object", "isinstance", "str", "bytearray", "bytes", "list", "sorted", "ord", "chr"].map Str.ofString) (hv : bootBuiltins x = some (.builtin id))
    (h : wpAny M A (spliced (backTo pos (starEach (e :: rest) env))) (fun vs s₁ => wpAny M A (call (.builtin id) vs []) Q E s₁) E (St s0 H T))
    (he : env.globals = mainGlobals := by rfl) (hb : env.builtins = builtinsNs := by rfl) (hk : env.scope.kind = .function := by rfl) (hl : env.kindOf x = some .globalImplicit := by rfl) (hd : (x == ("__debug__" : Str)) = false := by decide) (hn : x ≠ "__name__" := by decide)
    (hs : starEach (e :: rest) env = (false, eval e env) :: starEach rest env := by rfl) (hplain : (backTo pos (starEach rest env)).any (·.1) = false := by rfl) :
    wpAny M A (eval (.Call (.Name x p) (e :: rest) [] pos) env) Q E (St s0 H T) := by
  refine wpAny_Call_Name_kw (ldb W hf hv ?_ he hb hk hl hd hn)
  rw [hs] at h ⊢
  exact callWith_builtin (by show (false || (backTo pos (starEach rest env)).any (·.1)) = false; rw [hplain]; rfl) (evalArgs_plain h)
theorem callT {x : Str} {id : String} {p pos : Pos} {e : Expr} {rest : List Expr} {mg mb} {Q : Value → Shared → Prop} (W : Wd mg mb H) (hf : x ∈ ["len", "range", "object", "isinstance", "str", "bytearray", "bytes", "list", "sorted", "ord", "chr"].map Str.ofString) (hv : bootBuiltins x = some (.type id))
    (h : wpAny M A (spliced (backTo pos (starEach (e :: rest) env))) (fun vs s₁ => wpAny M A (call (.type id) vs []) Q E s₁) E (St s0 H T))
    (he : env.globals = mainGlobals := by rfl) (hb : env.builtins = builtinsNs := by rfl) (hk : env.scope.kind = .function := by rfl) (hl : env.kindOf x = some .globalImplicit := by rfl) (hd : (x == ("__debug__" : Str)) = false := by decide) (hn : x ≠ "__name__" := by decide)
    (hs : starEach (e :: rest) env = (false, eval e env) :: starEach rest env := by rfl) (hplain : (backTo pos (starEach rest env)).any (·.1) = false := by rfl) :
    wpAny M A (eval (.Call (.Name x p) (e :: rest) [] pos) env) Q E (St s0 H T) := wpAny_Call_Name_kw (ldb W hf hv (PyProof.Rows.callWith_type1 h hs hplain) he hb hk hl hd hn)
end

section
variable {prog : Program} {w : World} {A : Around} {E : Value → Shared → Prop} {s0 : Shared} {H : Heap} {T : Nat} {env : Env}
theorem isub {a b : Int} {t u : Tok} {Q : Value → Shared → Prop} (h : ∀ t T', Q (.int (a - b) t) (St s0 H T')) : wpAny (model prog w) A (binaryOp .Sub (.int a t) (.int b u)) Q E (St s0 H T) := P.sub_int (h _ _)
theorem iadd {a b : Int} {t u : Tok} {Q : Value → Shared → Prop} (h : ∀ t T', Q (.int (a + b) t) (St s0 H T')) : wpAny (model prog w) A (binaryOp .Add (.int a t) (.int b u)) Q E (St s0 H T) := P.add_int (h _ _)
theorem iaug {a b : Int} {t u : Tok} {Q : Value → Shared → Prop} (h : ∀ t T', Q (.int (a + b) t) (St s0 H T')) : wpAny (model prog w) A (inplaceOp .Add (.int a t) (.int b u)) Q E (St s0 H T) := P.iadd_int (h _ _)
theorem imul {a b : Int} {t u : Tok} {Q : Value → Shared → Prop} (h : ∀ t T', Q (.int (a * b) t) (St s0 H T')) (hm : IntMulOk a b := by mul_fits) : wpAny (model prog w) A (binaryOp .Mult (.int a t) (.int b u)) Q E (St s0 H T) := P.mul_int (h _ _) hm
theorem ishr {a : Int} {t u : Tok} {Q : Value → Shared → Prop} (h0 : 0 ≤ a) (h : ∀ t T', Q (.int (a / 2) t) (St s0 H T')) : wpAny (model prog w) A (binaryOp .RShift (.int a t) (.int 1 u)) Q E (St s0 H T) := wpAny_rshift1_int h0 (h _ _)
theorem sub_list {value slice : Expr} {l : Addr} {items : Array Value} {k : Int} {t : Tok} {x : Value} {Q : Value → Shared → Prop} (hl : Ls H l items)
    (h0 : 0 ≤ k) (hfit : k < 2 ^ 63) (hx : items[k.toNat]? = some x) (h : Q x (St s0 H T))
    (hs : subscripted slice false (.ref l) (.int k t) = operate [.ref l, .int k t] (getItem (.ref l) (.int k t)) := by with_unfolding_all rfl) :
    wpAny (model prog w) A (subscriptTail value slice (.ref l) (.int k t)) Q E (St s0 H T) :=
  tail_any (s := St s0 H T) (T := "list") hl.isList.typeIs slot_list_getitem.lookup (wpAny_getItem_list hl.isList h0 hfit hx h) hs
theorem set_list {l : Addr} {items : Array Value} {k : Int} {t : Tok} {v : Value} {Q : Unit → Shared → Prop} (hl : Ls H l items) (h0 : 0 ≤ k) (hfit : k < 2 ^ 63) (hn : k < items.size)
    (h : ∀ h', Ls h' l (items.setIfInBounds k.toNat v) → Heap.SameBut l H h' → Q () (St s0 h' T)) : wpAny (model prog w) A (setItem (.ref l) (.int k t) v) Q E (St s0 H T) := by
  obtain ⟨n, ho⟩ := hl
  have hT : (St s0 H T).TypeIs (.ref l) "list" := ⟨_, ho, rfl⟩
  unfold setItem
  try with_reducible refine wpAny_holding ?_
  refine wpAny_bind (wpAny_sequenceKey hT (by decide) ?_)
  refine wpAny_bind (wpAny_callSpecial?_slot (name := Str.ofString "__setitem__") hT slot_list_setitem (wpAny_call_entry slot_list_setitem hT entry_list_setitem ?_ (args_list_setitem _ _ _)))
  show wpAny _ _ (Builtin.List.listSubscript? (.int k t) >>= _) _ _ (St s0 H T)
  refine wpAny_bind (wpAny_listSubscript_int (fitsIndex_of h0 hfit) ?_)
  clear hfit
  obtain ⟨j, rfl⟩ := Int.eq_ofNat_of_zero_le h0
  have hj : j < items.size := by omega
  show wpAny _ _ ((seqItemAt l j >>= fun r => pure (r.map (j, ·))) >>= _) _ _ (St s0 H T)
  refine wpAny_bind (wpAny_bind (wpAny_seqItemAt (s := St s0 H T) ho rfl (wpAny_pure ?_)))
  rw [Array.getElem?_eq_getElem hj]
  show wpAny _ _ (setSeqItemAt l j v >>= _) _ _ (St s0 H T)
  refine wpAny_bind (wpAny_setSeqItemAt (s := St s0 H T) ho rfl ?_)
  exact wpAny_pure ⟨.none, rfl, wpAny_pure (h _ ⟨_, IsL.update ho _⟩ (Heap.SameBut.update ..))⟩
theorem whileX {test : Expr} {body rest : List Stmt} {pos : Pos} {s : Shared} {Q : Flow → Shared → Prop} (I : Nat → Shared → Prop)
    (turn : ∀ n s, I n s → wpAny (model prog w) A (isTrue test env (eval test env)) (fun b s₂ => if b then wpAny (model prog w) A (execs body env) (Turn I n (Then (model prog w) A env rest Q E)) NoE s₂ else wpAny (model prog w) A (execs rest env) Q E s₂) NoE s)
    (n : Nat) (h : I n s) : wpAny (model prog w) A (execs (.While test body [] pos :: rest) env) Q E s := by
  refine seqX (wpAny_While (codeAny_whileLoop I (fun n s hI => wpAny_mono (turn n s hI) (fun b s₂ h₂ => ?_) fun _ _ e => e.elim) n h))
  cases b with
  | true => exact wpAny_mono h₂ (fun f _ q => by cases f <;> exact q) fun _ _ e => e.elim
  | false => exact wpAny_execs_nil h₂
theorem len_list {l : Addr} {items : Array Value} {Q : Value → Shared → Prop} (hl : Ls H l items) (hfit : (items.size : Int) < 2 ^ 63) (h : ∀ t T', Q (.int items.size t) (St s0 H T')) :
    wpAny (model prog w) A (call (.builtin "len") [.ref l]) Q E (St s0 H T) := call_len_list hl.isList hfit (h _ _)
end
end Mine
end
section
set_option maxRecDepth 100000
set_option Elab.async false
namespace Mine
open PySem PySem.W PySem.Calls PyProof.Rows

theorem Wd.extBut {mg mb} {H H' : Heap} {a : Addr} {items : Array Value} (W : Wd mg mb H) (hl : Ls H a items) (hk : Heap.ExtBut a H H') : Wd mg mb H' := by
  obtain ⟨n, ho⟩ := hl
  have ns : ∀ {c m}, H.Ns c m → H'.Ns c m := fun {c m} x => by
    refine x.extBut hk ?_
    rintro rfl
    obtain ⟨o, _, _, e, d, _⟩ := x
    rw [ho] at e; cases e; cases d
  refine ⟨ns W.g, ns W.b, W.bi, W.free, let ⟨mc, x, y⟩ := W.lim; ⟨mc, ns x, y⟩, fun i hi => ?_⟩
  obtain ⟨f, pm, cd, doc, e, ⟨o, ef, hd⟩, ⟨c, oc, vs, t, e1, e2, e3, e4⟩⟩ := W.fn i hi
  refine ⟨f, pm, cd, doc, e, ⟨o, hk _ _ ?_ ef, hd⟩, ⟨c, oc, vs, t, e1, hk _ _ ?_ e2, e3, e4⟩⟩
  · rintro rfl
    rw [ho] at ef; cases ef; cases hd
  · rintro rfl
    rw [ho] at e2; cases e2; cases e3

section
variable {prog : Program} {w : World} {A : Around} {E : Value → Shared → Prop} {s0 : Shared} {H : Heap} {T : Nat}
abbrev envP (i : Nat) (L f : Addr) (cd : Value) : Env := envOf (nameOf (stm i)) (scopeOf (stm i)) L f cd
theorem callF (i : Nat) {f : Addr} {pm cd doc : Value} {vals : List Value} (binds : List (Str × Value)) {Q : Value → Shared → Prop} (hu : A.depth < recursionLimit) (hlim : H.NoLimit) (hf : FnAt H i f pm cd doc)
    (hbind : bindArgs (fdOf i pm cd doc) ⟨vals, []⟩ = pure binds) (hloc : ∀ x ∈ binds, (scopeOf (stm i)).names.lookup x.1 = some .local)
    (h : ∀ H1 L T1, H1.Ns L (fun x => binds.reverse.lookup x) → Keeps' H H1 → H.get? L = none →
      wpAny (model prog w) (A.deeper (envP i L f cd)) (execs (bodyOf (stm i)) (envP i L f cd)) (Ret Q) NoE (St s0 H1 T1))
    (hco : (scopeOf (stm i)).isCoroutine = false := by rfl) (hgen : (scopeOf (stm i)).isGenerator = false := by rfl) (hk : (scopeOf (stm i)).kind = .function := by rfl) (hcell : ∀ x ∈ (scopeOf (stm i)).names, x.2 ≠ .cell := by decide) :
    wpAny (model prog w) A (call (.ref f) vals []) Q E (St s0 H T) := by
  obtain ⟨⟨o, ho, hd⟩, hr⟩ := hf
  refine wpAny_call (call_plain_ret (o := o) (binds := binds) hu ho hd hlim hr hbind hloc (fun h₁ F => ?_) hco hgen hk hcell)
  refine wpAny_mono (h h₁ _ _ F.ns F.keep ?_) (fun fl s' x => by cases fl <;> exact x) fun _ _ x => x
  cases q : H.get? H.objs.size with
  | none => exact q
  | some o' => exact absurd (Heap.lt_size q) (Nat.lt_irrefl _)
end

/-- an entry: where its tuple stands, its key -/
abbrev Ent := Addr × Key
abbrev dE : Ent := (0, [], 0)
abbrev eLt (a b : Ent) : Bool := kLt a.2 b.2
abbrev refs (l : List Ent) : Array Value := (l.map fun p => Value.ref p.1).toArray
theorem refs_at {l : List Ent} {i : Nat} {a : Ent} (h : l[i]? = some a) : (refs l)[i]? = some (.ref a.1) := by simp [refs, h]
theorem refs_set (l : List Ent) (i : Nat) (a : Ent) : (refs l).setIfInBounds i (.ref a.1) = refs (l.set i a) := by
  apply Array.toList_inj.mp
  simp [refs, List.map_set]
theorem refs_size (l : List Ent) : (refs l).size = l.length := by simp [refs]
theorem getD_at {l : List Ent} {i : Nat} (h : i < l.length) : l[i]? = some (l.getD i dE) := by simp [List.getD, h]

/-- what _siftdown makes of the list: x seeks its place from pos upwards -/
def sdPos (x : Ent) (xs : List Ent) (pos : Nat) : List Ent :=
  if _h : pos = 0 then xs.set 0 x else
    if eLt x (xs.getD ((pos - 1) / 2) dE) then sdPos x (xs.set pos (xs.getD ((pos - 1) / 2) dE)) ((pos - 1) / 2) else xs.set pos x
termination_by pos
decreasing_by omega

/-- all of h but L and a stands in h' -/
def Kp2 (L a : Addr) (h h' : Heap) : Prop := ∀ c o, c ≠ L → c ≠ a → h.get? c = some o → h'.get? c = some o
theorem Kp2.refl {a b : Addr} {h : Heap} : Kp2 a b h h := fun _ _ _ _ e => e
theorem Kp2.fst {a b : Addr} {h h' h'' : Heap} (x : Kp2 a b h h') (y : Heap.SameBut a h' h'') : Kp2 a b h h'' := fun c o ha hb e => y.extBut c o ha (x c o ha hb e)
theorem Kp2.snd {a b : Addr} {h h' h'' : Heap} (x : Kp2 a b h h') (y : Heap.ExtBut b h' h'') : Kp2 a b h h'' := fun c o ha hb e => y c o hb (x c o ha hb e)
theorem Kp2.keep {a b : Addr} {h h' h'' : Heap} (x : Kp2 a b h h') (y : Keeps' h' h'') : Kp2 a b h h'' := fun c o ha hb e => y c o (x c o ha hb e)
theorem Kp2.tp {L a r : Addr} {h h' : Heap} {k : Key} {m} {items : Array Value} (x : Kp2 L a h h') (t : Tp h r k) (hn : h.Ns L m) (hl : Ls h a items) : Tp h' r k := t.of fun o e => x r o (t.ne_ns hn) (t.ne_ls hl) e
/-- behind the return: the frame was new -/
theorem Kp2.out {L a : Addr} {H h h' : Heap} (k : Keeps' H h) (hL : H.get? L = none) (x : Kp2 L a h h') : Heap.ExtBut a H h' := fun c o hc e => x c o (by rintro rfl; rw [hL] at e; cases e) hc (k c o e)

section
variable {prog : Program} {w : World} {A : Around} {E : Value → Shared → Prop} {s0 : Shared} {H : Heap} {T : Nat}
theorem fit30 {q n : Nat} (h : q < n) (hz : n < 2 ^ 30) : (q : Int) < 2 ^ 63 := by omega
theorem sub_refs {value slice : Expr} {l : Addr} {xs : List Ent} {k : Int} {q : Nat} {t : Tok} {y : Ent} {Q : Value → Shared → Prop} (hl : Ls H l (refs xs)) (hz : xs.length < 2 ^ 30) (hy : xs[q]? = some y) (hk : k = (q : Int)) (h : Q (.ref y.1) (St s0 H T))
    (hs : subscripted slice false (.ref l) (.int k t) = operate [.ref l, .int k t] (getItem (.ref l) (.int k t)) := by with_unfolding_all rfl) :
    wpAny (model prog w) A (subscriptTail value slice (.ref l) (.int k t)) Q E (St s0 H T) := by
  subst hk
  exact sub_list hl (Int.natCast_nonneg q) (fit30 (List.getElem?_eq_some_iff.mp hy).1 hz) (refs_at hy) h hs
theorem set_refs {l : Addr} {xs : List Ent} {k : Int} {q : Nat} {t : Tok} {y : Ent} {Q : Unit → Shared → Prop} (hl : Ls H l (refs xs)) (hz : xs.length < 2 ^ 30) (hq : q < xs.length) (hk : k = (q : Int))
    (h : ∀ h', Ls h' l (refs (xs.set q y)) → Heap.SameBut l H h' → Q () (St s0 h' T)) : wpAny (model prog w) A (setItem (.ref l) (.int k t) (.ref y.1)) Q E (St s0 H T) := by
  subst hk
  exact set_list hl (Int.natCast_nonneg q) (fit30 hq hz) (by rw [refs_size]; exact Int.ofNat_lt.mpr hq) fun h' l' s' => h h' (by rw [← refs_set]; exact l') s'
theorem half_eq {q : Nat} (h : q ≠ 0) : ((q : Int) - 1) / 2 = ((q - 1) / 2 : Nat) := by omega
theorem half_lt {q : Nat} (h : q ≠ 0) : (q - 1) / 2 < q := by omega
theorem gt0 {q : Nat} (h : q ≠ 0) : decide (((q : Nat) : Int) > 0) = true := decide_eq_true (by omega)
structure SdI (s0 : Shared) (H : Heap) (L a : Addr) (x : Ent) (u : Tok) (xs : List Ent) (pos : Nat) (k : Nat) (ys : List Ent) (H' : Heap) (m' : Str → Option Value) : Prop where
  ns : H'.Ns L m'
  hp : m' "heap" = some (.ref a)
  st : m' "startpos" = some (.int 0 u)
  nw : m' "newitem" = some (.ref x.1)
  ls : Ls H' a (refs ys)
  kp : Kp2 L a H H'
  lt : k < ys.length
  sz : ys.length < 2 ^ 30
  sub : ∀ r ∈ ys, r ∈ xs
  res : sdPos x ys k = sdPos x xs pos
inductive SdJ (s0 : Shared) (H : Heap) (L a : Addr) (x : Ent) (u : Tok) (xs : List Ent) (pos : Nat) (k : Nat) : Shared → Prop
  | mk {H' T' m' ys t'} : SdI s0 H L a x u xs pos k ys H' m' → m' "pos" = some (.int (k : Nat) t') → SdJ s0 H L a x u xs pos k (St s0 H' T')

theorem siftdown_body {L f a : Addr} {x : Ent} {cd : Value} {xs : List Ent} {pos : Nat} {u t : Tok} {m : Str → Option Value} {Q : Flow → Shared → Prop} (hu : AOk A 0 0)
    (hn : H.Ns L m) (h1 : m "heap" = some (.ref a)) (h2 : m "startpos" = some (.int 0 u)) (h3 : m "pos" = some (.int pos t)) (hl : Ls H a (refs xs)) (hpos : xs[pos]? = some x)
    (hz : xs.length < 2 ^ 30) (ht : ∀ r ∈ xs, Tp H r.1 r.2)
    (h : ∀ H' T', Kp2 L a H H' → Ls H' a (refs (sdPos x xs pos)) → Q .next (St s0 H' T')) :
    wpAny (model prog w) A (execs (bodyOf (stm 4)) (envP 4 L f cd)) Q NoE (St s0 H T) := by
  have hp : pos < xs.length := (List.getElem?_eq_some_iff.mp hpos).1
  have hx : x ∈ xs := List.mem_of_getElem? hpos
  have haL : a ≠ L := hl.ne_ns hn
  refine asgX (Subscript_ (ldv hn h1 (ldv hn h3 (sub_refs hl hz hpos rfl (stn hn fun H1 T1 n1 s1 => ?_)))))
  refine whileX (SdJ s0 H L a x u xs pos) ?_ pos (.mk ⟨n1, h1, h2, rfl, hl.same s1 haL, Kp2.refl.fst s1, hp, hz, fun r hr => hr, rfl⟩ h3)
  rintro q _ ⟨i, e3⟩
  rename_i H' T' m' ys t'
  refine cmpX (ldv i.ns e3 (ldv i.ns i.st (P.gt_int (wpAny_truthy_bool ?_))))
  have fin : ∀ {H' : Heap} {m'} {t'} (T' : Nat), SdI s0 H L a x u xs pos q ys H' m' → m' "pos" = some (.int (q : Nat) t') → sdPos x ys q = ys.set q x →
      wpAny (model prog w) A (execs (List.drop 2 (bodyOf (stm 4))) (envP 4 L f cd)) Q NoE (St s0 H' T') := fun _ i e3 e =>
    putX (ldv i.ns i.nw (ldv i.ns i.hp (ldv i.ns e3 (set_refs i.ls i.sz i.lt rfl fun h' l' s' => nilX (h h' _ (i.kp.snd s'.extBut) (by rw [← i.res, e]; exact l'))))))
  by_cases h0 : q = 0
  · subst h0
    exact fin _ i e3 (by rw [sdPos, dif_pos rfl])
  · rw [if_pos (gt0 h0)]
    have hlt := half_lt h0
    obtain ⟨y, hy⟩ : ∃ y, ys[(q - 1) / 2]? = some y := ⟨_, getD_at (Nat.lt_trans hlt i.lt)⟩
    have hyd : ys.getD ((q - 1) / 2) dE = y := by simp [List.getD, hy]
    have hyx : y ∈ xs := i.sub y (List.mem_of_getElem? hy)
    refine asgX (wpAny_BinOp (wpAny_BinOp (ldv i.ns e3 (cint fun _ _ => isub fun _ _ => cint fun _ _ => ishr (Int.sub_nonneg_of_le (Int.ofNat_le.mpr (Nat.one_le_iff_ne_zero.mpr h0))) fun _ _ => stn i.ns fun H2 T2 n2 s2 => ?_))))
    refine asgX (Subscript_ (ldv n2 i.hp (ldv n2 rfl (sub_refs (i.ls.same s2 haL) i.sz hy (half_eq h0) (stn n2 fun H3 T3 n3 s3 => ?_)))))
    have j : SdI s0 H L a x u xs pos q ys H3 _ := ⟨n3, i.hp, i.st, i.nw, (i.ls.same s2 haL).same s3 haL, (i.kp.fst s2).fst s3, i.lt, i.sz, i.sub, i.res⟩
    refine ifX (cmpX (ldv n3 j.nw (ldv n3 rfl (lt_tup (j.kp.tp (ht x hx) hn hl) (j.kp.tp (ht y hyx) hn hl) hu.un (wpAny_truthy_bool ?_)))))
    cases hc : kLt x.2 y.2 with
    | true =>
      refine putX (ldv n3 rfl (ldv n3 j.hp (ldv n3 e3 (set_refs j.ls j.sz j.lt rfl fun H4 l4 s4 => ?_))))
      have n4 := n3.sameBut s4 (Ne.symm haL)
      refine asgX (ldv n4 rfl (stn n4 fun H5 T5 n5 s5 => contX ⟨(q - 1) / 2, hlt, .mk (ys := ys.set q y) ⟨n5, i.hp, i.st, i.nw, l4.same s5 haL, (j.kp.snd s4.extBut).fst s5, by rw [List.length_set]; exact Nat.lt_trans hlt i.lt, by rw [List.length_set]; exact i.sz, fun r hr => ?_, ?_⟩ (st_eq.trans (by rw [half_eq h0]))⟩))
      · rcases List.mem_or_eq_of_mem_set hr with hr | rfl
        · exact i.sub r hr
        · exact hyx
      · rw [← i.res]
        conv => rhs; rw [sdPos, dif_neg h0, hyd, if_pos (show eLt x y = true from hc)]
    | false => exact nilX (brkX (fin _ j e3 (by rw [sdPos, dif_neg h0, hyd, if_neg (by rw [show eLt x y = false from hc]; simp)])))
end
end Mine
end
section
set_option maxRecDepth 100000
set_option Elab.async false
namespace Mine
open PySem PySem.W PySem.Calls PyProof.Rows

section
variable {prog : Program} {w : World} {A : Around} {E : Value → Shared → Prop} {s0 : Shared} {H : Heap} {T : Nat} {mg mb : Str → Option Value}
theorem siftdown_call {f a : Addr} {x : Ent} {xs : List Ent} {pos : Nat} {u t : Tok} {Q : Value → Shared → Prop} (W : Wd mg mb H) (hf : mg (nameOf (stm 4)) = some (.ref f)) (hu : AOk A 1 3)
    (hl : Ls H a (refs xs)) (hpos : xs[pos]? = some x) (hz : xs.length < 2 ^ 30) (ht : ∀ r ∈ xs, Tp H r.1 r.2)
    (h : ∀ H' T', Heap.ExtBut a H H' → Ls H' a (refs (sdPos x xs pos)) → Q .none (St s0 H' T')) :
    wpAny (model prog w) A (call (.ref f) [.ref a, .int 0 u, .int pos t] []) Q E (St s0 H T) := by
  obtain ⟨pm, cd, doc, hfn⟩ := W.at 4 hf
  refine callF 4 [("heap", .ref a), ("startpos", .int 0 u), ("pos", .int pos t)] (hu.le (d' := 0) (u' := 0)).dep W.lim hfn rfl (locs rfl) fun H1 L T1 hn k1 hL => ?_
  exact siftdown_body (hu.deeper _) hn rfl rfl rfl (hl.at fun o => k1 _ o) hpos hz (fun r hr => (ht r hr).of fun o => k1 _ o) fun H' T' k l => h H' T' (Kp2.out k1 hL k) l
end

/-- what _siftup makes of the list -/
def suKid (xs : List Ent) (c : Nat) : Nat := if c + 1 < xs.length && !eLt (xs.getD c dE) (xs.getD (c + 1) dE) then c + 1 else c
def suPos (x : Ent) (xs : List Ent) (pos : Nat) : List Ent :=
  if _h : 2 * pos + 1 < xs.length then suPos x (xs.set pos (xs.getD (suKid xs (2 * pos + 1)) dE)) (suKid xs (2 * pos + 1)) else sdPos x (xs.set pos x) pos
termination_by xs.length - pos
decreasing_by
  rw [List.length_set]
  have : 2 * pos + 1 ≤ suKid xs (2 * pos + 1) := by unfold suKid; split <;> omega
  omega
theorem suKid_le (xs : List Ent) (c : Nat) : c ≤ suKid xs c := by unfold suKid; split <;> omega
theorem suKid_lt {xs : List Ent} {c : Nat} (h : c < xs.length) : suKid xs c < xs.length := by
  unfold suKid
  split
  · rename_i q; simp only [Bool.and_eq_true, decide_eq_true_eq] at q; exact q.1
  · exact h

structure SuI (s0 : Shared) (H : Heap) (L a : Addr) (x : Ent) (xs : List Ent) (k : Nat) (q : Nat) (ys : List Ent) (H' : Heap) (m' : Str → Option Value) : Prop where
  ns : H'.Ns L m'
  hp : m' "heap" = some (.ref a)
  st : ∃ t, m' "startpos" = some (.int 0 t)
  nw : m' "newitem" = some (.ref x.1)
  en : ∃ t, m' "endpos" = some (.int (xs.length : Nat) t)
  ls : Ls H' a (refs ys)
  kp : Kp2 L a H H'
  lt : q < ys.length
  sz : ys.length = xs.length
  ex : k + q = xs.length
  sub : ∀ r ∈ ys, r ∈ xs
  res : suPos x ys q = suPos x xs 0
inductive SuJ (s0 : Shared) (H : Heap) (L a : Addr) (x : Ent) (xs : List Ent) (k : Nat) : Shared → Prop
  | mk {H' T' m' q ys t t'} : SuI s0 H L a x xs k q ys H' m' → m' "pos" = some (.int (q : Nat) t) → m' "childpos" = some (.int (2 * (q : Nat) + 1) t') → SuJ s0 H L a x xs k (St s0 H' T')

theorem suKid_ge {xs : List Ent} {c : Nat} (h : (c + 1 < xs.length && !eLt (xs.getD c dE) (xs.getD (c + 1) dE)) = true) : suKid xs c = c + 1 := by unfold suKid; rw [if_pos h]
theorem suKid_eq {xs : List Ent} {c : Nat} (h : (c + 1 < xs.length && !eLt (xs.getD c dE) (xs.getD (c + 1) dE)) = false) : suKid xs c = c := by unfold suKid; rw [h]; rfl
theorem getD_of {l : List Ent} {i : Nat} {y : Ent} (h : l[i]? = some y) : l.getD i dE = y := by simp [List.getD, h]

section
variable {prog : Program} {w : World} {A : Around} {E : Value → Shared → Prop} {s0 : Shared} {H : Heap} {T : Nat} {mg mb : Str → Option Value}
theorem siftup_call {f fd a : Addr} {x : Ent} {xs : List Ent} {t : Tok} {Q : Value → Shared → Prop} (W : Wd mg mb H) (hf : mg (nameOf (stm 5)) = some (.ref f)) (hfd : mg (nameOf (stm 4)) = some (.ref fd)) (hu : AOk A 2 6)
    (hl : Ls H a (refs xs)) (hpos : xs[0]? = some x) (hz : xs.length < 2 ^ 30) (ht : ∀ r ∈ xs, Tp H r.1 r.2)
    (h : ∀ H' T', Heap.ExtBut a H H' → Ls H' a (refs (suPos x xs 0)) → Q .none (St s0 H' T')) :
    wpAny (model prog w) A (call (.ref f) [.ref a, .int 0 t] []) Q E (St s0 H T) := by
  obtain ⟨pm, cd, doc, hfn⟩ := W.at 5 hf
  refine callF 5 [("heap", .ref a), ("pos", .int 0 t)] (hu.le (d' := 0) (u' := 0)).dep W.lim hfn rfl (locs rfl) fun H1 L T1 hn k1 hL => ?_
  have hu1 : AOk (A.deeper (envP 5 L f cd)) 1 3 := hu.deeper _
  have hp : 0 < xs.length := (List.getElem?_eq_some_iff.mp hpos).1
  have hx : x ∈ xs := List.mem_of_getElem? hpos
  have l1 : Ls H1 a (refs xs) := hl.at fun o => k1 _ o
  have haL : a ≠ L := l1.ne_ns hn
  have W1 := W.keeps k1
  have h1 : (fun y => List.lookup y ([("heap", .ref a), ("pos", .int 0 t)] : List (Str × Value)).reverse) "heap" = some (.ref a) := rfl
  refine asgX (callB W1 (by decide) (by decide +kernel) (it1 (ldv hn rfl (len_list l1 (by rw [refs_size]; omega) fun _ _ => stn hn fun H2 T2 n2 s2 => ?_))))
  rw [refs_size] at n2
  refine asgX (ldv n2 rfl (stn n2 fun H3 T3 n3 s3 => ?_))
  have l3 := (l1.same s2 haL).same s3 haL
  refine asgX (Subscript_ (ldv n3 rfl (ldv n3 rfl (sub_refs l3 hz hpos rfl (stn n3 fun H4 T4 n4 s4 => ?_)))))
  refine asgX (wpAny_BinOp (wpAny_BinOp (cint fun _ _ => ldv n4 rfl (imul fun _ _ => cint fun _ _ => iadd fun _ _ => stn n4 fun H5 T5 n5 s5 => ?_))))
  refine whileX (SuJ s0 H1 L a x xs) ?_ xs.length (.mk (q := 0) (ys := xs) (m' := _) ⟨n5, rfl, ⟨_, rfl⟩, rfl, ⟨_, rfl⟩, (l3.same s4 haL).same s5 haL, (((Kp2.refl.fst s2).fst s3).fst s4).fst s5, hp, rfl, rfl, fun r hr => hr, rfl⟩ rfl rfl)
  rintro k _ ⟨i, e1, e2⟩
  rename_i H' T' m' q ys t1 t2
  obtain ⟨t3, e3⟩ := i.en
  have hz' : ys.length < 2 ^ 30 := i.sz ▸ hz
  refine cmpX (ldv i.ns e2 (ldv i.ns e3 (P.lt_int (wpAny_truthy_bool ?_))))
  by_cases hc : 2 * q + 1 < ys.length
  · rw [if_pos (decide_eq_true (by rw [← i.sz]; omega))]
    have hkl := suKid_lt hc
    have hkg := suKid_le ys (2 * q + 1)
    have hres : suPos x (ys.set q (ys.getD (suKid ys (2 * q + 1)) dE)) (suKid ys (2 * q + 1)) = suPos x xs 0 := by rw [← i.res]; conv => rhs; rw [suPos, dif_pos hc]
    obtain ⟨c, hcd⟩ : ∃ c, suKid ys (2 * q + 1) = c := ⟨_, rfl⟩
    rw [hcd] at hkl hkg hres
    have rest : ∀ {Q' : Flow → Shared → Prop} {H6 m6 t5 T6}, (∀ m s, m < k → SuJ s0 H1 L a x xs m s → Q' .next s) → SuI s0 H1 L a x xs k q ys H6 m6 → m6 "pos" = some (.int (q : Nat) t1) → m6 "childpos" = some (.int (c : Nat) t5) →
        wpAny (model prog w) (A.deeper (envP 5 L f cd)) (execs (List.drop 2 (loopOf (stAt (bodyOf (stm 5)) 4))) (envP 5 L f cd)) Q' NoE (St s0 H6 T6) := by
      intro Q' H6 m6 t5 T6 hQ j e1 e2
      have hy := getD_at hkl
      refine putX (Subscript_ (ldv j.ns j.hp (ldv j.ns e2 (sub_refs j.ls hz' hy rfl (ldv j.ns j.hp (ldv j.ns e1 (set_refs j.ls hz' j.lt rfl fun H7 l7 s7 => ?_)))))))
      have n7 := j.ns.sameBut s7 (Ne.symm haL)
      refine asgX (ldv n7 e2 (stn n7 fun H8 T8 n8 s8 => asgX (wpAny_BinOp (wpAny_BinOp (cint fun _ _ => ldv n8 rfl (imul fun _ _ => cint fun _ _ => iadd fun _ _ => stn n8 fun H9 T9 n9 s9 => nilX (hQ (k - (c - q)) _ ?_ (.mk (q := c) (ys := ys.set q (ys.getD c dE)) ⟨n9, j.hp, j.st, j.nw, j.en, (l7.same s8 haL).same s9 haL, ((j.kp.snd s7.extBut).fst s8).fst s9, ?_, ?_, ?_, fun r hr => ?_, hres⟩ rfl rfl))))))))
      · have := j.ex; have := j.sz; have := j.lt; omega
      · rw [List.length_set]; exact hkl
      · rw [List.length_set]; exact j.sz
      · have := j.ex; have := j.sz; have := j.lt; omega
      · rcases List.mem_or_eq_of_mem_set hr with hr | rfl
        · exact j.sub r hr
        · exact j.sub _ (List.mem_of_getElem? hy)
    refine asgX (wpAny_BinOp (ldv i.ns e2 (cint fun _ _ => iadd fun _ _ => stn i.ns fun H6 T6 n6 s6 => ?_)))
    have j : SuI s0 H1 L a x xs k q ys H6 _ := ⟨n6, i.hp, i.st, i.nw, i.en, i.ls.same s6 haL, i.kp.fst s6, i.lt, i.sz, i.ex, i.sub, i.res⟩
    refine ifX (wpAny_mono (Q := fun b s => b = (decide (2 * q + 1 + 1 < ys.length) && !eLt (ys.getD (2 * q + 1) dE) (ys.getD (2 * q + 1 + 1) dE)) ∧ s = St s0 H6 T6) ?_ ?_ fun _ _ e => e)
    · refine wpAny_isTrue_BoolOp (wpAny_allTrue_And_cons (cmpX (ldv n6 rfl (ldv n6 e3 (P.lt_int (wpAny_truthy_bool ?_))))))
      by_cases hr : 2 * q + 1 + 1 < ys.length
      · rw [if_pos (decide_eq_true (by rw [← i.sz]; omega))]
        have y1 := getD_at hc
        have y2 := getD_at hr
        refine wpAny_allTrue_And_cons (wpAny_isTrue_Not (cmpX (Subscript_ (ldv n6 i.hp (ldv n6 e2 (sub_refs j.ls hz' y1 rfl (Subscript_ (ldv n6 i.hp (ldv n6 rfl (sub_refs j.ls hz' y2 rfl (lt_tup (j.kp.tp ((ht _ (i.sub _ (List.mem_of_getElem? y1))).of fun o => k1 _ o) hn l1) (j.kp.tp ((ht _ (i.sub _ (List.mem_of_getElem? y2))).of fun o => k1 _ o) hn l1) (hu1.le (d' := 0) (u' := 0)).un (wpAny_truthy_bool ?_))))))))))))
        rw [decide_eq_true hr, Bool.true_and]
        show if (!eLt _ _) = true then _ else _
        cases eLt (ys.getD (2 * q + 1) dE) (ys.getD (2 * q + 1 + 1) dE) with
        | true => exact ⟨rfl, rfl⟩
        | false => exact wpAny_allTrue_And_nil ⟨rfl, rfl⟩
      · rw [if_neg (by rw [decide_eq_false (by rw [← i.sz]; omega)]; simp)]
        exact ⟨by rw [decide_eq_false hr]; rfl, rfl⟩
    · rintro b _ ⟨hb, rfl⟩
      cases hk : (decide (2 * q + 1 + 1 < ys.length) && !eLt (ys.getD (2 * q + 1) dE) (ys.getD (2 * q + 1 + 1) dE)) with
      | true =>
        rw [hk] at hb; subst hb
        rw [suKid_ge hk] at hcd; subst hcd
        refine asgX (ldv n6 rfl (stn n6 fun H7 T7 n7 s7 => nilX (rest (fun m s hm hs => ⟨m, hm, hs⟩) ⟨n7, i.hp, i.st, i.nw, i.en, j.ls.same s7 haL, j.kp.fst s7, i.lt, i.sz, i.ex, i.sub, i.res⟩ e1 rfl)))
      | false =>
        rw [hk] at hb; subst hb
        rw [suKid_eq hk] at hcd; subst hcd
        exact nilX (rest (fun m s hm hs => ⟨m, hm, hs⟩) j e1 e2)
  · rw [if_neg (by rw [decide_eq_false (by rw [← i.sz]; omega)]; simp)]
    obtain ⟨t4, e4⟩ := i.st
    refine putX (ldv i.ns i.nw (ldv i.ns i.hp (ldv i.ns e1 (set_refs i.ls hz' i.lt rfl fun H6 l6 s6 => ?_))))
    have n6 := i.ns.sameBut s6 (Ne.symm haL)
    have k6 := i.kp.snd s6.extBut
    have x6 := Kp2.out k1 hL k6
    have W6 := W.extBut hl x6
    obtain ⟨_, _, _, ⟨o4, ho4, hd4⟩, _⟩ := W6.at 4 hfd
    refine exprX (callN W6.g hfd hd4 (it3 (ldv n6 i.hp (ldv n6 e4 (ldv n6 e1 ⟨ho4, siftdown_call W6 hfd hu1 l6 (List.getElem?_set_self i.lt) (by rw [List.length_set]; exact hz') (fun r hr => ?_) fun H7 T7 x7 l7 => ⟨rfl, nilX (h H7 T7 (fun c o hc e => x7 c o hc (x6 c o hc e)) ?_)⟩⟩)))))
    · refine k6.tp ((ht r ?_).of fun o => k1 _ o) hn l1
      rcases List.mem_or_eq_of_mem_set hr with hr | rfl
      · exact i.sub r hr
      · exact hx
    · rw [← i.res, suPos, dif_neg hc]
      exact l7
end
end Mine
end
section
set_option maxRecDepth 100000
set_option Elab.async false
namespace Mine
open PySem PySem.W PySem.Calls PyProof.Rows

section
variable {prog : Program} {w : World} {A : Around} {E : Value → Shared → Prop} {s0 : Shared} {H : Heap} {T : Nat} {mg mb : Str → Option Value} {env : Env}
theorem type_list_pop : typeOf (.builtin "list.pop") = pure (.type "method_descriptor") := by show builtinType _ = _; rw [builtinType_eq_fast]; kernel_rfl
theorem Ls.meth {l : Addr} {items : Array Value} (hl : Ls H l items) : (St s0 H T).TypeIs (.ref l) "list" ∧ ∀ a, Value.ref l = .ref a → ∃ ob, H.get? a = some ob ∧ ob.dict = none := by
  obtain ⟨n, h⟩ := hl
  exact ⟨⟨_, h, rfl⟩, fun a e => by cases e; exact ⟨_, h, rfl⟩⟩
/-- l.append(e), l a name -/
theorem appM {x : Str} {e : Expr} {l : Addr} {items : Array Value} {p apos pos : Pos} {m} {Q : Value → Shared → Prop} (hn : H.Ns env.locals m) (hv : m x = some (.ref l)) (hl : Ls H l items)
    (h : wpAny (model prog w) A (eval e env) (fun v s₁ => ∃ H1 T1 items, s₁ = St s0 H1 T1 ∧ Ls H1 l items ∧ items.size ≤ sizeLine ∧ ∀ h', Ls h' l (items.push v) → Heap.SameBut l H1 h' → Q .none (St s0 h' T1)) E (St s0 H T))
    (hk : env.scope.kind = .function := by rfl) (hloc : env.kindOf x = some .local := by rfl) (hd : (x == ("__debug__" : Str)) = false := by decide)
    (hbase : attributeBase (.Name x p) "append" env (eval (.Name x p) env) = eval (.Name x p) env := by rfl) (hs : starEach [e] env = [(false, eval e env)] := by rfl) (hline : (apos.endLine == pos.line) = true := by rfl) :
    wpAny (model prog w) A (eval (.Call (.Attribute (.Name x p) "append" apos) [e] [] pos) env) Q E (St s0 H T) := by
  refine wpAny_Call_method hbase (by rw [hs]; rfl) hline F.plainAttrs_list F.slot_list_append type_list_append (ldv hn hv ⟨(Ls.meth (s0 := s0) (T := T) hl).1, (Ls.meth (s0 := s0) (T := T) hl).2, ?_⟩ hk hloc hd)
  rw [hs]
  refine P.append_list (wpAny_mono h (fun v s₁ q => ?_) fun _ _ e => e)
  obtain ⟨H1, T1, items, rfl, ⟨n, h1⟩, hz, h2⟩ := q
  exact ⟨items, n, hz, h1, h2 _ ⟨_, h1.update _⟩ (Heap.SameBut.update ..)⟩
/-- l.pop(), l a name -/
theorem popM {x : Str} {l : Addr} {items : Array Value} {y : Value} {p apos pos : Pos} {m} {Q : Value → Shared → Prop} (hn : H.Ns env.locals m) (hv : m x = some (.ref l)) (hl : Ls H l items) (hy : items[items.size - 1]? = some y) (hz : items.size ≤ sizeLine)
    (h : ∀ h', Ls h' l (items.eraseIdxIfInBounds (items.size - 1)) → Heap.SameBut l H h' → Q y (St s0 h' T))
    (hk : env.scope.kind = .function := by rfl) (hloc : env.kindOf x = some .local := by rfl) (hd : (x == ("__debug__" : Str)) = false := by decide)
    (hbase : attributeBase (.Name x p) "pop" env (eval (.Name x p) env) = eval (.Name x p) env := by rfl) (hline : (apos.endLine == pos.line) = true := by rfl) :
    wpAny (model prog w) A (eval (.Call (.Attribute (.Name x p) "pop" apos) [] [] pos) env) Q E (St s0 H T) := by
  refine wpAny_Call_method hbase rfl hline F.plainAttrs_list F.slot_list_pop type_list_pop (ldv hn hv ⟨(Ls.meth (s0 := s0) (T := T) hl).1, (Ls.meth (s0 := s0) (T := T) hl).2, ?_⟩ hk hloc hd)
  obtain ⟨n, h1⟩ := hl
  exact P.pop_list h1 hy (h _ ⟨_, h1.update _⟩ (Heap.SameBut.update ..)) hz

theorem size30 {n : Nat} (h : n < 2 ^ 20) : n ≤ sizeLine := by rw [sizeLine_eq]; omega
theorem refs_push (xs : List Ent) (x : Ent) : (refs xs).push (.ref x.1) = refs (xs ++ [x]) := by
  apply Array.toList_inj.mp
  simp [refs]

theorem heappush_call {f fd a : Addr} {x : Ent} {xs : List Ent} {Q : Value → Shared → Prop} (W : Wd mg mb H) (hf : mg (nameOf (stm 2)) = some (.ref f)) (hfd : mg (nameOf (stm 4)) = some (.ref fd)) (hu : AOk A 2 6)
    (hl : Ls H a (refs xs)) (hz : xs.length < 2 ^ 10) (ht : ∀ r ∈ xs, Tp H r.1 r.2) (hx : Tp H x.1 x.2)
    (h : ∀ H' T', Heap.ExtBut a H H' → Ls H' a (refs (sdPos x (xs ++ [x]) xs.length)) → Q .none (St s0 H' T')) :
    wpAny (model prog w) A (call (.ref f) [.ref a, .ref x.1] []) Q E (St s0 H T) := by
  obtain ⟨pm, cd, doc, hfn⟩ := W.at 2 hf
  refine callF 2 [("heap", .ref a), ("item", .ref x.1)] (hu.le (d' := 0) (u' := 0)).dep W.lim hfn rfl (locs rfl) fun H1 L T1 hn k1 hL => ?_
  have hu1 : AOk (A.deeper (envP 2 L f cd)) 1 3 := hu.deeper _
  have l1 : Ls H1 a (refs xs) := hl.at fun o => k1 _ o
  have haL : a ≠ L := l1.ne_ns hn
  refine exprX (appM hn rfl l1 (ldv hn rfl ⟨_, _, _, rfl, l1, by rw [refs_size]; exact size30 (by omega), fun H2 l2 s2 => ⟨rfl, ?_⟩⟩))
  rw [refs_push] at l2
  have n2 := hn.sameBut s2 (Ne.symm haL)
  have x2 : Heap.ExtBut a H H2 := Kp2.out k1 hL (Kp2.refl.snd s2.extBut)
  have W2 := W.extBut hl x2
  obtain ⟨_, _, _, ⟨o4, ho4, hd4⟩, _⟩ := W2.at 4 hfd
  have t2 : ∀ r ∈ xs ++ [x], Tp H2 r.1 r.2 := fun r hr => by
    have : Tp H r.1 r.2 := (List.mem_append.mp hr).elim (ht r) fun q => List.mem_singleton.mp q ▸ hx
    exact this.of fun o => x2 r.1 o (this.ne_ls hl)
  refine exprX (callN W2.g hfd hd4 (it3 (ldv n2 rfl (cint fun _ _ => wpAny_BinOp (callB W2 (by decide) (by decide +kernel) (it1 (ldv n2 rfl (len_list l2 (by rw [refs_size, List.length_append]; simp; omega) fun _ _ => cint fun _ _ => isub fun t T2 => ⟨ho4, ?_⟩))))))))
  have e : ((refs (xs ++ [x])).size : Int) - 1 = (xs.length : Nat) := by rw [refs_size, List.length_append]; simp
  rw [e]
  exact siftdown_call W2 hfd hu1 l2 (by simp) (by rw [List.length_append]; simp; omega) t2 fun H7 T7 x7 l7 => ⟨rfl, nilX (h H7 T7 (fun c o hc e => x7 c o hc (x2 c o hc e)) l7)⟩

theorem refs_pop (xs : List Ent) : (refs xs).eraseIdxIfInBounds ((refs xs).size - 1) = refs xs.dropLast := by
  rw [refs_size]
  apply Array.toList_inj.mp
  by_cases h : 0 < xs.length
  · have : xs.length - 1 < xs.length := by omega
    have e : (xs.map fun p => Value.ref p.1).eraseIdx ((xs.map fun p => Value.ref p.1).length - 1) = (xs.map fun p => Value.ref p.1).dropLast := List.eraseIdx_length_sub_one
    rw [List.length_map] at e
    simp [refs, Array.eraseIdxIfInBounds, this, e]
  · have : xs = [] := List.eq_nil_of_length_eq_zero (by omega)
    subst this; rfl
/-- what heappop makes of the list -/
def popRest (xs : List Ent) : List Ent := match xs.dropLast with
  | [] => []
  | _ :: r => suPos (xs.getD (xs.length - 1) dE) (xs.getD (xs.length - 1) dE :: r) 0

theorem heappop_call {f fd fu a : Addr} {x : Ent} {xs : List Ent} {Q : Value → Shared → Prop} (W : Wd mg mb H) (hf : mg (nameOf (stm 3)) = some (.ref f)) (hfd : mg (nameOf (stm 4)) = some (.ref fd)) (hfu : mg (nameOf (stm 5)) = some (.ref fu)) (hu : AOk A 3 9)
    (hl : Ls H a (refs xs)) (hz : xs.length < 2 ^ 10) (hx : xs[0]? = some x) (ht : ∀ r ∈ xs, Tp H r.1 r.2)
    (h : ∀ H' T', Heap.ExtBut a H H' → Ls H' a (refs (popRest xs)) → Q (.ref x.1) (St s0 H' T')) :
    wpAny (model prog w) A (call (.ref f) [.ref a] []) Q E (St s0 H T) := by
  obtain ⟨pm, cd, doc, hfn⟩ := W.at 3 hf
  refine callF 3 [("heap", .ref a)] (hu.le (d' := 0) (u' := 0)).dep W.lim hfn rfl (locs rfl) fun H1 L T1 hn k1 hL => ?_
  have hu1 : AOk (A.deeper (envP 3 L f cd)) 2 6 := hu.deeper _
  have hp : 0 < xs.length := (List.getElem?_eq_some_iff.mp hx).1
  have l1 : Ls H1 a (refs xs) := hl.at fun o => k1 _ o
  have haL : a ≠ L := l1.ne_ns hn
  have hy : (refs xs)[(refs xs).size - 1]? = some (.ref (xs.getD (xs.length - 1) dE).1) := by rw [refs_size]; exact refs_at (getD_at (by omega))
  refine asgX (popM hn rfl l1 hy (by rw [refs_size]; exact size30 (by omega)) fun H2 l2 s2 => ?_)
  rw [refs_pop] at l2
  have n2 := hn.sameBut s2 (Ne.symm haL)
  refine stn n2 fun H3 T3 n3 s3 => ?_
  have l3 := l2.same s3 haL
  have k3 := (Kp2.refl.snd (a := L) s2.extBut).fst s3
  have x3 : Heap.ExtBut a H H3 := Kp2.out k1 hL k3
  refine ifX (wpAny_isTrue_value (ldv n3 rfl (wpAny_truthy_list l3.isList (by rw [refs_size, List.length_dropLast]; omega) ?_)) (by rfl))
  cases hd : xs.dropLast with
  | nil =>
    have h1 : xs.length = 1 := by have := congrArg List.length hd; rw [List.length_dropLast] at this; simp at this; omega
    rw [hd] at l3
    refine nilX (retX (ldv n3 rfl ?_))
    rw [h1, getD_of hx]
    exact h H3 _ x3 (by unfold popRest; rw [hd]; exact l3)
  | cons y r =>
    have hlen : r.length + 2 = xs.length := by have := congrArg List.length hd; rw [List.length_dropLast] at this; simp at this; omega
    have hyx : y = x := by
      have e : xs.dropLast[0]? = some y := by rw [hd]; rfl
      rw [List.getElem?_dropLast, if_pos (by omega), hx] at e
      exact (Option.some.inj e).symm
    subst hyx
    rw [hd] at l3
    have hzr : (y :: r).length < 2 ^ 30 := by rw [List.length_cons]; omega
    refine asgX (Subscript_ (ldv n3 rfl (cint fun _ _ => sub_refs l3 hzr (q := 0) (y := y) rfl rfl (stn n3 fun H4 T4 n4 s4 => ?_))))
    have l4 := l3.same s4 haL
    refine putX (ldv n4 rfl (ldv n4 rfl (cint fun _ _ => set_refs l4 hzr (q := 0) (Nat.succ_pos _) rfl fun H5 l5 s5 => ?_)))
    have n5 := n4.sameBut s5 (Ne.symm haL)
    have k5 := (k3.fst s4).snd s5.extBut
    have x5 : Heap.ExtBut a H H5 := Kp2.out k1 hL k5
    have W5 := W.extBut hl x5
    obtain ⟨_, _, _, ⟨o5, ho5, hd5⟩, _⟩ := W5.at 5 hfu
    have hmem : ∀ z ∈ xs.getD (xs.length - 1) dE :: r, z ∈ xs := fun z hz => by
      rcases List.mem_cons.mp hz with rfl | hz
      · exact List.mem_of_getElem? (getD_at (by omega))
      · exact List.dropLast_subset xs (by rw [hd]; exact List.mem_cons_of_mem _ hz)
    refine exprX (callN W5.g hfu hd5 (it2 (ldv n5 rfl (cint fun _ _ => ⟨ho5, siftup_call W5 hfu hfd hu1 l5 rfl (by rw [List.set_cons_zero, List.length_cons] ; rw [List.length_cons] at hzr; exact hzr) (fun z hz => ?_) fun H6 T6 x6 l6 => ⟨rfl, retX (ldv (m := _) (n5.extBut x6 (Ne.symm haL)) rfl (h H6 T6 (fun c o hc e => x6 c o hc (x5 c o hc e)) ?_))⟩⟩))))
    · have := ht z (hmem z hz)
      exact this.of fun o => x5 z.1 o (this.ne_ls hl)
    · unfold popRest; rw [hd]; exact l6
end
end Mine
end
section
set_option maxRecDepth 100000
set_option Elab.async false
namespace Mine
open PySem

theorem kLt_asym {a b : Key} (h : kLt a b = true) : kLt b a = false := by
  simp only [kLt, Bool.or_eq_true, decide_eq_true_eq, Bool.and_eq_true, beq_iff_eq, Bool.or_eq_false_iff, decide_eq_false_iff_not, Bool.and_eq_false_iff, beq_eq_false_iff_ne] at h ⊢
  rcases h with h | ⟨h1, h2⟩
  · exact ⟨List.lt_asymm h, .inl fun e => List.lt_irrefl _ (e ▸ h)⟩
  · exact ⟨h1 ▸ List.lt_irrefl _, .inr (by omega)⟩
theorem kLt_irrefl (a : Key) : kLt a a = false := by
  cases h : kLt a a with
  | false => rfl
  | true => exact (kLt_asym h).symm.trans h |>.symm
theorem kLt_ntrans {a b c : Key} (h1 : kLt a b = false) (h2 : kLt b c = false) : kLt a c = false := by
  simp only [kLt, Bool.or_eq_false_iff, decide_eq_false_iff_not, Bool.and_eq_false_iff, beq_eq_false_iff_ne] at h1 h2 ⊢
  obtain ⟨p1, p2⟩ := h1
  obtain ⟨q1, q2⟩ := h2
  have le : ¬ a.1 < c.1 := List.le_trans (List.not_lt.mp q1) (List.not_lt.mp p1) |> List.not_lt.mpr
  refine ⟨le, ?_⟩
  by_cases e : a.1 = c.1
  · right
    have e1 : a.1 = b.1 := List.le_antisymm (e ▸ List.not_lt.mp q1) (List.not_lt.mp p1) 
    have e2 : b.1 = c.1 := e1 ▸ e
    have := p2.resolve_left (fun n => n e1)
    have := q2.resolve_left (fun n => n e2)
    omega
  · exact .inl e

theorem getD_set (xs : List Ent) (i j : Nat) (a : Ent) : (xs.set i a).getD j dE = if i = j ∧ i < xs.length then a else xs.getD j dE := by
  simp only [List.getD_eq_getElem?_getD, List.getElem?_set]
  by_cases h : i = j
  · subst h
    by_cases hl : i < xs.length
    · simp [hl]
    · simp [hl]
  · simp [h]
theorem getD_set_ne {xs : List Ent} {i j : Nat} {a : Ent} (h : i ≠ j) : (xs.set i a).getD j dE = xs.getD j dE := by rw [getD_set, if_neg (fun e => h e.1)]
theorem getD_set_eq {xs : List Ent} {i : Nat} {a : Ent} (h : i < xs.length) : (xs.set i a).getD i dE = a := by rw [getD_set, if_pos ⟨rfl, h⟩]

def Hp (xs : List Ent) : Prop := ∀ i, 0 < i → i < xs.length → eLt (xs.getD i dE) (xs.getD ((i - 1) / 2) dE) = false

theorem swap_perm {xs : List Ent} {i j : Nat} {x : Ent} (hi : i < xs.length) (hj : j < xs.length) (hij : i ≠ j) : ((xs.set i (xs.getD j dE)).set j x).Perm (xs.set i x) := by
  have h := List.set_set_perm (as := xs.set i x) (i := i) (j := j) (by simpa using hi) (by simpa using hj)
  have e1 : (xs.set i x)[j]'(by simpa using hj) = xs.getD j dE := by rw [List.getElem_set_ne hij]; simp [List.getD, hj]
  have e2 : (xs.set i x)[i]'(by simpa using hi) = x := by simp
  rw [e1, e2, List.set_set] at h
  exact h

theorem sdPos_ok (x : Ent) : ∀ (pos : Nat) (xs : List Ent), pos < xs.length → (∀ i, 0 < i → i < xs.length → i ≠ pos → (i - 1) / 2 ≠ pos → eLt (xs.getD i dE) (xs.getD ((i - 1) / 2) dE) = false) →
    (∀ i, 0 < i → i < xs.length → (i - 1) / 2 = pos → eLt (xs.getD i dE) x = false) → (0 < pos → ∀ i, 0 < i → i < xs.length → (i - 1) / 2 = pos → eLt (xs.getD i dE) (xs.getD ((pos - 1) / 2) dE) = false) →
    Hp (sdPos x xs pos) ∧ (sdPos x xs pos).Perm (xs.set pos x) := by
  intro pos
  induction pos using Nat.strongRecOn with
  | ind pos ih =>
    intro xs hp h1 h2 h3
    rw [sdPos]
    have stop : (0 < pos → eLt x (xs.getD ((pos - 1) / 2) dE) = false) → Hp (xs.set pos x) := fun hx i h0 hi => by
      rw [List.length_set] at hi
      by_cases hip : i = pos
      · subst hip
        rw [getD_set_eq hp, getD_set_ne (by omega)]
        exact hx h0
      · rw [getD_set_ne (Ne.symm hip)]
        by_cases hpp : (i - 1) / 2 = pos
        · rw [hpp, getD_set_eq hp]
          exact h2 i h0 hi hpp
        · rw [getD_set_ne (Ne.symm hpp)]
          exact h1 i h0 hi hip hpp
    by_cases h0 : pos = 0
    · subst h0
      rw [dif_pos rfl]
      exact ⟨stop fun h => absurd h (Nat.lt_irrefl _), .refl _⟩
    · rw [dif_neg h0]
      cases hc : eLt x (xs.getD ((pos - 1) / 2) dE) with
      | false =>
        rw [if_neg (by simp)]
        exact ⟨stop fun _ => hc, .refl _⟩
      | true =>
        rw [if_pos rfl]
        have hlt : (pos - 1) / 2 < pos := by omega
        have hpl : (pos - 1) / 2 < xs.length := by omega
        have k := ih ((pos - 1) / 2) hlt (xs.set pos (xs.getD ((pos - 1) / 2) dE)) (by rw [List.length_set]; exact hpl) ?_ ?_ ?_
        · refine ⟨k.1, k.2.trans (swap_perm hp hpl (by omega))⟩
        · intro i i0 hi n1 n2
          rw [List.length_set] at hi
          have nip : i ≠ pos := by rintro rfl; exact n2 rfl
          rw [getD_set_ne (Ne.symm nip)]
          by_cases e : (i - 1) / 2 = pos
          · rw [e, getD_set_eq hp]
            exact h3 (by omega) i i0 hi e
          · rw [getD_set_ne (Ne.symm e)]
            exact h1 i i0 hi nip e
        · intro i i0 hi e
          rw [List.length_set] at hi
          by_cases hip : i = pos
          · subst hip
            rw [getD_set_eq hp]
            exact kLt_asym hc
          · rw [getD_set_ne (Ne.symm hip)]
            have := h1 i i0 hi hip (by omega)
            rw [e] at this
            exact kLt_ntrans this (kLt_asym hc)
        · intro p0 i i0 hi e
          rw [List.length_set] at hi
          have q : eLt (xs.getD ((pos - 1) / 2) dE) (xs.getD (((pos - 1) / 2 - 1) / 2) dE) = false := h1 _ p0 hpl (by omega) (by omega)
          rw [getD_set_ne (i := pos) (j := ((pos - 1) / 2 - 1) / 2) (by omega)]
          by_cases hip : i = pos
          · subst hip
            rw [getD_set_eq hp]
            exact q
          · rw [getD_set_ne (Ne.symm hip)]
            have := h1 i i0 hi hip (by omega)
            rw [e] at this
            exact kLt_ntrans this q
theorem suPos_ok (x : Ent) (xs : List Ent) (pos : Nat) (hp : pos < xs.length) (g1 : ∀ i, 0 < i → i < xs.length → i ≠ pos → (i - 1) / 2 ≠ pos → eLt (xs.getD i dE) (xs.getD ((i - 1) / 2) dE) = false)
    (g3 : 0 < pos → ∀ i, 0 < i → i < xs.length → (i - 1) / 2 = pos → eLt (xs.getD i dE) (xs.getD ((pos - 1) / 2) dE) = false) : Hp (suPos x xs pos) ∧ (suPos x xs pos).Perm (xs.set pos x) := by
  rw [suPos]
  by_cases hc : 2 * pos + 1 < xs.length
  · rw [dif_pos hc]
    have kl := suKid_lt hc
    have kid : suKid xs (2 * pos + 1) = 2 * pos + 1 ∨ suKid xs (2 * pos + 1) = 2 * pos + 1 + 1 := by unfold suKid; split <;> simp
    have best : ∀ i, 0 < i → i < xs.length → (i - 1) / 2 = pos → i ≠ suKid xs (2 * pos + 1) → eLt (xs.getD i dE) (xs.getD (suKid xs (2 * pos + 1)) dE) = false := by
      intro i i0 hi e n
      cases q : (2 * pos + 1 + 1 < xs.length && !eLt (xs.getD (2 * pos + 1) dE) (xs.getD (2 * pos + 1 + 1) dE)) with
      | true =>
        rw [suKid_ge q] at n ⊢
        have : i = 2 * pos + 1 := by omega
        subst this
        simp only [Bool.and_eq_true, Bool.not_eq_true'] at q
        exact q.2
      | false =>
        rw [suKid_eq q] at n ⊢
        have : i = 2 * pos + 1 + 1 := by omega
        subst this
        rw [decide_eq_true hi, Bool.true_and, Bool.not_eq_false'] at q
        exact kLt_asym q
    have k := suPos_ok x (xs.set pos (xs.getD (suKid xs (2 * pos + 1)) dE)) (suKid xs (2 * pos + 1)) (by rw [List.length_set]; exact kl) ?_ ?_
    · exact ⟨k.1, k.2.trans (swap_perm hp kl (by omega))⟩
    · intro i i0 hi n1 n2
      rw [List.length_set] at hi
      by_cases hip : i = pos
      · subst hip
        rw [getD_set_eq hp, getD_set_ne (by omega)]
        exact g3 i0 _ (by omega) kl (by omega)
      · rw [getD_set_ne (Ne.symm hip)]
        by_cases e : (i - 1) / 2 = pos
        · rw [e, getD_set_eq hp]
          exact best i i0 hi e n1
        · rw [getD_set_ne (Ne.symm e)]
          exact g1 i i0 hi hip e
    · intro _ i i0 hi e
      rw [List.length_set] at hi
      have e2 : (suKid xs (2 * pos + 1) - 1) / 2 = pos := by omega
      rw [e2, getD_set_eq hp, getD_set_ne (by omega)]
      have := g1 i i0 hi (by omega) (by omega)
      rwa [e] at this
  · rw [dif_neg hc]
    have k := sdPos_ok x pos (xs.set pos x) (by rw [List.length_set]; exact hp) ?_ (fun i i0 hi e => absurd hi (by rw [List.length_set]; omega)) (fun _ i i0 hi e => absurd hi (by rw [List.length_set]; omega))
    · rw [List.set_set] at k
      exact k
    · intro i i0 hi n1 n2
      rw [List.length_set] at hi
      rw [getD_set_ne (Ne.symm n1), getD_set_ne (Ne.symm n2)]
      exact g1 i i0 hi n1 n2
termination_by xs.length - pos
decreasing_by
  rw [List.length_set]
  have := suKid_le xs (2 * pos + 1)
  omega

theorem push_ok {xs : List Ent} {x : Ent} (h : Hp xs) : Hp (sdPos x (xs ++ [x]) xs.length) ∧ (sdPos x (xs ++ [x]) xs.length).Perm (x :: xs) := by
  have k := sdPos_ok x xs.length (xs ++ [x]) (by simp) ?_ (fun i i0 hi e => ?_) (fun _ i i0 hi e => ?_)
  · refine ⟨k.1, k.2.trans ?_⟩
    have : (xs ++ [x]).set xs.length x = xs ++ [x] := by simp
    rw [this]
    exact List.perm_append_comm
  · intro i i0 hi n1 n2
    rw [List.length_append, List.length_singleton] at hi
    have e1 : (xs ++ [x]).getD i dE = xs.getD i dE := by simp [List.getD, List.getElem?_append_left (show i < xs.length by omega)]
    have e2 : (xs ++ [x]).getD ((i - 1) / 2) dE = xs.getD ((i - 1) / 2) dE := by simp [List.getD, List.getElem?_append_left (show (i - 1) / 2 < xs.length by omega)]
    rw [e1, e2]
    exact h i i0 (by omega)
  all_goals (rw [List.length_append, List.length_singleton] at hi; omega)

theorem root_le {xs : List Ent} (h : Hp xs) : ∀ i, i < xs.length → eLt (xs.getD i dE) (xs.getD 0 dE) = false := by
  intro i
  induction i using Nat.strongRecOn with
  | ind i ih =>
    intro hi
    by_cases h0 : i = 0
    · subst h0; exact kLt_irrefl _
    · exact kLt_ntrans (h i (by omega) hi) (ih ((i - 1) / 2) (by omega) (by omega))
theorem pop_ok {xs : List Ent} {x : Ent} (h : Hp xs) (hx : xs[0]? = some x) : Hp (popRest xs) ∧ (x :: popRest xs).Perm xs ∧ ∀ y ∈ xs, eLt y x = false := by
  have hp : 0 < xs.length := (List.getElem?_eq_some_iff.mp hx).1
  have h0 : xs.getD 0 dE = x := getD_of hx
  have hsp : xs = xs.dropLast ++ [xs.getD (xs.length - 1) dE] := by
    have e := (List.dropLast_concat_getLast (l := xs) (fun q => by rw [q] at hp; exact Nat.lt_irrefl _ hp)).symm
    rw [List.getLast_eq_getElem] at e
    have e2 : xs.getD (xs.length - 1) dE = xs[xs.length - 1]'(by omega) := by simp [List.getD, show xs.length - 1 < xs.length by omega]
    rw [e2]; exact e
  have top : ∀ a y r, xs.dropLast = y :: r → ∀ i, 0 < i → i < (a :: r : List Ent).length → (a :: r : List Ent).getD i dE = xs.getD i dE ∧ i < xs.length := fun a y r hd i i0 hi => by
    have hl : xs.dropLast.length = xs.length - 1 := List.length_dropLast
    rw [hd, List.length_cons] at hl
    rw [List.length_cons] at hi
    obtain ⟨j, rfl⟩ : ∃ j, i = j + 1 := ⟨i - 1, by omega⟩
    refine ⟨?_, by omega⟩
    have : xs[j + 1]? = (y :: r)[j + 1]? := by rw [← hd, List.getElem?_dropLast, if_pos (by omega)]
    rw [List.getD, List.getD, this]; rfl
  refine ⟨?_, ?_, fun y hy => ?_⟩
  · unfold popRest
    cases hd : xs.dropLast with
    | nil => exact fun i _ hi => absurd hi (Nat.not_lt_zero _)
    | cons y r =>
      refine (suPos_ok _ _ 0 (by simp) (fun i i0 hi n1 n2 => ?_) fun q => absurd q (Nat.lt_irrefl _)).1
      obtain ⟨e1, l1⟩ := top _ y r hd i i0 hi
      obtain ⟨e2, _⟩ := top (xs.getD (xs.length - 1) dE) y r hd ((i - 1) / 2) (by omega) (by omega)
      rw [e1, e2]
      exact h i i0 l1
  · unfold popRest
    cases hd : xs.dropLast with
    | nil =>
      rw [hd] at hsp
      rw [hsp] at hx
      rw [hsp]
      cases hx
      exact .refl _
    | cons y r =>
      have hyx : y = x := by
        rw [hd] at hsp
        rw [hsp] at hx
        exact Option.some.inj hx
      subst hyx
      have k := (suPos_ok (xs.getD (xs.length - 1) dE) (xs.getD (xs.length - 1) dE :: r) 0 (by simp) (fun i i0 hi n1 n2 => ?_) fun q => absurd q (Nat.lt_irrefl _)).2
      · rw [List.set_cons_zero] at k
        refine (List.Perm.cons y k).trans ?_
        conv => rhs; rw [hsp, hd]
        exact List.Perm.cons y (List.perm_append_singleton _ _).symm
      · obtain ⟨e1, l1⟩ := top _ y r hd i i0 hi
        obtain ⟨e2, _⟩ := top (xs.getD (xs.length - 1) dE) y r hd ((i - 1) / 2) (by omega) (by omega)
        rw [e1, e2]
        exact h i i0 l1
  · obtain ⟨i, hi, rfl⟩ := List.getElem_of_mem hy
    have := root_le h i hi
    rw [h0] at this
    simpa [List.getD, hi] using this
end Mine
end
section
set_option maxRecDepth 100000
set_option Elab.async false
namespace Mine
open PySem PySem.W PySem.Calls PyProof.Rows

/-- all of h but one stands in h' -/
abbrev KpI (I : Addr) (h h' : Heap) : Prop := ∀ b o, b ≠ I → h.get? b = some o → h'.get? b = some o
def Stay (fp : List Addr) (h h' : Heap) : Prop := ∀ b ∈ fp, ∀ o, h.get? b = some o → h'.get? b = some o
def ForTurn (s0 : Shared) (J : Nat → Heap → Prop) (i : Nat) (fp : List Addr) (Hb : Heap) (Q : Flow → Shared → Prop) (f : Flow) (s : Shared) : Prop := match f with
  | .next | .cont => ∃ Hc Tc, s = St s0 Hc Tc ∧ J (i + 1) Hc ∧ Stay fp Hb Hc
  | .brk => Q .next s
  | .ret v => Q (.ret v) s

section
variable {prog : Program} {w : World} {A : Around} {E : Value → Shared → Prop} {s0 : Shared} {H : Heap} {T : Nat} {mg mb : Str → Option Value} {env : Env}
/-- what a for asks of its iterator, its turns, its end -/
structure ForOk (prog : Program) (w : World) (A : Around) (E : Value → Shared → Prop) (s0 : Shared) (env : Env) (x : Str) (body rest : List Stmt) (Q : Flow → Shared → Prop) (n : Nat) (P : Nat → Value → Prop) (J : Nat → Heap → Prop) (I : Addr) (fp : List Addr) (It : Nat → Heap → Prop) (H2 : Heap) : Prop where
  walks : Walks prog w A I fp [I] n P It
  it0 : It 0 H2
  start : J 0 H2
  turn : ∀ i v Ha Hb Tb, i < n → P i v → J i Ha → KpI I Ha Hb → It (i + 1) Hb → wpAny (model prog w) A (storeName env x v) (fun _ s₁ => wpAny (model prog w) A (execs body env) (ForTurn s0 J i fp Hb (Then (model prog w) A env rest Q E)) NoE s₁) NoE (St s0 Hb Tb)
  done : ∀ Ha Hb Tb, J n Ha → KpI I Ha Hb → wpAny (model prog w) A (execs rest env) Q E (St s0 Hb Tb)
theorem forW {x : Str} {px pos : Pos} {iter : Expr} {body rest : List Stmt} {Q : Flow → Shared → Prop} {s : Shared}
    (h : wpAny (model prog w) A (eval iter env) (fun xv s₁ => wpAny (model prog w) A (pyIter xv) (fun it s₂ => ∃ I H2 T2 n P J fp It, it = .ref I ∧ s₂ = St s0 H2 T2 ∧ ForOk prog w A E s0 env x body rest Q n P J I fp It H2) E s₁) E s)
    (hs : ∀ x, foldedSetIterable iter env x = pure x := by intro _; rfl) :
    wpAny (model prog w) A (execs (.For (.Name x px) iter body [] pos :: rest) env) Q E s := by
  refine seqX (wpAny_For (wpAny_mono h (fun xv s₁ h₁ => wpAny_mono h₁ (fun it s₂ h₂ => ?_) fun _ _ e => e) fun _ _ e => e) hs)
  obtain ⟨I, H2, T2, n, P, J, fp, It, rfl, rfl, K⟩ := h₂
  refine codeAny_forLoop (fun k s => ∃ i Ha Ta, s = St s0 Ha Ta ∧ J i Ha ∧ It i Ha ∧ i ≤ n ∧ k = n + 1 - i) ?_ (n + 1) ⟨0, H2, T2, rfl, K.start, K.it0, Nat.zero_le _, rfl⟩
  rintro k _ ⟨i, Ha, Ta, rfl, hJ, hI, hi, rfl⟩
  by_cases hlt : i < n
  · refine K.walks.item i _ _ _ hlt hI fun v h' tk hP hI' hk => ?_
    have step := K.turn i v Ha h' tk hlt hP hJ (fun b o hb e => hk b o (by simpa using hb) e) hI'
    refine wpAny_assign_Name (wpAny_mono step (fun _ s₁ h₁ => wpAny_mono h₁ (fun f s₂ h₂ => ?_) fun _ _ e => e.elim) fun _ _ e => e.elim)
    have fin : (∃ Hc Tc, s₂ = St s0 Hc Tc ∧ J (i + 1) Hc ∧ Stay fp h' Hc) → ∃ m, m < n + 1 - i ∧ ∃ i' Ha Ta, s₂ = St s0 Ha Ta ∧ J i' Ha ∧ It i' Ha ∧ i' ≤ n ∧ m = n + 1 - i' := fun ⟨Hc, Tc, e, hJ', hs⟩ =>
      ⟨n + 1 - (i + 1), by omega, i + 1, Hc, Tc, e, hJ', K.walks.frame _ _ _ hI' hs, hlt, rfl⟩
    cases f with
    | next => exact fin h₂
    | cont => exact fin h₂
    | brk => exact h₂
    | ret v => exact h₂
  · have hin : i = n := by omega
    subst hin
    exact K.walks.done _ _ _ hI fun h' tk hk => wpAny_execs_nil (K.done Ha h' tk hJ fun b o hb e => hk b o (by simpa using hb) e)

theorem walksR (hh : A.handled = none) (I : Addr) (n : Nat) : Walks prog w A I [I] [I] n (fun i v => ∃ t, v = .int (i : Nat) t) (fun i h => IsRangeIter h I (i : Nat) ((n : Int) - (i : Nat)) 1) := by
  have W0 := Walks.range (prog := prog) (w := w) (A := A) hh I 0 1 n
  have e1 : (fun (i : Nat) (v : Value) => ∃ t, v = Value.int (0 + (i : Int) * 1) t) = fun i v => ∃ t, v = Value.int (i : Nat) t := by funext i v; simp
  have e2 : (fun (i : Nat) (h : Heap) => IsRangeIter h I (0 + (i : Int) * 1) ((n : Int) - (i : Nat)) 1) = fun i h => IsRangeIter h I (i : Nat) ((n : Int) - (i : Nat)) 1 := by funext i h; simp
  rwa [e1, e2] at W0
theorem none_of_le {h : Heap} {a : Addr} (l : h.objs.size ≤ a) : h.get? a = none := by
  cases q : h.get? a with
  | none => rfl
  | some o => exact absurd (Heap.lt_size q) (Nat.not_lt.mpr l)
/-- range(e)'s iterator -/
theorem rangeIt {e : Expr} {p pos : Pos} {n : Nat} {Q : Value → Shared → Prop} (W : Wd mg mb H) (hh : A.handled = none) (hn : n < 2 ^ 30)
    (he : ∀ {Q' : Value → Shared → Prop}, (∀ t T', Q' (.int n t) (St s0 H T')) → wpAny (model prog w) A (eval e env) Q' E (St s0 H T))
    (h : ∀ I H2 T2, Keeps' H H2 → H.get? I = none → I < H2.objs.size → Walks prog w A I [I] [I] n (fun i v => ∃ t, v = .int (i : Nat) t) (fun i h => IsRangeIter h I (i : Nat) ((n : Int) - (i : Nat)) 1) → IsRangeIter H2 I ((0 : Nat) : Int) ((n : Int) - ((0 : Nat) : Int)) 1 → Q (.ref I) (St s0 H2 T2))
    (h1 : env.globals = mainGlobals := by rfl) (h2 : env.builtins = builtinsNs := by rfl) (h3 : env.scope.kind = .function := by rfl) (h4 : env.kindOf "range" = some .globalImplicit := by rfl) (h5 : starEach [e] env = (false, eval e env) :: starEach [] env := by rfl) :
    wpAny (model prog w) A (eval (.Call (.Name "range" p) [e] [] pos) env) (fun xv s₁ => wpAny (model prog w) A (pyIter xv) Q E s₁) E (St s0 H T) := by
  refine callT (id := "range") W (by decide) (by decide +kernel) (it1 (he fun t T' => ?_) h5) h1 h2 h3 h4 (by decide) (by decide) h5 rfl
  refine call_range_1 ?_
  refine wpAny_pyIter_range (IsRange.new ..) (small_one (by decide) (by decide) (by omega) (by omega)) ?_
  have hsz : Builtin.Range.rangeSize 0 n 1 = (n : Int) := by rw [rangeSize_one]; split <;> omega
  refine h _ _ _ (fun b o e => Heap.get?_push_of_some _ (Heap.get?_push_of_some _ e)) (none_of_le ?_) ?_ (walksR hh _ n) ?_
  · show H.objs.size ≤ (Heap.push H _).objs.size
    rw [Heap.size_push]; exact Nat.le_succ _
  · exact Nat.lt_of_lt_of_eq (Nat.lt_succ_self _) (Heap.size_push ..).symm
  · have e2 : ((n : Int) - ((0 : Nat) : Int)) = Builtin.Range.rangeSize 0 n 1 := by rw [hsz]; simp
    rw [e2]
    exact Heap.get?_push_size _ rfl

def tests (ifs : List Expr) (env : Env) : Sem Bool := forIn ifs true fun c r => if r = true then do let ok ← isTrue c env (eval c env); pure (ForInStep.yield ok) else pure (ForInStep.yield r)
theorem tests_nil {Q : Bool → Shared → Prop} {s : Shared} (h : Q true s) : wpAny (model prog w) A (tests [] env) Q E s := by unfold tests; rw [List.forIn_nil]; exact wpAny_pure h
theorem tests_one {c : Expr} {Q : Bool → Shared → Prop} {s : Shared} (h : wpAny (model prog w) A (isTrue c env (eval c env)) Q E s) : wpAny (model prog w) A (tests [c] env) Q E s := by
  unfold tests
  rw [List.forIn_cons]
  refine wpAny_bind ?_
  rw [if_pos rfl]
  refine wpAny_bind (wpAny_mono h (fun b s₁ q => wpAny_pure ?_) fun _ _ e => e)
  show wpAny _ _ (forIn [] b _) _ _ _
  rw [List.forIn_nil]
  exact wpAny_pure q
abbrev Kp3 (I C D : Addr) (h h' : Heap) : Prop := ∀ b o, b ≠ I → b ≠ C → b ≠ D → h.get? b = some o → h'.get? b = some o
def CompEnd (s0 : Shared) (J : Nat → List Value → Heap → Prop) (i : Nat) (vs : List Value) (fp : List Addr) (C D : Addr) (Hb : Heap) (s : Shared) : Prop := ∃ Hc Tc, s = St s0 Hc Tc ∧ J i vs Hc ∧ Stay (C :: D :: fp) Hb Hc
/-- what a comprehension asks of its iterator, its turns, its end -/
structure CompOk (prog : Program) (w : World) (A : Around) (s0 : Shared) (env : Env) (scope : Scope) (cl : List (Str × Addr)) (x : Str) (ifs : List Expr) (elt : Expr) (RR : Value → Addr → Heap → Nat → Prop) (n : Nat) (P : Nat → Value → Prop) (J : Nat → List Value → Heap → Prop) (I : Addr) (fp : List Addr) (It : Nat → Heap → Prop) (H2 : Heap) : Prop where
  walks : Walks prog w A I fp [I] n P It
  it0 : It 0 H2
  low : ∀ b ∈ fp, b < H2.objs.size
  len : n ≤ sizeLine
  start : J 0 [] H2
  turn : ∀ i v vs C D Ha Hb Tb m, i < n → P i v → J i vs Ha → H2.get? C = none → H2.get? D = none → Kp3 I C D Ha Hb → Hb.Ns C m → m x = some v → It (i + 1) Hb → Ls Hb D vs.toArray →
    wpAny (model prog w) A (tests ifs (compEnvC scope cl C env)) (fun ok s₃ => if ok = true then wpAny (model prog w) A (eval elt (compEnvC scope cl C env)) (fun y s₄ => CompEnd s0 J (i + 1) (vs ++ [y]) fp C D Hb s₄) NoE s₃ else CompEnd s0 J (i + 1) vs fp C D Hb s₃) NoE (St s0 Hb Tb)
  done : ∀ C D vs Ha Hb Tb m, J n vs Ha → vs.length ≤ n → H2.get? C = none → H2.get? D = none → D ≠ C → Kp3 I C D Ha Hb → Hb.Ns C m → Ls Hb D vs.toArray → RR (.ref D) C Hb Tb
/-- the same, with the places of the comprehension's own objects -/
structure CompOkZ (prog : Program) (w : World) (A : Around) (s0 : Shared) (env : Env) (scope : Scope) (cl : List (Str × Addr)) (x : Str) (ifs : List Expr) (elt : Expr) (RR : Value → Addr → Heap → Nat → Prop) (n : Nat) (P : Nat → Value → Prop) (J : Nat → List Value → Heap → Prop) (I : Addr) (fp : List Addr) (It : Nat → Heap → Prop) (H2 : Heap) : Prop where
  walks : Walks prog w A I fp [I] n P It
  it0 : It 0 H2
  low : ∀ b ∈ fp, b < H2.objs.size
  len : n ≤ sizeLine
  start : J 0 [] H2
  turn : ∀ i v vs C D Ha Hb Tb m, C = H2.objs.size + 1 → D = H2.objs.size → i < n → P i v → J i vs Ha → H2.get? C = none → H2.get? D = none → Kp3 I C D Ha Hb → Hb.Ns C m → m x = some v → It (i + 1) Hb → Ls Hb D vs.toArray →
    wpAny (model prog w) A (tests ifs (compEnvC scope cl C env)) (fun ok s₃ => if ok = true then wpAny (model prog w) A (eval elt (compEnvC scope cl C env)) (fun y s₄ => CompEnd s0 J (i + 1) (vs ++ [y]) fp C D Hb s₄) NoE s₃ else CompEnd s0 J (i + 1) vs fp C D Hb s₃) NoE (St s0 Hb Tb)
  done : ∀ C D vs Ha Hb Tb m, C = H2.objs.size + 1 → D = H2.objs.size → J n vs Ha → vs.length ≤ n → H2.get? C = none → H2.get? D = none → D ≠ C → Kp3 I C D Ha Hb → Hb.Ns C m → Ls Hb D vs.toArray → RR (.ref D) C Hb Tb
theorem CompOk.z {scope : Scope} {cl : List (Str × Addr)} {x : Str} {ifs : List Expr} {elt : Expr} {RR : Value → Addr → Heap → Nat → Prop} {n : Nat} {P : Nat → Value → Prop} {J : Nat → List Value → Heap → Prop} {I : Addr} {fp : List Addr} {It : Nat → Heap → Prop} {H2 : Heap} (K : CompOk prog w A s0 env scope cl x ifs elt RR n P J I fp It H2) : CompOkZ prog w A s0 env scope cl x ifs elt RR n P J I fp It H2 :=
  ⟨K.walks, K.it0, K.low, K.len, K.start, fun i v vs C D Ha Hb Tb m _ _ => K.turn i v vs C D Ha Hb Tb m, fun C D vs Ha Hb Tb m _ _ => K.done C D vs Ha Hb Tb m⟩
theorem compCore {elt iter : Expr} {x : Str} {px : Pos} {ifs : List Expr} {scope : Scope} {cl : List (Str × Addr)} {pos : Pos} {RR : Value → Addr → Heap → Nat → Prop} {R' : Value → Addr → Result → Shared → Prop} {n : Nat} {P : Nat → Value → Prop} {J : Nat → List Value → Heap → Prop} {I : Addr} {fp : List Addr} {It : Nat → Heap → Prop}
    (hcell : ∀ y ∈ scope.names, y.2 ≠ .cell) (hkind : scope.kind = .function) (hx : scope.names.lookup x = some .local) (K : CompOkZ prog w A s0 env scope cl x ifs elt RR n P J I fp It H) (hR : ∀ v C Hb Tb m, Hb.Ns C m → RR v C Hb Tb → R' v C (.ok .next) (St s0 Hb Tb)) :
    wpAny (model prog w) A (newList []) (fun acc s₃ => wpAny (model prog w) A (newFunctionEnv scope env.globals cl [] env.qual none .none (some env)) (fun cenv s₄ =>
      codeAny (model prog w) A (.compStart (.ListComp elt [⟨.Name x px, iter, ifs, 0⟩] scope pos) 0 (.ref I) acc { cenv with scope := relabel scope env }) (R' acc cenv.locals) s₄) E s₃) E (St s0 H T) := by
  refine wpAny_newObj_type (wpAny_newFunctionEnv hcell (by intro y hy; simp at hy) (fun h₁ hns₁ hsb₁ => ?_) hkind)
  dsimp only at hns₁ hsb₁ ⊢
  obtain ⟨D, hD⟩ : ∃ D, D = H.objs.size := ⟨_, rfl⟩
  obtain ⟨G, hG⟩ : ∃ G, G = H.push { cls := .type "list", dict := none, data := .seq ([] : List Value).toArray } := ⟨_, rfl⟩
  obtain ⟨C, hC⟩ : ∃ C, C = G.objs.size := ⟨_, rfl⟩
  have hCs : C = H.objs.size + 1 := by rw [hC, hG, Heap.size_push]
  change h₁.Ns (Heap.push H _).objs.size _ at hns₁
  rw [← hG, ← hC] at hns₁
  have hsb : Heap.SameBut C (G.push { cls := .type "dict", data := .dict #[] }) h₁ := by rw [hC, hG]; exact hsb₁
  have fC : H.get? C = none := none_of_le (hCs ▸ Nat.le_succ _)
  have fD : H.get? D = none := none_of_le (Nat.le_of_eq hD.symm)
  have old : ∀ b o, H.get? b = some o → h₁.get? b = some o := fun b o e => hsb.extBut b o (by rintro rfl; rw [fC] at e; cases e) (Heap.get?_push_of_some _ (hG ▸ Heap.get?_push_of_some _ e))
  have hDC : D ≠ C := by rw [hD, hCs]; exact Nat.ne_of_lt (Nat.lt_succ_self _)
  have lD : Ls h₁ D #[] := ⟨0, hsb.extBut _ _ hDC (Heap.get?_push_of_some _ (by rw [hG, hD]; exact Heap.get?_push_size _ rfl))⟩
  have neD : ∀ b ∈ fp, b ≠ D := fun b hb e => Nat.lt_irrefl _ (hD ▸ e ▸ K.low b hb)
  have neC : ∀ b ∈ fp, b ≠ C := fun b hb e => Nat.lt_irrefl _ (Nat.lt_of_lt_of_le (hCs ▸ e ▸ K.low b hb) (Nat.le_succ _))
  have hI : I ∈ fp := K.walks.sub I (by simp)
  have start : ∀ s₃ : Shared, s₃ = St s0 h₁ T → codeAny (model prog w) A (.compLoop (.ListComp elt [⟨.Name x px, iter, ifs, 0⟩] scope pos) 0 (.ref I) (.ref D) (compEnvC scope cl C env)) (R' (.ref D) C) s₃ := by
    rintro _ rfl
    refine codeAny_compLoop_tests (fun k s => ∃ i vs Ha Hb Tb m, s = St s0 Hb Tb ∧ J i vs Ha ∧ It i Hb ∧ Kp3 I C D Ha Hb ∧ Hb.Ns C m ∧ Ls Hb D vs.toArray ∧ i ≤ n ∧ vs.length ≤ i ∧ k = n + 1 - i) ?_ (n + 1)
      ⟨0, [], H, h₁, T, _, rfl, K.start, K.walks.frame _ _ _ K.it0 (fun b _ o e => old b o e), fun b o _ _ _ e => old b o e, hns₁, lD, Nat.zero_le _, Nat.le_refl _, rfl⟩
    rintro k _ ⟨i, vs, Ha, Hb, Tb, m, rfl, hJ, hIt, hk, hn, hl, hi, hvs, rfl⟩
    by_cases hlt : i < n
    · refine K.walks.item i _ _ _ hlt hIt fun v h2 tk hP hI2 hk2 => ?_
      have hk2' : KpI I Hb h2 := fun b o hb e => hk2 b o (by simpa using hb) e
      refine wpAny_assign_Name (wpAny_storeName_local (lookup_relabel_local hx) (hn.at' fun o e => hk2' C o (Ne.symm (neC I hI)) e) (fun h3 hn3 hs3 => ?_) (by simp [compEnvC, relabel, hkind]))
      have k3 : Kp3 I C D Ha h3 := fun b o b1 b2 b3 e => hs3.extBut b o b2 (hk2' b o b1 (hk b o b1 b2 b3 e))
      have l3 : Ls h3 D vs.toArray := hl.at fun o e => hs3.extBut D o hDC (hk2' D o (Ne.symm (neD I hI)) e)
      have I3 : It (i + 1) h3 := K.walks.frame _ _ _ hI2 fun b hb o e => hs3.extBut b o (neC b hb) e
      have fin : ∀ vs' s, (CompEnd s0 J (i + 1) vs' fp C D h3 s) → ∃ Hc Tc m', s = St s0 Hc Tc ∧ J (i + 1) vs' Hc ∧ It (i + 1) Hc ∧ Hc.Ns C m' ∧ Ls Hc D vs.toArray ∧ Stay (C :: D :: fp) h3 Hc := fun vs' s ⟨Hc, Tc, e, hJ', hs⟩ =>
        ⟨Hc, Tc, _, e, hJ', K.walks.frame _ _ _ I3 fun b hb o e => hs b (List.mem_cons_of_mem _ (List.mem_cons_of_mem _ hb)) o e, hn3.at' fun o e => hs C (.head _) o e, l3.at fun o e => hs D (.tail _ (.head _)) o e, hs⟩
      refine wpAny_mono (K.turn i v vs C D Ha h3 _ _ hCs hD hlt hP hJ fC fD k3 hn3 (if_pos rfl) I3 l3) (fun ok s₃ q => ?_) fun _ _ e => e.elim
      cases ok with
      | true =>
        rw [if_pos rfl] at q ⊢
        refine wpAny_mono q (fun y s₄ q => ?_) fun _ _ e => e.elim
        obtain ⟨Hc, Tc, m', rfl, hJ', hIc, hnc, ⟨nD, lc⟩, hs⟩ := fin _ _ q
        refine wpAny_list_append_plain (hsz := by rw [List.size_toArray]; exact Nat.le_trans (Nat.le_trans hvs hi) K.len) ⟨nD, lc⟩ fun h5 l5 s5 => ?_
        refine ⟨n + 1 - (i + 1), by omega, i + 1, vs ++ [y], Hc, h5, _, m', rfl, hJ', K.walks.frame _ _ _ hIc fun b hb o e => s5.extBut b o (neD b hb) e, fun b o _ _ b3 e => s5.extBut b o b3 e, hnc.sameBut s5 (Ne.symm hDC), ?_, hlt, ?_, rfl⟩
        · obtain ⟨n5, e5⟩ := l5
          refine ⟨n5, ?_⟩
          show h5.get? D = _
          rw [e5]; simp
        · rw [List.length_append, List.length_singleton]; exact Nat.succ_le_succ hvs
      | false =>
        rw [if_neg (by simp)] at q ⊢
        obtain ⟨Hc, Tc, m', rfl, hJ', hIc, hnc, lc, hs⟩ := fin _ _ q
        exact ⟨n + 1 - (i + 1), by omega, i + 1, vs, Hc, Hc, _, m', rfl, hJ', hIc, fun b o _ _ _ e => e, hnc, lc, hlt, Nat.le_succ_of_le hvs, rfl⟩
    · have hin : i = n := by omega
      subst hin
      refine K.walks.done _ _ _ hIt fun h' tk hk2 => ?_
      have hk2' : KpI I Hb h' := fun b o hb e => hk2 b o (by simpa using hb) e
      have n6 := hn.at' fun o e => hk2' C o (Ne.symm (neC I hI)) e
      exact hR _ _ _ _ m n6 (K.done C D vs Ha h' _ m hCs hD hJ hvs fC fD hDC (fun b o b1 b2 b3 e => hk2' b o b1 (hk b o b1 b2 b3 e)) n6 (hl.at fun o e => hk2' D o (Ne.symm (neD I hI)) e))
  have I1 := K.walks.frame _ _ _ K.it0 (fun b _ o e => old b o e)
  subst hC hD hG
  exact codeAny_compStart_list (start _ rfl) (K.walks.self 0 (St s0 h₁ T) _ _ I1 (start _ rfl))

/-- the comprehension as a value -/
def RQ (s0 : Shared) (Q : Value → Shared → Prop) (v : Value) (C : Addr) (Hb : Heap) (Tb : Nat) : Prop := ∀ h', Heap.SameBut C Hb h' → Q v (St s0 h' Tb)
theorem RQ.of {Q : Value → Shared → Prop} {I C D : Addr} {Ha Hb : Heap} {Tb : Nat} {items : Array Value} (hDC : D ≠ C) (k : Kp3 I C D Ha Hb) (l : Ls Hb D items) (h : ∀ h', Kp3 I C D Ha h' → Ls h' D items → Q (.ref D) (St s0 h' Tb)) : RQ s0 Q (.ref D) C Hb Tb :=
  fun h' s => h h' (fun b o b1 b2 b3 e => s.extBut b o b2 (k b o b1 b2 b3 e)) (l.same s hDC)
theorem compEZ {elt iter : Expr} {x : Str} {px : Pos} {ifs : List Expr} {scope : Scope} (cl : List (Str × Addr)) {pos : Pos} {Q : Value → Shared → Prop} {s : Shared}
    (hclos : closureFor scope env = pure cl)
    (h : wpAny (model prog w) A (eval iter env) (fun xv s₁ => wpAny (model prog w) A (pyIter xv) (fun it s₂ => ∃ I H2 T2 n P J fp It, it = .ref I ∧ s₂ = St s0 H2 T2 ∧ CompOkZ prog w A s0 env scope cl x ifs elt (RQ s0 Q) n P J I fp It H2) E s₁) E s)
    (hcell : ∀ y ∈ scope.names, y.2 ≠ .cell := by decide) (hkind : scope.kind = .function := by rfl) (hnames : ∀ x ∈ scope.names, x.2 = .local → scope.names.lookup x.1 = some .local := by decide) (hx : scope.names.lookup x = some .local := by rfl)
    (hs : ∀ x, foldedSetIterable iter env x = pure x := by intro _; rfl) :
    wpAny (model prog w) A (eval (.ListComp elt [⟨.Name x px, iter, ifs, 0⟩] scope pos) env) Q E s := by
  rw [eval_ListComp]
  refine wpAny_comprehension_free (use := none) rfl hs hclos hkind hnames (wpAny_mono h (fun xv s₁ h₁ => wpAny_mono h₁ (fun it s₂ h₂ => ?_) fun _ _ e => e) fun _ _ e => e)
  obtain ⟨I, H2, T2, n, P, J, fp, It, rfl, rfl, K⟩ := h₂
  exact compCore (R' := fun acc C => compPost (model prog w) A E none Q acc C) hcell hkind hx K fun v C Hb Tb m hn q => ⟨m, hn, fun h' hs => q h' hs⟩
theorem compE {elt iter : Expr} {x : Str} {px : Pos} {ifs : List Expr} {scope : Scope} (cl : List (Str × Addr)) {pos : Pos} {Q : Value → Shared → Prop} {s : Shared}
    (hclos : closureFor scope env = pure cl)
    (h : wpAny (model prog w) A (eval iter env) (fun xv s₁ => wpAny (model prog w) A (pyIter xv) (fun it s₂ => ∃ I H2 T2 n P J fp It, it = .ref I ∧ s₂ = St s0 H2 T2 ∧ CompOk prog w A s0 env scope cl x ifs elt (RQ s0 Q) n P J I fp It H2) E s₁) E s)
    (hcell : ∀ y ∈ scope.names, y.2 ≠ .cell := by decide) (hkind : scope.kind = .function := by rfl) (hnames : ∀ x ∈ scope.names, x.2 = .local → scope.names.lookup x.1 = some .local := by decide) (hx : scope.names.lookup x = some .local := by rfl)
    (hs : ∀ x, foldedSetIterable iter env x = pure x := by intro _; rfl) :
    wpAny (model prog w) A (eval (.ListComp elt [⟨.Name x px, iter, ifs, 0⟩] scope pos) env) Q E s := by
  refine compEZ (s0 := s0) cl hclos (wpAny_mono h (fun _ _ h₁ => wpAny_mono h₁ (fun _ _ q => ?_) fun _ _ e => e) fun _ _ e => e) hcell hkind hnames hx hs
  obtain ⟨I, H2, T2, n, P, J, fp, It, e1, e2, K⟩ := q
  exact ⟨I, H2, T2, n, P, J, fp, It, e1, e2, K.z⟩
/-- the comprehension as a name's value -/
def RA (prog : Program) (w : World) (A : Around) (E : Value → Shared → Prop) (env : Env) (s0 : Shared) (y : Str) (Qn : Shared → Prop) (v : Value) (C : Addr) (Hb : Heap) (Tb : Nat) : Prop :=
  wpAny (model prog w) A (storeName env y v) (fun _ s' => ∃ m, s'.heap.Ns C m ∧ ∀ h', Heap.SameBut C s'.heap h' → Qn { s' with heap := h' }) E (St s0 Hb Tb)
theorem compA {elt iter : Expr} {x y : Str} {px py : Pos} {ifs : List Expr} {scope : Scope} (cl : List (Str × Addr)) {pos spos : Pos} {rest : List Stmt} {Q : Flow → Shared → Prop} {s : Shared}
    (hclos : closureFor scope env = pure cl)
    (h : wpAny (model prog w) A (eval iter env) (fun xv s₁ => wpAny (model prog w) A (pyIter xv) (fun it s₂ => ∃ I H2 T2 n P J fp It, it = .ref I ∧ s₂ = St s0 H2 T2 ∧ CompOk prog w A s0 env scope cl x ifs elt (RA prog w A E env s0 y fun s => wpAny (model prog w) A (execs rest env) Q E s) n P J I fp It H2) E s₁) E s)
    (hsw : swapsWith (.ListComp elt [⟨.Name x px, iter, ifs, 0⟩] scope pos) (some (.Name y py)) spos.line env = pure true := by rfl)
    (hcell : ∀ y ∈ scope.names, y.2 ≠ .cell := by decide) (hkind : scope.kind = .function := by rfl) (hnames : ∀ x ∈ scope.names, x.2 = .local → scope.names.lookup x.1 = some .local := by decide) (hx : scope.names.lookup x = some .local := by rfl)
    (hs : ∀ x, foldedSetIterable iter env x = pure x := by intro _; rfl) :
    wpAny (model prog w) A (execs (.Assign [.Name y py] (.ListComp elt [⟨.Name x px, iter, ifs, 0⟩] scope pos) spos :: rest) env) Q E s := by
  refine seqX ?_
  rw [exec_Assign_Name_used _ _ _ _ hsw]
  refine wpAny_bind (wpAny_standAt (wpAny_bind ?_))
  show wpAny _ A (do let _ ← comprehension (.ListComp elt [⟨.Name x px, iter, ifs, 0⟩] scope pos) scope env _ (newList []) false (eval iter env) (some (assign (.Name y py) env))) _ _ s
  refine wpAny_bind (wpAny_mono (wpAny_comprehension_free (use := some (assign (.Name y py) env)) (Q := fun _ s' => wpAny (model prog w) A (execs rest env) Q E s') rfl hs hclos hkind hnames
    (wpAny_mono h (fun xv s₁ h₁ => wpAny_mono h₁ (fun it s₂ h₂ => ?_) fun _ _ e => e) fun _ _ e => e)) (fun _ s' hq => wpAny_pure (wpAny_pure hq)) fun _ _ e => e)
  obtain ⟨I, H2, T2, n, P, J, fp, It, rfl, rfl, K⟩ := h₂
  exact compCore (R' := fun acc C => compPost (model prog w) A E (some (assign (.Name y py) env)) (fun _ s' => wpAny (model prog w) A (execs rest env) Q E s') acc C) hcell hkind hx K.z fun v C Hb Tb m hn q => wpAny_assign_Name q
end
end Mine
end
section
set_option maxRecDepth 100000
set_option Elab.async false
namespace Mine
open PySem PySem.W PySem.Calls PyProof.Rows

def cellsOf (i : Nat) (L : Addr) : List (Str × Addr) := cellsFrom (L + 1) (scopeOf (stm i)).names []
def envC (i : Nat) (L f : Addr) (cd : Value) : Env := { scope := scopeOf (stm i), locals := L, globals := mainGlobals, cells := cellsOf i L, qual := nameOf (stm i) ++ ".<locals>.", func := some f, code := cd, frame := some L, builtins := builtinsNs }

/-- a frame with cells -/
structure FrC (h : Heap) (L : Addr) (cs : List (Str × Addr)) (m cm : Str → Option Value) : Prop where
  ns : h.Ns L m
  cell : ∀ n c, cs.lookup n = some c → h.IsCell c (cm n)
  apart : cs.Pairwise fun x y => x.2 ≠ y.2
  above : ∀ n c, (n, c) ∈ cs → L < c
/-- the frame's own objects -/
def FrC.own (L : Addr) (cs : List (Str × Addr)) (b : Addr) : Prop := b = L ∨ ∃ n, cs.lookup n = some b
theorem mem_look {α : Type} {cs : List (Str × α)} {n : Str} {c : α} (h : cs.lookup n = some c) : (n, c) ∈ cs := PySem.mem_of_lookup h
theorem FrC.keep {h h' : Heap} {L : Addr} {cs m cm} (F : FrC h L cs m cm) (k : ∀ b o, FrC.own L cs b → h.get? b = some o → h'.get? b = some o) : FrC h' L cs m cm :=
  ⟨F.ns.at' fun o e => k L o (.inl rfl) e, fun n c hc => let ⟨o, e, d⟩ := F.cell n c hc; ⟨o, k c o (.inr ⟨n, hc⟩) e, d⟩, F.apart, F.above⟩
theorem FrC.keeps {h h' : Heap} {L : Addr} {cs m cm} (F : FrC h L cs m cm) (k : Keeps' h h') : FrC h' L cs m cm := F.keep fun b o _ => k b o

section
variable {prog : Program} {w : World} {A : Around} {E : Value → Shared → Prop} {s0 : Shared} {H : Heap} {T : Nat} {mg mb : Str → Option Value} {env : Env} {m cm : Str → Option Value}
theorem callC (i : Nat) {f : Addr} {pm cd doc : Value} {vals : List Value} (binds : List (Str × Value)) {Q : Value → Shared → Prop} (hu : A.depth < recursionLimit) (hlim : H.NoLimit) (hf : FnAt H i f pm cd doc)
    (hbind : bindArgs (fdOf i pm cd doc) ⟨vals, []⟩ = pure binds)
    (hkind : ∀ x ∈ binds, (scopeOf (stm i)).names.lookup x.1 = some .local ∨ ((scopeOf (stm i)).names.lookup x.1 = some .cell ∧ ((cellsOf i H.objs.size).lookup x.1).isSome = true))
    (h : ∀ H1 L T1, FrC H1 L (cellsOf i L) (bindL (envC i L f cd).kindOf binds fun _ => none) (bindC (envC i L f cd).kindOf binds fun _ => none) → Keeps' H H1 → H.objs.size ≤ L →
      wpAny (model prog w) (A.deeper (envC i L f cd)) (execs (bodyOf (stm i)) (envC i L f cd)) (Ret Q) NoE (St s0 H1 T1))
    (hco : (scopeOf (stm i)).isCoroutine = false := by rfl) (hgen : (scopeOf (stm i)).isGenerator = false := by rfl) (hk : (scopeOf (stm i)).kind = .function := by rfl) :
    wpAny (model prog w) A (call (.ref f) vals []) Q E (St s0 H T) := by
  obtain ⟨⟨o, ho, hd⟩, hr⟩ := hf
  refine wpAny_call (codeAny_call_cells (fd := fdOf i pm cd doc) (body := bodyOf (stm i)) (o := o) (binds := binds) hu ho hd hlim hr rfl hbind rfl hkind (fun s₁ x => ?_) hco hgen hk)
  obtain ⟨h', tk, rfl⟩ := x.toInCall.same
  refine wpAny_mono (h h' H.objs.size tk ⟨x.toInCall.ns, x.cell, x.apart, x.above⟩ x.toInCall.keep (Nat.le_refl _)) (fun fl s' q => by cases fl <;> exact q) fun _ _ e => e.elim
/-- loads and stores in a frame with cells -/
theorem ldc {x : Str} {pos : Pos} {c : Addr} {v : Value} {Q : Value → Shared → Prop} (hc : env.cells.lookup x = some c) (hv : H.IsCell c (some v)) (h : Q v (St s0 H T))
    (hk : env.scope.kind = .function := by rfl) (hl : env.kindOf x = some .cell := by rfl) (hd : (x == ("__debug__" : Str)) = false := by decide) :
    wpAny (model prog w) A (eval (.Name x pos) env) Q E (St s0 H T) := wpAny_Name (wpAny_loadName_cell hk hl hc hv h) hd
theorem stl {x : Str} {v : Value} {Q : Unit → Shared → Prop} (F : FrC H env.locals env.cells m cm) (h : ∀ h' T', FrC h' env.locals env.cells (fun y => if y = x then some v else m y) cm → Heap.SameBut env.locals H h' → Q () (St s0 h' T'))
    (hl : env.kindOf x = some .local := by rfl) (hp : (env.scope.kind == .class || (env.scope.kind == .module && env.locals != env.globals)) = false := by rfl) :
    wpAny (model prog w) A (storeName env x v) Q E (St s0 H T) :=
  stn F.ns (fun h' T' n s => h h' T' ⟨n, fun k c hc => (F.cell k c hc).sameBut s (Nat.ne_of_gt (F.above k c (mem_look hc))), F.apart, F.above⟩ s) hl hp
theorem stc {x : Str} {c : Addr} {v : Value} {Q : Unit → Shared → Prop} (F : FrC H env.locals env.cells m cm) (hc : env.cells.lookup x = some c) (h : ∀ h' T', FrC h' env.locals env.cells m (fun y => if y = x then some v else cm y) → Heap.SameBut c H h' → Q () (St s0 h' T'))
    (hk : env.scope.kind = .function := by rfl) (hl : env.kindOf x = some .cell := by rfl) : wpAny (model prog w) A (storeName env x v) Q E (St s0 H T) := by
  have hLc := F.above x c (mem_look hc)
  refine wpAny_storeName_cell hk hl hc (F.cell x c hc) fun h' hc' hs' => h h' T ⟨F.ns.sameBut hs' (Nat.ne_of_lt hLc), fun k c' hk' => ?_, F.apart, F.above⟩ hs'
  by_cases hkx : k = x
  · subst hkx
    rw [hc] at hk'; cases hk'
    rw [if_pos rfl]; exact hc'
  · rw [if_neg hkx]
    exact (F.cell k c' hk').sameBut hs' fun e => hkx (name_of_addr F.apart (mem_look hk') (e ▸ mem_look hc))

/-- loads by the frame's facts -/
theorem ldl {cs : List (Str × Addr)} {L : Addr} {x : Str} {pos : Pos} {v : Value} {Q : Value → Shared → Prop} (F : FrC H L cs m cm) (hv : m x = some v) (h : Q v (St s0 H T))
    (hL : env.locals = L := by rfl) (hk : env.scope.kind = .function := by rfl) (hl : env.kindOf x = some .local := by rfl) (hd : (x == ("__debug__" : Str)) = false := by decide) :
    wpAny (model prog w) A (eval (.Name x pos) env) Q E (St s0 H T) := by subst hL; exact ldv F.ns hv h hk hl hd
theorem ldk {cs : List (Str × Addr)} {L : Addr} {x : Str} {pos : Pos} {c : Addr} {v : Value} {Q : Value → Shared → Prop} (F : FrC H L cs m cm) (hv : cm x = some v) (h : Q v (St s0 H T))
    (hc' : cs.lookup x = some c := by rfl) (hc : env.cells.lookup x = some c := by rfl) (hk : env.scope.kind = .function := by rfl) (hl : env.kindOf x = some .cell := by rfl) (hd : (x == ("__debug__" : Str)) = false := by decide) :
    wpAny (model prog w) A (eval (.Name x pos) env) Q E (St s0 H T) := ldc hc (by rw [← hv]; exact F.cell x c hc') h hk hl hd
end
/-- a list of texts, a list of ints -/
def SL (h : Heap) (a : Addr) (ks : List Str) : Prop := ∃ l : List (Str × Tok), l.map (·.1) = ks ∧ Ls h a (l.map fun p => Value.str p.1 p.2).toArray
def IL (h : Heap) (a : Addr) (ns : List Int) : Prop := ∃ l : List (Int × Tok), l.map (·.1) = ns ∧ Ls h a (l.map fun p => Value.int p.1 p.2).toArray
theorem SL.at {h h' : Heap} {a : Addr} {ks : List Str} (x : SL h a ks) (e : ∀ o, h.get? a = some o → h'.get? a = some o) : SL h' a ks := let ⟨l, q, y⟩ := x; ⟨l, q, y.at e⟩
theorem IL.at {h h' : Heap} {a : Addr} {ks : List Int} (x : IL h a ks) (e : ∀ o, h.get? a = some o → h'.get? a = some o) : IL h' a ks := let ⟨l, q, y⟩ := x; ⟨l, q, y.at e⟩
theorem SL.item {h : Heap} {a : Addr} {ks : List Str} (x : SL h a ks) : ∃ items : Array Value, Ls h a items ∧ items.size = ks.length ∧ ∀ (i : Nat) (k : Str), ks[i]? = some k → ∃ t, items[i]? = some (Value.str k t) := by
  obtain ⟨l, rfl, y⟩ := x
  refine ⟨_, y, by simp, fun i k hk => ?_⟩
  rw [List.getElem?_map] at hk
  obtain ⟨p, hp, rfl⟩ := Option.map_eq_some_iff.mp hk
  exact ⟨p.2, by simp [hp]⟩
theorem IL.item {h : Heap} {a : Addr} {ks : List Int} (x : IL h a ks) : ∃ items : Array Value, Ls h a items ∧ items.size = ks.length ∧ ∀ (i : Nat) (k : Int), ks[i]? = some k → ∃ t, items[i]? = some (Value.int k t) := by
  obtain ⟨l, rfl, y⟩ := x
  refine ⟨_, y, by simp, fun i k hk => ?_⟩
  rw [List.getElem?_map] at hk
  obtain ⟨p, hp, rfl⟩ := Option.map_eq_some_iff.mp hk
  exact ⟨p.2, by simp [hp]⟩
end Mine
end
section
set_option maxRecDepth 100000
set_option Elab.async false
namespace Mine
open PySem PySem.W PySem.Calls PyProof.Rows

theorem some_ne {h : Heap} {a b : Addr} {o : Obj} (x : h.get? a = some o) (y : h.get? b = none) : a ≠ b := by
  rintro rfl; rw [x] at y; cases y
theorem none_back {h h' : Heap} {c : Addr} (k : Keeps' h h') (n : h'.get? c = none) : h.get? c = none := by
  cases q : h.get? c with
  | none => rfl
  | some o => rw [k c o q] at n; cases n
theorem kbut {H Ha Hb : Heap} {I : Addr} (k : Keeps' H Ha) (x : KpI I Ha Hb) (n : H.get? I = none) : Keeps' H Hb := fun b o e => x b o (some_ne e n) (k b o e)
theorem kall {a b c : Heap} (k : Keeps' a b) (l : Keeps' b c) : Keeps' a c := fun x o e => l x o (k x o e)
theorem Ls.new {h : Heap} {a b : Addr} {items : Array Value} (x : Ls h a items) (n : h.get? b = none) : a ≠ b := let ⟨_, y⟩ := x; some_ne y n
theorem FrC.has {h : Heap} {L : Addr} {cs m cm} {b : Addr} (F : FrC h L cs m cm) (w : FrC.own L cs b) : ∃ o, h.get? b = some o ∧ ∀ items n, o.data ≠ .seq items n := by
  rcases w with rfl | ⟨n, hn⟩
  · obtain ⟨o, _, _, ho, hd, _⟩ := F.ns
    exact ⟨o, ho, fun _ _ e => by rw [hd] at e; cases e⟩
  · obtain ⟨o, ho, hd⟩ := F.cell n b hn
    exact ⟨o, ho, fun _ _ e => by rw [hd] at e; cases e⟩
theorem FrC.new {h : Heap} {L : Addr} {cs m cm} {b c : Addr} (F : FrC h L cs m cm) (w : FrC.own L cs b) (n : h.get? c = none) : b ≠ c := let ⟨_, y, _⟩ := F.has w; some_ne y n
theorem FrC.ne_ls {h : Heap} {L : Addr} {cs m cm} {a b : Addr} {items : Array Value} (F : FrC h L cs m cm) (w : FrC.own L cs b) (l : Ls h a items) : b ≠ a := by
  rintro rfl
  obtain ⟨o, ho, hd⟩ := F.has w
  obtain ⟨n, hl⟩ := l
  cases Option.some.inj (ho.symm.trans hl)
  exact hd _ _ rfl
theorem FrC.but {h h' : Heap} {L : Addr} {cs m cm} {a : Addr} {items : Array Value} (F : FrC h L cs m cm) (l : Ls h a items) (x : Heap.ExtBut a h h') : FrC h' L cs m cm := F.keep fun b o w e => x b o (F.ne_ls w l) e

/-- values that are the ints ns -/
def IV (vs : List Value) (ns : List Int) : Prop := ∃ l : List (Int × Tok), l.map (·.1) = ns ∧ vs = l.map fun p => Value.int p.1 p.2
theorem IV.nil : IV [] [] := ⟨[], rfl, rfl⟩
theorem IV.snoc {vs ns n t} (x : IV vs ns) : IV (vs ++ [.int n t]) (ns ++ [n]) := let ⟨l, e1, e2⟩ := x; ⟨l ++ [(n, t)], by simp [e1], by simp [e2]⟩
theorem IV.il {h : Heap} {a vs ns} (x : IV vs ns) (l : Ls h a vs.toArray) : IL h a ns := let ⟨q, e1, e2⟩ := x; ⟨q, e1, e2 ▸ l⟩

section
variable {prog : Program} {w : World} {A : Around} {E : Value → Shared → Prop} {s0 : Shared} {H : Heap} {T : Nat} {mg mb : Str → Option Value} {env : Env}
/-- a new tuple, a new list -/
theorem newT {elts : List Expr} {k : Nat} {pos : Pos} {Q : Value → Shared → Prop} {s : Shared}
    (h : wpAny (model prog w) A (spliced (backTo pos (starEach elts env))) (fun vs s₁ => ∃ H1 T1, s₁ = St s0 H1 T1 ∧ vs.length ≤ sizeLine ∧ ∀ r H', H1.get? r = none → Keeps' H1 H' → IsT H' r vs.toArray 0 → Q (.ref r) (St s0 H' T1)) E s) :
    wpAny (model prog w) A (eval (.Tuple elts k pos) env) Q E s :=
  wpAny_Tuple (wpAny_mono h (fun vs s₁ q => by
    obtain ⟨H1, T1, rfl, hz, q⟩ := q
    exact ⟨hz, q _ _ (none_of_le (Nat.le_refl _)) (fun b o e => Heap.get?_push_of_some _ e) (Heap.get?_push_size _ rfl)⟩) fun _ _ e => e)
theorem newL {elts : List Expr} {pos : Pos} {Q : Value → Shared → Prop} {s : Shared}
    (h : wpAny (model prog w) A (spliced (backTo pos (starEach elts env))) (fun vs s₁ => ∃ H1 T1, s₁ = St s0 H1 T1 ∧ vs.length ≤ sizeLine ∧ ∀ r H', H1.get? r = none → Keeps' H1 H' → Ls H' r vs.toArray → Q (.ref r) (St s0 H' T1)) E s) :
    wpAny (model prog w) A (eval (.List elts pos) env) Q E s :=
  wpAny_List (wpAny_mono h (fun vs s₁ q => by
    obtain ⟨H1, T1, rfl, hz, q⟩ := q
    exact ⟨hz, q _ _ (none_of_le (Nat.le_refl _)) (fun b o e => Heap.get?_push_of_some _ e) ⟨0, Heap.get?_push_size _ rfl⟩⟩) fun _ _ e => e)
theorem sub_tup {value slice : Expr} {r : Addr} {k : Key} {t : Tok} {Q : Value → Shared → Prop} (x : Tp H r k) (h : ∀ u, Q (.int k.2 u) (St s0 H T))
    (hs : subscripted slice false (.ref r) (.int 1 t) = operate [.ref r, .int 1 t] (getItem (.ref r) (.int 1 t)) := by with_unfolding_all rfl) :
    wpAny (model prog w) A (subscriptTail value slice (.ref r) (.int 1 t)) Q E (St s0 H T) := by
  obtain ⟨o, _, _, u, n, ho, hc, hd, _⟩ := x
  have ht : IsTup (St s0 H T).heap r _ := ⟨o, ho, hc, n, hd⟩
  exact tail_any (s := St s0 H T) (T := "tuple") ht.typeIs slot_tuple_getitem.lookup (getItem_tuple ht (j := 1) (by decide) (by decide) rfl rfl (h u)) hs
theorem sub_SL {value slice : Expr} {l : Addr} {ks : List Str} {k : Int} {q : Nat} {t : Tok} {x : Str} {Q : Value → Shared → Prop} (hl : SL H l ks) (hx : ks[q]? = some x) (hz : ks.length < 2 ^ 30) (hk : k = (q : Int)) (h : ∀ u, Q (.str x u) (St s0 H T))
    (hs : subscripted slice false (.ref l) (.int k t) = operate [.ref l, .int k t] (getItem (.ref l) (.int k t)) := by with_unfolding_all rfl) :
    wpAny (model prog w) A (subscriptTail value slice (.ref l) (.int k t)) Q E (St s0 H T) := by
  subst hk
  obtain ⟨items, l1, hsz, hi⟩ := hl.item
  obtain ⟨u, hu⟩ := hi q x hx
  exact sub_list l1 (Int.natCast_nonneg q) (fit30 (List.getElem?_eq_some_iff.mp hx).1 hz) hu (h u) hs
theorem sub_IL {value slice : Expr} {l : Addr} {ks : List Int} {k : Int} {q : Nat} {t : Tok} {x : Int} {Q : Value → Shared → Prop} (hl : IL H l ks) (hx : ks[q]? = some x) (hz : ks.length < 2 ^ 30) (hk : k = (q : Int)) (h : ∀ u, Q (.int x u) (St s0 H T))
    (hs : subscripted slice false (.ref l) (.int k t) = operate [.ref l, .int k t] (getItem (.ref l) (.int k t)) := by with_unfolding_all rfl) :
    wpAny (model prog w) A (subscriptTail value slice (.ref l) (.int k t)) Q E (St s0 H T) := by
  subst hk
  obtain ⟨items, l1, hsz, hi⟩ := hl.item
  obtain ⟨u, hu⟩ := hi q x hx
  exact sub_list l1 (Int.natCast_nonneg q) (fit30 (List.getElem?_eq_some_iff.mp hx).1 hz) hu (h u) hs
end

theorem two_le : 2 ≤ sizeLine := by rw [sizeLine_eq]; decide
theorem one_le : 1 ≤ sizeLine := by rw [sizeLine_eq]; decide
def keysOf (ks : List Str) : List Key := ks.zipIdx.map fun p => (p.1.cps.toList, (p.2 : Int))
def OrderOf (ks : List Str) (ns : List Int) : Prop := ∃ ko : List Key, ns = ko.map (·.2) ∧ ko.Perm (keysOf ks) ∧ ko.Pairwise fun a b => kLt b a = false
theorem keysOf_len (ks : List Str) : (keysOf ks).length = ks.length := by simp [keysOf]
theorem keysOf_at {ks : List Str} {i : Nat} {k : Str} (h : ks[i]? = some k) : (keysOf ks)[i]? = some (k.cps.toList, (i : Int)) := by simp [keysOf, h]

/-- _law_order's frame, and the heap it holds -/
inductive OrI (H : Heap) (L b a : Addr) (X : Addr → Prop) (K : List Key) (Ha : Heap) : Prop
  | mk {m cm : Str → Option Value} {its : List Ent} : FrC Ha L (cellsOf 20 L) m cm → m "keys" = some (.ref a) → cm "heap" = some (.ref b) → Ls Ha b (refs its) → (∀ r ∈ its, Tp Ha r.1 r.2 ∧ X r.1) → Hp its → (its.map (·.2)).Perm K → Keeps' H Ha → OrI H L b a X K Ha

section
variable {prog : Program} {w : World} {A : Around} {E : Value → Shared → Prop} {s0 : Shared} {H : Heap} {T : Nat} {mg mb : Str → Option Value} {env : Env}
theorem len_SL {l : Addr} {ks : List Str} {Q : Value → Shared → Prop} (hl : SL H l ks) (hz : ks.length < 2 ^ 30) (h : ∀ t T', Q (.int ks.length t) (St s0 H T')) : wpAny (model prog w) A (call (.builtin "len") [.ref l]) Q E (St s0 H T) := by
  obtain ⟨items, l1, hsz, _⟩ := hl.item
  refine len_list l1 (by rw [hsz]; omega) ?_
  rw [hsz]; exact h
theorem order_call {f a : Addr} {ks : List Str} {Q : Value → Shared → Prop} (W : Wd mg mb H) (hf : mg (nameOf (stm 20)) = some (.ref f)) (hu : AOk A 4 12) (hl : SL H a ks) (hz : ks.length < 2 ^ 9)
    (h : ∀ H' T' D ns, Keeps' H H' → H.get? D = none → IL H' D ns → OrderOf ks ns → Q (.ref D) (St s0 H' T')) :
    wpAny (model prog w) A (call (.ref f) [.ref a] []) Q E (St s0 H T) := by
  obtain ⟨pm, cd, doc, hfn⟩ := W.at 20 hf
  obtain ⟨f2, _, _, _, e2, _⟩ := W.fn 2 (by decide)
  obtain ⟨f3, _, _, _, e3, _⟩ := W.fn 3 (by decide)
  obtain ⟨f4, _, _, _, e4, _⟩ := W.fn 4 (by decide)
  obtain ⟨f5, _, _, _, e5, _⟩ := W.fn 5 (by decide)
  refine callC 20 [("keys", .ref a)] (hu.le (d' := 0) (u' := 0)).dep W.lim hfn rfl (fun x hx => .inl (locs rfl x hx)) fun H1 L T1 F1 k1 hL => ?_
  have hu1 : AOk (A.deeper (envC 20 L f cd)) 3 9 := hu.deeper _
  have hz30 : ks.length < 2 ^ 30 := Nat.lt_trans hz (by decide)
  have nL : H.get? L = none := none_of_le hL
  have nC : H.get? (L + 1) = none := none_of_le (Nat.le_succ_of_le hL)
  refine asgX (newL (wpAny_items_nil ⟨_, _, rfl, Nat.zero_le _, fun b H2 nb k2 l2 => stc (F1.keeps k2) rfl fun H3 T3 F3 s3 => ?_⟩))
  have bL : b ≠ L + 1 := Ne.symm (F1.new (.inr ⟨"heap", rfl⟩) nb)
  have l3 := l2.same s3 bL
  have k3 : Keeps' H H3 := fun x o e => s3.extBut x o (some_ne e nC) (k2 x o (k1 x o e))
  refine forW (s0 := s0) (rangeIt (n := ks.length) (W.keeps k3) hu1.hh hz30 (fun h' => callB (id := "len") (W.keeps k3) (by decide) (by decide +kernel) (it1 (ldl F3 rfl (len_SL (hl.at fun o => k3 _ o) hz30 h')))) fun I H4 T4 k4 nI I4 wk it0 => ?_)
  have nI' := none_back k3 nI
  have bI : b ≠ I := l3.new nI
  have bLn : b ≠ L := Ne.symm (F3.ne_ls (.inl rfl) l3)
  refine ⟨I, H4, T4, ks.length, _, fun i Ha => OrI H L b a (· ≠ I) ((keysOf ks).take i) Ha, [I], _, rfl, rfl, wk, it0, .mk (its := []) (F3.keeps k4) rfl rfl (l3.at fun o => k4 _ o) nofun (fun i _ hi => absurd hi (Nat.not_lt_zero _)) (.refl _) (kall k3 k4), ?_, ?_⟩
  · rintro i _ Ha Hb Tb hi ⟨t, rfl⟩ ⟨F, q1, q2, q3, q4, q5, q6, q7⟩ kI iI
    rename_i m cm its
    refine stl (F.keep fun b' o w e => kI b' o (F3.new w nI) e) fun H5 T5 F5 s5 => ?_
    have l5 : Ls H5 b (refs its) := (q3.at fun o => kI b o bI).same s5 bLn
    have k5 : Keeps' H H5 := fun x o e => s5.extBut x o (some_ne e nL) (kI x o (some_ne e nI') (q7 x o e))
    have W5 := W.keeps k5
    obtain ⟨_, _, _, ⟨o2, ho2, hd2⟩, _⟩ := W5.at 2 e2
    obtain ⟨x, hx⟩ : ∃ x, ks[i]? = some x := ⟨_, List.getElem?_eq_getElem hi⟩
    have IL' : I ≠ L := Ne.symm (F3.new (.inl rfl) nI)
    obtain ⟨oI, hoI⟩ : ∃ o, H5.get? I = some o := ⟨_, s5.extBut _ _ IL' iI⟩
    refine exprX (callN W5.g e2 hd2 (it2 (ldk F5 q2 (newT (it2 (Subscript_ (ldl F5 q1 (ldl F5 rfl (sub_SL (hl.at fun o => k5 _ o) hx hz30 rfl fun u => ldl F5 rfl ⟨_, _, rfl, two_le, fun r H6 nr k6 t6 => ⟨k6 _ _ ho2, ?_⟩⟩)))))))))
    have hpl : (its.map (·.2)).length = i := by rw [q6.length_eq, List.length_take, keysOf_len]; omega
    rw [List.length_map] at hpl
    have tp6 : Tp H6 (r, (x.cps.toList, (i : Int))).1 (r, (x.cps.toList, (i : Int))).2 := ⟨_, _, _, _, _, t6, rfl, rfl, rfl⟩
    have tps : ∀ z ∈ its, Tp H6 z.1 z.2 ∧ z.1 ≠ I := fun z hz => ⟨(q4 z hz).1.of fun o e => k6 _ o (s5.extBut z.1 o ((q4 z hz).1.ne_ns F.ns) (kI z.1 o (q4 z hz).2 e)), (q4 z hz).2⟩
    have l6 : Ls H6 b (refs its) := l5.at fun o => k6 _ o
    refine heappush_call (x := (r, (x.cps.toList, (i : Int)))) (W5.keeps k6) e2 e4 hu1.le l6 (by omega) (fun z hz => (tps z hz).1) tp6 fun H7 T7 x7 l7 => ⟨rfl, nilX ⟨H7, T7, rfl, ?_, ?_⟩⟩
    · have p := push_ok (x := (r, (x.cps.toList, (i : Int)))) q5
      refine .mk ((F5.keeps k6).but l6 x7) q1 q2 l7 (fun z hz => ?_) p.1 ?_ fun y o e => x7 y o (some_ne e (none_back k1 nb)) (k6 y o (k5 y o e))
      · rcases List.mem_cons.mp (p.2.mem_iff.mp hz) with rfl | hz
        · exact ⟨tp6.of fun o => x7 _ o (tp6.ne_ls l6), Ne.symm (some_ne hoI nr)⟩
        · exact ⟨(tps z hz).1.of fun o => x7 _ o ((tps z hz).1.ne_ls l6), (tps z hz).2⟩
      · refine (p.2.map _).trans ?_
        rw [List.take_add_one, keysOf_at hx]
        exact (List.Perm.cons _ q6).trans (List.perm_append_singleton _ _).symm
    · intro y hy o e
      cases List.mem_singleton.mp hy
      exact x7 _ o (Ne.symm bI) (k6 _ o (s5.extBut _ o IL' e))
  · rintro Ha Hb Tb ⟨F, q1, q2, q3, q4, q5, q6, q7⟩ kI
    rename_i m cm its
    rw [List.take_of_length_le (by rw [keysOf_len]; exact Nat.le_refl _)] at q6
    have Fb := F.keep fun b' o w e => kI b' o (F3.new w nI) e
    have lb : Ls Hb b (refs its) := q3.at fun o => kI b o bI
    have kb := kbut q7 kI nI'
    have tb : ∀ z ∈ its, Tp Hb z.1 z.2 := fun z hz => (q4 z hz).1.of fun o e => kI z.1 o (q4 z hz).2 e
    refine retX (compE (s0 := s0) [("heap", L + 1)] rfl (rangeIt (n := ks.length) (W.keeps kb) hu1.hh hz30 (fun h' => callB (id := "len") (W.keeps kb) (by decide) (by decide +kernel) (it1 (ldl Fb q1 (len_SL (hl.at fun o => kb _ o) hz30 h')))) fun I8 H8 T8 k8 nI8 lI8 wk8 it8 => ?_))
    refine ⟨I8, H8, T8, ks.length, _, fun i vs Ha => ∃ K outs, OrI H L b a (fun r => Hb.get? r ≠ none) K Ha ∧ IV vs (outs.map (·.2)) ∧ (outs ++ K).Perm (keysOf ks) ∧ outs.Pairwise (fun a b => kLt b a = false) ∧ (∀ x ∈ outs, ∀ y ∈ K, kLt y x = false) ∧ outs.length = i, [I8], _, rfl, rfl, wk8, it8, ?_, ?_, ?_, ?_, ?_⟩
    · intro y hy; cases List.mem_singleton.mp hy; exact lI8
    · rw [sizeLine_eq]; omega
    · exact ⟨keysOf ks, [], .mk (Fb.keeps k8) q1 q2 (lb.at fun o => k8 _ o) (fun z hz => ⟨(tb z hz).of fun o => k8 _ o, let ⟨o, _, _, _, _, e, _⟩ := tb z hz; by rw [e]; nofun⟩) q5 q6 (kall kb k8), .nil, .refl _, .nil, nofun, rfl⟩
    · rintro i _ vs C D Ha Hc Tc mC hi ⟨t, rfl⟩ ⟨K, outs, ⟨F, q1, q2, q3, q4, q5, q6, q7⟩, iv, pm, pw, le, hlen⟩ nC8 nD8 k3 - - - -
      rename_i m cm its
      have nC := none_back k8 nC8
      have nD := none_back k8 nD8
      have Fc := F.keep fun b' o w e => k3 b' o (Fb.new w nI8) (Fb.new w nC) (Fb.new w nD) e
      have lc : Ls Hc b (refs its) := q3.at fun o => k3 b o (lb.new nI8) (lb.new nC) (lb.new nD)
      have kc : Keeps' H Hc := fun y o e => k3 y o (some_ne (kb _ _ e) nI8) (some_ne (kb _ _ e) nC) (some_ne (kb _ _ e) nD) (q7 y o e)
      have tc : ∀ z ∈ its, Tp Hc z.1 z.2 := fun z hz => (q4 z hz).1.of fun o e => k3 z.1 o (fun q => (q4 z hz).2 (q ▸ nI8)) (fun q => (q4 z hz).2 (q ▸ nC)) (fun q => (q4 z hz).2 (q ▸ nD)) e
      have Wc := W.keeps kc
      obtain ⟨_, _, _, ⟨o3, ho3, hd3⟩, _⟩ := Wc.at 3 e3
      have hpl : outs.length + its.length = ks.length := by rw [← keysOf_len ks, ← pm.length_eq, List.length_append, ← q6.length_eq, List.length_map]
      obtain ⟨x, hx⟩ : ∃ x, its[0]? = some x := ⟨_, List.getElem?_eq_getElem (by omega)⟩
      obtain ⟨p1, p2, p3⟩ := pop_ok q5 hx
      refine tests_nil ?_
      rw [if_pos rfl]
      refine Subscript_ (callN Wc.g e3 hd3 (it1 (ldk Fc q2 ⟨ho3, heappop_call Wc e3 e4 e5 hu1 lc (by omega) hx tc fun H9 T9 x9 l9 => ?_⟩)))
      have hxm : x ∈ its := List.mem_of_getElem? hx
      have hxK : x.2 ∈ K := q6.mem_iff.mp (List.mem_map_of_mem hxm)
      refine cint fun _ _ => sub_tup ((tc x hxm).of fun o => x9 _ o ((tc x hxm).ne_ls lc)) fun u => ⟨H9, _, rfl, ⟨(popRest its).map (·.2), outs ++ [x.2], .mk (Fc.but lc x9) q1 q2 l9 (fun z hz => ?_) p1 (.refl _) fun y o e => x9 y o (some_ne e (none_back k1 nb)) (kc y o e), ?_, ?_, ?_, ?_, ?_⟩, ?_⟩
      · have hz' : z ∈ its := p2.mem_iff.mp (List.mem_cons_of_mem _ hz)
        exact ⟨(tc z hz').of fun o => x9 _ o ((tc z hz').ne_ls lc), (q4 z hz').2⟩
      · rw [List.map_append]; exact iv.snoc
      · rw [List.append_assoc]
        exact (((p2.map (·.2)).trans q6).append_left outs).trans pm
      · exact List.pairwise_append.mpr ⟨pw, List.pairwise_singleton .., fun y hy z hz => by cases List.mem_singleton.mp hz; exact le y hy _ hxK⟩
      · intro y hy z hz
        obtain ⟨z', hz', rfl⟩ := List.mem_map.mp hz
        have hzi : z' ∈ its := p2.mem_iff.mp (List.mem_cons_of_mem _ hz')
        rcases List.mem_append.mp hy with hy | hy
        · exact le y hy _ (q6.mem_iff.mp (List.mem_map_of_mem hzi))
        · cases List.mem_singleton.mp hy; exact p3 z' hzi
      · rw [List.length_append, hlen]; rfl
      · intro y hy o e
        refine x9 y o (Ne.symm ?_) e
        rcases List.mem_cons.mp hy with rfl | hy
        · exact lb.new nC
        · rcases List.mem_cons.mp hy with rfl | hy
          · exact lb.new nD
          · cases List.mem_singleton.mp hy; exact lb.new nI8
    · rintro C D vs Ha Hc Tc mC ⟨K, outs, ⟨_, _, _, _, _, _, _, q7⟩, iv, pm, pw, le, hlen⟩ _ nC8 nD8 hDC k3 _ lD
      have nC := none_back k8 nC8
      have nD := none_back k8 nD8
      have hK : K = [] := List.eq_nil_of_length_eq_zero (by have := pm.length_eq; rw [List.length_append, keysOf_len] at this; omega)
      subst hK
      rw [List.append_nil] at pm
      exact RQ.of hDC k3 lD fun h' k3' l => h h' _ D _ (fun y o e => k3' y o (some_ne (kb _ _ e) nI8) (some_ne (kb _ _ e) nC) (some_ne (kb _ _ e) nD) (q7 y o e)) (none_back kb nD) (iv.il l) ⟨outs, rfl, pm, pw⟩
end
end Mine
end
section
set_option maxRecDepth 100000
set_option Elab.async false
namespace Mine
open PySem PySem.W PySem.Calls PyProof.Rows

theorem IV.ints {vs ns} (x : IV vs ns) : IntsAre vs ns := by
  obtain ⟨l, rfl, rfl⟩ := x
  induction l with
  | nil => exact .nil
  | cons a l ih => exact .cons a.1 a.2 ih
theorem IV.length {vs ns} (x : IV vs ns) : vs.length = ns.length := by obtain ⟨l, rfl, rfl⟩ := x; simp
theorem SL.strs {h : Heap} {a : Addr} {ks : List Str} (x : SL h a ks) : ∃ l : List (Str × Tok), l.map (·.1) = ks ∧ h.IsList a (strValues l).toArray := let ⟨l, e, y⟩ := x; ⟨l, e, y.isList⟩
def cps (ks : List Str) : List Nat := (ks.map fun k => k.cps.toList).flatten
theorem join_cps : ∀ ks : List Str, (Txt.join (Str.ofString "") ks).cps.toList = cps ks := fun ks => by
  rw [show Str.ofString "" = ⟨#[]⟩ by decide +kernel]
  show (Builtin.Str.glued _ _).cps.toList = _
  rw [StrLaws.glued_eq_join]
  induction ks with
  | nil => rfl
  | cons x r ih =>
    cases r with
    | nil => simp [Str.join, cps]
    | cons y r =>
      show ((x ++ (⟨#[]⟩ : Str) ++ Str.join ⟨#[]⟩ (y :: r)) : Str).cps.toList = _
      rw [show (x ++ (⟨#[]⟩ : Str) : Str) = x from Str.append_right_empty rfl]
      show (x.cps ++ (Str.join ⟨#[]⟩ (y :: r)).cps).toList = _
      rw [Array.toList_append, ih]
      simp [cps]

section
variable {prog : Program} {w : World} {A : Around} {E : Value → Shared → Prop} {s0 : Shared} {H : Heap} {T : Nat} {mg mb : Str → Option Value} {env : Env}
/-- "sep".join(e) of a list of texts -/
theorem joinM {x : Str} {kd : Nat} {cp apos pos : Pos} {e : Expr} {Q : Value → Shared → Prop}
    (h : ∀ (_ : Tok) T', wpAny (model prog w) A (eval e env) (fun v s₁ => ∃ D H1 T1 ks, v = .ref D ∧ s₁ = St s0 H1 T1 ∧ SL H1 D ks ∧ JoinOk x ks = true ∧ ∀ t T', Q (.str (Txt.join x ks) t) (St s0 H1 T')) E (St s0 H T'))
    (hbase : attributeBase (.Constant (.str x) kd cp) "join" env (eval (.Constant (.str x) kd cp) env) = eval (.Constant (.str x) kd cp) env := by rfl) (hs : starEach [e] env = [(false, eval e env)] := by rfl) (hline : (apos.endLine == pos.line) = true := by rfl) :
    wpAny (model prog w) A (eval (.Call (.Attribute (.Constant (.str x) kd cp) "join" apos) [e] [] pos) env) Q E (St s0 H T) := by
  refine Call_method1 hbase hs hline (cstr fun t T' => ⟨"str", _, F.plainAttrs_str, F.slot_str_join, F.type_str_join, typeIs_str _ _ _, nofun, Calls.callWith_builtin rfl (Calls.evalArgs_plain (Calls.spliced_cons (wpAny_mono (h t T') (fun v s₁ q => ?_) fun _ _ e => e)))⟩)
  obtain ⟨D, H1, T1, ks, rfl, rfl, hl, hok, q⟩ := q
  obtain ⟨l, e, hl⟩ := hl.strs
  exact Calls.spliced_nil (SC.join hl e hok fun t k => q t k)
theorem strIt {x : Str} {t : Tok} {Q : Value → Shared → Prop} (hh : A.handled = none)
    (h : ∀ I H2 It, Keeps' H H2 → H.get? I = none → I < H2.objs.size → Walks prog w A I [I] [I] x.cps.size (SignAt x) It → It 0 H2 → Q (.ref I) (St s0 H2 T)) : wpAny (model prog w) A (pyIter (.str x t)) Q E (St s0 H T) :=
  wpAny_pyIter_str fun _ It wk i0 => h _ _ It (fun _ _ e => Heap.get?_push_of_some _ e) (none_of_le (Nat.le_refl _)) (Nat.lt_of_lt_of_eq (Nat.lt_succ_self _) (Heap.size_push ..).symm) (wk A hh) i0
theorem octets_call {f a : Addr} {ks : List Str} {Q : Value → Shared → Prop} (W : Wd mg mb H) (hf : mg (nameOf (stm 21)) = some (.ref f)) (hu : AOk A 1 3) (hl : SL H a ks) (hz : (cps ks).length ≤ 1000) (hj : JoinOk (Str.ofString "") ks = true) (hb : ∀ c ∈ cps ks, c < 256)
    (h : ∀ H' T' b t, Keeps' H H' → PySem.W.KBw.bInts b = (cps ks).map Int.ofNat → Q (.bytes b t) (St s0 H' T')) :
    wpAny (model prog w) A (call (.ref f) [.ref a] []) Q E (St s0 H T) := by
  obtain ⟨pm, cd, doc, hfn⟩ := W.at 21 hf
  refine callF 21 [("texts", .ref a)] (hu.le (d' := 0) (u' := 0)).dep W.lim hfn rfl (locs rfl) fun H1 L T1 hn k1 hL => ?_
  have hu1 : AOk (A.deeper (envP 21 L f cd)) 0 0 := hu.deeper _
  refine retX (callT (id := "bytes") (W.keeps k1) (by decide) (by decide +kernel) (it1 (compE (s0 := s0) [] rfl (joinM fun _ _ => ldv hn rfl ⟨a, _, _, ks, rfl, rfl, hl.at fun o => k1 _ o, hj, fun t T2 => strIt hu1.hh fun I H2 It k2 nI lI wk i0 => ?_⟩))))
  have hsz : (Txt.join (Str.ofString "") ks).cps.size = (cps ks).length := by rw [← join_cps, Array.length_toList]
  refine ⟨I, H2, T2, _, _, fun i vs Ha => IV vs ((cps ks).take i |>.map Int.ofNat) ∧ Keeps' H Ha, [I], It, rfl, rfl, wk, i0, ?_, ?_, ⟨.nil, kall k1 k2⟩, ?_, ?_⟩
  · intro y hy; cases List.mem_singleton.mp hy; exact lI
  · rw [sizeLine_eq, hsz]; omega
  · rintro i _ vs C D Ha Hb Tb m hi ⟨c, u, hc, rfl⟩ ⟨iv, kH⟩ nC nD k3 hnC hm _ _
    have kb : Keeps' H Hb := fun y o e => k3 y o (some_ne (k1 _ _ e) nI) (some_ne (k2 _ _ (k1 _ _ e)) nC) (some_ne (k2 _ _ (k1 _ _ e)) nD) (kH y o e)
    refine tests_nil ?_
    rw [if_pos rfl]
    refine callB (id := "ord") (W.keeps kb) (by decide) (by decide +kernel) (it1 (ldv hnC hm (ord_of_one rfl ⟨Hb, _, rfl, ⟨?_, kb⟩, fun y _ o e => e⟩)))
    have e : (cps ks)[i]? = some c := by rw [← join_cps, Array.getElem?_toList]; exact hc
    rw [List.take_add_one, e, List.map_append]
    exact iv.snoc
  · rintro C D vs Ha Hb Tb m ⟨iv, kH⟩ hvs nC nD hDC k3 _ lD
    rw [hsz, List.take_length] at iv
    have hr : ∀ n ∈ (cps ks).map Int.ofNat, 0 ≤ n ∧ n < 256 := fun n hn => by
      obtain ⟨c, hc, rfl⟩ := List.mem_map.mp hn
      have := hb c hc
      show 0 ≤ (c : Int) ∧ (c : Int) < 256
      omega
    refine RQ.of hDC k3 lD fun h' k3' l => call_bytes_ints l.isList iv.ints hr (by rw [iv.length, List.length_map, sizeLine_eq]; omega) hu1.hh fun h2 t k hk => h _ _ _ _ (fun y o e => hk y o (k3' y o (some_ne (k1 _ _ e) nI) (some_ne (k2 _ _ (k1 _ _ e)) nC) (some_ne (k2 _ _ (k1 _ _ e)) nD) (kH y o e))) (PySem.W.KBa.ints_make hr)
end
end Mine
end
section
set_option maxRecDepth 100000
set_option Elab.async false
namespace Mine
open PySem PySem.W PySem.Calls PyProof.Rows

/-- a code that holds no buffer -/
def holders : List String := ["bytearray.__contains__", "bytearray.__mod__", "bytearray.__rmod__", "_struct.pack_into.held", "bytearray.find.held"] ++ Builtin.Bytes.decodersThatHold
def clean : Code → Bool
  | .builtin id _ => !holders.contains id
  | _ => true
def Cl (Γ : Ctx) : Prop := clean Γ.code = true ∧ ∀ x ∈ Γ.below, clean x.1 = true
/-- wpAny, over clean stacks alone -/
def wpJ {α : Type} (M : Model) (A : Around) (t : Sem α) (Q : α → Shared → Prop) (E : Value → Shared → Prop) (s : Shared) : Prop :=
  ∀ Γ p, Γ.In A → Cl Γ → Sem.wp M Γ t (fun a _ s' => Q a s') (fun e _ s' => E e s') p s
def codeJ (M : Model) (A : Around) (c : Code) (R : Result → Shared → Prop) (s : Shared) : Prop :=
  ∀ Γ p, Γ.code = c → Γ.Below A → (∀ x ∈ Γ.below, clean x.1 = true) → wpCode M Γ R p s

section
variable {α β : Type} {M : Model} {A : Around} {E : Value → Shared → Prop} {s : Shared} {env : Env}
theorem wpJ.of {t : Sem α} {Q : α → Shared → Prop} (h : wpAny M A t Q E s) : wpJ M A t Q E s := fun Γ p hΓ _ => h Γ p hΓ
theorem wpJ.mono {t : Sem α} {Q Q' : α → Shared → Prop} (h : wpJ M A t Q E s) (hQ : ∀ a s, Q a s → Q' a s) : wpJ M A t Q' E s :=
  fun Γ p hΓ c => Sem.wp_mono M Γ t (fun a _ s => hQ a s) (fun _ _ _ e => e) p s (h Γ p hΓ c)
theorem wpJ.bind {m : Sem α} {f : α → Sem β} {Q : β → Shared → Prop} (h : wpJ M A m (fun a s' => wpJ M A (f a) Q E s') E s) : wpJ M A (m >>= f) Q E s := fun Γ p hΓ c => by
  rw [Sem.wp_bind']
  exact Sem.wp_mono M Γ m (fun a p' s' h' => h' Γ p' hΓ c) (fun _ _ _ h' => h') p s (h Γ p hΓ c)
theorem wpJ.step {m : Sem α} {f : α → Sem β} {Q : β → Shared → Prop} (h : wpAny M A m (fun a s' => wpJ M A (f a) Q E s') E s) : wpJ M A (m >>= f) Q E s := .bind (.of h)
theorem wpJ.pure {a : α} {Q : α → Shared → Prop} (h : Q a s) : wpJ M A (Pure.pure a) Q E s := .of (wpAny_pure h)
theorem wpJ.holding {vs : List Value} {m : Sem α} {Q : α → Shared → Prop} (h : wpJ M A m Q E s) : wpJ M A (PySem.holding vs m) Q E s := fun Γ p hΓ c => by rw [Sem.wp_holding]; exact h Γ p hΓ c
theorem wpJ.keep {vs : List Value} {m : Sem α} {Q : α → Shared → Prop} (h : wpJ M A m Q E s) : wpJ M A (m.keep vs) Q E s := fun Γ p hΓ c => by rw [Sem.wp_keep]; exact h Γ p hΓ c
theorem wpJ.onRaise {m : Sem α} {k : Value → Sem Unit} {Q : α → Shared → Prop} (h : wpJ M A m Q NoE s) : wpJ M A (m.onRaise k) Q E s := fun Γ p hΓ c => by
  rw [Sem.wp_onRaise]
  exact Sem.wp_mono M Γ m (fun _ _ _ h' => h') (fun _ _ _ h' => h'.elim) p s (h Γ p hΓ c)
theorem wpJ.noE {t : Sem α} {Q : α → Shared → Prop} (h : wpJ M A t Q NoE s) : wpJ M A t Q E s :=
  fun Γ p hΓ c => Sem.wp_mono M Γ t (fun _ _ _ q => q) (fun _ _ _ e => e.elim) p s (h Γ p hΓ c)
theorem callJ_of {f : Value} {pos : List Value} {kw : List (Str × Value)} {Q : Value → Shared → Prop}
    (hc : codeJ M A (.call f ⟨pos, kw⟩) (fun r s' => match r with | .ok (.ret v) => Q v s' | .ok _ => False | .error e => E e s') s) : wpJ M A (call f pos kw) Q E s := fun Γ p hΓ c => by
  show Sem.wp M Γ (runValue _) _ _ p s
  rw [Sem.wp_runValue]
  exact hc _ p rfl (hΓ.enter _ none p (by intro x; cases x)) fun x hx => (List.mem_cons.mp hx).elim (fun e => e ▸ c.1) (c.2 x)
theorem codeJ_of_tree {c : Code} {R : Result → Shared → Prop} (hcl : clean c = true)
    (h : wpJ M (A.under c) (M.den c) (fun fin s' => match fin with | .done f => R (.ok f) s' | .again c' => c'.quiet = true ∧ codeJ M A c' R s') (fun e s' => R (.error e) s') s) : codeJ M A c R s := fun Γ p hc hΓ hb => by
  rw [wpCode_iff_wp, hc]
  refine Sem.wp_mono M Γ _ (fun fin p' s' h' => ?_) (fun _ _ _ h' => h') p s (h Γ p (hc ▸ hΓ.in) ⟨hc ▸ hcl, hb⟩)
  cases fin with
  | done f => exact h'
  | again c' => exact ⟨h'.1, h'.2 (Γ.goto c') p' rfl (hΓ.goto c') hb⟩
theorem codeJ_mono {c : Code} {R R' : Result → Shared → Prop} (h : codeJ M A c R s) (hR : ∀ r s, R r s → R' r s) : codeJ M A c R' s := fun Γ p hc hΓ hb => wpCode_mono hR (h Γ p hc hΓ hb)
/-- statements, over clean stacks -/
def ThenJ (M : Model) (A : Around) (env : Env) (rest : List Stmt) (Q : Flow → Shared → Prop) (E : Value → Shared → Prop) (f : Flow) (s : Shared) : Prop := match f with
  | .next => wpJ M A (execs rest env) Q E s
  | f => Q f s
theorem stJ {st : Stmt} {rest : List Stmt} {Q : Flow → Shared → Prop} (h : wpJ M A (exec st env) (ThenJ M A env rest Q E) E s) : wpJ M A (execs (st :: rest) env) Q E s := fun Γ p hΓ c => by
  rw [execs_cons, Sem.wp_bind']
  refine Sem.wp_mono M Γ _ (fun f p' s' h' => ?_) (fun _ _ _ h' => h') _ _ (h Γ p hΓ c)
  cases f <;> first | exact h' Γ p' hΓ c | exact h'
/-- a statement proved over all stacks -/
theorem stK {st : Stmt} {rest : List Stmt} {Q : Flow → Shared → Prop} (h : wpAny M A (execs [st] env) (ThenJ M A env rest Q E) E s) : wpJ M A (execs (st :: rest) env) Q E s := by
  refine stJ fun Γ p hΓ _ => ?_
  have h1 := h Γ p hΓ
  rw [execs_cons, Sem.wp_bind'] at h1
  refine Sem.wp_mono M Γ _ (fun f p' s' h' => ?_) (fun _ _ _ h' => h') _ _ h1
  cases f <;> exact h'
theorem asgJ {x : Str} {pos' pos : Pos} {value : Expr} {rest : List Stmt} {Q : Flow → Shared → Prop}
    (h : wpJ M A (eval value env) (fun v s₁ => wpAny M A (storeName env x v) (fun _ s₂ => wpJ M A (execs rest env) Q E s₂) E s₁) E s)
    (hs : swapsWith value (some (.Name x pos')) pos.line env = pure false := by rfl) : wpJ M A (execs (.Assign [.Name x pos'] value pos :: rest) env) Q E s := by
  refine stJ fun Γ p hΓ c => ?_
  simp only [exec_Assign_Name env x pos' value pos hs, Sem.wp_bind', Sem.wp_cmd_standAt, Sem.wp_bindName, Sem.wp_pure']
  exact Sem.wp_mono M Γ _ (fun v _ s₁ h₁ => h₁ Γ _ hΓ) (fun _ _ _ h' => h') _ _ (h Γ _ hΓ c)
theorem ifJ {test : Expr} {body rest : List Stmt} {pos : Pos} {Q : Flow → Shared → Prop}
    (h : wpJ M A (isTrue test env (eval test env)) (fun b s₂ => b = false ∧ wpJ M A (execs rest env) Q E s₂) E s) : wpJ M A (execs (.If test body [] pos :: rest) env) Q E s := by
  refine stJ fun Γ p hΓ c => ?_
  simp only [exec_If, Sem.wp_bind', Sem.wp_cmd_standAt]
  refine Sem.wp_mono M Γ _ (fun b p₂ s₂ h₂ => ?_) (fun _ _ _ h' => h') _ _ (h Γ _ hΓ c)
  obtain ⟨rfl, h₂⟩ := h₂
  rw [if_neg Bool.false_ne_true]
  exact (wpAny_execs_nil (env := env) (Q := ThenJ M A env rest Q E) h₂) Γ p₂ hΓ
theorem cmpJ {l r : Expr} {op : CmpOp} {pos : Pos} {whole : Sem Value} {Q : Bool → Shared → Prop}
    (h : wpJ M A (eval l env) (fun a s₁ => wpAny M A (eval r env) (fun b s₂ => wpAny M A (compareOp op a b) (fun c s₃ => wpAny M A (truthy c) Q E s₃) E s₂) E s₁) E s)
    (hm : behindInMarks op r = false := by rfl) : wpJ M A (isTrue (.Compare l [op] [r] pos) env whole) Q E s := fun Γ p hΓ c => by
  simp only [isTrue_Compare1, markedBehindIn_of_false hm, Sem.wp_bind', Sem.wp_holding, Sem.wp_cmd_standAt, Sem.wp_operate]
  exact Sem.wp_mono M Γ _ (fun a p₁ s₁ h₁ => Sem.wp_mono M Γ _ (fun b _ s₂ h₂ => Sem.wp_mono M Γ _ (fun c p₃ s₃ h₃ => h₃ Γ p₃ hΓ)
    (fun _ _ _ h' => h') _ _ (h₂ Γ _ hΓ)) (fun _ _ _ h' => h') _ _ (h₁ Γ p₁ hΓ)) (fun _ _ _ h' => h') _ _ (h Γ p hΓ c)
end

section
variable {prog : Program} {w : World} {A : Around} {E : Value → Shared → Prop} {s0 : Shared} {H : Heap} {T : Nat} {mg mb : Str → Option Value} {env : Env} {s : Shared} {R : Result → Shared → Prop}
theorem codeJ_builtin {id : String} {args : Args} {b : Builtin} (hb : entryFor table id = some b) (hcl : clean (.builtin id args) = true)
    (h : wpJ (model prog w) (A.under (.builtin id args)) (b args) (fun fin s' => match fin with | .done f => R (.ok f) s' | .again c' => c'.quiet = true ∧ codeJ (model prog w) A c' R s') (fun e s' => R (.error e) s') s) :
    codeJ (model prog w) A (.builtin id args) R s := by
  refine codeJ_of_tree hcl ?_
  show wpJ _ _ (match entryFor table id with | some b => b args | none => unsupported ((withoutEnding? id "#data").getD id)) _ _ s
  rw [hb]; exact h
theorem codeJ_func {body : List Stmt} (h : wpJ (model prog w) (A.deeper env) (execs body env) (fun f s' => R (.ok (.ret (match f with | .ret v => v | _ => .none))) s') NoE s) :
    codeJ (model prog w) A (.func body env) R s := by
  refine codeJ_of_tree rfl ?_
  show wpJ _ (A.deeper env) (do point; match ← (execs body env).onRaise (leaving env) with | .ret v => ret v | _ => ret .none) _ _ s
  refine .step (wpAny_point (.bind (.onRaise (h.mono fun f s' h' => ?_))))
  cases f <;> exact .pure h'
/-- the call of a def, over clean stacks -/
theorem callJ (i : Nat) {f : Addr} {pm cd doc : Value} {vals : List Value} (binds : List (Str × Value)) {Q : Value → Shared → Prop} (hu : A.depth < recursionLimit) (hlim : H.NoLimit) (hf : FnAt H i f pm cd doc)
    (hbind : bindArgs (fdOf i pm cd doc) ⟨vals, []⟩ = pure binds)
    (hkind : ∀ x ∈ binds, (scopeOf (stm i)).names.lookup x.1 = some .local ∨ ((scopeOf (stm i)).names.lookup x.1 = some .cell ∧ ((cellsOf i H.objs.size).lookup x.1).isSome = true))
    (h : ∀ H1 L T1, FrC H1 L (cellsOf i L) (bindL (envC i L f cd).kindOf binds fun _ => none) (bindC (envC i L f cd).kindOf binds fun _ => none) → Keeps' H H1 → H.objs.size ≤ L →
      wpJ (model prog w) (A.deeper (envC i L f cd)) (execs (bodyOf (stm i)) (envC i L f cd)) (Ret Q) NoE (St s0 H1 T1))
    (hco : (scopeOf (stm i)).isCoroutine = false := by rfl) (hgen : (scopeOf (stm i)).isGenerator = false := by rfl) (hk : (scopeOf (stm i)).kind = .function := by rfl) :
    wpJ (model prog w) A (call (.ref f) vals []) Q E (St s0 H T) := by
  obtain ⟨⟨o, ho, hd⟩, hr⟩ := hf
  refine callJ_of (codeJ_of_tree rfl ?_)
  show wpJ _ A.in1 (callAny (.ref f) ⟨vals, []⟩) _ _ _
  simp only [callAny]
  refine .step (wpAny_load (s := St s0 H T) ho ?_)
  obtain ⟨c, oc, vs, tq, rfl, hoc, hdc, hq⟩ := hr
  rw [hd]
  show wpJ _ A.in1 (callFunction f (fdOf i pm (.ref c) doc) ⟨vals, []⟩) _ _ _
  unfold callFunction
  refine .step (m := field (.ref c) 1) (wpAny_field (s := St s0 H T) hoc hdc hq (.step (wpAny_pure ?_)))
  refine .step (m := bindArgs (fdOf i pm (.ref c) doc) ⟨vals, []⟩) (wpAny_of_eq hbind (.step (wpAny_newFunctionEnv_cells hk hkind fun env he s' x => .step (wpAny_enterFrame ?_ hu ?_))))
  · exact hlim.keeps x.toInCall.keep
  · subst he
    obtain ⟨h', tk, rfl⟩ := x.toInCall.same
    rw [show (fdOf i pm (.ref c) doc).scope = scopeOf (stm i) from rfl, hgen, hco]
    refine .pure ⟨rfl, codeJ_func ?_⟩
    refine (h h' H.objs.size tk ⟨x.toInCall.ns, x.cell, x.apart, x.above⟩ x.toInCall.keep (Nat.le_refl _)).mono fun fl s' q => ?_
    cases fl <;> exact q
end
end Mine
end
section
set_option maxRecDepth 100000
set_option Elab.async false
namespace Mine
open PySem PySem.W PySem.Calls PyProof.Rows

section
variable {prog : Program} {w : World} {A : Around} {E : Value → Shared → Prop} {s0 : Shared} {H : Heap} {T : Nat} {mg mb : Str → Option Value} {env : Env} {s : Shared} {R : Result → Shared → Prop}
theorem tailJ {M : Model} {t : Sem Value} {Q : Value → Shared → Prop} (h : wpJ M A t Q E s) : wpJ M A (t >>= fun r => PySem.holding [r] point >>= fun _ => Pure.pure r) Q E s :=
  .bind (h.mono fun _ _ hr => .step (wpAny_holding (wpAny_point (.pure hr))))
theorem callNJ {x : Str} {p pos : Pos} {e : Expr} {rest : List Expr} {f : Addr} {o : Obj} {fd : FuncData} {Q : Value → Shared → Prop} (hg : H.Ns mainGlobals mg) (hf : mg x = some (.ref f)) (ho : o.data = .func fd)
    (h : wpAny (model prog w) A (spliced (backTo pos (starEach (e :: rest) env))) (fun vs s₁ => s₁.heap.get? f = some o ∧ wpJ (model prog w) A (call (.ref f) vs []) Q E s₁) E (St s0 H T))
    (he : env.globals = mainGlobals := by rfl) (hk : env.scope.kind = .function := by rfl) (hl : env.kindOf x = some .globalImplicit := by rfl) (hd : (x == ("__debug__" : Str)) = false := by decide)
    (hs : starEach (e :: rest) env = (false, eval e env) :: starEach rest env := by rfl) (hplain : (backTo pos (starEach rest env)).any (·.1) = false := by rfl) :
    wpJ (model prog w) A (eval (.Call (.Name x p) (e :: rest) [] pos) env) Q E (St s0 H T) := by
  rw [arm_eval_Call_Name']
  refine .step (ldg hg hf ?_ he hk hl hd)
  rw [hs] at h ⊢
  unfold callWith
  refine .step (wpAny_holding (evalArgs_plain (wpAny_mono h (fun vs s₁ h₁ => .step (wpAny_standAt ?_)) fun _ _ e => e)))
  have hst : (((false, eval e env) :: backTo pos (starEach rest env)).any (·.1) || (backToKw pos (keywordEach [] env)).any (·.1.isNone)) = false := by rw [List.any_cons, hplain]; rfl
  rw [show backTo pos ((false, eval e env) :: starEach rest env) = (false, eval e env) :: backTo pos (starEach rest env) from rfl, hst]
  refine .step (m := keeperOf (.ref f)) ?_
  unfold keeperOf
  refine wpAny_bind (wpAny_load h₁.1 ?_)
  rw [ho]
  refine wpAny_pure ?_
  dsimp only
  split
  · exact tailJ h₁.2
  · exact tailJ (by unfold callMarked; exact h₁.2.keep)
theorem callTJ {x : Str} {id : String} {p pos : Pos} {e : Expr} {rest : List Expr} {Q : Value → Shared → Prop} (W : Wd mg mb H) (hf : x ∈ ["len", "range", "object", "isinstance", "str", "bytearray", "bytes", "list", "sorted", "ord", "chr"].map Str.ofString) (hv : bootBuiltins x = some (.type id))
    (h : wpAny (model prog w) A (spliced (backTo pos (starEach (e :: rest) env))) (fun vs s₁ => wpJ (model prog w) A (call (.type id) vs []) Q E s₁) E (St s0 H T))
    (he : env.globals = mainGlobals := by rfl) (hb : env.builtins = builtinsNs := by rfl) (hk : env.scope.kind = .function := by rfl) (hl : env.kindOf x = some .globalImplicit := by rfl) (hd : (x == ("__debug__" : Str)) = false := by decide) (hn : x ≠ "__name__" := by decide)
    (hs : starEach (e :: rest) env = (false, eval e env) :: starEach rest env := by rfl) (hplain : (backTo pos (starEach rest env)).any (·.1) = false := by rfl) :
    wpJ (model prog w) A (eval (.Call (.Name x p) (e :: rest) [] pos) env) Q E (St s0 H T) := by
  rw [arm_eval_Call_Name']
  refine .step (ldb W hf hv ?_ he hb hk hl hd hn)
  rw [hs] at h ⊢
  unfold callWith
  refine .step (wpAny_holding (evalArgs_plain (wpAny_mono h (fun vs s₁ h₁ => .step (wpAny_standAt ?_)) fun _ _ e => e)))
  have hst : (((false, eval e env) :: backTo pos (starEach rest env)).any (·.1) || (backToKw pos (keywordEach [] env)).any (·.1.isNone)) = false := by rw [List.any_cons, hplain]; rfl
  rw [show backTo pos ((false, eval e env) :: starEach rest env) = (false, eval e env) :: backTo pos (starEach rest env) from rfl, hst]
  exact .step (m := keeperOf (.type id)) (wpAny_pure (tailJ h₁))

namespace FBA
theorem mro : mroOf (.type "bytearray") = pure [.type "bytearray", .type "object"] := by rw [mroOf_type]; kernel_rfl
theorem lookup_new : typeLookup (.type "bytearray") "__new__" = pure (some (.builtin "bytearray.__new__")) := by rw [typeLookup_type, builtinLookup_eq_fast]; kernel_rfl
theorem slot_init : Slot "bytearray" "__init__" "bytearray.__init__" :=
  .of (owner := "bytearray") (n := "__init__") (by rw [typeLookup_type, builtinLookup_eq_fast]; kernel_rfl) (by decide +kernel) (by decide +kernel) (by decide +kernel)
    (by first | exact .inl (by decide +kernel) | exact .inr (by decide +kernel)) (by rw [isSubtype_type]; kernel_rfl)
theorem called : TypeCalled "bytearray" "bytearray.__new__" "bytearray.__init__" :=
  ⟨by decide +kernel, by decide +kernel, ⟨_, _, mro⟩, madeBy_type mro lookup_new (by decide +kernel), by decide +kernel, by rw [isSubtype_type]; kernel_rfl, slot_init⟩
theorem typeCall (a : Value) : checkTypeCall "bytearray" ⟨[a], []⟩ = pure () := by kernel_rfl
theorem newCall (a : Value) : checkBuiltinCall "bytearray.__new__" ⟨[.type "bytearray", a], []⟩ = pure () := by kernel_rfl
theorem entry_new : entryFor table "bytearray.__new__" = some Builtin.«list.__new__» := entryFor_alias (id' := "list.__new__") (by kernel_rfl) rfl (by decide +kernel) (by kernel_rfl)
theorem entry_init : entryFor table "bytearray.__init__" = some Builtin.«bytearray.__init__» := entryFor_of_tree (by kernel_rfl)
theorem args_init (a b : Value) : argsOk "bytearray.__init__" ⟨[a, b], []⟩ := by unfold argsOk; kernel_rfl
theorem plain_new : plainId "bytearray.__new__" = true := by decide +kernel
theorem sub_self : isSubtype (.type "bytearray") (.type "bytearray") = pure true := by rw [isSubtype_type]; kernel_rfl
theorem bind (v : Value) : Builtin.Bytes.bindOptional "bytearray.__init__" "bytearray" ["source", "encoding", "errors"] [v] [] = pure [some v, none, none] := by kernel_rfl
theorem look_release : typeLookup (.type "bytearray") "__release_buffer__" = pure (some (.builtin "bytearray.__release_buffer__")) := by rw [typeLookup_type, builtinLookup_eq_fast]; kernel_rfl
theorem look_buffer : typeLookup (.type "bytearray") "__buffer__" = pure (some (.builtin "bytearray.__buffer__")) := by rw [typeLookup_type, builtinLookup_eq_fast]; kernel_rfl
theorem no_bytes : typeLookup (.type "bytearray") "__bytes__" = pure none := by rw [typeLookup_type, builtinLookup_eq_fast]; kernel_rfl
theorem noIndex : typeLookup (.type "bytearray") "__index__" = pure none := by rw [typeLookup_type, builtinLookup_eq_fast]; kernel_rfl
theorem slot_set : Slot "bytearray" "__setitem__" "bytearray.__setitem__" :=
  .of (owner := "bytearray") (n := "__setitem__") (by rw [typeLookup_type, builtinLookup_eq_fast]; kernel_rfl) (by decide +kernel) (by decide +kernel) (by decide +kernel)
    (by first | exact .inl (by decide +kernel) | exact .inr (by decide +kernel)) (by rw [isSubtype_type]; kernel_rfl)
theorem entry_set : entryFor table "bytearray.__setitem__" = some Builtin.«bytearray.__setitem__» := entryFor_of_tree (by kernel_rfl)
theorem args_set (a b c : Value) : argsOk "bytearray.__setitem__" ⟨[a, b, c], []⟩ := by unfold argsOk; kernel_rfl
end FBA
end
end Mine
end
section
set_option maxRecDepth 100000
set_option Elab.async false
namespace Mine
open PySem PySem.W PySem.Calls PyProof.Rows

set_option maxRecDepth 1000000 in
set_option maxHeartbeats 4000000 in
theorem owner_new : ("bytearray.__new__".splitOn ".__new__").headD "" = "bytearray" := by simp +decide [String.splitOn, String.splitOnAux]

/-- the bytearray that stands at a -/
abbrev BA (h : Heap) (a : Addr) (b : Array UInt8) : Prop := h.get? a = some { cls := .type "bytearray", dict := none, data := .bytearray b 0, slots := #[] }
theorem BA.upd {h : Heap} {a : Addr} {b : Array UInt8} (x : BA h a b) (f : Array UInt8 → Array UInt8) : BA (h.update a (Obj.mapBytearray f)) a (f b) := Heap.get?_update_self (Obj.mapBytearray f) x rfl

section
variable {prog : Program} {w : World} {A : Around} {E : Value → Shared → Prop} {s0 : Shared} {H : Heap} {T : Nat} {mg mb : Str → Option Value} {env : Env} {s : Shared} {R : Result → Shared → Prop}
theorem own_of {M : Model} {v : Value} {name : String} {id : String} {Q : Bool → Shared → Prop} (hT : s.TypeIs v "bytearray") (hl : typeLookup (.type "bytearray") (Str.ofString name) = pure (some (.builtin id)))
    (h1 : (!id.endsWith ("." ++ name)) = false) (h2 : id.dropRight (name.length + 1) = "bytearray") (h : Q true s) : wpAny M A (Builtin.Bytes.slotIsOwn v name) Q E s := by
  unfold Builtin.Bytes.slotIsOwn
  refine wpAny_bind (wpAny_specialOf hT hl ?_)
  dsimp only
  rw [h1, h2]
  exact wpAny_isInstance hT FBA.sub_self h
theorem release_of {M : Model} {v : Value} {Q : Bool → Shared → Prop} (hT : s.TypeIs v "bytearray") (h : Q false s) : wpAny M A (Builtin.Bytes.ownRelease v) Q E s := by
  unfold Builtin.Bytes.ownRelease
  exact wpAny_bind (own_of hT FBA.look_release (by decide +kernel) (by decide +kernel) (wpAny_pure h))
theorem payload_of {M : Model} {a : Addr} {b : Array UInt8} {Q : Array UInt8 → Shared → Prop} (x : BA s.heap a b) (h : Q b s) : wpAny M A (Builtin.Bytes.payload (.ref a)) Q E s := by
  unfold Builtin.Bytes.payload Builtin.Bytes.payload?
  exact wpAny_bind (wpAny_bind (wpAny_load x (wpAny_pure (wpAny_pure h))))
theorem write_of {M : Model} {a : Addr} {b : Array UInt8} {f : Array UInt8 → Array UInt8} {Q : Unit → Shared → Prop} (x : BA H a b) (hz : (f b).size ≤ sizeLine) (h : ∀ h', BA h' a (f b) → Heap.SameBut a H h' → Q () (St s0 h' T)) :
    wpAny M A (Builtin.Bytes.write (.ref a) f) Q E (St s0 H T) := by
  show wpAny M A (updateBytearray a f) Q E (St s0 H T)
  unfold updateBytearray
  refine wpAny_bind (wpAny_load (s := St s0 H T) x ?_)
  show wpAny _ _ (update a (Obj.mapBytearray f) >>= fun _ => lookBehind a) _ _ _
  refine wpAny_bind (wpAny_update (s := St s0 H T) x ?_)
  refine wpAny_lookBehind (x.upd f) ?_ (h _ (x.upd f) (Heap.SameBut.update ..))
  show (if (f b).size > sizeLine then some "bytearray:memory" else none) = none
  rw [if_neg (Nat.not_lt.mpr hz)]
theorem exported_no {M : Model} {v : Value} {Q : Bool → Shared → Prop} (h : Q false s) : wpJ M A (Builtin.Bytes.exported v) Q E s := fun Γ p hΓ c => by
  show Q (((Γ.code, p) :: Γ.below).any _) s
  rw [List.any_eq_false.mpr ?_]
  · exact h
  · rintro ⟨c', q⟩ hm
    have hc : clean c' = true := by
      rcases List.mem_cons.mp hm with e | hm
      · cases e; exact c.1
      · exact c.2 _ hm
    have no : ∀ id args, c' = .builtin id args → holders.contains id = false := fun id args e => by rw [e] at hc; simpa [clean] using hc
    split <;> rename_i he
    · cases he; exact absurd (no _ _ rfl) (by decide +kernel)
    · cases he; exact absurd (no _ _ rfl) (by decide +kernel)
    · cases he; exact absurd (no _ _ rfl) (by decide +kernel)
    · cases he; exact absurd (no _ _ rfl) (by decide +kernel)
    · cases he; exact absurd (no _ _ rfl) (by decide +kernel)
    · cases he
      have := no _ _ rfl
      unfold holders at this
      rw [List.contains_append, Bool.or_eq_false_iff] at this
      rw [this.2, Bool.and_false]; exact Bool.false_ne_true
    · exact Bool.false_ne_true
theorem code_new {a : Value} {R : Result → Shared → Prop} (h : ∀ r H', H.get? r = none → Keeps' H H' → BA H' r #[] → R (.ok (.ret (.ref r))) (St s0 H' T)) :
    codeAny (model prog w) A (.call (.builtin "bytearray.__new__") ⟨[.type "bytearray", a], []⟩) R (St s0 H T) := by
  refine codeAny_of_tree ?_
  show wpAny _ A.in1 (do checkBuiltinCall "bytearray.__new__" ⟨[.type "bytearray", a], []⟩; again (.builtin "bytearray.__new__" ⟨[.type "bytearray", a], []⟩)) _ _ _
  refine wpAny_bind (wpAny_of_eq (FBA.newCall a) (wpAny_pure ⟨plainId_quiet FBA.plain_new _, codeAny_builtin_stack FBA.entry_new rfl fun p st => ?_⟩))
  rw [Around.under_plainId FBA.plain_new _]
  have hown := owner_new
  simp only [hown]
  have hsub := FBA.sub_self
  have h' := h _ _ (none_of_le (Nat.le_refl _)) (fun _ _ e => Heap.get?_push_of_some _ e) (Heap.get?_push_size _ rfl)
  obtain ⟨hp, g, d, tk, os⟩ := s0
  unfold St at h' ⊢
  wp_walk
  exact h'
end
end Mine
end
section
set_option maxRecDepth 100000
set_option Elab.async false
namespace Mine
open PySem PySem.W PySem.Calls PyProof.Rows

section
variable {prog : Program} {w : World} {A : Around} {E : Value → Shared → Prop} {s0 : Shared} {H : Heap} {T : Nat} {mg mb : Str → Option Value} {env : Env} {s : Shared} {R : Result → Shared → Prop}
theorem iteJ {α : Type} {M : Model} {c : Bool} {a b : Sem α} {Q : α → Shared → Prop} (hc : c = false) (h : wpJ M A b Q E s) : wpJ M A (if c = true then a else b) Q E s := by subst hc; exact h
theorem stepV {α β : Type} {M : Model} {m : Sem α} {f : α → Sem β} {a : α} {Q : β → Shared → Prop} (h1 : ∀ (Q : α → Shared → Prop) E, Q a s → wpAny M A m Q E s) (h : wpJ M A (f a) Q E s) : wpJ M A (m >>= f) Q E s := .step (h1 _ _ h)
theorem asStr_int (n : Int) (t : Tok) : asStr? (.int n t) = pure none := rfl
theorem iteT {α : Type} {M : Model} {c : Bool} {a b : Sem α} {Q : α → Shared → Prop} (hc : c = true) (h : wpJ M A a Q E s) : wpJ M A (if c = true then a else b) Q E s := by subst hc; exact h
theorem iteP {α : Type} {M : Model} {c : Prop} [Decidable c] {a b : Sem α} {Q : α → Shared → Prop} (hc : ¬ c) (h : wpJ M A b Q E s) : wpJ M A (if c then a else b) Q E s := by rw [if_neg hc]; exact h
theorem iteQ {α : Type} {M : Model} {c : Prop} [Decidable c] {a b : Sem α} {Q : α → Shared → Prop} (hc : c) (h : wpJ M A a Q E s) : wpJ M A (if c then a else b) Q E s := by rw [if_pos hc]; exact h
theorem initBA {r : Addr} {n : Nat} {t : Tok} {R : Result → Shared → Prop} (hn : n < 2 ^ 20) (b0 : BA H r #[]) (h : ∀ H' T', Heap.ExtBut r H H' → BA H' r (Array.replicate n 0) → R (.ok (.ret .none)) (St s0 H' T')) :
    codeJ (model prog w) A (.call (.builtin "bytearray.__init__") ⟨[.ref r, .int n t], []⟩) R (St s0 H T) := by
  have hT : ∀ {H' b T'}, BA H' r b → (St s0 H' T').TypeIs (.ref r) "bytearray" := fun x => ⟨_, x, rfl⟩
  refine codeJ_of_tree rfl ?_
  show wpJ _ A.in1 (do checkBuiltinCall "bytearray.__init__" ⟨[.ref r, .int n t], []⟩; again (.builtin "bytearray.__init__" ⟨[.ref r, .int n t], []⟩)) _ _ _
  refine .step (FBA.slot_init.check _ _ _ _ _ _ _ _ (hT b0) (FBA.args_init _ _) (.pure ⟨plainId_quiet FBA.slot_init.plain _, codeJ_builtin FBA.entry_init (show (!holders.contains "bytearray.__init__") = true by decide +kernel) ?_⟩))
  rw [Around.under_plainId FBA.slot_init.plain _]
  unfold Builtin.«bytearray.__init__»
  refine .step (release_of (hT b0) ?_)
  refine iteJ rfl ?_
  refine .step (wpAny_of_eq (FBA.bind _) ?_)
  refine .step (wpAny_of_eq (a := ()) rfl ?_)
  refine .step (wpAny_of_eq (a := ()) rfl ?_)
  refine .bind (.bind (exported_no ?_))
  show wpJ _ _ (Builtin.Bytes.exportsOf (.ref r) >>= _) _ _ _
  unfold Builtin.Bytes.exportsOf
  refine .step (wpAny_bind (wpAny_load b0 (wpAny_pure (.pure ?_))))
  refine iteJ rfl ?_
  refine .of ?_
  refine wpAny_bind (write_of b0 (Nat.zero_le _) fun H1 b1 x1 => ?_)
  show wpAny _ _ (asStr? (.int n t) >>= _) _ _ (St s0 H1 T)
  have e1 : Builtin.Bytes.fitsIndex (n : Int) = true := fitsIndex_of (Int.natCast_nonneg n) (by omega)
  have e2 : specialOf (Value.int (n : Int) t) (Str.ofString "__index__") = pure (some (.builtin "int.__index__")) := int_index
  have e3 : (asIndex (Value.int (n : Int) t)).attempt = pure (.ok (n : Int)) := rfl
  have e4 : ¬ (n : Int) < 0 := by omega
  have e5 : ((n : Int) == 2 ^ 63 - 1) = false := by rw [beq_eq_false_iff_ne]; omega
  have e6 : Builtin.Bytes.tooLong (n : Int).toNat = false := PySem.W.KBy.tooLong_not (by rw [Int.toNat_natCast]; omega)
  simp only [asStr_int, Option.isSome_none, Option.isSome_some, Bool.false_eq_true, if_false, if_true, pure_bind, e1, e2, e3, e4, e5, e6, Bool.not_true]
  refine wpAny_bind (wpAny_rule ?_)
  by_cases h0 : n = 0
  · subst h0
    rw [if_neg (by decide)]
    exact wpAny_pure (h _ _ x1.extBut b1)
  · rw [if_pos (by omega)]
    refine wpAny_bind (write_of b1 (by rw [Array.size_replicate, sizeLine_eq, Int.toNat_natCast]; omega) fun H2 b2 x2 => ?_)
    rw [Int.toNat_natCast] at b2
    exact wpAny_pure (h _ _ (fun c o hc e => x2.extBut c o hc (x1.extBut c o hc e)) b2)
theorem callBA {n : Nat} {t : Tok} {Q : Value → Shared → Prop} (hn : n < 2 ^ 20) (h : ∀ r H' T', H.get? r = none → Keeps' H H' → BA H' r (Array.replicate n 0) → Q (.ref r) (St s0 H' T')) :
    wpJ (model prog w) A (call (.type "bytearray") [.int n t]) Q E (St s0 H T) := by
  refine callJ_of (codeJ_of_tree rfl ?_)
  show wpJ _ A.in1 (callAny (.type "bytearray") _) _ _ _
  refine .pure ⟨Code.quiet_builtin _ (by decide +kernel), codeJ_builtin F.entry_type_call (show (!holders.contains "type.__call__") = true by decide +kernel) ?_⟩
  rw [Around.under_plain (weight_type_call_type "bytearray" [.int n t] []) rfl]
  unfold Builtin.«type.__call__»
  refine iteJ FBA.called.notType ?_
  refine iteJ FBA.called.canCreate ?_
  refine .step (wpAny_of_eq (FBA.typeCall _) ?_)
  refine .step (wpAny_of_eq FBA.mro ?_)
  refine iteJ rfl ?_
  refine .step (wpAny_of_eq FBA.called.made ?_)
  refine .step (wpAny_pure ?_)
  refine .step (wpAny_holding (wpAny_call (code_new fun r H1 nr k1 b1 => ?_)))
  have hT : (St s0 H1 T).TypeIs (.ref r) "bytearray" := ⟨_, b1, rfl⟩
  refine .step (wpAny_isInstance hT FBA.sub_self ?_)
  refine iteJ rfl ?_
  refine .bind (.holding ?_)
  simp only [callSpecial?]
  refine .step (wpAny_specialOf hT FBA.slot_init.lookup ?_)
  simp only [FBA.slot_init.bind]
  refine .holding (.step (wpAny_pure (.bind (callJ_of (initBA hn b1 fun H2 T2 x2 b2 => .pure ?_)))))
  exact .pure (h r H2 T2 nr (fun c o e => x2 c o (some_ne e nr) (k1 c o e)) b2)
end
end Mine
end
section
set_option maxRecDepth 100000
set_option Elab.async false
namespace Mine
open PySem PySem.W PySem.Calls PyProof.Rows

section
variable {prog : Program} {w : World} {A : Around} {E : Value → Shared → Prop} {s0 : Shared} {H : Heap} {T : Nat} {mg mb : Str → Option Value} {env : Env} {s : Shared} {R : Result → Shared → Prop}
theorem subscript_int {i : Int} {t : Tok} (h : Builtin.Bytes.fitsIndex i = true) : Builtin.Bytes.subscript? (.int i t) = pure (some i) := by
  have e2 : specialOf (Value.int i t) (Str.ofString "__index__") = pure (some (.builtin "int.__index__")) := int_index
  have e3 : asIndex (Value.int i t) = pure i := rfl
  unfold Builtin.Bytes.subscript?
  simp only [e2, e3, h, pure_bind, Option.isNone_some, Bool.false_eq_true, if_false, Bool.not_true]
theorem byteValue_int {c : Int} {t : Tok} (h0 : 0 ≤ c) (h1 : c < 256) : Builtin.Bytes.byteValue (.int c t) = pure c.toNat.toUInt8 := by
  have e3 : asIndex (Value.int c t) = pure c := rfl
  have e4 : (decide (c < 0) || decide (c ≥ 256)) = false := by rw [decide_eq_false (by omega), decide_eq_false (by omega)]; rfl
  unfold Builtin.Bytes.byteValue
  simp only [e3, e4, pure_bind, Bool.false_eq_true, if_false]
theorem setBA {r : Addr} {b : Array UInt8} {k c : Int} {q : Nat} {t u : Tok} {Q : Unit → Shared → Prop} (hb : BA H r b) (hk : k = (q : Int)) (hq : q < b.size) (hz : b.size ≤ 1000) (h0 : 0 ≤ c) (h1 : c < 256)
    (h : ∀ h', BA h' r (b.setIfInBounds q c.toNat.toUInt8) → Heap.SameBut r H h' → Q () (St s0 h' T)) : wpAny (model prog w) A (setItem (.ref r) (.int k t) (.int c u)) Q E (St s0 H T) := by
  subst hk
  have hT : (St s0 H T).TypeIs (.ref r) "bytearray" := ⟨_, hb, rfl⟩
  unfold setItem
  try with_reducible refine wpAny_holding ?_
  refine wpAny_bind (wpAny_sequenceKey hT (by decide) ?_)
  refine wpAny_bind (wpAny_callSpecial?_slot (name := Str.ofString "__setitem__") hT FBA.slot_set (wpAny_call_entry FBA.slot_set hT FBA.entry_set ?_ (FBA.args_set _ _ _)))
  show wpAny _ _ (Builtin.Bytes.subscript? (.int q t) >>= _) _ _ _
  rw [subscript_int (fitsIndex_of (Int.natCast_nonneg q) (by omega)), pure_bind]
  show wpAny _ _ (Builtin.Bytes.byteValue (.int c u) >>= _) _ _ _
  rw [byteValue_int h0 h1, pure_bind]
  refine wpAny_bind (payload_of (s := St s0 H T) hb ?_)
  have e : seqIndex? (q : Int) b.size = some q := by simpa using seqIndex_of (Int.natCast_nonneg q) (Int.ofNat_lt.mpr hq)
  rw [e]
  refine wpAny_bind (write_of hb (by rw [Array.size_setIfInBounds, sizeLine_eq]; omega) fun h' b' s' => ?_)
  exact wpAny_pure ⟨.none, rfl, wpAny_pure (h h' b' s')⟩
theorem new_of_ba {r : Addr} {b : Array UInt8} {Q : Value → Shared → Prop} (hb : BA H r b) (hz : b.size ≤ sizeLine) (h : ∀ t T', Q (.bytes b t) (St s0 H T')) :
    codeAny (model prog w) A (.call (.builtin "bytes.__new__") ⟨[.type "bytes", .ref r], []⟩) (wants Q E) (St s0 H T) := by
  refine codeAny_of_tree ?_
  show wpAny _ A.in1 (do checkBuiltinCall "bytes.__new__" ⟨[.type "bytes", .ref r], []⟩; again (.builtin "bytes.__new__" ⟨[.type "bytes", .ref r], []⟩)) _ _ _
  refine wpAny_bind (wpAny_of_eq (F.bm_newCall _) (wpAny_pure ⟨plainId_quiet F.bm_plain _, codeAny_builtin F.bm_entry ?_⟩))
  rw [Around.under_plainId F.bm_plain _]
  have hT : (St s0 H T).TypeIs (.ref r) "bytearray" := ⟨_, hb, rfl⟩
  unfold Builtin.«bytes.__new__»
  refine wpAny_bind (wpAny_of_eq (a := true) rfl ?_)
  refine bm_if_false rfl ?_
  refine wpAny_bind (wpAny_of_eq F.bm_sub ?_)
  refine bm_if_false rfl ?_
  refine wpAny_bind (wpAny_of_eq (F.bm_bind _) ?_)
  refine wpAny_bind (wpAny_of_eq (a := ()) rfl ?_)
  refine wpAny_bind (wpAny_of_eq (a := ()) rfl ?_)
  refine bm_if_false rfl ?_
  refine wpAny_bind (wpAny_specialOf hT FBA.no_bytes ?_)
  refine wpAny_bind (wpAny_bind ?_)
  show wpAny _ _ (load r >>= _) _ _ _
  refine wpAny_bind (wpAny_load (s := St s0 H T) hb (wpAny_pure (wpAny_pure ?_)))
  refine bm_if_false rfl ?_
  refine wpAny_bind (wpAny_specialOf hT FBA.noIndex ?_)
  refine bm_if_true rfl ?_
  first
    | show wpAny _ _ (Builtin.Bytes.buffer? "bytes.__new__" (.ref r) true >>= _) _ _ _
    | (refine wpAny_bind ?_; show wpAny _ _ (Builtin.Bytes.buffer? "bytes.__new__" (.ref r) true >>= _) _ _ _)
  refine wpAny_bind ?_
  unfold Builtin.Bytes.buffer?
  refine wpAny_bind (wpAny_specialOf hT FBA.look_buffer ?_)
  show wpAny _ _ (Builtin.Bytes.slotIsOwn (.ref r) "__buffer__" >>= _) _ _ _
  refine wpAny_bind (own_of hT FBA.look_buffer (by decide +kernel) (by decide +kernel) ?_)
  refine bm_if_false rfl ?_
  refine wpAny_bind (wpAny_specialOf hT FBA.look_buffer ?_)
  show wpAny _ _ (Builtin.Bytes.ownRelease (.ref r) >>= _) _ _ _
  refine wpAny_bind (release_of hT ?_)
  refine bm_if_false rfl ?_
  refine wpAny_bind (payload_of (s := St s0 H T) hb (wpAny_pure ?_))
  refine wpAny_bind (wpAny_rule ?_)
  refine wpAny_bind (wpAny_mkBytes ?_ hz)
  show wpAny _ _ (if (Value.type "bytes" == Value.type "bytes") = true then _ else _) _ _ _
  refine bm_if_true (by decide) ?_
  first
    | exact wpAny_pure (h _ _)
    | exact wpAny_bind (wpAny_pure (wpAny_pure (h _ _)))
theorem call_bytes_ba {r : Addr} {b : Array UInt8} {Q : Value → Shared → Prop} (hb : BA H r b) (hz : b.size ≤ sizeLine) (h : ∀ t T', Q (.bytes b t) (St s0 H T')) : wpAny (model prog w) A (call (.type "bytes") [.ref r]) Q E (St s0 H T) := by
  refine callType_codes (Q₁ := fun obj s₁ => s₁.TypeIs obj "bytes" ∧ Q obj s₁) F.bm_called (F.bm_typeCall _) F.entry_object_init
    (new_of_ba hb hz fun t T' => ⟨PySem.W.typeIs_bytes _ _ _, h t T'⟩) fun obj s₁ h₁ => ?_
  exact ⟨h₁.1, F.args_object_init_2 obj _, object_init_meets F.bm_called.init.lookup F.bm_called.made (by decide) prog w A.in1 _ s₁ ⟨h₁.1, rfl, h₁.2⟩⟩
end
end Mine
end
section
set_option maxRecDepth 100000
set_option Elab.async false
namespace Mine
open PySem PySem.W PySem.Calls PyProof.Rows

/-- the state of _byteswap's work: i blocks done, j places of the next -/
def Sw (W : Nat) (ks : List Int) (i j : Nat) (l : List Int) : Prop :=
  l.length = ks.length ∧ ∀ p, p < ks.length → l.getD p 0 = if p / W < i ∨ (p / W = i ∧ W - 1 - p % W < j) then ks.getD (p / W * W + (W - 1 - p % W)) 0 else 0
theorem ite_iff {p q : Prop} [Decidable p] [Decidable q] {a b : Int} (h : p ↔ q) : (if p then a else b) = if q then a else b := by
  by_cases hp : p
  · rw [if_pos hp, if_pos (h.mp hp)]
  · rw [if_neg hp, if_neg fun hq => hp (h.mpr hq)]
theorem sw_step {W i j : Nat} {ks l : List Int} (hW : W = 2 ∨ W = 3) (hj : j < W) (h : Sw W ks i j l) : Sw W ks i (j + 1) (l.set (i * W + W - 1 - j) (ks.getD (i * W + j) 0)) := by
  refine ⟨by rw [List.length_set]; exact h.1, fun p hp => ?_⟩
  have h0 : 0 < W := Nat.lt_of_le_of_lt (Nat.zero_le j) hj
  have hr := Nat.mod_lt p h0
  have hq := Nat.div_add_mod' p W
  have ei : i * W + W - 1 - j = i * W + (W - 1 - j) := by clear hp hr hq h hW; omega
  rw [List.getD_eq_getElem?_getD, List.getElem?_set, ei]
  clear ei hW
  by_cases e : i * W + (W - 1 - j) = p
  · have hlt : W - 1 - j < W := by clear e hr hq hp h; omega
    have d1 : p / W = i := by rw [← e, Nat.mul_comm, Nat.mul_add_div h0, Nat.div_eq_of_lt hlt]; rfl
    have d2 : p % W = W - 1 - j := by rw [← e, Nat.mul_comm, Nat.mul_add_mod, Nat.mod_eq_of_lt hlt]
    have d3 : W - 1 - (W - 1 - j) = j := by clear e hr hq hp h d1 d2; omega
    rw [if_pos e, if_pos (by rw [e, h.1]; exact hp), d1, d2, d3, if_pos (.inr ⟨rfl, Nat.lt_succ_self j⟩)]
    rfl
  · rw [if_neg e, ← List.getD_eq_getElem?_getD, h.2 p hp]
    have ne : p / W = i → W - 1 - p % W ≠ j := fun a b => e (by rw [← hq, a, ← b, Nat.sub_sub_self (Nat.le_sub_one_of_lt hr)])
    refine ite_iff ⟨fun c => c.imp_right fun c => ⟨c.1, Nat.lt_succ_of_lt c.2⟩, fun c => c.imp_right fun c => ⟨c.1, Nat.lt_of_le_of_ne (Nat.le_of_lt_succ c.2) (ne c.1)⟩⟩
theorem sw_next {W i : Nat} {ks l : List Int} (hW : W = 2 ∨ W = 3) (h : Sw W ks i W l) : Sw W ks (i + 1) 0 l := by
  refine ⟨h.1, fun p hp => ?_⟩
  rw [h.2 p hp]
  have h0 : W - 1 - p % W < W := by rcases hW with rfl | rfl <;> exact Nat.lt_of_le_of_lt (Nat.sub_le _ _) (by decide)
  exact ite_iff ⟨fun c => .inl (c.elim Nat.lt_succ_of_lt fun c => c.1 ▸ Nat.lt_succ_self _), fun c => c.elim (fun c => (Nat.lt_or_eq_of_le (Nat.le_of_lt_succ c)).imp_right fun e => ⟨e, h0⟩) fun c => absurd c.2 (Nat.not_lt_zero _)⟩
def Swapped (W : Nat) (ks l : List Int) : Prop := l.length = ks.length ∧ ∀ p, p < ks.length → l.getD p 0 = ks.getD (p / W * W + (W - 1 - p % W)) 0
theorem sw_end {W n : Nat} {ks l : List Int} (hW : W = 2 ∨ W = 3) (hn : ks.length = n * W) (h : Sw W ks n 0 l) : Swapped W ks l := by
  refine ⟨h.1, fun p hp => ?_⟩
  have q : p / W < n := by rcases hW with rfl | rfl <;> omega
  rw [h.2 p hp, if_pos (.inl q)]
theorem sw_start {W : Nat} {ks : List Int} : Sw W ks 0 0 (List.replicate ks.length 0) := by
  refine ⟨List.length_replicate, fun p hp => ?_⟩
  rw [if_neg (fun h => h.elim (Nat.not_lt_zero _) fun q => Nat.not_lt_zero _ q.2)]
  simp [List.getD, hp]
theorem bInts_set {b : Array UInt8} {q : Nat} {c : Int} (h0 : 0 ≤ c) (h1 : c < 256) : KBw.bInts (b.setIfInBounds q c.toNat.toUInt8) = (KBw.bInts b).set q c := by
  unfold KBw.bInts
  rw [Array.toList_setIfInBounds, List.map_set]
  rw [byte_back h0 h1]
theorem bInts_zero (n : Nat) : KBw.bInts (Array.replicate n 0) = List.replicate n 0 := by
  unfold KBw.bInts
  simp

section
variable {prog : Program} {w : World} {A : Around} {E : Value → Shared → Prop} {s0 : Shared} {H : Heap} {T : Nat} {mg mb : Str → Option Value} {env : Env} {s : Shared} {R : Result → Shared → Prop}
theorem rangeIt3 {e1 e2 e3 : Expr} {p pos : Pos} {a b c : Int} {n : Nat} {Q : Value → Shared → Prop} (W : Wd mg mb H) (hh : A.handled = none) (hc : c ≠ 0) (hn : Builtin.Range.rangeSize a b c = n) (hsm : Builtin.Range.small a b c = true) (hp : Builtin.divisionGoesByPylong (b - a) c = false)
    (he : ∀ {Q' : List Value → Shared → Prop}, (∀ t u v T', Q' [.int a t, .int b u, .int c v] (St s0 H T')) → wpAny (model prog w) A (spliced (backTo pos (starEach [e1, e2, e3] env))) Q' E (St s0 H T))
    (h : ∀ I H2 T2 It, Keeps' H H2 → H.get? I = none → I < H2.objs.size → (∀ i h, It i h → ∃ o, h.get? I = some o ∧ ∀ items n, o.data ≠ .seq items n) → Walks prog w A I [I] [I] n (fun i v => ∃ t, v = .int (a + (i : Nat) * c) t) It → It 0 H2 → Q (.ref I) (St s0 H2 T2))
    (h1 : env.globals = mainGlobals := by rfl) (h2 : env.builtins = builtinsNs := by rfl) (h3 : env.scope.kind = .function := by rfl) (h4 : env.kindOf "range" = some .globalImplicit := by rfl)
    (h5 : starEach [e1, e2, e3] env = (false, eval e1 env) :: starEach [e2, e3] env := by rfl) (h6 : (backTo pos (starEach [e2, e3] env)).any (·.1) = false := by rfl) :
    wpAny (model prog w) A (eval (.Call (.Name "range" p) [e1, e2, e3] [] pos) env) (fun xv s₁ => wpAny (model prog w) A (pyIter xv) Q E s₁) E (St s0 H T) := by
  refine callT (id := "range") W (by decide) (by decide +kernel) (he fun t u v T' => ?_) h1 h2 h3 h4 (by decide) (by decide) h5 h6
  refine call_range_3 hc ?_ (.inl hp)
  refine wpAny_pyIter_range (IsRange.new ..) hsm ?_
  refine h _ _ _ (fun i h => IsRangeIter h _ (a + (i : Nat) * c) ((n : Int) - (i : Nat)) c) (fun b o e => Heap.get?_push_of_some _ (Heap.get?_push_of_some _ e)) (none_of_le ?_) ?_ (fun i h e => ⟨_, e, nofun⟩) (Walks.range hh _ a c n) ?_
  · show H.objs.size ≤ (Heap.push H _).objs.size
    rw [Heap.size_push]; exact Nat.le_succ _
  · exact Nat.lt_of_lt_of_eq (Nat.lt_succ_self _) (Heap.size_push ..).symm
  · show IsRangeIter _ _ (a + ((0 : Nat) : Int) * c) ((n : Int) - ((0 : Nat) : Int)) c
    rw [show a + ((0 : Nat) : Int) * c = a by simp, show (n : Int) - ((0 : Nat) : Int) = Builtin.Range.rangeSize a b c by rw [hn]; simp]
    exact Heap.get?_push_size _ rfl
end
end Mine
end
section
set_option maxRecDepth 100000
set_option Elab.async false
namespace Mine
open PySem PySem.W PySem.Calls PyProof.Rows

theorem fitsL {x : Int} (h : x.natAbs < 2 ^ 20) : Builtin.Range.rangeFitsLong x = true := by
  unfold Builtin.Range.rangeFitsLong
  rw [Bool.and_eq_true, decide_eq_true_eq, decide_eq_true_eq]
  omega
theorem small_of {a b c : Int} {n : Nat} (hs : Builtin.Range.rangeSize a b c = n) (ha : a.natAbs < 2 ^ 20) (hb : b.natAbs < 2 ^ 10) (hc : c.natAbs < 2 ^ 10) (hn : n < 2 ^ 20) : Builtin.Range.small a b c = true := by
  unfold Builtin.Range.small
  rw [fitsL ha, fitsL (x := b) (by omega), fitsL (x := c) (by omega), hs, fitsL (x := (n : Int)) (by omega), fitsL (x := b + (c - 1)) (by omega), fitsL (x := b + (c + 1)) (by omega)]
  simp
theorem FrC.ne_ba {h : Heap} {L : Addr} {cs m cm} {c r : Addr} {b : Array UInt8} (F : FrC h L cs m cm) (w : FrC.own L cs c) (x : BA h r b) : c ≠ r := by
  rintro rfl
  rcases w with rfl | ⟨n, hn⟩
  · obtain ⟨o, _, _, ho, hd, _⟩ := F.ns
    cases Option.some.inj (ho.symm.trans x); cases hd
  · obtain ⟨o, ho, hd⟩ := F.cell n c hn
    cases Option.some.inj (ho.symm.trans x); cases hd
/-- _byteswap's frame -/
structure BsI (H : Heap) (L r : Addr) (b : Array UInt8) (t u : Tok) (W i j : Nat) (Ha : Heap) (m cm : Str → Option Value) (arr : Array UInt8) : Prop where
  F : FrC Ha L (cellsOf 16 L) m cm
  d : m "data" = some (.bytes b t)
  wd : m "width" = some (.int (W : Nat) u)
  sd : m "swapped_data" = some (.ref r)
  ba : BA Ha r arr
  sw : Sw W (KBw.bInts b) i j (KBw.bInts arr)
  kp : Keeps' H Ha
theorem BsI.at {H : Heap} {L r : Addr} {b : Array UInt8} {t u : Tok} {W i j : Nat} {Ha Hb : Heap} {m cm arr} (x : BsI H L r b t u W i j Ha m cm arr) {I : Addr} (k : KpI I Ha Hb) (nI : H.get? I = none) (hr : r ≠ I) (hF : ∀ c, FrC.own L (cellsOf 16 L) c → c ≠ I) : BsI H L r b t u W i j Hb m cm arr :=
  ⟨x.F.keep fun c o w e => k c o (hF c w) e, x.d, x.wd, x.sd, k r _ hr x.ba, x.sw, kbut x.kp k nI⟩
theorem BsI.st {H : Heap} {L r : Addr} {b : Array UInt8} {t u : Tok} {W i j : Nat} {Ha Hb : Heap} {m m' cm arr} (x : BsI H L r b t u W i j Ha m cm arr) (F : FrC Hb L (cellsOf 16 L) m' cm) (s : Heap.SameBut L Ha Hb) (nL : H.get? L = none) (hr : r ≠ L)
    (e1 : m' "data" = m "data") (e2 : m' "width" = m "width") (e3 : m' "swapped_data" = m "swapped_data") : BsI H L r b t u W i j Hb m' cm arr :=
  ⟨F, e1.trans x.d, e2.trans x.wd, e3.trans x.sd, s.extBut r _ hr x.ba, x.sw, kbut x.kp s.extBut nL⟩

section
variable {prog : Program} {w : World} {A : Around} {E : Value → Shared → Prop} {s0 : Shared} {H : Heap} {T : Nat} {mg mb : Str → Option Value} {env : Env} {s : Shared} {R : Result → Shared → Prop}
theorem byteswap_call {f : Addr} {b : Array UInt8} {W n : Nat} {t u : Tok} {Q : Value → Shared → Prop} (Wk : Wd mg mb H) (hf : mg (nameOf (stm 16)) = some (.ref f)) (hu : AOk A 1 3) (hW : W = 2 ∨ W = 3) (hn : (KBw.bInts b).length = n * W) (hz : n < 100)
    (h : ∀ H' T' b' t', Keeps' H H' → Swapped W (KBw.bInts b) (KBw.bInts b') → Q (.bytes b' t') (St s0 H' T')) :
    wpJ (model prog w) A (call (.ref f) [.bytes b t, .int (W : Nat) u] []) Q E (St s0 H T) := by
  obtain ⟨pm, cd, doc, hfn⟩ := Wk.at 16 hf
  have hsz : (KBw.bInts b).length < 1000 := by rw [hn]; rcases hW with rfl | rfl <;> omega
  have hrs : Builtin.Range.rangeSize 0 ((KBw.bInts b).length : Nat) (W : Nat) = (n : Nat) := by
    unfold Builtin.Range.rangeSize
    rw [hn]
    rcases hW with rfl | rfl <;> (split <;> (try split) <;> omega)
  refine callJ 16 [("data", .bytes b t), ("width", .int (W : Nat) u)] (hu.le (d' := 0) (u' := 0)).dep Wk.lim hfn rfl (fun x hx => .inl (locs rfl x hx)) fun H1 L T1 F1 k1 hL => ?_
  have hu1 : AOk (A.deeper (envC 16 L f cd)) 0 0 := hu.deeper _
  have nL : H.get? L = none := none_of_le hL
  refine asgJ (callTJ (id := "bytearray") (Wk.keeps k1) (by decide) (by decide +kernel) (it1 (callB (id := "len") (Wk.keeps k1) (by decide) (by decide +kernel) (it1 (ldl F1 rfl (KBw.len_K rfl (by omega) (callBA (by omega) fun r H2 T2 nr k2 b2 => ?_)))))))
  refine stl (F1.keeps k2) fun H3 T3 F3 s3 => ?_
  have rL : r ≠ L := Ne.symm (F1.new (.inl rfl) nr)
  have nr0 := none_back k1 nr
  have x3 : BsI H L r b t u W 0 0 H3 _ _ _ := ⟨F3, rfl, rfl, rfl, s3.extBut r _ rL b2, by rw [bInts_zero]; exact sw_start, fun c o e => s3.extBut c o (some_ne e nL) (k2 c o (k1 c o e))⟩
  refine stK (forW (s0 := s0) (rangeIt3 (a := 0) (b := ((KBw.bInts b).length : Nat)) (c := (W : Nat)) (n := n) (Wk.keeps x3.kp) hu1.hh (by rcases hW with rfl | rfl <;> decide) ?_ ?_ (PyProof.noPylong_small (by rcases hW with rfl | rfl <;> decide)) (fun h' => it3 (cint fun _ _ => callB (id := "len") (Wk.keeps x3.kp) (by decide) (by decide +kernel) (it1 (ldl F3 rfl (KBw.len_K rfl (by omega) (ldl F3 rfl (h' _ _ _ _))))))) fun I H4 T4 It k4 nI lI hIt wk i0 => ?_))
  · exact hrs
  · exact small_of hrs (by decide) (by omega) (by rcases hW with rfl | rfl <;> decide) (by omega)
  · have nI0 := none_back x3.kp nI
    have rI : r ≠ I := some_ne x3.ba nI
    have oI : ∀ c, FrC.own L (cellsOf 16 L) c → c ≠ I := fun c w => F3.new w nI
    refine ⟨I, H4, T4, n, _, fun i Ha => ∃ m cm arr, BsI H L r b t u W i 0 Ha m cm arr, [I], It, rfl, rfl, wk, i0, ⟨_, _, _, F3.keeps k4, rfl, rfl, rfl, k4 _ _ x3.ba, x3.sw, kall x3.kp k4⟩, ?_, ?_⟩
    · rintro i _ Ha Hb Tb hi ⟨t1, rfl⟩ ⟨m, cm, arr, x⟩ kI iI
      have xb := x.at kI nI0 rI oI
      refine stl xb.F fun H5 T5 F5 s5 => ?_
      have x5 := xb.st F5 s5 nL rL rfl rfl rfl
      obtain ⟨oi, hoi, _⟩ := hIt _ _ iI
      have IL' : I ≠ L := Ne.symm (oI _ (.inl rfl))
      refine forW (s0 := s0) (rangeIt (n := W) (Wk.keeps x5.kp) hu1.hh (by rcases hW with rfl | rfl <;> decide) (fun h' => ldl F5 x5.wd (h' _ _)) fun I2 H6 T6 k6 nI2 lI2 wk2 i02 => ?_)
      have nI20 := none_back x5.kp nI2
      have rI2 : r ≠ I2 := some_ne x5.ba nI2
      have oI2 : ∀ c, FrC.own L (cellsOf 16 L) c → c ≠ I2 := fun c w => F5.new w nI2
      have II2 : I ≠ I2 := some_ne (s5.extBut _ _ IL' hoi) nI2
      refine ⟨I2, H6, T6, W, _, fun j Ha => ∃ m cm arr t', BsI H L r b t u W i j Ha m cm arr ∧ m "i" = some (.int (0 + (i : Nat) * (W : Nat)) t') ∧ ∀ o, Hb.get? I = some o → Ha.get? I = some o, [I2], _, rfl, rfl, wk2, i02,
        ⟨_, _, _, _, ⟨F5.keeps k6, x5.d, x5.wd, x5.sd, k6 _ _ x5.ba, x5.sw, kall x5.kp k6⟩, rfl, fun o e => k6 _ _ (s5.extBut _ _ IL' e)⟩, ?_, ?_⟩
      · rintro j _ Hc Hd Td hj ⟨t2, rfl⟩ ⟨m2, cm2, arr2, t3, y, e3, kI2⟩ kI' -
        have y1 := y.at kI' nI20 rI2 oI2
        refine stl y1.F fun H7 T7 F7 s7 => ?_
        have y7 := y1.st F7 s7 nL rL rfl rfl rfl
        have hlt : i * W + j < (KBw.bInts b).length ∧ i * W + W - 1 - j < (KBw.bInts b).length := by rw [hn]; rcases hW with rfl | rfl <;> omega
        have eW : (0 + (i : Int) * (W : Int) + (j : Int)) = ((i * W + j : Nat) : Int) ∧ (0 + (i : Int) * (W : Int) + (W : Int) - 1 - (j : Int)) = ((i * W + W - 1 - j : Nat) : Int) := by rcases hW with rfl | rfl <;> omega
        refine putX (Subscript_ (ldl F7 y7.d (wpAny_BinOp (ldl F7 e3 (ldl F7 rfl (iadd fun _ _ => KBw.item_K rfl (by omega) (by rw [eW.1]; exact Int.natCast_nonneg _) (by rw [eW.1]; exact Int.ofNat_lt.mpr hlt.1) fun t4 T4' c0 c1 => ?_))))))
        refine ldl F7 y7.sd (wpAny_BinOp (wpAny_BinOp (wpAny_BinOp (ldl F7 e3 (ldl F7 y7.wd (iadd fun _ _ => cint fun _ _ => isub fun _ _ => ldl F7 rfl (isub fun _ _ => setBA y7.ba eW.2 ?_ ?_ c0 c1 fun h' b' s' => ?_)))))))
        · rw [← KBw.ints_length, y7.sw.1]; exact hlt.2
        · rw [← KBw.ints_length, y7.sw.1]; omega
        · refine nilX ⟨h', _, rfl, ⟨_, cm2, _, t3, ⟨F7.keep fun c o w e => s'.extBut c o (F7.ne_ba w y7.ba) e, y7.d, y7.wd, y7.sd, b', ?_, kbut y7.kp s'.extBut nr0⟩, e3, fun o e => ?_⟩, fun c hc o e => ?_⟩
          · rw [bInts_set c0 c1, eW.1, Int.toNat_natCast]
            exact sw_step hW hj y7.sw
          · exact s'.extBut _ _ (Ne.symm rI) (s7.extBut _ _ IL' (kI' _ _ II2 (kI2 _ e)))
          · cases List.mem_singleton.mp hc
            exact s'.extBut _ _ (Ne.symm rI2) (s7.extBut _ _ (Ne.symm (oI2 _ (.inl rfl))) e)
      · rintro Hc Hd Td ⟨m2, cm2, arr2, t3, y, e3, kI2⟩ kI'
        have y1 := y.at kI' nI20 rI2 oI2
        refine nilX ⟨Hd, Td, rfl, ⟨m2, cm2, arr2, y1.F, y1.d, y1.wd, y1.sd, y1.ba, sw_next hW y1.sw, y1.kp⟩, fun c hc o e => ?_⟩
        cases List.mem_singleton.mp hc
        exact kI' _ _ II2 (kI2 _ e)
    · rintro Ha Hb Tb ⟨m, cm, arr, x⟩ kI
      have xb := x.at kI nI0 rI oI
      refine nilX (Q := ThenJ _ _ _ _ _ _) (.of (retX (callT (id := "bytes") (Wk.keeps xb.kp) (by decide) (by decide +kernel) (it1 (ldl xb.F xb.sd (call_bytes_ba xb.ba ?_ fun t' T' => h _ _ _ _ xb.kp (sw_end hW hn xb.sw)))))))
      rw [← KBw.ints_length, xb.sw.1, sizeLine_eq]; omega
end
end Mine
end
section
set_option maxRecDepth 100000
set_option Elab.async false
namespace Mine
open PySem PySem.W PySem.Calls PyProof.Rows

abbrev Kp4 (I C D : Addr) (h h' : Heap) : Prop := ∀ b o, b ≠ I → b ≠ C → b ≠ C + 1 → b ≠ D → h.get? b = some o → h'.get? b = some o
def CompEndK (s0 : Shared) (J : Nat → List Value → Heap → Prop) (i : Nat) (vs : List Value) (fp : List Addr) (C D : Addr) (Hb : Heap) (s : Shared) : Prop := ∃ Hc Tc, s = St s0 Hc Tc ∧ J i vs Hc ∧ Stay (C :: (C + 1) :: D :: fp) Hb Hc
structure CompOkK (prog : Program) (w : World) (A : Around) (s0 : Shared) (env : Env) (scope : Scope) (cl : List (Str × Addr)) (x : Str) (ifs : List Expr) (elt : Expr) (RR : Value → Addr → Heap → Nat → Prop) (n : Nat) (P : Nat → Value → Prop) (J : Nat → List Value → Heap → Prop) (I : Addr) (fp : List Addr) (It : Nat → Heap → Prop) (H2 : Heap) : Prop where
  walks : Walks prog w A I fp [I] n P It
  it0 : It 0 H2
  low : ∀ b ∈ fp, b < H2.objs.size
  len : n ≤ sizeLine
  start : J 0 [] H2
  turn : ∀ i v vs C D Ha Hb Tb, i < n → P i v → J i vs Ha → H2.get? C = none → H2.get? (C + 1) = none → H2.get? D = none → Kp4 I C D Ha Hb → (∃ m, Hb.Ns C m) → Hb.IsCell (C + 1) (some v) → It (i + 1) Hb → Ls Hb D vs.toArray →
    wpAny (model prog w) A (tests ifs (compEnvC scope ((x, C + 1) :: cl) C env)) (fun ok s₃ => if ok = true then wpAny (model prog w) A (eval elt (compEnvC scope ((x, C + 1) :: cl) C env)) (fun y s₄ => CompEndK s0 J (i + 1) (vs ++ [y]) fp C D Hb s₄) NoE s₃ else CompEndK s0 J (i + 1) vs fp C D Hb s₃) NoE (St s0 Hb Tb)
  done : ∀ C D vs Ha Hb Tb, J n vs Ha → vs.length ≤ n → H2.get? C = none → H2.get? (C + 1) = none → H2.get? D = none → D ≠ C → Kp4 I C D Ha Hb → Ls Hb D vs.toArray → RR (.ref D) C Hb Tb

section
variable {prog : Program} {w : World} {A : Around} {E : Value → Shared → Prop} {s0 : Shared} {H : Heap} {T : Nat} {mg mb : Str → Option Value} {env : Env}
theorem newEnvK {scope : Scope} {cl : List (Str × Addr)} {x : Str} {globals : Addr} {qual : Str} {Q : Env → Shared → Prop} (hc : ∀ n, cellsFrom n scope.names cl = (x, n) :: cl) (hp : ∀ h, pushCells h scope.names = h.push { cls := .type "cell", data := .cell none })
    (h : ∀ H', H.objs.size < H'.objs.size → Keeps' H H' → H'.Ns H.objs.size (fun _ => none) → H'.IsCell (H.objs.size + 1) none → Q (newEnv scope H.objs.size globals ((x, H.objs.size + 1) :: cl) qual none .none (some env) builtinsNs) (St s0 H' T)) :
    wpAny (model prog w) A (newFunctionEnv scope globals cl [] qual none .none (some env)) Q E (St s0 H T) := by
  simp only [newFunctionEnv, Option.isSome_some, if_true]
  refine wpAny_bind (wpAny_alloc ?_)
  refine wpAny_bind (wpAny_layCells _ (fun name kind cells => by cases hkc : kind == NameKind.cell <;> simp [hkc]) _ _ _ _ ?_)
  rw [List.forIn_nil]
  refine wpAny_bind (wpAny_pure (wpAny_pure ?_))
  have e : (H.push { cls := .type "dict", data := .dict #[] }).objs.size = H.objs.size + 1 := Heap.size_push ..
  have q := h ((H.push { cls := .type "dict", data := .dict #[] }).push { cls := .type "cell", data := .cell none }) (by rw [Heap.size_push, e]; exact Nat.lt_succ_of_lt (Nat.lt_succ_self _)) (fun b o e => Heap.get?_push_of_some _ (Heap.get?_push_of_some _ e))
    ((Heap.Ns.new H (.type "dict")).keeps fun b o e => Heap.get?_push_of_some _ e) ⟨_, by rw [← e]; exact Heap.get?_push_size _ rfl, rfl⟩
  rw [hp, hc]
  show Q { scope := scope, locals := H.objs.size, globals := globals, cells := (x, (H.push { cls := .type "dict", data := .dict #[] }).objs.size) :: cl, qual := qual, code := env.code, frame := env.frame, builtins := env.builtins } (St s0 _ T)
  rw [e]; exact q
theorem compCoreK {elt iter : Expr} {x : Str} {px : Pos} {ifs : List Expr} {scope : Scope} {cl : List (Str × Addr)} {pos : Pos} {RR : Value → Addr → Heap → Nat → Prop} {R' : Value → Addr → Result → Shared → Prop} {n : Nat} {P : Nat → Value → Prop} {J : Nat → List Value → Heap → Prop} {I : Addr} {fp : List Addr} {It : Nat → Heap → Prop}
    (hc : ∀ n, cellsFrom n scope.names cl = (x, n) :: cl) (hp : ∀ h, pushCells h scope.names = h.push { cls := .type "cell", data := .cell none }) (hkind : scope.kind = .function) (hx : (compEnvC scope [] 0 env).kindOf x = some .cell) (K : CompOkK prog w A s0 env scope cl x ifs elt RR n P J I fp It H) (hR : ∀ v C Hb Tb m, Hb.Ns C m → RR v C Hb Tb → R' v C (.ok .next) (St s0 Hb Tb)) :
    wpAny (model prog w) A (newList []) (fun acc s₃ => wpAny (model prog w) A (newFunctionEnv scope env.globals cl [] env.qual none .none (some env)) (fun cenv s₄ =>
      codeAny (model prog w) A (.compStart (.ListComp elt [⟨.Name x px, iter, ifs, 0⟩] scope pos) 0 (.ref I) acc { cenv with scope := relabel scope env }) (R' acc cenv.locals) s₄) E s₃) E (St s0 H T) := by
  obtain ⟨D, hD⟩ : ∃ D, D = H.objs.size := ⟨_, rfl⟩
  obtain ⟨G, hG⟩ : ∃ G, G = H.push { cls := .type "list", dict := none, data := .seq ([] : List Value).toArray } := ⟨_, rfl⟩
  have lDG : Ls G D #[] := ⟨0, by rw [hG, hD]; exact Heap.get?_push_size _ rfl⟩
  have oldG : Keeps' H G := fun b o e => hG ▸ Heap.get?_push_of_some _ e
  have hCs : G.objs.size = H.objs.size + 1 := by rw [hG, Heap.size_push]
  refine wpAny_newObj_type ?_
  show wpAny _ _ _ (fun (cenv : Env) s₄ => codeAny (model prog w) A (.compStart _ 0 (.ref I) (.ref H.objs.size) { cenv with scope := relabel scope env }) (R' (.ref H.objs.size) cenv.locals) s₄) _ (St s0 (H.push { cls := .type "list", dict := none, data := .seq ([] : List Value).toArray }) T)
  rw [← hD, ← hG]
  refine newEnvK hc hp fun h₁ hsz old₁ ns₁ c₁ => ?_
  obtain ⟨C, hC⟩ : ∃ C, C = G.objs.size := ⟨_, rfl⟩
  rw [← hC] at ns₁ c₁ hsz ⊢
  have fC : H.get? C = none := none_of_le (by rw [hC, hCs]; exact Nat.le_succ _)
  have fC' : H.get? (C + 1) = none := none_of_le (by rw [hC, hCs]; exact Nat.le_succ_of_le (Nat.le_succ _))
  have fD : H.get? D = none := none_of_le (Nat.le_of_eq hD.symm)
  have old : Keeps' H h₁ := kall oldG old₁
  have hDC : D ≠ C := by rw [hD, hC, hCs]; exact Nat.ne_of_lt (Nat.lt_succ_self _)
  have hDC' : D ≠ C + 1 := by rw [hD, hC, hCs]; exact Nat.ne_of_lt (Nat.lt_succ_of_lt (Nat.lt_succ_self _))
  have hCC' : C ≠ C + 1 := Nat.ne_of_lt (Nat.lt_succ_self _)
  have ne : ∀ b ∈ fp, b ≠ D ∧ b ≠ C ∧ b ≠ C + 1 := fun b hb => by
    have := K.low b hb
    exact ⟨fun e => Nat.lt_irrefl _ (hD ▸ e ▸ this), fun e => Nat.lt_irrefl _ (Nat.lt_of_lt_of_le (hCs ▸ hC ▸ e ▸ this) (Nat.le_succ _)), fun e => by
      have h2 : b = H.objs.size + 1 + 1 := by rw [e, hC, hCs]
      exact Nat.lt_irrefl _ (Nat.lt_of_lt_of_le (h2 ▸ this) (Nat.le_succ_of_le (Nat.le_succ _)))⟩
  have hI : I ∈ fp := K.walks.sub I (by simp)
  have lD1 : Ls h₁ D #[] := lDG.at fun o => old₁ _ o
  have start : codeAny (model prog w) A (.compLoop (.ListComp elt [⟨.Name x px, iter, ifs, 0⟩] scope pos) 0 (.ref I) (.ref D) (compEnvC scope ((x, C + 1) :: cl) C env)) (R' (.ref D) C) (St s0 h₁ T) := by
    refine codeAny_compLoop_tests (fun k s => ∃ i vs Ha Hb Tb m cv, s = St s0 Hb Tb ∧ J i vs Ha ∧ It i Hb ∧ Kp4 I C D Ha Hb ∧ Hb.Ns C m ∧ Hb.IsCell (C + 1) cv ∧ Ls Hb D vs.toArray ∧ i ≤ n ∧ vs.length ≤ i ∧ k = n + 1 - i) ?_ (n + 1)
      ⟨0, [], H, h₁, T, _, _, rfl, K.start, K.walks.frame _ _ _ K.it0 (fun b _ o e => old b o e), fun b o _ _ _ _ e => old b o e, ns₁, c₁, lD1, Nat.zero_le _, Nat.le_refl _, rfl⟩
    rintro k _ ⟨i, vs, Ha, Hb, Tb, m, cv, rfl, hJ, hIt, hk, hn, hcv, hl, hi, hvs, rfl⟩
    by_cases hlt : i < n
    · refine K.walks.item i _ _ _ hlt hIt fun v h2 tk hP hI2 hk2 => ?_
      have hk2' : KpI I Hb h2 := fun b o hb e => hk2 b o (by simpa using hb) e
      have hc2 : h2.IsCell (C + 1) cv := let ⟨o, e, d⟩ := hcv; ⟨o, hk2' _ _ (Ne.symm (ne I hI).2.2) e, d⟩
      refine wpAny_assign_Name (wpAny_storeName_cell hkind hx (by show List.lookup x ((x, C + 1) :: cl) = _; simp) hc2 (fun h3 hc3 hs3 => ?_))
      have k3 : Kp4 I C D Ha h3 := fun b o b1 b2 b3 b4 e => hs3.extBut b o b3 (hk2' b o b1 (hk b o b1 b2 b3 b4 e))
      have n3 : h3.Ns C m := (hn.at' fun o e => hk2' C o (Ne.symm (ne I hI).2.1) e).sameBut hs3 hCC'
      have l3 : Ls h3 D vs.toArray := hl.at fun o e => hs3.extBut D o hDC' (hk2' D o (Ne.symm (ne I hI).1) e)
      have I3 : It (i + 1) h3 := K.walks.frame _ _ _ hI2 fun b hb o e => hs3.extBut b o (ne b hb).2.2 e
      have fin : ∀ vs' s, (CompEndK s0 J (i + 1) vs' fp C D h3 s) → ∃ Hc Tc cv', s = St s0 Hc Tc ∧ J (i + 1) vs' Hc ∧ It (i + 1) Hc ∧ Hc.Ns C m ∧ Hc.IsCell (C + 1) cv' ∧ Ls Hc D vs.toArray ∧ Stay (C :: (C + 1) :: D :: fp) h3 Hc := fun vs' s ⟨Hc, Tc, e, hJ', hs⟩ =>
        ⟨Hc, Tc, _, e, hJ', K.walks.frame _ _ _ I3 fun b hb o e => hs b (.tail _ (.tail _ (.tail _ hb))) o e, n3.at' fun o e => hs C (.head _) o e, (let ⟨o, e, d⟩ := hc3; ⟨o, hs _ (.tail _ (.head _)) _ e, d⟩), l3.at fun o e => hs D (.tail _ (.tail _ (.head _))) o e, hs⟩
      refine wpAny_mono (K.turn i v vs C D Ha h3 _ hlt hP hJ fC fC' fD k3 ⟨_, n3⟩ hc3 I3 l3) (fun ok s₃ q => ?_) fun _ _ e => e.elim
      cases ok with
      | true =>
        rw [if_pos rfl] at q ⊢
        refine wpAny_mono q (fun y s₄ q => ?_) fun _ _ e => e.elim
        obtain ⟨Hc, Tc, cv', rfl, hJ', hIc, hnc, hcc, ⟨nD, lc⟩, hs⟩ := fin _ _ q
        refine wpAny_list_append_plain (hsz := by rw [List.size_toArray]; exact Nat.le_trans (Nat.le_trans hvs hi) K.len) ⟨nD, lc⟩ fun h5 l5 s5 => ?_
        refine ⟨n + 1 - (i + 1), by omega, i + 1, vs ++ [y], Hc, h5, _, m, cv', rfl, hJ', K.walks.frame _ _ _ hIc fun b hb o e => s5.extBut b o (ne b hb).1 e, fun b o _ _ _ b4 e => s5.extBut b o b4 e, hnc.sameBut s5 (Ne.symm hDC), hcc.sameBut s5 (Ne.symm hDC'), ?_, hlt, ?_, rfl⟩
        · obtain ⟨n5, e5⟩ := l5
          refine ⟨n5, ?_⟩
          show h5.get? D = _
          rw [e5]; simp
        · rw [List.length_append, List.length_singleton]; exact Nat.succ_le_succ hvs
      | false =>
        rw [if_neg (by simp)] at q ⊢
        obtain ⟨Hc, Tc, cv', rfl, hJ', hIc, hnc, hcc, lc, hs⟩ := fin _ _ q
        exact ⟨n + 1 - (i + 1), by omega, i + 1, vs, Hc, Hc, _, m, cv', rfl, hJ', hIc, fun b o _ _ _ _ e => e, hnc, hcc, lc, hlt, Nat.le_succ_of_le hvs, rfl⟩
    · have hin : i = n := by omega
      subst hin
      refine K.walks.done _ _ _ hIt fun h' tk hk2 => ?_
      have hk2' : KpI I Hb h' := fun b o hb e => hk2 b o (by simpa using hb) e
      have n6 := hn.at' fun o e => hk2' C o (Ne.symm (ne I hI).2.1) e
      exact hR _ _ _ _ m n6 (K.done C D vs Ha h' _ hJ hvs fC fC' fD hDC (fun b o b1 b2 b3 b4 e => hk2' b o b1 (hk b o b1 b2 b3 b4 e)) (hl.at fun o e => hk2' D o (Ne.symm (ne I hI).1) e))
  have I1 := K.walks.frame _ _ _ K.it0 (fun b _ o e => old b o e)
  exact codeAny_compStart_list start (K.walks.self 0 (St s0 h₁ T) _ _ I1 start)
theorem RQ.ofK {Q : Value → Shared → Prop} {I C D : Addr} {Ha Hb : Heap} {Tb : Nat} {items : Array Value} (hDC : D ≠ C) (k : Kp4 I C D Ha Hb) (l : Ls Hb D items) (h : ∀ h', Kp4 I C D Ha h' → Ls h' D items → Q (.ref D) (St s0 h' Tb)) : RQ s0 Q (.ref D) C Hb Tb :=
  fun h' s => h h' (fun b o b1 b2 b3 b4 e => s.extBut b o b2 (k b o b1 b2 b3 b4 e)) (l.same s hDC)
theorem compEK {elt iter : Expr} {x : Str} {px : Pos} {ifs : List Expr} {scope : Scope} (cl : List (Str × Addr)) {pos : Pos} {Q : Value → Shared → Prop} {s : Shared}
    (hclos : closureFor scope env = pure cl)
    (h : wpAny (model prog w) A (eval iter env) (fun xv s₁ => wpAny (model prog w) A (pyIter xv) (fun it s₂ => ∃ I H2 T2 n P J fp It, it = .ref I ∧ s₂ = St s0 H2 T2 ∧ CompOkK prog w A s0 env scope cl x ifs elt (RQ s0 Q) n P J I fp It H2) E s₁) E s)
    (hc : ∀ n, cellsFrom n scope.names cl = (x, n) :: cl := by intro _; rfl) (hp : ∀ h, pushCells h scope.names = h.push { cls := .type "cell", data := .cell none } := by intro _; rfl) (hkind : scope.kind = .function := by rfl)
    (hnames : ∀ x ∈ scope.names, x.2 = .local → scope.names.lookup x.1 = some .local := by decide) (hx : (compEnvC scope [] 0 env).kindOf x = some .cell := by rfl) (hs : ∀ x, foldedSetIterable iter env x = pure x := by intro _; rfl) :
    wpAny (model prog w) A (eval (.ListComp elt [⟨.Name x px, iter, ifs, 0⟩] scope pos) env) Q E s := by
  rw [eval_ListComp]
  refine wpAny_comprehension_free (use := none) rfl hs hclos hkind hnames (wpAny_mono h (fun xv s₁ h₁ => wpAny_mono h₁ (fun it s₂ h₂ => ?_) fun _ _ e => e) fun _ _ e => e)
  obtain ⟨I, H2, T2, n, P, J, fp, It, rfl, rfl, K⟩ := h₂
  exact compCoreK (R' := fun acc C => compPost (model prog w) A E none Q acc C) hc hp hkind hx K fun v C Hb Tb m hn q => ⟨m, hn, fun h' hs => q h' hs⟩
end
end Mine
end
section
set_option maxRecDepth 100000
set_option Elab.async false
namespace Mine
open PySem PySem.W PySem.Calls PyProof.Rows

/-- a list of lists of texts -/
def RL (h : Heap) (a : Addr) (rds : List (List Str)) : Prop := ∃ rs : List Addr, Ls h a (rs.map Value.ref).toArray ∧ rs.length = rds.length ∧ ∀ (i : Nat) (r : Addr) (k : List Str), rs[i]? = some r → rds[i]? = some k → SL h r k
theorem RL.at {h h' : Heap} {a : Addr} {rds : List (List Str)} (x : RL h a rds) (k : Keeps' h h') : RL h' a rds := let ⟨rs, l, e, f⟩ := x; ⟨rs, l.at fun o => k _ o, e, fun i r q h1 h2 => (f i r q h1 h2).at fun o => k _ o⟩
/-- a kept pattern meets a text at one place, at all places -/
def meets1 (kept : List Str) (text : Str) (i : Nat) : Bool := [Str.ofString "", ⟨#[text.cps.toList.getD i 0]⟩].any (· == kept.getD i (Str.ofString ""))
def meets (kept : List Str) (text : Str) : Bool := ((List.range kept.length).filter fun i => !meets1 kept text i) == []
def deal (rows : List Nat) (ts : List Str) (rds : List (List Str)) : List Nat := rds.flatMap fun kept => rows.filter fun k => meets kept (ts.getD k (Str.ofString ""))

theorem k3all {H H2 Ha Hb : Heap} {I C D : Addr} (k1 : Keeps' H H2) (k : Keeps' H Ha) (x : Kp3 I C D Ha Hb) (nI : H.get? I = none) (nC : H2.get? C = none) (nD : H2.get? D = none) : Keeps' H Hb :=
  fun y o e => x y o (some_ne e nI) (some_ne (k1 _ _ e) nC) (some_ne (k1 _ _ e) nD) (k y o e)
theorem k4all {H H2 Ha Hb : Heap} {I C D : Addr} (k1 : Keeps' H H2) (k : Keeps' H Ha) (x : Kp4 I C D Ha Hb) (nI : H.get? I = none) (nC : H2.get? C = none) (nC' : H2.get? (C + 1) = none) (nD : H2.get? D = none) : Keeps' H Hb :=
  fun y o e => x y o (some_ne e nI) (some_ne (k1 _ _ e) nC) (some_ne (k1 _ _ e) nC') (some_ne (k1 _ _ e) nD) (k y o e)
theorem cellAt {h h' : Heap} {a : Addr} {v : Option Value} (x : h.IsCell a v) (k : ∀ o, h.get? a = some o → h'.get? a = some o) : h'.IsCell a v := let ⟨o, e, d⟩ := x; ⟨o, k o e, d⟩
theorem Ls.has {h : Heap} {a : Addr} {items : Array Value} (x : Ls h a items) : ∃ o, h.get? a = some o := let ⟨_, y⟩ := x; ⟨_, y⟩
theorem RL.ls {h : Heap} {a : Addr} {rds : List (List Str)} (x : RL h a rds) : ∃ items : Array Value, Ls h a items ∧ items.size = rds.length ∧ ∀ (i : Nat) (k : List Str), rds[i]? = some k → ∃ r, items[i]? = some (Value.ref r) ∧ SL h r k := by
  obtain ⟨rs, l, e, f⟩ := x
  refine ⟨_, l, by simp [e], fun i k hk => ?_⟩
  have hi : i < rs.length := by rw [e]; exact (List.getElem?_eq_some_iff.mp hk).1
  exact ⟨rs[i], by simp [hi], f i _ k (List.getElem?_eq_getElem hi) hk⟩

section
variable {prog : Program} {w : World} {A : Around} {E : Value → Shared → Prop} {s0 : Shared} {H : Heap} {T : Nat} {mg mb : Str → Option Value} {env : Env}
theorem sub_str {value slice : Expr} {x : Str} {k : Int} {q : Nat} {t u : Tok} {c : Nat} {Q : Value → Shared → Prop} (hk : k = (q : Int)) (hz : x.cps.size < 2 ^ 20) (hx : x.cps.toList[q]? = some c) (h : ∀ t T', Q (.str ⟨#[c]⟩ t) (St s0 H T'))
    (hs : subscripted slice false (.str x t) (.int k u) = operate [.str x t, .int k u] (getItem (.str x t) (.int k u)) := by with_unfolding_all rfl) :
    wpAny (model prog w) A (subscriptTail value slice (.str x t) (.int k u)) Q E (St s0 H T) := by
  subst hk
  have hq : q < x.cps.size := by rw [← Array.length_toList]; exact (List.getElem?_eq_some_iff.mp hx).1
  have hs' : seqIndex? (q : Int) x.length = some q := by
    show seqIndex? (q : Int) x.cps.size = some q
    simpa using seqIndex_of (Int.natCast_nonneg q) (Int.ofNat_lt.mpr hq)
  refine tail_any (s := St s0 H T) (T := "str") (typeIs_str _ _ _) F.slot_str_getitem.lookup (getItem_str (c := c) ?_ ?_ (h _ _)) hs
  · rw [decide_eq_false (by omega), decide_eq_false (by omega)]; rfl
  · rw [hs']
    show x.cps[q]? = some c
    rw [← Array.getElem?_toList]; exact hx
theorem listIt {a : Addr} {items : Array Value} {Q : Value → Shared → Prop} (hl : Ls H a items) (hh : A.handled = none)
    (h : ∀ I H2, Keeps' H H2 → H.get? I = none → I < H2.objs.size → (∀ b ∈ [I, a], b < H2.objs.size) → Walks prog w A I [I, a] [I] items.size (fun i v => items[i]? = some v) (fun i h => h.IsListIter I a i ∧ h.IsList a items) → H2.IsListIter I a 0 ∧ H2.IsList a items → Q (.ref I) (St s0 H2 T)) :
    wpAny (model prog w) A (pyIter (.ref a)) Q E (St s0 H T) := by
  obtain ⟨n, ho⟩ := id hl
  have ha : a < H.objs.size := Heap.lt_size ho
  have hsz : ∀ o, (H.push o).objs.size = H.objs.size + 1 := fun o => Heap.size_push ..
  refine wpAny_pyIter_list (s := St s0 H T) hl.isList (h _ _ (fun b o e => Heap.get?_push_of_some _ e) (none_of_le (Nat.le_refl _)) ?_ ?_ (Walks.list hh _ a (Nat.ne_of_lt ha) items) ⟨⟨_, Heap.get?_push_size _ rfl, rfl, rfl⟩, (hl.at fun o e => Heap.get?_push_of_some _ e).isList⟩)
  · show H.objs.size < (H.push _).objs.size
    rw [hsz]; exact Nat.lt_succ_self _
  · intro b hb
    show b < (H.push _).objs.size
    rw [hsz]
    rcases List.mem_cons.mp hb with rfl | hb
    · exact Nat.lt_succ_self _
    · cases List.mem_singleton.mp hb; exact Nat.lt_succ_of_lt ha
theorem addL {a b : Addr} {xs ys : Array Value} {Q : Value → Shared → Prop} (ha : Ls H a xs) (hb : Ls H b ys) (hz : xs.size + ys.size ≤ sizeLine)
    (h : ∀ r H', H.get? r = none → Keeps' H H' → Ls H' r (xs ++ ys) → Q (.ref r) (St s0 H' T)) : wpAny (model prog w) A (binaryOp .Add (.ref a) (.ref b)) Q E (St s0 H T) := by
  obtain ⟨_, ha⟩ := ha
  obtain ⟨_, hb⟩ := hb
  exact P.add_list (s := St s0 H T) (hsz := hz) ha hb (h _ _ (none_of_le (Nat.le_refl _)) (fun b o e => Heap.get?_push_of_some _ e) ⟨0, Heap.get?_push_size _ rfl⟩)
theorem eqNil {a b : Addr} {xs : Array Value} {Q : Value → Shared → Prop} (ha : Ls H a xs) (hb : Ls H b #[]) (hu : A.units < cLine) (h : Q (.bool (xs.size == 0)) (St s0 H T)) : wpAny (model prog w) A (compareOp .Eq (.ref a) (.ref b)) Q E (St s0 H T) := by
  by_cases e : xs.size = 0
  · refine SeqAt.eq_listAt (s := St s0 H T) (e := fun _ => true) ha.isList hb.isList e hu (fun j h1 _ => absurd h1 (by omega)) ?_
    rw [e] at h ⊢; exact h
  · refine SeqAt.eq_list_lengthsAt (s := St s0 H T) ha.isList hb.isList (by simpa using e) hu ?_
    rw [show (xs.size == 0) = false by simpa using e] at h; exact h
theorem IL.add {h : Heap} {a b : Addr} {ns ms : List Int} (x : IL h a ns) (y : IL h b ms) : ∃ xs ys, Ls h a xs ∧ Ls h b ys ∧ xs.size = ns.length ∧ ys.size = ms.length ∧ ∀ (h' : Heap) (r : Addr), Ls h' r (xs ++ ys) → IL h' r (ns ++ ms) := by
  obtain ⟨l, rfl, p⟩ := x
  obtain ⟨m, rfl, q⟩ := y
  exact ⟨_, _, p, q, by simp, by simp, fun h' r z => ⟨l ++ m, by simp, by simpa using z⟩⟩
end
end Mine
end
section
set_option maxRecDepth 100000
set_option Elab.async false
namespace Mine
open PySem PySem.W PySem.Calls PyProof.Rows

theorem meets1_eq {kept : List Str} {x k : Str} {i c : Nat} (hk : kept[i]? = some k) (hc : x.cps.toList[i]? = some c) : [Str.ofString "", ⟨#[c]⟩].any (· == k) = meets1 kept x i := by
  unfold meets1
  rw [List.getD_eq_getElem?_getD, List.getD_eq_getElem?_getD, hk, hc]; rfl
theorem filter_snoc {p : Nat → Bool} {i : Nat} : (List.range (i + 1)).filter p = (List.range i).filter p ++ if p i then [i] else [] := by
  rw [List.range_succ, List.filter_append]
  cases h : p i <;> simp [h]
theorem filter_take {rows : List Nat} {p : Nat → Bool} {i k : Nat} (h : rows[i]? = some k) : (rows.take (i + 1)).filter p = (rows.take i).filter p ++ if p k then [k] else [] := by
  rw [List.take_add_one, h, List.filter_append]
  cases e : p k <;> simp [e]
theorem deal_take {rows : List Nat} {ts : List Str} {rds : List (List Str)} {i : Nat} {k : List Str} (h : rds[i]? = some k) : deal rows ts (rds.take (i + 1)) = deal rows ts (rds.take i) ++ rows.filter fun r => meets k (ts.getD r (Str.ofString "")) := by
  unfold deal
  rw [List.take_add_one, h, List.flatMap_append]; simp
theorem deal_len (rows : List Nat) (ts : List Str) : ∀ rds, (deal rows ts rds).length ≤ rds.length * rows.length
  | [] => Nat.zero_le _
  | k :: r => by
    have e : deal rows ts (k :: r) = (rows.filter fun r => meets k (ts.getD r (Str.ofString ""))) ++ deal rows ts r := rfl
    rw [e, List.length_append, List.length_cons, Nat.succ_mul]
    have := deal_len rows ts r
    have := List.length_filter_le (fun r => meets k (ts.getD r (Str.ofString ""))) rows
    omega

/-- _law_deal's frame -/
inductive DlI (H : Heap) (L I r t g : Addr) (rows : List Nat) (ts : List Str) (rds : List (List Str)) (i : Nat) (Ha : Heap) : Prop
  | mk {m cm d} : FrC Ha L (cellsOf 19 L) m cm → m "rows" = some (.ref r) → m "readings" = some (.ref g) → cm "texts" = some (.ref t) → m "dealt" = some (.ref d) → IL Ha d ((deal rows ts (rds.take i)).map Int.ofNat) → H.get? d = none → d ≠ I → Keeps' H Ha → DlI H L I r t g rows ts rds i Ha
theorem IL.ls {h : Heap} {a : Addr} {ns : List Int} (x : IL h a ns) : ∃ items, Ls h a items := let ⟨_, _, y⟩ := x; ⟨_, y⟩
theorem IV.keepIf {vs : List Value} {l : List Nat} {b : Bool} {n : Nat} {t : Tok} (x : IV vs (l.map Int.ofNat)) (hb : b = true) : IV (vs ++ [.int (n : Nat) t]) ((l ++ if b then [n] else []).map Int.ofNat) := by
  subst hb
  rw [if_pos rfl, List.map_append]
  exact x.snoc
theorem IV.dropIf {vs : List Value} {l : List Nat} {b : Bool} {n : Nat} (x : IV vs (l.map Int.ofNat)) (hb : b = false) : IV vs ((l ++ if b then [n] else []).map Int.ofNat) := by
  subst hb
  rw [if_neg (by simp), List.append_nil]
  exact x

section
variable {prog : Program} {w : World} {A : Around} {E : Value → Shared → Prop} {s0 : Shared} {H : Heap} {T : Nat} {mg mb : Str → Option Value} {env : Env}
theorem deal_call {f r t g : Addr} {rows : List Nat} {ts : List Str} {rds : List (List Str)} {Q : Value → Shared → Prop} (W : Wd mg mb H) (hf : mg (nameOf (stm 19)) = some (.ref f)) (hu : AOk A 1 3) (hr : IL H r (rows.map Int.ofNat)) (ht : SL H t ts) (hg : RL H g rds)
    (hz1 : rows.length ≤ 99) (hrow : ∀ k ∈ rows, k < ts.length) (hz2 : ts.length ≤ 99) (hz3 : rds.length ≤ 99) (hk : ∀ kept ∈ rds, kept.length ≤ 99 ∧ ∀ x ∈ ts, kept.length ≤ x.cps.size ∧ x.cps.size < 2 ^ 20)
    (h : ∀ H' T' D, Keeps' H H' → H.get? D = none → IL H' D ((deal rows ts rds).map Int.ofNat) → Q (.ref D) (St s0 H' T')) :
    wpAny (model prog w) A (call (.ref f) [.ref r, .ref t, .ref g] []) Q E (St s0 H T) := by
  obtain ⟨pm, cd, doc, hfn⟩ := W.at 19 hf
  refine callC 19 [("rows", .ref r), ("texts", .ref t), ("readings", .ref g)] (hu.le (d' := 0) (u' := 0)).dep W.lim hfn rfl ?_ fun H1 L T1 F1 k1 hL => ?_
  · intro x hx
    rcases List.mem_cons.mp hx with rfl | hx
    · exact .inl rfl
    · rcases List.mem_cons.mp hx with rfl | hx
      · exact .inr ⟨rfl, rfl⟩
      · cases List.mem_singleton.mp hx; exact .inl rfl
  have hu1 : AOk (A.deeper (envC 19 L f cd)) 0 0 := hu.deeper _
  have nL : H.get? L = none := none_of_le hL
  have nK : H.get? (L + 2) = none := none_of_le (Nat.le_add_right_of_le hL)
  refine asgX (newL (wpAny_items_nil ⟨_, _, rfl, Nat.zero_le _, fun b H2 nb k2 l2 => stl (F1.keeps k2) fun H3 T3 F3 s3 => ?_⟩))
  have nb0 := none_back k1 nb
  have bL : b ≠ L := Ne.symm (F1.new (.inl rfl) nb)
  have l3 := l2.same s3 bL
  have k3 : Keeps' H H3 := fun x o e => s3.extBut x o (some_ne e nL) (k2 x o (k1 x o e))
  obtain ⟨gi, lg0, sg, ig⟩ := hg.ls
  have lg := lg0.at fun o => k3 _ o
  refine forW (s0 := s0) (ldl F3 rfl (listIt lg hu1.hh fun I H4 k4 nI lI lIs wk it0 => ?_))
  have nI0 := none_back k3 nI
  rw [sg] at wk
  refine ⟨I, H4, T3, rds.length, _, fun i Ha => DlI H L I r t g rows ts rds i Ha, [I, g], _, rfl, rfl, wk, it0, .mk (F3.keeps k4) rfl rfl rfl rfl ⟨[], rfl, l3.at fun o => k4 _ o⟩ nb0 (l3.new nI) (kall k3 k4), ?_, ?_⟩
  · rintro i _ Ha Hb Tb hi hv ⟨F, q1, q2, q3, q4, q5, q6, q7, q8⟩ kI iI
    rename_i m cm d
    obtain ⟨kp, hkp⟩ : ∃ kp, rds[i]? = some kp := ⟨_, List.getElem?_eq_getElem hi⟩
    obtain ⟨kr, hkr, hks⟩ := ig i kp hkp
    rw [hkr] at hv; cases hv
    obtain ⟨hkl, hkt⟩ := hk kp (List.mem_of_getElem? hkp)
    have kb := kbut q8 kI nI0
    have Fb := F.keep fun b' o w e => kI b' o (F3.new w nI) e
    have q5b : IL Hb d _ := q5.at fun o => kI _ o q7
    refine stc Fb rfl fun H5 T5 F5 s5 => ?_
    have k5 : Keeps' H H5 := fun x o e => s5.extBut x o (some_ne e nK) (kb x o e)
    have q5c : IL H5 d _ := q5b.at fun o e => s5.extBut _ o (fun e' => let ⟨_, ld⟩ := q5b.ls; Fb.ne_ls (.inr ⟨"kept", rfl⟩) ld e'.symm) e
    have hsr : SL H5 kr kp := hks.at fun o => k5 _ o
    obtain ⟨ri, lr, sr, ir⟩ := (hr.at fun o => k5 _ o).item
    refine asgX (wpAny_BinOp (ldl F5 q4 (compEK (s0 := s0) [("texts", L + 1), ("kept", L + 2)] rfl (ldl F5 q1 (listIt lr hu1.hh fun J H6 k6 nJ lJ lJs wk2 ii2 => ?_)))))
    rw [List.length_map] at sr
    rw [sr] at wk2
    refine ⟨J, H6, T5, rows.length, _, fun i vs Ha => IV vs (((rows.take i).filter fun k => meets kp (ts.getD k (Str.ofString ""))).map Int.ofNat) ∧ Keeps' H5 Ha, [J, r], _, rfl, rfl, wk2, ii2, lJs, ?_, ⟨.nil, k6⟩, ?_, ?_⟩
    · rw [sizeLine_eq]; omega
    · rintro j _ vs C D Hc Hd Td hj hv ⟨iv, kc⟩ nC nC' nD k4' _ hC iJ lD
      have kd := k4all k6 kc k4' nJ nC nC' nD
      have Fd := F5.keeps kd
      obtain ⟨k, hk2⟩ : ∃ k, rows[j]? = some k := ⟨_, List.getElem?_eq_getElem hj⟩
      obtain ⟨tk, htk⟩ := ir j k (by rw [List.getElem?_map, hk2]; rfl)
      rw [htk] at hv; cases hv
      have kH := kall k5 kd
      obtain ⟨x, hx⟩ : ∃ x, ts[k]? = some x := ⟨_, List.getElem?_eq_getElem (hrow k (List.mem_of_getElem? hk2))⟩
      obtain ⟨hx1, hx2⟩ := hkt x (List.mem_of_getElem? hx)
      have hxd : ts.getD k (Str.ofString "") = x := by simp [List.getD, hx]
      have hLC : ∀ {c v}, (cellsOf 19 L).lookup c = some v → ∃ o, H5.get? v = some o := fun h => let ⟨o, e, _⟩ := F5.has (.inr ⟨_, h⟩); ⟨o, e⟩
      have cT : Hd.IsCell (L + 1) (some (.ref t)) := by rw [← q3]; exact Fd.cell "texts" _ rfl
      have cK : Hd.IsCell (L + 2) (some (.ref kr)) := Fd.cell "kept" _ rfl
      refine wpAny_mono (Q := fun b s => b = meets kp x ∧ ∃ He Te, s = St s0 He Te ∧ Keeps' Hd He) ?_ ?_ fun _ _ e => e
      · refine tests_one (cmpX (compE (s0 := s0) [("texts", L + 1), ("kept", L + 2), ("k", C + 1)] rfl (rangeIt (n := kp.length) (W.keeps kH) hu1.hh (by omega) (fun h' => callB (id := "len") (W.keeps kH) (by decide) (by decide +kernel) (it1 (ldc rfl cK (len_SL (hsr.at fun o => kd _ o) (by omega) h')))) fun J2 H7 T7 k7 nJ2 lJ2 wk3 it3 => ?_)))
        refine ⟨J2, H7, T7, kp.length, _, fun i vs Ha => IV vs (((List.range i).filter fun a => !meets1 kp x a).map Int.ofNat) ∧ Keeps' Hd Ha, [J2], _, rfl, rfl, wk3, it3, ?_, ?_, ⟨.nil, k7⟩, ?_, ?_⟩
        · intro y hy; cases List.mem_singleton.mp hy; exact lJ2
        · rw [sizeLine_eq]; omega
        · rintro a _ vs2 C2 D2 He Hf Tf m2 ha ⟨ta, rfl⟩ ⟨iv2, ke⟩ nC2 nD2 k3' nE hE _ _
          have kf := k3all k7 ke k3' nJ2 nC2 nD2
          have kHf := kall kH kf
          obtain ⟨ka, hka⟩ : ∃ ka, kp[a]? = some ka := ⟨_, List.getElem?_eq_getElem ha⟩
          obtain ⟨ca, hca⟩ : ∃ c, x.cps.toList[a]? = some c := ⟨_, List.getElem?_eq_getElem (by rw [Array.length_toList]; omega)⟩
          refine tests_one (cmpX (Subscript_ (ldc rfl (cellAt cK fun o => kf _ o) (ldv nE hE (sub_SL (hsr.at fun o e => kf _ o (kd _ o e)) hka (by omega) rfl fun u => ?_)))))
          refine newL (it2 (cstr fun u2 T8 => Subscript_ (Subscript_ (ldc rfl (cellAt cT fun o => kf _ o) (ldc rfl (cellAt hC fun o => kf _ o) (sub_SL (ht.at fun o => kHf _ o) hx (by omega) rfl fun u3 => ldv nE hE (sub_str rfl hx2 hca fun u4 T9 => ⟨_, _, rfl, two_le, fun nr H8 nnr k8 l8 => ?_⟩)))))))
          refine notin_list_strs (s := St s0 H8 T9) l8.isList (.cons _ _ (.cons _ _ .nil)) (wpAny_truthy_bool ?_)
          rw [meets1_eq hka hca]
          have fin : ∀ vs', IV vs' ((((List.range a).filter fun a => !meets1 kp x a) ++ if !meets1 kp x a then [a] else []).map Int.ofNat) → CompEnd s0 (fun i vs Ha => IV vs (((List.range i).filter fun a => !meets1 kp x a).map Int.ofNat) ∧ Keeps' Hd Ha) (a + 1) vs' [J2] C2 D2 Hf (St s0 H8 T9) := fun vs' hv =>
            ⟨H8, T9, rfl, ⟨by rw [filter_snoc]; exact hv, kall kf k8⟩, fun _ _ o e => k8 _ o e⟩
          split
          · rename_i hb
            exact ldv (nE.keeps k8) hE (fin _ (iv2.keepIf hb))
          · rename_i hb
            exact fin _ (iv2.dropIf (by simpa using hb))
        · rintro C2 D2 vs2 He Hf Tf m2 ⟨iv2, ke⟩ _ nC2 nD2 hDC k3' _ lD2
          refine RQ.of hDC k3' lD2 fun h' k3'' l => ?_
          have kf := k3all k7 ke k3'' nJ2 nC2 nD2
          refine newL (wpAny_items_nil ⟨_, _, rfl, Nat.zero_le _, fun e0 H9 ne k9 l9 => eqNil (l.at fun o => k9 _ o) l9 hu1.un (wpAny_truthy_bool ⟨?_, _, _, rfl, kall kf k9⟩)⟩)
          have := iv2.length
          rw [List.length_map] at this
          unfold meets
          rw [List.size_toArray, this]
          cases (List.range kp.length).filter fun a => !meets1 kp x a <;> simp
      · rintro b _ ⟨rfl, He, Te, rfl, ke⟩
        have fin : ∀ vs', IV vs' ((((rows.take j).filter fun k => meets kp (ts.getD k (Str.ofString ""))) ++ if meets kp x then [k] else []).map Int.ofNat) →
            CompEndK s0 (fun i vs Ha => IV vs (((rows.take i).filter fun k => meets kp (ts.getD k (Str.ofString ""))).map Int.ofNat) ∧ Keeps' H5 Ha) (j + 1) vs' [J, r] C D Hd (St s0 He Te) := fun vs' hv =>
          ⟨He, Te, rfl, ⟨by rw [filter_take hk2]; simp only [hxd]; exact hv, kall kd ke⟩, fun _ _ o e => ke _ o e⟩
        split
        · rename_i hb
          exact ldc rfl (cellAt hC fun o => ke _ o) (fin _ (iv.keepIf hb))
        · rename_i hb
          exact fin _ (iv.dropIf (by simpa using hb))
    · rintro C D vs Hc Hd Td ⟨iv, kc⟩ _ nC nC' nD hDC k4' lD
      refine RQ.ofK hDC k4' lD fun h' k4'' l => ?_
      have kd := k4all k6 kc k4'' nJ nC nC' nD
      rw [List.take_of_length_le (Nat.le_refl _)] at iv
      obtain ⟨xs, ys, lx, ly, sx, sy, cat⟩ := (q5c.at fun o => kd _ o).add (iv.il l)
      refine addL lx ly ?_ fun nr H8 nnr k8 l8 => stl ((F5.keeps kd).keeps k8) fun H9 T9 F9 s9 => nilX ⟨H9, T9, rfl, .mk F9 q1 q2 q3 rfl ?_ ?_ ?_ ?_, ?_⟩
      · rw [sx, sy, List.length_map, List.length_map, sizeLine_eq]
        have h1 := deal_len rows ts (rds.take i)
        have h2 := List.length_filter_le (fun k => meets kp (ts.getD k (Str.ofString ""))) rows
        have h3 : (rds.take i).length * rows.length ≤ 99 * 99 := Nat.mul_le_mul (by rw [List.length_take]; omega) hz1
        omega
      · rw [deal_take hkp, List.map_append]
        exact (cat _ _ l8).at fun o e => s9.extBut _ o (Ne.symm ((F5.keeps kd).new (.inl rfl) nnr)) e
      · exact none_back (kall k5 kd) nnr
      · exact Ne.symm (some_ne (kd _ _ (s5.extBut _ _ (Ne.symm (F3.new (.inr ⟨"kept", rfl⟩) nI)) iI.1.choose_spec.1)) nnr)
      · exact fun y o e => s9.extBut y o (some_ne e nL) (k8 _ _ (kd _ _ (k5 _ _ e)))
      · intro y hy o e
        have hw : ∀ b, FrC.own L (cellsOf 19 L) b → y ≠ b := fun b w => by
          rcases List.mem_cons.mp hy with rfl | hy
          · exact Ne.symm (F3.new w nI)
          · cases List.mem_singleton.mp hy; exact Ne.symm (F3.ne_ls w lg)
        exact s9.extBut y o (hw _ (.inl rfl)) (k8 _ _ (kd _ _ (s5.extBut y o (hw _ (.inr ⟨"kept", rfl⟩)) e)))
  · rintro Ha Hb Tb ⟨F, q1, q2, q3, q4, q5, q6, q7, q8⟩ kI
    rename_i m cm d
    rw [List.take_of_length_le (Nat.le_refl _)] at q5
    exact retX (ldl (F.keep fun b' o w e => kI b' o (F3.new w nI) e) q4 (h _ _ _ (kbut q8 kI nI0) q6 (q5.at fun o => kI _ o q7)))
end
end Mine
end
section
set_option maxRecDepth 100000
set_option Elab.async false
namespace Mine
open PySem PySem.W PySem.Calls PyProof.Rows

namespace FAp
theorem lk : typeLookup (.type "list") "append" = pure (some (.builtin "list.append")) := F.slot_list_append.lookup
theorem md_get : typeLookup (.type "method_descriptor") "__get__" = pure (some (.builtin "method_descriptor.__get__")) := by rw [typeLookup_type, builtinLookup_eq_fast]; kernel_rfl
theorem md_set : typeLookup (.type "method_descriptor") "__set__" = pure none := by rw [typeLookup_type, builtinLookup_eq_fast]; kernel_rfl
theorem md_del : typeLookup (.type "method_descriptor") "__delete__" = pure none := by rw [typeLookup_type, builtinLookup_eq_fast]; kernel_rfl
theorem slot_get : Slot "method_descriptor" "__get__" "method_descriptor.__get__" :=
  .of (owner := "method_descriptor") (n := "__get__") (by rw [typeLookup_type, builtinLookup_eq_fast]; kernel_rfl) (by decide +kernel) (by decide +kernel) (by decide +kernel)
    (by first | exact .inl (by decide +kernel) | exact .inr (by decide +kernel)) (by rw [isSubtype_type]; kernel_rfl)
theorem entry_get : entryFor table "method_descriptor.__get__" = some Builtin.«method_descriptor.__get__» := entryFor_of_tree (by kernel_rfl)
theorem args_get (a b c : Value) : argsOk "method_descriptor.__get__" ⟨[a, b, c], []⟩ := by unfold argsOk; kernel_rfl
theorem told : Manifest.toldItsClass.contains "list.append" = false := by decide +kernel
theorem cutN : ("list.append".cutAt '.').getLastD "" = "append" := by decide +kernel
theorem cutC : ".".intercalate ("list.append".cutAt '.').dropLast = "list" := by decide +kernel
theorem sub : isSubtype (.type "list") (.type "list") = pure true := by rw [isSubtype_type]; kernel_rfl
end FAp

/-- the method of a list that stands at r -/
def ApAt (h : Heap) (r l : Addr) : Prop := h.get? r = some { cls := .type "builtin_function_or_method", data := .fields #[.builtin "list.append", .ref l] }

section
variable {prog : Program} {w : World} {A : Around} {E : Value → Shared → Prop} {h : Heap} {g : Array GenState} {d : Drawn} {t : Nat} {os : OsState} {l : Addr} {items : Array Value} {n : Nat}
theorem ap_get {R : Result → Shared → Prop} (ho : IsL h l items n)
    (hq : R (.ok (.ret (.ref h.objs.size))) ⟨h.push { cls := .type "builtin_function_or_method", data := .fields #[.builtin "list.append", .ref l] }, g, d, t, os⟩) :
    codeAny (model prog w) A (.call (.builtin "method_descriptor.__get__") ⟨[.builtin "list.append", .ref l, .type "list"], []⟩) R ⟨h, g, d, t, os⟩ := by
  have hT : (⟨h, g, d, t, os⟩ : Shared).TypeIs (.ref l) "list" := ⟨_, ho, rfl⟩
  have hTd : (⟨h, g, d, t, os⟩ : Shared).TypeIs (.builtin "list.append") "method_descriptor" := F.type_list_append
  have f8 : isSubtype (.type "list") (.type (".".intercalate ("list.append".cutAt '.').dropLast)) = pure true := by rw [FAp.cutC]; exact FAp.sub
  refine codeAny_call_builtin FAp.slot_get.plain FAp.entry_get (FAp.slot_get.check _ _ _ _ _ _ _ _ hTd (FAp.args_get _ _ _) ?_)
  unfold Builtin.«method_descriptor.__get__»
  repeat (any_goals (first | assumption | wp_step))
theorem ap_entry {tk : Tok} {Q : Fin → Shared → Prop} (ho : IsL h l items n)
    (hq : Q (.done (.ret (.ref h.objs.size))) ⟨h.push { cls := .type "builtin_function_or_method", data := .fields #[.builtin "list.append", .ref l] }, g, d, t, os⟩) :
    wpAny (model prog w) A (Builtin.«object.__getattribute__» ⟨[.ref l, .str "append" tk], []⟩) Q E ⟨h, g, d, t, os⟩ := by
  have hT : (⟨h, g, d, t, os⟩ : Shared).TypeIs (.ref l) "list" := ⟨_, ho, rfl⟩
  have hTd : (⟨h, g, d, t, os⟩ : Shared).TypeIs (.builtin "list.append") "method_descriptor" := F.type_list_append
  have f1 := FAp.lk
  have f2 := F.type_list_append
  have f5 := FAp.md_get
  have f6 := FAp.md_set
  have f7 := FAp.md_del
  unfold Builtin.«object.__getattribute__»
  repeat (any_goals (first | assumption | wp_step))
  refine ap_get ho ?_
  repeat (any_goals (first | assumption | wp_step))
theorem ap_call {tk : Tok} {R : Result → Shared → Prop} (ho : IsL h l items n)
    (hq : R (.ok (.ret (.ref h.objs.size))) ⟨h.push { cls := .type "builtin_function_or_method", data := .fields #[.builtin "list.append", .ref l] }, g, d, t, os⟩) :
    codeAny (model prog w) A (.call (.builtin "list.__getattribute__") ⟨[.ref l, .str "append" tk], []⟩) R ⟨h, g, d, t, os⟩ :=
  codeAny_call_builtin F.slot_list_getattribute.plain F.entry_list_ga (F.slot_list_getattribute.check _ _ _ _ _ _ _ _ (show (⟨h, g, d, t, os⟩ : Shared).TypeIs (.ref l) "list" from ⟨_, ho, rfl⟩) (F.args_list_getattribute_2 _ _) (ap_entry ho hq))
end

section
variable {prog : Program} {w : World} {A : Around} {E : Value → Shared → Prop} {s0 : Shared} {H : Heap} {T : Nat} {mg mb : Str → Option Value} {env : Env}
set_option maxHeartbeats 4000000 in
theorem get_append {l : Addr} {items : Array Value} {Q : Value → Shared → Prop} (hl : Ls H l items) (h : ∀ r H' T', H.get? r = none → Keeps' H H' → ApAt H' r l → Q (.ref r) (St s0 H' T')) :
    wpAny (model prog w) A (getAttr (.ref l) "append" true) Q E (St s0 H T) := by
  obtain ⟨n, ho⟩ := hl
  have h' := fun T' => h _ _ T' (none_of_le (Nat.le_refl _)) (fun _ _ e => Heap.get?_push_of_some _ e) (Heap.get?_push_size _ rfl)
  obtain ⟨hp, g, d, tk, os⟩ := s0
  unfold St at h' ⊢
  have hT : ∀ tk', (⟨H, g, d, tk', os⟩ : Shared).TypeIs (.ref l) "list" := fun _ => ⟨_, ho, rfl⟩
  have f3 := F.slot_list_getattribute.lookup
  have f4 := F.slot_list_getattribute.bind (.ref l)
  unfold getAttr getAttrBy
  repeat (any_goals (first | assumption | exact hT _ | wp_step))
  exact ap_call ho (wpAny_pure (h' _))
end
end Mine
end
section
set_option maxRecDepth 100000
set_option Elab.async false
namespace Mine
open PySem PySem.W PySem.Calls PyProof.Rows

section
variable {prog : Program} {w : World} {A : Around} {E : Value → Shared → Prop} {s0 : Shared} {H : Heap} {T : Nat} {mg mb : Str → Option Value} {env : Env}
theorem check_append {M : Model} {l : Addr} {n : Nat} {items : Array Value} {v : Value} {Q : Unit → Shared → Prop} (ho : IsL H l items n) (h : Q () (St s0 H T)) :
    wpAny M A (checkBoundCall "list.append" ⟨[.ref l, v], []⟩) Q E (St s0 H T) := by
  have hT : (St s0 H T).TypeIs (.ref l) "list" := ⟨_, ho, rfl⟩
  unfold checkBoundCall
  repeat (any_goals (first | assumption | wp_step))
  rw [show isSubtype (.type "list") (.type "module") = pure false by rw [isSubtype_type]; kernel_rfl]
  refine wpAny_pure ?_
  rw [show Manifest.varargsMethods.contains "list.append" = false by decide +kernel, Bool.or_false, if_neg Bool.false_ne_true]
  refine wpAny_bind (m := isType (.ref l)) (wpAny_bind (wpAny_loadPart (s := St s0 H T) ho (wpAny_pure ?_)))
  dsimp only
  rw [if_neg Bool.false_ne_true]
  refine wpAny_bind (wpAny_typeOf hT ?_)
  refine wpAny_of_eq (a := ()) ?_ h
  kernel_rfl
/-- a call of the method that stands at r -/
theorem call_append {r l : Addr} {items : Array Value} {v : Value} {Q : Value → Shared → Prop} (ha : ApAt H r l) (hl : Ls H l items) (hz : items.size ≤ sizeLine) (h : ∀ h', Ls h' l (items.push v) → Heap.SameBut l H h' → Q .none (St s0 h' T)) :
    wpAny (model prog w) A (call (.ref r) [v] []) Q E (St s0 H T) := by
  obtain ⟨n, ho⟩ := hl
  have h' := h (H.update l (Obj.mapSeq fun xs => xs.push v)) ⟨_, ho.update fun xs => xs.push v⟩ (Heap.SameBut.update ..)
  refine wpAny_call (codeAny_of_tree ?_)
  show wpAny _ _ (callAny (.ref r) _) _ _ _
  simp only [callAny]
  refine wpAny_bind (wpAny_load (s := St s0 H T) ha ?_)
  dsimp only
  refine wpAny_bind (check_append ho (wpAny_pure ⟨plainId_quiet F.slot_list_append.plain _, codeAny_builtin F.entry_list_append ?_⟩))
  rw [Around.under_plainId F.slot_list_append.plain _]
  exact list_append l items n v hz prog w _ (wants Q E) (St s0 H T) ⟨ho, h'⟩
end
end Mine
end
section
set_option maxRecDepth 100000
set_option Elab.async false
namespace Mine
open PySem PySem.W PySem.Calls PyProof.Rows

section
variable {prog : Program} {w : World} {A : Around} {E : Value → Shared → Prop} {s0 : Shared} {H : Heap} {T : Nat} {mg mb : Str → Option Value} {env : Env} {s : Shared}
/-- o.name(e, ..), the method a built-in one -/
theorem methM {o e : Expr} {rest : List Expr} {name : Str} {ty id : String} {apos pos : Pos} {Q : Value → Shared → Prop} (pa : PlainAttrs ty) (slot : Slot ty name id) (hty : typeOf (.builtin id) = pure (.type "method_descriptor"))
    (h : wpAny (model prog w) A (eval o env) (fun ov s₁ => s₁.TypeIs ov ty ∧ (∀ a, ov = .ref a → ∃ ob, s₁.heap.get? a = some ob ∧ ob.dict = none) ∧
      wpAny (model prog w) A (spliced (backTo pos (starEach (e :: rest) env))) (fun vs s₂ => wpAny (model prog w) A (call (.builtin id) (ov :: vs) []) Q E s₂) E s₁) E s)
    (hs : starEach (e :: rest) env = (false, eval e env) :: starEach rest env := by rfl) (hplain : (backTo pos (starEach rest env)).any (·.1) = false := by rfl)
    (hbase : attributeBase o name env (eval o env) = eval o env := by rfl) (hline : (apos.endLine == pos.line) = true := by rfl)
    (hfew : ((backTo pos (starEach (e :: rest) env)).all (fun x => !x.1) && (backToKw pos (keywordEach [] env)).all (fun x => x.1.isSome) && decide ((e :: rest).length + ([] : List Keyword).length + (if ([] : List Keyword).isEmpty then 0 else 1) < 30)) = true := by rfl) :
    wpAny (model prog w) A (eval (.Call (.Attribute o name apos) (e :: rest) [] pos) env) Q E s := by
  refine wpAny_Call_method hbase hfew hline pa slot hty (wpAny_mono h (fun ov s₁ q => ⟨q.1, q.2.1, ?_⟩) fun _ _ e => e)
  have q3 := q.2.2
  rw [hs] at q3 ⊢
  exact callWith_builtin (by show (false || (backTo pos (starEach rest env)).any (·.1)) = false; rw [hplain]; rfl) (evalArgs_plain q3)
theorem strRecv {x : Str} {t : Tok} : s.TypeIs (.str x t) "str" ∧ ∀ a, Value.str x t = .ref a → ∃ ob, s.heap.get? a = some ob ∧ ob.dict = none := ⟨typeIs_str _ _ _, nofun⟩
/-- add(e), add the method of a list -/
theorem appC {x : Str} {r l : Addr} {p pos : Pos} {e : Expr} {m} {Q : Value → Shared → Prop} (hn : H.Ns env.locals m) (hv : m x = some (.ref r))
    (h : wpAny (model prog w) A (eval e env) (fun v s₁ => ∃ H1 T1 items, s₁ = St s0 H1 T1 ∧ ApAt H1 r l ∧ Ls H1 l items ∧ items.size ≤ sizeLine ∧ ∀ h', Ls h' l (items.push v) → Heap.SameBut l H1 h' → Q .none (St s0 h' T1)) E (St s0 H T))
    (hk : env.scope.kind = .function := by rfl) (hloc : env.kindOf x = some .local := by rfl) (hd : (x == ("__debug__" : Str)) = false := by decide)
    (hs : starEach [e] env = [(false, eval e env)] := by rfl) :
    wpAny (model prog w) A (eval (.Call (.Name x p) [e] [] pos) env) Q E (St s0 H T) := by
  refine wpAny_Call_Name_kw (ldv hn hv ?_ hk hloc hd)
  rw [hs]
  unfold callWith
  refine wpAny_bind (wpAny_holding (evalArgs_plain (spliced_cons (wpAny_mono h (fun v s₁ q => ?_) fun _ _ e => e))))
  obtain ⟨H1, T1, items, rfl, ha, hl, hz, q⟩ := q
  refine spliced_nil (wpAny_bind (wpAny_standAt ?_))
  refine wpAny_bind (m := keeperOf (.ref r)) (wpAny_bind (wpAny_load (s := St s0 H1 T1) ha (wpAny_pure ?_)))
  exact wpAny_bind (call_append ha hl hz fun h' l' s' => wpAny_bind (wpAny_holding (wpAny_point (wpAny_pure (q h' l' s')))))
/-- x, y = e1, e2 -/
theorem asg2X {x y : Str} {px py tp vp pos : Pos} {k k' : Nat} {e1 e2 : Expr} {rest : List Stmt} {Q : Flow → Shared → Prop} (hh : A.handled = none)
    (h : wpAny (model prog w) A (eval e1 env) (fun v1 s₁ => wpAny (model prog w) A (eval e2 env) (fun v2 s₂ => ∃ H1 T1, s₂ = St s0 H1 T1 ∧ ∀ H2, Keeps' H1 H2 → wpAny (model prog w) A (storeName env y v2) (fun _ s₃ => wpAny (model prog w) A (storeName env x v1) (fun _ s₄ => wpAny (model prog w) A (execs rest env) Q E s₄) E s₃) E (St s0 H2 T1)) E s₁) E s)
    (hs : swapsWithSole [.Tuple [.Name x px, .Name y py] k tp] (.Tuple [e1, e2] k' vp) pos.line env = pure false := by rfl)
    (hw : swappedStores [.Tuple [.Name x px, .Name y py] k tp] (.Tuple [e1, e2] k' vp) env = pure (some [x, y]) := by rfl)
    (he1 : starEach [e1, e2] env = (false, eval e1 env) :: starEach [e2] env := by rfl) (he2 : starEach [e2] env = (false, eval e2 env) :: starEach [] env := by rfl) :
    wpAny (model prog w) A (execs (.Assign [.Tuple [.Name x px, .Name y py] k tp] (.Tuple [e1, e2] k' vp) pos :: rest) env) Q E s := by
  refine wpAny_execs_cons (Assign_Tuple_swapped (names := [x, y]) (newT (s0 := s0) (it2 (wpAny_mono h (fun v1 s₁ q => wpAny_mono q (fun v2 s₂ q => ?_) fun _ _ e => e) fun _ _ e => e) he1 he2)) hs hw)
  obtain ⟨H1, T1, rfl, q⟩ := q
  refine ⟨_, _, rfl, two_le, fun r H2 nr k2 t2 => ?_⟩
  refine unpackItems_tuple (s := St s0 H2 T1) (items := [v1, v2].toArray) hh ⟨_, t2, rfl, _, rfl⟩ fun h' x' => ?_
  have k3 : Keeps' H1 h' := fun b o e => x' b o (Nat.ne_of_lt (Heap.lt_size (k2 _ _ e))) (k2 _ _ e)
  exact assignInOrder_cons (bindName_ (wpAny_mono (q h' k3) (fun _ s₃ q => assignInOrder_cons (bindName_ (wpAny_mono q (fun _ s₄ q => assignInOrder_nil q) fun _ _ e => e))) fun _ _ e => e))
/-- slices -/
theorem eval_Slice2 {e1 e2 : Option Expr} {p : Pos} {Q : Value → Shared → Prop}
    (h : wpAny (model prog w) A (valueOrNone (evalOpt e1 env)) (fun l s₁ => wpAny (model prog w) A (valueOrNone (evalOpt e2 env)) (fun u s₂ => Q (.ref s₂.heap.objs.size) { s₂ with heap := s₂.heap.push { cls := .type "slice", data := .fields #[l, u, .none] } }) E s₁) E s) :
    wpAny (model prog w) A (eval (.Slice e1 e2 none p) env) Q E s := by
  rw [arm_eval_Slice]
  refine wpAny_bind (wpAny_mono h (fun l s₁ q => wpAny_bind (wpAny_holding (wpAny_mono q (fun u s₂ q => ?_) fun _ _ e => e))) fun _ _ e => e)
  exact wpAny_bind (wpAny_holding (wpAny_pure (wpAny_newObj_type q)))
theorem keptK {H : Heap} : KeptH (Keeps' H) := fun _ _ k b o e => Heap.get?_push_of_some _ (k b o e)
theorem sl_ss {value e1 e2 : Expr} {p pos : Pos} {Q : Value → Shared → Prop}
    (h : wpAny (model prog w) A (eval value env) (fun o s₁ => wpAny (model prog w) A (eval e1 env) (fun l s₂ => wpAny (model prog w) A (eval e2 env) (fun u s₃ => ∃ x t i ti j tj H T, o = .str x t ∧ l = .int i ti ∧ u = .int j tj ∧ s₃ = St s0 H T ∧ x.length ≤ sizeLine ∧
      ∀ h' t' k, Keeps' H h' → Q (.str (Txt.slice x (some i) (some j)) t') (St s0 h' k)) E s₂) E s₁) E s)
    (ht : ∀ o r, letTemporaryGo value o r = pure () := by intro _ _; rfl) :
    wpAny (model prog w) A (eval (.Subscript value (.Slice (some e1) (some e2) none p) pos) env) Q E s := by
  refine Subscript_Slice (wpAny_mono h (fun o s₁ q => eval_Slice2 (wpAny_mono q (fun l s₂ q => wpAny_mono q (fun u s₃ q => ?_) fun _ _ e => e) fun _ _ e => e)) fun _ _ e => e) ht
  obtain ⟨x, t, i, ti, j, tj, H, T, rfl, rfl, rfl, rfl, hz, q⟩ := q
  exact SBH.sliceItem_ss (s := St s0 H T) (P := Keeps' H) (hsz := hz) keptK (fun _ _ e => e) q
theorem sl_sn {value e1 : Expr} {p pos : Pos} {Q : Value → Shared → Prop}
    (h : wpAny (model prog w) A (eval value env) (fun o s₁ => wpAny (model prog w) A (eval e1 env) (fun l s₃ => ∃ x t i ti H T, o = .str x t ∧ l = .int i ti ∧ s₃ = St s0 H T ∧ x.length ≤ sizeLine ∧
      ∀ h' t' k, Keeps' H h' → Q (.str (Txt.slice x (some i) none) t') (St s0 h' k)) E s₁) E s)
    (ht : ∀ o r, letTemporaryGo value o r = pure () := by intro _ _; rfl) :
    wpAny (model prog w) A (eval (.Subscript value (.Slice (some e1) none none p) pos) env) Q E s := by
  refine Subscript_Slice (wpAny_mono h (fun o s₁ q => eval_Slice2 (wpAny_mono q (fun l s₃ q => wpAny_pure ?_) fun _ _ e => e)) fun _ _ e => e) ht
  obtain ⟨x, t, i, ti, H, T, rfl, rfl, rfl, hz, q⟩ := q
  exact SBH.sliceItem_sn (s := St s0 H T) (P := Keeps' H) (hsz := hz) keptK (fun _ _ e => e) q
theorem sl_ns {value e2 : Expr} {p pos : Pos} {Q : Value → Shared → Prop}
    (h : wpAny (model prog w) A (eval value env) (fun o s₁ => wpAny (model prog w) A (eval e2 env) (fun u s₃ => ∃ x t j tj H T, o = .str x t ∧ u = .int j tj ∧ s₃ = St s0 H T ∧ x.length ≤ sizeLine ∧
      ∀ h' t' k, Keeps' H h' → Q (.str (Txt.slice x none (some j)) t') (St s0 h' k)) E s₁) E s)
    (ht : ∀ o r, letTemporaryGo value o r = pure () := by intro _ _; rfl) :
    wpAny (model prog w) A (eval (.Subscript value (.Slice none (some e2) none p) pos) env) Q E s := by
  refine Subscript_Slice (wpAny_mono h (fun o s₁ q => eval_Slice2 (wpAny_pure (wpAny_mono q (fun u s₃ q => ?_) fun _ _ e => e))) fun _ _ e => e) ht
  obtain ⟨x, t, j, tj, H, T, rfl, rfl, rfl, hz, q⟩ := q
  exact SBH.sliceItem_ns (s := St s0 H T) (P := Keeps' H) (hsz := hz) keptK (fun _ _ e => e) q
/-- the sum of two texts that are not empty -/
theorem sadd {x y : Str} {t u : Tok} {Q : Value → Shared → Prop} (hx : x.length ≠ 0) (hy : y.length ≠ 0) (hz : x.length + y.length ≤ sizeLine) (h : ∀ t T', Q (.str (x ++ y) t) (St s0 H T')) : wpAny (model prog w) A (binaryOp .Add (.str x t) (.str y u)) Q E (St s0 H T) := by
  refine P.add_str ?_
  rw [if_neg (by simpa using hx), if_neg (by simpa using hy)]
  exact ⟨by rw [Str.length_append]; exact hz, h _ _⟩
/-- a field of an f-string that is a text -/
theorem fmtF {value : Expr} {pos : Pos} {Q : Value → Shared → Prop}
    (h : wpAny (model prog w) A (eval value env) (fun v s₁ => ∃ x t H T, v = .str x t ∧ s₁ = St s0 H T ∧ x.length ≤ sizeLine ∧ ∀ t' T', Q (.str x t') (St s0 H T')) E s) : wpAny (model prog w) A (eval (.FormattedValue value (-1) none pos) env) Q E s := by
  refine FormattedValue_plain (wpAny_mono h (fun v s₁ q => ?_) fun _ _ e => e)
  obtain ⟨x, t, H, T, rfl, rfl, hz, q⟩ := q
  exact formatField_str (s := St s0 H T) (hsz := hz) fun t' tk => q t' tk
end
end Mine
end
section
set_option maxRecDepth 100000
set_option Elab.async false
namespace Mine
open PySem PySem.W PySem.Calls PyProof.Rows

theorem sub_key_lookup : isSubtype (.type "KeyError") (.type "LookupError") = pure true := by rw [isSubtype_type]; kernel_rfl

theorem sub_str_str : isSubtype (.type "str") (.type "str") = pure true := by rw [isSubtype_type]; kernel_rfl
section
variable {prog : Program} {w : World} {A : Around} {E : Value → Shared → Prop} {s0 : Shared} {H : Heap} {T : Nat} {mg mb : Str → Option Value} {env : Env} {s : Shared}
theorem table_miss {d : Addr} {f : Int → Option Value} {c : Nat} {Q : Builtin.Str.Mapped → Shared → Prop} (hd : (d == sysModules) = false) (hh : A.handled = none) (hm : H.MapOf (intKind prog w) d f) (hv : f c = none)
    (h : ∀ H' T', Keeps' H H' → Q .keep (St s0 H' T')) : wpAny (model prog w) A (Builtin.Str.tableLookup (.ref d) c) Q E (St s0 H T) := by
  unfold Builtin.Str.tableLookup
  refine wpAny_bind (wpAny_attempt (wpAny_bind (wpAny_mkInt ?_)))
  refine wpAny_getItem_missing_of (s := St s0 H (T + 1)) (intKind_is prog w c T) hd hh hm hv fun h' e x => ?_
  obtain ⟨ob, t, he, hc, _⟩ := x.there
  refine wpAny_bind (wpAny_isInstance (T := "KeyError") ⟨_, he, hc⟩ sub_key_lookup ?_)
  rw [if_pos rfl]
  exact wpAny_bind (wpAny_rule (wpAny_pure (h h' _ x.keeps)))
theorem translate_one {d : Addr} {f : Int → Option Value} {c : Nat} {t : Tok} {Q : Value → Shared → Prop} (hc : c < 128) (hd : (d == sysModules) = false) (hh : A.handled = none) (hm : H.MapOf (intKind prog w) d f) (hv : f c = none)
    (h : ∀ H' t' T', Keeps' H H' → Q (.str ⟨#[c]⟩ t') (St s0 H' T')) : wpAny (model prog w) A (call (.builtin "str.translate") [.str ⟨#[c]⟩ t, .ref d]) Q E (St s0 H T) := by
  refine wpAny_call_entry F.slot_str_translate (typeIs_str _ _ _) F.entry_str_translate ?_ (F.args_str_translate_2 _ _)
  unfold Builtin.«str.translate»
  refine wpAny_bind (wpAny_of_eq (a := (.str ⟨#[c]⟩ t, ⟨#[c]⟩, .ref d)) rfl ?_)
  dsimp only
  rw [if_neg (show ¬ (((⟨#[c]⟩ : Str).length == 0) = true) from (show ¬ ((1 == 0) = true) by decide))]
  have hf : (#[c] : Array Nat).all (fun x => decide (x < 128)) = true := by simpa using hc
  rw [hf]
  refine wpAny_bind ?_
  rw [← Array.forIn_toList]
  show wpAny _ _ (forIn [c] _ _) _ _ _
  rw [List.forIn_cons]
  refine wpAny_bind ?_
  dsimp only
  rw [if_neg (show ¬ (Builtin.Str.tooLong 0 = true) by decide), if_pos rfl]
  show wpAny _ _ (Builtin.Str.tableLookup (.ref d) c >>= _) _ _ _
  refine wpAny_bind (table_miss hd hh hm hv fun H' T' k => ?_)
  refine wpAny_bind (wpAny_pure (wpAny_pure ?_))
  dsimp only
  rw [List.forIn_nil]
  refine wpAny_pure ?_
  dsimp only
  rw [if_neg (show ¬ (Builtin.Str.tooLong (0 + 1) = true) by decide)]
  exact wpAny_bind (wpAny_mkStr (wpAny_pure ⟨_, rfl, h _ _ _ k⟩) (by show 1 ≤ sizeLine; exact one_le))
/-- the table of escapes: no entry at 33 -/
def SpAt (prog : Program) (w : World) (mg : Str → Option Value) (H : Heap) : Prop := ∃ d f, mg "_special_chars_map" = some (.ref d) ∧ (d == sysModules) = false ∧ H.MapOf (intKind prog w) d f ∧ f 33 = none
theorem escape_call {f : Addr} {t : Tok} {Q : Value → Shared → Prop} (W : Wd mg mb H) (S : SpAt prog w mg H) (hf : mg (nameOf (stm 11)) = some (.ref f)) (hu : AOk A 1 3)
    (h : ∀ H' t' T', Keeps' H H' → Q (.str ⟨#[33]⟩ t') (St s0 H' T')) : wpAny (model prog w) A (call (.ref f) [.str ⟨#[33]⟩ t] []) Q E (St s0 H T) := by
  obtain ⟨pm, cd, doc, hfn⟩ := W.at 11 hf
  refine callF 11 [("pattern", .str ⟨#[33]⟩ t)] (hu.le (d' := 0) (u' := 0)).dep W.lim hfn rfl (locs rfl) fun H1 L T1 hn k1 hL => ?_
  have hu1 : AOk (A.deeper (envP 11 L f cd)) 0 0 := hu.deeper _
  have W1 := W.keeps k1
  obtain ⟨d, g, hd, hs, hm, hg⟩ := S
  have hm1 : H1.MapOf (intKind prog w) d g := let ⟨o, es, ep, e, r⟩ := hm; ⟨o, es, ep, k1 _ _ e, r⟩
  refine ifX (wpAny_isTrue_value (callB (id := "isinstance") W1 (by decide) (by decide +kernel) (it2 (ldv hn rfl (ldb W1 (by decide) (v := .type "str") (by decide +kernel) (call_isinstance_yes (typeIs_str _ _ _) rfl sub_str_str (wpAny_truthy_bool ?_)))))) (by rfl))
  exact retX (methM F.plainAttrs_str F.slot_str_translate F.type_str_translate (ldv hn rfl ⟨strRecv.1, strRecv.2, it1 (ldg W1.g hd (translate_one (by decide) hs hu1.hh hm1 hg fun H' t' T' k => h H' t' T' (kall k1 k)))⟩))
end
end Mine
end
section
set_option maxRecDepth 100000
set_option Elab.async false
namespace Mine
open PySem PySem.W PySem.Calls PyProof.Rows PySem.Builtin.Re

def reCode : Array Nat := #[14, 14, 4, 1, 1, 9, 0, 64, 0, 1342177280, 0, 0, 0, 0, 0, 17, 0, 13, 11, 9, 0, 64, 0, 1342177280, 0, 0, 0, 0, 0, 17, 1, 1]
/-- the pattern of fnmatch -/
def ReAt (mg : Str → Option Value) (H : Heap) : Prop := ∃ a q xs n vs o, mg "_twin_re_1" = some (.ref a) ∧ H.get? a = some { cls := .type "re.Pattern", data := .fields vs } ∧ reRawNat (vs.getD 6 .none) = 0 ∧ reRawNat (vs.getD 2 .none) = 1 ∧
  vs.getD 5 .none = .ref q ∧ H.get? q = some o ∧ o.data = .seq xs n ∧ (xs.map reRawOf).map (·.toNat) = reCode

namespace FRe
theorem plainAttrs : PlainAttrs "re.Pattern" :=
  ⟨⟨"object.__getattribute__", by rw [typeLookup_type, builtinLookup_eq_fast]; kernel_rfl, by decide +kernel⟩, by rw [typeLookup_type, builtinLookup_eq_fast]; kernel_rfl⟩
theorem slot_sub : Slot "re.Pattern" "sub" "re.Pattern.sub" :=
  .of (owner := "re.Pattern") (n := "sub") (by rw [typeLookup_type, builtinLookup_eq_fast]; kernel_rfl) (by decide +kernel) (by decide +kernel) (by decide +kernel)
    (by first | exact .inl (by decide +kernel) | exact .inr (by decide +kernel)) (by rw [isSubtype_type]; kernel_rfl)
theorem type_sub : typeOf (.builtin "re.Pattern.sub") = pure (.type "method_descriptor") := by show builtinType _ = _; rw [builtinType_eq_fast]; kernel_rfl
theorem entry_sub : entryFor table "re.Pattern.sub" = some Builtin.«re.Pattern.sub» := entryFor_of_tree (by kernel_rfl)
theorem entry_loop : entryFor table "re.Pattern.sub.loop" = some Builtin.«re.Pattern.sub.loop» := entryFor_of_tree (by kernel_rfl)
theorem args_sub (a b c : Value) : argsOk "re.Pattern.sub" ⟨[a, b, c], []⟩ := by unfold argsOk; kernel_rfl
theorem plain_loop : plainId "re.Pattern.sub.loop" = true := by decide +kernel
theorem fn_call : typeLookup (.type "function") "__call__" = pure (some (.builtin "function.__call__")) := by rw [typeLookup_type, builtinLookup_eq_fast]; kernel_rfl
theorem sub_str_ba : isSubtype (.type "str") (.type "bytearray") = pure false := by rw [isSubtype_type]; kernel_rfl
end FRe

def fails (m : Sre.M) : Bool := match m.outcome, (m.runFor reTurnSteps).outcome with
  | none, some .failed => true
  | _, _ => false
theorem fails_of : ∀ c ∈ [42, 63, 91], fails (Sre.forSearch reCode #[c] 1 0 1 false) = true := by decide +kernel

section
variable {prog : Program} {w : World} {M : Model} {A : Around} {E : Value → Shared → Prop} {s0 : Shared} {H : Heap} {T : Nat} {mg mb : Str → Option Value} {env : Env} {s : Shared}
theorem rules_all {f : Nat → PUnit → Sem (ForInStep PUnit)} (hf : ∀ i (Q : ForInStep PUnit → Shared → Prop), Q (.yield ⟨⟩) s → wpAny M A (f i ⟨⟩) Q E s) : ∀ (l : List Nat) (Q : PUnit → Shared → Prop), Q ⟨⟩ s → wpAny M A (forIn l PUnit.unit f) Q E s
  | [], Q, h => by rw [List.forIn_nil]; exact wpAny_pure h
  | i :: l, Q, h => by
    rw [List.forIn_cons]
    exact wpAny_bind (hf i _ (rules_all hf l Q h))
theorem run_fail {m : Sre.M} {Q : Option Sre.M → Shared → Prop} (hm : fails m = true) (h : Q none s) : wpAny M A (reRunToEnd m) Q E s := by
  have h1 : (m.runFor reTurnSteps).outcome = some .failed := by
    unfold fails at hm
    split at hm
    · assumption
    · cases hm
  unfold reRunToEnd
  refine wpAny_bind ?_
  rw [show (2 : Nat) ^ 64 = (2 ^ 64 - 1) + 1 from by decide]
  show wpAny _ _ (if (m.runFor reTurnSteps).outcome.isSome = true then _ else _) _ _ _
  rw [show (m.runFor reTurnSteps).outcome.isSome = true by rw [h1]; rfl, if_pos rfl]
  refine wpAny_pure (wpAny_bind (rules_all (fun i Q hq => ?_) _ _ ?_))
  · split
    · exact wpAny_bind (wpAny_rule (wpAny_pure hq))
    · exact wpAny_pure hq
  · rw [h1]
    exact wpAny_pure h
end
end Mine
end
section
set_option maxRecDepth 100000
set_option Elab.async false
namespace Mine
open PySem PySem.W PySem.Calls PyProof.Rows PySem.Builtin.Re

section
variable {prog : Program} {w : World} {M : Model} {A : Around} {E : Value → Shared → Prop} {s0 : Shared} {H : Heap} {T : Nat} {mg mb : Str → Option Value} {env : Env} {s : Shared}
theorem whole_re {M : Model} {a q : Addr} {xs : Array Value} {n : Nat} {vs : Array Value} {o : Obj} {x : Str} {t : Tok} {Q : ReTarget → Shared → Prop} (ha : H.get? a = some { cls := .type "re.Pattern", data := .fields vs }) (h6 : reRawNat (vs.getD 6 .none) = 0) (h2 : reRawNat (vs.getD 2 .none) = 1)
    (h5 : vs.getD 5 .none = .ref q) (hq : H.get? q = some o) (hd : o.data = .seq xs n) (hc : (xs.map reRawOf).map (·.toNat) = reCode)
    (h : Q { pattern := .ref a, string := .str x t, code := reCode, text := x.cps, kind := 0, groups := 1, pos := 0, lim := x.cps.size } (St s0 H T)) : wpAny M A (reWholeTarget (.ref a) (.str x t)) Q E (St s0 H T) := by
  unfold reWholeTarget
  refine wpAny_bind (wpAny_fieldsOf (s := St s0 H T) ha rfl ?_)
  refine wpAny_bind (wpAny_of_eq (a := (x.cps, 0)) rfl ?_)
  simp only [h6, h2, h5]
  show wpAny _ _ (reNoCollectionInside _ 0 >>= _) _ _ _
  refine wpAny_bind (m := reNoCollectionInside _ 0) (wpAny_pure ?_)
  refine wpAny_bind (wpAny_bind (wpAny_seqItems (s := St s0 H T) hq hd (wpAny_pure ?_)))
  show wpAny _ _ (pure ({ pattern := .ref a, string := .str x t, code := (xs.map reRawOf).map (·.toNat), text := x.cps, kind := 0, groups := 1, pos := 0, lim := x.cps.size } : ReTarget)) _ _ _
  rw [hc]
  exact wpAny_pure h
theorem re_named {r x : Value} : reNamed "re.Pattern.sub" "sub" ["repl", "string", "count"] 2 [r, x] [] = pure [some r, some x, none] := by kernel_rfl
theorem sub_loop {r a D : Addr} {c : Nat} {t : Tok} {Q : Fin → Shared → Prop} (R : ReAt mg H) (ha : mg "_twin_re_1" = some (.ref a)) (lD : IsL H D #[] 0) (hc : c ∈ [42, 63, 91])
    (h : ∀ H' t' T', Heap.ExtBut D H H' → Q (.done (.ret (.str ⟨#[c]⟩ t'))) (St s0 H' T')) :
    wpAny (model prog w) A (Builtin.«re.Pattern.sub.loop» ⟨[.ref a, .str ⟨#[c]⟩ t, .ref r, rawInt 1, rawInt 0, rawInt 0, rawInt 0, rawInt 0, .bool false, .ref D, .bool false], []⟩) Q E (St s0 H T) := by
  obtain ⟨a', q, xs, n, vs, o, ha', h1, h6, h2, h5, hq, hd, hcode⟩ := R
  rw [ha] at ha'; cases ha'
  unfold Builtin.«re.Pattern.sub.loop»
  refine wpAny_bind (whole_re h1 h6 h2 h5 hq hd hcode ?_)
  dsimp only
  rw [if_neg (by decide)]
  refine wpAny_bind ?_
  rw [if_neg (by decide)]
  show wpAny _ _ (reRunToEnd (Sre.forSearch reCode #[c] 1 0 1 false)) _ _ _
  refine run_fail (fails_of c hc) ?_
  dsimp only
  rw [if_pos (show Int.toNat 0 < (#[c] : Array Nat).size from Nat.zero_lt_one)]
  show wpAny _ _ (mkStr ⟨#[c].extract 0 1⟩ >>= _) _ _ _
  rw [show (#[c] : Array Nat).extract 0 1 = #[c] by simp]
  refine wpAny_bind (wpAny_mkStr (s := St s0 H T) ?_ one_le)
  refine wpAny_bind (wpAny_updateSeq (s := St s0 H (T + 1)) lD rfl ?_)
  obtain ⟨H2, hH2⟩ : ∃ H2, H2 = H.update D (Obj.mapSeq fun x => x.push (.str ⟨#[c]⟩ T)) := ⟨_, rfl⟩
  have l2 : IsL H2 D (#[].push (.str ⟨#[c]⟩ T)) 1 := hH2 ▸ lD.update _
  have x2 : Heap.ExtBut D H H2 := hH2 ▸ (Heap.SameBut.update ..).extBut
  show wpAny _ _ (mkStr ⟨#[c].extract 0 0⟩ >>= _) _ _ (St s0 (H.update D (Obj.mapSeq fun x => x.push (.str ⟨#[c]⟩ T))) (T + 1))
  rw [← hH2, show (#[c] : Array Nat).extract 0 0 = #[] by simp]
  refine wpAny_bind (wpAny_mkStr (s := St s0 H2 (T + 1)) ?_ (Nat.zero_le _))
  refine wpAny_bind (wpAny_seqItems (s := St s0 H2 (T + 1 + 1)) l2 rfl ?_)
  dsimp only [Option.getD_some]
  rw [if_neg (by simp)]
  refine wpAny_bind ?_
  show wpAny _ _ (call (.builtin "str.join") [.str ⟨#[]⟩ (T + 1), .ref D]) _ _ (St s0 H2 (T + 1 + 1))
  refine SC.join (l := [(⟨#[c]⟩, T)]) l2.isList rfl (by show JoinOk ⟨#[]⟩ [⟨#[c]⟩] = true; simp only [List.mem_cons, List.mem_nil_iff, or_false] at hc; rcases hc with rfl | rfl | rfl <;> decide +kernel) fun t' k => wpAny_pure ?_
  have e : Txt.join ⟨#[]⟩ ([(⟨#[c]⟩, T)].map (·.1)) = (⟨#[c]⟩ : Str) := by
    have := join_cps [⟨#[c]⟩]
    rw [show Str.ofString "" = ⟨#[]⟩ by decide +kernel] at this
    cases hj : Txt.join ⟨#[]⟩ [(⟨#[c]⟩ : Str)] with
    | mk a => rw [hj] at this; simp [cps] at this; simp [hj, ← Array.toList_inj, this]
  rw [e]
  exact h _ _ _ x2
theorem sub_call {r : Addr} {a : Addr} {c : Nat} {t : Tok} {Q : Value → Shared → Prop} (R : ReAt mg H) (ha : mg "_twin_re_1" = some (.ref a)) (hr : (St s0 H T).TypeIs (.ref r) "function") (hc : c ∈ [42, 63, 91])
    (h : ∀ H' t' T', Keeps' H H' → Q (.str ⟨#[c]⟩ t') (St s0 H' T')) : wpAny (model prog w) A (call (.builtin "re.Pattern.sub") [.ref a, .ref r, .str ⟨#[c]⟩ t]) Q E (St s0 H T) := by
  obtain ⟨a', q, xs, n, vs, o, ha', h1, h6, h2, h5, hq, hd, hcode⟩ := R
  rw [ha] at ha'; cases ha'
  have hT : (St s0 H T).TypeIs (.ref a) "re.Pattern" := ⟨_, h1, rfl⟩
  refine wpAny_call (codeAny_call_builtin FRe.slot_sub.plain FRe.entry_sub (FRe.slot_sub.check _ _ _ _ _ _ _ _ hT (FRe.args_sub _ _ _) ?_))
  show wpAny _ _ (reSubstitute "re.Pattern.sub" "sub" false ⟨[.ref a, .ref r, .str ⟨#[c]⟩ t], []⟩) _ _ _
  unfold reSubstitute
  refine wpAny_bind (wpAny_of_eq re_named ?_)
  refine wpAny_bind (wpAny_pure ?_)
  refine wpAny_bind (wpAny_specialOf hr FRe.fn_call ?_)
  refine wpAny_bind (wpAny_pure ?_)
  refine wpAny_bind (wpAny_pure ?_)
  refine wpAny_bind (wpAny_holding (whole_re h1 h6 h2 h5 hq hd hcode ?_))
  dsimp only
  rw [if_pos (by decide)]
  refine wpAny_bind (wpAny_bind (wpAny_isInstance (typeIs_str _ _ _) FRe.sub_str_ba (wpAny_pure ?_)))
  obtain ⟨D, hD⟩ : ∃ D, D = H.objs.size := ⟨_, rfl⟩
  obtain ⟨G, hG⟩ : ∃ G, G = H.push { cls := .type "list", dict := none, data := .seq ([] : List Value).toArray } := ⟨_, rfl⟩
  have lD : IsL G D #[] 0 := by rw [hG, hD]; exact Heap.get?_push_size _ rfl
  have kG : Keeps' H G := fun b o e => hG ▸ Heap.get?_push_of_some _ e
  refine wpAny_bind (wpAny_newObj_type (wpAny_pure ⟨plainId_quiet FRe.plain_loop _, codeAny_builtin FRe.entry_loop ?_⟩))
  rw [Around.under_plainId FRe.plain_loop _]
  show wpAny _ A.in1 (Builtin.«re.Pattern.sub.loop» ⟨[.ref a, .str ⟨#[c]⟩ t, .ref r, rawInt 1, rawInt 0, rawInt 0, rawInt 0, rawInt 0, .bool false, .ref H.objs.size, .bool false], []⟩) _ _ (St s0 (H.push { cls := .type "list", dict := none, data := .seq ([] : List Value).toArray }) T)
  rw [← hD, ← hG]
  have RG : ReAt mg G := ⟨a, q, xs, n, vs, o, ha, kG _ _ h1, h6, h2, h5, kG _ _ hq, hd, hcode⟩
  exact sub_loop RG ha lD hc fun H' t' T' x => h H' t' T' fun b o e => x b o (fun e' => Nat.lt_irrefl _ (Nat.lt_of_lt_of_eq (Heap.lt_size e) (hD.symm.trans e'.symm))) (kG _ _ e)
end
end Mine
end
section
set_option maxRecDepth 100000
set_option Elab.async false
namespace Mine
open PySem PySem.W PySem.Calls PyProof.Rows

/-- all stands but the code table P, which may grow -/
structure Gr (P : Addr) (H H' : Heap) : Prop where
  but : Heap.ExtBut P H H'
  tab : ∀ ps, H.get? P = some (tabObj ps) → ∃ more, H'.get? P = some (tabObj (ps ++ more))
theorem Gr.of {P : Addr} {H H' : Heap} (k : Keeps' H H') : Gr P H H' := ⟨fun b o _ e => k b o e, fun ps e => ⟨#[], by rw [Array.append_empty]; exact k _ _ e⟩⟩
theorem Gr.trans {P : Addr} {a b c : Heap} (x : Gr P a b) (y : Gr P b c) : Gr P a c := ⟨fun d o n e => y.but d o n (x.but d o n e), fun ps e => by
  obtain ⟨m, e1⟩ := x.tab ps e
  obtain ⟨m', e2⟩ := y.tab _ e1
  exact ⟨m ++ m', by rw [e2, Array.append_assoc]⟩⟩
theorem Gr.keep {P : Addr} {a b c : Heap} (x : Gr P a b) (y : Keeps' b c) : Gr P a c := x.trans (.of y)

theorem triples_int : ∀ l : List Value, TriplesOk l → ∀ x t, l[1]? ≠ some (.str x t)
  | [], _, _, _ => nofun
  | .int _ _ :: .int _ _ :: _ :: _, _, _, _ => fun e => by simp at e
  | [_], h, _, _ => fun e => by simp at e
  | [_, _], h, _, _ => by unfold TriplesOk at h; split at h <;> simp_all
  | _ :: _ :: _ :: _, h, _, _ => by unfold TriplesOk at h; split at h <;> simp_all
theorem triples_snoc : ∀ (l : List Value) (a b : Int) (t u : Tok) (v : Value), TriplesOk l → TriplesOk (l ++ [.int a t, .int b u, v]) := fun l a b t u v h => by
  fun_induction TriplesOk l with
  | case1 => exact trivial
  | case2 _ _ _ _ _ rest ih => exact ih h
  | case3 => exact h.elim

/-- what translate asks of the heap -/
structure TrW (prog : Program) (w : World) (mg : Str → Option Value) (c P : Addr) (H : Heap) : Prop where
  fn : ∃ a pm doc, mg (nameOf (stm 13)) = some (.ref a) ∧ FnAt H 13 a pm (.ref c) doc
  hd : CodeHd H c P
  bm : H.BuiltinsAt mg P
  tab : ∃ ps, H.get? P = some (tabObj ps) ∧ TriplesOk ps.toList
  re : ReAt mg H
  sp : SpAt prog w mg H
theorem TrW.keeps {prog w mg c P} {H H' : Heap} (x : TrW prog w mg c P H) (k : Keeps' H H') : TrW prog w mg c P H' := by
  obtain ⟨⟨a, pm, doc, e, f⟩, hd, ⟨bm, o, b1, b2, b3, b4, b5, b6⟩, ⟨ps, p1, p2⟩, ⟨r, q, xs, n, vs, o', r1, r2, r3, r4, r5, r6, r7⟩, ⟨d, g, s1, s2, ⟨os, es, ep, s3, s4⟩, s5⟩⟩ := x
  exact ⟨⟨a, pm, doc, e, f.keeps k⟩, hd.keeps k, ⟨bm, o, b1, b2, b3, b4, k _ _ b5, b6⟩, ⟨ps, k _ _ p1, p2⟩, ⟨r, q, xs, n, vs, o', r1, k _ _ r2, r3, r4, r5, k _ _ r6, r7⟩, ⟨d, g, s1, s2, ⟨os, es, ep, k _ _ s3, s4⟩, s5⟩⟩
theorem ne_tab {H : Heap} {a P : Addr} {o : Obj} {ps : Array Value} (hP : H.get? P = some (tabObj ps)) (e : H.get? a = some o) (h : o.cls ≠ .none ∨ ∀ vs, o.data ≠ .fields vs) : a ≠ P := by
  rintro rfl
  rw [hP] at e; cases e
  exact h.elim (fun n => n rfl) fun n => n _ rfl
/-- the world behind a growth of the table -/
theorem TrW.gr {prog w mg c P} {H H' : Heap} (x : TrW prog w mg c P H) (k : Gr P H H') (ht : ∃ ps, H'.get? P = some (tabObj ps) ∧ TriplesOk ps.toList) : TrW prog w mg c P H' := by
  obtain ⟨ps, hP, tp⟩ := x.tab
  have cP : c ≠ P := by obtain ⟨_, _, _, _, _, _, _, _, _, _, _, _, _, _, _, _, _, _, n⟩ := x.hd; exact n
  refine ⟨?_, ?_, ?_, ht, ?_, ?_⟩
  · obtain ⟨a, pm, doc, e, ⟨o, ea, da⟩, ⟨c', oc, vs, t, e1, e2, e3, e4⟩⟩ := x.fn
    cases e1
    exact ⟨a, pm, doc, e, ⟨o, k.but _ _ (ne_tab hP ea (.inr fun vs => by rw [da]; nofun)) ea, da⟩, ⟨c, oc, vs, t, rfl, k.but _ _ cP e2, e3, e4⟩⟩
  · obtain ⟨o, vs, file, tf, flags, tg, inF, text, tt, e, r⟩ := x.hd
    exact ⟨o, vs, file, tf, flags, tg, inF, text, tt, k.but _ _ cP e, r⟩
  · obtain ⟨bm, o, a, b, d, n, f, g⟩ := x.bm
    exact ⟨bm, o, a, b, d, n, k.but _ _ n f, g⟩
  · obtain ⟨a, q, xs, n, vs, o, e1, e2, e3, e4, e5, e6, e7, e8⟩ := x.re
    exact ⟨a, q, xs, n, vs, o, e1, k.but _ _ (ne_tab hP e2 (.inl nofun)) e2, e3, e4, e5, k.but _ _ (ne_tab hP e6 (.inr fun vs => by rw [e7]; nofun)) e6, e7, e8⟩
  · obtain ⟨d, f, e1, e2, ⟨o, es, ep, e, hx, hd, r⟩, e4⟩ := x.sp
    exact ⟨d, f, e1, e2, ⟨o, es, ep, k.but _ _ (ne_tab hP e (.inr fun vs => by rw [hd]; nofun)) e, hx, hd, r⟩, e4⟩
theorem Wd.gr {mg mb} {H H' : Heap} {P : Addr} {ps : Array Value} (W : Wd mg mb H) (hP : H.get? P = some (tabObj ps)) (tp : TriplesOk ps.toList) (k : Gr P H H') : Wd mg mb H' := by
  have ns : ∀ {a m}, H.Ns a m → H'.Ns a m := fun {a m} x => by
    refine x.extBut k.but ?_
    obtain ⟨o, _, _, e, d, _⟩ := x
    exact ne_tab hP e (.inr fun vs => by rw [d]; nofun)
  refine ⟨ns W.g, ns W.b, W.bi, W.free, let ⟨mc, x, y⟩ := W.lim; ⟨mc, ns x, y⟩, fun i hi => ?_⟩
  obtain ⟨f, pm, cd, doc, e, ⟨o, ef, hd⟩, ⟨c, oc, vs, t, e1, e2, e3, e4⟩⟩ := W.fn i hi
  refine ⟨f, pm, cd, doc, e, ⟨o, k.but _ _ (ne_tab hP ef (.inr fun vs => by rw [hd]; nofun)) ef, hd⟩, ⟨c, oc, vs, t, e1, k.but _ _ ?_ e2, e3, e4⟩⟩
  rintro rfl
  rw [hP] at e2; cases e2; cases e3
  exact triples_int _ tp _ _ (by rw [Array.getElem?_toList]; exact e4)
section
variable {prog : Program} {w : World} {M : Model} {A : Around} {E : Value → Shared → Prop} {s0 : Shared} {H : Heap} {T : Nat} {mg mb : Str → Option Value} {env : Env} {s : Shared}
theorem lam_eval {c P : Addr} {params : Arguments} {body : Expr} {scope : Scope} {pos : Pos} {Q : Value → Shared → Prop} (X : TrW prog w mg c P H) (hg : H.Ns mainGlobals mg)
    (h : ∀ r H' T', Gr P H H' → TrW prog w mg c P H' → H.get? r = none → (St s0 H' T').TypeIs (.ref r) "function" → Q (.ref r) (St s0 H' T'))
    (hcode : env.code = .ref c := by rfl) (hge : env.globals = mainGlobals := by rfl) (hdef : defaultsOf params env = ([], []) := by rfl) (hcl : closureFor scope env = pure [] := by rfl) :
    wpAny M A (eval (.Lambda params body scope pos) env) Q E (St s0 H T) := by
  obtain ⟨ps, hP, tp⟩ := X.tab
  refine kla_eval hdef ?_
  cases hc : codeAmong pos ps.toList with
  | none =>
    have gP : mainGlobals ≠ P := by
      obtain ⟨o, _, _, e, d, _⟩ := hg
      exact ne_tab hP e (.inr fun vs => by rw [d]; nofun)
    refine kla_makeFunction (s := St s0 H T) hcl hge hg hcode X.hd hP tp hc gP X.bm fun c' ctv h' tk hx hle hlt hrec htb => ?_
    have g : Gr P H h' := ⟨hx, fun ps' e => by rw [hP] at e; cases e; exact ⟨_, htb⟩⟩
    have k : Keeps' h' (h'.push (kla_obj "<lambda>" (env.qual ++ "<lambda>") params body scope [] ((mg "__name__").getD .none) c' ctv)) := fun b o e => Heap.get?_push_of_some _ e
    refine h _ _ _ (g.keep k) ((X.gr g ⟨_, htb, ?_⟩).keeps k) (none_of_le (Nat.le_trans hle (Nat.le_of_lt hlt))) ⟨_, Heap.get?_push_size _ rfl, rfl⟩
    rw [Array.toList_append]
    exact triples_snoc _ _ _ _ _ _ tp
  | some cv =>
    refine kla_makeFunctionHit (s := St s0 H T) hcl hge hg hcode X.hd hP tp hc X.bm fun ctv h' tk hk hle => ?_
    have k : Keeps' h' (h'.push { cls := .type "function", data := .func (kla_fn "<lambda>" (env.qual ++ "<lambda>") params body scope [] ((mg "__name__").getD .none) cv ctv) }) := fun b o e => Heap.get?_push_of_some _ e
    exact h _ _ _ (.of (kall hk k)) (X.keeps (kall hk k)) (none_of_le hle) ⟨_, Heap.get?_push_size _ rfl, rfl⟩
end
end Mine
end
section
set_option maxRecDepth 100000
set_option Elab.async false
namespace Mine
open PySem PySem.W PySem.Calls PyProof.Rows

/-- a part of a pattern: its signs, what is added for it (none: STAR) -/
structure Tk where
  txt : List Nat
  item : Option Str
def vOf (S : Addr) (p : Option Str × Tok) : Value := match p.1 with
  | some s => .str s p.2
  | none => .ref S
def VA (S : Addr) (ks : List (Option Str)) (vs : Array Value) : Prop := ∃ l : List (Option Str × Tok), l.map (·.1) = ks ∧ vs = (l.map (vOf S)).toArray
theorem VA.push {S ks vs} {k : Option Str} {v : Value} (x : VA S ks vs) (t : Tok) (h : v = vOf S (k, t)) : VA S (ks ++ [k]) (vs.push v) := by
  obtain ⟨l, rfl, rfl⟩ := x
  exact ⟨l ++ [(k, t)], by simp, by simp [h]⟩
theorem VA.size {S ks vs} (x : VA S ks vs) : vs.size = ks.length := by obtain ⟨l, rfl, rfl⟩ := x; simp
theorem VA.at {S ks vs} {i : Nat} {k : Option Str} (x : VA S ks vs) (h : ks[i]? = some k) : ∃ t, vs[i]? = some (vOf S (k, t)) := by
  obtain ⟨l, rfl, rfl⟩ := x
  rw [List.getElem?_map] at h
  obtain ⟨p, hp, rfl⟩ := Option.map_eq_some_iff.mp h
  exact ⟨p.2, by simp [hp]⟩

/-- _translate's frame -/
structure TrI (P : Addr) (H : Heap) (L l r S : Addr) (x : Str) (ks : List (Option Str)) (i : Nat) (Ha : Heap) (m : Str → Option Value) : Prop where
  ns : Ha.Ns L m
  pat : ∃ t, m "pat" = some (.str x t)
  star : m "STAR" = some (.ref S)
  qm : ∃ t, m "QUESTION_MARK" = some (.str (Str.ofString ".") t)
  res : m "res" = some (.ref l)
  add : m "add" = some (.ref r)
  ii : ∃ t, m "i" = some (.int (i : Nat) t)
  nn : ∃ t, m "n" = some (.int (x.cps.size : Nat) t)
  ls : ∃ items, Ls Ha l items ∧ VA S ks items
  ap : ApAt Ha r l
  tab : ∃ ps, Ha.get? P = some (tabObj ps) ∧ TriplesOk ps.toList
  gr : Gr P H Ha
structure TrF (P : Addr) (H : Heap) (L l r : Addr) : Prop where
  nL : H.get? L = none
  nl : H.get? l = none
  nr : H.get? r = none
  hP : ∃ o, H.get? P = some o
section
variable {P : Addr} {H : Heap} {L l r S : Addr} {x : Str} {ks : List (Option Str)} {i : Nat} {Ha Hb : Heap} {m : Str → Option Value}
theorem TrF.PL (F : TrF P H L l r) : P ≠ L := let ⟨_, e⟩ := F.hP; some_ne e F.nL
theorem TrF.Pl (F : TrF P H L l r) : P ≠ l := let ⟨_, e⟩ := F.hP; some_ne e F.nl
theorem TrF.Pr (F : TrF P H L l r) : P ≠ r := let ⟨_, e⟩ := F.hP; some_ne e F.nr
theorem Gr.same {b : Addr} (g : Gr P H Ha) (s : Heap.ExtBut b Ha Hb) (n : H.get? b = none) (hP : P ≠ b) : Gr P H Hb :=
  ⟨fun c o hc e => s c o (some_ne e n) (g.but c o hc e), fun ps e => let ⟨more, e'⟩ := g.tab ps e; ⟨more, s _ _ hP e'⟩⟩
theorem ApAt.ne_ns {h : Heap} {a : Addr} {m'} (x : ApAt h r l) (y : h.Ns a m') : r ≠ a := by
  rintro rfl
  obtain ⟨o', _, _, ho', hd', _⟩ := y
  have ho : h.get? r = _ := x
  rw [ho] at ho'; cases ho'; cases hd'
theorem ApAt.ne_ls {h : Heap} {a : Addr} {items : Array Value} (x : ApAt h r l) (y : Ls h a items) : r ≠ a := by
  rintro rfl
  obtain ⟨n, e⟩ := y
  have ho : h.get? r = _ := x
  have q := Option.some.inj (ho.symm.trans e)
  cases congrArg Obj.data q
def trNames : List Str := ["pat", "STAR", "QUESTION_MARK", "res", "add", "n"].map Str.ofString
theorem TrI.put {m' : Str → Option Value} {i' : Nat} (I : TrI P H L l r S x ks i Ha m) (F : TrF P H L l r) (n' : Hb.Ns L m') (s : Heap.SameBut L Ha Hb) (hm : ∀ z ∈ trNames, m' z = m z) (hi : ∃ t, m' "i" = some (.int (i' : Nat) t)) : TrI P H L l r S x ks i' Hb m' :=
  ⟨n', let ⟨t, e⟩ := I.pat; ⟨t, (hm _ (by decide)).trans e⟩, (hm _ (by decide)).trans I.star, let ⟨t, e⟩ := I.qm; ⟨t, (hm _ (by decide)).trans e⟩, (hm _ (by decide)).trans I.res, (hm _ (by decide)).trans I.add, hi, let ⟨t, e⟩ := I.nn; ⟨t, (hm _ (by decide)).trans e⟩,
    let ⟨items, e, v⟩ := I.ls; ⟨items, e.same s (e.ne_ns I.ns), v⟩, s.extBut _ _ (I.ap.ne_ns I.ns) I.ap, let ⟨ps, e, t⟩ := I.tab; ⟨ps, s.extBut _ _ F.PL e, t⟩, I.gr.same s.extBut F.nL F.PL⟩
theorem TrI.push {items : Array Value} {k : Option Str} {v : Value} (I : TrI P H L l r S x ks i Ha m) (F : TrF P H L l r) (t : Tok) (hv : v = vOf S (k, t)) (hi : Ls Ha l items) (va : VA S ks items) (l' : Ls Hb l (items.push v)) (s : Heap.SameBut l Ha Hb) : TrI P H L l r S x (ks ++ [k]) i Hb m :=
  ⟨I.ns.sameBut s (Ne.symm (hi.ne_ns I.ns)), I.pat, I.star, I.qm, I.res, I.add, I.ii, I.nn, ⟨_, l', va.push t hv⟩, s.extBut _ _ (I.ap.ne_ls hi) I.ap, let ⟨ps, e, t⟩ := I.tab; ⟨ps, s.extBut _ _ F.Pl e, t⟩, I.gr.same s.extBut F.nl F.Pl⟩
theorem TrI.grow (I : TrI P H L l r S x ks i Ha m) (F : TrF P H L l r) (g : Gr P Ha Hb) (ht : ∃ ps, Hb.get? P = some (tabObj ps) ∧ TriplesOk ps.toList) : TrI P H L l r S x ks i Hb m :=
  ⟨I.ns.extBut g.but (Ne.symm F.PL), I.pat, I.star, I.qm, I.res, I.add, I.ii, I.nn, let ⟨items, e, v⟩ := I.ls; ⟨items, e.at fun o => g.but _ o (Ne.symm F.Pl), v⟩, g.but _ _ (Ne.symm F.Pr) I.ap, ht, I.gr.trans g⟩
theorem TrI.keep (I : TrI P H L l r S x ks i Ha m) (F : TrF P H L l r) (k : Keeps' Ha Hb) : TrI P H L l r S x ks i Hb m := I.grow F (.of k) (let ⟨ps, e, t⟩ := I.tab; ⟨ps, k _ _ e, t⟩)
theorem put_names {y : Str} {v : Value} (hy : y ∉ trNames) : ∀ z ∈ trNames, (fun z => if z = y then some v else m z) z = m z := fun z hz => if_neg fun (e : z = y) => hy (e ▸ hz)
end

section
variable {prog : Program} {w : World} {A : Around} {E : Value → Shared → Prop} {s0 : Shared} {H : Heap} {T : Nat} {mg mb : Str → Option Value} {s : Shared}
variable {P f cA : Addr} {L l r S : Addr} {x : Str} {ks : List (Option Str)} {i : Nat} {Ha : Heap} {m : Str → Option Value}
abbrev trLoop : List Stmt := loopOf (stAt (bodyOf (stm 13)) 3)
theorem tr_pre {ch : Nat} {Q : Flow → Shared → Prop} (F : TrF P H L l r) (I : TrI P H L l r S x ks i Ha m) (hz : x.cps.size < 2 ^ 20) (hc : x.cps.toList[i]? = some ch)
    (h : ∀ Hb Tb m', TrI P H L l r S x ks (i + 1) Hb m' → (∃ t, m' "c" = some (.str ⟨#[ch]⟩ t)) → wpAny (model prog w) A (execs (List.drop 2 trLoop) (envP 13 L f (.ref cA))) Q NoE (St s0 Hb Tb)) :
    wpAny (model prog w) A (execs trLoop (envP 13 L f (.ref cA))) Q NoE (St s0 Ha T) := by
  obtain ⟨t1, e1⟩ := I.pat
  obtain ⟨t2, e2⟩ := I.ii
  refine asgX (Subscript_ (ldv I.ns e1 (ldv I.ns e2 (sub_str rfl hz hc fun _ _ => stn I.ns fun H1 T1 n1 s1 => ?_))))
  have I1 := I.put F (i' := i) n1 s1 (put_names (by decide)) ⟨t2, e2⟩
  exact asgX (wpAny_BinOp (ldv n1 e2 (cint fun _ _ => iadd fun t3 _ => stn n1 fun H2 T2 n2 s2 => h H2 T2 _ (I1.put F (i' := i + 1) n2 s2 (put_names (by decide)) ⟨t3, rfl⟩) ⟨_, rfl⟩)))
/-- add(e) as a statement -/
theorem tr_add {k : Option Str} {e : Expr} {p cp pos : Pos} {rest : List Stmt} {Q : Flow → Shared → Prop} (F : TrF P H L l r) (I : TrI P H L l r S x ks i Ha m) (hz : ks.length < 2 ^ 20)
    (h : wpAny (model prog w) A (eval e (envP 13 L f (.ref cA))) (fun v s₁ => ∃ Hb Tb t, s₁ = St s0 Hb Tb ∧ TrI P H L l r S x ks i Hb m ∧ v = vOf S (k, t) ∧ ∀ Hc Tc, TrI P H L l r S x (ks ++ [k]) i Hc m → wpAny (model prog w) A (execs rest (envP 13 L f (.ref cA))) Q NoE (St s0 Hc Tc)) NoE (St s0 Ha T))
    (hs : starEach [e] (envP 13 L f (.ref cA)) = [(false, eval e (envP 13 L f (.ref cA)))] := by rfl) (hsw : swapsWith (.Call (.Name "add" p) [e] [] cp) none pos.line (envP 13 L f (.ref cA)) = pure false := by rfl) :
    wpAny (model prog w) A (execs (.Expr (.Call (.Name "add" p) [e] [] cp) pos :: rest) (envP 13 L f (.ref cA))) Q NoE (St s0 Ha T) := by
  refine exprX (appC (l := l) I.ns I.add (wpAny_mono h (fun v s₁ q => ?_) fun _ _ e => e) (hs := hs)) (hs := hsw)
  obtain ⟨Hb, Tb, t, rfl, J, hv, q⟩ := q
  obtain ⟨items, hi, va⟩ := J.ls
  exact ⟨Hb, Tb, items, rfl, J.ap, hi, size30 (by rw [va.size]; exact hz), fun h' l' s' => ⟨rfl, q _ _ (J.push F t hv hi va l' s')⟩⟩
end
end Mine
end
section
set_option maxRecDepth 100000
set_option Elab.async false
namespace Mine
open PySem PySem.W PySem.Calls PyProof.Rows

section
variable {prog : Program} {w : World} {A : Around} {E : Value → Shared → Prop} {s0 : Shared} {H : Heap} {T : Nat} {mg mb : Str → Option Value} {s : Shared}
variable {P f cA : Addr} {L l r S : Addr} {x : Str} {ks : List (Option Str)} {i : Nat} {Ha : Heap} {m : Str → Option Value} {env : Env} {M : Model}
theorem then_nil {Q : Flow → Shared → Prop} (h : Q .next s) : Then M A env [] Q E .next s := nilX h
/-- if c == "..", c a name, on texts that are known -/
theorem ifEq {y : Str} {z : Str} {t : Tok} {a : Str} {k : Nat} {p cp tp pos : Pos} {body orelse rest : List Stmt} {Q : Flow → Shared → Prop} {b : Bool} (hn : H.Ns env.locals m) (hv : m y = some (.str a t)) (hb : (a.cps.toList == z.cps.toList) = b)
    (h : ∀ T, wpAny (model prog w) A (execs (if b then body else orelse) env) (Then (model prog w) A env rest Q E) E (St s0 H T))
    (hk : env.scope.kind = .function := by rfl) (hl : env.kindOf y = some .local := by rfl) (hd : (y == ("__debug__" : Str)) = false := by decide) :
    wpAny (model prog w) A (execs (.If (.Compare (.Name y p) [.Eq] [.Constant (.str z) k cp] tp) body orelse pos :: rest) env) Q E (St s0 H T) :=
  ifX (cmpX (ldv hn hv (cstr fun _ _ => PySem.P.eq_str (wpAny_truthy_bool (by rw [hb]; exact h _))) hk hl hd))
theorem ldAny {y : Str} {p : Pos} {a : Str} {Q : Value → Shared → Prop} (hn : H.Ns env.locals m) (hv : ∃ t, m y = some (.str a t)) (h : ∀ t, Q (.str a t) (St s0 H T))
    (hk : env.scope.kind = .function := by rfl) (hl : env.kindOf y = some .local := by rfl) (hd : (y == ("__debug__" : Str)) = false := by decide) : wpAny M A (eval (.Name y p) env) Q E (St s0 H T) := let ⟨_, e⟩ := hv; ldv hn e (h _) hk hl hd
theorem turn_q {Q : Flow → Shared → Prop} (F : TrF P H L l r) (I : TrI P H L l r S x ks i Ha m) (hz : x.cps.size < 2 ^ 20) (hks : ks.length < 2 ^ 20) (hc : x.cps.toList[i]? = some 63)
    (h : ∀ Hb Tb m', TrI P H L l r S x (ks ++ [some (Str.ofString ".")]) (i + 1) Hb m' → Q .next (St s0 Hb Tb)) : wpAny (model prog w) A (execs trLoop (envP 13 L f (.ref cA))) Q NoE (St s0 Ha T) := by
  refine tr_pre F I hz hc fun Hb Tb m' J hcn => ?_
  obtain ⟨tc, ec⟩ := hcn
  refine ifEq J.ns ec (b := false) (by decide +kernel) fun _ => ?_
  refine ifEq J.ns ec (b := true) (by decide +kernel) fun _ => ?_
  refine tr_add (k := some (Str.ofString ".")) F J hks (ldAny J.ns J.qm fun t => ⟨_, _, t, rfl, J, rfl, fun Hc Tc J' => ?_⟩)
  exact nilX (then_nil (then_nil (h _ _ _ J')))
theorem turn_bang {Q : Flow → Shared → Prop} {fe : Addr} (W : Wd mg mb H) (X : TrW prog w mg cA P H) (hfe : mg (nameOf (stm 11)) = some (.ref fe)) (hu : AOk A 1 3) (F : TrF P H L l r) (I : TrI P H L l r S x ks i Ha m) (hz : x.cps.size < 2 ^ 20) (hks : ks.length < 2 ^ 20) (hc : x.cps.toList[i]? = some 33)
    (h : ∀ Hb Tb m', TrI P H L l r S x (ks ++ [some ⟨#[33]⟩]) (i + 1) Hb m' → Q .next (St s0 Hb Tb)) : wpAny (model prog w) A (execs trLoop (envP 13 L f (.ref cA))) Q NoE (St s0 Ha T) := by
  refine tr_pre F I hz hc fun Hb Tb m' J hcn => ?_
  obtain ⟨tc, ec⟩ := hcn
  refine ifEq J.ns ec (b := false) (by decide +kernel) fun _ => ?_
  refine ifEq J.ns ec (b := false) (by decide +kernel) fun _ => ?_
  refine ifEq J.ns ec (b := false) (by decide +kernel) fun T1 => ?_
  obtain ⟨ps, hP, tp⟩ := X.tab
  have W1 := W.gr hP tp J.gr
  have X1 := X.gr J.gr J.tab
  obtain ⟨_, _, _, ⟨o, ho, hd⟩, _⟩ := W1.at 11 hfe
  refine tr_add (k := some ⟨#[33]⟩) F J hks (callN W1.g hfe hd (it1 (ldv J.ns ec ⟨ho, escape_call W1 X1.sp hfe hu fun H2 t2 T2 k2 => ⟨_, _, t2, rfl, J.keep F k2, rfl, fun Hc Tc J' => ?_⟩⟩)))
  exact nilX (then_nil (then_nil (then_nil (h _ _ _ J'))))
theorem turn_star {Q : Flow → Shared → Prop} {k : Str} {ks' : List (Option Str)} (F : TrF P H L l r) (I : TrI P H L l r S x ks i Ha m) (hk : ks = ks' ++ [some k]) (hz : x.cps.size < 2 ^ 20) (hks : ks.length < 2 ^ 20) (hc : x.cps.toList[i]? = some 42)
    (h : ∀ Hb Tb m', TrI P H L l r S x (ks ++ [none]) (i + 1) Hb m' → Q .next (St s0 Hb Tb)) : wpAny (model prog w) A (execs trLoop (envP 13 L f (.ref cA))) Q NoE (St s0 Ha T) := by
  refine tr_pre F I hz hc fun Hb Tb m' J hcn => ?_
  obtain ⟨tc, ec⟩ := hcn
  refine ifEq J.ns ec (b := true) (by decide +kernel) fun T1 => ?_
  obtain ⟨items, hi, va⟩ := J.ls
  have hsz := va.size
  have hlen : ks.length = ks'.length + 1 := by rw [hk]; simp
  obtain ⟨tl, hl⟩ := va.at (i := ks'.length) (k := some k) (by rw [hk]; simp)
  refine ifX (wpAny_isTrue_BoolOp (wpAny_allTrue_Or_cons (wpAny_isTrue_Not (wpAny_isTrue_value (ldv J.ns J.res (wpAny_truthy_list (s := St s0 Hb T1) hi.isList (by omega) ?_)) (by rfl)))))
  rw [show items.isEmpty = false by simpa using (show items.size ≠ 0 by omega)]
  rw [if_neg (by decide)]
  show wpAny _ _ _ _ _ (St s0 Hb (T1 + 1 + 1))
  refine wpAny_allTrue_Or_cons (cmpX (Subscript_ (ldv J.ns J.res (wpAny_UnaryOp (cint fun _ _ => PySem.P.neg_int ?_)))))
  refine tail_any (s := St s0 Hb _) (T := "list") hi.isList.typeIs slot_list_getitem.lookup (wpAny_getItem_list_neg hi.isList (by decide) (by omega) (by decide) (x := .str k tl) ?_ ?_) (by with_unfolding_all rfl)
  · rw [show ((-1 : Int) + items.size).toNat = ks'.length by omega]; exact hl
  · refine ldv J.ns J.star (wpAny_isNot_other rfl nofun (wpAny_truthy_bool ?_))
    rw [if_pos rfl, if_pos rfl]
    exact tr_add (k := none) F J hks (ldv J.ns J.star ⟨_, _, 0, rfl, J, rfl, fun Hc Tc J' => nilX (then_nil (then_nil (h _ _ _ J')))⟩)
end
end Mine
end
section
set_option maxRecDepth 100000
set_option Elab.async false
namespace Mine
open PySem PySem.W PySem.Calls PyProof.Rows

def elsOf : Stmt → List Stmt | .If _ _ o _ => o | _ => []
def thnOf : Stmt → List Stmt | .If _ t _ _ => t | _ => []
abbrev brBody : List Stmt := thnOf (stAt (elsOf (stAt (elsOf (stAt trLoop 2)) 0)) 0)
abbrev brElse : List Stmt := elsOf (stAt brBody 4)
def brOf (c : Nat) : Str := if c = 91 then ⟨#[91, 92, 91, 93]⟩ else ⟨#[91, c, 93]⟩
/-- what the text of a bracket holds, as it is written -/
def stuffOf (c : Nat) : Str := if c = 91 then ⟨#[92, 91]⟩ else ⟨#[c]⟩
theorem br_dash : ∀ c ∈ [42, 63, 91], (Builtin.Str.occurrences ⟨#[c]⟩ (Str.ofString "-") 0 1 1).isEmpty = true := by decide +kernel
theorem br_back : ∀ c ∈ [42, 63, 91], (Builtin.Str.occurrences ⟨#[c]⟩ (Str.ofString "\\") 0 1 2).isEmpty = true := by decide +kernel
theorem br_bang : ∀ c ∈ [42, 63, 91], ([c] == (Str.ofString "!").cps.toList) = false := by decide +kernel
theorem br_close : ∀ c ∈ [42, 63, 91], ([c] == (Str.ofString "]").cps.toList) = false := by decide +kernel
theorem br_in : ∀ c ∈ [42, 63, 91], ([Str.ofString "^", Str.ofString "["].any (· == (⟨#[c]⟩ : Str))) = decide (c = 91) := by decide +kernel
theorem br_eq : ∀ c ∈ [42, 63, 91], Str.ofString "[" ++ stuffOf c ++ Str.ofString "]" = brOf c := by decide +kernel
theorem slice1 {x : Str} {i c : Nat} (h : x.cps.toList[i]? = some c) : Txt.slice x (some (i : Int)) (some ((i : Int) + 1)) = ⟨#[c]⟩ := by
  have hi : i < x.cps.size := by rw [← Array.length_toList]; exact (List.getElem?_eq_some_iff.mp h).1
  have e := eq_of_beq (slice_one_closes (x := x) (n := (i : Int)) (Int.natCast_nonneg i) (Int.ofNat_lt.mpr hi))
  rw [e]
  have : x.cps.getD i 0 = c := by rw [Array.getElem?_toList] at h; simp [Array.getD_eq_getD_getElem?, h]
  rw [Int.toNat_natCast, this]

section
variable {prog : Program} {w : World} {A : Around} {E : Value → Shared → Prop} {s0 : Shared} {H : Heap} {T : Nat} {mg mb : Str → Option Value} {s : Shared}
variable {P f cA : Addr} {L l r S : Addr} {x : Str} {ks : List (Option Str)} {i : Nat} {Ha : Heap} {m : Str → Option Value} {env : Env} {M : Model}
theorem repl_none {a y z : Str} {t u v : Tok} {Q : Value → Shared → Prop} (h0 : (Builtin.Str.occurrences a y 0 a.length (a.length + 1)).isEmpty = true) (h : Q (.str a t) (St s0 H T)) :
    wpAny (model prog w) A (call (.builtin "str.replace") [.str a t, .str y u, .str z v]) Q E (St s0 H T) := by
  refine call_gives F.slot_str_replace (typeIs_str _ _ _) F.entry_str_replace (F.args_str_replace_3 _ _ _) (gives_str_replace a y z t u v fun e => ?_) ?_
  · rw [h0] at e; cases e
  · rw [h0, Bool.true_or, if_pos rfl]; exact h
/-- pat[j] == "..", pat[j] != ".." -/
theorem patEq {op : CmpOp} {z : Str} {j : Nat} {c : Nat} {k : Nat} {cp p1 p2 p3 tp : Pos} {b : Bool} {whole : Sem Value} {Q : Bool → Shared → Prop} (I : TrI P H L l r S x ks i Ha m) (hj : ∃ t, m "j" = some (.int (j : Nat) t)) (hz : x.cps.size < 2 ^ 20) (hc : x.cps.toList[j]? = some c)
    (ho : (op = .Eq ∧ ([c] == z.cps.toList) = b) ∨ (op = .NotEq ∧ ([c] != z.cps.toList) = b)) (h : ∀ T, Q b (St s0 Ha T)) :
    wpAny (model prog w) A (isTrue (.Compare (.Subscript (.Name "pat" p1) (.Name "j" p2) p3) [op] [.Constant (.str z) k cp] tp) (envP 13 L f (.ref cA)) whole) Q E (St s0 Ha T) := by
  obtain ⟨t1, e1⟩ := I.pat
  obtain ⟨t2, e2⟩ := hj
  rcases ho with ⟨rfl, hb⟩ | ⟨rfl, hb⟩
  · exact cmpX (Subscript_ (ldv I.ns e1 (ldv I.ns e2 (sub_str rfl hz hc fun _ _ => cstr fun _ _ => PySem.P.eq_str (wpAny_truthy_bool (by rw [hb]; exact h _))))))
  · exact cmpX (Subscript_ (ldv I.ns e1 (ldv I.ns e2 (sub_str rfl hz hc fun _ _ => cstr fun _ _ => PySem.P.ne_str (wpAny_truthy_bool (by rw [hb]; exact h _))))))
theorem jLt {j : Nat} {p1 p2 tp : Pos} {whole : Sem Value} {Q : Bool → Shared → Prop} (I : TrI P H L l r S x ks i Ha m) (hj : ∃ t, m "j" = some (.int (j : Nat) t)) (hl : j < x.cps.size) (h : ∀ T, Q true (St s0 Ha T)) :
    wpAny (model prog w) A (isTrue (.Compare (.Name "j" p1) [.Lt] [.Name "n" p2] tp) (envP 13 L f (.ref cA)) whole) Q E (St s0 Ha T) := by
  obtain ⟨t1, e1⟩ := I.nn
  obtain ⟨t2, e2⟩ := hj
  exact cmpX (ldv I.ns e2 (ldv I.ns e1 (PySem.P.lt_int (wpAny_truthy_bool (by rw [decide_eq_true (Int.ofNat_lt.mpr hl)]; exact h _)))))
theorem br1 {c : Nat} {Q : Flow → Shared → Prop} (F : TrF P H L l r) (I : TrI P H L l r S x ks i Ha m) (hz : x.cps.size < 2 ^ 20) (hc : c ∈ [42, 63, 91]) (h1 : x.cps.toList[i]? = some c) (h2 : x.cps.toList[i + 1]? = some 93)
    (h : ∀ Hb Tb m', TrI P H L l r S x ks i Hb m' → (∃ t, m' "j" = some (.int ((i + 1 : Nat)) t)) → wpAny (model prog w) A (execs brElse (envP 13 L f (.ref cA))) (Then (model prog w) A (envP 13 L f (.ref cA)) [] Q NoE) NoE (St s0 Hb Tb)) :
    wpAny (model prog w) A (execs brBody (envP 13 L f (.ref cA))) Q NoE (St s0 Ha T) := by
  have hn1 : i + 1 < x.cps.size := by rw [← Array.length_toList]; exact (List.getElem?_eq_some_iff.mp h2).1
  have hn0 : i < x.cps.size := Nat.lt_of_succ_lt hn1
  obtain ⟨t1, e1⟩ := I.ii
  refine asgX (ldv I.ns e1 (stn I.ns fun H1 T1 n1 s1 => ?_))
  have I1 := I.put F (i' := i) n1 s1 (put_names (by decide)) ⟨t1, e1⟩
  have j1 : ∃ t, (fun y => if y = Str.ofString "j" then some (Value.int (i : Nat) t1) else m y) "j" = some (.int (i : Nat) t) := ⟨t1, rfl⟩
  refine ifX (wpAny_isTrue_BoolOp (wpAny_allTrue_And_cons (jLt I1 j1 hn0 fun _ => wpAny_allTrue_And_cons (patEq I1 j1 hz h1 (.inl ⟨rfl, br_bang c hc⟩) fun T2 => ?_))))
  refine nilX ?_
  refine ifX (wpAny_isTrue_BoolOp (wpAny_allTrue_And_cons (jLt I1 j1 hn0 fun _ => wpAny_allTrue_And_cons (patEq I1 j1 hz h1 (.inl ⟨rfl, br_close c hc⟩) fun T3 => ?_))))
  refine nilX ?_
  refine whileX (fun k s => ∃ Hb Tb m', s = St s0 Hb Tb ∧ TrI P H L l r S x ks i Hb m' ∧ (∃ t, m' "j" = some (.int ((i + 1 - k : Nat)) t)) ∧ k ≤ 1) ?_ 1 ⟨H1, T3, _, rfl, I1, j1, Nat.le_refl _⟩
  rintro k _ ⟨Hb, Tb, m', rfl, J, hj, hk⟩
  refine wpAny_isTrue_BoolOp (wpAny_allTrue_And_cons (jLt J hj (Nat.lt_of_le_of_lt (Nat.sub_le _ _) hn1) fun _ => wpAny_allTrue_And_cons ?_))
  match k, hk, hj with
  | 1, _, hj =>
    refine patEq J hj hz (c := c) h1 (b := true) (.inr ⟨rfl, by rw [bne, br_close c hc]; rfl⟩) fun T4 => wpAny_allTrue_And_nil ?_
    rw [if_pos rfl]
    obtain ⟨t5, e5⟩ := hj
    refine asgX (wpAny_BinOp (ldv J.ns e5 (cint fun _ _ => iadd fun t6 _ => stn J.ns fun H5 T5 n5 s5 => nilX ⟨0, Nat.zero_lt_one, H5, T5, _, rfl, J.put F (i' := i) n5 s5 (put_names (by decide)) J.ii, ⟨t6, rfl⟩, Nat.zero_le _⟩)))
  | 0, _, hj =>
    refine patEq J hj hz (c := 93) h2 (b := false) (.inr ⟨rfl, by decide +kernel⟩) fun T4 => ?_
    rw [if_neg Bool.false_ne_true]
    obtain ⟨t5, e5⟩ := hj
    obtain ⟨t6, e6⟩ := J.nn
    refine ifX (cmpX (ldv J.ns e5 (ldv J.ns e6 (PySem.P.ge_int (wpAny_truthy_bool ?_)))))
    rw [show decide (((i + 1 - 0 : Nat) : Int) ≥ (x.cps.size : Int)) = false from decide_eq_false (by omega)]
    exact h _ _ _ J ⟨t5, e5⟩
end
end Mine
end
section
set_option maxRecDepth 100000
set_option Elab.async false
namespace Mine
open PySem PySem.W PySem.Calls PyProof.Rows

section
variable {prog : Program} {w : World} {A : Around} {E : Value → Shared → Prop} {s0 : Shared} {H : Heap} {T : Nat} {mg mb : Str → Option Value} {s : Shared}
variable {P f cA : Addr} {L l r S : Addr} {x : Str} {ks : List (Option Str)} {i : Nat} {Ha : Heap} {m : Str → Option Value} {env : Env} {M : Model}
theorem sub0 {c : Nat} {u t : Tok} {value slice : Expr} {Q : Value → Shared → Prop} (h : ∀ t T', Q (.str ⟨#[c]⟩ t) (St s0 H T'))
    (hs : subscripted slice false (.str ⟨#[c]⟩ t) (.int 0 u) = operate [.str ⟨#[c]⟩ t, .int 0 u] (getItem (.str ⟨#[c]⟩ t) (.int 0 u)) := by with_unfolding_all rfl) :
    wpAny (model prog w) A (subscriptTail value slice (.str ⟨#[c]⟩ t) (.int 0 u)) Q E (St s0 H T) := sub_str (q := 0) rfl (by show 1 < 2 ^ 20; decide) rfl h hs
/-- the end of a bracket: its text is added -/
theorem br3 {c : Nat} {Q : Flow → Shared → Prop} (F : TrF P H L l r) (I : TrI P H L l r S x ks i Ha m) (hks : ks.length < 2 ^ 20) (hc : c ∈ [42, 63, 91]) (hs : ∃ t, m "stuff" = some (.str (stuffOf c) t))
    (h : ∀ Hb Tb m', TrI P H L l r S x (ks ++ [some (brOf c)]) i Hb m' → Q .next (St s0 Hb Tb)) :
    wpAny (model prog w) A (execs (List.drop 1 (elsOf (stAt (elsOf (stAt brElse 4)) 0))) (envP 13 L f (.ref cA))) Q NoE (St s0 Ha T) := by
  refine tr_add (k := some (brOf c)) F I hks (wpAny_JoinedStr ?_)
  have hsz : ∀ c ∈ [42, 63, 91], (Str.empty ++ Str.ofString "[").length ≤ 99 ∧ (Str.empty ++ Str.ofString "[" ++ stuffOf c).length ≤ 99 ∧ (Str.empty ++ Str.ofString "[" ++ stuffOf c ++ Str.ofString "]").length ≤ 99 ∧ (stuffOf c).length ≤ 99 ∧ Str.empty ++ Str.ofString "[" ++ stuffOf c ++ Str.ofString "]" = brOf c := by decide +kernel
  obtain ⟨z1, z2, z3, z4, z5⟩ := hsz c hc
  have zl : ∀ n, n ≤ 99 → n ≤ sizeLine := fun n hn => by rw [sizeLine_eq]; omega
  obtain ⟨ts, es⟩ := hs
  refine cstr fun _ _ => ⟨_, _, rfl, zl _ z1, ?_⟩
  refine fmtF (s0 := s0) (ldv I.ns es ⟨_, _, _, _, rfl, rfl, zl _ z4, fun _ _ => ⟨_, _, rfl, zl _ z2, ?_⟩⟩)
  refine cstr fun _ T1 => ⟨_, _, rfl, zl _ z3, zl _ z3, ?_⟩
  rw [z5]
  exact ⟨_, _, T1, rfl, I, rfl, fun Hc Tc J' => nilX (h _ _ _ J')⟩
theorem br2 {c : Nat} {Q : Flow → Shared → Prop} (X : TrW prog w mg cA P H) (W : Wd mg mb H) (F : TrF P H L l r) (I : TrI P H L l r S x ks i Ha m) (hz : x.cps.size < 2 ^ 20) (hks : ks.length < 2 ^ 20) (hc : c ∈ [42, 63, 91]) (h1 : x.cps.toList[i]? = some c) (hj : ∃ t, m "j" = some (.int ((i + 1 : Nat)) t))
    (h : ∀ Hb Tb m', TrI P H L l r S x (ks ++ [some (brOf c)]) (i + 2) Hb m' → Q .next (St s0 Hb Tb)) :
    wpAny (model prog w) A (execs brElse (envP 13 L f (.ref cA))) Q NoE (St s0 Ha T) := by
  obtain ⟨t1, e1⟩ := I.pat
  obtain ⟨t2, e2⟩ := I.ii
  obtain ⟨t3, e3⟩ := hj
  refine asgX (sl_ss (s0 := s0) (ldv I.ns e1 (ldv I.ns e2 (ldv I.ns e3 ⟨x, t1, i, t2, ((i + 1 : Nat) : Int), t3, _, _, rfl, rfl, rfl, rfl, size30 hz, fun H1 t4 T1 k1 => ?_⟩))))
  rw [show (((i + 1 : Nat) : Int)) = (i : Int) + 1 by omega, slice1 h1]
  have I1 := I.keep F k1
  refine stn I1.ns fun H2 T2 n2 s2 => ?_
  have I2 := I1.put F (i' := i) n2 s2 (put_names (by decide)) ⟨t2, e2⟩
  refine ifX (cmpX (cstr fun _ _ => ldv n2 rfl (PySem.P.notIn_str (wpAny_truthy_bool ?_))))
  rw [show (!(!(Builtin.Str.occurrences (⟨#[c]⟩ : Str) (Str.ofString "-") 0 (⟨#[c]⟩ : Str).length 1).isEmpty)) = true by rw [show (⟨#[c]⟩ : Str).length = 1 from rfl, br_dash c hc]; rfl]
  refine asgX (methM PySem.F.plainAttrs_str PySem.F.slot_str_replace PySem.F.type_str_replace (ldv n2 rfl ⟨strRecv.1, strRecv.2, it2 (cstr fun _ _ => cstr fun _ _ => repl_none (br_back c hc) (stn n2 fun H3 T3 n3 s3 => nilX ?_))⟩))
  have I3 := I2.put F (i' := i) n3 s3 (put_names (by decide)) ⟨t2, e2⟩
  obtain ⟨ps, hP, tp⟩ := X.tab
  have W3 := W.gr hP tp I3.gr
  have X3 := X.gr I3.gr I3.tab
  obtain ⟨are, _, _, _, _, _, ha, hobj, _⟩ := id X3.re
  refine asgX (methM FRe.plainAttrs FRe.slot_sub FRe.type_sub (ldg W3.g ha ⟨⟨_, hobj, rfl⟩, fun a e => by cases e; exact ⟨_, hobj, rfl⟩, it2 (lam_eval X3 W3.g fun fl H4 T4 g4 X4 nf tf => ?_)⟩))
  have I4 := I3.grow F g4 X4.tab
  refine ldv I4.ns rfl (sub_call X4.re ha tf hc fun H5 t5 T5 k5 => ?_)
  have I5 := I4.keep F k5
  refine stn I5.ns fun H6 T6 n6 s6 => ?_
  have I6 := I5.put F (i' := i) n6 s6 (put_names (by decide)) ⟨t2, e2⟩
  refine asgX (wpAny_BinOp (ldv n6 e3 (cint fun _ _ => iadd fun t7 _ => stn n6 fun H7 T7 n7 s7 => ?_)))
  have I7 := I6.put F (i' := i + 2) n7 s7 (fun z hz => if_neg (by rintro rfl; revert hz; decide)) ⟨t7, rfl⟩
  refine ifX (wpAny_isTrue_Not (wpAny_isTrue_value (ldv n7 rfl (PySem.P.truthy_str (by show ¬ ((1 : Int) ≥ 2 ^ 63); decide) ?_)) (by rfl)))
  rw [show (!(((⟨#[c]⟩ : Str).length : Int) != 0)) = false from (by decide : (!((1 : Int) != 0)) = false)]
  show wpAny _ _ _ _ _ (St s0 H7 (T7 + 1 + 1))
  refine ifEq n7 rfl (b := false) (br_bang c hc) fun T8 => ?_
  refine ifX (cmpX (Subscript_ (ldv n7 rfl (cint fun _ _ => sub0 fun _ _ => cstr fun _ _ => PySem.P.eq_str (wpAny_truthy_bool ?_)))))
  rw [show ((⟨#[c]⟩ : Str).cps.toList == (Str.ofString "!").cps.toList) = false from br_bang c hc]
  refine ifX (cmpX (Subscript_ (ldv n7 rfl (cint fun _ _ => sub0 fun _ _ => newT (s0 := s0) (it2 (cstr fun _ _ => cstr fun _ T9 => ⟨_, _, rfl, two_le, fun q H8 nq k8 t8 => in_tuple_strs (s := St s0 H8 T9) ⟨_, t8, rfl, _, rfl⟩ (.cons _ _ (.cons _ _ .nil)) (wpAny_truthy_bool ?_)⟩))))))
  rw [br_in c hc]
  have I8 := I7.keep F k8
  by_cases h91 : c = 91
  · rw [decide_eq_true h91]
    have n8 := I8.ns
    refine asgX (wpAny_BinOp (cstr fun _ _ => ldv n8 rfl (sadd (by decide +kernel) (by show 1 ≠ 0; decide) (by show (Str.ofString "\\").length + 1 ≤ sizeLine; rw [sizeLine_eq]; decide +kernel) fun t9 T10 => stn n8 fun H9 T9 n9 s9 => nilX ?_)))
    refine then_nil (br3 (c := c) F (I8.put F (i' := i + 2) n9 s9 (put_names (by decide)) I8.ii) hks hc ⟨t9, ?_⟩ fun Hb Tb m' J => then_nil (then_nil (h _ _ _ J)))
    have e : Str.ofString "\\" ++ (⟨#[91]⟩ : Str) = stuffOf 91 := by decide +kernel
    rw [if_pos rfl, h91, e]
  · rw [decide_eq_false h91]
    refine nilX (then_nil (br3 (c := c) F I8 hks hc ⟨t5, ?_⟩ fun Hb Tb m' J => then_nil (then_nil (h _ _ _ J))))
    rw [show stuffOf c = ⟨#[c]⟩ by unfold stuffOf; rw [if_neg h91]]
    rfl
theorem turn_br {c : Nat} {Q : Flow → Shared → Prop} (X : TrW prog w mg cA P H) (W : Wd mg mb H) (F : TrF P H L l r) (I : TrI P H L l r S x ks i Ha m) (hz : x.cps.size < 2 ^ 20) (hks : ks.length < 2 ^ 20) (hc : c ∈ [42, 63, 91]) (h0 : x.cps.toList[i]? = some 91) (h1 : x.cps.toList[i + 1]? = some c) (h2 : x.cps.toList[i + 2]? = some 93)
    (h : ∀ Hb Tb m', TrI P H L l r S x (ks ++ [some (brOf c)]) (i + 3) Hb m' → Q .next (St s0 Hb Tb)) : wpAny (model prog w) A (execs trLoop (envP 13 L f (.ref cA))) Q NoE (St s0 Ha T) := by
  refine tr_pre F I hz h0 fun Hb Tb m' J hcn => ?_
  obtain ⟨tc, ec⟩ := hcn
  refine ifEq J.ns ec (b := false) (by decide +kernel) fun _ => ?_
  refine ifEq J.ns ec (b := false) (by decide +kernel) fun _ => ?_
  refine ifEq J.ns ec (b := true) (by decide +kernel) fun _ => ?_
  exact br1 F J hz hc h1 h2 fun H1 T1 m1 I1 hj => br2 X W F I1 hz hks hc h1 hj fun H2 T2 m2 I2 => then_nil (then_nil (then_nil (then_nil (h _ _ _ I2))))
end
end Mine
end
section
set_option maxRecDepth 100000
set_option Elab.async false
namespace Mine
open PySem PySem.W PySem.Calls PyProof.Rows

/-- the parts of our patterns -/
inductive OkTk : Tk → Prop
  | q : OkTk ⟨[63], some (Str.ofString ".")⟩
  | bang : OkTk ⟨[33], some ⟨#[33]⟩⟩
  | br (c : Nat) : c ∈ [42, 63, 91] → OkTk ⟨[91, c, 93], some (brOf c)⟩
def starTk : Tk := ⟨[42], none⟩
def txtOf (l : List Tk) : List Nat := l.flatMap Tk.txt
theorem txtOf_app (a b : List Tk) : txtOf (a ++ b) = txtOf a ++ txtOf b := List.flatMap_append
theorem OkTk.some {t : Tk} (h : OkTk t) : ∃ k, t.item = some k := by cases h <;> exact ⟨_, rfl⟩

section
variable {prog : Program} {w : World} {A : Around} {E : Value → Shared → Prop} {s0 : Shared} {H : Heap} {T : Nat} {mg mb : Str → Option Value} {s : Shared}
variable {P f cA : Addr} {L l r S : Addr} {x : Str} {Ha : Heap} {m : Str → Option Value} {env : Env} {M : Model}
theorem at_pre {x : Str} {pre t post : List Nat} {j c : Nat} (h : x.cps.toList = pre ++ (t ++ post)) (hc : t[j]? = some c) : x.cps.toList[pre.length + j]? = some c := by
  have hj := (List.getElem?_eq_some_iff.mp hc).1
  rw [h, List.getElem?_append_right (Nat.le_add_right ..), Nat.add_sub_cancel_left, List.getElem?_append_left hj, hc]
theorem turn_any {done rest toks : List Tk} {tk : Tk} {fe : Addr} {Q : Flow → Shared → Prop} (X : TrW prog w mg cA P H) (W : Wd mg mb H) (hfe : mg (nameOf (stm 11)) = some (.ref fe)) (hu : AOk A 1 3) (F : TrF P H L l r) (I : TrI P H L l r S x (done.map Tk.item) (txtOf done).length Ha m)
    (hz : x.cps.size < 2 ^ 10) (hx : x.cps.toList = txtOf toks ++ [42]) (ok : ∀ t ∈ toks, OkTk t) (ne : toks ≠ []) (hd : toks ++ [starTk] = done ++ tk :: rest) (hlen : toks.length < 2 ^ 10)
    (h : ∀ Hb Tb m', TrI P H L l r S x ((done ++ [tk]).map Tk.item) (txtOf (done ++ [tk])).length Hb m' → Q .next (St s0 Hb Tb)) : wpAny (model prog w) A (execs trLoop (envP 13 L f (.ref cA))) Q NoE (St s0 Ha T) := by
  have hx2 : x.cps.toList = txtOf done ++ (tk.txt ++ txtOf rest) := by
    have : txtOf (toks ++ [starTk]) = txtOf (done ++ tk :: rest) := by rw [hd]
    rw [txtOf_app, txtOf_app] at this
    rw [hx]
    exact this
  have hl : done.length ≤ toks.length := by
    have := congrArg List.length hd
    simp at this; omega
  have hz2 : x.cps.size < 2 ^ 20 := Nat.lt_trans hz (by decide)
  have hks : (done.map Tk.item).length < 2 ^ 20 := by rw [List.length_map]; omega
  rw [List.map_append, txtOf_app, List.length_append] at h
  have c0 : ∀ {j c}, tk.txt[j]? = some c → x.cps.toList[(txtOf done).length + j]? = some c := fun hc => at_pre hx2 hc
  rcases List.mem_append.mp (show tk ∈ toks ++ [starTk] by rw [hd]; simp) with hm | hm
  · cases ok tk hm with
    | q => exact turn_q F I hz2 hks (c0 (j := 0) rfl) h
    | bang => exact turn_bang W X hfe hu F I hz2 hks (c0 (j := 0) rfl) h
    | br c hc => exact turn_br X W F I hz2 hks hc (c0 (j := 0) rfl) (c0 (j := 1) rfl) (c0 (j := 2) rfl) h
  · cases List.mem_singleton.mp hm
    have hll : done.length = toks.length := by
      rcases Nat.lt_or_ge done.length toks.length with hlt | hge
      · have e : (toks ++ [starTk])[done.length]? = some starTk := by rw [hd]; simp
        rw [List.getElem?_append_left hlt] at e
        obtain ⟨k, hk⟩ := (ok _ (List.mem_of_getElem? e)).some
        cases hk
      · exact Nat.le_antisymm hl hge
    have hdt : toks = done := (List.append_inj hd hll.symm).1
    subst hdt
    obtain ⟨t, ht⟩ : ∃ t, toks = toks.dropLast ++ [t] := ⟨toks.getLast ne, (List.dropLast_concat_getLast ne).symm⟩
    obtain ⟨k, hk⟩ := (ok t (by rw [ht]; simp)).some
    exact turn_star (k := k) (ks' := toks.dropLast.map Tk.item) F I (by conv => lhs; rw [ht]; rw [List.map_append]; simp only [List.map_cons, List.map_nil, hk]) hz2 hks (c0 (j := 0) rfl) h
theorem trans_call {x : Str} {t tq : Tok} {toks : List Tk} {f fe : Addr} {Q : Value → Shared → Prop} (W : Wd mg mb H) (X : TrW prog w mg cA P H) (hf : mg (nameOf (stm 13)) = some (.ref f)) (hfe : mg (nameOf (stm 11)) = some (.ref fe)) (hu : AOk A 2 6)
    (hz : x.cps.size < 2 ^ 10) (hx : x.cps.toList = txtOf toks ++ [42]) (ok : ∀ t ∈ toks, OkTk t) (ne : toks ≠ []) (hlen : toks.length < 2 ^ 10)
    (h : ∀ H' T' l items, Gr P H H' → (∃ ps, H'.get? P = some (tabObj ps) ∧ TriplesOk ps.toList) → H.get? l = none → Ls H' l items → VA S (toks.map Tk.item ++ [none]) items → Q (.ref l) (St s0 H' T')) :
    wpAny (model prog w) A (call (.ref f) [.str x t, .ref S, .str (Str.ofString ".") tq] []) Q E (St s0 H T) := by
  obtain ⟨f', pm, doc, ef, hfn⟩ := X.fn
  rw [hf] at ef; cases ef
  refine callF 13 [("pat", .str x t), ("STAR", .ref S), ("QUESTION_MARK", .str (Str.ofString ".") tq)] (hu.le (d' := 0) (u' := 0)).dep W.lim hfn rfl (locs rfl) fun H1 L T1 hn k1 hL => ?_
  have hu1 : AOk (A.deeper (envP 13 L f (.ref cA))) 1 3 := hu.deeper _
  have W1 := W.keeps k1
  refine asgX (newL (wpAny_items_nil ⟨_, _, rfl, Nat.zero_le _, fun l H2 nl k2 l2 => stn (hn.keeps k2) fun H3 T3 n3 s3 => ?_⟩))
  have lL : l ≠ L := l2.ne_ns (hn.keeps k2)
  have l3 := l2.same s3 lL
  refine asgX (Attribute_Name_ (ldv n3 rfl (get_append l3 fun r H4 T4 nr k4 a4 => stn (n3.keeps k4) fun H5 T5 n5 s5 => ?_)))
  have rL : r ≠ L := a4.ne_ns (n3.keeps k4)
  have l5 := (l3.at fun o => k4 _ o).same s5 lL
  have a5 : ApAt H5 r l := s5.extBut _ _ rL a4
  have kH3 : Keeps' H H3 := fun b o e => s3.extBut b o (some_ne e hL) (k2 _ _ (k1 _ _ e))
  have kH5 : Keeps' H H5 := fun b o e => s5.extBut b o (some_ne e hL) (k4 _ _ (kH3 _ _ e))
  obtain ⟨ps, hP, tp⟩ := X.tab
  have F : TrF P H L l r := ⟨hL, none_back k1 nl, none_back kH3 nr, ⟨_, hP⟩⟩
  refine asg2X (s0 := s0) hu1.hh (cint fun t0 T6 => callB (id := "len") (W.keeps kH5) (by decide) (by decide +kernel) (it1 (ldv n5 rfl (PySem.P.len_str (by show ¬ ((x.cps.size : Int) ≥ 2 ^ 63); omega) ⟨_, _, rfl, fun H6 k6 => ?_⟩))))
  refine stn (n5.keeps k6) fun H7 T7 n7 s7 => stn n7 fun H8 T8 n8 s8 => ?_
  have kH8 : Keeps' H H8 := fun b o e => s8.extBut b o (some_ne e hL) (s7.extBut b o (some_ne e hL) (k6 _ _ (kH5 _ _ e)))
  have I8 : TrI P H L l r S x [] 0 H8 _ := ⟨n8, ⟨t, rfl⟩, rfl, ⟨tq, rfl⟩, rfl, rfl, ⟨t0, rfl⟩, ⟨_, rfl⟩, ⟨#[], ((l5.at fun o => k6 _ o).same s7 lL).same s8 lL, [], rfl, rfl⟩, s8.extBut _ _ rL (s7.extBut _ _ rL (k6 _ _ a5)), ⟨ps, kH8 _ _ hP, tp⟩, .of kH8⟩
  refine whileX (fun k s => ∃ done rest Hb Tb m', toks ++ [starTk] = done ++ rest ∧ k = rest.length ∧ s = St s0 Hb Tb ∧ TrI P H L l r S x (done.map Tk.item) (txtOf done).length Hb m') ?_ _ ⟨[], toks ++ [starTk], H8, _, _, rfl, rfl, rfl, I8⟩
  rintro k _ ⟨done, rest, Hb, Tb, m', hd, rfl, rfl, J⟩
  obtain ⟨t2, e2⟩ := J.ii
  obtain ⟨t3, e3⟩ := J.nn
  have hsz : x.cps.size = (txtOf done).length + (txtOf rest).length := by
    rw [← Array.length_toList, hx, ← List.length_append, ← txtOf_app, ← hd, txtOf_app]; rfl
  refine cmpX (ldv J.ns e2 (ldv J.ns e3 (PySem.P.lt_int (wpAny_truthy_bool ?_))))
  cases rest with
  | nil =>
    rw [show txtOf [] = [] from rfl, List.length_nil, Nat.add_zero] at hsz
    rw [if_neg (by rw [decide_eq_false (by omega)]; simp)]
    rw [List.append_nil] at hd
    subst hd
    refine seqX (wpAny_Assert_holds (cmpX (ldv J.ns e2 (ldv J.ns e3 (PySem.P.eq_int (wpAny_truthy_bool ⟨?_, ?_⟩))))))
    · rw [hsz]; simp
    · obtain ⟨items, hi, va⟩ := J.ls
      rw [List.map_append] at va
      exact retX (ldv J.ns J.res (h _ _ l items J.gr J.tab F.nl hi va))
  | cons tk rest =>
    have hpos : 0 < tk.txt.length := by
      rcases List.mem_append.mp (show tk ∈ toks ++ [starTk] by rw [hd]; simp) with hm | hm
      · cases ok tk hm <;> simp
      · cases List.mem_singleton.mp hm; exact Nat.zero_lt_one
    rw [if_pos (decide_eq_true (by
      have : (txtOf (tk :: rest)).length = tk.txt.length + (txtOf rest).length := by show (tk.txt ++ txtOf rest).length = _; rw [List.length_append]
      omega))]
    exact turn_any X W hfe hu1 F J hz hx ok ne hd hlen fun Hc Tc m2 J2 => ⟨rest.length, Nat.lt_succ_self _, done ++ [tk], rest, Hc, Tc, m2, by rw [hd]; simp, rfl, rfl, J2⟩
end
end Mine
end
section
set_option maxRecDepth 100000
set_option Elab.async false
namespace Mine
open PySem PySem.W PySem.Calls PyProof.Rows

section
variable {prog : Program} {w : World} {M : Model} {A : Around} {E : Value → Shared → Prop} {s0 : Shared} {H : Heap} {T : Nat} {mg mb : Str → Option Value} {env : Env} {s : Shared}
/-- x += 1 -/
theorem augX {x : Str} {n : Int} {t : Tok} {k : Nat} {px cp pos : Pos} {rest : List Stmt} {m} {Q : Flow → Shared → Prop} (hn : H.Ns env.locals m) (hv : m x = some (.int n t))
    (h : ∀ h' T' t', h'.Ns env.locals (fun y => if y = x then some (.int (n + 1) t') else m y) → Heap.SameBut env.locals H h' → wpAny (model prog w) A (execs rest env) Q E (St s0 h' T'))
    (hk : env.scope.kind = .function := by rfl) (hl : env.kindOf x = some .local := by rfl) (hp : (env.scope.kind == .class || (env.scope.kind == .module && env.locals != env.globals)) = false := by rfl) :
    wpAny (model prog w) A (execs (.AugAssign (.Name x px) .Add (.Constant (.int 1) k cp) pos :: rest) env) Q E (St s0 H T) :=
  wpAny_execs_cons (wpAny_AugAssign_Name (wpAny_loadName_local hk hl hn hv (cint fun _ _ => iaug fun t' _ => stn hn (fun h' T' n' s' => h h' T' t' n' s') hl hp)))
/-- _join_translated_parts's frame -/
structure JoI (H : Heap) (L l r q S : Addr) (n : Nat) (ks : List Str) (i : Nat) (Ha : Heap) (m : Str → Option Value) : Prop where
  ns : Ha.Ns L m
  inp : m "inp" = some (.ref q)
  star : m "STAR" = some (.ref S)
  res : m "res" = some (.ref l)
  add : m "add" = some (.ref r)
  ii : ∃ t, m "i" = some (.int (i : Nat) t)
  nn : ∃ t, m "n" = some (.int (n : Nat) t)
  ls : SL Ha l ks
  ap : ApAt Ha r l
  kp : Keeps' H Ha
theorem SL.ls {h : Heap} {a : Addr} {ks : List Str} (x : SL h a ks) : ∃ items, Ls h a items ∧ items.size = ks.length ∧ ∀ h' v t, v = Value.str k t → Ls h' a (items.push v) → SL h' a (ks ++ [k]) := by
  obtain ⟨l, rfl, y⟩ := x
  exact ⟨_, y, by simp, fun h' v t e z => ⟨l ++ [(k, t)], by simp, by subst e; simpa using z⟩⟩
variable {L l r q S : Addr} {n : Nat} {ks : List Str} {i : Nat} {Ha Hb : Heap} {m : Str → Option Value}
theorem JoI.put {m' : Str → Option Value} {i' : Nat} (I : JoI H L l r q S n ks i Ha m) (nL : H.get? L = none) (n' : Hb.Ns L m') (s : Heap.SameBut L Ha Hb) (hm : ∀ z ∈ ["inp", "STAR", "res", "add", "n"].map Str.ofString, m' z = m z) (hi : ∃ t, m' "i" = some (.int (i' : Nat) t)) : JoI H L l r q S n ks i' Hb m' :=
  ⟨n', (hm _ (by decide)).trans I.inp, (hm _ (by decide)).trans I.star, (hm _ (by decide)).trans I.res, (hm _ (by decide)).trans I.add, hi, let ⟨t, e⟩ := I.nn; ⟨t, (hm _ (by decide)).trans e⟩,
    let ⟨l', e, v⟩ := I.ls; ⟨l', e, v.same s (v.ne_ns I.ns)⟩, s.extBut _ _ (I.ap.ne_ns I.ns) I.ap, fun b o e => s.extBut b o (some_ne e nL) (I.kp _ _ e)⟩
/-- add(e) as a statement -/
theorem jo_add {k : Str} {f : Addr} {cd : Value} {e : Expr} {p cp pos : Pos} {rest : List Stmt} {Q : Flow → Shared → Prop} (nl : H.get? l = none) (I : JoI H L l r q S n ks i Ha m) (hz : ks.length < 2 ^ 20)
    (h : wpAny (model prog w) A (eval e (envP 14 L f cd)) (fun v s₁ => ∃ Tb t, s₁ = St s0 Ha Tb ∧ v = .str k t ∧ ∀ Hc Tc, JoI H L l r q S n (ks ++ [k]) i Hc m → wpAny (model prog w) A (execs rest (envP 14 L f cd)) Q NoE (St s0 Hc Tc)) NoE (St s0 Ha T))
    (hs : starEach [e] (envP 14 L f cd) = [(false, eval e (envP 14 L f cd))] := by rfl) (hsw : swapsWith (.Call (.Name "add" p) [e] [] cp) none pos.line (envP 14 L f cd) = pure false := by rfl) :
    wpAny (model prog w) A (execs (.Expr (.Call (.Name "add" p) [e] [] cp) pos :: rest) (envP 14 L f cd)) Q NoE (St s0 Ha T) := by
  refine exprX (appC (l := l) I.ns I.add (wpAny_mono h (fun v s₁ q => ?_) fun _ _ e => e) (hs := hs)) (hs := hsw)
  obtain ⟨Tb, t, rfl, hv, q⟩ := q
  obtain ⟨items, hi, hsz, push⟩ := I.ls.ls (k := k)
  exact ⟨Ha, Tb, items, rfl, I.ap, hi, size30 (by rw [hsz]; exact hz), fun h' l' s' => ⟨rfl, q _ _ ⟨I.ns.sameBut s' (Ne.symm (hi.ne_ns I.ns)), I.inp, I.star, I.res, I.add, I.ii, I.nn, push _ _ t hv l', s'.extBut _ _ (I.ap.ne_ls hi) I.ap, fun b o e => s'.extBut b o (some_ne e nl) (I.kp _ _ e)⟩⟩⟩

def shownOf (ks : List Str) : List Nat := [40, 63, 115, 58] ++ cps ks ++ [46, 42] ++ [41, 92, 90]
theorem join_call {f : Addr} {ks : List Str} {items : Array Value} {Q : Value → Shared → Prop} (W : Wd mg mb H) (hf : mg (nameOf (stm 14)) = some (.ref f)) (hu : AOk A 1 3) (hq : Ls H q items) (va : VA S (ks.map some ++ [none]) items) (hz : ks.length < 2 ^ 10) (hzc : (cps ks).length < 2 ^ 10) (hj : JoinOk (Str.ofString "") (ks ++ [Str.ofString ".*"]) = true)
    (h : ∀ H' T' (x : Str) t, Keeps' H H' → x.cps.toList = shownOf ks → Q (.str x t) (St s0 H' T')) :
    wpAny (model prog w) A (call (.ref f) [.ref q, .ref S] []) Q E (St s0 H T) := by
  obtain ⟨pm, cd, doc, hfn⟩ := W.at 14 hf
  refine callF 14 [("inp", .ref q), ("STAR", .ref S)] (hu.le (d' := 0) (u' := 0)).dep W.lim hfn rfl (locs rfl) fun H1 L T1 hn k1 nL => ?_
  have hu1 : AOk (A.deeper (envP 14 L f cd)) 0 0 := hu.deeper _
  have hsz : items.size = ks.length + 1 := by rw [va.size]; simp
  refine asgX (newL (wpAny_items_nil ⟨_, _, rfl, Nat.zero_le _, fun l H2 nl k2 l2 => stn (hn.keeps k2) fun H3 T3 n3 s3 => ?_⟩))
  have lL : l ≠ L := l2.ne_ns (hn.keeps k2)
  have l3 := l2.same s3 lL
  refine asgX (Attribute_Name_ (ldv n3 rfl (get_append l3 fun r H4 T4 nr k4 a4 => stn (n3.keeps k4) fun H5 T5 n5 s5 => ?_)))
  have rL : r ≠ L := a4.ne_ns (n3.keeps k4)
  have l5 := (l3.at fun o => k4 _ o).same s5 lL
  have a5 : ApAt H5 r l := s5.extBut _ _ rL a4
  have kH3 : Keeps' H H3 := fun b o e => s3.extBut b o (some_ne e nL) (k2 _ _ (k1 _ _ e))
  have kH5 : Keeps' H H5 := fun b o e => s5.extBut b o (some_ne e nL) (k4 _ _ (kH3 _ _ e))
  have nl0 := none_back k1 nl
  refine asg2X (s0 := s0) hu1.hh (cint fun t0 T6 => callB (id := "len") (W.keeps kH5) (by decide) (by decide +kernel) (it1 (ldv n5 rfl (len_list (hq.at fun o => kH5 _ o) (by omega) fun tn T7 => ⟨_, _, rfl, fun H6 k6 => ?_⟩))))
  refine stn (n5.keeps k6) fun H7 T7 n7 s7 => stn n7 fun H8 T8 n8 s8 => ?_
  have kH8 : Keeps' H H8 := fun b o e => s8.extBut b o (some_ne e nL) (s7.extBut b o (some_ne e nL) (k6 _ _ (kH5 _ _ e)))
  have I8 : JoI H L l r q S items.size [] 0 H8 _ := ⟨n8, rfl, rfl, rfl, rfl, ⟨t0, rfl⟩, ⟨_, rfl⟩, ⟨[], rfl, ((l5.at fun o => k6 _ o).same s7 lL).same s8 lL⟩, s8.extBut _ _ rL (s7.extBut _ _ rL (k6 _ _ a5)), kH8⟩
  refine whileX (fun k s => ∃ i Hb Tb m', k = ks.length - i ∧ i ≤ ks.length ∧ s = St s0 Hb Tb ∧ JoI H L l r q S items.size (ks.take i) i Hb m') ?_ _ ⟨0, H8, _, _, rfl, Nat.zero_le _, rfl, I8⟩
  rintro k _ ⟨i, Hb, Tb, m', rfl, hi, rfl, J⟩
  obtain ⟨t2, e2⟩ := J.ii
  obtain ⟨t3, e3⟩ := J.nn
  have hqb := hq.at fun o => J.kp _ o
  refine wpAny_isTrue_BoolOp (wpAny_allTrue_And_cons (cmpX (ldv J.ns e2 (ldv J.ns e3 (PySem.P.lt_int (wpAny_truthy_bool ?_))))))
  rw [if_pos (decide_eq_true (by omega))]
  by_cases hlt : i < ks.length
  · obtain ⟨k, hk⟩ : ∃ k, ks[i]? = some k := ⟨_, List.getElem?_eq_getElem hlt⟩
    obtain ⟨tv, hv⟩ := va.at (i := i) (k := some k) (by rw [List.getElem?_append_left (by simpa using hlt), List.getElem?_map, hk]; rfl)
    refine wpAny_allTrue_And_cons (cmpX (Subscript_ (ldv J.ns J.inp (ldv J.ns e2 (sub_list (x := .str k tv) hqb (Int.natCast_nonneg i) (by omega) (by rw [Int.toNat_natCast]; exact hv) (ldv J.ns J.star (wpAny_isNot_other rfl nofun (wpAny_truthy_bool (wpAny_allTrue_And_nil ?_)))))))))
    rw [if_pos rfl]
    refine jo_add (k := k) nl0 J (by rw [List.length_take]; omega) (Subscript_ (ldv J.ns J.inp (ldv J.ns e2 (sub_list (x := .str k tv) hqb (Int.natCast_nonneg i) (by omega) (by rw [Int.toNat_natCast]; exact hv) ⟨_, tv, rfl, rfl, fun Hc Tc J1 => ?_⟩))))
    rw [show ks.take i ++ [k] = ks.take (i + 1) by rw [List.take_add_one, hk]; rfl] at J1
    obtain ⟨t4, e4⟩ := J1.ii
    exact augX J1.ns e4 fun H9 T9 t9 n9 s9 => nilX ⟨ks.length - (i + 1), by omega, i + 1, H9, T9, _, rfl, hlt, rfl, J1.put (i' := i + 1) nL n9 s9 (fun z hz => if_neg (by rintro rfl; revert hz; decide)) ⟨t9, rfl⟩⟩
  · have hie : i = ks.length := by omega
    subst hie
    rw [List.take_length] at J
    obtain ⟨tv, hv⟩ := va.at (i := ks.length) (k := none) (by rw [List.getElem?_append_right (by simp)]; simp)
    refine wpAny_allTrue_And_cons (cmpX (Subscript_ (ldv J.ns J.inp (ldv J.ns e2 (sub_list (x := .ref S) hqb (Int.natCast_nonneg _) (by omega) (by rw [Int.toNat_natCast]; exact hv) (ldv J.ns J.star (wpAny_isNot_ref_self (wpAny_truthy_bool ?_))))))))
    rw [if_neg Bool.false_ne_true, if_neg Bool.false_ne_true]
    refine whileX (fun _ s => ∃ Hb Tb m', s = St s0 Hb Tb ∧ JoI H L l r q S items.size ks ks.length Hb m') ?_ 0 ⟨Hb, _, _, rfl, J⟩
    clear J e2 e3 hqb t2 t3
    rintro k _ ⟨Hb, Tb, m', rfl, J⟩
    obtain ⟨t2, e2⟩ := J.ii
    obtain ⟨t3, e3⟩ := J.nn
    have hqb := hq.at fun o => J.kp _ o
    refine cmpX (ldv J.ns e2 (ldv J.ns e3 (PySem.P.lt_int (wpAny_truthy_bool ?_))))
    rw [if_pos (decide_eq_true (by omega))]
    refine seqX (wpAny_Assert_holds (cmpX (Subscript_ (ldv J.ns J.inp (ldv J.ns e2 (sub_list (x := .ref S) hqb (Int.natCast_nonneg _) (by omega) (by rw [Int.toNat_natCast]; exact hv) (ldv J.ns J.star (wpAny_is_ref_self (wpAny_truthy_bool ⟨rfl, ?_⟩)))))))))
    refine augX J.ns e2 fun H9 T9 t9 n9 s9 => ?_
    have J1 := J.put (i' := ks.length + 1) nL n9 s9 (fun z hz => if_neg (by rintro rfl; revert hz; decide)) ⟨t9, rfl⟩
    refine ifX (cmpX (ldv J1.ns rfl (ldv J1.ns e3 (PySem.P.eq_int (wpAny_truthy_bool ?_)))))
    rw [show (((ks.length : Int) + 1 == (items.size : Int))) = true by rw [hsz]; simp]
    refine jo_add (k := Str.ofString ".*") nl0 J1 (by omega) (cstr fun t10 T10 => ⟨_, t10, rfl, rfl, fun Hc Tc J2 => brkX ?_⟩)
    obtain ⟨t4, e4⟩ := J2.ii
    obtain ⟨t5, e5⟩ := J2.nn
    refine seqX (wpAny_Assert_holds (cmpX (ldv J2.ns e4 (ldv J2.ns e5 (PySem.P.eq_int (wpAny_truthy_bool ⟨by rw [hsz]; simp, ?_⟩))))))
    refine asgX (joinM fun _ _ => ldv J2.ns J2.res ⟨l, _, _, _, rfl, rfl, J2.ls, hj, fun t6 T6 => stn J2.ns fun H11 T11 n11 s11 => retX (wpAny_JoinedStr ?_)⟩)
    obtain ⟨y, hy⟩ : ∃ y, y = Txt.join (Str.ofString "") (ks ++ [Str.ofString ".*"]) := ⟨_, rfl⟩
    rw [← hy] at n11
    have ey : y.cps.toList = cps ks ++ [46, 42] := by
      rw [hy, join_cps]
      unfold cps
      rw [List.map_append, List.flatten_append, show ([Str.ofString ".*"].map fun k => k.cps.toList).flatten = [46, 42] by decide +kernel]
    have ly : y.length < 1100 := by
      show y.cps.size < 1100
      rw [← Array.length_toList, ey, List.length_append]
      show _ + 2 < 1100
      omega
    have zl : ∀ n, n < 1200 → n ≤ sizeLine := fun n hn => by rw [sizeLine_eq]; omega
    have l1 : (Str.empty ++ Str.ofString "(?s:").length = 4 := by decide +kernel
    have l3 : (Str.ofString ")\\Z").length = 3 := by decide +kernel
    refine cstr fun _ _ => ⟨_, _, rfl, zl _ (by omega), ?_⟩
    refine fmtF (s0 := s0) (ldv n11 rfl ⟨_, _, _, _, rfl, rfl, zl _ (by omega), fun _ _ => ⟨_, _, rfl, zl _ (by rw [Str.length_append]; omega), ?_⟩⟩)
    refine cstr fun t12 T12 => ⟨_, _, rfl, zl _ (by rw [Str.length_append, Str.length_append]; omega), zl _ (by rw [Str.length_append, Str.length_append]; omega), h _ _ _ _ (fun b o e => s11.extBut b o (some_ne e nL) (J2.kp _ _ e)) ?_⟩
    show ((Str.empty ++ Str.ofString "(?s:").cps ++ y.cps ++ (Str.ofString ")\\Z").cps).toList = _
    rw [Array.toList_append, Array.toList_append, ey, show (Str.empty ++ Str.ofString "(?s:").cps.toList = [40, 63, 115, 58] by decide +kernel, show (Str.ofString ")\\Z").cps.toList = [41, 92, 90] by decide +kernel]
    simp [shownOf]
end
end Mine
end
section
set_option maxRecDepth 100000
set_option Elab.async false
namespace Mine
open PySem PySem.W PySem.Calls PyProof.Rows

namespace FOb
theorem mro : mroOf (.type "object") = pure [.type "object"] := by kernel_rfl
theorem lookup_new : typeLookup (.type "object") "__new__" = pure (some (.builtin "object.__new__")) := by rw [typeLookup_type, builtinLookup_eq_fast]; kernel_rfl
theorem lookup_init : typeLookup (.type "object") "__init__" = pure (some (.builtin "object.__init__")) := by rw [typeLookup_type, builtinLookup_eq_fast]; kernel_rfl
theorem made : Bind.madeBy (.type "object") = pure (some "object.__new__") := madeBy_type mro lookup_new (by decide +kernel)
theorem slot_init : Slot "object" "__init__" "object.__init__" :=
  .of (owner := "object") (n := "__init__") (by rw [typeLookup_type, builtinLookup_eq_fast]; kernel_rfl) (by decide +kernel) (by decide +kernel) (by decide +kernel)
    (by first | exact .inl (by decide +kernel) | exact .inr (by decide +kernel)) (by rw [isSubtype_type]; kernel_rfl)
theorem called : TypeCalled "object" "object.__new__" "object.__init__" :=
  ⟨by decide +kernel, by decide +kernel, ⟨_, _, mro⟩, made, by decide +kernel, by rw [isSubtype_type]; kernel_rfl, slot_init⟩
theorem typeCall : checkTypeCall "object" ⟨[], []⟩ = pure () := by kernel_rfl
theorem newCall : checkBuiltinCall "object.__new__" ⟨[.type "object"], []⟩ = pure () := by kernel_rfl
theorem args_init (a : Value) : argsOk "object.__init__" ⟨[a], []⟩ := by unfold argsOk; kernel_rfl
theorem plain_new : plainId "object.__new__" = true := by decide +kernel
end FOb
section
variable {prog : Program} {w : World} {M : Model} {A : Around} {E : Value → Shared → Prop} {s0 : Shared} {H : Heap} {T : Nat} {mg mb : Str → Option Value} {env : Env} {s : Shared}
theorem new_object {Q : Value → Shared → Prop} (h : ∀ r H', H.get? r = none → Keeps' H H' → (St s0 H' T).TypeIs (.ref r) "object" → Q (.ref r) (St s0 H' T)) :
    codeAny (model prog w) A (.call (.builtin "object.__new__") ⟨[.type "object"], []⟩) (wants Q E) (St s0 H T) := by
  refine codeAny_of_tree ?_
  show wpAny _ A.in1 (do checkBuiltinCall "object.__new__" ⟨[.type "object"], []⟩; again (.builtin "object.__new__" ⟨[.type "object"], []⟩)) _ _ _
  refine wpAny_bind (wpAny_of_eq FOb.newCall (wpAny_pure ⟨plainId_quiet FOb.plain_new _, codeAny_builtin PySem.F.objNew.entry ?_⟩))
  rw [Around.under_plainId FOb.plain_new _]
  have h' := h H.objs.size (H.push { cls := .type "object", data := .plain }) (none_of_le (Nat.le_refl _)) (fun _ _ e => Heap.get?_push_of_some _ e) ⟨_, Heap.get?_push_size _ rfl, rfl⟩
  have f1 := FOb.made
  obtain ⟨hp, g, d, tk, os⟩ := s0
  unfold St at h' ⊢
  unfold Builtin.«object.__new__»
  repeat (any_goals (first | assumption | wp_step))
theorem call_object {Q : Value → Shared → Prop} (h : ∀ r H', H.get? r = none → Keeps' H H' → Q (.ref r) (St s0 H' T)) : wpAny (model prog w) A (call (.type "object") []) Q E (St s0 H T) := by
  refine callType_codes (Q₁ := fun obj s₁ => s₁.TypeIs obj "object" ∧ Q obj s₁) FOb.called FOb.typeCall F.entry_object_init (new_object fun r H' n k t => ⟨t, h r H' n k⟩) fun obj s₁ q => ⟨q.1, FOb.args_init _, ?_⟩
  show wpAny _ _ (ret .none) _ _ _
  exact wpAny_pure ⟨rfl, q.2⟩
end
end Mine
end
section
set_option maxRecDepth 100000
set_option Elab.async false
namespace Mine
open PySem PySem.W PySem.Calls PyProof.Rows
section
variable {prog : Program} {w : World} {M : Model} {A : Around} {E : Value → Shared → Prop} {s0 : Shared} {H : Heap} {T : Nat} {mg mb : Str → Option Value} {env : Env} {s : Shared}
theorem translate_call {x : Str} {t : Tok} {toks : List Tk} {ks : List Str} {f cA P : Addr} {Q : Value → Shared → Prop} (W : Wd mg mb H) (X : TrW prog w mg cA P H) (hf : mg (nameOf (stm 8)) = some (.ref f)) (hu : AOk A 3 9)
    (hz : x.cps.size < 2 ^ 10) (hx : x.cps.toList = txtOf toks ++ [42]) (ok : ∀ t ∈ toks, OkTk t) (ne : toks ≠ []) (hlen : toks.length < 2 ^ 10) (hks : toks.map Tk.item = ks.map some) (hzc : (cps ks).length < 2 ^ 10) (hj : JoinOk (Str.ofString "") (ks ++ [Str.ofString ".*"]) = true)
    (h : ∀ H' T' (y : Str) t, Gr P H H' → (∃ ps, H'.get? P = some (tabObj ps) ∧ TriplesOk ps.toList) → y.cps.toList = shownOf ks → Q (.str y t) (St s0 H' T')) :
    wpAny (model prog w) A (call (.ref f) [.str x t] []) Q E (St s0 H T) := by
  obtain ⟨pm, cd, doc, hfn⟩ := W.at 8 hf
  obtain ⟨f13, _, _, _, e13, _⟩ := W.fn 13 (by decide)
  obtain ⟨f14, _, _, _, e14, _⟩ := W.fn 14 (by decide)
  obtain ⟨f11, _, _, _, e11, _⟩ := W.fn 11 (by decide)
  refine callF 8 [("pat", .str x t)] (hu.le (d' := 0) (u' := 0)).dep W.lim hfn rfl (locs rfl) fun H1 L T1 hn k1 nL => ?_
  have hu1 : AOk (A.deeper (envP 8 L f cd)) 2 6 := hu.deeper _
  have W1 := W.keeps k1
  refine asgX (wpAny_Call_Name_kw (ldb W1 (by decide) (v := .type "object") (by decide +kernel) (PySem.callWith_type rfl (wpAny_pure (call_object fun S H2 nS k2 => stn (hn.keeps k2) fun H3 T3 n3 s3 => ?_)))))
  have k3 : Keeps' H H3 := fun b o e => s3.extBut b o (some_ne e nL) (k2 _ _ (k1 _ _ e))
  have W3 := W.keeps k3
  have X3 := X.keeps k3
  obtain ⟨_, _, _, ⟨o13, ho13, hd13⟩, _⟩ := W3.at 13 e13
  obtain ⟨ps, hP, tp⟩ := X3.tab
  refine asgX (callN W3.g e13 hd13 (it3 (ldv n3 rfl (ldv n3 rfl (cstr fun tq T4 => ⟨ho13, trans_call W3 X3 e13 e11 hu1.le hz hx ok ne hlen fun H5 T5 l items g5 t5 nl hl va => ?_⟩)))))
  obtain ⟨ps0, hP0, tp0⟩ := X.tab
  have PL : P ≠ L := some_ne hP0 nL
  have n5 := n3.extBut g5.but (Ne.symm PL)
  refine stn n5 fun H6 T6 n6 s6 => ?_
  have g6 : Gr P H H6 := ((Gr.of k3).trans g5).same s6.extBut nL PL
  have t6 : ∃ ps, H6.get? P = some (tabObj ps) ∧ TriplesOk ps.toList := let ⟨ps, e, t⟩ := t5; ⟨ps, s6.extBut _ _ PL e, t⟩
  have W6 := W.gr hP0 tp0 g6
  obtain ⟨_, _, _, ⟨o14, ho14, hd14⟩, _⟩ := W6.at 14 e14
  rw [hks] at va
  exact retX (callN W6.g e14 hd14 (it2 (ldv n6 rfl (ldv n6 rfl ⟨ho14, join_call W6 e14 hu1.le (hl.same s6 (hl.ne_ns n5)) va (by rw [← List.length_map (f := some), ← hks, List.length_map]; exact hlen) hzc hj fun H7 T7 y t k7 ey => h H7 T7 y t (g6.keep k7) (let ⟨ps, e, t⟩ := t6; ⟨ps, k7 _ _ e, t⟩) ey⟩))))
end
end Mine
end
section
set_option maxRecDepth 100000
set_option Elab.async false
namespace Mine
open PySem PySem.W PySem.Calls PyProof.Rows

/-- the parts of a shown pattern, what _law_read keeps of them -/
inductive OkRd : Str → Str → Prop
  | q : OkRd (Str.ofString ".") (Str.ofString "")
  | bang : OkRd ⟨#[33]⟩ ⟨#[33]⟩
  | br (c : Nat) : c ∈ [42, 63, 91] → OkRd (brOf c) ⟨#[c]⟩
open Builtin Builtin.Str in
theorem gives_index3 (x y : Str) (i : Int) (t u v : Tok) (k : Nat) (h : Txt.find3 x y i = (k : Int)) : Gives («str.index» ⟨[.str x t, .str y u, .int i v], []⟩) (.int k) := by
  show Gives (match occurrences x y (fromIndex x.length i) (min x.length x.length) 1 with | k :: _ => retInt k | [] => (do rule "str.index.not-found"; raiseError "ValueError" "substring not found")) _
  rw [Nat.min_self]
  unfold Txt.find3 at h
  cases hc : occurrences x y (fromIndex x.length i) x.length 1 with
  | nil => rw [hc] at h; exact absurd h (by simp)
  | cons j _ =>
    rw [hc] at h
    have : j = k := Int.ofNat_inj.mp h
    subst this
    exact .of_eq rfl
theorem find_at {x : Str} {i n c : Nat} (h : x.cps.toList[i + n]? = some c) (hn : ∀ j, j < n → ∃ d, x.cps.toList[i + j]? = some d ∧ d ≠ c) : Txt.find3 x ⟨#[c]⟩ (i : Int) = ((i + n : Nat) : Int) := by
  have hf : fromIndex x.length (i : Int) = i := by unfold fromIndex; rw [if_neg (by omega)]; omega
  have g : ∀ j d, x.cps.toList[j]? = some d → x.cps.getD j 0 = d := fun j d e => by rw [Array.getElem?_toList] at e; simp [Array.getD_eq_getD_getElem?, e]
  have hlt : i + n < x.length := by show _ < x.cps.size; rw [← Array.length_toList]; exact (List.getElem?_eq_some_iff.mp h).1
  rcases StrLaws.find3_spec x c (i : Int) with ⟨_, hno⟩ | ⟨k, e, h1, h2, h3, h4⟩
  · exact absurd (g _ _ h) (hno (i + n) (by rw [hf]; omega) hlt)
  · rw [hf] at h1 h4
    rw [e]
    have a : ¬ i + n < k := fun q => h4 _ (by omega) q (g _ _ h)
    have b : ¬ k < i + n := fun q => by
      obtain ⟨d, hd, hdc⟩ := hn (k - i) (by omega)
      rw [show i + (k - i) = k by omega] at hd
      exact hdc ((g _ _ hd).symm.trans h3)
    omega
theorem cps_app (a b : List Str) : cps (a ++ b) = cps a ++ cps b := by unfold cps; rw [List.map_append, List.flatten_append]
theorem cps_one (k : Str) : cps [k] = k.cps.toList := by simp [cps]

section
variable {prog : Program} {w : World} {M : Model} {A : Around} {E : Value → Shared → Prop} {s0 : Shared} {H : Heap} {T : Nat} {mg mb : Str → Option Value} {env : Env} {s : Shared}
/-- _law_read's frame -/
structure RdI (H : Heap) (L l : Addr) (x : Str) (ks : List Str) (i : Nat) (Ha : Heap) (m : Str → Option Value) : Prop where
  ns : Ha.Ns L m
  sh : ∃ t, m "shown" = some (.str x t)
  kp : m "kept" = some (.ref l)
  at_ : ∃ t, m "at" = some (.int (i : Nat) t)
  ls : SL Ha l ks
  keep : Keeps' H Ha
variable {L l : Addr} {x : Str} {ks : List Str} {i : Nat} {Ha Hb : Heap} {m : Str → Option Value} {f : Addr} {cd : Value}
theorem RdI.at' {i' : Nat} {v : Value} (I : RdI H L l x ks i Ha m) (nL : H.get? L = none) (n' : Hb.Ns L (fun z => if z = Str.ofString "at" then some v else m z)) (s : Heap.SameBut L Ha Hb) (hv : ∃ t, v = .int (i' : Nat) t) : RdI H L l x ks i' Hb (fun z => if z = Str.ofString "at" then some v else m z) :=
  ⟨n', I.sh, I.kp, let ⟨t, e⟩ := hv; ⟨t, by rw [if_pos rfl, e]⟩, let ⟨l', e, w⟩ := I.ls; ⟨l', e, w.same s (w.ne_ns I.ns)⟩, fun b o e => s.extBut b o (some_ne e nL) (I.keep _ _ e)⟩
theorem rd_add {k : Str} {e : Expr} {p ap cp pos : Pos} {rest : List Stmt} {Q : Flow → Shared → Prop} (nl : H.get? l = none) (I : RdI H L l x ks i Ha m) (hz : ks.length < 2 ^ 20)
    (h : wpAny (model prog w) A (eval e (envP 18 L f cd)) (fun v s₁ => ∃ Tb t, s₁ = St s0 Ha Tb ∧ v = .str k t ∧ ∀ Hc Tc, RdI H L l x (ks ++ [k]) i Hc m → wpAny (model prog w) A (execs rest (envP 18 L f cd)) Q NoE (St s0 Hc Tc)) NoE (St s0 Ha T))
    (hs : starEach [e] (envP 18 L f cd) = [(false, eval e (envP 18 L f cd))] := by rfl) (hline : (ap.endLine == cp.line) = true := by rfl) (hsw : swapsWith (.Call (.Attribute (.Name "kept" p) "append" ap) [e] [] cp) none pos.line (envP 18 L f cd) = pure false := by rfl) :
    wpAny (model prog w) A (execs (.Expr (.Call (.Attribute (.Name "kept" p) "append" ap) [e] [] cp) pos :: rest) (envP 18 L f cd)) Q NoE (St s0 Ha T) := by
  obtain ⟨items, hi, hsz, push⟩ := I.ls.ls (k := k)
  refine exprX (appM I.ns I.kp hi (wpAny_mono h (fun v s₁ q => ?_) fun _ _ e => e) (hs := hs) (hline := hline)) (hs := hsw)
  obtain ⟨Tb, t, rfl, hv, q⟩ := q
  exact ⟨Ha, Tb, items, rfl, hi, size30 (by rw [hsz]; exact hz), fun h' l' s' => ⟨rfl, q _ _ ⟨I.ns.sameBut s' (Ne.symm (hi.ne_ns I.ns)), I.sh, I.kp, I.at_, push _ _ t hv l', fun b o e => s'.extBut b o (some_ne e nl) (I.keep _ _ e)⟩⟩⟩
abbrev rdLoop : List Stmt := loopOf (stAt (bodyOf (stm 18)) 3)
theorem rd_turn {k kp : Str} {pre post : List Nat} {Q : Flow → Shared → Prop} (nL : H.get? L = none) (nl : H.get? l = none) (I : RdI H L l x ks i Ha m) (hz : x.cps.size < 2 ^ 20) (hks : ks.length < 2 ^ 20) (hk : OkRd k kp) (hx : x.cps.toList = pre ++ (k.cps.toList ++ post)) (hi : pre.length = i)
    (h : ∀ Hb Tb m', RdI H L l x (ks ++ [kp]) (i + k.cps.size) Hb m' → Q .next (St s0 Hb Tb)) : wpAny (model prog w) A (execs rdLoop (envP 18 L f cd)) Q NoE (St s0 Ha T) := by
  subst hi
  have c0 : ∀ {j c}, k.cps.toList[j]? = some c → x.cps.toList[pre.length + j]? = some c := fun hc => at_pre hx hc
  obtain ⟨t1, e1⟩ := I.sh
  obtain ⟨t2, e2⟩ := I.at_
  have last : ∀ {n d Hb Tb m'}, RdI H L l x (ks ++ [kp]) n Hb m' → n + 1 = pre.length + k.cps.size → d = 1 → wpAny (model prog w) A (execs (List.drop d rdLoop) (envP 18 L f cd)) Q NoE (St s0 Hb Tb) := by
    intro n d Hb Tb m' J e hd
    subst hd
    obtain ⟨t3, e3⟩ := J.at_
    exact asgX (wpAny_BinOp (ldv J.ns e3 (cint fun _ _ => iadd fun t4 _ => stn J.ns fun H5 T5 n5 s5 => nilX (h _ _ _ (J.at' nL n5 s5 ⟨t4, by rw [← e]; rfl⟩)))))
  cases hk with
  | q =>
    have c1 : x.cps.toList[pre.length]? = some 46 := c0 (j := 0) (by decide +kernel)
    refine ifX (cmpX (Subscript_ (ldv I.ns e1 (ldv I.ns e2 (sub_str rfl hz c1 fun _ _ => cstr fun _ _ => P.eq_str (wpAny_truthy_bool ?_))))))
    rw [show ((⟨#[46]⟩ : Str).cps.toList == (Str.ofString "[").cps.toList) = false by decide +kernel]
    refine rd_add (k := Str.ofString "") nl I hks (wpAny_IfExp (cmpX (Subscript_ (ldv I.ns e1 (ldv I.ns e2 (sub_str rfl hz c1 fun _ _ => cstr fun _ _ => P.eq_str (wpAny_truthy_bool ?_)))))))
    rw [show ((⟨#[46]⟩ : Str).cps.toList == (Str.ofString ".").cps.toList) = true by decide +kernel, if_pos rfl]
    exact cstr fun t7 T7 => ⟨_, t7, rfl, rfl, fun Hc Tc J => nilX (last J (by rw [show (Str.ofString ".").cps.size = 1 by decide +kernel]) rfl)⟩
  | bang =>
    have c1 : x.cps.toList[pre.length]? = some 33 := c0 (j := 0) rfl
    refine ifX (cmpX (Subscript_ (ldv I.ns e1 (ldv I.ns e2 (sub_str rfl hz c1 fun _ _ => cstr fun _ _ => P.eq_str (wpAny_truthy_bool ?_))))))
    rw [show ((⟨#[33]⟩ : Str).cps.toList == (Str.ofString "[").cps.toList) = false by decide +kernel]
    refine rd_add (k := ⟨#[33]⟩) nl I hks (wpAny_IfExp (cmpX (Subscript_ (ldv I.ns e1 (ldv I.ns e2 (sub_str rfl hz c1 fun _ _ => cstr fun _ _ => P.eq_str (wpAny_truthy_bool ?_)))))))
    rw [show ((⟨#[33]⟩ : Str).cps.toList == (Str.ofString ".").cps.toList) = false by decide +kernel, if_neg Bool.false_ne_true]
    exact Subscript_ (ldv I.ns e1 (ldv I.ns e2 (sub_str rfl hz c1 fun t7 T7 => ⟨_, t7, rfl, rfl, fun Hc Tc J => nilX (last J rfl rfl)⟩)))
  | br c hc =>
    have hb : ∀ c ∈ [42, 63, 91], (brOf c).cps.toList[0]? = some 91 ∧ ∃ n, (brOf c).cps.size = n + 1 + 1 ∧ (brOf c).cps.toList[n + 1]? = some 93 ∧ (brOf c).cps.toList[n]? = some c ∧ ∀ j, j < n + 1 → ∃ d, (brOf c).cps.toList[j]? = some d ∧ d ≠ 93 := by
      intro c hc
      simp only [List.mem_cons, List.mem_nil_iff, or_false] at hc
      rcases hc with rfl | rfl | rfl
      · exact ⟨rfl, 1, rfl, rfl, rfl, fun j hj => match j, hj with | 0, _ => ⟨91, rfl, by decide⟩ | 1, _ => ⟨42, rfl, by decide⟩⟩
      · exact ⟨rfl, 1, rfl, rfl, rfl, fun j hj => match j, hj with | 0, _ => ⟨91, rfl, by decide⟩ | 1, _ => ⟨63, rfl, by decide⟩⟩
      · exact ⟨rfl, 2, rfl, rfl, rfl, fun j hj => match j, hj with | 0, _ => ⟨91, rfl, by decide⟩ | 1, _ => ⟨92, rfl, by decide⟩ | 2, _ => ⟨91, rfl, by decide⟩⟩
    obtain ⟨b0, n, bs, b1, b2, b3⟩ := hb c hc
    have c1 : x.cps.toList[pre.length]? = some 91 := c0 (j := 0) b0
    have hf := find_at (c0 b1) fun j hj => let ⟨d, hd, hne⟩ := b3 j hj; ⟨d, c0 hd, hne⟩
    refine ifX (cmpX (Subscript_ (ldv I.ns e1 (ldv I.ns e2 (sub_str rfl hz c1 fun _ _ => cstr fun _ _ => P.eq_str (wpAny_truthy_bool ?_))))))
    rw [show ((⟨#[91]⟩ : Str).cps.toList == (Str.ofString "[").cps.toList) = true by decide +kernel]
    refine asgX (methM F.plainAttrs_str F.slot_str_index F.type_str_index (ldv I.ns e1 ⟨strRecv.1, strRecv.2, it2 (cstr fun _ _ => ldv I.ns e2 (call_gives F.slot_str_index (typeIs_str _ _ _) F.entry_str_index (F.args_str_index_3 _ _ _) (gives_index3 _ _ _ _ _ _ (pre.length + (n + 1)) (by rw [show Str.ofString "]" = ⟨#[93]⟩ by decide +kernel]; exact hf)) ?_))⟩))
    refine stn I.ns fun H5 T5 n5 s5 => ?_
    have I5 := I.at' (i' := pre.length + (n + 1)) nL n5 s5 ⟨_, rfl⟩
    refine rd_add (k := ⟨#[c]⟩) nl I5 hks (Subscript_ (ldv n5 e1 (wpAny_BinOp (ldv n5 rfl (cint fun _ _ => isub fun t7 _ => sub_str (q := pre.length + n) (by omega) hz (c0 b2) fun t8 T8 => ⟨_, t8, rfl, rfl, fun Hc Tc J => nilX (last J (by omega) rfl)⟩)))))
theorem read_call {f : Addr} {x : Str} {t : Tok} {rs : List (Str × Str)} {Q : Value → Shared → Prop} (W : Wd mg mb H) (hf : mg (nameOf (stm 18)) = some (.ref f)) (hu : AOk A 1 3) (hx : x.cps.toList = shownOf (rs.map (·.1))) (ok : ∀ p ∈ rs, OkRd p.1 p.2) (hz : (cps (rs.map (·.1))).length < 2 ^ 10) (hlen : rs.length < 2 ^ 10)
    (h : ∀ H' T' l, Keeps' H H' → H.get? l = none → SL H' l (rs.map (·.2)) → Q (.ref l) (St s0 H' T')) :
    wpAny (model prog w) A (call (.ref f) [.str x t] []) Q E (St s0 H T) := by
  obtain ⟨pm, cd, doc, hfn⟩ := W.at 18 hf
  refine callF 18 [("shown", .str x t)] (hu.le (d' := 0) (u' := 0)).dep W.lim hfn rfl (locs rfl) fun H1 L T1 hn k1 nL => ?_
  have hsz : x.cps.size = (cps (rs.map (·.1))).length + 9 := by rw [← Array.length_toList, hx]; simp [shownOf]
  have hz2 : x.cps.size < 2 ^ 20 := by omega
  refine asgX (newL (wpAny_items_nil ⟨_, _, rfl, Nat.zero_le _, fun l H2 nl k2 l2 => stn (hn.keeps k2) fun H3 T3 n3 s3 => ?_⟩))
  have lL : l ≠ L := l2.ne_ns (hn.keeps k2)
  have l3 := l2.same s3 lL
  have k3 : Keeps' H H3 := fun b o e => s3.extBut b o (some_ne e nL) (k2 _ _ (k1 _ _ e))
  have hl : (x.length : Int) = ((cps (rs.map (·.1))).length : Int) + 9 := by show (x.cps.size : Int) = _; omega
  have sl1 : (Txt.slice x none (some 4)).cps.toList = [40, 63, 115, 58] := by
    rw [eq_of_beq (slice_closes_toL (x := x) (j := 4) (by decide) (by omega)), hx]
    simp [shownOf]
  have sl2 : (Txt.slice x (some (-5)) none).cps.toList = [46, 42, 41, 92, 90] := by
    rw [eq_of_beq (slice_closes_from_neg (x := x) (i := -5) (a := (x.length : Int) - 5) (b := x.length) (by decide) (by omega) (by omega) rfl), hx]
    have e1 : ((x.length : Int) - 5).toNat = ([40, 63, 115, 58] ++ cps (rs.map fun (p : Str × Str) => p.1)).length := by rw [List.length_append]; show _ = 4 + _; omega
    have e2 : ((x.length : Int) - ((x.length : Int) - 5)).toNat = 5 := by omega
    rw [e1, e2]
    show List.take 5 (List.drop _ (shownOf (rs.map (·.1)))) = _
    unfold shownOf
    rw [List.append_assoc, List.drop_left]
    rfl
  refine ifX (wpAny_isTrue_BoolOp (wpAny_allTrue_Or_cons (cmpX (sl_ns (s0 := s0) (ldv n3 rfl (cint fun t4 T4 => ⟨x, t, 4, t4, _, _, rfl, rfl, rfl, size30 hz2, fun H5 t5 T5 k5 => cstr fun _ _ => P.ne_str (wpAny_truthy_bool ?_)⟩))))))
  rw [sl1, show (([40, 63, 115, 58] : List Nat) != (Str.ofString "(?s:").cps.toList) = false by decide +kernel, if_neg Bool.false_ne_true]
  have n5 := n3.keeps k5
  refine wpAny_allTrue_Or_cons (cmpX (sl_sn (s0 := s0) (ldv n5 rfl (wpAny_UnaryOp (cint fun t4 T4 => P.neg_int ⟨x, t, -5, _, _, _, rfl, rfl, rfl, size30 hz2, fun H6 t6 T6 k6 => cstr fun _ _ => P.ne_str (wpAny_truthy_bool ?_)⟩)))))
  rw [sl2, show (([46, 42, 41, 92, 90] : List Nat) != (Str.ofString ".*)\\Z").cps.toList) = false by decide +kernel, if_neg Bool.false_ne_true]
  refine wpAny_allTrue_Or_nil (nilX ?_)
  have n6 := n5.keeps k6
  refine asgX (cint fun t7 T7 => stn n6 fun H8 T8 n8 s8 => ?_)
  have k8 : Keeps' H H8 := fun b o e => s8.extBut b o (some_ne e nL) (k6 _ _ (k5 _ _ (k3 _ _ e)))
  have I8 : RdI H L l x [] 4 H8 _ := ⟨n8, ⟨t, rfl⟩, rfl, ⟨t7, rfl⟩, ⟨[], rfl, ((l3.at fun o => k5 _ o).at fun o => k6 _ o).same s8 lL⟩, k8⟩
  have nl0 := none_back k1 nl
  refine whileX (fun k s => ∃ i Hb Tb m', k = rs.length - i ∧ i ≤ rs.length ∧ s = St s0 Hb Tb ∧ RdI H L l x ((rs.take i).map (·.2)) (4 + (cps ((rs.take i).map (·.1))).length) Hb m') ?_ _ ⟨0, H8, _, _, rfl, Nat.zero_le _, rfl, I8⟩
  rintro k _ ⟨i, Hb, Tb, m', rfl, hi, rfl, J⟩
  obtain ⟨t9, e9⟩ := J.at_
  obtain ⟨ts, es⟩ := J.sh
  refine cmpX (ldv J.ns e9 (wpAny_BinOp (callB (id := "len") (W.keeps J.keep) (by decide) (by decide +kernel) (it1 (ldv J.ns es (P.len_str (by show ¬ ((x.cps.size : Int) ≥ 2 ^ 63); omega) (cint fun _ _ => isub fun _ _ => P.lt_int (wpAny_truthy_bool ?_))))))))
  by_cases hlt : i < rs.length
  · obtain ⟨p, hp⟩ : ∃ p, rs[i]? = some p := ⟨_, List.getElem?_eq_getElem hlt⟩
    have hcat : cps (rs.map (·.1)) = cps ((rs.take i).map (·.1)) ++ (p.1.cps.toList ++ cps ((rs.drop (i + 1)).map (·.1))) := by
      conv => lhs; rw [← List.take_append_drop i rs, List.drop_eq_getElem_cons hlt]
      have : rs[i] = p := by rw [List.getElem?_eq_getElem hlt] at hp; exact Option.some.inj hp
      rw [List.map_append, cps_app, List.map_cons, this, ← List.singleton_append, cps_app, cps_one]
    have hpos : 0 < p.1.cps.size := by
      have := ok p (List.mem_of_getElem? hp)
      revert this
      generalize p.1 = a, p.2 = b
      intro hq
      cases hq with
      | q => decide +kernel
      | bang => decide
      | br c hc => revert c; decide +kernel
    have hcl := congrArg List.length hcat
    simp only [List.length_append, Array.length_toList] at hcl
    rw [if_pos (decide_eq_true (by omega))]
    refine rd_turn (k := p.1) (kp := p.2) (pre := [40, 63, 115, 58] ++ cps ((rs.take i).map (·.1))) (post := cps ((rs.drop (i + 1)).map (·.1)) ++ [46, 42] ++ [41, 92, 90]) nL nl0 J hz2 (by rw [List.length_map, List.length_take]; omega) (ok p (List.mem_of_getElem? hp)) (by rw [hx, shownOf, hcat]; simp) (by simp; omega) fun Hc Tc m2 J2 => ⟨rs.length - (i + 1), by omega, i + 1, Hc, Tc, m2, rfl, hlt, rfl, ?_⟩
    have e1 : rs.take (i + 1) = rs.take i ++ [p] := by rw [List.take_add_one, hp]; rfl
    rw [e1, List.map_append, List.map_append, cps_app, List.length_append, show cps ([p].map (·.1)) = p.1.cps.toList from cps_one _, Array.length_toList, ← Nat.add_assoc]
    exact J2
  · have hie : i = rs.length := by omega
    subst hie
    rw [List.take_length] at J e9
    rw [if_neg (by rw [decide_eq_false (by rw [List.take_length]; omega)]; simp)]
    exact retX (ldv J.ns J.kp (h _ _ l J.keep nl0 J.ls))
end
end Mine
end
section
set_option maxRecDepth 100000
set_option Elab.async false
namespace Mine
open PySem PySem.W PySem.Calls PyProof.Rows

/-- an iterator at its start -/
structure ItOk (prog : Program) (w : World) (A : Around) (H : Heap) (I : Addr) (H2 : Heap) (n : Nat) (P : Nat → Value → Prop) (fp : List Addr) (It : Nat → Heap → Prop) : Prop where
  keep : Keeps' H H2
  new : H.get? I = none
  low : ∀ b ∈ fp, b < H2.objs.size
  walks : Walks prog w A I fp [I] n P It
  it0 : It 0 H2
  len : n ≤ sizeLine
/-- a comprehension's turns and its end -/
structure MapOk (prog : Program) (w : World) (A : Around) (s0 : Shared) (env : Env) (scope : Scope) (cl : List (Str × Addr)) (x : Str) (elt : Expr) (Q : Value → Shared → Prop) (n : Nat) (P : Nat → Value → Prop) (I : Addr) (fp : List Addr) (It : Nat → Heap → Prop) (M : Heap → Prop) (R : Nat → Value → Heap → Prop) (H2 : Heap) : Prop where
  start : M H2
  mst : ∀ h h', M h → Kp3 I (H2.objs.size + 1) H2.objs.size h h' → M h'
  rst : ∀ i v h h', R i v h → Kp3 I (H2.objs.size + 1) H2.objs.size h h' → R i v h'
  turn : ∀ i v C Hb Tb m, i < n → P i v → M Hb → H2.get? C = none → (∀ a, Hb.get? a = none → a ≠ H2.objs.size ∧ a ≠ H2.objs.size + 1) → Hb.Ns C m → m x = some v → It (i + 1) Hb →
    wpAny (model prog w) A (eval elt (compEnvC scope cl C env)) (fun y s => ∃ Hc Tc, s = St s0 Hc Tc ∧ M Hc ∧ R i y Hc ∧ (∀ j v, R j v Hb → R j v Hc) ∧ ∀ b, b = C ∨ b = H2.objs.size ∨ b ∈ fp → ∀ o, Hb.get? b = some o → Hc.get? b = some o) NoE (St s0 Hb Tb)
  done : ∀ D (vs : List Value) H' T', M H' → H2.get? D = none → vs.length = n → (∀ i v, vs[i]? = some v → R i v H') → Ls H' D vs.toArray → Q (.ref D) (St s0 H' T')

section
variable {prog : Program} {w : World} {A : Around} {E : Value → Shared → Prop} {s0 : Shared} {H : Heap} {T : Nat} {mg mb : Str → Option Value} {env : Env}
theorem mapE {elt iter : Expr} {x : Str} {px : Pos} {scope : Scope} (cl : List (Str × Addr)) {pos : Pos} {Q : Value → Shared → Prop} {s : Shared}
    (hclos : closureFor scope env = pure cl)
    (h : wpAny (model prog w) A (eval iter env) (fun xv s₁ => wpAny (model prog w) A (pyIter xv) (fun it s₂ => ∃ I H2 T2 n P fp It M R, it = .ref I ∧ s₂ = St s0 H2 T2 ∧ (∃ H, ItOk prog w A H I H2 n P fp It) ∧ MapOk prog w A s0 env scope cl x elt Q n P I fp It M R H2) E s₁) E s)
    (hcell : ∀ y ∈ scope.names, y.2 ≠ .cell := by decide) (hkind : scope.kind = .function := by rfl) (hnames : ∀ x ∈ scope.names, x.2 = .local → scope.names.lookup x.1 = some .local := by decide) (hx : scope.names.lookup x = some .local := by rfl)
    (hs : ∀ x, foldedSetIterable iter env x = pure x := by intro _; rfl) :
    wpAny (model prog w) A (eval (.ListComp elt [⟨.Name x px, iter, [], 0⟩] scope pos) env) Q E s := by
  refine compEZ (s0 := s0) cl hclos (wpAny_mono h (fun xv s₁ h₁ => wpAny_mono h₁ (fun it s₂ h₂ => ?_) fun _ _ e => e) fun _ _ e => e) hcell hkind hnames hx hs
  obtain ⟨I, H2, T2, n, P, fp, It, M, R, rfl, rfl, ⟨H, K⟩, O⟩ := h₂
  refine ⟨I, H2, T2, n, P, fun i vs Ha => vs.length = i ∧ M Ha ∧ ∀ j v, vs[j]? = some v → R j v Ha, fp, It, rfl, rfl, K.walks, K.it0, K.low, K.len, ⟨rfl, O.start, nofun⟩, ?_, ?_⟩
  · rintro i v vs C D Ha Hb Tb m rfl rfl hi hv ⟨hl, hM, hR⟩ nC nD k3 nE hE it lD
    refine tests_nil ?_
    rw [if_pos rfl]
    refine wpAny_mono (O.turn i v _ Hb Tb m hi hv (O.mst _ _ hM k3) nC (fun a na => ⟨fun e => ?_, fun e => ?_⟩) nE hE it) (fun y s q => ?_) fun _ _ e => e
    · exact some_ne lD.has.choose_spec na e.symm
    · obtain ⟨_, _, _, o, _⟩ := nE; exact some_ne o na e.symm
    · obtain ⟨Hc, Tc, rfl, hMc, hRc, hk, hst⟩ := q
      refine ⟨Hc, Tc, rfl, ⟨by rw [List.length_append, hl]; rfl, hMc, fun j v hj => ?_⟩, fun b hb o e => hst b ?_ o e⟩
      · by_cases hlt : j < vs.length
        · rw [List.getElem?_append_left hlt] at hj
          exact hk j v (O.rst _ _ _ _ (hR j v hj) k3)
        · rw [List.getElem?_append_right (Nat.le_of_not_lt hlt)] at hj
          obtain ⟨e1, e2⟩ := List.getElem?_eq_some_iff.mp hj
          have hj' : j = i := by have : j - vs.length < 1 := e1; omega
          subst hj'
          have e3 : y = v := by simpa [hl] using hj
          exact e3 ▸ hRc
      · rcases List.mem_cons.mp hb with rfl | hb
        · exact .inl rfl
        · rcases List.mem_cons.mp hb with rfl | hb
          · exact .inr (.inl rfl)
          · exact .inr (.inr hb)
  · rintro C D vs Ha Hb Tb m rfl rfl ⟨hl, hM, hR⟩ _ nC nD hDC k3 _ lD
    exact RQ.of hDC k3 lD fun h' k3' l => O.done _ _ _ _ (O.mst _ _ hM k3') nD hl (fun i v hv => O.rst _ _ _ _ (hR i v hv) k3') l

/-- the same, where each turn keeps all and the values hold no objects -/
theorem mapP {elt iter : Expr} {x : Str} {px : Pos} {scope : Scope} (cl : List (Str × Addr)) {pos : Pos} {Q : Value → Shared → Prop} {s : Shared}
    (hclos : closureFor scope env = pure cl)
    (h : wpAny (model prog w) A (eval iter env) (fun xv s₁ => wpAny (model prog w) A (pyIter xv) (fun it s₂ => ∃ H I H2 T2 n P fp It, ∃ R : Nat → Value → Prop, it = .ref I ∧ s₂ = St s0 H2 T2 ∧ ItOk prog w A H I H2 n P fp It ∧
      (∀ i v C Hb Tb m, i < n → P i v → Keeps' H Hb → H.get? C = none → Hb.Ns C m → m x = some v → wpAny (model prog w) A (eval elt (compEnvC scope cl C env)) (fun y s => ∃ Hc Tc, s = St s0 Hc Tc ∧ Keeps' Hb Hc ∧ R i y) NoE (St s0 Hb Tb)) ∧
      ∀ D (vs : List Value) H' T', Keeps' H H' → H.get? D = none → vs.length = n → (∀ i v, vs[i]? = some v → R i v) → Ls H' D vs.toArray → Q (.ref D) (St s0 H' T')) E s₁) E s)
    (hcell : ∀ y ∈ scope.names, y.2 ≠ .cell := by decide) (hkind : scope.kind = .function := by rfl) (hnames : ∀ x ∈ scope.names, x.2 = .local → scope.names.lookup x.1 = some .local := by decide) (hx : scope.names.lookup x = some .local := by rfl)
    (hs : ∀ x, foldedSetIterable iter env x = pure x := by intro _; rfl) :
    wpAny (model prog w) A (eval (.ListComp elt [⟨.Name x px, iter, [], 0⟩] scope pos) env) Q E s := by
  refine mapE (s0 := s0) cl hclos (wpAny_mono h (fun xv s₁ h₁ => wpAny_mono h₁ (fun it s₂ h₂ => ?_) fun _ _ e => e) fun _ _ e => e) hcell hkind hnames hx hs
  obtain ⟨H, I, H2, T2, n, P, fp, It, R, rfl, rfl, K, tn, dn⟩ := h₂
  have nz : ∀ j, H2.objs.size ≤ j → H.get? j = none := fun j hj => none_back K.keep (none_of_le hj)
  exact ⟨I, H2, T2, n, P, fp, It, Keeps' H, fun i v _ => R i v, rfl, rfl, ⟨H, K⟩, K.keep, fun h h' k k3 b o e => k3 b o (some_ne e K.new) (some_ne e (nz _ (Nat.le_succ _))) (some_ne e (nz _ (Nat.le_refl _))) (k b o e), fun _ _ _ _ r _ => r,
    fun i v C Hb Tb m hi hv k nC _ nE hE _ => wpAny_mono (tn i v C Hb Tb m hi hv k (none_back K.keep nC) nE hE) (fun y s ⟨Hc, Tc, e, kc, r⟩ => ⟨Hc, Tc, e, kall k kc, r, fun _ _ r => r, fun b _ o => kc b o⟩) fun _ _ e => e,
    fun D vs H' T' k nD hl hR l => dn D vs H' T' k (none_back K.keep nD) hl hR l⟩

theorem rangeK {e : Expr} {p pos : Pos} {n : Nat} {Q : Value → Shared → Prop} (W : Wd mg mb H) (hh : A.handled = none) (hn : n < 2 ^ 20)
    (he : ∀ {Q' : Value → Shared → Prop}, (∀ t T', Q' (.int n t) (St s0 H T')) → wpAny (model prog w) A (eval e env) Q' E (St s0 H T))
    (h : ∀ I H2 T2 It, ItOk prog w A H I H2 n (fun i v => ∃ t, v = .int (i : Nat) t) [I] It → (∀ i h, It i h → ∃ o, h.get? I = some o) → Q (.ref I) (St s0 H2 T2))
    (h1 : env.globals = mainGlobals := by rfl) (h2 : env.builtins = builtinsNs := by rfl) (h3 : env.scope.kind = .function := by rfl) (h4 : env.kindOf "range" = some .globalImplicit := by rfl) (h5 : starEach [e] env = (false, eval e env) :: starEach [] env := by rfl) :
    wpAny (model prog w) A (eval (.Call (.Name "range" p) [e] [] pos) env) (fun xv s₁ => wpAny (model prog w) A (pyIter xv) Q E s₁) E (St s0 H T) :=
  rangeIt W hh (by omega) he (fun I H2 T2 k nI lI wk i0 => h I H2 T2 _ ⟨k, nI, fun b hb => by cases List.mem_singleton.mp hb; exact lI, wk, i0, by rw [sizeLine_eq]; omega⟩ fun i h x => ⟨_, x⟩) h1 h2 h3 h4 h5
theorem listK {a : Addr} {items : Array Value} {Q : Value → Shared → Prop} (hl : Ls H a items) (hh : A.handled = none) (hz : items.size < 2 ^ 20)
    (h : ∀ I H2 It, ItOk prog w A H I H2 items.size (fun i v => items[i]? = some v) [I, a] It → (∀ i h, It i h → ∃ o, h.get? I = some o) → Q (.ref I) (St s0 H2 T)) : wpAny (model prog w) A (pyIter (.ref a)) Q E (St s0 H T) :=
  listIt hl hh fun I H2 k nI _ lo wk i0 => h I H2 _ ⟨k, nI, lo, wk, i0, by rw [sizeLine_eq]; omega⟩ fun i h ⟨⟨o, e, _⟩, _⟩ => ⟨o, e⟩
end

theorem SL.mk {h : Heap} {D : Addr} {vs : List Value} {n : Nat} {f : Nat → Str} (hl : vs.length = n) (hv : ∀ (i : Nat) v, vs[i]? = some v → ∃ t, v = Value.str (f i) t) (l : Ls h D vs.toArray) : SL h D ((List.range n).map f) := by
  subst hl
  suffices ∃ q : List (Str × Tok), q.map (·.1) = (List.range vs.length).map f ∧ vs = q.map fun p => Value.str p.1 p.2 by
    obtain ⟨q, e1, e2⟩ := this
    exact ⟨q, e1, e2 ▸ l⟩
  clear l
  induction vs generalizing f with
  | nil => exact ⟨[], rfl, rfl⟩
  | cons v vs ih =>
    obtain ⟨t, rfl⟩ := hv 0 v rfl
    obtain ⟨q, e1, e2⟩ := ih (f := fun i => f (i + 1)) fun i v h => hv (i + 1) v h
    exact ⟨(f 0, t) :: q, by rw [List.length_cons, List.range_succ_eq_map, List.map_cons, List.map_cons, e1, List.map_map]; rfl, by rw [List.map_cons, ← e2]⟩
theorem IL.mk {h : Heap} {D : Addr} {vs : List Value} {n : Nat} {f : Nat → Int} (hl : vs.length = n) (hv : ∀ (i : Nat) v, vs[i]? = some v → ∃ t, v = Value.int (f i) t) (l : Ls h D vs.toArray) : IL h D ((List.range n).map f) := by
  subst hl
  suffices ∃ q : List (Int × Tok), q.map (·.1) = (List.range vs.length).map f ∧ vs = q.map fun p => Value.int p.1 p.2 by
    obtain ⟨q, e1, e2⟩ := this
    exact ⟨q, e1, e2 ▸ l⟩
  clear l
  induction vs generalizing f with
  | nil => exact ⟨[], rfl, rfl⟩
  | cons v vs ih =>
    obtain ⟨t, rfl⟩ := hv 0 v rfl
    obtain ⟨q, e1, e2⟩ := ih (f := fun i => f (i + 1)) fun i v h => hv (i + 1) v h
    exact ⟨(f 0, t) :: q, by rw [List.length_cons, List.range_succ_eq_map, List.map_cons, List.map_cons, e1, List.map_map]; rfl, by rw [List.map_cons, ← e2]⟩
theorem RL.mk {h : Heap} {D : Addr} {vs : List Value} {n : Nat} {f : Nat → List Str} (hl : vs.length = n) (hv : ∀ (i : Nat) v, vs[i]? = some v → ∃ a, v = Value.ref a ∧ SL h a (f i)) (l : Ls h D vs.toArray) : RL h D ((List.range n).map f) := by
  subst hl
  suffices ∃ q : List Addr, q.length = vs.length ∧ vs = q.map Value.ref ∧ ∀ (i : Nat) r, q[i]? = some r → SL h r (f i) by
    obtain ⟨q, e1, e2, e3⟩ := this
    refine ⟨q, e2 ▸ l, by simp [e1], fun i r k h1 h2 => ?_⟩
    rw [List.getElem?_map] at h2
    obtain ⟨j, hj, rfl⟩ := Option.map_eq_some_iff.mp h2
    rw [List.getElem?_range (by have := (List.getElem?_eq_some_iff.mp h1).1; omega)] at hj
    cases hj
    exact e3 i r h1
  clear l
  induction vs generalizing f with
  | nil => exact ⟨[], rfl, rfl, nofun⟩
  | cons v vs ih =>
    obtain ⟨a, rfl, s⟩ := hv 0 v rfl
    obtain ⟨q, e1, e2, e3⟩ := ih (f := fun i => f (i + 1)) fun i v h => hv (i + 1) v h
    refine ⟨a :: q, by rw [List.length_cons, e1, List.length_cons], by rw [List.map_cons, ← e2], fun i r hr => ?_⟩
    cases i with
    | zero => cases hr; exact s
    | succ i => exact e3 i r hr
end Mine
end
section
set_option maxRecDepth 100000
set_option Elab.async false
namespace Mine
open PySem PySem.W PySem.Calls PyProof.Rows


section
variable {prog : Program} {w : World} {A : Around} {E : Value → Shared → Prop} {s0 : Shared} {H : Heap} {T : Nat} {mg mb : Str → Option Value} {env : Env} {a b : Int} {t u : Tok} {Q : Value → Shared → Prop}
theorem imod (hb : b ≠ 0) (h : ∀ t T', Q (.int (a.fmod b) t) (St s0 H T')) : wpAny (model prog w) A (binaryOp .Mod (.int a t) (.int b u)) Q E (St s0 H T) := PyProof.Rows.mod_int' hb (h _ _)
theorem idiv (hb : b ≠ 0) (hs : b.natAbs < 1073741824) (h : ∀ t T', Q (.int (a.fdiv b) t) (St s0 H T')) : wpAny (model prog w) A (binaryOp .FloorDiv (.int a t) (.int b u)) Q E (St s0 H T) :=
  PyProof.Rows.floordiv_int hb (h _ _) (.inl (PyProof.noPylong_small hs))
theorem ipow {n : Nat} (hn : n ≤ 1000) (ha : a.natAbs < 1000) (h : ∀ t T', Q (.int (a ^ n) t) (St s0 H T')) : wpAny (model prog w) A (binaryOp .Pow (.int a t) (.int n u)) Q E (St s0 H T) :=
  PyProof.Rows.pow_int_small (Int.natCast_nonneg n) (by omega) (by omega) (h _ _)
theorem chr1 {c : Int} (h0 : 0 ≤ c) (h1 : c < 256) (h : ∀ t T', Q (.str ⟨#[c.toNat]⟩ t) (St s0 H T')) : wpAny (model prog w) A (call (.builtin "chr") [.int c t]) Q E (St s0 H T) :=
  P.chr_of_int (by rw [decide_eq_false (by omega), decide_eq_false (by omega)]; rfl) (h _ _)
/-- one sign, some times -/
theorem smul {x : Str} {c n : Nat} (hx : x = ⟨#[c]⟩) (hn : n < 3) (h : ∀ y t T', y.cps.toList = List.replicate n c → Q (.str y t) (St s0 H T')) : wpAny (model prog w) A (binaryOp .Mult (.str x t) (.int n u)) Q E (St s0 H T) := by
  subst hx
  match n, hn with
  | 0, _ => exact P.mul_str_none (by decide) (by decide) (h _ _ _ rfl)
  | 1, _ => exact P.mul_str (by decide) (fun _ h => absurd h (by simp)) (fun _ h => absurd h (by simp)) (by rw [if_neg (by decide), if_pos (by simp)]; exact h _ _ _ rfl)
  | 2, _ => exact P.mul_str (by decide) (fun _ _ => by show ¬ (((1 : Nat) : Int) > (2 ^ 63 - 1) / ((2 : Nat) : Int)); decide) (fun _ _ => by show Builtin.Str.tooLong (1 * 2) = false; decide +kernel) (by rw [if_neg (by decide), if_neg (by show ¬ (((((2 : Nat) : Int) == 1) || ((1 : Nat) == 0)) = true); decide)]; exact ⟨by show 2 ≤ sizeLine; decide +kernel, h _ _ _ rfl⟩)
theorem lmulS {s : Shared} {l : Addr} {items : Array Value} {k : Nat} {x : Int} (hl : s.heap.get? l = some { cls := .type "list", dict := none, data := .seq items k, slots := #[] })
    (hlo : -(2 ^ 63 : Int) ≤ x) (hhi : x < 2 ^ 63) (hsz : items.size * x.toNat ≤ 2 ^ 24)
    (h : Q (.ref s.heap.objs.size) { s with heap := s.heap.push { cls := .type "list", data := .seq (List.foldl (fun x1 x2 => x1 ++ x2) #[] (List.replicate (if items.isEmpty = true then 0 else x.toNat) items)) } }) :
    wpAny (model prog w) A (binaryOp .Mult (.ref l) (.int x u)) Q E s :=
  wpAny_binaryOp_repeat_ref (T := "list") (U := "int") (by decide) ⟨_, hl, rfl⟩ (fun s' => typeIs_int s' x u) noFill_list_mul F.fills_int_mul F.slot_int_rmul repeat_list F.slot_int_index.lookup
    (call_meets F.slot_int_rmul (typeIs_int s x u) F.entry_int_rmul (F.args_int_rmul_2 _ _) (int___rmul___int_list x u l items k)
      ⟨hl, rfl, ⟨_, hl, rfl⟩, call_meets F.slot_list_mul ⟨_, hl, rfl⟩ F.entry_list_mul (F.args_list_mul_2 _ _)
        (AutoListH.list___mul___list_int_3 l items k x u (by simp [Builtin.List.listFitsIndex]; omega) (by omega) (by simp [Builtin.List.listTooLong, sizeLine]; omega))
        ⟨hl, h⟩⟩)
theorem lmul {l : Addr} {v : Value} {n : Nat} (hl : Ls H l #[v]) (hn : n < 2 ^ 20) (h : ∀ r H', H.get? r = none → Keeps' H H' → Ls H' r (List.replicate n v).toArray → Q (.ref r) (St s0 H' T)) :
    wpAny (model prog w) A (binaryOp .Mult (.ref l) (.int n u)) Q E (St s0 H T) := by
  obtain ⟨k, hl⟩ := hl
  have e : (List.replicate n (#[v] : Array Value)).foldl (fun x y => x ++ y) #[] = (List.replicate n v).toArray := by
    have : ∀ (m : Nat) (acc : Array Value), (List.replicate m (#[v] : Array Value)).foldl (fun x y => x ++ y) acc = acc ++ (List.replicate m v).toArray := by
      intro m
      induction m with
      | zero => intro acc; simp
      | succ m ih => intro acc; rw [List.replicate_succ, List.foldl_cons, ih, List.replicate_succ]; exact Array.toList_inj.mp (by simp)
    rw [this]; simp
  refine lmulS (s := St s0 H T) hl (by omega) (by omega) (by show 1 * n ≤ _; omega) ?_
  show Q (.ref H.objs.size) (St s0 (H.push { cls := .type "list", data := .seq ((List.replicate n (#[v] : Array Value)).foldl (fun x y => x ++ y) #[]) }) T)
  rw [e]
  exact h _ _ (none_of_le (Nat.le_refl _)) (fun b o e => Heap.get?_push_of_some _ e) ⟨0, Heap.get?_push_size _ rfl⟩
theorem it4 {pos : Pos} {e1 e2 e3 e4 : Expr} {Q : List Value → Shared → Prop} {s : Shared} (h : wpAny (model prog w) A (eval e1 env) (fun v s₁ => wpAny (model prog w) A (eval e2 env) (fun u s₂ => wpAny (model prog w) A (eval e3 env) (fun x s₃ => wpAny (model prog w) A (eval e4 env) (fun y s₄ => Q [v, u, x, y] s₄) E s₃) E s₂) E s₁) E s)
    (h1 : starEach [e1, e2, e3, e4] env = (false, eval e1 env) :: starEach [e2, e3, e4] env := by rfl) (h2 : starEach [e2, e3, e4] env = (false, eval e2 env) :: starEach [e3, e4] env := by rfl) (h3 : starEach [e3, e4] env = (false, eval e3 env) :: starEach [e4] env := by rfl) (h4 : starEach [e4] env = (false, eval e4 env) :: starEach [] env := by rfl) :
    wpAny (model prog w) A (spliced (backTo pos (starEach [e1, e2, e3, e4] env))) Q E s :=
  wpAny_items_cons (wpAny_mono h (fun _ _ q => it3 (wpAny_mono q (fun _ _ q => wpAny_mono q (fun _ _ q => wpAny_mono q (fun _ _ q => q) fun _ _ e => e) fun _ _ e => e) fun _ _ e => e) h2 h3 h4) fun _ _ e => e) h1
/-- a list's first items -/
theorem sl_list {value e : Expr} {p pos : Pos} {s : Shared}
    (h : wpAny (model prog w) A (eval value env) (fun o s₁ => wpAny (model prog w) A (eval e env) (fun vu s₂ => ∃ l items n t H T, o = .ref l ∧ vu = .int (n : Nat) t ∧ s₂ = St s0 H T ∧ Ls H l items ∧ items.size ≤ sizeLine ∧ ∀ r H', H.get? r = none → Keeps' H H' → Ls H' r (items.toList.take n).toArray → Q (.ref r) (St s0 H' T)) E s₁) E s)
    (ht : ∀ o r, letTemporaryGo value o r = pure () := by intro _ _; rfl) : wpAny (model prog w) A (eval (.Subscript value (.Slice none (some e) none p) pos) env) Q E s := by
  refine wpAny_Subscript_list_slice (wpAny_mono h (fun o s₁ q => wpAny_pure (wpAny_mono (show wpAny (model prog w) A (evalPart (some e) env) _ E s₁ from q) (fun vu s₃ q => ?_) fun _ _ e => e)) fun _ _ e => e) ht
  obtain ⟨l, items, n, t, H, T, rfl, rfl, rfl, hl, hz, q⟩ := q
  refine ⟨l, items, none, some (n : Int), rfl, hl.isList, hz, .none, .int _ _, ?_⟩
  rw [slicePick_upto']
  refine q _ ((H.push { cls := .type "slice", data := .fields #[.none, .int (n : Int) t, .none] }).push { cls := .type "list", data := .seq (items.toList.take n).toArray }) (none_of_le (Nat.le_succ _)) (fun b o e => Heap.get?_push_of_some _ (Heap.get?_push_of_some _ e)) ⟨0, ?_⟩
  have e : ((H.push { cls := .type "slice", data := .fields #[.none, .int (n : Int) t, .none] }).push { cls := .type "list", data := .seq (items.toList.take n).toArray }).get? (H.push { cls := .type "slice", data := .fields #[.none, .int (n : Int) t, .none] }).objs.size = some { cls := .type "list", data := .seq (items.toList.take n).toArray } := Heap.get?_push_size _ rfl
  rw [Heap.size_push] at e
  exact e
/-- a part of some octets -/
theorem sl_bytes {value e1 e2 : Expr} {p pos : Pos} {s : Shared}
    (h : wpAny (model prog w) A (eval value env) (fun o s₁ => wpAny (model prog w) A (eval e1 env) (fun l s₂ => wpAny (model prog w) A (eval e2 env) (fun v s₃ => ∃ b t i ti j tj H T, o = .bytes b t ∧ l = .int (i : Nat) ti ∧ v = .int (j : Nat) tj ∧ s₃ = St s0 H T ∧ b.size < 2 ^ 20 ∧
      ∀ h' b' t' k, Keeps' H h' → KBw.bInts b' = ((KBw.bInts b).drop (min i (KBw.bInts b).length)).take (min j (KBw.bInts b).length - min i (KBw.bInts b).length) → Q (.bytes b' t') (St s0 h' k)) E s₂) E s₁) E s)
    (ht : ∀ o r, letTemporaryGo value o r = pure () := by intro _ _; rfl) :
    wpAny (model prog w) A (eval (.Subscript value (.Slice (some e1) (some e2) none p) pos) env) Q E s := by
  refine Subscript_Slice (wpAny_mono h (fun o s₁ q => eval_Slice2 (wpAny_mono q (fun l s₂ q => wpAny_mono q (fun u s₃ q => ?_) fun _ _ e => e) fun _ _ e => e)) fun _ _ e => e) ht
  obtain ⟨b, t, i, ti, j, tj, H, T, rfl, rfl, rfl, rfl, hz, q⟩ := q
  refine ⟨"bytes", _, FB.slot_bytes_getitem.lookup, typeIs_bytes _ _ _, getItem_meets (typeIs_bytes _ _ _) (by decide) FB.slot_bytes_getitem FB.entry_bytes_getitem (FB.args_bytes_getitem_2 _ _) (KBc.meets_slice2 b t _ (.int _ _) (.int _ _))
    ⟨Heap.IsSliceOf.new _ _ _ _, Nat.le_trans (KBc.size_picked_le b _ _) (by rw [sizeLine_eq]; omega), fun t' k => q _ _ _ _ (fun b o e => Heap.get?_push_of_some _ e) ?_⟩⟩
  rw [KBc.ints_picked rfl]
  simp only [Option.elim_some, clipAt_nat]
theorem bytesK {b : Array UInt8} (hh : A.handled = none) (hz : b.size < 2 ^ 20)
    (h : ∀ I H2 It, ItOk prog w A H I H2 b.size (fun i v => ∃ c u, (KBw.bInts b)[i]? = some c ∧ 0 ≤ c ∧ c < 256 ∧ v = .int c u) [I] It → Q (.ref I) (St s0 H2 T)) : wpAny (model prog w) A (pyIter (.bytes b t)) Q E (St s0 H T) := by
  have W0 := KBw.walks (prog := prog) (w := w) hh H.objs.size b t
  refine KBw.pyIter_bytes (h H.objs.size _ (fun i h => KBw.IsBytesIter h H.objs.size b t i) ⟨fun _ _ e => Heap.get?_push_of_some _ e, none_of_le (Nat.le_refl _), fun b hb => by cases List.mem_singleton.mp hb; exact Nat.lt_of_lt_of_eq (Nat.lt_succ_self _) (Heap.size_push ..).symm, ?_, ⟨_, Heap.get?_push_size _ rfl, rfl, rfl⟩, by rw [sizeLine_eq]; omega⟩)
  refine ⟨W0.sub, W0.frame, fun i s Q E hi st hQ => W0.item i s Q E hi st fun v h' tk hp => ?_, W0.done, W0.self⟩
  obtain ⟨c, u, hc, hv⟩ := hp
  exact hQ v h' tk ⟨_, u, KBw.ints_get hc, (KBw.ints_in (List.mem_of_getElem? (KBw.ints_get hc))).1, (KBw.ints_in (List.mem_of_getElem? (KBw.ints_get hc))).2, hv⟩
/-- list(range(n)) -/
theorem listRange {e : Expr} {p pos p2 pos2 : Pos} {n : Nat} (W : Wd mg mb H) (hh : A.handled = none) (hn : n < 2 ^ 20)
    (he : ∀ {Q' : Value → Shared → Prop}, (∀ t T', Q' (.int n t) (St s0 H T')) → wpAny (model prog w) A (eval e env) Q' E (St s0 H T))
    (h : ∀ r H' T', H.get? r = none → Keeps' H H' → IL H' r ((List.range n).map Int.ofNat) → Q (.ref r) (St s0 H' T'))
    (h1 : env.globals = mainGlobals := by rfl) (h2 : env.builtins = builtinsNs := by rfl) (h3 : env.scope.kind = .function := by rfl) (h4 : env.kindOf "range" = some .globalImplicit := by rfl) (h4' : env.kindOf "list" = some .globalImplicit := by rfl) (h5 : starEach [e] env = (false, eval e env) :: starEach [] env := by rfl)
    (h6 : starEach [.Call (.Name "range" p) [e] [] pos] env = (false, eval (.Call (.Name "range" p) [e] [] pos) env) :: starEach [] env := by rfl) :
    wpAny (model prog w) A (eval (.Call (.Name "list" p2) [.Call (.Name "range" p) [e] [] pos] [] pos2) env) Q E (St s0 H T) := by
  refine callT (id := "list") W (by decide) (by decide +kernel) (it1 (callT (id := "range") W (by decide) (by decide +kernel) (it1 (he fun t T' => call_range_1 ?_) h5) h1 h2 h3 h4 (by decide) (by decide) h5 rfl) h6) h1 h2 h3 h4' (by decide) (by decide) h6 rfl
  have hsz : Builtin.Range.rangeSize 0 n 1 = (n : Int) := by rw [rangeSize_one]; split <;> omega
  refine call_list_range hh (IsRange.new ..) (small_one (by decide) (by decide) (by omega) (by omega)) hsz (by omega) fun h' tk acc' c' hk hS' hacc => ?_
  refine h _ h' tk (none_of_le (Nat.le_trans (Nat.le_succ _) (Nat.le_of_eq (Heap.size_push ..).symm))) (fun b o e => hk _ _ (Heap.get?_push_of_some _ e)) ?_
  refine IL.mk (vs := acc'.toList) (by simpa using hacc.1) (fun i v hv => ?_) ⟨c', by simpa using hS'⟩
  obtain ⟨t, e⟩ := hacc.2 i v (by simpa using hv)
  exact ⟨t, by rw [e]; simp⟩
/-- lists that do not part -/
theorem neIL {x y : Addr} {ns : List Int} (hx : IL H x ns) (hy : IL H y ns) (hu : A.units < cLine) (h : Q (.bool false) (St s0 H T)) : wpAny (model prog w) A (compareOp .NotEq (.ref x) (.ref y)) Q E (St s0 H T) := by
  obtain ⟨i1, l1, s1, g1⟩ := hx.item
  obtain ⟨i2, l2, s2, g2⟩ := hy.item
  refine SeqAt.RcNeAt.lists (s := St s0 H T) (e := fun _ => true) l1.isList l2.isList (s1.trans s2.symm) hu (fun j h1 h2 => ?_) prog w E Q (by rw [show (List.range i1.size).all (fun _ => true) = true from List.all_eq_true.mpr fun _ _ => rfl]; exact h)
  obtain ⟨t1, e1⟩ := g1 j (ns[j]'(s1 ▸ h1)) (List.getElem?_eq_getElem _)
  obtain ⟨t2, e2⟩ := g2 j (ns[j]'(s1 ▸ h1)) (List.getElem?_eq_getElem _)
  rw [Array.getElem?_eq_getElem h1] at e1
  rw [Array.getElem?_eq_getElem h2] at e2
  rw [Option.some.inj e1, Option.some.inj e2]
  have := SeqAt.EqAt.int_int (A := A.in1) (s := St s0 H T) (ns[j]'(s1 ▸ h1)) t1 (ns[j]'(s1 ▸ h1)) t2
  rwa [beq_self_eq_true] at this
theorem neRL {x y : Addr} {ns : List (List Str)} (hx : RL H x ns) (hy : RL H y ns) (hu : A.units + 9 < cLine) (h : Q (.bool false) (St s0 H T)) : wpAny (model prog w) A (compareOp .NotEq (.ref x) (.ref y)) Q E (St s0 H T) := by
  obtain ⟨i1, l1, s1, g1⟩ := hx.ls
  obtain ⟨i2, l2, s2, g2⟩ := hy.ls
  refine SeqAt.RcNeAt.lists (s := St s0 H T) (e := fun _ => true) l1.isList l2.isList (s1.trans s2.symm) (by omega) (fun j h1 h2 => ?_) prog w E Q (by rw [show (List.range i1.size).all (fun _ => true) = true from List.all_eq_true.mpr fun _ _ => rfl]; exact h)
  obtain ⟨r1, e1, q1⟩ := g1 j (ns[j]'(s1 ▸ h1)) (List.getElem?_eq_getElem _)
  obtain ⟨r2, e2, q2⟩ := g2 j (ns[j]'(s1 ▸ h1)) (List.getElem?_eq_getElem _)
  rw [Array.getElem?_eq_getElem h1] at e1
  rw [Array.getElem?_eq_getElem h2] at e2
  rw [Option.some.inj e1, Option.some.inj e2]
  by_cases hr : r1 = r2
  · rw [hr]; exact SeqAt.EqAt.same _
  obtain ⟨k1, m1, z1, f1⟩ := q1.item
  obtain ⟨k2, m2, z2, f2⟩ := q2.item
  have hin : A.in1.units < cLine := by show A.units + _ < _; omega
  have := SeqAt.RcAt.lists (A := A.in1) (s := St s0 H T) (e := fun _ => true) m1.isList m2.isList (z1.trans z2.symm) hin (fun i a1 a2 => by
    obtain ⟨t1, d1⟩ := f1 i (ns[j][i]'(z1 ▸ a1)) (List.getElem?_eq_getElem _)
    obtain ⟨t2, d2⟩ := f2 i (ns[j][i]'(z1 ▸ a1)) (List.getElem?_eq_getElem _)
    rw [Array.getElem?_eq_getElem a1] at d1
    rw [Array.getElem?_eq_getElem a2] at d2
    rw [Option.some.inj d1, Option.some.inj d2]
    have := SeqAt.EqAt.str_str (A := A.in1.in1) (s := St s0 H T) (ns[j][i]'(z1 ▸ a1)) t1 (ns[j][i]'(z1 ▸ a1)) t2
    rwa [beq_self_eq_true] at this)
  rw [show (List.range k1.size).all (fun _ => true) = true by simp] at this
  exact SeqAt.EqAt.of_refs hr this
end
end Mine
end
section
set_option maxRecDepth 100000
set_option Elab.async false
namespace Mine
open PySem PySem.W PySem.Calls PyProof.Rows

/-- a list of lists of lists of texts -/
def RRL (h : Heap) (a : Addr) (rdss : List (List (List Str))) : Prop := ∃ rs : List Addr, Ls h a (rs.map Value.ref).toArray ∧ rs.length = rdss.length ∧ ∀ (i : Nat) (r : Addr) k, rs[i]? = some r → rdss[i]? = some k → RL h r k
/-- what law's names hold -/
inductive AV | i (n : Int) | sl (ks : List Str) | il (ns : List Int) | rrl (r : List (List (List Str))) | bs (b : List Int)
def AV.ok (h : Heap) (v : Value) : AV → Prop
  | .i n => ∃ t, v = .int n t
  | .sl ks => ∃ a, v = .ref a ∧ SL h a ks
  | .il ns => ∃ a, v = .ref a ∧ IL h a ns
  | .rrl r => ∃ a, v = .ref a ∧ RRL h a r
  | .bs b => ∃ c t, v = .bytes c t ∧ KBw.bInts c = b
/-- lists stand -/
def Lists (h h' : Heap) : Prop := ∀ a items, Ls h a items → Ls h' a items
theorem Lists.sl {h h' : Heap} (k : Lists h h') {a ks} (x : SL h a ks) : SL h' a ks := let ⟨l, e, y⟩ := x; ⟨l, e, k _ _ y⟩
theorem Lists.il {h h' : Heap} (k : Lists h h') {a ks} (x : IL h a ks) : IL h' a ks := let ⟨l, e, y⟩ := x; ⟨l, e, k _ _ y⟩
theorem Lists.rl {h h' : Heap} (k : Lists h h') {a ks} (x : RL h a ks) : RL h' a ks := let ⟨l, y, e, f⟩ := x; ⟨l, k _ _ y, e, fun i r q a b => k.sl (f i r q a b)⟩
theorem Lists.rrl {h h' : Heap} (k : Lists h h') {a ks} (x : RRL h a ks) : RRL h' a ks := let ⟨l, y, e, f⟩ := x; ⟨l, k _ _ y, e, fun i r q a b => k.rl (f i r q a b)⟩
theorem Lists.av {h h' : Heap} (k : Lists h h') {v : Value} : ∀ {a : AV}, a.ok h v → a.ok h' v
  | .i _, x => x
  | .sl _, ⟨a, e, y⟩ => ⟨a, e, k.sl y⟩
  | .il _, ⟨a, e, y⟩ => ⟨a, e, k.il y⟩
  | .rrl _, ⟨a, e, y⟩ => ⟨a, e, k.rrl y⟩
  | .bs _, x => x
theorem Lists.of {h h' : Heap} (k : Keeps' h h') : Lists h h' := fun _ _ x => x.at fun o => k _ o
theorem Lists.trans {a b c : Heap} (x : Lists a b) (y : Lists b c) : Lists a c := fun i s l => y i s (x i s l)

/-- law's frame -/
structure Lw (H0 : Heap) (P L : Addr) (d : Str → Option AV) (Ha : Heap) : Prop where
  fr : ∃ m cm, FrC Ha L (cellsOf 22 L) m cm ∧ ∀ x av, d x = some av → ∃ v, (if ((cellsOf 22 L).lookup x).isSome then cm x else m x) = some v ∧ av.ok Ha v
  gr : Gr P H0 Ha
  tab : ∃ ps, Ha.get? P = some (tabObj ps) ∧ TriplesOk ps.toList
  new : H0.objs.size ≤ L

/-- all but law's frame and the table stand -/
def Bu (P L : Addr) (h h' : Heap) : Prop := ∀ b o, ¬ FrC.own L (cellsOf 22 L) b → b ≠ P → h.get? b = some o → h'.get? b = some o
section
variable {prog : Program} {w : World} {A : Around} {E : Value → Shared → Prop} {s0 : Shared} {H0 Ha Hb : Heap} {T : Nat} {mg mb : Str → Option Value} {P L f cA : Addr} {cd : Value} {d : Str → Option AV} {x : Str} {av : AV}
theorem Lw.wd (W : Wd mg mb H0) (X : TrW prog w mg cA P H0) (I : Lw H0 P L d Ha) : Wd mg mb Ha := let ⟨_, hP, tp⟩ := X.tab; W.gr hP tp I.gr
theorem Lw.tr (X : TrW prog w mg cA P H0) (I : Lw H0 P L d Ha) : TrW prog w mg cA P Ha := X.gr I.gr I.tab
theorem Lw.P_old (X : TrW prog w mg cA P H0) : P < H0.objs.size := let ⟨_, hP, _⟩ := X.tab; Heap.lt_size hP
/-- the lists stand behind a growth of the table -/
theorem lists_gr {ps : Array Value} (hP : Ha.get? P = some (tabObj ps)) (k : Gr P Ha Hb) : Lists Ha Hb := fun a items l => l.at fun o e => k.but _ o (ne_tab hP e (.inr fun vs hd => by obtain ⟨n, e'⟩ := l; rw [e'] at e; cases e; cases hd)) e
theorem own_ne (X : TrW prog w mg cA P H0) (hL : H0.objs.size ≤ L) {b : Addr} {cs : List (Str × Addr)} (ha : ∀ n c, (n, c) ∈ cs → L < c) (h : FrC.own L cs b) : b ≠ P := by
  have hp := Lw.P_old X
  rintro rfl
  rcases h with rfl | ⟨n, hn⟩
  · exact Nat.lt_irrefl _ (Nat.lt_of_lt_of_le hp hL)
  · exact Nat.lt_irrefl _ (Nat.lt_trans (Nat.lt_of_lt_of_le hp hL) (ha n _ (mem_look hn)))
/-- behind a growth of the table -/
theorem Lw.move (X : TrW prog w mg cA P H0) (I : Lw H0 P L d Ha) (k : Gr P Ha Hb) (ht : ∃ ps, Hb.get? P = some (tabObj ps) ∧ TriplesOk ps.toList) : Lw H0 P L d Hb := by
  obtain ⟨⟨m, cm, F, hd⟩, gr, ⟨ps, hP, tp⟩, hL⟩ := I
  have kl := lists_gr hP k
  exact ⟨⟨m, cm, F.keep fun b o w e => k.but b o (own_ne X hL F.above w) e, fun x av h => let ⟨v, e, o⟩ := hd x av h; ⟨v, e, kl.av o⟩⟩, gr.trans k, ht, hL⟩
theorem Lw.keeps (X : TrW prog w mg cA P H0) (I : Lw H0 P L d Ha) (k : Keeps' Ha Hb) : Lw H0 P L d Hb := I.move X (.of k) (let ⟨ps, e, t⟩ := I.tab; ⟨ps, k _ _ e, t⟩)
theorem Lw.ldl {pos : Pos} {Q : Value → Shared → Prop} (I : Lw H0 P L d Ha) (hd : d x = some av) (h : ∀ v, av.ok Ha v → Q v (St s0 Ha T)) (hx : ((cellsOf 22 L).lookup x).isSome = false := by rfl) (hl : (envC 22 L f cd).kindOf x = some .local := by rfl) (hb : (x == ("__debug__" : Str)) = false := by decide) :
    wpAny (model prog w) A (eval (.Name x pos) (envC 22 L f cd)) Q E (St s0 Ha T) := by
  obtain ⟨m, cm, F, g⟩ := I.fr
  obtain ⟨v, e, o⟩ := g x av hd
  rw [hx, if_neg Bool.false_ne_true] at e
  exact Mine.ldl F e (h v o) (hl := hl) (hd := hb)
theorem Lw.ldk {pos : Pos} {c : Addr} {Q : Value → Shared → Prop} (I : Lw H0 P L d Ha) (hd : d x = some av) (h : ∀ v, av.ok Ha v → Q v (St s0 Ha T)) (hx : (cellsOf 22 L).lookup x = some c := by rfl) (hl : (envC 22 L f cd).kindOf x = some .cell := by rfl) (hb : (x == ("__debug__" : Str)) = false := by decide) :
    wpAny (model prog w) A (eval (.Name x pos) (envC 22 L f cd)) Q E (St s0 Ha T) := by
  obtain ⟨m, cm, F, g⟩ := I.fr
  obtain ⟨v, e, o⟩ := g x av hd
  rw [hx, if_pos (show (some c).isSome = true from rfl)] at e
  exact Mine.ldk F e (h v o) (hc' := hx) (hc := hx) (hl := hl) (hd := hb)
theorem Lw.cell {c : Addr} (I : Lw H0 P L d Ha) (hd : d x = some av) (hx : (cellsOf 22 L).lookup x = some c := by rfl) : ∃ v, av.ok Ha v ∧ Ha.IsCell c (some v) := by
  obtain ⟨m, cm, F, g⟩ := I.fr
  obtain ⟨v, e, o⟩ := g x av hd
  rw [hx, if_pos (show (some c).isSome = true from rfl)] at e
  exact ⟨v, o, e ▸ F.cell x c hx⟩
theorem lists_same {L b : Addr} {cs : List (Str × Addr)} {m cm : Str → Option Value} {h h' : Heap} (F : FrC h L cs m cm) (w : FrC.own L cs b) (s : Heap.SameBut b h h') : Lists h h' := fun _ _ l => l.at fun o e => s.extBut _ o (Ne.symm (F.ne_ls w l)) e
theorem Lw.stored (X : TrW prog w mg cA P H0) (I : Lw H0 P L d Ha) {b : Addr} (hL : L ≤ b) (s : Heap.SameBut b Ha Hb) : Gr P H0 Hb ∧ ∃ ps, Hb.get? P = some (tabObj ps) ∧ TriplesOk ps.toList := by
  obtain ⟨ps, hP, tp⟩ := I.tab
  have nb : H0.get? b = none := none_of_le (Nat.le_trans I.new hL)
  have hPb : P ≠ b := fun e => Nat.lt_irrefl _ (Nat.lt_of_lt_of_le (Lw.P_old X) (Nat.le_trans I.new (e ▸ hL)))
  exact ⟨⟨fun c o n e => s.extBut c o (some_ne e nb) (I.gr.but c o n e), fun ps e => let ⟨m, e'⟩ := I.gr.tab ps e; ⟨m, s.extBut _ _ hPb e'⟩⟩, ps, s.extBut _ _ hPb hP, tp⟩
theorem Lw.setlB {v : Value} {Q : Unit → Shared → Prop} (X : TrW prog w mg cA P H0) (I : Lw H0 P L d Ha) (hv : av.ok Ha v) (h : ∀ Hb Tb, Bu P L Ha Hb → Lw H0 P L (fun y => if y = x then some av else d y) Hb → Q () (St s0 Hb Tb)) (hx : ((cellsOf 22 L).lookup x).isSome = false := by rfl) (hl : (envC 22 L f cd).kindOf x = some .local := by rfl) :
    wpAny (model prog w) A (storeName (envC 22 L f cd) x v) Q E (St s0 Ha T) := by
  obtain ⟨m, cm, F, g⟩ := I.fr
  refine stl F (fun Hb Tb F2 s => ?_) (hl := hl)
  have s' : Heap.SameBut L Ha Hb := s
  have kl := lists_same F (.inl rfl) s'
  obtain ⟨gr, tb⟩ := I.stored X (Nat.le_refl L) s'
  refine h _ _ (fun b o nw _ e => s'.extBut b o (fun e' => nw (.inl e')) e) ⟨⟨_, _, F2, fun y a hy => ?_⟩, gr, tb, I.new⟩
  by_cases e : y = x
  · subst e
    rw [if_pos rfl] at hy; cases hy
    exact ⟨v, by rw [hx, if_neg Bool.false_ne_true, if_pos rfl], kl.av hv⟩
  · rw [if_neg e] at hy
    obtain ⟨u, e1, o⟩ := g y a hy
    refine ⟨u, ?_, kl.av o⟩
    rw [if_neg e]; exact e1
theorem Lw.setl {v : Value} {Q : Unit → Shared → Prop} (X : TrW prog w mg cA P H0) (I : Lw H0 P L d Ha) (hv : av.ok Ha v) (h : ∀ Hb Tb, Lw H0 P L (fun y => if y = x then some av else d y) Hb → Q () (St s0 Hb Tb)) (hx : ((cellsOf 22 L).lookup x).isSome = false := by rfl) (hl : (envC 22 L f cd).kindOf x = some .local := by rfl) :
    wpAny (model prog w) A (storeName (envC 22 L f cd) x v) Q E (St s0 Ha T) := I.setlB X hv (fun Hb Tb _ => h Hb Tb) hx hl
theorem Lw.setcB {v : Value} {c : Addr} {Q : Unit → Shared → Prop} (X : TrW prog w mg cA P H0) (I : Lw H0 P L d Ha) (hv : av.ok Ha v) (h : ∀ Hb Tb, Bu P L Ha Hb → Lw H0 P L (fun y => if y = x then some av else d y) Hb → Q () (St s0 Hb Tb)) (hx : (cellsOf 22 L).lookup x = some c := by rfl) (hl : (envC 22 L f cd).kindOf x = some .cell := by rfl) :
    wpAny (model prog w) A (storeName (envC 22 L f cd) x v) Q E (St s0 Ha T) := by
  obtain ⟨m, cm, F, g⟩ := I.fr
  refine stc F hx (fun Hb Tb F2 s' => ?_) (hl := hl)
  have kl := lists_same F (.inr ⟨x, hx⟩) s'
  obtain ⟨gr, tb⟩ := I.stored X (Nat.le_of_lt (F.above x c (mem_look hx))) s'
  refine h _ _ (fun b o nw _ e => s'.extBut b o (fun e' => nw (.inr ⟨x, e' ▸ hx⟩)) e) ⟨⟨_, _, F2, fun y a hy => ?_⟩, gr, tb, I.new⟩
  by_cases e : y = x
  · subst e
    rw [if_pos rfl] at hy; cases hy
    exact ⟨v, by rw [hx, if_pos (show (some c).isSome = true from rfl), if_pos rfl], kl.av hv⟩
  · rw [if_neg e] at hy
    obtain ⟨u, e1, o⟩ := g y a hy
    refine ⟨u, ?_, kl.av o⟩
    rw [if_neg e]; exact e1
theorem Lw.setc {v : Value} {c : Addr} {Q : Unit → Shared → Prop} (X : TrW prog w mg cA P H0) (I : Lw H0 P L d Ha) (hv : av.ok Ha v) (h : ∀ Hb Tb, Lw H0 P L (fun y => if y = x then some av else d y) Hb → Q () (St s0 Hb Tb)) (hx : (cellsOf 22 L).lookup x = some c := by rfl) (hl : (envC 22 L f cd).kindOf x = some .cell := by rfl) :
    wpAny (model prog w) A (storeName (envC 22 L f cd) x v) Q E (St s0 Ha T) := I.setcB X hv (fun Hb Tb _ => h Hb Tb) hx hl
end
end Mine
end
section
set_option maxRecDepth 100000
set_option Elab.async false
namespace Mine
open PySem PySem.W PySem.Calls PyProof.Rows

theorem map_range {α β : Type} {l : List α} {d : α} {g : α → β} : (List.range l.length).map (fun i => g (l.getD i d)) = l.map g := by
  refine List.ext_getElem (by simp) fun i h1 h2 => ?_
  have : i < l.length := by simpa using h1
  simp [this]
abbrev upd (d : Str → Option AV) (x : Str) (a : AV) : Str → Option AV := fun y => if y = x then some a else d y
/-- a number's figures, its text -/
def figOf (x : Int) (k : Nat) : Nat := [33, 42, 63, 91].getD ((x.fdiv (4 ^ k)).fmod 4).toNat 0
def textOf (W : Nat) (x : Int) : Str := ⟨((List.range W).map (figOf x)).toArray⟩
theorem str_ext {x y : Str} (h : x.cps.toList = y.cps.toList) : x = y := by
  obtain ⟨x⟩ := x
  obtain ⟨y⟩ := y
  exact congrArg Str.mk (Array.toList_inj.mp h)
theorem cps_ones {n : Nat} {f : Nat → Nat} : cps ((List.range n).map fun i => ⟨#[f i]⟩) = (List.range n).map f := by
  unfold cps
  rw [List.map_map]
  generalize List.range n = l
  induction l with
  | nil => rfl
  | cons a l ih => rw [List.map_cons, List.flatten_cons, ih]; rfl
theorem join_ones {n : Nat} {f : Nat → Nat} : Txt.join (Str.ofString "") ((List.range n).map fun i => ⟨#[f i]⟩) = ⟨((List.range n).map f).toArray⟩ := str_ext (by rw [join_cps, cps_ones])
theorem joinOk_small {ks : List Str} (h : (cps ks).length ≤ 1000) : JoinOk (Str.ofString "") ks = true := by
  have e : ∀ (l : List Str) (n : Nat), l.foldl (fun a (k : Str) => a + k.length + (Str.ofString "").length) n = n + (cps l).length := by
    intro l
    induction l with
    | nil => intro n; rfl
    | cons k l ih =>
      intro n
      rw [List.foldl_cons, ih, show (Str.ofString "").length = 0 by decide +kernel]
      have : (cps (k :: l)).length = k.length + (cps l).length := by
        show (List.flatten (_ :: _)).length = _
        rw [List.flatten_cons, List.length_append, Array.length_toList]; rfl
      omega
  unfold JoinOk Builtin.Str.tooLong
  rw [List.foldl_toArray, e, sizeLine_eq]
  simp only [Bool.not_eq_true', decide_eq_false_iff_not]
  omega
theorem fig_in {y : Int} : 0 ≤ y.fmod 4 ∧ y.fmod 4 < 4 := ⟨Int.fmod_nonneg_of_pos y (by decide), Int.fmod_lt_of_pos y (by decide)⟩

section
variable {prog : Program} {w : World} {A : Around} {E : Value → Shared → Prop} {s0 : Shared} {H0 Ha Hb H : Heap} {T : Nat} {mg mb : Str → Option Value} {P L f cA : Addr} {cd : Value} {d : Str → Option AV} {Q : Flow → Shared → Prop}
theorem len_IL {l : Addr} {ks : List Int} {Q : Value → Shared → Prop} (hl : IL H l ks) (hz : ks.length < 2 ^ 30) (h : ∀ t T', Q (.int ks.length t) (St s0 H T')) : wpAny (model prog w) A (call (.builtin "len") [.ref l]) Q E (St s0 H T) := by
  obtain ⟨items, l1, hsz, _⟩ := hl.item
  refine len_list l1 (by rw [hsz]; omega) ?_
  rw [hsz]; exact h
theorem law_width {ns : List Int} {W : Nat} (Wk : Wd mg mb H0) (X : TrW prog w mg cA P H0) (I : Lw H0 P L d Ha) (hd : d "script" = some (.il ns)) (hz : ns.length < 2 ^ 20) (hW : (2 : Int) + (ns.length : Int).fmod 2 = W)
    (h : ∀ Hb Tb, Lw H0 P L (upd d "width" (.i W)) Hb → Q .next (St s0 Hb Tb)) : wpAny (model prog w) A (execs [stAt (bodyOf (stm 22)) 0] (envC 22 L f cd)) Q NoE (St s0 Ha T) := by
  refine asgX (wpAny_BinOp (cint fun _ _ => wpAny_BinOp (callB (id := "len") (I.wd Wk X) (by decide) (by decide +kernel) (it1 (I.ldl hd fun v hv => ?_)))))
  obtain ⟨a, rfl, hl⟩ := hv
  refine len_IL hl (by omega) fun t T1 => cint fun _ _ => imod (by decide) fun _ _ => iadd fun t T2 => ?_
  rw [hW]
  exact I.setc (av := .i W) X ⟨t, rfl⟩ fun Hb Tb J => nilX (h _ _ J)
theorem law_count {nums : List Int} (Wk : Wd mg mb H0) (X : TrW prog w mg cA P H0) (I : Lw H0 P L d Ha) (hd : d "numbers" = some (.il nums)) (hz : nums.length < 2 ^ 20)
    (h : ∀ Hb Tb, Lw H0 P L (upd d "count" (.i nums.length)) Hb → Q .next (St s0 Hb Tb)) : wpAny (model prog w) A (execs [stAt (bodyOf (stm 22)) 2] (envC 22 L f cd)) Q NoE (St s0 Ha T) := by
  refine asgX (callB (id := "len") (I.wd Wk X) (by decide) (by decide +kernel) (it1 (I.ldk hd fun v hv => ?_)))
  obtain ⟨a, rfl, hl⟩ := hv
  exact len_IL hl (by omega) fun t T1 => I.setl (av := .i nums.length) X ⟨t, rfl⟩ fun Hb Tb J => nilX (h _ _ J)
theorem law_numbers {ns : List Int} {W : Nat} (X : TrW prog w mg cA P H0) (hu : AOk A 0 0) (I : Lw H0 P L d Ha) (hd : d "script" = some (.il ns)) (hd2 : d "width" = some (.i W)) (hz : ns.length < 2 ^ 20) (hW : W < 9)
    (h : ∀ Hb Tb, Lw H0 P L (upd d "numbers" (.il ([1, 4] ++ (ns.take 7).map fun x => x.fmod (4 ^ W)))) Hb → Q .next (St s0 Hb Tb)) : wpAny (model prog w) A (execs [stAt (bodyOf (stm 22)) 1] (envC 22 L f cd)) Q NoE (St s0 Ha T) := by
  refine asgX (wpAny_BinOp (newL (it2 (cint fun t1 _ => cint fun t2 T1 => ⟨_, _, rfl, two_le, fun r H1 nr k1 l1 => ?_⟩))))
  have I1 := I.keeps X k1
  have il1 : IL H1 r [1, 4] := ⟨[(1, t1), (4, t2)], rfl, l1⟩
  refine mapP (s0 := s0) [("width", L + 1)] rfl (sl_list (s0 := s0) (I1.ldl hd fun v hv => ?_))
  obtain ⟨a, rfl, hl⟩ := hv
  obtain ⟨items, li, hsz, gi⟩ := hl.item
  refine cint fun t3 T3 => ⟨a, items, 7, t3, H1, T3, rfl, rfl, rfl, li, by rw [hsz, sizeLine_eq]; omega, fun r2 H2 nr2 k2 l2 => ?_⟩
  have hsz2 : (items.toList.take 7).toArray.size = (ns.take 7).length := by rw [List.size_toArray, List.length_take, List.length_take, Array.length_toList, hsz]
  refine listK l2 hu.hh (by rw [hsz2, List.length_take]; omega) fun J H3 It ok _ => ?_
  have I2 := I1.keeps X k2
  obtain ⟨wv, ⟨tw, rfl⟩, cw⟩ := I2.cell hd2
  refine ⟨H2, J, H3, T3, _, _, _, _, fun i v => ∃ t, v = .int (((ns.take 7).getD i 0).fmod (4 ^ W)) t, rfl, rfl, ok, ?_, ?_⟩
  · intro i v C Hb Tb m hi hv kb nC nE hE
    have hi' : i < (ns.take 7).length := hsz2 ▸ hi
    obtain ⟨tv, hv'⟩ := gi i (ns.take 7)[i] (by rw [List.getElem_take]; exact List.getElem?_eq_getElem _)
    have : v = .int (ns.take 7)[i] tv := by
      have e : items.toList[i]? = some v := by
        have e0 : (items.toList.take 7)[i]? = some v := by simpa using hv
        rw [List.getElem?_take] at e0
        split at e0
        · exact e0
        · cases e0
      rw [Array.getElem?_toList, hv'] at e
      exact (Option.some.inj e).symm
    subst this
    refine wpAny_BinOp (ldv nE hE (wpAny_BinOp (cint fun _ _ => ldc rfl (cellAt cw fun o => kb _ o) (ipow (by omega) (by decide) fun _ _ => imod ?_ fun t _ => ⟨_, _, rfl, fun _ _ e => e, t, ?_⟩))))
    · exact Int.ne_of_gt (Int.pow_pos (by decide))
    · rw [List.getD_eq_getElem?_getD, List.getElem?_eq_getElem hi']; rfl
  · intro D vs H4 T4 k4 nD hl4 hv l4
    have il4 := IL.mk (n := (ns.take 7).length) (hl4.trans hsz2) hv l4
    rw [map_range (g := fun (x : Int) => x.fmod (4 ^ W))] at il4
    obtain ⟨xs, ys, lx, ly, sx, sy, cat⟩ := (il1.at fun o e => k4 _ o (k2 _ o e)).add il4
    refine addL lx ly (by rw [sx, sy, List.length_map, List.length_take, sizeLine_eq]; simp; omega) fun q H5 nq k5 l5 => ?_
    exact ((I2.keeps X k4).keeps X k5).setc (av := .il _) X ⟨q, rfl, cat _ _ l5⟩ fun Hb Tb J => nilX (h _ _ J)
theorem law_texts {nums : List Int} {W : Nat} (Wk : Wd mg mb H0) (X : TrW prog w mg cA P H0) (hu : AOk A 0 0) (I : Lw H0 P L d Ha) (hd : d "numbers" = some (.il nums)) (hd2 : d "width" = some (.i W)) (hz : nums.length < 2 ^ 20) (hW : W < 9)
    (h : ∀ Hb Tb, Lw H0 P L (upd d "texts" (.sl (nums.map (textOf W)))) Hb → Q .next (St s0 Hb Tb)) : wpAny (model prog w) A (execs [stAt (bodyOf (stm 22)) 3] (envC 22 L f cd)) Q NoE (St s0 Ha T) := by
  refine asgX (compEK (s0 := s0) [("width", L + 1)] rfl (I.ldk hd fun v hv => ?_))
  obtain ⟨a, rfl, hl⟩ := hv
  obtain ⟨items, li, hsz, gi⟩ := hl.item
  refine listIt li hu.hh fun J H1 k1 nJ lJ lo wk i0 => ?_
  refine ⟨J, H1, T, _, _, fun i vs Hx => Keeps' Ha Hx ∧ vs.length = i ∧ ∀ (j : Nat) v, vs[j]? = some v → ∃ t, v = .str (textOf W (nums.getD j 0)) t, _, _, rfl, rfl, wk, i0, lo, by rw [hsz, sizeLine_eq]; omega, ⟨k1, rfl, nofun⟩, ?_, ?_⟩
  · rintro i v vs C D Hb Hc Tc hi hv ⟨kb, hl2, hvs⟩ nC nC' nD k4 _ hC _ lD
    have kc := k4all k1 kb k4 nJ nC nC' nD
    have I1 := I.keeps X kc
    obtain ⟨wv, ⟨tw, rfl⟩, cw⟩ := I1.cell hd2
    have hi' : i < nums.length := hsz ▸ hi
    obtain ⟨tv, hv'⟩ := gi i nums[i] (List.getElem?_eq_getElem _)
    rw [hv'] at hv; cases hv
    refine tests_nil ?_
    rw [if_pos rfl]
    refine joinM fun _ T3 => mapP (s0 := s0) [("x", C + 1)] rfl (rangeK (s0 := s0) (n := W) (I1.wd Wk X) hu.hh (by omega) (fun h' => ldc rfl cw (h' _ _)) fun K H2 T2 It ok _ => ?_)
    refine ⟨Hc, K, H2, T2, _, _, _, _, fun k v => ∃ t, v = .str ⟨#[figOf nums[i] k]⟩ t, rfl, rfl, ok, ?_, ?_⟩
    · rintro k _ C2 Hd Td m hk ⟨tk, rfl⟩ kd nC2 nE hE
      refine Subscript_ (cstr fun _ _ => wpAny_BinOp (wpAny_BinOp (ldc rfl (cellAt hC fun o => kd _ o) (wpAny_BinOp (cint fun _ _ => ldv nE hE (ipow (by omega) (by decide) fun _ _ => idiv ?_ ?_ fun _ _ => cint fun _ _ => imod (by decide) fun _ _ => ?_))))))
      · exact Int.ne_of_gt (Int.pow_pos (by decide))
      · have : (4 : Int) ^ k = ((4 ^ k : Nat) : Int) := by simp
        rw [this, Int.natAbs_natCast]
        exact Nat.lt_of_le_of_lt (Nat.pow_le_pow_right (by decide) (show k ≤ 9 by omega)) (by decide)
      · obtain ⟨f0, f1⟩ := fig_in (y := nums[i].fdiv (4 ^ k))
        obtain ⟨q, hq⟩ : ∃ q : Nat, (nums[i].fdiv (4 ^ k)).fmod 4 = q := ⟨_, (Int.toNat_of_nonneg f0).symm⟩
        rw [hq] at f1 ⊢
        have hf : figOf nums[i] k = [33, 42, 63, 91].getD q 0 := by unfold figOf; rw [hq]; rfl
        have q4 : q < 4 := by omega
        refine sub_str rfl (by decide +kernel) (c := [33, 42, 63, 91].getD q 0) ?_ fun t T' => ⟨_, _, rfl, fun _ _ e => e, t, by rw [hf]⟩
        rw [show (Str.ofString "!*?[").cps.toList = [33, 42, 63, 91] by decide +kernel]
        match q, q4 with
        | 0, _ => rfl
        | 1, _ => rfl
        | 2, _ => rfl
        | 3, _ => rfl
    · intro D2 vs2 H3 T3 k3 nD2 hl3 hv3 l3
      refine ⟨D2, H3, T3, _, rfl, rfl, SL.mk hl3 hv3 l3, joinOk_small (by rw [cps_ones, List.length_map, List.length_range]; omega), fun t T4 => ⟨H3, T4, rfl, ⟨kall kc k3, by rw [List.length_append, hl2]; rfl, fun j v hj => ?_⟩, fun _ _ o e => k3 _ o e⟩⟩
      by_cases hlt : j < vs.length
      · rw [List.getElem?_append_left hlt] at hj
        exact hvs j v hj
      · rw [List.getElem?_append_right (Nat.le_of_not_lt hlt)] at hj
        obtain ⟨e1, e2⟩ := List.getElem?_eq_some_iff.mp hj
        have hj' : j = i := by have : j - vs.length < 1 := e1; omega
        subst hj'
        refine ⟨t, ?_⟩
        have e3 : v = Value.str (Txt.join (Str.ofString "") ((List.range W).map fun k => ⟨#[figOf nums[j] k]⟩)) t := by
          have : j - vs.length = 0 := by omega
          rw [this] at hj
          exact (Option.some.inj hj).symm
        rw [e3, join_ones, List.getD_eq_getElem?_getD, List.getElem?_eq_getElem hi']; rfl
  · rintro C D vs Hb Hc Tc ⟨kb, hl2, hvs⟩ _ nC nC' nD hDC k4 lD
    refine RQ.ofK hDC k4 lD fun h' k4' l => ?_
    have kc := k4all k1 kb k4' nJ nC nC' nD
    have sl := SL.mk (n := nums.length) (hl2.trans hsz) hvs l
    rw [map_range (g := textOf W)] at sl
    exact (I.keeps X kc).setc (av := .sl _) X ⟨D, rfl, sl⟩ fun Hb Tb J => nilX (h _ _ J)
end
end Mine
end
section
set_option maxRecDepth 100000
set_option Elab.async false
namespace Mine
open PySem PySem.W PySem.Calls PyProof.Rows

/-- the parts of some octets, as texts -/
def highAt (W : Nat) (B : List Int) (k : Nat) : Str := ⟨(((B.drop (k * W)).take W).map Int.toNat).toArray⟩
def highOf (W : Nat) (B : List Int) (n : Nat) : List Str := (List.range n).map (highAt W B)

section
variable {prog : Program} {w : World} {A : Around} {E : Value → Shared → Prop} {s0 : Shared} {H0 Ha Hb H : Heap} {T : Nat} {mg mb : Str → Option Value} {P L f cA : Addr} {cd : Value} {d : Str → Option AV} {Q : Flow → Shared → Prop}
theorem law_high {B : List Int} {W n : Nat} (Wk : Wd mg mb H0) (X : TrW prog w mg cA P H0) (hu : AOk A 0 0) (I : Lw H0 P L d Ha) (hd : d "swapped" = some (.bs B)) (hd2 : d "width" = some (.i W)) (hd3 : d "count" = some (.i n)) (hB : B.length = n * W) (hz : n < 100) (hW : W < 9)
    (h : ∀ Hb Tb, Lw H0 P L (upd d "high" (.sl (highOf W B n))) Hb → Q .next (St s0 Hb Tb)) : wpAny (model prog w) A (execs [stAt (bodyOf (stm 22)) 5] (envC 22 L f cd)) Q NoE (St s0 Ha T) := by
  have hB2 : B.length < 1000 := by
    have : n * W ≤ 99 * 8 := Nat.mul_le_mul (by omega) (by omega)
    omega
  refine asgX (mapP (s0 := s0) [("width", L + 1), ("swapped", L + 4)] rfl (rangeK (s0 := s0) (n := n) (I.wd Wk X) hu.hh (by omega) (fun h' => I.ldl hd3 fun v ⟨t, e⟩ => e ▸ h' t _) fun K H2 T2 It ok _ => ?_))
  refine ⟨Ha, K, H2, T2, _, _, _, _, fun k v => ∃ t, v = .str (highAt W B k) t, rfl, rfl, ok, ?_, fun D vs H' T' k nD hl hv l => ?_⟩
  · rintro k _ C Hc Tc m hk ⟨tk, rfl⟩ kc nC nE hE
    have I1 := I.keeps X kc
    obtain ⟨wv, ⟨tw, rfl⟩, cw⟩ := I1.cell hd2
    obtain ⟨bv, ⟨b, tb, rfl, hb⟩, cb⟩ := I1.cell hd
    have hbl : b.size < 1000 := by rw [← KBw.ints_length b, hb]; exact hB2
    have i1 : ∀ {a b : Nat}, ((a : Int) * (b : Int)) = ((a * b : Nat) : Int) := by intro a b; simp
    have le1 : (k + 1) * W ≤ n * W := Nat.mul_le_mul (by omega) (Nat.le_refl _)
    have kW : k * W ≤ 99 * 8 := Nat.mul_le_mul (by omega) (by omega)
    have mk : ∀ {a : Nat}, a < 1000 → IntMulOk (a : Int) (W : Int) := fun ha => .of_left (intBits_le (by omega))
    refine joinM fun _ T3 => mapP (s0 := s0) [] rfl (sl_bytes (s0 := s0) (ldc rfl cb (wpAny_BinOp (ldv nE hE (ldc rfl cw (imul (hm := mk (by omega)) fun t1 T4 => wpAny_BinOp (wpAny_BinOp (ldv nE hE (cint fun _ _ => iadd fun _ _ => ldc rfl cw (imul (hm := mk (a := k + 1) (by omega)) fun t2 T5 => ⟨b, tb, k * W, t1, (k + 1) * W, t2, Hc, T5, rfl, by rw [i1], by rw [← i1]; simp, rfl, by omega, fun H4 b' t' T6 k4 hb' => ?_⟩))))))))))
    have I4 := I1.keeps X k4
    have eb : KBw.bInts b' = (B.drop (k * W)).take W := by
      rw [hb', hb, hB, Nat.min_eq_left (Nat.le_trans (Nat.mul_le_mul (Nat.le_succ k) (Nat.le_refl W)) le1), Nat.min_eq_left le1, Nat.succ_mul, Nat.add_sub_cancel_left]
    have sb : b'.size = ((B.drop (k * W)).take W).length := by rw [← KBw.ints_length b', eb]
    have sW : ((B.drop (k * W)).take W).length = W := by rw [List.length_take, List.length_drop, hB]; rw [Nat.succ_mul] at le1; omega
    refine bytesK hu.hh (by omega) fun J H5 It2 ok2 => ⟨H4, J, H5, T6, _, _, _, _, fun i v => ∃ t, v = .str ⟨#[(((B.drop (k * W)).take W).getD i 0).toNat]⟩ t, rfl, rfl, ok2, ?_, fun D2 vs2 H6 T7 k6 nD2 hl2 hv2 l2 => ?_⟩
    · rintro i _ C2 H7 T8 m2 hi ⟨c, u, hc, c0, c1, rfl⟩ k7 nC2 nE2 hE2
      refine callB (id := "chr") ((I4.keeps X k7).wd Wk X) (by decide) (by decide +kernel) (it1 (ldv nE2 hE2 (chr1 c0 c1 fun t T9 => ⟨_, _, rfl, fun _ _ e => e, t, ?_⟩)))
      rw [eb] at hc
      rw [List.getD_eq_getElem?_getD, hc]; rfl
    · refine ⟨D2, H6, T7, _, rfl, rfl, SL.mk hl2 hv2 l2, joinOk_small (by rw [cps_ones, List.length_map, List.length_range]; omega), fun t T9 => ⟨H6, T9, rfl, kall k4 k6, t, ?_⟩⟩
      rw [join_ones, sb, map_range (g := Int.toNat)]; rfl
  · have := SL.mk hl hv l
    exact (I.keeps X k).setc (av := .sl _) X ⟨D, rfl, this⟩ fun Hb Tb J => nilX (h _ _ J)
end
end Mine
end
section
set_option maxRecDepth 100000
set_option Elab.async false
namespace Mine
open PySem PySem.W PySem.Calls PyProof.Rows

/-- the pattern's written sign -/
def wrOf : Nat → Str | 0 => Str.ofString "!" | 1 => Str.ofString "[*]" | 2 => Str.ofString "[?]" | _ => Str.ofString "[[]"
/-- the pattern's parts, what they show, what is kept of them -/
def tkOf : Nat → Tk | 0 => ⟨[33], some ⟨#[33]⟩⟩ | 1 => ⟨[91, 42, 93], some (brOf 42)⟩ | 2 => ⟨[91, 63, 93], some (brOf 63)⟩ | _ => ⟨[91, 91, 93], some (brOf 91)⟩
def shOf : Nat → Str | 0 => ⟨#[33]⟩ | 1 => brOf 42 | 2 => brOf 63 | _ => brOf 91
def keOf : Nat → Str | 0 => ⟨#[33]⟩ | 1 => ⟨#[42]⟩ | 2 => ⟨#[63]⟩ | _ => ⟨#[91]⟩
def readAt (p i : Nat) : List Str := List.replicate p (Str.ofString "") ++ [keOf i]
def readOf (p : Nat) : List (List Str) := (List.range 4).map (readAt p)
def toksOf (p i : Nat) : List Tk := List.replicate p ⟨[63], some (Str.ofString ".")⟩ ++ [tkOf i]
def shsOf (p i : Nat) : List (Str × Str) := List.replicate p (Str.ofString ".", Str.ofString "") ++ [(shOf i, keOf i)]
def patOf (p i : Nat) : List Nat := List.replicate p 63 ++ ((wrOf i).cps.toList ++ [42])

theorem toks_ok (p : Nat) {i : Nat} (hi : i < 4) : ∀ t ∈ toksOf p i, OkTk t := fun t ht => by
  rcases List.mem_append.mp ht with ht | ht
  · rw [(List.mem_replicate.mp ht).2]; exact .q
  · cases List.mem_singleton.mp ht
    match i, hi with
    | 0, _ => exact .bang
    | 1, _ => exact .br 42 (by decide)
    | 2, _ => exact .br 63 (by decide)
    | 3, _ => exact .br 91 (by decide)
theorem shs_ok (p : Nat) {i : Nat} (hi : i < 4) : ∀ t ∈ shsOf p i, OkRd t.1 t.2 := fun t ht => by
  rcases List.mem_append.mp ht with ht | ht
  · rw [(List.mem_replicate.mp ht).2]; exact .q
  · cases List.mem_singleton.mp ht
    match i, hi with
    | 0, _ => exact .bang
    | 1, _ => exact .br 42 (by decide)
    | 2, _ => exact .br 63 (by decide)
    | 3, _ => exact .br 91 (by decide)
theorem pat_facts : ∀ p, p < 3 → ∀ i, i < 4 → patOf p i = txtOf (toksOf p i) ++ [42] ∧ (toksOf p i).map Tk.item = ((shsOf p i).map (·.1)).map some ∧ (cps ((shsOf p i).map (·.1))).length < 99 ∧ JoinOk (Str.ofString "") ((shsOf p i).map (·.1) ++ [Str.ofString ".*"]) = true ∧ (shsOf p i).map (·.2) = readAt p i ∧ (toksOf p i).length < 99 ∧ (shsOf p i).length < 99 ∧ (patOf p i).length < 99 := by
  decide +kernel

section
variable {prog : Program} {w : World} {A : Around} {E : Value → Shared → Prop} {s0 : Shared} {H0 Ha Hb H : Heap} {T : Nat} {mg mb : Str → Option Value} {P L f cA : Addr} {cd : Value} {d : Str → Option AV} {Q : Flow → Shared → Prop}
theorem read_pattern {x : Str} {t : Tok} {p i : Nat} {env : Env} {rp tp vp c1 c2 : Pos} {m : Str → Option Value} {Q : Value → Shared → Prop} (W : Wd mg mb H) (X : TrW prog w mg cA P H) (hu : AOk A 3 9) (hp : p < 3) (hi : i < 4) (hn : H.Ns env.locals m) (hm : m "pattern" = some (.str x t)) (hx : x.cps.toList = patOf p i)
    (h : ∀ H' T' l, Gr P H H' → (∃ ps, H'.get? P = some (tabObj ps) ∧ TriplesOk ps.toList) → H.get? l = none → SL H' l (readAt p i) → Q (.ref l) (St s0 H' T'))
    (he : env.globals = mainGlobals := by rfl) (hk : env.scope.kind = .function := by rfl) (h1 : env.kindOf "_law_read" = some .globalImplicit := by rfl) (h2 : env.kindOf "translate" = some .globalImplicit := by rfl) (h3 : env.kindOf "pattern" = some .local := by rfl)
    (s1 : starEach [.Call (.Name "translate" tp) [.Name "pattern" vp] [] c1] env = (false, eval (.Call (.Name "translate" tp) [.Name "pattern" vp] [] c1) env) :: starEach [] env := by rfl) (s2 : starEach [.Name "pattern" vp] env = (false, eval (.Name "pattern" vp) env) :: starEach [] env := by rfl) :
    wpAny (model prog w) A (eval (.Call (.Name "_law_read" rp) [.Call (.Name "translate" tp) [.Name "pattern" vp] [] c1] [] c2) env) Q E (St s0 H T) := by
  obtain ⟨f18, _, _, _, e18, ⟨o18, ho18, hd18⟩, _⟩ := W.fn 18 (by decide)
  obtain ⟨f8, _, _, _, e8, ⟨o8, ho8, hd8⟩, _⟩ := W.fn 8 (by decide)
  obtain ⟨q1, q2, q3, q4, q5, q6, q7, q8⟩ := pat_facts p hp i hi
  obtain ⟨ps, hP, tp0⟩ := X.tab
  refine callN W.g e18 hd18 (it1 (callN W.g e8 hd8 (it1 (ldv hn hm ⟨ho8, ?_⟩ hk h3) s2) he hk h2 (by decide) s2) s1) he hk h1 (by decide) s1
  refine translate_call (toks := toksOf p i) (ks := (shsOf p i).map (·.1)) W X e8 hu (by rw [← Array.length_toList, hx]; omega) (hx.trans q1) (toks_ok p hi) (by simp [toksOf]) (by omega) q2 (by omega) q4 fun H1 T1 y u k1 tb hy => ?_
  have W1 := W.gr hP tp0 k1
  refine ⟨k1.but _ _ (ne_tab hP ho18 (.inr fun vs hd => by rw [hd18] at hd; cases hd)) ho18, ?_⟩
  refine read_call (rs := shsOf p i) W1 e18 hu.le hy (shs_ok p hi) (by omega) (by omega) fun H2 T2 l k2 nl sl => ?_
  obtain ⟨ps1, hP1, tp1⟩ := tb
  refine h H2 T2 l (k1.keep k2) ⟨ps1, k2 _ _ hP1, tp1⟩ ?_ (q5 ▸ sl)
  cases e : H.get? l with
  | none => rfl
  | some o =>
    by_cases hlP : l = P
    · rw [hlP, hP1] at nl; cases nl
    · rw [k1.but l o hlP e] at nl; cases nl
end
end Mine
end
section
set_option maxRecDepth 100000
set_option Elab.async false
namespace Mine
open PySem PySem.W PySem.Calls PyProof.Rows

abbrev rdBody : List Stmt := loopOf (stAt (bodyOf (stm 22)) 7)
/-- lists but z stand -/
def ListsZ (z : Addr) (h h' : Heap) : Prop := ∀ a items, a ≠ z → Ls h a items → Ls h' a items
def RLs (z : Addr) (h : Heap) (l : Addr) (r : List (List Str)) : Prop := ∀ h', ListsZ z h h' → RL h' l r
theorem RLs.go {z : Addr} {h h' : Heap} {l : Addr} {r : List (List Str)} (x : RLs z h l r) (k : ListsZ z h h') : RLs z h' l r := fun h2 k2 => x h2 fun a i n e => k2 a i n (k a i n e)
/-- the patterns of a place -/
def PatsAt (h : Heap) (D : Addr) (p : Nat) : Prop := ∃ vs : List Value, Ls h D vs.toArray ∧ vs.length = 4 ∧ ∀ (i : Nat) v, vs[i]? = some v → ∃ x t, v = .str x t ∧ x.cps.toList = patOf p i
theorem wr_size : ∀ i, i < 4 → 0 < (wrOf i).length ∧ (wrOf i).length ≤ 3 := by decide +kernel
theorem toL_app {x y : Str} : (x ++ y).cps.toList = x.cps.toList ++ y.cps.toList := by
  show (x.cps ++ y.cps).toList = _
  rw [Array.toList_append]

section
variable {prog : Program} {w : World} {A : Around} {E : Value → Shared → Prop} {s0 : Shared} {H0 Ha Hb H : Heap} {T : Nat} {mg mb : Str → Option Value} {P L f cA z : Addr} {cd : Value} {d : Str → Option AV} {m cm : Str → Option Value}
/-- a sum of texts, the second not empty -/
theorem saddR {x y : Str} {t u : Tok} {Q : Value → Shared → Prop} (hy : y.length ≠ 0) (hz : x.length + y.length ≤ 99) (h : ∀ z t T', z.cps.toList = x.cps.toList ++ y.cps.toList → Q (.str z t) (St s0 H T')) : wpAny (model prog w) A (binaryOp .Add (.str x t) (.str y u)) Q E (St s0 H T) := by
  refine P.add_str ?_
  by_cases hx : x.length = 0
  · rw [if_pos (by simpa using hx)]
    refine h y _ _ ?_
    have : x.cps.toList = [] := List.eq_nil_of_length_eq_zero (by rw [Array.length_toList]; exact hx)
    rw [this]; rfl
  · rw [if_neg (by simpa using hx), if_neg (by simpa using hy)]
    exact ⟨by rw [Str.length_append, sizeLine_eq]; omega, h _ _ _ toL_app⟩
theorem pats_comp {p : Nat} {tp : Tok} {rest : List Stmt} {Q : Flow → Shared → Prop} (hh : A.handled = none) (F : FrC Ha L (cellsOf 22 L) m cm) (hpl : cm "place" = some (.int p tp)) (hp : p < 3)
    (h : ∀ Hb Tb D, FrC Hb L (cellsOf 22 L) (fun y => if y = "patterns" then some (.ref D) else m y) cm → (∀ b o, b ≠ L → Ha.get? b = some o → Hb.get? b = some o) → Ha.get? D = none → PatsAt Hb D p → wpAny (model prog w) A (execs rest (envC 22 L f cd)) Q NoE (St s0 Hb Tb)) :
    wpAny (model prog w) A (execs (stAt rdBody 0 :: rest) (envC 22 L f cd)) Q NoE (St s0 Ha T) := by
  refine compA (s0 := s0) [("place", L + 6)] rfl (newL (it4 (cstr fun t1 _ => cstr fun t2 _ => cstr fun t3 _ => cstr fun t4 T1 => ⟨_, _, rfl, by rw [sizeLine_eq]; show 4 ≤ _; decide, fun r H1 nr k1 l1 => listIt l1 hh fun J H2 k2 nJ lJ lo wk i0 => ?_⟩)))
  have cw0 : Ha.IsCell (L + 6) (some (.int p tp)) := hpl ▸ F.cell "place" _ rfl
  have kH : Keeps' Ha H2 := kall k1 k2
  have nJ0 := none_back k1 nJ
  refine ⟨J, H2, T1, _, _, fun i vs Hx => Keeps' Ha Hx ∧ vs.length = i ∧ ∀ (j : Nat) v, vs[j]? = some v → ∃ x t, v = .str x t ∧ x.cps.toList = patOf p j, _, _, rfl, rfl, wk, i0, lo, by rw [sizeLine_eq]; show 4 ≤ _; decide, ⟨kH, rfl, nofun⟩, ?_, ?_⟩
  · rintro i v vs C D Hb Hc Tc mm hi hv ⟨kb, hl2, hvs⟩ nC nD k3 nE hE _ lD
    have kc := k3all kH kb k3 nJ0 nC nD
    have hi4 : i < 4 := hi
    obtain ⟨tv, hv'⟩ : ∃ t, v = .str (wrOf i) t := by
      match i, hi4 with
      | 0, _ => exact ⟨_, (Option.some.inj hv).symm⟩
      | 1, _ => exact ⟨_, (Option.some.inj hv).symm⟩
      | 2, _ => exact ⟨_, (Option.some.inj hv).symm⟩
      | 3, _ => exact ⟨_, (Option.some.inj hv).symm⟩
    subst hv'
    refine tests_nil ?_
    rw [if_pos rfl]
    obtain ⟨w1, w2⟩ := wr_size i hi4
    refine wpAny_BinOp (wpAny_BinOp (wpAny_BinOp (cstr fun _ _ => ldc rfl (cellAt cw0 fun o => kc _ o) (smul (c := 63) (by decide +kernel) hp fun y t5 T5 hy => ldv nE hE (saddR (by omega) ?_ fun y2 t6 T6 hy2 => cstr fun _ _ => saddR (by decide +kernel) ?_ fun y3 t7 T7 hy3 => ⟨Hc, T7, rfl, ⟨kc, by rw [List.length_append, hl2]; rfl, fun j v hj => ?_⟩, fun _ _ o e => e⟩)))))
    · have : y.length = p := by show y.cps.size = p; rw [← Array.length_toList, hy, List.length_replicate]
      omega
    · have : y2.length = p + (wrOf i).length := by show y2.cps.size = _; rw [← Array.length_toList, hy2, List.length_append, hy, List.length_replicate, Array.length_toList]; rfl
      have h1 : (Str.ofString "*").length = 1 := by decide +kernel
      omega
    · by_cases hlt : j < vs.length
      · rw [List.getElem?_append_left hlt] at hj
        exact hvs j v hj
      · rw [List.getElem?_append_right (Nat.le_of_not_lt hlt)] at hj
        obtain ⟨e1, e2⟩ := List.getElem?_eq_some_iff.mp hj
        have hj' : j = i := by have : j - vs.length < 1 := e1; omega
        subst hj'
        refine ⟨y3, t7, ?_, ?_⟩
        · have : j - vs.length = 0 := by omega
          rw [this] at hj
          exact (Option.some.inj hj).symm
        · rw [hy3, hy2, hy, List.append_assoc, show (Str.ofString "*").cps.toList = [42] by decide +kernel]; rfl
  · rintro C D vs Hb Hc Tc mm ⟨kb, hl2, hvs⟩ _ nC nD hDC k3 nE lD
    have kc := k3all kH kb k3 nJ0 nC nD
    have Fc := F.keeps kc
    have F2 := F.keeps kH
    have nw : ∀ {b}, FrC.own L (cellsOf 22 L) b → b ≠ C := fun w => F2.new w nC
    refine stl Fc fun Hd Td Fd sd => ⟨mm, nE.sameBut sd (Ne.symm (nw (.inl rfl))), fun h' s' => h h' _ D (Fd.keep fun b o w e => s'.extBut b o (nw w) e) (fun b o bL e => s'.extBut b o (some_ne (kH _ _ e) nC) (sd.extBut b o bL (kc _ _ e))) (none_back kH nD) ⟨vs, (lD.same sd ?_).same s' hDC, hl2, hvs⟩⟩
    obtain ⟨_, _, _, hF, _, _⟩ := F2.ns
    exact Ne.symm (some_ne hF nD)

theorem reads_app {p : Nat} {D : Addr} {items : Array Value} {rest : List Stmt} {Q : Flow → Shared → Prop} (W : Wd mg mb Ha) (X : TrW prog w mg cA P Ha) (hu : AOk A 3 9) (hp : p < 3) (F : FrC Ha L (cellsOf 22 L) m cm) (hpt : m "patterns" = some (.ref D)) (hD : PatsAt Ha D p) (hz : m "readings" = some (.ref z)) (lz : Ls Ha z items) (hsz : items.size < 9)
    (h : ∀ Hb Tb l, Gr P Ha Hb → ∀ Hc, Heap.SameBut z Hb Hc → (∃ ps, Hc.get? P = some (tabObj ps) ∧ TriplesOk ps.toList) → Ls Hc z (items.push (.ref l)) → RLs z Hc l (readOf p) → wpAny (model prog w) A (execs rest (envC 22 L f cd)) Q NoE (St s0 Hc Tb)) :
    wpAny (model prog w) A (execs (stAt rdBody 1 :: rest) (envC 22 L f cd)) Q NoE (St s0 Ha T) := by
  obtain ⟨vs, lD, hv4, hvs⟩ := hD
  obtain ⟨ps0, hP0, tp0⟩ := X.tab
  have hsz4 : vs.toArray.size = 4 := by rw [List.size_toArray, hv4]
  refine exprX (appM F.ns hz lz (mapE (s0 := s0) [] rfl (Mine.ldl F hpt (listK lD hu.hh (by omega) fun J H2 It ok lv => ?_))))
  have nz : ∀ b o, Ha.get? b = some o → b ≠ J ∧ b ≠ H2.objs.size ∧ b ≠ H2.objs.size + 1 := fun b o e => ⟨some_ne e ok.new, some_ne (ok.keep _ _ e) (none_of_le (Nat.le_refl _)), some_ne (ok.keep _ _ e) (none_of_le (Nat.le_succ _))⟩
  refine ⟨J, H2, T, _, _, _, It, fun h => Gr P Ha h ∧ ∃ ps, h.get? P = some (tabObj ps) ∧ TriplesOk ps.toList, fun i v h => ∃ l, v = .ref l ∧ (l ≠ J ∧ l ≠ H2.objs.size + 1 ∧ l ≠ H2.objs.size ∧ l ≠ z) ∧ SL h l (readAt p i), rfl, rfl, ⟨Ha, ok⟩, ⟨.of ok.keep, ps0, ok.keep _ _ hP0, tp0⟩, ?_, ?_, ?_, ?_⟩
  · rintro h h' ⟨g, ps, e, tp⟩ k3
    refine ⟨⟨fun b o n e => ?_, fun ps e => ?_⟩, ps, ?_, tp⟩
    · obtain ⟨a1, a2, a3⟩ := nz b o e
      exact k3 b o a1 a3 a2 (g.but b o n e)
    · obtain ⟨mo, e'⟩ := g.tab ps e
      obtain ⟨a1, a2, a3⟩ := nz P _ e
      exact ⟨mo, k3 _ _ a1 a3 a2 e'⟩
    · obtain ⟨a1, a2, a3⟩ := nz P _ hP0
      exact k3 _ _ a1 a3 a2 e
  · rintro i v h h' ⟨l, rfl, ⟨a1, a2, a3, a4⟩, s⟩ k3
    exact ⟨l, rfl, ⟨a1, a2, a3, a4⟩, s.at fun o e => k3 l o a1 a2 a3 e⟩
  · rintro i v C Hb Tb mm hi hv ⟨g, tb⟩ nC aw nE hE it
    obtain ⟨x, t, rfl, hx⟩ := hvs i v (by simpa using hv)
    obtain ⟨ps1, hP1, tp1⟩ := id tb
    refine read_pattern (W.gr hP0 tp0 g) (X.gr g tb) hu hp (hsz4 ▸ hi) nE hE hx fun Hc Tc l g2 tb2 nl sl => ⟨Hc, Tc, rfl, ⟨g.trans g2, tb2⟩, ⟨l, rfl, ⟨?_, ?_, ?_, ?_⟩, sl⟩, ?_, ?_⟩
    · obtain ⟨o, e⟩ := lv _ _ it
      exact Ne.symm (some_ne e nl)
    · exact (aw l nl).2
    · exact (aw l nl).1
    · exact Ne.symm ((lists_gr hP0 g _ _ lz).new nl)
    · rintro j v ⟨l', rfl, a, s⟩
      exact ⟨l', rfl, a, (lists_gr hP1 g2).sl s⟩
    · intro b hb o e
      refine g2.but b o ?_ e
      rcases hb with rfl | rfl | hb
      · exact Ne.symm (some_ne (ok.keep _ _ hP0) nC)
      · exact Ne.symm (nz P _ hP0).2.1
      · rcases List.mem_cons.mp hb with rfl | hb
        · exact Ne.symm (nz P _ hP0).1
        · cases List.mem_singleton.mp hb
          obtain ⟨_, e'⟩ := lD
          exact ne_tab hP0 e' (.inl nofun)
  · rintro D2 ws Hb Tb ⟨g, tb⟩ nD hl hR lD2
    have lz' := lists_gr hP0 g _ _ lz
    refine ⟨Hb, Tb, items, rfl, lz', by rw [sizeLine_eq]; omega, fun Hc lc sc => ⟨rfl, ?_⟩⟩
    obtain ⟨ps1, hP1, tp1⟩ := tb
    have zP : P ≠ z := by
      obtain ⟨_, e'⟩ := lz'
      exact Ne.symm (ne_tab hP1 e' (.inl nofun))
    refine h Hb Tb D2 g Hc sc ⟨ps1, sc.extBut _ _ zP hP1, tp1⟩ lc fun h' kz => RL.mk (n := 4) (hl.trans hsz4) (fun i v hv => ?_) (kz _ _ (Ne.symm ((lz.at fun o => ok.keep _ o).new nD)) (lD2.same sc (Ne.symm ((lz.at fun o => ok.keep _ o).new nD))))
    obtain ⟨l, e, ⟨_, _, _, a4⟩, s⟩ := hR i v hv
    obtain ⟨q, e1, l1⟩ := s
    exact ⟨l, e, q, e1, kz _ _ a4 (l1.same sc a4)⟩
theorem addLs {a b : Addr} {xs ys : Array Value} {Q : Value → Shared → Prop} (ha : Ls H a xs) (hb : Ls H b ys) (hz : xs.size + ys.size ≤ sizeLine)
    (h : ∀ r H', H.objs.size ≤ r → Keeps' H H' → Ls H' r (xs ++ ys) → Q (.ref r) (St s0 H' T)) : wpAny (model prog w) A (binaryOp .Add (.ref a) (.ref b)) Q E (St s0 H T) := by
  obtain ⟨_, ha⟩ := ha
  obtain ⟨_, hb⟩ := hb
  exact P.add_list (s := St s0 H T) (hsz := hz) ha hb (h _ _ (Nat.le_refl _) (fun b o e => Heap.get?_push_of_some _ e) ⟨0, Heap.get?_push_size _ rfl⟩)
theorem reads_if {p : Nat} {l : Addr} {tp : Tok} {items : Array Value} {Q : Flow → Shared → Prop} (hu : AOk A 0 10) (F : FrC Ha L (cellsOf 22 L) m cm) (hz : m "readings" = some (.ref z)) (lz : Ls Ha z items) (hsz : items.size < 9) (hl : items[p]? = some (.ref l)) (rl : RL Ha l (readOf p)) (hpl : cm "place" = some (.int p tp)) (hp : p < 3)
    (h : ∀ Hb Tb, Keeps' Ha Hb → Q .next (St s0 Hb Tb)) : wpAny (model prog w) A (execs [stAt rdBody 2] (envC 22 L f cd)) Q NoE (St s0 Ha T) := by
  refine ifX (cmpX (Subscript_ (Mine.ldl F hz (Mine.ldk F hpl (sub_list lz (Int.natCast_nonneg p) (by omega) hl ?_)))))
  refine mapE (s0 := s0) [("place", L + 6)] rfl (cstr fun _ T1 => strIt hu.hh fun J H2 It k2 nJ lJ wk i0 => ?_)
  have cw0 : Ha.IsCell (L + 6) (some (.int p tp)) := hpl ▸ F.cell "place" _ rfl
  have nz : ∀ b o, Ha.get? b = some o → b ≠ J ∧ b ≠ H2.objs.size ∧ b ≠ H2.objs.size + 1 := fun b o e => ⟨some_ne e nJ, some_ne (k2 _ _ e) (none_of_le (Nat.le_refl _)), some_ne (k2 _ _ e) (none_of_le (Nat.le_succ _))⟩
  refine ⟨J, H2, T1, _, _, _, It, Keeps' Ha, fun i v h => ∃ l, v = .ref l ∧ (l ≠ J ∧ l ≠ H2.objs.size + 1 ∧ l ≠ H2.objs.size) ∧ SL h l (readAt p i), rfl, rfl, ⟨Ha, k2, nJ, fun b hb => by cases List.mem_singleton.mp hb; exact lJ, wk, i0, by rw [sizeLine_eq]; decide +kernel⟩, ⟨k2, ?_, ?_, ?_, ?_⟩⟩
  · rintro h h' k k3 b o e
    obtain ⟨a1, a2, a3⟩ := nz b o e
    exact k3 b o a1 a3 a2 (k _ _ e)
  · rintro i v h h' ⟨l, rfl, ⟨a1, a2, a3⟩, s⟩ k3
    exact ⟨l, rfl, ⟨a1, a2, a3⟩, s.at fun o e => k3 l o a1 a2 a3 e⟩
  · rintro i v C Hb Tb mm hi hv kb nC aw nE hE it
    have hi4 : i < 4 := Nat.lt_of_lt_of_eq hi (by decide +kernel)
    have cw := cellAt cw0 fun o => kb _ o
    refine wpAny_BinOp (wpAny_BinOp (newL (it1 (cstr fun t1 T2 => ⟨Hb, T2, rfl, one_le, fun r1 H3 _ k3 l3 => ldc rfl (cellAt cw fun o => k3 _ o) (lmul l3 (by omega) fun r2 H4 _ k4 l4 => newL (it1 (ldv ((nE.keeps k3).keeps k4) hE ⟨H4, _, rfl, one_le, fun r3 H5 _ k5 l5 => addLs (l4.at fun o => k5 _ o) l5 ?_ fun r4 H6 hr k6 l6 => ?_⟩)))⟩))))
    · rw [List.size_toArray, List.size_toArray, List.length_replicate, sizeLine_eq]; show p + 1 ≤ _; omega
    have kk : Keeps' Hb H6 := kall (kall (kall k3 k4) k5) k6
    have hD : H2.objs.size < r4 := by
      have : Hb.get? H2.objs.size ≠ none := fun e => (aw _ e).1 rfl
      obtain ⟨o, e⟩ := Option.ne_none_iff_exists'.mp this
      exact Nat.lt_of_lt_of_le (Heap.lt_size (k5 _ _ (k4 _ _ (k3 _ _ e)))) hr
    refine ⟨H6, _, rfl, kall kb kk, ⟨r4, rfl, ⟨Nat.ne_of_gt (Nat.lt_trans lJ hD), ?_, Nat.ne_of_gt hD⟩, ?_⟩, ?_, fun b _ o e => kk _ _ e⟩
    · have : Hb.get? (H2.objs.size + 1) ≠ none := fun e => (aw _ e).2 rfl
      obtain ⟨o, e⟩ := Option.ne_none_iff_exists'.mp this
      exact Nat.ne_of_gt (Nat.lt_of_lt_of_le (Heap.lt_size (k5 _ _ (k4 _ _ (k3 _ _ e)))) hr)
    · obtain ⟨c, u, hc, rfl⟩ := hv
      have ek : (⟨#[c]⟩ : Str) = keOf i := by
        rw [show (Str.ofString "!*?[").cps = #[33, 42, 63, 91] by decide +kernel] at hc
        match i, hi4 with
        | 0, _ => cases hc; rfl
        | 1, _ => cases hc; rfl
        | 2, _ => cases hc; rfl
        | 3, _ => cases hc; rfl
      refine ⟨List.replicate p (Str.ofString "", t1) ++ [(⟨#[c]⟩, u)], by simp [readAt, ek], ?_⟩
      rw [List.map_append, List.map_replicate, ← List.append_toArray]
      exact l6
    · rintro j v ⟨l', rfl, a, s⟩
      exact ⟨l', rfl, a, s.at fun o e => kk _ _ e⟩
  · rintro D ws Hb Tb kb nD hlw hR lD
    have rl2 : RL Hb D (readOf p) := RL.mk (n := 4) (hlw.trans (by decide +kernel)) (fun i v hv => let ⟨l, e, _, s⟩ := hR i v hv; ⟨l, e, s⟩) lD
    exact neRL (rl.at kb) rl2 (by have := hu.un; omega) (wpAny_truthy_bool (nilX (nilX (h _ _ kb))))
end
end Mine
end
section
set_option maxRecDepth 100000
set_option Elab.async false
namespace Mine
open PySem PySem.W PySem.Calls PyProof.Rows

/-- all but law's frame, the table and z stand -/
structure Bt (P L z : Addr) (h h' : Heap) : Prop where
  but : ∀ b o, ¬ FrC.own L (cellsOf 22 L) b → b ≠ z → b ≠ P → h.get? b = some o → h'.get? b = some o
  tab : ∀ ps, h.get? P = some (tabObj ps) → ∃ more, h'.get? P = some (tabObj (ps ++ more))
theorem Bt.trans {P L z : Addr} {a b c : Heap} (x : Bt P L z a b) (y : Bt P L z b c) : Bt P L z a c := ⟨fun d o n1 n2 n3 e => y.but d o n1 n2 n3 (x.but d o n1 n2 n3 e), fun ps e => by
  obtain ⟨m, e1⟩ := x.tab ps e
  obtain ⟨m', e2⟩ := y.tab _ e1
  exact ⟨m ++ m', by rw [e2, Array.append_assoc]⟩⟩
theorem Bt.gr {P L z : Addr} {a b : Heap} (x : Gr P a b) : Bt P L z a b := ⟨fun d o _ _ n e => x.but d o n e, x.tab⟩
theorem Bt.own {P L z c : Addr} {a b : Heap} (w : FrC.own L (cellsOf 22 L) c) (hP : P ≠ c) (x : Heap.ExtBut c a b) : Bt P L z a b := ⟨fun d o n _ _ e => x d o (fun e' => n (e' ▸ w)) e, fun ps e => ⟨#[], by rw [Array.append_empty]; exact x _ _ hP e⟩⟩
theorem Bt.z {P L z : Addr} {a b : Heap} (hP : P ≠ z) (x : Heap.ExtBut z a b) : Bt P L z a b := ⟨fun d o _ n _ e => x d o n e, fun ps e => ⟨#[], by rw [Array.append_empty]; exact x _ _ hP e⟩⟩

section
variable {prog : Program} {w : World} {A : Around} {E : Value → Shared → Prop} {s0 : Shared} {H0 Ha Hb H : Heap} {T : Nat} {mg mb : Str → Option Value} {P L f cA z : Addr} {cd : Value} {d : Str → Option AV} {m cm : Str → Option Value}
theorem Bt.lists {ps : Array Value} (x : Bt P L z Ha Hb) (F : FrC Ha L (cellsOf 22 L) m cm) (hP : Ha.get? P = some (tabObj ps)) : ListsZ z Ha Hb := fun a items n l => l.at fun o e => x.but a o (fun w => F.ne_ls w l rfl) n (ne_tab hP e (.inr fun vs hd => by obtain ⟨k, e'⟩ := l; rw [e'] at e; cases e; cases hd)) e
theorem law_readings {W : Nat} {Q : Flow → Shared → Prop} (Wk : Wd mg mb H0) (X : TrW prog w mg cA P H0) (hu : AOk A 3 10) (I : Lw H0 P L d Ha) (hd2 : d "width" = some (.i W)) (hdp : d "place" = none) (hdq : d "patterns" = none) (hW : W ≤ 3)
    (h : ∀ Hb Tb, Lw H0 P L (upd d "readings" (.rrl ((List.range W).map readOf))) Hb → Q .next (St s0 Hb Tb)) :
    wpAny (model prog w) A (execs [stAt (bodyOf (stm 22)) 6, stAt (bodyOf (stm 22)) 7] (envC 22 L f cd)) Q NoE (St s0 Ha T) := by
  refine asgX (newL (wpAny_items_nil ⟨_, _, rfl, Nat.zero_le _, fun z H1 nz k1 l1 => ?_⟩))
  obtain ⟨m0, cm0, F0, g0⟩ := I.fr
  have F1 := F0.keeps k1
  refine stl F1 fun H2 T2 F2 s2 => ?_
  have I1 := I.keeps X k1
  have s2' : Heap.SameBut L H1 H2 := s2
  obtain ⟨gr2, tb2⟩ := I1.stored X (Nat.le_refl L) s2'
  obtain ⟨vw, ew, tw, rfl⟩ := g0 "width" _ hd2
  have ew' : cm0 "width" = some (.int (W : Nat) tw) := ew
  have W2 : Wd mg mb H2 := let ⟨_, hP, tp⟩ := X.tab; Wk.gr hP tp gr2
  have hown : ∀ {b}, FrC.own L (cellsOf 22 L) b → b ≠ z := fun w => F1.ne_ls w l1
  have hzL : z ≠ L := Ne.symm (hown (.inl rfl))
  have l2 : Ls H2 z #[] := l1.same s2' hzL
  have hPown : ∀ {b}, FrC.own L (cellsOf 22 L) b → P ≠ b := fun w => Ne.symm (own_ne X I.new F0.above w)
  obtain ⟨ps2, hP2, tp2⟩ := tb2
  have hPz : P ≠ z := by
    obtain ⟨_, e⟩ := l2
    exact Ne.symm (ne_tab hP2 e (.inl nofun))
  refine forW (s0 := s0) (rangeIt (n := W) W2 hu.hh (by omega) (fun h' => Mine.ldk F2 ew' (h' _ _)) fun J H3 T3 k3 nJ lJ wk i0 => ?_)
  have hJown : ∀ {b}, FrC.own L (cellsOf 22 L) b → b ≠ J := fun w => F2.new w nJ
  have hzJ : z ≠ J := l2.new nJ
  have hPJ : P ≠ J := some_ne hP2 nJ
  -- the old heap's objects
  have oldw : ∀ b o, H0.get? b = some o → ¬ FrC.own L (cellsOf 22 L) b := fun b o e w => by
    have := Heap.lt_size e
    rcases w with rfl | ⟨n, hn⟩
    · exact Nat.lt_irrefl _ (Nat.lt_of_lt_of_le this I.new)
    · exact Nat.lt_irrefl _ (Nat.lt_trans (Nat.lt_of_lt_of_le this I.new) (F0.above n _ (mem_look hn)))
  have oldz : ∀ b o, H0.get? b = some o → b ≠ P → b ≠ z := fun b o e n => some_ne (I.gr.but b o n e) nz
  have oldJ : ∀ b o, H0.get? b = some o → b ≠ P → b ≠ J := fun b o e n => some_ne (gr2.but b o n e) nJ
  have step : ∀ {Hb Hc}, Gr P H0 Hb → Bt P L z Hb Hc → Gr P H0 Hc := fun g x => ⟨fun b o n e => x.but b o (oldw b o e) (oldz b o e n) n (g.but b o n e), fun ps e => by
    obtain ⟨m, e1⟩ := g.tab ps e
    obtain ⟨m', e2⟩ := x.tab _ e1
    exact ⟨m ++ m', by rw [e2, Array.append_assoc]⟩⟩
  have stepJ : ∀ {Hb Hc}, Gr P H0 Hb → KpI J Hb Hc → Gr P H0 Hc := fun g x => ⟨fun b o n e => x b o (oldJ b o e n) (g.but b o n e), fun ps e => let ⟨m, e1⟩ := g.tab ps e; ⟨m, x _ _ hPJ e1⟩⟩
  refine ⟨J, H3, T3, W, _, fun i Hc => (∃ m cm, FrC Hc L (cellsOf 22 L) m cm ∧ m "readings" = some (.ref z) ∧ (∀ x : Str, x ≠ "patterns" → x ≠ "readings" → m x = m0 x) ∧ ∀ x : Str, x ≠ "place" → cm x = cm0 x) ∧ Gr P H0 Hc ∧ (∃ ps, Hc.get? P = some (tabObj ps) ∧ TriplesOk ps.toList) ∧
    (∃ rs : List Addr, Ls Hc z (rs.map Value.ref).toArray ∧ rs.length = i ∧ ∀ (k : Nat) r, rs[k]? = some r → RLs z Hc r (readOf k)) ∧ Lists Ha Hc ∧ ∀ items, ¬ Ls Hc J items, [J], _, rfl, rfl, wk, i0, ?_, ?_, ?_⟩
  · refine ⟨⟨_, _, F2.keeps k3, rfl, fun x _ n => if_neg n, fun _ _ => rfl⟩, gr2.keep k3, ⟨ps2, k3 _ _ hP2, tp2⟩, ⟨[], l2.at fun o => k3 _ o, rfl, nofun⟩, ((Lists.of k1).trans (lists_same F1 (.inl rfl) s2')).trans (.of k3), fun items ⟨n, e⟩ => ?_⟩
    exact absurd (congrArg Obj.data (Option.some.inj ((show _ = some _ from i0).symm.trans e))) nofun
  · rintro i _ Hb Hc Tc hi ⟨t, rfl⟩ ⟨⟨m, cm, F, ez, em, ec⟩, gr, ⟨ps, hP, tp⟩, ⟨rs, lz, hl, hr⟩, ls, nl⟩ kJ iJ
    have Fc := F.keep fun b o w e => kJ b o (hJown w) e
    have gc := stepJ gr kJ
    have hPc := kJ _ _ hPJ hP
    have lc : ListsZ z Hb Hc := fun a items _ l => l.at fun o e => kJ a o (fun e' => nl items (e' ▸ l)) e
    have lAc : Lists Hb Hc := fun a items l => l.at fun o e => kJ a o (fun e' => nl items (e' ▸ l)) e
    refine stc Fc (x := "place") rfl fun Hd Td Fd sd => ?_
    have wpl : FrC.own L (cellsOf 22 L) (L + 6) := .inr ⟨"place", rfl⟩
    have b1 : Bt P L z Hc Hd := .own wpl (hPown wpl) sd.extBut
    refine pats_comp hu.hh Fd rfl (by omega) fun He Te D Fe ke nD pats => ?_
    have b2 : Bt P L z Hc He := b1.trans (.own (.inl rfl) (hPown (.inl rfl)) ke)
    have ge := step gc b2
    have tbe : ∃ ps, He.get? P = some (tabObj ps) ∧ TriplesOk ps.toList := ⟨ps, ke _ _ (hPown (.inl rfl)) (sd.extBut _ _ (hPown wpl) hPc), tp⟩
    have lze : Ls He z (rs.map Value.ref).toArray := ((lz.at fun o => kJ _ o hzJ).same sd (Ne.symm (hown wpl))).at fun o => ke _ o hzL
    have We : Wd mg mb He := let ⟨_, hP, tp⟩ := X.tab; Wk.gr hP tp ge
    refine reads_app (p := i) We (X.gr ge tbe) hu.le (by omega) Fe rfl pats (z := z) (by show (if _ then _ else _) = _; rw [if_neg (by decide)]; exact ez) lze (by rw [List.size_toArray, List.length_map, hl]; omega) fun Hf Tf l g Hg sg tbg lg rlg => ?_
    have b4 : Bt P L z Hc Hg := (b2.trans (.gr g)).trans (.z hPz sg.extBut)
    have Fg : FrC Hg L (cellsOf 22 L) _ _ := (Fe.keep fun b o w e => g.but b o (Ne.symm (hPown w)) e).keep fun b o w e => sg.extBut b o (hown w) e
    have lg' : Ls Hg z ((rs ++ [l]).map Value.ref).toArray := by
      rw [List.map_append]
      simpa using lg
    refine reads_if (p := i) hu.le Fg (by show (if _ then _ else _) = _; rw [if_neg (by decide)]; exact ez) lg' (by rw [List.size_toArray, List.length_map, List.length_append, hl]; show i + 1 < 9; omega) (by simp [hl]) (rlg _ fun _ _ _ l => l) rfl (by omega) fun Hh Th kh => ?_
    have b5 : Bt P L z Hc Hh := b4.trans (.gr (.of kh))
    have lzh : ListsZ z Hc Hh := b5.lists Fc hPc
    refine ⟨Hh, Th, rfl, ⟨⟨_, _, Fg.keeps kh, by show (if _ then _ else _) = _; rw [if_neg (by decide)]; exact ez, fun x n1 n2 => (if_neg n1).trans (em x n1 n2), fun x n => (if_neg n).trans (ec x n)⟩, step gc b5, let ⟨ps, e, t⟩ := tbg; ⟨ps, kh _ _ e, t⟩, ⟨rs ++ [l], lg'.at fun o => kh _ o, by rw [List.length_append, hl]; rfl, fun k r hk => ?_⟩, ?_, fun items ⟨n, e⟩ => ?_⟩, ?_⟩
    · by_cases hlt : k < rs.length
      · rw [List.getElem?_append_left hlt] at hk
        exact ((hr k r hk).go lc).go lzh
      · rw [List.getElem?_append_right (Nat.le_of_not_lt hlt)] at hk
        obtain ⟨e1, e2⟩ := List.getElem?_eq_some_iff.mp hk
        have hk' : k = i := by have : k - rs.length < 1 := e1; omega
        subst hk'
        have : l = r := by simpa [hl] using hk
        subst this
        exact rlg.go fun _ _ _ l => l.at fun o => kh _ o
    · exact fun a items l => lzh a items (l.new nz) (lAc a items (ls a items l))
    · have : Hh.get? J = _ := b5.but J _ (fun w => hJown w rfl) (Ne.symm hzJ) (Ne.symm hPJ) iJ
      exact absurd (congrArg Obj.data (Option.some.inj (this.symm.trans e))) nofun
    · intro y hy o e
      cases List.mem_singleton.mp hy
      exact b5.but _ o (fun w => hJown w rfl) (Ne.symm hzJ) (Ne.symm hPJ) (b1.but _ o (fun w => hJown w rfl) (Ne.symm hzJ) (Ne.symm hPJ) e |> fun _ => e)
  · rintro Hb Hc Tc ⟨⟨m, cm, F, ez, em, ec⟩, gr, ⟨ps, hP, tp⟩, ⟨rs, lz, hl, hr⟩, ls, nl⟩ kJ
    have Fc := F.keep fun b o w e => kJ b o (hJown w) e
    have lAc : Lists Hb Hc := fun a items l => l.at fun o e => kJ a o (fun e' => nl items (e' ▸ l)) e
    refine nilX (h _ _ ⟨⟨m, cm, Fc, fun x av hx => ?_⟩, stepJ gr kJ, ⟨ps, kJ _ _ hPJ hP, tp⟩, I.new⟩)
    by_cases hxr : x = "readings"
    · subst hxr
      rw [upd, if_pos rfl] at hx
      cases hx
      refine ⟨.ref z, ez, z, rfl, rs, lAc _ _ lz, by rw [hl, List.length_map, List.length_range], fun i r k h1 h2 => ?_⟩
      rw [List.getElem?_map, List.getElem?_range (by have := (List.getElem?_eq_some_iff.mp h1).1; omega)] at h2
      cases h2
      exact hr i r h1 Hc fun a items _ l => lAc a items l
    · rw [upd, if_neg hxr] at hx
      obtain ⟨v, e, ok⟩ := g0 x av hx
      have n1 : x ≠ "patterns" := fun e => by rw [e, hdq] at hx; cases hx
      have n2 : x ≠ "place" := fun e => by rw [e, hdp] at hx; cases hx
      exact ⟨v, by rw [em x n1 hxr, ec x n2]; exact e, (ls.trans lAc).av ok⟩
end
end Mine
end
section
set_option maxRecDepth 100000
set_option Elab.async false
namespace Mine
open PySem PySem.W PySem.Calls PyProof.Rows

/-- a text's rear part -/
def dropS (k : Nat) (x : Str) : Str := ⟨(x.cps.toList.drop k).toArray⟩
theorem slice_drop {x : Str} {k : Nat} (h : k ≤ x.cps.size) : Txt.slice x (some (k : Int)) none = dropS k x := by
  have e := eq_of_beq (slice_closes_fromL (x := x) (i := k) (b := x.length) (by omega) (by show (k : Int) ≤ (x.cps.size : Int); omega) rfl)
  rw [e]
  refine str_ext ?_
  show ((x.cps.toList.drop _).take _) = x.cps.toList.drop k
  rw [Int.toNat_natCast]
  refine List.take_of_length_le ?_
  rw [List.length_drop, Array.length_toList]
  show x.cps.size - k ≤ ((x.cps.size : Int) - (k : Int)).toNat
  omega

section
variable {prog : Program} {w : World} {A : Around} {E : Value → Shared → Prop} {s0 : Shared} {H0 Ha Hb H : Heap} {T : Nat} {mg mb : Str → Option Value} {P L f cA z : Addr} {cd : Value} {d : Str → Option AV} {m cm : Str → Option Value}
/-- behind a turn of an iterator -/
theorem Lw.kpI {J : Addr} (X : TrW prog w mg cA P H0) (I : Lw H0 P L d Ha) (hJ : ∀ b, FrC.own L (cellsOf 22 L) b → b ≠ J) (h0 : H0.get? J = none) (hPJ : P ≠ J) (nl : ∀ items, ¬ Ls Ha J items) (k : KpI J Ha Hb) : Lw H0 P L d Hb := by
  obtain ⟨⟨m, cm, F, hd⟩, gr, ⟨ps, hP, tp⟩, hL⟩ := I
  have kl : Lists Ha Hb := fun a items l => l.at fun o e => k a o (fun e' => nl items (e' ▸ l)) e
  exact ⟨⟨m, cm, F.keep fun b o w e => k b o (hJ b w) e, fun x av h => let ⟨v, e, o⟩ := hd x av h; ⟨v, e, kl.av o⟩⟩, ⟨fun b o n e => k b o (some_ne e h0) (gr.but b o n e), fun ps e => let ⟨m, e'⟩ := gr.tab ps e; ⟨m, k _ _ hPJ e'⟩⟩, ⟨ps, k _ _ hPJ hP, tp⟩, hL⟩
theorem sub_RRL {value slice : Expr} {l : Addr} {rs : List (List (List Str))} {q : Nat} {t : Tok} {x : List (List Str)} {Q : Value → Shared → Prop} (hl : RRL H l rs) (hx : rs[q]? = some x) (hz : rs.length < 99) (h : ∀ r, RL H r x → Q (.ref r) (St s0 H T))
    (hs : subscripted slice false (.ref l) (.int (q : Int) t) = operate [.ref l, .int (q : Int) t] (getItem (.ref l) (.int (q : Int) t)) := by with_unfolding_all rfl) :
    wpAny (model prog w) A (subscriptTail value slice (.ref l) (.int (q : Int) t)) Q E (St s0 H T) := by
  obtain ⟨as, l1, e, g⟩ := hl
  have hq : q < as.length := by rw [e]; exact (List.getElem?_eq_some_iff.mp hx).1
  exact sub_list l1 (Int.natCast_nonneg q) (by omega) (x := .ref as[q]) (by simp [hq]) (h _ (g q _ x (List.getElem?_eq_getElem hq) hx)) hs
theorem deal_step {rows : List Nat} {ts : List Str} {rdss : List (List (List Str))} {rds : List (List Str)} {p : Nat} {p1 p2 p3 p4 p5 p6 p7 p8 p9 : Pos} {rest : List Stmt} {Q : Flow → Shared → Prop} (Wk : Wd mg mb H0) (X : TrW prog w mg cA P H0) (hu : AOk A 1 3) (I : Lw H0 P L d Ha)
    (hr : d "rows" = some (.il (rows.map Int.ofNat))) (ht : d "texts" = some (.sl ts)) (hg : d "readings" = some (.rrl rdss)) (hp : d "place" = some (.i p)) (hrd : rdss[p]? = some rds)
    (hz1 : rows.length ≤ 99) (hrow : ∀ k ∈ rows, k < ts.length) (hz2 : ts.length ≤ 99) (hz3 : rds.length ≤ 99) (hz4 : rdss.length < 99) (hk : ∀ kept ∈ rds, kept.length ≤ 99 ∧ ∀ x ∈ ts, kept.length ≤ x.cps.size ∧ x.cps.size < 2 ^ 20)
    (h : ∀ Hb Tb, Bu P L Ha Hb → Lw H0 P L (upd d "rows" (.il ((deal rows ts rds).map Int.ofNat))) Hb → wpAny (model prog w) A (execs rest (envC 22 L f cd)) Q NoE (St s0 Hb Tb)) :
    wpAny (model prog w) A (execs (.Assign [.Name "rows" p1] (.Call (.Name "_law_deal" p2) [.Name "rows" p3, .Name "texts" p4, .Subscript (.Name "readings" p5) (.Name "place" p6) p7] [] p8) p9 :: rest) (envC 22 L f cd)) Q NoE (St s0 Ha T) := by
  have W := I.wd Wk X
  obtain ⟨f19, _, _, _, e19, ⟨o19, ho19, hd19⟩, _⟩ := W.fn 19 (by decide)
  refine asgX (callN W.g e19 hd19 (it3 (I.ldl hr fun v hv => I.ldk ht fun v2 hv2 => Subscript_ (I.ldl hg fun v3 hv3 => I.ldk hp fun v4 hv4 => ?_))))
  obtain ⟨r, rfl, lr⟩ := hv
  obtain ⟨t, rfl, lt⟩ := hv2
  obtain ⟨g, rfl, lg⟩ := hv3
  obtain ⟨tp, rfl⟩ := hv4
  refine sub_RRL lg hrd hz4 fun g2 lg2 => ⟨ho19, deal_call W e19 hu lr lt lg2 hz1 hrow hz2 hz3 hk fun H1 T1 D k1 nD lD => ?_⟩
  exact (I.keeps X k1).setlB (av := .il _) X ⟨D, rfl, lD⟩ fun Hb Tb b => h Hb Tb fun c o n1 n2 e => b c o n1 n2 (k1 _ _ e)
theorem order_test {ns : List Int} {e : Expr} {body : List Stmt} {p1 p2 p3 p4 p5 : Pos} {Q : Flow → Shared → Prop} (Wk : Wd mg mb H0) (X : TrW prog w mg cA P H0) (hu : AOk A 4 12) (I : Lw H0 P L d Ha) (hr : d "rows" = some (.il ns))
    (he : ∀ t, wpAny (model prog w) A (eval e (envC 22 L f cd)) (fun v s => ∃ Hb Tb D ks, v = .ref D ∧ s = St s0 Hb Tb ∧ Keeps' Ha Hb ∧ SL Hb D ks ∧ ks.length < 2 ^ 9 ∧ ∀ ms, OrderOf ks ms → ms = ns) NoE (St s0 Ha t))
    (h : ∀ Hb Tb, Keeps' Ha Hb → Q .next (St s0 Hb Tb)) (hs : starEach [e] (envC 22 L f cd) = (false, eval e (envC 22 L f cd)) :: starEach [] (envC 22 L f cd) := by rfl) (hb : behindInMarks .NotEq (.Call (.Name "_law_order" p2) [e] [] p3) = false := by rfl) :
    wpAny (model prog w) A (execs [.If (.Compare (.Name "rows" p1) [.NotEq] [.Call (.Name "_law_order" p2) [e] [] p3] p4) body [] p5] (envC 22 L f cd)) Q NoE (St s0 Ha T) := by
  have W := I.wd Wk X
  obtain ⟨f20, _, _, _, e20, ⟨o20, ho20, hd20⟩, _⟩ := W.fn 20 (by decide)
  refine ifX (cmpX (I.ldl hr fun v hv => callN W.g e20 hd20 (it1 (wpAny_mono (he _) (fun v2 s2 q => ?_) fun _ _ e => e) hs) (hs := hs)) hb)
  obtain ⟨r, rfl, lr⟩ := hv
  obtain ⟨Hb, Tb, D, ks, rfl, rfl, kb, lD, hz, ho⟩ := q
  refine ⟨kb _ _ ho20, order_call (W.keeps kb) e20 hu lD hz fun H1 T1 D2 ms k1 nD2 l2 om => ?_⟩
  rw [ho ms om] at l2
  exact neIL (lr.at fun o e => k1 _ o (kb _ o e)) l2 (by have := hu.un; omega) (wpAny_truthy_bool (nilX (nilX (h _ _ (kall kb k1)))))
end
end Mine
end
section
set_option maxRecDepth 100000
set_option Elab.async false
namespace Mine
open PySem PySem.W PySem.Calls PyProof.Rows

theorem readOf_ok {W p : Nat} {ts : List Str} (hp : p < W) (hW : W ≤ 3) (ht : ∀ x ∈ ts, x.cps.size = W) : ∀ kept ∈ readOf p, kept.length ≤ 99 ∧ ∀ x ∈ ts, kept.length ≤ x.cps.size ∧ x.cps.size < 2 ^ 20 := fun kept hk => by
  obtain ⟨i, _, rfl⟩ := List.mem_map.mp hk
  have : (readAt p i).length = p + 1 := by simp [readAt]
  exact ⟨by omega, fun x hx => by rw [this, ht x hx]; omega⟩
theorem range_at {W p : Nat} (hp : p < W) : ((List.range W).map readOf)[p]? = some (readOf p) := by
  rw [List.getElem?_map, List.getElem?_range hp]; rfl

section
variable {prog : Program} {w : World} {A : Around} {E : Value → Shared → Prop} {s0 : Shared} {H0 Ha Hb H : Heap} {T : Nat} {mg mb : Str → Option Value} {P L f cA z : Addr} {cd : Value} {d : Str → Option AV} {m cm : Str → Option Value}
/-- what both loops hold -/
structure LpI (H0 : Heap) (P L J : Addr) (d : Str → Option AV) (rows : List Nat) (Hc : Heap) : Prop where
  lw : ∃ d', Lw H0 P L d' Hc ∧ (∀ x : Str, x ≠ "rows" → x ≠ "place" → d' x = d x) ∧ d' "rows" = some (.il (rows.map Int.ofNat))
  nl : ∀ items, ¬ Ls Hc J items
theorem texts_drop {l : Addr} {hs : List Str} {W k : Nat} {e1 : Expr} {p px : Pos} {scope : Scope} (cl : List (Str × Addr)) {pos sp : Pos} {Q : Value → Shared → Prop} {iter : Expr} {px2 : Pos} {env : Env} (hh : A.handled = none) (hk : k ≤ W) (hW : W < 99)
    (hs1 : ∀ x ∈ hs, x.cps.size = W) (hsz : hs.length < 99) (hclos : closureFor scope env = pure cl)
    (hit : ∀ {Q : Value → Shared → Prop}, (∀ t, Q (.ref l) (St s0 H t)) → wpAny (model prog w) A (eval iter env) Q NoE (St s0 H T)) (hl : SL H l hs)
    (he : ∀ C Hb Tb {Q : Value → Shared → Prop}, Keeps' H Hb → (∀ t t2, Q (.int (k : Nat) t) (St s0 Hb t2)) → wpAny (model prog w) A (eval e1 (compEnvC scope cl C env)) Q NoE (St s0 Hb Tb))
    (h : ∀ Hb Tb D, Keeps' H Hb → SL Hb D (hs.map (dropS k)) → Q (.ref D) (St s0 Hb Tb))
    (hcell : ∀ y ∈ scope.names, y.2 ≠ .cell := by decide) (hkind : scope.kind = .function := by rfl) (hnames : ∀ x ∈ scope.names, x.2 = .local → scope.names.lookup x.1 = some .local := by decide) (hx : scope.names.lookup (Str.ofString "key") = some .local := by rfl)
    (hs0 : ∀ x, foldedSetIterable iter env x = pure x := by intro _; rfl) :
    wpAny (model prog w) A (eval (.ListComp (.Subscript (.Name "key" px) (.Slice (some e1) none none sp) p) [⟨.Name "key" px2, iter, [], 0⟩] scope pos) env) Q NoE (St s0 H T) := by
  obtain ⟨items, li, si, gi⟩ := hl.item
  refine mapP (s0 := s0) cl hclos (hit fun t => listK li hh (by omega) fun J H2 It ok _ => ⟨H, J, H2, _, _, _, _, _, fun i v => ∃ t, v = .str (dropS k (hs.getD i (Str.ofString ""))) t, rfl, rfl, ok, ?_, fun D vs H3 T3 k3 nD hlen hv l3 => ?_⟩) hcell hkind hnames hx hs0
  · intro i v C Hb Tb mm hi hv kb nC nE hE
    have hi' : i < hs.length := si ▸ hi
    obtain ⟨tv, hv'⟩ := gi i hs[i] (List.getElem?_eq_getElem _)
    rw [hv'] at hv; cases hv
    have hW' := hs1 hs[i] (List.getElem_mem _)
    refine sl_sn (s0 := s0) (ldv nE hE (he C Hb Tb kb fun t1 t2 => ⟨hs[i], tv, k, t1, Hb, t2, rfl, rfl, rfl, by rw [sizeLine_eq]; show hs[i].cps.size ≤ _; omega, fun h' t' k' kk => ⟨h', k', rfl, kk, t', ?_⟩⟩) (hk := hkind) (hl := ?_))
    · rw [slice_drop (by omega), List.getD_eq_getElem?_getD, List.getElem?_eq_getElem hi']; rfl
    · exact lookup_relabel_local hx
  · have sl := SL.mk (n := hs.length) (hlen.trans si) hv l3
    rw [map_range (g := dropS k)] at sl
    exact h _ _ _ k3 sl
/-- the first dealing, rear places first -/
theorem law_rows1 {ts hs : List Str} {W n : Nat} {rws : Nat → List Nat} {Q : Flow → Shared → Prop} (Wk : Wd mg mb H0) (X : TrW prog w mg cA P H0) (hu : AOk A 4 12) (I : Lw H0 P L d Ha)
    (dc : d "count" = some (.i n)) (dw : d "width" = some (.i W)) (dt : d "texts" = some (.sl ts)) (dh : d "high" = some (.sl hs)) (dr : d "readings" = some (.rrl ((List.range W).map readOf)))
    (hW : W ≤ 3) (hn : n < 99) (htn : ts.length = n) (hts : ∀ x ∈ ts, x.cps.size = W) (hhn : hs.length = n) (hhs : ∀ x ∈ hs, x.cps.size = W)
    (h0 : rws 0 = List.range n) (hst : ∀ p, p < W → rws (p + 1) = deal (rws p) ts (readOf p)) (hrl : ∀ p, p ≤ W → (rws p).length ≤ 99 ∧ ∀ k ∈ rws p, k < n) (hord : ∀ p, p < W → ∀ ms, OrderOf (hs.map (dropS (W - 1 - p))) ms → ms = (rws (p + 1)).map Int.ofNat)
    (h : ∀ Hb Tb d', Lw H0 P L d' Hb → (∀ x : Str, x ≠ "rows" → x ≠ "place" → d' x = d x) → d' "rows" = some (.il ((rws W).map Int.ofNat)) → Q .next (St s0 Hb Tb)) :
    wpAny (model prog w) A (execs [stAt (bodyOf (stm 22)) 8, stAt (bodyOf (stm 22)) 9] (envC 22 L f cd)) Q NoE (St s0 Ha T) := by
  refine asgX (listRange (s0 := s0) (n := n) (I.wd Wk X) hu.hh (Nat.lt_trans hn (by decide)) (fun h' => I.ldl dc fun v ⟨t, e⟩ => e ▸ h' t _) fun r H1 T1 nr k1 il => (I.keeps X k1).setl (av := .il _) X ⟨r, rfl, il⟩ fun H2 T2 I2 => ?_)
  refine forW (s0 := s0) (rangeIt (n := W) (I2.wd Wk X) hu.hh (Nat.lt_of_le_of_lt hW (by decide)) (fun h' => I2.ldk (av := .i W) dw fun v ⟨t, e⟩ => e ▸ h' t _) fun J H3 T3 k3 nJ lJ wk i0 => ?_)
  obtain ⟨_, _, F2, _⟩ := I2.fr
  obtain ⟨_, hP2, _⟩ := I2.tab
  have hJ : ∀ b, FrC.own L (cellsOf 22 L) b → b ≠ J := fun b w => F2.new w nJ
  have hPJ : P ≠ J := some_ne hP2 nJ
  have h0J : H0.get? J = none := by
    cases e : H0.get? J with
    | none => rfl
    | some o => exact absurd (I2.gr.but J o (Ne.symm hPJ) e) (by rw [nJ]; nofun)
  refine ⟨J, H3, T3, W, _, fun i Hc => LpI H0 P L J d (rws i) Hc, [J], _, rfl, rfl, wk, i0, ⟨⟨_, I2.keeps X k3, fun x n1 _ => if_neg n1, by rw [h0]; rfl⟩, fun items ⟨n, e⟩ => absurd (congrArg Obj.data (Option.some.inj ((show _ = some _ from i0).symm.trans e))) nofun⟩, ?_, ?_⟩
  · rintro i _ Hb Hc Tc hi ⟨t, rfl⟩ ⟨⟨d', I', hd', hr'⟩, nl⟩ kJ iJ
    have Ic := I'.kpI X hJ h0J hPJ nl kJ
    have g : ∀ {x : Str} {v}, x ≠ "rows" → x ≠ "place" → d x = some v → d' x = some v := fun a b e => (hd' _ a b).trans e
    refine Ic.setcB (av := .i i) X ⟨t, rfl⟩ fun Hd Td bd Id => ?_
    refine deal_step Wk X hu.le Id (rows := rws i) (ts := ts) (rdss := (List.range W).map readOf) (rds := readOf i) (p := i) ((if_neg (by decide)).trans hr') ((if_neg (by decide)).trans (g (by decide) (by decide) dt)) ((if_neg (by decide)).trans (g (by decide) (by decide) dr)) rfl (range_at hi)
      (hrl i (Nat.le_of_lt hi)).1 (fun k hk => htn ▸ (hrl i (Nat.le_of_lt hi)).2 k hk) (by rw [htn]; exact Nat.le_of_lt hn) (by simp [readOf]) (by rw [List.length_map, List.length_range]; exact Nat.lt_of_le_of_lt hW (by decide)) (readOf_ok hi hW hts) fun He Te be Ie => ?_
    rw [← hst i hi] at Ie
    refine order_test Wk X hu Ie rfl (fun t2 => ?_) fun Hf Tf kf => ?_
    · have ge : ∀ {x : Str} {v}, x ≠ "rows" → x ≠ "place" → d x = some v → (upd (upd d' "place" (.i i)) "rows" (.il ((rws (i + 1)).map Int.ofNat))) x = some v := fun a b e => (if_neg a).trans ((if_neg b).trans (g a b e))
      obtain ⟨_, ⟨l, rfl, lh⟩, ch⟩ := Ie.cell (x := "high") (ge (by decide) (by decide) dh)
      obtain ⟨_, ⟨tw, rfl⟩, cw⟩ := Ie.cell (x := "width") (ge (by decide) (by decide) dw)
      obtain ⟨_, ⟨tp, rfl⟩, cp⟩ := Ie.cell (x := "place") (av := .i i) rfl
      obtain ⟨q, hq⟩ : ∃ q, W = i + 1 + q := ⟨W - (i + 1), (Nat.add_sub_of_le (show i + 1 ≤ W from hi)).symm⟩
      have eq2 : W - 1 - i = q := by rw [hq, Nat.add_right_comm, Nat.add_sub_cancel, Nat.add_sub_cancel_left]
      have ek : (W : Int) - 1 - (i : Int) = ((W - 1 - i : Nat) : Int) := by rw [eq2, hq]; push_cast; omega
      refine texts_drop (s0 := s0) (hs := hs) (W := W) (k := W - 1 - i) [("width", L + 1), ("place", L + 6)] hu.hh (Nat.le_trans (Nat.sub_le _ _) (Nat.sub_le _ _)) (Nat.lt_of_le_of_lt hW (by decide)) hhs (by rw [hhn]; exact hn) rfl (fun h' => ldc rfl ch (h' _)) lh (fun C Hx Tx _ kx h' => ?_) fun Hx Tx D kx sl => ⟨Hx, Tx, D, _, rfl, rfl, kx, sl, by rw [List.length_map, hhn]; exact Nat.lt_trans hn (by decide), hord i hi⟩
      refine wpAny_BinOp (wpAny_BinOp (ldc rfl (cellAt cw fun o => kx _ o) (cint fun _ _ => isub fun _ _ => ldc rfl (cellAt cp fun o => kx _ o) (isub fun t5 T5 => ?_))))
      rw [ek]; exact h' _ _
    · have hbut : ∀ o, Hc.get? J = some o → Hf.get? J = some o := fun o e => kf _ _ (be _ o (fun w => hJ _ w rfl) (Ne.symm hPJ) (bd _ o (fun w => hJ _ w rfl) (Ne.symm hPJ) e))
      refine ⟨Hf, Tf, rfl, ⟨⟨_, Ie.keeps X kf, fun x n1 n2 => (if_neg n1).trans ((if_neg n2).trans (hd' x n1 n2)), rfl⟩, fun items ⟨n, e⟩ => absurd (congrArg Obj.data (Option.some.inj ((hbut _ iJ).symm.trans e))) nofun⟩, fun y hy o e => ?_⟩
      cases List.mem_singleton.mp hy
      exact hbut o e
  · rintro Hb Hc Tc ⟨⟨d', I', hd', hr'⟩, nl⟩ kJ
    exact nilX (h _ _ d' (I'.kpI X hJ h0J hPJ nl kJ) hd' hr')
/-- the second dealing -/
theorem law_rows2 {ts : List Str} {W n : Nat} {rws : Nat → List Nat} {Q : Flow → Shared → Prop} (Wk : Wd mg mb H0) (X : TrW prog w mg cA P H0) (hu : AOk A 4 12) (I : Lw H0 P L d Ha)
    (dc : d "count" = some (.i n)) (dw : d "width" = some (.i W)) (dt : d "texts" = some (.sl ts)) (dr : d "readings" = some (.rrl ((List.range W).map readOf)))
    (hW : W ≤ 3) (hn : n < 99) (htn : ts.length = n) (hts : ∀ x ∈ ts, x.cps.size = W)
    (h0 : rws 0 = List.range n) (hst : ∀ p, p < W → rws (p + 1) = deal (rws p) ts (readOf (W - 1 - p))) (hrl : ∀ p, p ≤ W → (rws p).length ≤ 99 ∧ ∀ k ∈ rws p, k < n) (hord : ∀ p, p < W → ∀ ms, OrderOf (ts.map (dropS (W - 1 - p))) ms → ms = (rws (p + 1)).map Int.ofNat)
    (h : ∀ Hb Tb d', Lw H0 P L d' Hb → (∀ x : Str, x ≠ "rows" → x ≠ "place" → d' x = d x) → d' "rows" = some (.il ((rws W).map Int.ofNat)) → Q .next (St s0 Hb Tb)) :
    wpAny (model prog w) A (execs [stAt (bodyOf (stm 22)) 12, stAt (bodyOf (stm 22)) 13] (envC 22 L f cd)) Q NoE (St s0 Ha T) := by
  refine asgX (listRange (s0 := s0) (n := n) (I.wd Wk X) hu.hh (Nat.lt_trans hn (by decide)) (fun h' => I.ldl dc fun v ⟨t, e⟩ => e ▸ h' t _) fun r H1 T1 nr k1 il => (I.keeps X k1).setl (av := .il _) X ⟨r, rfl, il⟩ fun H2 T2 I2 => ?_)
  have es : ∀ W : Nat, W < 4 → Builtin.Range.rangeSize ((W : Int) - 1) (-1) (-1) = W ∧ Builtin.Range.small ((W : Int) - 1) (-1) (-1) = true := by decide +kernel
  refine forW (s0 := s0) (rangeIt3 (a := (W : Int) - 1) (b := -1) (c := -1) (n := W) (I2.wd Wk X) hu.hh (by decide) (es W (Nat.lt_succ_of_le hW)).1 (es W (Nat.lt_succ_of_le hW)).2 (PyProof.noPylong_small (by decide)) (fun h' => it3 (wpAny_BinOp (I2.ldk (av := .i W) dw fun v ⟨t, e⟩ => e ▸ cint fun _ _ => isub fun _ _ => wpAny_UnaryOp (cint fun _ _ => PySem.P.neg_int (wpAny_UnaryOp (cint fun _ _ => PySem.P.neg_int (h' _ _ _ _))))))) fun J H3 T3 It k3 nJ lJ lv wk i0 => ?_)
  obtain ⟨_, _, F2, _⟩ := I2.fr
  obtain ⟨_, hP2, _⟩ := I2.tab
  have hJ : ∀ b, FrC.own L (cellsOf 22 L) b → b ≠ J := fun b w => F2.new w nJ
  have hPJ : P ≠ J := some_ne hP2 nJ
  have h0J : H0.get? J = none := by
    cases e : H0.get? J with
    | none => rfl
    | some o => exact absurd (I2.gr.but J o (Ne.symm hPJ) e) (by rw [nJ]; nofun)
  refine ⟨J, H3, T3, W, _, fun i Hc => LpI H0 P L J d (rws i) Hc, [J], _, rfl, rfl, wk, i0, ⟨⟨_, I2.keeps X k3, fun x n1 _ => if_neg n1, by rw [h0]; rfl⟩, fun items ⟨n, e⟩ => let ⟨o, e1, e2⟩ := lv _ _ i0; e2 items n (congrArg Obj.data (Option.some.inj (e1.symm.trans e)))⟩, ?_, ?_⟩
  · rintro i _ Hb Hc Tc hi ⟨t, rfl⟩ ⟨⟨d', I', hd', hr'⟩, nl⟩ kJ iJ
    have Ic := I'.kpI X hJ h0J hPJ nl kJ
    have g : ∀ {x : Str} {v}, x ≠ "rows" → x ≠ "place" → d x = some v → d' x = some v := fun a b e => (hd' _ a b).trans e
    obtain ⟨q, hq⟩ : ∃ q, W = i + 1 + q := ⟨W - (i + 1), (Nat.add_sub_of_le (show i + 1 ≤ W from hi)).symm⟩
    have eq2 : W - 1 - i = q := by rw [hq, Nat.add_right_comm, Nat.add_sub_cancel, Nat.add_sub_cancel_left]
    have ei : (W : Int) - 1 + (i : Nat) * -1 = (q : Int) := by rw [hq]; push_cast; omega
    have hq2 : q < W := by rw [hq, Nat.add_comm]; exact Nat.lt_add_of_pos_right (Nat.succ_pos i)
    refine Ic.setcB (av := .i q) X ⟨t, by rw [ei]⟩ fun Hd Td bd Id => ?_
    refine deal_step Wk X hu.le Id (rows := rws i) (ts := ts) (rdss := (List.range W).map readOf) (rds := readOf q) (p := q) ((if_neg (by decide)).trans hr') ((if_neg (by decide)).trans (g (by decide) (by decide) dt)) ((if_neg (by decide)).trans (g (by decide) (by decide) dr)) rfl (range_at hq2)
      (hrl i (Nat.le_of_lt hi)).1 (fun k hk => htn ▸ (hrl i (Nat.le_of_lt hi)).2 k hk) (by rw [htn]; exact Nat.le_of_lt hn) (by simp [readOf]) (by rw [List.length_map, List.length_range]; exact Nat.lt_of_le_of_lt hW (by decide)) (readOf_ok hq2 hW hts) fun He Te be Ie => ?_
    rw [← eq2, ← hst i hi] at Ie
    refine order_test Wk X hu Ie rfl (fun t2 => ?_) fun Hf Tf kf => ?_
    · have ge : ∀ {x : Str} {v}, x ≠ "rows" → x ≠ "place" → d x = some v → (upd (upd d' "place" (.i (W - 1 - i : Nat))) "rows" (.il ((rws (i + 1)).map Int.ofNat))) x = some v := fun a b e => (if_neg a).trans ((if_neg b).trans (g a b e))
      obtain ⟨_, ⟨l, rfl, lh⟩, ch⟩ := Ie.cell (x := "texts") (ge (by decide) (by decide) dt)
      obtain ⟨_, ⟨tp, rfl⟩, cp⟩ := Ie.cell (x := "place") (av := .i (W - 1 - i : Nat)) rfl
      exact texts_drop (s0 := s0) (hs := ts) (W := W) (k := W - 1 - i) [("place", L + 6)] hu.hh (Nat.le_trans (Nat.sub_le _ _) (Nat.sub_le _ _)) (Nat.lt_of_le_of_lt hW (by decide)) hts (by rw [htn]; exact hn) rfl (fun h' => ldc rfl ch (h' _)) lh (fun C Hx Tx _ kx h' => ldc rfl (cellAt cp fun o => kx _ o) (h' _ _)) fun Hx Tx D kx sl => ⟨Hx, Tx, D, _, rfl, rfl, kx, sl, by rw [List.length_map, htn]; exact Nat.lt_trans hn (by decide), hord i hi⟩
    · have hbut : ∀ o, Hc.get? J = some o → Hf.get? J = some o := fun o e => kf _ _ (be _ o (fun w => hJ _ w rfl) (Ne.symm hPJ) (bd _ o (fun w => hJ _ w rfl) (Ne.symm hPJ) e))
      refine ⟨Hf, Tf, rfl, ⟨⟨_, Ie.keeps X kf, fun x n1 n2 => (if_neg n1).trans ((if_neg n2).trans (hd' x n1 n2)), rfl⟩, fun items ⟨n, e⟩ => let ⟨o, e1, e2⟩ := lv _ _ iJ; e2 items n (congrArg Obj.data (Option.some.inj ((hbut _ e1).symm.trans e)))⟩, fun y hy o e => ?_⟩
      cases List.mem_singleton.mp hy
      exact hbut o e
  · rintro Hb Hc Tc ⟨⟨d', I', hd', hr'⟩, nl⟩ kJ
    exact nilX (h _ _ d' (I'.kpI X hJ h0J hPJ nl kJ) hd' hr')
end
end Mine
end
section
set_option maxRecDepth 100000
set_option Elab.async false
namespace Mine
open PySem PySem.W PySem.Calls PyProof.Rows

abbrev octs (ks : List Str) : List Int := (cps ks).map Int.ofNat
theorem bInts_inj {a b : Array UInt8} (h : KBw.bInts a = KBw.bInts b) : a.toList = b.toList := by
  have : ∀ l r : List UInt8, l.map (fun c => (c.toNat : Int)) = r.map (fun c => (c.toNat : Int)) → l = r := by
    intro l
    induction l with
    | nil => intro r h; cases r with | nil => rfl | cons _ _ => cases h
    | cons x l ih =>
      intro r h
      cases r with
      | nil => cases h
      | cons y r =>
        rw [List.map_cons, List.map_cons] at h
        obtain ⟨h1, h2⟩ := List.cons.inj h
        rw [ih r h2, UInt8.toNat_inj.mp (Int.ofNat.inj h1)]
  exact this _ _ h
section
variable {prog : Program} {w : World} {A : Around} {E : Value → Shared → Prop} {s0 : Shared} {H0 Ha Hb H : Heap} {T : Nat} {mg mb : Str → Option Value} {P L f cA z : Addr} {cd : Value} {d : Str → Option AV} {m cm : Str → Option Value}
theorem law_swapped {ts : List Str} {W n : Nat} {rest : List Stmt} {Q : Flow → Shared → Prop} (Wk : Wd mg mb H0) (X : TrW prog w mg cA P H0) (hu : AOk A 1 3) (I : Lw H0 P L d Ha) (dt : d "texts" = some (.sl ts)) (dw : d "width" = some (.i W)) (hW : W = 2 ∨ W = 3) (hn : (cps ts).length = n * W) (hz : n < 99) (hb : ∀ c ∈ cps ts, c < 256)
    (h : ∀ Hb Tb B, Swapped W (octs ts) B → Lw H0 P L (upd d "swapped" (.bs B)) Hb → wpJ (model prog w) A (execs rest (envC 22 L f cd)) Q NoE (St s0 Hb Tb)) :
    wpJ (model prog w) A (execs (stAt (bodyOf (stm 22)) 4 :: rest) (envC 22 L f cd)) Q NoE (St s0 Ha T) := by
  have Wd1 := I.wd Wk X
  obtain ⟨f16, _, _, _, e16, ⟨o16, ho16, hd16⟩, _⟩ := Wd1.fn 16 (by decide)
  obtain ⟨f21, _, _, _, e21, ⟨o21, ho21, hd21⟩, _⟩ := Wd1.fn 21 (by decide)
  have hz2 : (cps ts).length ≤ 99 * 3 := by rw [hn]; exact Nat.mul_le_mul (by omega) (by omega)
  refine asgJ (callNJ Wd1.g e16 hd16 (it2 (callN Wd1.g e21 hd21 (it1 (I.ldk dt fun v hv => ?_)))))
  obtain ⟨a, rfl, la⟩ := hv
  refine ⟨ho21, octets_call Wd1 e21 hu la (by omega) (joinOk_small (by omega)) hb fun H1 T1 b t k1 eb => (I.keeps X k1).ldk dw fun v hv => ?_⟩
  obtain ⟨tw, rfl⟩ := hv
  refine ⟨k1 _ _ ho16, byteswap_call (Wd1.keeps k1) e16 hu hW (n := n) (by rw [eb, List.length_map, hn]) (by omega) fun H2 T2 b' t' k2 sw => ?_⟩
  rw [eb] at sw
  exact ((I.keeps X k1).keeps X k2).setc (av := .bs _) X ⟨b', t', rfl, rfl⟩ fun Hb Tb J => h _ _ _ sw J
theorem picks {x : Str} {hs : List Str} {rows : List Nat} {c : Addr} {p1 p2 p3 p4 p5 p6 : Pos} {scope : Scope} {Q : Value → Shared → Prop} (X : TrW prog w mg cA P H0) (hh : A.handled = none) (I : Lw H0 P L d Ha) (hd : d x = some (.sl hs)) (hr : d "rows" = some (.il (rows.map Int.ofNat))) (hz : rows.length < 99) (hz2 : hs.length < 99) (hrow : ∀ k ∈ rows, k < hs.length)
    (h : ∀ Hb Tb D, Keeps' Ha Hb → SL Hb D (rows.map fun k => hs.getD k (Str.ofString "")) → Q (.ref D) (St s0 Hb Tb))
    (hc : (cellsOf 22 L).lookup x = some c := by rfl) (hclos : closureFor scope (envC 22 L f cd) = pure [(x, c)] := by rfl) (hf : ∀ C, (compEnvC scope [(x, c)] C (envC 22 L f cd)).kindOf x = some .cell := by intro _; rfl) (hx0 : (x == ("__debug__" : Str)) = false := by decide) (hx1 : List.lookup x [(x, c)] = some c := by rfl) (hk0 : ∀ C, (compEnvC scope [(x, c)] C (envC 22 L f cd)).kindOf "k" = some .local := by intro _; rfl)
    (hcell : ∀ y ∈ scope.names, y.2 ≠ .cell := by decide) (hkind : scope.kind = .function := by rfl) (hnames : ∀ x ∈ scope.names, x.2 = .local → scope.names.lookup x.1 = some .local := by decide) (hx : scope.names.lookup (Str.ofString "k") = some .local := by rfl) :
    wpAny (model prog w) A (eval (.ListComp (.Subscript (.Name x p1) (.Name "k" p2) p3) [⟨.Name "k" p4, .Name "rows" p5, [], 0⟩] scope p6) (envC 22 L f cd)) Q NoE (St s0 Ha T) := by
  obtain ⟨_, ⟨l, rfl, lh⟩, ch⟩ := I.cell hd hc
  refine mapP (s0 := s0) [(x, c)] hclos (I.ldl hr fun v hv => ?_) hcell hkind hnames hx
  obtain ⟨a, rfl, la⟩ := hv
  obtain ⟨items, li, si, gi⟩ := la.item
  rw [List.length_map] at si
  refine listK li hh (by omega) fun J H2 It ok _ => ⟨Ha, J, H2, _, _, _, _, _, fun i v => ∃ t, v = .str (hs.getD (rows.getD i 0) (Str.ofString "")) t, rfl, rfl, ok, ?_, fun D vs H3 T3 k3 nD hlen hv l3 => ?_⟩
  · intro i v C Hb Tb mm hi hv kb nC nE hE
    have hi' : i < rows.length := si ▸ hi
    obtain ⟨tv, hv'⟩ := gi i (Int.ofNat rows[i]) (by rw [List.getElem?_map, List.getElem?_eq_getElem hi']; rfl)
    rw [hv'] at hv; cases hv
    have hlt := hrow _ (List.getElem_mem hi')
    refine Subscript_ (ldc hx1 (cellAt ch fun o => kb _ o) (hk := hkind) (hl := hf C) (hd := hx0) (ldv nE hE (sub_SL (lh.at fun o => kb _ o) (List.getElem?_eq_getElem hlt) (by omega) rfl fun u => ⟨_, _, rfl, fun _ _ e => e, u, ?_⟩) (hk := hkind) (hl := hk0 C)))
    have e1 : rows.getD i 0 = rows[i] := by rw [List.getD_eq_getElem?_getD, List.getElem?_eq_getElem hi']; rfl
    rw [e1, List.getD_eq_getElem?_getD, List.getElem?_eq_getElem hlt]; rfl
  · have sl := SL.mk (n := rows.length) (hlen.trans si) hv l3
    rw [map_range (g := fun k => hs.getD k (Str.ofString ""))] at sl
    exact h _ _ _ k3 sl
theorem law_swap_test {hs ts : List Str} {rows : List Nat} {W n : Nat} {rest : List Stmt} {Q : Flow → Shared → Prop} (Wk : Wd mg mb H0) (X : TrW prog w mg cA P H0) (hu : AOk A 1 3) (I : Lw H0 P L d Ha) (dh : d "high" = some (.sl hs)) (dt : d "texts" = some (.sl ts)) (dr : d "rows" = some (.il (rows.map Int.ofNat))) (dw : d "width" = some (.i W)) (hW : W = 2 ∨ W = 3)
    (hz : rows.length < 99) (hh2 : hs.length < 99) (ht2 : ts.length < 99) (hrh : ∀ k ∈ rows, k < hs.length) (hrt : ∀ k ∈ rows, k < ts.length)
    (h1 : (cps (rows.map fun k => hs.getD k (Str.ofString ""))).length = rows.length * W) (h1' : ∀ c ∈ cps (rows.map fun k => hs.getD k (Str.ofString "")), c < 256) (h2 : (cps (rows.map fun k => ts.getD k (Str.ofString ""))).length ≤ 999) (h2' : ∀ c ∈ cps (rows.map fun k => ts.getD k (Str.ofString "")), c < 256)
    (hsw : ∀ B, Swapped W (octs (rows.map fun k => hs.getD k (Str.ofString ""))) B → B = octs (rows.map fun k => ts.getD k (Str.ofString "")))
    (h : ∀ Hb Tb, Lw H0 P L d Hb → wpJ (model prog w) A (execs rest (envC 22 L f cd)) Q NoE (St s0 Hb Tb)) :
    wpJ (model prog w) A (execs (stAt (bodyOf (stm 22)) 11 :: rest) (envC 22 L f cd)) Q NoE (St s0 Ha T) := by
  have Wd1 := I.wd Wk X
  obtain ⟨f16, _, _, _, e16, ⟨o16, ho16, hd16⟩, _⟩ := Wd1.fn 16 (by decide)
  obtain ⟨f21, _, _, _, e21, ⟨o21, ho21, hd21⟩, _⟩ := Wd1.fn 21 (by decide)
  have hz2 : rows.length * W ≤ 99 * 3 := Nat.mul_le_mul (by omega) (by omega)
  refine ifJ (cmpJ (callNJ Wd1.g e16 hd16 (it2 (callN Wd1.g e21 hd21 (it1 (picks X hu.hh I dh dr hz hh2 hrh fun H1 T1 D k1 lD => ⟨k1 _ _ ho21, ?_⟩))))))
  have W1 := Wd1.keeps k1
  refine octets_call W1 e21 hu lD (by omega) (joinOk_small (by omega)) h1' fun H2 T2 b t k2 eb => ((I.keeps X k1).keeps X k2).ldk dw fun v hv => ?_
  obtain ⟨tw, rfl⟩ := hv
  have I2 := (I.keeps X k1).keeps X k2
  have W2 := W1.keeps k2
  refine ⟨k2 _ _ (k1 _ _ ho16), byteswap_call W2 e16 hu hW (n := rows.length) (by rw [eb, List.length_map, h1]) (by omega) fun H3 T3 b' t' k3 sw => ?_⟩
  rw [eb] at sw
  have I3 := I2.keeps X k3
  have W3 := W2.keeps k3
  refine callN W3.g e21 hd21 (it1 (picks X hu.hh I3 dt dr hz ht2 hrt fun H4 T4 D2 k4 lD2 => ⟨k4 _ _ (k3 _ _ (k2 _ _ (k1 _ _ ho21))), ?_⟩))
  refine octets_call (W3.keeps k4) e21 hu lD2 (by omega) (joinOk_small (by omega)) h2' fun H5 T5 c u k5 ec => ?_
  have e := bInts_inj ((hsw _ sw).trans ec.symm)
  refine ne_bytes (wpAny_truthy_bool ⟨?_, h _ _ ((I3.keeps X k4).keeps X k5)⟩)
  rw [e, bne_self_eq_false]
end
end Mine
end
section
set_option maxRecDepth 100000
set_option Elab.async false
namespace Mine
open PySem PySem.W PyProof.Rows

/-- a sorting tree, run by an order of places -/
def RunT {α : Type} (n : Nat) (lt : Nat → Nat → Bool) : KasT α → (α → Prop) → Prop
  | .ret a, Q => Q a
  | .ask i j k, Q => i < n ∧ j < n ∧ RunT n lt (k (lt i j)) Q
theorem RunT.bind {α β : Type} {n : Nat} {lt : Nat → Nat → Bool} {f : α → KasT β} {Q : β → Prop} : ∀ {t : KasT α}, RunT n lt t (fun a => RunT n lt (f a) Q) → RunT n lt (t.bind f) Q
  | .ret _, h => h
  | .ask _ _ _, h => ⟨h.1, h.2.1, RunT.bind h.2.2⟩
theorem RunT.mono {α : Type} {n : Nat} {lt : Nat → Nat → Bool} {Q Q' : α → Prop} (hq : ∀ a, Q a → Q' a) : ∀ {t : KasT α}, RunT n lt t Q → RunT n lt t Q'
  | .ret _, h => hq _ h
  | .ask _ _ _, h => ⟨h.1, h.2.1, RunT.mono hq h.2.2⟩
theorem RunT.wp {α : Type} {n : Nat} {lt : Nat → Nat → Bool} {cmp : Nat → Nat → (Bool → Shared → Prop) → Shared → Prop} {s : Shared} {Q : α → Prop} {G : α → Shared → Prop} (hc : ∀ i j C, i < n → j < n → C (lt i j) s → cmp i j C s) (hG : ∀ a, Q a → G a s) : ∀ {t : KasT α}, RunT n lt t Q → t.kasWp cmp G s
  | .ret _, h => hG _ h
  | .ask _ _ _, h => hc _ _ _ h.1 h.2.1 (RunT.wp hc hG h.2.2)

theorem RunT.yes {α : Type} {n i j : Nat} {lt : Nat → Nat → Bool} {T₁ T₂ : KasT α} {Q : α → Prop} (hi : i < n) (hj : j < n) (hb : lt i j = true) (h : RunT n lt T₁ Q) : RunT n lt (.ask i j fun c => if c = true then T₁ else T₂) Q :=
  ⟨hi, hj, by rw [hb]; exact h⟩
theorem RunT.no {α : Type} {n i j : Nat} {lt : Nat → Nat → Bool} {T₁ T₂ : KasT α} {Q : α → Prop} (hi : i < n) (hj : j < n) (hb : lt i j = false) (h : RunT n lt T₂ Q) : RunT n lt (.ask i j fun c => if c = true then T₁ else T₂) Q :=
  ⟨hi, hj, by rw [hb]; exact h⟩

section
variable {n : Nat} {r : Nat → Nat}
abbrev ltR (r : Nat → Nat) (i j : Nat) : Bool := decide (r i < r j)
abbrev ky (r : Nat → Nat) (p : Array Nat) (k : Nat) : Nat := r (p.getD k 0)
structure PmOk (n : Nat) (r : Nat → Nat) (p : Array Nat) : Prop where
  sz : p.size = n
  lt : ∀ k, k < n → p.getD k 0 < n
  inj : ∀ i j, i < n → j < n → ky r p i = ky r p j → i = j
  perm : p.toList.Perm (List.range n)
def Asc (r : Nat → Nat) (p : Array Nat) (b : Nat) : Prop := ∀ i j, i < j → j < b → ky r p i < ky r p j
theorem asc_of {p : Array Nat} {b : Nat} (h : ∀ k, k + 1 < b → ky r p k < ky r p (k + 1)) : Asc r p b := fun i j hij hj => by
  induction j with
  | zero => omega
  | succ j ih =>
    by_cases e : i = j
    · subst e; exact h i hj
    · exact Nat.lt_trans (ih (by omega) (by omega)) (h j hj)
theorem pm_of {p q : Array Nat} (h : PmOk n r p) (hp : q.toList.Perm p.toList) : PmOk n r q := by
  have sz : q.size = n := by rw [← Array.length_toList, hp.length_eq, Array.length_toList, h.sz]
  have pm := hp.trans h.perm
  have nd : q.toList.Nodup := pm.nodup_iff.mpr List.nodup_range
  have g : ∀ k, k < n → ∃ e : k < q.toList.length, q.getD k 0 = q.toList[k] := fun k hk => ⟨by rw [Array.length_toList, sz]; exact hk, by simp [Array.getD, sz, hk]⟩
  have lt : ∀ k, k < n → q.getD k 0 < n := fun k hk => by
    obtain ⟨e, e2⟩ := g k hk
    rw [e2]
    exact List.mem_range.mp (pm.mem_iff.mp (List.getElem_mem _))
  refine ⟨sz, lt, fun i j hi hj e => ?_, pm⟩
  -- keys are told apart as p tells them apart
  have at_p : ∀ x, x < n → ∃ k, k < n ∧ p.getD k 0 = x := fun x hx => by
    have : x ∈ p.toList := h.perm.mem_iff.mpr (List.mem_range.mpr hx)
    obtain ⟨k, hk, e⟩ := List.getElem_of_mem this
    have hk' : k < n := by rw [Array.length_toList, h.sz] at hk; exact hk
    exact ⟨k, hk', by simp [Array.getD, h.sz, hk']; simpa using e⟩
  obtain ⟨a, ha, ea⟩ := at_p _ (lt i hi)
  obtain ⟨b, hb, eb⟩ := at_p _ (lt j hj)
  have : a = b := h.inj a b ha hb (by unfold ky; rw [ea, eb]; exact e)
  subst this
  obtain ⟨e1, f1⟩ := g i hi
  obtain ⟨e2, f2⟩ := g j hj
  have ne := List.pairwise_iff_getElem.mp nd
  have same : q.toList[i] = q.toList[j] := by rw [← f1, ← f2, ← ea, ← eb]
  rcases Nat.lt_trichotomy i j with h | h | h
  · exact absurd same (ne i j e1 e2 h)
  · exact h
  · exact absurd same.symm (ne j i e2 e1 h)
theorem asc_run {p : Array Nat} (ok : PmOk n r p) : ∀ f m, 1 ≤ m → m + f ≤ n → RunT n (ltR r) (kas_asc p f m) fun m' => m ≤ m' ∧ m' ≤ m + f ∧ (∀ k, m ≤ k → k < m' → ky r p (k - 1) < ky r p k) ∧ (m' < m + f → ky r p m' < ky r p (m' - 1))
  | 0, m, _, _ => ⟨Nat.le_refl _, Nat.le_refl _, fun k h1 h2 => by omega, fun h => by omega⟩
  | f + 1, m, h1, h2 => by
    by_cases c : ky r p m < ky r p (m - 1)
    · refine .yes (ok.lt _ (by omega)) (ok.lt _ (by omega)) (decide_eq_true c) ?_
      exact ⟨Nat.le_refl _, by omega, fun k h1 h2 => by omega, fun _ => c⟩
    · refine .no (ok.lt _ (by omega)) (ok.lt _ (by omega)) (decide_eq_false c) ?_
      refine (asc_run ok f (m + 1) (by omega) (by omega)).mono fun m' ⟨a1, a2, a3, a4⟩ => ⟨by omega, by omega, fun k k1 k2 => ?_, fun h => a4 (by omega)⟩
      by_cases e : k = m
      · subst e
        have : ky r p (k - 1) ≠ ky r p k := fun e => by have := ok.inj _ _ (by omega) (by omega) e; omega
        omega
      · exact a3 k (by omega) k2
theorem desc_run {p : Array Nat} (ok : PmOk n r p) : ∀ f m, 1 ≤ m → m + f ≤ n → RunT n (ltR r) (kas_desc f p m 0) fun x => x.1 = p ∧ x.2.2 = 0 ∧ m ≤ x.2.1 ∧ x.2.1 ≤ n ∧ ∀ k, m ≤ k → k < x.2.1 → ky r p k < ky r p (k - 1)
  | 0, m, _, _ => ⟨rfl, rfl, Nat.le_refl _, by omega, fun k h1 h2 => by dsimp only at h2; omega⟩
  | f + 1, m, h1, h2 => by
    by_cases c : ky r p m < ky r p (m - 1)
    · refine .yes (ok.lt _ (by omega)) (ok.lt _ (by omega)) (decide_eq_true c) ?_
      rw [if_neg (by decide)]
      refine (desc_run ok f (m + 1) (by omega) (by omega)).mono fun x ⟨a1, a2, a3, a4, a5⟩ => ⟨a1, a2, by omega, a4, fun k k1 k2 => ?_⟩
      by_cases e : k = m
      · subst e; exact c
      · exact a5 k (by omega) k2
    · refine .no (ok.lt _ (by omega)) (ok.lt _ (by omega)) (decide_eq_false c) ?_
      have ne : ky r p (m - 1) ≠ ky r p m := fun e => by have := ok.inj _ _ (by omega) (by omega) e; omega
      refine .yes (ok.lt _ (by omega)) (ok.lt _ (by omega)) (decide_eq_true (show ky r p (m - 1) < ky r p m by omega)) ?_
      exact ⟨rfl, rfl, Nat.le_refl _, by show m ≤ n; omega, fun k h1 h2 => by dsimp only at h2; omega⟩
theorem rev_at {p : Array Nat} {m k : Nat} (hm : m ≤ p.size) (hk : k < p.size) : (kas_rev p 0 m).getD k 0 = p.getD (if k < m then m - 1 - k else k) 0 := by
  have e := getElem?_mirror_all (xs := p) (i := 0) (j := m) hm k
  rw [Array.getD_eq_getD_getElem?, Array.getD_eq_getD_getElem?]
  unfold kas_rev
  rw [e]
  by_cases h : k < m
  · rw [if_pos ⟨Nat.zero_le _, h⟩, if_pos h, Nat.zero_add]
  · rw [if_neg (fun c => h c.2), if_neg h]
theorem rev_ok {p : Array Nat} (ok : PmOk n r p) (m : Nat) : PmOk n r (kas_rev p 0 m) := pm_of ok (mirror_perm _ _ _ _).toList
/-- a run counted: the front is sorted -/
theorem count_run {p : Array Nat} (ok : PmOk n r p) (hn : 1 ≤ n) : RunT n (ltR r) (kas_count n p) fun x => PmOk n r x.2 ∧ 1 ≤ x.1 ∧ x.1 ≤ n ∧ Asc r x.2 x.1 := by
  refine RunT.bind ((asc_run ok (n - 1) 1 (Nat.le_refl _) (by omega)).mono fun m ⟨a1, a2, a3, a4⟩ => ?_)
  have up : Asc r p m := asc_of fun k hk => by have := a3 (k + 1) (by omega) hk; exact this
  by_cases e : m = n
  · rw [if_pos (by simpa using e)]
    exact ⟨ok, by dsimp only; omega, by dsimp only; omega, up⟩
  rw [if_neg (by simpa using e)]
  by_cases h1 : m > 1
  · rw [if_pos h1]
    refine .yes (ok.lt _ (by omega)) (ok.lt _ (by omega)) (decide_eq_true (up 0 (m - 1) (by omega) (by omega))) ?_
    exact ⟨ok, by dsimp only; omega, by dsimp only; omega, up⟩
  rw [if_neg h1]
  have hm : m = 1 := by omega
  subst hm
  have d1 : ky r p 1 < ky r p 0 := a4 (by omega)
  refine RunT.bind ((desc_run ok (n - 2) 2 (by omega) (by omega)).mono fun x ⟨b1, b2, b3, b4, b5⟩ => ?_)
  obtain ⟨p', m', q'⟩ := x
  dsimp only at b1 b2 b3 b4 b5 ⊢
  subst b1 b2
  rw [if_neg (by decide)]
  have okr := rev_ok ok m'
  refine RunT.bind ((asc_run okr (n - m') m' (by omega) (by omega)).mono fun m2 ⟨c1, c2, c3, c4⟩ => ?_)
  refine ⟨okr, by dsimp only; omega, by dsimp only; omega, asc_of fun k hk => ?_⟩
  by_cases hk2 : k + 1 < m'
  · unfold ky
    have hsz := ok.sz
    rw [rev_at (by omega) (by omega), rev_at (by omega) (by omega), if_pos (by omega), if_pos hk2]
    by_cases e2 : m' - 1 - k = 1
    · rw [e2, show m' - 1 - (k + 1) = 0 by omega]; exact d1
    · have := b5 (m' - 1 - k) (by omega) (by omega)
      rw [show m' - 1 - (k + 1) = m' - 1 - k - 1 by omega]
      exact this
  · have := c3 (k + 1) (by omega) hk
    exact this
theorem place_run {p : Array Nat} (ok : PmOk n r p) {k : Nat} (hk : k < n) (up : Asc r p k) : ∀ f l q, l ≤ q → q ≤ k → q - l ≤ f → (∀ j, j < l → ky r p j < ky r p k) → (∀ j, q ≤ j → j < k → ky r p k < ky r p j) →
    RunT n (ltR r) (kas_place p k f l q) fun l' => l' ≤ k ∧ (∀ j, j < l' → ky r p j < ky r p k) ∧ ∀ j, l' ≤ j → j < k → ky r p k < ky r p j
  | 0, l, q, h1, h2, h3, h4, h5 => ⟨by omega, h4, fun j a b => h5 j (by omega) b⟩
  | f + 1, l, q, h1, h2, h3, h4, h5 => by
    unfold kas_place
    by_cases e : l ≥ q
    · rw [if_pos e]
      exact ⟨by omega, h4, fun j a b => h5 j (by omega) b⟩
    rw [if_neg e]
    by_cases c : ky r p k < ky r p ((l + q) / 2)
    · refine .yes (ok.lt _ hk) (ok.lt _ (by omega)) (decide_eq_true c) ?_
      refine place_run ok hk up f l _ (by omega) (by omega) (by omega) h4 fun j a b => ?_
      by_cases e2 : j = (l + q) / 2
      · subst e2; exact c
      · exact Nat.lt_trans c (up _ j (by omega) b)
    · refine .no (ok.lt _ hk) (ok.lt _ (by omega)) (decide_eq_false c) ?_
      have ne : ky r p ((l + q) / 2) ≠ ky r p k := fun e => by have := ok.inj _ _ (by omega) (by omega) e; omega
      refine place_run ok hk up f _ q (by omega) (by omega) (by omega) (fun j a => ?_) h5
      by_cases e2 : j = (l + q) / 2
      · subst e2; omega
      · have := up j ((l + q) / 2) (by omega) (by omega)
        omega
theorem bubble_at {p : Array Nat} {k l i : Nat} (hk : k < p.size) (hl : l ≤ k) : (bubble p k (k - l)).getD i 0 = p.getD (if i = l then k else if l < i ∧ i ≤ k then i - 1 else i) 0 := by
  have e := getElem?_bubble (xs := p) hk (k - l) (by omega) i
  rw [show k - (k - l) = l by omega] at e
  rw [Array.getD_eq_getD_getElem?, Array.getD_eq_getD_getElem?, e]
  split
  · rfl
  · split <;> rfl
theorem bin_run : ∀ f (p : Array Nat) k, PmOk n r p → k + f = n → Asc r p k → RunT n (ltR r) (kas_bin f p k) fun p' => PmOk n r p' ∧ Asc r p' n
  | 0, p, k, ok, h, up => ⟨ok, by rw [← h]; exact up⟩
  | f + 1, p, k, ok, h, up => by
    refine RunT.bind ((place_run ok (by omega) up k 0 k (by omega) (by omega) (by omega) (fun j hj => by omega) fun j a b => by omega).mono fun l ⟨a1, a2, a3⟩ => ?_)
    refine bin_run f _ (k + 1) (pm_of ok (bubble_perm _ _ _).toList) (by omega) fun i j hij hj => ?_
    have hsz := ok.sz
    unfold ky
    rw [bubble_at (by omega) a1, bubble_at (by omega) a1]
    by_cases ei : i = l
    · subst ei
      rw [if_pos rfl, if_neg (by omega), if_pos ⟨hij, by omega⟩]
      exact a3 _ (by omega) (by omega)
    · rw [if_neg ei]
      by_cases ej : j = l
      · subst ej
        rw [if_neg (by omega), if_pos rfl]
        exact a2 i hij
      · rw [if_neg ej]
        split <;> split <;> exact up _ _ (by omega) (by omega)
theorem sort_run (hn : 1 ≤ n) (hr : ∀ i j, i < n → j < n → r i = r j → i = j) : RunT n (ltR r) (kas_sort n) fun p => PmOk n r p ∧ Asc r p n := by
  have g : ∀ k, k < n → (List.toArray (List.range n)).getD k 0 = k := fun k hk => by simp [Array.getD, hk]
  have ok : PmOk n r (List.toArray (List.range n)) := ⟨by simp, fun k hk => by rw [g k hk]; exact hk, fun i j hi hj e => hr i j hi hj (by unfold ky at e; rwa [g i hi, g j hj] at e), List.Perm.refl _⟩
  refine RunT.bind ((count_run ok hn).mono fun x ⟨b1, b2, b3, b4⟩ => ?_)
  have hm : max x.1 1 = x.1 := by omega
  by_cases h : x.1 < n
  · rw [if_pos h, hm]
    exact bin_run _ _ _ b1 (by omega) b4
  · rw [if_neg h]
    exact ⟨b1, by rw [show n = x.1 by omega]; exact b4⟩
end
end Mine
end
section
set_option maxRecDepth 100000
set_option Elab.async false
namespace Mine
open PySem PySem.W PySem.Calls PyProof.Rows

/-- all objects but one -/
def allOf (H : Heap) (L : Addr) : List (Addr × Obj) := (List.range H.objs.size).filterMap fun a => if a = L then none else (H.get? a).map fun o => (a, o)
theorem mem_allOf {H : Heap} {L a : Addr} {o : Obj} : (a, o) ∈ allOf H L ↔ a ≠ L ∧ H.get? a = some o := by
  unfold allOf
  rw [List.mem_filterMap]
  constructor
  · rintro ⟨b, _, h⟩
    split at h
    · cases h
    · rename_i n
      obtain ⟨o', e, e2⟩ := Option.map_eq_some_iff.mp h
      cases e2
      exact ⟨n, e⟩
  · rintro ⟨n, e⟩
    exact ⟨a, List.mem_range.mpr (Heap.lt_size e), by rw [if_neg n, e]; rfl⟩
theorem news_all {h₀ H : Heap} {L : Addr} (e : ∀ a, h₀.get? a = none) : News h₀ L H (allOf H L) := fun p hp => ⟨(mem_allOf.mp hp).2, (mem_allOf.mp hp).1, e _⟩
def rkOf (a : Nat → Int) (i : Nat) : Nat := (a i).toNat * 64 + i

section
variable {prog : Program} {w : World} {A : Around} {E : Value → Shared → Prop} {s0 : Shared} {H0 Ha Hb H h₀ : Heap} {T : Nat} {mg mb : Str → Option Value} {P L f cA z : Addr} {cd : Value} {d : Str → Option AV} {m cm : Str → Option Value}
theorem pair_lt {x y : Addr} {a b : Int} {i j n : Nat} {t u t' u' : Tok} {k k' : Nat} {o o' : Obj} {C : Bool → Shared → Prop} {s : Shared} (hx : s.heap.get? x = some o) (dx : o.data = .seq #[.int a t, .int (i : Nat) u] k) (hy : s.heap.get? y = some o') (dy : o'.data = .seq #[.int b t', .int (j : Nat) u'] k')
    (hi : i < 64) (hj : j < 64) (ha : 0 ≤ a) (hb : 0 ≤ b) (h : C (decide (a.toNat * 64 + i < b.toNat * 64 + j)) s) : wpAny (model prog w) A (keyLt' (tuples' true) (.ref x) (.ref y)) C E s := by
  refine kat_lt hx dx hy dy (kat_cons (wpAny_eqBool_int ?_))
  by_cases e : a = b
  · subst e
    rw [beq_self_eq_true]
    refine kat_yes (kat_cons (wpAny_eqBool_int ?_))
    by_cases e2 : i = j
    · subst e2
      rw [beq_self_eq_true]
      refine kat_yes (kat_nil ?_)
      rw [decide_eq_false (Nat.lt_irrefl _)] at h
      exact h
    · rw [show (((i : Nat) : Int) == (j : Nat)) = false by simpa using fun c => e2 (by omega)]
      refine kat_no (kat_one _ _ (PySem.P.lt_int ?_))
      show C _ s
      rw [show decide (((i : Nat) : Int) < (j : Nat)) = decide (a.toNat * 64 + i < a.toNat * 64 + j) from decide_eq_decide.mpr (by omega)]
      exact h
  · rw [show (a == b) = false by simpa using e]
    refine kat_no (oneLt_int ?_)
    rw [show decide (a < b) = decide (a.toNat * 64 + i < b.toNat * 64 + j) from decide_eq_decide.mpr (by omega)]
    exact h
theorem sorted_pairs {l : Addr} {vs : List Value} {a : Nat → Int} {n : Nat} {Q : Value → Shared → Prop} (e0 : ∀ a, h₀.get? a = none) (e1 : h₀.objs.size = 0) (hn : H.Ns L m) (hl : Ls H l vs.toArray) (hlen : vs.length = n)
    (hv : ∀ (i : Nat) v, vs[i]? = some v → ∃ r o k t u, v = .ref r ∧ H.get? r = some o ∧ o.cls = .type "tuple" ∧ o.data = .seq #[.int (a i) t, .int (i : Nat) u] k) (ha : ∀ i, i < n → 0 ≤ a i) (h2 : 2 ≤ n) (h64 : n < 64)
    (h : ∀ D hb p e, Fr h₀ L hb m → News h₀ L hb ((D, listOf (p.toList.map fun i => vs.getD i Value.none).toArray e) :: allOf H L) → PmOk n (rkOf a) p → Asc (rkOf a) p n → Q (.ref D) (St s0 hb T)) :
    wpAny (model prog w) A (call (.builtin "sorted") [.ref l]) Q E (St s0 H T) := by
  have Fr0 : Fr h₀ L (St s0 H T).heap m := ⟨hn, fun b o e => absurd ((e0 b).symm.trans e) nofun, by rw [e1]; exact Nat.zero_le _⟩
  refine kat_sorted (s := St s0 H T) Fr0 (news_all e0) hl.isList (by omega) (by omega) fun D e1 h' F' N' hlt => ?_
  have hold : ∀ b o, b ≠ L → H.get? b = some o → h'.get? b = some o := fun b o nb e => (N' (b, o) (List.mem_cons_of_mem _ (mem_allOf.mpr ⟨nb, e⟩))).1
  have tup : ∀ i, i < n → ∃ r o k t u, vs.getD i Value.none = .ref r ∧ h'.get? r = some o ∧ o.cls = .type "tuple" ∧ o.data = .seq #[.int (a i) t, .int (i : Nat) u] k := fun i hi => by
    obtain ⟨r, o, k, t, u, e1, e2, e3, e4⟩ := hv i _ (List.getElem?_eq_getElem (hlen ▸ hi))
    refine ⟨r, o, k, t, u, by rw [List.getD_eq_getElem?_getD, List.getElem?_eq_getElem (hlen ▸ hi)]; exact e1, hold _ _ ?_ e2, e3, e4⟩
    rintro rfl
    obtain ⟨o', _, _, e5, e6, _⟩ := hn
    rw [e2] at e5; cases e5
    rw [e4] at e6; cases e6
  have kt : ∀ ws : List Value, (∀ v ∈ ws, ∃ i, i < n ∧ v = vs.getD i Value.none) → ∃ fs, KatTups h' ws fs ∧ fs.length = ws.length ∧ ∀ v ∈ fs, ∃ k t, v = Value.int k t := by
    intro ws
    induction ws with
    | nil => intro _; exact ⟨[], trivial, rfl, nofun⟩
    | cons v ws ih =>
      intro hw
      obtain ⟨fs, q1, q2, q3⟩ := ih fun v hv => hw v (List.mem_cons_of_mem _ hv)
      obtain ⟨i, hi, rfl⟩ := hw v (List.mem_cons_self ..)
      obtain ⟨r, o, k, t, u, e1, e2, e3, e4⟩ := tup i hi
      refine ⟨.int (a i) t :: fs, ?_, by rw [List.length_cons, q2, List.length_cons], fun v hv => ?_⟩
      · rw [e1]; exact KatTups.cons e2 e3 e4 rfl q1
      · rcases List.mem_cons.mp hv with rfl | hv
        · exact ⟨_, _, rfl⟩
        · exact q3 v hv
  obtain ⟨fs, k1, k2, k3⟩ := kt vs fun v hv => by
    obtain ⟨i, hi, e⟩ := List.getElem_of_mem hv
    exact ⟨i, hlen ▸ hi, by rw [List.getD_eq_getElem?_getD, List.getElem?_eq_getElem hi]; exact e.symm⟩
  refine kat_kind (T := .type "int") k1 (by omega) (fun v hv => by obtain ⟨k, t, rfl⟩ := k3 v hv; exact Looks.of_pure rfl) rfl ?_
  rw [hlen]
  refine RunT.wp (fun i j C hi hj hC => ?_) (fun p hp => ?_) (sort_run (n := n) (r := rkOf a) (by omega) fun i j hi hj e => by unfold rkOf at e; omega)
  · obtain ⟨r, o, k, t, u, x1, x2, x3, x4⟩ := tup i hi
    obtain ⟨r', o', k', t', u', y1, y2, y3, y4⟩ := tup j hj
    unfold kas_ask
    rw [x1, y1]
    exact pair_lt (s := { St s0 H T with heap := h' }) (n := n) x2 x4 y2 y4 (by omega) (by omega) (ha i hi) (ha j hj) hC
  · refine KasFin.intro F' N' (.head fun p hp => ?_) fun hb c F2 N2 => h D hb p c F2 N2 hp.1 hp.2
    exact Nat.ne_of_lt (hlt p hp)
end
end Mine
end
section
set_option maxRecDepth 100000
set_option Elab.async false
namespace Mine
open PySem PySem.W PySem.Calls PyProof.Rows PyProof.Rows.LCg

theorem noHeap : ∃ h : Heap, (∀ a, h.get? a = none) ∧ h.objs.size = 0 := ⟨{}, fun a => none_of_le (Nat.zero_le _), rfl⟩
section
variable {prog : Program} {w : World} {A : Around} {E : Value → Shared → Prop} {s0 : Shared} {H0 Ha Hb H h₀ : Heap} {T : Nat} {mg mb : Str → Option Value} {P L f cA z : Addr} {cd : Value} {d : Str → Option AV} {m cm : Str → Option Value}
/-- the keys of sorted pairs -/
theorem pairs_rest {elt : Expr} {scope : Scope} {cl : List (Str × Addr)} {env : Env} {s : Shared} {D : Addr} {o : Obj} {n : Nat} {its : Array Value} {q : Nat → Nat} {Q : Value → Shared → Prop} {news : List (Addr × Obj)} (hp : Pos) (helt : elt = .Name "k" hp)
    (hD : (D, o) ∈ news) (hc : o.cls = .type "list") (hd : ∃ k, o.data = .seq its k) (hkind : scope.kind = .function) (hk : ∀ C, (compEnvC scope cl C env).kindOf "k" = some .local)
    (hi : ∀ i v, i < n → its[i]? = some v → ∃ r ot v₁ t k, v = .ref r ∧ (r, ot) ∈ news ∧ ot.cls = .type "tuple" ∧ ot.data = .seq #[v₁, .int (q i : Nat) t] k)
    (h : ∀ ys : List Value, ys.length = n → (∀ (i : Nat) v, ys[i]? = some v → ∃ t, v = .int (q i : Nat) t) → FinE h₀ L m s Q ys news) :
    ∀ (k i : Nat) (ys : List Value), i + k = n → ys.length = i → (∀ (i : Nat) v, ys[i]? = some v → ∃ t, v = .int (q i : Nat) t) → LCp.CompRestP prog w A h₀ L m env elt "x" "k" scope cl s (SrcAt h₀ D its) (fun i v => its[i]? = some v) (FinE h₀ L m s Q) k i ys news
  | 0, i, ys, e, hl, hy => .zero (h ys (by omega) hy)
  | k + 1, i, ys, e, hl, hy => .succ fun v hv => by
    obtain ⟨r, ot, v₁, t, kk, rfl, hm, hct, hdt⟩ := hi i v (by omega) hv
    refine ⟨r, ot, v₁, _, kk, rfl, hm, hct, hdt, fun I oI C oC D' m₂ hh tk E' hC hx hx₂ F N off ne => ?_⟩
    subst helt
    refine ldv (s0 := { s with heap := hh, toks := tk }) (H := hh) (T := tk) (hC.ns (N (C, oC) (by simp)).1) hx₂ ?_ (hk := hkind) (hl := hk C)
    refine ⟨hh, tk, news, rfl, F, N, off, .inr ⟨o, hD, hc, hd⟩, ?_⟩
    refine pairs_rest hp rfl hD hc hd hkind hk hi h k (i + 1) _ (by omega) (by rw [List.length_append, hl]; rfl) fun j v hj => ?_
    by_cases hlt : j < ys.length
    · rw [List.getElem?_append_left hlt] at hj
      exact hy j v hj
    · rw [List.getElem?_append_right (Nat.le_of_not_lt hlt)] at hj
      obtain ⟨e1, e2⟩ := List.getElem?_eq_some_iff.mp hj
      have hj' : j = i := by have : j - ys.length < 1 := e1; omega
      subst hj'
      have : j - ys.length = 0 := by omega
      rw [this] at hj
      exact ⟨t, (Option.some.inj hj).symm⟩
theorem Lw.but (X : TrW prog w mg cA P H0) (F : FrC Ha L (cellsOf 22 L) m cm) (hd : ∀ x av, d x = some av → ∃ v, (if ((cellsOf 22 L).lookup x).isSome then cm x else m x) = some v ∧ av.ok Ha v) (gr : Gr P H0 Ha) (tab : ∃ ps, Ha.get? P = some (tabObj ps) ∧ TriplesOk ps.toList) (hL : H0.objs.size ≤ L)
    (k : ∀ b o, b ≠ L → Ha.get? b = some o → Hb.get? b = some o) (ns : Hb.Ns L m) : Lw H0 P L d Hb := by
  obtain ⟨ps, hP, tp⟩ := tab
  have hPL : P ≠ L := fun e => Nat.lt_irrefl _ (Nat.lt_of_lt_of_le (Lw.P_old X) (e ▸ hL))
  have kl : Lists Ha Hb := fun a items l => l.at fun o e => k a o (Ne.symm (F.ne_ls (.inl rfl) l)) e
  refine ⟨⟨m, cm, ⟨ns, fun n c hc => ?_, F.apart, F.above⟩, fun x av h => let ⟨v, e, o⟩ := hd x av h; ⟨v, e, kl.av o⟩⟩, ⟨fun b o n e => k b o (fun e' => ?_) (gr.but b o n e), fun ps e => let ⟨m, e'⟩ := gr.tab ps e; ⟨m, k _ _ hPL e'⟩⟩, ⟨ps, k _ _ hPL hP, tp⟩, hL⟩
  · obtain ⟨o, e, c⟩ := F.cell n _ hc
    exact ⟨o, k _ _ (Ne.symm (Nat.ne_of_lt (F.above n _ (mem_look hc)))) e, c⟩
  · exact Nat.lt_irrefl _ (Nat.lt_of_lt_of_le (Heap.lt_size e) (e' ▸ hL))
theorem law_sort_test {nums : List Int} {rows : List Nat} {n : Nat} {Q : Flow → Shared → Prop} (Wk : Wd mg mb H0) (X : TrW prog w mg cA P H0) (hu : AOk A 0 2) (I : Lw H0 P L d Ha) (dn : d "numbers" = some (.il nums)) (dc : d "count" = some (.i n)) (dr : d "rows" = some (.il (rows.map Int.ofNat))) (hn : nums.length = n) (h2 : 2 ≤ n) (h64 : n < 64) (h0 : ∀ x ∈ nums, 0 ≤ x)
    (hp : ∀ p, PmOk n (rkOf fun i => nums.getD i 0) p → Asc (rkOf fun i => nums.getD i 0) p n → p.toList = rows) (h : ∀ Hb Tb, Lw H0 P L d Hb → Q .next (St s0 Hb Tb)) :
    wpAny (model prog w) A (execs [stAt (bodyOf (stm 22)) 10] (envC 22 L f cd)) Q NoE (St s0 Ha T) := by
  refine ifX (cmpX (I.ldl dr fun v hv => ?_))
  obtain ⟨ar, rfl, lr⟩ := hv
  have I0 := I
  obtain ⟨⟨m, cm, F, hd⟩, gr, tab, hL⟩ := I
  obtain ⟨h₀, e0, e1⟩ := noHeap
  refine LCp.ListComp_P (h₀ := h₀) (L := L) (m := m) (cl := []) (s := St s0 Ha T) ⟨F.ns, fun b o e => absurd ((e0 b).symm.trans e) nofun, by rw [e1]; exact Nat.zero_le _⟩ rfl (by decide) rfl (by decide) rfl rfl (by decide) ?_
  refine callB (id := "sorted") (I0.wd Wk X) (by decide) (by decide +kernel) (it1 (mapE (s0 := s0) [("numbers", L + 2)] rfl (rangeK (s0 := s0) (n := n) (I0.wd Wk X) hu.hh (by omega) (fun h' => I0.ldl dc fun v ⟨t, e⟩ => e ▸ h' t _) fun J H2 T2 It ok lv => ?_)))
  have nz : ∀ b o, Ha.get? b = some o → b ≠ J ∧ b ≠ H2.objs.size ∧ b ≠ H2.objs.size + 1 := fun b o e => ⟨some_ne e ok.new, some_ne (ok.keep _ _ e) (none_of_le (Nat.le_refl _)), some_ne (ok.keep _ _ e) (none_of_le (Nat.le_succ _))⟩
  refine ⟨J, H2, T2, _, _, _, It, Keeps' Ha, fun i v h => ∃ r t u, v = .ref r ∧ (r ≠ J ∧ r ≠ H2.objs.size + 1 ∧ r ≠ H2.objs.size) ∧ IsT h r #[.int (nums.getD i 0) t, .int (i : Nat) u] 0, rfl, rfl, ⟨Ha, ok⟩, ok.keep, ?_, ?_, ?_, ?_⟩
  · rintro h h' k k3 b o e
    obtain ⟨a1, a2, a3⟩ := nz b o e
    exact k3 b o a1 a3 a2 (k _ _ e)
  · rintro i v h h' ⟨r, t, u, rfl, ⟨a1, a2, a3⟩, s⟩ k3
    exact ⟨r, t, u, rfl, ⟨a1, a2, a3⟩, k3 _ _ a1 a2 a3 s⟩
  · rintro i _ C Hb Tb mm hi ⟨t, rfl⟩ kb nC aw nE hE it
    obtain ⟨_, ⟨l, rfl, ln⟩, cn⟩ := (I0.keeps X kb).cell dn
    have hi' : i < nums.length := hn ▸ hi
    refine newT (it2 (Subscript_ (ldc rfl cn (ldv nE hE (sub_IL ln (List.getElem?_eq_getElem hi') (by omega) rfl fun u => ldv nE hE ⟨Hb, _, rfl, two_le, fun r H3 nr k3 t3 => ⟨H3, _, rfl, kall kb k3, ⟨r, u, t, rfl, ⟨?_, (aw r nr).2, (aw r nr).1⟩, ?_⟩, fun j v ⟨r', t', u', e, a, s⟩ => ⟨r', t', u', e, a, k3 _ _ s⟩, fun b _ o e => k3 _ _ e⟩⟩)))))
    · obtain ⟨o, e⟩ := lv _ _ it
      exact Ne.symm (some_ne e nr)
    · rw [List.getD_eq_getElem?_getD, List.getElem?_eq_getElem hi']
      exact t3
  · rintro D vs Hc Tc kc nD hlen hR lD
    have Fc := F.keeps kc
    refine sorted_pairs (h₀ := h₀) (L := L) (m := m) (n := n) (a := fun i => nums.getD i 0) e0 e1 Fc.ns lD hlen (fun i v hv => let ⟨r, t, u, e, _, s⟩ := hR i v hv; ⟨r, _, _, t, u, e, s, rfl, rfl⟩) (fun i hi => ?_) h2 h64 fun D2 hb p e Fr2 N2 pm asc => ?_
    · have hi' : i < nums.length := hn ▸ hi
      show 0 ≤ nums.getD i 0
      rw [List.getD_eq_getElem?_getD, List.getElem?_eq_getElem hi']
      exact h0 _ (List.getElem_mem _)
    have hsz : (p.toList.map fun i => vs.getD i Value.none).toArray.size = n := by rw [List.size_toArray, List.length_map, Array.length_toList, pm.sz]
    refine LCp.SrcLP.ledger hu.hh Fr2 N2 (.head _) (by rw [hsz, sizeLine_eq]; omega) fun g => ?_
    refine pairs_rest (n := n) (q := fun i => p.getD i 0) _ rfl (.head _) rfl ⟨_, rfl⟩ rfl (fun _ => rfl) (fun i v hi hv => ?_) (fun ys hl hy D3 h3 tk F3 N3 _ => ?_) _ 0 [] (by rw [hsz]; omega) rfl nofun
    · have hpi := pm.lt i hi
      have e2 : p.toList[i]? = some (p.getD i 0) := by
        have := pm.sz
        simp [Array.getD, this, hi]
      rw [List.getElem?_toArray, List.getElem?_map, e2] at hv
      have e3 : v = vs.getD (p.getD i 0) Value.none := (Option.some.inj hv).symm
      have e4 : vs[p.getD i 0]? = some v := by rw [e3, List.getD_eq_getElem?_getD, List.getElem?_eq_getElem (by rw [hlen]; exact hpi)]; rfl
      obtain ⟨r, t, u, rfl, _, s⟩ := hR _ _ e4
      refine ⟨r, _, _, u, 0, rfl, List.mem_cons_of_mem _ (mem_allOf.mpr ⟨?_, s⟩), rfl, rfl⟩
      rintro rfl
      obtain ⟨o', _, _, e5, e6, _⟩ := Fc.ns
      have e7 : Hc.get? r = _ := s
      rw [e5] at e7; cases e7
      cases e6
    · have k3 : ∀ b o, b ≠ L → Ha.get? b = some o → h3.get? b = some o := fun b o nb e => (N3 (b, o) (List.mem_cons_of_mem _ (List.mem_cons_of_mem _ (mem_allOf.mpr ⟨nb, kc _ _ e⟩)))).1
      have I3 := Lw.but X F hd gr tab hL k3 F3.ns
      have l3 := IL.mk (n := n) hl hy ⟨_, (N3 (D3, lst ys) (.head _)).1⟩
      have er : (List.range n).map (fun i => ((p.getD i 0 : Nat) : Int)) = rows.map Int.ofNat := by
        rw [← hp p pm asc]
        have := map_range (l := p.toList) (d := 0) (g := Int.ofNat)
        rw [Array.length_toList, pm.sz] at this
        rw [← this]
        refine List.map_congr_left fun i hi => ?_
        have hi' := List.mem_range.mp hi
        have := pm.sz
        simp [Array.getD, this, hi']
      rw [er] at l3
      have lr3 : IL h3 ar (rows.map Int.ofNat) := lr.at fun o e => k3 _ _ (fun e' => let ⟨_, l⟩ := lr.ls; F.ne_ls (.inl rfl) l e'.symm) e
      exact neIL (H := h3) (T := tk) (s0 := s0) lr3 l3 (by have := hu.un; omega) (wpAny_truthy_bool (nilX (nilX (h _ _ I3))))
end
end Mine
end
section
set_option maxRecDepth 100000
set_option Elab.async false
namespace Mine
open PySem

/-! blocks of one width -/
section
variable {α : Type} {W : Nat}
theorem flat_len : ∀ {L : List (List α)}, (∀ x ∈ L, x.length = W) → L.flatten.length = L.length * W
  | [], _ => by simp
  | x :: L, h => by
    rw [List.flatten_cons, List.length_append, h x (.head _), flat_len (fun y hy => h y (.tail _ hy)), List.length_cons, Nat.succ_mul]; omega
theorem flat_cut : ∀ {L : List (List α)} (k : Nat), (∀ x ∈ L, x.length = W) → k < L.length → (L.flatten.drop (k * W)).take W = L.getD k []
  | x :: L, 0, h, _ => by
    rw [List.flatten_cons, Nat.zero_mul, List.drop_zero, List.take_left' (h x (.head _))]; rfl
  | x :: L, k + 1, h, hk => by
    rw [List.flatten_cons, Nat.succ_mul, Nat.add_comm, ← List.drop_drop, List.drop_left' (h x (.head _)), flat_cut k (fun y hy => h y (.tail _ hy)) (Nat.lt_of_succ_lt_succ hk)]; rfl
theorem flat_at {L : List (List α)} {q r : Nat} (h : ∀ x ∈ L, x.length = W) (hq : q < L.length) (hr : r < W) (d : α) : L.flatten.getD (q * W + r) d = (L.getD q []).getD r d := by
  rw [← flat_cut q h hq]
  simp only [List.getD_eq_getElem?_getD, List.getElem?_take, List.getElem?_drop, if_pos hr]
end

def revS (x : Str) : Str := ⟨x.cps.toList.reverse.toArray⟩
def Wide (W : Nat) (l : List Str) : Prop := ∀ x ∈ l, x.cps.toList.length = W
theorem Wide.L {W : Nat} {l : List Str} (h : Wide W l) : ∀ y ∈ l.map (fun x => x.cps.toList), y.length = W := fun y hy => by
  obtain ⟨x, hx, rfl⟩ := List.mem_map.mp hy
  exact h x hx
theorem Wide.rev {W : Nat} {l : List Str} (h : Wide W l) : Wide W (l.map revS) := fun y hy => by
  obtain ⟨x, hx, rfl⟩ := List.mem_map.mp hy
  show x.cps.toList.reverse.length = W
  rw [List.length_reverse, h x hx]
theorem cps_len {W : Nat} {l : List Str} (h : Wide W l) : (cps l).length = l.length * W := by
  unfold cps
  rw [flat_len h.L, List.length_map]
theorem cps_at {W q r : Nat} {l : List Str} (h : Wide W l) (hq : q < l.length) (hr : r < W) : (cps l).getD (q * W + r) 0 = (l[q].cps.toList).getD r 0 := by
  unfold cps
  rw [flat_at h.L (by simpa using hq) hr]
  simp [hq]
theorem swapped_eq {W : Nat} {l : List Str} {B : List Int} (hW : 0 < W) (h : Wide W l) (sw : Swapped W (octs l) B) : B = octs (l.map revS) := by
  obtain ⟨h1, h2⟩ := sw
  have e1 : (octs l).length = l.length * W := by rw [List.length_map, cps_len h]
  have e2 : (octs (l.map revS)).length = l.length * W := by rw [List.length_map, cps_len h.rev, List.length_map]
  refine List.ext_getElem (by rw [h1, e1, e2]) fun p p1 p2 => ?_
  have hp : p < l.length * W := by rw [e2] at p2; exact p2
  have hq : p / W < l.length := (Nat.div_lt_iff_lt_mul hW).mpr hp
  have hr : p % W < W := Nat.mod_lt _ hW
  have hpq : p = p / W * W + p % W := by rw [Nat.mul_comm]; exact (Nat.div_add_mod p W).symm
  have og : ∀ (m : List Str) (i : Nat), (octs m).getD i 0 = (((cps m).getD i 0 : Nat) : Int) := fun m i => by
    simp only [List.getD_eq_getElem?_getD, List.getElem?_map]
    cases (cps m)[i]? <;> rfl
  have a := h2 p (by rw [e1]; exact hp)
  rw [og, cps_at h hq (by omega)] at a
  have b : (octs (l.map revS)).getD p 0 = (((cps (l.map revS)).getD p 0 : Nat) : Int) := og _ _
  conv at b => rhs; rw [hpq]
  rw [cps_at h.rev (by rw [List.length_map]; exact hq) hr] at b
  have hl := h _ (List.getElem_mem hq)
  have c : ((l.map revS)[p / W]'(by rw [List.length_map]; exact hq)).cps.toList.getD (p % W) 0 = l[p / W].cps.toList.getD (W - 1 - p % W) 0 := by
    rw [List.getElem_map]
    show (l[p / W].cps.toList.reverse).getD (p % W) 0 = _
    rw [List.getD_eq_getElem?_getD, List.getD_eq_getElem?_getD, List.getElem?_reverse (by omega), hl]
  rw [c] at b
  have g : ∀ (m : List Int) (hm : p < m.length), m[p] = m.getD p 0 := fun m hm => by simp [hm]
  rw [g _ p1, g _ p2, a, b]
theorem high_eq {W : Nat} {l : List Str} (h : Wide W l) : highOf W (octs l) l.length = l := by
  unfold highOf
  refine List.ext_getElem (by simp) fun k k1 k2 => ?_
  rw [List.getElem_map, List.getElem_range]
  refine str_ext ?_
  show (((octs l).drop (k * W)).take W).map Int.toNat = _
  unfold octs
  rw [← List.map_drop, ← List.map_take, List.map_map]
  unfold cps
  rw [flat_cut k h.L (by simpa using k2)]
  have : ∀ m : List Nat, m.map (Int.toNat ∘ Int.ofNat) = m := fun m => by
    have : (Int.toNat ∘ Int.ofNat) = id := by funext x; rfl
    rw [this, List.map_id]
  rw [this]
  simp [k2]
theorem rev_rev (x : Str) : revS (revS x) = x := str_ext (by show (x.cps.toList.reverse).reverse = _; rw [List.reverse_reverse])

/-! dealing -/
def dealC (rows : List Nat) (f : Nat → Nat) : List Nat := [33, 42, 63, 91].flatMap fun s => rows.filter fun k => f k == s
theorem meets_at {p i : Nat} {x : Str} : meets (readAt p i) x = (⟨#[x.cps.toList.getD p 0]⟩ == keOf i || keOf i == Str.ofString "") := by
  have hl : (readAt p i).length = p + 1 := by simp [readAt]
  unfold meets
  rw [hl, List.range_succ, List.filter_append]
  have h1 : (List.range p).filter (fun a => !meets1 (readAt p i) x a) = [] := by
    rw [List.filter_eq_nil_iff]
    intro a ha
    have ha' := List.mem_range.mp ha
    have : (readAt p i).getD a (Str.ofString "") = Str.ofString "" := by
      unfold readAt
      rw [List.getD_eq_getElem?_getD, List.getElem?_append_left (by simpa using ha')]
      simp [ha']
    unfold meets1
    rw [this]
    simp
  have h2 : meets1 (readAt p i) x p = (⟨#[x.cps.toList.getD p 0]⟩ == keOf i || keOf i == Str.ofString "") := by
    have : (readAt p i).getD p (Str.ofString "") = keOf i := by
      unfold readAt
      rw [List.getD_eq_getElem?_getD, List.getElem?_append_right (by simp)]
      simp
    unfold meets1
    rw [this]
    simp only [List.any_cons, List.any_nil, Bool.or_false]
    rw [Bool.or_comm, show (Str.ofString "" == keOf i) = (keOf i == Str.ofString "") from Bool.beq_comm]
  rw [h1, List.nil_append, List.filter_cons, List.filter_nil, h2]
  cases (⟨#[x.cps.toList.getD p 0]⟩ == keOf i || keOf i == Str.ofString "") <;> rfl
theorem deal_eq {rows : List Nat} {ts : List Str} {p : Nat} : deal rows ts (readOf p) = dealC rows fun k => (ts.getD k (Str.ofString "")).cps.toList.getD p 0 := by
  have one0 : ∀ x ∈ [(0, 33), (1, 42), (2, 63), (3, 91)], keOf x.1 = ⟨#[x.2]⟩ ∧ (keOf x.1 == Str.ofString "") = false := by decide +kernel
  have one : ∀ i c, (i, c) ∈ [(0, 33), (1, 42), (2, 63), (3, 91)] → keOf i = ⟨#[c]⟩ ∧ (keOf i == Str.ofString "") = false := fun i c h => one0 (i, c) h
  have eq1 : ∀ (a c : Nat), ((⟨#[a]⟩ : Str) == ⟨#[c]⟩) = (a == c) := fun a c => by
    by_cases h : a = c
    · subst h; simp
    · rw [beq_eq_false_iff_ne.mpr h, beq_eq_false_iff_ne.mpr]
      intro e
      exact h (by injection e with e; simpa using e)
  have fl : ∀ i c, (i, c) ∈ [(0, 33), (1, 42), (2, 63), (3, 91)] → (rows.filter fun k => meets (readAt p i) (ts.getD k (Str.ofString ""))) = rows.filter fun k => (ts.getD k (Str.ofString "")).cps.toList.getD p 0 == c := fun i c h => by
    congr 1
    funext k
    rw [meets_at, (one i c h).2, (one i c h).1, Bool.or_false, eq1]
  show (rows.filter _) ++ ((rows.filter _) ++ ((rows.filter _) ++ ((rows.filter _) ++ []))) = (rows.filter _) ++ ((rows.filter _) ++ ((rows.filter _) ++ ((rows.filter _) ++ [])))
  rw [fl 0 33 (by decide), fl 1 42 (by decide), fl 2 63 (by decide), fl 3 91 (by decide)]
theorem dealC_perm {f : Nat → Nat} : ∀ {rows : List Nat}, (∀ k ∈ rows, f k ∈ [33, 42, 63, 91]) → (dealC rows f).Perm rows
  | [], _ => .refl _
  | k :: r, h => by
    have ih := dealC_perm (f := f) (rows := r) fun x hx => h x (.tail _ hx)
    have hk := h k (.head _)
    have g : ∀ s, (k :: r).filter (fun k => f k == s) = if f k = s then k :: r.filter (fun k => f k == s) else r.filter (fun k => f k == s) := fun s => by
      rw [List.filter_cons]; simp only [beq_iff_eq]
    have e : dealC (k :: r) f = (k :: r).filter (fun k => f k == 33) ++ ((k :: r).filter (fun k => f k == 42) ++ ((k :: r).filter (fun k => f k == 63) ++ ((k :: r).filter (fun k => f k == 91) ++ []))) := rfl
    have e2 : dealC r f = r.filter (fun k => f k == 33) ++ (r.filter (fun k => f k == 42) ++ (r.filter (fun k => f k == 63) ++ (r.filter (fun k => f k == 91) ++ []))) := rfl
    rw [e, g, g, g, g]
    refine List.Perm.trans ?_ (ih.cons k)
    rw [e2]
    simp only [List.mem_cons, List.mem_nil_iff, or_false] at hk
    rcases hk with hk | hk | hk | hk <;> rw [hk]
    · exact .refl _
    · exact List.perm_middle
    · exact ((List.perm_middle).append_left _).trans List.perm_middle
    · exact (((List.perm_middle).append_left _).trans List.perm_middle |>.append_left _).trans List.perm_middle
theorem dealC_sorted {f : Nat → Nat} {R : Nat → Nat → Prop} {rows : List Nat} (h : rows.Pairwise R) : (dealC rows f).Pairwise fun i j => f i < f j ∨ (f i = f j ∧ R i j) := by
  have one : ∀ s, (rows.filter fun k => f k == s).Pairwise fun i j => f i < f j ∨ (f i = f j ∧ R i j) := fun s => by
    refine List.Pairwise.imp_of_mem ?_ (h.filter _)
    intro a b ha hb r
    have h1 := (List.mem_filter.mp ha).2
    have h2 := (List.mem_filter.mp hb).2
    simp only [beq_iff_eq] at h1 h2
    exact .inr ⟨h1.trans h2.symm, r⟩
  unfold dealC
  rw [List.pairwise_flatMap]
  refine ⟨fun s _ => one s, ?_⟩
  have : [33, 42, 63, 91].Pairwise fun a b : Nat => a < b := by decide
  refine this.imp fun {s t} hst x hx y hy => .inl ?_
  have h1 := (List.mem_filter.mp hx).2
  have h2 := (List.mem_filter.mp hy).2
  simp only [beq_iff_eq] at h1 h2
  omega
/-- keys by places dealt, last first -/
def keyP (c : Nat → Nat → Nat) : Nat → Nat → List Nat
  | 0, _ => []
  | p + 1, k => c p k :: keyP c p k
def rowsP (n : Nat) (c : Nat → Nat → Nat) : Nat → List Nat
  | 0 => List.range n
  | p + 1 => dealC (rowsP n c p) (c p)
theorem rowsP_perm {n : Nat} {c : Nat → Nat → Nat} : ∀ p, (∀ q, q < p → ∀ k, k < n → c q k ∈ [33, 42, 63, 91]) → (rowsP n c p).Perm (List.range n)
  | 0, _ => .refl _
  | p + 1, h => by
    have ih := rowsP_perm p fun q hq => h q (by omega)
    exact (dealC_perm fun k hk => h p (by omega) k (List.mem_range.mp (ih.mem_iff.mp hk))).trans ih
theorem rowsP_sorted {n : Nat} {c : Nat → Nat → Nat} : ∀ p, (rowsP n c p).Pairwise fun i j => kLt (keyP c p i, (i : Int)) (keyP c p j, (j : Int)) = true
  | 0 => by
    refine List.Pairwise.imp ?_ (List.pairwise_lt_range (n := n))
    intro a b h
    simp [kLt, keyP, h]
  | p + 1 => by
    refine List.Pairwise.imp ?_ (dealC_sorted (rowsP_sorted p) (f := c p))
    rintro i j (h | ⟨h, h2⟩)
    · have : c p i :: keyP c p i < c p j :: keyP c p j := List.cons_lt_cons_iff.mpr (.inl h)
      unfold kLt keyP
      rw [decide_eq_true this]; rfl
    · show kLt (c p i :: keyP c p i, (i : Int)) (c p j :: keyP c p j, (j : Int)) = true
      unfold kLt at *
      simp only [Bool.or_eq_true, decide_eq_true_eq, Bool.and_eq_true, beq_iff_eq] at h2 ⊢
      rcases h2 with h2 | ⟨h2, h3⟩
      · exact .inl (List.cons_lt_cons_iff.mpr (.inr ⟨h, h2⟩))
      · exact .inr ⟨by rw [h, h2], h3⟩
theorem kLt_total {a b : Key} (h1 : kLt a b = false) (h2 : kLt b a = false) : a = b := by
  simp only [kLt, Bool.or_eq_false_iff, decide_eq_false_iff_not, Bool.and_eq_false_iff, beq_eq_false_iff_ne] at h1 h2
  have e : a.1 = b.1 := List.le_antisymm (List.not_lt.mp h2.1) (List.not_lt.mp h1.1)
  have x := h1.2.resolve_left (fun n => n e)
  have y := h2.2.resolve_left (fun n => n e.symm)
  exact Prod.ext e (by omega)
/-- there is one order -/
theorem order_one {ks : List Str} {rows : List Nat} {key : Nat → List Nat} {ms : List Int} (hk : ∀ (k : Nat) x, ks[k]? = some x → x.cps.toList = key k) (hp : rows.Perm (List.range ks.length)) (hs : rows.Pairwise fun i j => kLt (key i, (i : Int)) (key j, (j : Int)) = true) (h : OrderOf ks ms) : ms = rows.map Int.ofNat := by
  obtain ⟨ko, rfl, p, s⟩ := h
  have ek : keysOf ks = (List.range ks.length).map fun k => (key k, (k : Int)) := by
    refine List.ext_getElem (by simp [keysOf]) fun i i1 i2 => ?_
    have i3 : i < ks.length := by simpa using i2
    have := keysOf_at (List.getElem?_eq_getElem i3)
    rw [List.getElem?_eq_getElem i1] at this
    rw [Option.some.inj this, List.getElem_map, List.getElem_range, hk i _ (List.getElem?_eq_getElem i3)]
  have p2 : ko.Perm (rows.map fun k => (key k, (k : Int))) := p.trans (ek ▸ (hp.map _).symm)
  have : ko = rows.map fun k => (key k, (k : Int)) := by
    refine List.Perm.eq_of_pairwise (le := fun a b => kLt b a = false) (fun a b _ _ h1 h2 => kLt_total h2 h1) s ?_ p2
    rw [List.pairwise_map]
    exact hs.imp fun h => kLt_asym h
  rw [this, List.map_map]
  rfl

/-! numbers and their texts -/
def sgn (a : Nat) : Nat := [33, 42, 63, 91].getD a 0
theorem sgn_lt : ∀ a, a < 4 → ∀ b, b < 4 → (sgn a < sgn b → a < b) ∧ (sgn a = sgn b → a = b) := by decide
theorem sgn_in : ∀ a, a < 4 → sgn a ∈ [33, 42, 63, 91] := by decide
theorem fig_nat (y k : Nat) : figOf (y : Int) k = sgn (y / 4 ^ k % 4) := by
  unfold figOf sgn
  have e : (4 : Int) ^ k = ((4 ^ k : Nat) : Int) := by simp
  rw [e, Int.fdiv_eq_ediv_of_nonneg _ (Int.natCast_nonneg _), Int.fmod_eq_emod_of_nonneg _ (by decide)]
  congr 1
theorem text_len (W : Nat) (x : Int) : (textOf W x).cps.toList.length = W := by simp [textOf]
theorem text_at {W p : Nat} (x : Int) (h : p < W) : (textOf W x).cps.toList.getD p 0 = figOf x p := by
  show (((List.range W).map (figOf x)).toArray.toList).getD p 0 = _
  simp [h]
section
variable {W : Nat} {ys : List Nat}
/-- the sign of text k at place p -/
def sgAt (ts : List Str) (p k : Nat) : Nat := (ts.getD k (Str.ofString "")).cps.toList.getD p 0
abbrev tsOf (W : Nat) (ys : List Nat) : List Str := (ys.map Int.ofNat).map (textOf W)
theorem sgAt_eq {p k : Nat} (hp : p < W) (hk : k < ys.length) : sgAt (tsOf W ys) p k = sgn (ys[k] / 4 ^ p % 4) := by
  unfold sgAt
  have : (tsOf W ys).getD k (Str.ofString "") = textOf W (ys[k] : Int) := by
    rw [List.getD_eq_getElem?_getD, List.getElem?_map, List.getElem?_map, List.getElem?_eq_getElem hk]; rfl
  rw [this, text_at _ hp, fig_nat]
theorem sgAt_in {p k : Nat} (hp : p < W) (hk : k < ys.length) : sgAt (tsOf W ys) p k ∈ [33, 42, 63, 91] := by
  rw [sgAt_eq hp hk]; exact sgn_in _ (Nat.mod_lt _ (by decide))
theorem key_num {i j : Nat} (hi : i < ys.length) (hj : j < ys.length) : ∀ p, p ≤ W → (keyP (sgAt (tsOf W ys)) p i < keyP (sgAt (tsOf W ys)) p j → ys[i] % 4 ^ p < ys[j] % 4 ^ p) ∧ (keyP (sgAt (tsOf W ys)) p i = keyP (sgAt (tsOf W ys)) p j → ys[i] % 4 ^ p = ys[j] % 4 ^ p)
  | 0, _ => ⟨fun h => absurd h (List.lt_irrefl _), fun _ => by simp [Nat.mod_one]⟩
  | p + 1, hp => by
    obtain ⟨a1, a2⟩ := key_num hi hj p (by omega)
    have st : ∀ x, x % 4 ^ (p + 1) = x % 4 ^ p + 4 ^ p * (x / 4 ^ p % 4) := fun x => by rw [Nat.pow_succ, Nat.mod_mul]
    have l1 := Nat.mod_lt (ys[i]) (show 0 < 4 ^ p from Nat.pow_pos (by decide))
    have l2 := Nat.mod_lt (ys[j]) (show 0 < 4 ^ p from Nat.pow_pos (by decide))
    obtain ⟨s1, s2⟩ := sgn_lt _ (Nat.mod_lt (ys[i] / 4 ^ p) (by decide : 0 < 4)) _ (Nat.mod_lt (ys[j] / 4 ^ p) (by decide : 0 < 4))
    rw [st, st]
    show (sgAt _ p i :: _ < sgAt _ p j :: _ → _) ∧ (sgAt _ p i :: _ = sgAt _ p j :: _ → _)
    rw [sgAt_eq (by omega) hi, sgAt_eq (by omega) hj]
    constructor
    · intro h
      rcases List.cons_lt_cons_iff.mp h with h | ⟨h, h2⟩
      · have m := Nat.mul_le_mul (Nat.le_refl (4 ^ p)) (show ys[i] / 4 ^ p % 4 + 1 ≤ ys[j] / 4 ^ p % 4 from s1 h)
        rw [Nat.mul_add, Nat.mul_one] at m
        omega
      · have := a1 h2
        rw [s2 h]; omega
    · intro h
      obtain ⟨h, h2⟩ := List.cons.inj h
      rw [s2 h, a2 h2]
theorem rows_num (hy : ∀ y ∈ ys, y < 4 ^ W) (hn : ys.length < 64) : (rowsP ys.length (sgAt (tsOf W ys)) W).Pairwise fun i j => ys.getD i 0 * 64 + i < ys.getD j 0 * 64 + j := by
  have pm := rowsP_perm (n := ys.length) (c := sgAt (tsOf W ys)) W fun q hq k hk => sgAt_in hq hk
  refine (rowsP_sorted (n := ys.length) (c := sgAt (tsOf W ys)) W).imp_of_mem fun {i j} hi hj h => ?_
  have hi' := List.mem_range.mp (pm.mem_iff.mp hi)
  have hj' := List.mem_range.mp (pm.mem_iff.mp hj)
  obtain ⟨a1, a2⟩ := key_num (W := W) hi' hj' W (Nat.le_refl W)
  rw [Nat.mod_eq_of_lt (hy _ (List.getElem_mem hi')), Nat.mod_eq_of_lt (hy _ (List.getElem_mem hj'))] at a1 a2
  have gi : ys.getD i 0 = ys[i] := by simp [hi']
  have gj : ys.getD j 0 = ys[j] := by simp [hj']
  rw [gi, gj]
  simp only [kLt, Bool.or_eq_true, decide_eq_true_eq, Bool.and_eq_true, beq_iff_eq] at h
  rcases h with h | ⟨h, h2⟩
  · have := a1 h
    omega
  · have := a2 h
    omega
theorem take_key {T : Nat → List Nat} {k : Nat} : ∀ p, p ≤ (T k).length → keyP (fun q k => (T k).getD q 0) p k = ((T k).take p).reverse
  | 0, _ => by simp [keyP]
  | p + 1, h => by
    show _ :: keyP _ p k = _
    rw [take_key p (by omega), List.take_add_one, List.getElem?_eq_getElem (by omega), List.reverse_append]
    show (T k).getD p 0 :: _ = (T k)[p] :: _
    rw [List.getD_eq_getElem?_getD, List.getElem?_eq_getElem (by omega)]; rfl
theorem drop_key {T : Nat → List Nat} {k : Nat} (hl : (T k).length = W) : ∀ p, p ≤ W → keyP (fun q k => (T k).getD (W - 1 - q) 0) p k = (T k).drop (W - p)
  | 0, _ => by simp [keyP, hl]
  | p + 1, h => by
    show _ :: keyP _ p k = _
    rw [drop_key hl p (by omega)]
    have e : W - (p + 1) < (T k).length := by omega
    rw [List.drop_eq_getElem_cons e, show W - (p + 1) + 1 = W - p by omega]
    simp [show W - 1 - p = W - (p + 1) by omega, e]
theorem tsOf_wide : Wide W (tsOf W ys) := fun x hx => by
  obtain ⟨y, _, rfl⟩ := List.mem_map.mp hx
  exact text_len W y
theorem tsOf_len : (tsOf W ys).length = ys.length := by simp
theorem tsOf_getD {k : Nat} (hk : k < ys.length) : ((tsOf W ys).getD k (Str.ofString "")).cps.toList.length = W := by
  rw [List.getD_eq_getElem?_getD, List.getElem?_eq_getElem (by rw [tsOf_len]; exact hk)]
  exact tsOf_wide _ (List.getElem_mem _)
theorem at_getD {α : Type} {l : List α} {k : Nat} {x d : α} (h : l[k]? = some x) : l.getD k d = x := by rw [List.getD_eq_getElem?_getD, h]; rfl
/-- the orders of both dealings -/
theorem order1 {p : Nat} {ms : List Int} (hp : p < W) (h : OrderOf (((tsOf W ys).map revS).map (dropS (W - 1 - p))) ms) : ms = (rowsP ys.length (sgAt (tsOf W ys)) (p + 1)).map Int.ofNat := by
  refine order_one (key := keyP (sgAt (tsOf W ys)) (p + 1)) (fun k x hx => ?_) ?_ (rowsP_sorted _) h
  · rw [List.getElem?_map, List.getElem?_map] at hx
    obtain ⟨y, hy, rfl⟩ := Option.map_eq_some_iff.mp hx
    obtain ⟨t, ht, rfl⟩ := Option.map_eq_some_iff.mp hy
    have hk : k < ys.length := by have := (List.getElem?_eq_some_iff.mp ht).1; rw [tsOf_len] at this; exact this
    have hl := tsOf_getD (W := W) hk
    have e := take_key (T := fun k => ((tsOf W ys).getD k (Str.ofString "")).cps.toList) (k := k) (p + 1) (by rw [hl]; exact hp)
    show (t.cps.toList.reverse).drop (W - 1 - p) = keyP (fun q k => (((tsOf W ys).getD k (Str.ofString "")).cps.toList).getD q 0) (p + 1) k
    rw [e, at_getD ht, List.drop_reverse]
    rw [at_getD ht] at hl
    rw [hl, show W - (W - 1 - p) = p + 1 by omega]
  · rw [List.length_map, List.length_map, tsOf_len]
    exact rowsP_perm _ fun q hq k hk => sgAt_in (by omega) hk
theorem order2 {p : Nat} {ms : List Int} (hp : p < W) (h : OrderOf ((tsOf W ys).map (dropS (W - 1 - p))) ms) : ms = (rowsP ys.length (fun q => sgAt (tsOf W ys) (W - 1 - q)) (p + 1)).map Int.ofNat := by
  refine order_one (key := keyP (fun q => sgAt (tsOf W ys) (W - 1 - q)) (p + 1)) (fun k x hx => ?_) ?_ (rowsP_sorted _) h
  · rw [List.getElem?_map] at hx
    obtain ⟨t, ht, rfl⟩ := Option.map_eq_some_iff.mp hx
    have hk : k < ys.length := by have := (List.getElem?_eq_some_iff.mp ht).1; rw [tsOf_len] at this; exact this
    have e := drop_key (T := fun k => ((tsOf W ys).getD k (Str.ofString "")).cps.toList) (k := k) (tsOf_getD (W := W) hk) (p + 1) hp
    show t.cps.toList.drop (W - 1 - p) = keyP (fun q k => (((tsOf W ys).getD k (Str.ofString "")).cps.toList).getD (W - 1 - q) 0) (p + 1) k
    rw [e, at_getD ht, show W - 1 - p = W - (p + 1) by omega]
  · rw [List.length_map, tsOf_len]
    exact rowsP_perm _ fun q hq k hk => sgAt_in (by omega) hk
theorem sort_one (hy : ∀ y ∈ ys, y < 4 ^ W) (hn : ys.length < 64) {p : Array Nat} (ok : PmOk ys.length (rkOf fun i => (ys.map Int.ofNat).getD i 0) p) (asc : Asc (rkOf fun i => (ys.map Int.ofNat).getD i 0) p ys.length) : p.toList = rowsP ys.length (sgAt (tsOf W ys)) W := by
  have pm := rowsP_perm (n := ys.length) (c := sgAt (tsOf W ys)) W fun q hq k hk => sgAt_in hq hk
  have g : ∀ i, rkOf (fun i => (ys.map Int.ofNat).getD i 0) i = ys.getD i 0 * 64 + i := fun i => by
    show ((ys.map Int.ofNat).getD i 0).toNat * 64 + i = _
    rw [List.getD_eq_getElem?_getD, List.getD_eq_getElem?_getD, List.getElem?_map]
    cases ys[i]? <;> rfl
  refine List.Perm.eq_of_pairwise (le := fun i j => ys.getD i 0 * 64 + i < ys.getD j 0 * 64 + j) (fun a b _ _ h1 h2 => absurd h1 (by omega)) ?_ (rows_num hy hn) (ok.perm.trans pm.symm)
  rw [List.pairwise_iff_getElem]
  intro i j hi hj hij
  have hj' : j < ys.length := by rw [Array.length_toList, ok.sz] at hj; exact hj
  have := asc i j hij hj'
  unfold ky at this
  rw [g, g] at this
  have e : ∀ q (hq : q < p.toList.length), p.getD q 0 = p.toList[q] := fun q hq => by
    have : q < p.size := by simpa using hq
    simp [Array.getD, this]
  rwa [e i hi, e j hj] at this
end
end Mine
end
section
set_option maxRecDepth 100000
set_option Elab.async false
namespace Mine
open PySem PySem.W PySem.Calls PyProof.Rows

def ysOf (W : Nat) (script : List Int) : List Nat := [1, 4] ++ (script.take 7).map fun x => (x.fmod (4 ^ W)).toNat
theorem ysOf_eq {W : Nat} {script : List Int} : [1, 4] ++ (script.take 7).map (fun x => x.fmod (4 ^ W)) = (ysOf W script).map Int.ofNat := by
  unfold ysOf
  rw [List.map_append, List.map_map]
  congr 1
  refine List.map_congr_left fun x _ => ?_
  exact (Int.toNat_of_nonneg (Int.fmod_nonneg_of_pos x (Int.pow_pos (by decide)))).symm
theorem ysOf_lt {W : Nat} {script : List Int} (hW : 2 ≤ W) : ∀ y ∈ ysOf W script, y < 4 ^ W := fun y hy => by
  have h16 : 4 ^ 2 ≤ 4 ^ W := Nat.pow_le_pow_right (by decide) hW
  rcases List.mem_append.mp hy with hy | hy
  · simp only [List.mem_cons, List.mem_nil_iff, or_false] at hy
    omega
  · obtain ⟨x, _, rfl⟩ := List.mem_map.mp hy
    have := Int.fmod_lt_of_pos x (b := 4 ^ W) (Int.pow_pos (by decide))
    have e : (4 : Int) ^ W = ((4 ^ W : Nat) : Int) := by simp
    have h0 := Int.fmod_nonneg_of_pos x (b := 4 ^ W) (Int.pow_pos (by decide))
    omega
theorem ysOf_len {W : Nat} {script : List Int} : 2 ≤ (ysOf W script).length ∧ (ysOf W script).length ≤ 9 := by
  unfold ysOf
  rw [List.length_append, List.length_map, List.length_take]
  show 2 ≤ 2 + _ ∧ 2 + _ ≤ 9
  omega
def Low (l : List Str) : Prop := ∀ x ∈ l, ∀ c ∈ x.cps.toList, c < 256
theorem Low.cps {l : List Str} (h : Low l) : ∀ c ∈ cps l, c < 256 := fun c hc => by
  obtain ⟨y, hy, hcy⟩ := List.mem_flatten.mp hc
  obtain ⟨x, hx, rfl⟩ := List.mem_map.mp hy
  exact h x hx c hcy
theorem Low.rev {l : List Str} (h : Low l) : Low (l.map revS) := fun y hy c hc => by
  obtain ⟨x, hx, rfl⟩ := List.mem_map.mp hy
  exact h x hx c (List.mem_reverse.mp hc)
theorem tsOf_low {W : Nat} {ys : List Nat} : Low (tsOf W ys) := fun x hx c hc => by
  obtain ⟨y, hy, rfl⟩ := List.mem_map.mp hx
  obtain ⟨z, _, rfl⟩ := List.mem_map.mp hy
  obtain ⟨k, _, rfl⟩ := List.mem_map.mp (show c ∈ (List.range W).map (figOf _) from hc)
  have : ∀ a, a < 4 → sgn a < 256 := by decide
  show figOf ((z : Nat) : Int) k < 256
  rw [fig_nat]
  exact this _ (Nat.mod_lt _ (by decide))
theorem pick_mem {l : List Str} {rows : List Nat} (h : ∀ k ∈ rows, k < l.length) : ∀ x ∈ rows.map (fun k => l.getD k (Str.ofString "")), x ∈ l := fun x hx => by
  obtain ⟨k, hk, rfl⟩ := List.mem_map.mp hx
  rw [List.getD_eq_getElem?_getD, List.getElem?_eq_getElem (h k hk)]
  exact List.getElem_mem _
theorem pick_rev {l : List Str} {rows : List Nat} (h : ∀ k ∈ rows, k < l.length) : (rows.map fun k => (l.map revS).getD k (Str.ofString "")) = (rows.map fun k => l.getD k (Str.ofString "")).map revS := by
  rw [List.map_map]
  refine List.map_congr_left fun k hk => ?_
  rw [List.getD_eq_getElem?_getD, List.getElem?_map, List.getElem?_eq_getElem (h k hk)]
  show _ = revS (l.getD k _)
  rw [List.getD_eq_getElem?_getD, List.getElem?_eq_getElem (h k hk)]; rfl
theorem rev_all (l : List Str) : (l.map revS).map revS = l := by
  rw [List.map_map, show (revS ∘ revS) = id by funext x; exact rev_rev x, List.map_id]
section
variable {prog : Program} {w : World} {A : Around} {E : Value → Shared → Prop} {s0 : Shared} {H : Heap} {T : Nat} {mg mb : Str → Option Value} {P f cA : Addr}
theorem stK2 {s1 s2 : Stmt} {rest : List Stmt} {env : Env} {s : Shared} {Q : Flow → Shared → Prop} (h : wpAny (model prog w) A (execs [s1, s2] env) (ThenJ (model prog w) A env rest Q E) E s) : wpJ (model prog w) A (execs (s1 :: s2 :: rest) env) Q E s := by
  intro Γ p hΓ c
  have h1 := h Γ p hΓ
  rw [execs_cons, Sem.wp_bind'] at h1 ⊢
  refine Sem.wp_mono _ Γ _ (fun f p' s' h' => ?_) (fun _ _ _ h' => h') _ _ h1
  cases f with
  | next =>
    have h2 : Sem.wp (model prog w) Γ (execs [s2] env) _ _ p' s' := h'
    show Sem.wp (model prog w) Γ (execs (s2 :: rest) env) _ _ p' s'
    rw [execs_cons, Sem.wp_bind'] at h2 ⊢
    refine Sem.wp_mono _ Γ _ (fun f p' s' h' => ?_) (fun _ _ _ h' => h') _ _ h2
    cases f with
    | next => exact h' Γ p' hΓ c
    | _ => exact h'
  | _ => exact h'
theorem law_call {a : Addr} {pm cd doc : Value} {script : List Int} {Q : Value → Shared → Prop} (W0 : Wd mg mb H) (X : TrW prog w mg cA P H) (hf : FnAt H 22 f pm cd doc) (hu : AOk A 5 15) (hl : IL H a script) (hz : script.length < 64)
    (h : ∀ Hb Tb, Gr P H Hb → (∃ ps, Hb.get? P = some (tabObj ps) ∧ TriplesOk ps.toList) → Q (.bool true) (St s0 Hb Tb)) : wpJ (model prog w) A (call (.ref f) [.ref a] []) Q E (St s0 H T) := by
  refine callJ 22 [("script", .ref a)] (hu.le (d' := 0) (u' := 0)).dep W0.lim hf rfl (fun x hx => .inl (locs rfl x hx)) fun H1 L T1 F1 k1 hL => ?_
  have hu1 : AOk (A.deeper (envC 22 L f cd)) 4 12 := hu.deeper _
  have tb0 := X.tab
  have I0 : Lw H P L (fun y => if y = "script" then some (.il script) else none) H1 := ⟨⟨_, _, F1, fun x av hx => by
    by_cases e : x = "script"
    · subst e
      rw [if_pos rfl] at hx; cases hx
      exact ⟨.ref a, rfl, a, rfl, hl.at fun o => k1 _ o⟩
    · rw [if_neg e] at hx; cases hx⟩, .of k1, let ⟨ps, e, t⟩ := tb0; ⟨ps, k1 _ _ e, t⟩, hL⟩
  obtain ⟨W, hW⟩ : ∃ W, W = 2 + script.length % 2 := ⟨_, rfl⟩
  have hW23 : W = 2 ∨ W = 3 := by omega
  have hWi : (2 : Int) + (script.length : Int).fmod 2 = W := by rw [Int.fmod_eq_emod_of_nonneg _ (by decide)]; omega
  obtain ⟨ys, hys⟩ : ∃ ys, ys = ysOf W script := ⟨_, rfl⟩
  have hyn := ysOf_len (W := W) (script := script)
  have hyl : ∀ y ∈ ys, y < 4 ^ W := hys ▸ ysOf_lt (by omega)
  rw [← hys] at hyn
  have hW3 : W ≤ 3 := hW23.elim (fun e => e ▸ by decide) fun e => e ▸ Nat.le_refl 3
  have hW0 : 0 < W := hW23.elim (fun e => e ▸ by decide) fun e => e ▸ by decide
  have hW9 : W < 9 := Nat.lt_of_le_of_lt hW3 (by decide)
  have hn20 : ys.length < 2 ^ 20 := Nat.lt_of_le_of_lt hyn.2 (by decide)
  have hn99 : ys.length < 99 := Nat.lt_of_le_of_lt hyn.2 (by decide)
  have hz20 : script.length < 2 ^ 20 := Nat.lt_trans hz (by decide)
  have wide : Wide W (tsOf W ys) := tsOf_wide
  have tlen : (tsOf W ys).length = ys.length := tsOf_len
  show wpJ _ _ (execs (stAt (bodyOf (stm 22)) 0 :: stAt (bodyOf (stm 22)) 1 :: stAt (bodyOf (stm 22)) 2 :: stAt (bodyOf (stm 22)) 3 :: stAt (bodyOf (stm 22)) 4 :: stAt (bodyOf (stm 22)) 5 :: stAt (bodyOf (stm 22)) 6 :: stAt (bodyOf (stm 22)) 7 :: stAt (bodyOf (stm 22)) 8 :: stAt (bodyOf (stm 22)) 9 :: stAt (bodyOf (stm 22)) 10 :: stAt (bodyOf (stm 22)) 11 :: stAt (bodyOf (stm 22)) 12 :: stAt (bodyOf (stm 22)) 13 :: stAt (bodyOf (stm 22)) 14 :: []) _) _ _ _
  refine stK (law_width W0 X I0 rfl hz20 hWi fun H2 T2 I1 => ?_)
  refine stK (law_numbers X hu1.le I1 rfl rfl hz20 hW9 fun H3 T3 I2 => ?_)
  rw [ysOf_eq, ← hys] at I2
  refine stK (law_count W0 X I2 rfl (by rw [List.length_map]; exact hn20) fun H4 T4 I3 => ?_)
  rw [List.length_map] at I3
  refine stK (law_texts W0 X hu1.le I3 rfl rfl (by rw [List.length_map]; exact hn20) hW9 fun H5 T5 I4 => ?_)
  have clen := cps_len wide
  rw [tlen] at clen
  refine law_swapped W0 X hu1.le I4 rfl rfl hW23 clen hn99 tsOf_low.cps fun H6 T6 B sw I5 => ?_
  have eB := swapped_eq hW0 wide sw
  subst eB
  have rlen : ((tsOf W ys).map revS).length = ys.length := by rw [List.length_map, tlen]
  refine stK (law_high (n := ys.length) W0 X hu1.le I5 rfl rfl rfl (by rw [List.length_map, cps_len wide.rev, rlen]) (Nat.lt_succ_of_lt hn99) hW9 fun H7 T7 I6 => ?_)
  have eh := high_eq wide.rev
  rw [rlen] at eh
  rw [eh] at I6
  refine stK2 (law_readings (W := W) W0 X hu1.le I6 rfl rfl rfl hW3 fun H8 T8 I7 => ?_)
  have r1 := fun q (hq : q ≤ W) => rowsP_perm (n := ys.length) (c := sgAt (tsOf W ys)) q fun p hp k hk => sgAt_in (Nat.lt_of_lt_of_le hp hq) hk
  have r2 := fun q (hq : q ≤ W) => rowsP_perm (n := ys.length) (c := fun p => sgAt (tsOf W ys) (W - 1 - p)) q fun p hp k hk => sgAt_in (Nat.lt_of_le_of_lt (Nat.sub_le _ _) (Nat.sub_lt hW0 Nat.one_pos)) hk
  have fact : ∀ {l : List Nat}, l.Perm (List.range ys.length) → l.length ≤ 99 ∧ ∀ k ∈ l, k < ys.length := fun hp => ⟨by rw [hp.length_eq, List.length_range]; exact Nat.le_of_lt hn99, fun k hk => List.mem_range.mp (hp.mem_iff.mp hk)⟩
  refine stK2 (law_rows1 (W := W) (n := ys.length) (ts := tsOf W ys) (hs := (tsOf W ys).map revS) (rws := rowsP ys.length (sgAt (tsOf W ys))) W0 X hu1 I7 rfl rfl rfl rfl rfl hW3 hn99 tlen (fun x hx => by rw [← Array.length_toList]; exact wide x hx) rlen (fun x hx => by rw [← Array.length_toList]; exact wide.rev x hx)
    rfl (fun p _ => deal_eq.symm) (fun p hp => fact (r1 p hp)) (fun p hp ms => order1 hp) fun H9 T9 d' I8 hd' hr' => ?_)
  have g : ∀ {x : Str} {v}, x ≠ "rows" → x ≠ "place" → _ = some v → d' x = some v := fun {x v} a b e => (hd' x a b).trans e
  obtain ⟨rl, rm⟩ := fact (r1 W (Nat.le_refl W))
  have rm1 : ∀ k ∈ rowsP ys.length (sgAt (tsOf W ys)) W, k < ((tsOf W ys).map revS).length := fun k hk => by rw [rlen]; exact rm k hk
  have rm2 : ∀ k ∈ rowsP ys.length (sgAt (tsOf W ys)) W, k < (tsOf W ys).length := fun k hk => by rw [tlen]; exact rm k hk
  have rl9 : (rowsP ys.length (sgAt (tsOf W ys)) W).length ≤ 9 := by rw [(r1 W (Nat.le_refl W)).length_eq, List.length_range]; exact hyn.2
  refine stK (law_sort_test (n := ys.length) (nums := ys.map Int.ofNat) W0 X hu1.le I8 (g (by decide) (by decide) rfl) (g (by decide) (by decide) rfl) hr' (by rw [List.length_map]) hyn.1 (Nat.lt_of_le_of_lt hyn.2 (by decide)) (fun x hx => by obtain ⟨y, _, rfl⟩ := List.mem_map.mp hx; exact Int.natCast_nonneg y) (fun p ok asc => sort_one hyl (Nat.lt_of_le_of_lt hyn.2 (by decide)) ok asc) fun H10 T10 I9 => ?_)
  have pw : Wide W ((rowsP ys.length (sgAt (tsOf W ys)) W).map fun k => (tsOf W ys).getD k (Str.ofString "")) := fun x hx => wide x (pick_mem rm2 x hx)
  have pl : Low ((rowsP ys.length (sgAt (tsOf W ys)) W).map fun k => (tsOf W ys).getD k (Str.ofString "")) := fun x hx => tsOf_low x (pick_mem rm2 x hx)
  have e2 := pick_rev rm2
  have ln1 := cps_len pw
  rw [List.length_map] at ln1
  have le9 : (rowsP ys.length (sgAt (tsOf W ys)) W).length * W ≤ 9 * 3 := Nat.mul_le_mul rl9 hW3
  refine law_swap_test (W := W) (n := ys.length) (hs := (tsOf W ys).map revS) (ts := tsOf W ys) (rows := rowsP ys.length (sgAt (tsOf W ys)) W) W0 X hu1.le I9 (g (by decide) (by decide) rfl) (g (by decide) (by decide) rfl) hr' (g (by decide) (by decide) rfl) hW23 (Nat.lt_of_le_of_lt rl9 (by decide)) (by rw [rlen]; exact hn99) (by rw [tlen]; exact hn99) rm1 rm2
    (by rw [e2, cps_len pw.rev, List.length_map, List.length_map]) (by rw [e2]; exact pl.rev.cps) (by rw [ln1]; exact Nat.le_trans le9 (by decide)) pl.cps (fun B sw2 => ?_) fun H11 T11 I10 => ?_
  · rw [e2] at sw2
    rw [swapped_eq hW0 pw.rev sw2, rev_all]
  refine stK2 (law_rows2 (W := W) (n := ys.length) (ts := tsOf W ys) (rws := rowsP ys.length fun p => sgAt (tsOf W ys) (W - 1 - p)) W0 X hu1 I10 (g (by decide) (by decide) rfl) (g (by decide) (by decide) rfl) (g (by decide) (by decide) rfl) (g (by decide) (by decide) rfl) hW3 hn99 tlen (fun x hx => by rw [← Array.length_toList]; exact wide x hx)
    rfl (fun p _ => deal_eq.symm) (fun p hp => fact (r2 p hp)) (fun p hp ms => order2 hp) fun H12 T12 d2 I11 _ _ => ?_)
  exact .of (retX (wpAny_Constant_bool (h _ _ I11.gr I11.tab)))
end
end Mine
end
section
set_option maxRecDepth 100000
set_option Elab.async false
namespace Mine
open PySem PySem.W PySem.Calls PyProof.Rows

/-- what is asked of a call, over clean stacks -/
abbrev WalkJ (q : Program) (loose : List Str) (XP : (Str → Option Value) → Heap → Prop) (YP : World → Heap → Prop) (r : RowW) (d : DefRec) (kwd : List (Str × Expr)) : Prop :=
  ∀ (w : World) (s₀ s₁ : Shared) (mg mb : Str → Option Value), Ground q loose r.records XP w s₀ mg mb s₁.heap → YP w s₁.heap → ∀ (a : Addr) (o : Obj) (pm cd doc dV kV : Value), s₁.heap.get? a = some o →
    o.data = .func { docDef d.name d.params d.body d.scope pm cd doc with defaults := dV, kwdefaults := kV } → s₁.heap.CodeRec cd d.name → Dflts mg s₁.heap d.params kwd dV kV → mg d.name = some (.ref a) → s₁.gens = #[] →
    ∀ (args : List WData) (vals : List Value) (as : List Addr), r.claim.pre args = true → WData.layableAll args = true → ReadsAllW r.records (classAt s₀.heap) s₁.heap vals args as → WellAll w.params s₁.heap vals args → (∀ a ∈ as, (a == sysModules) = false) →
      wpJ (model r.prog w) callerA (PySem.call (.ref a) vals) (fun v s' => GoodWG r.claim (classAt s₀.heap) (ExcName.means s₀.heap) args s₁ (.ok (.ret v)) s')
        (fun e s' => GoodWG r.claim (classAt s₀.heap) (ExcName.means s₀.heap) args s₁ (.error e) s') s₁
theorem caller_free : holders.contains "claim.caller" = false := by decide +kernel
theorem caller_clean {Γ : Ctx} (h1 : Γ.code = .builtin "claim.caller" {}) (h2 : Γ.below = []) : Cl Γ := ⟨by rw [h1]; show (!holders.contains "claim.caller") = true; rw [caller_free]; rfl, fun x hx => by rw [h2] at hx; cases hx⟩
theorem wpJ.mono2 {α : Type} {M : Model} {A : Around} {t : Sem α} {Q Q' : α → Shared → Prop} {E E' : Value → Shared → Prop} {s : Shared} (h : wpJ M A t Q E s) (hQ : ∀ a s, Q a s → Q' a s) (hE : ∀ e s, E e s → E' e s) : wpJ M A t Q' E' s :=
  fun Γ p hΓ c => Sem.wp_mono M Γ t (fun a _ s => hQ a s) (fun e _ s => hE e s) p s (h Γ p hΓ c)
/-- a thread of the claim's caller ends as its tree does, over its own stack -/
theorem caller_ends {prog : Program} {w : World} {t : Sem Fin} {s : Shared} {R : Result → Shared → Prop} (hz : s.asleep)
    (h : wpJ (model prog w) callerA t (fun fin s' => ∃ f, fin = .done f ∧ R (.ok f) s' ∧ AllBare s'.gens) (fun e s' => R (.error e) s' ∧ AllBare s'.gens) s) :
    ∃ n r s' s'', schedN (denote table) prog w n (.single s ⟨t, .builtin "claim.caller" {}, default, []⟩) = .halted (outcomeOf r) s' ∧ s'.heap.life = s.heap.life ∧ s'.heap = s''.heap ∧ s'.os = s''.os ∧ R r s'' := by
  have h0 := h _ default caller_in (caller_clean rfl rfl)
  obtain ⟨n, r, s₁, s₂, hs, hn, hf, hR⟩ := wp_halts_full (M := model prog w) (R := R) hz (Sem.wp_mono _ _ _ (fun fin p' s' q => by
    obtain ⟨f, rfl, a, b⟩ := q
    exact ⟨a, leftWithCleanup_false_of_bare b⟩) (fun e _ s' q => ⟨q.1, leftWithCleanup_false_of_bare q.2⟩) _ _ h0)
  obtain ⟨eh, _, _, eo, _⟩ := Shared.forget_eq hf
  exact ⟨n, r, s₂, s₁, hs, runN_life _ _ _ hn, eh, eo, hR⟩
end Mine

namespace MineH
open PySem PySem.W PySem.Calls PyProof.Rows Mine
/-- a law holds where its call is shown over clean stacks -/
theorem PySem.W.holds_open {r : OpenRow} {q : Program} {loose : List Str} {Xt : Shared → Bool} {XP : (Str → Option Value) → Heap → Prop} {α : Type} {Yf : Shared → α} {Ya : World → α} {YP : World → Heap → Prop} {d : DefRec} {kwd : List (Str × Expr)} {N : Nat}
    (left : LeftO r.prog q loose Xt Yf Ya N) (hY : ∀ w s, Yf s = Ya w → YP w s.heap) (hYk : ∀ w h h', YP w h → (∀ b o, h.get? b = some o → h'.get? b = some o) → YP w h')
    (hX : ∀ s, Xt s = true → XP (s.heap.nsMap mainGlobals) s.heap) (hXk : ∀ mg h h', XP mg h → (∀ b o, h.get? b = some o → h'.get? b = some o) → XP mg h')
    (hdef : defOf q r.name = some (d, kwd)) (hp : r.prog.theDef r.name = some (d.params, d.body, d.scope)) (hk : kwWritten? d.params.kwonlyargs d.params.kw_defaults = some kwd) (hRf : ∀ s, Xt s = true → RecFacts r.records s.heap) (hwr : (!r.writes || r.records.isEmpty) = true)
    (k1 : r.wellSaid = true) (ok : (chainsOk q && opensWell r.prog && (frees r.toRowW && r.within.isEmpty)) = true) (hb : r.prog.bare) (hw : r.toRowW.promised)
    (call : WalkJ q loose XP YP r.toRowW d kwd) : r.Holds := by
  simp only [Bool.and_eq_true] at ok
  obtain ⟨⟨ok1, ok2⟩, ok3, ok4⟩ := ok
  obtain ⟨hsame, hu, ha, hap, hm⟩ := frees_parts ok3
  have hwi : r.toRowW.claim.within = [] := List.isEmpty_iff.mp ok4
  refine ⟨k1, hw, ⟨hb, ok2, by show r.makers.map _ = []; rw [hm]; rfl⟩, hw.witness, fun w => ⟨(left.behind hX ok1 w).1, fun s' hs' => ?_⟩⟩
  obtain ⟨s₀, hf, hg0, s, hT, hz, hgn, hg, G, y⟩ := (left.behind (XP := fun mg h => XP mg h ∧ RecFacts r.records h) (fun s hs => ⟨hX s hs, hRf s hs⟩) ok1 w).2 s' hs'
  have RF := G.X.2
  have G0 : Ground q loose [] XP w s _ _ s.heap := ⟨G.T, G.B, G.D, G.TE, G.TD, G.W, G.X.1, G.cls, G.has, G.apart, G.once, G.K⟩
  have hgens : s.gens = #[] := Array.eq_empty_of_size_eq_zero (beq_iff_eq.mp hgn)
  refine ⟨s₀, hf, hg0, s, hT, fun n hn => ?_, RF.1, RF.2.1, fun args hpre hlay ord hord => ?_⟩
  · obtain rfl : n = r.name := by split at hn <;> simp_all
    exact pinned_of_view hg G0 hdef hp hk
  have GR := RF.ground G0
  obtain ⟨⟨vs, s₁⟩, hlaid⟩ := Option.isSome_iff_exists.mp (layAllW_isSome (P := w.params) (ord := ord) GR.has args r.args s (pre_splitW hpre).1)
  have keeps := layAllW_keeps _ _ _ hlaid
  have hal := layAllW_rest _ _ _ hlaid
  obtain ⟨as, hrd, hin, hold⟩ := reads_layAllW hord _ _ _ hlaid hlay s₁.heap (fun _ _ e => e)
  have L : Laid r.records w s s₁ args vs as := ⟨⟨ord, hord, hlaid⟩, hrd, hin, hold, keeps, hal.1.trans hgens, hal.2.2.1⟩
  have G1 := GR.keeps hXk keeps
  obtain ⟨a, o, pm, cd, doc, dV, kV, h1, h2, h3, h4, h5⟩ := G1.fn hdef
  have hi := ident_freeW hu ha hap
  have J := call w s s₁ _ _ G1 (hYk _ _ _ (hY w s y) keeps) a o pm cd doc dV kV h2 h3 h4 h5 (defOf_name hdef ▸ h1) L.gens args vs as hpre hlay L.reads L.well (L.low GR.low)
  have fin : ∀ {res : Result} {s2 : Shared}, GoodWG r.toRowW.claim (classAt s.heap) (ExcName.means s.heap) args s₁ res s2 → (r.toRowW.claim.Ends s args vs s₁ res s2 ∧ s2.os = s.os ∧ (r.writes = true → namesKept r.prog r.keeps s.heap s2.heap ∧ ∀ x ∈ r.records, ∀ a, classAt s.heap x.1 = some a → recordClass s2.heap a x.1 (x.2.map (·.1)) = true)) ∧ AllBare s2.gens := fun g =>
    have z := g.laid (c := r.toRowW.claim) hsame hwi hi L
    ⟨⟨z.1, z.2.1, fun q => ⟨namesKept_of hT hg r.keeps keeps g.2.1.old, noTable hwr q⟩⟩, z.2.2⟩
  obtain ⟨n, res, s2, s3, hsched, hlife, eh, eo, hR⟩ := caller_ends (t := (callStub r.name vs).cur) (R := fun res s2 => r.toRowW.claim.Ends s args vs s₁ res s2 ∧ s2.os = s.os ∧ (r.writes = true → namesKept r.prog r.keeps s.heap s2.heap ∧ ∀ x ∈ r.records, ∀ a, classAt s.heap x.1 = some a → recordClass s2.heap a x.1 (x.2.map (·.1)) = true))
    (Shared.asleep_of_life hal.2.2.2 hz) (by
      show wpJ _ _ (nsGet mainNs r.name >>= _) _ _ _
      refine .step (wpAny_nsGet G1.T.g ?_)
      rw [h1]
      exact .bind (J.mono2 (fun v s2 g => .pure ⟨_, rfl, fin g⟩) fun e s2 g => fin g))
  have hcase := hR.1.congr eh
  refine ⟨vs, s₁, hlaid, n, _, s2, hsched, ?_, (fun _ i x hx => by rw [hgens] at hx; simp at hx), (by rw [eh]; exact hR.2.2), by rw [hlife, hal.2.2.2], Shared.rest_eq (eo.trans hR.2.1)⟩
  rcases hcase with ⟨v, rfl, d1, d2, d3, d4, d5⟩ | ⟨e, ob, cls, rfl, d1, d2, d3, d4, d5⟩
  · exact .inl ⟨v, rfl, d1, d2, d3, fun b o y _ => d4 b o y, d5⟩
  · exact .inr ⟨e, ob, cls, rfl, d1, d2, d3, d4, fun b o y _ => d5 b o y⟩
end MineH
end
section
set_option maxRecDepth 100000
set_option Elab.async false
namespace Mine
open PySem PySem.W PySem.Calls PyProof.Rows PySem.Builtin.Re

def entOk (e : DictEntry) : Bool := match e.key with
  | .int n _ => e.hash == hashInt n && n != 33
  | _ => false
def spOk (h : Heap) (a : Addr) : Bool := match h.get? a with
  | some ⟨.type T, none, .dict es _, sl⟩ => T == "dict" && sl.size == 0 && (a == sysModules) == false && es.toList.all entOk
  | _ => false
def codeOk (h : Heap) : Value → Bool
  | .ref q => match h.get? q with
    | some ⟨_, _, .seq xs _, _⟩ => (xs.toList.map reRawOf).map (·.toNat) == reCode.toList
    | _ => false
  | _ => false
def reOk (h : Heap) (a : Addr) : Bool := match h.get? a with
  | some ⟨.type T, none, .fields vs, sl⟩ => T == "re.Pattern" && sl.size == 0 && reRawNat (vs.getD 6 .none) == 0 && reRawNat (vs.getD 2 .none) == 1 && codeOk h (vs.getD 5 .none)
  | _ => false
def onRef (f : Addr → Bool) : Option Value → Bool
  | some (.ref a) => f a
  | _ => false
def hookOk (h : Heap) : Bool := match h.get? mainGlobals with
  | some ⟨_, _, .dict es _, _⟩ => onRef (reOk h) (nsFind es "_twin_re_1") && onRef (spOk h) (nsFind es "_special_chars_map")
  | _ => false

/-- what the run of the top leaves of the pattern and of the table of escapes -/
def HookF (h : Heap) : Prop := ∃ o es ep a d, h.get? mainGlobals = some o ∧ o.data = .dict es ep ∧ nsFind es "_twin_re_1" = some (.ref a) ∧ nsFind es "_special_chars_map" = some (.ref d) ∧
  (∃ q xs n vs o', h.get? a = some { cls := .type "re.Pattern", data := .fields vs } ∧ reRawNat (vs.getD 6 .none) = 0 ∧ reRawNat (vs.getD 2 .none) = 1 ∧ vs.getD 5 .none = .ref q ∧ h.get? q = some o' ∧ o'.data = .seq xs n ∧ (xs.map reRawOf).map (·.toNat) = reCode) ∧
  (d == sysModules) = false ∧ ∃ od ds dp, h.get? d = some od ∧ od.ExactDict ∧ od.data = .dict ds dp ∧ ds.toList.all entOk = true
theorem onRef_of {f : Addr → Bool} {v : Option Value} (h : onRef f v = true) : ∃ a, v = some (.ref a) ∧ f a = true := by
  unfold onRef at h
  split at h
  · exact ⟨_, rfl, h⟩
  · cases h
theorem sl_nil {sl : Array (Option Value)} (h : (sl.size == 0) = true) : sl = #[] := Array.eq_empty_of_size_eq_zero (beq_iff_eq.mp h)
theorem hookF_of {h : Heap} (e : hookOk h = true) : HookF h := by
  unfold hookOk at e
  split at e
  · rename_i c dct es ep sl hg
    obtain ⟨e1, e2⟩ := Bool.and_eq_true_iff.mp e
    obtain ⟨a, ha, ra⟩ := onRef_of e1
    obtain ⟨d, hd, rd⟩ := onRef_of e2
    refine ⟨_, es, ep, a, d, hg, rfl, ha, hd, ?_, ?_⟩
    · unfold reOk at ra
      split at ra
      · rename_i T vs sl' hg'
        simp only [Bool.and_eq_true, beq_iff_eq] at ra
        obtain ⟨⟨⟨⟨rT, rs⟩, r6⟩, r2⟩, rc⟩ := ra
        subst rT
        have := sl_nil (beq_iff_eq.mpr rs)
        subst this
        unfold codeOk at rc
        split at rc
        · rename_i q hq
          split at rc
          · rename_i c2 d2 xs n sl2 hg2
            refine ⟨q, xs, n, vs, _, hg', r6, r2, hq, hg2, rfl, ?_⟩
            apply Array.toList_inj.mp
            rw [Array.toList_map, Array.toList_map]
            exact beq_iff_eq.mp rc
          · cases rc
        · cases rc
      · cases ra
    · unfold spOk at rd
      split at rd
      · rename_i T ds dp sl' hg'
        simp only [Bool.and_eq_true, beq_iff_eq] at rd
        obtain ⟨⟨⟨rT, rs⟩, rm⟩, ra⟩ := rd
        subst rT
        have := sl_nil (beq_iff_eq.mpr rs)
        subst this
        exact ⟨rm, _, ds, dp, hg', ⟨rfl, rfl, rfl⟩, rfl, ra⟩
      · cases rd
  · cases e
theorem HookF.keeps {h h' : Heap} (x : HookF h) (k : ∀ b o, h.get? b = some o → h'.get? b = some o) : HookF h' := by
  obtain ⟨o, es, ep, a, d, e1, e2, e3, e4, ⟨q, xs, n, vs, o', f1, f2, f3, f4, f5, f6, f7⟩, g1, od, ds, dp, g2, g3⟩ := x
  exact ⟨o, es, ep, a, d, k _ _ e1, e2, e3, e4, ⟨q, xs, n, vs, o', k _ _ f1, f2, f3, f4, k _ _ f5, f6, f7⟩, g1, od, ds, dp, k _ _ g2, g3⟩
def HK : Hook := ⟨Bool, fun s => hookOk s.heap, fun _ => true, fun _ h => HookF h, fun _ _ e => hookF_of e, fun _ _ _ x k => x.keeps k⟩
theorem HookF.re {h : Heap} {mg : Str → Option Value} (x : HookF h) (g : h.Ns mainGlobals mg) : ReAt mg h := by
  obtain ⟨o, es, ep, a, d, e1, e2, e3, e4, ⟨q, xs, n, vs, o', f1, f2, f3, f4, f5, f6, f7⟩, _⟩ := x
  obtain ⟨o2, es2, ep2, g1, g2, _, g3⟩ := g
  rw [e1] at g1; cases g1
  rw [e2] at g2; cases g2
  exact ⟨a, q, xs, n, vs, o', (g3 _).symm.trans e3, f1, f2, f3, f4, f5, f6, f7⟩
theorem HookF.sp {prog : Program} {w : World} {h : Heap} {mg : Str → Option Value} (x : HookF h) (g : h.Ns mainGlobals mg) : SpAt prog w mg h := by
  obtain ⟨o, es, ep, a, d, e1, e2, e3, e4, _, s1, od, ds, dp, s2, s3, s4, s5⟩ := x
  obtain ⟨o2, es2, ep2, g1, g2, _, g3⟩ := g
  rw [e1] at g1; cases g1
  rw [e2] at g2; cases g2
  have hk : ∀ e ∈ ds, ∃ k, (intKind prog w).is k e.key = true ∧ e.hash = (intKind prog w).hash k ∧ k ≠ 33 := fun e he => by
    have := List.all_eq_true.mp s5 e (by simpa using he)
    unfold entOk at this
    split at this
    · rename_i n t hn
      simp only [Bool.and_eq_true, beq_iff_eq, bne_iff_ne] at this
      exact ⟨n, by rw [hn]; exact intKind_is prog w n t, this.1, this.2⟩
    · cases this
  refine ⟨d, fun k => findBy (intKind prog w).is ds k, (g3 _).symm.trans e4, s1, ⟨od, ds, dp, s2, s3, s4, fun e he => let ⟨k, a, b, _⟩ := hk e he; ⟨k, a, b⟩, fun _ => rfl⟩, ?_⟩
  show (ds.find? _).map _ = none
  rw [Array.find?_eq_none.mpr]
  · rfl
  · intro e he hh
    obtain ⟨k, a, _, c⟩ := hk e he
    exact c ((intKind prog w).inj _ _ _ a (by simpa using hh))
end Mine
end
section
set_option maxRecDepth 100000
set_option Elab.async false
namespace Mine
open PySem PySem.W PySem.Calls PyProof.Rows

def builtNames : List Str := ["len", "range", "object", "isinstance", "str", "bytearray", "bytes", "list", "sorted", "ord", "chr"].map Str.ofString
def RecsOk (q : Program) : Prop := ∀ i ∈ plainDefs, ∃ d ∈ recsOf q, d.name = nameOf (stm i) ∧ d.params = parsOf (stm i) ∧ d.body = bodyOf (stm i) ∧ d.scope = scopeOf (stm i)
section
variable {q prog : Program} {loose : List Str} {mean : ExcName → Option Value} {w : World} {mg mb : Str → Option Value} {h : Heap}
theorem Wd.of_top (T : Top q loose mean mg mb h) (hr : RecsOk q) (hf : ∀ x ∈ builtNames, x ∉ startupNames ∧ x ∉ loose ∧ x ∉ (recsOf q).map (·.name) ∧ x ∉ (litsOf q).map (·.1) ∧ x ∉ (clssOf q loose).map (·.name)) : Wd mg mb h :=
  ⟨T.g, T.b, T.builtins, fun x hx => let ⟨a, b, c, d, e⟩ := hf x hx; T.free x a b c d e, T.nolimit, fun i hi => by
    obtain ⟨d, hd, e1, e2, e3, e4⟩ := hr i hi
    obtain ⟨a, o, pm, code, doc, g1, g2, g3, g4⟩ := T.fn d hd
    rw [e1, e2, e3, e4] at g3
    rw [e1] at g1 g4
    exact ⟨a, pm, code, doc, g1, ⟨o, g2, g3⟩, g4⟩⟩
theorem TrW.of_top (T : Top q loose mean mg mb h) (hr : RecsOk q) (Y : HookF h) : ∃ c P, TrW prog w mg c P h ∧ h.TableAt c P #[] := by
  obtain ⟨d, hd, e1, e2, e3, e4⟩ := hr 13 (by decide)
  obtain ⟨a, o, pm, code, doc, g1, g2, g3, g4⟩ := T.fn d hd
  obtain ⟨a', o', fd, c, P, k1, k2, k3, k4, k5, k6⟩ := T.tab d hd
  rw [g1] at k1; cases k1
  rw [g2] at k2; cases k2
  rw [g3] at k3; cases k3
  have hcode : code = .ref c := k4
  subst hcode
  rw [e1, e2, e3, e4] at g3
  rw [e1] at g1 g4
  obtain ⟨bm, ob, b1, b2, b3, b4, b5, b6⟩ := T.bmain
  refine ⟨c, P, ⟨⟨a, pm, doc, g1, ⟨o, g2, g3⟩, g4⟩, ?_, ⟨bm, ob, b1, b2, ?_, ?_, b3, b4, b5, b6⟩, ⟨#[], k6.2, trivial⟩, Y.re T.g, Y.sp T.g⟩, k6⟩
  · obtain ⟨o1, vs, file, tf, flags, tg, inF, text, tt, op, x1, x2, x3, x4, x5, x6, x7, x8, x9, x10, x11⟩ := k5
    obtain ⟨⟨o2, vs2, y1, y2, y3, y4⟩, y5⟩ := k6
    rw [x1] at y1; cases y1
    rw [x2] at y3; cases y3
    exact ⟨o1, vs, file, tf, flags, tg, inF, text, tt, x1, y2, x2, y4, x3, x4, x5, x6, x7, x11⟩
  · rintro rfl
    obtain ⟨og, _, _, z1, z2, _⟩ := T.g
    rw [z1] at b3; cases b3
    rw [b6] at z2; cases z2
  · rintro rfl
    have := k6.2
    rw [b3] at this; cases this
    cases b6
end
theorem RecsOk.of {q : Program} (h : (recsOf q).map (fun d => (d.name, d.params, d.body, d.scope)) = plainDefs.map fun i => (nameOf (stm i), parsOf (stm i), bodyOf (stm i), scopeOf (stm i))) : RecsOk q := fun i hi => by
  have : (nameOf (stm i), parsOf (stm i), bodyOf (stm i), scopeOf (stm i)) ∈ (recsOf q).map (fun d => (d.name, d.params, d.body, d.scope)) := h ▸ List.mem_map.mpr ⟨i, hi, rfl⟩
  obtain ⟨d, hd, e⟩ := List.mem_map.mp this
  injection e with e1 e
  injection e with e2 e
  injection e with e3 e4
  exact ⟨d, hd, e1, e2, e3, e4⟩
theorem il_of {h : Heap} {l : Addr} {vs : List Value} {ns : List Int} {P : Params} {xs : List WData} (hi : IntsAre vs ns) (hl : h.IsList l vs.toArray) (w : Well P h (.ref l) (.list xs)) : IL h l ns := by
  suffices ∃ q : List (Int × Tok), q.map (·.1) = ns ∧ vs = q.map fun p => Value.int p.1 p.2 by
    obtain ⟨q, e1, rfl⟩ := this
    refine ⟨q, e1, ?_⟩
    cases w with
    | list e _ =>
      obtain ⟨o, ho, _, n, hd⟩ := hl
      rw [e] at ho; cases ho
      cases hd
      exact ⟨_, e⟩
  clear hl w
  induction hi with
  | nil => exact ⟨[], rfl, rfl⟩
  | cons n t _ ih =>
    obtain ⟨q, e1, e2⟩ := ih
    exact ⟨(n, t) :: q, by rw [List.map_cons, e1], by rw [List.map_cons, ← e2]⟩
theorem caller_ok : AOk callerA 5 15 := ⟨rfl, by decide +kernel, by decide +kernel⟩
theorem old_of {h h' : Heap} {c P : Addr} (t : h.TableAt c P #[]) (k : Gr P h h') : OldK h h' := by
  obtain ⟨more, e⟩ := k.tab _ t.2
  refine ⟨fun b o hb => ?_, fun b o hb => ?_⟩
  · by_cases n : b = P
    · subst n
      have := t.2
      rw [hb] at this; cases this
      exact .inr (.inl ⟨t.isCodeTable, rfl, _, more, rfl, e⟩)
    · exact .inl (k.but b o n hb)
  · by_cases n : b = P
    · subst n; exact ⟨_, e⟩
    · exact ⟨o, k.but b o n hb⟩
theorem law_walk {q : Program} {loose : List Str} {XP : (Str → Option Value) → Heap → Prop} {d : DefRec} (hr : RecsOk q) (hf : ∀ x ∈ builtNames, x ∉ startupNames ∧ x ∉ looseW q loose ∧ x ∉ (recsOf q).map (·.name) ∧ x ∉ (litsOf q).map (·.1) ∧ x ∉ (clssOf q (looseW q loose)).map (·.name))
    (e1 : d.name = nameOf (stm 22)) (e2 : d.params = parsOf (stm 22)) (e3 : d.body = bodyOf (stm 22)) (e4 : d.scope = scopeOf (stm 22)) : WalkJ q loose XP HK.says PySem.Challenge.rw_in0160_01.row.toRowW d [] := by
  intro w s₀ s₁ mg mb G Y a o pm cd doc dV kV ho hd hcd hD hmg hgens args vals as hpre hlay hrd hwl hlo
  have T := G.T
  have W := Wd.of_top T hr hf
  obtain ⟨c, P, X, tA⟩ := TrW.of_top (prog := PySem.Challenge.rw_in0160_01.row.toRowW.prog) (w := w) T hr Y
  rw [e1, e2, e3, e4] at hd
  rw [e1] at hcd hmg
  wrow_args hpre hlay hrd hwl hlo
  rename_i ns hs hlay0 hL1 hr1 hl2 as1 as2 l vs as3 hL ra w1 r0 hI hr2 hc1 hc2
  obtain ⟨pm, cd, doc, hf22⟩ := W.at 22 hmg
  have il : IL s₁.heap l ns := il_of hI hL w1
  refine wpJ.mono2 (law_call (s0 := s₁) (T := s₁.toks) (E := NoE) W X hf22 caller_ok il (by omega) (Q := fun v s' => ∃ Hb Tb, v = .bool true ∧ s' = St s₁ Hb Tb ∧ Gr P s₁.heap Hb) fun Hb Tb k _ => ⟨Hb, Tb, rfl, rfl, k⟩) (fun v s' q => ?_) fun _ _ e => e.elim
  obtain ⟨Hb, Tb, rfl, rfl, k⟩ := q
  refine ⟨.inl ⟨.bool true, .bool true, [], rfl, raisesW_false (by wrow_none_raised), .bool _, ?_, fun _ => ⟨List.nodup_nil, nofun⟩⟩, old_of tA k, rfl, .of_eq hgens⟩
  exact postW_of (by wrow_shape) (by wtm_val) (by w_fin)
end Mine
end
section
set_option maxRecDepth 100000
set_option Elab.async true
namespace MineH
def hd.tw16064228779557774221 : Nat := 0
def hd.tw1908271125949159015 : Nat := 0
def hd.tw2029769949012596552 : Nat := 0
def hd.tw16921977219426030132 : Nat := 0
def hd.tw12618592999957320624 : Nat := 0
def hd.tw13819009162061383881 : Nat := 0
def hd.tw11220240637049468317 : Nat := 0
def hd.tw6199338258326120489 : Nat := 0
def hd.tw335896516326821873 : Nat := 0
def hd.tw13416805404297251089 : Nat := 0
def hd.tw5270106990125241923 : Nat := 0
def hd.tw11297525419081778900 : Nat := 0
def hd.tw6446201554135523757 : Nat := 0
def hd.tw3903868518510532593 : Nat := 0
def hd.tw13999171481392090856 : Nat := 0
def hd.tw6071112232170244586 : Nat := 0
def hd.tw17436003590095879928 : Nat := 0
def hd.tw17145139587293887670 : Nat := 0
def hd.tw3274445558269548540 : Nat := 0
def hd.tw9766925455179968262 : Nat := 0
def hd.tw3852704906498643318 : Nat := 0
def hd.tw11340822998857331932 : Nat := 0
def hd.tw16507985724268482350 : Nat := 0
def hd.tw18278066764381520705 : Nat := 0
def hd.tw9233606194602497163 : Nat := 0
def hd.tw18279626052010641020 : Nat := 0
def hd.tw10850819697017911 : Nat := 0
def hd.tw12958520300218916579 : Nat := 0
def hd.tw6645734958795582394 : Nat := 0
def hd.tw12686249732274644158 : Nat := 0
def hd.tw511460455567271214 : Nat := 0
def hd.tw6404367423525339993 : Nat := 0
def hd.tw14570433394800089651 : Nat := 0
def hd.tw13745478841544941829 : Nat := 0
def hd.tw2534262278853058001 : Nat := 0
def hd.tw7747468258973295101 : Nat := 0
def hd.tw9860374773165226724 : Nat := 0
def hd.tw3847429856496641185 : Nat := 0
def hd.tw8001367252695811423 : Nat := 0
def hd.tw9142209208121166594 : Nat := 0
def hd.tw16270138477947282827 : Nat := 0
def hd.tw14245509289241279147 : Nat := 0
def hd.tw3547976404676429676 : Nat := 0
def hd.tw16429568283801956184 : Nat := 0
def hd.tw9129487526789329709 : Nat := 0
def hd.tw4845622248163475590 : Nat := 0
def hd.tw17579314963395176410 : Nat := 0
def hd.tw18342720119678001866 : Nat := 0
def hd.tw17219530113938900026 : Nat := 0
def hd.tw7163495307157133920 : Nat := 0
def hd.tw7191574672788312471 : Nat := 0
def hd.tw9907446486790945130 : Nat := 0
def hd.tw13304976533086393114 : Nat := 0
def hd.tw4280240211054536851 : Nat := 0
def hd.tw4704821016400234845 : Nat := 0
def hd.tw14165946075917469693 : Nat := 0
def hd.tw8129336585026623410 : Nat := 0
def hd.tw13542905706544049441 : Nat := 0
def hd.tw11606517304568051962 : Nat := 0
def hd.tw13048210783325500682 : Nat := 0
def hd.tw5804971579798049201 : Nat := 0
def hd.tw4287730068425915525 : Nat := 0
def hd.tw11740958859061155728 : Nat := 0
def hd.tw4419390555497834400 : Nat := 0
def hd.tw1296095746945220806 : Nat := 0
def hd.tw17093947380982668615 : Nat := 0
def hd.tw2985553466610418136 : Nat := 0
def hd.tw6765091438282549354 : Nat := 0
def hd.tw18247887861425379917 : Nat := 0
def hd.tw8717265628616176796 : Nat := 0
def hd.tw1989082952969655113 : Nat := 0
def hd.tw388279703452793831 : Nat := 0
def hd.tw9745266531537778666 : Nat := 0
def hd.tw2159685044471192492 : Nat := 0
def hd.tw11662820556033392810 : Nat := 0
def hd.tw17735166943974606128 : Nat := 0
def hd.tw5867174253903110303 : Nat := 0
def hd.tw14310126873847971099 : Nat := 0
def hd.tw17370786016209037523 : Nat := 0
def hd.tw12371178758430053464 : Nat := 0
def hd.tw7850880984892269954 : Nat := 0
def hd.tw5182919770472330556 : Nat := 0
def hd.tw15236365094306240659 : Nat := 0
def hd.tw4851373957851343336 : Nat := 0
def hd.tw7489673784943738493 : Nat := 0
def hd.tw6758091973551123207 : Nat := 0
def hd.tw16581045432785939360 : Nat := 0
def hd.tw4581235077758518330 : Nat := 0
def hd.tw15724394476394213675 : Nat := 0
def hd.tw4041258249822706644 : Nat := 0
def hd.tw4805200270503480144 : Nat := 0
def hd.tw15366672785682992149 : Nat := 0
def hd.tw9981335156066485691 : Nat := 0
def hd.tw7633363197486755064 : Nat := 0
def hd.tw16215109994040887680 : Nat := 0
def hd.tw8927604802940286073 : Nat := 0
def hd.tw17396162646208190325 : Nat := 0
def hd.tw9788297098111560084 : Nat := 0
def hd.tw5536694400991775163 : Nat := 0
def hd.tw11573972937029611698 : Nat := 0
def hd.tw11617208963486369390 : Nat := 0
def hd.tw6893430423467645847 : Nat := 0
def hd.tw11407356717784008433 : Nat := 0
def hd.tw8295957642385331471 : Nat := 0
def hd.tw6254183507415735083 : Nat := 0
def hd.tw6763539329741474356 : Nat := 0
def hd.tw15615210283066773835 : Nat := 0
def hd.tw12958381691118091542 : Nat := 0
def hd.tw15667783392412166332 : Nat := 0
def hd.tw1409900076325116648 : Nat := 0
def hd.tw17598236500271685365 : Nat := 0
def hd.tw1772118972429167312 : Nat := 0
def hd.tw9448107130586479600 : Nat := 0
def hd.tw725275019912584843 : Nat := 0
def hd.tw13842622043640721416 : Nat := 0
def hd.tw13690083799922806629 : Nat := 0
def hd.tw14566675730745346649 : Nat := 0
def hd.tw3415982003039250030 : Nat := 0
def hd.tw2586381434827726883 : Nat := 0
def hd.tw14516403679050433474 : Nat := 0
def hd.tw2094368846858095583 : Nat := 0
def hd.tw7159554492923471559 : Nat := 0
def hd.tw18341386415298730084 : Nat := 0
def hd.tw1070256451977855576 : Nat := 0
def hd.tw7724929873869791310 : Nat := 0
def hd.tw12236032154727266027 : Nat := 0
def hd.tw13408998830869923702 : Nat := 0
def hd.tw12863688567121913275 : Nat := 0
open _root_.PySem _root_.PySem.W _root_.PySem.Calls _root_.PyProof.Rows _root_.Mine
set_option maxHeartbeats 8000000 in
theorem hd : _root_.PySem.Challenge.rw_in0160_01.Holds := by
  w_on
  refine holds_law (by decide +kernel) fun said => ?_
  o_head HK
  (case hw => w_witness2)
  (case hc => exact law_walk (.of (by kernel_rfl)) (by decide +kernel) rfl rfl rfl rfl)
end MineH
end

theorem PySem.Challenge.cw_in0160_01_holds : PySem.Challenge.rw_in0160_01.Holds :=
  MineH.hd
