import PyProof.Rows.All
import Wide.All
import OpenK.AllK
import Wide.FinOn
import PySem.Challenge.RW_ev0003_01

set_option Elab.async false
set_option maxRecDepth 100000
set_option maxHeartbeats 8000000

section
open PySem PySem.W PyProof.Rows PySem.Calls
namespace Mine

abbrev pw : Program := PySem.Challenge.pw_ev0003_01
def nth {α : Type} : List α → Nat → α → α
  | [], _, d => d
  | x :: _, 0, _ => x
  | _ :: r, n + 1, d => nth r n d
def fst (k : Nat) : Stmt := nth pw.main.body k (.Pass default)
def sName : Stmt → Str
  | .FunctionDef n .. => n
  | _ => Str.empty
def sArgs : Stmt → Arguments
  | .FunctionDef _ a .. => a
  | _ => ⟨[], [], none, [], [], none, []⟩
def sBody : Stmt → List Stmt
  | .FunctionDef _ _ b .. => b
  | _ => []
def sScope : Stmt → Scope
  | .FunctionDef _ _ _ _ _ _ sc .. => sc
  | _ => default
def nameA (k : Nat) : Str := sName (fst k)
def argsA (k : Nat) : Arguments := sArgs (fst k)
def bodyA (k : Nat) : List Stmt := sBody (fst k)
def scopeA (k : Nat) : Scope := sScope (fst k)

structure FnAt (base : Heap) (mg : Str → Option Value) (k : Nat) (f : Addr) : Prop where
  glob : mg (nameA k) = some (.ref f)
  obj : ∃ o pm cd doc, base.get? f = some o ∧ o.data = .func (docDef (nameA k) (argsA k) (bodyA k) (scopeA k) pm cd doc) ∧ base.CodeRec cd (nameA k)

/-- what is known of the text's top -/
structure Pg where
  base : Heap
  mg : Str → Option Value
  mb : Str → Option Value
  g : base.Ns mainGlobals mg
  b : base.Ns builtinsNs mb
  nolimit : base.NoLimit
  free : ∀ x ∈ (["len", "range", "sum", "sorted", "list", "int", "iter", "next", "abs", "StopIteration"] : List Str), mg x = none
  blt : ∀ x : Str, x ≠ "__name__" → mb x = bootBuiltins x
  fi : Addr
  fn : Addr
  fs : Addr
  ft : Addr
  fw : Addr
  hfi : FnAt base mg 1 fi
  hfn : FnAt base mg 3 fn
  hfs : FnAt base mg 4 fs
  hft : FnAt base mg 5 ft
  hfw : FnAt base mg 6 fw

/-- h holds all of h₀ -/
def Sub (h₀ h : Heap) : Prop := ∀ b o, h₀.get? b = some o → h.get? b = some o
theorem Sub.refl (h : Heap) : Sub h h := fun _ _ e => e
theorem Sub.trans {a b c : Heap} (x : Sub a b) (y : Sub b c) : Sub a c := fun i o e => y i o (x i o e)
/-- all but one address kept -/
def KeepBut (a : Addr) (h h' : Heap) : Prop := ∀ b o, b ≠ a → h.get? b = some o → h'.get? b = some o

section
variable {M : Model} {A : Around} {E : Value → Shared → Prop} {s : Shared} {env : Env} {P : Pg} {x : Str} {pos : Pos} {v : Value} {Q : Value → Shared → Prop}
theorem ldV {m : Str → Option Value} (hn : s.heap.Ns env.locals m) (hv : m x = some v) (h : Q v s) (hk : env.scope.kind = .function := by rfl) (hl : env.kindOf x = some .local := by rfl) (hd : (x == ("__debug__" : Str)) = false := by decide) :
    wpAny M A (eval (.Name x pos) env) Q E s := wpAny_Name (wpAny_loadName_local hk hl hn hv h) hd
theorem ldG (hb : Sub P.base s.heap) (hv : P.mg x = some v) (h : Q v s) (hk : env.scope.kind = .function := by rfl) (hl : env.kindOf x = some .globalImplicit := by rfl) (hg : env.globals = mainGlobals := by rfl) (hd : (x == ("__debug__" : Str)) = false := by decide) :
    wpAny M A (eval (.Name x pos) env) Q E s := Name_function_global hk hl (loadGlobal_global (hg ▸ P.g.keeps hb) hv h) hd
theorem ldB (hb : Sub P.base s.heap) (hv : bootBuiltins x = some v) (h : Q v s) (hf : x ∈ (["len", "range", "sum", "sorted", "list", "int", "iter", "next", "abs", "StopIteration"] : List Str) := by decide) (hk : env.scope.kind = .function := by rfl) (hl : env.kindOf x = some .globalImplicit := by rfl) (hg : env.globals = mainGlobals := by rfl) (hbn : env.builtins = builtinsNs := by rfl) (hn : x ≠ "__name__" := by decide) (hd : (x == ("__debug__" : Str)) = false := by decide) :
    wpAny M A (eval (.Name x pos) env) Q E s :=
  Name_function_global hk hl (loadGlobal_builtin (hg ▸ P.g.keeps hb) (P.free x hf) (hbn ▸ P.b.keeps hb) ((P.blt x hn).trans hv) h) hd

/-- a built-in by its name, one argument -/
theorem callB1 {id : String} {p pos : Pos} {e : Expr} (hb : Sub P.base s.heap) (hv : bootBuiltins x = some (.builtin id))
    (h : wpAny M A (eval e env) (fun v s₁ => wpAny M A (call (.builtin id) [v]) Q E s₁) E s)
    (hf : x ∈ (["len", "range", "sum", "sorted", "list", "int", "iter", "next", "abs", "StopIteration"] : List Str) := by decide)
    (hs : starEach [e] env = [(false, eval e env)] := by rfl)
    (hk : env.scope.kind = .function := by rfl) (hl : env.kindOf x = some .globalImplicit := by rfl) (hg : env.globals = mainGlobals := by rfl) (hbn : env.builtins = builtinsNs := by rfl) (hn : x ≠ "__name__" := by decide) (hd : (x == ("__debug__" : Str)) = false := by decide) :
    wpAny M A (eval (.Call (.Name x p) [e] [] pos) env) Q E s := by
  refine Call_ (ldB hb hv ?_ hf hk hl hg hbn hn hd)
  refine callWith_builtin1 (args_cons (wpAny_mono h (fun v s₁ h₁ => args_nil h₁) fun _ _ x => x) hs) hs rfl
/-- a def of the text's, one to three arguments -/
theorem callF1 {k : Nat} {f : Addr} {p pos : Pos} {e : Expr} (hb : Sub P.base s.heap) (hF : FnAt P.base P.mg k f) (hx : x = nameA k)
    (h : wpAny M A (eval e env) (fun v s₁ => Sub P.base s₁.heap ∧ wpAny M A (call (.ref f) [v]) Q E s₁) E s)
    (hs : starEach [e] env = [(false, eval e env)] := by rfl)
    (hk : env.scope.kind = .function := by rfl) (hl : env.kindOf x = some .globalImplicit := by rfl) (hg : env.globals = mainGlobals := by rfl) (hd : (x == ("__debug__" : Str)) = false := by decide) :
    wpAny M A (eval (.Call (.Name x p) [e] [] pos) env) Q E s := by
  obtain ⟨o, pm, cd, doc, ho, hdat, _⟩ := hF.obj
  refine Call_ (ldG hb (hx ▸ hF.glob) ?_ hk hl hg hd)
  exact callWith_def hdat (args_cons (wpAny_mono h (fun v s₁ h₁ => args_nil ⟨h₁.1 _ _ ho, h₁.2⟩) fun _ _ x => x) hs) hs
theorem callF2 {k : Nat} {f : Addr} {p pos : Pos} {e e₂ : Expr} (hb : Sub P.base s.heap) (hF : FnAt P.base P.mg k f) (hx : x = nameA k)
    (h : wpAny M A (eval e env) (fun v s₁ => wpAny M A (eval e₂ env) (fun v₂ s₂ => Sub P.base s₂.heap ∧ wpAny M A (call (.ref f) [v, v₂]) Q E s₂) E s₁) E s)
    (hs : starEach [e, e₂] env = (false, eval e env) :: starEach [e₂] env := by rfl) (hs₂ : starEach [e₂] env = [(false, eval e₂ env)] := by rfl)
    (hk : env.scope.kind = .function := by rfl) (hl : env.kindOf x = some .globalImplicit := by rfl) (hg : env.globals = mainGlobals := by rfl) (hd : (x == ("__debug__" : Str)) = false := by decide) :
    wpAny M A (eval (.Call (.Name x p) [e, e₂] [] pos) env) Q E s := by
  obtain ⟨o, pm, cd, doc, ho, hdat, _⟩ := hF.obj
  refine Call_ (ldG hb (hx ▸ hF.glob) ?_ hk hl hg hd)
  exact callWith_def hdat (args_cons (wpAny_mono h (fun v s₁ h₁ => args_cons (wpAny_mono h₁ (fun v₂ s₂ h₂ => args_nil ⟨h₂.1 _ _ ho, h₂.2⟩) fun _ _ x => x) hs₂) fun _ _ x => x) hs) hs
theorem callF3 {k : Nat} {f : Addr} {p pos : Pos} {e e₂ e₃ : Expr} (hb : Sub P.base s.heap) (hF : FnAt P.base P.mg k f) (hx : x = nameA k)
    (h : wpAny M A (eval e env) (fun v s₁ => wpAny M A (eval e₂ env) (fun v₂ s₂ => wpAny M A (eval e₃ env) (fun v₃ s₃ => Sub P.base s₃.heap ∧ wpAny M A (call (.ref f) [v, v₂, v₃]) Q E s₃) E s₂) E s₁) E s)
    (hs : starEach [e, e₂, e₃] env = (false, eval e env) :: starEach [e₂, e₃] env := by rfl) (hs₂ : starEach [e₂, e₃] env = (false, eval e₂ env) :: starEach [e₃] env := by rfl) (hs₃ : starEach [e₃] env = [(false, eval e₃ env)] := by rfl)
    (hk : env.scope.kind = .function := by rfl) (hl : env.kindOf x = some .globalImplicit := by rfl) (hg : env.globals = mainGlobals := by rfl) (hd : (x == ("__debug__" : Str)) = false := by decide) :
    wpAny M A (eval (.Call (.Name x p) [e, e₂, e₃] [] pos) env) Q E s := by
  obtain ⟨o, pm, cd, doc, ho, hdat, _⟩ := hF.obj
  refine Call_ (ldG hb (hx ▸ hF.glob) ?_ hk hl hg hd)
  exact callWith_def hdat (args_cons (wpAny_mono h (fun v s₁ h₁ => args_cons (wpAny_mono h₁ (fun v₂ s₂ h₂ => args_cons (wpAny_mono h₂ (fun v₃ s₃ h₃ => args_nil ⟨h₃.1 _ _ ho, h₃.2⟩) fun _ _ x => x) hs₃) fun _ _ x => x) hs₂) fun _ _ x => x) hs) hs
end

/-- a list as it is made -/
def Lst (h : Heap) (a : Addr) (items : List Value) : Prop := ∃ n, h.get? a = some { cls := .type "list", data := .seq items.toArray n }
theorem Lst.isList {h : Heap} {a : Addr} {items : List Value} (x : Lst h a items) : h.IsList a items.toArray := let ⟨n, e⟩ := x; ⟨_, e, rfl, n, rfl⟩
theorem Lst.lt {h : Heap} {a : Addr} {items : List Value} (x : Lst h a items) : a < h.objs.size := let ⟨_, e⟩ := x; Heap.lt_size e
theorem Lst.at {h h' : Heap} {a : Addr} {items : List Value} (x : Lst h a items) (k : ∀ o, h.get? a = some o → h'.get? a = some o) : Lst h' a items := let ⟨n, e⟩ := x; ⟨n, k _ e⟩
theorem Lst.keep {h h' : Heap} {a b : Addr} {items : List Value} (x : Lst h a items) (k : KeepBut b h h') (hab : a ≠ b) : Lst h' a items := x.at fun o e => k a o hab e
theorem Lst.sub {h h' : Heap} {a : Addr} {items : List Value} (x : Lst h a items) (k : Sub h h') : Lst h' a items := x.at fun o e => k a o e
theorem Lst.ns_ne {h : Heap} {a L : Addr} {m : Str → Option Value} {items : List Value} (x : Lst h a items) (n : h.Ns L m) : a ≠ L := by
  rintro rfl
  obtain ⟨k, e⟩ := x
  obtain ⟨o, es, ep, e', d, _⟩ := n
  rw [e] at e'; cases e'; cases d
theorem new_ne {h : Heap} {a : Addr} {o : Obj} (e : h.get? a = some o) : a ≠ h.objs.size := Nat.ne_of_lt (Heap.lt_size e)
theorem KeepBut.trans {a : Addr} {h h' h'' : Heap} (x : KeepBut a h h') (y : KeepBut a h' h'') : KeepBut a h h'' := fun b o n e => y b o n (x b o n e)
theorem KeepBut.of_same {a : Addr} {h h' : Heap} (x : Heap.SameBut a h h') : KeepBut a h h' := fun b o n e => x.extBut b o n e
theorem Sub.keepBut {a : Addr} {h h' : Heap} (x : Sub h h') : KeepBut a h h' := fun b o _ e => x b o e
theorem Sub.push (h : Heap) (o : Obj) : Sub h (h.push o) := fun _ _ e => Heap.get?_push_of_some _ e
theorem Sub.ext {h h' : Heap} (x : Heap.ExtBut h.objs.size h h') : Sub h h' := fun b o e => x b o (new_ne e) e
end Mine
end

section
open PySem PySem.W PyProof.Rows PySem.Calls
namespace Mine
theorem IntsAre.at' {vs : List Value} {ns : List Int} (h : IntsAre vs ns) : ∀ (i : Nat) (n : Int), ns[i]? = some n → ∃ t, vs[i]? = some (.int n t) := by
  induction h with
  | nil => intro i n e; cases e
  | cons m t _ ih =>
    intro i n e
    cases i with
    | zero => cases e; exact ⟨t, rfl⟩
    | succ i => exact ih i n e
theorem next_call (P : Pg) {w : World} {A : Around} {E Q : Value → Shared → Prop} {s : Shared} {st nums : Addr} {at_ many : Int} {tk mt : Tok} {vs : List Value} {ns : List Int}
    (hd : A.depth < recursionLimit) (hA : A.handled = none) (hb : Sub P.base s.heap)
    (hst : s.heap.IsList st #[.ref nums, .int at_ tk]) (hn : s.heap.IsList nums vs.toArray) (hi : IntsAre vs ns) (hne : 3 ≤ ns.length) (hlen : ns.length ≤ 27)
    (hsn : st ≠ nums) (hsb : P.base.get? st = none) (h0 : 0 ≤ at_) (h1 : at_ < 1000000) (hm : 0 < many)
    (h : ∀ r t h' tk' tk2, 0 ≤ r → r < many → h'.IsList st #[.ref nums, .int (at_ + 1) tk2] → KeepBut st s.heap h' → Q (.int r t) { s with heap := h', toks := tk' }) :
    wpAny (model pw w) A (call (.ref P.fn) [.ref st, .int many mt]) Q E s := by
  obtain ⟨o, pm, cd, doc, ho, hdat, hcd⟩ := P.hfn.obj
  refine wpAny_call (call_plain_ret hd (hb _ _ ho) hdat (P.nolimit.keeps hb) (hcd.keeps hb) (binds := [(Str.ofString "state", .ref st), (Str.ofString "many", .int many mt)]) rfl (locs rfl) (fun h₁ F => ?_))
  have hn₁ := F.ns
  have k₁ : Sub s.heap h₁ := F.keep
  have hbL : Sub P.base h₁ := hb.trans k₁
  have hLf : s.heap.get? s.heap.objs.size = none := Heap.get?_none_of_le (Nat.le_refl _)
  generalize s.heap.objs.size = L at *
  have ne_L : ∀ {b o}, s.heap.get? b = some o → b ≠ L := fun e q => by rw [q, hLf] at e; cases e
  have hA' : (A.deeper (envOf (nameA 3) (scopeA 3) L P.fn cd)).handled = none := hA
  have hst₁ : h₁.IsList st #[.ref nums, .int at_ tk] := let ⟨o, e, r⟩ := hst; ⟨o, k₁ _ _ e, r⟩
  have hnu₁ : h₁.IsList nums vs.toArray := let ⟨o, e, r⟩ := hn; ⟨o, k₁ _ _ e, r⟩
  have hstL : st ≠ L := let ⟨_, e, _⟩ := hst; ne_L e
  have hnuL : nums ≠ L := let ⟨_, e, _⟩ := hn; ne_L e
  -- numbers, at = (state[0], state[1])
  refine wpAny_execs_cons (Assign_Tuple_swapped (names := [Str.ofString "numbers", Str.ofString "at"]) (Tuple_ (spliced_cons ?_)))
  refine Subscript_ (ldV hn₁ rfl (wpAny_Constant_int ?_))
  refine tail_any hst₁.typeIs slot_list_getitem.lookup (wpAny_getItem_list (x := .ref nums) hst₁ (by decide) (by decide) rfl ?_) rfl
  refine spliced_cons ?_
  refine Subscript_ (ldV hn₁ rfl (wpAny_Constant_int ?_))
  refine tail_any hst₁.typeIs slot_list_getitem.lookup (wpAny_getItem_list (x := .int at_ tk) hst₁ (by decide) (by decide) rfl ?_) rfl
  refine spliced_nil (wpAny_newObj_type ?_)
  dsimp only
  refine unpackItems_tuple (items := #[.ref nums, .int at_ tk]) hA' ⟨_, Heap.get?_push_size _ rfl, rfl, _, rfl⟩ fun h₂ x₂ => ?_
  have k₂ : Sub h₁ h₂ := (Sub.push _ _).trans (Sub.ext x₂)
  have hn₂ := hn₁.keeps k₂
  refine wpAny_bind (wpAny_holding (wpAny_bindName (wpAny_storeName_local rfl hn₂ fun h₃ hn₃ s₃ => ?_)))
  refine wpAny_bind (wpAny_holding (wpAny_bindName (wpAny_storeName_local rfl hn₃ fun h₄ hn₄ s₄ => ?_)))
  refine wpAny_pure ?_
  have k₄ : KeepBut L h₁ h₄ := k₂.keepBut.trans ((KeepBut.of_same s₃).trans (.of_same s₄))
  dsimp only
  have up : ∀ {b o}, s.heap.get? b = some o → h₄.get? b = some o := fun e => k₄ _ _ (ne_L e) (k₁ _ _ e)
  have hst₄ : h₄.IsList st #[.ref nums, .int at_ tk] := let ⟨o, e, r⟩ := hst; ⟨o, up e, r⟩
  have hnu₄ : h₄.IsList nums vs.toArray := let ⟨o, e, r⟩ := hn; ⟨o, up e, r⟩
  -- state[1] = at + 1
  refine wpAny_execs_cons (wpAny_Assign_Subscript (wpAny_BinOp (ldV hn₄ rfl (wpAny_Constant_int (add_int ?_)))))
  refine ldV hn₄ rfl (wpAny_Constant_int ?_)
  refine wpAny_setItem_list hst₄ (by decide) (by decide) (by simp) fun h₅ hst₅ s₅ => ?_
  have hn₅ := hn₄.sameBut s₅ (Ne.symm hstL)
  have hnu₅ : h₅.IsList nums vs.toArray := let ⟨o, e, r⟩ := hnu₄; ⟨o, s₅.extBut _ _ (Ne.symm hsn) e, r⟩
  have hb₅ : Sub P.base h₅ := fun b o e => s₅.extBut b o (fun q => by rw [q, hsb] at e; cases e) (up (hb _ _ e))
  dsimp only
  -- turn = at // len(numbers)
  refine wpAny_execs_cons (wpAny_Assign_Name (wpAny_BinOp (ldV hn₅ rfl ?_)))
  have hvl : vs.length = ns.length := hi.length
  have hsz : (vs.toArray.size : Int) = ns.length := by simp [hvl]
  refine callB1 (P := P) hb₅ PyProof.Rows.Boot.«len» (ldV hn₅ rfl (call_len_list hnu₅ (by rw [hsz]; omega) ?_))
  refine floordiv_int (by rw [hsz]; omega) ?_ (.inl (PyProof.noPylong_small (by rw [hsz]; omega)))
  refine wpAny_storeName_local rfl hn₅ fun h₆ hn₆ s₆ => ?_
  have hnu₆ : h₆.IsList nums vs.toArray := let ⟨o, e, r⟩ := hnu₅; ⟨o, s₆.extBut _ _ hnuL e, r⟩
  have hb₆ : Sub P.base h₆ := fun b o e => s₆.extBut b o (ne_L (hb _ _ e)) (hb₅ _ _ e)
  have hst₆ : h₆.IsList st #[.ref nums, .int (at_ + 1) _] := let ⟨o, e, r⟩ := hst₅; ⟨o, s₆.extBut _ _ hstL e, r⟩
  have kk : KeepBut st s.heap h₆ := fun b o hb' e => s₆.extBut _ _ (ne_L e) (s₅.extBut _ _ hb' (up e))
  dsimp only
  have ht0 : 0 ≤ at_.fdiv vs.toArray.size := by rw [hsz]; exact Int.fdiv_nonneg h0 (by omega)
  have ht1 : at_.fdiv vs.toArray.size < 1000001 := by
    rw [hsz, Int.fdiv_eq_ediv_of_nonneg _ (by omega)]
    exact Int.lt_of_le_of_lt (Int.ediv_le_self _ h0) (by omega)
  have hr0 : 0 ≤ at_.fmod vs.toArray.size := by rw [hsz, Int.fmod_eq_emod_of_nonneg _ (by omega)]; exact Int.emod_nonneg _ (by omega)
  have hr1 : at_.fmod vs.toArray.size < ns.length := by rw [hsz, Int.fmod_eq_emod_of_nonneg _ (by omega)]; exact Int.emod_lt_of_pos _ (by omega)
  generalize at_.fdiv vs.toArray.size = tn at *
  obtain ⟨n, hn'⟩ : ∃ n, ns[(at_.fmod vs.toArray.size).toNat]? = some n := ⟨_, List.getElem?_eq_getElem (by omega)⟩
  obtain ⟨nt, hnt⟩ := IntsAre.at' hi _ _ hn'
  refine wpAny_execs_cons (wpAny_Return_some (wpAny_BinOp (wpAny_BinOp (wpAny_BinOp (Subscript_ (ldV hn₆ rfl (wpAny_BinOp (ldV hn₆ rfl ?_))))))))
  refine callB1 (P := P) hb₆ PyProof.Rows.Boot.«len» (ldV hn₆ rfl (call_len_list hnu₆ (by rw [hsz]; omega) ?_))
  refine mod_int (by rw [hsz]; omega) ?_
  refine tail_any hnu₆.typeIs slot_list_getitem.lookup (wpAny_getItem_list (x := .int n nt) hnu₆ hr0 (by omega) (by simpa using hnt) ?_) rfl
  refine wpAny_BinOp (wpAny_Constant_int (ldV hn₆ rfl (add_int ?_)))
  refine floordiv_int (by omega) ?_ (.inl (PyProof.noPylong_small (by omega)))
  refine wpAny_BinOp (wpAny_Constant_int (ldV hn₆ rfl (mul_int ?_ (IntMulOk.of_left (by decide)))))
  refine add_int (ldV hn₆ rfl (mod_int (by omega) ?_))
  dsimp only
  have := Int.fmod_eq_emod_of_nonneg (n.fdiv (1 + tn) + 7 * tn) (Int.le_of_lt hm)
  refine h _ _ h₆ _ _ ?_ ?_ hst₆ kk
  · rw [this]; exact Int.emod_nonneg _ (by omega)
  · rw [this]; exact Int.emod_lt_of_pos _ hm
end Mine
end

section
open PySem PySem.W PyProof.Rows PySem.Calls
namespace Mine
section
variable {prog : Program} {w : World} {A : Around} {s : Shared}

theorem loop_walk {R : Result → Shared → Prop} {target : Expr} {body : List Stmt} {env : Env} {I : Addr} {fp : List Addr} {n : Nat} {Pv : Nat → Value → Prop} {St : Nat → Heap → Prop}
    (W : Walks prog w A I fp [I] n Pv St) (Inv : Nat → Shared → Prop)
    (hturn : ∀ i v (s : Shared) h' tk, i < n → Inv i s → St (i + 1) h' → Pv i v → KeepBut I s.heap h' → ∀ E' : Value → Shared → Prop,
      wpAny (model prog w) A (letOwnedTupleGo target (.ref I) v) (fun _ s₁ => wpAny (model prog w) A (assign target env v) (fun _ s₂ => wpAny (model prog w) A (execs body env) (fun f s₃ => match f with
        | .next | .cont => St (i + 1) s₃.heap ∧ Inv (i + 1) s₃
        | .brk => R (.ok .next) s₃
        | .ret v => R (.ok (.ret v)) s₃) E' s₂) E' s₁) E' { s with heap := h', toks := tk })
    (hfin : ∀ (s : Shared) h' tk, Inv n s → KeepBut I s.heap h' → R (.ok .next) { s with heap := h', toks := tk })
    (h0 : Inv 0 s) (hst : St 0 s.heap) : codeAny (model prog w) A (.forLoop target (.ref I) body [] env) R s := by
  refine codeAny_forLoop_any (fun k s => ∃ i, i ≤ n ∧ k = n + 1 - i ∧ St i s.heap ∧ Inv i s) ?_ (n + 1) ⟨0, Nat.zero_le _, rfl, hst, h0⟩
  rintro k s ⟨i, hi, rfl, hst, hinv⟩
  by_cases hlt : i < n
  · refine W.item i s _ _ hlt hst fun v h' tk hv hst' hk => ?_
    refine wpAny_mono (hturn i v s h' tk hlt hinv hst' hv (fun b o hb e => hk b o (by simpa using hb) e) _) (fun _ s₁ h₁ => ?_) fun _ _ x => x
    refine wpAny_mono h₁ (fun _ s₂ h₂ => ?_) fun _ _ x => x
    refine wpAny_mono h₂ (fun f s₃ h₃ => ?_) fun _ _ x => x
    cases f with
    | next => exact ⟨n + 1 - (i + 1), by omega, i + 1, hlt, rfl, h₃⟩
    | cont => exact ⟨n + 1 - (i + 1), by omega, i + 1, hlt, rfl, h₃⟩
    | brk => exact h₃
    | ret v => exact h₃
  · obtain rfl : i = n := Nat.le_antisymm hi (Nat.not_lt.mp hlt)
    refine W.done s _ _ hst fun h' tk hk => wpAny_execs_nil ?_
    exact hfin s h' tk hinv fun b o hb e => hk b o (by simpa using hb) e

/-- for over a list -/
theorem for_list {E : Value → Shared → Prop} {Q : Flow → Shared → Prop} {target iter : Expr} {body : List Stmt} {env : Env} {pos : Pos} (hh : A.handled = none)
    (h : wpAny (model prog w) A (eval iter env) (fun x s₁ => ∃ ax items, x = .ref ax ∧ s₁.heap.IsList ax items ∧ ∃ Inv : Nat → Shared → Prop,
      Inv 0 { s₁ with heap := s₁.heap.push { cls := .type "list_iterator", data := .fields #[.ref ax, .int 0 0] } } ∧
      (∀ i v (s : Shared) h' tk, Inv i s → h'.IsListIter s₁.heap.objs.size ax (i + 1) → h'.IsList ax items → items[i]? = some v → KeepBut s₁.heap.objs.size s.heap h' → ∀ E' : Value → Shared → Prop,
        wpAny (model prog w) A (letOwnedTupleGo target (.ref s₁.heap.objs.size) v) (fun _ s₁' => wpAny (model prog w) A (assign target env v) (fun _ s₂ => wpAny (model prog w) A (execs body env) (fun f s₃ => match f with
          | .next | .cont => (s₃.heap.IsListIter s₁.heap.objs.size ax (i + 1) ∧ s₃.heap.IsList ax items) ∧ Inv (i + 1) s₃
          | .brk => Q .next s₃
          | .ret v => Q (.ret v) s₃) E' s₂) E' s₁') E' { s with heap := h', toks := tk }) ∧
      (∀ (s : Shared) h' tk, Inv items.size s → KeepBut s₁.heap.objs.size s.heap h' → Q .next { s with heap := h', toks := tk })) E s)
    (hs : ∀ x, foldedSetIterable iter env x = pure x := by intro _; rfl) :
    wpAny (model prog w) A (exec (.For target iter body [] pos) env) Q E s := by
  refine wpAny_For (wpAny_mono h (fun x s₁ h₁ => ?_) fun _ _ x => x) hs
  obtain ⟨ax, items, rfl, hl, Inv, i0, turn, fin⟩ := h₁
  refine wpAny_pyIter_list hl ?_
  have hne : ax ≠ s₁.heap.objs.size := let ⟨_, e, _⟩ := hl; new_ne e
  refine loop_walk (Walks.list hh s₁.heap.objs.size ax hne items) Inv (fun i v s h' tk _ hi hst hv hk E' => turn i v s h' tk hi hst.1 hst.2 hv hk E') (fun s h' tk hi hk => fin s h' tk hi hk) i0
    ⟨⟨_, Heap.get?_push_size _ rfl, rfl, rfl⟩, hl.push _⟩

/-- for over range(n) -/
theorem for_range {P : Pg} {E : Value → Shared → Prop} {Q : Flow → Shared → Prop} {target e : Expr} {p q : Pos} {body : List Stmt} {env : Env} {pos : Pos} (hh : A.handled = none) (hb : Sub P.base s.heap)
    (h : wpAny (model prog w) A (eval e env) (fun x s₁ => ∃ (n : Nat) (t : Tok), x = .int n t ∧ n < 2 ^ 60 ∧ ∃ Inv : Nat → Shared → Prop,
      (∀ h' tk, Sub s₁.heap h' → h'.objs.size = s₁.heap.objs.size + 2 → Inv 0 { s₁ with heap := h', toks := tk }) ∧
      (∀ i (s : Shared) h' tk t, i < n → Inv i s → IsRangeIter h' (s₁.heap.objs.size + 1) ((i + 1 : Nat) : Int) ((n : Int) - ((i + 1 : Nat) : Int)) 1 → KeepBut (s₁.heap.objs.size + 1) s.heap h' → ∀ E' : Value → Shared → Prop,
        wpAny (model prog w) A (letOwnedTupleGo target (.ref (s₁.heap.objs.size + 1)) (.int i t)) (fun _ s₁' => wpAny (model prog w) A (assign target env (.int i t)) (fun _ s₂ => wpAny (model prog w) A (execs body env) (fun f s₃ => match f with
          | .next | .cont => IsRangeIter s₃.heap (s₁.heap.objs.size + 1) ((i + 1 : Nat) : Int) ((n : Int) - ((i + 1 : Nat) : Int)) 1 ∧ Inv (i + 1) s₃
          | .brk => Q .next s₃
          | .ret v => Q (.ret v) s₃) E' s₂) E' s₁') E' { s with heap := h', toks := tk }) ∧
      (∀ (s : Shared) h' tk, Inv n s → KeepBut (s₁.heap.objs.size + 1) s.heap h' → Q .next { s with heap := h', toks := tk })) E s)
    (he : starEach [e] env = [(false, eval e env)] := by rfl)
    (hk : env.scope.kind = .function := by rfl) (hl : env.kindOf "range" = some .globalImplicit := by rfl) (hg : env.globals = mainGlobals := by rfl) (hbn : env.builtins = builtinsNs := by rfl)
    (hs : ∀ x, foldedSetIterable (.Call (.Name "range" p) [e] [] q) env x = pure x := by intro _; rfl) :
    wpAny (model prog w) A (exec (.For target (.Call (.Name "range" p) [e] [] q) body [] pos) env) Q E s := by
  refine wpAny_For (Call_ (ldB (P := P) (v := .type "range") hb PyProof.Rows.boot_range (callWith_type1 (args_cons (wpAny_mono h (fun x s₁ h₁ => args_nil ?_) fun _ _ x => x) he) he rfl) (by decide) hk hl hg hbn)) hs
  obtain ⟨n, t, rfl, hn, Inv, i0, turn, fin⟩ := h₁
  refine call_range_1 ?_
  have hsm : Builtin.Range.small 0 n 1 = true := small_one (by decide) (by decide) (by omega) (by omega)
  refine wpAny_pyIter_range (IsRange.new _ _ _ _ _ _ _) hsm ?_
  have hrs : Builtin.Range.rangeSize 0 n 1 = n := by rw [rangeSize_one]; split <;> omega
  dsimp only
  rw [hrs, Heap.size_push]
  refine loop_walk (LCg.range_walks hh 0 n) Inv (fun i v s h' tk hi hinv hst hv hk E' => ?_) (fun s h' tk hi hk => fin s h' tk hi hk) (i0 _ _ ((Sub.push _ _).trans (Sub.push _ _)) (by rw [Heap.size_push, Heap.size_push])) ?_
  · obtain ⟨t, rfl⟩ := hv
    have e1 : (0 : Int) + ((i + 1 : Nat) : Int) * 1 = ((i + 1 : Nat) : Int) := by omega
    rw [e1] at hst ⊢
    rw [Int.zero_add]
    exact turn i s h' tk t hi hinv hst hk E'
  · have := Heap.get?_push_size (s₁.heap.push { cls := Value.type "range", data := Data.fields #[Value.int 0 s₁.toks, Value.int (↑n) t, Value.int 1 (s₁.toks + 1)] }) (o := { cls := .type "range_iterator", data := .fields #[rawInt 0, rawInt n, rawInt 1] }) rfl
    rw [Heap.size_push] at this
    simpa [IsRangeIter] using this
end
end Mine
end

section
open PySem PySem.W PyProof.Rows PySem.Calls
namespace Mine

/-- a text by its signs -/
def S (l : List Nat) : Str := ⟨l.toArray⟩
theorem S_len (l : List Nat) : (S l).length = l.length := by show l.toArray.size = _; simp
theorem S_inj {a b : List Nat} (h : S a = S b) : a = b := by
  have : (S a).cps.toList = (S b).cps.toList := by rw [h]
  simpa [S] using this
theorem S_add (a b : List Nat) : S a ++ S b = S (a ++ b) := by
  refine Str.ext' ?_
  rw [Str.cps_append]; simp [S]
theorem range_pick (l : List Nat) : ∀ (n a : Nat), a + n ≤ l.length → ((List.range n).map (a + ·)).filterMap (l[·]?) = (l.drop a).take n := by
  intro n
  induction n with
  | zero => intro a _; simp
  | succ n ih =>
    intro a h
    rw [List.range_succ, List.map_append, List.filterMap_append, ih a (by omega)]
    have : l[a + n]? = some l[a + n] := List.getElem?_eq_getElem (by omega)
    simp only [List.map_cons, List.map_nil, List.filterMap_cons, this, List.filterMap_nil]
    have h2 : (l.drop a)[n]? = some l[a + n] := by rw [List.getElem?_drop, this]
    rw [List.take_add_one, h2]; rfl
theorem indices_nn (n a b : Nat) (hab : a ≤ b) (hb : b ≤ n) : Builtin.Str.strSliceIndices (some (a : Int)) (some (b : Int)) 1 n = (List.range (b - a)).map (a + ·) := by
  unfold Builtin.Str.strSliceIndices sliceRange
  have e1 : ¬ ((a : Int) < 0) := by omega
  have e2 : ¬ ((b : Int) < 0) := by omega
  simp only [e1, e2, if_false, show (1 : Int) > 0 by decide, if_true]
  have m1 : max (0 : Int) (min (a : Int) n) = a := by omega
  have m2 : max (0 : Int) (min (b : Int) n) = b := by omega
  rw [m1, m2]
  have hc : (if (a : Int) < b then ((b : Int) - a + 1 - 1) / 1 else 0) = ((b - a : Nat) : Int) := by
    rw [Int.ediv_one]; split <;> omega
  rw [hc, Int.toNat_natCast]
  refine List.map_congr_left fun k _ => ?_
  omega
theorem slice_of (l : List Nat) (lo hi : Option Int) (a b : Nat) (hab : a ≤ b) (hb : b ≤ l.length) (h : Builtin.Str.strSliceIndices lo hi 1 l.length = Builtin.Str.strSliceIndices (some (a : Int)) (some (b : Int)) 1 l.length) :
    Txt.slice (S l) lo hi = S ((l.drop a).take (b - a)) := by
  have hn : (S l).length = l.length := S_len l
  unfold Txt.slice
  rw [hn, h, indices_nn _ _ _ hab hb]
  have hp : ((List.range (b - a)).map (a + ·)).filterMap ((S l).cps[·]?) = (l.drop a).take (b - a) := by
    rw [← range_pick l (b - a) a (by omega)]
    simp [S]
  rw [hp]
  split
  · rename_i hw
    simp at hw
    have h0 : a = 0 := by omega
    have h1 : b = l.length := by omega
    subst h0; subst h1; simp
  · rfl
theorem slice_ab (l : List Nat) (a b : Nat) (hab : a ≤ b) (hb : b ≤ l.length) : Txt.slice (S l) (some (a : Int)) (some (b : Int)) = S ((l.drop a).take (b - a)) := slice_of l _ _ a b hab hb rfl
theorem slice_a (l : List Nat) (a : Nat) (ha : a ≤ l.length) : Txt.slice (S l) (some (a : Int)) none = S (l.drop a) := by
  rw [slice_of l _ _ a l.length ha (Nat.le_refl _)]
  · congr 1; rw [List.take_of_length_le]; simp
  · unfold Builtin.Str.strSliceIndices
    have : ¬ ((l.length : Int) < 0) := by omega
    simp [this]
theorem slice_b (l : List Nat) (b : Nat) (hb : b ≤ l.length) : Txt.slice (S l) none (some (b : Int)) = S (l.take b) := by
  rw [slice_of l _ _ 0 b (Nat.zero_le _) hb]
  · simp
  · have e0 : max (0 : Int) (min 0 (l.length : Int)) = 0 := by omega
    unfold Builtin.Str.strSliceIndices
    simp [e0]
theorem item_at (l : List Nat) (i : Nat) (hi : i < l.length) : Txt.item (S l) (i : Int) = S [l[i]] := by
  have : Txt.charAt (S l) (i : Int) = some l[i] := by
    unfold Txt.charAt
    have : seqIndex? (i : Int) (S l).length = some i := by
      unfold seqIndex?; rw [S_len]
      simp; omega
    rw [this]; simp [S, hi]
  unfold Txt.item; rw [this]; rfl

/-- a token: its place, its kind, its letters -/
structure T3 where
  p : Int
  k : Str
  v : List Nat
def Chain : Int → List T3 → Prop
  | _, [] => True
  | p, t :: r => t.p = p ∧ 1 ≤ t.v.length ∧ t.v.length ≤ 4 ∧ Chain (p + t.v.length) r
def tot (ts : List T3) : Nat := (ts.map fun t => t.v.length).sum
theorem tot_snoc (ts : List T3) (t : T3) : tot (ts ++ [t]) = tot ts + t.v.length := by simp [tot]
theorem Chain.snoc : ∀ {p : Int} {ts : List T3} {t : T3}, Chain p ts → t.p = p + tot ts → 1 ≤ t.v.length → t.v.length ≤ 4 → Chain p (ts ++ [t])
  | p, [], t, _, h, h1, h2 => by simp [Chain, tot] at *; exact ⟨h, h1, h2⟩
  | p, x :: r, t, c, h, h1, h2 => by
    obtain ⟨c1, c2, c3, c4⟩ := c
    refine ⟨c1, c2, c3, Chain.snoc c4 ?_ h1 h2⟩
    rw [h]; simp [tot]; omega

/-- what stands and is not changed -/
abbrev PM := Addr → Option Obj
def DataCls (o : Obj) : Prop := o.cls = .type "list" ∨ o.cls = .type "tuple"
def Frz (I : PM) (h : Heap) : Prop := ∀ b o, I b = some o → h.get? b = some o ∧ DataCls o
def PM.add (I : PM) (a : Addr) (o : Obj) : PM := fun b => if b = a then some o else I b
/-- I' says more than I, and nothing of what h bears -/
def Grows (h : Heap) (I I' : PM) : Prop := (∀ b o, I b = some o → I' b = some o) ∧ ∀ b o, h.get? b = some o → I' b = I b
theorem Grows.refl (h : Heap) (I : PM) : Grows h I I := ⟨fun _ _ e => e, fun _ _ _ => rfl⟩
theorem Grows.trans {h h' : Heap} {I I' I'' : PM} (x : Grows h I I') (y : Grows h' I' I'') (k : ∀ b o, h.get? b = some o → ∃ o', h'.get? b = some o') : Grows h I I'' :=
  ⟨fun b o e => y.1 b o (x.1 b o e), fun b o e => let ⟨_, e'⟩ := k b o e; (y.2 b _ e').trans (x.2 b o e)⟩
theorem Frz.none_new {I : PM} {h : Heap} (F : Frz I h) {a : Addr} (ha : h.get? a = none) : I a = none := by
  cases e : I a with
  | none => rfl
  | some o => have := (F a o e).1; rw [ha] at this; cases this
theorem Frz.add {I : PM} {h' : Heap} {a : Addr} {o : Obj} (F : Frz I h') (e : h'.get? a = some o) (d : DataCls o := by first | exact .inl rfl | exact .inr rfl) : Frz (I.add a o) h' := by
  intro b o' e'
  unfold PM.add at e'
  split at e'
  · rename_i hb; subst hb; cases e'; exact ⟨e, d⟩
  · exact F b o' e'
set_option linter.unusedVariables false in
theorem Grows.add {I : PM} {h : Heap} {a : Addr} {o : Obj} (F : Frz I h) (ha : h.get? a = none) : Grows h I (I.add a o) := by
  refine ⟨fun b o' e => ?_, fun b o' e => ?_⟩
  · unfold PM.add; rw [if_neg]; · exact e
    rintro rfl; rw [F.none_new ha] at e; cases e
  · unfold PM.add; rw [if_neg]; rintro rfl; rw [ha] at e; cases e
theorem Frz.keep {I : PM} {a : Addr} {h h' : Heap} (F : Frz I h) (k : KeepBut a h h') (n : I a = none) : Frz I h' := fun b o e => ⟨k b o (by rintro rfl; rw [n] at e; cases e) (F b o e).1, (F b o e).2⟩
theorem Frz.sub {I : PM} {h h' : Heap} (F : Frz I h) (k : Sub h h') : Frz I h' := fun b o e => ⟨k b o (F b o e).1, (F b o e).2⟩
theorem Frz.new {I : PM} {h : Heap} (F : Frz I h) : I h.objs.size = none := F.none_new (Heap.get?_none_of_le (Nat.le_refl _))

def TokI (I : PM) (v : Value) (t : T3) : Prop := ∃ a n t1 t2 t3, v = .ref a ∧ I a = some { cls := .type "tuple", data := .seq #[.int t.p t1, .str t.k t2, .str (S t.v) t3] n }
theorem TokI.mono {I I' : PM} {v : Value} {t : T3} (x : TokI I v t) (g : ∀ b o, I b = some o → I' b = some o) : TokI I' v t :=
  let ⟨a, n, t1, t2, t3, e, e'⟩ := x; ⟨a, n, t1, t2, t3, e, g _ _ e'⟩
theorem paired_mono {α β : Type} {F G : α → β → Prop} (h : ∀ a b, F a b → G a b) : ∀ {x : List α} {y : List β}, Paired F x y → Paired G x y
  | _, _, .nil => .nil
  | _, _, .cons a b => .cons (h _ _ a) (paired_mono h b)
def ToksI (I : PM) (v : Value) (ts : List T3) : Prop := ∃ a n vs, v = .ref a ∧ I a = some { cls := .type "list", data := .seq (List.toArray vs) n } ∧ Paired (TokI I) vs ts
theorem ToksI.mono {I I' : PM} {v : Value} {t : List T3} (x : ToksI I v t) (g : ∀ b o, I b = some o → I' b = some o) : ToksI I' v t :=
  let ⟨a, n, vs, e, e', p⟩ := x; ⟨a, n, vs, e, g _ _ e', paired_mono (fun _ _ q => q.mono g) p⟩

/-- the state list: the numbers, the place -/
structure StOk (P : Pg) (st nums : Addr) (ns : List Int) : Prop where
  ne : st ≠ nums
  off : P.base.get? st = none
  lo : 3 ≤ ns.length
  hi : ns.length ≤ 27
structure StAt (h : Heap) (st nums : Addr) (ns : List Int) (a : Int) : Prop where
  st : ∃ tk, h.IsList st #[.ref nums, .int a tk]
  nums : ∃ vs : List Value, h.IsList nums vs.toArray ∧ IntsAre vs ns
  pos : 0 ≤ a
theorem isList_at {h h' : Heap} {a : Addr} {items : Array Value} (x : h.IsList a items) (k : ∀ o, h.get? a = some o → h'.get? a = some o) : h'.IsList a items := let ⟨o, e, r⟩ := x; ⟨o, k o e, r⟩
theorem StAt.at' {h h' : Heap} {st nums : Addr} {ns : List Int} {a : Int} (x : StAt h st nums ns a) (k : ∀ b o, (b = st ∨ b = nums) → h.get? b = some o → h'.get? b = some o) : StAt h' st nums ns a :=
  ⟨let ⟨tk, e⟩ := x.st; ⟨tk, isList_at e fun o e => k _ o (.inl rfl) e⟩, let ⟨vs, e, i⟩ := x.nums; ⟨vs, isList_at e fun o e => k _ o (.inr rfl) e, i⟩, x.pos⟩

theorem next_at (P : Pg) {w : World} {A : Around} {E Q : Value → Shared → Prop} {s : Shared} {st nums : Addr} {a many : Int} {mt : Tok} {ns : List Int}
    (hd : A.depth < recursionLimit) (hA : A.handled = none) (hb : Sub P.base s.heap) (so : StOk P st nums ns) (sa : StAt s.heap st nums ns a) (h1 : a < 1000000) (hm : 0 < many)
    (h : ∀ (r : Nat) t h' tk', (r : Int) < many → StAt h' st nums ns (a + 1) → KeepBut st s.heap h' → Sub P.base h' → Q (.int r t) { s with heap := h', toks := tk' }) :
    wpAny (model pw w) A (call (.ref P.fn) [.ref st, .int many mt]) Q E s := by
  obtain ⟨tk, e1⟩ := sa.st
  obtain ⟨vs, e2, hi⟩ := sa.nums
  refine next_call P hd hA hb e1 e2 hi so.lo so.hi so.ne so.off sa.pos h1 hm fun r t h' tk' tk2 hr hr' hst k => ?_
  obtain ⟨n, rfl⟩ := Int.eq_ofNat_of_zero_le hr
  exact h n t h' tk' hr' ⟨⟨_, hst⟩, ⟨vs, isList_at e2 fun o e => k _ o (Ne.symm so.ne) e, hi⟩, by have := sa.pos; omega⟩ k
    fun b o e => k b o (by rintro rfl; rw [so.off] at e; cases e) (hb b o e)
end Mine
end

section
open PySem PySem.W PyProof.Rows PySem.Calls
namespace Mine
section
variable {prog : Program} {w : World} {A : Around} {E : Value → Shared → Prop} {s : Shared} {env : Env}

/-- x.append(e) -/
theorem append_stmt {Q : Flow → Shared → Prop} {pl : Sem Bool} {x : Str} {p ap cp pos : Pos} {e : Expr} {m : Str → Option Value} {l : Addr} {items₀ items : List Value}
    (hn : s.heap.Ns env.locals m) (hx : m x = some (.ref l)) (hl₀ : Lst s.heap l items₀)
    (h : wpAny (model prog w) A (eval e env) (fun v s₁ => Lst s₁.heap l items ∧ items.length ≤ sizeLine ∧ ∀ h', Lst h' l (items ++ [v]) → Heap.SameBut l s₁.heap h' → Q .next { s₁ with heap := h' }) E s)
    (he : starEach [e] env = [(false, eval e env)] := by rfl)
    (hk : env.scope.kind = .function := by rfl) (hlo : env.kindOf x = some .local := by rfl) (hd : (x == ("__debug__" : Str)) = false := by decide)
    (hm : eval (.Call (.Attribute (.Name x p) "append" ap) [e] [] cp) env = (do
      let ov ← eval (.Name x p) env
      standAt ap.atName
      let (f, first) ← holding [ov] (getMethod ov "append" pl)
      callWith cp f first (backTo cp (starEach [e] env)) []) := by rfl)
    (hi : interactive env = false := by rfl) (hsw : swapsWith (.Call (.Attribute (.Name x p) "append" ap) [e] [] cp) none pos.line env = pure false := by rfl) :
    wpAny (model prog w) A (exec (.Expr (.Call (.Attribute (.Name x p) "append" ap) [e] [] cp) pos) env) Q E s := by
  refine wpAny_Expr (MethodCall_ (ldV hn hx ?_ hk hlo hd) hm) hi hsw
  obtain ⟨n, e0⟩ := hl₀
  refine getMethod_list_append e0 rfl rfl ?_
  refine callWith_method1 (args_cons (wpAny_mono h (fun v s₁ h₁ => args_nil ?_) fun _ _ x => x) he) he rfl
  obtain ⟨h1, h2, h3⟩ := h₁
  refine wpAny_list_append_plain (hsz := by simpa using h2) h1 fun h' hp hs => ?_
  exact h3 h' (by have : items.toArray.push v = (items ++ [v]).toArray := by simp
                  rw [this] at hp; exact hp) hs

/-- a slice of a text -/
theorem str_slice {Q : Value → Shared → Prop} {value : Expr} {lower upper : Option Expr} {p pos : Pos}
    (h : wpAny (model prog w) A (eval value env) (fun o s₁ => wpAny (model prog w) A (evalPart lower env) (fun vl s₂ => wpAny (model prog w) A (evalPart upper env) (fun vu s₃ =>
      ∃ x t l u, o = .str x t ∧ vl = partValue l ∧ vu = partValue u ∧ x.length ≤ 1000 ∧
        ∀ t' k, Q (.str (Txt.slice x (l.map (·.1)) (u.map (·.1))) t') { s₃ with heap := s₃.heap.push { cls := .type "slice", data := .fields #[vl, vu, .none] }, toks := k }) E s₂) E s₁) E s) :
    wpAny (model prog w) A (eval (.Subscript value (.Slice lower upper none p) pos) env) Q E s := by
  refine Subscript_ (wpAny_mono h (fun o s₁ h₁ => wpAny_Slice (wpAny_mono h₁ (fun vl s₂ h₂ => wpAny_mono h₂ (fun vu s₃ h₃ => ?_) fun _ _ e => e) fun _ _ e => e)) fun _ _ e => e)
  obtain ⟨x, t, l, u, rfl, rfl, rfl, hx, hQ⟩ := h₃
  rw [evalPart_none]
  refine wpAny_pure (tail_any (typeIs_str _ x t) F.slot_str_getitem.lookup (wpAny_getItem_str_slice (l := l) (u := u) (st := none) ⟨_, Heap.get?_push_size _ rfl, rfl, rfl⟩ rfl ?_) rfl)
  refine post_val_or_str ⟨?_, fun t' k => ?_⟩
  · exact Nat.le_trans (Txt.slice_le x _ _) (by unfold sizeLine; omega)
  · exact hQ t' k
/-- a sign of a text -/
theorem str_item {Q : Value → Shared → Prop} {value slice : Expr} {l : List Nat} {t u : Tok} {i : Nat} (hi : i < l.length) (hl : l.length ≤ 1000)
    (h : Q (.str (S [l[i]]) s.toks) { s with toks := s.toks + 1 })
    (hs : subscripted slice false (.str (S l) t) (.int i u) = operate [.str (S l) t, .int i u] (getItem (.str (S l) t) (.int i u)) := by with_unfolding_all rfl) :
    wpAny (model prog w) A (subscriptTail value slice (.str (S l) t) (.int i u)) Q E s := by
  refine tail_any (typeIs_str _ _ t) F.slot_str_getitem.lookup (SB.getItem ?_ ?_ (by rw [item_at l i hi]; exact h)) hs
  · unfold fitsSsize; simp; omega
  · exact charAt_isSome (by rw [S_len]; omega) (by rw [S_len]; omega)

theorem str_itemX {Q : Value → Shared → Prop} {value slice : Expr} {x : Str} {l : List Nat} {t u : Tok} {i : Nat} (hx : x = S l) (hi : i < l.length) (hl : l.length ≤ 1000)
    (h : Q (.str (S [l[i]]) s.toks) { s with toks := s.toks + 1 })
    (hs : ∀ x : Str, subscripted slice false (.str x t) (.int i u) = operate [.str x t, .int i u] (getItem (.str x t) (.int i u)) := by intro _; with_unfolding_all rfl) :
    wpAny (model prog w) A (subscriptTail value slice (.str x t) (.int i u)) Q E s := by subst hx; exact str_item hi hl h (hs _)
/-- x, y = (e1, e2), behind the two values -/
theorem swap2 {R : Shared → Prop} {n1 n2 : Str} {v1 v2 : Value} {m : Str → Option Value} (hh : A.handled = none) (hn : s.heap.Ns env.locals m)
    (h : ∀ h' tk, h'.Ns env.locals (fun x => if x = n1 then some v1 else if x = n2 then some v2 else m x) → KeepBut env.locals s.heap h' → R { s with heap := h', toks := tk })
    (l1 : env.kindOf n1 = some .local := by rfl) (l2 : env.kindOf n2 = some .local := by rfl) (hp : (env.scope.kind == .class || (env.scope.kind == .module && env.locals != env.globals)) = false := by rfl) :
    wpAny (model prog w) A (newTuple [v1, v2]) (fun v s₁ => wpAny (model prog w) A (unpackItems v (List.length [n1, n2]) none) (fun items s₂ =>
      wpAny (model prog w) A (assignInOrder ((List.reverse [n1, n2]).map fun n => bindName env n) items.reverse) (fun _ s' => R s') E s₂) E s₁) E s := by
  refine wpAny_newObj_type ?_
  refine unpackItems_tuple (items := #[v1, v2]) hh ⟨_, Heap.get?_push_size _ rfl, rfl, _, rfl⟩ fun h₂ x₂ => ?_
  have k₂ : Sub s.heap h₂ := (Sub.push _ _).trans (Sub.ext x₂)
  refine wpAny_bind (wpAny_holding (wpAny_bindName (wpAny_storeName_local l2 (hn.keeps k₂) (fun h₃ hn₃ s₃ => ?_) hp)))
  refine wpAny_bind (wpAny_holding (wpAny_bindName (wpAny_storeName_local l1 hn₃ (fun h₄ hn₄ s₄ => ?_) hp)))
  exact wpAny_pure (h h₄ _ hn₄ (k₂.keepBut.trans ((KeepBut.of_same s₃).trans (.of_same s₄))))
end
theorem ms {m : Str → Option Value} {x y : Str} {v w : Value} (e : m x = some w) (h : x ≠ y := by decide) : (fun z => if z = y then some v else m z) x = some w := (if_neg h).trans e
def forBody : Stmt → List Stmt
  | .For _ _ b _ _ => b
  | _ => []
def stmtA (k i : Nat) : Stmt := nth (bodyA k) i (.Pass default)
def KeepL (l : List Addr) (h h' : Heap) : Prop := ∀ b o, b ∉ l → h.get? b = some o → h'.get? b = some o
theorem KeepL.refl (l : List Addr) (h : Heap) : KeepL l h h := fun _ _ _ e => e
theorem KeepL.trans {l : List Addr} {a b c : Heap} (x : KeepL l a b) (y : KeepL l b c) : KeepL l a c := fun i o n e => y i o n (x i o n e)
theorem KeepBut.toL {l : List Addr} {a : Addr} {h h' : Heap} (x : KeepBut a h h') (m : a ∈ l := by simp) : KeepL l h h' := fun b o n e => x b o (fun q => n (q ▸ m)) e
theorem Sub.toL {l : List Addr} {h h' : Heap} (x : Sub h h') : KeepL l h h' := fun b o _ e => x b o e
theorem same_toL {l : List Addr} {a : Addr} {h h' : Heap} (x : Heap.SameBut a h h') (m : a ∈ l := by simp) : KeepL l h h' := (KeepBut.of_same x).toL m
theorem StAt.ne_ns {h : Heap} {st nums L : Addr} {ns : List Int} {a : Int} {m : Str → Option Value} (x : StAt h st nums ns a) (n : h.Ns L m) : st ≠ L ∧ nums ≠ L := by
  obtain ⟨o, es, ep, e', d, _⟩ := n
  obtain ⟨tk, o1, q1, _, n1, d1⟩ := x.st
  obtain ⟨vs, ⟨o2, q2, _, n2, d2⟩, _⟩ := x.nums
  refine ⟨?_, ?_⟩
  · rintro rfl; rw [q1] at e'; cases e'; rw [d1] at d; cases d
  · rintro rfl; rw [q2] at e'; cases e'; rw [d2] at d; cases d
theorem Frz.keepL {I : PM} {l : List Addr} {h h' : Heap} (F : Frz I h) (k : KeepL l h h') (n : ∀ a ∈ l, I a = none) : Frz I h' :=
  fun b o e => ⟨k b o (fun q => by rw [n b q] at e; cases e) (F b o e).1, (F b o e).2⟩
theorem Sub.keepL {l : List Addr} {b h h' : Heap} (x : Sub b h) (k : KeepL l h h') (n : ∀ a ∈ l, b.get? a = none) : Sub b h' :=
  fun i o e => k i o (fun q => by rw [n i q] at e; cases e) (x i o e)
theorem Lst.keepL {l : List Addr} {h h' : Heap} {a : Addr} {items : List Value} (x : Lst h a items) (k : KeepL l h h') (n : a ∉ l) : Lst h' a items := x.at fun o e => k a o n e
theorem ns_keepL {l : List Addr} {h h' : Heap} {a : Addr} {m : Str → Option Value} (x : h.Ns a m) (k : KeepL l h h') (n : a ∉ l) : h'.Ns a m := x.at' fun o e => k a o n e
theorem StAt.keepL {l : List Addr} {h h' : Heap} {st nums : Addr} {ns : List Int} {a : Int} (x : StAt h st nums ns a) (k : KeepL l h h') (n : st ∉ l) (n' : nums ∉ l) : StAt h' st nums ns a :=
  x.at' fun b o hb e => k b o (by rcases hb with rfl | rfl <;> assumption) e
theorem KeepBut.one {a : Addr} {h h' : Heap} (x : KeepBut a h h') : KeepL [a] h h' := x.toL
theorem same_one {a : Addr} {h h' : Heap} (x : Heap.SameBut a h h') : KeepL [a] h h' := same_toL x
theorem Sub.none {h h' : Heap} (x : Sub h h') : KeepL [] h h' := x.toL
theorem KeepL.sub {h h' : Heap} (x : KeepL [] h h') : Sub h h' := fun b o e => x b o (by simp) e
theorem KeepL.mono {l l' : List Addr} {h h' : Heap} (x : KeepL l h h') (s : ∀ a ∈ l, a ∈ l') : KeepL l' h h' := fun b o n e => x b o (fun q => n (s b q)) e
end Mine
end

section
open PySem PySem.W PyProof.Rows PySem.Calls
namespace Mine
def abc : List Nat := [97, 98, 99, 100, 101, 102, 103, 104]
theorem abc_eq : Str.ofString "abcdefgh" = S abc := by decide +kernel
def knts : List Nat := [75, 78, 84, 83]
theorem knts_eq : Str.ofString "KNTS" = S knts := by decide +kernel
/-- one turn of the loop of _law_tokens -/
theorem tokens_turn (P : Pg) {w : World} {A : Around} {E : Value → Shared → Prop} {Q : Flow → Shared → Prop} {s : Shared} {st nums L fd : Addr} {a pl : Int} {ns : List Int} {I : PM} {m : Str → Option Value} {vs : List Value} {cd : Value} {pt : Tok}
    (hd : A.depth < recursionLimit) (hA : A.handled = none) (hb : Sub P.base s.heap) (so : StOk P st nums ns) (sa : StAt s.heap st nums ns a) (h1 : a < 900000)
    (FI : Frz I s.heap) (hIst : I st = none) (hIL : I L = none) (hIf : I fd = none) (hn : s.heap.Ns L m) (hl : Lst s.heap fd vs) (hsz : vs.length < 1000) (hsf : st ≠ fd) (hnf : nums ≠ fd)
    (m1 : m "state" = some (.ref st)) (m2 : m "found" = some (.ref fd)) (m3 : m "place" = some (.int pl pt)) (hLb : P.base.get? L = none) (hfb : P.base.get? fd = none)
    (h : ∀ h' tk I' v t m' pt', Grows s.heap I I' → Frz I' h' → TokI I' v t → t.p = pl → 1 ≤ t.v.length → t.v.length ≤ 4 → StAt h' st nums ns (a + 3) → h'.Ns L m' → Lst h' fd (vs ++ [v]) →
      m' "state" = some (.ref st) → m' "found" = some (.ref fd) → m' "place" = some (.int (pl + t.v.length) pt') → KeepL [st, L, fd] s.heap h' → Q .next { s with heap := h', toks := tk }) :
    wpAny (model pw w) A (execs (forBody (stmtA 5 1)) (envOf (nameA 5) (scopeA 5) L P.ft cd)) Q E s := by
  obtain ⟨hstL, hnuL⟩ := sa.ne_ns hn
  have hfL := hl.ns_ne hn
  -- value = 'abcdefgh'[next:][:1 + next]
  refine wpAny_execs_cons (wpAny_Assign_Name (str_slice (str_slice (Constant_str (callF2 (P := P) (k := 3) hb P.hfn rfl (ldV hn m1 (wpAny_Constant_int ?_)))))))
  refine ⟨hb, next_at P hd hA hb so sa (by omega) (by decide) fun r t h₁ tk₁ hr sa₁ k₁ hb₁ => ?_⟩
  refine wpAny_pure ⟨S abc, _, some ((r : Int), t), none, by rw [abc_eq], rfl, rfl, by rw [S_len]; decide, fun t' k => ?_⟩
  have hr4 : r < 4 := by omega
  refine wpAny_pure ?_
  dsimp only
  refine wpAny_BinOp (wpAny_Constant_int (callF2 (P := P) (k := 3) (hb₁.trans (Sub.push _ _)) P.hfn rfl (ldV ((hn.at' fun o e => k₁ _ o (Ne.symm hstL) e).push _) m1 (wpAny_Constant_int ?_))))
  refine ⟨hb₁.trans (Sub.push _ _), next_at P hd hA (hb₁.trans (Sub.push _ _)) so (sa₁.at' fun b o _ e => Heap.get?_push_of_some _ e) (by omega) (by decide) fun r' t'' h₂ tk₂ hr' sa₂ k₂ hb₂ => ?_⟩
  have hr4' : r' < 4 := by omega
  refine add_int ?_
  dsimp only
  refine ⟨S (abc.drop r), t', none, some ((1 : Int) + r', _), ?_, rfl, rfl, by rw [S_len, List.length_drop]; have : abc.length = 8 := rfl; omega, fun t₃ k₃ => ?_⟩
  · show Value.str (Txt.slice (S abc) (some (r : Int)) none) t' = _
    rw [slice_a abc r (by have : abc.length = 8 := rfl; omega)]
  have hsl : Txt.slice (S (abc.drop r)) none (some ((1 : Int) + r')) = S ((abc.drop r).take (1 + r')) := by
    have : (1 : Int) + r' = ((1 + r' : Nat) : Int) := by omega
    rw [this]
    exact slice_b _ _ (by rw [List.length_drop]; have : abc.length = 8 := rfl; omega)
  have hvl : ((abc.drop r).take (1 + r')).length = 1 + r' := by
    rw [List.length_take, List.length_drop]; have : abc.length = 8 := rfl; omega
  dsimp only [Option.map]
  rw [hsl]
  generalize (abc.drop r).take (1 + r') = val at *
  have K₂ : KeepL [st, L, fd] s.heap h₂ := (k₁.toL.trans (Sub.push _ _).toL).trans k₂.toL
  generalize hH : h₂.push _ = H₂
  have hn₂ : H₂.Ns L m := by rw [← hH]; exact (((hn.at' fun o e => k₁ _ o (Ne.symm hstL) e).push _).at' fun o e => k₂ _ o (Ne.symm hstL) e).push _
  have S₂ : Sub h₂ H₂ := by rw [← hH]; exact Sub.push _ _
  have K₃ : KeepL [st, L, fd] s.heap H₂ := K₂.trans S₂.toL
  have sa₃ := sa₂.at' (h' := H₂) fun b o _ e => S₂ b o e
  have hl₃ : Lst H₂ fd vs := by
    refine hl.at fun o e => S₂ _ _ (k₂ _ o (Ne.symm hsf) (Heap.get?_push_of_some _ (k₁ _ o (Ne.symm hsf) e)))
  have hb₃ : Sub P.base H₂ := hb₂.trans S₂
  have F₃ : Frz I H₂ := FI.keepL K₃ (by simp [hIst, hIL, hIf])
  clear hH
  refine wpAny_storeName_local rfl hn₂ fun h₄ hn₄ s₄ => ?_
  replace s₄ : Heap.SameBut L H₂ h₄ := s₄
  replace hn₄ : h₄.Ns L _ := hn₄
  have K₄ := K₃.trans (same_toL s₄)
  have F₄ : Frz I h₄ := FI.keepL K₄ (by simp [hIst, hIL, hIf])
  have hb₄ : Sub P.base h₄ := hb.keepL K₄ (by simp [so.off, hLb, hfb])
  have sa₄ : StAt h₄ st nums ns (a + 1 + 1) := sa₃.keepL (same_one s₄) (by simp; exact hstL) (by simp; exact hnuL)
  have hl₄ : Lst h₄ fd vs := hl₃.keepL (same_one s₄) (by simp; exact hfL)
  dsimp only
  clear K₂ K₃ sa₃ hl₃ hb₃ F₃ s₄ hn₂ S₂ hb₂ sa₂ k₂ hb₁ sa₁ k₁
  -- found.append((place, 'KNTS'[next], value))
  refine wpAny_execs_cons (append_stmt (items := vs) hn₄ (ms m2) hl₄ ?_)
  refine Tuple_ (spliced_cons (ldV hn₄ (ms m3) (spliced_cons (Subscript_ (Constant_str (callF2 (P := P) (k := 3) hb₄ P.hfn rfl (ldV hn₄ (ms m1) (wpAny_Constant_int ?_))))))))
  refine ⟨hb₄, next_at P hd hA hb₄ so sa₄ (by omega) (by decide) fun r₂ t₂ h₅ tk₅ hr₂ sa₅ k₅ hb₅ => ?_⟩
  have hr₂4 : r₂ < 4 := by omega
  refine str_itemX (l := knts) knts_eq hr₂4 (by decide) ?_
  generalize knts[r₂] = kc
  dsimp only
  have hn₅ : h₅.Ns L _ := hn₄.at' fun o e => k₅ _ o (Ne.symm hstL) e
  refine spliced_cons (ldV hn₅ (if_pos rfl) (spliced_nil (wpAny_newObj_type ?_)))
  have F₅ : Frz I h₅ := F₄.keep k₅ hIst
  have hl₅ : Lst h₅ fd vs := hl₄.keep k₅ (Ne.symm hsf)
  generalize hH : h₅.push _ = H₅
  have S₅ : Sub h₅ H₅ := by rw [← hH]; exact Sub.push _ _
  refine ⟨hl₅.sub S₅, by unfold sizeLine; omega, fun h₆ hl₆ s₆ => ?_⟩
  dsimp only at s₆ ⊢
  replace hl₆ : Lst h₆ fd (vs ++ [.ref h₅.objs.size]) := hl₆
  have e₅ : H₅.get? h₅.objs.size = some { cls := .type "tuple", data := .seq #[.int pl pt, .str (S [kc]) tk₅, .str (S val) t₃] } := by rw [← hH]; exact Heap.get?_push_size _ rfl
  have n₅ : h₅.get? h₅.objs.size = none := Heap.get?_none_of_le (Nat.le_refl _)
  clear hH
  replace k₅ : KeepBut st h₄ h₅ := k₅
  generalize h₅.objs.size = ta at *
  have K₆ : KeepL [st, L, fd] s.heap h₆ := ((K₄.trans k₅.toL).trans S₅.toL).trans (same_toL s₆)
  have nta : s.heap.get? ta = none := by
    cases e : s.heap.get? ta with
    | none => rfl
    | some o =>
      exfalso
      by_cases q : ta ∈ [st, L, fd]
      · simp only [List.mem_cons, List.not_mem_nil, or_false] at q
        rcases q with rfl | rfl | rfl
        · obtain ⟨_, o', e', _⟩ := sa₅.st; rw [n₅] at e'; cases e'
        · obtain ⟨o', _, _, e', _⟩ := hn₅; rw [n₅] at e'; cases e'
        · obtain ⟨_, e'⟩ := hl₅; rw [n₅] at e'; cases e'
      · rw [(K₄.trans k₅.toL) ta o q e] at n₅; cases n₅
  have tf : ta ≠ fd := by rintro rfl; obtain ⟨_, e'⟩ := hl₅; rw [n₅] at e'; cases e'
  have tL : ta ≠ L := by rintro rfl; obtain ⟨o', _, _, e', _⟩ := hn₅; rw [n₅] at e'; cases e'
  have e₆ := s₆.extBut ta _ tf e₅
  have F₆ : Frz I h₆ := FI.keepL K₆ (by simp [hIst, hIL, hIf])
  have hb₆ : Sub P.base h₆ := hb.keepL K₆ (by simp [so.off, hLb, hfb])
  have hn₆ : h₆.Ns L _ := (hn₅.keeps S₅).sameBut s₆ (Ne.symm hfL)
  have sa₆ : StAt h₆ st nums ns (a + 1 + 1 + 1) := (sa₅.at' fun b o _ e => S₅ b o e).keepL (same_one s₆) (by simp; exact hsf) (by simp; exact hnf)
  -- place = place + len(value)
  refine wpAny_execs_cons (wpAny_Assign_Name (wpAny_BinOp (ldV hn₆ (ms m3) (callB1 (P := P) hb₆ PyProof.Rows.Boot.«len» (ldV hn₆ (if_pos rfl) (PySem.P.len_str (by rw [S_len]; omega) (add_int ?_)))))))
  refine wpAny_storeName_local rfl hn₆ fun h₇ hn₇ s₇ => ?_
  replace s₇ : Heap.SameBut L h₆ h₇ := s₇
  replace hn₇ : h₇.Ns L _ := hn₇
  have K₇ := K₆.trans (same_toL s₇)
  rw [S_len] at hn₇
  refine wpAny_execs_nil ?_
  refine h h₇ _ (I.add ta _) _ ⟨pl, S [kc], val⟩ _ _ (Grows.add FI nta) ((FI.keepL K₇ (by simp [hIst, hIL, hIf])).add (s₇.extBut _ _ tL e₆)) ⟨ta, _, _, _, _, rfl, by unfold PM.add; rw [if_pos rfl]⟩ rfl
    (by show 1 ≤ val.length; omega) (by show val.length ≤ 4; omega) ?_ hn₇ (hl₆.keepL (same_one s₇) (by simp; exact hfL)) (ms m1) (ms m2) (if_pos rfl) K₇
  exact (show a + 1 + 1 + 1 = a + 3 by omega) ▸ sa₆.keepL (same_one s₇) (by simp; exact hstL) (by simp; exact hnuL)
end Mine
end

section
open PySem PySem.W PyProof.Rows PySem.Calls
namespace Mine
theorem paired_snoc {α β : Type} {F : α → β → Prop} {a : α} {b : β} {l₁ : List α} {l₂ : List β} (x : Paired F l₁ l₂) (h : F a b) : Paired F (l₁ ++ [a]) (l₂ ++ [b]) := x.snoc h
theorem tokens_call (P : Pg) {w : World} {A : Around} {E Q : Value → Shared → Prop} {s : Shared} {st nums : Addr} {a start : Int} {many : Nat} {mt u : Tok} {ns : List Int} {I : PM}
    (hd : A.depth + 1 < recursionLimit) (hA : A.handled = none) (hb : Sub P.base s.heap) (so : StOk P st nums ns) (sa : StAt s.heap st nums ns a) (h1 : a < 800000) (hm : many < 1000)
    (FI : Frz I s.heap) (hIst : I st = none)
    (h : ∀ I' v ts h' tk' a', Grows s.heap I I' → Frz I' h' → ToksI I' v ts → Chain start ts → ts.length = many → a' ≤ a + 3 * many → StAt h' st nums ns a' → KeepBut st s.heap h' → Q v { s with heap := h', toks := tk' }) :
    wpAny (model pw w) A (call (.ref P.ft) [.ref st, .int many mt, .int start u]) Q E s := by
  obtain ⟨o, pm, cd, doc, ho, hdat, hcd⟩ := P.hft.obj
  refine wpAny_call (call_plain_ret (Nat.lt_of_succ_lt hd) (hb _ _ ho) hdat (P.nolimit.keeps hb) (hcd.keeps hb)
    (binds := [(Str.ofString "state", .ref st), (Str.ofString "many", .int many mt), (Str.ofString "start", .int start u)]) rfl (locs rfl) (fun h₁ F => ?_))
  have hn₁ := F.ns
  have k₁ : Sub s.heap h₁ := F.keep
  have hLf : s.heap.get? s.heap.objs.size = none := Heap.get?_none_of_le (Nat.le_refl _)
  generalize s.heap.objs.size = L at *
  have ne_L : ∀ {b o}, s.heap.get? b = some o → b ≠ L := fun e q => by rw [q, hLf] at e; cases e
  have hA' : (A.deeper (envOf (nameA 5) (scopeA 5) L P.ft cd)).handled = none := hA
  have hd' : (A.deeper (envOf (nameA 5) (scopeA 5) L P.ft cd)).depth < recursionLimit := hd
  have hLb : P.base.get? L = none := by
    cases e : P.base.get? L with
    | none => rfl
    | some o => have := hb L o e; rw [hLf] at this; cases this
  -- found, place = ([], start)
  refine wpAny_execs_cons (Assign_Tuple_swapped (names := [Str.ofString "found", Str.ofString "place"]) (Tuple_ (spliced_cons (List_ (spliced_nil (wpAny_newObj_type ?_))))))
  refine spliced_cons (ldV (hn₁.push _) rfl (spliced_nil ?_))
  dsimp only
  refine swap2 hA' (hn₁.push _) fun h₂ tk₂ hn₂ k₂ => ?_
  dsimp only at k₂ hn₂ ⊢
  have e_fd : (h₁.push { cls := .type "list", data := .seq #[] }).get? h₁.objs.size = some { cls := .type "list", data := .seq #[] } := Heap.get?_push_size _ rfl
  have n_fd : h₁.get? h₁.objs.size = none := Heap.get?_none_of_le (Nat.le_refl _)
  generalize h₁.objs.size = fd at *
  replace k₂ : KeepBut L (h₁.push { cls := .type "list", data := .seq #[] }) h₂ := k₂
  replace hn₂ : h₂.Ns L _ := hn₂
  have fL : fd ≠ L := by rintro rfl; obtain ⟨o', _, _, e', _⟩ := hn₁; rw [n_fd] at e'; cases e'
  have K₂ : KeepBut L s.heap h₂ := (k₁.trans (Sub.push _ _)).keepBut.trans k₂
  have up : ∀ {b o}, s.heap.get? b = some o → h₂.get? b = some o := fun e => K₂ _ _ (ne_L e) e
  have S₂ : Sub s.heap h₂ := fun b o e => up e
  have l₂ : Lst h₂ fd [] := ⟨0, k₂ _ _ fL e_fd⟩
  have hb₂ : Sub P.base h₂ := hb.trans S₂
  have nfd : s.heap.get? fd = none := by
    cases e : s.heap.get? fd with
    | none => rfl
    | some o => rw [k₁ _ _ e] at n_fd; cases n_fd
  have hfb : P.base.get? fd = none := by
    cases e : P.base.get? fd with
    | none => rfl
    | some o => have := hb fd o e; rw [nfd] at this; cases this
  have sa₂ := sa.at' (h' := h₂) fun b o _ e => up e
  obtain ⟨hstL, hnuL⟩ := sa₂.ne_ns hn₂
  have hsf : st ≠ fd := by rintro rfl; obtain ⟨_, o', e', _⟩ := sa.st; rw [nfd] at e'; cases e'
  have hnf : nums ≠ fd := by rintro rfl; obtain ⟨_, ⟨o', e', _⟩, _⟩ := sa.nums; rw [nfd] at e'; cases e'
  clear hn₁ k₁ e_fd n_fd F
  -- for turn in range(many)
  refine wpAny_execs_cons (for_range (P := P) hA' hb₂ (ldV hn₂ rfl ⟨many, mt, rfl, by omega, ?_⟩))
  dsimp only
  have itn : ∀ {a}, h₂.objs.size + 1 ≤ a → h₂.get? a = none := fun q => Heap.get?_none_of_le (Nat.le_of_succ_le q)
  generalize hIt : h₂.objs.size + 1 = It
  have It2 : h₂.get? It = none := itn (Nat.le_of_eq hIt)
  have It0 : s.heap.get? It = none := by
    cases e : s.heap.get? It with
    | none => rfl
    | some o => rw [up e] at It2; cases It2
  have ItL : It ≠ L := by rintro rfl; obtain ⟨o', _, _, e', _⟩ := hn₂; rw [It2] at e'; cases e'
  have Itf : It ≠ fd := by rintro rfl; obtain ⟨_, e'⟩ := l₂; rw [It2] at e'; cases e'
  have Its : It ≠ st := by rintro rfl; obtain ⟨_, o', e', _⟩ := sa.st; rw [It0] at e'; cases e'
  have Itn : It ≠ nums := by rintro rfl; obtain ⟨_, ⟨o', e', _⟩, _⟩ := sa.nums; rw [It0] at e'; cases e'
  clear itn
  have hItb : P.base.get? It = none := by
    cases e : P.base.get? It with
    | none => rfl
    | some o => have := hb It o e; rw [It0] at this; cases this
  refine ⟨fun i s' => ∃ I' vs ts tk h' m' a' pt, s' = { s with heap := h', toks := tk } ∧ Grows s.heap I I' ∧ Frz I' h' ∧ Lst h' fd vs ∧ Paired (TokI I') vs ts ∧ Chain start ts ∧ ts.length = i ∧ a' ≤ a + 3 * i ∧ StAt h' st nums ns a' ∧
    KeepBut st s.heap h' ∧ h'.Ns L m' ∧ m' "state" = some (.ref st) ∧ m' "found" = some (.ref fd) ∧ m' "place" = some (.int (start + tot ts) pt) ∧ I' L = none ∧ I' fd = none ∧ I' It = none ∧ I' st = none, ?_, ?_, ?_⟩
  · intro h' tk S hsz
    refine ⟨I, [], [], tk, h', _, a, u, rfl, Grows.refl _ _, (FI.sub S₂).sub S, l₂.sub S, .nil, trivial, rfl, by omega, sa₂.at' fun b o _ e => S b o e, (S₂.trans S).keepBut, hn₂.keeps S, rfl, rfl, ?_,
      FI.none_new hLf, FI.none_new nfd, FI.none_new It0, hIst⟩
    · show some (Value.int start u) = _
      simp [tot]
  · rintro i s' h' tk t hi ⟨I', vs, ts, tk₁, h₁, m', a', pt, rfl, G, F', hl, hp, hc, hlen, ha', sa', K', hn', m1, m2, m3, IL, If, II, Is⟩ hit k' E'
    dsimp only at k' ⊢
    refine wpAny_of_eq (rfl : letOwnedTupleGo (.Name "turn" _) (.ref It) _ = pure ()) ?_
    have hn'' : h'.Ns L m' := hn'.at' fun o e => k' _ o (Ne.symm ItL) e
    refine wpAny_assign_Name (wpAny_storeName_local rfl hn'' fun h₃ hn₃ s₃ => ?_)
    replace s₃ : Heap.SameBut L h' h₃ := s₃
    replace hn₃ : h₃.Ns L _ := hn₃
    dsimp only
    have KK : KeepL [It, L] h₁ h₃ := k'.toL.trans (same_toL s₃)
    have slen : vs.length = ts.length := hp.length
    have hb₃ : Sub P.base h₃ := (hb.keepL K'.one (by simp [so.off])).keepL KK (by simp [hItb, hLb])
    have sa₃ := sa'.keepL KK (by simp; exact ⟨Ne.symm Its, hstL⟩) (by simp; exact ⟨Ne.symm Itn, hnuL⟩)
    have l₃ := hl.keepL KK (by simp; exact ⟨Ne.symm Itf, fL⟩)
    have i₃ : IsRangeIter h₃ It ((i + 1 : Nat) : Int) ((many : Int) - ((i + 1 : Nat) : Int)) 1 := s₃.extBut It _ ItL hit
    refine tokens_turn P hd' hA' hb₃ so sa₃ (by omega) (F'.keepL KK (by simp [II, IL])) Is IL If hn₃ l₃ (by omega) hsf hnf (ms m1) (ms m2) (ms m3) hLb hfb ?_
    intro h₄ tk₄ I'' v t' m'' pt' G' F'' tI tp tl1 tl4 sa₄ hn₄ hl₄ q1 q2 q3 K₄
    dsimp only at K₄ G' ⊢
    have i₄ : IsRangeIter h₄ It ((i + 1 : Nat) : Int) ((many : Int) - ((i + 1 : Nat) : Int)) 1 := K₄ It _ (by simp; exact ⟨Its, ItL, Itf⟩) i₃
    refine ⟨i₄, I'', vs ++ [v], ts ++ [t'], tk₄, h₄, m'', _, pt', rfl, G.trans G' ?_, F'', hl₄, paired_snoc (paired_mono (fun _ _ q => q.mono G'.1) hp) tI, hc.snoc tp tl1 tl4, by simp [hlen], ?_, sa₄, ?_, hn₄, q1, q2, ?_, ?_, ?_, ?_, ?_⟩
    · intro b o e
      by_cases q : b = st
      · subst q; obtain ⟨_, o', e', _⟩ := sa₃.st; exact ⟨o', e'⟩
      · exact ⟨o, KK b o (by simp; exact ⟨(by rintro rfl; rw [It0] at e; cases e), ne_L e⟩) (K' b o q e)⟩
    · omega
    · intro b o q e
      exact K₄ b o (by simp; exact ⟨q, ne_L e, by rintro rfl; rw [nfd] at e; cases e⟩) (KK b o (by simp; exact ⟨(by rintro rfl; rw [It0] at e; cases e), ne_L e⟩) (K' b o q e))
    · rw [q3, tot_snoc]; congr 2; omega
    · obtain ⟨o', _, _, e', _⟩ := hn₃; exact (G'.2 L o' e').trans IL
    · obtain ⟨_, e'⟩ := l₃; exact (G'.2 fd _ e').trans If
    · exact (G'.2 It _ i₃).trans II
    · obtain ⟨_, o', e', _⟩ := sa₃.st; exact (G'.2 st o' e').trans Is
  · rintro s' h' tk ⟨I', vs, ts, tk₁, h₁, m', a', pt, rfl, G, F', hl, hp, hc, hlen, ha', sa', K', hn', m1, m2, m3, IL, If, II, Is⟩ k'
    dsimp only at k' ⊢
    have hn'' : h'.Ns L m' := hn'.at' fun o e => k' _ o (Ne.symm ItL) e
    refine wpAny_execs_cons (wpAny_Return_some (ldV hn'' m2 ?_))
    obtain ⟨n, e₁⟩ := hl
    have e₂ := k' fd _ (Ne.symm Itf) e₁
    refine h (I'.add fd _) (.ref fd) ts h' _ a' ⟨fun b o e => ?_, fun b o e => ?_⟩ ((F'.keep k' II).add e₂) ⟨fd, n, vs, rfl, by unfold PM.add; rw [if_pos rfl], paired_mono (fun _ _ q => q.mono fun b o e => ?_) hp⟩ hc hlen ha' ?_ ?_
    · unfold PM.add; rw [if_neg]; · exact G.1 b o e
      rintro rfl; rw [FI.none_new nfd] at e; cases e
    · unfold PM.add; rw [if_neg]; · exact G.2 b o e
      rintro rfl; rw [nfd] at e; cases e
    · exact sa'.at' fun b o hb e => k' b o (by rcases hb with rfl | rfl; exact Ne.symm Its; exact Ne.symm Itn) e
    · intro b o q e
      exact k' b o (by rintro rfl; rw [It0] at e; cases e) (K' b o q e)
    · unfold PM.add; rw [if_neg]; · exact e
      rintro rfl; rw [If] at e; cases e
end Mine
end

section
open PySem PySem.W PyProof.Rows PySem.Calls
namespace Mine
section
variable {prog : Program} {w : World} {A : Around} {E : Value → Shared → Prop} {s : Shared} {it l : Addr} {i : Nat} {items : Array Value} {x : Value}

theorem iter_list {Q : Value → Shared → Prop} (hl : s.heap.IsList l items)
    (h : Q (.ref s.heap.objs.size) { s with heap := s.heap.push { cls := .type "list_iterator", data := .fields #[.ref l, .int 0 0] } }) :
    wpAny (model prog w) A (call (.builtin "iter") [.ref l]) Q E s := by
  refine call_function_entry (by decide +kernel) (by decide +kernel) kdk_entry_iter (kdk_args_iter _) ?_
  unfold Builtin.«iter»
  refine wpAny_bind (m := someArgs "iter" 1 2 _) (wpAny_of_eq (a := [Value.ref l]) (by first | rfl | kernel_rfl!) ?_)
  show wpAny _ _ (pyIter (.ref l) >>= _) _ _ _
  exact wpAny_bind (wpAny_pyIter_list hl (wpAny_pure ⟨_, rfl, h⟩))

theorem next2_item {Q : Value → Shared → Prop} {d : Value} (hit : s.heap.IsListIter it l i) (hl : s.heap.IsList l items) (hx : items[i]? = some x)
    (h : ∀ h', h'.IsListIter it l (i + 1) → Heap.SameBut it s.heap h' → Q x { s with heap := h' }) :
    wpAny (model prog w) A (call (.builtin "next") [.ref it, d]) Q E s := by
  refine call_function_entry (by decide +kernel) (by decide +kernel) kdk_entry_next (kdk_args_next2 _ _) ?_
  unfold Builtin.«next»
  refine wpAny_bind (m := someArgs "next" 1 2 _) (wpAny_of_eq (a := [Value.ref it, d]) (by first | rfl | kernel_rfl!) ?_)
  dsimp only
  refine wpAny_bind (wpAny_specialOf (name := Str.ofString "__next__") hit.typeIs slot_listiter_next.lookup ?_)
  refine wpAny_ite_split (fun hab => absurd hab (by decide)) (fun _ => ?_)
  exact wpAny_bind (wpAny_pyNext_list_item hit hl hx fun h' hit' hs => wpAny_pure ⟨_, rfl, h h' hit' hs⟩)

theorem next2_end {Q : Value → Shared → Prop} {d : Value} (hh : A.handled = none) (hit : s.heap.IsListIter it l i) (hl : s.heap.IsList l items) (hx : items[i]? = none)
    (h : ∀ h', Heap.ExtBut it s.heap h' → Q d { s with heap := h' }) :
    wpAny (model prog w) A (call (.builtin "next") [.ref it, d]) Q E s := by
  refine call_function_entry (by decide +kernel) (by decide +kernel) kdk_entry_next (kdk_args_next2 _ _) ?_
  unfold Builtin.«next»
  refine wpAny_bind (m := someArgs "next" 1 2 _) (wpAny_of_eq (a := [Value.ref it, d]) (by first | rfl | kernel_rfl!) ?_)
  dsimp only
  refine wpAny_bind (wpAny_specialOf (name := Str.ofString "__next__") hit.typeIs slot_listiter_next.lookup ?_)
  refine wpAny_ite_split (fun hab => absurd hab (by decide)) (fun _ => ?_)
  exact wpAny_bind (wpAny_pyNext_list_end hh hit hl hx fun h' hs => wpAny_pure ⟨_, rfl, h h' hs⟩)

/-- the iterator's own __next__ -/
theorem special_item {Q : Option Value → Shared → Prop} (hit : s.heap.IsListIter it l i) (hl : s.heap.IsList l items) (hx : items[i]? = some x)
    (h : ∀ h', h'.IsListIter it l (i + 1) → Heap.SameBut it s.heap h' → Q (some x) { s with heap := h' }) :
    wpAny (model prog w) A (callSpecial? (.ref it) (Str.ofString "__next__")) Q E s := by
  obtain ⟨o, ho, hc, hd⟩ := id hit
  obtain ⟨ol, hol, _, nl, hdl⟩ := hl
  refine wpAny_callSpecial?_slot (name := Str.ofString "__next__") hit.typeIs slot_listiter_next
    (wpAny_call_entry slot_listiter_next hit.typeIs entry_listiter_next ?_ (args_listiter_next _))
  show wpAny _ _ (field (.ref it) 0 >>= _) _ _ s
  refine wpAny_bind (wpAny_field ho hd (x := .ref l) rfl ?_)
  show wpAny _ _ (if (Value.ref l == Value.none) = true then _ else _) _ _ s
  rw [if_neg (show ¬ ((Value.ref l == Value.none) = true) from Bool.false_ne_true)]
  show wpAny _ _ (field (.ref it) 1 >>= _) _ _ s
  refine wpAny_bind (wpAny_field ho hd (x := .int i 0) rfl ?_)
  show wpAny _ _ (seqItems? (.ref l) >>= _) _ _ s
  refine wpAny_bind (wpAny_seqItems hol hdl ?_)
  simp only [Int.toNat_natCast, hx]
  refine wpAny_bind (wpAny_setField ho hd (by simp) (wpAny_pure ⟨x, rfl, h _ ?_ (Heap.SameBut.update ..)⟩))
  exact ⟨_, Heap.get?_update_self _ ho (Obj.isFreed_of_fields (Obj.data_mapFields hd _)), (Obj.cls_mapFields ..).trans hc, by
    rw [Obj.data_mapFields hd]; simp [rawInt]⟩
theorem special_end {Q : Option Value → Shared → Prop} (hh : A.handled = none) (hit : s.heap.IsListIter it l i) (hl : s.heap.IsList l items) (hx : items[i]? = none)
    (h : ∀ h' e, Heap.ExtBut it s.heap h' → s.heap.get? e = none → (∃ t, h'.get? e = some { cls := .type "StopIteration", data := .fields #[t, .none, .none, .none, .bool false, .none] }) → E (.ref e) { s with heap := h' }) :
    wpAny (model prog w) A (callSpecial? (.ref it) (Str.ofString "__next__")) Q E s := by
  obtain ⟨o, ho, hc, hd⟩ := id hit
  obtain ⟨ol, hol, _, nl, hdl⟩ := hl
  refine wpAny_callSpecial?_slot (name := Str.ofString "__next__") hit.typeIs slot_listiter_next
    (wpAny_call_entry slot_listiter_next hit.typeIs entry_listiter_next ?_ (args_listiter_next _))
  show wpAny _ _ (field (.ref it) 0 >>= _) _ _ s
  refine wpAny_bind (wpAny_field ho hd (x := .ref l) rfl ?_)
  show wpAny _ _ (if (Value.ref l == Value.none) = true then _ else _) _ _ s
  rw [if_neg (show ¬ ((Value.ref l == Value.none) = true) from Bool.false_ne_true)]
  show wpAny _ _ (field (.ref it) 1 >>= _) _ _ s
  refine wpAny_bind (wpAny_field ho hd (x := .int i 0) rfl ?_)
  show wpAny _ _ (seqItems? (.ref l) >>= _) _ _ s
  refine wpAny_bind (wpAny_seqItems hol hdl ?_)
  simp only [Int.toNat_natCast, hx]
  refine wpAny_bind (wpAny_rule (wpAny_bind (wpAny_setField ho hd (by simp) ?_)))
  show wpAny _ _ (newExc (.type "StopIteration") [] >>= _) _ _ _
  refine wpAny_bind ?_
  simp only [newExc, newTuple]
  refine wpAny_bind (wpAny_newObj_type ?_ (by size_fits))
  refine wpAny_bind (m := firstArgMember _ _) (wpAny_of_eq (a := Value.none) (by first | rfl | (simp only [firstArgMember]; rfl)) ?_)
  refine wpAny_newObj_type ?_ (by size_fits)
  simp only [raiseNew]
  refine wpAny_bind (wpAny_handled ?_)
  rw [show A.in1.handled = none from hh]
  refine wpAny_bind (wpAny_pure (wpAny_throw ?_))
  refine h _ _ (((Heap.SameBut.update ..).extBut.push _).push _) ?_ ⟨_, Heap.get?_push_size _ rfl⟩
  refine Heap.get?_none_of_le ?_
  rw [Heap.size_push, (Heap.SameBut.update ..).1]
  exact Nat.le_succ _

theorem next1_item {Q : Value → Shared → Prop} (hit : s.heap.IsListIter it l i) (hl : s.heap.IsList l items) (hx : items[i]? = some x)
    (h : ∀ h', h'.IsListIter it l (i + 1) → Heap.SameBut it s.heap h' → Q x { s with heap := h' }) :
    wpAny (model prog w) A (call (.builtin "next") [.ref it]) Q E s := by
  refine call_function_entry (by decide +kernel) (by decide +kernel) kdk_entry_next (kdk_args_next _) ?_
  unfold Builtin.«next»
  refine wpAny_bind (m := someArgs "next" 1 2 _) (wpAny_of_eq (a := [Value.ref it]) (by first | rfl | kernel_rfl!) ?_)
  dsimp only
  refine wpAny_bind (wpAny_specialOf (name := Str.ofString "__next__") hit.typeIs slot_listiter_next.lookup ?_)
  refine wpAny_ite_split (fun hab => absurd hab (by decide)) (fun _ => ?_)
  exact wpAny_bind (special_item hit hl hx fun h' hit' hs => wpAny_pure ⟨_, rfl, h h' hit' hs⟩)
theorem next1_end {Q : Value → Shared → Prop} (hh : A.handled = none) (hit : s.heap.IsListIter it l i) (hl : s.heap.IsList l items) (hx : items[i]? = none)
    (h : ∀ h' e, Heap.ExtBut it s.heap h' → s.heap.get? e = none → (∃ t, h'.get? e = some { cls := .type "StopIteration", data := .fields #[t, .none, .none, .none, .bool false, .none] }) → E (.ref e) { s with heap := h' }) :
    wpAny (model prog w) A (call (.builtin "next") [.ref it]) Q E s := by
  refine call_function_entry (by decide +kernel) (by decide +kernel) kdk_entry_next (kdk_args_next _) ?_
  unfold Builtin.«next»
  refine wpAny_bind (m := someArgs "next" 1 2 _) (wpAny_of_eq (a := [Value.ref it]) (by first | rfl | kernel_rfl!) ?_)
  dsimp only
  refine wpAny_bind (wpAny_specialOf (name := Str.ofString "__next__") hit.typeIs slot_listiter_next.lookup ?_)
  refine wpAny_ite_split (fun hab => absurd hab (by decide)) (fun _ => ?_)
  exact wpAny_bind (special_end hh hit hl hx h)
end
end Mine
end

section
open PySem PySem.W PyProof.Rows PySem.Calls
namespace Mine
theorem stop_exc : isSubtype (.type "StopIteration") (.type "BaseException") = pure true := by rw [isSubtype_type]; kernel_rfl
theorem stop_nt : isSubtype (.type ((Manifest.find? "StopIteration").elim "type" fun x => x.metatype)) (.type "tuple") = pure false := by
  rw [show ((Manifest.find? "StopIteration").elim "type" fun x => x.metatype) = "type" from by kernel_rfl, isSubtype_type]; kernel_rfl
theorem stop_self : isSubtype (.type "StopIteration") (.type "StopIteration") = pure true := by rw [isSubtype_type]; kernel_rfl
theorem boot_stop : bootBuiltins "StopIteration" = some (.type "StopIteration") := by decide +kernel

/-- what a caught exception leaves: the frames' slots may have turned -/
structure Caught (fs : List Addr) (h h' : Heap) : Prop where
  keep : ∀ b o, b ∉ fs → h.get? b = some o → h'.get? b = some o
  frames : ∀ b o, b ∈ fs → h.get? b = some o → ∃ sl, h'.get? b = some { o with slots := sl }
theorem Caught.ns {fs : List Addr} {h h' : Heap} (x : Caught fs h h') {L : Addr} {m : Str → Option Value} (n : h.Ns L m) : h'.Ns L m := by
  obtain ⟨o, es, ep, e, d, r⟩ := n
  by_cases q : L ∈ fs
  · obtain ⟨sl, e'⟩ := x.frames L o q e
    exact ⟨_, es, ep, e', d, r⟩
  · exact ⟨o, es, ep, x.keep L o q e, d, r⟩

section
variable {prog : Program} {w : World} {A : Around} {E : Value → Shared → Prop} {s : Shared} {env : Env} {P : Pg}
theorem caught_new {Q : Flow → Shared → Prop} {outer : List Env} {base : Heap} {e L : Addr} {t : Value} {b₀ : Stmt} {suite : List Stmt} {np pos : Pos} {rest : List ExceptHandler}
    (hfr : A.frames = some (env :: outer)) (hl : s.heap.FunFrames base (env :: outer)) (hf : env.frame = some L) (hb : Sub P.base s.heap) (hpb : ∀ a ∈ (env :: outer).filterMap (·.frame), P.base.get? a = none) (heb : P.base.get? e = none)
    (he : s.heap.get? e = some { cls := .type "StopIteration", data := .fields #[t, .none, .none, .none, .bool false, .none] })
    (k : ∀ h' tk (E' : Value → Shared → Prop), (∀ b o, b ≠ e → b ∉ (env :: outer).filterMap (·.frame) → s.heap.get? b = some o → h'.get? b = some o) →
      (∀ b o, b ∈ (env :: outer).filterMap (·.frame) → s.heap.get? b = some o → ∃ sl, h'.get? b = some { o with slots := sl }) →
      wpAny (model prog w) (A.mark (some (.ref e))) (execs (b₀ :: suite) env) Q E' { s with heap := h', toks := tk })
    (hk : env.scope.kind = .function := by rfl) (hlo : env.kindOf "StopIteration" = some .globalImplicit := by rfl) (hg : env.globals = mainGlobals := by rfl) (hbn : env.builtins = builtinsNs := by rfl) :
    wpAny (model prog w) A (noteFrame (.ref e) env) (fun _ s₂ => wpAny (model prog w) A (setFlight (.ref e) none) (fun _ s₃ =>
      wpAny (model prog w) A (handleBy (.ref e) env (.ExceptHandler (some (.Name "StopIteration" np)) none (b₀ :: suite) pos :: rest)) Q E s₃) E s₂) E s := by
  have hef : e ∉ (env :: outer).filterMap (·.frame) := fun hm => by
    obtain ⟨_, o, ho, hnf⟩ := hl.mem hm
    rw [he] at ho; cases ho; exact hnf _ rfl
  unfold noteFrame
  simp only [hf]
  refine wpAny_bind (wpAny_field he rfl (x := .none) rfl ?_)
  rw [if_neg (by decide)]
  refine wpAny_bind (wpAny_frameOf_fun hfr hl hf fun h₁ s₁ => ?_)
  refine wpAny_bind (wpAny_entryPlaceOf fun pl hpl => ?_)
  unfold EntryCells.newEntry newFields
  refine wpAny_bind (wpAny_newObj_type ?_ (hpl.sizeOk5 _ _ _ _ _))
  have he₁ := (s₁.2.1 e hef).trans he
  have he₂ := Heap.get?_push_of_some (h := h₁) { cls := .type "traceback", dict := none, data := .fields ([Value.none, .ref L, .none, rawInt L, .none] ++ (if pl.isEmpty then List.replicate 6 Value.none else pl)).toArray } he₁
  refine wpAny_setField he₂ rfl (by show 1 < 6; decide) ?_
  have hTe : h₁.objs.size ≠ e := Nat.ne_of_gt (Heap.lt_size he₁)
  have he₃ := Heap.get?_update_self (Obj.mapFields (·.setIfInBounds 1 (Value.ref h₁.objs.size))) he₂ rfl
  have ht₃ := (Heap.get?_update_other (h₁.push { cls := .type "traceback", dict := none, data := .fields ([Value.none, .ref L, .none, rawInt L, .none] ++ (if pl.isEmpty then List.replicate 6 Value.none else pl)).toArray })
    (Obj.mapFields (·.setIfInBounds 1 (Value.ref h₁.objs.size))) (Ne.symm hTe)).trans (Heap.get?_push_size h₁ rfl)
  have k₃ : ∀ b o, b ≠ e → h₁.get? b = some o → ((h₁.push { cls := .type "traceback", dict := none, data := .fields ([Value.none, .ref L, .none, rawInt L, .none] ++ (if pl.isEmpty then List.replicate 6 Value.none else pl)).toArray }).update e (Obj.mapFields (·.setIfInBounds 1 (Value.ref h₁.objs.size)))).get? b = some o :=
    fun b o hb q => (Heap.get?_update_other _ _ (Ne.symm hb)).trans (Heap.get?_push_of_some _ q)
  dsimp only
  have nT : ∀ b o, h₁.get? b = some o → b ≠ h₁.objs.size := fun b o q => new_ne q
  generalize hH₃ : (h₁.push _).update e _ = h₃ at *
  have hT3 : 3 < ([Value.none, Value.ref L, .none, rawInt L, .none] ++ (if pl.isEmpty then List.replicate 6 Value.none else pl)).toArray.size := by simp
  generalize h₁.objs.size = T at *
  refine wpAny_setFlight_none he₃ rfl rfl ht₃ rfl hT3 ?_
  have he₄ := (Heap.get?_update_other h₃ (Obj.mapFields (·.setIfInBounds 3 .none)) hTe).trans he₃
  have ht₄ := Heap.get?_update_self (Obj.mapFields (·.setIfInBounds 3 .none)) ht₃ rfl
  have k₄ : ∀ b o, b ≠ e → h₁.get? b = some o → (h₃.update T (Obj.mapFields (·.setIfInBounds 3 .none))).get? b = some o :=
    fun b o hb q => (Heap.get?_update_other _ _ (Ne.symm (nT b o q))).trans (k₃ b o hb q)
  dsimp only
  generalize h₃.update T _ = h₄ at *
  have K₄ : ∀ b o, b ≠ e → b ∉ (env :: outer).filterMap (·.frame) → s.heap.get? b = some o → h₄.get? b = some o := fun b o hb hn q => k₄ b o hb ((s₁.2.1 b hn).trans q)
  have hb₄ : Sub P.base h₄ := fun b o q => K₄ b o (by rintro rfl; rw [heb] at q; cases q) (fun m => by rw [hpb b m] at q; cases q) (hb b o q)
  refine wpAny_handleBy_builtin (X := "StopIteration") (T := "StopIteration") (b := true) stop_exc stop_nt stop_self (ldB (P := P) hb₄ boot_stop ⟨rfl, ⟨_, he₄, rfl⟩, ?_⟩ (by decide) hk hlo hg hbn)
  rw [if_pos rfl]
  refine wpAny_setFlight_none he₄ rfl rfl ht₄ rfl (by simpa using hT3) ?_
  dsimp only
  have k₅ : ∀ b o, b ≠ e → h₁.get? b = some o → (h₄.update T (Obj.mapFields (·.setIfInBounds 3 .none))).get? b = some o :=
    fun b o hb q => (Heap.get?_update_other _ _ (Ne.symm (nT b o q))).trans (k₄ b o hb q)
  refine k _ _ _ (fun b o hb hn q => k₅ b o hb ((s₁.2.1 b hn).trans q)) fun b o hm q => ?_
  obtain ⟨sl, q'⟩ := s₁.2.2 b o q
  exact ⟨sl, k₅ b _ (fun r => hef (r ▸ hm)) q'⟩
end
end Mine
end

section
open PySem PySem.W PyProof.Rows PySem.Calls
namespace Mine
/-- a pair to be put in: its place, its tokens -/
structure T2 where
  at' : Int
  ts : List T3
def InsI (I : PM) (v : Value) (t : T2) : Prop := ∃ a n t1 u, v = .ref a ∧ I a = some { cls := .type "tuple", data := .seq #[.int t.at' t1, u] n } ∧ ToksI I u t.ts
theorem InsI.mono {I I' : PM} {v : Value} {t : T2} (x : InsI I v t) (g : ∀ b o, I b = some o → I' b = some o) : InsI I' v t :=
  let ⟨a, n, t1, u, e, e', p⟩ := x; ⟨a, n, t1, u, e, g _ _ e', p.mono g⟩
theorem paired_at {α β : Type} {F : α → β → Prop} : ∀ {x : List α} {y : List β} {i : Nat} {b : β}, Paired F x y → y[i]? = some b → ∃ a, x[i]? = some a ∧ F a b
  | _, [], _, _, _, e => by cases e
  | _ :: _, _ :: _, 0, _, .cons h _, e => by cases e; exact ⟨_, rfl, h⟩
  | _ :: _, _ :: _, i + 1, _, .cons _ t, e => by
    have e' := (List.getElem?_cons_succ (i := i)).symm.trans e
    obtain ⟨a, q, r⟩ := paired_at t e'
    exact ⟨a, List.getElem?_cons_succ.trans q, r⟩

/-- the generator's world -/
structure GW (P : Pg) where
  Lg : Addr
  Lw : Addr
  cd : Value
  le : Env
  lef : le.frame = some Lw
  lek : le.scope.kind ≠ .module
  gb : P.base.get? Lg = none
  wb : P.base.get? Lw = none
  ne : Lg ≠ Lw
def GW.env {P : Pg} (G : GW P) : Env := envOf (nameA 1) (scopeA 1) G.Lg P.fi G.cd
theorem GW.frames {P : Pg} (G : GW P) {h : Heap} {m mw : Str → Option Value} (n : h.Ns G.Lg m) (n' : h.Ns G.Lw mw) : h.FunFrames P.base (G.env :: [G.le]) := by
  obtain ⟨o, es, ep, e, d, _⟩ := n
  obtain ⟨o', es', ep', e', d', _⟩ := n'
  exact ⟨by show (scopeA 1).kind ≠ .module; decide, ⟨G.Lg, o, rfl, G.gb, e, fun vs q => by rw [d] at q; cases q⟩, G.lek, ⟨G.Lw, o', G.lef, G.wb, e', fun vs q => by rw [d'] at q; cases q⟩, trivial⟩

section
variable {w : World} {A : Around} {E : Value → Shared → Prop} {s : Shared} {P : Pg}
theorem assign2 {prog : Program} {R : Shared → Prop} {env : Env} {x y : Str} {p q r : Pos} {k : Nat} {t : Addr} {a b : Value} {m : Str → Option Value} (hh : A.handled = none) (ht : s.heap.IsTuple t #[a, b]) (hn : s.heap.Ns env.locals m)
    (h : ∀ h' tk, h'.Ns env.locals (fun z => if z = y then some b else if z = x then some a else m z) → KeepBut env.locals s.heap h' → R { s with heap := h', toks := tk })
    (l1 : env.kindOf x = some .local := by rfl) (l2 : env.kindOf y = some .local := by rfl) (hp : (env.scope.kind == .class || (env.scope.kind == .module && env.locals != env.globals)) = false := by rfl) :
    wpAny (model prog w) A (assign (.Tuple [.Name x p, .Name y q] k r) env (.ref t)) (fun _ s' => R s') E s := by
  refine wpAny_assign_Tuple hh ht rfl rfl fun h₂ x₂ => ?_
  have k₂ : Sub s.heap h₂ := Sub.ext x₂
  show wpAny _ _ (do holding [b] (assign (.Name x p) env a); do holding [] (assign (.Name y q) env b); pure ()) _ _ _
  refine wpAny_bind (wpAny_holding (wpAny_assign_Name (wpAny_storeName_local l1 (hn.keeps k₂) (fun h₃ hn₃ s₃ => ?_) hp)))
  refine wpAny_bind (wpAny_holding (wpAny_assign_Name (wpAny_storeName_local l2 hn₃ (fun h₄ hn₄ s₄ => ?_) hp)))
  exact wpAny_pure (h h₄ _ hn₄ (k₂.keepBut.trans ((KeepBut.of_same s₃).trans (.of_same s₄))))
theorem assign3 {prog : Program} {R : Shared → Prop} {env : Env} {x y z' : Str} {p q q' r : Pos} {k : Nat} {t : Addr} {a b c : Value} {m : Str → Option Value} (hh : A.handled = none) (ht : s.heap.IsTuple t #[a, b, c]) (hn : s.heap.Ns env.locals m)
    (h : ∀ h' tk, h'.Ns env.locals (fun z => if z = z' then some c else if z = y then some b else if z = x then some a else m z) → KeepBut env.locals s.heap h' → R { s with heap := h', toks := tk })
    (l1 : env.kindOf x = some .local := by rfl) (l2 : env.kindOf y = some .local := by rfl) (l3 : env.kindOf z' = some .local := by rfl) (hp : (env.scope.kind == .class || (env.scope.kind == .module && env.locals != env.globals)) = false := by rfl) :
    wpAny (model prog w) A (assign (.Tuple [.Name x p, .Name y q, .Name z' q'] k r) env (.ref t)) (fun _ s' => R s') E s := by
  refine wpAny_assign_Tuple hh ht rfl rfl fun h₂ x₂ => ?_
  have k₂ : Sub s.heap h₂ := Sub.ext x₂
  show wpAny _ _ (do holding [b, c] (assign (.Name x p) env a); do holding [c] (assign (.Name y q) env b); do holding [] (assign (.Name z' q') env c); pure ()) _ _ _
  refine wpAny_bind (wpAny_holding (wpAny_assign_Name (wpAny_storeName_local l1 (hn.keeps k₂) (fun h₃ hn₃ s₃ => ?_) hp)))
  refine wpAny_bind (wpAny_holding (wpAny_assign_Name (wpAny_storeName_local l2 hn₃ (fun h₄ hn₄ s₄ => ?_) hp)))
  refine wpAny_bind (wpAny_holding (wpAny_assign_Name (wpAny_storeName_local l3 hn₄ (fun h₅ hn₅ s₅ => ?_) hp)))
  exact wpAny_pure (h h₅ _ hn₅ (k₂.keepBut.trans ((KeepBut.of_same s₃).trans ((KeepBut.of_same s₄).trans (.of_same s₅)))))

/-- try: index, itokens = next(insertions) except StopIteration: insleft = False; break -/
theorem try_next (G : GW P) {Q : Flow → Shared → Prop} {it il : Addr} {i : Nat} {vs : List Value} {m mw : Str → Option Value} {p1 p2 p3 p4 p5 p6 p7 p8 p9 p10 p11 p12 p13 p14 : Pos} {k : Nat}
    (hA : A.handled = none) (hfr : A.frames = some (G.env :: [G.le])) (hb : Sub P.base s.heap) (hn : s.heap.Ns G.Lg m) (hw : s.heap.Ns G.Lw mw) (hm : m "insertions" = some (.ref it))
    (hit : s.heap.IsListIter it il i) (hl : s.heap.IsList il vs.toArray) (hib : P.base.get? it = none) (ig : it ≠ G.Lg) (iw : it ≠ G.Lw)
    (item : ∀ v, vs[i]? = some v → ∃ t idx t1 u, v = .ref t ∧ s.heap.IsTuple t #[.int idx t1, u] ∧ t ≠ it ∧ ∀ h' tk, h'.Ns G.Lg (fun z => if z = "itokens" then some u else if z = "index" then some (.int idx t1) else m z) → h'.IsListIter it il (i + 1) →
      KeepL [G.Lg, it] s.heap h' → Q .next { s with heap := h', toks := tk })
    (fin : vs[i]? = none → ∀ h' tk, h'.Ns G.Lg (fun z => if z = "insleft" then some (.bool false) else m z) → h'.Ns G.Lw mw → KeepL [G.Lg, G.Lw, it] s.heap h' → Q .brk { s with heap := h', toks := tk }) :
    wpAny (model pw w) A (exec (.Try [.Assign [.Tuple [.Name "index" p1, .Name "itokens" p2] k p3] (.Call (.Name "next" p4) [.Name "insertions" p5] [] p6) p7]
      [.ExceptHandler (some (.Name "StopIteration" p8)) none [.Assign [.Name "insleft" p9] (.Constant (.bool false) 0 p10) p11, .Break p12] p13] [] [] p14) G.env) Q E s := by
  show wpAny _ _ (do standAt p14; tryStmt false (execs _ G.env) _ (execs [] G.env) [] G.env) _ _ _
  refine wpAny_bind (wpAny_standAt (wpAny_tryStmt_except ?_))
  cases hv : vs[i]? with
  | some v =>
    obtain ⟨t, idx, t1, u, rfl, ht, htn, hQ⟩ := item v hv
    refine wpAny_execs_cons (Assign_Tuple ?_)
    refine callB1 (P := P) hb PyProof.Rows.Boot.«next» (ldV hn hm (next1_item hit hl (by simpa using hv) fun h₁ hit₁ s₁ => ?_))
    have ht₁ : h₁.IsTuple t #[.int idx t1, u] := let ⟨o, e, r⟩ := ht; ⟨o, s₁.extBut _ _ htn e, r⟩
    refine assign2 hA ht₁ (hn.sameBut s₁ (Ne.symm ig)) fun h₂ tk hn₂ k₂ => ?_
    refine wpAny_execs_nil (wpAny_execs_nil (hQ h₂ _ hn₂ ?_ ?_))
    · let ⟨o, e, r⟩ := hit₁; exact ⟨o, k₂ _ _ ig e, r⟩
    · exact (same_toL s₁).trans (KeepBut.toL (a := G.Lg) k₂)
  | none =>
    refine wpAny_execs_cons (Assign_Tuple ?_)
    refine callB1 (P := P) hb PyProof.Rows.Boot.«next» (ldV hn hm (next1_end hA hit hl (by simpa using hv) fun h₁ e x₁ ne he => ?_))
    obtain ⟨t, he⟩ := he
    have hn₁ := hn.extBut x₁ (Ne.symm ig)
    have hw₁ := hw.extBut x₁ (Ne.symm iw)
    have hb₁ : Sub P.base h₁ := fun b o q => x₁ b o (by rintro rfl; rw [hib] at q; cases q) (hb b o q)
    have heb : P.base.get? e = none := by
      cases q : P.base.get? e with
      | none => rfl
      | some o => have := hb e o q; rw [ne] at this; cases this
    have hbn : ∀ a ∈ (G.env :: [G.le]).filterMap (·.frame), P.base.get? a = none := by
      intro a ha
      have e1 : (G.env :: [G.le]).filterMap (·.frame) = [G.Lg, G.Lw] := by
        show (some G.Lg :: [G.le].map (·.frame)).filterMap id = _ 
        simp [G.lef]
      rw [e1] at ha
      rcases List.mem_cons.1 ha with rfl | ha
      · exact G.gb
      · rcases List.mem_cons.1 ha with rfl | ha
        · exact G.wb
        · cases ha
    refine caught_new (P := P) hfr (G.frames hn₁ hw₁) rfl hb₁ hbn heb he fun h₂ tk E' K₂ fr₂ => ?_
    have e1 : (G.env :: [G.le]).filterMap (·.frame) = [G.Lg, G.Lw] := by
      show (some G.Lg :: [G.le].map (·.frame)).filterMap id = _ 
      simp [G.lef]
    rw [e1] at K₂ fr₂
    have old : ∀ b o, b ≠ it → s.heap.get? b = some o → h₁.get? b = some o ∧ b ≠ e := fun b o hb q => ⟨x₁ b o hb q, by rintro rfl; rw [ne] at q; cases q⟩
    have nsk : ∀ {L m}, h₁.Ns L m → h₂.Ns L m := by
      intro L m n
      obtain ⟨o, es, ep, e', d, r⟩ := n
      by_cases q : L ∈ [G.Lg, G.Lw]
      · obtain ⟨sl, e''⟩ := fr₂ L o q e'
        exact ⟨_, es, ep, e'', d, r⟩
      · refine ⟨o, es, ep, K₂ L o ?_ q e', d, r⟩
        rintro rfl; rw [he] at e'; cases e'; cases d
    have hn₂ := nsk hn₁
    have hw₂ := nsk hw₁
    refine wpAny_execs_cons (wpAny_Assign_Name (wpAny_Constant_bool (wpAny_storeName_local (by rfl) hn₂ (fun h₃ hn₃ s₃ => ?_) (by rfl))))
    replace s₃ : Heap.SameBut G.Lg h₂ h₃ := s₃
    refine wpAny_execs_cons (wpAny_Break ?_)
    refine fin hv h₃ _ hn₃ (hw₂.sameBut s₃ G.ne.symm) fun b o hb q => ?_
    simp only [List.mem_cons, List.not_mem_nil, or_false, not_or] at hb
    obtain ⟨q1, q2⟩ := old b o hb.2.2 q
    exact s₃.extBut _ _ hb.1 (K₂ b o q2 (by simp [hb.1, hb.2.1]) q1)
end
end Mine
end

section
open PySem PySem.W PyProof.Rows PySem.Calls
namespace Mine
structure FsOk (A : Around) (L : List Env) (c : Code) (fs : List Frame) : Prop where
  nogen : splitAtGen fs = none
  nog : fs.any Frame.guarded = false
  hand : (A.over c fs).handled = none
  frames : (A.over c fs).frames = some L
theorem pushEnvs_append (a b : List Env) (x : Option (List Env)) : pushEnvs (a ++ b) x = pushEnvs a (pushEnvs b x) := by
  rw [pushEnvs_eq, pushEnvs_eq, pushEnvs_eq]; cases x <;> simp
theorem FsOk.loop {A : Around} {L : List Env} {c lc : Code} {fs : List Frame} (x : FsOk A L c fs) {k : Result → Sem Fin} {l : List Value} {p : Pos} {g : Bool} (hg : g = false) (hc : lc.envs = []) : FsOk A L lc (.ret k none g l c p [] :: fs) := by
  subst hg
  refine ⟨?_, ?_, ?_, ?_⟩
  · simp [splitAtGen, x.nogen]
  · simp [Frame.guarded, x.nog]
  · exact x.hand
  · have := x.frames
    simp only [Around.over] at this ⊢
    rw [hc]
    show pushEnvs [] (pushEnvs (envsOf ((c, p) :: fs.map Frame.where_)) A.frames) = _
    rw [envsOf_cons, pushEnvs_append]; exact this

section
variable {M : Model} {A : Around} {R : GenEnd} {Y : Protocol} {n : Nat} {s₀ : Shared} {c : Code} {fs : List Frame} {s : Shared} {env : Env}
  {K : Flow → Sem Fin} {H : Value → Sem Fin} {gd : Bool → Bool} {lv : List Value → List Value} {L : List Env}

theorem seg_stmt1 {st : Stmt} (h : wpAny M (A.over c fs) (exec st env) (fun f s' => Seg M A R Y n s₀ c (K f) fs s') (fun _ _ => False) s) :
    Seg M A R Y n s₀ c ((exec st env).wrap K H gd lv) fs s := seg_wrap (wpAny_mono h (fun _ _ x => x) fun _ _ x => x.elim)
theorem seg_stmt {st : Stmt} {rest : List Stmt} (h : wpAny M (A.over c fs) (exec st env) (fun f s' => f = .next ∧ Seg M A R Y n s₀ c ((execs rest env).wrap K H gd lv) fs s') (fun _ _ => False) s) :
    Seg M A R Y n s₀ c ((execs (st :: rest) env).wrap K H gd lv) fs s :=
  seg_execs_cons (seg_wrap (wpAny_mono h (fun _ _ x => by obtain ⟨rfl, x⟩ := x; exact x) fun _ _ x => x.elim))
theorem seg_If {test : Expr} {body orelse : List Stmt} {pos : Pos}
    (h : wpAny M (A.over c fs) (isTrue test env (eval test env)) (fun b s' => Seg M A R Y n s₀ c ((execs (if b = true then body else orelse) env).wrap K H gd lv) fs s') (fun _ _ => False) s) :
    Seg M A R Y n s₀ c ((exec (.If test body orelse pos) env).wrap K H gd lv) fs s := by
  rw [exec_If]
  refine seg_bind_wrap (wpAny_standAt (seg_bind_wrap (wpAny_mono h (fun b s' x => ?_) fun _ _ x => x.elim)))
  cases b <;> exact x
theorem seg_While' {test : Expr} {body : List Stmt} {pos : Pos} (F : FsOk A L c fs) (hgd : gd false = false)
    (h : ∀ fs', FsOk A L (.whileLoop test body [] env) fs' → (∀ n s₀ s' c₂, Seg M A R Y n s₀ c (K .next) fs s' → Seg M A R Y n s₀ c₂ (.pure (.done .next)) fs' s') →
      Seg M A R Y n s₀ (.whileLoop test body [] env) (M.den (.whileLoop test body [] env)) fs' s) :
    Seg M A R Y n s₀ c ((exec (.While test body [] pos) env).wrap K H gd lv) fs s :=
  seg_While fun _ => h _ (F.loop hgd rfl) fun _ _ _ _ hk => seg_leaf (.ok .next) hk
theorem seg_For' {target iter : Expr} {body : List Stmt} {pos : Pos} (F : FsOk A L c fs) (hgd : gd false = false)
    (h : wpAny M (A.over c fs) (eval iter env) (fun x s₁ => wpAny M (A.over c fs) (pyIter x) (fun it s₂ =>
      ∀ fs', FsOk A L (.forLoop target it body [] env) fs' → (∀ n s₀ s' c₂, Seg M A R Y n s₀ c (K .next) fs s' → Seg M A R Y n s₀ c₂ (.pure (.done .next)) fs' s') →
        Seg M A R Y n s₀ (.forLoop target it body [] env) (M.den (.forLoop target it body [] env)) fs' s₂) (fun _ _ => False) s₁) (fun _ _ => False) s)
    (hs : ∀ x, foldedSetIterable iter env x = pure x := by intro _; rfl) :
    Seg M A R Y n s₀ c ((exec (.For target iter body [] pos) env).wrap K H gd lv) fs s := by
  rw [exec_For]
  refine seg_bind_wrap (wpAny_standAt (seg_bind_wrap (wpAny_mono h (fun x s₁ h₁ => ?_) fun _ _ x => x.elim)))
  refine seg_bind_wrap (wpAny_of_eq (hs x) (seg_bind_wrap (wpAny_standAt (seg_bind_wrap (wpAny_holding (wpAny_mono h₁ (fun it s₂ h₂ => ?_) fun _ _ x => x.elim))))))
  exact seg_call fun p => h₂ _ (F.loop hgd rfl) fun _ _ _ _ hk => seg_leaf (.ok .next) hk
end
section
variable {prog : Program} {w : World} {A : Around} {R : GenEnd} {Y : Protocol} {n : Nat} {s₀ : Shared} {fs : List Frame} {s : Shared} {env : Env}
theorem seg_whileTurn {test : Expr} {body : List Stmt}
    (h : wpAny (model prog w) (A.over (.whileLoop test body [] env) fs) (isTrue test env (eval test env)) (fun b s' =>
        if b = true then ∀ (K' : Flow → Sem Fin) (H' : Value → Sem Fin), K' .next = .pure (.again (.whileLoop test body [] env)) → K' .brk = .pure (.done .next) →
          Seg (model prog w) A R Y n s₀ (.whileLoop test body [] env) ((execs body env).wrap K' H' id id) fs s'
        else Seg (model prog w) A R Y n s₀ (.whileLoop test body [] env) (.pure (.done .next)) fs s') (fun _ _ => False) s) :
    Seg (model prog w) A R Y n s₀ (.whileLoop test body [] env) ((model prog w).den (.whileLoop test body [] env)) fs s := by
  refine seg_whileLoop (wpAny_mono h (fun b s' hb => ?_) fun _ _ x => x.elim)
  cases b with
  | true => rw [if_pos rfl] at hb ⊢; exact hb _ _ rfl rfl
  | false => rw [if_neg Bool.false_ne_true] at hb ⊢; exact hb
theorem seg_forTurn {target : Expr} {it : Value} {body : List Stmt}
    (h : wpAny (model prog w) (A.over (.forLoop target it body [] env) fs) (pyNext it) (fun r s₁ => match r with
      | none => Seg (model prog w) A R Y n s₀ (.block [] env) (.pure (.done .next)) fs s₁
      | some v => wpAny (model prog w) (A.over (.forLoop target it body [] env) fs) (letOwnedTupleGo target it v) (fun _ s₂ => wpAny (model prog w) (A.over (.forLoop target it body [] env) fs) (assign target env v) (fun _ s₃ =>
        ∀ (K' : Flow → Sem Fin) (H' : Value → Sem Fin), K' .next = .pure (.again (.forLoop target it body [] env)) →
          Seg (model prog w) A R Y n s₀ (.forLoop target it body [] env) ((execs body env).wrap K' H' id id) fs s₃) (fun _ _ => False) s₂) (fun _ _ => False) s₁) (fun _ _ => False) s) :
    Seg (model prog w) A R Y n s₀ (.forLoop target it body [] env) ((model prog w).den (.forLoop target it body [] env)) fs s := by
  show Seg _ A R Y n s₀ _ ((forTurn target it body [] env).onRaise (fun x => do noteFrame x env; theTreesLotGoes x)) fs s
  unfold forTurn
  rw [Sem.onRaise_eq_wrap]
  refine seg_bind_wrap (wpAny_standAt (seg_bind_wrap (wpAny_onRaise (wpAny_mono h (fun r s₁ h₁ => ?_) fun _ _ x => x.elim))))
  cases r with
  | none => exact seg_again rfl h₁
  | some v =>
    refine seg_bind_wrap (wpAny_mono h₁ (fun _ s₂ h₂ => ?_) fun _ _ x => x.elim)
    refine seg_bind_wrap (wpAny_mono h₂ (fun _ s₃ h₃ => ?_) fun _ _ x => x.elim)
    rw [Sem.bind_eq_wrap', Sem.wrap_wrap]
    refine h₃ _ _ rfl
end
end Mine
end

section
open PySem PySem.W PyProof.Rows PySem.Calls
namespace Mine
def Upd (xs : List Str) (m m' : Str → Option Value) : Prop := ∀ x, x ∉ xs → m' x = m x
theorem Upd.refl {xs : List Str} (m : Str → Option Value) : Upd xs m m := fun _ _ => rfl
theorem Upd.trans {xs : List Str} {m m' m'' : Str → Option Value} (a : Upd xs m m') (b : Upd xs m' m'') : Upd xs m m'' := fun x n => (b x n).trans (a x n)
theorem Upd.mono {xs ys : List Str} {m m' : Str → Option Value} (a : Upd xs m m') (h : ∀ x ∈ xs, x ∈ ys) : Upd ys m m' := fun x n => a x fun q => n (h x q)
/-- the generator's world, with what is given -/
structure GC (P : Pg) extends GW P where
  sa : Addr
  I : PM
  mw : Str → Option Value
  out : List T3
  Is : I sa = none
  Ig : I Lg = none
  Iw : I Lw = none
  sb : P.base.get? sa = none
  sg : sa ≠ Lg
  sw : sa ≠ Lw
structure GI {P : Pg} (G : GC P) (h : Heap) (m : Str → Option Value) : Prop where
  base : Sub P.base h
  frz : Frz G.I h
  ns : h.Ns G.Lg m
  lw : h.Ns G.Lw G.mw
  sl : ∃ xs, h.IsList G.sa xs
section
variable {P : Pg} {G : GC P} {h h' : Heap} {m m' : Str → Option Value}
theorem GI.sub (x : GI G h m) (k : Sub h h') : GI G h' m :=
  ⟨x.base.trans k, x.frz.sub k, x.ns.keeps k, x.lw.keeps k, let ⟨xs, l⟩ := x.sl; ⟨xs, l.at fun o e => k _ o e⟩⟩
theorem GI.set (x : GI G h m) (n : h'.Ns G.Lg m') (k : KeepBut G.Lg h h') : GI G h' m' :=
  ⟨fun b o e => k b o (by rintro rfl; rw [G.gb] at e; cases e) (x.base b o e), x.frz.keep k G.Ig, n, x.lw.at' fun o e => k _ o G.ne.symm e, let ⟨xs, l⟩ := x.sl; ⟨xs, l.at fun o e => k _ o G.sg e⟩⟩
theorem GI.back (x : GI G h m) (k : KeepBut G.sa h h') (l : ∃ xs, h'.IsList G.sa xs) : GI G h' m :=
  ⟨fun b o e => k b o (by rintro rfl; rw [G.sb] at e; cases e) (x.base b o e), x.frz.keep k G.Is, x.ns.at' fun o e => k _ o G.sg.symm e, x.lw.at' fun o e => k _ o G.sw.symm e, l⟩
/-- a list iterator of the generator's own -/
structure ItA (G : GC P) (h : Heap) (it il : Addr) (i : Nat) : Prop where
  is : h.IsListIter it il i
  base : P.base.get? it = none
  ng : it ≠ G.Lg
  nw : it ≠ G.Lw
  ns : it ≠ G.sa
  ni : G.I it = none
theorem GI.it (x : GI G h m) {it il : Addr} {i : Nat} (t : ItA G h it il i) (k : KeepBut it h h') : GI G h' m :=
  ⟨fun b o e => k b o (by rintro rfl; rw [t.base] at e; cases e) (x.base b o e), x.frz.keep k t.ni, x.ns.at' fun o e => k _ o t.ng.symm e, x.lw.at' fun o e => k _ o t.nw.symm e, let ⟨xs, l⟩ := x.sl; ⟨xs, l.at fun o e => k _ o t.ns.symm e⟩⟩
theorem ItA.keep {l : List Addr} {it il : Addr} {i : Nat} (t : ItA G h it il i) (k : KeepL l h h') (n : it ∉ l) : ItA G h' it il i := ⟨t.is.at fun o e => k _ o n e, t.base, t.ng, t.nw, t.ns, t.ni⟩
theorem ItA.new (x : GI G h m) {il : Addr} (e : h'.IsListIter h.objs.size il 0) : ItA G h' h.objs.size il 0 := by
  refine ⟨e, ?_, ?_, ?_, ?_, x.frz.new⟩
  · cases q : P.base.get? h.objs.size with
    | none => rfl
    | some o => have e' := x.base _ _ q; rw [Heap.get?_none_of_le (Nat.le_refl _)] at e'; cases e'
  · rintro q; obtain ⟨o, _, _, e', _⟩ := x.ns; rw [← q, Heap.get?_none_of_le (Nat.le_refl _)] at e'; cases e'
  · rintro q; obtain ⟨o, _, _, e', _⟩ := x.lw; rw [← q, Heap.get?_none_of_le (Nat.le_refl _)] at e'; cases e'
  · rintro q; obtain ⟨_, o, e', _⟩ := x.sl; rw [← q, Heap.get?_none_of_le (Nat.le_refl _)] at e'; cases e'
/-- what the generator may turn -/
def GK (G : GC P) (h h' : Heap) : Prop := ∀ b o, h.get? b = some o → b ≠ G.Lg → b ≠ G.Lw → (o.cls ≠ .type "list_iterator" ∨ (∀ vs, o.data ≠ .fields vs) ∨ P.base.get? b ≠ none) → h'.get? b = some o
def Now (G : GC P) (s₀ s : Shared) : Prop := ∃ h tk, s = { s₀ with heap := h, toks := tk } ∧ GK G s₀.heap h
theorem Now.refl {s : Shared} : Now G s s := ⟨s.heap, s.toks, rfl, fun _ _ e _ _ _ => e⟩
theorem Now.step {s₀ s : Shared} {l : List Addr} {tk : Nat} (x : Now G s₀ s) (k : KeepL l s.heap h') (hl : ∀ a ∈ l, a = G.Lg ∨ a = G.Lw ∨ (∃ il i, ItA G s.heap a il i)) : Now G s₀ { s with heap := h', toks := tk } := by
  obtain ⟨h, tk', rfl, g⟩ := x
  refine ⟨h', tk, rfl, fun b o e n1 n2 n3 => ?_⟩
  refine k b o ?_ (g b o e n1 n2 n3)
  intro q
  rcases hl b q with r | r | ⟨il, i, t⟩
  · exact n1 r
  · exact n2 r
  · obtain ⟨o', e', c, d⟩ := t.is
    have e'' := g b o e n1 n2 n3
    rw [show h.get? b = some o' from e'] at e''; cases e''
    rcases n3 with r | r | r
    · exact r c
    · exact r _ d
    · exact r t.base
def RR (G : GC P) : GenEnd := fun n s₀ r s' => n = 0 ∧ r = .ok (.ret .none) ∧ Now G s₀ s' ∧ ∃ m, GI G s'.heap m
def YY (G : GC P) : Protocol := fun n s₀ v s' kap => ∃ pre t post, G.out = pre ++ t :: post ∧ post.length = n ∧ TokI s'.heap.get? v t ∧ Now G s₀ s' ∧ (∃ m, GI G s'.heap m) ∧
  ∀ s'', KeepBut G.sa s'.heap s''.heap → (∃ xs, s''.heap.IsList G.sa xs) → kap (.send .none) s''
def Suf (G : GC P) (os : List T3) : Prop := ∃ pre, G.out = pre ++ os
theorem Suf.tail {t : T3} {os : List T3} (x : Suf G (t :: os)) : Suf G os := let ⟨p, e⟩ := x; ⟨p ++ [t], by simp [e]⟩
theorem Suf.app {a b : List T3} (x : Suf G (a ++ b)) : Suf G b := let ⟨p, e⟩ := x; ⟨p ++ a, by simp [e]⟩
end

section
variable {P : Pg} {G : GC P} {w : World} {A : Around} {c : Code} {fs : List Frame} {s₀ s : Shared} {m : Str → Option Value} {K : Flow → Sem Fin} {H : Value → Sem Fin} {gd : Bool → Bool} {lv : List Value → List Value}
abbrev GenEnvs (G : GC P) : List Env := [G.env, G.le]
theorem yield_out (F : FsOk A (GenEnvs G) c fs) (hgd : gd false = false) {e : Expr} {ypos pos : Pos} {t : T3} {os : List T3} (hs : Suf G (t :: os))
    (h : wpAny (model pw w) (A.over c fs) (eval e G.env) (fun v s' => Now G s₀ s' ∧ TokI s'.heap.get? v t ∧ ∃ m, GI G s'.heap m ∧
      ∀ s'', KeepBut G.sa s'.heap s''.heap → GI G s''.heap m → Seg (model pw w) A (RR G) (YY G) os.length s'' c (K .next) fs s'') (fun _ _ => False) s) :
    Seg (model pw w) A (RR G) (YY G) (t :: os).length s₀ c ((exec (.Expr (.Yield (some e) ypos) pos) G.env).wrap K H gd lv) fs s := by
  refine seg_Expr_Yield F.nogen hgd F.nog (wpAny_mono h (fun v s' h' => ?_) fun _ _ x => x.elim) (by rfl) (by rfl)
  intro kap hk
  obtain ⟨n, ti, m, gi, hQ⟩ := h'
  obtain ⟨pre, e⟩ := hs
  exact ⟨pre, t, os, e, rfl, ti, n, ⟨m, gi⟩, fun s'' kb l => hk .none s'' (hQ s'' kb (gi.back kb l))⟩
/-- yield (realpos, x2, e3) -/
theorem yield_tup (F : FsOk A (GenEnvs G) c fs) (hgd : gd false = false) {x2 : Str} {e3 : Expr} {p1 p2 p3 ypos pos : Pos} {k : Nat} {p : Int} {kk : Str} {v : List Nat} {t1 t2 : Tok} {os : List T3} (hs : Suf G (⟨p, kk, v⟩ :: os))
    (gi : GI G s.heap m) (nw : Now G s₀ s) (m1 : m "realpos" = some (.int p t1)) (m2 : m x2 = some (.str kk t2))
    (h3 : ∀ (s : Shared) (Q : Value → Shared → Prop), GI G s.heap m → (∀ t h' tk, Sub s.heap h' → Q (.str (S v) t) { s with heap := h', toks := tk }) → wpAny (model pw w) (A.over c fs) (eval e3 G.env) Q (fun _ _ => False) s)
    (h : ∀ s'', KeepL [G.sa] s.heap s''.heap → GI G s''.heap m → Seg (model pw w) A (RR G) (YY G) os.length s'' c (K .next) fs s'')
    (l2 : (envOf (nameA 1) (scopeA 1) G.Lg P.fi G.cd).kindOf x2 = some .local := by rfl) (d2 : (x2 == ("__debug__" : Str)) = false := by decide)
    (hst : backTo p3 (starEach [.Name "realpos" p1, .Name x2 p2, e3] G.env) = [(false, eval (.Name "realpos" p1) G.env), (false, eval (.Name x2 p2) G.env), (false, eval e3 G.env)] := by rfl) :
    Seg (model pw w) A (RR G) (YY G) (List.length (⟨p, kk, v⟩ :: os : List T3)) s₀ c ((exec (.Expr (.Yield (some (.Tuple [.Name "realpos" p1, .Name x2 p2, e3] k p3)) ypos) pos) G.env).wrap K H gd lv) fs s := by
  refine yield_out F hgd hs (Tuple_ ?_)
  rw [hst]
  refine spliced_cons (ldV gi.ns m1 (spliced_cons (ldV gi.ns m2 (spliced_cons (h3 s _ gi fun t3 h' tk sb => spliced_nil (wpAny_newObj_type ?_))) (by rfl) l2 d2)))
  have sb' : Sub s.heap (h'.push { cls := .type "tuple", data := .seq #[.int p t1, .str kk t2, .str (S v) t3] }) := sb.trans (Sub.push _ _)
  refine ⟨nw.step (l := []) sb'.toL (by simp), ⟨_, _, t1, t2, t3, rfl, Heap.get?_push_size _ rfl⟩, m, gi.sub sb', fun s'' kb g => h s'' (fun b o n e => kb b o (by simpa using n) (sb' b o e)) g⟩
/-- realpos += len(x) -/
theorem aug_len {x : Str} {q1 q2 q3 q4 q5 : Pos} {p : Int} {v : List Nat} {t1 t3 : Tok} {E : Value → Shared → Prop} {R : Shared → Prop} (hv : v.length ≤ 1000)
    (gi : GI G s.heap m) (m1 : m "realpos" = some (.int p t1)) (m2 : m x = some (.str (S v) t3))
    (h : ∀ h' tk t m', GI G h' m' → KeepL [G.Lg] s.heap h' → m' "realpos" = some (.int (p + v.length) t) → Upd ["realpos"] m m' → R { s with heap := h', toks := tk })
    (l2 : (envOf (nameA 1) (scopeA 1) G.Lg P.fi G.cd).kindOf x = some .local := by rfl) (d2 : (x == ("__debug__" : Str)) = false := by decide) :
    wpAny (model pw w) A (exec (.AugAssign (.Name "realpos" q1) .Add (.Call (.Name "len" q2) [.Name x q3] [] q4) q5) G.env) (fun f s' => f = .next ∧ R s') E s := by
  refine wpAny_AugAssign_Name (wpAny_loadName_local (by rfl) (by rfl) gi.ns m1 ?_)
  refine callB1 (P := P) gi.base PyProof.Rows.Boot.«len» (ldV gi.ns m2 (PySem.P.len_str (by rw [S_len]; omega) (iadd_int ?_)) (by rfl) l2 d2)
  refine wpAny_storeName_local (by rfl) gi.ns (fun h' hn' s' => ?_) (by rfl)
  replace s' : Heap.SameBut G.Lg s.heap h' := s'
  refine ⟨rfl, h h' _ _ _ (gi.set hn' (.of_same s')) (same_one s') (if_pos rfl) fun y hy => if_neg (by simpa using hy)⟩
/-- yield (realpos, x2, x3); realpos += len(x3) -/
theorem yield_add (F : FsOk A (GenEnvs G) c fs) (hgd : gd false = false) {x2 x3 : Str} {p1 p2 p3 p4 ypos pos q1 q2 q3 q4 q5 : Pos} {k : Nat} {p : Int} {kk : Str} {v : List Nat} {t1 t2 t3 : Tok} {os : List T3} {rest : List Stmt} (hs : Suf G (⟨p, kk, v⟩ :: os)) (hv : v.length ≤ 1000)
    (gi : GI G s.heap m) (nw : Now G s₀ s) (m1 : m "realpos" = some (.int p t1)) (m2 : m x2 = some (.str kk t2)) (m3 : m x3 = some (.str (S v) t3))
    (h : ∀ s₁ s' m' t, KeepL [G.sa, G.Lg] s.heap s'.heap → GI G s'.heap m' → Now G s₁ s' → m' "realpos" = some (.int (p + v.length) t) → Upd ["realpos"] m m' →
      Seg (model pw w) A (RR G) (YY G) os.length s₁ c ((execs rest G.env).wrap K H gd lv) fs s')
    (l2 : (envOf (nameA 1) (scopeA 1) G.Lg P.fi G.cd).kindOf x2 = some .local := by rfl) (d2 : (x2 == ("__debug__" : Str)) = false := by decide)
    (l3 : (envOf (nameA 1) (scopeA 1) G.Lg P.fi G.cd).kindOf x3 = some .local := by rfl) (d3 : (x3 == ("__debug__" : Str)) = false := by decide) :
    Seg (model pw w) A (RR G) (YY G) (List.length (⟨p, kk, v⟩ :: os : List T3)) s₀ c ((execs (.Expr (.Yield (some (.Tuple [.Name "realpos" p1, .Name x2 p2, .Name x3 p3] k p4)) ypos) pos ::
      .AugAssign (.Name "realpos" q1) .Add (.Call (.Name "len" q2) [.Name x3 q3] [] q4) q5 :: rest) G.env).wrap K H gd lv) fs s := by
  refine seg_execs_cons (yield_tup F hgd hs gi nw m1 m2 (fun s Q g hQ => ldV g.ns m3 (hQ t3 s.heap s.toks (Sub.refl _)) (by rfl) l3 d3) (fun s₁ k₁ g₁ => ?_) l2 d2)
  refine seg_stmt (aug_len hv g₁ m1 m3 (fun h' tk t m' g' k' e u => ?_) l3 d3)
  refine h s₁ _ m' t ?_ g' (Now.refl.step k' (by simp)) e u
  exact (k₁.mono (by simp)).trans (k'.mono (by simp))
end
end Mine
end

section
open PySem PySem.W PyProof.Rows PySem.Calls
namespace Mine
/-- tokens put out from a place on -/
def outs : Int → List T3 → List T3
  | _, [] => []
  | p, t :: r => ⟨p, t.k, t.v⟩ :: outs (p + t.v.length) r
theorem tot_cons (t : T3) (r : List T3) : tot (t :: r) = t.v.length + tot r := by simp [tot]
def LstI (I : PM) (a : Addr) (vs : List Value) : Prop := ∃ n, I a = some { cls := .type "list", data := .seq vs.toArray n }
theorem LstI.is {I : PM} {h : Heap} {a : Addr} {vs : List Value} (x : LstI I a vs) (F : Frz I h) : h.IsList a vs.toArray := let ⟨n, e⟩ := x; ⟨_, (F _ _ e).1, rfl, n, rfl⟩
theorem ToksI.lst {I : PM} {v : Value} {ts : List T3} (x : ToksI I v ts) : ∃ a vs, v = .ref a ∧ LstI I a vs ∧ Paired (TokI I) vs ts := let ⟨a, n, vs, e, e', p⟩ := x; ⟨a, vs, e, ⟨n, e'⟩, p⟩
theorem TokI.tuple {I : PM} {h : Heap} {v : Value} {t : T3} (x : TokI I v t) (F : Frz I h) : ∃ a t1 t2 t3, v = .ref a ∧ I a ≠ none ∧ h.IsTuple a #[.int t.p t1, .str t.k t2, .str (S t.v) t3] :=
  let ⟨a, n, t1, t2, t3, e, e'⟩ := x; ⟨a, t1, t2, t3, e, (by rw [e']; exact fun q => by cases q), ⟨_, (F _ _ e').1, rfl, n, rfl⟩⟩
theorem let_list {M : Model} {A : Around} {E : Value → Shared → Prop} {Q : Unit → Shared → Prop} {s : Shared} {elts : List Expr} {k : Nat} {p : Pos} {it l : Addr} {i : Nat} {v : Value} (x : s.heap.IsListIter it l i) (h : Q () s) :
    wpAny M A (letOwnedTupleGo (.Tuple elts k p) (.ref it) v) Q E s := by
  obtain ⟨o, e, c, d⟩ := x
  unfold letOwnedTupleGo
  cases v with
  | ref a =>
    refine wpAny_bind (wpAny_load e ?_)
    rw [c, d]
    dsimp only
    rw [if_neg (by rw [show (["enumerate", "zip", "dict_itemiterator", "dict_reverseitemiterator", "odict_iterator", "itertools.zip_longest", "itertools.pairwise"] : List String).contains "list_iterator" = false from by decide]; simp)]
    exact wpAny_pure h
  | _ => exact wpAny_pure h

theorem paired_len {α β : Type} {F : α → β → Prop} : ∀ {x : List α} {y : List β}, Paired F x y → x.length = y.length
  | _, _, .nil => rfl
  | _, _, .cons _ t => congrArg (· + 1) (paired_len t)
section
variable {P : Pg} {G : GC P} {w : World} {A : Around} {c : Code} {fs : List Frame} {s₀ s : Shared} {m : Str → Option Value} {K : Flow → Sem Fin} {H : Value → Sem Fin} {gd : Bool → Bool} {lv : List Value → List Value}
/-- the loop that puts out the tokens of a pair -/
theorem items_loop {x1 x2 x3 : Str} {q1 q2 q3 q4 p1 p2 p3 p4 ypos pos r1 r2 r3 r4 r5 : Pos} {k kq : Nat} {il it : Addr} {vs : List Value} {ts os : List T3} {pend : Int} {h₀ : Heap} {m₀ : Str → Option Value}
    (hI : LstI G.I il vs) (hp : Paired (TokI G.I) vs ts) (hv : ∀ t ∈ ts, t.v.length ≤ 4)
    (F : FsOk A (GenEnvs G) (.forLoop (.Tuple [.Name x1 q1, .Name x2 q2, .Name x3 q3] kq q4) (.ref it) [.Expr (.Yield (some (.Tuple [.Name "realpos" p1, .Name x2 p2, .Name x3 p3] k p4)) ypos) pos, .AugAssign (.Name "realpos" r1) .Add (.Call (.Name "len" r2) [.Name x3 r3] [] r4) r5] [] G.env) fs)
    (fin : ∀ s₀ s m' t, GI G s.heap m' → Now G s₀ s → KeepL [G.sa, G.Lg, it] h₀ s.heap → m' "realpos" = some (.int pend t) → Upd [x1, x2, x3, "realpos"] m₀ m' → Seg (model pw w) A (RR G) (YY G) os.length s₀ (.block [] G.env) (.pure (.done .next)) fs s)
    (l1 : (envOf (nameA 1) (scopeA 1) G.Lg P.fi G.cd).kindOf x1 = some .local) (l2 : (envOf (nameA 1) (scopeA 1) G.Lg P.fi G.cd).kindOf x2 = some .local) (l3 : (envOf (nameA 1) (scopeA 1) G.Lg P.fi G.cd).kindOf x3 = some .local)
    (d2 : (x2 == ("__debug__" : Str)) = false) (d3 : (x3 == ("__debug__" : Str)) = false) (n1 : "realpos" ≠ x1) (n2 : "realpos" ≠ x2) (n3 : "realpos" ≠ x3) (n23 : x2 ≠ x3) :
    ∀ (rem : List T3) (i : Nat) (p : Int) (t : Tok) (s₀ s : Shared) (m : Str → Option Value), ts.drop i = rem → ItA G s.heap it il i → GI G s.heap m → Now G s₀ s → KeepL [G.sa, G.Lg, it] h₀ s.heap → m "realpos" = some (.int p t) → Upd [x1, x2, x3, "realpos"] m₀ m →
      p + tot rem = pend → Suf G (outs p rem ++ os) →
      Seg (model pw w) A (RR G) (YY G) (outs p rem ++ os).length s₀ (.forLoop (.Tuple [.Name x1 q1, .Name x2 q2, .Name x3 q3] kq q4) (.ref it) [.Expr (.Yield (some (.Tuple [.Name "realpos" p1, .Name x2 p2, .Name x3 p3] k p4)) ypos) pos, .AugAssign (.Name "realpos" r1) .Add (.Call (.Name "len" r2) [.Name x3 r3] [] r4) r5] [] G.env)
        ((model pw w).den (.forLoop (.Tuple [.Name x1 q1, .Name x2 q2, .Name x3 q3] kq q4) (.ref it) [.Expr (.Yield (some (.Tuple [.Name "realpos" p1, .Name x2 p2, .Name x3 p3] k p4)) ypos) pos, .AugAssign (.Name "realpos" r1) .Add (.Call (.Name "len" r2) [.Name x3 r3] [] r4) r5] [] G.env)) fs s := by
  intro rem
  induction rem with
  | nil =>
    intro i p t s₀ s m hd hit gi nw k₀ hr hu hpe hs
    refine seg_forTurn (wpAny_pyNext_list_end F.hand hit.is (hI.is gi.frz) ?_ fun h' x' => ?_)
    · have : ts[i]? = none := List.getElem?_eq_none (by have := congrArg List.length hd; simp at this; omega)
      have hl := paired_len hp
      simp; have := congrArg List.length hd; simp at this; omega
    · dsimp only
      have k' : KeepBut it s.heap h' := x'
      refine fin _ _ m t (gi.it hit k') (nw.step (KeepBut.toL (l := [it]) k') (by intro a ha; simp at ha; subst ha; exact .inr (.inr ⟨_, _, hit⟩))) (k₀.trans (KeepBut.toL k')) ?_ hu
      have : p = pend := by simpa [tot] using hpe
      rw [← this]; exact hr
  | cons x rem ih =>
    intro i p t s₀ s m hd hit gi nw k₀ hr hu hpe hs
    have hx : ts[i]? = some x := by have := congrArg (·[0]?) hd; simpa using this
    obtain ⟨v, hv', ti⟩ := paired_at hp hx
    have hx4 := hv x (List.mem_of_getElem? hx)
    refine seg_forTurn (wpAny_pyNext_list_item hit.is (hI.is gi.frz) (x := v) (by simpa using hv') fun h₁ hit₁ s₁ => ?_)
    dsimp only
    refine let_list hit₁ ?_
    have kb := KeepBut.of_same s₁
    have g₁ := gi.it hit kb
    have nw₁ : Now G s₀ { s with heap := h₁ } := nw.step (tk := s.toks) (KeepBut.toL (l := [it]) kb) (by intro a ha; simp at ha; subst ha; exact .inr (.inr ⟨_, _, hit⟩))
    obtain ⟨a, u1, u2, u3, rfl, _, ht⟩ := ti.tuple g₁.frz
    refine assign3 F.hand ht g₁.ns (fun h₂ tk hn₂ k₂ => ?_) l1 l2 l3 (by rfl)
    intro K' H' hK
    have k₂' : KeepBut G.Lg h₁ h₂ := k₂
    have g₂ := g₁.set hn₂ k₂'
    have kk : KeepL [G.sa, G.Lg, it] s.heap h₂ := (KeepBut.toL kb).trans (KeepBut.toL k₂')
    refine yield_add (m := fun z => if z = x3 then some (.str (S x.v) u3) else if z = x2 then some (.str x.k u2) else if z = x1 then some (.int x.p u1) else m z) (os := outs (p + x.v.length) rem ++ os) F rfl hs (by omega) g₂
      (nw₁.step (KeepBut.toL (l := [G.Lg]) k₂') (by simp)) (t1 := t) (t2 := u2) (t3 := u3) ((if_neg n3).trans ((if_neg n2).trans ((if_neg n1).trans hr))) ((if_neg n23).trans (if_pos rfl)) (if_pos rfl) (fun s₁' s' m' t' k' g' nw' r' u' => ?_) l2 d2 l3 d3
    refine seg_execs_nil ?_
    rw [hK]
    refine seg_again rfl (ih (i + 1) (p + x.v.length) t' s₁' s' m' ?_ ?_ g' nw' ?_ r' ?_ ?_ hs.tail)
    · rw [← List.drop_drop, hd]; rfl
    · have it₁ : ItA G h₁ it il (i + 1) := ⟨hit₁, hit.base, hit.ng, hit.nw, hit.ns, hit.ni⟩
      have it₂ : ItA G h₂ it il (i + 1) := it₁.keep (KeepBut.toL (l := [G.Lg]) k₂') (by simp [hit.ng])
      exact it₂.keep k' (by simp [hit.ng, hit.ns])
    · exact (k₀.trans kk).trans (k'.mono (by simp))
    · intro z hz
      rw [u' z (by simp at hz ⊢; exact hz.2.2.2)]
      simp only [List.mem_cons, List.not_mem_nil, or_false, not_or] at hz
      refine (if_neg hz.2.2.1).trans ((if_neg hz.2.1).trans ((if_neg hz.1).trans ?_))
      exact hu z (by simp [hz])
    · rw [tot_cons] at hpe; omega
end
end Mine
end

section
open PySem PySem.W PyProof.Rows PySem.Calls
namespace Mine
def loopTest : Stmt → Expr
  | .While t _ _ _ => t
  | _ => .Name "" default
def loopBody : Stmt → List Stmt
  | .While _ b _ _ => b
  | .For _ _ b _ _ => b
  | _ => []
def genFor : Stmt := stmtA 1 6
def genIn : Stmt := nth (loopBody genFor) 2 (.Pass default)
def genEnd : Stmt := stmtA 1 7
def Ord : Int → List T2 → Prop
  | _, [] => True
  | x, q :: r => x ≤ q.at' ∧ Ord q.at' r
/-- what a token gives: outs, what is left, the letters gone, the place -/
def inner (i : Int) (k : Str) (v : List Nat) : List T2 → Nat → Int → List T3 × List T2 × Nat × Int
  | [], o, p => ([], [], o, p)
  | q :: r, o, p =>
    if q.at' ≤ i + v.length then
      let a := (q.at' - i).toNat
      let tmp := (v.drop o).take (a - o)
      let p1 := p + tmp.length
      let x := inner i k v r a (p1 + tot q.ts)
      ((if tmp = [] then [] else [⟨p, k, tmp⟩]) ++ (outs p1 q.ts ++ x.1), x.2)
    else ([], q :: r, o, p)
/-- the pairs not yet put in -/
def Pend {P : Pg} (G : GC P) (ins : List T2) (m : Str → Option Value) (j : Nat) : List T2 → Prop
  | [] => m "insleft" = some (.bool false)
  | q :: r => m "insleft" = some (.bool true) ∧ (∃ t, m "index" = some (.int q.at' t)) ∧ (∃ u, m "itokens" = some u ∧ ToksI G.I u q.ts) ∧ ins.drop j = r ∧ ∀ t ∈ q.ts, t.v.length ≤ 4
structure IM (m : Str → Option Value) (it : Addr) (i : Int) (k : Str) (v : List Nat) (o : Nat) (p : Int) : Prop where
  mi : ∃ t, m "i" = some (.int i t)
  mt : ∃ t, m "t" = some (.str k t)
  mv : ∃ t, m "v" = some (.str (S v) t)
  mo : ∃ t, m "oldi" = some (.int o t)
  mr : ∃ t, m "realpos" = some (.int p t)
  mit : m "insertions" = some (.ref it)

section
variable {P : Pg} {G : GC P} {w : World} {A : Around} {c : Code} {fs : List Frame} {s₀ s : Shared} {m : Str → Option Value} {K : Flow → Sem Fin} {H : Value → Sem Fin} {gd : Bool → Bool} {lv : List Value → List Value}
theorem GI.end' (x : GI G s.heap m) {it il : Addr} {i : Nat} {h' : Heap} {m' : Str → Option Value} (t : ItA G s.heap it il i) (n : h'.Ns G.Lg m') (n' : h'.Ns G.Lw G.mw) (k : KeepL [G.Lg, G.Lw, it] s.heap h') : GI G h' m' :=
  ⟨x.base.keepL k (by simp [G.gb, G.wb, t.base]), x.frz.keepL k (by simp [G.Ig, G.Iw, t.ni]), n, n', let ⟨xs, l⟩ := x.sl; ⟨xs, l.at fun o e => k _ o (by simp [G.sg, G.sw, t.ns.symm]) e⟩⟩
/-- for x1, x2, x3 in itokens: … -/
theorem seg_items {x1 x2 x3 : Str} {q1 q2 q3 q4 p1 p2 p3 p4 ypos pos r1 r2 r3 r4 r5 p6 p7 : Pos} {k kq : Nat} {ts os : List T3} {u : Value} {p : Int} {t : Tok}
    (F : FsOk A (GenEnvs G) c fs) (hgd : gd false = false) (hu : m "itokens" = some u) (hT : ToksI G.I u ts) (hv : ∀ t ∈ ts, t.v.length ≤ 4) (gi : GI G s.heap m) (nw : Now G s₀ s) (hr : m "realpos" = some (.int p t)) (hs : Suf G (outs p ts ++ os))
    (h : ∀ s₁ s' m' t, KeepL [G.sa, G.Lg] s.heap s'.heap → GI G s'.heap m' → Now G s₁ s' → m' "realpos" = some (.int (p + tot ts) t) → Upd [x1, x2, x3, "realpos"] m m' → Seg (model pw w) A (RR G) (YY G) os.length s₁ c (K .next) fs s')
    (l1 : (envOf (nameA 1) (scopeA 1) G.Lg P.fi G.cd).kindOf x1 = some .local := by rfl) (l2 : (envOf (nameA 1) (scopeA 1) G.Lg P.fi G.cd).kindOf x2 = some .local := by rfl) (l3 : (envOf (nameA 1) (scopeA 1) G.Lg P.fi G.cd).kindOf x3 = some .local := by rfl)
    (d2 : (x2 == ("__debug__" : Str)) = false := by decide) (d3 : (x3 == ("__debug__" : Str)) = false := by decide) (n1 : "realpos" ≠ x1 := by decide) (n2 : "realpos" ≠ x2 := by decide) (n3 : "realpos" ≠ x3 := by decide) (n23 : x2 ≠ x3 := by decide) :
    Seg (model pw w) A (RR G) (YY G) (outs p ts ++ os).length s₀ c ((exec (.For (.Tuple [.Name x1 q1, .Name x2 q2, .Name x3 q3] kq q4) (.Name "itokens" p6) [.Expr (.Yield (some (.Tuple [.Name "realpos" p1, .Name x2 p2, .Name x3 p3] k p4)) ypos) pos, .AugAssign (.Name "realpos" r1) .Add (.Call (.Name "len" r2) [.Name x3 r3] [] r4) r5] [] p7) G.env).wrap K H gd lv) fs s := by
  obtain ⟨a, vs, rfl, hL, hp⟩ := hT.lst
  refine seg_For' F hgd (ldV gi.ns hu (wpAny_pyIter_list (hL.is gi.frz) fun fs' F' hk => ?_))
  have sb := Sub.push s.heap { cls := .type "list_iterator", data := .fields #[.ref a, .int 0 0] }
  have hit : ItA G (s.heap.push { cls := .type "list_iterator", data := .fields #[.ref a, .int 0 0] }) s.heap.objs.size a 0 := ItA.new gi ⟨_, Heap.get?_push_size _ rfl, rfl, rfl⟩
  refine items_loop (h₀ := s.heap) (m₀ := m) (pend := p + tot ts) hL hp hv F' (fun s₁ s' m' t' g' nw' k' r' u' => hk _ _ _ _ (h s₁ s' m' t' ?_ g' nw' r' u')) l1 l2 l3 d2 d3 n1 n2 n3 n23 ts 0 p t s₀ _ m rfl hit (gi.sub sb) (nw.step (tk := s.toks) (l := []) sb.toL (by simp)) sb.toL hr (Upd.refl m) rfl hs
  intro b o n e
  refine k' b o ?_ e
  simp only [List.mem_cons, List.not_mem_nil, or_false, not_or] at n ⊢
  exact ⟨n.1, n.2, new_ne e⟩
end
end Mine
end

section
open PySem PySem.W PyProof.Rows PySem.Calls
namespace Mine
section
variable {P : Pg} {G : GC P} {w : World} {A : Around} {c : Code} {fs : List Frame} {s₀ s : Shared} {m : Str → Option Value} {K : Flow → Sem Fin} {H : Value → Sem Fin} {gd : Bool → Bool} {lv : List Value → List Value}
theorem its3 {h : Heap} {it il : Addr} {i : Nat} (hit : ItA G h it il i) : ∀ a ∈ [G.Lg, G.Lw, it], a = G.Lg ∨ a = G.Lw ∨ (∃ il i, ItA G h a il i) := by
  intro a ha
  simp only [List.mem_cons, List.not_mem_nil, or_false] at ha
  rcases ha with rfl | rfl | rfl
  · exact .inl rfl
  · exact .inr (.inl rfl)
  · exact .inr (.inr ⟨_, _, hit⟩)
/-- the try, whole: the next pair, or the end -/
theorem seg_try {p1 p2 p3 p4 p5 p6 p7 p8 p9 p10 p11 p12 p13 p14 : Pos} {k : Nat} {it il : Addr} {j n : Nat} {ivs : List Value} {ins r : List T2}
    (F : FsOk A (GenEnvs G) c fs) (hI : LstI G.I il ivs) (hp : Paired (InsI G.I) ivs ins) (hok : ∀ q ∈ ins, ∀ t ∈ q.ts, t.v.length ≤ 4)
    (gi : GI G s.heap m) (nw : Now G s₀ s) (mit : m "insertions" = some (.ref it)) (hit : ItA G s.heap it il j) (hr : ins.drop j = r) (hil : m "insleft" = some (.bool true))
    (h : ∀ s' m', KeepL [G.sa, G.Lg, G.Lw, it] s.heap s'.heap → GI G s'.heap m' → Now G s₀ s' → Pend G ins m' (j + 1) r → (r ≠ [] → ItA G s'.heap it il (j + 1)) → Upd ["index", "itokens", "insleft"] m m' →
      Seg (model pw w) A (RR G) (YY G) n s₀ c (K (if r = [] then .brk else .next)) fs s') :
    Seg (model pw w) A (RR G) (YY G) n s₀ c ((exec (.Try [.Assign [.Tuple [.Name "index" p1, .Name "itokens" p2] k p3] (.Call (.Name "next" p4) [.Name "insertions" p5] [] p6) p7]
      [.ExceptHandler (some (.Name "StopIteration" p8)) none [.Assign [.Name "insleft" p9] (.Constant (.bool false) 0 p10) p11, .Break p12] p13] [] [] p14) G.env).wrap K H gd lv) fs s := by
  refine seg_stmt1 (try_next (P := P) G.toGW F.hand F.frames gi.base gi.ns gi.lw mit hit.is (hI.is gi.frz) hit.base hit.ng hit.nw (fun v hv => ?_) fun hv h' tk hn' hw' k' => ?_)
  · cases r with
    | nil =>
      exfalso
      have hlt : j < ivs.length := (List.getElem?_eq_some_iff.1 hv).1
      have := congrArg List.length hr; simp at this; have := hp.length; omega
    | cons q r' =>
      have hq : ins[j]? = some q := by have := congrArg (·[0]?) hr; simpa using this
      obtain ⟨v', hv', a, nn, t1, u, e1, e2, e3⟩ := paired_at hp hq
      rw [hv] at hv'; cases hv'
      refine ⟨a, q.at', t1, u, e1, ⟨_, (gi.frz _ _ e2).1, rfl, _, rfl⟩, (by rintro rfl; rw [hit.ni] at e2; cases e2), fun h' tk hn' hit' k' => ?_⟩
      have hn'' : h'.Ns G.Lg _ := hn'
      have kk : KeepL [G.Lg, G.Lw, it] s.heap h' := k'.mono (by simp)
      refine h _ _ (k'.mono (by simp)) (gi.end' hit hn'' (gi.lw.at' fun o e => k' _ o (by simp [G.ne.symm, hit.nw.symm]) e) kk)
        (nw.step kk (its3 hit)) ?_ (fun _ => ⟨hit', hit.base, hit.ng, hit.nw, hit.ns, hit.ni⟩) ?_
      · refine ⟨hil, ⟨t1, rfl⟩, ⟨u, rfl, e3⟩, ?_, hok q (List.mem_of_getElem? hq)⟩
        rw [← List.drop_drop, hr]; rfl
      · intro z hz
        simp only [List.mem_cons, List.not_mem_nil, or_false, not_or] at hz
        exact (if_neg hz.2.1).trans (if_neg hz.1)
  · have hr0 : r = [] := by
      rw [← hr]
      have hge : ivs.length ≤ j := List.getElem?_eq_none_iff.1 hv
      exact List.drop_eq_nil_of_le (by rw [← hp.length]; exact hge)
    subst hr0
    have hn'' : h'.Ns G.Lg _ := hn'
    refine h _ _ (k'.mono (by simp)) (gi.end' hit hn'' hw' k')
        (nw.step k' (its3 hit)) rfl (fun q => absurd rfl q) ?_
    intro z hz
    simp only [List.mem_cons, List.not_mem_nil, or_false, not_or] at hz
    exact if_neg hz.2.2
end
end Mine
end

section
open PySem PySem.W PyProof.Rows PySem.Calls
namespace Mine
def UL : List Str := ["tmpval", "realpos", "it_index", "it_token", "it_value", "oldi", "index", "itokens", "insleft"]
theorem IM.upd {m m' : Str → Option Value} {it : Addr} {i : Int} {k : Str} {v : List Nat} {o : Nat} {p : Int} (x : IM m it i k v o p) {xs : List Str} (u : Upd xs m m') (h1 : ("i" : Str) ∉ xs := by decide) (h2 : ("t" : Str) ∉ xs := by decide) (h3 : ("v" : Str) ∉ xs := by decide) (h4 : ("oldi" : Str) ∉ xs := by decide) (h5 : ("realpos" : Str) ∉ xs := by decide) (h6 : ("insertions" : Str) ∉ xs := by decide) :
    IM m' it i k v o p := by
  obtain ⟨a, b, c, d, e, f⟩ := x
  exact ⟨by rw [u _ h1]; exact a, by rw [u _ h2]; exact b, by rw [u _ h3]; exact c, by rw [u _ h4]; exact d, by rw [u _ h5]; exact e, by rw [u _ h6]; exact f⟩
/-- all but the place -/
theorem IM.at' {m m' : Str → Option Value} {it : Addr} {i : Int} {k : Str} {v : List Nat} {o : Nat} {p p' : Int} (x : IM m it i k v o p) {xs : List Str} (u : Upd xs m m') (r : ∃ t, m' "realpos" = some (.int p' t)) (h1 : ("i" : Str) ∉ xs := by decide) (h2 : ("t" : Str) ∉ xs := by decide) (h3 : ("v" : Str) ∉ xs := by decide) (h4 : ("oldi" : Str) ∉ xs := by decide) (h6 : ("insertions" : Str) ∉ xs := by decide) :
    IM m' it i k v o p' := by
  obtain ⟨a, b, c, d, e, f⟩ := x
  exact ⟨by rw [u _ h1]; exact a, by rw [u _ h2]; exact b, by rw [u _ h3]; exact c, by rw [u _ h4]; exact d, r, by rw [u _ h6]; exact f⟩
section
variable {P : Pg} {G : GC P} {w : World} {A : Around} {c : Code} {fs : List Frame} {s₀ s : Shared} {m : Str → Option Value} {K : Flow → Sem Fin} {H : Value → Sem Fin} {gd : Bool → Bool} {lv : List Value → List Value}
/-- tmpval = v[oldi:index - i]; if tmpval: … -/
theorem seg_tmp {rest : List Stmt} {i : Int} {k : Str} {v : List Nat} {o a : Nat} {p : Int} {it : Addr} {os : List T3} {q : Int} {tq : Tok}
    (F : FsOk A (GenEnvs G) c fs) (hgd : gd false = false) (gi : GI G s.heap m) (nw : Now G s₀ s) (im : IM m it i k v o p) (mq : m "index" = some (.int q tq)) (ha : q - i = (a : Int)) (hoa : o ≤ a) (hav : a ≤ v.length) (hv : v.length ≤ 4)
    (hs : Suf G ((if (v.drop o).take (a - o) = [] then [] else [⟨p, k, (v.drop o).take (a - o)⟩]) ++ os))
    (h : ∀ s₁ s' m', KeepL [G.sa, G.Lg] s.heap s'.heap → GI G s'.heap m' → Now G s₁ s' → IM m' it i k v o (p + ((v.drop o).take (a - o)).length) → Upd ["tmpval", "realpos"] m m' →
      Seg (model pw w) A (RR G) (YY G) os.length s₁ c ((execs rest G.env).wrap K H gd lv) fs s') :
    Seg (model pw w) A (RR G) (YY G) (List.length ((if (v.drop o).take (a - o) = [] then [] else [⟨p, k, (v.drop o).take (a - o)⟩]) ++ os : List T3)) s₀ c ((execs (nth (loopBody genIn) 0 (.Pass default) :: nth (loopBody genIn) 1 (.Pass default) :: rest) G.env).wrap K H gd lv) fs s := by
  obtain ⟨⟨ti, mi⟩, ⟨tt, mt⟩, ⟨tv, mv⟩, ⟨to, mo⟩, ⟨tr, mr⟩, mit⟩ := id im
  refine seg_stmt (wpAny_Assign_Name (str_slice (ldV gi.ns mv (ldV gi.ns mo (wpAny_BinOp (ldV gi.ns mq (ldV gi.ns mi (sub_int ?_))))))))
  dsimp only
  refine ⟨S v, tv, some ((o : Int), to), some (q - i, _), rfl, rfl, rfl, by rw [S_len]; omega, fun t' kk => ?_⟩
  dsimp only [Option.map]
  rw [ha, slice_ab v o a hoa hav]
  have hvl : ((v.drop o).take (a - o)).length ≤ 4 := by rw [List.length_take, List.length_drop]; omega
  generalize (v.drop o).take (a - o) = val at *
  generalize hH : s.heap.push _ = H₁
  have S₁ : Sub s.heap H₁ := by rw [← hH]; exact Sub.push _ _
  have g₁ := gi.sub S₁
  clear hH
  refine wpAny_storeName_local (by rfl) g₁.ns (fun h₂ hn₂ s₂ => ?_) (by rfl)
  replace s₂ : Heap.SameBut G.Lg H₁ h₂ := s₂
  replace hn₂ : h₂.Ns G.Lg _ := hn₂
  have g₂ := g₁.set hn₂ (.of_same s₂)
  have K₂ : KeepL [G.Lg] s.heap h₂ := S₁.toL.trans (same_toL s₂)
  generalize hm : (fun z : Str => if z = "tmpval" then some (Value.str (S val) t') else m z) = m₂ at *
  have u₂ : Upd ["tmpval"] m m₂ := by rw [← hm]; intro z hz; exact if_neg (by simpa using hz)
  have mt₂ : m₂ "tmpval" = some (.str (S val) t') := by rw [← hm]; exact if_pos rfl
  have im₂ := im.upd u₂
  clear hm
  dsimp only
  refine ⟨rfl, ?_⟩
  have N₂ : ∀ tk, Now G s₀ { s with heap := h₂, toks := tk } := fun tk => nw.step K₂ (by simp)
  refine seg_execs_cons (seg_If (isTrue_plain (ldV g₂.ns mt₂ (PySem.P.truthy_str ?_ ?_))))
  · rw [S_len]
    have : val.length ≤ 4 := hvl
    omega
  rw [S_len]
  by_cases hz : val = []
  · subst hz
    refine seg_execs_nil ?_
    simp only [if_true, List.nil_append]
    refine h s₀ _ m₂ (K₂.mono (by simp)) g₂ (nw.step K₂ (by simp)) ?_ (u₂.mono (by simp))
    simpa using im₂
  · simp only [if_neg hz] at hs ⊢
    have : ((val.length : Int) != 0) = true := by
      have : val.length ≠ 0 := by simpa using hz
      simp; exact hz
    rw [this, if_pos rfl]
    obtain ⟨⟨ti', mi'⟩, ⟨tt', mt'⟩, ⟨tv', mv'⟩, ⟨to', mo'⟩, ⟨tr', mr'⟩, mit'⟩ := id im₂
    refine yield_add (m := m₂) (os := os) F hgd hs (by omega) g₂ (nw.step K₂ (by simp)) mr' mt' mt₂ fun s₁ s' m' t k' g' nw' r' u' => ?_
    refine seg_execs_nil ?_
    exact h s₁ s' m' ((K₂.mono (by simp)).trans k') g' nw' (im₂.at' u' ⟨t, r'⟩) ((u₂.mono (by simp)).trans (u'.mono (by simp)))
end
end Mine
end

section
open PySem PySem.W PyProof.Rows PySem.Calls
namespace Mine
theorem Pend.upd {P : Pg} {G : GC P} {ins pend : List T2} {m m' : Str → Option Value} {j : Nat} {xs : List Str} (x : Pend G ins m j pend) (u : Upd xs m m') (h1 : ("insleft" : Str) ∉ xs := by decide) (h2 : ("index" : Str) ∉ xs := by decide) (h3 : ("itokens" : Str) ∉ xs := by decide) : Pend G ins m' j pend := by
  cases pend with
  | nil => exact (u _ h1).trans x
  | cons q r => obtain ⟨a, b, c, d⟩ := x; exact ⟨(u _ h1).trans a, by rw [u _ h2]; exact b, by rw [u _ h3]; exact c, d⟩
section
variable {P : Pg} {G : GC P} {w : World} {A : Around} {c : Code} {fs : List Frame} {s₀ s : Shared} {m : Str → Option Value} {K : Flow → Sem Fin} {H : Value → Sem Fin} {gd : Bool → Bool} {lv : List Value → List Value}
theorem in_test {E : Value → Shared → Prop} {R : Bool → Shared → Prop} {whole : Sem Value} {i : Int} {k : Str} {v : List Nat} {o : Nat} {p : Int} {it : Addr} {ins : List T2} {j : Nat} {pend : List T2} (hv : v.length ≤ 4)
    (gi : GI G s.heap m) (im : IM m it i k v o p) (pe : Pend G ins m j pend)
    (h : ∀ tk, R (match pend with | [] => false | q :: _ => decide (i + v.length ≥ q.at')) { s with toks := tk }) :
    wpAny (model pw w) A (isTrue (loopTest genIn) G.env whole) R E s := by
  obtain ⟨⟨ti, mi⟩, ⟨tt, mt⟩, ⟨tv, mv⟩, ⟨to, mo⟩, ⟨tr, mr⟩, mit⟩ := id im
  cases pend with
  | nil =>
    refine isTrue_and (isTrue_plain (ldV gi.ns pe (wpAny_truthy_bool ?_)))
    exact h s.toks
  | cons q r =>
    obtain ⟨a, ⟨tq, b⟩, _⟩ := pe
    refine isTrue_and (isTrue_plain (ldV gi.ns a (wpAny_truthy_bool ?_)))
    rw [if_pos rfl]
    refine isTrue_and (wpAny_isTrue_Compare1 (wpAny_BinOp (ldV gi.ns mi (callB1 (P := P) gi.base PyProof.Rows.Boot.«len» (ldV gi.ns mv (PySem.P.len_str (by rw [S_len]; omega) (add_int (ldV gi.ns b (PySem.P.ge_int (wpAny_truthy_bool ?_))))))))))
    rw [S_len]
    generalize hd : decide (i + (v.length : Int) ≥ q.at') = d
    have := h
    simp only [hd] at this
    cases d
    · exact this _
    · exact isTrue_and_nil (this _)
/-- oldi = index - i -/
theorem set_oldi {E : Value → Shared → Prop} {R : Shared → Prop} {i : Int} {k : Str} {v : List Nat} {o a : Nat} {p : Int} {it : Addr} {q : Int} {tq : Tok} (gi : GI G s.heap m) (im : IM m it i k v o p) (mq : m "index" = some (.int q tq)) (ha : q - i = (a : Int))
    (h : ∀ h' tk m', GI G h' m' → KeepL [G.Lg] s.heap h' → IM m' it i k v a p → Upd ["oldi"] m m' → R { s with heap := h', toks := tk }) :
    wpAny (model pw w) A (exec (nth (loopBody genIn) 3 (.Pass default)) G.env) (fun f s' => f = .next ∧ R s') E s := by
  obtain ⟨⟨ti, mi⟩, ⟨tt, mt⟩, ⟨tv, mv⟩, ⟨to, mo⟩, ⟨tr, mr⟩, mit⟩ := id im
  refine wpAny_Assign_Name (wpAny_BinOp (ldV gi.ns mq (ldV gi.ns mi (sub_int ?_))))
  refine wpAny_storeName_local (by rfl) gi.ns (fun h' hn' s' => ?_) (by rfl)
  replace s' : Heap.SameBut G.Lg s.heap h' := s'
  rw [ha] at hn'
  refine ⟨rfl, h h' _ _ (gi.set hn' (.of_same s')) (same_one s') ⟨⟨ti, ms mi⟩, ⟨tt, ms mt⟩, ⟨tv, ms mv⟩, ⟨_, if_pos rfl⟩, ⟨tr, ms mr⟩, ms mit⟩ fun z hz => if_neg (by simpa using hz)⟩

theorem inner_loop {it il : Addr} {ivs : List Value} {ins : List T2} {i : Int} {k : Str} {v : List Nat} {os : List T3} {h₀ : Heap} {m₀ : Str → Option Value} {fin : List T2 × Nat × Int}
    (hI : LstI G.I il ivs) (hp : Paired (InsI G.I) ivs ins) (hok : ∀ q ∈ ins, ∀ t ∈ q.ts, t.v.length ≤ 4) (hv : v.length ≤ 4)
    (F : FsOk A (GenEnvs G) (.whileLoop (loopTest genIn) (loopBody genIn) [] G.env) fs)
    (hfin : ∀ s₀ s m' j', KeepL [G.sa, G.Lg, G.Lw, it] h₀ s.heap → GI G s.heap m' → Now G s₀ s → IM m' it i k v fin.2.1 fin.2.2 → Pend G ins m' j' fin.1 → (fin.1 ≠ [] → ItA G s.heap it il j') → Upd UL m₀ m' →
      Seg (model pw w) A (RR G) (YY G) os.length s₀ (.whileLoop (loopTest genIn) (loopBody genIn) [] G.env) (.pure (.done .next)) fs s) :
    ∀ (pend : List T2) (j o : Nat) (p : Int) (s₀ s : Shared) (m : Str → Option Value), KeepL [G.sa, G.Lg, G.Lw, it] h₀ s.heap → GI G s.heap m → Now G s₀ s → IM m it i k v o p → Pend G ins m j pend → (pend ≠ [] → ItA G s.heap it il j) → Upd UL m₀ m →
      Ord (i + o) pend → (inner i k v pend o p).2 = fin → Suf G ((inner i k v pend o p).1 ++ os) →
      Seg (model pw w) A (RR G) (YY G) ((inner i k v pend o p).1 ++ os).length s₀ (.whileLoop (loopTest genIn) (loopBody genIn) [] G.env) ((model pw w).den (.whileLoop (loopTest genIn) (loopBody genIn) [] G.env)) fs s := by
  intro pend
  induction pend with
  | nil =>
    intro j o p s₀ s m k₀ gi nw im pe hit u hord hf hs
    refine seg_whileTurn (in_test hv gi im pe fun tk => ?_)
    rw [if_neg Bool.false_ne_true]
    subst hf
    exact hfin s₀ _ m j k₀ gi (nw.step (tk := tk) (l := []) (KeepL.refl _ _) (by simp)) im pe (fun q => absurd rfl q) u
  | cons q r ih =>
    intro j o p s₀ s m k₀ gi nw im pe hit u hord hf hs
    refine seg_whileTurn (in_test hv gi im pe fun tk => ?_)
    dsimp only
    have nw₀ : Now G s₀ { s with toks := tk } := nw.step (tk := tk) (l := []) (KeepL.refl _ _) (by simp)
    by_cases hq : q.at' ≤ i + v.length
    · rw [if_pos (decide_eq_true hq)]
      intro K' H' hK hB
      obtain ⟨pe1, ⟨tq, pe2⟩, ⟨uu, pe3, pe3'⟩, pe4, pe5⟩ := id pe
      have hlo := hord.1
      have ha : q.at' - i = (((q.at' - i).toNat : Nat) : Int) := by omega
      simp only [inner, if_pos hq] at hf hs ⊢
      have ia : i + (((q.at' - i).toNat : Nat) : Int) = q.at' := by omega
      have hord' : Ord (i + (((q.at' - i).toNat : Nat) : Int)) r := by rw [ia]; exact hord.2
      have hoa : o ≤ (q.at' - i).toNat := by omega
      have hav : (q.at' - i).toNat ≤ v.length := by omega
      generalize (q.at' - i).toNat = a at *
      rw [List.append_assoc] at hs ⊢
      refine seg_tmp (i := i) F rfl gi nw₀ im pe2 ha hoa hav hv hs fun s₁ s' m₁ k₁ g₁ nw₁ im₁ u₁ => ?_
      have hs₁ := hs.app
      generalize ((v.drop o).take (a - o)).length = n₁ at *
      have pe₁ := pe.upd u₁
      obtain ⟨_, ⟨tq₁, pe2₁⟩, ⟨uu₁, pe3₁, pe3'₁⟩, _⟩ := id pe₁
      obtain ⟨tr₁, mr₁⟩ := im₁.mr
      rw [List.append_assoc] at hs₁ ⊢
      refine seg_execs_cons (seg_items (os := (inner i k v r a (p + n₁ + tot q.ts)).1 ++ os) F rfl pe3₁ pe3'₁ pe5 g₁ nw₁ mr₁ hs₁ fun s₂ s'' m₂ t₂ k₂ g₂ nw₂ r₂ u₂ => ?_)
      have im₂ := im₁.at' u₂ ⟨_, r₂⟩
      have pe₂ := pe₁.upd u₂
      obtain ⟨pe1₂, ⟨tq₂, pe2₂⟩, _⟩ := id pe₂
      refine seg_stmt (set_oldi g₂ im₂ pe2₂ ha fun h₃ tk₃ m₃ g₃ k₃ im₃ u₃ => ?_)
      have pe₃ := pe₂.upd u₃
      obtain ⟨pe1₃, _⟩ := id pe₃
      have K₃ : KeepL [G.sa, G.Lg, G.Lw, it] s.heap h₃ := ((k₁.mono (by simp)).trans (k₂.mono (by simp))).trans (k₃.mono (by simp))
      have hit0 := hit (by simp)
      have K₃' : KeepL [G.sa, G.Lg] s.heap h₃ := (k₁.trans k₂).trans (k₃.mono (by simp))
      have hit₃ : ItA G h₃ it il j := hit0.keep K₃' (by simp [hit0.ns, hit0.ng])
      refine seg_execs_cons (seg_try (r := r) F hI hp hok g₃ (nw₂.step (tk := tk₃) k₃ (by simp)) im₃.mit hit₃ pe4 pe1₃ fun s₄ m₄ k₄ g₄ nw₄ pe₄ hit₄ u₄ => ?_)
      have im₄ := im₃.upd u₄
      have U : Upd UL m₀ m₄ := (((u.trans (u₁.mono (by decide))).trans (u₂.mono (by decide))).trans (u₃.mono (by decide))).trans (u₄.mono (by decide))
      have KK := (k₀.trans K₃).trans k₄
      cases r with
      | nil =>
        rw [if_pos rfl]
        dsimp only
        rw [hB]
        simp only [inner] at hf ⊢
        subst hf
        exact hfin _ _ m₄ _ KK g₄ nw₄ im₄ pe₄ (fun q => absurd rfl q) U
      | cons q' r' =>
        rw [if_neg (by simp)]
        dsimp only
        refine seg_execs_nil ?_
        rw [hK]
        exact seg_again rfl (ih (j + 1) a _ _ s₄ m₄ KK g₄ nw₄ im₄ pe₄ hit₄ U hord' hf hs₁.app)
    · rw [if_neg (by simpa using hq)]
      simp only [inner, if_neg hq] at hf hs ⊢
      subst hf
      exact hfin s₀ _ m j k₀ gi nw₀ im pe hit u
end
end Mine
end

section
open PySem PySem.W PyProof.Rows PySem.Calls
namespace Mine
/-- what one token gives, whole -/
def tok1 (t : T3) (pend : List T2) (p : Int) : List T3 × List T2 × Int :=
  let x := inner t.p t.k t.v pend 0 p
  if x.2.2.1 < t.v.length then (x.1 ++ [⟨x.2.2.2, t.k, t.v.drop x.2.2.1⟩], x.2.1, x.2.2.2 + (t.v.length - x.2.2.1 : Int)) else (x.1, x.2.1, x.2.2.2)
def toksOut : List T3 → List T2 → Option Int → List T3 × List T2 × Option Int
  | [], pend, rp => ([], pend, rp)
  | t :: r, pend, rp =>
    let x := tok1 t pend (rp.getD t.p)
    let y := toksOut r x.2.1 (some x.2.2)
    (x.1 ++ y.1, y.2)
theorem inner_ok (i : Int) (k : Str) (v : List Nat) : ∀ (pend : List T2) (o : Nat) (p : Int), o ≤ v.length → Ord (i + o) pend → (inner i k v pend o p).2.2.1 ≤ v.length ∧ Ord (i + v.length) (inner i k v pend o p).2.1
  | [], o, p, h, _ => ⟨h, trivial⟩
  | q :: r, o, p, h, hq => by
    by_cases c : q.at' ≤ i + v.length
    · simp only [inner, if_pos c]
      have := hq.1
      have ia : i + (((q.at' - i).toNat : Nat) : Int) = q.at' := by omega
      exact inner_ok i k v r _ _ (by omega) (by rw [ia]; exact hq.2)
    · simp only [inner, if_neg c]
      exact ⟨h, by omega, hq.2⟩
def RM (m : Str → Option Value) : Option Int → Prop
  | none => m "realpos" = some .none
  | some p => ∃ t, m "realpos" = some (.int p t)
structure TM (m : Str → Option Value) (it : Addr) (i : Int) (k : Str) (v : List Nat) : Prop where
  mi : ∃ t, m "i" = some (.int i t)
  mt : ∃ t, m "t" = some (.str k t)
  mv : ∃ t, m "v" = some (.str (S v) t)
  mit : m "insertions" = some (.ref it)
section
variable {P : Pg} {G : GC P} {w : World} {A : Around} {c : Code} {fs : List Frame} {s₀ s : Shared} {m : Str → Option Value} {K : Flow → Sem Fin} {H : Value → Sem Fin} {gd : Bool → Bool} {lv : List Value → List Value}
/-- if realpos is None: realpos = i; oldi = 0 -/
theorem tok_head {rest : List Stmt} {n : Nat} {it : Addr} {i : Int} {k : Str} {v : List Nat} {rp : Option Int} (gi : GI G s.heap m) (nw : Now G s₀ s) (tm : TM m it i k v) (rm : RM m rp)
    (h : ∀ s' m', KeepL [G.Lg] s.heap s'.heap → GI G s'.heap m' → Now G s₀ s' → IM m' it i k v 0 (rp.getD i) → Upd ["realpos", "oldi"] m m' → Seg (model pw w) A (RR G) (YY G) n s₀ c ((execs rest G.env).wrap K H gd lv) fs s') :
    Seg (model pw w) A (RR G) (YY G) n s₀ c ((execs (nth (loopBody genFor) 0 (.Pass default) :: nth (loopBody genFor) 1 (.Pass default) :: rest) G.env).wrap K H gd lv) fs s := by
  obtain ⟨⟨ti, mi⟩, ⟨tt, mt⟩, ⟨tv, mv⟩, mit⟩ := tm
  have step2 : ∀ (s₁ : Shared) (m₁ : Str → Option Value), KeepL [G.Lg] s.heap s₁.heap → GI G s₁.heap m₁ → Now G s₀ s₁ → Upd ["realpos"] m m₁ → (∃ t, m₁ "realpos" = some (.int (rp.getD i) t)) →
      Seg (model pw w) A (RR G) (YY G) n s₀ c ((execs (nth (loopBody genFor) 1 (.Pass default) :: rest) G.env).wrap K H gd lv) fs s₁ := by
    intro s₁ m₁ k₁ g₁ nw₁ u₁ ⟨tr, mr⟩
    refine seg_stmt (wpAny_Assign_Name (wpAny_Constant_int ?_))
    refine wpAny_storeName_local (by rfl) g₁.ns (fun h₂ hn₂ s₂ => ?_) (by rfl)
    replace s₂ : Heap.SameBut G.Lg s₁.heap h₂ := s₂
    refine ⟨rfl, h _ _ (k₁.trans (same_toL s₂)) (g₁.set hn₂ (.of_same s₂)) (nw₁.step (same_one s₂) (by simp)) ?_ ?_⟩
    · exact ⟨⟨ti, ms ((u₁ "i" (by decide)).trans mi)⟩, ⟨tt, ms ((u₁ "t" (by decide)).trans mt)⟩, ⟨tv, ms ((u₁ "v" (by decide)).trans mv)⟩, ⟨_, if_pos rfl⟩, ⟨tr, ms mr⟩, ms ((u₁ "insertions" (by decide)).trans mit)⟩
    · intro z hz
      simp only [List.mem_cons, List.not_mem_nil, or_false, not_or] at hz
      exact (if_neg hz.2).trans (u₁ z (by simp [hz.1]))
  cases rp with
  | some p =>
    obtain ⟨tr, mr⟩ := rm
    refine seg_stmt (wpAny_If (wpAny_isTrue_Compare1 (ldV gi.ns mr (wpAny_Constant_none (wpAny_is_other (by rfl) (by simp) (wpAny_truthy_bool ?_))))))
    rw [if_neg Bool.false_ne_true]
    exact wpAny_execs_nil ⟨rfl, step2 s m (KeepL.refl _ _) gi nw (Upd.refl m) ⟨tr, mr⟩⟩
  | none =>
    refine seg_stmt (wpAny_If (wpAny_isTrue_Compare1 (ldV gi.ns rm (wpAny_Constant_none (wpAny_is_self (by rfl) (wpAny_truthy_bool ?_))))))
    rw [if_pos rfl]
    refine wpAny_execs_cons (wpAny_Assign_Name (ldV gi.ns mi ?_))
    refine wpAny_storeName_local (by rfl) gi.ns (fun h₂ hn₂ s₂ => ?_) (by rfl)
    replace s₂ : Heap.SameBut G.Lg s.heap h₂ := s₂
    refine wpAny_execs_nil ⟨rfl, step2 _ _ (same_one s₂) (gi.set hn₂ (.of_same s₂)) (nw.step (same_one s₂) (by simp)) ?_ ⟨ti, if_pos rfl⟩⟩
    exact fun z hz => if_neg (by simpa using hz)
/-- if oldi < len(v): yield (realpos, t, v[oldi:]); realpos += len(v) - oldi -/
theorem tok_tail {it : Addr} {i : Int} {k : Str} {v : List Nat} {o : Nat} {p : Int} {os : List T3} (F : FsOk A (GenEnvs G) c fs) (hgd : gd false = false) (gi : GI G s.heap m) (nw : Now G s₀ s) (im : IM m it i k v o p) (ho : o ≤ v.length) (hv : v.length ≤ 4)
    (hs : Suf G ((if o < v.length then [⟨p, k, v.drop o⟩] else []) ++ os))
    (h : ∀ s₁ s' m', KeepL [G.sa, G.Lg] s.heap s'.heap → GI G s'.heap m' → Now G s₁ s' → RM m' (some (if o < v.length then p + (v.length - o : Int) else p)) → Upd ["realpos"] m m' → Seg (model pw w) A (RR G) (YY G) os.length s₁ c (K .next) fs s') :
    Seg (model pw w) A (RR G) (YY G) (List.length ((if o < v.length then [⟨p, k, v.drop o⟩] else []) ++ os : List T3)) s₀ c ((exec (nth (loopBody genFor) 3 (.Pass default)) G.env).wrap K H gd lv) fs s := by
  obtain ⟨⟨ti, mi⟩, ⟨tt, mt⟩, ⟨tv, mv⟩, ⟨to, mo⟩, ⟨tr, mr⟩, mit⟩ := id im
  refine seg_If (wpAny_isTrue_Compare1 (ldV gi.ns mo (callB1 (P := P) gi.base PyProof.Rows.Boot.«len» (ldV gi.ns mv (PySem.P.len_str (by rw [S_len]; omega) (lt_int (wpAny_truthy_bool ?_)))))))
  rw [S_len]
  by_cases hlt : o < v.length
  · simp only [if_pos hlt] at hs h ⊢
    rw [decide_eq_true (by omega : (o : Int) < v.length), if_pos rfl]
    refine seg_execs_cons (yield_tup F hgd hs gi (nw.step (KeepL.refl [] _) (by simp)) mr mt (fun s Q g hQ => ?_) fun s₁ k₁ g₁ => ?_)
    · refine str_slice (ldV g.ns mv (ldV g.ns mo (wpAny_pure ⟨S v, tv, some ((o : Int), to), none, rfl, rfl, rfl, by rw [S_len]; omega, fun t' kk => ?_⟩)))
      dsimp only [Option.map]
      rw [slice_a v o ho]
      exact hQ t' _ _ (Sub.push _ _)
    · refine seg_stmt (wpAny_AugAssign_Name (wpAny_loadName_local (by rfl) (by rfl) g₁.ns mr ?_))
      refine wpAny_BinOp (callB1 (P := P) g₁.base PyProof.Rows.Boot.«len» (ldV g₁.ns mv (PySem.P.len_str (by rw [S_len]; omega) (ldV g₁.ns mo (sub_int (iadd_int ?_))))))
      refine wpAny_storeName_local (by rfl) g₁.ns (fun h₂ hn₂ s₂ => ?_) (by rfl)
      replace s₂ : Heap.SameBut G.Lg s₁.heap h₂ := s₂
      rw [S_len] at hn₂
      refine ⟨rfl, seg_execs_nil (h s₁ _ _ ((k₁.mono (by simp)).trans (same_toL s₂)) (g₁.set hn₂ (.of_same s₂)) (Now.refl.step (same_one s₂) (by simp)) ⟨_, if_pos rfl⟩ fun z hz => if_neg (by simpa using hz))⟩
  · simp only [if_neg hlt] at hs h ⊢
    rw [decide_eq_false (by omega : ¬ (o : Int) < v.length)]
    refine seg_execs_nil ?_
    exact h s₀ _ m (KeepL.refl _ _) gi (nw.step (KeepL.refl [] _) (by simp)) ⟨tr, mr⟩ (Upd.refl m)
end
end Mine
end

section
open PySem PySem.W PyProof.Rows PySem.Calls
namespace Mine
def loopTarget : Stmt → Expr
  | .For t _ _ _ _ => t
  | _ => .Name "" default
def OrdT : List T3 → List T2 → Prop
  | [], _ => True
  | t :: _, pend => Ord t.p pend
section
variable {P : Pg} {G : GC P} {w : World} {A : Around} {c : Code} {fs : List Frame} {s₀ s : Shared} {m : Str → Option Value} {K : Flow → Sem Fin} {H : Value → Sem Fin} {gd : Bool → Bool} {lv : List Value → List Value}
abbrev tokCode (G : GC P) (tit : Addr) : Code := .forLoop (loopTarget genFor) (.ref tit) (loopBody genFor) [] G.env
theorem tok1_eq (t : T3) (pend : List T2) (p : Int) : tok1 t pend p = ((inner t.p t.k t.v pend 0 p).1 ++ (if (inner t.p t.k t.v pend 0 p).2.2.1 < t.v.length then [⟨(inner t.p t.k t.v pend 0 p).2.2.2, t.k, t.v.drop (inner t.p t.k t.v pend 0 p).2.2.1⟩] else []),
    (inner t.p t.k t.v pend 0 p).2.1, if (inner t.p t.k t.v pend 0 p).2.2.1 < t.v.length then (inner t.p t.k t.v pend 0 p).2.2.2 + (t.v.length - (inner t.p t.k t.v pend 0 p).2.2.1 : Int) else (inner t.p t.k t.v pend 0 p).2.2.2) := by
  unfold tok1
  dsimp only
  split <;> simp
theorem tok_loop {it il tit tl : Addr} {ivs tvs : List Value} {ins : List T2} {ts : List T3} {os : List T3} {fin : List T2 × Option Int}
    (hI : LstI G.I il ivs) (hp : Paired (InsI G.I) ivs ins) (hok : ∀ q ∈ ins, ∀ t ∈ q.ts, t.v.length ≤ 4) (hT : LstI G.I tl tvs) (hpt : Paired (TokI G.I) tvs ts) (hv : ∀ t ∈ ts, t.v.length ≤ 4)
    (F : FsOk A (GenEnvs G) (tokCode G tit) fs) (hne : tit ≠ it)
    (hfin : ∀ s₀ s m' j', GI G s.heap m' → Now G s₀ s → m' "insertions" = some (.ref it) → RM m' fin.2 → Pend G ins m' j' fin.1 → (fin.1 ≠ [] → ItA G s.heap it il j') →
      Seg (model pw w) A (RR G) (YY G) os.length s₀ (.block [] G.env) (.pure (.done .next)) fs s) :
    ∀ (rem : List T3) (i j : Nat) (rp : Option Int) (pend : List T2) (pl : Int) (s₀ s : Shared) (m : Str → Option Value), ts.drop i = rem → Chain pl rem → ItA G s.heap tit tl i → GI G s.heap m → Now G s₀ s → m "insertions" = some (.ref it) → RM m rp → Pend G ins m j pend → (pend ≠ [] → ItA G s.heap it il j) →
      Ord pl pend → (toksOut rem pend rp).2 = fin → Suf G ((toksOut rem pend rp).1 ++ os) →
      Seg (model pw w) A (RR G) (YY G) ((toksOut rem pend rp).1 ++ os).length s₀ (tokCode G tit) ((model pw w).den (tokCode G tit)) fs s := by
  intro rem
  induction rem with
  | nil =>
    intro i j rp pend pl s₀ s m hd hch hit gi nw mi rm pe hit2 hord hf hs
    refine seg_forTurn (wpAny_pyNext_list_end F.hand hit.is (hT.is gi.frz) ?_ fun h' x' => ?_)
    · have hl := paired_len hpt
      simp; have := congrArg List.length hd; simp at this; omega
    · dsimp only
      have k' : KeepBut tit s.heap h' := x'
      subst hf
      refine hfin _ _ m j (gi.it hit k') (nw.step (tk := s.toks) (KeepBut.toL (l := [tit]) k') (by intro a ha; simp at ha; subst ha; exact .inr (.inr ⟨_, _, hit⟩))) mi rm pe fun q => (hit2 q).keep (KeepBut.toL (l := [tit]) k') (by simpa using hne.symm)
  | cons t rem ih =>
    intro i j rp pend pl s₀ s m hd hch hit gi nw mi rm pe hit2 hord hf hs
    have hx : ts[i]? = some t := by have := congrArg (·[0]?) hd; simpa using this
    obtain ⟨v, hv', ti⟩ := paired_at hpt hx
    have hx4 := hv t (List.mem_of_getElem? hx)
    obtain ⟨hch1, hch2, hch3, hch4⟩ := hch
    refine seg_forTurn (wpAny_pyNext_list_item hit.is (hT.is gi.frz) (x := v) (by simpa using hv') fun h₁ hit₁ s₁ => ?_)
    dsimp only
    refine let_list hit₁ ?_
    have kb := KeepBut.of_same s₁
    have g₁ := gi.it hit kb
    have nw₁ : Now G s₀ { s with heap := h₁ } := nw.step (tk := s.toks) (KeepBut.toL (l := [tit]) kb) (by intro a ha; simp at ha; subst ha; exact .inr (.inr ⟨_, _, hit⟩))
    obtain ⟨a, u1, u2, u3, rfl, _, ht⟩ := ti.tuple g₁.frz
    refine assign3 F.hand ht g₁.ns (fun h₂ tk hn₂ k₂ => ?_) (by rfl) (by rfl) (by rfl) (by rfl)
    intro K' H' hK
    have k₂' : KeepBut G.Lg h₁ h₂ := k₂
    have g₂ := g₁.set hn₂ k₂'
    have u₂ : Upd ["i", "t", "v"] m (fun z : Str => if z = "v" then some (.str (S t.v) u3) else if z = "t" then some (.str t.k u2) else if z = "i" then some (.int t.p u1) else m z) := by
      intro z hz
      simp only [List.mem_cons, List.not_mem_nil, or_false, not_or] at hz
      exact (if_neg hz.2.2).trans ((if_neg hz.2.1).trans (if_neg hz.1))
    have tm₂ : TM (fun z : Str => if z = "v" then some (.str (S t.v) u3) else if z = "t" then some (.str t.k u2) else if z = "i" then some (.int t.p u1) else m z) it t.p t.k t.v :=
      ⟨⟨u1, rfl⟩, ⟨u2, rfl⟩, ⟨u3, rfl⟩, mi⟩
    have rm₂ : RM (fun z : Str => if z = "v" then some (.str (S t.v) u3) else if z = "t" then some (.str t.k u2) else if z = "i" then some (.int t.p u1) else m z) rp := by
      cases rp with
      | none => exact rm
      | some p => exact rm
    generalize (fun z : Str => if z = "v" then some (Value.str (S t.v) u3) else if z = "t" then some (.str t.k u2) else if z = "i" then some (.int t.p u1) else m z) = m₂ at *
    have pe₂ := pe.upd u₂
    have nw₂ := nw₁.step (h' := h₂) (tk := tk) (KeepBut.toL (l := [G.Lg]) k₂') (by simp)
    have hit₂ : ItA G h₂ tit tl (i + 1) := (show ItA G h₁ tit tl (i + 1) from ⟨hit₁, hit.base, hit.ng, hit.nw, hit.ns, hit.ni⟩).keep (KeepBut.toL (l := [G.Lg]) k₂') (by simp [hit.ng])
    have kk : KeepL [tit, G.Lg] s.heap h₂ := (KeepBut.toL kb).trans (KeepBut.toL k₂')
    have hit2₂ : pend ≠ [] → ItA G h₂ it il j := fun q => (hit2 q).keep kk (by simp [hne.symm, (hit2 q).ng])
    simp only [toksOut, tok1_eq] at hf hs ⊢
    refine tok_head g₂ nw₂ tm₂ rm₂ fun s₃ m₃ k₃ g₃ nw₃ im₃ u₃ => ?_
    have pe₃ := pe₂.upd u₃
    have hit₃ := hit₂.keep k₃ (by simp [hit.ng])
    have hit2₃ : pend ≠ [] → ItA G s₃.heap it il j := fun q => (hit2₂ q).keep k₃ (by simp [(hit2 q).ng])
    have hin := inner_ok t.p t.k t.v pend 0 (rp.getD t.p) (by omega) (by simpa [hch1] using hord)
    simp only [List.append_assoc] at hs ⊢
    refine seg_execs_cons (seg_While' F rfl fun fs' F' hk => ?_)
    refine inner_loop (h₀ := s₃.heap) (m₀ := m₃) hI hp hok hx4 F' (fun s₄ s₅ m₅ j₅ k₅ g₅ nw₅ im₅ pe₅ hit2₅ u₅ => hk _ _ _ _ ?_) pend j 0 (rp.getD t.p) s₀ s₃ m₃ (KeepL.refl _ _) g₃ nw₃ im₃ pe₃ hit2₃ (Upd.refl _) (by simpa [hch1] using hord) rfl hs
    have hs₅ := hs.app
    generalize inner t.p t.k t.v pend 0 (rp.getD t.p) = X at *
    dsimp only
    have hit₅ : ItA G s₅.heap tit tl (i + 1) := hit₃.keep k₅ (by simp [hit.ns, hit.ng, hit.nw, hne])
    refine seg_execs_cons (tok_tail F rfl g₅ nw₅ im₅ hin.1 hx4 hs₅ fun s₆ s₇ m₇ k₇ g₇ nw₇ rm₇ u₇ => ?_)
    dsimp only
    refine seg_execs_nil ?_
    rw [hK]
    refine seg_again rfl (ih (i + 1) j₅ _ X.2.1 (pl + t.v.length) s₆ s₇ m₇ ?_ hch4 (hit₅.keep k₇ (by simp [hit.ns, hit.ng])) g₇ nw₇ ((u₇ "insertions" (by decide)).trans im₅.mit) rm₇ (pe₅.upd u₇) (fun q => (hit2₅ q).keep k₇ (by simp [(hit2₅ q).ns, (hit2₅ q).ng])) (by rw [← hch1]; exact hin.2) hf hs₅.app)
    rw [← List.drop_drop, hd]; rfl
end
end Mine
end

section
open PySem PySem.W PyProof.Rows PySem.Calls
namespace Mine
/-- what is left when the tokens are gone -/
def rest : List T2 → Option Int → List T3
  | [], _ => []
  | q :: r, rp => outs (rp.getD 0) q.ts ++ rest r (some (rp.getD 0 + tot q.ts))
section
variable {P : Pg} {G : GC P} {w : World} {A : Around} {c : Code} {fs : List Frame} {s₀ s : Shared} {m : Str → Option Value} {K : Flow → Sem Fin} {H : Value → Sem Fin} {gd : Bool → Bool} {lv : List Value → List Value}
theorem left_test {E : Value → Shared → Prop} {R : Bool → Shared → Prop} {whole : Sem Value} {ins : List T2} {j : Nat} {pend : List T2}
    (gi : GI G s.heap m) (pe : Pend G ins m j pend) (h : R (match pend with | [] => false | _ :: _ => true) s) (hw : whole = eval (loopTest genEnd) G.env) :
    wpAny (model pw w) A (isTrue (loopTest genEnd) G.env whole) R E s := by
  subst hw
  cases pend with
  | nil => exact isTrue_plain (ldV gi.ns pe (wpAny_truthy_bool h))
  | cons q r => exact isTrue_plain (ldV gi.ns pe.1 (wpAny_truthy_bool h))
/-- realpos = realpos or 0 -/
theorem or_zero {E : Value → Shared → Prop} {R : Shared → Prop} {rp : Option Int} (gi : GI G s.heap m) (rm : RM m rp)
    (h : ∀ h' tk m' t, GI G h' m' → KeepL [G.Lg] s.heap h' → m' "realpos" = some (.int (rp.getD 0) t) → Upd ["realpos"] m m' → R { s with heap := h', toks := tk }) :
    wpAny (model pw w) A (exec (nth (loopBody genEnd) 0 (.Pass default)) G.env) (fun f s' => f = .next ∧ R s') E s := by
  have fin : ∀ (v : Int) (t : Tok) (tk : Nat), v = rp.getD 0 → wpAny (model pw w) A (storeName G.env "realpos" (.int v t)) (fun _ s' => Flow.next = .next ∧ R s') E { s with toks := tk } := by
    intro v t tk hv
    subst hv
    refine wpAny_storeName_local (by rfl) gi.ns (fun h' hn' s' => ?_) (by rfl)
    replace s' : Heap.SameBut G.Lg s.heap h' := s'
    exact ⟨rfl, h h' _ _ t (gi.set hn' (.of_same s')) (same_one s') (if_pos rfl) fun z hz => if_neg (by simpa using hz)⟩
  cases rp with
  | none =>
    refine wpAny_Assign_Name (BoolOp_or (ldV gi.ns rm (truthy_none ?_)))
    rw [if_neg Bool.false_ne_true]
    exact BoolOp_one (wpAny_Constant_int (fin 0 _ _ rfl))
  | some p =>
    obtain ⟨t, mr⟩ := rm
    refine wpAny_Assign_Name (BoolOp_or (ldV gi.ns mr (PySem.P.truthy_int ?_)))
    by_cases hp : p = 0
    · subst hp
      rw [if_neg (by decide)]
      exact BoolOp_one (wpAny_Constant_int (fin 0 _ _ rfl))
    · rw [if_pos (by simpa using hp)]
      exact fin p t _ rfl
abbrev endCode (G : GC P) : Code := .whileLoop (loopTest genEnd) (loopBody genEnd) [] G.env
theorem end_loop {it il : Addr} {ivs : List Value} {ins : List T2}
    (hI : LstI G.I il ivs) (hp : Paired (InsI G.I) ivs ins) (hok : ∀ q ∈ ins, ∀ t ∈ q.ts, t.v.length ≤ 4)
    (F : FsOk A (GenEnvs G) (endCode G) fs)
    (hfin : ∀ s₀ s m', GI G s.heap m' → Now G s₀ s → Seg (model pw w) A (RR G) (YY G) 0 s₀ (endCode G) (.pure (.done .next)) fs s) :
    ∀ (pend : List T2) (j : Nat) (rp : Option Int) (s₀ s : Shared) (m : Str → Option Value), GI G s.heap m → Now G s₀ s → m "insertions" = some (.ref it) → RM m rp → Pend G ins m j pend → (pend ≠ [] → ItA G s.heap it il j) →
      Suf G (rest pend rp) → Seg (model pw w) A (RR G) (YY G) (rest pend rp).length s₀ (endCode G) ((model pw w).den (endCode G)) fs s := by
  intro pend
  induction pend with
  | nil =>
    intro j rp s₀ s m gi nw mi rm pe hit hs
    refine seg_whileTurn (left_test gi pe ?_ rfl)
    dsimp only
    rw [if_neg Bool.false_ne_true]
    exact hfin s₀ s m gi nw
  | cons q r ih =>
    intro j rp s₀ s m gi nw mi rm pe hit hs
    refine seg_whileTurn (left_test gi pe ?_ rfl)
    dsimp only
    rw [if_pos rfl]
    intro K' H' hK hB
    refine seg_stmt (or_zero gi rm fun h₁ tk₁ m₁ t₁ g₁ k₁ r₁ u₁ => ?_)
    have pe₁ := pe.upd u₁
    obtain ⟨pe1, ⟨tq, pe2⟩, ⟨uu, pe3, pe3'⟩, pe4, pe5⟩ := id pe₁
    have nw₁ := nw.step (tk := tk₁) k₁ (by simp)
    have hit0 := hit (by simp)
    have hit₁ := hit0.keep k₁ (by simp [hit0.ng])
    simp only [rest] at hs ⊢
    refine seg_execs_cons (seg_items (os := rest r (some (rp.getD 0 + tot q.ts))) F rfl pe3 pe3' pe5 g₁ nw₁ r₁ hs fun s₂ s₃ m₃ t₃ k₃ g₃ nw₃ r₃ u₃ => ?_)
    dsimp only
    have pe₃ := pe₁.upd u₃
    have hit₃ := hit₁.keep k₃ (by simp [hit0.ng, hit0.ns])
    have mi₃ := ((u₃ "insertions" (by decide)).trans ((u₁ "insertions" (by decide)).trans mi))
    refine seg_execs_cons (seg_try (r := r) F hI hp hok g₃ nw₃ mi₃ hit₃ pe4 pe₃.1 fun s₄ m₄ k₄ g₄ nw₄ pe₄ hit₄ u₄ => ?_)
    cases r with
    | nil =>
      rw [if_pos rfl]
      dsimp only
      rw [hB]
      exact hfin _ _ m₄ g₄ nw₄
    | cons q' r' =>
      rw [if_neg (by simp)]
      dsimp only
      refine seg_execs_nil ?_
      rw [hK]
      exact seg_again rfl (ih (j + 1) _ _ s₄ m₄ g₄ nw₄ ((u₄ "insertions" (by decide)).trans mi₃) ⟨t₃, (u₄ "realpos" (by decide)).trans r₃⟩ pe₄ hit₄ hs.app)
end
end Mine
end

section
open PySem PySem.W PyProof.Rows PySem.Calls
namespace Mine
def genOut (ts : List T3) (ins : List T2) : List T3 := (toksOut ts ins none).1 ++ rest (toksOut ts ins none).2.1 (toksOut ts ins none).2.2
/-- a built-in by its name, two arguments -/
theorem callB2 {M : Model} {A : Around} {E : Value → Shared → Prop} {s : Shared} {env : Env} {P : Pg} {x : Str} {Q : Value → Shared → Prop} {id : String} {p pos : Pos} {e e₂ : Expr} (hb : Sub P.base s.heap) (hv : bootBuiltins x = some (.builtin id))
    (h : wpAny M A (eval e env) (fun v s₁ => wpAny M A (eval e₂ env) (fun v₂ s₂ => wpAny M A (call (.builtin id) [v, v₂]) Q E s₂) E s₁) E s)
    (hf : x ∈ (["len", "range", "sum", "sorted", "list", "int", "iter", "next", "abs", "StopIteration"] : List Str) := by decide)
    (hs : starEach [e, e₂] env = (false, eval e env) :: starEach [e₂] env := by rfl) (hs₂ : starEach [e₂] env = [(false, eval e₂ env)] := by rfl)
    (hk : env.scope.kind = .function := by rfl) (hl : env.kindOf x = some .globalImplicit := by rfl) (hg : env.globals = mainGlobals := by rfl) (hbn : env.builtins = builtinsNs := by rfl) (hn : x ≠ "__name__" := by decide) (hd : (x == ("__debug__" : Str)) = false := by decide) :
    wpAny M A (eval (.Call (.Name x p) [e, e₂] [] pos) env) Q E s := by
  refine Call_ (ldB hb hv ?_ hf hk hl hg hbn hn hd)
  exact callWith_builtin1 (args_cons (wpAny_mono h (fun v s₁ h₁ => args_cons (wpAny_mono h₁ (fun v₂ s₂ h₂ => args_nil h₂) fun _ _ x => x) hs₂) fun _ _ x => x) hs) hs (by rw [hs₂]; rfl)
section
variable {P : Pg} {G : GC P} {w : World} {A : Around} {c : Code} {fs : List Frame} {s₀ s : Shared} {m : Str → Option Value} {K : Flow → Sem Fin} {H : Value → Sem Fin} {gd : Bool → Bool} {lv : List Value → List Value}
/-- insertions = iter(insertions) -/
theorem set_iter {E : Value → Shared → Prop} {R : Shared → Prop} {il : Addr} {ivs : List Value} (hI : LstI G.I il ivs) (gi : GI G s.heap m) (mi : m "insertions" = some (.ref il))
    (h : ∀ h' tk m' it, GI G h' m' → KeepL [G.Lg] s.heap h' → ItA G h' it il 0 → s.heap.get? it = none → m' "insertions" = some (.ref it) → Upd ["insertions"] m m' → R { s with heap := h', toks := tk }) :
    wpAny (model pw w) A (exec (stmtA 1 0) G.env) (fun f s' => f = .next ∧ R s') E s := by
  refine wpAny_Assign_Name (callB1 (P := P) gi.base PyProof.Rows.Boot.«iter» (ldV gi.ns mi (iter_list (hI.is gi.frz) ?_)))
  generalize hH : s.heap.push _ = H₁
  have S₁ : Sub s.heap H₁ := by rw [← hH]; exact Sub.push _ _
  have hit : ItA G H₁ s.heap.objs.size il 0 := by rw [← hH]; exact ItA.new gi ⟨_, Heap.get?_push_size _ rfl, rfl, rfl⟩
  have hno : s.heap.get? s.heap.objs.size = none := Heap.get?_none_of_le (Nat.le_refl _)
  clear hH
  generalize s.heap.objs.size = it at *
  have g₁ := gi.sub S₁
  refine wpAny_storeName_local (by rfl) g₁.ns (fun h' hn' s' => ?_) (by rfl)
  replace s' : Heap.SameBut G.Lg H₁ h' := s'
  exact ⟨rfl, h h' _ _ it (g₁.set hn' (.of_same s')) (S₁.toL.trans (same_toL s')) (hit.keep (same_one s') (by simp [hit.ng])) hno (if_pos rfl) fun z hz => if_neg (by simpa using hz)⟩

theorem gen_body {il tl : Addr} {ivs tvs : List Value} {q : T2} {r : List T2} {ts : List T3} {pl : Int}
    (hI : LstI G.I il ivs) (hp : Paired (InsI G.I) ivs (q :: r)) (hok : ∀ q' ∈ q :: r, ∀ t ∈ q'.ts, t.v.length ≤ 4) (hT : LstI G.I tl tvs) (hpt : Paired (TokI G.I) tvs ts) (hv : ∀ t ∈ ts, t.v.length ≤ 4)
    (hch : Chain pl ts) (hord : Ord pl (q :: r)) (F : FsOk A (GenEnvs G) c []) (hgd : gd false = false) (hK : K .next = .pure (.done (.ret .none)))
    (gi : GI G s.heap m) (nw : Now G s₀ s) (mi : m "insertions" = some (.ref il)) (mt : m "tokens" = some (.ref tl)) (hs : G.out = genOut ts (q :: r)) :
    Seg (model pw w) A (RR G) (YY G) (genOut ts (q :: r)).length s₀ c ((execs (bodyA 1) G.env).wrap K H gd lv) [] s := by
  refine seg_stmt (set_iter hI gi mi fun h₁ tk₁ m₁ it g₁ k₁ hit₁ hno mi₁ u₁ => ?_)
  have nw₁ := nw.step (tk := tk₁) k₁ (by simp)
  -- first = next(insertions, None)
  have hx0 : ivs[0]? ≠ none := by
    have := hp.length; simp at this
    intro q; have := List.getElem?_eq_none_iff.1 q; omega
  obtain ⟨v0, hv0, a, nn, t1, u, e1, e2, e3⟩ := paired_at hp (i := 0) (b := q) rfl
  subst e1
  refine seg_stmt (wpAny_Assign_Name (callB2 (P := P) g₁.base PyProof.Rows.Boot.«next» (ldV g₁.ns mi₁ (wpAny_Constant_none (next2_item (x := .ref a) hit₁.is (hI.is g₁.frz) (by simpa using hv0) fun h₂ hit₂ s₂ => ?_)))))
  have kb₂ := KeepBut.of_same s₂
  have g₂ := g₁.it hit₁ kb₂
  have hit₂' : ItA G h₂ it il 1 := ⟨hit₂, hit₁.base, hit₁.ng, hit₁.nw, hit₁.ns, hit₁.ni⟩
  refine wpAny_storeName_local (by rfl) g₂.ns (fun h₃ hn₃ s₃ => ⟨rfl, ?_⟩) (by rfl)
  replace s₃ : Heap.SameBut G.Lg h₂ h₃ := s₃
  replace hn₃ : h₃.Ns G.Lg _ := hn₃
  have g₃ := g₂.set hn₃ (.of_same s₃)
  have hit₃ : ItA G h₃ it il 1 := hit₂'.keep (same_one s₃) (by simp [hit₁.ng])
  have mf₃ : (fun z : Str => if z = "first" then some (Value.ref a) else m₁ z) "first" = some (.ref a) := if_pos rfl
  have mi₃ : (fun z : Str => if z = "first" then some (Value.ref a) else m₁ z) "insertions" = some (.ref it) := ms mi₁
  have mt₃ : (fun z : Str => if z = "first" then some (Value.ref a) else m₁ z) "tokens" = some (.ref tl) := ms ((u₁ "tokens" (by decide)).trans mt)
  have hd₃ := (nw₁.step (h' := h₂) (tk := tk₁) (KeepBut.toL (l := [it]) kb₂) (by intro a ha; simp at ha; subst ha; exact .inr (.inr ⟨_, _, hit₁⟩)))
  have nw₃ := hd₃.step (h' := h₃) (tk := tk₁) (same_one s₃) (by simp)
  clear hd₃
  generalize (fun z : Str => if z = "first" then some (Value.ref a) else m₁ z) = m₃ at *
  dsimp only
  -- if first is None
  refine seg_stmt (wpAny_If (wpAny_isTrue_Compare1 (ldV g₃.ns mf₃ (wpAny_Constant_none (wpAny_is_other (by rfl) (by simp) (wpAny_truthy_bool ?_))))))
  rw [if_neg Bool.false_ne_true]
  refine wpAny_execs_nil ⟨rfl, ?_⟩
  -- index, itokens = first
  have ht₃ : h₃.IsTuple a #[.int q.at' t1, u] := ⟨_, (g₃.frz _ _ e2).1, rfl, _, rfl⟩
  refine seg_stmt (Assign_Tuple (ldV g₃.ns mf₃ ?_))
  refine wpAny_mono (assign2 (R := fun s' => Seg (model pw w) A (RR G) (YY G) (genOut ts (q :: r)).length s₀ c ((execs _ G.env).wrap K H gd lv) [] s') F.hand ht₃ g₃.ns (fun h₄ tk₄ hn₄ k₄ => ?_) (by rfl) (by rfl) (by rfl)) (fun _ _ x => ⟨rfl, x⟩) fun _ _ x => x
  replace k₄ : KeepBut G.Lg h₃ h₄ := k₄
  replace hn₄ : h₄.Ns G.Lg _ := hn₄
  have g₄ := g₃.set hn₄ k₄
  have hit₄ := hit₃.keep (KeepBut.toL (l := [G.Lg]) k₄) (by simp [hit₁.ng])
  have nw₄ := nw₃.step (h' := h₄) (tk := tk₄) (KeepBut.toL (l := [G.Lg]) k₄) (by simp)
  -- realpos = None
  refine seg_stmt (wpAny_Assign_Name (wpAny_Constant_none ?_))
  refine wpAny_storeName_local (by rfl) g₄.ns (fun h₅ hn₅ s₅ => ⟨rfl, ?_⟩) (by rfl)
  replace s₅ : Heap.SameBut G.Lg h₄ h₅ := s₅
  replace hn₅ : h₅.Ns G.Lg _ := hn₅
  have g₅ := g₄.set hn₅ (.of_same s₅)
  have hit₅ := hit₄.keep (same_one s₅) (by simp [hit₁.ng])
  have nw₅ := nw₄.step (h' := h₅) (tk := tk₄) (same_one s₅) (by simp)
  -- insleft = True
  refine seg_stmt (wpAny_Assign_Name (wpAny_Constant_bool ?_))
  refine wpAny_storeName_local (by rfl) g₅.ns (fun h₆ hn₆ s₆ => ⟨rfl, ?_⟩) (by rfl)
  replace s₆ : Heap.SameBut G.Lg h₅ h₆ := s₆
  replace hn₆ : h₆.Ns G.Lg _ := hn₆
  have g₆ := g₅.set hn₆ (.of_same s₆)
  have hit₆ := hit₅.keep (same_one s₆) (by simp [hit₁.ng])
  have nw₆ := nw₅.step (h' := h₆) (tk := tk₄) (same_one s₆) (by simp)
  dsimp only
  -- the loop over the tokens
  obtain ⟨m₆, hm₆⟩ : ∃ m₆ : Str → Option Value, (fun z : Str => if z = "insleft" then some (.bool true) else if z = "realpos" then some .none else if z = "itokens" then some u else if z = "index" then some (.int q.at' t1) else m₃ z) = m₆ := ⟨_, rfl⟩
  replace g₆ : GI G h₆ m₆ := by rw [← hm₆]; exact g₆
  have mit₆ : m₆ "tokens" = some (.ref tl) := by rw [← hm₆]; exact mt₃
  have mii₆ : m₆ "insertions" = some (.ref it) := by rw [← hm₆]; exact mi₃
  have rm₆ : RM m₆ none := by rw [← hm₆]; rfl
  have pe₆ : Pend G (q :: r) m₆ 1 (q :: r) := by
    rw [← hm₆]
    exact ⟨rfl, ⟨t1, rfl⟩, ⟨u, rfl, e3⟩, rfl, hok q (by simp)⟩
  clear hm₆ hn₃ hn₄ hn₅
  have hsuf : Suf G ((toksOut ts (q :: r) none).1 ++ rest (toksOut ts (q :: r) none).2.1 (toksOut ts (q :: r) none).2.2) := ⟨[], hs⟩
  refine seg_execs_cons (seg_For' F hgd (ldV g₆.ns mit₆ (wpAny_pyIter_list (hT.is g₆.frz) fun fs' F' hk => ?_)))
  have sb := Sub.push h₆ { cls := .type "list_iterator", data := .fields #[.ref tl, .int 0 0] }
  have htit : ItA G (h₆.push { cls := .type "list_iterator", data := .fields #[.ref tl, .int 0 0] }) h₆.objs.size tl 0 := ItA.new g₆ ⟨_, Heap.get?_push_size _ rfl, rfl, rfl⟩
  have hne : h₆.objs.size ≠ it := by obtain ⟨o, e, _⟩ := hit₆.is; exact (new_ne e).symm
  refine tok_loop hI hp hok hT hpt hv F' hne (fun s₁ s₂ m' j' g' nw' mi' rm' pe' hit' => hk _ _ _ _ ?_) ts 0 1 none (q :: r) pl s₀ _ m₆ rfl hch htit (g₆.sub sb) (nw₆.step (l := []) sb.toL (by simp)) mii₆ rm₆ pe₆ (fun _ => hit₆.keep (l := []) sb.toL (by simp)) hord rfl hsuf
  have hsuf' := hsuf.app
  generalize (toksOut ts (q :: r) none).2 = X at *
  dsimp only
  refine seg_execs_cons (seg_While' F hgd fun fs'' F'' hk' => ?_)
  refine end_loop hI hp hok F'' (fun s₃ s₄ m₄ g₄ nw₄ => hk' _ _ _ _ ?_) X.1 j' X.2 s₁ s₂ m' g' nw' mi' rm' pe' hit' hsuf'
  dsimp only
  refine seg_execs_nil ?_
  rw [hK]
  exact seg_end (.ok (.ret .none)) ⟨rfl, rfl, nw₄, m₄, g₄⟩
end
end Mine
end

section
open PySem PySem.W PyProof.Rows PySem.Calls
namespace Mine
theorem entry_yf : entryFor table "proto.yield_from" = some Builtin.«proto.yield_from» := entryFor_of_fast (by kernel_rfl)
theorem noClose : typeLookup (.type "list_iterator") "close" = pure none := by rw [typeLookup_type, builtinLookup_eq_fast]; kernel_rfl
section
variable {P : Pg} {G : GC P} {w : World} {A : Around} {c : Code} {fs : List Frame} {s₀ s : Shared} {m : Str → Option Value} {K : Flow → Sem Fin} {H : Value → Sem Fin} {gd : Bool → Bool} {lv : List Value → List Value}
abbrev yfCode (tit : Addr) : Code := .builtin "proto.yield_from" ⟨[.ref tit, .bool false, .none], []⟩
theorem slept {M : Model} {E : Value → Shared → Prop} {Q : Unit → Shared → Prop} {it il : Addr} {i : Nat} {b : Bool} (x : s.heap.IsListIter it il i) (h : Q () s) : wpAny M A (Builtin.Generator.sleptOver (.ref it) b) Q E s := by
  obtain ⟨o, e, cc, d⟩ := x
  unfold Builtin.Generator.sleptOver
  refine wpAny_bind (wpAny_load e ?_)
  rw [cc]
  exact wpAny_pure h
theorem seg_builtin {prog : Program} {R : GenEnd} {Y : Protocol} {n : Nat} {id : String} {args : Args} {b : Builtin} (hb : entryFor table id = some b) (h : Seg (model prog w) A R Y n s₀ c (b args) fs s) :
    Seg (model prog w) A R Y n s₀ c ((model prog w).den (.builtin id args)) fs s := by
  show Seg _ A R Y n s₀ c (match entryFor table id with | some b => b args | none => unsupported ((withoutEnding? id "#data").getD id)) fs s
  rw [hb]; exact h
theorem yf_loop {tit tl : Addr} {tvs : List Value} {ts : List T3} (hT : LstI G.I tl tvs) (hpt : Paired (TokI G.I) tvs ts)
    (F : FsOk A (GenEnvs G) (yfCode tit) fs)
    (hfin : ∀ s₀ s, GI G s.heap m → Now G s₀ s → Seg (model pw w) A (RR G) (YY G) 0 s₀ (yfCode tit) (.pure (.done (.ret .none))) fs s) :
    ∀ (rem : List T3) (i : Nat) (s₀ s : Shared), ts.drop i = rem → ItA G s.heap tit tl i → GI G s.heap m → Now G s₀ s → Suf G rem →
      Seg (model pw w) A (RR G) (YY G) rem.length s₀ (yfCode tit) ((model pw w).den (yfCode tit)) fs s := by
  intro rem
  induction rem with
  | nil =>
    intro i s₀ s hd hit gi nw hs
    refine seg_builtin entry_yf ?_
    unfold Builtin.«proto.yield_from»
    refine seg_bind (wpAny_pure ?_)
    refine seg_bind (wpAny_attempt (wpAny_holding ?_))
    rw [if_neg Bool.false_ne_true]
    rw [if_pos (by rfl)]
    refine wpAny_bind (wpAny_rule (wpAny_bind (special_end F.hand hit.is (hT.is gi.frz) ?_ fun h' e x' hno he => ?_)))
    · have hl := paired_len hpt
      simp; have := congrArg List.length hd; simp at this; omega
    · dsimp only
      obtain ⟨t, he⟩ := he
      have k' : KeepBut tit s.heap h' := x'
      have hty : ({ s with heap := h' } : Shared).TypeIs (.ref e) "StopIteration" := ⟨_, he, rfl⟩
      unfold Builtin.Generator.endsTheTurnAsAValue Builtin.Generator.isStopAndMetaclass
      refine seg_bind (wpAny_bind (wpAny_bind (wpAny_typeOf hty ?_)))
      dsimp only
      rw [isSubtype_stop]
      refine wpAny_bind (wpAny_pure ?_)
      refine wpAny_bind (wpAny_of_eq (a := _) rfl ?_)
      refine wpAny_pure ?_
      dsimp only
      rw [if_neg Bool.false_ne_true]
      refine wpAny_pure ?_
      rw [if_pos rfl, if_neg Bool.false_ne_true]
      refine seg_bind (wpAny_rule (seg_bind (wpAny_field he rfl (x := .none) rfl ?_)))
      exact hfin s₀ _ (gi.it hit k') (nw.step (tk := s.toks) (KeepBut.toL (l := [tit]) k') (by intro a ha; simp at ha; subst ha; exact .inr (.inr ⟨_, _, hit⟩)))
  | cons t rem ih =>
    intro i s₀ s hd hit gi nw hs
    have hx : ts[i]? = some t := by have := congrArg (·[0]?) hd; simpa using this
    obtain ⟨v, hv', ti⟩ := paired_at hpt hx
    refine seg_builtin entry_yf ?_
    unfold Builtin.«proto.yield_from»
    refine seg_bind (wpAny_pure ?_)
    refine seg_bind (wpAny_attempt (wpAny_holding ?_))
    rw [if_neg Bool.false_ne_true]
    rw [if_pos (by rfl)]
    refine wpAny_bind (wpAny_rule (wpAny_bind (special_item hit.is (hT.is gi.frz) (x := v) (by simpa using hv') fun h₁ hit₁ s₁ => ?_)))
    refine wpAny_pure ?_
    dsimp only
    have kb := KeepBut.of_same s₁
    have g₁ := gi.it hit kb
    have nw₁ : Now G s₀ { s with heap := h₁ } := nw.step (tk := s.toks) (KeepBut.toL (l := [tit]) kb) (by intro a ha; simp at ha; subst ha; exact .inr (.inr ⟨_, _, hit⟩))
    have hit₁' : ItA G h₁ tit tl (i + 1) := ⟨hit₁, hit.base, hit.ng, hit.nw, hit.ns, hit.ni⟩
    refine seg_bind (wpAny_typeOf hit₁.typeIs ?_)
    dsimp only
    rw [noClose]
    refine seg_bind (wpAny_pure ?_)
    refine seg_bind (wpAny_pure ?_)
    refine seg_bind (slept hit₁ ?_)
    refine seg_yield F.nogen rfl F.nog ?_
    obtain ⟨pre, e⟩ := id hs
    have ti₁ : TokI h₁.get? v t := ti.mono fun b o e' => (g₁.frz b o e').1
    refine ⟨pre, t, rem, e, by simp, ti₁, nw₁, ⟨m, g₁⟩, fun s₂ kb₂ l₂ => ?_⟩
    have g₂ := g₁.back kb₂ l₂
    have hit₂ : ItA G s₂.heap tit tl (i + 1) := hit₁'.keep (KeepBut.toL (l := [G.sa]) kb₂) (by simp [hit.ns])
    refine seg_bind (wpAny_pure ?_)
    refine seg_bind (slept hit₂.is ?_)
    dsimp only
    refine seg_bind (wpAny_of_eq (a := Value.none) rfl ?_)
    refine seg_again (Code.quiet_builtin _ (by decide +kernel)) (ih (i + 1) s₂ s₂ ?_ hit₂ g₂ Now.refl hs.tail)
    rw [← List.drop_drop, hd]; rfl
end
end Mine
end

section
open PySem PySem.W PyProof.Rows PySem.Calls
namespace Mine
section
variable {P : Pg} {G : GC P} {w : World} {A : Around} {c : Code} {fs : List Frame} {s₀ s : Shared} {m : Str → Option Value} {K : Flow → Sem Fin} {H : Value → Sem Fin} {gd : Bool → Bool} {lv : List Value → List Value}
theorem seg_yf {n : Nat} (F : FsOk A (GenEnvs G) c fs) (hgd : gd false = false) {e : Expr} {ypos pos : Pos}
    (h : wpAny (model pw w) (A.over c fs) (eval e G.env) (fun v s₁ => ∃ T, s₁.TypeIs v T ∧ T ≠ "coroutine" ∧ wpAny (model pw w) (A.over c fs) (pyIter v) (fun it s₂ => ∃ tit, it = .ref tit ∧ ∀ fs', FsOk A (GenEnvs G) (yfCode tit) fs' →
      (∀ n s₀ s' c₂, Seg (model pw w) A (RR G) (YY G) n s₀ c (K .next) fs s' → Seg (model pw w) A (RR G) (YY G) n s₀ c₂ (.pure (.done (.ret .none))) fs' s') →
      Seg (model pw w) A (RR G) (YY G) n s₀ (yfCode tit) ((model pw w).den (yfCode tit)) fs' s₂) (fun _ _ => False) s₁) (fun _ _ => False) s) :
    Seg (model pw w) A (RR G) (YY G) n s₀ c ((exec (.Expr (.YieldFrom e ypos) pos) G.env).wrap K H gd lv) fs s := by
  rw [exec_Expr G.env _ pos (by rfl) rfl]
  refine seg_bind_wrap (wpAny_standAt ?_)
  rw [arm_eval_YieldFrom, Sem.bind_eq_wrap', Sem.wrap_wrap]
  refine seg_bind_wrap (wpAny_mono h (fun v s₁ h₁ => ?_) fun _ _ x => x.elim)
  obtain ⟨T, hT, hTn, h₁⟩ := h₁
  refine seg_bind_wrap (wpAny_standAt ?_)
  unfold yieldFrom
  refine seg_bind_wrap (wpAny_typeOf hT ?_)
  rw [if_neg (by simpa using hTn)]
  refine seg_bind_wrap (wpAny_holding (wpAny_mono h₁ (fun it s₂ h₂ => ?_) fun _ _ x => x.elim))
  obtain ⟨tit, rfl, h₂⟩ := h₂
  exact seg_call fun p => h₂ _ (F.loop hgd (by rfl)) fun _ _ _ _ hk => seg_leaf (.ok (.ret .none)) hk

/-- what the generator walks over when nothing is to be put in: a list, or a fresh iterator of one -/
def Src (G : GC P) (h : Heap) (v : Value) (tl : Addr) : Prop := v = .ref tl ∨ ∃ tit, v = .ref tit ∧ ItA G h tit tl 0
theorem gen_plain {il tl : Addr} {tv : Value} {tvs : List Value} {ts : List T3}
    (hI : LstI G.I il []) (hT : LstI G.I tl tvs) (hpt : Paired (TokI G.I) tvs ts) (hsrc : Src G s.heap tv tl) (F : FsOk A (GenEnvs G) c []) (hgd : gd false = false) (hK : K (.ret .none) = .pure (.done (.ret .none)))
    (gi : GI G s.heap m) (nw : Now G s₀ s) (mi : m "insertions" = some (.ref il)) (mt : m "tokens" = some tv) (hs : G.out = ts) :
    Seg (model pw w) A (RR G) (YY G) ts.length s₀ c ((execs (bodyA 1) G.env).wrap K H gd lv) [] s := by
  refine seg_stmt (set_iter hI gi mi fun h₁ tk₁ m₁ it g₁ k₁ hit₁ hno mi₁ u₁ => ?_)
  have nw₁ := nw.step (tk := tk₁) k₁ (by simp)
  refine seg_stmt (wpAny_Assign_Name (callB2 (P := P) g₁.base PyProof.Rows.Boot.«next» (ldV g₁.ns mi₁ (wpAny_Constant_none (next2_end F.hand hit₁.is (hI.is g₁.frz) (by rfl) fun h₂ x₂ => ?_)))))
  have kb₂ : KeepBut it h₁ h₂ := x₂
  have g₂ := g₁.it hit₁ kb₂
  refine wpAny_storeName_local (by rfl) g₂.ns (fun h₃ hn₃ s₃ => ⟨rfl, ?_⟩) (by rfl)
  replace s₃ : Heap.SameBut G.Lg h₂ h₃ := s₃
  replace hn₃ : h₃.Ns G.Lg _ := hn₃
  have g₃ := g₂.set hn₃ (.of_same s₃)
  have mf₃ : (fun z : Str => if z = "first" then some Value.none else m₁ z) "first" = some .none := if_pos rfl
  have mt₃ : (fun z : Str => if z = "first" then some Value.none else m₁ z) "tokens" = some tv := ms ((u₁ "tokens" (by decide)).trans mt)
  have nw₂ := (nw₁.step (h' := h₂) (tk := tk₁) (KeepBut.toL (l := [it]) kb₂) (by intro a ha; simp at ha; subst ha; exact .inr (.inr ⟨_, _, hit₁⟩)))
  have nw₃ := nw₂.step (h' := h₃) (tk := tk₁) (same_one s₃) (by simp)
  have hsrc₃ : Src G h₃ tv tl := by
    rcases hsrc with rfl | ⟨tit, rfl, ht⟩
    · exact .inl rfl
    · refine .inr ⟨tit, rfl, ?_⟩
      have hne : tit ≠ it := by rintro rfl; obtain ⟨o, e, _⟩ := ht.is; rw [hno] at e; cases e
      exact ((ht.keep k₁ (by simp [ht.ng])).keep (KeepBut.toL (l := [it]) kb₂) (by simpa using hne)).keep (same_one s₃) (by simp [ht.ng])
  generalize (fun z : Str => if z = "first" then some Value.none else m₁ z) = m₃ at *
  dsimp only
  refine seg_execs_cons (seg_If (wpAny_isTrue_Compare1 (ldV g₃.ns mf₃ (wpAny_Constant_none (wpAny_is_self (by rfl) (wpAny_truthy_bool ?_))))))
  rw [if_pos rfl]
  have hret : ∀ s₁ s', GI G s'.heap m₃ → Now G s₁ s' → Seg (model pw w) A (RR G) (YY G) 0 s₁ c (K (.ret .none)) [] s' := by
    intro s₁ s' g' nw'
    rw [hK]
    exact seg_end (.ok (.ret .none)) ⟨rfl, rfl, nw', m₃, g'⟩
  have hsuf : Suf G ts := ⟨[], hs⟩
  have main : ∀ (tit : Addr) (s' : Shared) (fs' : List Frame), FsOk A (GenEnvs G) (yfCode tit) fs' → (∀ n s₀ s' c₂, Seg (model pw w) A (RR G) (YY G) n s₀ c (K (.ret .none)) [] s' → Seg (model pw w) A (RR G) (YY G) n s₀ c₂ (.pure (.done (.ret .none))) fs' s') →
      ItA G s'.heap tit tl 0 → GI G s'.heap m₃ → Now G s₀ s' → Seg (model pw w) A (RR G) (YY G) ts.length s₀ (yfCode tit) ((model pw w).den (yfCode tit)) fs' s' :=
    fun tit s' fs' F' hk ht g' nw' => yf_loop hT hpt F' (fun s₁ s₂ g₂ nw₂ => hk _ _ _ _ (hret s₁ s₂ g₂ nw₂)) ts 0 s₀ s' rfl ht g' nw' hsuf
  refine seg_execs_cons (seg_yf F hgd (ldV g₃.ns mt₃ ?_))
  rcases hsrc₃ with rfl | ⟨tit, rfl, ht⟩
  · have hl := hT.is g₃.frz
    refine ⟨"list", hl.typeIs, by decide, wpAny_pyIter_list hl ⟨_, rfl, fun fs' F' hk => ?_⟩⟩
    have sb := Sub.push h₃ { cls := .type "list_iterator", data := .fields #[.ref tl, .int 0 0] }
    refine main _ _ _ F' (fun n s₁ s' c₂ hs' => hk n s₁ s' c₂ ?_) (ItA.new g₃ ⟨_, Heap.get?_push_size _ rfl, rfl, rfl⟩) (g₃.sub sb) (nw₃.step (l := []) sb.toL (by simp))
    exact seg_execs_cons (seg_stmt1 (wpAny_Return_none hs'))
  · have hne : tl ≠ tit := by
      rintro rfl
      obtain ⟨n, e⟩ := hT
      rw [ht.ni] at e; cases e
    refine ⟨"list_iterator", ht.is.typeIs, by decide, (Walks.list F.hand tit tl hne tvs.toArray).self 0 _ _ _ ⟨ht.is, hT.is g₃.frz⟩ ⟨_, rfl, fun fs' F' hk => ?_⟩⟩
    refine main _ _ _ F' (fun n s₁ s' c₂ hs' => hk n s₁ s' c₂ ?_) ht g₃ (nw₃.step (KeepL.refl [] _) (by simp))
    exact seg_execs_cons (seg_stmt1 (wpAny_Return_none hs'))
end
end Mine
end

section
open PySem PySem.W PyProof.Rows PySem.Calls
namespace Mine
/-- the generator where it stands, these outs to come -/
structure GenS {P : Pg} (G : GC P) (w : World) (A : Around) (ga : Addr) (g : Nat) (os : List T3) (s : Shared) : Prop where
  gen : s.heap.IsGen ga g
  bare : ∀ x ∈ s.gens, x.bare = true
  gi : ∃ m, GI G s.heap m
  go : ∃ gs, s.gens[g]? = some gs ∧ gs.Goes (model pw w) A.in1 (RR G) (YY G) os.length (.send .none) (s.setGen g .running)
structure Step {P : Pg} (G : GC P) (s s' : Shared) : Prop where
  gk : GK G s.heap s'.heap
  os : s'.os = s.os
  drawn : s'.drawn = s.drawn
theorem bare_set {a : Array GenState} {g : Nat} {x : GenState} (h : ∀ y ∈ a, y.bare = true) (hx : x.bare = true) : ∀ y ∈ (a.setIfInBounds g x), y.bare = true := by
  intro y hy
  rcases Array.mem_or_eq_of_mem_setIfInBounds hy with q | q
  · exact h y q
  · exact q ▸ hx
section
variable {P : Pg} {G : GC P} {w : World} {A : Around} {E : Value → Shared → Prop} {s : Shared}
theorem GI.nolimit {h : Heap} {m : Str → Option Value} (x : GI G h m) : h.NoLimit := P.nolimit.keeps x.base
theorem gen_keep {h h' : Heap} {ga : Addr} {g : Nat} {m : Str → Option Value} (x : h.IsGen ga g) (gi : GI G h m) (k : GK G h h') : h'.IsGen ga g := by
  obtain ⟨o, nm, qn, e, c, d, sl⟩ := x
  refine ⟨o, nm, qn, k ga o e ?_ ?_ (.inl (by rw [c]; decide)), c, d, sl⟩
  · rintro rfl; obtain ⟨o', es, ep, e', d', _⟩ := gi.ns; rw [e] at e'; cases e'; rw [d] at d'; cases d'
  · rintro rfl; obtain ⟨o', es, ep, e', d', _⟩ := gi.lw; rw [e] at e'; cases e'; rw [d] at d'; cases d'
theorem pyNext_fg {Q : Option Value → Shared → Prop} {ga : Addr} {g : Nat} {os : List T3} (hh : A.handled = none) (hroom : A.depth < recursionLimit) (st : GenS G w A ga g os s) (hs : Suf G os)
    (item : ∀ t r, os = t :: r → ∀ v s₁, TokI s₁.heap.get? v t → Step G s s₁ → (∀ s₂, KeepBut G.sa s₁.heap s₂.heap → (∃ xs, s₂.heap.IsList G.sa xs) → s₂.gens = s₁.gens → s₂.heap.IsGen ga g → GenS G w A ga g r s₂) → s₁.heap.IsGen ga g → (∃ m, GI G s₁.heap m) → Q (some v) s₁)
    (done : os = [] → ∀ s₁, Step G s s₁ → (∀ x ∈ s₁.gens, x.bare = true) → (∃ m, GI G s₁.heap m) → Q none s₁) :
    wpAny (model pw w) A (pyNext (.ref ga)) Q E s := by
  obtain ⟨hg, hb, ⟨m, gi⟩, gs, hgs, hgo⟩ := st
  unfold pyNext
  refine wpAny_bind (wpAny_attempt (wpAny_callSpecial?_slot (name := Str.ofString "__next__") hg.typeIs slot_gen_next
    (wpAny_call_entry slot_gen_next hg.typeIs entry_gen_next ?_ (args_gen_next _))))
  show wpAny _ A.in1 (Builtin.Generator.genWake (.ref ga) (.send .none)) _ _ s
  unfold Builtin.Generator.genWake
  refine wpAny_bind (wpAny_holding (wpAny_genNumber hg (wpAny_bind (wpAny_genState hgs ?_))))
  have hn : ∀ s₁ : Shared, Now G (s.setGen g .running) s₁ → ∀ gs' : GenState, Step G s (s₁.setGen g gs') := by
    rintro s₁ ⟨h, tk, rfl, gk⟩ gs'
    exact ⟨gk, rfl, rfl⟩
  have hbare : ∀ s₁ : Shared, Now G (s.setGen g .running) s₁ → ∀ gs' : GenState, gs'.bare = true → ∀ x ∈ (s₁.setGen g gs').gens, x.bare = true := by
    rintro s₁ ⟨h, tk, rfl, gk⟩ gs' hb'
    exact bare_set (bare_set hb rfl) hb'
  cases gs with
  | running => exact hgo.elim
  | finished => exact hgo.elim
  | _ =>
    refine wpAny_bind (wpAny_roomToWake gi.nolimit hroom ?_)
    show wpAny _ A.in1 (.resume g (.send .none) [] _) _ _ s
    refine wpAny_resumeQ hgs hgo (fun x s₁ hx => ?_) (fun v s₁ gs' hb' hv => ?_)
    · obtain ⟨hn0, rfl, nw, m', gi'⟩ := hx
      have hos : os = [] := List.length_eq_zero_iff.1 hn0
      show wpAny _ A.in1 (newExc (.type "StopIteration") [] >>= _) _ _ _
      refine wpAny_bind ?_
      simp only [newExc, newTuple]
      refine wpAny_bind (wpAny_newObj_type ?_ (by size_fits))
      refine wpAny_bind (m := firstArgMember _ _) (wpAny_of_eq (a := Value.none) (by first | rfl | (simp only [firstArgMember]; rfl)) ?_)
      refine wpAny_newObj_type ?_ (by size_fits)
      simp only [raiseNew]
      refine wpAny_bind (wpAny_bind (wpAny_handled ?_))
      first | rw [show A.in1.handled = none from hh] | rw [hh]
      refine wpAny_throw ?_
      refine wpAny_bind (wpAny_isInstance (T := "StopIteration") (b := true) ⟨_, Heap.get?_push_size _ rfl, rfl⟩ isSubtype_stop ?_)
      have kk : ∀ b o, s₁.heap.get? b = some o → _ := fun b o hb => Heap.get?_push_of_some { cls := .type "StopIteration", data := .fields ([Value.ref s₁.heap.objs.size, .none, .none, .none, .bool false, .none].toArray) } (Heap.get?_push_of_some { cls := .type "tuple", data := .seq ([] : List Value).toArray } hb)
      obtain ⟨q1, q2, q3⟩ := hn s₁ nw .finished
      refine wpAny_pure (done hos _ ⟨fun b o e n1 n2 n3 => kk b o (q1 b o e n1 n2 n3), q2, q3⟩ (hbare s₁ nw .finished rfl) ⟨m', gi'.sub kk⟩)
    · obtain ⟨pre, t, post, he, hl, ti, nw, ⟨m', gi'⟩, hkap⟩ := hv
      cases os with
      | nil => exact (hkap s₁ (fun _ _ _ e => e) gi'.sl).elim
      | cons t' r =>
        obtain ⟨pre', he'⟩ := hs
        have hq : t :: post = t' :: r := by
          refine (List.append_inj' (he.symm.trans he') ?_).2
          simp at hl ⊢; omega
        cases hq
        refine wpAny_pure ⟨v, rfl, wpAny_pure (item t post rfl v _ ti (hn s₁ nw gs') (fun s₂ kb l hgn hgen => ⟨hgen, ?_, ⟨m', gi'.back kb l⟩, gs', ?_, ?_⟩) ?_ ⟨m', gi'⟩)⟩
        · rw [hgn]; exact hbare s₁ nw gs' hb'
        · rw [hgn]
          obtain ⟨h, tk, rfl, gk⟩ := nw
          exact setGen_self (gs := .running) (setGen_self hgs)
        · exact hkap (s₂.setGen g .running) kb l
        · obtain ⟨h, tk, rfl, gk⟩ := nw
          exact gen_keep hg gi gk
end
end Mine
end

section
open PySem PySem.W PyProof.Rows PySem.Calls
namespace Mine
structure StepS {P : Pg} (G : GC P) (s s' : Shared) : Prop where
  gk : ∀ b o, s.heap.get? b = some o → b ≠ G.sa → b ≠ G.Lg → b ≠ G.Lw → (o.cls ≠ .type "list_iterator" ∨ (∀ vs, o.data ≠ .fields vs) ∨ P.base.get? b ≠ none) → s'.heap.get? b = some o
  os : s'.os = s.os
  drawn : s'.drawn = s.drawn
section
variable {P : Pg} {G : GC P} {w : World} {A : Around} {E : Value → Shared → Prop} {s : Shared} {R : Result → Shared → Prop}
theorem Step.toS {s s' : Shared} (x : Step G s s') : StepS G s s' := ⟨fun b o e _ n1 n2 n3 => x.gk b o e n1 n2 n3, x.os, x.drawn⟩
theorem StepS.trans {s s' s'' : Shared} (x : StepS G s s') (y : StepS G s' s'') : StepS G s s'' :=
  ⟨fun b o e n n1 n2 n3 => y.gk b o (x.gk b o e n n1 n2 n3) n n1 n2 n3, y.os.trans x.os, y.drawn.trans x.drawn⟩
theorem StepS.keep {s : Shared} {h : Heap} {tk : Nat} (x : KeepBut G.sa s.heap h) : StepS G s { s with heap := h, toks := tk } := ⟨fun b o e n _ _ _ => x b o n e, rfl, rfl⟩
theorem TokI.gk {h h' : Heap} {m : Str → Option Value} {v : Value} {t : T3} (x : TokI h.get? v t) (gi : GI G h m) (k : GK G h h') : TokI h'.get? v t := by
  obtain ⟨a, n, t1, t2, t3, rfl, e⟩ := x
  refine ⟨a, n, t1, t2, t3, rfl, k a _ e ?_ ?_ (.inl (by simp))⟩
  · rintro rfl; obtain ⟨o', es, ep, e', d', _⟩ := gi.ns; rw [e] at e'; cases e'; cases d'
  · rintro rfl; obtain ⟨o', es, ep, e', d', _⟩ := gi.lw; rw [e] at e'; cases e'; cases d'
theorem TokI.but {h h' : Heap} {b : Addr} {v : Value} {t : T3} {items : Array Value} {c : Nat} (x : TokI h.get? v t) (hb : h.get? b = some { cls := .type "list", data := .seq items c }) (k : KeepBut b h h') : TokI h'.get? v t := by
  obtain ⟨a, n, t1, t2, t3, rfl, e⟩ := x
  refine ⟨a, n, t1, t2, t3, rfl, k a _ ?_ e⟩
  rintro rfl; rw [hb] at e
  have := congrArg (Option.map Obj.cls) e
  simp at this
theorem extend_loop (hh : A.handled = none) (hroom : A.in1.depth < recursionLimit) {ga : Addr} {g : Nat} (res : Value) :
    ∀ (os : List T3) (s : Shared) (acc : List Value) (dn : List T3) (c : Nat), GenS G w A.in1 ga g os s → Suf G os → s.heap.get? G.sa = some { cls := .type "list", data := .seq acc.toArray c } → Paired (TokI s.heap.get?) acc dn → dn.length + os.length ≤ 1000 →
      (∀ s' acc' c', StepS G s s' → (∀ x ∈ s'.gens, x.bare = true) → (∃ m, GI G s'.heap m) → s'.heap.get? G.sa = some { cls := .type "list", data := .seq (List.toArray acc') c' } → Paired (TokI s'.heap.get?) acc' (dn ++ os) → R (.ok (.ret res)) s') →
      codeAny (model pw w) A (.builtin "list.extend.loop" ⟨[.ref G.sa, .ref ga, res], []⟩) R s := by
  intro os
  induction os with
  | nil =>
    intro s acc dn c st hs hS hp hle hR
    obtain ⟨m, gi⟩ := id st.gi
    refine codeAny_builtin F.entry_extend_loop ?_
    rw [Around.under_plainId F.plain_extend_loop _]
    show wpAny _ A.in1 (pyNext (.ref ga) >>= _) _ _ s
    refine wpAny_bind (pyNext_fg hh hroom st hs (fun t r e => by cases e) fun _ s₁ k₁ hb₁ g₁ => ?_)
    refine wpAny_pure (hR s₁ acc c k₁.toS hb₁ g₁ (k₁.gk _ _ hS G.sg G.sw (.inl (by simp))) ?_)
    rw [List.append_nil]; exact paired_mono (fun _ _ q => q.gk gi k₁.gk) hp
  | cons t os ih =>
    intro s acc dn c st hs hS hp hle hR
    obtain ⟨m, gi⟩ := id st.gi
    refine codeAny_builtin F.entry_extend_loop ?_
    rw [Around.under_plainId F.plain_extend_loop _]
    show wpAny _ A.in1 (pyNext (.ref ga) >>= _) _ _ s
    refine wpAny_bind (pyNext_fg hh hroom st hs (fun t' r e v s₁ tv k₁ hst hgen g₁ => ?_) fun e => by cases e)
    cases e
    obtain ⟨m₁, gi₁⟩ := g₁
    have hS₁ := k₁.gk _ _ hS G.sg G.sw (.inl (by simp))
    have hp₁ := paired_mono (fun _ _ q => TokI.gk q gi k₁.gk) hp
    have hlen := hp.length
    show wpAny _ A.in1 (updateSeq G.sa (·.push v) >>= _) _ _ _
    simp at hle
    refine wpAny_bind ?_
    refine wpAny_updateSeq hS₁ rfl (wpAny_pure ⟨plainId_quiet F.plain_extend_loop _, ?_⟩) (by simp; unfold sizeLine; omega) (by simp; unfold sizeLine; omega)
    have hup := Heap.get?_update_self (Obj.mapSeq (·.push v)) hS₁ rfl
    have hkb : KeepBut G.sa s₁.heap (s₁.heap.update G.sa (Obj.mapSeq (·.push v))) := fun b o hb e => (Heap.get?_update_other _ _ (Ne.symm hb)).trans e
    generalize s₁.heap.update G.sa (Obj.mapSeq (·.push v)) = h₂ at *
    have hup' : ∃ c', h₂.get? G.sa = some { cls := .type "list", data := .seq (acc ++ [v]).toArray c' } := by
      obtain ⟨c', e⟩ : ∃ c', h₂.get? G.sa = some { cls := .type "list", data := .seq (acc.toArray.push v) c' } := ⟨_, hup⟩
      have : acc.toArray.push v = (acc ++ [v]).toArray := by simp
      exact ⟨c', this ▸ e⟩
    obtain ⟨c', hup'⟩ := hup'
    have hgen' : h₂.IsGen ga g := by
      obtain ⟨o, nm, qn, e, cc, d, sl⟩ := hgen
      refine ⟨o, nm, qn, hkb ga o ?_ e, cc, d, sl⟩
      rintro rfl; rw [hS₁] at e; cases e; cases d
    refine ih { s₁ with heap := h₂ } (acc ++ [v]) (dn ++ [t]) c' (hst _ hkb ⟨_, _, hup', rfl, _, rfl⟩ rfl hgen') hs.tail hup' (paired_snoc (paired_mono (fun _ _ q => TokI.but q hS₁ hkb) hp₁) (TokI.but tv hS₁ hkb)) (by simp; omega) ?_
    intro s' acc' c'' k' hb' g' hS' hp'
    refine hR s' acc' c'' ((k₁.toS.trans (StepS.keep (tk := s₁.toks) hkb)).trans k') hb' g' hS' ?_
    simpa using hp'
end
end Mine
end

section
open PySem PySem.W PyProof.Rows PySem.Calls
namespace Mine
section
variable {P : Pg} {G : GC P} {w : World} {A : Around} {E : Value → Shared → Prop} {s : Shared} {R : Result → Shared → Prop}
abbrev genCode (G : GC P) : Code := .func (bodyA 1) G.env
theorem gens_fresh {ga : Addr} {g : Nat} {H₀ : Heap} {m : Str → Option Value} (hA : A.handled = none) (hfr : A.frames = some [G.le]) (hgen : H₀.IsGen ga g) (gi : GI G H₀ m) (hne : ga ≠ G.sa)
    (hseg : ∀ (A' : Around) (s₀ : Shared), A'.handled = none → A'.frames = some [G.le] → KeepBut G.sa H₀ s₀.heap → (∃ xs, s₀.heap.IsList G.sa xs) → Seg (model pw w) A' (RR G) (YY G) G.out.length s₀ (genCode G) ((model pw w).den (genCode G)) [] s₀)
    (hb : ∀ x ∈ s.gens, x.bare = true) (hgs : s.gens[g]? = some (.fresh (genCode G))) (hk : KeepBut G.sa H₀ s.heap) (hl : ∃ xs, s.heap.IsList G.sa xs) : GenS G w A ga g G.out s :=
  ⟨let ⟨o, nm, qn, e, r⟩ := hgen; ⟨o, nm, qn, hk ga o hne e, r⟩, hb, ⟨m, gi.back hk hl⟩, _, hgs, rfl, hseg A.in1 (s.setGen g .running) hA hfr hk hl⟩
theorem extend_gen {ga : Addr} {g : Nat} {res : Value} {c₀ : Nat} (hh : A.handled = none) (hroom : A.depth < recursionLimit) (hgen : s.heap.IsGen ga g)
    (hst : ∀ s', KeepBut G.sa s.heap s'.heap → (∃ xs, s'.heap.IsList G.sa xs) → s'.gens = s.gens → GenS G w A.in1 ga g G.out s') (hlen : G.out.length ≤ 1000)
    (hS : s.heap.get? G.sa = some { cls := .type "list", data := .seq #[] c₀ })
    (hR : ∀ s' acc' c', StepS G s s' → (∀ x ∈ s'.gens, x.bare = true) → (∃ m, GI G s'.heap m) → s'.heap.get? G.sa = some { cls := .type "list", data := .seq (List.toArray acc') c' } → Paired (TokI s'.heap.get?) acc' G.out → R (.ok (.ret res)) s') :
    wpAny (model pw w) A.in1 (Builtin.List.listExtendWith (.ref G.sa) (.ref ga) res)
      (fun fin s' => match fin with | .done f => R (.ok f) s' | .again c' => c'.quiet = true ∧ codeAny (model pw w) A c' R s') (fun e s' => R (.error e) s') s := by
  have hSI : G.sa ≠ ga := by
    rintro rfl
    obtain ⟨o, nm, qn, e, cc, d, _⟩ := hgen
    rw [hS] at e; cases e; cases d
  unfold Builtin.List.listExtendWith
  refine wpAny_bind (wpAny_typeOf hgen.typeIs ?_)
  have h1 : Builtin.List.listSameRef (.ref G.sa) (.ref ga) = false := by simp [Builtin.List.listSameRef, hSI]
  have h2 : (Value.type "generator" == Value.type "list") = false := by decide
  have h3 : (Value.type "generator" == Value.type "tuple") = false := by decide
  simp only [h1, h2, h3, Bool.or_false, Bool.false_eq_true, if_false]
  refine wpAny_bind (wpAny_pyIter_gen hgen ?_)
  refine wpAny_bind (wpAny_holding ?_)
  unfold Builtin.List.listLengthHint
  refine wpAny_bind (wpAny_specialOf hgen.typeIs F.gen_no_len ?_)
  show wpAny _ A.in1 (specialOf (Value.ref ga) (Str.ofString "__length_hint__") >>= _) _ _ _
  refine wpAny_bind (wpAny_specialOf hgen.typeIs F.gen_no_hint ?_)
  refine wpAny_pure ?_
  show wpAny _ A.in1 (rule "list.extend.makes-room" >>= fun _ => Builtin.List.listTouch (.ref G.sa) >>= fun _ =>
    again (.builtin "list.extend.loop" ⟨[.ref G.sa, .ref ga, res], []⟩)) _ _ _
  refine wpAny_bind (wpAny_rule ?_)
  refine wpAny_bind ?_
  show wpAny _ A.in1 (updateSeq G.sa (·.push .none) >>= fun _ => updateSeq G.sa (·.pop)) _ _ _
  refine wpAny_bind (wpAny_updateSeq hS rfl ?_)
  have hS₂ := Heap.get?_update_self (Obj.mapSeq (·.push Value.none)) hS rfl
  refine wpAny_updateSeq (hz := by seq_fits) hS₂ rfl ?_
  have hS₃ := Heap.get?_update_self (Obj.mapSeq (·.pop)) hS₂ rfl
  have oth : KeepBut G.sa s.heap ((s.heap.update G.sa (Obj.mapSeq (·.push Value.none))).update G.sa (Obj.mapSeq (·.pop))) :=
    fun b o hb e => (Heap.get?_update_other _ _ (Ne.symm hb)).trans ((Heap.get?_update_other _ _ (Ne.symm hb)).trans e)
  generalize (s.heap.update G.sa (Obj.mapSeq (·.push Value.none))).update G.sa (Obj.mapSeq (·.pop)) = H at *
  obtain ⟨c₃, hS₃⟩ : ∃ c, H.get? G.sa = some { cls := .type "list", data := .seq (List.toArray []) c } := ⟨_, hS₃⟩
  refine wpAny_pure ⟨plainId_quiet F.plain_extend_loop _, extend_loop hh hroom res G.out _ [] [] c₃ (hst _ oth ⟨_, _, hS₃, rfl, _, rfl⟩ rfl) ⟨[], rfl⟩ hS₃ .nil (by simpa using hlen) fun s' acc' c' k' hb' g' hS' hp' => ?_⟩
  exact hR s' acc' c' ((StepS.keep (tk := s.toks) oth).trans k') hb' g' hS' (by simpa using hp')
theorem list_init {ga : Addr} {g : Nat} (hh : A.handled = none) (hroom : A.depth < recursionLimit) (hgen : s.heap.IsGen ga g)
    (hst : ∀ s', KeepBut G.sa s.heap s'.heap → (∃ xs, s'.heap.IsList G.sa xs) → s'.gens = s.gens → GenS G w A.in1 ga g G.out s') (hlen : G.out.length ≤ 1000)
    (hS : s.heap.get? G.sa = some { cls := .type "list", data := .seq #[] })
    (hR : ∀ s' acc' c', StepS G s s' → (∀ x ∈ s'.gens, x.bare = true) → (∃ m, GI G s'.heap m) → s'.heap.get? G.sa = some { cls := .type "list", data := .seq (List.toArray acc') c' } → Paired (TokI s'.heap.get?) acc' G.out → R (.ok (.ret .none)) s') :
    wpAny (model pw w) A.in1 (Builtin.«list.__init__» ⟨[.ref G.sa, .ref ga], []⟩)
      (fun fin s' => match fin with | .done f => R (.ok f) s' | .again c' => c'.quiet = true ∧ codeAny (model pw w) A c' R s') (fun e s' => R (.error e) s') s := by
  have hSI : ga ≠ G.sa := by
    rintro rfl
    obtain ⟨o, nm, qn, e, cc, d, _⟩ := hgen
    rw [hS] at e; cases e; cases d
  show wpAny _ A.in1 (do let old ← Builtin.List.listItems (.ref G.sa); Builtin.List.listUpdate (.ref G.sa) (fun _ => #[]); letGo old.toList.reverse; Builtin.List.listExtendWith (.ref G.sa) (.ref ga) .none) _ _ s
  refine wpAny_bind ?_
  unfold Builtin.List.listItems
  refine wpAny_bind (wpAny_seqItems hS rfl (wpAny_pure ?_))
  show wpAny _ A.in1 (updateSeq G.sa (fun _ => #[]) >>= fun _ => letGo (#[] : Array Value).toList.reverse >>= fun _ => Builtin.List.listExtendWith (.ref G.sa) (.ref ga) .none) _ _ s
  refine wpAny_bind (wpAny_updateSeq hS rfl ?_)
  have hS₂ := Heap.get?_update_self (Obj.mapSeq (fun _ => (#[] : Array Value))) hS rfl
  have oth : KeepBut G.sa s.heap (s.heap.update G.sa (Obj.mapSeq (fun _ => (#[] : Array Value)))) := fun b o hb e => (Heap.get?_update_other _ _ (Ne.symm hb)).trans e
  generalize s.heap.update G.sa (Obj.mapSeq (fun _ => (#[] : Array Value))) = H at *
  obtain ⟨c₂, hS₂⟩ : ∃ c, H.get? G.sa = some { cls := .type "list", data := .seq #[] c } := ⟨_, hS₂⟩
  refine wpAny_bind (wpAny_letGo ?_)
  refine extend_gen (s := { s with heap := H }) hh hroom (let ⟨o, nm, qn, e, r⟩ := hgen; ⟨o, nm, qn, oth ga o hSI e, r⟩) (fun s' kb l hg => hst s' (oth.trans kb) l hg) hlen hS₂ fun s' acc' c' k' hb' g' hS' hp' => ?_
  exact hR s' acc' c' ((StepS.keep (tk := s.toks) oth).trans k') hb' g' hS' hp'
theorem call_list_fg {Q : Value → Shared → Prop} {ga : Addr} {g : Nat} {m : Str → Option Value} (hh : A.handled = none) (hroom : A.depth < recursionLimit) (hfr : A.frames = some [G.le]) (hsa : G.sa = s.heap.objs.size)
    (gi : GI G (s.heap.push { cls := .type "list", data := .seq #[] }) m) (hgen : s.heap.IsGen ga g) (hb : ∀ x ∈ s.gens, x.bare = true) (hgs : s.gens[g]? = some (.fresh (genCode G)))
    (hseg : ∀ (A' : Around) (s₀ : Shared), A'.handled = none → A'.frames = some [G.le] → KeepBut G.sa (s.heap.push { cls := .type "list", data := .seq #[] }) s₀.heap → (∃ xs, s₀.heap.IsList G.sa xs) → Seg (model pw w) A' (RR G) (YY G) G.out.length s₀ (genCode G) ((model pw w).den (genCode G)) [] s₀)
    (hlen : G.out.length ≤ 1000)
    (hQ : ∀ s' acc' c', StepS G s s' → (∀ x ∈ s'.gens, x.bare = true) → (∃ m, GI G s'.heap m) → s'.heap.get? G.sa = some { cls := .type "list", data := .seq (List.toArray acc') c' } → Paired (TokI s'.heap.get?) acc' G.out → Q (.ref G.sa) s') :
    wpAny (model pw w) A (call (.type "list") [.ref ga]) Q E s := by
  have sb : Sub s.heap (s.heap.push { cls := .type "list", data := .seq #[] }) := Sub.push _ _
  have hS : (s.heap.push { cls := .type "list", data := .seq #[] }).get? s.heap.objs.size = some { cls := .type "list", data := .seq #[] } := Heap.get?_push_size _ rfl
  have hgen' : (s.heap.push { cls := .type "list", data := .seq #[] }).IsGen ga g := hgen.push _
  have hne : ga ≠ G.sa := by rw [hsa]; obtain ⟨o, _, _, e, _⟩ := hgen; exact new_ne e
  refine callType_codes (Q₁ := fun obj s₁ => obj = .ref s.heap.objs.size ∧ s₁ = { s with heap := s.heap.push { cls := .type "list", data := .seq #[] } }) F.called_list (F.typeCall_list_1 _) F.entry_list_init
    (code_list_new _ ⟨rfl, rfl⟩) fun obj s₁ h₁ => ?_
  obtain ⟨rfl, rfl⟩ := h₁
  refine ⟨⟨_, hS, rfl⟩, F.args_list_init_2 _ _, ?_⟩
  rw [← hsa] at hS ⊢
  refine list_init (s := { s with heap := s.heap.push { cls := .type "list", data := .seq #[] } }) hh hroom hgen' (fun s' kb l hg => gens_fresh hh hfr hgen' gi hne hseg (by rw [hg]; exact hb) (by rw [hg]; exact hgs) kb l) hlen hS fun s' acc' c' k' hb' g' hS' hp' => ?_
  exact ⟨rfl, hQ s' acc' c' ((StepS.keep (tk := s.toks) sb.keepBut).trans k') hb' g' hS' hp'⟩
end
end Mine
end

section
open PySem PySem.W PyProof.Rows PySem.Calls
namespace Mine
/-- what a run of the generator leaves -/
structure Left (P : Pg) (Lw : Addr) (mw : Str → Option Value) (I : PM) (s s' : Shared) : Prop where
  keep : ∀ b o, s.heap.get? b = some o → b ≠ Lw → (o.cls ≠ .type "list_iterator" ∨ (∀ vs, o.data ≠ .fields vs) ∨ P.base.get? b ≠ none) → s'.heap.get? b = some o
  lw : s'.heap.Ns Lw mw
  base : Sub P.base s'.heap
  frz : Frz I s'.heap
  bare : ∀ x ∈ s'.gens, x.bare = true
  os : s'.os = s.os
  drawn : s'.drawn = s.drawn
section
variable {P : Pg} {w : World} {A : Around} {E : Value → Shared → Prop} {s : Shared}
theorem told {Q : Value → Shared → Prop} {le : Env} {Lw il : Addr} {tv : Value} {mw : Str → Option Value} {I : PM} {out : List T3} (hroom : A.depth < recursionLimit) (hA : A.handled = none) (hfr : A.frames = some [le]) (lef : le.frame = some Lw) (lek : le.scope.kind ≠ .module)
    (hb : Sub P.base s.heap) (FI : Frz I s.heap) (hLw : s.heap.Ns Lw mw) (wb : P.base.get? Lw = none) (Iw : I Lw = none) (hbare : ∀ x ∈ s.gens, x.bare = true) (hlen : out.length ≤ 1000)
    (hseg : ∀ (G : GC P), G.I = I → G.mw = mw → G.out = out → G.Lw = Lw → s.heap.get? G.Lg = none → s.heap.get? G.sa = none → ∀ (A' : Around) (s₀ : Shared) (m : Str → Option Value) (K : Flow → Sem Fin) (H : Value → Sem Fin), FsOk A' (GenEnvs G) (genCode G) [] → K .next = .pure (.done (.ret .none)) → K (.ret .none) = .pure (.done (.ret .none)) →
      GI G s₀.heap m → m "insertions" = some (.ref il) → m "tokens" = some tv → Sub s.heap s₀.heap → Seg (model pw w) A' (RR G) (YY G) out.length s₀ (genCode G) ((execs (bodyA 1) G.env).wrap K H id id) [] s₀)
    (hQ : ∀ s' sa acc c, s.heap.get? sa = none → Left P Lw mw I s s' → s'.heap.get? sa = some { cls := .type "list", data := .seq (List.toArray acc) c } → Paired (TokI s'.heap.get?) acc out → Q (.ref sa) s') :
    wpAny (model pw w) A (call (.ref P.fi) [.ref il, tv]) (fun v s₁ => wpAny (model pw w) A (call (.type "list") [v]) Q E s₁) E s := by
  obtain ⟨o, pm, cd, doc, ho, hdat, hcd⟩ := P.hfi.obj
  refine wpAny_call (codeAny_call_generator hroom (hb _ _ ho) hdat (by rfl) (by rfl) rfl (hcd.keeps hb) ?_)
  rw [show bindArgs (docDef (nameA 1) (argsA 1) (bodyA 1) (scopeA 1) pm cd doc) ⟨[.ref il, tv], []⟩ = pure [(Str.ofString "insertions", .ref il), (Str.ofString "tokens", tv)] from rfl]
  refine wpAny_pure (wpAny_newFunctionEnv (show ∀ x ∈ (scopeA 1).names, x.2 ≠ .cell by decide) (locs rfl) (fun h₁ hns hsb => ⟨(P.nolimit.keeps hb).fresh _ hsb, ?_⟩) (by rfl))
  have k₁ : Sub s.heap h₁ := fun b o e => hsb.extBut b o (Nat.ne_of_lt (Heap.lt_size e)) (Heap.get?_push_of_some _ e)
  have hsz : h₁.objs.size = s.heap.objs.size + 1 := by rw [hsb.1, Heap.size_push]
  have hnoL : s.heap.get? s.heap.objs.size = none := Heap.get?_none_of_le (Nat.le_refl _)
  have hfresh : ∀ {a : Addr}, s.heap.get? a = none → P.base.get? a = none := by
    intro a h
    cases q : P.base.get? a with
    | none => rfl
    | some o => have := hb _ _ q; rw [h] at this; cases this
  have hneW : ∀ {a : Addr}, s.heap.get? a = none → a ≠ Lw := by
    rintro a h rfl; obtain ⟨o, _, _, e, _⟩ := hLw; rw [h] at e; cases e
  have hno2 : s.heap.get? (h₁.objs.size + 1) = none := Heap.get?_none_of_le (by omega)
  dsimp only
  let W : GW P := ⟨s.heap.objs.size, Lw, cd, le, lef, lek, hfresh hnoL, wb, hneW hnoL⟩
  let G : GC P := ⟨W, h₁.objs.size + 1, I, mw, out, FI.none_new hno2, FI.none_new hnoL, Iw, hfresh hno2, (by show _ ≠ s.heap.objs.size; omega), hneW hno2⟩
  have hns' : h₁.Ns G.Lg (fun x => List.lookup x [(Str.ofString "tokens", tv), (Str.ofString "insertions", Value.ref il)]) := hns
  have hgen : (h₁.push { cls := .type "generator", data := .fields #[.int s.gens.size 0, .str (nameA 1) (s.toks + 2), .str (nameA 1) (s.toks + 2 + 1)] }).IsGen h₁.objs.size s.gens.size := ⟨_, _, _, Heap.get?_push_size _ rfl, rfl, rfl, rfl⟩
  have k₂ : Sub h₁ (h₁.push { cls := .type "generator", data := .fields #[.int s.gens.size 0, .str (nameA 1) (s.toks + 2), .str (nameA 1) (s.toks + 2 + 1)] }) := Sub.push _ _
  have hsz₂ : (h₁.push { cls := .type "generator", data := .fields #[.int s.gens.size 0, .str (nameA 1) (s.toks + 2), .str (nameA 1) (s.toks + 2 + 1)] }).objs.size = h₁.objs.size + 1 := Heap.size_push _ _
  show wpAny _ _ _ _ _ ({ s with heap := h₁.push { cls := .type "generator", data := .fields #[.int s.gens.size 0, .str (nameA 1) (s.toks + 2), .str (nameA 1) (s.toks + 2 + 1)] }, gens := s.gens.push (.fresh (genCode G)), toks := s.toks + 2 + 1 + 1 } : Shared)
  generalize h₁.push _ = h₂ at *
  have gi : GI G (h₂.push { cls := .type "list", data := .seq #[] }) _ :=
    ⟨(hb.trans k₁).trans (k₂.trans (Sub.push _ _)), (FI.sub k₁).sub (k₂.trans (Sub.push _ _)), hns'.keeps (k₂.trans (Sub.push _ _)), (hLw.keeps k₁).keeps (k₂.trans (Sub.push _ _)), ⟨_, _, by show Heap.get? _ (h₁.objs.size + 1) = _; rw [← hsz₂]; exact Heap.get?_push_size _ rfl, rfl, _, rfl⟩⟩
  refine call_list_fg (G := G) (m := fun x => List.lookup x [(Str.ofString "tokens", tv), (Str.ofString "insertions", Value.ref il)]) hA hroom hfr (by show h₁.objs.size + 1 = _; exact hsz₂.symm) gi hgen ?_ (Array.getElem?_push_size ..) ?_ hlen ?_
  · intro x hx
    rcases Array.mem_push.1 hx with q | q
    · exact hbare x q
    · subst q; rfl
  · intro A' s₀ hA' hfr' kb hl
    refine seg_func ?_
    refine hseg G rfl rfl rfl rfl hnoL hno2 A' s₀ _ _ _ ⟨rfl, rfl, ?_, ?_⟩ rfl rfl (gi.back kb hl) rfl rfl ?_
    · exact hA'
    · show pushEnvs [G.env] (pushEnvs [] A'.frames) = _
      rw [hfr']; rfl
    · intro b o e
      exact kb b o (by rintro rfl; rw [hno2] at e; cases e) (Sub.push _ _ b o (k₂ b o (k₁ b o e)))
  · intro s' acc' c' k' hb' ⟨m', gi'⟩ hS' hp'
    refine hQ s' _ acc' c' hno2 ⟨fun b o e n1 n3 => ?_, gi'.lw, gi'.base, gi'.frz, hb', k'.os, k'.drawn⟩ hS' hp'
    refine k'.gk b o (k₂ b o (k₁ b o e)) ?_ ?_ n1 n3
    · rintro rfl; rw [hno2] at e; cases e
    · rintro rfl; rw [hnoL] at e; cases e
end
end Mine
end

section
open PySem PySem.W PyProof.Rows PySem.Calls
namespace Mine
section
variable {prog : Program} {w : World} {A : Around} {E : Value → Shared → Prop} {s : Shared} {env : Env}
abbrev testsOf (ifs : List Expr) (env : Env) : Sem Bool := forIn ifs true fun c r => if r = true then do let ok ← isTrue c env (eval c env); pure (ForInStep.yield ok) else pure (ForInStep.yield r)
theorem compLoop_any {R : Result → Shared → Prop} {elt target iter : Expr} {ifs : List Expr} {scope : Scope} {pos : Pos} {it acc : Value} (I : Nat → Shared → Prop)
    (turn : ∀ n s, I n s → ∀ E' : Value → Shared → Prop, wpAny (model prog w) A (pyNext it) (fun r s₁ => match r with
      | none => R (.ok .next) s₁
      | some v => wpAny (model prog w) A (letOwnedTupleGo target it v) (fun _ s₁' => wpAny (model prog w) A (assign target env v) (fun _ s₂ =>
          wpAny (model prog w) A (testsOf ifs env) (fun ok s₃ =>
            if ok = true then wpAny (model prog w) A (eval elt env) (fun x s₄ =>
              wpAny (model prog w) A (call (.builtin "list.append") [acc, x]) (fun _ s₅ => ∃ m, m < n ∧ I m s₅) E' s₄) E' s₃
            else ∃ m, m < n ∧ I m s₃) E' s₂) E' s₁') E' s₁) E' s)
    (n : Nat) (h : I n s) : codeAny (model prog w) A (.compLoop (.ListComp elt [⟨target, iter, ifs, 0⟩] scope pos) 0 it acc env) R s := by
  refine codeAny_loop rfl I (fun n s hI => ?_) n h
  show wpAny _ A ((compTurn (.ListComp elt [⟨target, iter, ifs, 0⟩] scope pos) 0 it acc env).onRaise (fun x => do noteFrame x env; theTreesLotGoes x)) _ _ s
  refine wpAny_noted ?_
  rw [compTurn_list]
  refine wpAny_bind (wpAny_standAt (wpAny_bind (wpAny_mono (turn n s hI _) (fun r s₁ h₁ => ?_) fun _ _ h' => h')))
  cases r with
  | none => exact wpAny_pure h₁
  | some v =>
    refine wpAny_bind (wpAny_mono h₁ (fun _ s₁' h₁' => ?_) fun _ _ h' => h')
    refine wpAny_bind (wpAny_mono h₁' (fun _ s₂ h₂ => wpAny_bind (wpAny_mono h₂ (fun ok s₃ h₃ => ?_) fun _ _ h' => h')) fun _ _ h' => h')
    cases ok with
    | false => exact wpAny_pure ⟨rfl, h₃⟩
    | true =>
      rw [if_pos rfl] at h₃
      dsimp only
      rw [if_pos rfl]
      exact wpAny_bind (wpAny_bind (wpAny_mono h₃ (fun x s₄ h₄ => wpAny_bind (wpAny_mono h₄ (fun _ s₅ h₅ => wpAny_pure (wpAny_pure ⟨rfl, h₅⟩)) fun _ _ x => x)) fun _ _ x => x))
end
end Mine
end

section
open PySem PySem.W PyProof.Rows PySem.Calls
namespace Mine
section
variable {prog : Program} {w : World} {A : Around} {E : Value → Shared → Prop} {env : Env}
/-- what a list comprehension asks for, behind its source -/
structure CompOk (prog : Program) (w : World) (A : Around) (env : Env) (target elt : Expr) (ifs : List Expr) (scope : Scope) (cl : List (Str × Addr)) (It : Addr) (n : Nat) (Pv : Nat → Value → Prop) (St : Nat → Heap → Prop)
    (C D : Addr) (s₁ : Shared) (Inv : Nat → List Value → Shared → Prop) : Prop where
  start : Inv 0 [] s₁
  turn : ∀ i v ys (s : Shared) h' tk m', i < n → Inv i ys s → h'.Ns C m' → Lst h' D ys → St (i + 1) h' → Pv i v → KeepBut It s.heap h' → ∀ E' : Value → Shared → Prop,
      wpAny (model prog w) A (assign target (compEnvC scope cl C env) v) (fun _ s₂ => wpAny (model prog w) A (testsOf ifs (compEnvC scope cl C env)) (fun ok s₃ =>
        if ok = true then wpAny (model prog w) A (eval elt (compEnvC scope cl C env)) (fun x s₄ => St (i + 1) s₄.heap ∧ Lst s₄.heap D ys ∧ (∃ m, s₄.heap.Ns C m) ∧ ∀ h'' tk, KeepBut D s₄.heap h'' → Inv (i + 1) (ys ++ [x]) { s₄ with heap := h'', toks := tk }) E' s₃
        else St (i + 1) s₃.heap ∧ Lst s₃.heap D ys ∧ (∃ m, s₃.heap.Ns C m) ∧ Inv (i + 1) ys s₃) E' s₂) E' { s with heap := h', toks := tk }
theorem comp_block {elt target iter : Expr} {ifs : List Expr} {scope : Scope} {cl : List (Str × Addr)} {pos : Pos} {s₂ : Shared} {It : Addr} {fp : List Addr} {n : Nat} {Pv : Nat → Value → Prop} {St : Nat → Heap → Prop}
    (W : Walks prog w A It fp [It] n Pv St) (hsz : n ≤ sizeLine) (hst : St 0 s₂.heap) (hfp : ∀ b ∈ fp, b < s₂.heap.objs.size)
    (hcell : ∀ y ∈ scope.names, y.2 ≠ .cell) (hkind : scope.kind = .function)
    (hgo : ∀ (s : Shared) (v : Value) (Q : Unit → Shared → Prop) (E : Value → Shared → Prop) (i : Nat), St i s.heap → Q () s → wpAny (model prog w) A (letOwnedTupleGo target (.ref It) v) Q E s)
    {RR : Value → Addr → Result → Shared → Prop}
    (h : ∀ C D h₁ tk₁, s₂.heap.get? C = none → s₂.heap.get? D = none → C ≠ D → Sub s₂.heap h₁ → ∃ Inv, CompOk prog w A env target elt ifs scope cl It n Pv St C D { s₂ with heap := h₁, toks := tk₁ } Inv ∧
      ∀ ys (s : Shared) h' tk m', Inv n ys s → KeepBut It s.heap h' → h'.Ns C m' → Lst h' D ys → RR (.ref D) C (.ok .next) { s with heap := h', toks := tk }) :
    wpAny (model prog w) A (newList []) (fun acc s₃ => wpAny (model prog w) A (newFunctionEnv scope env.globals cl [] env.qual none .none (some env)) (fun cenv s₄ =>
      codeAny (model prog w) A (.compStart (.ListComp elt [⟨target, iter, ifs, 0⟩] scope pos) 0 (.ref It) acc { cenv with scope := relabel scope env }) (RR acc cenv.locals) s₄) E s₃) E s₂ := by
  refine wpAny_newObj_type (wpAny_newFunctionEnv hcell (by intro y hy; simp at hy) (fun h₁ hns₁ hsb₁ => ?_) hkind)
  dsimp only at hns₁ hsb₁ ⊢
  generalize hH2 : s₂.heap.push { cls := .type "list", dict := none, data := .seq ([] : List Value).toArray } = H2 at hns₁ hsb₁ ⊢
  have hC : H2.objs.size = s₂.heap.objs.size + 1 := by rw [← hH2, Heap.size_push]
  have hDC : s₂.heap.objs.size ≠ H2.objs.size := by rw [hC]; exact Nat.ne_of_lt (Nat.lt_succ_self _)
  have hItfp : It ∈ fp := W.sub It (by simp)
  have hItl := hfp It hItfp
  have hDf : s₂.heap.objs.size ∉ fp := fun hm => Nat.lt_irrefl _ (hfp _ hm)
  have hCf : H2.objs.size ∉ fp := fun hm => by have := hfp _ hm; rw [hC] at this; exact Nat.lt_irrefl _ (Nat.lt_of_succ_lt this)
  have old : Sub s₂.heap h₁ := fun b o e => hsb₁.extBut b o (by rw [hC]; exact Nat.ne_of_lt (Nat.lt_succ_of_lt (Heap.lt_size e))) (Heap.get?_push_of_some _ (hH2 ▸ Heap.get?_push_of_some _ e))
  have hacc : Lst h₁ s₂.heap.objs.size [] := ⟨_, hsb₁.extBut _ _ hDC (Heap.get?_push_of_some _ (hH2 ▸ Heap.get?_push_size _ rfl))⟩
  have hst₁ : St 0 h₁ := W.frame _ _ _ hst fun b _ o e => old b o e
  have hD0 : s₂.heap.get? s₂.heap.objs.size = none := Heap.get?_none_of_le (Nat.le_refl _)
  have hC0 : s₂.heap.get? H2.objs.size = none := Heap.get?_none_of_le (by omega)
  have hItD : It ≠ s₂.heap.objs.size := Nat.ne_of_lt hItl
  have hItC : It ≠ H2.objs.size := by rw [hC]; exact Nat.ne_of_lt (Nat.lt_succ_of_lt hItl)
  clear hH2 hsb₁
  generalize s₂.heap.objs.size = D at *
  generalize H2.objs.size = C at *
  obtain ⟨Inv, ok, fin⟩ := h C D h₁ (s₂.toks + ([] : List (Str × Value)).length) hC0 hD0 hDC.symm old
  have loop : codeAny (model prog w) A (.compLoop (.ListComp elt [⟨target, iter, ifs, 0⟩] scope pos) 0 (.ref It) (.ref D) (compEnvC scope cl C env)) (RR (.ref D) C) { s₂ with heap := h₁, toks := s₂.toks + ([] : List (Str × Value)).length } := by
    refine compLoop_any (fun k s => ∃ i ys, i ≤ n ∧ k = n + 1 - i ∧ ys.length ≤ i ∧ St i s.heap ∧ Lst s.heap D ys ∧ (∃ m, s.heap.Ns C m) ∧ Inv i ys s) ?_ (n + 1) ⟨0, [], Nat.zero_le _, rfl, Nat.le_refl _, hst₁, hacc, ⟨_, hns₁⟩, ok.start⟩
    rintro k s ⟨i, ys, hi, rfl, hlen, hst, hl, ⟨m, hn⟩, hinv⟩ E'
    by_cases hlt : i < n
    · refine W.item i s _ _ hlt hst fun v h' tk hv hst' hk => ?_
      have hk' : KeepBut It s.heap h' := fun b o hb e => hk b o (by simpa using hb) e
      dsimp only
      refine hgo _ v _ _ (i + 1) hst' ?_
      refine wpAny_mono (ok.turn i v ys s h' tk m hlt hinv (hn.at' fun o e => hk' _ o hItC.symm e) (hl.at fun o e => hk' _ o hItD.symm e) hst' hv hk' _) (fun _ s₁ h₁ => ?_) fun _ _ x => x
      refine wpAny_mono h₁ (fun ok' s₃ h₃ => ?_) fun _ _ x => x
      cases ok' with
      | false =>
        rw [if_neg Bool.false_ne_true] at h₃ ⊢
        exact ⟨n + 1 - (i + 1), by omega, i + 1, ys, hlt, rfl, by omega, h₃.1, h₃.2.1, h₃.2.2.1, h₃.2.2.2⟩
      | true =>
        rw [if_pos rfl] at h₃ ⊢
        refine wpAny_mono h₃ (fun x s₄ h₄ => ?_) fun _ _ x => x
        obtain ⟨st₄, l₄, ⟨m₄, n₄⟩, inv₄⟩ := h₄
        refine wpAny_list_append_plain (hsz := by simp; omega) l₄ fun h₅ hp hs => ?_
        have kb := KeepBut.of_same hs
        refine ⟨n + 1 - (i + 1), by omega, i + 1, ys ++ [x], hlt, rfl, by simp; omega, W.frame _ _ _ st₄ fun b hb o e => kb b o (by rintro rfl; exact hDf hb) e, ?_, ⟨m₄, n₄.at' fun o e => kb _ o hDC.symm e⟩, inv₄ h₅ s₄.toks kb⟩
        have : ys.toArray.push x = (ys ++ [x]).toArray := by simp
        rw [this] at hp; exact hp
    · obtain rfl : i = n := Nat.le_antisymm hi (Nat.not_lt.mp hlt)
      refine W.done s _ _ hst fun h' tk hk => ?_
      have hk' : KeepBut It s.heap h' := fun b o hb e => hk b o (by simpa using hb) e
      exact fin ys s h' tk m hinv hk' (hn.at' fun o e => hk' _ o hItC.symm e) (hl.at fun o e => hk' _ o hItD.symm e)
  exact codeAny_compStart_list loop (W.self 0 _ _ _ hst₁ loop)
end
end Mine
end

section
open PySem PySem.W PyProof.Rows PySem.Calls
namespace Mine
def TargetOk (prog : Program) (w : World) (target : Expr) : Prop := ∀ (A : Around) (s : Shared) (v : Value) (Q : Unit → Shared → Prop) (E : Value → Shared → Prop) (It l : Addr) (i : Nat), s.heap.IsListIter It l i → Q () s → wpAny (model prog w) A (letOwnedTupleGo target (.ref It) v) Q E s
theorem target_name {prog : Program} {w : World} {x : Str} {p : Pos} : TargetOk prog w (.Name x p) := fun _ _ _ _ _ _ _ _ _ h => wpAny_pure h
theorem target_tuple {prog : Program} {w : World} {e : List Expr} {k : Nat} {p : Pos} : TargetOk prog w (.Tuple e k p) := fun _ _ _ _ _ _ _ _ x h => let_list x h
section
variable {prog : Program} {w : World} {A : Around} {E : Value → Shared → Prop} {s : Shared} {env : Env}
abbrev listSt (It ax : Addr) (items : Array Value) : Nat → Heap → Prop := fun i h => h.IsListIter It ax i ∧ h.IsList ax items
/-- a list comprehension over a list -/
theorem comp_list {elt target iter : Expr} {ifs : List Expr} {scope : Scope} {cl : List (Str × Addr)} {pos : Pos} {Q : Value → Shared → Prop} (hh : A.handled = none) (ht : TargetOk prog w target)
    (hclos : closureFor scope env = pure cl)
    (h : wpAny (model prog w) A (eval iter env) (fun xv s₁ => ∃ ax items, xv = .ref ax ∧ s₁.heap.IsList ax items ∧ items.size ≤ sizeLine ∧
      ∀ It C D h₁ tk₁, s₁.heap.get? It = none → s₁.heap.get? C = none → s₁.heap.get? D = none → It ≠ C → It ≠ D → C ≠ D → Sub s₁.heap h₁ →
        ∃ Inv, CompOk prog w A env target elt ifs scope cl It items.size (fun i v => items[i]? = some v) (listSt It ax items) C D { s₁ with heap := h₁, toks := tk₁ } Inv ∧
          ∀ ys (s : Shared) h' tk, Inv items.size ys s → Lst h' D ys → KeepL [It, C] s.heap h' → Q (.ref D) { s with heap := h', toks := tk }) E s)
    (hcell : ∀ y ∈ scope.names, y.2 ≠ .cell := by decide) (hkind : scope.kind = .function := by rfl) (hnames : ∀ y ∈ scope.names, y.2 = .local → scope.names.lookup y.1 = some .local := by decide)
    (hs : ∀ x, foldedSetIterable iter env x = pure x := by intro _; rfl) :
    wpAny (model prog w) A (eval (.ListComp elt [⟨target, iter, ifs, 0⟩] scope pos) env) Q E s := by
  rw [eval_ListComp]
  refine wpAny_comprehension_free (use := none) rfl hs hclos hkind hnames (wpAny_mono h (fun xv s₁ h₁ => ?_) fun _ _ e => e)
  obtain ⟨ax, items, rfl, hl, hsz, hQ⟩ := h₁
  refine wpAny_pyIter_list hl ?_
  have hne : ax ≠ s₁.heap.objs.size := let ⟨_, e, _⟩ := hl; new_ne e
  have sb := Sub.push s₁.heap { cls := .type "list_iterator", data := .fields #[.ref ax, .int 0 0] }
  have hIt : (s₁.heap.push { cls := .type "list_iterator", data := .fields #[.ref ax, .int 0 0] }).get? s₁.heap.objs.size = some _ := Heap.get?_push_size _ rfl
  have hIt0 : s₁.heap.get? s₁.heap.objs.size = none := Heap.get?_none_of_le (Nat.le_refl _)
  have fr : ∀ {a : Addr}, (s₁.heap.push { cls := .type "list_iterator", data := .fields #[.ref ax, .int 0 0] }).get? a = none → s₁.heap.get? a = none ∧ s₁.heap.objs.size ≠ a := by
    intro a ha
    refine ⟨?_, by rintro rfl; rw [hIt] at ha; cases ha⟩
    cases q : s₁.heap.get? a with
    | none => rfl
    | some o => rw [sb _ _ q] at ha; cases ha
  refine comp_block (RR := fun acc C => compPost (model prog w) A E none Q acc C) (Walks.list hh s₁.heap.objs.size ax hne items) hsz ⟨⟨_, hIt, rfl, rfl⟩, hl.push _⟩ ?_ hcell hkind (fun s v Q E i st hQ => ht A s v Q E _ ax i st.1 hQ) ?_
  · intro b hb
    simp only [List.mem_cons, List.not_mem_nil, or_false] at hb
    rcases hb with rfl | rfl
    · exact Heap.lt_size hIt
    · obtain ⟨o, e, _⟩ := hl; exact Heap.lt_size (sb _ _ e)
  · intro C D h₁ tk₁ hC hD hCD hsub
    obtain ⟨hC1, hC2⟩ := fr hC
    obtain ⟨hD1, hD2⟩ := fr hD
    obtain ⟨Inv, ok, fin⟩ := hQ _ C D h₁ tk₁ hIt0 hC1 hD1 hC2 hD2 hCD (sb.trans hsub)
    refine ⟨Inv, ok, fun ys s h' tk m' inv kb hn hl => ⟨m', hn, fun h'' hs'' => ?_⟩⟩
    exact fin ys s h'' tk inv (hl.at fun o e => hs''.extBut _ o hCD.symm e) ((KeepBut.toL kb).trans (KeepBut.toL (.of_same hs'')))
/-- the same, its list given a name before the loop's names go -/
theorem assign_comp_list {elt target iter : Expr} {ifs : List Expr} {scope : Scope} {cl : List (Str × Addr)} {y : Str} {pos py spos : Pos} {Q : Flow → Shared → Prop} (hh : A.handled = none) (ht : TargetOk prog w target)
    (hclos : closureFor scope env = pure cl) (hl₀ : ∃ m, s.heap.Ns env.locals m)
    (h : wpAny (model prog w) A (eval iter env) (fun xv s₁ => (∃ m, s₁.heap.Ns env.locals m) ∧ ∃ ax items, xv = .ref ax ∧ s₁.heap.IsList ax items ∧ items.size ≤ sizeLine ∧
      ∀ It C D h₁ tk₁, s₁.heap.get? It = none → s₁.heap.get? C = none → s₁.heap.get? D = none → It ≠ C → It ≠ D → C ≠ D → Sub s₁.heap h₁ →
        ∃ Inv, CompOk prog w A env target elt ifs scope cl It items.size (fun i v => items[i]? = some v) (listSt It ax items) C D { s₁ with heap := h₁, toks := tk₁ } Inv ∧
          ∀ ys (s : Shared), Inv items.size ys s → ∃ m, s.heap.Ns env.locals m ∧ ∀ h' tk, Lst h' D ys → h'.Ns env.locals (fun z => if z = y then some (.ref D) else m z) → KeepL [It, C, env.locals] s.heap h' → Q .next { s with heap := h', toks := tk }) E s)
    (hsw : swapsWith (.ListComp elt [⟨target, iter, ifs, 0⟩] scope pos) (some (.Name y py)) spos.line env = pure true := by rfl)
    (hcell : ∀ y ∈ scope.names, y.2 ≠ .cell := by decide) (hkind : scope.kind = .function := by rfl) (hnames : ∀ y ∈ scope.names, y.2 = .local → scope.names.lookup y.1 = some .local := by decide)
    (hy : env.kindOf y = some .local := by rfl) (hp : (env.scope.kind == .class || (env.scope.kind == .module && env.locals != env.globals)) = false := by rfl)
    (hs : ∀ x, foldedSetIterable iter env x = pure x := by intro _; rfl) :
    wpAny (model prog w) A (exec (.Assign [.Name y py] (.ListComp elt [⟨target, iter, ifs, 0⟩] scope pos) spos) env) Q E s := by
  rw [exec_Assign_Name_used _ _ _ _ hsw]
  refine wpAny_bind (wpAny_standAt (wpAny_bind ?_))
  show wpAny _ A (do let _ ← comprehension (.ListComp elt [⟨target, iter, ifs, 0⟩] scope pos) scope env _ (newList []) false (eval iter env) (some (assign (.Name y py) env))) _ _ s
  refine wpAny_bind (wpAny_mono (wpAny_comprehension_free (use := some (assign (.Name y py) env)) (Q := fun _ s' => Q .next s') rfl hs hclos hkind hnames
    (wpAny_mono h (fun xv s₁ h₁ => ?_) fun _ _ e => e)) (fun _ s' hq => wpAny_pure (wpAny_pure hq)) fun _ _ e => e)
  obtain ⟨⟨m₁, hn₁⟩, ax, items, rfl, hl, hsz, hQ⟩ := h₁
  refine wpAny_pyIter_list hl ?_
  have hne : ax ≠ s₁.heap.objs.size := let ⟨_, e, _⟩ := hl; new_ne e
  have sb := Sub.push s₁.heap { cls := .type "list_iterator", data := .fields #[.ref ax, .int 0 0] }
  have hIt : (s₁.heap.push { cls := .type "list_iterator", data := .fields #[.ref ax, .int 0 0] }).get? s₁.heap.objs.size = some _ := Heap.get?_push_size _ rfl
  have hIt0 : s₁.heap.get? s₁.heap.objs.size = none := Heap.get?_none_of_le (Nat.le_refl _)
  have fr : ∀ {a : Addr}, (s₁.heap.push { cls := .type "list_iterator", data := .fields #[.ref ax, .int 0 0] }).get? a = none → s₁.heap.get? a = none ∧ s₁.heap.objs.size ≠ a := by
    intro a ha
    refine ⟨?_, by rintro rfl; rw [hIt] at ha; cases ha⟩
    cases q : s₁.heap.get? a with
    | none => rfl
    | some o => rw [sb _ _ q] at ha; cases ha
  have hLne : ∀ {a : Addr}, s₁.heap.get? a = none → env.locals ≠ a := by rintro a h rfl; obtain ⟨o, _, _, e, _⟩ := hn₁; rw [h] at e; cases e
  refine comp_block (RR := fun acc C => compPost (model prog w) A E (some (assign (.Name y py) env)) (fun _ s' => Q .next s') acc C) (Walks.list hh s₁.heap.objs.size ax hne items) hsz ⟨⟨_, hIt, rfl, rfl⟩, hl.push _⟩ ?_ hcell hkind (fun s v Q E i st hQ => ht A s v Q E _ ax i st.1 hQ) ?_
  · intro b hb
    simp only [List.mem_cons, List.not_mem_nil, or_false] at hb
    rcases hb with rfl | rfl
    · exact Heap.lt_size hIt
    · obtain ⟨o, e, _⟩ := hl; exact Heap.lt_size (sb _ _ e)
  · intro C D h₁ tk₁ hC hD hCD hsub
    obtain ⟨hC1, hC2⟩ := fr hC
    obtain ⟨hD1, hD2⟩ := fr hD
    obtain ⟨Inv, ok, fin⟩ := hQ _ C D h₁ tk₁ hIt0 hC1 hD1 hC2 hD2 hCD (sb.trans hsub)
    refine ⟨Inv, ok, fun ys s h' tk m' inv kb hn hl => ?_⟩
    obtain ⟨m, hm, hfin⟩ := fin ys s inv
    show wpAny _ A (assign (.Name y py) env (.ref D)) _ _ _
    refine wpAny_assign_Name (wpAny_storeName_local hy (hm.at' fun o e => kb _ o (hLne hIt0) e) (fun h₂ hn₂ hs₂ => ?_) hp)
    refine ⟨m', hn.sameBut hs₂ (hLne hC1).symm, fun h'' hs'' => ?_⟩
    refine hfin h'' _ ((hl.at fun o e => hs₂.extBut _ o (hLne hD1).symm e).at fun o e => hs''.extBut _ o hCD.symm e) (hn₂.sameBut hs'' (hLne hC1)) ?_
    exact ((KeepBut.toL kb).trans (KeepBut.toL (.of_same hs₂))).trans (KeepBut.toL (.of_same hs''))
end
end Mine
end

section
open PySem PySem.W PyProof.Rows PySem.Calls
namespace Mine
section
variable {prog : Program} {w : World} {A : Around} {E : Value → Shared → Prop} {s : Shared} {env : Env}
abbrev rangeSt (It : Addr) (n : Nat) : Nat → Heap → Prop := fun i h => IsRangeIter h It (0 + (i : Nat) * 1) ((n : Int) - (i : Nat)) 1
theorem comp_range {P : Pg} {elt target e : Expr} {ifs : List Expr} {scope : Scope} {cl : List (Str × Addr)} {p q pos : Pos} {Q : Value → Shared → Prop} {x : Str} {px : Pos} (hh : A.handled = none) (htg : target = .Name x px) (hb : Sub P.base s.heap)
    (hclos : closureFor scope env = pure cl)
    (h : wpAny (model prog w) A (eval e env) (fun xv s₁ => ∃ (n : Nat) (t : Tok), xv = .int n t ∧ n < 2 ^ 20 ∧
      ∀ It C D h₁ tk₁, s₁.heap.get? It = none → s₁.heap.get? C = none → s₁.heap.get? D = none → It ≠ C → It ≠ D → C ≠ D → Sub s₁.heap h₁ →
        ∃ Inv, CompOk prog w A env target elt ifs scope cl It n (fun i v => ∃ t, v = .int (0 + (i : Int)) t) (rangeSt It n) C D { s₁ with heap := h₁, toks := tk₁ } Inv ∧
          ∀ ys (s : Shared) h' tk, Inv n ys s → Lst h' D ys → KeepL [It, C] s.heap h' → Q (.ref D) { s with heap := h', toks := tk }) E s)
    (he : starEach [e] env = [(false, eval e env)] := by rfl)
    (hk : env.scope.kind = .function := by rfl) (hlk : env.kindOf "range" = some .globalImplicit := by rfl) (hg : env.globals = mainGlobals := by rfl) (hbn : env.builtins = builtinsNs := by rfl)
    (hcell : ∀ y ∈ scope.names, y.2 ≠ .cell := by decide) (hkind : scope.kind = .function := by rfl) (hnames : ∀ y ∈ scope.names, y.2 = .local → scope.names.lookup y.1 = some .local := by decide)
    (hs : ∀ x, foldedSetIterable (.Call (.Name "range" p) [e] [] q) env x = pure x := by intro _; rfl) :
    wpAny (model prog w) A (eval (.ListComp elt [⟨target, .Call (.Name "range" p) [e] [] q, ifs, 0⟩] scope pos) env) Q E s := by
  subst htg
  rw [eval_ListComp]
  refine wpAny_comprehension_free (use := none) rfl hs hclos hkind hnames ?_
  refine Call_ (ldB (P := P) (v := .type "range") hb PyProof.Rows.boot_range (callWith_type1 (args_cons (wpAny_mono h (fun x s₁ h₁ => args_nil ?_) fun _ _ x => x) he) he rfl) (by decide) hk hlk hg hbn)
  obtain ⟨n, t, rfl, hn, hQ⟩ := h₁
  refine call_range_1 ?_
  have hsm : Builtin.Range.small 0 n 1 = true := small_one (by decide) (by decide) (by omega) (by omega)
  refine wpAny_pyIter_range (IsRange.new _ _ _ _ _ _ _) hsm ?_
  have hrs : Builtin.Range.rangeSize 0 n 1 = n := by rw [rangeSize_one]; split <;> omega
  dsimp only
  rw [hrs, Heap.size_push]
  have sb : Sub s₁.heap ((s₁.heap.push { cls := Value.type "range", data := Data.fields #[Value.int 0 s₁.toks, Value.int (↑n) t, Value.int 1 (s₁.toks + 1)] }).push { cls := .type "range_iterator", data := .fields #[rawInt 0, rawInt n, rawInt 1] }) := (Sub.push _ _).trans (Sub.push _ _)
  have hIt := Heap.get?_push_size (s₁.heap.push { cls := Value.type "range", data := Data.fields #[Value.int 0 s₁.toks, Value.int (↑n) t, Value.int 1 (s₁.toks + 1)] }) (o := { cls := .type "range_iterator", data := .fields #[rawInt 0, rawInt n, rawInt 1] }) rfl
  rw [Heap.size_push] at hIt
  have hIt0 : s₁.heap.get? (s₁.heap.objs.size + 1) = none := Heap.get?_none_of_le (Nat.le_succ _)
  generalize hHH : (s₁.heap.push _).push _ = H at *
  have fr : ∀ {a : Addr}, H.get? a = none → s₁.heap.get? a = none ∧ s₁.heap.objs.size + 1 ≠ a := by
    intro a ha
    refine ⟨?_, by rintro rfl; rw [hIt] at ha; cases ha⟩
    cases q : s₁.heap.get? a with
    | none => rfl
    | some o => rw [sb _ _ q] at ha; cases ha
  clear hHH
  refine comp_block (RR := fun acc C => compPost (model prog w) A E none Q acc C) (LCg.range_walks hh 0 n) (by unfold sizeLine; omega) ?_ ?_ hcell hkind (fun s v Q E i st hQ => wpAny_pure hQ) ?_
  · simpa [IsRangeIter] using hIt
  · intro b hb
    simp only [List.mem_cons, List.not_mem_nil, or_false] at hb
    subst hb
    exact Heap.lt_size hIt
  · intro C D h₁ tk₁ hC hD hCD hsub
    obtain ⟨hC1, hC2⟩ := fr hC
    obtain ⟨hD1, hD2⟩ := fr hD
    obtain ⟨Inv, ok, fin⟩ := hQ _ C D h₁ tk₁ hIt0 hC1 hD1 hC2 hD2 hCD (sb.trans hsub)
    refine ⟨Inv, ok, fun ys s h' tk m' inv kb hn hl => ⟨m', hn, fun h'' hs'' => ?_⟩⟩
    exact fin ys s h'' tk inv (hl.at fun o e => hs''.extBut _ o hCD.symm e) ((KeepBut.toL kb).trans (KeepBut.toL (.of_same hs'')))
end
end Mine
end

section
open PySem PySem.W PyProof.Rows PySem.Calls
namespace Mine
/-- ints, one by one -/
def AllInt (vs : List Value) : Prop := ∃ ns, IntsAre vs ns
theorem AllInt.snoc {vs : List Value} {n : Int} {t : Tok} (x : AllInt vs) : AllInt (vs ++ [.int n t]) := let ⟨ns, h⟩ := x; ⟨ns ++ [n], h.append (.cons n t .nil)⟩
theorem ints_len {vs : List Value} {ns : List Int} (h : IntsAre vs ns) : vs.length = ns.length := by
  induction h with
  | nil => rfl
  | cons n t _ ih => simp [ih]
theorem ints_item {vs : List Value} {ns : List Int} (h : IntsAre vs ns) : ∀ (i : Nat) (v : Value), vs[i]? = some v → ∃ n t, v = .int n t := by
  induction h with
  | nil => intro i v e; simp at e
  | cons n t _ ih =>
    intro i v e
    cases i with
    | zero => simp at e; exact ⟨n, t, e.symm⟩
    | succ i => exact ih i v (by simpa using e)
theorem KeepL.news {l l' : List Addr} {h h' h'' : Heap} (x : KeepL l h h') (y : KeepL l' h' h'') (n : ∀ a ∈ l', a ∈ l ∨ h.get? a = none) : KeepL l h h'' := by
  intro b o hb e
  refine y b o (fun q => ?_) (x b o hb e)
  rcases n b q with r | r
  · exact hb r
  · rw [r] at e; cases e
/-- a number that stands in the text, wherever it stands -/
theorem cint {M : Model} {A : Around} {E : Value → Shared → Prop} {s : Shared} {env : Env} {i : Int} {Q : Value → Shared → Prop} (h : Q (.int i s.toks) { s with toks := s.toks + 1 }) : wpAny M A (eval (.Constant (.int i) 0 default) env) Q E s := wpAny_Constant_int h
theorem Sub.past {l : List Addr} {a b c : Heap} (x : Sub a b) (k : KeepL l b c) (n : ∀ y ∈ l, a.get? y = Option.none) : Sub a c := fun b o e => k b o (fun q => by rw [n b q] at e; cases e) (x b o e)
theorem state_call (P : Pg) {w : World} {A : Around} {E Q : Value → Shared → Prop} {s : Shared} {sc : Addr} {vs : List Value} {ns : List Int}
    (hd : A.depth + 1 < recursionLimit) (hA : A.handled = none) (hb : Sub P.base s.heap) (hs : s.heap.IsList sc vs.toArray) (hi : IntsAre vs ns) (hsz : vs.length ≤ 1000)
    (h : ∀ st nums ns' h' tk', StOk P st nums ns' → StAt h' st nums ns' 0 → s.heap.get? st = none → s.heap.get? nums = none → Sub s.heap h' → Q (.ref st) { s with heap := h', toks := tk' }) :
    wpAny (model pw w) A (call (.ref P.fs) [.ref sc]) Q E s := by
  obtain ⟨o, pm, cd, doc, ho, hdat, hcd⟩ := P.hfs.obj
  refine wpAny_call (call_plain_ret (Nat.lt_of_succ_lt hd) (hb _ _ ho) hdat (P.nolimit.keeps hb) (hcd.keeps hb) (binds := [(Str.ofString "script", .ref sc)]) rfl (locs rfl) (fun h₁ F => ?_))
  have hn₁ := F.ns
  have k₁ : Sub s.heap h₁ := F.keep
  have hLf : s.heap.get? s.heap.objs.size = none := Heap.get?_none_of_le (Nat.le_refl _)
  generalize s.heap.objs.size = L at *
  have hA' : (A.deeper (envOf (nameA 4) (scopeA 4) L P.fs cd)).handled = none := hA
  generalize (A.deeper (envOf (nameA 4) (scopeA 4) L P.fs cd)) = A' at *
  have hs₁ : h₁.IsList sc vs.toArray := isList_at hs fun o e => k₁ _ o e
  have hb₁ : Sub P.base h₁ := hb.trans k₁
  refine wpAny_execs_cons (wpAny_Return_some (List_ (spliced_cons (wpAny_BinOp (comp_list hA' target_name (by rfl) ?_)))))
  refine wpAny_Subscript_list_slice (ldV (m := fun x => List.lookup x [(Str.ofString "script", .ref sc)]) hn₁ rfl (wpAny_pure ?_))
  refine wpAny_Constant_int (k := 0) (pos := default) ?_
  refine ⟨sc, vs.toArray, none, some 24, rfl, hs₁, by simp; unfold sizeLine; omega, .none, .int 24 _, ?_⟩
  have hpick : IntsAre (slicePick vs.toArray none (some 24) none).toList (ns.take 24) := kmk_upto hi (by decide)
  generalize slicePick vs.toArray none (some 24) none = pk at *
  have hpl : pk.size ≤ 24 := by have := ints_len hpick; simp at this; omega
  have k₂ : Sub h₁ ((h₁.push { cls := .type "slice", data := .fields #[.none, .int 24 (s.toks + 1), .none] }).push { cls := .type "list", data := .seq pk }) := (Sub.push _ _).trans (Sub.push _ _)
  have hpl₂ : ((h₁.push { cls := .type "slice", data := .fields #[.none, .int 24 (s.toks + 1), .none] }).push { cls := .type "list", data := .seq pk }).IsList (h₁.objs.size + 1) pk := by
    refine ⟨{ cls := .type "list", data := .seq pk }, ?_, rfl, _, rfl⟩
    rw [← Heap.size_push h₁ { cls := .type "slice", data := .fields #[.none, .int 24 (s.toks + 1), .none] }]
    exact Heap.get?_push_size _ rfl
  refine ⟨h₁.objs.size + 1, pk, rfl, hpl₂, by unfold sizeLine; omega, fun It C D h₃ tk₃ hIt hC hD hIC hID hCD k₃ => ?_⟩
  dsimp only at hIt hC hD k₃ ⊢
  generalize (h₁.push _).push _ = h₂ at *
  refine ⟨fun i ys s' => (∃ h tk, s' = { s with heap := h, toks := tk } ∧ Sub h₂ h) ∧ AllInt ys ∧ ys.length = i, ⟨⟨⟨h₃, tk₃, rfl, k₃⟩, ⟨[], .nil⟩, rfl⟩, ?_⟩, ?_⟩
  · rintro i v ys s' h' tk m' hlt ⟨⟨h₄, tk₄, rfl, k₄⟩, hai, hlen⟩ hnC hlD hst hv kIt E'
    obtain ⟨n, t, rfl⟩ := ints_item hpick i v (by rw [← hv]; simp)
    have k₅ : Sub h₂ h' := fun b o e => kIt b o (by rintro rfl; rw [hIt] at e; cases e) (k₄ b o e)
    refine wpAny_assign_Name (wpAny_storeName_local (by rfl) hnC (fun h₆ hn₆ s₆ => ?_) (by rfl))
    replace s₆ : Heap.SameBut C h' h₆ := s₆
    replace hn₆ : h₆.Ns C _ := hn₆
    have k₆ : Sub h₂ h₆ := fun b o e => s₆.extBut b o (by rintro rfl; rw [hC] at e; cases e) (k₅ b o e)
    refine wpAny_tests_nil ?_
    rw [if_pos rfl]
    refine wpAny_BinOp (callB1 (P := P) (hb₁.trans (k₂.trans k₆)) PyProof.Rows.boot_abs (ldV hn₆ (if_pos rfl) (call_abs_int fun u tk' => ?_)))
    refine wpAny_Constant_int (mod_int (by decide) ?_)
    refine ⟨⟨hst.1.at fun o e => s₆.extBut _ o hIC e, isList_at hst.2 fun o e => s₆.extBut _ o ?_ e⟩, hlD.at fun o e => s₆.extBut _ o hCD.symm e, ⟨_, hn₆⟩, fun h'' tk'' kD => ⟨⟨h'', _, rfl, fun b o e => kD b o (by rintro rfl; rw [hD] at e; cases e) (k₆ b o e)⟩, hai.snoc, by simp [hlen]⟩⟩
    rintro rfl
    obtain ⟨_, e, _⟩ := hpl₂; rw [hC] at e; cases e
  · rintro ys s' h' tk ⟨⟨h₄, tk₄, rfl, k₄⟩, hai, hlen⟩ hlD kk
    have k₅ : Sub h₂ h' := k₄.past kk (by simp [hIt, hC])
    refine List_ (spliced_cons (cint (spliced_cons (cint (spliced_cons (cint (spliced_nil (wpAny_newObj_type ?_))))))))
    dsimp only
    obtain ⟨nD, eD⟩ := hlD
    refine PySem.P.add_list (items := ys.toArray) (n := nD) (items2 := #[.int 5 tk, .int 0 (tk + 1), .int 11 (tk + 1 + 1)]) (n2 := 0) (Heap.get?_push_of_some _ eD) (Heap.get?_push_size _ rfl) ?_ (by simp [hlen]; unfold sizeLine; omega)
    dsimp only
    refine spliced_cons (cint (env := envOf (nameA 4) (scopeA 4) L P.fs cd) (spliced_nil (wpAny_newObj_type ?_)))
    obtain ⟨nsy, hny⟩ := hai
    have hlen' := ints_len hny
    have k₇ : Sub s.heap ((h'.push { cls := .type "list", data := .seq #[.int 5 tk, .int 0 (tk + 1), .int 11 (tk + 1 + 1)] }).push { cls := .type "list", data := .seq (ys.toArray ++ #[.int 5 tk, .int 0 (tk + 1), .int 11 (tk + 1 + 1)]) }) := ((k₁.trans (k₂.trans k₅)).trans (Sub.push _ _)).trans (Sub.push _ _)
    have hx : ∀ a, h'.objs.size ≤ a → s.heap.get? a = none := by
      intro a ha
      cases q : s.heap.get? a with
      | none => rfl
      | some o => have := Heap.lt_size (k₅ _ _ (k₂ _ _ (k₁ _ _ q))); exact absurd this (Nat.not_lt.2 ha)
    have hz1 : (h'.push { cls := .type "list", data := .seq #[.int 5 tk, .int 0 (tk + 1), .int 11 (tk + 1 + 1)] }).objs.size = h'.objs.size + 1 := Heap.size_push _ _
    have hz2 : ((h'.push { cls := .type "list", data := .seq #[.int 5 tk, .int 0 (tk + 1), .int 11 (tk + 1 + 1)] }).push { cls := .type "list", data := .seq (ys.toArray ++ #[.int 5 tk, .int 0 (tk + 1), .int 11 (tk + 1 + 1)]) }).objs.size = h'.objs.size + 1 + 1 := by rw [Heap.size_push, hz1]
    have e1 := Heap.get?_push_size (h'.push { cls := .type "list", data := .seq #[.int 5 tk, .int 0 (tk + 1), .int 11 (tk + 1 + 1)] }) (o := { cls := .type "list", data := .seq (ys.toArray ++ #[.int 5 tk, .int 0 (tk + 1), .int 11 (tk + 1 + 1)]) }) rfl
    rw [hz1] at e1
    rw [hz1]
    have hx1 := hx (h'.objs.size + 1) (Nat.le_succ _)
    have hx2 := hx (h'.objs.size + 1 + 1) (Nat.le_trans (Nat.le_succ _) (Nat.le_succ _))
    have e2 := Heap.get?_push_size ((h'.push { cls := .type "list", data := .seq #[.int 5 tk, .int 0 (tk + 1), .int 11 (tk + 1 + 1)] }).push { cls := .type "list", data := .seq (ys.toArray ++ #[.int 5 tk, .int 0 (tk + 1), .int 11 (tk + 1 + 1)]) }) (o := { cls := .type "list", data := .seq [.ref (h'.objs.size + 1), .int 0 (tk + 1 + 1 + 1)].toArray }) rfl
    rw [hz2] at e2 ⊢
    refine h _ (h'.objs.size + 1) (nsy ++ [5, 0, 11]) _ _ ⟨Nat.succ_ne_self _, ?_, by simp, by simp; omega⟩ ⟨⟨tk + 1 + 1 + 1, ⟨_, e2, rfl, _, rfl⟩⟩, ⟨ys ++ [.int 5 tk, .int 0 (tk + 1), .int 11 (tk + 1 + 1)], ⟨_, Heap.get?_push_of_some _ e1, rfl, 0, by simp⟩, hny.append (.cons _ _ (.cons _ _ (.cons _ _ .nil)))⟩, by decide⟩ hx2 hx1 (k₇.trans (Sub.push _ _))
    cases q : P.base.get? (h'.objs.size + 1 + 1) with
    | none => rfl
    | some o => have := hb _ _ q; rw [hx2] at this; cases this
end Mine
end

section
open PySem PySem.W PyProof.Rows PySem.Calls PySem.SeqAt
namespace Mine
def NotTup (h : Heap) (a : Addr) : Prop := ∀ items n, h.get? a ≠ some { cls := .type "tuple", data := .seq items n }
theorem NotTup.ns {h : Heap} {L : Addr} {m : Str → Option Value} (x : h.Ns L m) : NotTup h L := by
  intro items n q; obtain ⟨o, es, ep, e, d, _⟩ := x; rw [q] at e; cases e; cases d
theorem NotTup.cell {h : Heap} {c : Addr} {v : Option Value} (x : h.IsCell c v) : NotTup h c := by
  intro items n q; obtain ⟨o, e, d⟩ := x; rw [q] at e; cases e; cases d
theorem NotTup.iter {h : Heap} {it l : Addr} {i : Nat} (x : h.IsListIter it l i) : NotTup h it := by
  intro items n q; obtain ⟨o, e, c, d⟩ := x; rw [q] at e; cases e; cases d
theorem NotTup.range {h : Heap} {it : Addr} {a b c : Int} (x : IsRangeIter h it a b c) : NotTup h it := by
  intro items n q
  have x' : h.get? it = some _ := x
  have := congrArg (Option.map Obj.cls) (x'.symm.trans q)
  simp at this
theorem NotTup.lst {h : Heap} {a : Addr} {vs : List Value} (x : Lst h a vs) : NotTup h a := by
  intro items n q; obtain ⟨k, e⟩ := x; rw [q] at e
  have := congrArg (Option.map Obj.cls) e
  simp at this
theorem NotTup.new {h : Heap} {a : Addr} (x : h.get? a = none) : NotTup h a := by intro items n q; rw [x] at q; cases q
/-- a pair of kind and letters -/
def P2At (h : Heap) (v : Value) (kv : Str × List Nat) : Prop := ∃ a n t1 t2, v = .ref a ∧ h.get? a = some { cls := .type "tuple", data := .seq #[.str kv.1 t1, .str (S kv.2) t2] n }
theorem P2At.keepL {l : List Addr} {h h' : Heap} {v : Value} {kv : Str × List Nat} (x : P2At h v kv) (k : KeepL l h h') (n : ∀ a ∈ l, NotTup h a) : P2At h' v kv := by
  obtain ⟨a, m, t1, t2, rfl, e⟩ := x
  exact ⟨a, m, t1, t2, rfl, k a _ (fun q => n a q _ _ e) e⟩
theorem P2At.sub {h h' : Heap} {v : Value} {kv : Str × List Nat} (x : P2At h v kv) (k : Sub h h') : P2At h' v kv := x.keepL (l := []) k.toL (by simp)
theorem TokI.keepL {l : List Addr} {h h' : Heap} {v : Value} {t : T3} (x : TokI h.get? v t) (k : KeepL l h h') (n : ∀ a ∈ l, NotTup h a) : TokI h'.get? v t := by
  obtain ⟨a, m, t1, t2, t3, rfl, e⟩ := x
  exact ⟨a, m, t1, t2, t3, rfl, k a _ (fun q => n a q _ _ e) e⟩
section
variable {prog : Program} {w : World} {A : Around} {E : Value → Shared → Prop} {s : Shared} {env : Env}
/-- l != [] -/
theorem ne_nil {Q : Value → Shared → Prop} {l b : Addr} {items : Array Value} (hu : A.units < cLine) (hl : s.heap.IsList l items) (hb : s.heap.IsList b #[]) (h : Q (.bool (!(items.size == 0))) s) :
    wpAny (model prog w) A (compareOp .NotEq (.ref l) (.ref b)) Q E s := by
  by_cases hz : items.size = 0
  · have := RcNeAt.lists (A := A) (s := s) (e := fun _ => true) hl hb hz hu (fun j h1 h2 => by omega) prog w E Q
    refine this ?_
    simpa [hz] using h
  · refine RcNeAt.lists_lengths (A := A) (s := s) hl hb (by simpa using hz) hu prog w E Q ?_
    have : (items.size == 0) = false := by simpa using hz
    rw [this] at h; exact h
theorem eq_nil {Q : Value → Shared → Prop} {l b : Addr} {items : Array Value} (hu : A.units < cLine) (hl : s.heap.IsList l items) (hb : s.heap.IsList b #[]) (h : Q (.bool (items.size == 0)) s) :
    wpAny (model prog w) A (compareOp .Eq (.ref l) (.ref b)) Q E s := by
  by_cases hz : items.size = 0
  · have := RcAt.lists (A := A) (s := s) (e := fun _ => true) hl hb hz hu (fun j h1 h2 => by omega) prog w E Q
    refine this ?_
    simpa [hz] using h
  · refine RcAt.lists_lengths (A := A) (s := s) hl hb (by simpa using hz) hu prog w E Q ?_
    have : (items.size == 0) = false := by simpa using hz
    rw [this] at h; exact h
/-- a name of a cell's -/
theorem ldK {x : Str} {pos : Pos} {v : Value} {c : Addr} {Q : Value → Shared → Prop} (hv : s.heap.IsCell c (some v)) (h : Q v s) (hc : env.cells.lookup x = some c := by rfl) (hk : env.scope.kind = .function := by rfl) (hl : env.kindOf x = some .cell := by rfl) (hd : (x == ("__debug__" : Str)) = false := by decide) :
    wpAny (model prog w) A (eval (.Name x pos) env) Q E s := wpAny_Name (wpAny_loadName_cell hk hl hc hv h) hd
theorem stK {x : Str} {v : Value} {c : Addr} {v₀ : Option Value} {Q : Unit → Shared → Prop} (hv : s.heap.IsCell c v₀) (h : ∀ h', h'.IsCell c (some v) → KeepBut c s.heap h' → Q () { s with heap := h' }) (hc : env.cells.lookup x = some c := by rfl) (hk : env.scope.kind = .function := by rfl) (hl : env.kindOf x = some .cell := by rfl) :
    wpAny (model prog w) A (storeName env x v) Q E s := wpAny_storeName_cell hk hl hc hv fun h' hc' hs' => h h' hc' (.of_same hs')
end
theorem IsCell.at' {h h' : Heap} {c : Addr} {v : Option Value} (x : h.IsCell c v) (k : ∀ o, h.get? c = some o → h'.get? c = some o) : h'.IsCell c v := let ⟨o, e, d⟩ := x; ⟨o, k o e, d⟩
end Mine
end

section
open PySem PySem.W PyProof.Rows PySem.Calls PySem.SeqAt
namespace Mine
def pairsOf (ts : List T3) : List (Str × List Nat) := ts.map fun t => (t.k, t.v)
/-- a pair of kind and letters, none of these -/
def P2X (X : List Addr) (h : Heap) (v : Value) (kv : Str × List Nat) : Prop := ∃ a n t1 t2, a ∉ X ∧ v = .ref a ∧ h.get? a = some { cls := .type "tuple", data := .seq #[.str kv.1 t1, .str (S kv.2) t2] n }
theorem P2X.keepL {X l : List Addr} {h h' : Heap} {v : Value} {kv : Str × List Nat} (x : P2X X h v kv) (k : KeepL l h h') (n : ∀ a ∈ l, a ∈ X) : P2X X h' v kv := by
  obtain ⟨a, m, t1, t2, hx, rfl, e⟩ := x
  exact ⟨a, m, t1, t2, hx, rfl, k a _ (fun q => hx (n a q)) e⟩
theorem P2X.at' {X : List Addr} {h : Heap} {v : Value} {kv : Str × List Nat} (x : P2X X h v kv) : P2At h v kv := let ⟨a, m, t1, t2, _, e, e'⟩ := x; ⟨a, m, t1, t2, e, e'⟩
theorem take_succ_of {α : Type} {l : List α} {i : Nat} {x : α} (h : l[i]? = some x) : l.take (i + 1) = l.take i ++ [x] := by rw [List.take_add_one, h]; rfl
/-- a token's part -/
theorem tup_item {prog : Program} {w : World} {A : Around} {E : Value → Shared → Prop} {s : Shared} {value slice : Expr} {a : Addr} {items : Array Value} {k : Nat} {u : Tok} {x : Value} {Q : Value → Shared → Prop} (ht : s.heap.IsTuple a items) (hk : k < 100) (hx : items[k]? = some x) (h : Q x s)
    (hs : subscripted slice false (.ref a) (.int k u) = operate [.ref a, .int k u] (getItem (.ref a) (.int k u)) := by with_unfolding_all rfl) :
    wpAny (model prog w) A (subscriptTail value slice (.ref a) (.int k u)) Q E s :=
  tail_any (T := "tuple") (id := "tuple.__getitem__") (ops := [.ref a, .int k u]) (let ⟨o, e, c, _⟩ := ht; ⟨o, e, c⟩) PyProof.Rows.slot_tuple_getitem.lookup (PyProof.Rows.getItem_tuple ht (by omega) (by omega) (j := k) (by
    have : k < items.size := (Array.getElem?_eq_some_iff.1 hx).1
    unfold seqIndex?; simp; omega) hx h) hs
section
variable {P : Pg} {w : World} {A : Around} {E : Value → Shared → Prop} {s : Shared}
abbrev wenv (P : Pg) (L : Addr) (cd : Value) : Env := envOfC (nameA 6) (scopeA 6) L P.fw cd
theorem pairs_comp {Q : Value → Shared → Prop} {L : Addr} {cd u : Value} {I : PM} {m : Str → Option Value} {ts : List T3} {cscope : Scope} {cl : List (Str × Addr)} {p1 p2 p3 p4 p5 p6 p7 p8 p9 pos : Pos} {k : Nat}
    (hA : A.handled = none) (FI : Frz I s.heap) (hn : s.heap.Ns L m) (hm : m "items" = some u) (hT : ToksI I u ts) (hlen : ts.length ≤ 1000)
    (hQ : ∀ D ys h' tk, s.heap.get? D = none → Sub s.heap h' → Lst h' D ys → Paired (P2At h') ys (pairsOf ts) → Q (.ref D) { s with heap := h', toks := tk })
    (hclos : closureFor cscope (wenv P L cd) = pure cl) (hx : ∀ C, (compEnvC cscope cl C (wenv P L cd)).kindOf "item" = some .local) 
    (hcell : ∀ y ∈ cscope.names, y.2 ≠ .cell) (hkind : cscope.kind = .function) (hnames : ∀ y ∈ cscope.names, y.2 = .local → cscope.names.lookup y.1 = some .local) :
    wpAny (model pw w) A (eval (.ListComp (.Tuple [.Subscript (.Name "item" p1) (.Constant (.int 1) 0 p2) p3, .Subscript (.Name "item" p4) (.Constant (.int 2) 0 p5) p6] k p7) [⟨.Name "item" p8, .Name "items" p9, [], 0⟩] cscope pos) (wenv P L cd)) Q E s := by
  obtain ⟨a, vs, rfl, hL, hp⟩ := hT.lst
  refine comp_list hA target_name hclos (ldV (env := wenv P L cd) hn hm ⟨a, vs.toArray, rfl, hL.is FI, by simp [hp.length]; unfold sizeLine; omega, fun It C D h₁ tk₁ hIt hC hD hIC hID hCD k₁ => ?_⟩) hcell hkind hnames
  refine ⟨fun i ys s' => (∃ h tk, s' = { s with heap := h, toks := tk } ∧ Sub s.heap h) ∧ Paired (P2X [It, C, D] s'.heap) ys (pairsOf (ts.take i)), ⟨⟨⟨h₁, tk₁, rfl, k₁⟩, .nil⟩, ?_⟩, ?_⟩
  · rintro i v ys s' h' tk m' hlt ⟨⟨h₂, tk₂, rfl, k₂⟩, hpy⟩ hnC hlD hst hv kIt E'
    have hv' : vs[i]? = some v := by simpa using hv
    obtain ⟨t, ht, ti⟩ : ∃ t, ts[i]? = some t ∧ TokI I v t := by
      have hl := hp.length
      have hi : i < ts.length := by simp at hlt; omega
      obtain ⟨v', e, q⟩ := paired_at hp (List.getElem?_eq_getElem hi)
      rw [hv'] at e; cases e
      exact ⟨_, List.getElem?_eq_getElem hi, q⟩
    have k₃ : Sub s.heap h' := k₂.past (KeepBut.toL (l := [It]) kIt) (by simp [hIt])
    refine wpAny_assign_Name (wpAny_storeName_local (hx C) hnC (fun h₄ hn₄ s₄ => ?_) (by show (cscope.kind == .class || (cscope.kind == .module && _)) = false; rw [hkind]; rfl))
    replace s₄ : Heap.SameBut C h' h₄ := s₄
    replace hn₄ : h₄.Ns C _ := hn₄
    have k₄ : Sub s.heap h₄ := k₃.past (same_one s₄) (by simp [hC])
    refine wpAny_tests_nil ?_
    rw [if_pos rfl]
    obtain ⟨ta, u1, u2, u3, rfl, _, htup⟩ := ti.tuple (FI.sub k₄)
    refine Tuple_ (spliced_cons (Subscript_ (ldV hn₄ (if_pos rfl) (wpAny_Constant_int (tup_item (k := 1) (x := .str t.k u2) htup (by omega) rfl ?_)) (by exact hkind) (hx C))))
    refine spliced_cons (Subscript_ (ldV hn₄ (if_pos rfl) (wpAny_Constant_int (tup_item (k := 2) (x := .str (S t.v) u3) htup (by omega) rfl ?_)) (by exact hkind) (hx C)))
    refine spliced_nil (wpAny_newObj_type ?_)
    have hstI := hst.1.at (h' := h₄) fun o e => s₄.extBut _ o hIC e
    have hstL := isList_at (h' := h₄) hst.2 fun o e => s₄.extBut _ o (by rintro rfl; obtain ⟨_, e', _⟩ := hL.is FI; rw [hC] at e'; cases e') e
    have hlD₄ : Lst h₄ D ys := hlD.at fun o e => s₄.extBut _ o hCD.symm e
    have hpy₄ : Paired (P2X [It, C, D] h₄) ys (pairsOf (ts.take i)) := paired_mono (fun _ _ q => (P2X.keepL q (KeepBut.toL (l := [It]) kIt) (by simp)).keepL (same_one s₄) (by simp)) hpy
    have sb := Sub.push h₄ { cls := .type "tuple", data := .seq [.str t.k u2, .str (S t.v) u3].toArray }
    have eT := Heap.get?_push_size h₄ (o := { cls := .type "tuple", data := .seq [.str t.k u2, .str (S t.v) u3].toArray }) rfl
    have hf : h₄.objs.size ∉ [It, C, D] := by
      simp only [List.mem_cons, List.not_mem_nil, or_false, not_or]
      refine ⟨?_, ?_, ?_⟩
      · rintro q; obtain ⟨o, e, _⟩ := hstI; exact new_ne e q.symm
      · rintro q; obtain ⟨o, _, _, e, _⟩ := hn₄; exact new_ne e q.symm
      · rintro q; obtain ⟨_, e⟩ := hlD₄; exact new_ne e q.symm
    dsimp only
    generalize h₄.objs.size = na at *
    generalize h₄.push _ = h₅ at *
    refine ⟨⟨hstI.at fun o e => sb _ o e, isList_at hstL fun o e => sb _ o e⟩, hlD₄.at fun o e => sb _ o e, ⟨_, hn₄.keeps sb⟩, fun h'' tk'' kD => ⟨⟨h'', _, rfl, (k₄.trans sb).past (KeepBut.toL (l := [D]) kD) (by simp [hD])⟩, ?_⟩⟩
    rw [take_succ_of ht]
    simp only [pairsOf, List.map_append, List.map_cons, List.map_nil]
    refine paired_snoc (paired_mono (fun _ _ q => (P2X.keepL q sb.toL (l := [D]) (by simp)).keepL (KeepBut.toL (l := [D]) kD) (by simp)) hpy₄) ?_
    exact ⟨na, _, u2, u3, hf, rfl, kD _ _ (by rintro rfl; exact hf (by simp)) eT⟩
  · rintro ys s' h' tk ⟨⟨h₂, tk₂, rfl, k₂⟩, hpy⟩ hlD kk
    have hl := hp.length
    rw [List.take_of_length_le (by simp; omega)] at hpy
    exact hQ D ys h' tk hD (k₂.past kk (by simp [hIt, hC])) hlD (paired_mono (fun _ _ q => (P2X.keepL q kk (by simp)).at') hpy)
end
end Mine
end

section
open PySem PySem.W PyProof.Rows PySem.Calls PySem.SeqAt
namespace Mine
section
variable {P : Pg} {w : World} {A : Around} {E : Value → Shared → Prop} {s : Shared} {env : Env}
theorem sum_of {vs : List Value} {ns : List Int} {l : Addr} {Q : Value → Shared → Prop} (hh : A.handled = none) (hl : s.heap.IsList l vs.toArray) (hi : IntsAre vs ns)
    (h : ∀ h' tk t', Sub s.heap h' → Q (.int ns.sum t') { s with heap := h', toks := tk }) : wpAny (model pw w) A (call (.builtin "sum") [.ref l]) Q E s := by
  obtain ⟨xs, hx⟩ := hi.allInts.items
  have hl' : s.heap.IsList l (intItems xs) := hx ▸ hl
  refine sum_intListG hh hl' fun h' tk t' hk => ?_
  have e1 : ns = xs.toList.map (·.1) := by
    rw [← nums_intItems, ← hx]
    exact (show numsOf vs.toArray.toList = ns from hi.numsOf).symm
  have e2 : preSum (numAt xs) xs.size = ns.sum := by
    rw [preSum_eq, List.take_of_length_le (by simp), e1]
  rw [e2]
  exact h h' tk t' hk
theorem tot_eq (ts : List T3) : ((ts.map fun t => ((t.v.length : Nat) : Int)).sum) = (tot ts : Int) := by
  induction ts with
  | nil => rfl
  | cons t r ih => simp only [List.map_cons, List.sum_cons, ih]; simp [tot]
theorem lens_sum {Q : Value → Shared → Prop} {u : Value} {I : PM} {m : Str → Option Value} {ts : List T3} {cscope : Scope} {cl : List (Str × Addr)} {p1 p2 p3 p4 p5 p6 p7 p8 pos pos' : Pos}
    (hA : A.handled = none) (hb : Sub P.base s.heap) (FI : Frz I s.heap) (hn : s.heap.Ns env.locals m) (hm : m "tokens" = some u) (hT : ToksI I u ts) (hlen : ts.length ≤ 1000) (hv : ∀ t ∈ ts, t.v.length ≤ 4)
    (hQ : ∀ h' tk t, Sub s.heap h' → Q (.int (tot ts) t) { s with heap := h', toks := tk })
    (hclos : closureFor cscope env = pure cl) (hx : ∀ C, (compEnvC cscope cl C env).kindOf "token" = some .local) (hlen' : ∀ C, (compEnvC cscope cl C env).kindOf "len" = some .globalImplicit)
    (hcell : ∀ y ∈ cscope.names, y.2 ≠ .cell) (hkind : cscope.kind = .function) (hnames : ∀ y ∈ cscope.names, y.2 = .local → cscope.names.lookup y.1 = some .local)
    (hst : starEach [.ListComp (.Call (.Name "len" p1) [.Subscript (.Name "token" p2) (.Constant (.int 2) 0 p3) p4] [] p5) [⟨.Name "token" p6, .Name "tokens" p7, [], 0⟩] cscope pos] env = [(false, eval (.ListComp (.Call (.Name "len" p1) [.Subscript (.Name "token" p2) (.Constant (.int 2) 0 p3) p4] [] p5) [⟨.Name "token" p6, .Name "tokens" p7, [], 0⟩] cscope pos) env)])
    (hk : env.scope.kind = .function) (hl : env.kindOf "tokens" = some .local) (hl2 : env.kindOf "sum" = some .globalImplicit) (hg : env.globals = mainGlobals) (hbn : env.builtins = builtinsNs) :
    wpAny (model pw w) A (eval (.Call (.Name "sum" p8) [.ListComp (.Call (.Name "len" p1) [.Subscript (.Name "token" p2) (.Constant (.int 2) 0 p3) p4] [] p5) [⟨.Name "token" p6, .Name "tokens" p7, [], 0⟩] cscope pos] [] pos') env) Q E s := by
  obtain ⟨a, vs, rfl, hL, hp⟩ := hT.lst
  refine callB1 (P := P) hb PyProof.Rows.boot_sum ?_ (by decide) hst hk hl2 hg hbn
  refine comp_list hA target_name hclos (ldV hn hm ⟨a, vs.toArray, rfl, hL.is FI, by simp [hp.length]; unfold sizeLine; omega, fun It C D h₁ tk₁ hIt hC hD hIC hID hCD k₁ => ?_⟩ hk hl) hcell hkind hnames
  refine ⟨fun i ys s' => (∃ h tk, s' = { s with heap := h, toks := tk } ∧ Sub s.heap h) ∧ IntsAre ys ((ts.take i).map fun t => ((t.v.length : Nat) : Int)), ⟨⟨⟨h₁, tk₁, rfl, k₁⟩, .nil⟩, ?_⟩, ?_⟩
  · rintro i v ys s' h' tk m' hlt ⟨⟨h₂, tk₂, rfl, k₂⟩, hpy⟩ hnC hlD hst hv₀ kIt E'
    have hv' : vs[i]? = some v := by simpa using hv₀
    obtain ⟨t, ht, ti⟩ : ∃ t, ts[i]? = some t ∧ TokI I v t := by
      have hl := hp.length
      have hi : i < ts.length := by simp at hlt; omega
      obtain ⟨v', e, q⟩ := paired_at hp (List.getElem?_eq_getElem hi)
      rw [hv'] at e; cases e
      exact ⟨_, List.getElem?_eq_getElem hi, q⟩
    have hv4 := hv t (List.mem_of_getElem? ht)
    have k₃ : Sub s.heap h' := k₂.past (KeepBut.toL (l := [It]) kIt) (by simp [hIt])
    refine wpAny_assign_Name (wpAny_storeName_local (hx C) hnC (fun h₄ hn₄ s₄ => ?_) (by show (cscope.kind == .class || (cscope.kind == .module && _)) = false; rw [hkind]; rfl))
    replace s₄ : Heap.SameBut C h' h₄ := s₄
    replace hn₄ : h₄.Ns C _ := hn₄
    have k₄ : Sub s.heap h₄ := k₃.past (same_one s₄) (by simp [hC])
    refine wpAny_tests_nil ?_
    rw [if_pos rfl]
    obtain ⟨ta, u1, u2, u3, rfl, _, htup⟩ := ti.tuple (FI.sub k₄)
    refine callB1 (P := P) (hb.trans k₄) PyProof.Rows.Boot.«len» (Subscript_ (ldV hn₄ (if_pos rfl) (wpAny_Constant_int (tup_item (k := 2) (x := .str (S t.v) u3) htup (by omega) rfl (PySem.P.len_str (by rw [S_len]; omega) ?_))) (by exact hkind) (hx C))) (by decide) (by rfl) (by exact hkind) (hlen' C) hg hbn
    rw [S_len]
    refine ⟨⟨hst.1.at fun o e => s₄.extBut _ o hIC e, isList_at hst.2 fun o e => s₄.extBut _ o (by rintro rfl; obtain ⟨_, e', _⟩ := hL.is FI; rw [hC] at e'; cases e') e⟩, hlD.at fun o e => s₄.extBut _ o hCD.symm e, ⟨_, hn₄⟩, fun h'' tk'' kD => ⟨⟨h'', _, rfl, k₄.past (KeepBut.toL (l := [D]) kD) (by simp [hD])⟩, ?_⟩⟩
    rw [take_succ_of ht, List.map_append]
    exact hpy.append (.cons _ _ .nil)
  · rintro ys s' h' tk ⟨⟨h₂, tk₂, rfl, k₂⟩, hpy⟩ hlD kk
    have hl := hp.length
    rw [List.take_of_length_le (by simp; omega)] at hpy
    refine sum_of hA hlD.isList hpy fun h'' tk' t' k'' => ?_
    rw [tot_eq]
    exact hQ h'' tk' t' ((k₂.past kk (by simp [hIt, hC])).trans k'')
end
end Mine
end

section
open PySem PySem.W PyProof.Rows PySem.Calls PySem.SeqAt
namespace Mine
def hereOf (ins : List T2) (x : Int) : List T2 := ins.filter fun q => q.at' == x
def wFor : Stmt := stmtA 6 2
def wAt : Stmt := nth (loopBody wFor) 1 (.Pass default)
def wHere : Stmt := nth (loopBody wAt) 0 (.Pass default)
section
variable {P : Pg} {w : World} {A : Around} {E : Value → Shared → Prop} {s : Shared}
theorem here_comp {Q : Flow → Shared → Prop} {L : Addr} {cd u : Value} {I : PM} {m : Str → Option Value} {ins : List T2} {pl at_ : Int} {t1 t2 : Tok}
    (hA : A.handled = none) (FI : Frz I s.heap) (IL : I L = none) (hn : s.heap.Ns L m) (hm : m "insertions" = some (.ref u')) (hI : LstI I u' ivs) (hp : Paired (InsI I) ivs ins) (hlen : ins.length ≤ 1000)
    (hcp : s.heap.IsCell (L + 1) (some (.int pl t1))) (hca : s.heap.IsCell (L + 2) (some (.int at_ t2)))
    (hQ : ∀ D ys h' tk, s.heap.get? D = none → KeepL [L] s.heap h' → Lst h' D ys → Paired (fun v (q : T2) => ToksI I v q.ts) ys (hereOf ins (pl + at_)) → h'.Ns L (fun z => if z = "here" then some (.ref D) else m z) → Q .next { s with heap := h', toks := tk }) :
    wpAny (model pw w) A (exec wHere (wenv P L cd)) Q E s := by
  have hcL : ∀ {c v}, s.heap.IsCell c v → c ≠ L := by
    rintro c v ⟨o, e, d⟩ rfl; obtain ⟨o', es, ep, e', d', _⟩ := hn; rw [e] at e'; cases e'; rw [d] at d'; cases d'
  refine assign_comp_list (env := wenv P L cd) hA target_tuple (by rfl) ⟨m, hn⟩ (ldV (env := wenv P L cd) hn hm ⟨⟨m, hn⟩, u', ivs.toArray, rfl, hI.is FI, by simp [hp.length]; unfold sizeLine; omega, fun It C D h₁ tk₁ hIt hC hD hIC hID hCD k₁ => ?_⟩)
  refine ⟨fun i ys s' => (∃ h tk, s' = { s with heap := h, toks := tk } ∧ Sub s.heap h) ∧ Paired (fun v (q : T2) => ToksI I v q.ts) ys (hereOf (ins.take i) (pl + at_)), ⟨⟨⟨h₁, tk₁, rfl, k₁⟩, .nil⟩, ?_⟩, ?_⟩
  · rintro i v ys s' h' tk m' hlt ⟨⟨h₂, tk₂, rfl, k₂⟩, hpy⟩ hnC hlD hst hv₀ kIt E'
    have hv' : ivs[i]? = some v := by simpa using hv₀
    obtain ⟨q, hq, qi⟩ : ∃ t, ins[i]? = some t ∧ InsI I v t := by
      have hl := hp.length
      have hi : i < ins.length := by simp at hlt; omega
      obtain ⟨v', e, q⟩ := paired_at hp (List.getElem?_eq_getElem hi)
      rw [hv'] at e; cases e
      exact ⟨_, List.getElem?_eq_getElem hi, q⟩
    have k₃ : Sub s.heap h' := k₂.past (KeepBut.toL (l := [It]) kIt) (by simp [hIt])
    obtain ⟨a, nn, u1, u2, rfl, e2, e3⟩ := qi
    have ht : h'.IsTuple a #[.int q.at' u1, u2] := ⟨_, (FI.sub k₃ _ _ e2).1, rfl, _, rfl⟩
    refine assign2 hA ht hnC (fun h₄ tk₄ hn₄ k₄' => ?_) (by rfl) (by rfl) (by rfl)
    replace k₄' : KeepBut C h' h₄ := k₄'
    replace hn₄ : h₄.Ns C _ := hn₄
    have k₄ : Sub s.heap h₄ := k₃.past (KeepBut.toL (l := [C]) k₄') (by simp [hC])
    have hst₄ : listSt It u' ivs.toArray (i + 1) h₄ := ⟨hst.1.at fun o e => k₄' _ o hIC e, isList_at hst.2 fun o e => k₄' _ o (by rintro rfl; obtain ⟨_, e', _⟩ := hI.is FI; rw [hC] at e'; cases e') e⟩
    have hlD₄ : Lst h₄ D ys := hlD.at fun o e => k₄' _ o hCD.symm e
    refine wpAny_tests_one (wpAny_isTrue_Compare1 (ldV hn₄ rfl (wpAny_BinOp (ldK (c := L + 1) (hcp.keeps k₄) (ldK (c := L + 2) (hca.keeps k₄) (add_int (eq_int (wpAny_truthy_bool ?_))))))))
    by_cases hqe : q.at' = pl + at_
    · rw [if_pos (by simpa using hqe)]
      refine ldV hn₄ rfl ?_
      refine ⟨hst₄, hlD₄, ⟨_, hn₄⟩, fun h'' tk'' kD => ⟨⟨h'', _, rfl, k₄.past (KeepBut.toL (l := [D]) kD) (by simp [hD])⟩, ?_⟩⟩
      rw [take_succ_of hq, hereOf, List.filter_append]
      have : List.filter (fun q => q.at' == pl + at_) [q] = [q] := by simp [hqe]
      rw [this]
      exact paired_snoc hpy e3
    · rw [if_neg (by simpa using hqe)]
      refine ⟨hst₄, hlD₄, ⟨_, hn₄⟩, ⟨⟨h₄, _, rfl, k₄⟩, ?_⟩⟩
      rw [take_succ_of hq, hereOf, List.filter_append]
      have : List.filter (fun q => q.at' == pl + at_) [q] = [] := by simp [hqe]
      rw [this, List.append_nil]; exact hpy
  · rintro ys s' ⟨⟨h₂, tk₂, rfl, k₂⟩, hpy⟩
    have hl := hp.length
    rw [List.take_of_length_le (by simp; omega)] at hpy
    refine ⟨m, hn.keeps k₂, fun h' tk hlD hnL kk => ?_⟩
    refine hQ D ys h' tk hD ?_ hlD hpy hnL
    intro b o hb e
    exact kk b o (by simp at hb ⊢; exact ⟨(by rintro rfl; rw [hIt] at e; cases e), (by rintro rfl; rw [hC] at e; cases e), hb⟩) (k₂ b o e)
end
end Mine
end

section
open PySem PySem.W PyProof.Rows PySem.Calls PySem.SeqAt
namespace Mine
def wIf : Stmt := nth (loopBody wAt) 1 (.Pass default)
def wItems : Stmt := nth (loopBody wAt) 2 (.Pass default)
def wPiece : Stmt := nth (loopBody wAt) 3 (.Pass default)
theorem emp_eq : Str.ofString "" = S [] := by decide +kernel
theorem S_ne_nil (p : List Nat) : (S p != S []) = !(p.isEmpty) := by
  cases p with
  | nil => simp
  | cons a r =>
    have : S (a :: r) ≠ S [] := fun q => by have := S_inj q; cases this
    simpa using this
/-- woven's world -/
structure WS (H₀ : Heap) (L : Addr) (h : Heap) (m : Str → Option Value) (fd : Addr) (ft : List (Str × List Nat)) : Prop where
  sub : Sub H₀ h
  ns : h.Ns L m
  mf : m "found" = some (.ref fd)
  fl : ∃ fvs, Lst h fd fvs ∧ Paired (P2At h) fvs ft
  fn : H₀.get? fd = none
structure WC (P : Pg) (I : PM) (H₀ : Heap) (L : Addr) : Prop where
  base : Sub P.base H₀
  frz : Frz I H₀
  l0 : H₀.get? L = none
  l1 : H₀.get? (L + 1) = none
  l2 : H₀.get? (L + 2) = none
section
variable {P : Pg} {I : PM} {H₀ h h' : Heap} {L fd : Addr} {m m' : Str → Option Value} {ft : List (Str × List Nat)}
theorem WS.fdL (x : WS H₀ L h m fd ft) : fd ≠ L := let ⟨_, l, _⟩ := x.fl; l.ns_ne x.ns
/-- the names turned, the rest kept -/
theorem WS.set (C : WC P I H₀ L) (x : WS H₀ L h m fd ft) (n : h'.Ns L m') (e : m' "found" = some (.ref fd)) (k : KeepL [L] h h') : WS H₀ L h' m' fd ft :=
  ⟨x.sub.past k (by simp [C.l0]), n, e, let ⟨fvs, l, p⟩ := x.fl; ⟨fvs, l.keepL k (by simpa using x.fdL), paired_mono (fun _ _ q => P2At.keepL q k (by simpa using NotTup.ns x.ns)) p⟩, x.fn⟩
theorem WS.keep (x : WS H₀ L h m fd ft) (k : Sub h h') : WS H₀ L h' m fd ft :=
  ⟨x.sub.trans k, x.ns.keeps k, x.mf, let ⟨fvs, l, p⟩ := x.fl; ⟨fvs, l.sub k, paired_mono (fun _ _ q => P2At.sub q k) p⟩, x.fn⟩
theorem cell_ne {c : Addr} {v : Option Value} (x : h.IsCell c v) (n : h.Ns L m) : c ≠ L := by
  rintro rfl; obtain ⟨o, e, d⟩ := x; obtain ⟨o', es, ep, e', d', _⟩ := n; rw [e] at e'; cases e'; rw [d] at d'; cases d'
theorem cell_ne_l {c : Addr} {v : Option Value} {vs : List Value} (x : h.IsCell c v) (n : Lst h fd vs) : c ≠ fd := by
  rintro rfl; obtain ⟨o, e, d⟩ := x; obtain ⟨k, e'⟩ := n; rw [e] at e'; cases e'; cases d
end
section
variable {P : Pg} {w : World} {A : Around} {E : Value → Shared → Prop} {s : Shared} {I : PM} {H₀ : Heap} {L fd : Addr} {cd : Value} {m : Str → Option Value} {ft : List (Str × List Nat)}
/-- if here != []: if piece != '': found.append((kind, piece)); piece = '' -/
theorem w_if {Q : Flow → Shared → Prop} {D : Addr} {ys : List Value} {p : List Nat} {k : Str} {tp tk : Tok} (C : WC P I H₀ L) (hu : A.units < cLine) (ws : WS H₀ L s.heap m fd ft) (hlen : ft.length ≤ 100000)
    (mh : m "here" = some (.ref D)) (hD : Lst s.heap D ys) (mp : m "piece" = some (.str (S p) tp)) (mk : m "kind" = some (.str k tk))
    (hQ : ∀ h' tk' m' tp', KeepL [L, fd] s.heap h' → WS H₀ L h' m' fd (if ys = [] ∨ p = [] then ft else ft ++ [(k, p)]) → m' "piece" = some (.str (S (if ys = [] then p else [])) tp') → Upd ["piece"] m m' → Q .next { s with heap := h', toks := tk' }) :
    wpAny (model pw w) A (exec wIf (wenv P L cd)) Q E s := by
  refine wpAny_If (wpAny_isTrue_Compare1 (ldV (env := wenv P L cd) ws.ns mh (List_ (spliced_nil (wpAny_newObj_type ?_)))))
  have sb := Sub.push s.heap { cls := .type "list", data := .seq ([] : List Value).toArray }
  have eN := Heap.get?_push_size s.heap (o := { cls := .type "list", data := .seq ([] : List Value).toArray }) rfl
  have ws₁ := ws.keep sb
  have hD₁ := hD.sub sb
  generalize s.heap.objs.size = na at *
  generalize s.heap.push _ = h₁ at *
  refine ne_nil hu hD₁.isList ⟨_, eN, rfl, _, rfl⟩ (wpAny_truthy_bool ?_)
  by_cases hy : ys = []
  · subst hy
    rw [if_neg (by simp)]
    refine wpAny_execs_nil ?_
    have := hQ h₁ s.toks m tp sb.toL
    rw [if_pos (.inl rfl), if_pos rfl] at this
    exact this ws₁ mp (Upd.refl m)
  · rw [if_pos (by simpa using hy)]
    refine wpAny_execs_cons (wpAny_If (wpAny_isTrue_Compare1 (ldV (env := wenv P L cd) ws₁.ns mp (wpAny_Constant_str (PyProof.Rows.ne_str (wpAny_truthy_bool ?_))))))
    rw [emp_eq, S_ne_nil]
    have fin : ∀ (h₂ : Heap) (tk₂ : Nat) (ft' : List (Str × List Nat)), WS H₀ L h₂ m fd ft' → KeepL [L, fd] s.heap h₂ → ft' = (if ys = [] ∨ p = [] then ft else ft ++ [(k, p)]) →
        wpAny (model pw w) A (execs [nth (match wIf with | .If _ b _ _ => b | _ => []) 1 (.Pass default)] (wenv P L cd)) Q E { s with heap := h₂, toks := tk₂ } := by
      intro h₂ tk₂ ft' ws₂ k₂ hft
      refine wpAny_execs_cons (wpAny_Assign_Name (wpAny_Constant_str ?_))
      refine wpAny_storeName_local (by rfl) ws₂.ns (fun h₃ hn₃ s₃ => ?_) (by rfl)
      replace s₃ : Heap.SameBut L h₂ h₃ := s₃
      rw [emp_eq] at hn₃
      refine wpAny_execs_nil ?_
      refine hQ h₃ _ _ tk₂ (k₂.trans (same_toL s₃)) (hft ▸ ws₂.set C hn₃ (ms ws₂.mf) (same_one s₃)) ?_ fun z hz => if_neg (by simpa using hz)
      rw [if_neg hy]; exact if_pos rfl
    by_cases hp : p = []
    · subst hp
      rw [if_neg (by simp)]
      refine wpAny_execs_nil ?_
      exact fin h₁ _ ft ws₁ sb.toL (by simp)
    · rw [if_pos (by simpa using hp)]
      obtain ⟨fvs, hl, hpf⟩ := ws₁.fl
      refine wpAny_execs_cons (append_stmt (env := wenv P L cd) (items := fvs) ws₁.ns ws₁.mf hl ?_)
      refine Tuple_ (spliced_cons (ldV (env := wenv P L cd) ws₁.ns mk (spliced_cons (ldV (env := wenv P L cd) ws₁.ns mp (spliced_nil (wpAny_newObj_type ?_))))))
      dsimp only
      have sb₂ := Sub.push h₁ { cls := .type "tuple", data := .seq [.str k tk, .str (S p) tp].toArray }
      have eT := Heap.get?_push_size h₁ (o := { cls := .type "tuple", data := .seq [.str k tk, .str (S p) tp].toArray }) rfl
      have hne : h₁.objs.size ≠ fd := by rintro q; obtain ⟨_, e⟩ := hl; exact new_ne e q.symm
      generalize h₁.objs.size = ta at *
      generalize h₁.push _ = h₂ at *
      refine ⟨hl.sub sb₂, by have := hpf.length; unfold sizeLine; omega, fun h₃ hl₃ s₃ => ?_⟩
      have kb : KeepL [fd] h₂ h₃ := same_one s₃
      refine wpAny_execs_nil ?_
      refine fin h₃ _ (ft ++ [(k, p)]) ⟨(ws₁.sub.trans sb₂).past kb (by simp [ws.fn]), (ws₁.ns.keeps sb₂).sameBut s₃ ws.fdL.symm, ws.mf, ⟨_, hl₃, ?_⟩, ws.fn⟩ ((sb.toL.trans sb₂.toL).trans (kb.mono (by simp))) (by simp [hy, hp])
      refine paired_snoc (paired_mono (fun _ _ q => (P2At.sub q sb₂).keepL kb (by simpa using NotTup.lst (hl.sub sb₂))) hpf) ?_
      exact ⟨ta, _, tk, tp, rfl, s₃.extBut _ _ hne eT⟩
end
end Mine
end

section
open PySem PySem.W PyProof.Rows PySem.Calls PySem.SeqAt
namespace Mine
def foundOf (f : List (Str × List Nat)) (qs : List T2) : List (Str × List Nat) := f ++ (qs.map fun q => pairsOf q.ts).flatten
theorem iter_ne_l {h : Heap} {it l fd : Addr} {i : Nat} {vs : List Value} (x : h.IsListIter it l i) (y : Lst h fd vs) : it ≠ fd := by
  rintro rfl; obtain ⟨o, e, c, d⟩ := x; obtain ⟨k, e'⟩ := y; rw [e] at e'; cases e'; cases d
theorem iter_ne_ns {h : Heap} {it l L : Addr} {i : Nat} {m : Str → Option Value} (x : h.IsListIter it l i) (y : h.Ns L m) : it ≠ L := by
  rintro rfl; obtain ⟨o, e, c, d⟩ := x; obtain ⟨o', _, _, e', d', _⟩ := y; rw [e] at e'; cases e'; rw [d] at d'; cases d'
theorem paired_append {α β : Type} {F : α → β → Prop} : ∀ {x : List α} {y : List β} {x' : List α} {y' : List β}, Paired F x y → Paired F x' y' → Paired F (x ++ x') (y ++ y')
  | _, _, _, _, .nil, h => h
  | _, _, _, _, .cons a t, h => .cons a (paired_append t h)
section
variable {P : Pg} {w : World} {A : Around} {E : Value → Shared → Prop} {s : Shared} {I : PM} {H₀ : Heap} {L fd : Addr} {cd : Value} {m : Str → Option Value} {ft : List (Str × List Nat)}
theorem WS.other {h h' : Heap} {l : List Addr} (x : WS H₀ L h m fd ft) (k : KeepL l h h') (n : ∀ a ∈ l, H₀.get? a = none ∧ NotTup h a ∧ a ≠ L ∧ a ≠ fd) : WS H₀ L h' m fd ft :=
  ⟨x.sub.past k fun a ha => (n a ha).1, x.ns.at' fun o e => k _ o (fun q => (n L q).2.2.1 rfl) e, x.mf,
    let ⟨fvs, l', p⟩ := x.fl; ⟨fvs, l'.at fun o e => k _ o (fun q => (n fd q).2.2.2 rfl) e, paired_mono (fun _ _ q => P2At.keepL q k fun a ha => (n a ha).2.1) p⟩, x.fn⟩
theorem WS.iter {h h' : Heap} {it l : Addr} {i : Nat} (x : WS H₀ L h m fd ft) (y : h.IsListIter it l i) (h0 : H₀.get? it = none) (k : KeepBut it h h') : WS H₀ L h' m fd ft := by
  refine x.other (KeepBut.toL (l := [it]) k) ?_
  intro a ha
  simp only [List.mem_cons, List.not_mem_nil, or_false] at ha
  subst ha
  obtain ⟨fvs, l', p⟩ := x.fl
  exact ⟨h0, NotTup.iter y, iter_ne_ns y x.ns, iter_ne_l y l'⟩
/-- found = found + [(item[1], item[2]) for item in items] -/
theorem found_add {Q : Flow → Shared → Prop} {u : Value} {ts : List T3} {cscope : Scope} {cl : List (Str × Addr)} {p1 p2 p3 p4 p5 p6 p7 p8 p9 p10 p11 p12 pos spos : Pos} {k : Nat} (C : WC P I H₀ L) (hA : A.handled = none) (ws : WS H₀ L s.heap m fd ft) (hlen : ft.length ≤ 100000)
    (hm : m "items" = some u) (hT : ToksI I u ts) (hts : ts.length ≤ 1000)
    (hQ : ∀ h' tk' m' fd', KeepL [L] s.heap h' → WS H₀ L h' m' fd' (ft ++ pairsOf ts) → s.heap.get? fd' = none → Upd ["found"] m m' → Q .next { s with heap := h', toks := tk' })
    (hclos : closureFor cscope (wenv P L cd) = pure cl) (hx : ∀ C, (compEnvC cscope cl C (wenv P L cd)).kindOf "item" = some .local) 
    (hcell : ∀ y ∈ cscope.names, y.2 ≠ .cell) (hkind : cscope.kind = .function) (hnames : ∀ y ∈ cscope.names, y.2 = .local → cscope.names.lookup y.1 = some .local) :
    wpAny (model pw w) A (exec (.Assign [.Name "found" p10] (.BinOp (.Name "found" p11) .Add (.ListComp (.Tuple [.Subscript (.Name "item" p1) (.Constant (.int 1) 0 p2) p3, .Subscript (.Name "item" p4) (.Constant (.int 2) 0 p5) p6] k p7) [⟨.Name "item" p8, .Name "items" p9, [], 0⟩] cscope pos) p12) spos) (wenv P L cd)) Q E s := by
  refine wpAny_Assign_Name (wpAny_BinOp (ldV (env := wenv P L cd) ws.ns ws.mf (pairs_comp hA (C.frz.sub ws.sub) ws.ns hm hT hts (fun D ys h₁ tk₁ hD k₁ hl₁ hp₁ => ?_) hclos hx hcell hkind hnames))) (by rfl)
  have ws₁ := ws.keep k₁
  obtain ⟨fvs, hl, hpf⟩ := ws₁.fl
  obtain ⟨nf, ef⟩ := id hl
  obtain ⟨nd, ed⟩ := id hl₁
  have hlf := hpf.length
  have hlp := hp₁.length
  have hpl : (pairsOf ts).length = ts.length := by simp [pairsOf]
  refine PySem.P.add_list (items := fvs.toArray) (n := nf) (items2 := ys.toArray) (n2 := nd) ef ed ?_ (by simp; unfold sizeLine; omega)
  dsimp only
  have sb₂ := Sub.push h₁ { cls := .type "list", data := .seq (fvs.toArray ++ ys.toArray) }
  have eN := Heap.get?_push_size h₁ (o := { cls := .type "list", data := .seq (fvs.toArray ++ ys.toArray) }) rfl
  have hnew : h₁.get? h₁.objs.size = none := Heap.get?_none_of_le (Nat.le_refl _)
  have hneL : L ≠ h₁.objs.size := by rintro q; obtain ⟨o, _, _, e, _⟩ := ws₁.ns; exact new_ne e q
  generalize h₁.objs.size = na at *
  generalize h₁.push _ = h₂ at *
  refine wpAny_storeName_local (by rfl) (ws₁.ns.keeps sb₂) (fun h₃ hn₃ s₃ => ?_) (by rfl)
  replace s₃ : Heap.SameBut L h₂ h₃ := s₃
  have hns₂ := ws₁.ns.keeps sb₂
  refine hQ h₃ _ _ na ((k₁.trans sb₂).toL.trans (same_toL s₃)) ⟨((ws.sub.trans k₁).trans sb₂).past (same_one s₃) (by simp [C.l0]), hn₃, if_pos rfl, ⟨fvs ++ ys, ⟨_, (s₃.extBut _ _ hneL.symm eN).trans (by simp; rfl)⟩, ?_⟩, ?_⟩ ?_ fun z hz => if_neg (by simpa using hz)
  · have up : ∀ v kv, P2At h₁ v kv → P2At h₃ v kv := fun v kv q => (q.sub sb₂).keepL (same_one s₃) (by simpa using NotTup.ns hns₂)
    have := paired_mono (fun a b q => up a b q) hpf
    have h2 := paired_mono (fun a b q => up a b q) hp₁
    exact paired_append this h2
  · cases q : H₀.get? na with
    | none => rfl
    | some o => have := ws₁.sub _ _ q; rw [hnew] at this; cases this
  · cases q : s.heap.get? na with
    | none => rfl
    | some o => have := k₁ _ _ q; rw [hnew] at this; cases this
/-- for items in here: found = found + … -/
theorem w_items {Q : Flow → Shared → Prop} {D : Addr} {ys : List Value} {qs : List T2} (C : WC P I H₀ L) (hA : A.handled = none) (ws : WS H₀ L s.heap m fd ft) (hlen : ft.length + (foundOf [] qs).length ≤ 100000)
    (mh : m "here" = some (.ref D)) (hD : Lst s.heap D ys) (hp : Paired (fun v (q : T2) => ToksI I v q.ts) ys qs) (hq : ∀ q ∈ qs, q.ts.length ≤ 1000) (hqs : qs.length ≤ 1000)
    (hQ : ∀ h' tk' m' fd', KeepL [L] s.heap h' → WS H₀ L h' m' fd' (foundOf ft qs) → Upd ["items", "found"] m m' → Q .next { s with heap := h', toks := tk' }) :
    wpAny (model pw w) A (exec wItems (wenv P L cd)) Q E s := by
  have hDL := hD.ns_ne ws.ns
  refine for_list hA (ldV (env := wenv P L cd) ws.ns mh ⟨D, ys.toArray, rfl, hD.isList, ?_⟩)
  have sb := Sub.push s.heap { cls := .type "list_iterator", data := .fields #[.ref D, .int 0 0] }
  have eI := Heap.get?_push_size s.heap (o := { cls := .type "list_iterator", data := .fields #[.ref D, .int 0 0] }) rfl
  have hI0 : s.heap.get? s.heap.objs.size = none := Heap.get?_none_of_le (Nat.le_refl _)
  generalize s.heap.objs.size = It at *
  have hIH : H₀.get? It = none := by
    cases q : H₀.get? It with
    | none => rfl
    | some o => have := ws.sub _ _ q; rw [hI0] at this; cases this
  refine ⟨fun i s' => ∃ h tk m' fd', s' = { s with heap := h, toks := tk } ∧ KeepL [L] s.heap h ∧ WS H₀ L h m' fd' (foundOf ft (qs.take i)) ∧ h.IsListIter It D i ∧ Upd ["items", "found"] m m',
    ⟨_, s.toks, m, fd, rfl, sb.toL, ?_, ⟨_, eI, rfl, rfl⟩, Upd.refl m⟩, ?_, ?_⟩
  · have : foundOf ft (List.take 0 qs) = ft := by simp [foundOf]
    rw [this]; exact ws.keep sb
  · rintro i v s' h' tk ⟨h₁, tk₁, m₁, fd₁, rfl, k₁, ws₁, hit₁, u₁⟩ hit' hlD' hv kIt E'
    have hv' : ys[i]? = some v := by simpa using hv
    obtain ⟨q, hq', qi⟩ : ∃ q, qs[i]? = some q ∧ ToksI I v q.ts := by
      have hl := hp.length
      have hi : i < qs.length := by have := (List.getElem?_eq_some_iff.1 hv').1; omega
      obtain ⟨v', e, r⟩ := paired_at hp (List.getElem?_eq_getElem hi)
      rw [hv'] at e; cases e
      exact ⟨_, List.getElem?_eq_getElem hi, r⟩
    have ws₂ := ws₁.iter hit₁ hIH kIt
    have k₂ : KeepL [L] s.heap h' := k₁.news (KeepBut.toL (l := [It]) kIt) (by intro a ha; simp at ha; subst ha; exact .inr hI0)
    refine wpAny_pure (wpAny_assign_Name (wpAny_storeName_local (by rfl) ws₂.ns (fun h₃ hn₃ s₃ => ?_) (by rfl)))
    replace s₃ : Heap.SameBut L h' h₃ := s₃
    replace hn₃ : h₃.Ns L _ := hn₃
    have ws₃ := ws₂.set C hn₃ (ms ws₂.mf) (same_one s₃)
    have hit₃ : h₃.IsListIter It D (i + 1) := hit'.at fun o e => s₃.extBut _ o (iter_ne_ns hit' ws₂.ns) e
    have hl3 : foundOf ft (qs.take (i + 1)) = foundOf ft (qs.take i) ++ pairsOf q.ts := by
      rw [take_succ_of hq']; simp [foundOf]
    have hle : (foundOf ft (qs.take i)).length ≤ 100000 := by
      have e1 : (foundOf [] qs) = foundOf [] (qs.take i) ++ ((qs.drop i).map fun q => pairsOf q.ts).flatten := by
        simp only [foundOf, List.nil_append]
        rw [← List.flatten_append, ← List.map_append, List.take_append_drop]
      have e2 : (foundOf ft (qs.take i)).length = ft.length + (foundOf [] (qs.take i)).length := by simp [foundOf]
      have e3 := congrArg List.length e1
      rw [List.length_append] at e3
      omega
    refine wpAny_execs_cons (found_add C hA ws₃ hle (if_pos rfl) qi (hq q (List.mem_of_getElem? hq')) (fun h₄ tk₄ m₄ fd₄ k₄ ws₄ hn4 u₄ => ?_) (by rfl) (fun _ => by rfl) (by decide) (by rfl) (by decide))
    refine wpAny_execs_nil ?_
    have hit₄ : h₄.IsListIter It D (i + 1) := hit₃.at fun o e => k₄ _ o (by simpa using iter_ne_ns hit₃ ws₃.ns) e
    refine ⟨⟨hit₄, ?_⟩, h₄, tk₄, m₄, fd₄, rfl, (k₂.trans (same_toL s₃)).trans k₄, hl3 ▸ ws₄, hit₄, ?_⟩
    · refine isList_at hlD' fun o e => k₄ _ o (by simpa using hDL) (s₃.extBut _ o hDL e)
    · intro z hz
      simp only [List.mem_cons, List.not_mem_nil, or_false, not_or] at hz
      exact (u₄ z (by simpa using hz.2)).trans ((if_neg hz.1).trans (u₁ z (by simp [hz])))
  · rintro s' h' tk ⟨h₁, tk₁, m₁, fd₁, rfl, k₁, ws₁, hit₁, u₁⟩ kIt
    have hl := hp.length
    rw [List.take_of_length_le (by simp; omega)] at ws₁
    exact hQ h' tk m₁ fd₁ (k₁.news (KeepBut.toL (l := [It]) kIt) (by intro a ha; simp at ha; subst ha; exact .inr hI0)) (ws₁.iter hit₁ hIH kIt) u₁
end
end Mine
end

section
open PySem PySem.W PyProof.Rows PySem.Calls PySem.SeqAt
namespace Mine
/-- what one letter of a token does to the piece and to what was found -/
def atStep (ins : List T2) (pl : Int) (k : Str) (v : List Nat) (a : Nat) (pf : List Nat × List (Str × List Nat)) : List Nat × List (Str × List Nat) :=
  ((if hereOf ins (pl + a) = [] then pf.1 else []) ++ (v.drop a).take 1, foundOf (if hereOf ins (pl + a) = [] ∨ pf.1 = [] then pf.2 else pf.2 ++ [(k, pf.1)]) (hereOf ins (pl + a)))
def atRun (ins : List T2) (pl : Int) (k : Str) (v : List Nat) (pf : List Nat × List (Str × List Nat)) : Nat → List Nat × List (Str × List Nat)
  | 0 => pf
  | a + 1 => atStep ins pl k v a (atRun ins pl k v pf a)
def wsum (ins : List T2) : Nat := (foundOf [] ins).length
theorem foundOf_len (f : List (Str × List Nat)) (qs : List T2) : (foundOf f qs).length = f.length + wsum qs := by simp [foundOf, wsum]
theorem wsum_filter (p : T2 → Bool) : ∀ ins : List T2, wsum (ins.filter p) ≤ wsum ins
  | [] => Nat.le_refl _
  | q :: r => by
    have ih := wsum_filter p r
    have e : ∀ l : List T2, wsum (q :: l) = q.ts.length + wsum l := by intro l; simp [wsum, foundOf, pairsOf]
    by_cases h : p q = true
    · rw [List.filter_cons_of_pos h, e, e]; omega
    · rw [List.filter_cons_of_neg h, e]; omega
theorem atStep_len (ins : List T2) (pl : Int) (k : Str) (v : List Nat) (a : Nat) (pf : List Nat × List (Str × List Nat)) : (atStep ins pl k v a pf).2.length ≤ pf.2.length + 1 + wsum ins ∧ (atStep ins pl k v a pf).1.length ≤ pf.1.length + 1 := by
  have := wsum_filter (fun q => q.at' == pl + a) ins
  constructor
  · show (foundOf _ _).length ≤ _
    rw [foundOf_len]
    show _ + wsum (hereOf ins (pl + a)) ≤ _
    unfold hereOf at *
    split <;> (try simp) <;> omega
  · simp only [atStep, List.length_append, List.length_take]
    split <;> (try simp) <;> omega
theorem atRun_len (ins : List T2) (pl : Int) (k : Str) (v : List Nat) (pf : List Nat × List (Str × List Nat)) : ∀ n, (atRun ins pl k v pf n).2.length ≤ pf.2.length + n * (1 + wsum ins) ∧ (atRun ins pl k v pf n).1.length ≤ pf.1.length + n
  | 0 => by simp [atRun]
  | n + 1 => by
    have ih := atRun_len ins pl k v pf n
    have := atStep_len ins pl k v n (atRun ins pl k v pf n)
    rw [Nat.add_mul]
    simp only [atRun]
    omega
section
variable {P : Pg} {w : World} {A : Around} {E : Value → Shared → Prop} {s : Shared} {I : PM} {H₀ : Heap} {L fd : Addr} {cd : Value} {m : Str → Option Value} {ft : List (Str × List Nat)}
/-- piece = piece + value[at] -/
theorem w_piece {Q : Flow → Shared → Prop} {p v : List Nat} {a : Nat} {tp tv ta : Tok} (C : WC P I H₀ L) (ws : WS H₀ L s.heap m fd ft) (hp : p.length ≤ 1000) (hv : v.length ≤ 4) (ha : a < v.length)
    (mp : m "piece" = some (.str (S p) tp)) (mv : m "value" = some (.str (S v) tv)) (hca : s.heap.IsCell (L + 2) (some (.int a ta)))
    (hQ : ∀ h' tk' m' tp', KeepL [L] s.heap h' → WS H₀ L h' m' fd ft → m' "piece" = some (.str (S (p ++ (v.drop a).take 1)) tp') → Upd ["piece"] m m' → Q .next { s with heap := h', toks := tk' }) :
    wpAny (model pw w) A (exec wPiece (wenv P L cd)) Q E s := by
  refine wpAny_Assign_Name (wpAny_BinOp (ldV (env := wenv P L cd) ws.ns mp (Subscript_ (ldV (env := wenv P L cd) ws.ns mv (ldK (env := wenv P L cd) (c := L + 2) hca (str_item ha (by omega) (PyProof.Rows.add_str (fun t' tk => ?_) (by rw [S_len, S_len]; simp; unfold sizeLine; omega))))))))
  refine wpAny_storeName_local (by rfl) ws.ns (fun h₃ hn₃ s₃ => ?_) (by rfl)
  replace s₃ : Heap.SameBut L s.heap h₃ := s₃
  have e : (v.drop a).take 1 = [v[a]] := by rw [List.drop_eq_getElem_cons ha]; rfl
  rw [S_add] at hn₃
  refine hQ h₃ _ _ t' (same_one s₃) (ws.set C hn₃ (ms ws.mf) (same_one s₃)) ?_ fun z hz => if_neg (by simpa using hz)
  rw [e]; exact if_pos rfl
/-- the body of the loop over the letters -/
theorem at_turn {Q : Flow → Shared → Prop} {ivs : List Value} {ins : List T2} {il : Addr} {p v : List Nat} {a : Nat} {pl : Int} {k : Str} {tp tv ta tk tpl : Tok} (C : WC P I H₀ L) (IL : I L = none) (hA : A.handled = none) (hu : A.units < cLine) (ws : WS H₀ L s.heap m fd ft) (hlen : ft.length + 1 + wsum ins ≤ 100000)
    (hI : LstI I il ivs) (hpi : Paired (InsI I) ivs ins) (hil : ins.length ≤ 1000) (hq : ∀ q ∈ ins, q.ts.length ≤ 1000)
    (hp : p.length ≤ 900) (hv : v.length ≤ 4) (ha : a < v.length) (mi : m "insertions" = some (.ref il))
    (mp : m "piece" = some (.str (S p) tp)) (mv : m "value" = some (.str (S v) tv)) (mk : m "kind" = some (.str k tk)) (hcp : s.heap.IsCell (L + 1) (some (.int pl tpl))) (hca : s.heap.IsCell (L + 2) (some (.int a ta)))
    (hQ : ∀ h' tk' m' fd' tp', KeepL [L, fd] s.heap h' → WS H₀ L h' m' fd' (atStep ins pl k v a (p, ft)).2 → m' "piece" = some (.str (S (atStep ins pl k v a (p, ft)).1) tp') → Upd ["here", "piece", "items", "found"] m m' → Q .next { s with heap := h', toks := tk' }) :
    wpAny (model pw w) A (execs (loopBody wAt) (wenv P L cd)) Q E s := by
  have hw := wsum_filter (fun q => q.at' == pl + a) ins
  refine wpAny_execs_cons (here_comp (u := .none) hA (C.frz.sub ws.sub) IL ws.ns mi hI hpi hil hcp hca fun D ys h₁ tk₁ hD0 k₁ hD₁ hpD hn₁ => ?_)
  have ws₁ : WS H₀ L h₁ (fun z => if z = "here" then some (.ref D) else m z) fd ft := ws.set C hn₁ (ms ws.mf) k₁
  have hcp₁ := IsCell.at' hcp fun o e => k₁ _ o (by simpa using cell_ne hcp ws.ns) e
  have hca₁ := IsCell.at' hca fun o e => k₁ _ o (by simpa using cell_ne hca ws.ns) e
  have hDfd : D ≠ fd := by rintro rfl; obtain ⟨_, ⟨_, e⟩, _⟩ := ws.fl; rw [hD0] at e; cases e
  have hys : ys = [] ↔ hereOf ins (pl + a) = [] := by
    have := hpD.length
    constructor
    · rintro rfl; exact List.length_eq_zero_iff.1 this.symm
    · intro q; rw [q] at this; exact List.length_eq_zero_iff.1 this
  dsimp only
  refine wpAny_execs_cons (w_if C hu ws₁ (by omega) (if_pos rfl) hD₁ (ms mp) (ms mk) fun h₂ tk₂ m₂ tp₂ k₂ ws₂ mp₂ u₂ => ?_)
  have hcp₂ := IsCell.at' hcp₁ fun o e => k₂ _ o (by obtain ⟨_, l, _⟩ := ws₁.fl; simp only [List.mem_cons, List.not_mem_nil, or_false, not_or]; exact ⟨cell_ne hcp₁ ws₁.ns, cell_ne_l hcp₁ l⟩) e
  have hca₂ := IsCell.at' hca₁ fun o e => k₂ _ o (by obtain ⟨_, l, _⟩ := ws₁.fl; simp only [List.mem_cons, List.not_mem_nil, or_false, not_or]; exact ⟨cell_ne hca₁ ws₁.ns, cell_ne_l hca₁ l⟩) e
  have hD₂ : Lst h₂ D ys := hD₁.at fun o e => k₂ _ o (by simp; exact ⟨hD₁.ns_ne hn₁, hDfd⟩) e
  have hqs : ∀ q ∈ hereOf ins (pl + a), q.ts.length ≤ 1000 := fun q h => hq q ((List.mem_filter.1 h).1)
  have hql : (hereOf ins (pl + a)).length ≤ 1000 := Nat.le_trans (List.length_filter_le ..) hil
  dsimp only
  refine wpAny_execs_cons (w_items C hA ws₂ ?_ ((u₂ "here" (by decide)).trans (if_pos rfl)) hD₂ hpD hqs hql fun h₃ tk₃ m₃ fd₃ k₃ ws₃ u₃ => ?_)
  · show _ + wsum (hereOf ins (pl + a)) ≤ _
    unfold hereOf at *
    split <;> (try simp) <;> omega
  have hca₃ := IsCell.at' hca₂ fun o e => k₃ _ o (by simpa using cell_ne hca₂ ws₂.ns) e
  have mp₃ := (u₃ "piece" (by decide)).trans mp₂
  have mv₃ : m₃ "value" = some (.str (S v) tv) := (u₃ "value" (by decide)).trans ((u₂ "value" (by decide)).trans (ms mv))
  dsimp only
  refine wpAny_execs_cons (w_piece C ws₃ (by split <;> (try simp) <;> omega) hv ha mp₃ mv₃ hca₃ fun h₄ tk₄ m₄ tp₄ k₄ ws₄ mp₄ u₄ => ?_)
  refine wpAny_execs_nil ?_
  have e1 : (if ys = [] then p else []) = (if hereOf ins (pl + a) = [] then p else []) := by simp only [hys]
  have e2 : (if ys = [] ∨ p = [] then ft else ft ++ [(k, p)]) = (if hereOf ins (pl + a) = [] ∨ p = [] then ft else ft ++ [(k, p)]) := by simp only [hys]
  rw [e1] at mp₄
  rw [e2] at ws₄
  refine hQ h₄ tk₄ m₄ fd₃ tp₄ (((k₁.mono (by simp)).trans k₂).trans ((k₃.mono (by simp)).trans (k₄.mono (by simp)))) ws₄ mp₄ ?_
  intro z hz
  simp only [List.mem_cons, List.not_mem_nil, or_false, not_or] at hz
  exact (u₄ z (by simp [hz])).trans ((u₃ z (by simp [hz])).trans ((u₂ z (by simp [hz])).trans (if_neg hz.1)))
end
end Mine
end

section
open PySem PySem.W PyProof.Rows PySem.Calls PySem.SeqAt
namespace Mine
def NoSeq (o : Obj) : Prop := ∀ items n, o.data ≠ .seq items n
/-- all kept but what is a row of things, and these -/
def KN (l : List Addr) (h h' : Heap) : Prop := ∀ b o, b ∉ l → NoSeq o → h.get? b = some o → h'.get? b = some o
theorem KN.trans {l : List Addr} {a b c : Heap} (x : KN l a b) (y : KN l b c) : KN l a c := fun i o n t e => y i o n t (x i o n t e)
theorem KN.mono {l l' : List Addr} {a b : Heap} (x : KN l a b) (h : ∀ a ∈ l, a ∈ l') : KN l' a b := fun i o n t e => x i o (fun q => n (h i q)) t e
theorem KeepL.kn {l : List Addr} {a b : Heap} {fd : Addr} {vs : List Value} (x : KeepL (l ++ [fd]) a b) (hl : Lst a fd vs) : KN l a b := by
  intro i o n t e
  refine x i o ?_ e
  simp only [List.mem_append, List.mem_cons, List.not_mem_nil, or_false, not_or]
  refine ⟨n, ?_⟩
  rintro rfl
  obtain ⟨k, e'⟩ := hl; rw [e] at e'; cases e'; exact t _ _ rfl
theorem KeepL.kn' {l : List Addr} {a b : Heap} (x : KeepL l a b) : KN l a b := fun i o n _ e => x i o n e
theorem KN.news {l l' : List Addr} {h h' h'' : Heap} (x : KN l h h') (y : KN l' h' h'') (n : ∀ a ∈ l', a ∈ l ∨ h.get? a = none) : KN l h h'' := by
  intro b o hb t e
  refine y b o (fun q => ?_) t (x b o hb t e)
  rcases n b q with r | r
  · exact hb r
  · rw [r] at e; cases e
theorem IsCell.kn {l : List Addr} {h h' : Heap} {c : Addr} {v : Option Value} (x : h.IsCell c v) (k : KN l h h') (n : c ∉ l) : h'.IsCell c v := by
  obtain ⟨o, e, d⟩ := x
  exact ⟨o, k c o n (fun _ _ q => by rw [d] at q; cases q) e, d⟩
theorem iter_kn {l : List Addr} {h h' : Heap} {it x : Addr} {i : Nat} (y : h.IsListIter it x i) (k : KN l h h') (n : it ∉ l) : h'.IsListIter it x i := by
  obtain ⟨o, e, c, d⟩ := y
  exact ⟨o, k it o n (fun _ _ q => by rw [d] at q; cases q) e, c, d⟩
theorem range_kn {l : List Addr} {h h' : Heap} {it : Addr} {a b c : Int} (y : IsRangeIter h it a b c) (k : KN l h h') (n : it ∉ l) : IsRangeIter h' it a b c := k it _ n (fun _ _ q => by cases q) (show h.get? it = some _ from y)
theorem range_ne_ns {h : Heap} {it L : Addr} {a b c : Int} {m : Str → Option Value} (x : IsRangeIter h it a b c) (y : h.Ns L m) : it ≠ L := by
  rintro rfl; obtain ⟨o', _, _, e', d', _⟩ := y; rw [show h.get? it = some _ from x] at e'; cases e'; cases d'
theorem range_ne_l {h : Heap} {it fd : Addr} {a b c : Int} {vs : List Value} (x : IsRangeIter h it a b c) (y : Lst h fd vs) : it ≠ fd := by
  rintro rfl; obtain ⟨_, e'⟩ := y; rw [show h.get? it = some _ from x] at e'
  have := congrArg (Option.map Obj.cls) e'; simp at this
theorem range_ne_cell {h : Heap} {it c : Addr} {a b d : Int} {v : Option Value} (x : IsRangeIter h it a b d) (y : h.IsCell c v) : it ≠ c := by
  rintro rfl; obtain ⟨o, e', d'⟩ := y; rw [show h.get? it = some _ from x] at e'; cases e'; cases d'
theorem iter_ne_cell {h : Heap} {it c l : Addr} {i : Nat} {v : Option Value} (x : h.IsListIter it l i) (y : h.IsCell c v) : it ≠ c := by
  rintro rfl; obtain ⟨o, e, _, d⟩ := x; obtain ⟨o', e', d'⟩ := y; rw [e] at e'; cases e'; rw [d] at d'; cases d'
section
variable {P : Pg} {w : World} {A : Around} {E : Value → Shared → Prop} {s : Shared} {I : PM} {H₀ : Heap} {L fd : Addr} {cd : Value} {m : Str → Option Value} {ft : List (Str × List Nat)}
theorem WS.range {h h' : Heap} {it : Addr} {a b c : Int} (x : WS H₀ L h m fd ft) (y : IsRangeIter h it a b c) (h0 : H₀.get? it = none) (k : KeepBut it h h') : WS H₀ L h' m fd ft := by
  refine x.other (KeepBut.toL (l := [it]) k) ?_
  intro z hz
  simp only [List.mem_cons, List.not_mem_nil, or_false] at hz
  subst hz
  obtain ⟨fvs, l', p⟩ := x.fl
  exact ⟨h0, NotTup.range y, range_ne_ns y x.ns, range_ne_l y l'⟩
theorem WS.cell {h h' : Heap} {c : Addr} {v : Option Value} (x : WS H₀ L h m fd ft) (y : h.IsCell c v) (h0 : H₀.get? c = none) (k : KeepBut c h h') : WS H₀ L h' m fd ft := by
  refine x.other (KeepBut.toL (l := [c]) k) ?_
  intro z hz
  simp only [List.mem_cons, List.not_mem_nil, or_false] at hz
  subst hz
  obtain ⟨fvs, l', p⟩ := x.fl
  exact ⟨h0, NotTup.cell y, cell_ne y x.ns, cell_ne_l y l'⟩
section
variable {prog : Program}
/-- for over range(n) -/
theorem for_rangeI {P : Pg} {E : Value → Shared → Prop} {Q : Flow → Shared → Prop} {target e : Expr} {p q : Pos} {body : List Stmt} {env : Env} {pos : Pos} (hh : A.handled = none) (hb : Sub P.base s.heap)
    (h : wpAny (model prog w) A (eval e env) (fun x s₁ => ∃ (n : Nat) (t : Tok), x = .int n t ∧ n < 2 ^ 60 ∧ ∃ Inv : Nat → Shared → Prop,
      (∀ h' tk, Sub s₁.heap h' → h'.objs.size = s₁.heap.objs.size + 2 → IsRangeIter h' (s₁.heap.objs.size + 1) ((0 : Nat) : Int) ((n : Int) - ((0 : Nat) : Int)) 1 → Inv 0 { s₁ with heap := h', toks := tk }) ∧
      (∀ i (s : Shared) h' tk t, i < n → Inv i s → IsRangeIter h' (s₁.heap.objs.size + 1) ((i + 1 : Nat) : Int) ((n : Int) - ((i + 1 : Nat) : Int)) 1 → KeepBut (s₁.heap.objs.size + 1) s.heap h' → ∀ E' : Value → Shared → Prop,
        wpAny (model prog w) A (letOwnedTupleGo target (.ref (s₁.heap.objs.size + 1)) (.int i t)) (fun _ s₁' => wpAny (model prog w) A (assign target env (.int i t)) (fun _ s₂ => wpAny (model prog w) A (execs body env) (fun f s₃ => match f with
          | .next | .cont => IsRangeIter s₃.heap (s₁.heap.objs.size + 1) ((i + 1 : Nat) : Int) ((n : Int) - ((i + 1 : Nat) : Int)) 1 ∧ Inv (i + 1) s₃
          | .brk => Q .next s₃
          | .ret v => Q (.ret v) s₃) E' s₂) E' s₁') E' { s with heap := h', toks := tk }) ∧
      (∀ (s : Shared) h' tk, Inv n s → KeepBut (s₁.heap.objs.size + 1) s.heap h' → Q .next { s with heap := h', toks := tk })) E s)
    (he : starEach [e] env = [(false, eval e env)] := by rfl)
    (hk : env.scope.kind = .function := by rfl) (hl : env.kindOf "range" = some .globalImplicit := by rfl) (hg : env.globals = mainGlobals := by rfl) (hbn : env.builtins = builtinsNs := by rfl)
    (hs : ∀ x, foldedSetIterable (.Call (.Name "range" p) [e] [] q) env x = pure x := by intro _; rfl) :
    wpAny (model prog w) A (exec (.For target (.Call (.Name "range" p) [e] [] q) body [] pos) env) Q E s := by
  refine wpAny_For (Call_ (ldB (P := P) (v := .type "range") hb PyProof.Rows.boot_range (callWith_type1 (args_cons (wpAny_mono h (fun x s₁ h₁ => args_nil ?_) fun _ _ x => x) he) he rfl) (by decide) hk hl hg hbn)) hs
  obtain ⟨n, t, rfl, hn, Inv, i0, turn, fin⟩ := h₁
  refine call_range_1 ?_
  have hsm : Builtin.Range.small 0 n 1 = true := small_one (by decide) (by decide) (by omega) (by omega)
  refine wpAny_pyIter_range (IsRange.new _ _ _ _ _ _ _) hsm ?_
  have hrs : Builtin.Range.rangeSize 0 n 1 = n := by rw [rangeSize_one]; split <;> omega
  dsimp only
  rw [hrs, Heap.size_push]
  have hitI := Heap.get?_push_size (s₁.heap.push { cls := Value.type "range", data := Data.fields #[Value.int 0 s₁.toks, Value.int (↑n) t, Value.int 1 (s₁.toks + 1)] }) (o := { cls := .type "range_iterator", data := .fields #[rawInt 0, rawInt n, rawInt 1] }) rfl
  rw [Heap.size_push] at hitI
  refine loop_walk (LCg.range_walks hh 0 n) Inv (fun i v s h' tk hi hinv hst hv hk E' => ?_) (fun s h' tk hi hk => fin s h' tk hi hk) (i0 _ _ ((Sub.push _ _).trans (Sub.push _ _)) (by rw [Heap.size_push, Heap.size_push]) ?_) ?_
  · obtain ⟨t, rfl⟩ := hv
    have e1 : (0 : Int) + ((i + 1 : Nat) : Int) * 1 = ((i + 1 : Nat) : Int) := by omega
    rw [e1] at hst ⊢
    rw [Int.zero_add]
    exact turn i s h' tk t hi hinv hst hk E'
  · simpa [IsRangeIter] using hitI
  · simpa [IsRangeIter] using hitI
end
/-- for at in range(len(value)): … -/
theorem at_loop {Q : Flow → Shared → Prop} {ivs : List Value} {ins : List T2} {il : Addr} {v : List Nat} {pl : Int} {k : Str} {tp tv tk tpl : Tok} (C : WC P I H₀ L) (IL : I L = none) (hA : A.handled = none) (hu : A.units < cLine) (ws : WS H₀ L s.heap m fd ft)
    (hlen : ft.length + 5 * (1 + wsum ins) ≤ 100000) (hI : LstI I il ivs) (hpi : Paired (InsI I) ivs ins) (hil : ins.length ≤ 1000) (hq : ∀ q ∈ ins, q.ts.length ≤ 1000)
    (hv : v.length ≤ 4) (mi : m "insertions" = some (.ref il)) (mp : m "piece" = some (.str (S []) tp)) (mv : m "value" = some (.str (S v) tv)) (mk : m "kind" = some (.str k tk)) (hcp : s.heap.IsCell (L + 1) (some (.int pl tpl))) (hca : ∃ c, s.heap.IsCell (L + 2) c)
    (hQ : ∀ h' tk' m' fd' tp', KN [L, L + 2] s.heap h' → WS H₀ L h' m' fd' (atRun ins pl k v ([], ft) v.length).2 → m' "piece" = some (.str (S (atRun ins pl k v ([], ft) v.length).1) tp') → Upd ["here", "piece", "items", "found"] m m' → (∃ c, h'.IsCell (L + 2) c) → Q .next { s with heap := h', toks := tk' }) :
    wpAny (model pw w) A (exec wAt (wenv P L cd)) Q E s := by
  refine for_rangeI (P := P) (env := wenv P L cd) hA (C.base.trans ws.sub) (callB1 (P := P) (C.base.trans ws.sub) PyProof.Rows.Boot.«len» (ldV (env := wenv P L cd) ws.ns mv (PySem.P.len_str (by rw [S_len]; omega) ?_)))
  rw [S_len]
  have hI0 : s.heap.get? (s.heap.objs.size + 1) = none := Heap.get?_none_of_le (Nat.le_succ _)
  refine ⟨v.length, _, rfl, by omega, ?_⟩
  dsimp only
  generalize s.heap.objs.size + 1 = It at *
  have hIH : H₀.get? It = none := by
    cases q : H₀.get? It with
    | none => rfl
    | some o => have := ws.sub _ _ q; rw [hI0] at this; cases this
  refine ⟨fun i s' => ∃ h tk m' fd' tp', s' = { s with heap := h, toks := tk } ∧ KN [L, L + 2] s.heap h ∧ WS H₀ L h m' fd' (atRun ins pl k v ([], ft) i).2 ∧ m' "piece" = some (.str (S (atRun ins pl k v ([], ft) i).1) tp') ∧ Upd ["here", "piece", "items", "found"] m m' ∧ (∃ c, h.IsCell (L + 2) c) ∧ (∃ a b c, IsRangeIter h It a b c), ?_, ?_, ?_⟩
  · intro h' tk sb hsz hr
    exact ⟨h', tk, m, fd, tp, rfl, sb.toL.kn', ws.keep sb, mp, Upd.refl m, let ⟨c, x⟩ := hca; ⟨c, x.keeps sb⟩, ⟨_, _, _, hr⟩⟩
  · rintro i s' h' tk t hi ⟨h₁, tk₁, m₁, fd₁, tp₁, rfl, k₁, ws₁, mp₁, u₁, ⟨cv, hc₁⟩, ⟨ra, rb, rc, hr₁⟩⟩ hit kIt E'
    have ws₂ := ws₁.range hr₁ hIH kIt
    have k₂ : KN [L, L + 2] s.heap h' := k₁.news (KeepL.kn' (KeepBut.toL (l := [It]) kIt)) (by intro a ha; simp at ha; subst ha; exact .inr hI0)
    have hc₂ : h'.IsCell (L + 2) cv := IsCell.at' hc₁ fun o e => kIt _ o (range_ne_cell hr₁ hc₁).symm e
    refine wpAny_pure (wpAny_assign_Name (stK (env := wenv P L cd) (c := L + 2) hc₂ fun h₃ hc₃ k₃ => ?_))
    dsimp only at k₃ ⊢
    have ws₃ := ws₂.cell hc₂ C.l2 k₃
    have hit₃ := range_kn hit (KeepL.kn' (KeepBut.toL (l := [L + 2]) k₃)) (by simpa using range_ne_cell hit hc₂)
    have k₃' : KN [L, L + 2] s.heap h₃ := k₂.trans (KeepL.kn' (KeepBut.toL (l := [L, L + 2]) k₃))
    have hcp₃ : h₃.IsCell (L + 1) (some (.int pl tpl)) := IsCell.kn hcp k₃' (by simp only [List.mem_cons, List.not_mem_nil, or_false, not_or]; exact ⟨cell_ne hcp ws.ns, Nat.ne_of_lt (Nat.lt_succ_self _)⟩)
    have hle := atRun_len ins pl k v ([], ft) i
    have hmul : i * (1 + wsum ins) ≤ 4 * (1 + wsum ins) := Nat.mul_le_mul_right _ (by omega)
    have hlen' : (atRun ins pl k v ([], ft) i).2.length + 1 + wsum ins ≤ 100000 := by
      have := hle.1; simp only at this; omega
    have hpl : (atRun ins pl k v ([], ft) i).1.length ≤ 900 := by have := hle.2; simp at this; omega
    refine at_turn (k := k) (v := v) C IL hA hu ws₃ hlen' hI hpi hil hq hpl hv hi ((u₁ "insertions" (by decide)).trans mi) mp₁ ((u₁ "value" (by decide)).trans mv) ((u₁ "kind" (by decide)).trans mk) hcp₃ hc₃ fun h₄ tk₄ m₄ fd₄ tp₄ k₄ ws₄ mp₄ u₄ => ?_
    dsimp only
    obtain ⟨fv3, l3, _⟩ := ws₃.fl
    have kn₄ : KN [L] h₃ h₄ := KeepL.kn (l := [L]) k₄ l3
    have hit₄ := range_kn hit₃ kn₄ (by simpa using range_ne_ns hit₃ ws₃.ns)
    exact ⟨hit₄, h₄, tk₄, m₄, fd₄, tp₄, rfl, k₃'.trans (kn₄.mono (by simp)), ws₄, mp₄, u₁.trans u₄, ⟨_, IsCell.kn hc₃ kn₄ (by simpa using cell_ne hc₃ ws₃.ns)⟩, ⟨_, _, _, hit₄⟩⟩
  · rintro s' h' tk ⟨h₁, tk₁, m₁, fd₁, tp₁, rfl, k₁, ws₁, mp₁, u₁, ⟨cv, hc₁⟩, ⟨ra, rb, rc, hr₁⟩⟩ kIt
    exact hQ h' tk m₁ fd₁ tp₁ (k₁.news (KeepL.kn' (KeepBut.toL (l := [It]) kIt)) (by intro a ha; simp at ha; subst ha; exact .inr hI0)) (ws₁.range hr₁ hIH kIt) mp₁ u₁ ⟨_, IsCell.at' hc₁ fun o e => kIt _ o (range_ne_cell hr₁ hc₁).symm e⟩
end
end Mine
end

section
open PySem PySem.W PyProof.Rows PySem.Calls PySem.SeqAt
namespace Mine
def wovTok (ins : List T2) (t : T3) (f : List (Str × List Nat)) : List (Str × List Nat) := (atRun ins t.p t.k t.v ([], f) t.v.length).2 ++ [(t.k, (atRun ins t.p t.k t.v ([], f) t.v.length).1)]
def wovRun (ins : List T2) (ts : List T3) (f : List (Str × List Nat)) : List (Str × List Nat) := ts.foldl (fun f t => wovTok ins t f) f
theorem wovRun_snoc (ins : List T2) (ts : List T3) (t : T3) (f : List (Str × List Nat)) : wovRun ins (ts ++ [t]) f = wovTok ins t (wovRun ins ts f) := by simp [wovRun]
theorem wovTok_len (ins : List T2) (t : T3) (f : List (Str × List Nat)) (hv : t.v.length ≤ 4) : (wovTok ins t f).length ≤ f.length + 5 * (1 + wsum ins) := by
  have h := (atRun_len ins t.p t.k t.v ([], f) t.v.length).1
  have hm : t.v.length * (1 + wsum ins) ≤ 4 * (1 + wsum ins) := Nat.mul_le_mul_right _ hv
  simp only [wovTok, List.length_append, List.length_cons, List.length_nil]
  simp only at h
  omega
theorem wovRun_len (ins : List T2) : ∀ (ts : List T3) (f : List (Str × List Nat)), (∀ t ∈ ts, t.v.length ≤ 4) → (wovRun ins ts f).length ≤ f.length + ts.length * (5 * (1 + wsum ins))
  | [], f, _ => by simp [wovRun]
  | t :: r, f, h => by
    have h1 := wovTok_len ins t f (h t (by simp))
    have h2 := wovRun_len ins r (wovTok ins t f) fun x hx => h x (by simp [hx])
    show (wovRun ins r (wovTok ins t f)).length ≤ _
    rw [List.length_cons, Nat.add_mul]
    omega
section
variable {P : Pg} {w : World} {A : Around} {E : Value → Shared → Prop} {s : Shared} {I : PM} {H₀ : Heap} {L fd : Addr} {cd : Value} {m : Str → Option Value} {ft : List (Str × List Nat)}
/-- place, kind, value = a token -/
theorem assignK {R : Shared → Prop} {p q q' r : Pos} {k : Nat} {t : Addr} {a b c : Value} {v₀ : Option Value} (hh : A.handled = none) (ht : s.heap.IsTuple t #[a, b, c]) (hn : s.heap.Ns L m) (hc : s.heap.IsCell (L + 1) v₀)
    (h : ∀ h' tk, h'.Ns L (fun z => if z = "value" then some c else if z = "kind" then some b else m z) → h'.IsCell (L + 1) (some a) → KeepL [L, L + 1] s.heap h' → R { s with heap := h', toks := tk }) :
    wpAny (model pw w) A (assign (.Tuple [.Name "place" p, .Name "kind" q, .Name "value" q'] k r) (wenv P L cd) (.ref t)) (fun _ s' => R s') E s := by
  refine wpAny_assign_Tuple hh ht rfl rfl fun h₂ x₂ => ?_
  have k₂ : Sub s.heap h₂ := Sub.ext x₂
  have hcL := cell_ne hc hn
  show wpAny _ _ (do holding [b, c] (assign (.Name "place" p) (wenv P L cd) a); holding [c] (assign (.Name "kind" q) (wenv P L cd) b); holding [] (assign (.Name "value" q') (wenv P L cd) c); pure ()) _ _ _
  refine wpAny_bind (wpAny_holding (wpAny_assign_Name (stK (env := wenv P L cd) (c := L + 1) (hc.keeps k₂) fun h₃ hc₃ k₃ => ?_)))
  refine wpAny_bind (wpAny_holding (wpAny_assign_Name (wpAny_storeName_local (by rfl) ((hn.keeps k₂).at' fun o e => k₃ _ o hcL.symm e) (fun h₄ hn₄ s₄ => ?_) (by rfl))))
  refine wpAny_bind (wpAny_holding (wpAny_assign_Name (wpAny_storeName_local (by rfl) hn₄ (fun h₅ hn₅ s₅ => ?_) (by rfl))))
  replace s₄ : Heap.SameBut L h₃ h₄ := s₄
  replace s₅ : Heap.SameBut L h₄ h₅ := s₅
  exact wpAny_pure (h h₅ _ hn₅ (IsCell.at' (IsCell.at' hc₃ fun o e => s₄.extBut _ o hcL e) fun o e => s₅.extBut _ o hcL e) (((k₂.toL.trans (KeepBut.toL k₃)).trans (same_toL s₄)).trans (same_toL s₅)))
/-- found.append((kind, piece)) -/
theorem w_last {Q : Flow → Shared → Prop} {p : List Nat} {k : Str} {tp tk : Tok} (C : WC P I H₀ L) (ws : WS H₀ L s.heap m fd ft) (hlen : ft.length ≤ 100000) (mp : m "piece" = some (.str (S p) tp)) (mk : m "kind" = some (.str k tk))
    (hQ : ∀ h' tk', KeepL [fd] s.heap h' → WS H₀ L h' m fd (ft ++ [(k, p)]) → Q .next { s with heap := h', toks := tk' }) :
    wpAny (model pw w) A (exec (nth (loopBody wFor) 2 (.Pass default)) (wenv P L cd)) Q E s := by
  obtain ⟨fvs, hl, hpf⟩ := ws.fl
  refine append_stmt (env := wenv P L cd) (items := fvs) ws.ns ws.mf hl ?_
  refine Tuple_ (spliced_cons (ldV (env := wenv P L cd) ws.ns mk (spliced_cons (ldV (env := wenv P L cd) ws.ns mp (spliced_nil (wpAny_newObj_type ?_))))))
  have sb₂ := Sub.push s.heap { cls := .type "tuple", data := .seq [.str k tk, .str (S p) tp].toArray }
  have eT := Heap.get?_push_size s.heap (o := { cls := .type "tuple", data := .seq [.str k tk, .str (S p) tp].toArray }) rfl
  have hne : s.heap.objs.size ≠ fd := by rintro q; obtain ⟨_, e⟩ := hl; exact new_ne e q.symm
  generalize s.heap.objs.size = ta at *
  generalize s.heap.push _ = h₂ at *
  refine ⟨hl.sub sb₂, by have := hpf.length; unfold sizeLine; omega, fun h₃ hl₃ s₃ => ?_⟩
  dsimp only at s₃ ⊢
  have kb : KeepL [fd] h₂ h₃ := same_one s₃
  refine hQ h₃ _ (sb₂.toL.trans kb) ⟨(ws.sub.trans sb₂).past kb (by simp [ws.fn]), (ws.ns.keeps sb₂).sameBut s₃ ws.fdL.symm, ws.mf, ⟨_, hl₃, ?_⟩, ws.fn⟩
  refine paired_snoc (paired_mono (fun _ _ q => (P2At.sub q sb₂).keepL kb (by simpa using NotTup.lst (hl.sub sb₂))) hpf) ?_
  exact ⟨ta, _, tk, tp, rfl, s₃.extBut _ _ hne eT⟩
def WU : List Str := ["place", "kind", "value", "here", "piece", "items", "found"]
/-- for place, kind, value in tokens: … -/
theorem w_tokens {Q : Flow → Shared → Prop} {ivs tvs : List Value} {ins : List T2} {ts : List T3} {il tl : Addr} (C : WC P I H₀ L) (IL : I L = none) (hA : A.handled = none) (hu : A.units < cLine) (ws : WS H₀ L s.heap m fd [])
    (hlen : ts.length * (5 * (1 + wsum ins)) + 5 * (1 + wsum ins) ≤ 100000) (hI : LstI I il ivs) (hpi : Paired (InsI I) ivs ins) (hil : ins.length ≤ 1000) (hq : ∀ q ∈ ins, q.ts.length ≤ 1000)
    (hT : LstI I tl tvs) (hpt : Paired (TokI I) tvs ts) (hv : ∀ t ∈ ts, t.v.length ≤ 4) (mt : m "tokens" = some (.ref tl)) (mi : m "insertions" = some (.ref il)) (hcp : ∃ c, s.heap.IsCell (L + 1) c) (hca : ∃ c, s.heap.IsCell (L + 2) c)
    (hQ : ∀ h' tk' m' fd', KN [L, L + 1, L + 2] s.heap h' → WS H₀ L h' m' fd' (wovRun ins ts []) → Upd WU m m' → Q .next { s with heap := h', toks := tk' }) :
    wpAny (model pw w) A (exec wFor (wenv P L cd)) Q E s := by
  refine for_list hA (ldV (env := wenv P L cd) ws.ns mt ⟨tl, tvs.toArray, rfl, hT.is (C.frz.sub ws.sub), ?_⟩)
  have sb := Sub.push s.heap { cls := .type "list_iterator", data := .fields #[.ref tl, .int 0 0] }
  have eI := Heap.get?_push_size s.heap (o := { cls := .type "list_iterator", data := .fields #[.ref tl, .int 0 0] }) rfl
  have hI0 : s.heap.get? s.heap.objs.size = none := Heap.get?_none_of_le (Nat.le_refl _)
  generalize s.heap.objs.size = It at *
  have hIH : H₀.get? It = none := by
    cases q : H₀.get? It with
    | none => rfl
    | some o => have := ws.sub _ _ q; rw [hI0] at this; cases this
  refine ⟨fun i s' => ∃ h tk m' fd', s' = { s with heap := h, toks := tk } ∧ KN [L, L + 1, L + 2] s.heap h ∧ WS H₀ L h m' fd' (wovRun ins (ts.take i) []) ∧ h.IsListIter It tl i ∧ Upd WU m m' ∧ (∃ c, h.IsCell (L + 1) c) ∧ (∃ c, h.IsCell (L + 2) c),
    ⟨_, s.toks, m, fd, rfl, sb.toL.kn', ws.keep sb, ⟨_, eI, rfl, rfl⟩, Upd.refl m, let ⟨c, x⟩ := hcp; ⟨c, x.keeps sb⟩, let ⟨c, x⟩ := hca; ⟨c, x.keeps sb⟩⟩, ?_, ?_⟩
  · rintro i v s' h' tk ⟨h₁, tk₁, m₁, fd₁, rfl, k₁, ws₁, hit₁, u₁, ⟨cp, hcp₁⟩, ⟨ca, hca₁⟩⟩ hit' hlT hv₀ kIt E'
    have hv' : tvs[i]? = some v := by simpa using hv₀
    obtain ⟨t, ht, ti⟩ : ∃ t, ts[i]? = some t ∧ TokI I v t := by
      have hl := hpt.length
      have hi : i < ts.length := by have := (List.getElem?_eq_some_iff.1 hv').1; omega
      obtain ⟨v', e, q⟩ := paired_at hpt (List.getElem?_eq_getElem hi)
      rw [hv'] at e; cases e
      exact ⟨_, List.getElem?_eq_getElem hi, q⟩
    have hv4 := hv t (List.mem_of_getElem? ht)
    have ws₂ := ws₁.iter hit₁ hIH kIt
    have k₂ : KN [L, L + 1, L + 2] s.heap h' := k₁.news (KeepL.kn' (KeepBut.toL (l := [It]) kIt)) (by intro a ha; simp at ha; subst ha; exact .inr hI0)
    have hcp₂ : h'.IsCell (L + 1) cp := IsCell.at' hcp₁ fun o e => kIt _ o (iter_ne_cell hit₁ hcp₁).symm e
    have hca₂ : h'.IsCell (L + 2) ca := IsCell.at' hca₁ fun o e => kIt _ o (iter_ne_cell hit₁ hca₁).symm e
    obtain ⟨ta, u1, u2, u3, rfl, _, htup⟩ := ti.tuple (C.frz.sub ws₂.sub)
    refine let_list hit' (assignK hA htup ws₂.ns hcp₂ fun h₃ tk₃ hn₃ hcp₃ k₃ => ?_)
    dsimp only at k₃ ⊢
    have ws₃ : WS H₀ L h₃ (fun z => if z = "value" then some (.str (S t.v) u3) else if z = "kind" then some (.str t.k u2) else m₁ z) fd₁ (wovRun ins (ts.take i) []) := by
      obtain ⟨fvs, l', p⟩ := ws₂.fl
      have hnt : ∀ a ∈ [L, L + 1], NotTup h' a := by
        intro a ha
        simp only [List.mem_cons, List.not_mem_nil, or_false] at ha
        rcases ha with rfl | rfl
        · exact NotTup.ns ws₂.ns
        · exact NotTup.cell hcp₂
      refine ⟨ws₂.sub.past k₃ (by simp [C.l0, C.l1]), hn₃, ws₂.mf, ⟨fvs, l'.at fun o e => k₃ _ o ?_ e, paired_mono (fun _ _ q => P2At.keepL q k₃ hnt) p⟩, ws₂.fn⟩
      simp only [List.mem_cons, List.not_mem_nil, or_false, not_or]
      exact ⟨l'.ns_ne ws₂.ns, (cell_ne_l hcp₂ l').symm⟩
    have mv₃ : (fun z : Str => if z = "value" then some (Value.str (S t.v) u3) else if z = "kind" then some (.str t.k u2) else m₁ z) "value" = some (.str (S t.v) u3) := if_pos rfl
    have mk₃ : (fun z : Str => if z = "value" then some (Value.str (S t.v) u3) else if z = "kind" then some (.str t.k u2) else m₁ z) "kind" = some (.str t.k u2) := rfl
    have u₃ : Upd ["kind", "value"] m₁ (fun z : Str => if z = "value" then some (Value.str (S t.v) u3) else if z = "kind" then some (.str t.k u2) else m₁ z) := by
      intro z hz
      simp only [List.mem_cons, List.not_mem_nil, or_false, not_or] at hz
      exact (if_neg hz.2).trans (if_neg hz.1)
    generalize (fun z : Str => if z = "value" then some (Value.str (S t.v) u3) else if z = "kind" then some (.str t.k u2) else m₁ z) = m₃ at *
    have hca₃ : h₃.IsCell (L + 2) ca := IsCell.at' hca₂ fun o e => k₃ _ o (by simp only [List.mem_cons, List.not_mem_nil, or_false, not_or]; exact ⟨cell_ne hca₂ ws₂.ns, Nat.ne_of_gt (Nat.lt_succ_self _)⟩) e
    have kn₃ : KN [L, L + 1, L + 2] s.heap h₃ := k₂.trans ((KeepL.kn' k₃).mono (by simp))
    have hit₃ : h₃.IsListIter It tl (i + 1) := iter_kn hit' (KeepL.kn' k₃) (by simp only [List.mem_cons, List.not_mem_nil, or_false, not_or]; exact ⟨iter_ne_ns hit' ws₂.ns, iter_ne_cell hit' hcp₂⟩)
    -- piece = ''
    refine wpAny_execs_cons (wpAny_Assign_Name (wpAny_Constant_str ?_))
    refine wpAny_storeName_local (by rfl) ws₃.ns (fun h₄ hn₄ s₄ => ?_) (by rfl)
    replace s₄ : Heap.SameBut L h₃ h₄ := s₄
    replace hn₄ : h₄.Ns L _ := hn₄
    rw [emp_eq] at hn₄
    have ws₄ := ws₃.set C hn₄ (ms ws₃.mf) (same_one s₄)
    have hcp₄ : h₄.IsCell (L + 1) (some (.int t.p u1)) := IsCell.at' hcp₃ fun o e => s₄.extBut _ o (cell_ne hcp₃ ws₃.ns) e
    have hca₄ : h₄.IsCell (L + 2) ca := IsCell.at' hca₃ fun o e => s₄.extBut _ o (cell_ne hca₃ ws₃.ns) e
    have hit₄ := iter_kn hit₃ (KeepL.kn' (same_one s₄)) (by simpa using iter_ne_ns hit₃ ws₃.ns)
    have hlw := wovRun_len ins (ts.take i) [] fun x hx => hv x (List.mem_of_mem_take hx)
    have hmul : (ts.take i).length * (5 * (1 + wsum ins)) ≤ ts.length * (5 * (1 + wsum ins)) := Nat.mul_le_mul_right _ (by rw [List.length_take]; omega)
    have hlen₁ : (wovRun ins (ts.take i) []).length + 5 * (1 + wsum ins) ≤ 100000 := by simp only [List.length_nil] at hlw; omega
    dsimp only
    refine wpAny_execs_cons (at_loop (v := t.v) (k := t.k) C IL hA hu ws₄ hlen₁ hI hpi hil hq hv4 (ms ((u₃ "insertions" (by decide)).trans ((u₁ "insertions" (by decide)).trans mi))) (if_pos rfl) (ms mv₃) (ms mk₃) hcp₄ ⟨_, hca₄⟩ fun h₅ tk₅ m₅ fd₅ tp₅ k₅ ws₅ mp₅ u₅ hca₅ => ?_)
    have hcp₅ := IsCell.kn hcp₄ k₅ (by simp only [List.mem_cons, List.not_mem_nil, or_false, not_or]; exact ⟨cell_ne hcp₄ ws₄.ns, Nat.ne_of_lt (Nat.lt_succ_self _)⟩)
    have hit₅ := iter_kn hit₄ k₅ (by simp only [List.mem_cons, List.not_mem_nil, or_false, not_or]; exact ⟨iter_ne_ns hit₄ ws₄.ns, iter_ne_cell hit₄ hca₄⟩)
    have hl5 := (atRun_len ins t.p t.k t.v ([], wovRun ins (ts.take i) []) t.v.length).1
    have hm5 : t.v.length * (1 + wsum ins) ≤ 4 * (1 + wsum ins) := Nat.mul_le_mul_right _ hv4
    dsimp only
    refine wpAny_execs_cons (w_last C ws₅ (by simp only at hl5; omega) mp₅ ((u₅ "kind" (by decide)).trans (ms mk₃)) fun h₆ tk₆ k₆ ws₆ => ?_)
    refine wpAny_execs_nil ?_
    obtain ⟨fv5, l5, _⟩ := ws₅.fl
    have kn₆ : KN [] h₅ h₆ := KeepL.kn (l := []) k₆ l5
    have hit₆ := iter_kn hit₅ kn₆ (by simp)
    have e6 : wovRun ins (ts.take (i + 1)) [] = wovTok ins t (wovRun ins (ts.take i) []) := by rw [take_succ_of ht, wovRun_snoc]
    refine ⟨⟨hit₆, hT.is (C.frz.sub ws₆.sub)⟩, h₆, tk₆, m₅, fd₅, rfl, ((kn₃.trans ((KeepL.kn' (same_one s₄)).mono (by simp))).trans (k₅.mono (by simp))).trans (kn₆.mono (by simp)), e6 ▸ ws₆, hit₆, ?_, ⟨_, IsCell.kn hcp₅ kn₆ (by simp)⟩, ?_⟩
    · refine ((u₁.trans (u₃.mono (by decide))).trans (?_ : Upd WU m₃ _)).trans (u₅.mono (by decide))
      intro z hz
      exact if_neg (fun q => hz (by rw [q]; decide))
    · obtain ⟨c5, hc5⟩ := hca₅
      exact ⟨_, IsCell.kn hc5 kn₆ (by simp)⟩
  · rintro s' h' tk ⟨h₁, tk₁, m₁, fd₁, rfl, k₁, ws₁, hit₁, u₁, ⟨cp, hcp₁⟩, ⟨ca, hca₁⟩⟩ kIt
    have hl := hpt.length
    rw [List.take_of_length_le (by simp; omega)] at ws₁
    exact hQ h' tk m₁ fd₁ (k₁.news (KeepL.kn' (KeepBut.toL (l := [It]) kIt)) (by intro a ha; simp at ha; subst ha; exact .inr hI0)) (ws₁.iter hit₁ hIH kIt) u₁
end
end Mine
end

section
open PySem PySem.W PyProof.Rows PySem.Calls PySem.SeqAt
namespace Mine
def wLast : Stmt := stmtA 6 3
def wov (start : Int) (ts : List T3) (ins : List T2) : List (Str × List Nat) := foundOf (wovRun ins ts []) (ins.filter fun q => decide (q.at' ≥ start + tot ts))
theorem wsum_append (a b : List T2) : wsum (a ++ b) = wsum a + wsum b := by simp [wsum, foundOf]
section
variable {P : Pg} {w : World} {A : Around} {E : Value → Shared → Prop} {s : Shared} {I : PM} {H₀ : Heap} {L fd : Addr} {cd : Value} {m : Str → Option Value} {ft : List (Str × List Nat)}
/-- for index, items in insertions: if index >= whole: … -/
theorem w_rest {Q : Flow → Shared → Prop} {ivs : List Value} {ins : List T2} {il : Addr} {wh : Int} {tw : Tok} (C : WC P I H₀ L) (hA : A.handled = none) (ws : WS H₀ L s.heap m fd ft)
    (hlen : ft.length + wsum ins ≤ 100000) (hI : LstI I il ivs) (hpi : Paired (InsI I) ivs ins) (hil : ins.length ≤ 1000) (hq : ∀ q ∈ ins, q.ts.length ≤ 1000)
    (mi : m "insertions" = some (.ref il)) (mw : m "whole" = some (.int wh tw))
    (hQ : ∀ h' tk' m' fd', WS H₀ L h' m' fd' (foundOf ft (ins.filter fun q => decide (q.at' ≥ wh))) → Q .next { s with heap := h', toks := tk' }) :
    wpAny (model pw w) A (exec wLast (wenv P L cd)) Q E s := by
  refine for_list hA (ldV (env := wenv P L cd) ws.ns mi ⟨il, ivs.toArray, rfl, hI.is (C.frz.sub ws.sub), ?_⟩)
  have sb := Sub.push s.heap { cls := .type "list_iterator", data := .fields #[.ref il, .int 0 0] }
  have eI := Heap.get?_push_size s.heap (o := { cls := .type "list_iterator", data := .fields #[.ref il, .int 0 0] }) rfl
  have hI0 : s.heap.get? s.heap.objs.size = none := Heap.get?_none_of_le (Nat.le_refl _)
  generalize s.heap.objs.size = It at *
  have hIH : H₀.get? It = none := by
    cases q : H₀.get? It with
    | none => rfl
    | some o => have := ws.sub _ _ q; rw [hI0] at this; cases this
  refine ⟨fun i s' => ∃ h tk m' fd', s' = { s with heap := h, toks := tk } ∧ WS H₀ L h m' fd' (foundOf ft ((ins.take i).filter fun q => decide (q.at' ≥ wh))) ∧ h.IsListIter It il i ∧ Upd ["index", "items", "found"] m m',
    ⟨_, s.toks, m, fd, rfl, ?_, ⟨_, eI, rfl, rfl⟩, Upd.refl m⟩, ?_, ?_⟩
  · have : foundOf ft (List.filter (fun q => decide (q.at' ≥ wh)) (List.take 0 ins)) = ft := by simp [foundOf]
    rw [this]; exact ws.keep sb
  · rintro i v s' h' tk ⟨h₁, tk₁, m₁, fd₁, rfl, ws₁, hit₁, u₁⟩ hit' hlD' hv kIt E'
    have hv' : ivs[i]? = some v := by simpa using hv
    obtain ⟨q, hq', a, nn, u1, u2, rfl, e2, e3⟩ : ∃ q, ins[i]? = some q ∧ InsI I v q := by
      have hl := hpi.length
      have hi : i < ins.length := by have := (List.getElem?_eq_some_iff.1 hv').1; omega
      obtain ⟨v', e, r⟩ := paired_at hpi (List.getElem?_eq_getElem hi)
      rw [hv'] at e; cases e
      exact ⟨_, List.getElem?_eq_getElem hi, r⟩
    have ws₂ := ws₁.iter hit₁ hIH kIt
    have ht : h'.IsTuple a #[.int q.at' u1, u2] := ⟨_, (C.frz.sub ws₂.sub _ _ e2).1, rfl, _, rfl⟩
    refine let_list hit' (assign2 (env := wenv P L cd) hA ht ws₂.ns (fun h₃ tk₃ hn₃ k₃ => ?_) (by rfl) (by rfl) (by rfl))
    replace k₃ : KeepBut L h' h₃ := k₃
    replace hn₃ : h₃.Ns L _ := hn₃
    have ws₃ : WS H₀ L h₃ (fun z => if z = "items" then some u2 else if z = "index" then some (.int q.at' u1) else m₁ z) fd₁ _ := ws₂.set C hn₃ ws₂.mf (KeepBut.toL k₃)
    have hit₃ : h₃.IsListIter It il (i + 1) := hit'.at fun o e => k₃ _ o (iter_ne_ns hit' ws₂.ns) e
    have mi₃ : (fun z : Str => if z = "items" then some u2 else if z = "index" then some (.int q.at' u1) else m₁ z) "items" = some u2 := if_pos rfl
    have mx₃ : (fun z : Str => if z = "items" then some u2 else if z = "index" then some (.int q.at' u1) else m₁ z) "index" = some (.int q.at' u1) := rfl
    have mw₃ : (fun z : Str => if z = "items" then some u2 else if z = "index" then some (.int q.at' u1) else m₁ z) "whole" = some (.int wh tw) := (u₁ "whole" (by decide)).trans mw
    have u₃ : Upd ["index", "items", "found"] m (fun z : Str => if z = "items" then some u2 else if z = "index" then some (.int q.at' u1) else m₁ z) := by
      intro z hz
      have := u₁ z hz
      simp only [List.mem_cons, List.not_mem_nil, or_false, not_or] at hz
      exact (if_neg hz.2.1).trans ((if_neg hz.1).trans this)
    generalize (fun z : Str => if z = "items" then some u2 else if z = "index" then some (.int q.at' u1) else m₁ z) = m₃ at *
    refine wpAny_execs_cons (wpAny_If (wpAny_isTrue_Compare1 (ldV (env := wenv P L cd) ws₃.ns mx₃ (ldV (env := wenv P L cd) ws₃.ns mw₃ (PySem.P.ge_int (wpAny_truthy_bool ?_))))))
    by_cases hc : q.at' ≥ wh
    · rw [if_pos (decide_eq_true hc)]
      have hl3 : foundOf ft ((ins.take (i + 1)).filter fun q => decide (q.at' ≥ wh)) = foundOf ft ((ins.take i).filter fun q => decide (q.at' ≥ wh)) ++ pairsOf q.ts := by
        rw [take_succ_of hq', List.filter_append]; simp [foundOf, hc]
      have hle : (foundOf ft ((ins.take i).filter fun q => decide (q.at' ≥ wh))).length ≤ 100000 := by
        rw [foundOf_len]
        have h1 := wsum_filter (fun q => decide (q.at' ≥ wh)) (ins.take i)
        have h2 : wsum (ins.take i) ≤ wsum ins := by
          have := wsum_append (ins.take i) (ins.drop i)
          rw [List.take_append_drop] at this; omega
        omega
      refine wpAny_execs_cons (found_add C hA ws₃ hle mi₃ e3 (hq q (List.mem_of_getElem? hq')) (fun h₄ tk₄ m₄ fd₄ k₄ ws₄ hn4 u₄ => ?_) (by rfl) (fun _ => by rfl) (by decide) (by rfl) (by decide))
      refine wpAny_execs_nil (wpAny_execs_nil ?_)
      have hit₄ : h₄.IsListIter It il (i + 1) := hit₃.at fun o e => k₄ _ o (by simpa using iter_ne_ns hit₃ ws₃.ns) e
      exact ⟨⟨hit₄, hI.is (C.frz.sub ws₄.sub)⟩, h₄, tk₄, m₄, fd₄, rfl, hl3 ▸ ws₄, hit₄, u₃.trans (u₄.mono (by simp))⟩
    · rw [if_neg (by simpa using hc)]
      have hl3 : (ins.take (i + 1)).filter (fun q => decide (q.at' ≥ wh)) = (ins.take i).filter fun q => decide (q.at' ≥ wh) := by
        rw [take_succ_of hq', List.filter_append]; simp [hc]
      refine wpAny_execs_nil (wpAny_execs_nil ?_)
      exact ⟨⟨hit₃, hI.is (C.frz.sub ws₃.sub)⟩, h₃, _, m₃, fd₁, rfl, hl3.symm ▸ ws₃, hit₃, u₃⟩
  · rintro s' h' tk ⟨h₁, tk₁, m₁, fd₁, rfl, ws₁, hit₁, u₁⟩ kIt
    have hl := hpi.length
    rw [List.take_of_length_le (by simp; omega)] at ws₁
    exact hQ h' tk m₁ fd₁ (ws₁.iter hit₁ hIH kIt)
theorem woven_call {Q : Value → Shared → Prop} {u : Value} {ivs : List Value} {ins : List T2} {ts : List T3} {il : Addr} {start : Int} {t₀ : Tok}
    (hd : A.depth < recursionLimit) (hA : A.handled = none) (hu : A.units + 10 < cLine) (hb : Sub P.base s.heap) (FI : Frz I s.heap)
    (hlen : ts.length * (5 * (1 + wsum ins)) + 5 * (1 + wsum ins) ≤ 100000) (hts : ts.length ≤ 1000) (hI : LstI I il ivs) (hpi : Paired (InsI I) ivs ins) (hil : ins.length ≤ 1000) (hq : ∀ q ∈ ins, q.ts.length ≤ 1000)
    (hT : ToksI I u ts) (hv : ∀ t ∈ ts, t.v.length ≤ 4)
    (hQ : ∀ fd fvs h' tk, Sub s.heap h' → s.heap.get? fd = none → Lst h' fd fvs → Paired (P2At h') fvs (wov start ts ins) → Q (.ref fd) { s with heap := h', toks := tk }) :
    wpAny (model pw w) A (call (.ref P.fw) [u, .ref il, .int start t₀]) Q E s := by
  obtain ⟨o, pm, cd, doc, ho, hdat, hcd⟩ := P.hfw.obj
  obtain ⟨tl, tvs, rfl, hL, hpt⟩ := hT.lst
  refine wpAny_call (call_cells_ret hd (hb _ _ ho) hdat (P.nolimit.keeps hb) (hcd.keeps hb) (binds := [(Str.ofString "tokens", .ref tl), (Str.ofString "insertions", .ref il), (Str.ofString "start", .int start t₀)]) rfl ?_ (fun h₁ tk₁ F X => ?_))
  · intro x hx
    simp only [List.mem_cons, List.not_mem_nil, or_false] at hx
    rcases hx with rfl | rfl | rfl <;> exact .inl (by rfl)
  have hLf : s.heap.get? s.heap.objs.size = none := Heap.get?_none_of_le (Nat.le_refl _)
  have C : WC P I s.heap s.heap.objs.size := ⟨hb, FI, hLf, Heap.get?_none_of_le (Nat.le_succ _), Heap.get?_none_of_le (Nat.le_trans (Nat.le_succ _) (Nat.le_succ _))⟩
  have hcp := X.cell "place" (s.heap.objs.size + 1) (by rfl)
  have hca := X.cell "at" (s.heap.objs.size + 2) (by rfl)
  have hn₁ := F.ns
  have k₁ : Sub s.heap h₁ := F.keep
  have IL : I s.heap.objs.size = none := FI.none_new hLf
  clear F X
  generalize s.heap.objs.size = L at *
  have hA' : (A.deeper (envOfC (nameA 6) (scopeA 6) L P.fw cd)).handled = none := hA
  have hu' : (A.deeper (envOfC (nameA 6) (scopeA 6) L P.fw cd)).units < cLine := by show A.units + 3 < cLine; omega
  generalize (A.deeper (envOfC (nameA 6) (scopeA 6) L P.fw cd)) = A' at *
  obtain ⟨m₁, hm₁⟩ : ∃ m₁ : Str → Option Value, bindL (envOfC (nameA 6) (scopeA 6) L P.fw cd).kindOf [(Str.ofString "tokens", .ref tl), (Str.ofString "insertions", .ref il), (Str.ofString "start", .int start t₀)] (fun _ => none) = m₁ := ⟨_, rfl⟩
  have mt₁ : m₁ "tokens" = some (.ref tl) := by rw [← hm₁]; rfl
  have mi₁ : m₁ "insertions" = some (.ref il) := by rw [← hm₁]; rfl
  have ms₁ : m₁ "start" = some (.int start t₀) := by rw [← hm₁]; rfl
  rw [hm₁] at hn₁
  clear hm₁
  have hb₁ : Sub P.base h₁ := hb.trans k₁
  have F₁ : Frz I h₁ := FI.sub k₁
  -- whole = start + sum(…)
  refine wpAny_execs_cons (wpAny_Assign_Name (wpAny_BinOp (ldV (env := wenv P L cd) hn₁ ms₁ (lens_sum (P := P) (env := wenv P L cd) hA' hb₁ F₁ hn₁ mt₁ ⟨tl, _, tvs, rfl, hL.choose_spec, hpt⟩ hts hv (fun h₂ tk₂ t₂ k₂ => add_int ?_) (by rfl) (fun _ => by rfl) (fun _ => by rfl) (by decide) (by rfl) (by decide) (by rfl) (by rfl) (by rfl) (by rfl) (by rfl) (by rfl)))))
  refine wpAny_storeName_local (by rfl) (hn₁.keeps k₂) (fun h₃ hn₃ s₃ => ?_) (by rfl)
  replace s₃ : Heap.SameBut L h₂ h₃ := s₃
  replace hn₃ : h₃.Ns L _ := hn₃
  have hn₂ := hn₁.keeps k₂
  -- found = []
  refine wpAny_execs_cons (wpAny_Assign_Name (List_ (spliced_nil (wpAny_newObj_type ?_))))
  have sb := Sub.push h₃ { cls := .type "list", data := .seq ([] : List Value).toArray }
  have eN := Heap.get?_push_size h₃ (o := { cls := .type "list", data := .seq ([] : List Value).toArray }) rfl
  have hN0 : h₃.get? h₃.objs.size = none := Heap.get?_none_of_le (Nat.le_refl _)
  dsimp only
  generalize h₃.objs.size = fd at *
  generalize h₃.push _ = h₄ at *
  refine wpAny_storeName_local (by rfl) (hn₃.keeps sb) (fun h₅ hn₅ s₅ => ?_) (by rfl)
  replace s₅ : Heap.SameBut L h₄ h₅ := s₅
  replace hn₅ : h₅.Ns L _ := hn₅
  have hfL : fd ≠ L := by rintro rfl; obtain ⟨o, _, _, e, _⟩ := hn₃; rw [hN0] at e; cases e
  have k₃ : Sub s.heap h₃ := (k₁.trans k₂).past (same_one s₃) (by simp [hLf])
  have ws₅ : WS s.heap L h₅ _ fd [] := ⟨(k₃.trans sb).past (same_one s₅) (by simp [hLf]), hn₅, if_pos rfl, ⟨[], ⟨_, s₅.extBut _ _ hfL eN⟩, .nil⟩, by
    cases q : s.heap.get? fd with
    | none => rfl
    | some o => have := k₃ _ _ q; rw [hN0] at this; cases this⟩
  have cell5 : ∀ {c v}, h₁.IsCell c v → h₅.IsCell c v := by
    intro c v x
    have x₂ := x.keeps k₂
    have x₃ := IsCell.at' x₂ fun o e => s₃.extBut _ o (cell_ne x₂ hn₂) e
    have x₄ := x₃.keeps sb
    exact IsCell.at' x₄ fun o e => s₅.extBut _ o (cell_ne x₃ hn₃) e
  dsimp only
  refine wpAny_execs_cons (w_tokens C IL hA' hu' ws₅ hlen hI hpi hil hq hL hpt hv mt₁ mi₁ ⟨_, cell5 hcp⟩ ⟨_, cell5 hca⟩ fun h₆ tk₆ m₆ fd₆ k₆ ws₆ u₆ => ?_)
  dsimp only
  have hwl := wovRun_len ins ts [] hv
  refine wpAny_execs_cons (w_rest C hA' ws₆ (by simp only [List.length_nil] at hwl; omega) hI hpi hil hq ((u₆ "insertions" (by decide)).trans mi₁) ((u₆ "whole" (by decide)).trans rfl) fun h₇ tk₇ m₇ fd₇ ws₇ => ?_)
  obtain ⟨fvs, l₇, p₇⟩ := ws₇.fl
  dsimp only
  refine wpAny_execs_cons (wpAny_Return_some (ldV (env := wenv P L cd) ws₇.ns ws₇.mf ?_))
  exact hQ fd₇ fvs h₇ _ ws₇.sub ws₇.fn l₇ p₇
end
end Mine
end

section
open PySem PySem.W PyProof.Rows PySem.Calls PySem.SeqAt
namespace Mine
abbrev KV := Str × List Nat
def plen (l : List KV) : Nat := (l.map fun x => x.2.length).sum
/-- pairs laid out from a place on -/
def dues : Int → List KV → List T3
  | _, [] => []
  | p, x :: r => ⟨p, x.1, x.2⟩ :: dues (p + x.2.length) r
theorem plen_append (a b : List KV) : plen (a ++ b) = plen a + plen b := by simp [plen]
theorem dues_append : ∀ (a b : List KV) (p : Int), dues p (a ++ b) = dues p a ++ dues (p + plen a) b
  | [], b, p => by simp [dues, plen]
  | x :: r, b, p => by
    have := dues_append r b (p + x.2.length)
    simp only [List.cons_append, dues, this]
    have e : p + x.2.length + (plen r : Int) = p + (plen (x :: r) : Int) := by simp [plen]; omega
    rw [e]
theorem outs_dues : ∀ (ts : List T3) (p : Int), outs p ts = dues p (pairsOf ts)
  | [], _ => rfl
  | t :: r, p => by simp only [outs, pairsOf, List.map_cons, dues]; rw [outs_dues r]; rfl
theorem plen_pairs (ts : List T3) : plen (pairsOf ts) = tot ts := by simp [plen, pairsOf, tot, Function.comp_def]
def allOf (qs : List T2) : List KV := foundOf [] qs
theorem allOf_cons (q : T2) (r : List T2) : allOf (q :: r) = pairsOf q.ts ++ allOf r := by simp [allOf, foundOf]
theorem allOf_append (a b : List T2) : allOf (a ++ b) = allOf a ++ allOf b := by simp [allOf, foundOf]
theorem foundOf_eq (f : List KV) (qs : List T2) : foundOf f qs = f ++ allOf qs := by simp [allOf, foundOf]
/-- what the generator puts out at one token, as pairs -/
def cutG (i : Int) (k : Str) (v : List Nat) : List T2 → Nat → List KV
  | [], o => if o < v.length then [(k, v.drop o)] else []
  | q :: r, o =>
    if q.at' ≤ i + v.length then
      (if (v.drop o).take ((q.at' - i).toNat - o) = [] then [] else [(k, (v.drop o).take ((q.at' - i).toNat - o))]) ++ (pairsOf q.ts ++ cutG i k v r (q.at' - i).toNat)
    else if o < v.length then [(k, v.drop o)] else []
def remG (x : Int) : List T2 → List T2
  | [] => []
  | q :: r => if q.at' ≤ x then remG x r else q :: r
theorem inner_cut (i : Int) (k : Str) (v : List Nat) : ∀ (pend : List T2) (o : Nat) (p : Int), o ≤ v.length → Ord (i + o) pend →
    (inner i k v pend o p).1 ++ (if (inner i k v pend o p).2.2.1 < v.length then [⟨(inner i k v pend o p).2.2.2, k, v.drop (inner i k v pend o p).2.2.1⟩] else []) = dues p (cutG i k v pend o) ∧
    (inner i k v pend o p).2.1 = remG (i + v.length) pend ∧
    (if (inner i k v pend o p).2.2.1 < v.length then (inner i k v pend o p).2.2.2 + (v.length - (inner i k v pend o p).2.2.1 : Int) else (inner i k v pend o p).2.2.2) = p + plen (cutG i k v pend o)
  | [], o, p, ho, _ => by
    by_cases h : o < v.length
    · simp [inner, cutG, remG, h, dues, plen]; omega
    · simp [inner, cutG, remG, h, dues, plen]
  | q :: r, o, p, ho, hq => by
    by_cases c : q.at' ≤ i + v.length
    · simp only [inner, cutG, remG, if_pos c]
      have hlo := hq.1
      have ia : i + (((q.at' - i).toNat : Nat) : Int) = q.at' := by omega
      have ih := inner_cut i k v r (q.at' - i).toNat (p + ((v.drop o).take ((q.at' - i).toNat - o)).length + tot q.ts) (by omega) (by rw [ia]; exact hq.2)
      generalize (v.drop o).take ((q.at' - i).toNat - o) = tmp at *
      obtain ⟨h1, h2, h3⟩ := ih
      refine ⟨?_, h2, ?_⟩
      · rw [List.append_assoc, List.append_assoc, h1, dues_append, dues_append, outs_dues]
        by_cases ht : tmp = []
        · subst ht; simp [dues, plen, plen_pairs, tot]
          congr 1
          have := plen_pairs q.ts
          simp only [plen, tot] at this
          rw [this]
        · simp only [if_neg ht, dues, plen_pairs]; simp [plen]
      · rw [h3, plen_append, plen_append, plen_pairs]
        by_cases ht : tmp = []
        · subst ht; simp [plen]; omega
        · simp only [if_neg ht]; simp [plen]; omega
    · simp only [inner, cutG, remG, if_neg c]
      by_cases h : o < v.length
      · simp [h, dues, plen]; omega
      · simp [h, dues, plen]
end Mine
end

section
open PySem PySem.W PyProof.Rows PySem.Calls PySem.SeqAt
namespace Mine
def runG : List T3 → List T2 → List KV
  | [], pend => allOf pend
  | t :: r, pend => cutG t.p t.k t.v pend 0 ++ runG r (remG (t.p + t.v.length) pend)
theorem rest_dues : ∀ (pend : List T2) (rp : Option Int), rest pend rp = dues (rp.getD 0) (allOf pend)
  | [], _ => rfl
  | q :: r, rp => by
    simp only [rest]
    rw [rest_dues r, allOf_cons, dues_append, outs_dues, plen_pairs]; rfl
theorem gen_dues : ∀ (ts : List T3) (pend : List T2) (rp : Option Int) (pl : Int), Chain pl ts → Ord pl pend →
    (toksOut ts pend rp).1 ++ rest (toksOut ts pend rp).2.1 (toksOut ts pend rp).2.2 = dues (rp.getD (if ts = [] then 0 else pl)) (runG ts pend)
  | [], pend, rp, pl, _, _ => by simp only [toksOut, List.nil_append, runG]; rw [rest_dues]; rfl
  | t :: r, pend, rp, pl, hc, ho => by
    obtain ⟨c1, c2, c3, c4⟩ := hc
    have ho' : Ord (t.p + ((0 : Nat) : Int)) pend := by rw [c1]; exact (Int.add_zero pl).symm ▸ ho
    obtain ⟨h1, h2, h3⟩ := inner_cut t.p t.k t.v pend 0 (rp.getD t.p) (Nat.zero_le _) ho'
    obtain ⟨_, k2⟩ := inner_ok t.p t.k t.v pend 0 (rp.getD t.p) (Nat.zero_le _) ho'
    simp only [toksOut, tok1_eq, runG]
    rw [h1, h3]
    rw [h2] at k2 ⊢
    have ih := gen_dues r (remG (t.p + t.v.length) pend) (some (rp.getD t.p + plen (cutG t.p t.k t.v pend 0))) (pl + t.v.length) c4 (by rw [← c1]; exact k2)
    rw [List.append_assoc, ih, if_neg (List.cons_ne_nil _ _), dues_append, c1]; rfl
def ge (ins : List T2) (x : Int) : List T2 := ins.filter fun q => decide (q.at' ≥ x)
theorem Ord.lo : ∀ {y : Int} {l : List T2}, Ord y l → ∀ q ∈ l, y ≤ q.at'
  | _, [], _, q, h => by cases h
  | y, a :: r, o, q, h => by
    rcases List.mem_cons.1 h with rfl | h
    · exact o.1
    · exact Int.le_trans o.1 (Ord.lo o.2 q h)
theorem ge_all {l : List T2} {y w : Int} (o : Ord y l) (h : w ≤ y) : ge l w = l := by
  unfold ge
  rw [List.filter_eq_self]
  intro q hq
  have := Ord.lo o q hq
  simp; omega
theorem here_none {l : List T2} {y x : Int} (o : Ord y l) (h : x < y) : hereOf l x = [] := by
  unfold hereOf
  rw [List.filter_eq_nil_iff]
  intro q hq
  have := Ord.lo o q hq
  simp; omega
theorem ge_split : ∀ {y : Int} {l : List T2} (x : Int), Ord y l → ge l x = hereOf l x ++ ge l (x + 1)
  | _, [], _, _ => rfl
  | y, q :: r, x, o => by
    have ih := ge_split x o.2
    by_cases h1 : q.at' = x
    · have e1 : ge (q :: r) x = q :: ge r x := by unfold ge; rw [List.filter_cons_of_pos]; simp; omega
      have e2 : hereOf (q :: r) x = q :: hereOf r x := by unfold hereOf; rw [List.filter_cons_of_pos]; simp [h1]
      have e3 : ge (q :: r) (x + 1) = ge r (x + 1) := by unfold ge; rw [List.filter_cons_of_neg]; simp; omega
      rw [e1, e2, e3, ih]; rfl
    · by_cases h2 : q.at' < x
      · have e1 : ge (q :: r) x = ge r x := by unfold ge; rw [List.filter_cons_of_neg]; simp; omega
        have e2 : hereOf (q :: r) x = hereOf r x := by unfold hereOf; rw [List.filter_cons_of_neg]; simp [h1]
        have e3 : ge (q :: r) (x + 1) = ge r (x + 1) := by unfold ge; rw [List.filter_cons_of_neg]; simp; omega
        rw [e1, e2, e3, ih]
      · have h3 : x < q.at' := by omega
        have e1 : ge (q :: r) x = q :: ge r x := by unfold ge; rw [List.filter_cons_of_pos]; simp; omega
        have e2 : hereOf (q :: r) x = hereOf r x := by unfold hereOf; rw [List.filter_cons_of_neg]; simp [h1]
        have e3 : ge (q :: r) (x + 1) = q :: ge r (x + 1) := by unfold ge; rw [List.filter_cons_of_pos]; simp; omega
        rw [e1, e2, e3, ih, here_none o.2 h3]; rfl
theorem rem_ge : ∀ {y : Int} {l : List T2} (x z : Int), Ord y l → z ≤ x + 1 → remG x (ge l z) = ge l (x + 1)
  | _, [], _, _, _, _ => rfl
  | y, q :: r, x, z, o, hz => by
    have ih := rem_ge x z o.2 hz
    by_cases h1 : q.at' < z
    · have e1 : ge (q :: r) z = ge r z := by unfold ge; rw [List.filter_cons_of_neg]; simp; omega
      have e3 : ge (q :: r) (x + 1) = ge r (x + 1) := by unfold ge; rw [List.filter_cons_of_neg]; simp; omega
      rw [e1, e3, ih]
    · have e1 : ge (q :: r) z = q :: ge r z := by unfold ge; rw [List.filter_cons_of_pos]; simp; omega
      by_cases h2 : q.at' ≤ x
      · have e3 : ge (q :: r) (x + 1) = ge r (x + 1) := by unfold ge; rw [List.filter_cons_of_neg]; simp; omega
        rw [e1, e3]; simp only [remG, if_pos h2]; exact ih
      · have e3 : ge (q :: r) (x + 1) = q :: ge r (x + 1) := by unfold ge; rw [List.filter_cons_of_pos]; simp; omega
        rw [e1, e3]; simp only [remG, if_neg h2]
        rw [ge_all o.2 (by omega : z ≤ q.at'), ge_all o.2 (by omega : x + 1 ≤ q.at')]
theorem cut_gt {i : Int} {k : Str} {v : List Nat} {X : List T2} (h : ∀ q ∈ X, i + v.length < q.at') (o : Nat) : cutG i k v X o = if o < v.length then [(k, v.drop o)] else [] := by
  cases X with
  | nil => rfl
  | cons q r => have := h q (by simp); simp only [cutG]; rw [if_neg (by omega)]
theorem cut_here {i : Int} {k : Str} {v : List Nat} {X : List T2} {a : Nat} (ha : a ≤ v.length) : ∀ (H : List T2) (o : Nat), (∀ q ∈ H, q.at' = i + a) → o ≤ a →
    cutG i k v (H ++ X) o = if H = [] then cutG i k v X o else (if (v.drop o).take (a - o) = [] then [] else [(k, (v.drop o).take (a - o))]) ++ (allOf H ++ cutG i k v X a)
  | [], o, _, _ => by simp
  | q :: H, o, h, ho => by
    have hq := h q (by simp)
    have ih := cut_here (k := k) (X := X) ha H a (fun x hx => h x (by simp [hx])) (Nat.le_refl _)
    have e : (q.at' - i).toNat = a := by omega
    rw [if_neg (by simp), List.cons_append]
    simp only [cutG]
    rw [if_pos (by omega), e, ih, allOf_cons]
    by_cases hH : H = []
    · subst hH; simp [allOf, foundOf]
    · rw [if_neg hH]; simp
/-- what the letters from a on give -/
def wl (ins : List T2) (i : Int) (k : Str) (v : List Nat) : Nat → Nat → List Nat → List KV
  | 0, _, piece => [(k, piece)]
  | n + 1, a, piece => (if hereOf ins (i + a) = [] ∨ piece = [] then [] else [(k, piece)]) ++ (allOf (hereOf ins (i + a)) ++ wl ins i k v n (a + 1) ((if hereOf ins (i + a) = [] then piece else []) ++ (v.drop a).take 1))
theorem take_more (v : List Nat) (o a : Nat) (h : o ≤ a) : (v.drop o).take (a - o) ++ (v.drop a).take 1 = (v.drop o).take (a + 1 - o) := by
  have e : a + 1 - o = (a - o) + 1 := by omega
  rw [e, List.take_add]
  congr 2
  rw [List.drop_drop]; congr 1; omega
theorem cut_wl {y : Int} {ins : List T2} (os : Ord y ins) (i : Int) (k : Str) (v : List Nat) : ∀ (n a o : Nat), a + n = v.length → o ≤ a → o < v.length →
    cutG i k v (ge ins (i + a)) o = wl ins i k v n a ((v.drop o).take (a - o)) ++ allOf (hereOf ins (i + v.length))
  | 0, a, o, h, hoa, ho => by
    obtain rfl : a = v.length := by omega
    rw [ge_split _ os]
    have hX : ∀ q ∈ ge ins (i + v.length + 1), i + v.length < q.at' := by
      intro q hq
      have := (List.mem_filter.1 hq).2
      simp at this; omega
    rw [cut_here (a := v.length) (Nat.le_refl _) _ _ (fun q hq => by have := (List.mem_filter.1 hq).2; simpa using this) hoa, cut_gt hX, cut_gt hX, if_pos ho, if_neg (Nat.lt_irrefl _)]
    have e : (v.drop o).take (v.length - o) = v.drop o := List.take_of_length_le (by simp)
    rw [e]
    have hne : v.drop o ≠ [] := by simp; omega
    simp only [wl]
    by_cases hH : hereOf ins (i + v.length) = []
    · simp [hH, allOf, foundOf]
    · simp [hH, hne]
  | n + 1, a, o, h, hoa, ho => by
    have ih1 := cut_wl os i k v n (a + 1) o (by omega) (by omega) ho
    have ih2 := cut_wl os i k v n (a + 1) a (by omega) (by omega) (by omega)
    have ec : (i + ((a + 1 : Nat) : Int)) = i + a + 1 := by omega
    rw [ec] at ih1 ih2
    rw [ge_split _ os, cut_here (a := a) (by omega) _ _ (fun q hq => by have := (List.mem_filter.1 hq).2; simpa using this) hoa]
    simp only [wl]
    by_cases hH : hereOf ins (i + a) = []
    · rw [if_pos hH, ih1, if_pos (.inl hH), if_pos hH, take_more v o a hoa]
      simp [hH, allOf, foundOf]
    · rw [if_neg hH, ih2, if_neg hH]
      have e1 : a + 1 - a = 1 := by omega
      rw [e1]
      by_cases hp : (v.drop o).take (a - o) = []
      · simp only [hp, or_true, if_true]; simp
      · rw [if_neg hp, if_neg (by simp only [hH, hp, or_self, not_false_eq_true])]; simp
theorem run_wl (ins : List T2) (i : Int) (k : Str) (v : List Nat) (pf : List Nat × List KV) : ∀ (n a : Nat), a + n = v.length →
    (atRun ins i k v pf v.length).2 ++ [(k, (atRun ins i k v pf v.length).1)] = (atRun ins i k v pf a).2 ++ wl ins i k v n a (atRun ins i k v pf a).1
  | 0, a, h => by obtain rfl : a = v.length := by omega
                  rfl
  | n + 1, a, h => by
    rw [run_wl ins i k v pf n (a + 1) (by omega)]
    simp only [atRun, atStep, wl, foundOf_eq]
    by_cases hc : hereOf ins (i + a) = [] ∨ (atRun ins i k v pf a).1 = []
    · simp only [if_pos hc]; simp
    · simp only [if_neg hc]; simp
def runW (ins : List T2) : List T3 → List KV
  | [] => []
  | t :: r => wl ins t.p t.k t.v t.v.length 0 [] ++ runW ins r
theorem wov_runW (ins : List T2) : ∀ (ts : List T3) (f : List KV), wovRun ins ts f = f ++ runW ins ts
  | [], f => by simp [wovRun, runW]
  | t :: r, f => by
    have := wov_runW ins r (wovTok ins t f)
    show wovRun ins r (wovTok ins t f) = _
    rw [this, wovTok, run_wl ins t.p t.k t.v ([], f) t.v.length 0 (by omega)]
    simp [runW, atRun]
theorem wl_first (ins : List T2) (i : Int) (k : Str) (v : List Nat) (h : 1 ≤ v.length) : wl ins i k v v.length 0 [] = allOf (hereOf ins i) ++ wl ins i k v (v.length - 1) 1 (v.take 1) := by
  obtain ⟨n, hn⟩ : ∃ n, v.length = n + 1 := ⟨v.length - 1, by omega⟩
  rw [hn]
  simp [wl]
theorem zrun {y : Int} {ins : List T2} (os : Ord y ins) : ∀ (ts : List T3) (i : Int), Chain i ts → allOf (hereOf ins i) ++ runG ts (ge ins (i + 1)) = runW ins ts ++ allOf (ge ins (i + tot ts))
  | [], i, _ => by
    simp only [runG, runW, tot, List.map_nil, List.sum_nil, List.nil_append]
    rw [← allOf_append, ← ge_split i os]; simp
  | t :: r, i, c => by
    obtain ⟨c1, c2, c3, c4⟩ := c
    subst c1
    have ih := zrun os r (t.p + t.v.length) c4
    have hc := cut_wl os t.p t.k t.v (t.v.length - 1) 1 0 (by omega) (by omega) (by omega)
    simp only [runG, runW]
    rw [rem_ge _ _ os (by omega), show t.p + 1 = t.p + ((1 : Nat) : Int) from rfl, hc, wl_first _ _ _ _ c2]
    simp only [List.drop_zero, Nat.sub_zero]
    have e : t.p + (t.v.length : Int) + (tot r : Int) = t.p + (tot (t :: r) : Int) := by rw [tot_cons]; omega
    rw [e] at ih
    rw [List.append_assoc, List.append_assoc, List.append_assoc, ih]
theorem run_start {ins : List T2} {start : Int} (os : Ord start ins) (ts : List T3) (c : Chain start ts) : runG ts ins = runW ins ts ++ allOf (ge ins (start + tot ts)) := by
  rw [← zrun os ts start c]
  have hg : ge ins start = ins := ge_all os (Int.le_refl _)
  have hs := ge_split start os
  rw [hg] at hs
  cases ts with
  | nil => simp only [runG]; rw [← allOf_append, ← hs]
  | cons t r =>
    obtain ⟨c1, c2, c3, c4⟩ := c
    simp only [runG]
    subst c1
    have e1 : remG (t.p + t.v.length) ins = remG (t.p + t.v.length) (ge ins (t.p + 1)) := by
      rw [rem_ge _ _ os (by omega)]
      have := rem_ge (t.p + t.v.length) t.p os (by omega)
      rw [hg] at this; exact this
    have e2 : cutG t.p t.k t.v ins 0 = allOf (hereOf ins t.p) ++ cutG t.p t.k t.v (ge ins (t.p + 1)) 0 := by
      conv => lhs; rw [hs]
      rw [cut_here (a := 0) (Nat.zero_le _) _ _ (fun q hq => by have := (List.mem_filter.1 hq).2; simpa using this) (Nat.le_refl _)]
      by_cases hH : hereOf ins t.p = []
      · simp [hH, allOf, foundOf]
      · simp [hH]
    rw [e2, ← e1]; simp
/-- the law, plain -/
theorem plain_law {ts : List T3} {ins : List T2} {start : Int} (c : Chain start ts) (o : Ord start ins) : genOut ts ins = dues (if ts = [] then 0 else start) (wov start ts ins) := by
  unfold genOut
  rw [gen_dues ts ins none start c o, run_start o ts c]
  unfold wov
  rw [foundOf_eq, wov_runW]; rfl
end Mine
end

section
open PySem PySem.W PyProof.Rows PySem.Calls PySem.SeqAt
namespace Mine
def lFor : Stmt := stmtA 7 1
def lB (i : Nat) : Stmt := nth (loopBody lFor) i (.Pass default)
abbrev lenv (L fl : Addr) (cd : Value) : Env := envOfC (nameA 7) (scopeA 7) L fl cd
def Fx (X : PM) (h : Heap) : Prop := ∀ b o, X b = some o → h.get? b = some o ∧ o.cls ≠ .type "list_iterator"
/-- law's world -/
structure LS (P : Pg) (X I : PM) (L st nums : Addr) (ns : List Int) (a : Int) (h : Heap) (m : Str → Option Value) : Prop where
  base : Sub P.base h
  frz : Frz I h
  fx : Fx X h
  n : h.Ns L m
  cs : h.IsCell (L + 1) (some (.ref st))
  c2 : ∃ v, h.IsCell (L + 2) v
  c3 : ∃ v, h.IsCell (L + 3) v
  sa : StAt h st nums ns a
  iN : ∀ b ∈ [L, L + 1, L + 2, L + 3, st], I b = none ∧ X b = none ∧ P.base.get? b = none
section
variable {P : Pg} {X I : PM} {L st nums : Addr} {ns : List Int} {a : Int} {h h' : Heap} {m m' : Str → Option Value}
theorem st_ne_cell {c : Addr} {v : Option Value} (x : StAt h st nums ns a) (y : h.IsCell c v) : st ≠ c ∧ nums ≠ c := by
  obtain ⟨tk, o, e, c', n, d⟩ := x.st
  obtain ⟨vs, ⟨o2, e2, c2, n2, d2⟩, _⟩ := x.nums
  obtain ⟨o', e', d'⟩ := y
  constructor
  · rintro rfl; rw [e] at e'; cases e'; rw [d] at d'; cases d'
  · rintro rfl; rw [e2] at e'; cases e'; rw [d2] at d'; cases d'
theorem LS.fxk {l : List Addr} (x : LS P X I L st nums ns a h m) (k : KeepL l h h') (hl : ∀ b ∈ l, b ∈ [L, L + 1, L + 2, L + 3, st]) : Sub P.base h' ∧ Frz I h' ∧ Fx X h' :=
  ⟨x.base.keepL k fun b hb => (x.iN b (hl b hb)).2.2, x.frz.keepL k fun b hb => (x.iN b (hl b hb)).1, fun b o e => ⟨k b o (fun q => by have := (x.iN b (hl b q)).2.1; rw [this] at e; cases e) (x.fx b o e).1, (x.fx b o e).2⟩⟩
theorem LS.sub (x : LS P X I L st nums ns a h m) (k : Sub h h') : LS P X I L st nums ns a h' m :=
  ⟨x.base.trans k, x.frz.sub k, fun b o e => ⟨k _ _ (x.fx b o e).1, (x.fx b o e).2⟩, x.n.keeps k, x.cs.keeps k, let ⟨v, c⟩ := x.c2; ⟨v, c.keeps k⟩, let ⟨v, c⟩ := x.c3; ⟨v, c.keeps k⟩, x.sa.at' fun b o _ e => k b o e, x.iN⟩
/-- the state moved on -/
theorem LS.mv {a' : Int} (x : LS P X I L st nums ns a h m) (k : KeepBut st h h') (s : StAt h' st nums ns a') : LS P X I L st nums ns a' h' m := by
  obtain ⟨b, f, g⟩ := x.fxk (l := [st]) (KeepBut.toL k) (by simp)
  have h1 := (st_ne_cell x.sa x.cs).1
  obtain ⟨v2, c2⟩ := x.c2
  obtain ⟨v3, c3⟩ := x.c3
  exact ⟨b, f, g, x.n.at' fun o e => k _ o (x.sa.ne_ns x.n).1.symm e, IsCell.at' x.cs fun o e => k _ o h1.symm e, ⟨v2, IsCell.at' c2 fun o e => k _ o (st_ne_cell x.sa c2).1.symm e⟩, ⟨v3, IsCell.at' c3 fun o e => k _ o (st_ne_cell x.sa c3).1.symm e⟩, s, x.iN⟩
/-- a name set -/
theorem LS.set (x : LS P X I L st nums ns a h m) (k : KeepBut L h h') (n : h'.Ns L m') : LS P X I L st nums ns a h' m' := by
  obtain ⟨b, f, g⟩ := x.fxk (l := [L]) (KeepBut.toL k) (by simp)
  obtain ⟨v2, c2⟩ := x.c2
  obtain ⟨v3, c3⟩ := x.c3
  exact ⟨b, f, g, n, IsCell.at' x.cs fun o e => k _ o (cell_ne x.cs x.n) e, ⟨v2, IsCell.at' c2 fun o e => k _ o (cell_ne c2 x.n) e⟩, ⟨v3, IsCell.at' c3 fun o e => k _ o (cell_ne c3 x.n) e⟩,
    x.sa.at' fun b o hb e => k b o (by rcases hb with rfl | rfl; exact (x.sa.ne_ns x.n).1; exact (x.sa.ne_ns x.n).2) e, x.iN⟩
/-- start's cell set -/
theorem LS.set2 {v : Value} (x : LS P X I L st nums ns a h m) (k : KeepBut (L + 2) h h') (c : h'.IsCell (L + 2) (some v)) : LS P X I L st nums ns a h' m := by
  obtain ⟨b, f, g⟩ := x.fxk (l := [L + 2]) (KeepBut.toL k) (by simp)
  obtain ⟨v2, c2⟩ := x.c2
  obtain ⟨v3, c3⟩ := x.c3
  exact ⟨b, f, g, x.n.at' fun o e => k _ o (cell_ne c2 x.n).symm e, IsCell.at' x.cs fun o e => k _ o (by simp) e, ⟨_, c⟩, ⟨v3, IsCell.at' c3 fun o e => k _ o (by simp) e⟩,
    x.sa.at' fun b o hb e => k b o (by rcases hb with rfl | rfl; exact (st_ne_cell x.sa c2).1; exact (st_ne_cell x.sa c2).2) e, x.iN⟩
theorem LS.set3 {v : Value} (x : LS P X I L st nums ns a h m) (k : KeepBut (L + 3) h h') (c : h'.IsCell (L + 3) (some v)) : LS P X I L st nums ns a h' m := by
  obtain ⟨b, f, g⟩ := x.fxk (l := [L + 3]) (KeepBut.toL k) (by simp)
  obtain ⟨v2, c2⟩ := x.c2
  obtain ⟨v3, c3⟩ := x.c3
  exact ⟨b, f, g, x.n.at' fun o e => k _ o (cell_ne c3 x.n).symm e, IsCell.at' x.cs fun o e => k _ o (by simp) e, ⟨v2, IsCell.at' c2 fun o e => k _ o (by simp) e⟩, ⟨_, c⟩,
    x.sa.at' fun b o hb e => k b o (by rcases hb with rfl | rfl; exact (st_ne_cell x.sa c3).1; exact (st_ne_cell x.sa c3).2) e, x.iN⟩
/-- more is frozen -/
theorem LS.grow {I' I₀ : PM} {a₀ : Int} {h₀ : Heap} {m₀ : Str → Option Value} (x₀ : LS P X I₀ L st nums ns a₀ h₀ m₀) (x : LS P X I L st nums ns a h m) (g : Grows h₀ I I') (F : Frz I' h) : LS P X I' L st nums ns a h m := by
  refine ⟨x.base, F, x.fx, x.n, x.cs, x.c2, x.c3, x.sa, fun b hb => ?_⟩
  refine ⟨?_, (x.iN b hb).2⟩
  have hx : ∃ o, h₀.get? b = some o := by
    simp only [List.mem_cons, List.not_mem_nil, or_false] at hb
    rcases hb with rfl | rfl | rfl | rfl | rfl
    · obtain ⟨o, _, _, e, _⟩ := x₀.n; exact ⟨o, e⟩
    · obtain ⟨o, e, _⟩ := x₀.cs; exact ⟨o, e⟩
    · obtain ⟨_, o, e, _⟩ := x₀.c2; exact ⟨o, e⟩
    · obtain ⟨_, o, e, _⟩ := x₀.c3; exact ⟨o, e⟩
    · obtain ⟨_, o, e, _⟩ := x₀.sa.st; exact ⟨o, e⟩
  obtain ⟨o, e⟩ := hx
  exact (g.2 b o e).trans (x.iN b hb).1
end
section
variable {P : Pg} {w : World} {A : Around} {E : Value → Shared → Prop} {s : Shared} {X I : PM} {L st nums fl : Addr} {cd : Value} {ns : List Int} {a : Int} {m : Str → Option Value}
/-- _law_next(state, n), wherever it stands -/
theorem l_next {Q : Value → Shared → Prop} {many : Int} {mt : Tok} (so : StOk P st nums ns) (hd : A.depth < recursionLimit) (hA : A.handled = none) (x : LS P X I L st nums ns a s.heap m) (h1 : a < 500000) (hm : 0 < many)
    (h : ∀ (r : Nat) t h' tk', (r : Int) < many → LS P X I L st nums ns (a + 1) h' m → KeepBut st s.heap h' → Q (.int r t) { s with heap := h', toks := tk' }) :
    wpAny (model pw w) A (call (.ref P.fn) [.ref st, .int many mt]) Q E s :=
  next_at P hd hA x.base so x.sa (by omega) hm fun r t h' tk' hr sa k _ => h r t h' tk' hr (x.mv k sa) k
/-- start = [0, 0, 7][_law_next(state, 3)] -/
theorem l_start {Q : Flow → Shared → Prop} (so : StOk P st nums ns) (hd : A.depth < recursionLimit) (hA : A.handled = none) (x : LS P X I L st nums ns a s.heap m) (h1 : a < 500000)
    (h : ∀ (start : Nat) t h' tk', LS P X I L st nums ns (a + 1) h' m → h'.IsCell (L + 2) (some (.int start t)) → start ≤ 7 → Q .next { s with heap := h', toks := tk' }) :
    wpAny (model pw w) A (exec (lB 0) (lenv L fl cd)) Q E s := by
  refine wpAny_Assign_Name (Subscript_ (List_ (spliced_cons (cint (env := lenv L fl cd) (spliced_cons (cint (env := lenv L fl cd) (spliced_cons (cint (env := lenv L fl cd) (spliced_nil (wpAny_newObj_type ?_)))))))))) (by rfl)
  dsimp only
  have sb := Sub.push s.heap { cls := .type "list", data := .seq [.int 0 s.toks, .int 0 (s.toks + 1), .int 7 (s.toks + 1 + 1)].toArray }
  have eN := Heap.get?_push_size s.heap (o := { cls := .type "list", data := .seq [.int 0 s.toks, .int 0 (s.toks + 1), .int 7 (s.toks + 1 + 1)].toArray }) rfl
  have hn0 : s.heap.get? s.heap.objs.size = none := Heap.get?_none_of_le (Nat.le_refl _)
  generalize s.heap.objs.size = na at *
  generalize s.heap.push _ = h₁ at *
  have x₁ := x.sub sb
  refine callF2 (P := P) (k := 3) (env := lenv L fl cd) x₁.base P.hfn rfl (ldK (env := lenv L fl cd) (c := L + 1) x₁.cs (wpAny_Constant_int (k := 0) (pos := default) ?_))
  refine ⟨x₁.base, l_next so hd hA x₁ h1 (by decide) fun r t h₂ tk₂ hr x₂ k₂ => ?_⟩
  have hne : na ≠ st := by rintro rfl; obtain ⟨_, o, e, _⟩ := x.sa.st; rw [hn0] at e; cases e
  have hl₂ : h₂.IsList na [.int 0 s.toks, .int 0 (s.toks + 1), .int 7 (s.toks + 1 + 1)].toArray := ⟨_, k₂ _ _ hne eN, rfl, _, rfl⟩
  obtain ⟨v, tv, e, hv⟩ : ∃ (v : Nat) (tv : Tok), [Value.int 0 s.toks, .int 0 (s.toks + 1), .int 7 (s.toks + 1 + 1)].toArray[r]? = some (.int v tv) ∧ v ≤ 7 := by
    have : r = 0 ∨ r = 1 ∨ r = 2 := by omega
    rcases this with rfl | rfl | rfl
    · exact ⟨0, _, rfl, by decide⟩
    · exact ⟨0, _, rfl, by decide⟩
    · exact ⟨7, _, rfl, by decide⟩
  dsimp only
  refine tail_any hl₂.typeIs slot_list_getitem.lookup (wpAny_getItem_list (x := .int v tv) hl₂ (by omega) (by omega) (by simpa using e) ?_) rfl
  obtain ⟨v2, c2⟩ := x₂.c2
  refine stK (env := lenv L fl cd) (c := L + 2) c2 fun h₃ c₃ k₃ => ?_
  exact h v tv h₃ _ (x₂.set2 k₃ c₃) c₃ hv
/-- tokens = _law_tokens(state, _law_next(state, 8), start) -/
theorem l_tokens {Q : Flow → Shared → Prop} {start : Nat} {t₀ : Tok} (so : StOk P st nums ns) (hd : A.depth + 1 < recursionLimit) (hA : A.handled = none) (x : LS P X I L st nums ns a s.heap m) (h1 : a < 500000) (hst : s.heap.IsCell (L + 2) (some (.int start t₀)))
    (h : ∀ I' u ts h' tk' m' a', LS P X I' L st nums ns a' h' m' → m' "tokens" = some u → Upd ["tokens"] m m' → h'.IsCell (L + 2) (some (.int start t₀)) → ToksI I' u ts → Chain start ts → ts.length < 8 → a' ≤ a + 30 → Q .next { s with heap := h', toks := tk' }) :
    wpAny (model pw w) A (exec (lB 1) (lenv L fl cd)) Q E s := by
  refine wpAny_Assign_Name (callF3 (P := P) (k := 5) (env := lenv L fl cd) x.base P.hft rfl (ldK (env := lenv L fl cd) (c := L + 1) x.cs ?_)) (by rfl)
  refine callF2 (P := P) (k := 3) (env := lenv L fl cd) x.base P.hfn rfl (ldK (env := lenv L fl cd) (c := L + 1) x.cs (wpAny_Constant_int (k := 0) (pos := default) ?_))
  refine ⟨x.base, l_next so (Nat.lt_of_succ_lt hd) hA x h1 (by decide) fun r t h₂ tk₂ hr x₂ k₂ => ?_⟩
  have hst₂ : h₂.IsCell (L + 2) (some (.int start t₀)) := IsCell.at' hst fun o e => k₂ _ o (st_ne_cell x.sa hst).1.symm e
  refine ldK (env := lenv L fl cd) (c := L + 2) hst₂ ⟨x₂.base, ?_⟩
  refine tokens_call P hd hA x₂.base so x₂.sa (by omega) (by omega) x₂.frz (x₂.iN st (by simp)).1 fun I' u ts h₃ tk₃ a' G F hT hc hl ha sa k₃ => ?_
  have x₃ := x₂.mv k₃ sa
  have hst₃ : h₃.IsCell (L + 2) (some (.int start t₀)) := IsCell.at' hst₂ fun o e => k₃ _ o (st_ne_cell x₂.sa hst₂).1.symm e
  have x₃' := LS.grow x₂ x₃ G F
  refine wpAny_storeName_local (by rfl) x₃'.n (fun h₄ hn₄ s₄ => ?_) (by rfl)
  replace s₄ : Heap.SameBut L h₃ h₄ := s₄
  replace hn₄ : h₄.Ns L _ := hn₄
  exact h I' u ts h₄ _ _ a' (x₃'.set (.of_same s₄) hn₄) (if_pos rfl) (fun z hz => if_neg (by simpa using hz)) (IsCell.at' hst₃ fun o e => s₄.extBut _ o (cell_ne hst₃ x₃'.n) e) hT hc (by omega) (by omega)
/-- whole = start + sum(…) -/
theorem l_whole {Q : Flow → Shared → Prop} {start : Nat} {t₀ : Tok} {u : Value} {ts : List T3} (hA : A.handled = none) (x : LS P X I L st nums ns a s.heap m) (hst : s.heap.IsCell (L + 2) (some (.int start t₀))) (mt : m "tokens" = some u) (hT : ToksI I u ts) (hlen : ts.length < 8) (hv : ∀ t ∈ ts, t.v.length ≤ 4)
    (h : ∀ h' tk' t, LS P X I L st nums ns a h' m → h'.IsCell (L + 2) (some (.int start t₀)) → h'.IsCell (L + 3) (some (.int (start + tot ts : Int) t)) → Q .next { s with heap := h', toks := tk' }) :
    wpAny (model pw w) A (exec (lB 2) (lenv L fl cd)) Q E s := by
  refine wpAny_Assign_Name (wpAny_BinOp (ldK (env := lenv L fl cd) (c := L + 2) hst (lens_sum (P := P) (env := lenv L fl cd) hA x.base x.frz x.n mt hT (by omega) hv (fun h₂ tk₂ t₂ k₂ => add_int ?_) (by rfl) (fun _ => by rfl) (fun _ => by rfl) (by decide) (by rfl) (by decide) (by rfl) (by rfl) (by rfl) (by rfl) (by rfl) (by rfl)))) (by rfl)
  have x₂ := x.sub k₂
  obtain ⟨v3, c3⟩ := x₂.c3
  refine stK (env := lenv L fl cd) (c := L + 3) c3 fun h₃ c₃ k₃ => ?_
  exact h h₃ _ _ (x₂.set3 k₃ c₃) (IsCell.at' (hst.keeps k₂) fun o e => k₃ _ o (by simp) e) c₃
end
end Mine
end

section
open PySem PySem.W PyProof.Rows PySem.Calls PySem.SeqAt
namespace Mine
section
variable {P : Pg} {w : World} {A : Around} {E : Value → Shared → Prop} {s : Shared} {X I : PM} {L st nums fl : Addr} {cd : Value} {ns : List Int} {a : Int} {m : Str → Option Value}
theorem LS.new {h₁ h h' : Heap} {l : List Addr} {a₁ : Int} {m₁ : Str → Option Value} (x₁ : LS P X I L st nums ns a₁ h₁ m₁) (x : LS P X I L st nums ns a h m) (k : KeepL l h h') (hl : ∀ b ∈ l, h₁.get? b = none) : LS P X I L st nums ns a h' m := by
  have nb : ∀ {b : Addr} {o : Obj}, h₁.get? b = some o → b ∉ l := fun e q => by rw [hl _ q] at e; cases e
  have hn : L ∉ l := by obtain ⟨o, _, _, e, _⟩ := x₁.n; exact nb e
  have hc1 : L + 1 ∉ l := by obtain ⟨o, e, _⟩ := x₁.cs; exact nb e
  have hc2 : L + 2 ∉ l := by obtain ⟨_, o, e, _⟩ := x₁.c2; exact nb e
  have hc3 : L + 3 ∉ l := by obtain ⟨_, o, e, _⟩ := x₁.c3; exact nb e
  have hs : st ∉ l := by obtain ⟨_, o, e, _⟩ := x₁.sa.st; exact nb e
  have hu : nums ∉ l := by obtain ⟨_, ⟨o, e, _⟩, _⟩ := x₁.sa.nums; exact nb e
  refine ⟨fun b o e => k b o (nb (x₁.base b o e)) (x.base b o e), fun b o e => ⟨k b o (nb (x₁.frz b o e).1) (x.frz b o e).1, (x.frz b o e).2⟩, fun b o e => ⟨k b o (nb (x₁.fx b o e).1) (x.fx b o e).1, (x.fx b o e).2⟩,
    x.n.at' fun o e => k _ o hn e, IsCell.at' x.cs fun o e => k _ o hc1 e, let ⟨v, c⟩ := x.c2; ⟨v, IsCell.at' c fun o e => k _ o hc2 e⟩, let ⟨v, c⟩ := x.c3; ⟨v, IsCell.at' c fun o e => k _ o hc3 e⟩,
    x.sa.at' fun b o hb e => k b o (by rcases hb with rfl | rfl; exact hs; exact hu) e, x.iN⟩
/-- places = sorted([start + _law_next(state, whole - start + 3) for again in range(_law_next(state, 6))]) -/
theorem l_places {Q : Flow → Shared → Prop} {start tt : Nat} {t₀ t₁ : Tok} (so : StOk P st nums ns) (hd : A.depth < recursionLimit) (hA : A.handled = none) (x : LS P X I L st nums ns a s.heap m) (h1 : a < 400000) (hst : s.heap.IsCell (L + 2) (some (.int start t₀))) (hwh : s.heap.IsCell (L + 3) (some (.int (start + tt : Int) t₁)))
    (h : ∀ I' pa pvs pns h' tk' m' a', LS P X I' L st nums ns a' h' m' → Grows s.heap I I' → m' "places" = some (.ref pa) → Upd ["places"] m m' → LstI I' pa pvs → IntsAre pvs pns → pns.Pairwise (· ≤ ·) → (∀ n ∈ pns, (start : Int) ≤ n) → pns.length ≤ 5 → a' ≤ a + 10 →
      h'.IsCell (L + 2) (some (.int start t₀)) → Q .next { s with heap := h', toks := tk' }) :
    wpAny (model pw w) A (exec (lB 3) (lenv L fl cd)) Q E s := by
  refine wpAny_Assign_Name (callB1 (P := P) (env := lenv L fl cd) x.base PyProof.Rows.boot_sorted (comp_range (P := P) (env := lenv L fl cd) hA rfl x.base (by rfl) ?_)) (by rfl)
  refine callF2 (P := P) (k := 3) (env := lenv L fl cd) x.base P.hfn rfl (ldK (env := lenv L fl cd) (c := L + 1) x.cs (wpAny_Constant_int (k := 0) (pos := default) ?_))
  refine ⟨x.base, l_next so hd hA x (by omega) (by decide) fun r t h₂ tk₂ hr x₂ k₂ => ?_⟩
  have hst₂ : h₂.IsCell (L + 2) (some (.int start t₀)) := IsCell.at' hst fun o e => k₂ _ o (st_ne_cell x.sa hst).1.symm e
  have hwh₂ : h₂.IsCell (L + 3) (some (.int (start + tt : Int) t₁)) := IsCell.at' hwh fun o e => k₂ _ o (st_ne_cell x.sa hwh).1.symm e
  refine ⟨r, t, rfl, by omega, fun It C D h₃ tk₃ hIt hC hD hIC hID hCD k₃ => ?_⟩
  dsimp only at hIt hC hD k₃ ⊢
  refine ⟨fun i ys s' => ∃ h tk l, s' = { s with heap := h, toks := tk } ∧ LS P X I L st nums ns (a + 1 + i) h m ∧ h.IsCell (L + 2) (some (.int start t₀)) ∧ h.IsCell (L + 3) (some (.int (start + tt : Int) t₁)) ∧ IntsAre ys l ∧ (∀ n ∈ l, (start : Int) ≤ n) ∧ l.length = i ∧ (∀ b o, h₂.get? b = some o → b ≠ st → h.get? b = some o),
    ⟨⟨h₃, tk₃, [], rfl, by simpa using x₂.sub k₃, hst₂.keeps k₃, hwh₂.keeps k₃, .nil, by simp, rfl, fun b o e _ => k₃ b o e⟩, ?_⟩, ?_⟩
  · rintro i v ys s' h' tk m' hlt ⟨h₄, tk₄, l, rfl, x₄, hst₄, hwh₄, hI, hge, hlen, old₄⟩ hnC hlD hit hv kIt E'
    have x₅ := LS.new x₂ x₄ (KeepBut.toL (l := [It]) kIt) (by simp [hIt])
    have neIt : ∀ {b o}, h₂.get? b = some o → b ≠ It := fun e q => by rw [q, hIt] at e; cases e
    have neC : ∀ {b o}, h₂.get? b = some o → b ≠ C := fun e q => by rw [q, hC] at e; cases e
    have neD : ∀ {b o}, h₂.get? b = some o → b ≠ D := fun e q => by rw [q, hD] at e; cases e
    obtain ⟨o2, e2, _⟩ := id hst₂
    obtain ⟨o3, e3, _⟩ := id hwh₂
    obtain ⟨_, os, es, _⟩ := id x₂.sa.st
    have hst₅ : h'.IsCell (L + 2) (some (.int start t₀)) := IsCell.at' hst₄ fun o e => kIt _ o (neIt e2) e
    have hwh₅ : h'.IsCell (L + 3) (some (.int (start + tt : Int) t₁)) := IsCell.at' hwh₄ fun o e => kIt _ o (neIt e3) e
    refine wpAny_assign_Name (wpAny_storeName_local (by rfl) hnC (fun h₆ hn₆ s₆ => ?_) (by rfl))
    replace s₆ : Heap.SameBut C h' h₆ := s₆
    replace hn₆ : h₆.Ns C _ := hn₆
    have x₆ := LS.new x₂ x₅ (same_one s₆) (by simp [hC])
    have hst₆ : h₆.IsCell (L + 2) (some (.int start t₀)) := IsCell.at' hst₅ fun o e => s₆.extBut _ o (neC e2) e
    have hwh₆ : h₆.IsCell (L + 3) (some (.int (start + tt : Int) t₁)) := IsCell.at' hwh₅ fun o e => s₆.extBut _ o (neC e3) e
    have hit₆ : rangeSt It r (i + 1) h₆ := by
      have h0 : h'.get? It = some _ := hit
      exact s₆.extBut _ _ hIC h0
    have hlD₆ : Lst h₆ D ys := hlD.at fun o e => s₆.extBut _ o hCD.symm e
    refine wpAny_tests_nil ?_
    rw [if_pos rfl]
    refine wpAny_BinOp (ldK (c := L + 2) hst₆ ?_)
    refine callF2 (P := P) (k := 3) x₆.base P.hfn rfl (ldK (c := L + 1) x₆.cs (wpAny_BinOp (wpAny_BinOp (ldK (c := L + 3) hwh₆ (ldK (c := L + 2) hst₆ (sub_int ?_))))))
    refine wpAny_Constant_int (k := 0) (pos := default) (add_int ?_)
    refine ⟨x₆.base, l_next so hd hA x₆ (by omega) (by omega) fun r' t' h₇ tk₇ hr' x₇ k₇ => ?_⟩
    refine add_int ?_
    have neS : ∀ {b}, h₂.get? b = none → b ≠ st := fun hb q => by rw [q, es] at hb; cases hb
    have hit₇ : rangeSt It r (i + 1) h₇ := k₇ _ _ (neS hIt) (show h₆.get? It = some _ from hit₆)
    have hlD₇ : Lst h₇ D ys := hlD₆.at fun o e => k₇ _ o (neS hD) e
    refine ⟨hit₇, hlD₇, ⟨_, hn₆.at' fun o e => k₇ _ o (neS hC) e⟩, fun h'' tk'' kD => ⟨h'', _, l ++ [(start : Int) + r'], rfl, ?_, ?_, ?_, hI.append (.cons _ _ .nil), ?_, by simp [hlen], ?_⟩⟩
    · have := LS.new x₂ x₇ (KeepBut.toL (l := [D]) kD) (by simp [hD])
      have e : a + 1 + (i : Int) + 1 = a + 1 + ((i + 1 : Nat) : Int) := by omega
      exact e ▸ this
    · exact IsCell.at' (IsCell.at' hst₆ fun o e => k₇ _ o (st_ne_cell x₆.sa hst₆).1.symm e) fun o e => kD _ o (neD e2) e
    · exact IsCell.at' (IsCell.at' hwh₆ fun o e => k₇ _ o (st_ne_cell x₆.sa hwh₆).1.symm e) fun o e => kD _ o (neD e3) e
    · intro n hn
      rcases List.mem_append.1 hn with q | q
      · exact hge n q
      · simp at q; omega
    · intro b o e hb
      exact kD b o (neD e) (k₇ b o hb (s₆.extBut b o (neC e) (kIt b o (neIt e) (old₄ b o e hb))))
  · rintro ys s' h' tk ⟨h₄, tk₄, l, rfl, x₄, hst₄, hwh₄, hI, hge, hlen, old₄⟩ hlD kk
    have x₅ := LS.new x₂ x₄ kk (by simp [hIt, hC])
    have hyl := ints_len hI
    refine sorted_ints hlD.isList hI (by omega) fun out ns' hI' hperm hsort => ?_
    have sb : Sub h' (sortedAll h' ys out) := fun b o e => sortedAll_old e
    obtain ⟨ee, he⟩ := sortedAll_at h' ys out
    have x₆ := x₅.sub sb
    have hnew : h'.get? (h'.objs.size + 1) = none := Heap.get?_none_of_le (Nat.le_succ _)
    dsimp only
    have hIn : I (h'.objs.size + 1) = none := x₅.frz.none_new hnew
    have hst₅ : h'.IsCell (L + 2) (some (.int start t₀)) := IsCell.at' hst₄ fun o e => kk _ o (by
      obtain ⟨o2, e2, _⟩ := id hst₂
      simp only [List.mem_cons, List.not_mem_nil, or_false, not_or]
      exact ⟨(fun q => by rw [q, hIt] at e2; cases e2), (fun q => by rw [q, hC] at e2; cases e2)⟩) e
    generalize h'.objs.size + 1 = pa at *
    generalize sortedAll h' ys out = h₇ at *
    have e7 : h₇.get? pa = some { cls := .type "list", data := .seq (out.toList.toArray) ee } := by simpa [seqObj] using he
    refine wpAny_storeName_local (by rfl) x₆.n (fun h₈ hn₈ s₈ => ?_) (by rfl)
    replace s₈ : Heap.SameBut L h₇ h₈ := s₈
    replace hn₈ : h₈.Ns L _ := hn₈
    have x₈ := x₆.set (.of_same s₈) hn₈
    have hpl : pa ≠ L := by rintro rfl; obtain ⟨o, _, _, e, _⟩ := x₅.n; rw [hnew] at e; cases e
    have e8 := s₈.extBut _ _ hpl e7
    have hs0 : s.heap.get? pa = none := by
      cases q : s.heap.get? pa with
      | none => rfl
      | some o =>
        exfalso
        by_cases hp : pa = st
        · subst hp; obtain ⟨_, o', e', _⟩ := x₅.sa.st; rw [hnew] at e'; cases e'
        · have h2e := k₂ _ _ hp q
          have := kk pa o (by simp only [List.mem_cons, List.not_mem_nil, or_false, not_or]; exact ⟨(fun r => by rw [r, hIt] at h2e; cases h2e), (fun r => by rw [r, hC] at h2e; cases h2e)⟩) (old₄ _ _ h2e hp)
          rw [hnew] at this; cases this
    refine h (I.add pa _) pa out.toList ns' h₈ _ _ (a + 1 + r) (LS.grow x₅ x₈ (Grows.add x₅.frz hnew) (x₈.frz.add e8)) (Grows.add x.frz hs0) (if_pos rfl) (fun z hz => if_neg (by simpa using hz)) ⟨_, by unfold PM.add; rw [if_pos rfl]⟩ hI' hsort ?_ ?_ (by omega) ?_
    · intro n hn
      exact hge n (hperm.subset hn)
    · rw [hperm.length_eq]; omega
    · exact IsCell.at' (hst₅.keeps sb) fun o e => s₈.extBut _ o (cell_ne (hst₅.keeps sb) x₆.n) e
end
end Mine
end

section
open PySem PySem.W PyProof.Rows PySem.Calls PySem.SeqAt
namespace Mine
section
variable {P : Pg} {w : World} {A : Around} {E : Value → Shared → Prop} {s : Shared} {X I : PM} {L st nums fl : Addr} {cd : Value} {ns : List Int} {a : Int} {m : Str → Option Value}
theorem LS.newI {I₀ : PM} {h₁ h h' : Heap} {l : List Addr} {a₁ : Int} {m₁ : Str → Option Value} (x₁ : LS P X I₀ L st nums ns a₁ h₁ m₁) (x : LS P X I L st nums ns a h m) (k : KeepL l h h') (hl : ∀ b ∈ l, h₁.get? b = none ∧ I b = none) : LS P X I L st nums ns a h' m := by
  have nb : ∀ {b : Addr} {o : Obj}, h₁.get? b = some o → b ∉ l := fun e q => by rw [(hl _ q).1] at e; cases e
  have hn : L ∉ l := by obtain ⟨o, _, _, e, _⟩ := x₁.n; exact nb e
  have hc1 : L + 1 ∉ l := by obtain ⟨o, e, _⟩ := x₁.cs; exact nb e
  have hc2 : L + 2 ∉ l := by obtain ⟨_, o, e, _⟩ := x₁.c2; exact nb e
  have hc3 : L + 3 ∉ l := by obtain ⟨_, o, e, _⟩ := x₁.c3; exact nb e
  have hs : st ∉ l := by obtain ⟨_, o, e, _⟩ := x₁.sa.st; exact nb e
  have hu : nums ∉ l := by obtain ⟨_, ⟨o, e, _⟩, _⟩ := x₁.sa.nums; exact nb e
  refine ⟨fun b o e => k b o (nb (x₁.base b o e)) (x.base b o e), fun b o e => ⟨k b o (fun q => by rw [(hl _ q).2] at e; cases e) (x.frz b o e).1, (x.frz b o e).2⟩, fun b o e => ⟨k b o (nb (x₁.fx b o e).1) (x.fx b o e).1, (x.fx b o e).2⟩,
    x.n.at' fun o e => k _ o hn e, IsCell.at' x.cs fun o e => k _ o hc1 e, let ⟨v, c⟩ := x.c2; ⟨v, IsCell.at' c fun o e => k _ o hc2 e⟩, let ⟨v, c⟩ := x.c3; ⟨v, IsCell.at' c fun o e => k _ o hc3 e⟩,
    x.sa.at' fun b o hb e => k b o (by rcases hb with rfl | rfl; exact hs; exact hu) e, x.iN⟩
theorem LS.newL {I₀ : PM} {h₁ h h' : Heap} {l : List Addr} {a₁ : Int} {m₁ m' : Str → Option Value} (x₁ : LS P X I₀ L st nums ns a₁ h₁ m₁) (x : LS P X I L st nums ns a h m) (k : KeepL (L :: l) h h') (hn' : h'.Ns L m') (hl : ∀ b ∈ l, h₁.get? b = none ∧ I b = none) : LS P X I L st nums ns a h' m' := by
  have nb : ∀ {b : Addr} {o : Obj}, h₁.get? b = some o → b ≠ L → b ∉ L :: l := by
    intro b o e hb q
    rcases List.mem_cons.1 q with q | q
    · exact hb q
    · rw [(hl _ q).1] at e; cases e
  have hL := x.iN L (by simp)
  have hc1 : L + 1 ∉ L :: l := by obtain ⟨o, e, _⟩ := x₁.cs; exact nb e (cell_ne x₁.cs x₁.n)
  have hc2 : L + 2 ∉ L :: l := by obtain ⟨_, c⟩ := x₁.c2; obtain ⟨o, e, _⟩ := id c; exact nb e (cell_ne c x₁.n)
  have hc3 : L + 3 ∉ L :: l := by obtain ⟨_, c⟩ := x₁.c3; obtain ⟨o, e, _⟩ := id c; exact nb e (cell_ne c x₁.n)
  have hs : st ∉ L :: l := by obtain ⟨_, o, e, _⟩ := x₁.sa.st; exact nb e (x₁.sa.ne_ns x₁.n).1
  have hu : nums ∉ L :: l := by obtain ⟨_, ⟨o, e, _⟩, _⟩ := x₁.sa.nums; exact nb e (x₁.sa.ne_ns x₁.n).2
  refine ⟨fun b o e => k b o (nb (x₁.base b o e) (fun q => by rw [q, hL.2.2] at e; cases e)) (x.base b o e), fun b o e => ⟨k b o (fun q => ?_) (x.frz b o e).1, (x.frz b o e).2⟩, fun b o e => ⟨k b o (nb (x₁.fx b o e).1 (fun q => by rw [q, hL.2.1] at e; cases e)) (x.fx b o e).1, (x.fx b o e).2⟩,
    hn', IsCell.at' x.cs fun o e => k _ o hc1 e, let ⟨v, c⟩ := x.c2; ⟨v, IsCell.at' c fun o e => k _ o hc2 e⟩, let ⟨v, c⟩ := x.c3; ⟨v, IsCell.at' c fun o e => k _ o hc3 e⟩,
    x.sa.at' fun b o hb e => k b o (by rcases hb with rfl | rfl; exact hs; exact hu) e, x.iN⟩
  rcases List.mem_cons.1 q with q | q
  · rw [q, hL.1] at e; cases e
  · rw [(hl _ q).2] at e; cases e
theorem ints_get {vs : List Value} {l : List Int} (h : IntsAre vs l) : ∀ {i : Nat} {v : Value}, vs[i]? = some v → ∃ n t, v = .int n t ∧ l[i]? = some n := by
  induction h with
  | nil => intro i v e; simp at e
  | cons n t _ ih =>
    intro i v e
    cases i with
    | zero => simp at e; exact ⟨n, t, e.symm, rfl⟩
    | succ i => exact ih (by simpa using e)
/-- insertions = [(place, _law_tokens(state, _law_next(state, 3), 0)) for place in places] -/
theorem l_insertions {Q : Flow → Shared → Prop} {pa : Addr} {pvs : List Value} {pns : List Int} (so : StOk P st nums ns) (hd : A.depth + 1 < recursionLimit) (hA : A.handled = none) (x : LS P X I L st nums ns a s.heap m) (h1 : a < 300000)
    (mp : m "places" = some (.ref pa)) (hP : LstI I pa pvs) (hpi : IntsAre pvs pns) (hpl : pns.length ≤ 5)
    (h : ∀ I' il ivs ins h' tk' m' a', LS P X I' L st nums ns a' h' m' → Grows s.heap I I' → m' "insertions" = some (.ref il) → Upd ["insertions"] m m' → LstI I' il ivs → Paired (InsI I') ivs ins → ins.map (·.at') = pns → (∀ q ∈ ins, Chain 0 q.ts ∧ q.ts.length ≤ 2) → a' ≤ a + 100 →
      (∀ b o, s.heap.get? b = some o → b ≠ st → b ≠ L → h'.get? b = some o) → Q .next { s with heap := h', toks := tk' }) :
    wpAny (model pw w) A (exec (lB 4) (lenv L fl cd)) Q E s := by
  have hlen := ints_len hpi
  refine assign_comp_list (env := lenv L fl cd) hA target_name (by rfl) ⟨m, x.n⟩ (ldV (env := lenv L fl cd) x.n mp ⟨⟨m, x.n⟩, pa, pvs.toArray, rfl, hP.is x.frz, by simp; unfold sizeLine; omega, fun It C D h₁ tk₁ hIt hC hD hIC hID hCD k₁ => ?_⟩)
  have nI : ∀ {b}, s.heap.get? b = none → I b = none := fun h => x.frz.none_new h
  refine ⟨fun i ys s' => ∃ h tk I' a' qs, s' = { s with heap := h, toks := tk } ∧ LS P X I' L st nums ns a' h m ∧ Grows s.heap I I' ∧ (∀ b ∈ [It, C, D], I' b = none) ∧ Paired (InsI I') ys qs ∧ qs.map (·.at') = pns.take i ∧ (∀ q ∈ qs, Chain 0 q.ts ∧ q.ts.length ≤ 2) ∧ a' ≤ a + 20 * i ∧ (∀ b o, s.heap.get? b = some o → b ≠ st → h.get? b = some o),
    ⟨⟨h₁, tk₁, I, a, [], rfl, x.sub k₁, Grows.refl _ _, ?_, .nil, by simp, by simp, by omega, fun b o e _ => k₁ b o e⟩, ?_⟩, ?_⟩
  · intro b hb
    simp only [List.mem_cons, List.not_mem_nil, or_false] at hb
    rcases hb with rfl | rfl | rfl
    · exact nI hIt
    · exact nI hC
    · exact nI hD
  · rintro i v ys s' h' tk m' hlt ⟨h₂, tk₂, I', a', qs, rfl, x₂, G, hno, hpq, hmap, hqs, ha', old₂⟩ hnC hlD hst hv kIt E'
    obtain ⟨n, tn, rfl, hn⟩ := ints_get hpi (i := i) (v := v) (by simpa using hv)
    have hi : i < 5 := by have := (List.getElem?_eq_some_iff.1 hn).1; omega
    have hn1 := hno It (by simp)
    have hn2 := hno C (by simp)
    have hn3 := hno D (by simp)
    have x₃ := LS.newI x x₂ (KeepBut.toL (l := [It]) kIt) (by simp [hIt, hn1])
    refine wpAny_assign_Name (wpAny_storeName_local (by rfl) hnC (fun h₄ hn₄ s₄ => ?_) (by rfl))
    replace s₄ : Heap.SameBut C h' h₄ := s₄
    replace hn₄ : h₄.Ns C _ := hn₄
    have x₄ := LS.newI x x₃ (same_one s₄) (by simp [hC, hn2])
    have hit₄ : h₄.IsListIter It pa (i + 1) := hst.1.at fun o e => s₄.extBut _ o hIC e
    have hlD₄ : Lst h₄ D ys := hlD.at fun o e => s₄.extBut _ o hCD.symm e
    have old₄ : ∀ b o, s.heap.get? b = some o → b ≠ st → h₄.get? b = some o := fun b o e hb => s₄.extBut b o (fun q => by rw [q, hC] at e; cases e) (kIt b o (fun q => by rw [q, hIt] at e; cases e) (old₂ b o e hb))
    refine wpAny_tests_nil ?_
    rw [if_pos rfl]
    refine Tuple_ (spliced_cons (ldV hn₄ (if_pos rfl) (spliced_cons ?_)))
    refine callF3 (P := P) (k := 5) x₄.base P.hft rfl (ldK (c := L + 1) x₄.cs ?_)
    refine callF2 (P := P) (k := 3) x₄.base P.hfn rfl (ldK (c := L + 1) x₄.cs (wpAny_Constant_int (k := 0) (pos := default) ?_))
    refine ⟨x₄.base, l_next so (Nat.lt_of_succ_lt hd) hA x₄ (by omega) (by decide) fun r t h₅ tk₅ hr x₅ k₅ => ?_⟩
    refine wpAny_Constant_int (k := 0) (pos := default) ⟨x₅.base, ?_⟩
    refine tokens_call P hd hA x₅.base so x₅.sa (by omega) (by omega) x₅.frz (x₅.iN st (by simp)).1 fun I₆ u ts h₆ tk₆ a₆ G₆ F₆ hT hc hl ha sa₆ k₆ => ?_
    have x₆ := LS.grow x₅ (x₅.mv k₆ sa₆) G₆ F₆
    have neS : ∀ {b : Addr} {o : Obj}, h₄.get? b = some o → (∀ o, h₄.get? st ≠ some o ∨ b ≠ st) → True := fun _ _ => trivial
    obtain ⟨tks, os, es, hsc, hsn, hsd⟩ := id x₄.sa.st
    have hItS : It ≠ st := by
      rintro rfl; obtain ⟨o, e, c, d⟩ := hit₄; rw [es] at e; cases e; rw [hsd] at d; cases d
    have hCS : C ≠ st := by
      rintro rfl; obtain ⟨o, _, _, e, d, _⟩ := hn₄; rw [es] at e; cases e; rw [hsd] at d; cases d
    have hDS : D ≠ st := by
      rintro rfl; obtain ⟨_, o, e, _⟩ := x.sa.st; rw [hD] at e; cases e
    have hit₆ : h₆.IsListIter It pa (i + 1) := hit₄.at fun o e => k₆ _ o hItS (k₅ _ o hItS e)
    have hn₆ := (hn₄.at' fun o e => k₅ _ o hCS e).at' fun o e => k₆ _ o hCS e
    have hlD₆ : Lst h₆ D ys := (hlD₄.at fun o e => k₅ _ o hDS e).at fun o e => k₆ _ o hDS e
    have old₆ : ∀ b o, s.heap.get? b = some o → b ≠ st → h₆.get? b = some o := fun b o e hb => k₆ b o hb (k₅ b o hb (old₄ b o e hb))
    have ex5 : ∀ {b : Addr} {o : Obj}, h₄.get? b = some o → b ≠ st → ∃ o', h₅.get? b = some o' := fun e hb => ⟨_, k₅ _ _ hb e⟩
    have hno₆ : ∀ b ∈ [It, C, D], I₆ b = none := by
      intro b hb
      simp only [List.mem_cons, List.not_mem_nil, or_false] at hb
      rcases hb with rfl | rfl | rfl
      · obtain ⟨o, e, _⟩ := hit₄; obtain ⟨o', e'⟩ := ex5 e hItS; exact (G₆.2 _ _ e').trans hn1
      · obtain ⟨o, _, _, e, _⟩ := hn₄; obtain ⟨o', e'⟩ := ex5 e hCS; exact (G₆.2 _ _ e').trans hn2
      · obtain ⟨_, e⟩ := hlD₄; obtain ⟨o', e'⟩ := ex5 e hDS; exact (G₆.2 _ _ e').trans hn3
    have ex : ∀ (h : Heap) (a : Int) (I : PM), LS P X I L st nums ns a h m → (∀ b o, s.heap.get? b = some o → b ≠ st → h.get? b = some o) → ∀ b o, s.heap.get? b = some o → ∃ o', h.get? b = some o' := by
      intro h a I xx old b o e
      by_cases hb : b = st
      · subst hb; obtain ⟨_, o', e', _⟩ := xx.sa.st; exact ⟨o', e'⟩
      · exact ⟨o, old b o e hb⟩
    have G' : Grows s.heap I I₆ := G.trans G₆ (ex h₅ _ _ x₅ fun b o e hb => k₅ b o hb (old₄ b o e hb))
    refine spliced_nil (wpAny_newObj_type ?_)
    dsimp only
    have sb := Sub.push h₆ { cls := .type "tuple", data := .seq [.int n tn, u].toArray }
    have eT := Heap.get?_push_size h₆ (o := { cls := .type "tuple", data := .seq [.int n tn, u].toArray }) rfl
    have hT0 : h₆.get? h₆.objs.size = none := Heap.get?_none_of_le (Nat.le_refl _)
    generalize h₆.objs.size = ta at *
    generalize h₆.push _ = h₇ at *
    have hta : ta ∉ [It, C, D] := by
      intro q
      simp only [List.mem_cons, List.not_mem_nil, or_false] at q
      rcases q with rfl | rfl | rfl
      · obtain ⟨o, e, _⟩ := hit₆; rw [hT0] at e; cases e
      · obtain ⟨o, _, _, e, _⟩ := hn₆; rw [hT0] at e; cases e
      · obtain ⟨_, e⟩ := hlD₆; rw [hT0] at e; cases e
    have gA := Grows.add (o := { cls := .type "tuple", data := .seq [.int n tn, u].toArray }) x₆.frz hT0
    have x₇ := LS.grow x₆ (x₆.sub sb) gA ((x₆.frz.sub sb).add eT)
    have hno₇ : ∀ b ∈ [It, C, D], (I₆.add ta { cls := .type "tuple", data := .seq [.int n tn, u].toArray }) b = none := by
      intro b hb
      unfold PM.add; rw [if_neg (by rintro rfl; exact hta hb)]; exact hno₆ b hb
    refine ⟨⟨hit₆.at fun o e => sb _ o e, (hP.is x.frz).at fun o e => sb _ o (old₆ _ o e (by rintro rfl; obtain ⟨n, e⟩ := hP; rw [(x.iN _ (by simp)).1] at e; cases e))⟩, hlD₆.sub sb, ⟨_, hn₆.keeps sb⟩, fun h'' tk'' kD => ⟨h'', _, _, a₆, qs ++ [⟨n, ts⟩], rfl, ?_, ?_, hno₇, ?_, ?_, ?_, by omega, ?_⟩⟩
    · exact LS.newI x x₇ (KeepBut.toL (l := [D]) kD) (by simp [hD, hno₇ D (by simp)])
    · exact G'.trans gA (ex h₆ _ _ x₆ old₆)
    · refine paired_snoc (paired_mono (fun _ _ q => InsI.mono q fun b o e => gA.1 b o (G₆.1 b o e)) hpq) ?_
      exact ⟨ta, _, tn, u, rfl, by unfold PM.add; rw [if_pos rfl], hT.mono gA.1⟩
    · rw [List.map_append, hmap, take_succ_of hn]; rfl
    · intro q hq
      rcases List.mem_append.1 hq with r' | r'
      · exact hqs q r'
      · simp at r'; subst r'; exact ⟨hc, by show ts.length ≤ 2; omega⟩
    · intro b o e hb
      exact kD b o (fun q => by rw [q, hD] at e; cases e) (sb b o (old₆ b o e hb))
  · rintro ys s' ⟨h₂, tk₂, I', a', qs, rfl, x₂, G, hno, hpq, hmap, hqs, ha', old₂⟩
    rw [List.take_of_length_le (by simp; omega)] at hmap
    refine ⟨m, x₂.n, fun h' tk hlD hnL kk => ?_⟩
    replace kk : KeepL [It, C, L] h₂ h' := kk
    dsimp only
    have hn1 := hno It (by simp)
    have hn2 := hno C (by simp)
    have hn3 := hno D (by simp)
    have x₃ : LS P X I' L st nums ns a' h' (fun z => if z = "insertions" then some (.ref D) else m z) := LS.newL x x₂ (l := [It, C]) (kk.mono (by simp)) hnL (by simp [hIt, hC, hn1, hn2])
    obtain ⟨nD, eD⟩ := hlD
    have g1 : ∀ b o, I' b = some o → (I'.add D { cls := .type "list", data := .seq ys.toArray nD }) b = some o := fun b o e => by
      unfold PM.add; rw [if_neg (by rintro rfl; rw [hn3] at e; cases e)]; exact e
    have g2 : ∀ b o, s.heap.get? b = some o → (I'.add D { cls := .type "list", data := .seq ys.toArray nD }) b = I' b := fun b o e => by
      unfold PM.add; rw [if_neg (by rintro rfl; rw [hD] at e; cases e)]
    refine h (I'.add D { cls := .type "list", data := .seq ys.toArray nD }) D ys qs h' tk _ a' (LS.grow x x₃ ⟨g1, g2⟩ (x₃.frz.add eD)) ⟨fun b o e => g1 b o (G.1 b o e), fun b o e => (g2 b o e).trans (G.2 b o e)⟩ (if_pos rfl) (fun z hz => if_neg (fun q => hz (by rw [q]; simp))) ⟨nD, by unfold PM.add; rw [if_pos rfl]⟩ (paired_mono (fun _ _ q => InsI.mono q g1) hpq) hmap hqs (by simp at ha'; omega) ?_
    intro b o e hb hbL
    refine kk b o ?_ (old₂ b o e hb)
    simp only [List.mem_cons, List.not_mem_nil, or_false, not_or]
    exact ⟨(fun q => by rw [q, hIt] at e; cases e), (fun q => by rw [q, hC] at e; cases e), hbL⟩
end
end Mine
end

section
open PySem PySem.W PyProof.Rows PySem.Calls PySem.SeqAt
namespace Mine
/-- a type of the built-ins by its name, one argument -/
theorem callT1 {M : Model} {A : Around} {E : Value → Shared → Prop} {s : Shared} {env : Env} {P : Pg} {x : Str} {Q : Value → Shared → Prop} {T : String} {p pos : Pos} {e : Expr} (hb : Sub P.base s.heap) (hv : bootBuiltins x = some (.type T))
    (h : wpAny M A (eval e env) (fun v s₁ => wpAny M A (call (.type T) [v]) Q E s₁) E s)
    (hf : x ∈ (["len", "range", "sum", "sorted", "list", "int", "iter", "next", "abs", "StopIteration"] : List Str) := by decide)
    (hs : starEach [e] env = [(false, eval e env)] := by rfl)
    (hk : env.scope.kind = .function := by rfl) (hl : env.kindOf x = some .globalImplicit := by rfl) (hg : env.globals = mainGlobals := by rfl) (hbn : env.builtins = builtinsNs := by rfl) (hn : x ≠ "__name__" := by decide) (hd : (x == ("__debug__" : Str)) = false := by decide) :
    wpAny M A (eval (.Call (.Name x p) [e] [] pos) env) Q E s := by
  refine Call_ (ldB hb hv ?_ hf hk hl hg hbn hn hd)
  exact callWith_type1 (args_cons (wpAny_mono h (fun v s₁ h₁ => args_nil h₁) fun _ _ x => x) hs) hs rfl
theorem cells_ne_list {h : Heap} {c : Addr} {v : Option Value} (x : h.IsCell c v) : ∀ o, h.get? c = some o → ∀ vs, o.data ≠ .fields vs := by
  rintro o e vs q; obtain ⟨o', e', d⟩ := x; rw [e] at e'; cases e'; rw [q] at d; cases d
section
variable {P : Pg} {w : World} {A : Around} {E : Value → Shared → Prop} {s : Shared} {X I : PM} {L st nums fl : Addr} {cd : Value} {ns : List Int} {a : Int} {m : Str → Option Value}
theorem LS.left {s' : Shared} (x : LS P X I L st nums ns a s.heap m) (f : Left P L m I s s') : LS P X I L st nums ns a s'.heap m := by
  have kc : ∀ {c v}, s.heap.IsCell c v → s'.heap.IsCell c v := fun {c v} y => IsCell.at' y fun o e => f.keep c o e (cell_ne y x.n) (.inr (.inl (cells_ne_list y o e)))
  have kl : ∀ {b : Addr} {items : Array Value}, s.heap.IsList b items → s'.heap.IsList b items := fun {b items} y => isList_at y fun o e => f.keep b o e (by
      rintro rfl; obtain ⟨o', e', c', n, d⟩ := y; obtain ⟨o2, _, _, e2, d2, _⟩ := x.n; rw [e'] at e2; cases e2; rw [d] at d2; cases d2) (.inl (by
      obtain ⟨o', e', c', _⟩ := y; rw [e] at e'; cases e'; rw [c']; simp))
  refine ⟨f.base, f.frz, fun b o e => ⟨f.keep b o (x.fx b o e).1 (fun q => by have := (x.iN L (by simp)).2.1; rw [← q, e] at this; cases this) (.inl (x.fx b o e).2), (x.fx b o e).2⟩, f.lw, kc x.cs, let ⟨v, c⟩ := x.c2; ⟨v, kc c⟩, let ⟨v, c⟩ := x.c3; ⟨v, kc c⟩, ⟨?_, ?_, x.sa.pos⟩, x.iN⟩
  · obtain ⟨tk, y⟩ := x.sa.st; exact ⟨tk, kl y⟩
  · obtain ⟨vs, y, z⟩ := x.sa.nums; exact ⟨vs, kl y, z⟩
/-- how many are put out -/
theorem cutG_len (i : Int) (k : Str) (v : List Nat) : ∀ (pend : List T2) (o : Nat), (cutG i k v pend o).length ≤ 1 + pend.length + wsum pend
  | [], o => by simp only [cutG]; split <;> simp
  | q :: r, o => by
    have ih := cutG_len i k v r (q.at' - i).toNat
    have e : wsum (q :: r) = q.ts.length + wsum r := by simp [wsum, foundOf, pairsOf]
    simp only [cutG]
    split
    · simp only [List.length_append, List.length_cons]
      have : (pairsOf q.ts).length = q.ts.length := by simp [pairsOf]
      split <;> (simp only [List.length_nil, List.length_cons]; omega)
    · split <;> (simp only [List.length_nil, List.length_cons]; omega)
theorem remG_len (x : Int) : ∀ pend : List T2, (remG x pend).length ≤ pend.length ∧ wsum (remG x pend) ≤ wsum pend
  | [] => by simp [remG]
  | q :: r => by
    have ih := remG_len x r
    have e : wsum (q :: r) = q.ts.length + wsum r := by simp [wsum, foundOf, pairsOf]
    simp only [remG]
    split
    · simp only [List.length_cons]; omega
    · exact ⟨Nat.le_refl _, Nat.le_refl _⟩
theorem runG_len : ∀ (ts : List T3) (pend : List T2), (runG ts pend).length ≤ (ts.length + 1) * (1 + pend.length + wsum pend)
  | [], pend => by simp only [runG]; show (foundOf [] pend).length ≤ _; rw [foundOf_len]; simp
  | t :: r, pend => by
    have h1 := cutG_len t.p t.k t.v pend 0
    have h2 := remG_len (t.p + t.v.length) pend
    have h3 := runG_len r (remG (t.p + t.v.length) pend)
    have h4 : (r.length + 1) * (1 + (remG (t.p + t.v.length) pend).length + wsum (remG (t.p + t.v.length) pend)) ≤ (r.length + 1) * (1 + pend.length + wsum pend) := Nat.mul_le_mul_left _ (by omega)
    simp only [runG, List.length_append, List.length_cons]
    have e : (r.length + 1 + 1) * (1 + pend.length + wsum pend) = (r.length + 1) * (1 + pend.length + wsum pend) + (1 + pend.length + wsum pend) := Nat.succ_mul _ _
    omega
theorem dues_len : ∀ (l : List KV) (p : Int), (dues p l).length = l.length
  | [], _ => rfl
  | x :: r, p => by simp [dues, dues_len r]
theorem genOut_len {ts : List T3} {ins : List T2} {pl : Int} (c : Chain pl ts) (o : Ord pl ins) : (genOut ts ins).length ≤ (ts.length + 1) * (1 + ins.length + wsum ins) := by
  unfold genOut
  rw [gen_dues ts ins none pl c o, dues_len]
  exact runG_len ts ins
/-- list(do_insertions(insertions, tokens)), one at least -/
theorem told_ins {Q : Value → Shared → Prop} {il tl : Addr} {ivs tvs : List Value} {ins : List T2} {ts : List T3} {pl : Int} (hroom : A.depth < recursionLimit) (hA : A.handled = none) (hfr : A.frames = some [lenv L fl cd]) (x : LS P X I L st nums ns a s.heap m) (hbare : ∀ x ∈ s.gens, x.bare = true)
    (hI : LstI I il ivs) (hp : Paired (InsI I) ivs ins) (hok : ∀ q ∈ ins, ∀ t ∈ q.ts, t.v.length ≤ 4) (hT : LstI I tl tvs) (hpt : Paired (TokI I) tvs ts) (hv : ∀ t ∈ ts, t.v.length ≤ 4) (hch : Chain pl ts) (hord : Ord pl ins) (hne : ins ≠ []) (hlen : (ts.length + 1) * (1 + ins.length + wsum ins) ≤ 1000)
    (hQ : ∀ s' sa acc c, s.heap.get? sa = none → Left P L m I s s' → s'.heap.get? sa = some { cls := .type "list", data := .seq (List.toArray acc) c } → Paired (TokI s'.heap.get?) acc (genOut ts ins) → Q (.ref sa) s') :
    wpAny (model pw w) A (call (.ref P.fi) [.ref il, .ref tl]) (fun v s₁ => wpAny (model pw w) A (call (.type "list") [v]) Q E s₁) E s := by
  refine told (le := lenv L fl cd) (Lw := L) (mw := m) (I := I) (out := genOut ts ins) hroom hA hfr rfl (show (scopeA 7).kind ≠ .module by decide) x.base x.frz x.n (x.iN L (by simp)).2.2 (x.iN L (by simp)).1 hbare (Nat.le_trans (genOut_len hch hord) hlen) ?_ hQ
  intro G e1 e2 e3 e4 hg hs A' s₀ m₀ K H F hK1 hK2 gi mi mt sb
  subst e1
  cases ins with
  | nil => exact absurd rfl hne
  | cons q r => exact gen_body hI hp hok hT hpt hv hch hord F rfl hK1 gi Now.refl mi mt e3
/-- list(do_insertions([], …)) -/
theorem told_plain {Q : Value → Shared → Prop} {il tl : Addr} {tv : Value} {tvs : List Value} {ts : List T3} (hroom : A.depth < recursionLimit) (hA : A.handled = none) (hfr : A.frames = some [lenv L fl cd]) (x : LS P X I L st nums ns a s.heap m) (hbare : ∀ x ∈ s.gens, x.bare = true)
    (hI : LstI I il []) (hT : LstI I tl tvs) (hpt : Paired (TokI I) tvs ts) (hlen : ts.length ≤ 1000) (hsrc : tv = .ref tl ∨ ∃ tit, tv = .ref tit ∧ s.heap.IsListIter tit tl 0 ∧ P.base.get? tit = none ∧ I tit = none)
    (hQ : ∀ s' sa acc c, s.heap.get? sa = none → Left P L m I s s' → s'.heap.get? sa = some { cls := .type "list", data := .seq (List.toArray acc) c } → Paired (TokI s'.heap.get?) acc ts → Q (.ref sa) s') :
    wpAny (model pw w) A (call (.ref P.fi) [.ref il, tv]) (fun v s₁ => wpAny (model pw w) A (call (.type "list") [v]) Q E s₁) E s := by
  refine told (le := lenv L fl cd) (Lw := L) (mw := m) (I := I) (out := ts) hroom hA hfr rfl (show (scopeA 7).kind ≠ .module by decide) x.base x.frz x.n (x.iN L (by simp)).2.2 (x.iN L (by simp)).1 hbare hlen ?_ hQ
  intro G e1 e2 e3 e4 hg hs A' s₀ m₀ K H F hK1 hK2 gi mi mt sb
  subst e1
  refine gen_plain (tv := tv) (tvs := tvs) hI hT hpt ?_ F rfl hK2 gi Now.refl mi mt e3
  rcases hsrc with rfl | ⟨tit, rfl, hit, hb, hi⟩
  · exact .inl rfl
  · obtain ⟨o, e, c, d⟩ := id hit
    refine .inr ⟨tit, rfl, ⟨hit.at fun o e => sb _ o e, hb, ?_, ?_, ?_, hi⟩⟩
    · rintro rfl; rw [hg] at e; cases e
    · rintro rfl; rw [e4] at hit; exact iter_ne_ns hit x.n rfl
    · rintro rfl; rw [hs] at e; cases e
end
end Mine
end

section
open PySem PySem.W PyProof.Rows PySem.Calls PySem.SeqAt
namespace Mine
theorem all_tt (n : Nat) : ((List.range n).all fun _ => true) = true := by rw [List.all_eq_true]; simp
theorem tok_eq {A : Around} {s : Shared} {v v' : Value} {t : T3} (hu : A.units + 1 < cLine) (x : TokI s.heap.get? v t) (y : TokI s.heap.get? v' t) : EqAt A s v v' true := by
  obtain ⟨a, n, t1, t2, t3, rfl, e⟩ := x
  obtain ⟨b, n', u1, u2, u3, rfl, e'⟩ := y
  by_cases hab : a = b
  · subst hab; exact EqAt.same _
  · refine EqAt.of_refs hab ?_
    have := RcAt.tuples (A := A) (s := s) (e := fun _ => true) (l := a) (b := b) (items := #[.int t.p t1, .str t.k t2, .str (S t.v) t3]) (items2 := #[.int t.p u1, .str t.k u2, .str (S t.v) u3]) ⟨_, e, rfl, _, rfl⟩ ⟨_, e', rfl, _, rfl⟩ (by omega) ?_
    · have e3 : ((List.range (min (#[Value.int t.p t1, .str t.k t2, .str (S t.v) t3]).size (#[Value.int t.p u1, .str t.k u2, .str (S t.v) u3]).size)).all (fun _ => true) && (#[Value.int t.p t1, .str t.k t2, .str (S t.v) t3]).size == (#[Value.int t.p u1, .str t.k u2, .str (S t.v) u3]).size) = true := by rw [all_tt]; rfl
      rw [e3] at this; exact this
    · intro j h1 h2
      have hj : j = 0 ∨ j = 1 ∨ j = 2 := by simp at h1; omega
      rcases hj with rfl | rfl | rfl
      · have := EqAt.int_int (A := A.in1) (s := s) t.p t1 t.p u1; simpa using this
      · have := EqAt.str_str (A := A.in1) (s := s) t.k t2 t.k u2; simpa using this
      · have := EqAt.str_str (A := A.in1) (s := s) (S t.v) t3 (S t.v) u3; simpa using this
section
variable {prog : Program} {w : World} {A : Around} {E : Value → Shared → Prop} {s : Shared}
theorem toks_items {l : List Value} {b : List Value} {ts : List T3} (hu : A.units + 2 < cLine) (x : Paired (TokI s.heap.get?) l ts) (y : Paired (TokI s.heap.get?) b ts) :
    ∀ j (h1 : j < l.toArray.size) (h2 : j < b.toArray.size), EqAt A.in1 s l.toArray[j] b.toArray[j] true := by
  intro j h1 h2
  have hl := x.length
  have hj : j < ts.length := by simp at h1; omega
  obtain ⟨v, e, q⟩ := paired_at x (List.getElem?_eq_getElem hj)
  obtain ⟨v', e', q'⟩ := paired_at y (List.getElem?_eq_getElem hj)
  have e1 : l.toArray[j] = v := by
    have := (List.getElem?_eq_some_iff.1 e).2; simpa using this
  have e2 : b.toArray[j] = v' := by
    have := (List.getElem?_eq_some_iff.1 e').2; simpa using this
  rw [e1, e2]
  exact tok_eq (by show A.units + 1 + 1 < cLine; omega) q q'
theorem toks_ne {Q : Value → Shared → Prop} {l b : Addr} {xs ys : List Value} {ts : List T3} (hu : A.units + 2 < cLine) (hl : s.heap.IsList l xs.toArray) (hb : s.heap.IsList b ys.toArray) (x : Paired (TokI s.heap.get?) xs ts) (y : Paired (TokI s.heap.get?) ys ts) (h : Q (.bool false) s) :
    wpAny (model prog w) A (compareOp .NotEq (.ref l) (.ref b)) Q E s := by
  refine RcNeAt.lists (A := A) (s := s) (e := fun _ => true) hl hb (by simp [x.length, y.length]) (by omega) (toks_items hu x y) prog w E Q ?_
  rw [all_tt]; exact h
theorem toks_eq {Q : Value → Shared → Prop} {l b : Addr} {xs ys : List Value} {ts : List T3} (hu : A.units + 2 < cLine) (hl : s.heap.IsList l xs.toArray) (hb : s.heap.IsList b ys.toArray) (x : Paired (TokI s.heap.get?) xs ts) (y : Paired (TokI s.heap.get?) ys ts) (h : Q (.bool true) s) :
    wpAny (model prog w) A (compareOp .Eq (.ref l) (.ref b)) Q E s := by
  refine RcAt.lists (A := A) (s := s) (e := fun _ => true) hl hb (by simp [x.length, y.length]) (by omega) (toks_items hu x y) prog w E Q ?_
  rw [all_tt]; exact h
end
end Mine
end

section
open PySem PySem.W PyProof.Rows PySem.Calls PySem.SeqAt
namespace Mine
def ifElse : Stmt → List Stmt
  | .If _ _ e _ => e
  | _ => []
def ifBody : Stmt → List Stmt
  | .If _ b _ _ => b
  | _ => []
def dFor : Stmt := nth (ifElse (lB 6)) 1 (.Pass default)
theorem dues_snoc (l : List KV) (x : KV) (p : Int) : dues p (l ++ [x]) = dues p l ++ [⟨p + plen l, x.1, x.2⟩] := by rw [dues_append]; rfl
theorem dues_take_succ {l : List KV} {i : Nat} {x : KV} (h : l[i]? = some x) (p : Int) : dues p (l.take (i + 1)) = dues p (l.take i) ++ [⟨p + plen (l.take i), x.1, x.2⟩] := by rw [take_succ_of h, dues_snoc]
def DU : List Str := ["kind", "value", "place"]
section
variable {P : Pg} {w : World} {A : Around} {E : Value → Shared → Prop} {s : Shared} {X I : PM} {L st nums fl : Addr} {cd : Value} {ns : List Int} {a : Int} {m : Str → Option Value}
/-- for kind, value in _law_woven(tokens, insertions, start): due.append((place, kind, value)); place = place + len(value) -/
theorem due_loop {Q : Flow → Shared → Prop} {il tl dl : Addr} {ivs tvs : List Value} {ins : List T2} {ts : List T3} {start : Nat} {t₀ tp : Tok} {p0 : Int} (hd : A.depth < recursionLimit) (hA : A.handled = none) (hu : A.units + 10 < cLine) (x : LS P X I L st nums ns a s.heap m)
    (hlen : ts.length * (5 * (1 + wsum ins)) + 5 * (1 + wsum ins) ≤ 100000) (hts : ts.length ≤ 1000) (hI : LstI I il ivs) (hpi : Paired (InsI I) ivs ins) (hil : ins.length ≤ 1000) (hq : ∀ q ∈ ins, q.ts.length ≤ 1000)
    (hT : ToksI I (.ref tl) ts) (hv : ∀ t ∈ ts, t.v.length ≤ 4) (hst : s.heap.IsCell (L + 2) (some (.int start t₀))) (mt : m "tokens" = some (.ref tl)) (mi : m "insertions" = some (.ref il)) (md : m "due" = some (.ref dl)) (mp : m "place" = some (.int p0 tp)) (hdl : Lst s.heap dl []) (hdb : P.base.get? dl = none)
    (hwl : (wov start ts ins).length ≤ 1000) (hwv : ∀ kv ∈ wov start ts ins, kv.2.length ≤ 1000)
    (hQ : ∀ h' tk' m' dvs, (∀ b o, s.heap.get? b = some o → b ≠ L → b ≠ dl → h'.get? b = some o) → h'.Ns L m' → Upd DU m m' → Lst h' dl dvs → Paired (TokI h'.get?) dvs (dues p0 (wov start ts ins)) → Q .next { s with heap := h', toks := tk' }) :
    wpAny (model pw w) A (exec dFor (lenv L fl cd)) Q E s := by
  have hdL := hdl.ns_ne x.n
  refine for_list hA (callF3 (P := P) (k := 6) (env := lenv L fl cd) x.base P.hfw rfl (ldV (env := lenv L fl cd) x.n mt (ldV (env := lenv L fl cd) x.n mi (ldK (env := lenv L fl cd) (c := L + 2) hst ⟨x.base, ?_⟩))))
  refine woven_call (P := P) hd hA hu x.base x.frz hlen hts hI hpi hil hq hT hv fun fd fvs h₁ tk₁ k₁ hfd hl₁ hp₁ => ?_
  refine ⟨fd, fvs.toArray, rfl, hl₁.isList, ?_⟩
  have sb := Sub.push h₁ { cls := .type "list_iterator", data := .fields #[.ref fd, .int 0 0] }
  have eI := Heap.get?_push_size h₁ (o := { cls := .type "list_iterator", data := .fields #[.ref fd, .int 0 0] }) rfl
  have hI0 : h₁.get? h₁.objs.size = none := Heap.get?_none_of_le (Nat.le_refl _)
  have hn₁ := x.n.keeps k₁
  have hd₁ := hdl.sub k₁
  have hfL : fd ≠ L := hl₁.ns_ne hn₁
  have hfd2 : fd ≠ dl := by rintro rfl; obtain ⟨_, e⟩ := hdl; rw [hfd] at e; cases e
  dsimp only
  generalize h₁.objs.size = It at *
  have hIt : s.heap.get? It = none := by
    cases q : s.heap.get? It with
    | none => rfl
    | some o => have := k₁ _ _ q; rw [hI0] at this; cases this
  refine ⟨fun i s' => ∃ h tk m' dvs tp', s' = { s with heap := h, toks := tk } ∧ (∀ b o, h₁.get? b = some o → b ≠ L → b ≠ dl → h.get? b = some o) ∧ h.Ns L m' ∧ m' "due" = some (.ref dl) ∧ m' "place" = some (.int (p0 + plen ((wov start ts ins).take i)) tp') ∧ Upd DU m m' ∧ Lst h dl dvs ∧
      Paired (TokI h.get?) dvs (dues p0 ((wov start ts ins).take i)) ∧ h.IsListIter It fd i,
    ⟨_, tk₁, m, [], tp, rfl, fun b o e _ _ => sb b o e, hn₁.keeps sb, md, by simpa [plen] using mp, Upd.refl m, hd₁.sub sb, .nil, ⟨_, eI, rfl, rfl⟩⟩, ?_, ?_⟩
  · rintro i v s' h' tk ⟨h₂, tk₂, m₂, dvs, tp₂, rfl, old₂, hn₂, md₂, mp₂, u₂, hl₂, hp₂, hit₂⟩ hit' hlF hv₀ kIt E'
    have hv' : fvs[i]? = some v := by simpa using hv₀
    obtain ⟨kv, hkv, pv⟩ : ∃ kv, (wov start ts ins)[i]? = some kv ∧ P2At h₁ v kv := by
      have hl := hp₁.length
      have hi : i < (wov start ts ins).length := by have := (List.getElem?_eq_some_iff.1 hv').1; omega
      obtain ⟨v', e, q⟩ := paired_at hp₁ (List.getElem?_eq_getElem hi)
      rw [hv'] at e; cases e
      exact ⟨_, List.getElem?_eq_getElem hi, q⟩
    have hkl := hwv kv (List.mem_of_getElem? hkv)
    have hItL : It ≠ L := iter_ne_ns hit₂ hn₂
    have hItd : It ≠ dl := iter_ne_l hit₂ hl₂
    have hn₃ := hn₂.at' fun o e => kIt _ o hItL.symm e
    have hl₃ : Lst h' dl dvs := hl₂.at fun o e => kIt _ o hItd.symm e
    have hp₃ : Paired (TokI h'.get?) dvs (dues p0 ((wov start ts ins).take i)) := paired_mono (fun _ _ q => TokI.keepL q (KeepBut.toL (l := [It]) kIt) (by simpa using NotTup.iter hit₂)) hp₂
    have old₃ : ∀ b o, h₁.get? b = some o → b ≠ L → b ≠ dl → h'.get? b = some o := fun b o e n1 n2 => kIt b o (fun q => by rw [q, hI0] at e; cases e) (old₂ b o e n1 n2)
    obtain ⟨ta, nn, u1, u2, rfl, eT⟩ := pv
    have hta : ta ≠ L ∧ ta ≠ dl := by
      constructor
      · rintro rfl; exact NotTup.ns hn₁ _ _ eT
      · rintro rfl; exact NotTup.lst hd₁ _ _ eT
    have ht : h'.IsTuple ta #[.str kv.1 u1, .str (S kv.2) u2] := ⟨_, old₃ _ _ eT hta.1 hta.2, rfl, _, rfl⟩
    refine let_list hit' (assign2 (env := lenv L fl cd) hA ht hn₃ (fun h₄ tk₄ hn₄ k₄ => ?_) (by rfl) (by rfl) (by rfl))
    replace k₄ : KeepBut L h' h₄ := k₄
    replace hn₄ : h₄.Ns L _ := hn₄
    have hl₄ : Lst h₄ dl dvs := hl₃.at fun o e => k₄ _ o hdL e
    have hit₄ : h₄.IsListIter It fd (i + 1) := hit'.at fun o e => k₄ _ o hItL e
    have hp₄ : Paired (TokI h₄.get?) dvs (dues p0 ((wov start ts ins).take i)) := paired_mono (fun _ _ q => TokI.keepL q (KeepBut.toL (l := [L]) k₄) (by simpa using NotTup.ns hn₃)) hp₃
    -- due.append((place, kind, value))
    refine wpAny_execs_cons (append_stmt (env := lenv L fl cd) (items := dvs) hn₄ (show (fun z : Str => if z = "value" then some (Value.str (S kv.2) u2) else if z = "kind" then some (.str kv.1 u1) else m₂ z) "due" = some (.ref dl) from md₂) hl₄ ?_)
    refine Tuple_ (spliced_cons (ldV (env := lenv L fl cd) hn₄ (show (fun z : Str => if z = "value" then some (Value.str (S kv.2) u2) else if z = "kind" then some (.str kv.1 u1) else m₂ z) "place" = some (.int (p0 + plen ((wov start ts ins).take i)) tp₂) from mp₂) (spliced_cons (ldV (env := lenv L fl cd) hn₄ (v := .str kv.1 u1) rfl (spliced_cons (ldV (env := lenv L fl cd) hn₄ (v := .str (S kv.2) u2) rfl (spliced_nil (wpAny_newObj_type ?_))))))))
    have sb₅ := Sub.push h₄ { cls := .type "tuple", data := .seq [.int (p0 + plen ((wov start ts ins).take i)) tp₂, .str kv.1 u1, .str (S kv.2) u2].toArray }
    have eT₅ := Heap.get?_push_size h₄ (o := { cls := .type "tuple", data := .seq [.int (p0 + plen ((wov start ts ins).take i)) tp₂, .str kv.1 u1, .str (S kv.2) u2].toArray }) rfl
    have hne5 : h₄.objs.size ≠ dl := by rintro q; obtain ⟨_, e⟩ := hl₄; exact new_ne e q.symm
    dsimp only
    generalize h₄.objs.size = na at *
    generalize h₄.push _ = h₅ at *
    have hlp := hp₂.length
    rw [dues_len] at hlp
    refine ⟨hl₄.sub sb₅, by simp at hlp; unfold sizeLine; omega, fun h₆ hl₆ s₆ => ?_⟩
    have hn₆ := (hn₄.keeps sb₅).sameBut s₆ hdL.symm
    have hit₆ : h₆.IsListIter It fd (i + 1) := hit₄.at fun o e => s₆.extBut _ o hItd (sb₅ _ o e)
    have hp₆ : Paired (TokI h₆.get?) (dvs ++ [.ref na]) (dues p0 ((wov start ts ins).take (i + 1))) := by
      rw [dues_take_succ hkv]
      refine paired_snoc (paired_mono (fun _ _ q => (TokI.keepL q (l := []) sb₅.toL (by simp)).keepL (same_one s₆) (by simpa using NotTup.lst (hl₄.sub sb₅))) hp₄) ?_
      exact ⟨na, _, tp₂, u1, u2, rfl, s₆.extBut _ _ hne5 eT₅⟩
    -- place = place + len(value)
    refine wpAny_execs_cons (wpAny_Assign_Name (wpAny_BinOp (ldV (env := lenv L fl cd) hn₆ (show (fun z : Str => if z = "value" then some (Value.str (S kv.2) u2) else if z = "kind" then some (.str kv.1 u1) else m₂ z) "place" = some (.int (p0 + plen ((wov start ts ins).take i)) tp₂) from mp₂) (callB1 (P := P) (env := lenv L fl cd) (?_ : Sub P.base h₆) PyProof.Rows.Boot.«len» (ldV (env := lenv L fl cd) hn₆ (v := .str (S kv.2) u2) rfl (PySem.P.len_str (by rw [S_len]; omega) (add_int ?_)))))) (by rfl))
    · intro b o e
      have hbL : b ≠ L := by rintro rfl; rw [(x.iN _ (by simp)).2.2] at e; cases e
      have hbd : b ≠ dl := by rintro rfl; rw [hdb] at e; cases e
      exact s₆.extBut b o hbd (sb₅ b o (k₄ b o hbL (old₃ b o (k₁ b o (x.base b o e)) hbL hbd)))
    refine wpAny_storeName_local (by rfl) hn₆ (fun h₇ hn₇ s₇ => ?_) (by rfl)
    replace s₇ : Heap.SameBut L h₆ h₇ := s₇
    replace hn₇ : h₇.Ns L _ := hn₇
    refine wpAny_execs_nil ?_
    have hit₇ : h₇.IsListIter It fd (i + 1) := hit₆.at fun o e => s₇.extBut _ o hItL e
    have hplen : plen ((wov start ts ins).take (i + 1)) = plen ((wov start ts ins).take i) + kv.2.length := by rw [take_succ_of hkv, plen_append]; simp [plen]
    refine ⟨⟨hit₇, ?_⟩, h₇, _, _, dvs ++ [.ref na], tk₄ + 1 + 1, rfl, ?_, hn₇, md₂, (if_pos rfl).trans ?_, ?_, hl₆.at fun o e => s₇.extBut _ o hdL e, paired_mono (fun _ _ q => TokI.keepL q (same_one s₇) (by simpa using NotTup.ns hn₆)) hp₆, hit₇⟩
    · exact isList_at hlF fun o e => s₇.extBut _ o hfL (s₆.extBut _ o hfd2 (sb₅ _ o (k₄ _ o hfL e)))
    · intro b o e n1 n2
      exact s₇.extBut b o n1 (s₆.extBut b o n2 (sb₅ b o (k₄ b o n1 (old₃ b o e n1 n2))))
    · rw [S_len, hplen]
      congr 2
      omega
    · intro z hz
      have h0 := u₂ z hz
      simp only [DU, List.mem_cons, List.not_mem_nil, or_false, not_or] at hz
      exact (if_neg hz.2.2).trans ((if_neg hz.2.1).trans ((if_neg hz.1).trans h0))
  · rintro s' h' tk ⟨h₂, tk₂, m₂, dvs, tp₂, rfl, old₂, hn₂, md₂, mp₂, u₂, hl₂, hp₂, hit₂⟩ kIt
    have hl := hp₁.length
    rw [List.take_of_length_le (by simp; omega)] at hp₂
    have hItL : It ≠ L := iter_ne_ns hit₂ hn₂
    have hItd : It ≠ dl := iter_ne_l hit₂ hl₂
    exact hQ h' tk m₂ dvs (fun b o e n1 n2 => kIt b o (fun q => by rw [q, hIt] at e; cases e) (old₂ b o (k₁ b o e) n1 n2)) (hn₂.at' fun o e => kIt _ o hItL.symm e) u₂ (hl₂.at fun o e => kIt _ o hItd.symm e)
      (paired_mono (fun _ _ q => TokI.keepL q (KeepBut.toL (l := [It]) kIt) (by simpa using NotTup.iter hit₂)) hp₂)
end
end Mine
end

section
open PySem PySem.W PyProof.Rows PySem.Calls PySem.SeqAt
namespace Mine
def Small (l : List KV) : Prop := ∀ kv ∈ l, kv.2.length ≤ 1000
theorem Small.app {a b : List KV} (x : Small a) (y : Small b) : Small (a ++ b) := fun kv h => (List.mem_append.1 h).elim (x kv) (y kv)
theorem small_all {qs : List T2} (h : ∀ q ∈ qs, ∀ t ∈ q.ts, t.v.length ≤ 4) : Small (allOf qs) := by
  intro kv hk
  simp only [allOf, foundOf, List.nil_append, List.mem_flatten, List.mem_map] at hk
  obtain ⟨l, ⟨q, hq, rfl⟩, hk⟩ := hk
  simp only [pairsOf, List.mem_map] at hk
  obtain ⟨t, ht, rfl⟩ := hk
  have := h q hq t ht
  show t.v.length ≤ 1000
  omega
theorem small_run {ins : List T2} (h : ∀ q ∈ ins, ∀ t ∈ q.ts, t.v.length ≤ 4) (pl : Int) (k : Str) (v : List Nat) (f : List KV) (hf : Small f) : ∀ n, n ≤ 4 → Small (atRun ins pl k v ([], f) n).2
  | 0, _ => hf
  | n + 1, hn => by
    have ih := small_run h pl k v f hf n (by omega)
    have hl := (atRun_len ins pl k v ([], f) n).2
    simp only [atRun, atStep]
    rw [foundOf_eq]
    refine Small.app ?_ (small_all fun q hq => h q (List.mem_filter.1 hq).1)
    split
    · exact ih
    · refine ih.app ?_
      intro kv hk
      simp at hk; subst hk
      simp at hl
      show (atRun ins pl k v ([], f) n).1.length ≤ 1000
      omega
theorem small_tok {ins : List T2} (h : ∀ q ∈ ins, ∀ t ∈ q.ts, t.v.length ≤ 4) (t : T3) (ht : t.v.length ≤ 4) (f : List KV) (hf : Small f) : Small (wovTok ins t f) := by
  unfold wovTok
  refine (small_run h t.p t.k t.v f hf t.v.length ht).app ?_
  intro kv hk
  have hl := (atRun_len ins t.p t.k t.v ([], f) t.v.length).2
  simp at hk; subst hk
  simp at hl
  show (atRun ins t.p t.k t.v ([], f) t.v.length).1.length ≤ 1000
  omega
theorem small_toks {ins : List T2} (h : ∀ q ∈ ins, ∀ t ∈ q.ts, t.v.length ≤ 4) : ∀ (ts : List T3) (f : List KV), (∀ t ∈ ts, t.v.length ≤ 4) → Small f → Small (wovRun ins ts f)
  | [], f, _, hf => hf
  | t :: r, f, ht, hf => small_toks h r (wovTok ins t f) (fun x hx => ht x (by simp [hx])) (small_tok h t (ht t (by simp)) f hf)
theorem small_wov {ins : List T2} (h : ∀ q ∈ ins, ∀ t ∈ q.ts, t.v.length ≤ 4) (ts : List T3) (ht : ∀ t ∈ ts, t.v.length ≤ 4) (start : Int) : Small (wov start ts ins) := by
  unfold wov
  rw [foundOf_eq]
  exact (small_toks h ts [] ht fun kv hk => by cases hk).app (small_all fun q hq => h q (List.mem_filter.1 hq).1)
theorem wov_len {ins : List T2} (ts : List T3) (ht : ∀ t ∈ ts, t.v.length ≤ 4) (start : Int) : (wov start ts ins).length ≤ ts.length * (5 * (1 + wsum ins)) + wsum ins := by
  unfold wov
  rw [foundOf_len]
  have h1 := wovRun_len ins ts [] ht
  have h2 := wsum_filter (fun q => decide (q.at' ≥ start + tot ts)) ins
  simp only [List.length_nil] at h1
  omega
section
variable {P : Pg} {w : World} {A : Around} {E : Value → Shared → Prop} {s : Shared} {X I : PM} {L st nums fl : Addr} {cd : Value} {ns : List Int} {a : Int} {m : Str → Option Value}
/-- nothing to put in: told == tokens -/
theorem l_check_nil {Q : Flow → Shared → Prop} {pa sa tl : Addr} {acc tvs : List Value} {ts : List T3} (hu : A.units + 10 < cLine) (x : LS P X I L st nums ns a s.heap m) (mp : m "places" = some (.ref pa)) (hP : LstI I pa []) (mo : m "told" = some (.ref sa)) (hS : Lst s.heap sa acc) (hacc : Paired (TokI s.heap.get?) acc ts)
    (mt : m "tokens" = some (.ref tl)) (hT : LstI I tl tvs) (hpt : Paired (TokI I) tvs ts) (h : ∀ h' tk', Sub s.heap h' → Q .next { s with heap := h', toks := tk' }) :
    wpAny (model pw w) A (exec (lB 6) (lenv L fl cd)) Q E s := by
  refine wpAny_If (wpAny_isTrue_Compare1 (ldV (env := lenv L fl cd) x.n mp (List_ (spliced_nil (wpAny_newObj_type ?_)))))
  have sb := Sub.push s.heap { cls := .type "list", data := .seq ([] : List Value).toArray }
  have eN := Heap.get?_push_size s.heap (o := { cls := .type "list", data := .seq ([] : List Value).toArray }) rfl
  have x₁ := x.sub sb
  generalize s.heap.objs.size = na at *
  generalize s.heap.push _ = h₁ at *
  refine eq_nil (by omega) (hP.is x₁.frz) ⟨_, eN, rfl, _, rfl⟩ (wpAny_truthy_bool ?_)
  rw [if_pos (by simp)]
  refine wpAny_execs_cons (wpAny_If (wpAny_isTrue_Compare1 (ldV (env := lenv L fl cd) x₁.n mo (ldV (env := lenv L fl cd) x₁.n mt (toks_ne (by omega) (hS.sub sb).isList (hT.is x₁.frz) (paired_mono (fun _ _ q => TokI.keepL q (l := []) sb.toL (by simp)) hacc) (paired_mono (fun _ _ q => TokI.mono q fun b o e => (x₁.frz b o e).1) hpt) (wpAny_truthy_bool ?_))))))
  rw [if_neg Bool.false_ne_true]
  exact wpAny_execs_nil (wpAny_execs_nil (h h₁ _ sb))
theorem mulok {start : Nat} (h : start ≤ 7) (b : Int) : IntMulOk (start : Int) b := by
  refine IntMulOk.of_left ?_
  have : start = 0 ∨ start = 1 ∨ start = 2 ∨ start = 3 ∨ start = 4 ∨ start = 5 ∨ start = 6 ∨ start = 7 := by omega
  rcases this with rfl | rfl | rfl | rfl | rfl | rfl | rfl | rfl <;> decide
/-- told == due -/
theorem l_check_due {Q : Flow → Shared → Prop} {pa sa il tl : Addr} {acc pvs ivs tvs : List Value} {ins : List T2} {ts : List T3} {start : Nat} {t₀ : Tok} (hd : A.depth < recursionLimit) (hA : A.handled = none) (hu : A.units + 10 < cLine) (x : LS P X I L st nums ns a s.heap m)
    (mp : m "places" = some (.ref pa)) (hP : LstI I pa pvs) (hne : pvs ≠ []) (mo : m "told" = some (.ref sa)) (hS : Lst s.heap sa acc) (hacc : Paired (TokI s.heap.get?) acc (genOut ts ins))
    (mt : m "tokens" = some (.ref tl)) (hT : LstI I tl tvs) (hpt : Paired (TokI I) tvs ts) (hv : ∀ t ∈ ts, t.v.length ≤ 4) (hts : ts.length ≤ 7) (hch : Chain start ts)
    (mi : m "insertions" = some (.ref il)) (hI : LstI I il ivs) (hpi : Paired (InsI I) ivs ins) (hil : ins.length ≤ 5) (hq : ∀ q ∈ ins, q.ts.length ≤ 2) (hqv : ∀ q ∈ ins, ∀ t ∈ q.ts, t.v.length ≤ 4) (hws : wsum ins ≤ 10) (hord : Ord start ins)
    (hst : s.heap.IsCell (L + 2) (some (.int start t₀))) (hs7 : start ≤ 7)
    (h : ∀ h' tk' m', LS P X I L st nums ns a h' m' → Upd ["due", "kind", "value", "place"] m m' → Q .next { s with heap := h', toks := tk' }) :
    wpAny (model pw w) A (exec (lB 6) (lenv L fl cd)) Q E s := by
  refine wpAny_If (wpAny_isTrue_Compare1 (ldV (env := lenv L fl cd) x.n mp (List_ (spliced_nil (wpAny_newObj_type ?_)))))
  have sb := Sub.push s.heap { cls := .type "list", data := .seq ([] : List Value).toArray }
  have eN := Heap.get?_push_size s.heap (o := { cls := .type "list", data := .seq ([] : List Value).toArray }) rfl
  have x₁ := x.sub sb
  have hS₁ := hS.sub sb
  have hacc₁ := paired_mono (fun _ _ q => TokI.keepL q (l := []) sb.toL (by simp)) hacc
  have hst₁ := hst.keeps sb
  generalize s.heap.objs.size = na at *
  generalize s.heap.push _ = h₁ at *
  refine eq_nil (by omega) (hP.is x₁.frz) ⟨_, eN, rfl, _, rfl⟩ (wpAny_truthy_bool ?_)
  rw [if_neg (by simpa using hne)]
  -- due, place = ([], start * int(tokens != []))
  refine wpAny_execs_cons (Assign_Tuple_swapped (names := [Str.ofString "due", Str.ofString "place"]) (Tuple_ (spliced_cons (List_ (spliced_nil (wpAny_newObj_type ?_))))))
  dsimp only
  have sb₂ := Sub.push h₁ { cls := .type "list", data := .seq ([] : List Value).toArray }
  have eD := Heap.get?_push_size h₁ (o := { cls := .type "list", data := .seq ([] : List Value).toArray }) rfl
  have hD0 : h₁.get? h₁.objs.size = none := Heap.get?_none_of_le (Nat.le_refl _)
  have x₂ := x₁.sub sb₂
  have hIn := x₁.frz.none_new hD0
  generalize h₁.objs.size = dl at *
  generalize h₁.push _ = h₂ at *
  refine spliced_cons (wpAny_BinOp (ldK (env := lenv L fl cd) (c := L + 2) (hst₁.keeps sb₂) (callT1 (P := P) (env := lenv L fl cd) x₂.base PyProof.Rows.boot_int (wpAny_Compare1 (ldV (env := lenv L fl cd) x₂.n mt (List_ (spliced_nil (wpAny_newObj_type ?_))))))))
  dsimp only
  have sb₃ := Sub.push h₂ { cls := .type "list", data := .seq ([] : List Value).toArray }
  have eN₃ := Heap.get?_push_size h₂ (o := { cls := .type "list", data := .seq ([] : List Value).toArray }) rfl
  have x₃ := x₂.sub sb₃
  generalize h₂.objs.size = na₃ at *
  generalize h₂.push _ = h₃ at *
  refine ne_nil (by omega) (hT.is x₃.frz) ⟨_, eN₃, rfl, _, rfl⟩ ?_
  refine PySem.call_int_bool (PySem.P.mul_int ?_ (mulok hs7 _))
  refine spliced_nil ?_
  dsimp only
  have hp0 : ((start : Int) * if (!(tvs.toArray.size == 0)) = true then 1 else 0) = if ts = [] then 0 else (start : Int) := by
    have := hpt.length
    by_cases ht : ts = []
    · subst ht; simp at this; subst this; simp
    · have h2 : tvs ≠ [] := by rintro rfl; simp at this; exact ht (List.length_eq_zero_iff.1 this.symm)
      rw [if_neg ht, if_pos (by simpa using h2)]; omega
  rw [hp0]
  refine swap2 (env := lenv L fl cd) hA x₃.n fun h₄ tk₄ hn₄ k₄ => ?_
  replace k₄ : KeepBut L h₃ h₄ := k₄
  replace hn₄ : h₄.Ns L _ := hn₄
  have x₄ := x₃.set k₄ hn₄
  have hdL : dl ≠ L := by rintro rfl; obtain ⟨o, _, _, e, _⟩ := x₁.n; rw [hD0] at e; cases e
  have hD₄ : Lst h₄ dl [] := ⟨_, k₄ _ _ hdL (sb₃ _ _ eD)⟩
  have hst₄ : h₄.IsCell (L + 2) (some (.int start t₀)) := IsCell.at' ((hst₁.keeps sb₂).keeps sb₃) fun o e => k₄ _ o (cell_ne ((hst₁.keeps sb₂).keeps sb₃) x₃.n) e
  have hS₃ : Lst h₃ sa acc := (hS₁.sub sb₂).sub sb₃
  have hS₄ : Lst h₄ sa acc := hS₃.at fun o e => k₄ _ o (hS₃.ns_ne x₃.n) e
  have hacc₄ : Paired (TokI h₄.get?) acc (genOut ts ins) := paired_mono (fun _ _ q => (TokI.keepL q (l := []) (sb₂.trans sb₃).toL (by simp)).keepL (KeepBut.toL (l := [L]) k₄) (by simpa using NotTup.ns x₃.n)) hacc₁
  have hsd : sa ≠ dl := by rintro rfl; obtain ⟨_, e⟩ := hS₁; rw [hD0] at e; cases e
  have hdb : P.base.get? dl = none := by
    cases q : P.base.get? dl with
    | none => rfl
    | some o => have := x₁.base _ _ q; rw [hD0] at this; cases this
  have hlw := wov_len (ins := ins) ts hv (start : Int)
  have hmul : ts.length * (5 * (1 + wsum ins)) ≤ 7 * (5 * (1 + 10)) := Nat.mul_le_mul hts (Nat.mul_le_mul_left _ (by omega))
  have hUp : Upd ["due", "kind", "value", "place"] m (fun z : Str => if z = "due" then some (.ref dl) else if z = "place" then some (.int (if ts = [] then 0 else (start : Int)) (s.toks + 1)) else m z) := by
    intro z hz
    simp only [List.mem_cons, List.not_mem_nil, or_false, not_or] at hz
    exact (if_neg hz.1).trans (if_neg hz.2.2.2)
  dsimp only
  refine wpAny_execs_cons (due_loop (tvs := tvs) hd hA hu x₄ (by omega) (by omega) hI hpi (by omega) (fun q h => Nat.le_trans (hq q h) (by omega)) (by obtain ⟨n, e⟩ := hT; exact ⟨tl, n, tvs, rfl, e, hpt⟩) hv hst₄ mt mi (if_pos rfl) rfl hD₄ hdb (by omega) (fun kv hk => small_wov hqv ts hv start kv hk) fun h₅ tk₅ m₅ dvs old₅ hn₅ u₅ hl₅ hp₅ => ?_)
  have x₅ : LS P X I L st nums ns a h₅ m₅ := LS.newL x₁ x₄ (l := [dl]) (fun b o hb e => old₅ b o e (fun q => hb (by simp [q])) (fun q => hb (by simp [q]))) hn₅ (by simp [hD0, hIn])
  have hS₅ : Lst h₅ sa acc := hS₄.at fun o e => old₅ _ o e (hS₄.ns_ne x₄.n) hsd
  have hacc₅ : Paired (TokI h₅.get?) acc (genOut ts ins) := paired_mono (fun _ _ q => TokI.keepL (l := [L, dl]) q (fun b o hb e => old₅ b o e (fun q => hb (by simp [q])) (fun q => hb (by simp [q]))) (by
    intro b hb
    simp only [List.mem_cons, List.not_mem_nil, or_false] at hb
    rcases hb with rfl | rfl
    · exact NotTup.ns x₄.n
    · exact NotTup.lst hD₄)) hacc₄
  rw [plain_law hch hord] at hacc₅
  dsimp only
  refine wpAny_execs_cons (wpAny_If (wpAny_isTrue_Compare1 (ldV (env := lenv L fl cd) x₅.n ((u₅ "told" (by decide)).trans mo) (ldV (env := lenv L fl cd) x₅.n ((u₅ "due" (by decide)).trans (if_pos rfl)) (toks_ne (by omega) hS₅.isList hl₅.isList hacc₅ hp₅ (wpAny_truthy_bool ?_))))))
  rw [if_neg Bool.false_ne_true]
  exact wpAny_execs_nil (wpAny_execs_nil (h h₅ _ m₅ x₅ (Upd.trans hUp (u₅.mono (by decide)))))
end
end Mine
end

section
open PySem PySem.W PyProof.Rows PySem.Calls PySem.SeqAt
namespace Mine
theorem chain_v : ∀ {p : Int} {ts : List T3}, Chain p ts → ∀ t ∈ ts, t.v.length ≤ 4
  | _, [], _, t, h => by cases h
  | _, x :: r, c, t, h => by
    obtain ⟨_, _, c3, c4⟩ := c
    rcases List.mem_cons.1 h with rfl | h
    · exact c3
    · exact chain_v c4 t h
theorem ord_of : ∀ (ins : List T2) (x : Int), (ins.map (·.at')).Pairwise (· ≤ ·) → (∀ n ∈ ins.map (·.at'), x ≤ n) → Ord x ins
  | [], _, _, _ => trivial
  | q :: r, x, hp, h => by
    simp only [List.map_cons, List.pairwise_cons] at hp
    exact ⟨h _ (by simp), ord_of r _ hp.2 hp.1⟩
theorem wsum_le : ∀ (ins : List T2), (∀ q ∈ ins, q.ts.length ≤ 2) → wsum ins ≤ 2 * ins.length
  | [], _ => Nat.le_refl _
  | q :: r, h => by
    have e : wsum (q :: r) = q.ts.length + wsum r := by simp [wsum, foundOf, pairsOf]
    have := wsum_le r fun x hx => h x (by simp [hx])
    have := h q (by simp)
    rw [e, List.length_cons]; omega
section
variable {P : Pg} {w : World} {A : Around} {E : Value → Shared → Prop} {s : Shared} {X I : PM} {L st nums fl : Addr} {cd : Value} {ns : List Int} {a : Int} {m : Str → Option Value}
/-- one turn of the law -/
theorem l_body {Q : Flow → Shared → Prop} (so : StOk P st nums ns) (hd : A.depth + 1 < recursionLimit) (hA : A.handled = none) (hu : A.units + 10 < cLine) (hfr : A.frames = some [lenv L fl cd]) (x : LS P X I L st nums ns a s.heap m) (hbare : ∀ x ∈ s.gens, x.bare = true) (h1 : a < 100000)
    (h : ∀ s' I' m' a' tl tvs ts pl, LS P X I' L st nums ns a' s'.heap m' → (∀ x ∈ s'.gens, x.bare = true) → s'.os = s.os → m' "tokens" = some (.ref tl) → LstI I' tl tvs → Paired (TokI I') tvs ts → ts.length ≤ 7 → Chain pl ts → a' ≤ a + 200 → Q .next s') :
    wpAny (model pw w) A (execs (loopBody lFor) (lenv L fl cd)) Q E s := by
  have hd0 := Nat.lt_of_succ_lt hd
  refine wpAny_execs_cons (l_start so hd0 hA x (by omega) fun start t₀ h₁ tk₁ x₁ hst₁ hs7 => ?_)
  dsimp only
  refine wpAny_execs_cons (l_tokens so hd hA x₁ (by omega) hst₁ fun I₂ u ts h₂ tk₂ m₂ a₂ x₂ mt₂ u₂ hst₂ hT hch htl ha₂ => ?_)
  have hv := chain_v hch
  dsimp only
  refine wpAny_execs_cons (l_whole hA x₂ hst₂ mt₂ hT htl hv fun h₃ tk₃ t₃ x₃ hst₃ hwh₃ => ?_)
  dsimp only
  refine wpAny_execs_cons (l_places so hd0 hA x₃ (by omega) hst₃ hwh₃ fun I₄ pa pvs pns h₄ tk₄ m₄ a₄ x₄ G₄ mp₄ u₄ hP hpi hsort hge hpl ha₄ hst₄ => ?_)
  have hT₄ : ToksI I₄ u ts := hT.mono G₄.1
  dsimp only
  refine wpAny_execs_cons (l_insertions so hd hA x₄ (by omega) mp₄ hP hpi hpl fun I₅ il ivs ins h₅ tk₅ m₅ a₅ x₅ G₅ mi₅ u₅ hI hpq hmap hqs ha₅ old₅ => ?_)
  have hT₅ : ToksI I₅ u ts := hT₄.mono G₅.1
  have hP₅ : LstI I₅ pa pvs := let ⟨n, e⟩ := hP; ⟨n, G₅.1 _ _ e⟩
  have hst₅ : h₅.IsCell (L + 2) (some (.int start t₀)) := IsCell.at' hst₄ fun o e => old₅ _ o e (st_ne_cell x₄.sa hst₄).1.symm (cell_ne hst₄ x₄.n)
  have mt₅ : m₅ "tokens" = some u := (u₅ "tokens" (by decide)).trans ((u₄ "tokens" (by decide)).trans mt₂)
  have mp₅ : m₅ "places" = some (.ref pa) := (u₅ "places" (by decide)).trans mp₄
  obtain ⟨tl, tvs, rfl, hL₅, hpt₅⟩ := hT₅.lst
  have hil : ins.length ≤ 5 := by have := congrArg List.length hmap; simp at this; omega
  have hq2 : ∀ q ∈ ins, q.ts.length ≤ 2 := fun q hq => (hqs q hq).2
  have hqv : ∀ q ∈ ins, ∀ t ∈ q.ts, t.v.length ≤ 4 := fun q hq => chain_v (hqs q hq).1
  have hws : wsum ins ≤ 10 := Nat.le_trans (wsum_le ins hq2) (by omega)
  have hord : Ord start ins := ord_of ins start (by rw [hmap]; exact hsort) (by rw [hmap]; exact hge)
  have hpvl := ints_len hpi
  have hivl := hpq.length
  have fin : ∀ (s' : Shared) (m' : Str → Option Value), LS P X I₅ L st nums ns a₅ s'.heap m' → (∀ x ∈ s'.gens, x.bare = true) → s'.os = s.os → m' "tokens" = some (.ref tl) → Q .next s' := fun s' m' xx hb ho mt =>
    h s' I₅ m' a₅ tl tvs ts start xx hb ho mt hL₅ hpt₅ (by omega) hch (by omega)
  dsimp only
  by_cases hne : ins = []
  · subst hne
    have hivs : ivs = [] := List.length_eq_zero_iff.1 hivl
    subst hivs
    have hpv : pvs = [] := by
      have := congrArg List.length hmap; simp at this
      exact List.length_eq_zero_iff.1 (by omega)
    subst hpv
    refine wpAny_execs_cons (wpAny_Assign_Name (callT1 (P := P) (env := lenv L fl cd) x₅.base PyProof.Rows.boot_list (callF2 (P := P) (k := 1) (env := lenv L fl cd) x₅.base P.hfi rfl (ldV (env := lenv L fl cd) x₅.n mi₅ (ldV (env := lenv L fl cd) x₅.n mt₅ ⟨x₅.base, ?_⟩)))) (by rfl))
    refine told_plain (s := { s with heap := h₅, toks := tk₅ }) hd0 hA hfr x₅ hbare hI hL₅ hpt₅ (by omega) (.inl rfl) fun s₆ sa acc c hsa Lf hS hacc => ?_
    have x₆ := LS.left (s := { s with heap := h₅, toks := tk₅ }) x₅ Lf
    have hSL : Lst s₆.heap sa acc := ⟨c, hS⟩
    refine wpAny_storeName_local (by rfl) x₆.n (fun h₇ hn₇ s₇ => ?_) (by rfl)
    replace s₇ : Heap.SameBut L s₆.heap h₇ := s₇
    replace hn₇ : h₇.Ns L _ := hn₇
    have x₇ := x₆.set (.of_same s₇) hn₇
    have hS₇ : Lst h₇ sa acc := hSL.at fun o e => s₇.extBut _ o (hSL.ns_ne x₆.n) e
    have hacc₇ := paired_mono (fun _ _ q => TokI.keepL q (same_one s₇) (by simpa using NotTup.ns x₆.n)) hacc
    dsimp only
    refine wpAny_execs_cons (l_check_nil hu x₇ (ms mp₅) hP₅ (if_pos rfl) hS₇ hacc₇ (ms mt₅) hL₅ hpt₅ fun h₈ tk₈ k₈ => ?_)
    refine wpAny_execs_nil (fin _ _ (x₇.sub k₈) Lf.bare Lf.os (ms mt₅))
  · have hpv : pvs ≠ [] := by
      rintro rfl
      have := congrArg List.length hmap; simp at this hpvl
      exact hne (List.length_eq_zero_iff.1 (by omega))
    have hbig : (ts.length + 1) * (1 + ins.length + wsum ins) ≤ 8 * 16 := Nat.mul_le_mul (by omega) (by omega)
    refine wpAny_execs_cons (wpAny_Assign_Name (callT1 (P := P) (env := lenv L fl cd) x₅.base PyProof.Rows.boot_list (callF2 (P := P) (k := 1) (env := lenv L fl cd) x₅.base P.hfi rfl (ldV (env := lenv L fl cd) x₅.n mi₅ (ldV (env := lenv L fl cd) x₅.n mt₅ ⟨x₅.base, ?_⟩)))) (by rfl))
    refine told_ins (s := { s with heap := h₅, toks := tk₅ }) hd0 hA hfr x₅ hbare hI hpq hqv hL₅ hpt₅ hv hch hord hne (by omega) fun s₆ sa acc c hsa Lf hS hacc => ?_
    have x₆ := LS.left (s := { s with heap := h₅, toks := tk₅ }) x₅ Lf
    have hSL : Lst s₆.heap sa acc := ⟨c, hS⟩
    have hst₆ : s₆.heap.IsCell (L + 2) (some (.int start t₀)) := IsCell.at' hst₅ fun o e => Lf.keep _ o e (cell_ne hst₅ x₅.n) (.inr (.inl (cells_ne_list hst₅ o e)))
    refine wpAny_storeName_local (by rfl) x₆.n (fun h₇ hn₇ s₇ => ?_) (by rfl)
    replace s₇ : Heap.SameBut L s₆.heap h₇ := s₇
    replace hn₇ : h₇.Ns L _ := hn₇
    have x₇ := x₆.set (.of_same s₇) hn₇
    have hS₇ : Lst h₇ sa acc := hSL.at fun o e => s₇.extBut _ o (hSL.ns_ne x₆.n) e
    have hacc₇ := paired_mono (fun _ _ q => TokI.keepL q (same_one s₇) (by simpa using NotTup.ns x₆.n)) hacc
    have hst₇ : h₇.IsCell (L + 2) (some (.int start t₀)) := IsCell.at' hst₆ fun o e => s₇.extBut _ o (cell_ne hst₆ x₆.n) e
    dsimp only
    refine wpAny_execs_cons (l_check_due hd0 hA hu x₇ (ms mp₅) hP₅ hpv (if_pos rfl) hS₇ hacc₇ (ms mt₅) hL₅ hpt₅ hv (by omega) hch (ms mi₅) hI hpq hil hq2 hqv hws hord hst₇ hs7 fun h₈ tk₈ m₈ x₈ u₈ => ?_)
    exact wpAny_execs_nil (fin _ _ x₈ Lf.bare Lf.os ((u₈ "tokens" (by decide)).trans (ms mt₅)))
end
end Mine
end

section
open PySem PySem.W PyProof.Rows PySem.Calls PySem.SeqAt
namespace Mine
def del (I : PM) (a : Addr) : PM := fun b => if b = a then none else I b
theorem del_of {I : PM} {a b : Addr} {o : Obj} (e : I b = some o) (n : b ≠ a) : del I a b = some o := by unfold del; rw [if_neg n]; exact e
section
variable {P : Pg} {w : World} {A : Around} {E : Value → Shared → Prop} {s : Shared} {X I : PM} {L st nums fl : Addr} {cd : Value} {ns : List Int} {a : Int} {m : Str → Option Value}
theorem LS.re {X' I' : PM} {h : Heap} (x : LS P X I L st nums ns a h m) (hx : Fx X' h) (hi : ∀ b o, I' b = some o → I b = some o) (hn : ∀ b ∈ [L, L + 1, L + 2, L + 3, st], X' b = none) : LS P X' I' L st nums ns a h m :=
  ⟨x.base, fun b o e => x.frz b o (hi b o e), hx, x.n, x.cs, x.c2, x.c3, x.sa, fun b hb => ⟨(by
    cases q : I' b with
    | none => rfl
    | some o => have := hi b o q; rw [(x.iN b hb).1] at this; cases this), hn b hb, (x.iN b hb).2.2⟩⟩
abbrev noPM : PM := fun _ => none
/-- for turn in range(3): … -/
theorem l_loop {Q : Flow → Shared → Prop} (so : StOk P st nums ns) (hd : A.depth + 1 < recursionLimit) (hA : A.handled = none) (hu : A.units + 10 < cLine) (hfr : A.frames = some [lenv L fl cd]) (x : LS P noPM noPM L st nums ns a s.heap m) (hbare : ∀ x ∈ s.gens, x.bare = true) (h1 : a ≤ 10)
    (h : ∀ s' I' m' a' tl tvs ts pl, LS P noPM I' L st nums ns a' s'.heap m' → (∀ x ∈ s'.gens, x.bare = true) → s'.os = s.os → m' "tokens" = some (.ref tl) → LstI I' tl tvs → Paired (TokI I') tvs ts → ts.length ≤ 7 → Chain pl ts → Q .next s') :
    wpAny (model pw w) A (exec lFor (lenv L fl cd)) Q E s := by
  refine for_rangeI (P := P) (env := lenv L fl cd) hA x.base (wpAny_Constant_int (k := 0) (pos := default) ⟨3, s.toks, rfl, by decide, ?_⟩)
  have hI0 : s.heap.get? (s.heap.objs.size + 1) = none := Heap.get?_none_of_le (Nat.le_succ _)
  dsimp only
  generalize s.heap.objs.size + 1 = It at *
  refine ⟨fun i s' => ∃ m' a' I', LS P noPM I' L st nums ns a' s'.heap m' ∧ I' It = none ∧ (∀ x ∈ s'.gens, x.bare = true) ∧ s'.os = s.os ∧ a' ≤ 10 + 200 * i ∧
      (i ≠ 0 → ∃ tl tvs ts pl, m' "tokens" = some (.ref tl) ∧ LstI I' tl tvs ∧ Paired (TokI I') tvs ts ∧ ts.length ≤ 7 ∧ Chain pl ts), ?_, ?_, ?_⟩
  · intro h' tk sb hsz hr
    exact ⟨m, a, noPM, x.sub sb, rfl, hbare, rfl, by omega, fun q => absurd rfl q⟩
  · rintro i s' h' tk t hi ⟨m₁, a₁, I₁, x₁, hn₁, hb₁, ho₁, ha₁, _⟩ hit kIt E'
    have x₂ := LS.newI x x₁ (KeepBut.toL (l := [It]) kIt) (by simp [hI0, hn₁])
    refine wpAny_pure (wpAny_assign_Name (wpAny_storeName_local (by rfl) x₂.n (fun h₃ hn₃ s₃ => ?_) (by rfl)))
    replace s₃ : Heap.SameBut L h' h₃ := s₃
    replace hn₃ : h₃.Ns L _ := hn₃
    have x₃ := x₂.set (.of_same s₃) hn₃
    have hItL : It ≠ L := range_ne_ns hit x₂.n
    have hit₃ : h₃.get? It = some _ := s₃.extBut _ _ hItL (show h'.get? It = some _ from hit)
    obtain ⟨ro, hro⟩ : ∃ ro : Obj, ro = ({ cls := .type "range_iterator", data := .fields #[rawInt ((i + 1 : Nat) : Int), rawInt (((3 : Nat) : Int) - ((i + 1 : Nat) : Int)), rawInt 1] } : Obj) := ⟨_, rfl⟩
    have hit₃' : h₃.get? It = some ro := by rw [hro]; exact hit₃
    have x₄ : LS P (fun b => if b = It then some ro else none) I₁ L st nums ns a₁ h₃ (fun z : Str => if z = "turn" then some (.int i t) else m₁ z) := by
      refine LS.re x₃ ?_ (fun _ _ e => e) ?_
      · intro b o e
        dsimp only at e
        by_cases hb : b = It
        · rw [if_pos hb] at e; cases e
          rw [hb, hro] at *
          exact ⟨hit₃', by simp⟩
        · rw [if_neg hb] at e; cases e
      · intro b hb
        refine if_neg ?_
        have hex : ∃ o, s.heap.get? b = some o := by
          simp only [List.mem_cons, List.not_mem_nil, or_false] at hb
          rcases hb with rfl | rfl | rfl | rfl | rfl
          · obtain ⟨o, _, _, e, _⟩ := x.n; exact ⟨o, e⟩
          · obtain ⟨o, e, _⟩ := x.cs; exact ⟨o, e⟩
          · obtain ⟨_, o, e, _⟩ := x.c2; exact ⟨o, e⟩
          · obtain ⟨_, o, e, _⟩ := x.c3; exact ⟨o, e⟩
          · obtain ⟨_, o, e, _⟩ := x.sa.st; exact ⟨o, e⟩
        rintro rfl
        obtain ⟨o, e⟩ := hex
        rw [hI0] at e; cases e
    refine l_body (s := { s' with heap := h₃, toks := tk + 1 }) so hd hA hu hfr x₄ hb₁ (by omega) fun s₅ I₅ m₅ a₅ tl tvs ts pl x₅ hb₅ ho₅ mt₅ hL₅ hp₅ hl₅ hc₅ ha₅ => ?_
    dsimp only
    have hIt₅ : s₅.heap.get? It = some ro := (x₅.fx It ro (if_pos rfl)).1
    have hneO : ∀ {b : Addr} {o : Obj}, I₅ b = some o → o.cls ≠ .type "range_iterator" → b ≠ It := by
      rintro b o e hc rfl
      have := (x₅.frz _ _ e).1
      rw [hIt₅] at this; cases this
      rw [hro] at hc; exact hc rfl
    refine ⟨?_, m₅, a₅, del I₅ It, LS.re x₅ (fun _ _ e => by cases e) (fun b o e => ?_) (fun _ _ => rfl), if_pos rfl, hb₅, ho₅.trans ho₁, by omega, fun _ => ⟨tl, tvs, ts, pl, mt₅, ?_, ?_, hl₅, hc₅⟩⟩
    · rw [hro] at hIt₅; exact hIt₅
    · unfold del at e
      split at e
      · cases e
      · exact e
    · obtain ⟨n, e⟩ := hL₅; exact ⟨n, del_of e (hneO e (by simp))⟩
    · refine paired_mono (fun _ _ q => ?_) hp₅
      obtain ⟨b, n, t1, t2, t3, e, e'⟩ := q
      exact ⟨b, n, t1, t2, t3, e, del_of e' (hneO e' (by simp))⟩
  · rintro s' h' tk ⟨m₁, a₁, I₁, x₁, hn₁, hb₁, ho₁, ha₁, hf⟩ kIt
    obtain ⟨tl, tvs, ts, pl, mt, hL, hp, hl, hc⟩ := hf (by decide)
    exact h { s' with heap := h', toks := tk } I₁ m₁ a₁ tl tvs ts pl (LS.newI x x₁ (KeepBut.toL (l := [It]) kIt) (by simp [hI0, hn₁])) hb₁ ho₁ mt hL hp hl hc
end
end Mine
end

section
open PySem PySem.W PyProof.Rows PySem.Calls PySem.SeqAt
namespace Mine
section
variable {P : Pg} {w : World} {A : Around} {E : Value → Shared → Prop} {s : Shared} {X I : PM} {L st nums fl : Addr} {cd : Value} {ns : List Int} {a : Int} {m : Str → Option Value}
/-- return list(do_insertions([], iter(tokens))) == tokens -/
theorem l_return {Q : Flow → Shared → Prop} {tl : Addr} {tvs : List Value} {ts : List T3} (hd : A.depth < recursionLimit) (hA : A.handled = none) (hu : A.units + 10 < cLine) (hfr : A.frames = some [lenv L fl cd]) (x : LS P X I L st nums ns a s.heap m) (hbare : ∀ x ∈ s.gens, x.bare = true)
    (mt : m "tokens" = some (.ref tl)) (hL : LstI I tl tvs) (hp : Paired (TokI I) tvs ts) (hl : ts.length ≤ 7)
    (h : ∀ s', Sub P.base s'.heap → (∀ x ∈ s'.gens, x.bare = true) → s'.os = s.os → Q (.ret (.bool true)) s') :
    wpAny (model pw w) A (exec (stmtA 7 2) (lenv L fl cd)) Q E s := by
  refine wpAny_Return_some (wpAny_Compare1 (callT1 (P := P) (env := lenv L fl cd) x.base PyProof.Rows.boot_list (callF2 (P := P) (k := 1) (env := lenv L fl cd) x.base P.hfi rfl (List_ (spliced_nil (wpAny_newObj_type ?_))))))
  have sb := Sub.push s.heap { cls := .type "list", data := .seq ([] : List Value).toArray }
  have eN := Heap.get?_push_size s.heap (o := { cls := .type "list", data := .seq ([] : List Value).toArray }) rfl
  have hN0 : s.heap.get? s.heap.objs.size = none := Heap.get?_none_of_le (Nat.le_refl _)
  have x₁ := x.sub sb
  generalize s.heap.objs.size = na at *
  generalize s.heap.push _ = h₁ at *
  have g := Grows.add (o := { cls := .type "list", data := .seq ([] : List Value).toArray }) x.frz hN0
  have x₂ := LS.grow x x₁ g (x₁.frz.add eN)
  have hI₂ : LstI (I.add na { cls := .type "list", data := .seq ([] : List Value).toArray }) na [] := ⟨_, by unfold PM.add; rw [if_pos rfl]⟩
  have hL₂ : LstI (I.add na { cls := .type "list", data := .seq ([] : List Value).toArray }) tl tvs := let ⟨n, e⟩ := hL; ⟨n, g.1 _ _ e⟩
  have hp₂ := paired_mono (fun _ _ q => TokI.mono q g.1) hp
  generalize I.add na _ = I₂ at *
  refine callB1 (P := P) (env := lenv L fl cd) x₂.base PyProof.Rows.Boot.«iter» (ldV (env := lenv L fl cd) x₂.n mt (iter_list (hL₂.is x₂.frz) ?_))
  have sb₃ := Sub.push h₁ { cls := .type "list_iterator", data := .fields #[.ref tl, .int 0 0] }
  have eI := Heap.get?_push_size h₁ (o := { cls := .type "list_iterator", data := .fields #[.ref tl, .int 0 0] }) rfl
  have hI0 : h₁.get? h₁.objs.size = none := Heap.get?_none_of_le (Nat.le_refl _)
  have x₃ := x₂.sub sb₃
  have hIn := x₂.frz.none_new hI0
  dsimp only
  generalize h₁.objs.size = tit at *
  generalize h₁.push _ = h₃ at *
  have hbt : P.base.get? tit = none := by
    cases q : P.base.get? tit with
    | none => rfl
    | some o => have := x₂.base _ _ q; rw [hI0] at this; cases this
  refine ⟨x₃.base, ?_⟩
  refine told_plain (s := { s with heap := h₃ }) hd hA hfr x₃ hbare hI₂ hL₂ hp₂ (by omega) (.inr ⟨tit, rfl, ⟨_, eI, rfl, rfl⟩, hbt, hIn⟩) fun s₄ sa acc c hsa Lf hS hacc => ?_
  have x₄ := LS.left (s := { s with heap := h₃ }) x₃ Lf
  refine ldV (env := lenv L fl cd) x₄.n mt (toks_eq (by omega) ⟨_, hS, rfl, _, rfl⟩ (hL₂.is x₄.frz) hacc (paired_mono (fun _ _ q => TokI.mono q fun b o e => (x₄.frz b o e).1) hp₂) ?_)
  exact h s₄ x₄.base Lf.bare Lf.os
/-- law(script) -/
theorem law_call {Q : Value → Shared → Prop} {o : Obj} {pm doc : Value} {sc : Addr} {vs : List Value} {is : List Int} (ho : P.base.get? fl = some o) (hdat : o.data = .func (docDef (nameA 7) (argsA 7) (bodyA 7) (scopeA 7) pm cd doc)) (hcd : P.base.CodeRec cd (nameA 7))
    (hd : A.depth + 2 < recursionLimit) (hA : A.handled = none) (hu : A.units + 20 < cLine) (hfr : A.frames = some []) (hb : Sub P.base s.heap) (hbare : ∀ x ∈ s.gens, x.bare = true)
    (hs : s.heap.IsList sc vs.toArray) (hi : IntsAre vs is) (hsz : vs.length ≤ 1000)
    (h : ∀ s', Sub P.base s'.heap → (∀ x ∈ s'.gens, x.bare = true) → s'.os = s.os → Q (.bool true) s') :
    wpAny (model pw w) A (call (.ref fl) [.ref sc]) Q E s := by
  refine wpAny_call (call_cells_ret (Nat.lt_of_succ_lt (Nat.lt_of_succ_lt hd)) (hb _ _ ho) hdat (P.nolimit.keeps hb) (hcd.keeps hb) (binds := [(Str.ofString "script", .ref sc)]) rfl ?_ (fun h₁ tk₁ F Y => ?_))
  · intro x hx
    simp only [List.mem_cons, List.not_mem_nil, or_false] at hx
    rcases hx with rfl
    exact .inl (by rfl)
  have hLf : ∀ k, s.heap.get? (s.heap.objs.size + k) = none := fun k => Heap.get?_none_of_le (Nat.le_add_right _ _)
  have c1 := Y.cell "state" (s.heap.objs.size + 1) (by rfl)
  have c2 := Y.cell "start" (s.heap.objs.size + 2) (by rfl)
  have c3 := Y.cell "whole" (s.heap.objs.size + 3) (by rfl)
  obtain ⟨m₁, hn₁, hms⟩ : ∃ m₁ : Str → Option Value, h₁.Ns s.heap.objs.size m₁ ∧ m₁ "script" = some (.ref sc) := ⟨_, F.ns, by rfl⟩
  have k₁ : Sub s.heap h₁ := F.keep
  clear F Y
  generalize s.heap.objs.size = L at *
  have hA' : (A.deeper (lenv L fl cd)).handled = none := hA
  have hu' : (A.deeper (lenv L fl cd)).units + 10 < cLine := by show A.units + 3 + 10 < cLine; omega
  have hd' : (A.deeper (lenv L fl cd)).depth + 1 < recursionLimit := by show A.depth + 1 + 1 < recursionLimit; exact hd
  have hfr' : (A.deeper (lenv L fl cd)).frames = some [lenv L fl cd] := by show A.frames.map _ = _; rw [hfr]; rfl
  generalize (A.deeper (lenv L fl cd)) = A' at *
  have hb₁ : Sub P.base h₁ := hb.trans k₁
  have bnone : ∀ {b : Addr}, s.heap.get? b = none → P.base.get? b = none := by
    intro b hb0
    cases q : P.base.get? b with
    | none => rfl
    | some o => have := hb _ _ q; rw [hb0] at this; cases this
  -- state = _law_state(script)
  refine wpAny_execs_cons (wpAny_Assign_Name (callF1 (P := P) (k := 4) (env := lenv L fl cd) hb₁ P.hfs rfl (ldV (env := lenv L fl cd) hn₁ hms ⟨hb₁, ?_⟩)) (by rfl))
  refine state_call P hd' hA' hb₁ (isList_at hs fun o e => k₁ _ o e) hi hsz fun st nums ns h₂ tk₂ so sa hst hnu k₂ => ?_
  refine stK (env := lenv L fl cd) (c := L + 1) (c1.keeps k₂) fun h₃ c₃ k₃ => ?_
  have hnL := cell_ne (c1.keeps k₂) (hn₁.keeps k₂)
  have x₃ : LS P noPM noPM L st nums ns 0 h₃ m₁ := by
    refine ⟨fun b o e => k₃ b o (fun q => by rw [q, bnone (hLf 1)] at e; cases e) (k₂ b o (hb₁ b o e)), (fun _ _ e => by cases e), (fun _ _ e => by cases e), (hn₁.keeps k₂).at' fun o e => k₃ _ o hnL.symm e, c₃, ⟨_, IsCell.at' (c2.keeps k₂) fun o e => k₃ _ o (by simp) e⟩, ⟨_, IsCell.at' (c3.keeps k₂) fun o e => k₃ _ o (by simp) e⟩, sa.at' fun b o hb e => k₃ b o ?_ e, fun b hb => ⟨rfl, rfl, ?_⟩⟩
    · have := st_ne_cell sa (c1.keeps k₂)
      rcases hb with rfl | rfl
      · exact this.1
      · exact this.2
    · simp only [List.mem_cons, List.not_mem_nil, or_false] at hb
      rcases hb with rfl | rfl | rfl | rfl | rfl
      · exact bnone (hLf 0)
      · exact bnone (hLf 1)
      · exact bnone (hLf 2)
      · exact bnone (hLf 3)
      · exact so.off
  dsimp only
  refine wpAny_execs_cons (l_loop (s := { s with heap := h₃, toks := tk₂ }) so hd' hA' hu' hfr' x₃ hbare (by omega) fun s₄ I₄ m₄ a₄ tl tvs ts pl x₄ hb₄ ho₄ mt₄ hL₄ hp₄ hl₄ hc₄ => ?_)
  dsimp only
  refine wpAny_execs_cons (l_return (Nat.lt_of_succ_lt hd') hA' hu' hfr' x₄ hb₄ mt₄ hL₄ hp₄ hl₄ fun s₅ hb₅ hg₅ ho₅ => ?_)
  exact h s₅ hb₅ hg₅ (ho₅.trans ho₄)
end
end Mine
end

section
open PySem PySem.W PyProof.Rows
namespace Mine
open_top hd for PySem.Challenge.rw_ev0003_01
end Mine
end

section
open PySem PySem.W PyProof.Rows PySem.Calls PySem.SeqAt
namespace Mine
theorem rec_at {p : Program} {loose : List Str} {mean : ExcName → Option Value} {mg mb : Str → Option Value} {h : Heap} (T : Top p loose mean mg mb h) {j k : Nat}
    (hj : ((recsOf p)[j]?).map (fun d => (d.name, d.params, d.body, d.scope)) = some (nameA k, argsA k, bodyA k, scopeA k)) : ∃ a, FnAt h mg k a := by
  cases e : (recsOf p)[j]? with
  | none => rw [e] at hj; cases hj
  | some d =>
    rw [e] at hj
    have h4 := Option.some.inj hj
    have e1 : d.name = nameA k := congrArg (·.1) h4
    have e2 : d.params = argsA k := congrArg (·.2.1) h4
    have e3 : d.body = bodyA k := congrArg (·.2.2.1) h4
    have e4 : d.scope = scopeA k := congrArg (·.2.2.2) h4
    obtain ⟨a, o, pm, code, doc, g1, g2, g3, g4⟩ := T.fn d (List.mem_of_getElem? e)
    rw [e1] at g1 g4
    rw [e1, e2, e3, e4] at g3
    exact ⟨a, g1, o, pm, code, doc, g2, g3, g4⟩
/-- the def k of the text is the j-th of those that the top binds -/
abbrev RecAt (p : Program) (j k : Nat) : Prop := ((recsOf p)[j]?).map (fun d => (d.name, d.params, d.body, d.scope)) = some (nameA k, argsA k, bodyA k, scopeA k)
abbrev freeNames : List Str := ["len", "range", "sum", "sorted", "list", "int", "iter", "next", "abs", "StopIteration"]
end Mine
end

open PySem PySem.W PyProof.Rows PySem.Calls PySem.SeqAt
namespace Mine
theorem join {p : Program} {loose : List Str} {mean : ExcName → Option Value} {mg mb : Str → Option Value} {w : World} {s₁ : Shared} {fa sc : Addr} {vs : List Value} {is : List Int} {R : Value → Shared → Prop} {E : Value → Shared → Prop}
    (T : Top p loose mean mg mb s₁.heap) (r1 : RecAt p 0 1) (r3 : RecAt p 1 3) (r4 : RecAt p 2 4) (r5 : RecAt p 3 5) (r6 : RecAt p 4 6) (r7 : RecAt p 5 7)
    (f1 : ∀ x ∈ freeNames, x ∉ startupNames) (f2 : ∀ x ∈ freeNames, x ∉ loose) (f3 : ∀ x ∈ freeNames, x ∉ (recsOf p).map (·.name)) (f4 : ∀ x ∈ freeNames, x ∉ (litsOf p).map (·.1)) (f5 : ∀ x ∈ freeNames, x ∉ (clssOf p loose).map (·.name))
    (hmg : mg (nameA 7) = some (.ref fa)) (hg : s₁.gens = #[]) (hL : s₁.heap.IsList sc vs.toArray) (hI : IntsAre vs is) (hlen : is.length ≤ 63)
    (hR : ∀ s', Sub s₁.heap s'.heap → AllBare s'.gens → s'.os = s₁.os → R (.bool true) s') : wpAny (model pw w) callerA (call (.ref fa) [.ref sc]) R E s₁ := by
  obtain ⟨fi, hfi⟩ := rec_at T r1
  obtain ⟨fn, hfn⟩ := rec_at T r3
  obtain ⟨fs, hfs⟩ := rec_at T r4
  obtain ⟨ft, hft⟩ := rec_at T r5
  obtain ⟨fw, hfw⟩ := rec_at T r6
  obtain ⟨fl, hfl⟩ := rec_at T r7
  have hfa : fl = fa := by have := hfl.glob.symm.trans hmg; cases this; rfl
  subst hfa
  let P : Pg := ⟨s₁.heap, mg, mb, T.g, T.b, T.nolimit, fun x hx => T.free x (f1 x hx) (f2 x hx) (f3 x hx) (f4 x hx) (f5 x hx), T.builtins, fi, fn, fs, ft, fw, hfi, hfn, hfs, hft, hfw⟩
  obtain ⟨o, pm, cd, doc, ho, hdat, hcd⟩ := hfl.obj
  have hvl := ints_len hI
  exact law_call (P := P) ho hdat hcd (by decide +kernel) rfl (by decide +kernel) rfl (Sub.refl _) (by rw [hg]; intro x hx; simp at hx) hL hI (by omega) fun s' hs hb ho => hR s' hs hb ho
end Mine
theorem PySem.Challenge.cw_ev0003_01_holds : PySem.Challenge.rw_ev0003_01.Holds :=
  Mine.hd (by
    k_fill
    intro w s₀ s₁ mg mb G Y fa o pm cd doc dV kV ho hd hcd hD hmg hg args vals as hpre hlay hrd hwl hlo
    clear hcd hD hd ho
    refine Ground.open G ?_
    intro T B D TE TW
    clear B D TE TW Y G
    wrow_args hpre hlay hrd hwl hlo
    rename_i hL _ _ _ hI _ hc _
    refine Mine.join T (by kernel_rfl) (by kernel_rfl) (by kernel_rfl) (by kernel_rfl) (by kernel_rfl) (by kernel_rfl) (by decide +kernel) (by decide +kernel) (by decide +kernel) (by decide +kernel) (by decide +kernel) hmg hg hL hI (by omega) fun s' hs hb ho => ⟨.inl ⟨.bool true, .bool true, [], rfl, fun _ => rfl, .bool true, by with_unfolding_all rfl, fun _ => ⟨List.nodup_nil, fun a h => by cases h⟩⟩, .of_keep hs, ho, hb⟩)
