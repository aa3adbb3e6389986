import PyProof.Rows.All
import Wide.All
import OpenK.AllK
import Wide.FinOn
import PySem.Challenge.RW_op0018_01

set_option Elab.async false
set_option maxRecDepth 100000
set_option linter.unusedVariables false
set_option maxHeartbeats 4000000

section
open PySem PySem.Calls PyProof.Rows PySem.W
namespace Mine

/-! the text's parts, by place -/
def stm (k : Nat) : Stmt := PySem.Challenge.pw_op0018_01.main.body.getD k (.Pass default)
def fArgs : Stmt → Arguments
  | .FunctionDef _ a _ _ _ _ _ _ _ _ => a
  | _ => default
def fBody : Stmt → List Stmt
  | .FunctionDef _ _ b _ _ _ _ _ _ _ => b
  | _ => []
def fScope : Stmt → Scope
  | .FunctionDef _ _ _ _ _ _ sc _ _ _ => sc
  | _ => default

abbrev Keep (h h' : Heap) : Prop := ∀ b o, h.get? b = some o → h'.get? b = some o
theorem Keep.refl (h : Heap) : Keep h h := fun _ _ e => e
theorem Keep.trans {a b c : Heap} (x : Keep a b) (y : Keep b c) : Keep a c := fun _ _ e => y _ _ (x _ _ e)

theorem rmk {d R c : Nat} (h : d + c < R) (b : Nat) (e : b ≤ c := by decide) : d + b < R := Nat.lt_of_le_of_lt (Nat.add_le_add_left e d) h
theorem rm0 {d R c : Nat} (h : d + c < R) : d < R := Nat.lt_of_le_of_lt (Nat.le_add_right d c) h

/-- a plain def of the text stands at f -/
def FnAt (h : Heap) (f : Addr) (k : Nat) (nm : Str) (cdv : Value) : Prop :=
  ∃ o pm doc ct, h.get? f = some o ∧ o.data = .func (fnX nm nm (fArgs (stm k)) (fBody (stm k)) (fScope (stm k)) [] .none .none doc pm none cdv ct) ∧ h.CodeRec cdv nm
theorem FnAt.keeps {h h' : Heap} {f : Addr} {k : Nat} {nm : Str} {cdv : Value} (x : FnAt h f k nm cdv) (hk : Keep h h') : FnAt h' f k nm cdv :=
  let ⟨o, pm, doc, ct, a, b, c⟩ := x; ⟨o, pm, doc, ct, hk _ _ a, b, c.keeps hk⟩

def retOf : Flow → Value
  | .ret v => v
  | _ => .none

section
variable {prog : Program} {w : World} {A : Around} {E : Value → Shared → Prop} {s : Shared} {Q : Value → Shared → Prop}

theorem call_fn {name qual : Str} {params : Arguments} {body : List Stmt} {scope : Scope} {cl : List (Str × Addr)} {dV kV doc pm cdv ct : Value} {an : Option Addr} {fo : Obj} {f : Addr} {args : List Value} {binds : List (Str × Value)}
    (ho : s.heap.get? f = some fo) (hd : fo.data = .func (fnX name qual params body scope cl dV kV doc pm an cdv ct)) (hlim : s.heap.NoLimit) (hcd : s.heap.CodeRec cdv qual) (hroom : A.depth < recursionLimit)
    (hbind : BindsTo s (fnX name qual params body scope cl dV kV doc pm an cdv ct) ⟨args, []⟩ binds) (hloc : ∀ y ∈ binds, scope.names.lookup y.1 = some .local) (hcell : ∀ x ∈ scope.names, x.2 ≠ .cell)
    (h : ∀ L h₁, s.heap.objs.size = L → h₁.Ns L (fun y => binds.reverse.lookup y) → Keep s.heap h₁ →
      wpAny (model prog w) (A.deeper (envX qual scope L f cdv cl)) (execs body (envX qual scope L f cdv cl)) (fun fl s' => Q (retOf fl) s') (fun _ _ => False) { s with heap := h₁, toks := s.toks + binds.length })
    (hco : scope.isCoroutine = false := by rfl) (hgen : scope.isGenerator = false := by rfl) (hk : scope.kind = .function := by rfl) :
    wpAny (model prog w) A (call (.ref f) args) Q E s := by
  refine wpAny_call (codeAny_call_def (fd := fnX name qual params body scope cl dV kV doc pm an cdv ct) (body := body) (binds := binds) hroom ho hd hlim hcd rfl hbind hcell hloc (fun h₁ hns hk₁ => ?_) hco hgen hk)
  refine wpAny_mono (h _ h₁ rfl hns hk₁) (fun fl s' hq => ?_) fun _ _ e => e.elim
  cases fl <;> exact hq
end

/-- what the text's top has left, as the call needs it -/
structure Glo (g₀ : Heap) (mg mb : Str → Option Value) : Prop where
  g : g₀.Ns mainGlobals mg
  b : g₀.Ns builtinsNs mb
  bi : ∀ x : Str, x ≠ "__name__" → mb x = bootBuiltins x
  lim : g₀.NoLimit
  bmain : ∃ bm ob, mg "__builtins__" = some (.ref bm) ∧ bm ≠ builtinsNs ∧ g₀.get? bm = some ob ∧ ob.cls = .type "module" ∧ ob.dict = some builtinsNs ∧ ob.data = .plain

section
variable {M : Model} {A : Around} {E : Value → Shared → Prop} {s : Shared} {env : Env} {L a c : Addr} {m mg mb : Str → Option Value} {x : Str} {pos : Pos} {v : Value} {Q : Value → Shared → Prop} {g₀ : Heap}
/-- a local name -/
theorem nL (hn : s.heap.Ns env.locals m) (hv : m x = some v) (h : Q v s)
    (hk : env.scope.kind = .function := by rfl) (hx : env.kindOf x = some .local := by rfl) (hd : (x == ("__debug__" : Str)) = false := by decide) :
    wpAny M A (eval (.Name x pos) env) Q E s := wpAny_Name (wpAny_loadName_local hk hx hn hv h) hd
/-- a name in a cell of the frame's own -/
theorem nC (hv : s.heap.IsCell c (some v)) (h : Q v s) (hc : env.cells.lookup x = some c := by rfl)
    (hk : env.scope.kind = .function := by rfl) (hx : env.kindOf x = some .cell := by rfl) (hd : (x == ("__debug__" : Str)) = false := by decide) :
    wpAny M A (eval (.Name x pos) env) Q E s := wpAny_Name (wpAny_loadName_cell hk hx hc hv h) hd
/-- a free name -/
theorem nF (hv : s.heap.IsCell c (some v)) (h : Q v s) (hc : env.cells.lookup x = some c := by rfl)
    (hk : env.scope.kind = .function := by rfl) (hx : env.kindOf x = some .free := by rfl) (hd : (x == ("__debug__" : Str)) = false := by decide) (hn : (x == ("__classdict__" : Str)) = false := by decide) :
    wpAny M A (eval (.Name x pos) env) Q E s := wpAny_Name (wpAny_loadName_free hk hx hc hv h hn) hd
/-- a global name -/
theorem nG (G : Glo g₀ mg mb) (k0 : Keep g₀ s.heap) (e : mg x = some v) (h : Q v s)
    (hg : env.globals = mainGlobals := by rfl) (hk : env.scope.kind = .function := by rfl) (hx : env.kindOf x = some .globalImplicit := by rfl) (hd : (x == ("__debug__" : Str)) = false := by decide) :
    wpAny M A (eval (.Name x pos) env) Q E s := Name_function_global hk hx (loadGlobal_global (hg ▸ G.g.keeps k0) e h) hd
/-- a built-in's name -/
theorem nB (G : Glo g₀ mg mb) (k0 : Keep g₀ s.heap) (e : mg x = none) (hv : bootBuiltins x = some v) (h : Q v s) (hne : x ≠ "__name__" := by decide)
    (hg : env.globals = mainGlobals := by rfl) (hb : env.builtins = builtinsNs := by rfl) (hk : env.scope.kind = .function := by rfl) (hx : env.kindOf x = some .globalImplicit := by rfl) (hd : (x == ("__debug__" : Str)) = false := by decide) :
    wpAny M A (eval (.Name x pos) env) Q E s := Name_function_global hk hx (loadGlobal_builtin (hg ▸ G.g.keeps k0) e (hb ▸ G.b.keeps k0) ((G.bi x hne).trans hv) h) hd
end

/-! lists -/
def LS (h : Heap) (a : Addr) (vs : Array Value) : Prop := ∃ n, IsL h a vs n
def IL (h : Heap) (a : Addr) (ns : List Int) : Prop := ∃ vs, LS h a vs ∧ IntsAre vs.toList ns
theorem LS.keeps {h h' : Heap} {a : Addr} {vs : Array Value} (x : LS h a vs) (k : Keep h h') : LS h' a vs := let ⟨n, e⟩ := x; ⟨n, k _ _ e⟩
theorem IL.keeps {h h' : Heap} {a : Addr} {ns : List Int} (x : IL h a ns) (k : Keep h h') : IL h' a ns := let ⟨vs, e, i⟩ := x; ⟨vs, e.keeps k, i⟩
theorem LS.isList {h : Heap} {a : Addr} {vs : Array Value} (x : LS h a vs) : h.IsList a vs := let ⟨n, e⟩ := x; ⟨_, e, rfl, n, rfl⟩
theorem LS.plain {h : Heap} {a : Addr} {vs : Array Value} (x : LS h a vs) : PlainL h a vs := let ⟨n, e⟩ := x; ⟨_, n, e, rfl, rfl, rfl⟩
theorem LS.lt {h : Heap} {a : Addr} {vs : Array Value} (x : LS h a vs) : a < h.objs.size := let ⟨_, e⟩ := x; Heap.lt_size e
theorem LS.new (h : Heap) (vs : List Value) : LS (h.push { cls := .type "list", data := .seq vs.toArray }) h.objs.size vs.toArray := ⟨0, Heap.get?_push_size _ rfl⟩
theorem keep_push (h : Heap) (o : Obj) : Keep h (h.push o) := fun _ _ e => Heap.get?_push_of_some o e
/-- an object that is no namespace is not touched by a store of a name -/
theorem ns_ne {h : Heap} {L a : Addr} {m : Str → Option Value} {o : Obj} (hn : h.Ns L m) (ho : h.get? a = some o) (hd : ∀ es n, o.data ≠ .dict es n) : a ≠ L := by
  rintro rfl
  obtain ⟨o', es, ep, e, d, _⟩ := hn
  rw [ho] at e; cases e
  exact hd _ _ d
theorem LS.same {h h' : Heap} {L a : Addr} {m : Str → Option Value} {vs : Array Value} (x : LS h a vs) (hn : h.Ns L m) (hs : Heap.SameBut L h h') : LS h' a vs :=
  let ⟨n, e⟩ := x; ⟨n, (hs.2 a (ns_ne hn e (by intro es n q; cases q))).trans e⟩
theorem IL.same {h h' : Heap} {L a : Addr} {m : Str → Option Value} {ns : List Int} (x : IL h a ns) (hn : h.Ns L m) (hs : Heap.SameBut L h h') : IL h' a ns :=
  let ⟨vs, e, i⟩ := x; ⟨vs, e.same hn hs, i⟩

theorem lt_ne {a b c : Addr} (h : a < b) (h2 : b ≤ c) : a ≠ c := Nat.ne_of_lt (Nat.lt_of_lt_of_le h h2)
theorem keepL {g h h' : Heap} {L : Addr} (k : Keep g h) (hs : Heap.SameBut L h h') (hL : g.objs.size ≤ L) : Keep g h' :=
  fun b o e => (hs.2 b (Nat.ne_of_lt (Nat.lt_of_lt_of_le (Heap.lt_size e) hL))).trans (k b o e)
section
variable {M : Model} {A : Around} {E : Value → Shared → Prop} {s : Shared} {env : Env} {x : Str} {v : Value} {m : Str → Option Value} {Q : Unit → Shared → Prop} {pos : Pos}
/-- a local name is stored -/
theorem stL (hn : s.heap.Ns env.locals m)
    (h : ∀ h', h'.Ns env.locals (fun y => if y = x then some v else m y) → Heap.SameBut env.locals s.heap h' → Q () { s with heap := h', toks := s.toks + 1 })
    (hx : env.kindOf x = some .local := by rfl) (hk : env.scope.kind = .function := by rfl) : wpAny M A (storeName env x v) Q E s :=
  wpAny_storeName_local hx hn h (by rw [hk]; rfl)
end

section
variable {prog : Program} {w : World} {A : Around} {E : Value → Shared → Prop} {s : Shared} {Q : Value → Shared → Prop}
def sg (a b : Int) : Int := if b < a then 1 else if a < b then -1 else 0

theorem b2i_sg (x y : Int) : b2i (decide (y < x)) - b2i (decide (x < y)) = sg x y := by
  unfold sg b2i; by_cases h1 : y < x <;> by_cases h2 : x < y <;> simp [h1, h2] <;> omega

theorem c_three {f : Addr} {cdv : Value} {x y : Int} {t u : Tok} (hf : FnAt s.heap f 9 "three_way_cmp" cdv) (hlim : s.heap.NoLimit) (hroom : A.depth < recursionLimit)
    (h : ∀ h' tk t', Keep s.heap h' → Q (.int (sg x y) t') { s with heap := h', toks := tk }) : wpAny (model prog w) A (call (.ref f) [.int x t, .int y u]) Q E s := by
  obtain ⟨o, pm, doc, ct, ho, hd, hcd⟩ := hf
  refine call_fn (binds := [("x", .int x t), ("y", .int y u)]) ho hd hlim hcd hroom (BindsTo.of_eq ?_) ?_ ?_ fun L h₁ hL hn hk => ?_
  · rfl
  · exact locs rfl
  · decide
  refine wpAny_execs_cons (wpAny_Return_some (wpAny_BinOp (wpAny_Compare1 (nL hn rfl (nL hn rfl (gt_int (wpAny_Compare1 (nL hn rfl (nL hn rfl (lt_int (sub_bool ?_)))))))))))
  rw [b2i_sg]
  exact h _ _ _ hk
end

section
variable {prog : Program} {w : World} {A : Around} {E : Value → Shared → Prop} {s : Shared}
theorem keep_ext {h h' : Heap} (x : Heap.ExtBut h.objs.size h h') : Keep h h' := fun b o e => x b o (Nat.ne_of_lt (Heap.lt_size e)) e
theorem asgList {env : Env} {elts : List Expr} {k : Nat} {pos : Pos} {l : Addr} {items : Array Value} {Q : Unit → Shared → Prop} (hh : A.handled = none) (hl : LS s.heap l items)
    (h : ∀ h', Keep s.heap h' → wpAny (model prog w) A (assignInOrder ((assignEach elts env).map (·.2)) items.toList) Q E { s with heap := h' })
    (hn : (assignEach elts env).length = items.size := by rfl) (hstar : (assignEach elts env).findIdx? (·.1) = none := by rfl) :
    wpAny (model prog w) A (assign (.Tuple elts k pos) env (.ref l)) Q E s := by
  rw [arm_assign_Tuple]
  refine wpAny_bind (wpAny_standAt ?_)
  unfold unpack
  rw [hn, hstar]
  exact wpAny_bind (wpAny_holding (kun_itemsOf hh hl.isList fun h' he => h h' (keep_ext he)))
/-- a list display -/
theorem lst {env : Env} {elts : List Expr} {pos : Pos} {Q : Value → Shared → Prop}
    (h : wpAny (model prog w) A (spliced (backTo pos (starEach elts env))) (fun vs s₁ => vs.length ≤ sizeLine ∧ ∀ h' a, Keep s₁.heap h' → LS h' a vs.toArray → s₁.heap.objs.size ≤ a → Q (.ref a) { s₁ with heap := h' }) E s) :
    wpAny (model prog w) A (eval (.List elts pos) env) Q E s :=
  List_ (wpAny_mono h (fun vs s₁ h₁ => wpAny_newList (h₁.2 _ _ (keep_push _ _) (LS.new _ vs) (Nat.le_refl _)) h₁.1) fun _ _ e => e)
theorem addL {l b : Addr} {u v : Array Value} {Q : Value → Shared → Prop} (hl : LS s.heap l u) (hb : LS s.heap b v) (hz : u.size + v.size ≤ sizeLine)
    (h : ∀ h' a, Keep s.heap h' → LS h' a (u ++ v) → s.heap.objs.size ≤ a → Q (.ref a) { s with heap := h' }) : wpAny (model prog w) A (binaryOp .Add (.ref l) (.ref b)) Q E s := by
  obtain ⟨n, hl⟩ := hl
  obtain ⟨n', hb⟩ := hb
  exact P.add_list hl hb (h _ _ (keep_push _ _) ⟨0, Heap.get?_push_size _ rfl⟩ (Nat.le_refl _)) hz
end

section
variable {prog : Program} {w : World} {A : Around} {E : Value → Shared → Prop} {s : Shared} {Q : Value → Shared → Prop}
/-- the state of the fold -/
def PSt (h : Heap) (a : Addr) (i left : Int) (ns : List Int) : Prop := ∃ t u b, LS h a #[.int i t, .int left u, .ref b] ∧ IL h b ns
theorem PSt.keeps {h h' : Heap} {a : Addr} {i left : Int} {ns : List Int} (x : PSt h a i left ns) (k : Keep h h') : PSt h' a i left ns :=
  let ⟨t, u, b, e, i⟩ := x; ⟨t, u, b, e.keeps k, i.keeps k⟩
theorem ints_snoc {n : Int} {t : Tok} : ∀ {vs : List Value} {ns : List Int}, IntsAre vs ns → IntsAre (vs ++ [.int n t]) (ns ++ [n])
  | _, _, .nil => .cons n t .nil
  | _, _, .cons n' t' h => .cons n' t' (ints_snoc h)

theorem c_passed {f st : Addr} {cdv : Value} {i left j : Int} {u : Tok} {ns : List Int} (hf : FnAt s.heap f 13 "_law_passed" cdv) (hlim : s.heap.NoLimit) (hroom : A.depth < recursionLimit) (hh : A.handled = none)
    (hs : PSt s.heap st i left ns) (hz : ns.length ≤ 1000)
    (h : ∀ h' tk a, Keep s.heap h' → PSt h' a i (if i < j then left - 1 else left + 1) (ns ++ [if i < j then left - 1 else left]) → Q (.ref a) { s with heap := h', toks := tk }) :
    wpAny (model prog w) A (call (.ref f) [.ref st, .int j u]) Q E s := by
  obtain ⟨o, pm, doc, ct, ho, hd, hcd⟩ := hf
  obtain ⟨t1, t2, b, hst, vs, hb, hi⟩ := hs
  refine call_fn (binds := [("state", .ref st), ("j", .int j u)]) ho hd hlim hcd hroom (BindsTo.of_eq rfl) (locs rfl) (by decide) fun L h₁ hL hn hk => ?_
  refine wpAny_execs_cons (Assign_Tuple (nL hn rfl (asgList hh (hst.keeps hk) fun h₂ k₂ => ?_)))
  have hn2 := hn.keeps k₂
  refine assignInOrder_cons (assign_Name (stL hn2 fun h3 hn3 s3 => ?_))
  refine assignInOrder_cons (assign_Name (stL hn3 fun h4 hn4 s4 => ?_))
  refine assignInOrder_cons (assign_Name (stL hn4 fun h5 hn5 s5 => assignInOrder_nil ?_))
  have k5 : Keep s.heap h5 := keepL (keepL (keepL (hk.trans k₂) s3 (Nat.le_of_eq hL)) s4 (Nat.le_of_eq hL)) s5 (Nat.le_of_eq hL)
  have hb5 := hb.keeps k5
  have hlen : vs.size ≤ 1000 := by have := hi.length; rw [Array.length_toList] at this; omega
  refine wpAny_execs_cons (wpAny_If (wpAny_isTrue_Compare1 (nL hn5 rfl (nL hn5 rfl (gt_int (wpAny_truthy_bool ?_))))))
  by_cases hij : i < j
  · simp only [hij, decide_true, if_true] at h ⊢
    refine wpAny_execs_cons (wpAny_Return_some (lst (spliced_more (nL hn5 rfl (spliced_more (wpAny_BinOp (nL hn5 rfl (wpAny_Constant_int (sub_int ?_)))))))))
    refine spliced_more (wpAny_BinOp (nL hn5 rfl (lst (spliced_more (wpAny_BinOp (nL hn5 rfl (wpAny_Constant_int (sub_int (spliced_none ⟨Nat.le_of_ble_eq_true rfl, fun h6 a6 k6 l6 _ => ?_⟩)))))))))
    refine addL (hb5.keeps k6) l6 (by simp only [List.size_toArray, List.length_cons, List.length_nil]; rw [sizeLine_eq]; omega) fun h7 a7 k7 l7 _ => spliced_none ⟨Nat.le_of_ble_eq_true rfl, fun h8 a8 k8 l8 _ => ?_⟩
    exact h _ _ _ (k5.trans (k6.trans (k7.trans k8))) ⟨_, _, a7, l8, _, l7.keeps k8, by simpa using ints_snoc hi⟩
  · simp only [hij, decide_false, if_false, Bool.false_eq_true] at h ⊢
    refine wpAny_execs_nil ?_
    refine wpAny_execs_cons (wpAny_Return_some (lst (spliced_more (nL hn5 rfl (spliced_more (wpAny_BinOp (nL hn5 rfl (wpAny_Constant_int (add_int ?_)))))))))
    refine spliced_more (wpAny_BinOp (nL hn5 rfl (lst (spliced_more (nL hn5 rfl (spliced_none ⟨Nat.le_of_ble_eq_true rfl, fun h6 a6 k6 l6 _ => ?_⟩))))))
    refine addL (hb5.keeps k6) l6 (by simp only [List.size_toArray, List.length_cons, List.length_nil]; rw [sizeLine_eq]; omega) fun h7 a7 k7 l7 _ => spliced_none ⟨Nat.le_of_ble_eq_true rfl, fun h8 a8 k8 l8 _ => ?_⟩
    exact h _ _ _ (k5.trans (k6.trans (k7.trans k8))) ⟨_, _, a7, l8, _, l7.keeps k8, by simpa using ints_snoc hi⟩
end

/-- all but the addresses of wr is kept -/
abbrev KeepX (wr : List Addr) (h h' : Heap) : Prop := ∀ b o, b ∉ wr → h.get? b = some o → h'.get? b = some o
theorem KeepX.refl (wr : List Addr) (h : Heap) : KeepX wr h h := fun _ _ _ e => e
theorem KeepX.trans {wr : List Addr} {a b c : Heap} (x : KeepX wr a b) (y : KeepX wr b c) : KeepX wr a c := fun _ _ n e => y _ _ n (x _ _ n e)
theorem KeepX.more {wr wr' : List Addr} {a b : Heap} (x : KeepX wr a b) (hs : ∀ q ∈ wr, q ∈ wr') : KeepX wr' a b := fun b o n e => x b o (fun q => n (hs b q)) e
theorem Keep.x {h h' : Heap} (k : Keep h h') (wr : List Addr) : KeepX wr h h' := fun b o _ e => k b o e
theorem keepX_same {L : Addr} {h h' : Heap} (hs : Heap.SameBut L h h') {wr : List Addr} (hm : L ∈ wr) : KeepX wr h h' := fun b o n e => (hs.2 b (fun q => n (q ▸ hm))).trans e

/-- a record (an iterator, among others) stands at a -/
def IsF (h : Heap) (a : Addr) : Prop := ∃ o vs, h.get? a = some o ∧ o.data = .fields vs
theorem isF_ne {h : Heap} {a it : Addr} {o : Obj} (x : IsF h it) (e : h.get? a = some o) (hd : ∀ vs, o.data ≠ .fields vs) : a ≠ it := by
  rintro rfl
  obtain ⟨o', vs, e', d⟩ := x
  rw [e] at e'; cases e'
  exact hd _ d
theorem LS.ext {h h' : Heap} {a it : Addr} {vs : Array Value} (x : LS h a vs) (f : IsF h it) (he : Heap.ExtBut it h h') : LS h' a vs :=
  let ⟨n, e⟩ := x; ⟨n, he _ _ (isF_ne f e (by intro _ z; cases z)) e⟩
theorem IL.ext {h h' : Heap} {a it : Addr} {ns : List Int} (x : IL h a ns) (f : IsF h it) (he : Heap.ExtBut it h h') : IL h' a ns := let ⟨vs, e, i⟩ := x; ⟨vs, e.ext f he, i⟩
theorem PSt.ext {h h' : Heap} {a it : Addr} {i left : Int} {ns : List Int} (x : PSt h a i left ns) (f : IsF h it) (he : Heap.ExtBut it h h') : PSt h' a i left ns :=
  let ⟨t, u, b, e, i⟩ := x; ⟨t, u, b, e.ext f he, i.ext f he⟩
theorem ns_ext {h h' : Heap} {L it : Addr} {m : Str → Option Value} (x : h.Ns L m) (f : IsF h it) (he : Heap.ExtBut it h h') : h'.Ns L m :=
  let ⟨o, es, ep, e, d, r⟩ := x; ⟨o, es, ep, he _ _ (isF_ne f e (by rw [d]; intro _ z; cases z)) e, d, r⟩
theorem isF_listIter {h : Heap} {it l : Addr} {k : Nat} (x : h.IsListIter it l k) : IsF h it := let ⟨o, e, _, d⟩ := x; ⟨o, _, e, d⟩
theorem isF_rangeIter {h : Heap} {it : Addr} {a b c : Int} (x : IsRangeIter h it a b c) : IsF h it := ⟨_, _, x, rfl⟩

section
variable {prog : Program} {w : World} {A : Around} {E : Value → Shared → Prop} {R : Result → Shared → Prop} {s : Shared} {env : Env}

theorem owned_list {target : Expr} {it l : Addr} {k : Nat} {v : Value} {Q : Unit → Shared → Prop} (hit : s.heap.IsListIter it l k) (h : Q () s) : wpAny (model prog w) A (letOwnedTupleGo target (.ref it) v) Q E s := by
  obtain ⟨o, ho, hc, hd⟩ := hit
  have fin : ∀ a, wpAny (model prog w) A (do
      let o ← load it
      match o.cls, o.data with
      | .type n, .fields vs =>
        if ["enumerate", "zip", "dict_itemiterator", "dict_reverseitemiterator", "odict_iterator", "itertools.zip_longest", "itertools.pairwise"].contains n && vs[0]? == some (rawInt a) then
          rule "for.unpacks-the-owned-tuple"
          updateField it 0 .none
      | _, _ => pure ()) Q E s := fun a => by
    refine wpAny_bind (wpAny_load ho ?_)
    rw [hc, hd]
    exact wpAny_pure h
  unfold letOwnedTupleGo
  split
  · cases v <;> first | exact fin _ | exact wpAny_pure h
  · cases v <;> first | exact fin _ | exact wpAny_pure h
  · exact wpAny_pure h
/-- a for over a list's iterator; P k: what holds when k items are done -/
theorem for_listIter {target : Expr} {body : List Stmt} {it l : Addr} {items : Array Value} (wr : List Addr) (P : Nat → Heap → Prop) (hh : A.handled = none)
    (hit : s.heap.IsListIter it l 0) (hl : s.heap.IsList l items) (hi : it ∉ wr) (hlw : l ∉ wr) (hne : l ≠ it) (h0 : P 0 s.heap)
    (hst : ∀ k h h', P k h → IsF h it → Heap.ExtBut it h h' → P k h')
    (step : ∀ k v (s₁ : Shared) E', items[k]? = some v → P k s₁.heap → IsF s₁.heap it → KeepX (it :: wr) s.heap s₁.heap →
      wpAny (model prog w) A (assign target env v) (fun _ s₂ => wpAny (model prog w) A (execs body env) (fun f s₃ => f = .next ∧ ∃ h tk, s₃ = { s₁ with heap := h, toks := tk } ∧ P (k + 1) h ∧ KeepX wr s₁.heap h) E' s₂) E' s₁)
    (hR : ∀ h' tk, P items.size h' → KeepX (it :: wr) s.heap h' → R (.ok .next) { s with heap := h', toks := tk }) :
    codeAny (model prog w) A (.forLoop target (.ref it) body [] env) R s := by
  refine codeAny_forLoop_any (fun n s' => ∃ h' tk k, s' = { s with heap := h', toks := tk } ∧ h'.IsListIter it l k ∧ h'.IsList l items ∧ P k h' ∧ k ≤ items.size ∧ n = items.size + 1 - k ∧ KeepX (it :: wr) s.heap h') ?_ (items.size + 1)
    ⟨s.heap, s.toks, 0, rfl, hit, hl, h0, Nat.zero_le _, rfl, KeepX.refl _ _⟩
  rintro n s' ⟨h', tk, k, rfl, hit', hl', hP, hk, rfl, hX⟩
  cases hv : items[k]? with
  | none =>
    have : k = items.size := by have : items.size ≤ k := by simpa using hv
                                omega
    subst this
    refine wpAny_pyNext_list_end hh hit' hl' hv fun h₁ he₁ => wpAny_execs_nil ?_
    exact hR h₁ tk (hst _ _ _ hP (isF_listIter hit') he₁) fun b o nb e => he₁ b o (fun q => nb (q ▸ .head _)) (hX b o nb e)
  | some v =>
    have hlt : k < items.size := (Array.getElem?_eq_some_iff.mp hv).1
    refine wpAny_pyNext_list_item hit' hl' hv fun h₁ hit₁ hs₁ => ?_
    have X1 : KeepX (it :: wr) s.heap h₁ := fun b o nb e => hs₁.extBut b o (fun q => nb (q ▸ .head _)) (hX b o nb e)
    refine owned_list hit₁ ?_
    refine wpAny_mono (step k v { s with heap := h₁, toks := tk } _ hv (hst _ _ _ hP (isF_listIter hit') hs₁.extBut) (isF_listIter hit₁) X1) (fun _ s₂ h₂ => wpAny_mono h₂ (fun f s₃ h₃ => ?_) fun _ _ e => e) fun _ _ e => e
    obtain ⟨rfl, h₃, tk₃, rfl, hP₃, hX₃⟩ := h₃
    obtain ⟨oi, hoi, ri⟩ := hit₁
    obtain ⟨ol, hol, rl⟩ := hl'
    have hol1 := hs₁.extBut l ol hne hol
    refine ⟨items.size + 1 - (k + 1), by omega, h₃, tk₃, k + 1, rfl, ⟨oi, hX₃ _ _ hi hoi, ri⟩, ⟨ol, hX₃ _ _ hlw hol1, rl⟩, hP₃, hlt, rfl, fun b o nb e => hX₃ b o (fun q => nb (.tail _ q)) (X1 b o nb e)⟩

/-- a for over a range's iterator (step 1) -/
theorem for_rangeIter {target : Expr} {body : List Stmt} {it : Addr} {n : Nat} (wr : List Addr) (P : Nat → Heap → Prop) (hh : A.handled = none)
    (hit : IsRangeIter s.heap it 0 n 1) (hi : it ∉ wr) (h0 : P 0 s.heap)
    (hst : ∀ k h h', P k h → IsF h it → Heap.ExtBut it h h' → P k h')
    (step : ∀ k t (s₁ : Shared) E', k < n → P k s₁.heap → IsF s₁.heap it → KeepX (it :: wr) s.heap s₁.heap →
      wpAny (model prog w) A (assign target env (.int (k : Int) t)) (fun _ s₂ => wpAny (model prog w) A (execs body env) (fun f s₃ => f = .next ∧ ∃ h tk, s₃ = { s₁ with heap := h, toks := tk } ∧ P (k + 1) h ∧ KeepX wr s₁.heap h) E' s₂) E' s₁)
    (hR : ∀ h' tk, P n h' → KeepX (it :: wr) s.heap h' → R (.ok .next) { s with heap := h', toks := tk })
    (ht : ∀ v, letOwnedTupleGo target (.ref it) v = pure () := by intro _; rfl) :
    codeAny (model prog w) A (.forLoop target (.ref it) body [] env) R s := by
  refine codeAny_forLoop (fun m s' => ∃ h' tk k, s' = { s with heap := h', toks := tk } ∧ IsRangeIter h' it ((k : Nat) : Int) ((n : Int) - (k : Nat)) 1 ∧ P k h' ∧ k ≤ n ∧ m = n + 1 - k ∧ KeepX (it :: wr) s.heap h') ?_ (n + 1)
    ⟨s.heap, s.toks, 0, rfl, by simpa using hit, h0, Nat.zero_le _, rfl, KeepX.refl _ _⟩ ht
  rintro m s' ⟨h', tk, k, rfl, hit', hP, hk, rfl, hX⟩
  by_cases hlt : k < n
  · refine wpAny_pyNext_range_item hit' (by omega) fun h₁ hit₁ hs₁ => ?_
    have X1 : KeepX (it :: wr) s.heap h₁ := fun b o nb e => hs₁.extBut b o (fun q => nb (q ▸ .head _)) (hX b o nb e)
    refine wpAny_mono (step k _ { s with heap := h₁, toks := tk + 1 } _ hlt (hst _ _ _ hP (isF_rangeIter hit') hs₁.extBut) (isF_rangeIter hit₁) X1) (fun _ s₂ h₂ => wpAny_mono h₂ (fun f s₃ h₃ => ?_) fun _ _ e => e) fun _ _ e => e
    obtain ⟨rfl, h₃, tk₃, rfl, hP₃, hX₃⟩ := h₃
    refine ⟨n + 1 - (k + 1), by omega, h₃, tk₃, k + 1, rfl, ?_, hP₃, hlt, rfl, fun b o nb e => hX₃ b o (fun q => nb (.tail _ q)) (X1 b o nb e)⟩
    have e1 : ((k + 1 : Nat) : Int) = (k : Int) + 1 := by push_cast; rfl
    have e2 : (n : Int) - ((k + 1 : Nat) : Int) = (n : Int) - (k : Int) - 1 := by push_cast; omega
    rw [e1, show (n : Int) - ((k : Int) + 1) = (n : Int) - (k : Int) - 1 by omega]
    exact hX₃ _ _ hi hit₁
  · have hin : k = n := by omega
    subst hin
    refine wpAny_pyNext_range_end hh hit' (by omega) fun h₁ he₁ => wpAny_execs_nil ?_
    exact hR h₁ tk (hst _ _ _ hP (isF_rangeIter hit') he₁) fun b o nb e => he₁ b o (fun q => nb (q ▸ .head _)) (hX b o nb e)
end

section
variable {prog : Program} {w : World} {A : Around} {E : Value → Shared → Prop} {s : Shared} {Q : Value → Shared → Prop} {env : Env}

/-- the arguments of a call of a def, then the call -/
theorem cwF {pos : Pos} {a : Addr} {o : Obj} {fd : FuncData} {e : Expr} {rest : List Expr}
    (h : wpAny (model prog w) A (spliced (backTo pos (starEach (e :: rest) env))) (fun vs s₁ => (s₁.heap.get? a = some o ∧ o.data = .func fd) ∧ wpAny (model prog w) A (call (.ref a) vs) Q E s₁) E s)
    (he : starEach (e :: rest) env = (false, eval e env) :: starEach rest env := by rfl) :
    wpAny (model prog w) A (callWith pos (.ref a) [] (backTo pos (starEach (e :: rest) env)) []) Q E s := by
  rw [he] at h ⊢
  exact callWith_function (evalArgs_plain h)
theorem cwB {pos : Pos} {i : String} {e : Expr} {rest : List Expr}
    (h : wpAny (model prog w) A (spliced (backTo pos (starEach (e :: rest) env))) (fun vs s₁ => wpAny (model prog w) A (call (.builtin i) vs) Q E s₁) E s)
    (he : starEach (e :: rest) env = (false, eval e env) :: starEach rest env := by rfl) (hp : (backTo pos (starEach rest env)).any (·.1) = false := by rfl) :
    wpAny (model prog w) A (callWith pos (.builtin i) [] (backTo pos (starEach (e :: rest) env)) []) Q E s := by
  rw [he] at h ⊢
  exact callWith_builtin (by show (false || (backTo pos (starEach rest env)).any (·.1)) = false; rw [hp]; rfl) (evalArgs_plain h)

theorem b_iter {l : Addr} {items : Array Value} (hl : LS s.heap l items)
    (h : ∀ h' it, Keep s.heap h' → h'.IsListIter it l 0 → s.heap.objs.size ≤ it → Q (.ref it) { s with heap := h' }) : wpAny (model prog w) A (call (.builtin "iter") [.ref l]) Q E s := by
  refine call_function_entry (by decide +kernel) (by decide +kernel) kdk_entry_iter (kdk_args_iter _) ?_
  unfold Builtin.«iter»
  refine wpAny_bind (m := someArgs "iter" 1 2 _) (wpAny_of_eq (a := [Value.ref l]) (by first | rfl | kernel_rfl!) ?_)
  show wpAny _ _ (pyIter (.ref l) >>= _) _ _ _
  refine wpAny_bind (wpAny_pyIter_list hl.isList ?_)
  exact wpAny_pure ⟨_, rfl, h _ _ (keep_push _ _) ⟨_, Heap.get?_push_size _ rfl, rfl, rfl⟩ (Nat.le_refl _)⟩

def passStep (i : Int) (p : Int × List Int) (j : Int) : Int × List Int := (if i < j then p.1 - 1 else p.1 + 1, p.2 ++ [if i < j then p.1 - 1 else p.1])

/-- reduce stands at f (it has a default) -/
def RedAt (h : Heap) (f : Addr) (cdv : Value) : Prop :=
  ∃ o pm doc ct T oT y n, h.get? f = some o ∧ o.data = .func (fnX "reduce" "reduce" (fArgs (stm 3)) (fBody (stm 3)) (fScope (stm 3)) [] (.ref T) .none doc pm none cdv ct) ∧ h.CodeRec cdv "reduce" ∧ h.get? T = some oT ∧ oT.data = .seq #[y] n
theorem RedAt.keeps {h h' : Heap} {f : Addr} {cdv : Value} (x : RedAt h f cdv) (hk : Keep h h') : RedAt h' f cdv := by
  obtain ⟨o, pm, doc, ct, T, oT, y, n, a, b, c, d, e⟩ := x; exact ⟨o, pm, doc, ct, T, oT, y, n, hk _ _ a, b, c.keeps hk, hk _ _ d, e⟩

theorem ints_get {vs : List Value} {ns : List Int} (h : IntsAre vs ns) : ∀ {k : Nat} {v : Value}, vs[k]? = some v → ∃ n t, ns[k]? = some n ∧ v = .int n t := by
  induction h with
  | nil => intro k v e; simp at e
  | cons n t _ ih =>
    intro k v e
    cases k with
    | zero => simp at e; exact ⟨n, t, rfl, e.symm⟩
    | succ k => simp at e; simpa using ih e

theorem pass_len (i : Int) : ∀ (js : List Int) (p : Int × List Int), (js.foldl (passStep i) p).2.length = p.2.length + js.length
  | [], _ => rfl
  | j :: js, p => by rw [List.foldl_cons, pass_len i js]; simp [passStep]; omega
theorem PSt.same {h h' : Heap} {L a : Addr} {m : Str → Option Value} {i left : Int} {ns : List Int} (x : PSt h a i left ns) (hn : h.Ns L m) (hs : Heap.SameBut L h h') : PSt h' a i left ns :=
  let ⟨t, u, b, e, i⟩ := x; ⟨t, u, b, e.same hn hs, i.same hn hs⟩
theorem c_reduce {g₀ : Heap} {mg mb : Str → Option Value} (G : Glo g₀ mg mb) (k0 : Keep g₀ s.heap) {f fp st row aM : Addr} {cdv cdp : Value} {oM : Obj} {i left : Int} {ns js : List Int} (hf : RedAt s.heap f cdv) (hp : FnAt s.heap fp 13 "_law_passed" cdp)
    (hI : mg "iter" = none) (hM : mg "_initial_missing" = some (.ref aM)) (hoM : g₀.get? aM = some oM) (hcM : oM.cls = .type "object")
    (hroom : A.depth + 1 < recursionLimit) (hh : A.handled = none) (hs : PSt s.heap st i left ns) (hr : IL s.heap row js) (hz : ns.length + js.length ≤ 1000)
    (h : ∀ h' tk a, Keep s.heap h' → PSt h' a i (js.foldl (passStep i) (left, ns)).1 (js.foldl (passStep i) (left, ns)).2 → Q (.ref a) { s with heap := h', toks := tk }) :
    wpAny (model prog w) A (call (.ref f) [.ref fp, .ref row, .ref st]) Q E s := by
  obtain ⟨o, pm, doc, ct, T, oT, y, n, ho, hd, hcd, hT, hTd⟩ := hf
  obtain ⟨vr, hrl, hri⟩ := hr
  refine call_fn (binds := [("function", .ref fp), ("sequence", .ref row), ("initial", .ref st)]) ho hd (G.lim.keeps k0) hcd (by omega) (BindsTo.of_defaults rfl hT hTd rfl rfl) (locs rfl) (by decide) fun L h₁ hL hn hk => ?_
  have hL' : s.heap.objs.size ≤ L := Nat.le_of_eq hL
  refine wpAny_execs_cons (wpAny_Assign_Name (Call_ (nB G (k0.trans hk) hI boot_iter (cwB (spliced_more (nL hn rfl (spliced_none (b_iter (hrl.keeps hk) fun h₂ it k₂ hit2 hle => ?_))))))))
  refine stL (hn.keeps k₂) fun h3 hn3 s3 => ?_
  have k3 : Keep s.heap h3 := keepL (hk.trans k₂) s3 hL'
  obtain ⟨t1, t2, b, hst, hb⟩ := id hs
  obtain ⟨nst, hst'⟩ := hst.keeps k3
  have hne : st ≠ aM := fun q => by
    have e := (k0.trans k3) _ _ hoM
    rw [← q, hst'] at e; cases e; simp at hcM
  refine wpAny_execs_cons (wpAny_If (wpAny_isTrue_Compare1 (nL hn3 rfl (nG G (k0.trans k3) hM (wpAny_is_ref_other hne hst' ((k0.trans k3) _ _ hoM) (by intro z; simp at z) (wpAny_truthy_bool ?_))))))
  simp only [Bool.false_eq_true, if_false]
  refine wpAny_execs_cons (wpAny_Assign_Name (nL hn3 rfl (stL hn3 fun h4 hn4 s4 => wpAny_execs_nil ?_)))
  have k4 : Keep s.heap h4 := keepL k3 s4 hL'
  have hLlt : L < h4.objs.size := hn4.lt
  have hit4 : h4.IsListIter it row 0 := by
    obtain ⟨oi, hoi, ri⟩ := hit2
    exact ⟨oi, (s4.2 it (ns_ne hn3 ((s3.2 it (ns_ne (hn.keeps k₂) hoi (by rw [ri.2]; intro _ _ z; cases z))).trans hoi) (by rw [ri.2]; intro _ _ z; cases z))).trans ((s3.2 it (ns_ne (hn.keeps k₂) hoi (by rw [ri.2]; intro _ _ z; cases z))).trans hoi), ri⟩
  have hsz : s.heap.objs.size ≤ h₁.objs.size := Nat.le_trans hL' (Nat.le_of_lt hn.lt)
  have hitL : it ≠ L := fun q => by
    obtain ⟨oi, hoi, ri⟩ := hit4
    exact ns_ne hn4 hoi (by rw [ri.2]; intro _ _ z; cases z) q
  have hrL : row ≠ L := lt_ne hrl.lt hL'
  have hrit : row ≠ it := lt_ne (hrl.keeps hk).lt hle
  refine wpAny_execs_cons (wpAny_For (nL hn4 rfl (wpAny_pyIter_listiter hit4 ?_)))
  refine for_listIter [L] (fun k hp => ∃ m a, hp.Ns L m ∧ m "function" = some (.ref fp) ∧ m "value" = some (.ref a) ∧ Keep s.heap hp ∧ PSt hp a i ((js.take k).foldl (passStep i) (left, ns)).1 ((js.take k).foldl (passStep i) (left, ns)).2)
    hh hit4 (hrl.keeps k4).isList (by simpa using hitL) (by simpa using hrL) hrit ⟨_, st, hn4, rfl, rfl, k4, by simpa using hs.keeps k4⟩ ?_ ?_ ?_
  · rintro k hp hp' ⟨m, a, x1, x2, x3, x4, x5⟩ hF he
    refine ⟨m, a, ns_ext x1 hF he, x2, x3, fun b o e => he b o (fun q => ?_) (x4 b o e), x5.ext hF he⟩
    exact absurd (Heap.lt_size e) (by rw [q]; exact Nat.not_lt.mpr (Nat.le_trans hsz hle))
  · rintro k v s₁ E' hv ⟨m, a, x1, x2, x3, x4, x5⟩ hF hX
    obtain ⟨j, tj, hj, rfl⟩ := ints_get hri (by simpa using hv)
    refine assign_Name (stL x1 fun h5 hn5 s5 => ?_)
    have hp5 := hp.keeps (keepL x4 s5 hL')
    obtain ⟨op, pmp, docp, ctp, hop, hdp, hcp⟩ := id hp5
    have P5 := x5.same x1 s5
    refine wpAny_execs_cons (wpAny_Assign_Name (Call_ (nL hn5 x2 (cwF (spliced_more (nL hn5 x3 (spliced_more (nL hn5 rfl (spliced_none ⟨⟨hop, hdp⟩, ?_⟩)))))))))
    refine c_passed hp5 (G.lim.keeps (k0.trans (keepL x4 s5 hL'))) hroom hh P5 ?_ fun h6 tk6 a6 k6 P6 => ?_
    · rw [pass_len, List.length_take]; show ns.length + _ ≤ 1000; omega
    · refine stL (hn5.keeps k6) fun h7 hn7 s7 => wpAny_execs_nil ?_
      refine ⟨rfl, h7, _, rfl, ⟨_, a6, hn7, ?_, rfl, keepL ((keepL x4 s5 hL').trans k6) s7 hL', ?_⟩, ?_⟩
      · exact x2
      · have e : js.take (k + 1) = js.take k ++ [j] := by rw [List.take_add_one, hj]; rfl
        rw [e, List.foldl_append]
        exact P6.same (hn5.keeps k6) s7
      · exact (keepX_same s5 (.head _)).trans ((k6.x _).trans (keepX_same s7 (.head _)))
  · rintro h' tk ⟨m, a, x1, x2, x3, x4, x5⟩ hX
    refine wpAny_execs_cons (wpAny_Return_some (nL x1 x3 ?_))
    have e : js.take vr.size = js := List.take_of_length_le (by have := hri.length; rw [Array.length_toList] at this; omega)
    rw [e] at x5
    exact h _ _ _ x4 x5
end

/-- a list of pairs of ints, each a list of its own -/
inductive Prs (h : Heap) : List Value → List (Int × Int) → Prop
  | nil : Prs h [] []
  | cons {a : Addr} {x y : Int} {t u : Tok} {vs zs} : LS h a #[.int x t, .int y u] → Prs h vs zs → Prs h (.ref a :: vs) ((x, y) :: zs)
def PT (h : Heap) (p : Addr) (zs : List (Int × Int)) : Prop := ∃ vs, LS h p vs ∧ Prs h vs.toList zs
theorem Prs.map {h h' : Heap} {vs : List Value} {zs : List (Int × Int)} (x : Prs h vs zs) (k : ∀ a ws, .ref a ∈ vs → LS h a ws → LS h' a ws) : Prs h' vs zs := by
  induction x with
  | nil => exact .nil
  | cons e _ ih => exact .cons (k _ _ (.head _) e) (ih fun a ws m => k a ws (.tail _ m))
theorem Prs.keeps {h h' : Heap} {vs : List Value} {zs : List (Int × Int)} (x : Prs h vs zs) (k : Keep h h') : Prs h' vs zs := x.map fun _ _ _ e => e.keeps k
theorem PT.keeps {h h' : Heap} {p : Addr} {zs : List (Int × Int)} (x : PT h p zs) (k : Keep h h') : PT h' p zs := let ⟨vs, a, b⟩ := x; ⟨vs, a.keeps k, b.keeps k⟩
theorem Prs.same {h h' : Heap} {L : Addr} {m : Str → Option Value} {vs : List Value} {zs : List (Int × Int)} (x : Prs h vs zs) (hn : h.Ns L m) (hs : Heap.SameBut L h h') : Prs h' vs zs := x.map fun _ _ _ e => e.same hn hs
theorem PT.same {h h' : Heap} {L p : Addr} {m : Str → Option Value} {zs : List (Int × Int)} (x : PT h p zs) (hn : h.Ns L m) (hs : Heap.SameBut L h h') : PT h' p zs := let ⟨vs, a, b⟩ := x; ⟨vs, a.same hn hs, b.same hn hs⟩
theorem Prs.ext {h h' : Heap} {it : Addr} {vs : List Value} {zs : List (Int × Int)} (x : Prs h vs zs) (f : IsF h it) (he : Heap.ExtBut it h h') : Prs h' vs zs := x.map fun _ _ _ e => e.ext f he
theorem PT.ext {h h' : Heap} {it p : Addr} {zs : List (Int × Int)} (x : PT h p zs) (f : IsF h it) (he : Heap.ExtBut it h h') : PT h' p zs := let ⟨vs, a, b⟩ := x; ⟨vs, a.ext f he, b.ext f he⟩
theorem Prs.length {h : Heap} {vs : List Value} {zs : List (Int × Int)} (x : Prs h vs zs) : vs.length = zs.length := by
  induction x with
  | nil => rfl
  | cons _ _ ih => simp [ih]
theorem Prs.get {h : Heap} {vs : List Value} {zs : List (Int × Int)} (x : Prs h vs zs) : ∀ {k : Nat} {z : Int × Int}, zs[k]? = some z → ∃ a t u, vs[k]? = some (.ref a) ∧ LS h a #[.int z.1 t, .int z.2 u] := by
  induction x with
  | nil => intro k z e; simp at e
  | cons e _ ih =>
    intro k z q
    cases k with
    | zero => simp at q; subst q; exact ⟨_, _, _, rfl, e⟩
    | succ k => simp at q; simpa using ih q
theorem Prs.snoc {h : Heap} {vs : List Value} {zs : List (Int × Int)} {a : Addr} {x y : Int} {t u : Tok} (p : Prs h vs zs) (e : LS h a #[.int x t, .int y u]) : Prs h (vs ++ [.ref a]) (zs ++ [(x, y)]) := by
  induction p with
  | nil => exact .cons e .nil
  | cons e' _ ih => exact .cons e' ih
theorem LS.ne {h h' : Heap} {W a : Addr} {vs : Array Value} (x : LS h a vs) (hs : Heap.SameBut W h h') (hne : a ≠ W) : LS h' a vs := let ⟨n, e⟩ := x; ⟨n, (hs.2 a hne).trans e⟩

section
variable {prog : Program} {w : World} {A : Around} {E : Value → Shared → Prop} {s : Shared} {Q : Value → Shared → Prop} {env : Env}
/-- an item of a list -/
theorem item {value slice : Expr} {l : Addr} {vs : Array Value} {k : Int} {u : Tok} {v : Value} (hl : LS s.heap l vs) (h0 : 0 ≤ k) (hx : vs[k.toNat]? = some v) (h : Q v s) (hz : vs.size ≤ 1000)
    (hs : subscripted slice false (.ref l) (.int k u) = operate [.ref l, .int k u] (getItem (.ref l) (.int k u)) := by with_unfolding_all rfl) :
    wpAny (model prog w) A (subscriptTail value slice (.ref l) (.int k u)) Q E s := by
  have hk : k.toNat < vs.size := (Array.getElem?_eq_some_iff.mp hx).1
  exact tail_any hl.isList.typeIs slot_list_getitem.lookup (wpAny_getItem_list hl.isList h0 (by omega) hx h) hs

theorem P_append {l : Addr} {vs : Array Value} {x : Value} (hl : LS s.heap l vs) (hz : vs.size ≤ sizeLine)
    (h : ∀ h', LS h' l (vs.push x) → Heap.SameBut l s.heap h' → Q .none { s with heap := h' }) : wpAny (model prog w) A (call (.builtin "list.append") [.ref l, x]) Q E s := by
  obtain ⟨n, e⟩ := hl
  have hl : s.heap.IsList l vs := ⟨_, e, rfl, n, rfl⟩
  refine wpAny_call_entry slot_list_append hl.typeIs entry_list_append ?_ (args_list_append _ _)
  show wpAny _ _ (updateSeq l (·.push x) >>= fun _ => ret .none) _ _ s
  refine wpAny_bind (wpAny_updateSeq e rfl (wpAny_pure ⟨.none, rfl, h _ ⟨_, Heap.get?_update_self _ e rfl⟩ (Heap.SameBut.update ..)⟩))
def wayOf (z0 z : Int × Int) : Int × Int := if 0 ≤ z.1 - z0.1 then (z.1 - z0.1, z.2 - z0.2) else (-(z.1 - z0.1), -(z.2 - z0.2))

theorem c_ways {f p : Addr} {cdv : Value} {i : Int} {ti : Tok} {zs : List (Int × Int)} {z0 : Int × Int} (hf : FnAt s.heap f 11 "_law_ways" cdv) (hlim : s.heap.NoLimit) (hroom : A.depth < recursionLimit) (hh : A.handled = none)
    (hp : PT s.heap p zs) (hi : 0 ≤ i) (hz0 : zs[i.toNat]? = some z0) (hz : zs.length ≤ 1000)
    (h : ∀ h' tk a, Keep s.heap h' → PT h' a (zs.map (wayOf z0)) → s.heap.objs.size ≤ a → Q (.ref a) { s with heap := h', toks := tk }) :
    wpAny (model prog w) A (call (.ref f) [.ref p, .int i ti]) Q E s := by
  obtain ⟨o, pm, doc, ct, ho, hd, hcd⟩ := hf
  obtain ⟨vp, hpl, hpr⟩ := hp
  refine call_fn (binds := [("points", .ref p), ("i", .int i ti)]) ho hd hlim hcd hroom (BindsTo.of_eq rfl) (locs rfl) (by decide) fun L h₁ hL hn hk => ?_
  have hL' : s.heap.objs.size ≤ L := Nat.le_of_eq hL
  refine wpAny_execs_cons (wpAny_Assign_Name (lst (spliced_none ⟨Nat.le_of_ble_eq_true rfl, fun h2 W k2 w2 hW => ?_⟩)))
  refine stL (hn.keeps k2) fun h3 hn3 s3 => ?_
  have k3 : Keep s.heap h3 := keepL (hk.trans k2) s3 hL'
  have w3 := w2.same (hn.keeps k2) s3
  have hWs : s.heap.objs.size ≤ W := Nat.le_trans (Nat.le_trans hL' (Nat.le_of_lt hn.lt)) hW
  have hWL : W ≠ L := fun q => by obtain ⟨n, e⟩ := w3; exact ns_ne hn3 e (by intro _ _ z; cases z) q
  refine wpAny_execs_cons (wpAny_For (nL hn3 rfl (wpAny_pyIter_list (hpl.keeps k3).isList ?_)))
  have hpL : p ≠ L := lt_ne hpl.lt hL'
  have hpW : p ≠ W := lt_ne hpl.lt hWs
  refine for_listIter [L, W] (fun k hp => ∃ m vs, hp.Ns L m ∧ m "points" = some (.ref p) ∧ m "i" = some (.int i ti) ∧ m "ways" = some (.ref W) ∧ Keep s.heap hp ∧ LS hp W vs ∧ Prs hp vs.toList ((zs.take k).map (wayOf z0)) ∧ ∀ v ∈ vs.toList, v ≠ .ref W)
    hh ⟨_, Heap.get?_push_size _ rfl, rfl, rfl⟩ ((hpl.keeps k3).keeps (keep_push _ _)).isList ?_ (by simp [hpL, hpW]) (lt_ne (hpl.keeps k3).lt (Nat.le_refl _))
    ⟨_, #[], hn3.push _, rfl, rfl, rfl, k3.trans (keep_push _ _), w3.keeps (keep_push _ _), by simpa using Prs.nil, by simp⟩ ?_ ?_ ?_
  · have := hn3.lt; have := w3.lt
    simp only [List.mem_cons, List.not_mem_nil, or_false, not_or]
    exact ⟨(Nat.ne_of_lt hn3.lt).symm, (Nat.ne_of_lt w3.lt).symm⟩
  · rintro k hp hp' ⟨m, vs, x1, x2, x3, x4, x5, x6, x7, x8⟩ hF he
    refine ⟨m, vs, ns_ext x1 hF he, x2, x3, x4, fun b o e => he b o (fun q => ?_) (x5 b o e), x6.ext hF he, x7.ext hF he, x8⟩
    have h1 : b < s.heap.objs.size := Heap.lt_size e
    have h2 : s.heap.objs.size ≤ h3.objs.size := Nat.le_trans hL' (Nat.le_of_lt hn3.lt)
    exact lt_ne h1 h2 q
  · rintro k v s₁ E' hv ⟨m, vs, x1, x2, x3, x4, x5, x6, x7, x8⟩ hF hX
    have hk : k < vp.size := (Array.getElem?_eq_some_iff.mp hv).1
    have hlen : vp.size = zs.length := by have := hpr.length; rwa [Array.length_toList] at this
    obtain ⟨z, hzk⟩ : ∃ z, zs[k]? = some z := ⟨_, List.getElem?_eq_getElem (by omega)⟩
    obtain ⟨a, t, u, hva, hla⟩ := hpr.get hzk
    obtain rfl : v = .ref a := by rw [Array.getElem?_toList, hv] at hva; exact Option.some.inj hva
    refine asgList hh (hla.keeps x5) fun h4 k4 => ?_
    refine assignInOrder_cons (assign_Name (stL (x1.keeps k4) fun h5 hn5 s5 => ?_))
    refine assignInOrder_cons (assign_Name (stL hn5 fun h6 hn6 s6 => assignInOrder_nil ?_))
    have k6 : Keep s.heap h6 := keepL (keepL (x5.trans k4) s5 hL') s6 hL'
    obtain ⟨a0, t0, u0, hv0, hl0⟩ := hpr.get hz0
    rw [Array.getElem?_toList] at hv0
    refine wpAny_execs_cons (wpAny_Assign_Name (lst ?_))
    have z2 : (2 : Nat) ≤ 1000 := by decide
    refine spliced_more (wpAny_BinOp (nL hn6 rfl (Subscript_ (Subscript_ (nL hn6 x2 (nL hn6 x3 (item (hpl.keeps k6) hi hv0 (wpAny_Constant_int (item (hl0.keeps k6) (by decide) rfl (sub_int ?_) z2)) (by omega))))))))
    refine spliced_more (wpAny_BinOp (nL hn6 rfl (Subscript_ (Subscript_ (nL hn6 x2 (nL hn6 x3 (item (hpl.keeps k6) hi hv0 (wpAny_Constant_int (item (hl0.keeps k6) (by decide) rfl (sub_int (spliced_none ?_)) z2)) (by omega))))))))
    refine ⟨Nat.le_of_ble_eq_true rfl, fun h7 a7 k7 l7 g7 => ?_⟩
    refine stL (hn6.keeps k7) fun h8 hn8 s8 => ?_
    have k8 : Keep s.heap h8 := keepL (k6.trans k7) s8 hL'
    have l8 := l7.same (hn6.keeps k7) s8
    -- the accumulator
    have y4 := x6.keeps k4
    have y5 := y4.same (x1.keeps k4) s5
    have y6 := y5.same hn5 s6
    have y8 := (y6.keeps k7).same (hn6.keeps k7) s8
    have q4 := x7.keeps k4
    have q5 := q4.same (x1.keeps k4) s5
    have q6 := q5.same hn5 s6
    have q8 := (q6.keeps k7).same (hn6.keeps k7) s8
    have a7W : a7 ≠ W := fun q => by
      have h1 : W < h6.objs.size := y6.lt
      exact absurd h1 (Nat.not_lt.mpr (q ▸ g7))
    have XX : KeepX [L, W] s₁.heap h8 := (k4.x _).trans ((keepX_same s5 (.head _)).trans ((keepX_same s6 (.head _)).trans ((k7.x _).trans (keepX_same s8 (.head _)))))
    have hvs : vs.size ≤ sizeLine := by
      have := x7.length
      rw [Array.length_toList, List.length_map, List.length_take] at this
      rw [sizeLine_eq]; omega
    -- the end of the turn, for either way
    have fin : ∀ h9 aw tk9 x y t9 u9, Keep h8 h9 → LS h9 aw #[.int x t9, .int y u9] → aw ≠ W → (x, y) = wayOf z0 z →
        wpAny (model prog w) (A.deeper (envX "_law_ways" (fScope (stm 11)) L f cdv [])) (call (.builtin "list.append") [.ref W, .ref aw]) (fun v s' => match v with | .ref _ => False | _ => ∃ h tk, s' = { s₁ with heap := h, toks := tk } ∧
          (∃ m vs, h.Ns L m ∧ m "points" = some (.ref p) ∧ m "i" = some (.int i ti) ∧ m "ways" = some (.ref W) ∧ Keep s.heap h ∧ LS h W vs ∧ Prs h vs.toList ((zs.take (k + 1)).map (wayOf z0)) ∧ ∀ v ∈ vs.toList, v ≠ .ref W) ∧ KeepX [L, W] s₁.heap h) E' { s₁ with heap := h9, toks := tk9 } := by
      intro h9 aw tk9 x y t9 u9 k9 l9 nW e
      obtain ⟨n, yn⟩ := y8.keeps k9
      refine P_append (y8.keeps k9) hvs fun h10 l10 s10 => ⟨h10, tk9, rfl, ⟨_, vs.push (.ref aw), (hn8.keeps k9).sameBut s10 (Ne.symm hWL), x2, x3, x4, ?_, l10, ?_, ?_⟩, ?_⟩
      · exact fun b o e => (s10.2 b (lt_ne (Heap.lt_size e) hWs)).trans ((k8.trans k9) b o e)
      · have e1 : zs.take (k + 1) = zs.take k ++ [z] := by rw [List.take_add_one, hzk]; rfl
        rw [e1, List.map_append, Array.toList_push]
        have e2 : [z].map (wayOf z0) = [(x, y)] := by rw [e]; rfl
        rw [e2]
        refine Prs.snoc ((q8.keeps k9).map fun a ws hm e => e.ne s10 fun q => ?_) (l9.ne s10 nW)
        exact x8 _ hm (by rw [q])
      · intro v hv
        rw [Array.toList_push] at hv
        rcases List.mem_append.mp hv with hv | hv
        · exact x8 v hv
        · rw [List.mem_singleton.mp hv]; intro q; exact nW (Value.ref.inj q)
      · exact (XX.trans (k9.x _)).trans (keepX_same s10 (.tail _ (.head _)))
    refine wpAny_execs_cons (wpAny_Expr (wpAny_Call_append rfl rfl rfl rfl (nL hn8 x4 ⟨W, vs, rfl, y8.plain, ?_⟩)))
    refine IfExp_ (wpAny_isTrue_Compare1 (Subscript_ (nL hn8 rfl (wpAny_Constant_int (item l8 (by decide) rfl (wpAny_Constant_int (ge_int (wpAny_truthy_bool ?_))) z2)))))
    have fin' : ∀ h9 aw tk9 x y t9 u9, Keep h8 h9 → LS h9 aw #[.int x t9, .int y u9] → aw ≠ W → (x, y) = wayOf z0 z →
        wpAny (model prog w) (A.deeper (envX "_law_ways" (fScope (stm 11)) L f cdv [])) (call (.builtin "list.append") [.ref W, .ref aw]) (fun v s' => match v with | .ref _ => False | _ => (wpAny (model prog w) (A.deeper (envX "_law_ways" (fScope (stm 11)) L f cdv [])) (execs [] (envX "_law_ways" (fScope (stm 11)) L f cdv [])) (fun f s' => f = .next ∧ ∃ h tk, s' = { s₁ with heap := h, toks := tk } ∧
          (∃ m vs, h.Ns L m ∧ m "points" = some (.ref p) ∧ m "i" = some (.int i ti) ∧ m "ways" = some (.ref W) ∧ Keep s.heap h ∧ LS h W vs ∧ Prs h vs.toList ((zs.take (k + 1)).map (wayOf z0)) ∧ ∀ v ∈ vs.toList, v ≠ .ref W) ∧ KeepX [L, W] s₁.heap h) E' s')) E' { s₁ with heap := h9, toks := tk9 } := by
      intro h9 aw tk9 x y t9 u9 k9 l9 nW e
      refine wpAny_mono (fin h9 aw tk9 x y t9 u9 k9 l9 nW e) (fun v s' hv => ?_) fun _ _ e => e
      cases v <;> first | exact hv | exact wpAny_execs_nil ⟨rfl, hv⟩
    by_cases hc : (0 : Int) ≤ z.1 - z0.1
    · simp only [hc, decide_true, if_true]
      exact nL hn8 rfl (fin' _ _ _ _ _ _ _ (Keep.refl _) l8 a7W (by unfold wayOf; rw [if_pos hc]))
    · simp only [hc, decide_false, if_false, Bool.false_eq_true]
      refine lst (spliced_more (UnaryOp_ (Subscript_ (nL hn8 rfl (wpAny_Constant_int (item l8 (by decide) rfl (neg_int ?_) z2))))))
      refine spliced_more (UnaryOp_ (Subscript_ (nL hn8 rfl (wpAny_Constant_int (item l8 (by decide) rfl (neg_int (spliced_none ⟨Nat.le_of_ble_eq_true rfl, fun h9 a9 k9 l9 g9 => ?_⟩)) z2)))))
      refine fin' _ _ _ _ _ _ _ k9 l9 (fun q => ?_) (by unfold wayOf; rw [if_neg hc])
      exact absurd y8.lt (Nat.not_lt.mpr (q ▸ g9))
  · rintro h' tk ⟨m, vs, x1, x2, x3, x4, x5, x6, x7, x8⟩ hX
    refine wpAny_execs_cons (wpAny_Return_some (nL x1 x4 ?_))
    have e : zs.take vp.size = zs := List.take_of_length_le (by have := hpr.length; rw [Array.length_toList] at this; omega)
    rw [e] at x7
    exact h _ _ _ x5 ⟨vs, x6, x7⟩ hWs
end

section
variable {prog : Program} {w : World} {A : Around} {E : Value → Shared → Prop} {s : Shared} {Q : Value → Shared → Prop} {env : Env} {g₀ : Heap} {mg mb : Str → Option Value}

/-- what `sorted` of the list d gives, in every heap over h and every place deeper by one -/
def SortsTo (prog : Program) (w : World) (A : Around) (h : Heap) (d : Addr) (R : Array Value → Prop) : Prop :=
  ∀ (A' : Around) (s' : Shared) (Q' : Value → Shared → Prop) (E' : Value → Shared → Prop), A'.depth = A.depth + 1 → A'.units = A.units + 3 → A'.handled = A.handled → Keep h s'.heap →
    (∀ h' tk a out, R out → Keep s'.heap h' → LS h' a out → s'.heap.objs.size ≤ a → Q' (.ref a) { s' with heap := h', toks := tk }) → wpAny (model prog w) A' (call (.builtin "sorted") [.ref d]) Q' E' s'

theorem half1 {n : Nat} (h : 0 < n) : (n - 1) / 2 < n := by omega
theorem half0 {n : Nat} (h : 0 < n) : n / 2 < n := by omega
theorem sz63 {n : Nat} (h : n ≤ 1000) : (n : Int) < 2 ^ 63 := by omega
theorem ne0 {n : Nat} (h : 0 < n) : ((n : Int) == 0) = false := beq_eq_false_iff_ne.mpr (by omega)
theorem fm2 (n : Nat) : (n : Int).fmod 2 = ((n % 2 : Nat) : Int) := by rw [Int.fmod_eq_emod_of_nonneg _ (by decide)]; omega
theorem odd_ix {n : Nat} (h : n % 2 = 1) : n / 2 = (n - 1) / 2 := by omega
theorem ev_of {n : Nat} (h : ¬ n % 2 = 1) : n % 2 = 0 := by omega
theorem ev_nn {n : Nat} (h : 0 < n) (he : n % 2 = 0) : 0 ≤ (n : Int).fdiv 2 - 1 := by rw [Int.fdiv_eq_ediv_of_nonneg _ (by decide)]; omega
theorem ev_ix {n : Nat} (h : 0 < n) (he : n % 2 = 0) : ((n : Int).fdiv 2 - 1).toNat = (n - 1) / 2 := by rw [Int.fdiv_eq_ediv_of_nonneg _ (by decide)]; omega
theorem fd_nn (n : Nat) : 0 ≤ (n : Int).fdiv 2 := Int.fdiv_nonneg (Int.natCast_nonneg _) (by decide)
theorem toNat_half (n : Nat) : ((n : Int).fdiv 2).toNat = n / 2 := by
  rw [Int.fdiv_eq_ediv_of_nonneg _ (by decide)]; omega

theorem c_medlow (G : Glo g₀ mg mb) (k0 : Keep g₀ s.heap) {f d : Addr} {cdv : Value} {R : Array Value → Prop} {N : Nat} (hf : FnAt s.heap f 6 "median_low" cdv) (hS : mg "sorted" = none) (hLn : mg "len" = none) (hroom : A.depth < recursionLimit)
    (hs : SortsTo prog w A s.heap d R) (hN : ∀ out, R out → out.size = N) (hzN : N ≤ 1000) (hpN : 0 < N)
    (h : ∀ h' tk out v, R out → out[(N - 1) / 2]? = some v → Keep s.heap h' → Q v { s with heap := h', toks := tk }) : wpAny (model prog w) A (call (.ref f) [.ref d]) Q E s := by
  obtain ⟨o, pm, doc, ct, ho, hd, hcd⟩ := hf
  refine call_fn (binds := [("data", .ref d)]) ho hd (G.lim.keeps k0) hcd hroom (BindsTo.of_eq rfl) (locs rfl) (by decide) fun L h₁ hL hn hk => ?_
  have hL' : s.heap.objs.size ≤ L := Nat.le_of_eq hL
  refine wpAny_execs_cons (wpAny_Assign_Name (Call_ (nB G (k0.trans hk) hS boot_sorted (cwB (spliced_more (nL hn rfl (spliced_none (hs _ _ _ _ rfl rfl rfl hk fun h2 tk2 a2 out hR k2 l2 g2 => ?_))))))))
  obtain ⟨v, hv⟩ : ∃ v, out[(N - 1) / 2]? = some v := ⟨_, Array.getElem?_eq_getElem (by rw [hN out hR]; exact half1 hpN)⟩
  have hz : out.size ≤ 1000 := by rw [hN out hR]; exact hzN
  have hpos : 0 < out.size := by rw [hN out hR]; exact hpN
  have hq := fun h' tk => h h' tk out v hR hv
  rw [← hN out hR] at hv
  refine stL (hn.keeps k2) fun h3 hn3 s3 => ?_
  have k3 := keepL (hk.trans k2) s3 hL'
  have l3 := l2.same (hn.keeps k2) s3
  refine wpAny_execs_cons (wpAny_Assign_Name (Call_ (nB G (k0.trans k3) hLn boot_len (cwB (spliced_more (nL hn3 rfl (spliced_none (call_len_list l3.isList (sz63 hz) ?_))))))))
  refine stL hn3 fun h4 hn4 s4 => ?_
  have k4 := keepL k3 s4 hL'
  have l4 := l3.same hn3 s4
  refine wpAny_execs_cons (wpAny_If (wpAny_isTrue_Compare1 (nL hn4 rfl (wpAny_Constant_int (eq_int (wpAny_truthy_bool ?_))))))
  rw [show ((out.size : Int) == 0) = false from ne0 hpos]
  simp only [Bool.false_eq_true, if_false]
  refine wpAny_execs_nil ?_
  refine wpAny_execs_cons (wpAny_If (wpAny_isTrue_Compare1 (wpAny_BinOp (nL hn4 rfl (wpAny_Constant_int (mod_int' (by decide) (wpAny_Constant_int (eq_int (wpAny_truthy_bool ?_)))))))))
  have h2 : ((out.size : Int).fmod 2) = ((out.size % 2 : Nat) : Int) := fm2 _
  rw [h2]
  by_cases hodd : out.size % 2 = 1
  · rw [hodd]
    simp only [show (((1 : Nat) : Int) == 1) = true from rfl, if_true]
    refine wpAny_execs_cons (wpAny_Return_some (Subscript_ (nL hn4 rfl (wpAny_BinOp (nL hn4 rfl (wpAny_Constant_int (floordiv_int (by decide) (item l4 ?_ ?_ (hq _ _ k4) hz))))))))
    · exact fd_nn _
    · rw [toNat_half, odd_ix hodd]; exact hv
  · have he : out.size % 2 = 0 := ev_of hodd
    rw [he]
    simp only [show (((0 : Nat) : Int) == 1) = false from rfl, Bool.false_eq_true, if_false]
    refine wpAny_execs_cons (wpAny_Return_some (Subscript_ (nL hn4 rfl (wpAny_BinOp (wpAny_BinOp (nL hn4 rfl (wpAny_Constant_int (floordiv_int (by decide) (wpAny_Constant_int (sub_int (item l4 ?_ ?_ (hq _ _ k4) hz)))))))))))
    · exact ev_nn hpos he
    · rw [ev_ix hpos he]; exact hv

theorem c_medhigh (G : Glo g₀ mg mb) (k0 : Keep g₀ s.heap) {f d : Addr} {cdv : Value} {R : Array Value → Prop} {N : Nat} (hf : FnAt s.heap f 7 "median_high" cdv) (hS : mg "sorted" = none) (hLn : mg "len" = none) (hroom : A.depth < recursionLimit)
    (hs : SortsTo prog w A s.heap d R) (hN : ∀ out, R out → out.size = N) (hzN : N ≤ 1000) (hpN : 0 < N)
    (h : ∀ h' tk out v, R out → out[N / 2]? = some v → Keep s.heap h' → Q v { s with heap := h', toks := tk }) : wpAny (model prog w) A (call (.ref f) [.ref d]) Q E s := by
  obtain ⟨o, pm, doc, ct, ho, hd, hcd⟩ := hf
  refine call_fn (binds := [("data", .ref d)]) ho hd (G.lim.keeps k0) hcd hroom (BindsTo.of_eq rfl) (locs rfl) (by decide) fun L h₁ hL hn hk => ?_
  have hL' : s.heap.objs.size ≤ L := Nat.le_of_eq hL
  refine wpAny_execs_cons (wpAny_Assign_Name (Call_ (nB G (k0.trans hk) hS boot_sorted (cwB (spliced_more (nL hn rfl (spliced_none (hs _ _ _ _ rfl rfl rfl hk fun h2 tk2 a2 out hR k2 l2 g2 => ?_))))))))
  obtain ⟨v, hv⟩ : ∃ v, out[N / 2]? = some v := ⟨_, Array.getElem?_eq_getElem (by rw [hN out hR]; exact half0 hpN)⟩
  have hz : out.size ≤ 1000 := by rw [hN out hR]; exact hzN
  have hpos : 0 < out.size := by rw [hN out hR]; exact hpN
  have hq := fun h' tk => h h' tk out v hR hv
  rw [← hN out hR] at hv
  refine stL (hn.keeps k2) fun h3 hn3 s3 => ?_
  have k3 := keepL (hk.trans k2) s3 hL'
  have l3 := l2.same (hn.keeps k2) s3
  refine wpAny_execs_cons (wpAny_Assign_Name (Call_ (nB G (k0.trans k3) hLn boot_len (cwB (spliced_more (nL hn3 rfl (spliced_none (call_len_list l3.isList (sz63 hz) ?_))))))))
  refine stL hn3 fun h4 hn4 s4 => ?_
  have k4 := keepL k3 s4 hL'
  have l4 := l3.same hn3 s4
  refine wpAny_execs_cons (wpAny_If (wpAny_isTrue_Compare1 (nL hn4 rfl (wpAny_Constant_int (eq_int (wpAny_truthy_bool ?_))))))
  rw [show ((out.size : Int) == 0) = false from ne0 hpos]
  simp only [Bool.false_eq_true, if_false]
  refine wpAny_execs_nil ?_
  refine wpAny_execs_cons (wpAny_Return_some (Subscript_ (nL hn4 rfl (wpAny_BinOp (nL hn4 rfl (wpAny_Constant_int (floordiv_int (by decide) (item l4 ?_ ?_ (hq _ _ k4) hz))))))))
  · exact fd_nn _
  · rw [toNat_half, ← hv]

/-! ints -/
def ins (x : Int) : List Int → List Int
  | [] => [x]
  | y :: ys => if x ≤ y then x :: y :: ys else y :: ins x ys
def isort : List Int → List Int
  | [] => []
  | x :: xs => ins x (isort xs)
theorem ins_perm (x : Int) : ∀ ys, (ins x ys).Perm (x :: ys)
  | [] => List.Perm.refl _
  | y :: ys => by
    unfold ins; split
    · exact List.Perm.refl _
    · exact ((ins_perm x ys).cons y).trans (List.Perm.swap x y ys)
theorem isort_perm : ∀ xs, (isort xs).Perm xs
  | [] => List.Perm.refl _
  | x :: xs => (ins_perm x _).trans ((isort_perm xs).cons x)
theorem ins_sorted (x : Int) : ∀ ys, ys.Pairwise (· ≤ ·) → (ins x ys).Pairwise (· ≤ ·)
  | [], _ => by simp [ins]
  | y :: ys, h => by
    obtain ⟨h1, h2⟩ := List.pairwise_cons.mp h
    unfold ins; split
    · rename_i hxy
      exact List.pairwise_cons.mpr ⟨fun z hz => by rcases List.mem_cons.mp hz with rfl | hz; exact hxy; exact Int.le_trans hxy (h1 z hz), h⟩
    · rename_i hxy
      refine List.pairwise_cons.mpr ⟨fun z hz => ?_, ins_sorted x ys h2⟩
      rcases List.mem_cons.mp ((ins_perm x ys).mem_iff.mp hz) with rfl | hz
      · omega
      · exact h1 z hz
theorem isort_sorted : ∀ xs, (isort xs).Pairwise (· ≤ ·)
  | [] => List.Pairwise.nil
  | x :: xs => ins_sorted x _ (isort_sorted xs)
theorem isort_uniq {xs ys : List Int} (hp : ys.Perm xs) (hs : ys.Pairwise (· ≤ ·)) : ys = isort xs :=
  List.Perm.eq_of_pairwise (fun a b _ _ h1 h2 => Int.le_antisymm h1 h2) hs (isort_sorted xs) (hp.trans (isort_perm xs).symm)

theorem sorts_ints {A : Around} {h : Heap} {d : Addr} {ns : List Int} (hd : IL h d ns) (h64 : ns.length < 64) : SortsTo prog w A h d (fun out => IntsAre out.toList (isort ns)) := by
  intro A' s' Q' E' _ _ _ hk k
  obtain ⟨vs, hl, hi⟩ := hd
  have hlen := hi.length
  refine sorted_ints (vs := vs.toList) (ns := ns) (by rw [Array.toArray_toList]; exact (hl.keeps hk).isList) hi (by omega) fun out ns' a1 a2 a3 => ?_
  obtain rfl := isort_uniq a2 a3
  refine k _ _ _ out a1 ?_ ?_ (Nat.le_succ _)
  · exact fun _ _ => sortedAll_old
  · exact sortedAll_at _ _ _
end

/-- all but records without a class (the code tables) is kept -/
abbrev KeepN (h h' : Heap) : Prop := ∀ b o, h.get? b = some o → o.cls ≠ .none → h'.get? b = some o
theorem Keep.n {h h' : Heap} (k : Keep h h') : KeepN h h' := fun b o e _ => k b o e
theorem KeepN.trans {a b c : Heap} (x : KeepN a b) (y : KeepN b c) : KeepN a c := fun _ _ e n => y _ _ (x _ _ e n) n
theorem ext_n {h h' : Heap} {P : Addr} {ps : Array Value} (hP : h.get? P = some (tabObj ps)) (he : Heap.ExtBut P h h') : KeepN h h' :=
  fun b o e n => he b o (fun q => by rw [q, hP] at e; cases e; exact n rfl) e
theorem LS.n {h h' : Heap} {a : Addr} {vs : Array Value} (x : LS h a vs) (k : KeepN h h') : LS h' a vs := let ⟨n, e⟩ := x; ⟨n, k _ _ e (by intro z; cases z)⟩
theorem IL.n {h h' : Heap} {a : Addr} {ns : List Int} (x : IL h a ns) (k : KeepN h h') : IL h' a ns := let ⟨vs, e, i⟩ := x; ⟨vs, e.n k, i⟩
theorem PT.n {h h' : Heap} {p : Addr} {zs : List (Int × Int)} (x : PT h p zs) (k : KeepN h h') : PT h' p zs := let ⟨vs, a, b⟩ := x; ⟨vs, a.n k, b.map fun _ _ _ e => e.n k⟩

theorem among_snoc {pos : Pos} {a b : Int} {c : Value} (l : List Value) (h : TriplesOk l) :
    codeAmong pos (l ++ [rawInt a, rawInt b, c]) = (codeAmong pos l).or (if a == pos.line && b == pos.col then some c else none) := by
  fun_induction TriplesOk l with
  | case1 => simp [codeAmong, rawInt]
  | case2 a' t b' u x rest ih =>
    simp only [List.cons_append, codeAmong]
    split
    · rfl
    · exact ih h
  | case3 => exact h.elim

theorem triples_one {l : List Value} {q : Str} {t : Tok} (h : TriplesOk l) (e : l[1]? = some (.str q t)) : False := by
  match l, h with
  | [], _ => simp at e
  | [.int _ _, .int _ _, _], _ => simp at e
  | .int _ _ :: .int _ _ :: _ :: _ :: _, _ => simp at e
/-- the table at P bears, for each place wanted, a code of the name wanted, or none -/
def TabB (h : Heap) (P : Addr) (want : List (Pos × Str)) : Prop :=
  ∃ ps, h.get? P = some (tabObj ps) ∧ TriplesOk ps.toList ∧ ∀ x ∈ want, ∀ cv, codeAmong x.1 ps.toList = some cv → ∃ c, cv = .ref c ∧ h.CodeRec (.ref c) x.2
def apart (want : List (Pos × Str)) : Bool := want.all fun x => want.all fun y => x.1.line != y.1.line || x.1.col != y.1.col || x.2 == y.2
theorem codeRec_ext {h h' : Heap} {P : Addr} {ps : Array Value} {c : Addr} {q : Str} (hc : h.CodeRec (.ref c) q) (hP : h.get? P = some (tabObj ps)) (hne : c ≠ P) (he : Heap.ExtBut P h h') : h'.CodeRec (.ref c) q :=
  let ⟨c', o, vs, t, e, g, r⟩ := hc; ⟨c', o, vs, t, e, he _ _ (by cases e; exact hne) g, r⟩
theorem TabB.keeps {h h' : Heap} {P : Addr} {want : List (Pos × Str)} (x : TabB h P want) (k : Keep h h') : TabB h' P want :=
  let ⟨ps, a, b, c⟩ := x; ⟨ps, k _ _ a, b, fun x hx cv e => let ⟨c', e1, e2⟩ := c x hx cv e; ⟨c', e1, e2.keeps k⟩⟩

section
variable {M : Model} {A : Around} {E : Value → Shared → Prop} {s : Shared} {Q : Value → Shared → Prop} {env : Env} {g₀ : Heap} {mg mb : Str → Option Value}

theorem builtinsAt (G : Glo g₀ mg mb) {h : Heap} (k0 : Keep g₀ h) {P : Addr} {ps : Array Value} (hP : h.get? P = some (tabObj ps)) : h.BuiltinsAt mg P ∧ mainGlobals ≠ P := by
  obtain ⟨bm, ob, b1, b2, b3, b4, b5, b6⟩ := G.bmain
  have hbP : bm ≠ P := fun q => by
    have e := k0 _ _ b3
    rw [q, hP] at e; cases e; cases b4
  have hbG : bm ≠ mainGlobals := fun q => by
    obtain ⟨o, es, ep, e, hd, _⟩ := G.g
    rw [q, e] at b3; cases b3; rw [hd] at b6; cases b6
  refine ⟨⟨bm, ob, b1, b2, hbG, hbP, k0 _ _ b3, b4, b5, b6⟩, fun q => ?_⟩
  obtain ⟨o, es, ep, e, hd, _⟩ := G.g.keeps k0
  rw [q, hP] at e; cases e; cases hd

theorem mkDef (G : Glo g₀ mg mb) (k0 : Keep g₀ s.heap) {c P : Addr} {want : List (Pos × Str)} {name qual : Str} {params : Arguments} {body : List Stmt} {scope : Scope} {clos : List (Str × Addr)} {pos : Pos} {firstLine : Nat}
    (T : TabB s.heap P want) (C : CodeHd s.heap c P) (hcode : env.code = .ref c) (hge : env.globals = mainGlobals) (hcl : closureFor scope env = pure clos) (hx : (pos, qual) ∈ want) (hap : apart want = true)
    (h : ∀ h' tk f c' ctv doc, Heap.ExtBut P s.heap h' → TabB h' P want → h'.get? f = some (fnMade name qual params body scope clos doc ((mg "__name__").getD .none) c' ctv) → h'.CodeRec (.ref c') qual → s.heap.objs.size ≤ f → CodeHd h' c P →
      Q (.ref f) { s with heap := h', toks := tk }) :
    wpAny M A (makeFunction name qual params (.stmts body) scope env [] [] [] pos firstLine) Q E s := by
  obtain ⟨ps, hP, ht, hw⟩ := T
  obtain ⟨hB, hgP⟩ := builtinsAt G k0 hP
  have hPl : P < s.heap.objs.size := Heap.lt_size hP
  cases hf : codeAmong pos ps.toList with
  | some cv =>
    obtain ⟨c', rfl, hr⟩ := hw _ hx cv hf
    refine makeFunction_hit hcl hge (G.g.keeps k0) hcode C hP ht hf hB fun ctv doc h' tk hk hsz => ?_
    have k : Keep s.heap (h'.push (fnMade name qual params body scope clos doc ((mg "__name__").getD .none) c' ctv)) := fun b o e => Heap.get?_push_of_some _ (hk b o e)
    exact h _ _ _ c' ctv doc (fun b o _ e => k b o e) (TabB.keeps ⟨ps, hP, ht, hw⟩ k) (Heap.get?_push_size _ rfl) (hr.keeps k) hsz (C.keeps k)
  | none =>
    refine makeFunction_K hcl hge (G.g.keeps k0) hcode C hP ht hf hgP hB fun c' ctv doc h' tk hx' hgc hlt hrec htb => ?_
    have hcP : c' ≠ P := Ne.symm (lt_ne hPl hgc)
    have k : Keep h' (h'.push (fnMade name qual params body scope clos doc ((mg "__name__").getD .none) c' ctv)) := keep_push _ _
    refine h _ _ _ c' ctv doc (fun b o nb e => k _ _ (hx' b o nb e)) ?_ (Heap.get?_push_size _ rfl) (hrec.keeps k) (Nat.le_trans hgc (Nat.le_of_lt hlt)) ?_
    · refine TabB.keeps ⟨_, htb, ?_, ?_⟩ k
      · rw [Array.toList_append]; exact TriplesOk_snoc _ _ _ _ ht
      · intro x hxw cv e
        rw [Array.toList_append, among_snoc _ ht] at e
        cases e1 : codeAmong x.1 ps.toList with
        | some v =>
          rw [e1] at e
          simp only [Option.some_or, Option.some.injEq] at e
          subst e
          obtain ⟨c2, rfl, r2⟩ := hw x hxw _ e1
          refine ⟨c2, rfl, codeRec_ext r2 hP (fun q => ?_) hx'⟩
          obtain ⟨c3, o3, vs3, t3, z1, z2, z3, z4⟩ := r2
          cases z1
          rw [q, hP] at z2; cases z2; cases z3
          rw [← Array.getElem?_toList] at z4
          exact triples_one ht z4
        | none =>
          rw [e1] at e
          simp only [Option.none_or] at e
          split at e
          · rename_i hq
            cases e
            refine ⟨c', rfl, ?_⟩
            have := List.all_eq_true.mp (List.all_eq_true.mp hap _ hx) _ hxw
            simp only [Bool.and_eq_true, beq_iff_eq] at hq
            have e2 : qual = x.2 := by
              simp only [Bool.or_eq_true, bne_iff_ne, ne_eq, beq_iff_eq] at this
              rcases this with (h1 | h1) | h1
              · exact absurd (by have := hq.1; omega) h1
              · exact absurd (by have := hq.2; omega) h1
              · exact h1
            rw [← e2]; exact hrec
          · cases e
    · exact CodeHd.keeps (let ⟨o, vs, file, tf, flags, tg, inF, text, tt, e, r⟩ := C; ⟨o, vs, file, tf, flags, tg, inF, text, tt, hx' _ _ (by obtain ⟨_, _, _, _, _, _, _, _, hne⟩ := r; exact hne) e, r⟩) k
end

/-! a dict by its names -/
inductive Kd : List DictEntry → List (Str × Value) → Prop
  | nil : Kd [] []
  | cons {hsh : Int} {k : Str} {t : Tok} {v : Value} {es kvs} : Kd es kvs → Kd (⟨hsh, .str k t, v⟩ :: es) ((k, v) :: kvs)
def Dct (h : Heap) (a : Addr) (kvs : List (Str × Value)) : Prop := ∃ es n, h.get? a = some (dictOf es n) ∧ Kd es kvs
def put (k : Str) (v : Value) : List (Str × Value) → List (Str × Value)
  | [] => [(k, v)]
  | (k', v') :: r => if k' == k then (k', v) :: r else (k', v') :: put k v r
def dropK (k : Str) : List (Str × Value) → List (Str × Value)
  | [] => []
  | (k', v') :: r => if k' == k then r else (k', v') :: dropK k r
theorem Kd.getL {es : List DictEntry} {kvs : List (Str × Value)} (x : Kd es kvs) (k : Str) : getL k es = some (kvs.lookup k) := by
  have refs : es.any (·.refKey) = false := by
    induction x with
    | nil => rfl
    | cons _ ih => simp only [List.any_cons, ih, Bool.or_false]; rfl
  unfold W.getL
  have : ∀ {es kvs}, Kd es kvs → (es.find? (·.key.isStr k)).map (·.val) = kvs.lookup k := by
    intro es kvs x
    induction x with
    | nil => rfl
    | @cons hsh k' t v es kvs _ ih =>
      simp only [List.find?_cons, List.lookup_cons, Value.isStr]
      by_cases e : k' = k
      · subst e; simp
      · have e1 : (k' == k) = false := by simpa using e
        have e2 : (k == k') = false := by simpa using fun q : k = k' => e q.symm
        rw [e1, e2]; exact ih
  have h := this x
  cases e : es.find? (·.key.isStr k) with
  | some en => rw [e] at h; simp only [Option.map_some] at h; rw [← h]
  | none => rw [e] at h; simp only [Option.map_none] at h; rw [← h, refs]; rfl
theorem Kd.put {es : List DictEntry} {kvs : List (Str × Value)} (x : Kd es kvs) (k : Str) (hsh : Int) (t : Tok) (v : Value) : Kd (putL k hsh (.str k t) v es) (put k v kvs) := by
  induction x with
  | nil => exact .cons .nil
  | @cons hsh' k' t' v' es kvs y ih =>
    have e1 : putL k hsh (.str k t) v (⟨hsh', .str k' t', v'⟩ :: es) = if (k' == k) = true then ⟨hsh', .str k' t', v⟩ :: es else ⟨hsh', .str k' t', v'⟩ :: putL k hsh (.str k t) v es := rfl
    rw [e1]
    unfold Mine.put
    by_cases e : (k' == k) = true
    · rw [if_pos e, if_pos e]; exact .cons y
    · rw [if_neg e, if_neg e]; exact .cons ih
theorem Dct.keeps {h h' : Heap} {a : Addr} {kvs : List (Str × Value)} (x : Dct h a kvs) (k : Keep h h') : Dct h' a kvs := let ⟨es, n, e, d⟩ := x; ⟨es, n, k _ _ e, d⟩
theorem Dct.ns {h : Heap} {a : Addr} {kvs : List (Str × Value)} (x : Dct h a kvs) : ∃ m, h.Ns a m := by
  obtain ⟨es, n, e, d⟩ := x
  refine ⟨_, _, es.toArray, n, e, rfl, ?_, fun _ => rfl⟩
  intro en hm
  have hm' : en ∈ es := by simpa using hm
  clear e hm
  induction d with
  | nil => simp at hm'
  | cons _ ih => rcases List.mem_cons.mp hm' with rfl | hm'; exact ⟨_, _, rfl⟩; exact ih hm'

section
variable {M : Model} {A : Around} {E : Value → Shared → Prop} {s : Shared} {env : Env} {a : Addr} {kvs : List (Str × Value)} {k : Str} {v : Value}
theorem d_look {h : Heap} (x : Dct h a kvs) (k : Str) : Looks M h (nsGet a k) (kvs.lookup k) := by
  obtain ⟨es, n, e, d⟩ := x
  intro A Q E s kk q
  refine wpAny_bind (wpAny_loadPart (kk _ _ e) ?_)
  rw [nsLook_of (r := kvs.lookup k) (by rw [lookIn_dict, d.getL])]
  exact wpAny_pure q
theorem d_get {Q : Option Value → Shared → Prop} (x : Dct s.heap a kvs) (h : Q (kvs.lookup k) s) : wpAny M A (nsGet a k) Q E s := (d_look x k).here h
theorem kd_ref {es : List DictEntry} (d : Kd es kvs) : es.any (·.refKey) = false := by
  induction d with
  | nil => rfl
  | cons _ ih => simp only [List.any_cons, ih, Bool.or_false]; rfl
theorem put_at {h : Heap} {es : List DictEntry} {n : Nat} (e : h.get? a = some (dictOf es n)) (hsh : Int) (t : Tok) :
    (h.update a (Obj.putName k hsh (.str k t) v)).get? a = some (dictOf (putL k hsh (.str k t) v es) (putN k es n)) := by
  have := Heap.get?_update_self (Obj.putName k hsh (.str k t) v) e (by rw [putName_dict]; rfl)
  rw [putName_dict] at this
  exact this
theorem d_set {Q : Unit → Shared → Prop} (x : Dct s.heap a kvs)
    (h : ∀ h', Dct h' a (put k v kvs) → Heap.SameBut a s.heap h' → Q () { s with heap := h', toks := s.toks + 1 }) : wpAny M A (nsSet a k v) Q E s := by
  obtain ⟨es, n, e, d⟩ := x
  unfold nsSet
  refine wpAny_bind (wpAny_bind (wpAny_askSetting (wpAny_pure (wpAny_bind (wpAny_mkText (wpAny_bind (wpAny_loadPart e ?_)))))))
  dsimp only
  have hr : es.toArray.any (fun x => x.refKey) = false := by rw [← kd_ref d]; simp
  rw [aRefKeyMayBeTheName_at, hr, Bool.and_false]
  simp only [Bool.false_eq_true, if_false]
  exact wpAny_updatePart e (h _ ⟨_, _, put_at e _ _, d.put k _ _ v⟩ (Heap.SameBut.update ..))

/-- a store in a class's block -/
theorem stK {Q : Unit → Shared → Prop} (x : Dct s.heap env.locals kvs) (hs : storeName env k v = localSet env k v)
    (h : ∀ h', Dct h' env.locals (put k v kvs) → Heap.SameBut env.locals s.heap h' → Q () { s with heap := h', toks := s.toks + 1 }) : wpAny M A (storeName env k v) Q E s := by
  rw [hs]
  unfold localSet
  obtain ⟨es, n, e, d⟩ := id x
  refine wpAny_bind (wpAny_load e ?_)
  rw [if_pos (show (Value.type "dict" == Value.type "dict") = true from by simp)]
  exact d_set x h
end

def clsStmt : Stmt := (fBody (stm 1)).headD (.Pass default)
def cBody : Stmt → List Stmt
  | .ClassDef _ _ _ b _ _ _ _ _ _ _ => b
  | _ => []
def cScope : Stmt → Scope
  | .ClassDef _ _ _ _ _ _ sc _ _ _ _ => sc
  | _ => default
def cPos : Stmt → Pos
  | .ClassDef _ _ _ _ _ _ _ _ _ _ p => p
  | _ => default
def qK : Str := ("cmp_to_key" : Str) ++ (".<locals>." : Str) ++ ("K" : Str)
def wantC : List (Pos × Str) := (cBody clsStmt).filterMap fun
  | .FunctionDef nm _ _ _ _ _ _ _ _ pos => some (pos, qK ++ ("." : Str) ++ nm)
  | _ => none
theorem wantC_apart : apart wantC = true := by decide +kernel

/-- the block's own environment -/
abbrev cEnv (nsA c fr cm : Addr) : Env := { scope := cScope clsStmt, locals := nsA, globals := mainGlobals, qual := qK ++ ("." : Str), code := .ref c, frame := some fr, builtins := builtinsNs, cells := [("mycmp", cm)] }

structure CB (g₀ h : Heap) (nsA c Pc : Addr) (kvs : List (Str × Value)) : Prop where
  kg : Keep g₀ h
  d : Dct h nsA kvs
  t : TabB h Pc wantC
  hd : CodeHd h c Pc

/-- a def made in the block -/
def FnO (h : Heap) (f : Addr) (nm : Str) (k : Nat) (clos : List (Str × Addr)) : Prop :=
  ∃ doc pm c' ctv, h.get? f = some (fnMade nm (qK ++ ("." : Str) ++ nm) (fArgs ((cBody clsStmt).getD k (.Pass default))) (fBody ((cBody clsStmt).getD k (.Pass default))) (fScope ((cBody clsStmt).getD k (.Pass default))) clos doc pm c' ctv) ∧ h.CodeRec (.ref c') (qK ++ ("." : Str) ++ nm)
theorem keepX_code {h h' : Heap} {nsA Pc c : Addr} {kvs : List (Str × Value)} {q : Str} (d : Dct h nsA kvs) (t : TabB h Pc wantC) (x : KeepX [nsA, Pc] h h') (hc : h.CodeRec (.ref c) q) : h'.CodeRec (.ref c) q := by
  obtain ⟨c', o, vs, tk, e, g, dd, r⟩ := hc
  cases e
  refine ⟨c, o, vs, tk, rfl, x _ _ ?_ g, dd, r⟩
  obtain ⟨es, n, e1, _⟩ := d
  obtain ⟨ps, e2, e3, _⟩ := t
  simp only [List.mem_cons, List.not_mem_nil, or_false, not_or]
  refine ⟨fun q => ?_, fun q => ?_⟩
  · rw [q, e1] at g; cases g; cases dd
  · rw [q, e2] at g; cases g; cases dd
    rw [← Array.getElem?_toList] at r
    exact triples_one e3 r
theorem FnO.keepX {h h' : Heap} {nsA Pc f : Addr} {kvs : List (Str × Value)} {nm : Str} {k : Nat} {clos : List (Str × Addr)} (y : FnO h f nm k clos) (d : Dct h nsA kvs) (t : TabB h Pc wantC) (x : KeepX [nsA, Pc] h h') : FnO h' f nm k clos := by
  obtain ⟨doc, pm, c', ctv, e, hc⟩ := y
  refine ⟨doc, pm, c', ctv, x _ _ ?_ e, keepX_code d t x hc⟩
  obtain ⟨es, n, e1, _⟩ := d
  obtain ⟨ps, e2, e3, _⟩ := t
  simp only [List.mem_cons, List.not_mem_nil, or_false, not_or]
  refine ⟨fun q => ?_, fun q => ?_⟩
  · rw [q, e1] at e; have z := congrArg Obj.data (Option.some.inj e); cases z
  · rw [q, e2] at e; have z := congrArg Obj.data (Option.some.inj e); cases z
theorem FnO.keeps {h h' : Heap} {f : Addr} {nm : Str} {k : Nat} {clos : List (Str × Addr)} (y : FnO h f nm k clos) (x : Keep h h') : FnO h' f nm k clos :=
  let ⟨doc, pm, c', ctv, e, hc⟩ := y; ⟨doc, pm, c', ctv, x _ _ e, hc.keeps x⟩

section
variable {M : Model} {A : Around} {E : Value → Shared → Prop} {s : Shared} {g₀ : Heap} {mg mb : Str → Option Value} {nsA c Pc fr cm : Addr} {kvs : List (Str × Value)}

theorem cb_def (G : Glo g₀ mg mb) (B : CB g₀ s.heap nsA c Pc kvs) (hne : nsA ≠ Pc) (hg1 : g₀.get? nsA = none) (hg2 : g₀.get? Pc = none) {nm : Str} {params : Arguments} {body : List Stmt} {scope : Scope} {clos : List (Str × Addr)} {pos : Pos} {k : Nat} {Q : Flow → Shared → Prop}
    (hcl : closureFor scope (cEnv nsA c fr cm) = pure clos) (hk : (cBody clsStmt).getD k (.Pass default) = .FunctionDef nm params body [] none [] scope none nm pos)
    (hw : (pos, qK ++ ("." : Str) ++ nm) ∈ wantC) (hd0 : params.defaults = []) (hk0 : params.kw_defaults = []) (ha : annTrees params none (cEnv nsA c fr cm) = [])
    (hq : qualnameIn (cEnv nsA c fr cm) nm nm = qK ++ ("." : Str) ++ nm) (hs : ∀ v, storeName (cEnv nsA c fr cm) nm v = localSet (cEnv nsA c fr cm) nm v)
    (h : ∀ h' tk f, CB g₀ h' nsA c Pc (put nm (.ref f) kvs) → KeepX [nsA, Pc] s.heap h' → FnO h' f nm k clos → Q .next { s with heap := h', toks := tk }) :
    wpAny M A (exec (.FunctionDef nm params body [] none [] scope none nm pos) (cEnv nsA c fr cm)) Q E s := by
  refine nestDef_K hd0 hk0 ha ?_
  rw [hq]
  refine mkDef G B.kg B.t B.hd rfl rfl hcl hw wantC_apart fun h1 tk1 f c' ctv doc x1 t1 e1 r1 g1 C1 => ?_
  have kg1 : Keep g₀ h1 := fun b o e => x1 b o (fun q => by rw [q, hg2] at e; cases e) (B.kg b o e)
  have d1 : Dct h1 nsA kvs := by obtain ⟨es, n, e, d⟩ := B.d; exact ⟨es, n, x1 _ _ hne e, d⟩
  refine stK d1 (hs _) fun h2 d2 s2 => ?_
  have X2 : KeepX [nsA, Pc] h1 h2 := keepX_same s2 (.head _)
  have F1 : FnO h1 f nm k clos := ⟨doc, _, c', ctv, by rw [hk]; exact e1, r1⟩
  have t2 : TabB h2 Pc wantC := by
    obtain ⟨ps, a, b, cc⟩ := t1
    refine ⟨ps, (s2.2 Pc (Ne.symm hne)).trans a, b, fun x hx cv e => ?_⟩
    obtain ⟨c2, q1, q2⟩ := cc x hx cv e
    exact ⟨c2, q1, keepX_code d1 ⟨ps, a, b, cc⟩ X2 q2⟩
  have C2 : CodeHd h2 c Pc := by
    obtain ⟨o, vs, file, tf, flags, tg, inF, text, tt, e, r1, r2, r3⟩ := C1
    refine ⟨o, vs, file, tf, flags, tg, inF, text, tt, (s2.2 c fun q => ?_).trans e, r1, r2, r3⟩
    obtain ⟨es, n, e', _⟩ := d1
    rw [q, e'] at e; cases e; cases r2
  refine h h2 _ f ⟨fun b o e => (s2.2 b (fun q => by rw [q, hg1] at e; cases e)).trans (kg1 b o e), d2, t2, C2⟩ (fun b o nb e => X2 b o nb (x1 b o (fun q => nb (q ▸ .tail _ (.head _))) e)) (F1.keepX d1 t1 X2)

theorem CB.keep {h h' : Heap} (B : CB g₀ h nsA c Pc kvs) (k : Keep h h') : CB g₀ h' nsA c Pc kvs := ⟨B.kg.trans k, B.d.keeps k, B.t.keeps k, B.hd.keeps k⟩
theorem CB.store {h h' : Heap} {kvs' : List (Str × Value)} (B : CB g₀ h nsA c Pc kvs) (hne : nsA ≠ Pc) (hg1 : g₀.get? nsA = none) (d : Dct h' nsA kvs') (s2 : Heap.SameBut nsA h h') : CB g₀ h' nsA c Pc kvs' := by
  have X2 : KeepX [nsA, Pc] h h' := keepX_same s2 (.head _)
  refine ⟨fun b o e => (s2.2 b (fun q => by rw [q, hg1] at e; cases e)).trans (B.kg b o e), d, ?_, ?_⟩
  · obtain ⟨ps, a, b, cc⟩ := B.t
    refine ⟨ps, (s2.2 Pc (Ne.symm hne)).trans a, b, fun x hx cv e => ?_⟩
    obtain ⟨c2, q1, q2⟩ := cc x hx cv e
    exact ⟨c2, q1, keepX_code B.d ⟨ps, a, b, cc⟩ X2 q2⟩
  · obtain ⟨o, vs, file, tf, flags, tg, inF, text, tt, e, r1, r2, r3⟩ := B.hd
    refine ⟨o, vs, file, tf, flags, tg, inF, text, tt, (s2.2 c fun q => ?_).trans e, r1, r2, r3⟩
    obtain ⟨es, n, e', _⟩ := B.d
    rw [q, e'] at e; cases e; cases r2
theorem ls_x {h h' : Heap} {a : Addr} {vs : Array Value} (x : LS h a vs) (d : Dct h nsA kvs) (t : TabB h Pc wantC) (k : KeepX [nsA, Pc] h h') : LS h' a vs := by
  obtain ⟨n, e⟩ := x
  have e : h.get? a = some _ := e
  refine ⟨n, k _ _ ?_ e⟩
  obtain ⟨es, n, e1, _⟩ := d
  obtain ⟨ps, e2, e3, _⟩ := t
  simp only [List.mem_cons, List.not_mem_nil, or_false, not_or]
  refine ⟨fun q => ?_, fun q => ?_⟩
  · rw [q, e1] at e; have z := congrArg Obj.data (Option.some.inj e); cases z
  · rw [q, e2] at e; have z := congrArg Obj.data (Option.some.inj e); cases z
end

section
variable {prog : Program} {w : World} {A : Around} {E : Value → Shared → Prop} {s : Shared} {g₀ : Heap} {mg mb : Str → Option Value} {nsA c Pc fr cm : Addr}
theorem cb_body (G : Glo g₀ mg mb) {m0 q0 l0 : Value} (B : CB g₀ s.heap nsA c Pc [("__module__", m0), ("__qualname__", q0), ("__firstlineno__", l0)]) (hne : nsA ≠ Pc) (hg1 : g₀.get? nsA = none) (hg2 : g₀.get? Pc = none) {Q : Flow → Shared → Prop}
    (h : ∀ h' tk tm ts sl fI fL fG fE fe fg, CB g₀ h' nsA c Pc [("__module__", .str "cpy313.functools" tm), ("__qualname__", q0), ("__firstlineno__", l0), ("__slots__", .ref sl), ("__init__", .ref fI), ("__lt__", .ref fL), ("__gt__", .ref fG), ("__eq__", .ref fE), ("__le__", .ref fe), ("__ge__", .ref fg), ("__hash__", .none)] →
      KeepX [nsA, Pc] s.heap h' → LS h' sl #[.str "obj" ts] → FnO h' fI "__init__" 2 [] → FnO h' fL "__lt__" 3 [("mycmp", cm)] → FnO h' fG "__gt__" 4 [("mycmp", cm)] → FnO h' fE "__eq__" 5 [("mycmp", cm)] → FnO h' fe "__le__" 6 [("mycmp", cm)] → FnO h' fg "__ge__" 7 [("mycmp", cm)] →
      Q .next { s with heap := h', toks := tk }) :
    wpAny (model prog w) A (execs (cBody clsStmt) (cEnv nsA c fr cm)) Q E s := by
  refine wpAny_execs_cons (wpAny_Assign_Name (Constant_str (stK B.d rfl fun h1 d1 s1 => ?_)))
  have B1 := B.store hne hg1 d1 s1
  refine wpAny_execs_cons (wpAny_Assign_Name (lst (spliced_more (Constant_str (spliced_none ⟨Nat.le_of_ble_eq_true rfl, fun h2 sl k2 l2 g2 => ?_⟩)))))
  refine stK (B1.keep k2).d rfl fun h3 d3 s3 => ?_
  have B3 := (B1.keep k2).store hne hg1 d3 s3
  have l3 := ls_x l2 (B1.keep k2).d (B1.keep k2).t (keepX_same s3 (.head _))
  have X3 : KeepX [nsA, Pc] s.heap h3 := (keepX_same s1 (.head _)).trans ((k2.x _).trans (keepX_same s3 (.head _)))
  refine wpAny_execs_cons (cb_def G B3 hne hg1 hg2 (k := 2) (clos := []) rfl rfl (by decide +kernel) rfl rfl rfl rfl (fun _ => rfl) fun h4 tk4 f4 B4 X4 F4 => ?_)
  refine wpAny_execs_cons (cb_def G B4 hne hg1 hg2 (k := 3) (clos := [("mycmp", cm)]) rfl rfl (by decide +kernel) rfl rfl rfl rfl (fun _ => rfl) fun h5 tk5 f5 B5 X5 F5 => ?_)
  refine wpAny_execs_cons (cb_def G B5 hne hg1 hg2 (k := 4) (clos := [("mycmp", cm)]) rfl rfl (by decide +kernel) rfl rfl rfl rfl (fun _ => rfl) fun h6 tk6 f6 B6 X6 F6 => ?_)
  refine wpAny_execs_cons (cb_def G B6 hne hg1 hg2 (k := 5) (clos := [("mycmp", cm)]) rfl rfl (by decide +kernel) rfl rfl rfl rfl (fun _ => rfl) fun h7 tk7 f7 B7 X7 F7 => ?_)
  refine wpAny_execs_cons (cb_def G B7 hne hg1 hg2 (k := 6) (clos := [("mycmp", cm)]) rfl rfl (by decide +kernel) rfl rfl rfl rfl (fun _ => rfl) fun h8 tk8 f8 B8 X8 F8 => ?_)
  refine wpAny_execs_cons (cb_def G B8 hne hg1 hg2 (k := 7) (clos := [("mycmp", cm)]) rfl rfl (by decide +kernel) rfl rfl rfl rfl (fun _ => rfl) fun h9 tk9 f9 B9 X9 F9 => ?_)
  refine wpAny_execs_cons (wpAny_Assign_Name (Constant_none (stK B9.d rfl fun h10 d10 s10 => wpAny_execs_nil ?_)))
  have B10 := B9.store hne hg1 d10 s10
  have X10 : KeepX [nsA, Pc] h9 h10 := keepX_same s10 (.head _)
  have Y9 := X10
  have Y8 := X9.trans Y9
  have Y7 := X8.trans Y8
  have Y6 := X7.trans Y7
  have Y5 := X6.trans Y6
  have Y4 := X5.trans Y5
  have Y3 := X4.trans Y4
  exact h h10 _ _ _ sl f4 f5 f6 f7 f8 f9 B10 (X3.trans Y3) (ls_x l3 B3.d B3.t Y3) (F4.keepX B4.d B4.t Y4) (F5.keepX B5.d B5.t Y5) (F6.keepX B6.d B6.t Y6) (F7.keepX B7.d B7.t Y7) (F8.keepX B8.d B8.t Y8) (F9.keepX B9.d B9.t Y9)
end

section
variable {M : Model} {A : Around} {α : Type} {E : Value → Shared → Prop} {h : Heap} {g : Array GenState} {d : Drawn} {t : Nat} {os : OsState}
def New (h : Heap) (a : Addr) : Prop := a = h.objs.size
theorem New.ne {h : Heap} {a b : Addr} {o : Obj} (n : New h a) (e : h.get? b = some o) : b ≠ a := fun q => absurd (Heap.lt_size e) (by rw [q, n]; exact Nat.lt_irrefl _)
theorem size_none (h : Heap) : h.get? h.objs.size = none := by
  cases e : h.get? h.objs.size with
  | none => rfl
  | some o => exact absurd (Heap.lt_size e) (Nat.lt_irrefl _)
theorem New.none {h : Heap} {a : Addr} (n : New h a) : h.get? a = none := by rw [n]; exact size_none h
theorem al {o : Obj} {Q : Addr → Shared → Prop} (q : ∀ h' a, Keep h h' → h'.get? a = some o → New h a → Q a ⟨h', g, d, t, os⟩) (ho : o.isFreed = false := by rfl) : wpAny M A (alloc o) Q E ⟨h, g, d, t, os⟩ :=
  wpAny_alloc (q _ _ (keep_push _ _) (Heap.get?_push_size _ ho) rfl)
theorem nd_al {o : Obj} {k : Addr → Sem α} {Q : α → Shared → Prop} (q : ∀ h' a, Keep h h' → h'.get? a = some o → New h a → wpAny M A (k a) Q E ⟨h', g, d, t, os⟩) (ho : o.isFreed = false := by rfl) : wpAny M A (.alloc o k) Q E ⟨h, g, d, t, os⟩ :=
  nd_alloc (q _ _ (keep_push _ _) (Heap.get?_push_size _ ho) rfl)
end
theorem if_t {M : Model} {A : Around} {α : Type} {E : Value → Shared → Prop} {s : Shared} {Q : α → Shared → Prop} {c : Prop} [Decidable c] {x y : Sem α} (hc : c) (h : wpAny M A x Q E s) : wpAny M A (if c then x else y) Q E s := by rw [if_pos hc]; exact h
theorem if_f {M : Model} {A : Around} {α : Type} {E : Value → Shared → Prop} {s : Shared} {Q : α → Shared → Prop} {c : Prop} [Decidable c] {x y : Sem α} (hc : ¬c) (h : wpAny M A y Q E s) : wpAny M A (if c then x else y) Q E s := by rw [if_neg hc]; exact h

section
variable {prog : Program} {w : World} {A : Around} {E : Value → Shared → Prop} {g₀ : Heap} {mg mb : Str → Option Value} {h : Heap} {g : Array GenState} {d : Drawn} {t : Nat} {os : OsState}
abbrev bmObj (i : String) (v : Value) : Obj := { cls := .type "builtin_function_or_method", data := .fields #[.builtin i, v] }
theorem prep1 {Q : Option Value → Shared → Prop} (q : ∀ h' a t', Keep h h' → h'.get? a = some (bmObj "type.__prepare__" (.type "type")) → Q (some (.ref a)) ⟨h', g, d, t', os⟩) :
    wpAny (model prog w) A (getAttr? (.type "type") "__prepare__") Q E ⟨h, g, d, t, os⟩ := by
  k_node; with_reducible refine wpAny_bind ?_; k_node; with_reducible refine wpAny_bind ?_; k_node; with_reducible refine nd_fresh ?_; with_reducible refine nd_pure ?_; with_reducible refine wpAny_pure ?_; k_node; with_reducible refine wpAny_bind ?_; with_reducible refine wpAny_attempt ?_; k_node
  with_reducible refine wpAny_holding ?_; with_reducible refine wpAny_bind ?_; k_node; k_node; with_reducible refine wpAny_pure ?_; with_reducible refine wpAny_bind ?_; k_node; with_reducible refine wpAny_bind ?_; k_node; k_node; with_reducible refine wpAny_pure ?_; with_reducible refine wpAny_bind ?_
  k_node; k_node; k_node; k_node; k_node; k_node; k_node; with_reducible refine wpAny_bind ?_; k_node; with_reducible refine wpAny_bind ?_; k_node; k_node; with_reducible refine wpAny_pure ?_; k_node; with_reducible refine wpAny_pure ?_; k_node; with_reducible refine wpAny_pure ?_; k_node
  with_reducible refine wpAny_pure ?_; k_node; k_node; k_node; with_reducible refine wpAny_bind ?_; k_node; k_node; with_reducible refine wpAny_pure ?_; with_reducible refine wpAny_bind ?_; with_reducible refine wpAny_attempt ?_; with_reducible refine wpAny_holding ?_; k_node; k_node; k_node
  with_reducible refine wpAny_bind ?_; k_node; with_reducible refine wpAny_bind ?_; k_node; k_node; k_node; k_node; k_node; with_reducible refine wpAny_pure ?_; k_node; with_reducible refine wpAny_pure ?_; k_node; with_reducible refine wpAny_call ?_
  refine codeAny_call_builtin_at (id := "type.__getattribute__") (b := Builtin.«type.__getattribute__») (Code.quiet_builtin _ (by decide +kernel)) (entryFor_of_tree (by kernel_rfl)) ?_
  k_node; k_node; with_reducible refine wpAny_bind ?_; k_node; with_reducible refine wpAny_bind ?_; k_node; k_node; with_reducible refine wpAny_pure ?_; k_node; with_reducible refine wpAny_bind ?_; k_node; k_node; with_reducible refine wpAny_pure ?_; k_node; with_reducible refine wpAny_pure ?_; k_node
  k_node; k_node; k_node; with_reducible refine wpAny_bind ?_; k_node; k_node; with_reducible refine wpAny_pure ?_; with_reducible refine wpAny_bind ?_; k_node; k_node; with_reducible refine wpAny_pure ?_; k_node; with_reducible refine wpAny_onRaise ?_; k_node; k_node; k_node; k_node; k_node
  with_reducible refine wpAny_pure ?_; k_node; k_node; with_reducible refine wpAny_bind ?_; k_node; k_node; with_reducible refine wpAny_pure ?_; k_node; with_reducible refine wpAny_bind ?_; k_node; k_node; with_reducible refine wpAny_pure ?_; k_node; with_reducible refine wpAny_bind ?_; k_node; k_node
  with_reducible refine wpAny_pure ?_; with_reducible refine wpAny_bind ?_; k_node; with_reducible refine wpAny_bind ?_; k_node; k_node; with_reducible refine wpAny_pure ?_; with_reducible refine wpAny_bind ?_; k_node; k_node; k_node; k_node; k_node; k_node; k_node; with_reducible refine wpAny_bind ?_
  k_node; with_reducible refine wpAny_bind ?_; k_node; k_node; with_reducible refine wpAny_pure ?_; k_node; with_reducible refine wpAny_pure ?_; k_node; with_reducible refine wpAny_pure ?_; k_node; with_reducible refine wpAny_pure ?_; k_node; with_reducible refine wpAny_bind ?_; k_node
  with_reducible refine wpAny_bind ?_; k_node; k_node; k_node; k_node; k_node; with_reducible refine wpAny_pure ?_; k_node; with_reducible refine wpAny_bind ?_; k_node; k_node; with_reducible refine wpAny_pure ?_; with_reducible refine wpAny_bind ?_; k_node; k_node; k_node; k_node; k_node; k_node
  k_node; with_reducible refine wpAny_bind ?_; k_node; with_reducible refine wpAny_bind ?_; k_node; k_node; with_reducible refine wpAny_pure ?_; k_node; with_reducible refine wpAny_pure ?_; k_node; with_reducible refine wpAny_pure ?_; k_node; with_reducible refine wpAny_pure ?_; k_node
  with_reducible refine wpAny_bind ?_; k_node; with_reducible refine wpAny_bind ?_; k_node; k_node; k_node; k_node; k_node; with_reducible refine wpAny_pure ?_; k_node; with_reducible refine wpAny_bind ?_; k_node; k_node; with_reducible refine wpAny_pure ?_; with_reducible refine wpAny_bind ?_; k_node
  k_node; k_node; k_node; k_node; k_node; k_node; with_reducible refine wpAny_bind ?_; k_node; with_reducible refine wpAny_bind ?_; k_node; k_node; with_reducible refine wpAny_pure ?_; k_node; with_reducible refine wpAny_pure ?_; k_node; k_node; k_node; with_reducible refine wpAny_bind ?_; k_node
  with_reducible refine wpAny_bind ?_; k_node; k_node; with_reducible refine wpAny_pure ?_; k_node; with_reducible refine wpAny_pure ?_; k_node; k_node; with_reducible refine wpAny_pure ?_; k_node; with_reducible refine wpAny_pure ?_; k_node; k_node; with_reducible refine wpAny_bind ?_; k_node
  with_reducible refine wpAny_bind ?_; k_node; k_node; k_node; k_node; k_node; with_reducible refine wpAny_pure ?_; k_node; with_reducible refine wpAny_bind ?_; k_node; k_node; with_reducible refine wpAny_pure ?_; with_reducible refine wpAny_bind ?_; k_node; k_node; k_node; k_node; k_node; k_node
  k_node; with_reducible refine wpAny_bind ?_; k_node; with_reducible refine wpAny_bind ?_; k_node; k_node; with_reducible refine wpAny_pure ?_; k_node; with_reducible refine wpAny_pure ?_; k_node; k_node; k_node; with_reducible refine wpAny_bind ?_; k_node; with_reducible refine wpAny_bind ?_; k_node
  k_node; with_reducible refine wpAny_pure ?_; k_node; with_reducible refine wpAny_pure ?_; k_node; k_node; with_reducible refine wpAny_pure ?_; k_node; with_reducible refine wpAny_pure ?_; with_reducible refine wpAny_bind ?_; with_reducible refine wpAny_pure ?_; k_node; k_node; k_node
  with_reducible refine wpAny_bind ?_; k_node; with_reducible refine wpAny_bind ?_; k_node; k_node; with_reducible refine wpAny_pure ?_; with_reducible refine wpAny_bind ?_; k_node; k_node; k_node; k_node; k_node; k_node; k_node; with_reducible refine wpAny_bind ?_; k_node
  with_reducible refine wpAny_bind ?_; k_node; k_node; with_reducible refine wpAny_pure ?_; k_node; with_reducible refine wpAny_pure ?_; k_node; with_reducible refine wpAny_pure ?_; k_node; with_reducible refine wpAny_pure ?_; k_node; k_node; with_reducible refine wpAny_bind ?_; k_node; k_node; k_node
  k_node; k_node; with_reducible refine wpAny_pure ?_; k_node; with_reducible refine wpAny_bind ?_; k_node; with_reducible refine wpAny_bind ?_; k_node; k_node; k_node; k_node; k_node; with_reducible refine wpAny_pure ?_; k_node; with_reducible refine wpAny_bind ?_; k_node; k_node
  with_reducible refine wpAny_pure ?_; with_reducible refine wpAny_bind ?_; k_node; k_node; k_node; k_node; k_node; k_node; k_node; with_reducible refine wpAny_bind ?_; k_node; with_reducible refine wpAny_bind ?_; k_node; k_node; with_reducible refine wpAny_pure ?_; k_node
  with_reducible refine wpAny_pure ?_; k_node; with_reducible refine wpAny_pure ?_; k_node; with_reducible refine wpAny_pure ?_; k_node; with_reducible refine wpAny_bind ?_; with_reducible refine wpAny_holding ?_; with_reducible refine wpAny_call ?_
  refine codeAny_call_builtin_at (id := "classmethod_descriptor.__get__") (b := Builtin.«classmethod_descriptor.__get__») (Code.quiet_builtin _ (by decide +kernel)) (entryFor_of_tree (by kernel_rfl)) ?_
  k_node; k_node; with_reducible refine wpAny_bind ?_; k_node; with_reducible refine wpAny_bind ?_; k_node; k_node; k_node; k_node; k_node; with_reducible refine wpAny_pure ?_; k_node; with_reducible refine wpAny_bind ?_; k_node; k_node; with_reducible refine wpAny_pure ?_; k_node
  with_reducible refine wpAny_pure ?_; k_node; k_node; k_node; k_node; with_reducible refine wpAny_bind ?_; k_node; k_node; with_reducible refine wpAny_pure ?_; with_reducible refine wpAny_bind ?_; k_node; k_node; with_reducible refine wpAny_pure ?_; k_node; with_reducible refine wpAny_onRaise ?_
  k_node; k_node; k_node; k_node; k_node; k_node; k_node; k_node; k_node; with_reducible refine wpAny_pure ?_; k_node; with_reducible refine wpAny_bind ?_; k_node; k_node; k_node; k_node; with_reducible refine wpAny_bind ?_; with_reducible refine wpAny_pure ?_; k_node; k_node; k_node
  with_reducible refine wpAny_pure ?_; k_node; with_reducible refine wpAny_bind ?_; with_reducible refine wpAny_pure ?_; k_node; with_reducible refine wpAny_bind ?_; k_node; k_node; with_reducible refine wpAny_pure ?_; k_node; k_node; k_node; with_reducible refine wpAny_bind ?_; k_node
  with_reducible refine wpAny_bind ?_; k_node; k_node; with_reducible refine wpAny_pure ?_; k_node; with_reducible refine wpAny_pure ?_; k_node; k_node; k_node; with_reducible refine wpAny_bind ?_; k_node; k_node; k_node; k_node; k_node; k_node; with_reducible refine wpAny_bind ?_
  refine al fun h1 a k1 e1 n1 => ?_
  k_node; with_reducible refine wpAny_pure ?_; k_node; with_reducible refine wpAny_pure ?_; k_node; with_reducible refine wpAny_pure ?_; k_node; k_node; k_node; with_reducible refine wpAny_pure ?_; k_node; with_reducible refine wpAny_pure ?_
  exact q h1 a _ k1 e1
theorem prep2 {a T : Addr} {nm : Value} {R : Result → Shared → Prop} (e : h.get? a = some (bmObj "type.__prepare__" (.type "type")))
    (q : ∀ h' b t', Keep h h' → h'.get? b = some (dictOf [] 0) → New h b → R (.ok (.ret (.ref b))) ⟨h', g, d, t', os⟩) :
    codeAny (model prog w) A (.call (.ref a) ⟨[nm, .ref T], []⟩) R ⟨h, g, d, t, os⟩ := by
  refine codeAny_of_tree ?_
  show wpAny _ _ (callAny (.ref a) _) _ _ _
  unfold callAny
  k_node; with_reducible refine wpAny_bind ?_; with_reducible refine wpAny_load (by assumption) ?_; k_node; k_node; k_node; k_node; with_reducible refine wpAny_bind ?_; k_node; k_node; k_node; k_node; with_reducible refine wpAny_bind ?_; k_node; with_reducible refine wpAny_bind ?_; k_node; k_node
  with_reducible refine wpAny_pure ?_; k_node; with_reducible refine wpAny_bind ?_; k_node; k_node; with_reducible refine wpAny_pure ?_; k_node; with_reducible refine wpAny_pure ?_; k_node; with_reducible refine wpAny_bind ?_; k_node; k_node; with_reducible refine wpAny_pure ?_; k_node; k_node
  with_reducible refine wpAny_bind ?_; with_reducible refine wpAny_pure ?_; k_node; k_node; k_node; with_reducible refine wpAny_bind ?_; k_node; k_node; with_reducible refine wpAny_pure ?_; with_reducible refine wpAny_bind ?_; k_node; k_node; with_reducible refine wpAny_pure ?_; k_node
  with_reducible refine wpAny_onRaise ?_; k_node; k_node; with_reducible refine wpAny_pure ?_; k_node; with_reducible refine wpAny_pure ?_
  refine And.intro (Code.quiet_builtin _ (by decide +kernel)) (codeAny_builtin (b := Builtin.«type.__prepare__») (entryFor_of_tree (by kernel_rfl)) ?_)
  unfold Builtin.«type.__prepare__»
  with_reducible refine wpAny_bind ?_; k_node; k_node; k_node; k_node; k_node; k_node; with_reducible refine wpAny_bind ?_
  refine al fun h1 a k1 e1 n1 => ?_
  k_node; with_reducible refine wpAny_pure ?_; k_node; with_reducible refine wpAny_pure ?_
  exact q h1 a _ k1 e1 n1
end

theorem Dct.su {h h' : Heap} {a b : Addr} {kvs : List (Str × Value)} (x : Dct h a kvs) (s : Heap.SameBut b h h') (ne : a ≠ b) : Dct h' a kvs := let ⟨es, n, e, d⟩ := x; ⟨es, n, (s.2 _ ne).trans e, d⟩

theorem has_kd {es : List DictEntry} {kvs : List (Str × Value)} (x : Kd es kvs) (k : Str) : es.toArray.any (fun e => e.key.isStr k) = (kvs.lookup k).isSome := by
  rw [List.any_toArray]
  induction x with
  | nil => rfl
  | @cons hsh k' t v es kvs _ ih =>
    simp only [List.any_cons, List.lookup_cons, Value.isStr]
    by_cases e : k' = k
    · subst e; simp
    · have e1 : (k' == k) = false := by simpa using e
      have e2 : (k == k') = false := by simpa using fun q : k = k' => e q.symm
      rw [e1, e2]; exact (Bool.false_or _).trans ih
theorem find_kd {es : List DictEntry} {kvs : List (Str × Value)} (x : Kd es kvs) {k : Str} {v : Value} (hl : kvs.lookup k = some v) : ∃ e, es.toArray.find? (fun e => e.key.isStr k) = some e ∧ e.val = v := by
  rw [List.find?_toArray]
  induction x with
  | nil => cases hl
  | @cons hsh k' t v' es kvs _ ih =>
    rw [List.lookup_cons] at hl
    rw [List.find?_cons]
    by_cases e : k' = k
    · subst e
      simp only [beq_self_eq_true, Option.some.injEq] at hl
      subst hl
      exact ⟨⟨hsh, .str k' t, v'⟩, by simp [Value.isStr], rfl⟩
    · have e1 : (k' == k) = false := by simpa using e
      have e2 : (k == k') = false := by simpa using fun q : k = k' => e q.symm
      rw [e2] at hl
      obtain ⟨en, h1, h2⟩ := ih hl
      refine ⟨en, ?_, h2⟩
      simp only [Value.isStr, e1]
      exact h1
theorem kd_drop {es : List DictEntry} {kvs : List (Str × Value)} (x : Kd es kvs) (k : Str) (n : Nat) : ∃ es' n', Obj.dropName k (dictOf es n) = dictOf es' n' ∧ Kd es' (dropK k kvs) := by
  have key : ∀ {es kvs}, Kd es kvs → match es.findIdx? (·.key.isStr k) with | some i => Kd (es.eraseIdx i) (dropK k kvs) | none => Kd es (dropK k kvs) := by
    intro es kvs x
    induction x with
    | nil => exact .nil
    | @cons hsh k' t v es kvs y ih =>
      rw [List.findIdx?_cons]
      unfold dropK
      by_cases e : (k' == k) = true
      · have : Value.isStr (.str k' t) k = true := e
        simp only [this, if_true, e]
        exact y
      · have : Value.isStr (.str k' t) k = false := by simpa [Value.isStr] using e
        simp only [this, Bool.false_eq_true, if_false, e]
        cases hi : es.findIdx? (·.key.isStr k) with
        | some i => rw [hi] at ih; exact .cons ih
        | none => rw [hi] at ih; exact .cons ih
  have kx := key x
  rw [Obj.dropName_eq]
  simp only [Obj.dropNameByArray, List.findIdx?_toArray]
  cases hi : es.findIdx? (·.key.isStr k) with
  | some i =>
    rw [hi] at kx
    refine ⟨es.eraseIdx i, n + 1, ?_, kx⟩
    simp [List.eraseIdxIfInBounds_toArray]
  | none => rw [hi] at kx; exact ⟨es, n, rfl, kx⟩
section
variable {M : Model} {A : Around} {α : Type} {E : Value → Shared → Prop} {h : Heap} {g : Array GenState} {d : Drawn} {t : Nat} {os : OsState}
theorem d_del {a : Addr} {k : Str} {kvs : List (Str × Value)} {Q : Bool → Shared → Prop} (x : Dct h a kvs) (q : ∀ h' b, Dct h' a (dropK k kvs) → Heap.SameBut a h h' → Q b ⟨h', g, d, t, os⟩) (hk : (kvs.lookup k).isSome = true) : wpAny M A (nsDel a k) Q E ⟨h, g, d, t, os⟩ := by
  obtain ⟨es, n, e, kd⟩ := x
  unfold nsDel
  refine wpAny_bind (wpAny_loadPart e ?_)
  have hh : nsHas k (dictOf es n) = pure true := by
    rw [nsHas_eq]
    unfold nsHasByArray
    dsimp only
    rw [has_kd kd, hk]; rfl
  rw [hh]
  refine wpAny_bind (wpAny_pure ?_)
  obtain ⟨es', n', e1, kd'⟩ := kd_drop kd k n
  refine wpAny_bind (wpAny_updatePart e (wpAny_pure ?_))
  refine q _ _ ⟨es', n', ?_, kd'⟩ (Heap.SameBut.update ..)
  have := Heap.get?_update_self (Obj.dropName k) e (by rw [e1]; rfl)
  rw [e1] at this
  exact this
theorem up {a : Addr} {part : Option Value} {f : Obj → Obj} {o o' : Obj} {Q : Unit → Shared → Prop} (e : h.get? a = some o) (ef : f o = o') (q : ∀ h', h'.get? a = some o' → Heap.SameBut a h h' → Q () ⟨h', g, d, t, os⟩) (ho : o'.isFreed = false := by rfl) : wpAny M A (updatePart a part f) Q E ⟨h, g, d, t, os⟩ :=
  wpAny_updatePart e (q _ (by rw [← ef]; exact Heap.get?_update_self f e (by rw [ef]; exact ho)) (Heap.SameBut.update ..))
theorem Kd.len {es : List DictEntry} {kvs : List (Str × Value)} (x : Kd es kvs) : es.length = kvs.length := by
  induction x with
  | nil => rfl
  | cons _ ih => simp [ih]
theorem d_setV {a : Addr} {k : Str} {v : Value} {kvs : List (Str × Value)} {Q : Unit → Shared → Prop} (x : Dct h a kvs) (hz : kvs.length ≤ 1000)
    (q : ∀ h', Dct h' a (put k v kvs) → Heap.SameBut a h h' → Q () ⟨h', g, d, t + 1, os⟩) : wpAny M A (nsSetByValue a k v) Q E ⟨h, g, d, t, os⟩ := by
  obtain ⟨es, n, e, kd⟩ := id x
  unfold nsSetByValue
  refine wpAny_bind (wpAny_loadPart e ?_)
  dsimp only
  have : decide (es.toArray.size > sizeLine) = false := by rw [List.size_toArray, kd.len, sizeLine_eq]; exact decide_eq_false (by omega)
  rw [this, Bool.false_and]
  exact d_set x q
theorem slot_up {a : Addr} {i : Nat} {v : Option Value} {cl : Value} {di : Option Addr} {da : Data} {sl sl' : Array (Option Value)} {Q : Unit → Shared → Prop} (e : h.get? a = some ⟨cl, di, da, sl⟩) (ef : (sl ++ Array.replicate (i + 1 - sl.size) none).setIfInBounds i v = sl')
    (q : ∀ h', h'.get? a = some ⟨cl, di, da, sl'⟩ → Heap.SameBut a h h' → Q () ⟨h', g, d, t, os⟩) (ho : (Obj.mk cl di da sl').isFreed = false := by rfl) (hi : i < 10 := by decide) : wpAny M A (setSlotAt a i v) Q E ⟨h, g, d, t, os⟩ := by
  unfold setSlotAt
  dsimp only
  rw [if_neg (by rw [sizeLine_eq]; omega)]
  exact up e (by dsimp only; rw [ef]) q ho
theorem cls_up {a : Addr} {f : ClassData → ClassData} {cl : Value} {di : Option Addr} {cd : ClassData} {sl : Array (Option Value)} {Q : Unit → Shared → Prop} (e : h.get? a = some ⟨cl, di, .cls cd, sl⟩)
    (q : ∀ h', h'.get? a = some ⟨cl, di, .cls (f cd), sl⟩ → Heap.SameBut a h h' → Q () ⟨h', g, d, t, os⟩) (hp : (Data.cls (f cd)).pastItsLine = none) : wpAny M A (updateCls a f) Q E ⟨h, g, d, t, os⟩ := by
  unfold updateCls
  refine wpAny_bind (wpAny_load e ?_)
  dsimp only
  refine wpAny_bind (wpAny_update e ?_)
  have e' : (h.update a (Obj.mapCls f)).get? a = some ⟨cl, di, .cls (f cd), sl⟩ := Heap.get?_update_self (Obj.mapCls f) e rfl
  exact wpAny_lookBehind e' hp (q _ e' (Heap.SameBut.update ..))
end
section
variable {prog : Program} {w : World} {A : Around} {E : Value → Shared → Prop} {g₀ : Heap} {mg mb : Str → Option Value} {h : Heap} {g : Array GenState} {d : Drawn} {t : Nat} {os : OsState}
theorem sl_read {entries : Array DictEntry} {e : DictEntry} {sl : Addr} {ts : Tok} {Q : Builtin.Slots.Plan → Shared → Prop} (hf : entries.find? (·.key.isStr "__slots__") = some e) (he : e.val = .ref sl) (ho : entries.any (·.key.isStr "obj") = false) (eS : LS h sl #[.str "obj" ts])
   (q : ∀ h' t', Keep h h' → Q {names := ["obj"], dict := false, weak := false, inherited := []} ⟨h', g, d, t', os⟩) : wpAny (model prog w) A (Builtin.Slots.read "K" [.type "object"] entries) Q E ⟨h, g, d, t, os⟩ := by
  obtain ⟨n, eS⟩ := eS
  have eL : h.get? sl = some _ := eS
  unfold Builtin.Slots.read
  with_reducible refine wpAny_bind ?_; k_node; k_node; with_reducible refine wpAny_bind ?_; k_node; k_node; k_node; k_node; k_node; k_node; k_node; with_reducible refine wpAny_bind ?_; k_node; with_reducible refine wpAny_bind ?_; k_node; with_reducible refine wpAny_bind ?_; k_node; k_node
  with_reducible refine wpAny_pure ?_; with_reducible refine wpAny_bind ?_; k_node; k_node; k_node; k_node; k_node; k_node; k_node; with_reducible refine wpAny_bind ?_; k_node; with_reducible refine wpAny_bind ?_; k_node; k_node; with_reducible refine wpAny_pure ?_; k_node; k_node; k_node
  with_reducible refine wpAny_pure ?_; k_node; with_reducible refine wpAny_pure ?_; k_node; with_reducible refine wpAny_pure ?_; k_node; with_reducible refine wpAny_pure ?_; k_node; k_node; with_reducible refine wpAny_pure ?_; k_node; with_reducible refine wpAny_pure ?_
  with_reducible refine wpAny_bind ?_; k_node; k_node; with_reducible refine wpAny_bind ?_; k_node; k_node; with_reducible refine wpAny_pure ?_; with_reducible refine wpAny_bind ?_; k_node; k_node; k_node; k_node; k_node; k_node; k_node; with_reducible refine wpAny_bind ?_; k_node
  with_reducible refine wpAny_pure ?_; k_node; k_node; with_reducible refine wpAny_pure ?_; k_node; with_reducible refine wpAny_pure ?_; with_reducible refine wpAny_bind ?_; k_node; k_node; with_reducible refine wpAny_pure ?_; k_node; with_reducible refine wpAny_bind ?_; k_node; k_node
  with_reducible refine wpAny_bind ?_; k_node; k_node; with_reducible refine wpAny_pure ?_; k_node; k_node; with_reducible refine wpAny_bind ?_; k_node; with_reducible refine wpAny_bind ?_; k_node; k_node; with_reducible refine wpAny_pure ?_; with_reducible refine wpAny_bind ?_; k_node; k_node; k_node
  k_node; k_node; k_node; k_node; with_reducible refine wpAny_bind ?_; k_node; with_reducible refine wpAny_bind ?_; k_node; k_node; with_reducible refine wpAny_pure ?_; k_node; with_reducible refine wpAny_pure ?_; k_node; k_node; with_reducible refine wpAny_pure ?_; k_node
  with_reducible refine wpAny_pure ?_; k_node; with_reducible refine wpAny_pure ?_; with_reducible refine wpAny_bind ?_; k_node; with_reducible refine wpAny_bind ?_; k_node; k_node; with_reducible refine wpAny_pure ?_; with_reducible refine wpAny_pure ?_; k_node
  rw [hf]
  k_node; with_reducible refine wpAny_bind ?_; k_node; with_reducible refine nd_rule ?_; with_reducible refine nd_pure ?_; with_reducible refine wpAny_bind ?_; k_node
  rw [he]
  k_node; with_reducible refine wpAny_bind ?_; with_reducible refine wpAny_load (by assumption) ?_; k_node; with_reducible refine wpAny_pure ?_; k_node; k_node; with_reducible refine wpAny_bind ?_
  refine collect_list (vs := [.str "obj" ts]) (LS.isList ⟨n, eS⟩) ?_ (Nat.le_of_ble_eq_true rfl)
  have k1 : Keep h ((h.push (seqObj "list" #[] 0)).update h.objs.size (Obj.mapSeq (· ++ [Value.str "obj" ts].toArray))) := fun b o e =>
    ((Heap.SameBut.update (h.push (seqObj "list" #[] 0)) h.objs.size (Obj.mapSeq (· ++ [Value.str "obj" ts].toArray))).2 b (Nat.ne_of_lt (Heap.lt_size e))).trans (keep_push _ _ _ _ e)
  dsimp only
  generalize (h.push (seqObj "list" #[] 0)).update h.objs.size (Obj.mapSeq (· ++ [Value.str "obj" ts].toArray)) = h1 at k1 ⊢
  clear eS eL
  k_node; with_reducible refine wpAny_bind ?_; k_node; with_reducible refine wpAny_bind ?_; k_node; k_node; with_reducible refine wpAny_pure ?_; with_reducible refine wpAny_pure ?_; k_node; with_reducible refine wpAny_bind ?_; k_node; k_node; k_node; k_node; k_node; k_node; k_node
  with_reducible refine wpAny_bind ?_; k_node; with_reducible refine wpAny_bind ?_; k_node; k_node; with_reducible refine wpAny_pure ?_; k_node; with_reducible refine wpAny_bind ?_; with_reducible refine wpAny_pure ?_; k_node
  rw [show Builtin.Slots.isIdentifier (Str.ofString "obj") = some true from by decide +kernel]
  k_node; with_reducible refine wpAny_bind ?_; with_reducible refine wpAny_pure ?_; k_node; k_node; k_node; with_reducible refine wpAny_pure ?_; k_node; k_node; with_reducible refine wpAny_pure ?_; with_reducible refine wpAny_bind ?_; k_node; k_node; k_node; k_node; k_node; k_node; k_node
  with_reducible refine wpAny_bind ?_; k_node; k_node
  refine if_f ?_ ?_
  · have hm : Builtin.Slots.mangle "K" "obj" = "obj" := by decide +kernel
    show ¬((entries.any fun x => x.key.isStr (Builtin.Slots.mangle "K" "obj")) && _) = true
    rw [hm, ho, Bool.false_and]; decide
  k_node; with_reducible refine wpAny_pure ?_; k_node; k_node; with_reducible refine wpAny_pure ?_; with_reducible refine wpAny_bind ?_; k_node; k_node; k_node; k_node; k_node; k_node; k_node; with_reducible refine wpAny_bind ?_; k_node; k_node; with_reducible refine wpAny_pure ?_; k_node; k_node
  with_reducible refine wpAny_pure ?_; with_reducible refine wpAny_pure ?_
  refine (congrArg (fun p => Q p _) ?_).mpr (q h1 t k1)
  kernel_rfl
end

abbrev clsObj (C T ns : Addr) (tn tq : Tok) : Obj := ⟨.type "type", none, .cls { name := "K", bases := [.type "object"], mro := [.ref C, .type "object"], ns := ns, qualname := qK, hasDict := false, slotNames := ["obj"] }, #[some (.ref T), none, some (.str "K" tn), some (.str qK tq), some (.builtin "object.__new__"), some (.bool false)]⟩
section
variable {M : Model} {A : Around} {α : Type} {E : Value → Shared → Prop} {h : Heap} {g : Array GenState} {d : Drawn} {t : Nat} {os : OsState}
theorem up' {a : Addr} {f : Obj → Obj} {o o' : Obj} {Q : Unit → Shared → Prop} (e : h.get? a = some o) (ef : f o = o') (q : ∀ h', h'.get? a = some o' → Heap.SameBut a h h' → Q () ⟨h', g, d, t, os⟩) (ho : o'.isFreed = false := by rfl) : wpAny M A (update a f) Q E ⟨h, g, d, t, os⟩ :=
  wpAny_update e (q _ (by rw [← ef]; exact Heap.get?_update_self f e (by rw [ef]; exact ho)) (Heap.SameBut.update ..))
end
section
variable {prog : Program} {w : World} {A : Around} {E : Value → Shared → Prop} {g₀ : Heap} {mg mb : Str → Option Value} {h : Heap} {g : Array GenState} {d : Drawn} {t : Nat} {os : OsState}
theorem c_super {C T ns : Addr} {tn tq : Tok} {R : Result → Shared → Prop} (eC : h.get? C = some (clsObj C T ns tn tq))
    (q : ∀ h' so t', Keep h h' → h'.get? so = some { cls := .type "super", data := .fields #[.ref C, .ref C, .ref C] } → R (.ok (.ret (.ref so))) ⟨h', g, d, t', os⟩) :
    codeAny (model prog w) A (.call (.type "super") ⟨[.ref C, .ref C], []⟩) R ⟨h, g, d, t, os⟩ := by
  refine codeAny_of_tree ?_
  show wpAny _ _ (callAny (.type "super") _) _ _ _
  unfold callAny
  k_node; k_node; with_reducible refine wpAny_pure ?_
  refine And.intro (Code.quiet_builtin _ (by decide +kernel)) (codeAny_builtin (id := "type.__call__") (b := Builtin.«type.__call__») (entryFor_of_tree (by kernel_rfl)) ?_)
  k_node; k_node; k_node; k_node; k_node; k_node; with_reducible refine wpAny_bind ?_; k_node; k_node; k_node; k_node; k_node; k_node; with_reducible refine wpAny_bind ?_; k_node; k_node; with_reducible refine wpAny_bind ?_; k_node; with_reducible refine wpAny_loadPart (by assumption) ?_
  with_reducible refine wpAny_pure ?_; k_node; k_node; k_node; k_node; with_reducible refine wpAny_bind ?_; k_node; k_node; with_reducible refine wpAny_pure ?_; with_reducible refine wpAny_bind ?_; k_node; k_node; with_reducible refine wpAny_pure ?_; k_node; with_reducible refine wpAny_onRaise ?_
  k_node; k_node; k_node; k_node; k_node; k_node; k_node; k_node; k_node; with_reducible refine wpAny_pure ?_; k_node; with_reducible refine wpAny_bind ?_; k_node; k_node; with_reducible refine wpAny_pure ?_; k_node; k_node; k_node; with_reducible refine wpAny_bind ?_; k_node; k_node
  with_reducible refine wpAny_bind ?_; k_node; k_node; with_reducible refine wpAny_pure ?_; with_reducible refine wpAny_bind ?_; k_node; k_node; k_node; k_node; k_node; k_node; k_node; with_reducible refine wpAny_bind ?_; k_node; with_reducible refine wpAny_bind ?_; k_node
  with_reducible refine wpAny_bind ?_; k_node; k_node; with_reducible refine wpAny_pure ?_; with_reducible refine wpAny_bind ?_; k_node; k_node; k_node; k_node; k_node; k_node; k_node; with_reducible refine wpAny_bind ?_; k_node; with_reducible refine wpAny_bind ?_; k_node; k_node
  with_reducible refine wpAny_pure ?_; k_node; with_reducible refine wpAny_pure ?_; k_node; with_reducible refine wpAny_pure ?_; k_node; with_reducible refine wpAny_pure ?_; k_node; with_reducible refine if_f (by decide +kernel) ?_; k_node; with_reducible refine wpAny_pure ?_; k_node
  with_reducible refine wpAny_pure ?_; k_node; with_reducible refine wpAny_pure ?_; k_node; with_reducible refine wpAny_bind ?_; with_reducible refine wpAny_pure ?_; k_node; with_reducible refine wpAny_bind ?_; with_reducible refine wpAny_holding ?_; with_reducible refine wpAny_call ?_
  refine codeAny_call_builtin_at (id := "super.__new__") (b := Builtin.«super.__new__») (Code.quiet_builtin _ (by decide +kernel)) (entryFor_of_tree (by kernel_rfl)) ?_
  k_node; k_node; k_node; k_node; with_reducible refine wpAny_bind ?_; k_node; k_node; with_reducible refine wpAny_pure ?_; k_node; k_node; k_node; with_reducible refine wpAny_bind ?_; k_node; with_reducible refine wpAny_bind ?_; k_node; k_node; with_reducible refine wpAny_pure ?_; k_node
  with_reducible refine wpAny_pure ?_; k_node; k_node; k_node; k_node; k_node; with_reducible refine wpAny_bind ?_; k_node; k_node; with_reducible refine wpAny_bind ?_; k_node; k_node; with_reducible refine wpAny_pure ?_; with_reducible refine wpAny_bind ?_; k_node; k_node; k_node; k_node; k_node
  k_node; k_node; with_reducible refine wpAny_bind ?_; k_node; with_reducible refine wpAny_bind ?_; k_node; k_node; with_reducible refine wpAny_bind ?_; k_node; k_node; with_reducible refine wpAny_pure ?_; with_reducible refine wpAny_bind ?_; k_node; k_node; k_node; k_node; k_node; k_node; k_node
  with_reducible refine wpAny_bind ?_; k_node; with_reducible refine wpAny_bind ?_; k_node; with_reducible refine wpAny_bind ?_; k_node; k_node; with_reducible refine wpAny_pure ?_; with_reducible refine wpAny_bind ?_; k_node; k_node; k_node; k_node; k_node; k_node; k_node
  with_reducible refine wpAny_bind ?_; k_node; with_reducible refine wpAny_bind ?_; k_node; k_node; with_reducible refine wpAny_pure ?_; k_node; with_reducible refine wpAny_pure ?_; k_node; with_reducible refine wpAny_pure ?_; k_node; with_reducible refine wpAny_pure ?_; k_node
  with_reducible refine if_f (by decide +kernel) ?_; k_node; with_reducible refine wpAny_pure ?_; k_node; with_reducible refine wpAny_pure ?_; k_node; with_reducible refine wpAny_pure ?_; k_node; with_reducible refine wpAny_pure ?_; k_node; with_reducible refine wpAny_pure ?_; k_node
  with_reducible refine wpAny_pure ?_; with_reducible refine wpAny_bind ?_; k_node; k_node; with_reducible refine wpAny_bind ?_; k_node; k_node; with_reducible refine wpAny_pure ?_; with_reducible refine wpAny_bind ?_; k_node; k_node; k_node; k_node; k_node; k_node; k_node
  with_reducible refine wpAny_bind ?_; k_node; with_reducible refine wpAny_bind ?_; k_node; with_reducible refine wpAny_bind ?_; k_node; k_node; with_reducible refine wpAny_pure ?_; with_reducible refine wpAny_bind ?_; k_node; k_node; k_node; k_node; k_node; k_node; k_node
  with_reducible refine wpAny_bind ?_; k_node; with_reducible refine wpAny_bind ?_; k_node; k_node; with_reducible refine wpAny_pure ?_; k_node; with_reducible refine wpAny_pure ?_; k_node; with_reducible refine wpAny_pure ?_; k_node; with_reducible refine wpAny_pure ?_; k_node
  with_reducible refine if_f (by decide +kernel) ?_; k_node; with_reducible refine wpAny_pure ?_; k_node; with_reducible refine wpAny_pure ?_; k_node; with_reducible refine wpAny_pure ?_; k_node; k_node; k_node; k_node; k_node; with_reducible refine wpAny_bind ?_; k_node; k_node
  with_reducible refine wpAny_pure ?_; with_reducible refine wpAny_bind ?_; k_node; k_node; with_reducible refine wpAny_pure ?_; k_node; with_reducible refine wpAny_onRaise ?_; k_node; k_node; with_reducible refine wpAny_pure ?_; k_node; k_node; k_node; k_node; with_reducible refine wpAny_bind ?_
  k_node; k_node; k_node; k_node; k_node; k_node; with_reducible refine wpAny_bind ?_
  refine al fun h1 so k1 e1 n1 => ?_
  have := New.ne n1 eC
  replace eC := k1 _ _ eC
  k_node; with_reducible refine wpAny_pure ?_; k_node; with_reducible refine wpAny_pure ?_; with_reducible refine wpAny_bind ?_; k_node; with_reducible refine wpAny_bind ?_; k_node; k_node; with_reducible refine wpAny_bind ?_; with_reducible refine wpAny_loadPart (by assumption) ?_
  with_reducible refine wpAny_pure ?_; k_node; with_reducible refine wpAny_bind ?_; k_node; k_node; with_reducible refine wpAny_pure ?_; k_node; with_reducible refine wpAny_pure ?_; k_node; with_reducible refine wpAny_bind ?_; with_reducible refine wpAny_holding ?_; k_node
  with_reducible refine wpAny_bind ?_; k_node; with_reducible refine wpAny_bind ?_; k_node; k_node; with_reducible refine wpAny_bind ?_; with_reducible refine wpAny_loadPart (by assumption) ?_; with_reducible refine wpAny_pure ?_; k_node; with_reducible refine wpAny_bind ?_; k_node; k_node
  with_reducible refine wpAny_pure ?_; with_reducible refine wpAny_bind ?_; k_node; k_node; k_node; k_node; k_node; k_node; k_node; with_reducible refine wpAny_bind ?_; k_node; with_reducible refine wpAny_bind ?_; k_node; k_node; with_reducible refine wpAny_pure ?_; k_node
  with_reducible refine wpAny_pure ?_; k_node; with_reducible refine wpAny_pure ?_; k_node; with_reducible refine wpAny_pure ?_; k_node; with_reducible refine wpAny_holding ?_; with_reducible refine wpAny_bind ?_; k_node; with_reducible refine wpAny_bind ?_; k_node; k_node; k_node; k_node; k_node
  with_reducible refine wpAny_pure ?_; k_node; with_reducible refine wpAny_pure ?_; k_node; with_reducible refine wpAny_bind ?_; with_reducible refine wpAny_call ?_
  refine codeAny_call_builtin_at (id := "super.__init__") (b := Builtin.«super.__init__») (Code.quiet_builtin _ (by decide +kernel)) (entryFor_of_tree (by kernel_rfl)) ?_
  k_node; k_node; with_reducible refine wpAny_bind ?_; k_node; with_reducible refine wpAny_bind ?_; k_node; k_node; with_reducible refine wpAny_bind ?_; with_reducible refine wpAny_loadPart (by assumption) ?_; with_reducible refine wpAny_pure ?_; k_node; with_reducible refine wpAny_bind ?_; k_node
  k_node; with_reducible refine wpAny_pure ?_; k_node; with_reducible refine wpAny_pure ?_; k_node; k_node; k_node; k_node; with_reducible refine wpAny_bind ?_; k_node; k_node; with_reducible refine wpAny_pure ?_; with_reducible refine wpAny_bind ?_; k_node; k_node; with_reducible refine wpAny_pure ?_
  k_node; with_reducible refine wpAny_onRaise ?_; k_node; k_node; k_node; k_node; k_node; k_node; k_node; k_node; k_node; with_reducible refine wpAny_pure ?_; k_node; with_reducible refine wpAny_bind ?_; k_node; k_node; with_reducible refine wpAny_pure ?_; k_node; with_reducible refine wpAny_bind ?_
  with_reducible refine wpAny_pure ?_; k_node; with_reducible refine wpAny_bind ?_; k_node; k_node; with_reducible refine wpAny_bind ?_; k_node; with_reducible refine wpAny_loadPart (by assumption) ?_; with_reducible refine wpAny_pure ?_; k_node; k_node; k_node; k_node
  with_reducible refine wpAny_bind ?_; k_node; with_reducible refine wpAny_bind ?_; k_node; k_node; with_reducible refine wpAny_bind ?_; k_node; with_reducible refine wpAny_loadPart (by assumption) ?_; with_reducible refine wpAny_pure ?_; k_node; k_node; with_reducible refine wpAny_bind ?_; k_node
  with_reducible refine wpAny_bind ?_; k_node; k_node; with_reducible refine wpAny_bind ?_; k_node; with_reducible refine wpAny_bind ?_; with_reducible refine wpAny_load (by assumption) ?_; k_node; with_reducible refine wpAny_pure ?_; with_reducible refine wpAny_pure ?_; k_node; k_node; k_node
  with_reducible refine wpAny_pure ?_
  refine if_t (by simp) ?_
  with_reducible refine wpAny_pure ?_; k_node; with_reducible refine wpAny_bind ?_; k_node; k_node; k_node; with_reducible refine wpAny_bind ?_; with_reducible refine wpAny_load (by assumption) ?_; k_node; k_node
  refine up' (o' := { cls := .type "super", data := .fields #[.ref C, .none, .none] }) e1 rfl fun h2 e2 s2 => ?_
  replace eC := ((s2).2 _ (by first | assumption | exact Ne.symm (by assumption))).trans eC
  clear e1
  with_reducible refine wpAny_bind ?_; k_node; k_node; k_node; with_reducible refine wpAny_bind ?_; with_reducible refine wpAny_load (by assumption) ?_; k_node; k_node
  refine up' (o' := { cls := .type "super", data := .fields #[.ref C, .ref C, .none] }) e2 rfl fun h3 e3 s3 => ?_
  replace eC := ((s3).2 _ (by first | assumption | exact Ne.symm (by assumption))).trans eC
  clear e2
  with_reducible refine wpAny_bind ?_; k_node; k_node; k_node; with_reducible refine wpAny_bind ?_; with_reducible refine wpAny_load (by assumption) ?_; k_node; k_node
  refine up' (o' := { cls := .type "super", data := .fields #[.ref C, .ref C, .ref C] }) e3 rfl fun h4 e4 s4 => ?_
  replace eC := ((s4).2 _ (by first | assumption | exact Ne.symm (by assumption))).trans eC
  clear e3
  k_node; with_reducible refine wpAny_pure ?_; with_reducible refine wpAny_pure ?_; k_node; k_node; k_node; k_node; with_reducible refine wpAny_pure ?_
  have nn : ∀ b o, h.get? b = some o → b ≠ so := fun b o e => n1.ne e
  exact q h4 so _ (fun b o e => (s4.2 b (nn b o e)).trans ((s3.2 b (nn b o e)).trans ((s2.2 b (nn b o e)).trans (k1 b o e)))) e4
theorem c_supget {C T ns so : Addr} {tn tq : Tok} {Q : Value → Shared → Prop} (eC : h.get? C = some (clsObj C T ns tn tq)) (eO : h.get? so = some { cls := .type "super", data := .fields #[.ref C, .ref C, .ref C] }) (tp : Looks (model prog w) h (nsGet cStatics "thirdparty.any") none)
    (q : ∀ h' b t', Keep h h' → h'.get? b = some (bmObj "object.__init_subclass__" (.ref C)) → Q (.ref b) ⟨h', g, d, t', os⟩) :
    wpAny (model prog w) A (getAttr (.ref so) "__init_subclass__") Q E ⟨h, g, d, t, os⟩ := by
  k_node; with_reducible refine wpAny_bind ?_; k_node; with_reducible refine wpAny_bind ?_; k_node; with_reducible refine nd_fresh ?_; with_reducible refine nd_pure ?_; with_reducible refine wpAny_pure ?_; k_node; with_reducible refine wpAny_holding ?_; with_reducible refine wpAny_bind ?_; k_node
  k_node; with_reducible refine wpAny_bind ?_; with_reducible refine wpAny_loadPart (by assumption) ?_; with_reducible refine wpAny_pure ?_; with_reducible refine wpAny_bind ?_; k_node; with_reducible refine wpAny_bind ?_; k_node; k_node; with_reducible refine wpAny_pure ?_
  with_reducible refine wpAny_bind ?_; k_node; k_node; k_node; k_node; k_node; k_node; k_node; with_reducible refine wpAny_bind ?_; k_node; with_reducible refine wpAny_bind ?_; k_node; k_node; with_reducible refine wpAny_pure ?_; k_node; with_reducible refine wpAny_pure ?_; k_node
  with_reducible refine wpAny_pure ?_; k_node; with_reducible refine wpAny_pure ?_; k_node; k_node; k_node; with_reducible refine wpAny_bind ?_; k_node; k_node; with_reducible refine wpAny_pure ?_; with_reducible refine wpAny_bind ?_; with_reducible refine wpAny_attempt ?_
  with_reducible refine wpAny_holding ?_; k_node; k_node; k_node; with_reducible refine wpAny_bind ?_; k_node; with_reducible refine wpAny_bind ?_; k_node; k_node; k_node; k_node; k_node; with_reducible refine wpAny_pure ?_; k_node; with_reducible refine wpAny_pure ?_; k_node
  with_reducible refine wpAny_call ?_
  refine codeAny_call_builtin_at (id := "super.__getattribute__") (b := Builtin.«super.__getattribute__») (Code.quiet_builtin _ (by decide +kernel)) (entryFor_of_tree (by kernel_rfl)) ?_
  k_node; k_node; with_reducible refine wpAny_bind ?_; k_node; with_reducible refine wpAny_bind ?_; k_node; k_node; with_reducible refine wpAny_bind ?_; with_reducible refine wpAny_loadPart (by assumption) ?_; with_reducible refine wpAny_pure ?_; k_node; with_reducible refine wpAny_bind ?_; k_node
  k_node; with_reducible refine wpAny_pure ?_; k_node; with_reducible refine wpAny_pure ?_; k_node; k_node; k_node; k_node; with_reducible refine wpAny_bind ?_; k_node; k_node; with_reducible refine wpAny_pure ?_; with_reducible refine wpAny_bind ?_; k_node; k_node; with_reducible refine wpAny_pure ?_
  k_node; with_reducible refine wpAny_onRaise ?_; k_node; k_node; k_node; k_node; k_node; with_reducible refine wpAny_pure ?_; k_node; k_node; with_reducible refine wpAny_bind ?_; k_node; k_node; with_reducible refine wpAny_pure ?_; k_node; k_node; k_node; with_reducible refine wpAny_bind ?_; k_node
  k_node; with_reducible refine wpAny_pure ?_; k_node; with_reducible refine wpAny_bind ?_; k_node; with_reducible refine wpAny_bind ?_; k_node; k_node; with_reducible refine wpAny_bind ?_; with_reducible refine wpAny_load (by assumption) ?_; k_node; with_reducible refine wpAny_pure ?_; k_node
  with_reducible refine wpAny_pure ?_; with_reducible refine wpAny_bind ?_; k_node; with_reducible refine wpAny_bind ?_; k_node; k_node; with_reducible refine wpAny_bind ?_; with_reducible refine wpAny_load (by assumption) ?_; k_node; with_reducible refine wpAny_pure ?_; k_node
  with_reducible refine wpAny_pure ?_; with_reducible refine wpAny_bind ?_; k_node; with_reducible refine wpAny_bind ?_; k_node; k_node; with_reducible refine wpAny_bind ?_; with_reducible refine wpAny_load (by assumption) ?_; k_node; with_reducible refine wpAny_pure ?_; k_node
  with_reducible refine wpAny_pure ?_; k_node; with_reducible refine wpAny_bind ?_; k_node; with_reducible refine wpAny_bind ?_; k_node; k_node; with_reducible refine wpAny_bind ?_; k_node; with_reducible refine wpAny_bind ?_; with_reducible refine Looks.at (by assumption) ?_
  with_reducible refine wpAny_pure ?_; k_node; with_reducible refine wpAny_pure ?_; k_node; with_reducible refine wpAny_pure ?_; k_node; k_node; k_node; with_reducible refine wpAny_bind ?_; k_node; k_node; with_reducible refine wpAny_bind ?_; k_node; with_reducible refine wpAny_bind ?_
  with_reducible refine wpAny_load (by assumption) ?_; k_node; with_reducible refine wpAny_pure ?_; with_reducible refine wpAny_pure ?_; k_node; with_reducible refine wpAny_bind ?_
  rw [show (List.drop 1 (List.dropWhile (fun x => x != #[Value.ref C, Value.ref C, Value.ref C][0]) [Value.ref C, Value.type "object"])) = [Value.type "object"] from by
    rw [List.dropWhile_cons_of_neg (by simp)]; rfl]
  k_node; k_node; k_node; k_node; k_node; k_node; k_node; with_reducible refine wpAny_bind ?_; k_node; with_reducible refine wpAny_bind ?_; k_node; k_node; with_reducible refine wpAny_pure ?_; k_node; with_reducible refine wpAny_bind ?_; k_node; k_node; k_node; k_node; k_node
  with_reducible refine wpAny_pure ?_; with_reducible refine wpAny_bind ?_; k_node; with_reducible refine wpAny_bind ?_; k_node; k_node; with_reducible refine wpAny_pure ?_; with_reducible refine wpAny_bind ?_; k_node; k_node; k_node; k_node; k_node; k_node; k_node; with_reducible refine wpAny_bind ?_
  k_node; with_reducible refine wpAny_bind ?_; k_node; k_node; with_reducible refine wpAny_pure ?_; k_node; with_reducible refine wpAny_pure ?_; k_node; with_reducible refine wpAny_pure ?_; k_node; with_reducible refine wpAny_pure ?_; k_node; with_reducible refine wpAny_bind ?_
  with_reducible refine wpAny_holding ?_; with_reducible refine wpAny_call ?_
  rw [if_pos (show (#[Value.ref C, Value.ref C, Value.ref C][1] == #[Value.ref C, Value.ref C, Value.ref C][2]) = true from (show (Value.ref C == Value.ref C) = true from by simp))]
  refine codeAny_call_builtin_at (id := "classmethod_descriptor.__get__") (b := Builtin.«classmethod_descriptor.__get__») (Code.quiet_builtin _ (by decide +kernel)) (entryFor_of_tree (by kernel_rfl)) ?_
  k_node; k_node; with_reducible refine wpAny_bind ?_; k_node; with_reducible refine wpAny_bind ?_; k_node; k_node; k_node; k_node; k_node; with_reducible refine wpAny_pure ?_; k_node; with_reducible refine wpAny_bind ?_; k_node; k_node; with_reducible refine wpAny_pure ?_; k_node
  with_reducible refine wpAny_pure ?_; k_node; k_node; k_node; k_node; with_reducible refine wpAny_bind ?_; k_node; k_node; with_reducible refine wpAny_pure ?_; with_reducible refine wpAny_bind ?_; k_node; k_node; with_reducible refine wpAny_pure ?_; k_node; with_reducible refine wpAny_onRaise ?_
  k_node; k_node; k_node; k_node; k_node; k_node; k_node; k_node; k_node; with_reducible refine wpAny_pure ?_; k_node; with_reducible refine wpAny_bind ?_; k_node; k_node; k_node; k_node; with_reducible refine wpAny_bind ?_; with_reducible refine wpAny_pure ?_; k_node; k_node; k_node
  with_reducible refine wpAny_pure ?_; k_node; with_reducible refine wpAny_bind ?_; with_reducible refine wpAny_pure ?_; k_node; with_reducible refine wpAny_bind ?_; k_node; k_node; with_reducible refine wpAny_bind ?_; k_node; with_reducible refine wpAny_loadPart (by assumption) ?_
  with_reducible refine wpAny_pure ?_; k_node; k_node; k_node; with_reducible refine wpAny_bind ?_; k_node; with_reducible refine wpAny_bind ?_; k_node; k_node; with_reducible refine wpAny_bind ?_; k_node; with_reducible refine wpAny_bind ?_; with_reducible refine wpAny_load (by assumption) ?_; k_node
  with_reducible refine wpAny_pure ?_; with_reducible refine wpAny_pure ?_; k_node; k_node; k_node; with_reducible refine wpAny_pure ?_; k_node; k_node; k_node; with_reducible refine wpAny_bind ?_; k_node; k_node; k_node; k_node; k_node; k_node; with_reducible refine wpAny_bind ?_
  refine al fun h1 b k1 e1 n1 => ?_
  k_node; with_reducible refine wpAny_pure ?_; k_node; with_reducible refine wpAny_pure ?_; with_reducible refine wpAny_bind ?_; k_node; with_reducible refine wpAny_pure ?_; with_reducible refine wpAny_pure ?_; k_node; with_reducible refine wpAny_pure ?_; k_node; with_reducible refine wpAny_pure ?_
  k_node; k_node; k_node; with_reducible refine wpAny_pure ?_
  exact q h1 b _ k1 e1
theorem c_initsub {C T ns b : Addr} {tn tq : Tok} {R : Result → Shared → Prop} (eC : h.get? C = some (clsObj C T ns tn tq)) (eB : h.get? b = some (bmObj "object.__init_subclass__" (.ref C)))
    (q : R (.ok (.ret .none)) ⟨h, g, d, t, os⟩) :
    codeAny (model prog w) A (.call (.ref b) ⟨[], []⟩) R ⟨h, g, d, t, os⟩ := by
  refine codeAny_of_tree ?_
  show wpAny _ _ (callAny (.ref b) _) _ _ _
  unfold callAny
  k_node; with_reducible refine wpAny_bind ?_; with_reducible refine wpAny_load (by assumption) ?_; k_node; k_node; k_node; k_node; with_reducible refine wpAny_bind ?_; k_node; k_node; k_node; k_node; with_reducible refine wpAny_bind ?_; k_node; with_reducible refine wpAny_bind ?_; k_node; k_node
  with_reducible refine wpAny_bind ?_; with_reducible refine wpAny_loadPart (by assumption) ?_; with_reducible refine wpAny_pure ?_; k_node; with_reducible refine wpAny_bind ?_; k_node; k_node; with_reducible refine wpAny_pure ?_; k_node; with_reducible refine wpAny_pure ?_; k_node
  with_reducible refine wpAny_bind ?_; k_node; k_node; with_reducible refine wpAny_bind ?_; k_node; with_reducible refine wpAny_loadPart (by assumption) ?_; with_reducible refine wpAny_pure ?_; k_node; k_node; with_reducible refine wpAny_bind ?_; with_reducible refine wpAny_pure ?_; k_node
  with_reducible refine wpAny_bind ?_; k_node; with_reducible refine wpAny_bind ?_; with_reducible refine wpAny_load (by assumption) ?_; k_node; with_reducible refine wpAny_pure ?_; k_node; with_reducible refine wpAny_bind ?_; k_node; k_node; with_reducible refine wpAny_bind ?_
  with_reducible refine wpAny_loadPart (by assumption) ?_; with_reducible refine wpAny_pure ?_; k_node; k_node; k_node; with_reducible refine wpAny_bind ?_; k_node; k_node; with_reducible refine wpAny_pure ?_; with_reducible refine wpAny_bind ?_; k_node; k_node; with_reducible refine wpAny_pure ?_
  k_node; with_reducible refine wpAny_onRaise ?_; k_node; k_node; k_node; k_node; k_node; with_reducible refine wpAny_pure ?_; k_node; with_reducible refine wpAny_pure ?_
  refine And.intro (Code.quiet_builtin _ (by decide +kernel)) (codeAny_builtin (id := "object.__init_subclass__") (b := Builtin.«object.__init_subclass__») (entryFor_of_tree (by kernel_rfl)) ?_)
  k_node; k_node; k_node; k_node; with_reducible refine wpAny_pure ?_
  exact q
end

section
variable {prog : Program} {w : World} {A : Around} {E : Value → Shared → Prop} {g₀ : Heap} {mg mb : Str → Option Value} {h : Heap} {g : Array GenState} {d : Drawn} {t : Nat} {os : OsState}
abbrev kv12 (m0 q0 l0 : Value) (sl fI fL fG fE fe fg st : Addr) : List (Str × Value) := [("__module__", m0), ("__qualname__", q0), ("__firstlineno__", l0), ("__slots__", .ref sl), ("__init__", .ref fI), ("__lt__", .ref fL), ("__gt__", .ref fG), ("__eq__", .ref fE), ("__le__", .ref fe), ("__ge__", .ref fg), ("__hash__", .none), ("__static_attributes__", .ref st)]
abbrev kv13 (m0 l0 : Value) (sl fI fL fG fE fe fg st mb : Addr) : List (Str × Value) := [("__module__", m0), ("__firstlineno__", l0), ("__slots__", .ref sl), ("__init__", .ref fI), ("__lt__", .ref fL), ("__gt__", .ref fG), ("__eq__", .ref fE), ("__le__", .ref fe), ("__ge__", .ref fg), ("__hash__", .none), ("__static_attributes__", .ref st), ("obj", .ref mb), ("__doc__", .none)]
abbrev memObj (C : Addr) (tk : Tok) : Obj := { cls := .type "member_descriptor", data := .fields #[.str "obj" tk, .ref C, .builtin "proto.slot", .builtin "proto.slot#set", .int 0 0] }
theorem Kd.inv {es : List DictEntry} {k : Str} {v : Value} {kvs : List (Str × Value)} (x : Kd es ((k, v) :: kvs)) : ∃ hsh t es', es = ⟨hsh, .str k t, v⟩ :: es' ∧ Kd es' kvs := by
  cases x with
  | cons y => exact ⟨_, _, _, rfl, y⟩
theorem Dct.mk' {h : Heap} {a : Addr} {es : List DictEntry} {n : Nat} {kvs : List (Str × Value)} (e : h.get? a = some (dictOf es n)) (k : Kd es kvs) : Dct h a kvs := ⟨es, n, e, k⟩
theorem tnew {T nsA : Addr} {tn tm tq tl ts : Tok} {l0 : Int} {sl fI fL fG fE fe fg st : Addr} {es : List DictEntry} {n : Nat} {R : Result → Shared → Prop} (eT : h.get? T = some { cls := .type "tuple", data := .seq #[.type "object"] })
    (eN : h.get? nsA = some (dictOf es n)) (kd : Kd es (kv12 (.str "cpy313.functools" tm) (.str qK tq) (.int l0 tl) sl fI fL fG fE fe fg st)) (hm : (nsA == sysModules) = false) (eS : LS h sl #[.str "obj" ts]) {dI dL dG dE de dg : FuncData} {stv : Array Value} (eI : h.get? fI = some { cls := .type "function", data := .func dI }) (eL : h.get? fL = some { cls := .type "function", data := .func dL })
    (eG : h.get? fG = some { cls := .type "function", data := .func dG }) (eE : h.get? fE = some { cls := .type "function", data := .func dE }) (ee : h.get? fe = some { cls := .type "function", data := .func de }) (eg : h.get? fg = some { cls := .type "function", data := .func dg })
    (et : h.get? st = some { cls := .type "tuple", data := .seq stv }) (tp : Looks (model prog w) h (nsGet cStatics "thirdparty.any") none)
    (q : ∀ h' C ns mb tk t', Keep h h' → h.get? C = none ∧ h.get? ns = none → h'.get? C = some (clsObj C T ns tn tq) → Dct h' ns (kv13 (.str "cpy313.functools" tm) (.int l0 tl) sl fI fL fG fE fe fg st mb) → h'.get? mb = some (memObj C tk) → R (.ok (.ret (.ref C))) ⟨h', g, d, t', os⟩) :
    codeAny (model prog w) A (.call (.builtin "type.__new__") ⟨[.type "type", .str "K" tn, .ref T, .ref nsA], []⟩) R ⟨h, g, d, t, os⟩ := by
  refine codeAny_call_builtin_at (id := "type.__new__") (b := Builtin.«type.__new__») (Code.quiet_builtin _ (by decide +kernel)) (entryFor_of_tree (by kernel_rfl)) ?_
  k_node; k_node; k_node; k_node; with_reducible refine wpAny_bind ?_; k_node; k_node; with_reducible refine wpAny_pure ?_; k_node; k_node; k_node; with_reducible refine wpAny_bind ?_; k_node; with_reducible refine wpAny_bind ?_; k_node; k_node; with_reducible refine wpAny_pure ?_; k_node
  with_reducible refine wpAny_pure ?_; k_node; k_node; k_node; k_node; k_node; with_reducible refine wpAny_bind ?_; k_node; k_node; with_reducible refine wpAny_bind ?_; k_node; k_node; with_reducible refine wpAny_pure ?_; with_reducible refine wpAny_bind ?_; k_node; k_node; k_node; k_node; k_node
  k_node; k_node; with_reducible refine wpAny_bind ?_; k_node; with_reducible refine wpAny_bind ?_; k_node; k_node; with_reducible refine wpAny_bind ?_; k_node; k_node; with_reducible refine wpAny_pure ?_; with_reducible refine wpAny_bind ?_; k_node; k_node; k_node; k_node; k_node; k_node; k_node
  with_reducible refine wpAny_bind ?_; k_node; with_reducible refine wpAny_bind ?_; k_node; with_reducible refine wpAny_bind ?_; k_node; k_node; with_reducible refine wpAny_pure ?_; with_reducible refine wpAny_bind ?_; k_node; k_node; k_node; k_node; k_node; k_node; k_node
  with_reducible refine wpAny_bind ?_; k_node; with_reducible refine wpAny_bind ?_; k_node; k_node; with_reducible refine wpAny_pure ?_; k_node; with_reducible refine wpAny_pure ?_; k_node; with_reducible refine wpAny_pure ?_; k_node; with_reducible refine wpAny_pure ?_; k_node
  with_reducible refine if_f (by decide +kernel) ?_; k_node; with_reducible refine wpAny_pure ?_; k_node; with_reducible refine wpAny_pure ?_; k_node; with_reducible refine wpAny_pure ?_; k_node; with_reducible refine wpAny_pure ?_; k_node; with_reducible refine wpAny_pure ?_; k_node
  with_reducible refine wpAny_pure ?_; with_reducible refine wpAny_bind ?_; k_node; k_node; with_reducible refine wpAny_bind ?_; k_node; k_node; with_reducible refine wpAny_pure ?_; with_reducible refine wpAny_bind ?_; k_node; k_node; k_node; k_node; k_node; k_node; k_node
  with_reducible refine wpAny_bind ?_; k_node; with_reducible refine wpAny_bind ?_; k_node; with_reducible refine wpAny_bind ?_; k_node; k_node; with_reducible refine wpAny_pure ?_; with_reducible refine wpAny_bind ?_; k_node; k_node; k_node; k_node; k_node; k_node; k_node
  with_reducible refine wpAny_bind ?_; k_node; with_reducible refine wpAny_bind ?_; k_node; k_node; with_reducible refine wpAny_pure ?_; k_node; with_reducible refine wpAny_pure ?_; k_node; with_reducible refine wpAny_pure ?_; k_node; with_reducible refine wpAny_pure ?_; k_node
  with_reducible refine if_f (by decide +kernel) ?_; k_node; with_reducible refine wpAny_pure ?_; k_node; with_reducible refine wpAny_pure ?_; k_node; with_reducible refine wpAny_pure ?_; k_node; k_node; k_node; k_node; k_node; with_reducible refine wpAny_bind ?_; k_node; k_node
  with_reducible refine wpAny_pure ?_; with_reducible refine wpAny_bind ?_; k_node; k_node; with_reducible refine wpAny_pure ?_; k_node; with_reducible refine wpAny_onRaise ?_; k_node; k_node; with_reducible refine wpAny_pure ?_; k_node; k_node; with_reducible refine wpAny_bind ?_; k_node; k_node
  with_reducible refine wpAny_pure ?_; k_node; with_reducible refine wpAny_bind ?_; k_node; with_reducible refine wpAny_bind ?_; k_node; k_node; with_reducible refine wpAny_bind ?_; with_reducible refine wpAny_loadPart (by assumption) ?_; with_reducible refine wpAny_pure ?_; k_node
  with_reducible refine wpAny_bind ?_; k_node; k_node; with_reducible refine wpAny_pure ?_; k_node; with_reducible refine wpAny_pure ?_; k_node; k_node; k_node; with_reducible refine wpAny_bind ?_; k_node; with_reducible refine wpAny_bind ?_; k_node; k_node; with_reducible refine wpAny_bind ?_
  with_reducible refine wpAny_loadPart (by assumption) ?_; with_reducible refine wpAny_pure ?_; k_node; with_reducible refine wpAny_bind ?_; k_node; k_node; with_reducible refine wpAny_pure ?_; k_node; with_reducible refine wpAny_pure ?_; k_node; k_node; k_node; with_reducible refine wpAny_bind ?_
  k_node; k_node; with_reducible refine wpAny_bind ?_; with_reducible refine wpAny_load (by assumption) ?_; k_node; with_reducible refine wpAny_pure ?_; k_node; k_node; k_node; with_reducible refine wpAny_bind ?_; k_node; k_node; k_node; k_node; k_node; k_node; k_node
  with_reducible refine wpAny_bind ?_; k_node; with_reducible refine wpAny_bind ?_; k_node; k_node; with_reducible refine wpAny_pure ?_; k_node; with_reducible refine wpAny_pure ?_; k_node; k_node; with_reducible refine wpAny_pure ?_; k_node; with_reducible refine wpAny_bind ?_; k_node; k_node; k_node
  k_node; k_node; k_node; k_node; with_reducible refine wpAny_bind ?_; k_node; with_reducible refine wpAny_bind ?_; k_node; k_node; with_reducible refine wpAny_pure ?_; with_reducible refine wpAny_bind ?_; k_node; with_reducible refine wpAny_bind ?_; k_node; k_node; with_reducible refine wpAny_pure ?_
  k_node; with_reducible refine wpAny_pure ?_; k_node; with_reducible refine wpAny_pure ?_; k_node; k_node; with_reducible refine wpAny_pure ?_; k_node; k_node; k_node; with_reducible refine wpAny_bind ?_; k_node; with_reducible refine wpAny_bind ?_; k_node; k_node; k_node; k_node; k_node; k_node
  k_node; with_reducible refine wpAny_bind ?_; k_node; with_reducible refine wpAny_bind ?_; k_node; k_node; with_reducible refine wpAny_pure ?_; k_node; with_reducible refine wpAny_bind ?_; k_node; k_node; with_reducible refine wpAny_pure ?_; with_reducible refine wpAny_bind ?_; k_node; k_node; k_node
  k_node; k_node; k_node; k_node; with_reducible refine wpAny_bind ?_; k_node; with_reducible refine wpAny_pure ?_; k_node; k_node; k_node; with_reducible refine wpAny_bind ?_; k_node; with_reducible refine wpAny_pure ?_; k_node; k_node; with_reducible refine wpAny_pure ?_
  with_reducible refine wpAny_pure ?_; k_node; k_node; with_reducible refine wpAny_pure ?_; with_reducible refine wpAny_pure ?_; with_reducible refine wpAny_bind ?_; k_node; k_node; with_reducible refine wpAny_bind ?_; k_node; k_node; k_node; k_node; k_node; k_node; k_node
  with_reducible refine wpAny_bind ?_; k_node; k_node; k_node; k_node; k_node; k_node; k_node; with_reducible refine wpAny_bind ?_; k_node; with_reducible refine wpAny_bind ?_; k_node; k_node; with_reducible refine wpAny_pure ?_; with_reducible refine wpAny_bind ?_; k_node; k_node; k_node; k_node
  k_node; k_node; k_node; with_reducible refine wpAny_bind ?_; k_node; with_reducible refine wpAny_bind ?_; k_node; k_node; with_reducible refine wpAny_pure ?_; k_node; k_node; k_node; with_reducible refine wpAny_pure ?_; k_node; with_reducible refine wpAny_pure ?_; k_node
  with_reducible refine wpAny_pure ?_; with_reducible refine wpAny_bind ?_; k_node; with_reducible refine wpAny_bind ?_; k_node; k_node; with_reducible refine wpAny_pure ?_; k_node; with_reducible refine wpAny_pure ?_; k_node; with_reducible refine wpAny_pure ?_; k_node; k_node
  with_reducible refine wpAny_pure ?_; k_node; k_node; with_reducible refine wpAny_bind ?_; k_node; k_node; k_node; k_node; k_node; k_node; k_node; with_reducible refine wpAny_bind ?_; k_node; with_reducible refine wpAny_bind ?_; k_node; with_reducible refine wpAny_bind ?_; k_node; k_node
  with_reducible refine wpAny_pure ?_; with_reducible refine wpAny_bind ?_; k_node; k_node; k_node; k_node; k_node; k_node; k_node; with_reducible refine wpAny_bind ?_; k_node; with_reducible refine wpAny_bind ?_; k_node; k_node; with_reducible refine wpAny_pure ?_; k_node; k_node; k_node
  with_reducible refine wpAny_pure ?_; k_node; with_reducible refine wpAny_pure ?_; k_node; with_reducible refine wpAny_pure ?_; k_node; with_reducible refine wpAny_pure ?_; k_node; k_node; with_reducible refine wpAny_pure ?_; k_node; with_reducible refine wpAny_pure ?_; k_node
  refine if_f (by rw [hm]; decide) ?_
  k_node; with_reducible refine wpAny_bind ?_; k_node; with_reducible refine wpAny_bind ?_; with_reducible refine wpAny_loadPart (by assumption) ?_; k_node; with_reducible refine wpAny_pure ?_; with_reducible refine wpAny_bind ?_; k_node; with_reducible refine wpAny_bind ?_; k_node; k_node
  with_reducible refine wpAny_bind ?_; with_reducible refine wpAny_loadPart (by assumption) ?_; with_reducible refine wpAny_pure ?_; k_node; with_reducible refine wpAny_bind ?_; k_node; k_node; with_reducible refine wpAny_pure ?_; with_reducible refine wpAny_bind ?_; k_node; k_node; k_node; k_node
  k_node; k_node; k_node; with_reducible refine wpAny_bind ?_; k_node; with_reducible refine wpAny_bind ?_; k_node; k_node; with_reducible refine wpAny_pure ?_; k_node; with_reducible refine wpAny_pure ?_; k_node; with_reducible refine wpAny_pure ?_; k_node; with_reducible refine wpAny_pure ?_; k_node
  refine if_t (by rw [Bool.or_eq_true]; exact .inr (by decide +kernel)) ?_
  with_reducible refine wpAny_bind ?_; with_reducible refine wpAny_pure ?_; k_node; with_reducible refine wpAny_bind ?_; with_reducible refine wpAny_holding ?_
  obtain ⟨en, hf, hv⟩ := find_kd kd (k := "__slots__") (v := .ref sl) rfl
  refine sl_read hf hv (has_kd kd _) eS fun h1 t1 k1 => ?_
  obtain ⟨nS, eS⟩ := eS
  replace eS : h.get? sl = some { cls := .type "list", data := .seq #[.str "obj" ts] nS } := eS
  replace eT := k1 _ _ eT; replace eN := k1 _ _ eN; replace eI := k1 _ _ eI; replace eL := k1 _ _ eL; replace eG := k1 _ _ eG; replace eE := k1 _ _ eE; replace ee := k1 _ _ ee; replace eg := k1 _ _ eg; replace et := k1 _ _ et; replace eS := k1 _ _ eS
  with_reducible refine wpAny_bind ?_; k_node; k_node
  refine if_f (by rw [List.size_toArray, kd.len, sizeLine_eq]; exact Nat.not_lt_of_le (Nat.le_of_ble_eq_true rfl)) ?_
  k_node; k_node; with_reducible refine wpAny_bind ?_
  refine al fun h2 ns k2 eD n2 => ?_
  have := New.ne n2 eT; have := New.ne n2 eN; have := New.ne n2 eI; have := New.ne n2 eL; have := New.ne n2 eG; have := New.ne n2 eE; have := New.ne n2 ee; have := New.ne n2 eg; have := New.ne n2 et; have := New.ne n2 eS
  replace eT := k2 _ _ eT; replace eN := k2 _ _ eN; replace eI := k2 _ _ eI; replace eL := k2 _ _ eL; replace eG := k2 _ _ eG; replace eE := k2 _ _ eE; replace ee := k2 _ _ ee; replace eg := k2 _ _ eg; replace et := k2 _ _ et; replace eS := k2 _ _ eS
  k_node; with_reducible refine wpAny_pure ?_; k_node
  have hasM : es.toArray.any (fun x => x.key.isStr "__module__") = true := has_kd kd _
  have hasD : es.toArray.any (fun x => x.key.isStr "__del__") = false := has_kd kd _
  have dN : Dct h2 ns _ := ⟨es, 0, eD, kd⟩
  refine if_f (by show ¬(!(es.toArray.any (fun x => x.key.isStr "__module__"))) = true; rw [hasM]; decide) ?_
  k_node; with_reducible refine wpAny_bind ?_; k_node; with_reducible refine if_f (by decide +kernel) ?_; with_reducible refine wpAny_pure ?_; k_node; with_reducible refine if_f (by decide +kernel) ?_; k_node; with_reducible refine wpAny_bind ?_; with_reducible refine d_get (by assumption) ?_; k_node
  with_reducible refine wpAny_bind ?_; with_reducible refine d_get (by assumption) ?_; k_node; with_reducible refine wpAny_bind ?_; k_node; k_node; with_reducible refine wpAny_pure ?_; k_node; with_reducible refine wpAny_bind ?_; with_reducible refine wpAny_pure ?_; k_node
  with_reducible refine wpAny_bind ?_; with_reducible refine d_get (by assumption) ?_; k_node; with_reducible refine wpAny_bind ?_
  refine al fun h3 C k3 eC n3 => ?_
  replace eC : h3.get? C = some ⟨.type "type", none, .cls { name := "K", bases := [.type "object"], mro := [], ns := ns, qualname := qK }, #[]⟩ := eC
  have := New.ne n3 eD; have := New.ne n3 eT; have := New.ne n3 eN; have := New.ne n3 eI; have := New.ne n3 eL; have := New.ne n3 eG; have := New.ne n3 eE; have := New.ne n3 ee; have := New.ne n3 eg; have := New.ne n3 et; have := New.ne n3 eS
  replace eD := k3 _ _ eD; replace eT := k3 _ _ eT; replace eN := k3 _ _ eN; replace eI := k3 _ _ eI; replace eL := k3 _ _ eL; replace eG := k3 _ _ eG; replace eE := k3 _ _ eE; replace ee := k3 _ _ ee; replace eg := k3 _ _ eg; replace et := k3 _ _ et; replace eS := k3 _ _ eS
  replace dN := Dct.keeps dN k3
  clear eD
  k_node; k_node; with_reducible refine wpAny_bind ?_
  refine slot_up (sl' := #[some (.ref T)]) eC rfl fun h4 eC4 s4 => ?_
  replace eT := ((s4).2 _ (by first | assumption | exact Ne.symm (by assumption))).trans eT; replace eN := ((s4).2 _ (by first | assumption | exact Ne.symm (by assumption))).trans eN; replace eI := ((s4).2 _ (by first | assumption | exact Ne.symm (by assumption))).trans eI
  replace eL := ((s4).2 _ (by first | assumption | exact Ne.symm (by assumption))).trans eL; replace eG := ((s4).2 _ (by first | assumption | exact Ne.symm (by assumption))).trans eG; replace eE := ((s4).2 _ (by first | assumption | exact Ne.symm (by assumption))).trans eE
  replace ee := ((s4).2 _ (by first | assumption | exact Ne.symm (by assumption))).trans ee; replace eg := ((s4).2 _ (by first | assumption | exact Ne.symm (by assumption))).trans eg; replace et := ((s4).2 _ (by first | assumption | exact Ne.symm (by assumption))).trans et
  replace eS := ((s4).2 _ (by first | assumption | exact Ne.symm (by assumption))).trans eS; replace dN := Dct.su dN s4 (by first | assumption | exact Ne.symm (by assumption))
  clear eC
  k_node; with_reducible refine wpAny_bind ?_
  refine slot_up (sl' := #[some (.ref T), none, some (.str "K" tn)]) eC4 rfl fun h5 eC5 s5 => ?_
  replace eT := ((s5).2 _ (by first | assumption | exact Ne.symm (by assumption))).trans eT; replace eN := ((s5).2 _ (by first | assumption | exact Ne.symm (by assumption))).trans eN; replace eI := ((s5).2 _ (by first | assumption | exact Ne.symm (by assumption))).trans eI
  replace eL := ((s5).2 _ (by first | assumption | exact Ne.symm (by assumption))).trans eL; replace eG := ((s5).2 _ (by first | assumption | exact Ne.symm (by assumption))).trans eG; replace eE := ((s5).2 _ (by first | assumption | exact Ne.symm (by assumption))).trans eE
  replace ee := ((s5).2 _ (by first | assumption | exact Ne.symm (by assumption))).trans ee; replace eg := ((s5).2 _ (by first | assumption | exact Ne.symm (by assumption))).trans eg; replace et := ((s5).2 _ (by first | assumption | exact Ne.symm (by assumption))).trans et
  replace eS := ((s5).2 _ (by first | assumption | exact Ne.symm (by assumption))).trans eS; replace dN := Dct.su dN s5 (by first | assumption | exact Ne.symm (by assumption))
  clear eC4
  k_node; with_reducible refine wpAny_bind ?_
  refine slot_up (sl' := #[some (.ref T), none, some (.str "K" tn), some (.str qK tq)]) eC5 rfl fun h6 eC6 s6 => ?_
  replace eT := ((s6).2 _ (by first | assumption | exact Ne.symm (by assumption))).trans eT; replace eN := ((s6).2 _ (by first | assumption | exact Ne.symm (by assumption))).trans eN; replace eI := ((s6).2 _ (by first | assumption | exact Ne.symm (by assumption))).trans eI
  replace eL := ((s6).2 _ (by first | assumption | exact Ne.symm (by assumption))).trans eL; replace eG := ((s6).2 _ (by first | assumption | exact Ne.symm (by assumption))).trans eG; replace eE := ((s6).2 _ (by first | assumption | exact Ne.symm (by assumption))).trans eE
  replace ee := ((s6).2 _ (by first | assumption | exact Ne.symm (by assumption))).trans ee; replace eg := ((s6).2 _ (by first | assumption | exact Ne.symm (by assumption))).trans eg; replace et := ((s6).2 _ (by first | assumption | exact Ne.symm (by assumption))).trans et
  replace eS := ((s6).2 _ (by first | assumption | exact Ne.symm (by assumption))).trans eS; replace dN := Dct.su dN s6 (by first | assumption | exact Ne.symm (by assumption))
  clear eC5
  k_node; with_reducible refine wpAny_bind ?_
  refine d_del dN (fun h7 b d7 s7 => ?_) rfl
  replace eC6 := ((s7).2 _ (by first | assumption | exact Ne.symm (by assumption))).trans eC6; replace eT := ((s7).2 _ (by first | assumption | exact Ne.symm (by assumption))).trans eT; replace eN := ((s7).2 _ (by first | assumption | exact Ne.symm (by assumption))).trans eN
  replace eI := ((s7).2 _ (by first | assumption | exact Ne.symm (by assumption))).trans eI; replace eL := ((s7).2 _ (by first | assumption | exact Ne.symm (by assumption))).trans eL; replace eG := ((s7).2 _ (by first | assumption | exact Ne.symm (by assumption))).trans eG
  replace eE := ((s7).2 _ (by first | assumption | exact Ne.symm (by assumption))).trans eE; replace ee := ((s7).2 _ (by first | assumption | exact Ne.symm (by assumption))).trans ee; replace eg := ((s7).2 _ (by first | assumption | exact Ne.symm (by assumption))).trans eg
  replace et := ((s7).2 _ (by first | assumption | exact Ne.symm (by assumption))).trans et; replace eS := ((s7).2 _ (by first | assumption | exact Ne.symm (by assumption))).trans eS
  clear dN
  with_reducible refine wpAny_bind ?_; with_reducible refine d_get (by assumption) ?_; k_node; with_reducible refine wpAny_bind ?_; k_node; k_node; k_node; k_node; k_node; k_node; k_node; with_reducible refine wpAny_bind ?_; k_node; with_reducible refine wpAny_bind ?_
  with_reducible refine d_get (by assumption) ?_; k_node; with_reducible refine wpAny_pure ?_; k_node; k_node; k_node; with_reducible refine wpAny_bind ?_; k_node; with_reducible refine wpAny_bind ?_; with_reducible refine d_get (by assumption) ?_; k_node; with_reducible refine wpAny_pure ?_; k_node
  k_node; with_reducible refine wpAny_pure ?_; with_reducible refine wpAny_bind ?_; with_reducible refine d_get (by assumption) ?_; k_node; with_reducible refine wpAny_bind ?_; with_reducible refine d_get (by assumption) ?_; k_node; with_reducible refine wpAny_bind ?_; k_node
  with_reducible refine wpAny_bind ?_; k_node; with_reducible refine wpAny_bind ?_; k_node; k_node; with_reducible refine wpAny_pure ?_; with_reducible refine wpAny_bind ?_; k_node; k_node; k_node; k_node; k_node; k_node; k_node; with_reducible refine wpAny_bind ?_; k_node
  with_reducible refine wpAny_bind ?_; k_node; k_node; with_reducible refine wpAny_pure ?_; k_node; with_reducible refine wpAny_pure ?_; k_node; with_reducible refine wpAny_pure ?_; k_node; with_reducible refine wpAny_pure ?_; k_node; with_reducible refine wpAny_pure ?_; k_node
  with_reducible refine wpAny_bind ?_; k_node; with_reducible refine wpAny_bind ?_; k_node; k_node; with_reducible refine wpAny_bind ?_; k_node; k_node; with_reducible refine wpAny_pure ?_; k_node; with_reducible refine wpAny_pure ?_; with_reducible refine wpAny_bind ?_; k_node; k_node; k_node; k_node
  k_node; k_node; k_node; with_reducible refine wpAny_bind ?_; k_node; k_node; with_reducible refine wpAny_pure ?_; k_node; k_node; with_reducible refine wpAny_pure ?_; k_node; with_reducible refine wpAny_pure ?_; with_reducible refine wpAny_bind ?_; with_reducible refine wpAny_pure ?_; k_node
  with_reducible refine wpAny_bind ?_
  rw [show List.filter (fun x => x != Value.ref C) (Value.ref C :: (fun x => Value.type "object" :: x) []) = [Value.type "object"] from (List.filter_cons_of_neg (by simp)).trans ((List.filter_cons_of_pos rfl).trans rfl)]
  clear kd hf hv hm
  k_node; with_reducible refine wpAny_bind ?_; k_node; with_reducible refine wpAny_pure ?_; k_node; k_node; with_reducible refine wpAny_pure ?_; with_reducible refine wpAny_bind ?_
  refine cls_up eC6 (fun h8 eC8 s8 => ?_) rfl
  replace d7 := Dct.su d7 s8 (by first | assumption | exact Ne.symm (by assumption)); replace eT := ((s8).2 _ (by first | assumption | exact Ne.symm (by assumption))).trans eT; replace eN := ((s8).2 _ (by first | assumption | exact Ne.symm (by assumption))).trans eN
  replace eI := ((s8).2 _ (by first | assumption | exact Ne.symm (by assumption))).trans eI; replace eL := ((s8).2 _ (by first | assumption | exact Ne.symm (by assumption))).trans eL; replace eG := ((s8).2 _ (by first | assumption | exact Ne.symm (by assumption))).trans eG
  replace eE := ((s8).2 _ (by first | assumption | exact Ne.symm (by assumption))).trans eE; replace ee := ((s8).2 _ (by first | assumption | exact Ne.symm (by assumption))).trans ee; replace eg := ((s8).2 _ (by first | assumption | exact Ne.symm (by assumption))).trans eg
  replace et := ((s8).2 _ (by first | assumption | exact Ne.symm (by assumption))).trans et; replace eS := ((s8).2 _ (by first | assumption | exact Ne.symm (by assumption))).trans eS
  clear eC6
  with_reducible refine wpAny_bind ?_; k_node; k_node; with_reducible refine wpAny_bind ?_; k_node; k_node; with_reducible refine wpAny_pure ?_; with_reducible refine wpAny_bind ?_; k_node; k_node; k_node; k_node; k_node; k_node; k_node; with_reducible refine wpAny_bind ?_; k_node
  with_reducible refine wpAny_bind ?_; k_node; with_reducible refine wpAny_bind ?_; k_node; k_node; with_reducible refine wpAny_pure ?_; with_reducible refine wpAny_bind ?_; k_node; k_node; k_node; k_node; k_node; k_node; k_node; with_reducible refine wpAny_bind ?_; k_node
  with_reducible refine wpAny_bind ?_; k_node; k_node; with_reducible refine wpAny_pure ?_; k_node; with_reducible refine wpAny_pure ?_; k_node; with_reducible refine wpAny_pure ?_; k_node; with_reducible refine wpAny_pure ?_; k_node; with_reducible refine if_f (by decide +kernel) ?_; k_node
  with_reducible refine wpAny_pure ?_; k_node; with_reducible refine wpAny_pure ?_; k_node; with_reducible refine wpAny_pure ?_; with_reducible refine wpAny_bind ?_
  refine slot_up (sl' := #[some (.ref T), none, some (.str "K" tn), some (.str qK tq), some (.builtin "object.__new__")]) eC8 rfl fun h9 eC9 s9 => ?_
  replace d7 := Dct.su d7 s9 (by first | assumption | exact Ne.symm (by assumption)); replace eT := ((s9).2 _ (by first | assumption | exact Ne.symm (by assumption))).trans eT; replace eN := ((s9).2 _ (by first | assumption | exact Ne.symm (by assumption))).trans eN
  replace eI := ((s9).2 _ (by first | assumption | exact Ne.symm (by assumption))).trans eI; replace eL := ((s9).2 _ (by first | assumption | exact Ne.symm (by assumption))).trans eL; replace eG := ((s9).2 _ (by first | assumption | exact Ne.symm (by assumption))).trans eG
  replace eE := ((s9).2 _ (by first | assumption | exact Ne.symm (by assumption))).trans eE; replace ee := ((s9).2 _ (by first | assumption | exact Ne.symm (by assumption))).trans ee; replace eg := ((s9).2 _ (by first | assumption | exact Ne.symm (by assumption))).trans eg
  replace et := ((s9).2 _ (by first | assumption | exact Ne.symm (by assumption))).trans et; replace eS := ((s9).2 _ (by first | assumption | exact Ne.symm (by assumption))).trans eS
  clear eC8
  with_reducible refine wpAny_bind ?_; k_node; with_reducible refine wpAny_bind ?_; k_node; with_reducible refine wpAny_bind ?_; with_reducible refine wpAny_loadPart (by assumption) ?_; with_reducible refine wpAny_pure ?_; k_node; with_reducible refine wpAny_bind ?_; k_node
  with_reducible refine wpAny_bind ?_; k_node; k_node; with_reducible refine wpAny_bind ?_; k_node; with_reducible refine wpAny_bind ?_; with_reducible refine wpAny_load (by assumption) ?_; k_node; with_reducible refine wpAny_pure ?_; with_reducible refine wpAny_pure ?_
  with_reducible refine wpAny_bind ?_; k_node; k_node; k_node; k_node; k_node; k_node; k_node; with_reducible refine wpAny_bind ?_; k_node; with_reducible refine wpAny_bind ?_; k_node; k_node; with_reducible refine wpAny_bind ?_; k_node; with_reducible refine wpAny_bind ?_
  with_reducible refine wpAny_load (by assumption) ?_; k_node; with_reducible refine wpAny_pure ?_; with_reducible refine d_get (by assumption) ?_; k_node; with_reducible refine wpAny_pure ?_; k_node; k_node; k_node; with_reducible refine wpAny_bind ?_; k_node; with_reducible refine wpAny_bind ?_
  k_node; k_node; with_reducible refine wpAny_pure ?_; k_node; with_reducible refine wpAny_pure ?_; k_node; with_reducible refine wpAny_pure ?_; k_node; with_reducible refine wpAny_pure ?_; k_node; with_reducible refine if_f (by decide +kernel) ?_; with_reducible refine wpAny_pure ?_
  with_reducible refine wpAny_bind ?_
  replace eC9 : h9.get? C = some ⟨.type "type", none, .cls { name := "K", bases := [.type "object"], mro := [.ref C, .type "object"], ns := ns, qualname := qK }, #[some (.ref T), none, some (.str "K" tn), some (.str qK tq), some (.builtin "object.__new__")]⟩ := by
    have z := eC9
    dsimp only at z
    rw [hasD] at z
    exact z
  clear hasM hasD
  unfold Builtin.Slots.install
  k_node; with_reducible refine wpAny_bind ?_; k_node; k_node; k_node; k_node; k_node; k_node; k_node; with_reducible refine wpAny_bind ?_; k_node; with_reducible refine wpAny_bind ?_; with_reducible refine d_get (by assumption) ?_; k_node; with_reducible refine wpAny_bind ?_; k_node; k_node
  with_reducible refine wpAny_bind ?_; k_node; with_reducible refine nd_fresh ?_; with_reducible refine nd_pure ?_; with_reducible refine wpAny_pure ?_; with_reducible refine wpAny_bind ?_; k_node; k_node; k_node; k_node; k_node; k_node; with_reducible refine wpAny_bind ?_
  refine al fun h10 mb k10 eM n10 => ?_
  replace d7 := Dct.keeps d7 k10; replace eT := k10 _ _ eT; replace eN := k10 _ _ eN; replace eI := k10 _ _ eI; replace eL := k10 _ _ eL; replace eG := k10 _ _ eG; replace eE := k10 _ _ eE; replace ee := k10 _ _ ee; replace eg := k10 _ _ eg; replace et := k10 _ _ et; replace eS := k10 _ _ eS
  replace eC9 := k10 _ _ eC9
  have : ns ≠ mb := let ⟨_, _, e, _⟩ := d7; fun q => by rw [q, eM] at e; have z := congrArg Obj.data (Option.some.inj e); cases z
  have : C ≠ mb := fun q => by rw [q, eM] at eC9; have z := congrArg Obj.data (Option.some.inj eC9); cases z
  k_node; with_reducible refine wpAny_pure ?_; with_reducible refine wpAny_bind ?_
  refine d_setV d7 (Nat.le_of_ble_eq_true rfl) fun h11 d11 s11 => ?_
  replace eM := ((s11).2 _ (by first | assumption | exact Ne.symm (by assumption))).trans eM; replace eT := ((s11).2 _ (by first | assumption | exact Ne.symm (by assumption))).trans eT; replace eN := ((s11).2 _ (by first | assumption | exact Ne.symm (by assumption))).trans eN
  replace eI := ((s11).2 _ (by first | assumption | exact Ne.symm (by assumption))).trans eI; replace eL := ((s11).2 _ (by first | assumption | exact Ne.symm (by assumption))).trans eL; replace eG := ((s11).2 _ (by first | assumption | exact Ne.symm (by assumption))).trans eG
  replace eE := ((s11).2 _ (by first | assumption | exact Ne.symm (by assumption))).trans eE; replace ee := ((s11).2 _ (by first | assumption | exact Ne.symm (by assumption))).trans ee; replace eg := ((s11).2 _ (by first | assumption | exact Ne.symm (by assumption))).trans eg
  replace et := ((s11).2 _ (by first | assumption | exact Ne.symm (by assumption))).trans et; replace eS := ((s11).2 _ (by first | assumption | exact Ne.symm (by assumption))).trans eS; replace eC9 := ((s11).2 _ (by first | assumption | exact Ne.symm (by assumption))).trans eC9
  clear d7
  with_reducible refine wpAny_pure ?_; k_node; k_node; with_reducible refine wpAny_pure ?_; k_node; with_reducible refine wpAny_bind ?_; k_node; k_node; k_node; k_node; k_node; k_node; k_node; with_reducible refine wpAny_bind ?_; k_node; with_reducible refine wpAny_bind ?_; k_node; k_node
  with_reducible refine wpAny_pure ?_; k_node; with_reducible refine wpAny_pure ?_; k_node; k_node; with_reducible refine wpAny_pure ?_; k_node; k_node; k_node
  refine cls_up eC9 (fun h12 eC12 s12 => ?_) rfl
  replace d11 := Dct.su d11 s12 (by first | assumption | exact Ne.symm (by assumption)); replace eM := ((s12).2 _ (by first | assumption | exact Ne.symm (by assumption))).trans eM; replace eT := ((s12).2 _ (by first | assumption | exact Ne.symm (by assumption))).trans eT
  replace eN := ((s12).2 _ (by first | assumption | exact Ne.symm (by assumption))).trans eN; replace eI := ((s12).2 _ (by first | assumption | exact Ne.symm (by assumption))).trans eI; replace eL := ((s12).2 _ (by first | assumption | exact Ne.symm (by assumption))).trans eL
  replace eG := ((s12).2 _ (by first | assumption | exact Ne.symm (by assumption))).trans eG; replace eE := ((s12).2 _ (by first | assumption | exact Ne.symm (by assumption))).trans eE; replace ee := ((s12).2 _ (by first | assumption | exact Ne.symm (by assumption))).trans ee
  replace eg := ((s12).2 _ (by first | assumption | exact Ne.symm (by assumption))).trans eg; replace et := ((s12).2 _ (by first | assumption | exact Ne.symm (by assumption))).trans et; replace eS := ((s12).2 _ (by first | assumption | exact Ne.symm (by assumption))).trans eS
  clear eC9
  with_reducible refine wpAny_bind ?_; k_node; k_node; with_reducible refine wpAny_bind ?_; k_node; k_node; with_reducible refine wpAny_pure ?_; k_node; k_node; with_reducible refine wpAny_bind ?_; k_node; with_reducible refine wpAny_bind ?_; k_node; k_node; with_reducible refine wpAny_pure ?_
  with_reducible refine wpAny_bind ?_; k_node; k_node; k_node; k_node; k_node; k_node; k_node; with_reducible refine wpAny_bind ?_; k_node; with_reducible refine wpAny_bind ?_; k_node; k_node; with_reducible refine wpAny_pure ?_; k_node; with_reducible refine wpAny_pure ?_; k_node; k_node
  with_reducible refine wpAny_pure ?_; k_node; with_reducible refine wpAny_pure ?_; k_node; with_reducible refine wpAny_pure ?_; with_reducible refine wpAny_bind ?_
  refine slot_up (sl' := #[some (.ref T), none, some (.str "K" tn), some (.str qK tq), some (.builtin "object.__new__"), some (.bool false)]) eC12 rfl fun h13 eC13 s13 => ?_
  replace d11 := Dct.su d11 s13 (by first | assumption | exact Ne.symm (by assumption)); replace eM := ((s13).2 _ (by first | assumption | exact Ne.symm (by assumption))).trans eM; replace eT := ((s13).2 _ (by first | assumption | exact Ne.symm (by assumption))).trans eT
  replace eN := ((s13).2 _ (by first | assumption | exact Ne.symm (by assumption))).trans eN; replace eI := ((s13).2 _ (by first | assumption | exact Ne.symm (by assumption))).trans eI; replace eL := ((s13).2 _ (by first | assumption | exact Ne.symm (by assumption))).trans eL
  replace eG := ((s13).2 _ (by first | assumption | exact Ne.symm (by assumption))).trans eG; replace eE := ((s13).2 _ (by first | assumption | exact Ne.symm (by assumption))).trans eE; replace ee := ((s13).2 _ (by first | assumption | exact Ne.symm (by assumption))).trans ee
  replace eg := ((s13).2 _ (by first | assumption | exact Ne.symm (by assumption))).trans eg; replace et := ((s13).2 _ (by first | assumption | exact Ne.symm (by assumption))).trans et; replace eS := ((s13).2 _ (by first | assumption | exact Ne.symm (by assumption))).trans eS
  clear eC12
  k_node; k_node; k_node; k_node; k_node; with_reducible refine wpAny_bind ?_; with_reducible refine d_get (by assumption) ?_; k_node; k_node; with_reducible refine wpAny_bind ?_
  refine d_set (s := ⟨h13, g, d, t1 + 1 + 1, os⟩) d11 fun h14 d14 s14 => ?_
  replace eC13 := ((s14).2 _ (by first | assumption | exact Ne.symm (by assumption))).trans eC13; replace eM := ((s14).2 _ (by first | assumption | exact Ne.symm (by assumption))).trans eM; replace eT := ((s14).2 _ (by first | assumption | exact Ne.symm (by assumption))).trans eT
  replace eN := ((s14).2 _ (by first | assumption | exact Ne.symm (by assumption))).trans eN; replace eI := ((s14).2 _ (by first | assumption | exact Ne.symm (by assumption))).trans eI; replace eL := ((s14).2 _ (by first | assumption | exact Ne.symm (by assumption))).trans eL
  replace eG := ((s14).2 _ (by first | assumption | exact Ne.symm (by assumption))).trans eG; replace eE := ((s14).2 _ (by first | assumption | exact Ne.symm (by assumption))).trans eE; replace ee := ((s14).2 _ (by first | assumption | exact Ne.symm (by assumption))).trans ee
  replace eg := ((s14).2 _ (by first | assumption | exact Ne.symm (by assumption))).trans eg; replace et := ((s14).2 _ (by first | assumption | exact Ne.symm (by assumption))).trans et; replace eS := ((s14).2 _ (by first | assumption | exact Ne.symm (by assumption))).trans eS
  clear d11
  replace eC13 : h14.get? C = some (clsObj C T ns tn tq) := eC13
  replace eM : h14.get? mb = some (memObj C t1) := eM
  have KK : Keep h h14 := fun b o e => by
    have e1 := k1 b o e
    have b1 := n2.ne e1
    have e2 := k2 b o e1
    have b2 := n3.ne e2
    exact (s14.2 b b1).trans ((s13.2 b b2).trans ((s12.2 b b2).trans ((s11.2 b b1).trans (k10 b o ((s9.2 b b2).trans ((s8.2 b b2).trans ((s7.2 b b1).trans ((s6.2 b b2).trans ((s5.2 b b2).trans ((s4.2 b b2).trans (k3 b o e2)))))))))))
  have n3' : h.get? C = none ∧ h.get? ns = none := by
    constructor
    · cases z : h.get? C with
      | none => rfl
      | some o => exact absurd rfl (n3.ne (k2 _ _ (k1 _ _ z)))
    · cases z : h.get? ns with
      | none => rfl
      | some o => exact absurd rfl (n2.ne (k1 _ _ z))
  obtain ⟨es2, nd, eD, kd2⟩ := d14
  replace kd2 : Kd es2 (kv13 (.str "cpy313.functools" tm) (.int l0 tl) sl fI fL fG fE fe fg st mb) := kd2
  have dN2 := Dct.mk' eD kd2
  obtain ⟨_, _, _, rfl, q1⟩ := kd2.inv
  obtain ⟨_, _, _, rfl, q2⟩ := q1.inv
  obtain ⟨_, _, _, rfl, q3⟩ := q2.inv
  obtain ⟨_, _, _, rfl, q4⟩ := q3.inv
  obtain ⟨_, _, _, rfl, q5⟩ := q4.inv
  obtain ⟨_, _, _, rfl, q6⟩ := q5.inv
  obtain ⟨_, _, _, rfl, q7⟩ := q6.inv
  obtain ⟨_, _, _, rfl, q8⟩ := q7.inv
  obtain ⟨_, _, _, rfl, q9⟩ := q8.inv
  obtain ⟨_, _, _, rfl, q10⟩ := q9.inv
  obtain ⟨_, _, _, rfl, q11⟩ := q10.inv
  obtain ⟨_, _, _, rfl, q12⟩ := q11.inv
  obtain ⟨_, _, _, rfl, q13⟩ := q12.inv
  cases q13
  k_node; with_reducible refine wpAny_bind ?_; with_reducible refine d_get (by assumption) ?_; k_node; k_node; with_reducible refine wpAny_bind ?_; with_reducible refine d_get (by assumption) ?_; k_node; k_node; with_reducible refine wpAny_bind ?_; k_node; k_node; k_node; k_node; k_node; k_node; k_node
  with_reducible refine wpAny_bind ?_; k_node; with_reducible refine wpAny_bind ?_; k_node; k_node; with_reducible refine wpAny_pure ?_; with_reducible refine wpAny_pure ?_; k_node; k_node; with_reducible refine wpAny_pure ?_; k_node; with_reducible refine wpAny_bind ?_
  refine wpAny_tryCatch ?_
  with_reducible refine wpAny_holding ?_; k_node; with_reducible refine wpAny_bind ?_; k_node; with_reducible refine wpAny_bind ?_; with_reducible refine wpAny_loadPart (by assumption) ?_; k_node; with_reducible refine wpAny_pure ?_; with_reducible refine wpAny_bind ?_; k_node; k_node; k_node; k_node
  k_node; k_node; k_node; with_reducible refine wpAny_bind ?_; k_node; with_reducible refine wpAny_bind ?_; k_node; k_node; with_reducible refine wpAny_pure ?_; k_node; with_reducible refine wpAny_pure ?_; k_node; k_node; k_node; with_reducible refine wpAny_bind ?_; k_node
  with_reducible refine wpAny_bind ?_; k_node; k_node; with_reducible refine wpAny_pure ?_; k_node; with_reducible refine wpAny_pure ?_; k_node; k_node; k_node; with_reducible refine wpAny_bind ?_; k_node; with_reducible refine wpAny_bind ?_; k_node; k_node; with_reducible refine wpAny_pure ?_; k_node
  with_reducible refine wpAny_pure ?_; k_node; k_node; k_node; with_reducible refine wpAny_bind ?_; k_node; with_reducible refine wpAny_bind ?_; k_node; k_node; with_reducible refine wpAny_pure ?_; k_node; with_reducible refine wpAny_pure ?_; k_node; k_node; k_node; with_reducible refine wpAny_bind ?_
  k_node; with_reducible refine wpAny_bind ?_; k_node; k_node; with_reducible refine wpAny_pure ?_; k_node; with_reducible refine wpAny_pure ?_; k_node; k_node; k_node; with_reducible refine wpAny_bind ?_; k_node; with_reducible refine wpAny_bind ?_; k_node; k_node; with_reducible refine wpAny_pure ?_
  k_node; with_reducible refine wpAny_pure ?_; k_node; k_node; k_node; with_reducible refine wpAny_bind ?_; k_node; with_reducible refine wpAny_bind ?_; k_node; k_node; with_reducible refine wpAny_pure ?_; k_node; with_reducible refine wpAny_pure ?_; k_node; k_node; k_node
  with_reducible refine wpAny_bind ?_; k_node; with_reducible refine wpAny_bind ?_; k_node; k_node; with_reducible refine wpAny_pure ?_; k_node; with_reducible refine wpAny_pure ?_; k_node; k_node; k_node; with_reducible refine wpAny_bind ?_; k_node; with_reducible refine wpAny_bind ?_; k_node; k_node
  with_reducible refine wpAny_pure ?_; k_node; with_reducible refine wpAny_pure ?_; k_node; k_node; k_node; with_reducible refine wpAny_bind ?_; k_node; with_reducible refine wpAny_bind ?_; k_node; k_node; with_reducible refine wpAny_pure ?_; k_node; with_reducible refine wpAny_pure ?_; k_node; k_node
  k_node; with_reducible refine wpAny_bind ?_; k_node; with_reducible refine wpAny_bind ?_; k_node; k_node; with_reducible refine wpAny_pure ?_; k_node; with_reducible refine wpAny_pure ?_; k_node; k_node; k_node; with_reducible refine wpAny_bind ?_; k_node; with_reducible refine wpAny_bind ?_; k_node
  k_node; with_reducible refine wpAny_pure ?_; k_node; with_reducible refine wpAny_pure ?_; k_node; k_node; k_node; with_reducible refine wpAny_bind ?_; k_node; with_reducible refine wpAny_bind ?_; k_node; k_node; with_reducible refine wpAny_pure ?_; k_node; with_reducible refine wpAny_pure ?_; k_node
  k_node; with_reducible refine wpAny_pure ?_; k_node; k_node; k_node; with_reducible refine wpAny_bind ?_; k_node; with_reducible refine wpAny_bind ?_; with_reducible refine wpAny_loadPart (by assumption) ?_; k_node; with_reducible refine wpAny_pure ?_; with_reducible refine wpAny_bind ?_; k_node
  k_node; k_node; k_node; k_node; k_node; k_node; with_reducible refine wpAny_bind ?_; k_node; k_node; with_reducible refine wpAny_bind ?_; k_node; with_reducible refine wpAny_bind ?_; k_node; k_node; with_reducible refine wpAny_pure ?_; k_node; with_reducible refine wpAny_bind ?_; k_node; k_node
  with_reducible refine wpAny_pure ?_; with_reducible refine wpAny_bind ?_; k_node; k_node; k_node; k_node; k_node; k_node; k_node; with_reducible refine wpAny_bind ?_; k_node; with_reducible refine wpAny_bind ?_; k_node; k_node; with_reducible refine wpAny_pure ?_; k_node
  with_reducible refine wpAny_pure ?_; k_node; k_node; k_node; with_reducible refine wpAny_bind ?_; k_node; with_reducible refine wpAny_bind ?_; k_node; k_node; with_reducible refine wpAny_pure ?_; k_node; with_reducible refine wpAny_pure ?_; k_node; k_node; with_reducible refine wpAny_pure ?_; k_node
  with_reducible refine wpAny_pure ?_; k_node; with_reducible refine wpAny_pure ?_; k_node; k_node; k_node; with_reducible refine wpAny_bind ?_; k_node; k_node; with_reducible refine wpAny_bind ?_; k_node; with_reducible refine wpAny_bind ?_; k_node; k_node; with_reducible refine wpAny_pure ?_; k_node
  with_reducible refine wpAny_bind ?_; k_node; k_node; with_reducible refine wpAny_pure ?_; with_reducible refine wpAny_bind ?_; k_node; k_node; k_node; k_node; k_node; k_node; k_node; with_reducible refine wpAny_bind ?_; k_node; with_reducible refine wpAny_bind ?_; k_node; k_node
  with_reducible refine wpAny_pure ?_; k_node; with_reducible refine wpAny_pure ?_; k_node; k_node; k_node; with_reducible refine wpAny_bind ?_; k_node; with_reducible refine wpAny_bind ?_; k_node; k_node; with_reducible refine wpAny_pure ?_; k_node; with_reducible refine wpAny_pure ?_; k_node; k_node
  with_reducible refine wpAny_pure ?_; k_node; with_reducible refine wpAny_pure ?_; k_node; with_reducible refine wpAny_pure ?_; k_node; k_node; k_node; with_reducible refine wpAny_bind ?_; k_node; k_node; with_reducible refine wpAny_bind ?_; k_node; with_reducible refine wpAny_bind ?_; k_node; k_node
  with_reducible refine wpAny_bind ?_; with_reducible refine wpAny_loadPart (by assumption) ?_; with_reducible refine wpAny_pure ?_; k_node; with_reducible refine wpAny_bind ?_; k_node; k_node; with_reducible refine wpAny_pure ?_; with_reducible refine wpAny_bind ?_; k_node; k_node; k_node; k_node
  k_node; k_node; k_node; with_reducible refine wpAny_bind ?_; k_node; with_reducible refine wpAny_bind ?_; k_node; k_node; with_reducible refine wpAny_pure ?_; k_node; with_reducible refine wpAny_pure ?_; k_node; k_node; k_node; with_reducible refine wpAny_bind ?_; k_node
  with_reducible refine wpAny_bind ?_; k_node; k_node; with_reducible refine wpAny_pure ?_; k_node; with_reducible refine wpAny_pure ?_; k_node; k_node; with_reducible refine wpAny_pure ?_; k_node; with_reducible refine wpAny_pure ?_; k_node; with_reducible refine wpAny_pure ?_; k_node; k_node; k_node
  with_reducible refine wpAny_bind ?_; k_node; k_node; with_reducible refine wpAny_bind ?_; k_node; with_reducible refine wpAny_bind ?_; k_node; k_node; with_reducible refine wpAny_bind ?_; with_reducible refine wpAny_loadPart (by assumption) ?_; with_reducible refine wpAny_pure ?_; k_node
  with_reducible refine wpAny_bind ?_; k_node; k_node; with_reducible refine wpAny_pure ?_; with_reducible refine wpAny_bind ?_; k_node; k_node; k_node; k_node; k_node; k_node; k_node; with_reducible refine wpAny_bind ?_; k_node; with_reducible refine wpAny_bind ?_; k_node; k_node
  with_reducible refine wpAny_pure ?_; k_node; with_reducible refine wpAny_pure ?_; k_node; k_node; k_node; with_reducible refine wpAny_bind ?_; k_node; with_reducible refine wpAny_bind ?_; k_node; k_node; with_reducible refine wpAny_pure ?_; k_node; with_reducible refine wpAny_pure ?_; k_node; k_node
  with_reducible refine wpAny_pure ?_; k_node; with_reducible refine wpAny_pure ?_; k_node; with_reducible refine wpAny_pure ?_; k_node; k_node; k_node; with_reducible refine wpAny_bind ?_; k_node; k_node; with_reducible refine wpAny_bind ?_; k_node; with_reducible refine wpAny_bind ?_; k_node; k_node
  with_reducible refine wpAny_bind ?_; with_reducible refine wpAny_loadPart (by assumption) ?_; with_reducible refine wpAny_pure ?_; k_node; with_reducible refine wpAny_bind ?_; k_node; k_node; with_reducible refine wpAny_pure ?_; with_reducible refine wpAny_bind ?_; k_node; k_node; k_node; k_node
  k_node; k_node; k_node; with_reducible refine wpAny_bind ?_; k_node; with_reducible refine wpAny_bind ?_; k_node; k_node; with_reducible refine wpAny_pure ?_; k_node; with_reducible refine wpAny_pure ?_; k_node; k_node; k_node; with_reducible refine wpAny_bind ?_; k_node
  with_reducible refine wpAny_bind ?_; k_node; k_node; with_reducible refine wpAny_pure ?_; k_node; with_reducible refine wpAny_pure ?_; k_node; k_node; with_reducible refine wpAny_pure ?_; k_node; with_reducible refine wpAny_pure ?_; k_node; with_reducible refine wpAny_pure ?_; k_node; k_node; k_node
  with_reducible refine wpAny_bind ?_; k_node; k_node; with_reducible refine wpAny_bind ?_; k_node; with_reducible refine wpAny_bind ?_; k_node; k_node; with_reducible refine wpAny_bind ?_; with_reducible refine wpAny_loadPart (by assumption) ?_; with_reducible refine wpAny_pure ?_; k_node
  with_reducible refine wpAny_bind ?_; k_node; k_node; with_reducible refine wpAny_pure ?_; with_reducible refine wpAny_bind ?_; k_node; k_node; k_node; k_node; k_node; k_node; k_node; with_reducible refine wpAny_bind ?_; k_node; with_reducible refine wpAny_bind ?_; k_node; k_node
  with_reducible refine wpAny_pure ?_; k_node; with_reducible refine wpAny_pure ?_; k_node; k_node; k_node; with_reducible refine wpAny_bind ?_; k_node; with_reducible refine wpAny_bind ?_; k_node; k_node; with_reducible refine wpAny_pure ?_; k_node; with_reducible refine wpAny_pure ?_; k_node; k_node
  with_reducible refine wpAny_pure ?_; k_node; with_reducible refine wpAny_pure ?_; k_node; with_reducible refine wpAny_pure ?_; k_node; k_node; k_node; with_reducible refine wpAny_bind ?_; k_node; k_node; with_reducible refine wpAny_bind ?_; k_node; with_reducible refine wpAny_bind ?_; k_node; k_node
  with_reducible refine wpAny_bind ?_; with_reducible refine wpAny_loadPart (by assumption) ?_; with_reducible refine wpAny_pure ?_; k_node; with_reducible refine wpAny_bind ?_; k_node; k_node; with_reducible refine wpAny_pure ?_; with_reducible refine wpAny_bind ?_; k_node; k_node; k_node; k_node
  k_node; k_node; k_node; with_reducible refine wpAny_bind ?_; k_node; with_reducible refine wpAny_bind ?_; k_node; k_node; with_reducible refine wpAny_pure ?_; k_node; with_reducible refine wpAny_pure ?_; k_node; k_node; k_node; with_reducible refine wpAny_bind ?_; k_node
  with_reducible refine wpAny_bind ?_; k_node; k_node; with_reducible refine wpAny_pure ?_; k_node; with_reducible refine wpAny_pure ?_; k_node; k_node; with_reducible refine wpAny_pure ?_; k_node; with_reducible refine wpAny_pure ?_; k_node; with_reducible refine wpAny_pure ?_; k_node; k_node; k_node
  with_reducible refine wpAny_bind ?_; k_node; k_node; with_reducible refine wpAny_bind ?_; k_node; with_reducible refine wpAny_bind ?_; k_node; k_node; with_reducible refine wpAny_bind ?_; with_reducible refine wpAny_loadPart (by assumption) ?_; with_reducible refine wpAny_pure ?_; k_node
  with_reducible refine wpAny_bind ?_; k_node; k_node; with_reducible refine wpAny_pure ?_; with_reducible refine wpAny_bind ?_; k_node; k_node; k_node; k_node; k_node; k_node; k_node; with_reducible refine wpAny_bind ?_; k_node; with_reducible refine wpAny_bind ?_; k_node; k_node
  with_reducible refine wpAny_pure ?_; k_node; with_reducible refine wpAny_pure ?_; k_node; k_node; k_node; with_reducible refine wpAny_bind ?_; k_node; with_reducible refine wpAny_bind ?_; k_node; k_node; with_reducible refine wpAny_pure ?_; k_node; with_reducible refine wpAny_pure ?_; k_node; k_node
  with_reducible refine wpAny_pure ?_; k_node; with_reducible refine wpAny_pure ?_; k_node; with_reducible refine wpAny_pure ?_; k_node; k_node; k_node; with_reducible refine wpAny_bind ?_; k_node; k_node; with_reducible refine wpAny_bind ?_; k_node; with_reducible refine wpAny_bind ?_; k_node; k_node
  with_reducible refine wpAny_bind ?_; with_reducible refine wpAny_loadPart (by assumption) ?_; with_reducible refine wpAny_pure ?_; k_node; with_reducible refine wpAny_bind ?_; k_node; k_node; with_reducible refine wpAny_pure ?_; with_reducible refine wpAny_bind ?_; k_node; k_node; k_node; k_node
  k_node; k_node; k_node; with_reducible refine wpAny_bind ?_; k_node; with_reducible refine wpAny_bind ?_; k_node; k_node; with_reducible refine wpAny_pure ?_; k_node; with_reducible refine wpAny_pure ?_; k_node; k_node; k_node; with_reducible refine wpAny_bind ?_; k_node
  with_reducible refine wpAny_bind ?_; k_node; k_node; with_reducible refine wpAny_pure ?_; k_node; with_reducible refine wpAny_pure ?_; k_node; k_node; with_reducible refine wpAny_pure ?_; k_node; with_reducible refine wpAny_pure ?_; k_node; with_reducible refine wpAny_pure ?_; k_node; k_node; k_node
  with_reducible refine wpAny_bind ?_; k_node; k_node; with_reducible refine wpAny_bind ?_; k_node; with_reducible refine wpAny_bind ?_; k_node; k_node; with_reducible refine wpAny_pure ?_; k_node; with_reducible refine wpAny_bind ?_; k_node; k_node; with_reducible refine wpAny_pure ?_
  with_reducible refine wpAny_bind ?_; k_node; k_node; k_node; k_node; k_node; k_node; k_node; with_reducible refine wpAny_bind ?_; k_node; with_reducible refine wpAny_bind ?_; k_node; k_node; with_reducible refine wpAny_pure ?_; k_node; with_reducible refine wpAny_pure ?_; k_node; k_node; k_node
  with_reducible refine wpAny_bind ?_; k_node; with_reducible refine wpAny_bind ?_; k_node; k_node; with_reducible refine wpAny_pure ?_; k_node; with_reducible refine wpAny_pure ?_; k_node; k_node; with_reducible refine wpAny_pure ?_; k_node; with_reducible refine wpAny_pure ?_; k_node
  with_reducible refine wpAny_pure ?_; k_node; k_node; k_node; with_reducible refine wpAny_bind ?_; k_node; k_node; with_reducible refine wpAny_bind ?_; k_node; with_reducible refine wpAny_bind ?_; k_node; k_node; with_reducible refine wpAny_bind ?_
  with_reducible refine wpAny_loadPart (by assumption) ?_; with_reducible refine wpAny_pure ?_; k_node; with_reducible refine wpAny_bind ?_; k_node; k_node; with_reducible refine wpAny_pure ?_; with_reducible refine wpAny_bind ?_; k_node; k_node; k_node; k_node; k_node; k_node; k_node
  with_reducible refine wpAny_bind ?_; k_node; with_reducible refine wpAny_bind ?_; k_node; k_node; with_reducible refine wpAny_pure ?_; k_node; with_reducible refine wpAny_pure ?_; k_node; k_node; k_node; with_reducible refine wpAny_bind ?_; k_node; with_reducible refine wpAny_bind ?_; k_node; k_node
  with_reducible refine wpAny_pure ?_; k_node; with_reducible refine wpAny_pure ?_; k_node; k_node; with_reducible refine wpAny_pure ?_; k_node; with_reducible refine wpAny_pure ?_; k_node; with_reducible refine wpAny_pure ?_; k_node; k_node; k_node; with_reducible refine wpAny_bind ?_; k_node; k_node
  with_reducible refine wpAny_bind ?_; k_node; with_reducible refine wpAny_bind ?_; k_node; k_node; with_reducible refine wpAny_bind ?_; with_reducible refine wpAny_loadPart (by assumption) ?_; with_reducible refine wpAny_pure ?_; k_node; with_reducible refine wpAny_bind ?_; k_node; k_node
  with_reducible refine wpAny_pure ?_; with_reducible refine wpAny_bind ?_; k_node; k_node; k_node; k_node; k_node; k_node; k_node; with_reducible refine wpAny_bind ?_; k_node; with_reducible refine wpAny_bind ?_; k_node; k_node; with_reducible refine wpAny_pure ?_; k_node
  with_reducible refine wpAny_pure ?_; k_node; k_node; k_node; with_reducible refine wpAny_bind ?_; k_node; with_reducible refine wpAny_bind ?_; k_node; k_node; with_reducible refine wpAny_pure ?_; k_node; with_reducible refine wpAny_pure ?_; k_node; k_node; with_reducible refine wpAny_pure ?_; k_node
  with_reducible refine wpAny_pure ?_; k_node; with_reducible refine wpAny_pure ?_; k_node; k_node; k_node; with_reducible refine wpAny_bind ?_; k_node; k_node; with_reducible refine wpAny_bind ?_; k_node; with_reducible refine wpAny_bind ?_; k_node; k_node; with_reducible refine wpAny_pure ?_; k_node
  with_reducible refine wpAny_bind ?_; k_node; k_node; with_reducible refine wpAny_pure ?_; with_reducible refine wpAny_bind ?_; k_node; k_node; k_node; k_node; k_node; k_node; k_node; with_reducible refine wpAny_bind ?_; k_node; with_reducible refine wpAny_bind ?_; k_node; k_node
  with_reducible refine wpAny_pure ?_; k_node; with_reducible refine wpAny_pure ?_; k_node; k_node; k_node; with_reducible refine wpAny_bind ?_; k_node; with_reducible refine wpAny_bind ?_; k_node; k_node; with_reducible refine wpAny_pure ?_; k_node; with_reducible refine wpAny_pure ?_; k_node; k_node
  with_reducible refine wpAny_pure ?_; k_node; with_reducible refine wpAny_pure ?_; k_node; with_reducible refine wpAny_pure ?_; k_node; k_node; with_reducible refine wpAny_pure ?_; with_reducible refine wpAny_bind ?_; with_reducible refine wpAny_call ?_
  refine c_super eC13 fun h15 so t15 k15 e15 => ?_
  replace eT := k15 _ _ eT; replace eN := k15 _ _ eN; replace eI := k15 _ _ eI; replace eL := k15 _ _ eL; replace eG := k15 _ _ eG; replace eE := k15 _ _ eE; replace ee := k15 _ _ ee; replace eg := k15 _ _ eg; replace et := k15 _ _ et; replace eS := k15 _ _ eS; replace eC13 := k15 _ _ eC13
  replace eM := k15 _ _ eM; replace dN2 := Dct.keeps dN2 k15; replace eD := k15 _ _ eD
  refine wpAny_bind (wpAny_holding (c_supget eC13 e15 (tp.keeps fun b o e => ?_) fun h16 bm t16 k16 e16 => ?_))
  · exact k15 b o (KK b o e)
  replace e15 := k16 _ _ e15; replace eT := k16 _ _ eT; replace eN := k16 _ _ eN; replace eI := k16 _ _ eI; replace eL := k16 _ _ eL; replace eG := k16 _ _ eG; replace eE := k16 _ _ eE; replace ee := k16 _ _ ee; replace eg := k16 _ _ eg; replace et := k16 _ _ et; replace eS := k16 _ _ eS
  replace eC13 := k16 _ _ eC13; replace eM := k16 _ _ eM; replace dN2 := Dct.keeps dN2 k16; replace eD := k16 _ _ eD
  with_reducible refine wpAny_bind ?_; with_reducible refine wpAny_call ?_
  refine c_initsub eC13 e16 ?_
  with_reducible refine wpAny_pure ?_; k_node; with_reducible refine wpAny_pure ?_
  exact q h16 C ns mb t1 _ (fun b o e => k16 b o (k15 b o (KK b o e))) n3' eC13 dN2 eM
end

section
variable {prog : Program} {w : World} {A : Around} {E : Value → Shared → Prop} {g₀ : Heap} {mg mb : Str → Option Value} {h : Heap} {g : Array GenState} {d : Drawn} {t : Nat} {os : OsState}
theorem tcall {T nsA : Addr} {tn tm tq tl ts : Tok} {l0 : Int} {sl fI fL fG fE fe fg st : Addr} {R : Result → Shared → Prop} (eT : h.get? T = some { cls := .type "tuple", data := .seq #[.type "object"] })
    (dN : Dct h nsA (kv12 (.str "cpy313.functools" tm) (.str qK tq) (.int l0 tl) sl fI fL fG fE fe fg st)) (hm : (nsA == sysModules) = false) (eS : LS h sl #[.str "obj" ts]) {dI dL dG dE de dg : FuncData} {stv : Array Value} (eI : h.get? fI = some { cls := .type "function", data := .func dI }) (eL : h.get? fL = some { cls := .type "function", data := .func dL })
    (eG : h.get? fG = some { cls := .type "function", data := .func dG }) (eE : h.get? fE = some { cls := .type "function", data := .func dE }) (ee : h.get? fe = some { cls := .type "function", data := .func de }) (eg : h.get? fg = some { cls := .type "function", data := .func dg })
    (et : h.get? st = some { cls := .type "tuple", data := .seq stv }) (tp : Looks (model prog w) h (nsGet cStatics "thirdparty.any") none)
    (q : ∀ h' C ns mb tk t', Keep h h' → h.get? C = none ∧ h.get? ns = none → h'.get? C = some (clsObj C T ns tn tq) → Dct h' ns (kv13 (.str "cpy313.functools" tm) (.int l0 tl) sl fI fL fG fE fe fg st mb) → h'.get? mb = some (memObj C tk) → R (.ok (.ret (.ref C))) ⟨h', g, d, t', os⟩) :
    codeAny (model prog w) A (.call (.type "type") ⟨[.str "K" tn, .ref T, .ref nsA], []⟩) R ⟨h, g, d, t, os⟩ := by
  refine codeAny_of_tree ?_
  show wpAny _ _ (callAny (.type "type") _) _ _ _
  unfold callAny
  k_node; k_node; with_reducible refine wpAny_pure ?_
  refine And.intro (Code.quiet_builtin _ (by decide +kernel)) (codeAny_builtin (id := "type.__call__") (b := Builtin.«type.__call__») (entryFor_of_tree (by kernel_rfl)) ?_)
  k_node; k_node; k_node; k_node; k_node; k_node; k_node; k_node; with_reducible refine wpAny_bind ?_; k_node; k_node; k_node; k_node; k_node; k_node; with_reducible refine wpAny_bind ?_; k_node; k_node; with_reducible refine wpAny_pure ?_; with_reducible refine wpAny_bind ?_; k_node; k_node
  with_reducible refine wpAny_pure ?_; k_node; with_reducible refine wpAny_onRaise ?_; k_node; k_node; with_reducible refine wpAny_pure ?_; k_node; with_reducible refine wpAny_bind ?_; k_node; k_node; with_reducible refine wpAny_pure ?_; k_node; k_node; k_node; with_reducible refine wpAny_bind ?_
  k_node; k_node; with_reducible refine wpAny_bind ?_; k_node; k_node; with_reducible refine wpAny_pure ?_; with_reducible refine wpAny_bind ?_; k_node; k_node; k_node; k_node; k_node; k_node; k_node; with_reducible refine wpAny_bind ?_; k_node; with_reducible refine wpAny_bind ?_; k_node
  with_reducible refine wpAny_bind ?_; k_node; k_node; with_reducible refine wpAny_pure ?_; with_reducible refine wpAny_bind ?_; k_node; k_node; k_node; k_node; k_node; k_node; k_node; with_reducible refine wpAny_bind ?_; k_node; with_reducible refine wpAny_bind ?_; k_node; k_node
  with_reducible refine wpAny_pure ?_; k_node; with_reducible refine wpAny_pure ?_; k_node; with_reducible refine wpAny_pure ?_; k_node; with_reducible refine wpAny_pure ?_; k_node; with_reducible refine if_f (by decide +kernel) ?_; k_node; with_reducible refine wpAny_pure ?_; k_node
  with_reducible refine wpAny_pure ?_; k_node; with_reducible refine wpAny_pure ?_; k_node; with_reducible refine wpAny_bind ?_; with_reducible refine wpAny_pure ?_; k_node; with_reducible refine wpAny_bind ?_; with_reducible refine wpAny_holding ?_; with_reducible refine wpAny_call ?_
  obtain ⟨es, n, eN, kd⟩ := dN
  refine tnew eT eN kd hm eS eI eL eG eE ee eg et tp fun h' C ns mb tk t' k nn eC dC eM => ?_
  clear eT eN kd eI eL eG eE ee eg et tp eS
  with_reducible refine wpAny_bind ?_; k_node; with_reducible refine wpAny_bind ?_; k_node; k_node; with_reducible refine wpAny_bind ?_; with_reducible refine wpAny_loadPart (by assumption) ?_; with_reducible refine wpAny_pure ?_; k_node; with_reducible refine wpAny_bind ?_; k_node; k_node
  with_reducible refine wpAny_pure ?_; k_node; with_reducible refine wpAny_pure ?_; k_node; with_reducible refine wpAny_bind ?_; with_reducible refine wpAny_holding ?_; k_node; with_reducible refine wpAny_bind ?_; k_node; with_reducible refine wpAny_bind ?_; k_node; k_node
  with_reducible refine wpAny_bind ?_; with_reducible refine wpAny_loadPart (by assumption) ?_; with_reducible refine wpAny_pure ?_; k_node; with_reducible refine wpAny_bind ?_; k_node; k_node; with_reducible refine wpAny_pure ?_; with_reducible refine wpAny_bind ?_; k_node; k_node; k_node; k_node
  k_node; k_node; k_node; with_reducible refine wpAny_bind ?_; k_node; with_reducible refine wpAny_bind ?_; k_node; k_node; with_reducible refine wpAny_pure ?_; k_node; with_reducible refine wpAny_pure ?_; k_node; with_reducible refine wpAny_pure ?_; k_node; with_reducible refine wpAny_pure ?_; k_node
  with_reducible refine wpAny_holding ?_; with_reducible refine wpAny_bind ?_; k_node; with_reducible refine wpAny_bind ?_; k_node; k_node; k_node; k_node; k_node; with_reducible refine wpAny_pure ?_; k_node; with_reducible refine wpAny_pure ?_; k_node; with_reducible refine wpAny_bind ?_
  with_reducible refine wpAny_call ?_
  refine codeAny_call_builtin_at (id := "type.__init__") (b := Builtin.«type.__init__») (Code.quiet_builtin _ (by decide +kernel)) (entryFor_of_tree (by kernel_rfl)) ?_
  k_node; k_node; with_reducible refine wpAny_bind ?_; k_node; with_reducible refine wpAny_bind ?_; k_node; k_node; with_reducible refine wpAny_bind ?_; with_reducible refine wpAny_loadPart (by assumption) ?_; with_reducible refine wpAny_pure ?_; k_node; with_reducible refine wpAny_bind ?_; k_node
  k_node; with_reducible refine wpAny_pure ?_; k_node; with_reducible refine wpAny_pure ?_; k_node; k_node; k_node; k_node; with_reducible refine wpAny_bind ?_; k_node; k_node; with_reducible refine wpAny_pure ?_; with_reducible refine wpAny_bind ?_; k_node; k_node; with_reducible refine wpAny_pure ?_
  k_node; with_reducible refine wpAny_onRaise ?_; k_node; k_node; with_reducible refine wpAny_pure ?_; k_node; k_node; k_node; k_node; k_node; k_node; k_node; with_reducible refine wpAny_pure ?_; with_reducible refine wpAny_pure ?_; k_node; k_node; k_node; k_node; with_reducible refine wpAny_pure ?_
  exact q h' C ns mb tk t' k nn eC dC eM
end

/-- all but code tables is kept -/
abbrev NT (o : Obj) : Prop := ∀ ps, TriplesOk ps.toList → o ≠ tabObj ps
abbrev KeepT (h h' : Heap) : Prop := ∀ b o, h.get? b = some o → NT o → h'.get? b = some o
theorem Keep.t {h h' : Heap} (k : Keep h h') : KeepT h h' := fun b o e _ => k b o e
theorem KeepT.trans {a b c : Heap} (x : KeepT a b) (y : KeepT b c) : KeepT a c := fun _ _ e n => y _ _ (x _ _ e n) n
theorem no_tab {o : Obj} (h : ∀ vs, o.data ≠ .fields vs) : NT o := fun ps _ q => h ps (by rw [q])
theorem no_tabC {o : Obj} (h : o.cls ≠ .none) : NT o := fun ps _ q => h (by rw [q])
theorem rec_t {h h' : Heap} {c : Value} {q : Str} (x : h.CodeRec c q) (k : KeepT h h') : h'.CodeRec c q := by
  obtain ⟨c', o, vs, t, e, e2, e3, e4⟩ := x
  refine ⟨c', o, vs, t, e, k _ _ e2 fun ps ht q => ?_, e3, e4⟩
  rw [q] at e3; cases e3
  rw [← Array.getElem?_toList] at e4
  exact triples_one ht e4
theorem LS.t {h h' : Heap} {a : Addr} {vs : Array Value} (x : LS h a vs) (k : KeepT h h') : LS h' a vs := let ⟨n, e⟩ := x; ⟨n, k _ _ e (no_tab fun vs q => by cases q)⟩
theorem IL.t {h h' : Heap} {a : Addr} {ns : List Int} (x : IL h a ns) (k : KeepT h h') : IL h' a ns := let ⟨vs, e, i⟩ := x; ⟨vs, e.t k, i⟩
theorem PT.t {h h' : Heap} {p : Addr} {zs : List (Int × Int)} (x : PT h p zs) (k : KeepT h h') : PT h' p zs := let ⟨vs, a, b⟩ := x; ⟨vs, a.t k, b.map fun _ _ _ e => e.t k⟩
theorem ns_t {h h' : Heap} {L : Addr} {m : Str → Option Value} (x : h.Ns L m) (k : KeepT h h') : h'.Ns L m := let ⟨o, es, ep, e, hd, r⟩ := x; ⟨o, es, ep, k _ _ e (no_tab fun vs q => by rw [hd] at q; cases q), hd, r⟩
theorem cell_t {h h' : Heap} {a : Addr} {v : Option Value} (x : h.IsCell a v) (k : KeepT h h') : h'.IsCell a v := let ⟨o, e, hd⟩ := x; ⟨o, k _ _ e (no_tab fun vs q => by rw [hd] at q; cases q), hd⟩

abbrev trip (pos : Pos) (c : Addr) : Array Value := #[rawInt pos.line, rawInt pos.col, .ref c]
/-- the table of cmp_to_key's code: the class's code, or nothing yet -/
def Tab1 (g₀ : Heap) (P1 P2 : Addr) (h : Heap) : Prop :=
  h.get? P1 = some (tabObj #[]) ∨ ∃ c Pc, h.get? P1 = some (tabObj (trip (cPos clsStmt) c)) ∧ CodeHd h c Pc ∧ TabB h Pc wantC ∧ Pc ≠ P1 ∧ Pc ≠ P2 ∧ g₀.get? Pc = none
theorem Tab1.keeps {g₀ h h' : Heap} {P1 P2 : Addr} (x : Tab1 g₀ P1 P2 h) (k : Keep h h') : Tab1 g₀ P1 P2 h' := by
  rcases x with e | ⟨c, Pc, e, a, b, r⟩
  · exact .inl (k _ _ e)
  · exact .inr ⟨c, Pc, k _ _ e, a.keeps k, b.keeps k, r⟩
theorem Tab1.tab {g₀ h : Heap} {P1 P2 : Addr} (x : Tab1 g₀ P1 P2 h) : ∃ ps, h.get? P1 = some (tabObj ps) ∧ TriplesOk ps.toList := by
  rcases x with e | ⟨c, Pc, e, _⟩
  · exact ⟨_, e, trivial⟩
  · exact ⟨_, e, TriplesOk_snoc _ _ _ [] trivial⟩
section
variable {M : Model} {A : Around} {E : Value → Shared → Prop} {s : Shared} {env : Env}
theorem cc_miss {c P : Addr} {pos : Pos} {n : Nat} {name qual : Str} {scope : Scope} {Q : Value → Shared → Prop} (hc : env.code = .ref c) (C : CodeHd s.heap c P) (hP : s.heap.get? P = some (tabObj #[]))
    (hQ : ∀ c' P' h' tk, Heap.ExtBut P s.heap h' → s.heap.objs.size ≤ c' → s.heap.objs.size ≤ P' → h'.get? P = some (tabObj (trip pos c')) → CodeHd h' c' P' → h'.get? P' = some (tabObj #[]) → Q (.ref c') { s with heap := h', toks := tk }) :
    wpAny M A (classCode env pos n name qual scope) Q E s := by
  obtain ⟨o, vs, file, tf, flags, tg, inF, text, tt, ho, hcl, hd, h11', h11, h2, h7, h9, h10, hne⟩ := id C
  unfold classCode codeAt
  rw [hc, if_neg (show ¬ ((Value.ref c == Value.none) = true) from Bool.false_ne_true)]
  refine wpAny_bind (wpAny_fieldsOf ho hd ?_)
  rw [h11]
  refine wpAny_bind (wpAny_fieldsOf hP rfl ?_)
  rw [show codeAmong pos (#[] : Array Value).toList = none from rfl, h2, h7, h9, h10]
  refine wpAny_bind (wpAny_newCodeX fun c' P' h' tk hk hc' hP' hcode' htab' hrec' => ?_)
  refine wpAny_bind (wpAny_updateFieldsOfTheText (hk _ _ hP) rfl ?_)
  have hget := Heap.get?_update_self (h := h') (fun o => Obj.mapFields (fun vs => if (codeAmong pos vs.toList).isSome = true then vs else vs ++ #[rawInt pos.line, rawInt pos.col, .ref c']) o) (hk _ _ hP) rfl
  have hget' : (h'.update P (fun o => Obj.mapFields (fun vs => if (codeAmong pos vs.toList).isSome = true then vs else vs ++ #[rawInt pos.line, rawInt pos.col, .ref c']) o)).get? P = some (tabObj (trip pos c')) := hget
  refine wpAny_bind (wpAny_fieldsOf hget' rfl ?_)
  rw [show codeAmong pos (trip pos c').toList = some (.ref c') from codeAmong_snoc [] trivial rfl]
  have hl := Heap.lt_size hP
  have S := Heap.SameBut.update h' P (fun o => Obj.mapFields (fun vs => if (codeAmong pos vs.toList).isSome = true then vs else vs ++ #[rawInt pos.line, rawInt pos.col, .ref c']) o)
  refine wpAny_pure (hQ c' P' _ _ (fun b o nb e => S.extBut b o nb (hk b o e)) hc' hP' hget' ?_ (S.extBut _ _ (Ne.symm (lt_ne hl hP')) htab'.2))
  obtain ⟨o2, vs2, f2, t2, fl2, tg2, i2, tx2, tt2, e2, r2⟩ := CodeHd.of hcode' htab'
  exact ⟨o2, vs2, f2, t2, fl2, tg2, i2, tx2, tt2, S.extBut _ _ (Ne.symm (lt_ne hl hc')) e2, r2⟩
theorem cc {c P1 P2 : Addr} {g₀ : Heap} {n : Nat} {name qual : Str} {scope : Scope} {Q : Value → Shared → Prop} (hc : env.code = .ref c) (C : CodeHd s.heap c P1) (T1 : Tab1 g₀ P1 P2 s.heap) (kg : Keep g₀ s.heap) (hP2 : P2 < s.heap.objs.size)
    (hQ : ∀ c' Pc h' tk, Heap.ExtBut P1 s.heap h' → h'.get? P1 = some (tabObj (trip (cPos clsStmt) c')) → CodeHd h' c' Pc → TabB h' Pc wantC → Pc ≠ P1 → Pc ≠ P2 → g₀.get? Pc = none → Q (.ref c') { s with heap := h', toks := tk }) :
    wpAny M A (classCode env (cPos clsStmt) n name qual scope) Q E s := by
  rcases T1 with e | ⟨c', Pc, e, a, b, n1, n2, n3⟩
  · refine cc_miss hc C e fun c' P' h' tk hx hc' hP' e1 C1 e2 => hQ c' P' h' tk hx e1 C1 ⟨#[], e2, trivial, fun _ _ _ z => by cases z⟩ (Ne.symm (lt_ne (Heap.lt_size e) hP')) (Ne.symm (lt_ne hP2 hP')) ?_
    cases z : g₀.get? P' with
    | none => rfl
    | some o => exact absurd (Heap.lt_size (kg _ _ z)) (Nat.not_lt_of_le hP')
  · exact wpAny_codeAt_hit hc (C.code e (TriplesOk_snoc _ _ _ [] trivial)) (codeAmong_snoc [] trivial rfl) (hQ c' Pc s.heap s.toks (fun _ _ _ e => e) e a b n1 n2 n3)
end

/-- what a made class bears -/
def KN (h : Heap) (C ns cm : Addr) : Prop := ∃ T mb tn tq tk m0 l0 sl fI fL fG fE fe fg st, h.get? C = some (clsObj C T ns tn tq) ∧ Dct h ns (kv13 m0 l0 sl fI fL fG fE fe fg st mb) ∧ h.get? mb = some (memObj C tk) ∧
  FnO h fI "__init__" 2 [] ∧ FnO h fL "__lt__" 3 [("mycmp", cm)] ∧ FnO h fE "__eq__" 5 [("mycmp", cm)]
theorem KN.keeps {h h' : Heap} {C ns cm : Addr} (x : KN h C ns cm) (k : Keep h h') : KN h' C ns cm := by
  obtain ⟨T, mb, tn, tq, tk, m0, l0, sl, fI, fL, fG, fE, fe, fg, st, a, b, c, d, e, f⟩ := x
  exact ⟨T, mb, tn, tq, tk, m0, l0, sl, fI, fL, fG, fE, fe, fg, st, k _ _ a, b.keeps k, k _ _ c, d.keeps k, e.keeps k, f.keeps k⟩
/-- all but dicts is kept -/
abbrev KeepF (h h' : Heap) : Prop := ∀ b o, h.get? b = some o → (∀ es n, o.data ≠ .dict es n) → h'.get? b = some o
theorem keepF {h h' : Heap} {L : Addr} {m : Str → Option Value} (hn : h.Ns L m) (hs : Heap.SameBut L h h') : KeepF h h' := fun b o e hd => (hs.2 b (ns_ne hn e hd)).trans e
theorem FnO.f {h h' : Heap} {f : Addr} {nm : Str} {k : Nat} {clos : List (Str × Addr)} (y : FnO h f nm k clos) (x : KeepF h h') : FnO h' f nm k clos :=
  let ⟨doc, pm, c', ctv, e, hc⟩ := y
  ⟨doc, pm, c', ctv, x _ _ e (fun _ _ q => by cases q), let ⟨c, o, vs, t, e1, e2, e3, e4⟩ := hc; ⟨c, o, vs, t, e1, x _ _ e2 (fun _ _ q => by rw [e3] at q; cases q), e3, e4⟩⟩
theorem KN.f {h h' : Heap} {C ns cm : Addr} (x : KN h C ns cm) (k : KeepF h h') (hns : h'.get? ns = h.get? ns) : KN h' C ns cm := by
  obtain ⟨T, mb, tn, tq, tk, m0, l0, sl, fI, fL, fG, fE, fe, fg, st, a, b, c, d, e, f⟩ := x
  exact ⟨T, mb, tn, tq, tk, m0, l0, sl, fI, fL, fG, fE, fe, fg, st, k _ _ a (fun _ _ q => by cases q), (let ⟨es, n, e, kd⟩ := b; ⟨es, n, hns.trans e, kd⟩), k _ _ c (fun _ _ q => by cases q), d.f k, e.f k, f.f k⟩
theorem codeHd_f {h h' : Heap} {c P : Addr} (x : CodeHd h c P) (k : KeepF h h') : CodeHd h' c P := by
  obtain ⟨o, vs, file, tf, flags, tg, inF, text, tt, e, r1, r2, r⟩ := x; exact ⟨o, vs, file, tf, flags, tg, inF, text, tt, k _ _ e (fun _ _ q => by rw [r2] at q; cases q), r1, r2, r⟩
theorem TabB.f {h h' : Heap} {P : Addr} {want : List (Pos × Str)} (x : TabB h P want) (k : KeepF h h') : TabB h' P want :=
  let ⟨ps, a, b, c⟩ := x; ⟨ps, k _ _ a (fun _ _ q => by cases q), b, fun x hx cv e => let ⟨c', e1, hc⟩ := c x hx cv e; ⟨c', e1, let ⟨c, o, vs, t, e1, e2, e3, e4⟩ := hc; ⟨c, o, vs, t, e1, k _ _ e2 (fun _ _ q => by rw [e3] at q; cases q), e3, e4⟩⟩⟩
theorem Tab1.f {g₀ h h' : Heap} {P1 P2 : Addr} (x : Tab1 g₀ P1 P2 h) (k : KeepF h h') : Tab1 g₀ P1 P2 h' := by
  rcases x with e | ⟨c, Pc, e, a, b, r⟩
  · exact .inl (k _ _ e (fun _ _ q => by cases q))
  · exact .inr ⟨c, Pc, k _ _ e (fun _ _ q => by cases q), codeHd_f a k, b.f k, r⟩
section
variable {prog : Program} {w : World} {A : Around} {E : Value → Shared → Prop} {g₀ : Heap} {mg mb : Str → Option Value} {h : Heap} {g : Array GenState} {d : Drawn} {t : Nat} {os : OsState}
theorem c_build {env : Env} {c1 P1 P2 cm : Addr} {n : Nat} {nmV : Value} {Q : Value → Shared → Prop} (G : Glo g₀ mg mb) (kg : Keep g₀ h) (tp : Looks (model prog w) g₀ (nsGet cStatics "thirdparty.any") none) (hnm : mg "__name__" = some nmV)
    (T1 : Tab1 g₀ P1 P2 h) (hd : CodeHd h c1 P1) (hPP : P1 ≠ P2) {oP2 : Obj} (hP2 : h.get? P2 = some oP2) (hg1 : g₀.get? P1 = none) (hcode : env.code = .ref c1) (hge : env.globals = mainGlobals) (hbe : env.builtins = builtinsNs) (hcl : closureFor (cScope clsStmt) env = pure [(("mycmp" : Str), cm)]) (hroom : A.depth < recursionLimit)
    (q : ∀ h' C ns tk, Keep g₀ h' → KeepT h h' → Tab1 g₀ P1 P2 h' → (∀ o, h.get? P2 = some o → h'.get? P2 = some o) → KN h' C ns cm → (∀ b o, h.get? b = some o → NT o → b ≠ ns) → Q (.ref C) ⟨h', g, d, tk, os⟩) :
    wpAny (model prog w) A (buildClass "K" qK [.type "object"] [] (cBody clsStmt) (cScope clsStmt) ["obj"] n env (cPos clsStmt) none) Q E ⟨h, g, d, t, os⟩ := by
  unfold buildClass
  rw [hge]
  with_reducible refine wpAny_bind ?_; k_node; k_node; k_node; k_node; k_node; k_node; with_reducible refine wpAny_bind ?_
  refine al fun h1 T k1 eT n1 => ?_
  k_node; with_reducible refine wpAny_pure ?_; k_node; with_reducible refine wpAny_bind ?_; k_node; k_node; k_node; k_node; k_node; k_node; k_node; with_reducible refine wpAny_bind ?_; k_node; with_reducible refine wpAny_bind ?_; k_node; k_node; with_reducible refine wpAny_pure ?_; k_node; k_node
  k_node; k_node; with_reducible refine wpAny_pure ?_; k_node; k_node; with_reducible refine wpAny_pure ?_; k_node; with_reducible refine wpAny_bind ?_; k_node; k_node; with_reducible refine wpAny_pure ?_; k_node; with_reducible refine wpAny_bind ?_; k_node; k_node; with_reducible refine wpAny_pure ?_
  k_node; k_node; with_reducible refine wpAny_bind ?_; k_node; k_node; k_node; k_node; k_node; k_node; k_node; with_reducible refine wpAny_bind ?_; k_node; with_reducible refine wpAny_bind ?_; k_node; k_node; with_reducible refine wpAny_pure ?_; with_reducible refine wpAny_bind ?_; k_node
  with_reducible refine wpAny_bind ?_; k_node; k_node; with_reducible refine wpAny_pure ?_; k_node; with_reducible refine wpAny_pure ?_; k_node; with_reducible refine wpAny_pure ?_; k_node; k_node; with_reducible refine wpAny_pure ?_; k_node; with_reducible refine wpAny_bind ?_; k_node
  with_reducible refine wpAny_bind ?_; k_node; with_reducible refine nd_fresh ?_; with_reducible refine nd_pure ?_; with_reducible refine wpAny_pure ?_; k_node; k_node; with_reducible refine wpAny_bind ?_; with_reducible refine wpAny_pure ?_; k_node; with_reducible refine wpAny_holding ?_
  with_reducible refine wpAny_bind ?_
  refine prep1 fun h2 pa t2 k2 ep => ?_
  replace eT := k2 _ _ eT
  k_node; with_reducible refine wpAny_bind ?_; with_reducible refine wpAny_call ?_
  refine prep2 ep fun h3 nsA t3 k3 eN n3 => ?_
  replace ep := k3 _ _ ep; replace eT := k3 _ _ eT
  k_node; with_reducible refine wpAny_bind ?_; k_node
  have hsm : (nsA == sysModules) = false := by
    have := modules_low ((G.lim.keeps kg).keeps ((k1.trans k2)))
    rw [n3]
    simpa using Nat.ne_of_gt this
  refine if_f (by rw [hsm]; decide) ?_
  with_reducible refine wpAny_pure ?_; with_reducible refine wpAny_bind ?_; k_node; with_reducible refine wpAny_bind ?_; k_node; k_node; with_reducible refine wpAny_bind ?_; with_reducible refine wpAny_loadPart (by assumption) ?_; with_reducible refine wpAny_pure ?_; k_node
  with_reducible refine wpAny_bind ?_; k_node; k_node; with_reducible refine wpAny_pure ?_; with_reducible refine wpAny_bind ?_; k_node; k_node; k_node; k_node; k_node; k_node; k_node; with_reducible refine wpAny_bind ?_; k_node; with_reducible refine wpAny_bind ?_; k_node; k_node
  with_reducible refine wpAny_pure ?_; k_node; with_reducible refine wpAny_pure ?_; k_node; with_reducible refine wpAny_pure ?_; k_node; with_reducible refine wpAny_pure ?_; k_node; k_node; k_node; with_reducible refine wpAny_holding ?_; k_node; k_node; with_reducible refine wpAny_bind ?_
  with_reducible refine wpAny_pure ?_; k_node; k_node; with_reducible refine wpAny_bind ?_; with_reducible refine wpAny_pure ?_; k_node; with_reducible refine wpAny_bind ?_
  have K3 : Keep h h3 := k1.trans (k2.trans k3)
  refine cc (s := ⟨h3, g, d, t3, os⟩) (P2 := P2) hcode (hd.keeps K3) (T1.keeps K3) (kg.trans K3) (Heap.lt_size (K3 _ _ hP2)) fun c Pc h4 t4 x4 e4 C4 TB4 p1 p2 p3 => ?_
  have kg4 : Keep g₀ h4 := fun b o e => x4 b o (fun q => by rw [q, hg1] at e; cases e) (K3 _ _ (kg _ _ e))
  obtain ⟨bm, ob, b1, b2, b3, b4, b5, b6⟩ := G.bmain
  refine wpAny_bind (wpAny_builtinsFor (G.g.keeps kg4) b1 b2 (kg4 _ _ b3) b4 b5 b6 ?_)
  refine wpAny_bind ?_
  unfold newBodyFrame
  refine wpAny_bind (wpAny_nsGet (G.g.keeps kg4) (al fun h5 fr k5 e5 n5 => ?_))
  rw [hcl]
  refine wpAny_bind (wpAny_pure (wpAny_holding (wpAny_bind (wpAny_enterFrame (G.lim.keeps (kg4.trans k5)) hroom ?_))))
  obtain ⟨ps1, eP1, tP1⟩ := T1.tab
  replace eP1 := K3 _ _ eP1
  have nP1 : nsA ≠ P1 := fun q => by rw [q, eP1] at eN; cases eN
  have eN5 : h5.get? nsA = some (dictOf [] 0) := k5 _ _ (x4 _ _ nP1 eN)
  have kg5 := kg4.trans k5
  have lkN : Looks (model prog w) h5 (nsGet mainGlobals "__name__") (some nmV) := fun A' Q' E' s' k' q' => wpAny_nsGet ((G.g.keeps kg5).keeps k') (by rw [hnm]; exact q')
  have dN5 : Dct h5 nsA [] := ⟨[], 0, eN5, .nil⟩
  with_reducible refine wpAny_bind ?_; with_reducible refine wpAny_onRaise ?_; with_reducible refine wpAny_bind ?_; k_node; k_node; k_node; k_node; k_node; k_node; with_reducible refine wpAny_bind ?_; k_node; with_reducible refine wpAny_bind ?_; with_reducible refine wpAny_load (by assumption) ?_
  k_node; with_reducible refine d_get (by assumption) ?_; k_node; k_node; with_reducible refine wpAny_bind ?_; with_reducible refine Looks.at (by assumption) ?_; k_node; with_reducible refine wpAny_pure ?_; with_reducible refine wpAny_bind ?_
  refine stK dN5 rfl fun h6 d6 s6 => ?_
  with_reducible refine wpAny_bind ?_; k_node; with_reducible refine wpAny_bind ?_; k_node; with_reducible refine nd_fresh ?_; with_reducible refine nd_pure ?_; with_reducible refine wpAny_pure ?_; with_reducible refine wpAny_bind ?_
  refine stK d6 rfl fun h7 d7 s7 => ?_
  with_reducible refine wpAny_bind ?_; k_node; with_reducible refine wpAny_bind ?_; k_node; with_reducible refine nd_fresh ?_; with_reducible refine nd_pure ?_; with_reducible refine wpAny_pure ?_; with_reducible refine wpAny_bind ?_
  refine stK d7 rfl fun h8 d8 s8 => ?_
  k_node; with_reducible refine wpAny_pure ?_; k_node; with_reducible refine wpAny_bind ?_
  have neP : nsA ≠ Pc := fun q => by obtain ⟨ps, e, _⟩ := TB4; rw [← q, x4 _ _ nP1 eN] at e; cases e
  have hgA : g₀.get? nsA = none := by
    cases z : g₀.get? nsA with
    | none => rfl
    | some o => exact absurd rfl (n3.ne (k2 _ _ (k1 _ _ (kg _ _ z))))
  have B5 : CB g₀ h5 nsA c Pc [] := ⟨kg5, dN5, TB4.keeps k5, C4.keeps k5⟩
  have B6 := B5.store neP hgA d6 s6
  have B7 := B6.store neP hgA d7 s7
  have B8 := B7.store neP hgA d8 s8
  refine wpAny_run (codeAny_body rfl rfl (cb_body G B8 neP hgA p3 fun h9 t9 tm ts sl fI fL fG fE fe fg B9 X9 lS FI FL FG FE Fe Fg => ?_))
  with_reducible refine wpAny_bind ?_; with_reducible refine wpAny_onRaise ?_; with_reducible refine wpAny_bind ?_; k_node; k_node; with_reducible refine wpAny_bind ?_; k_node; with_reducible refine wpAny_bind ?_; k_node; with_reducible refine nd_fresh ?_; with_reducible refine nd_pure ?_
  with_reducible refine wpAny_pure ?_; k_node; with_reducible refine wpAny_pure ?_; with_reducible refine wpAny_bind ?_; k_node; k_node; with_reducible refine wpAny_bind ?_
  refine al fun h10 st k10 e10 n10 => ?_
  k_node; with_reducible refine wpAny_pure ?_; with_reducible refine wpAny_bind ?_
  refine stK (B9.keep k10).d rfl fun h11 d11 s11 => ?_
  have B11 := (B9.keep k10).store neP hgA d11 s11
  have X11 : KeepX [nsA, Pc] h9 h11 := (k10.x _).trans (keepX_same s11 (.head _))
  have lS11 := ls_x lS B9.d B9.t X11
  have FI11 := FI.keepX B9.d B9.t X11
  have FL11 := FL.keepX B9.d B9.t X11
  have FG11 := FG.keepX B9.d B9.t X11
  have FE11 := FE.keepX B9.d B9.t X11
  have Fe11 := Fe.keepX B9.d B9.t X11
  have Fg11 := Fg.keepX B9.d B9.t X11
  have eNs10 : ∃ es n, h10.get? nsA = some (dictOf es n) := let ⟨es, n, e, _⟩ := (B9.keep k10).d; ⟨es, n, e⟩
  have est : h11.get? st = _ := (s11.2 st (fun (q : st = nsA) => by obtain ⟨es, n, e⟩ := eNs10; rw [← q, e10] at e; have z := congrArg Obj.data (Option.some.inj e); cases z)).trans e10
  have far : ∀ b o, h4.get? b = some o → b ≠ nsA → b ≠ Pc → h11.get? b = some o := fun b o e n1 n2 => by
    have nn : b ∉ [nsA, Pc] := by simp only [List.mem_cons, List.not_mem_nil, or_false, not_or]; exact ⟨n1, n2⟩
    exact X11 b o nn (X9 b o nn ((s8.2 b n1).trans ((s7.2 b n1).trans ((s6.2 b n1).trans (k5 b o e)))))
  have nTP : T ≠ P1 := fun q => by rw [q, eP1] at eT; cases eT
  have e4T := x4 _ _ nTP eT
  have eT11 : h11.get? T = _ := far T _ e4T (fun q => by rw [q, x4 _ _ nP1 eN] at e4T; have z := congrArg Obj.data (Option.some.inj e4T); cases z) (fun q => by obtain ⟨ps, e, _⟩ := TB4; rw [q, e] at e4T; cases e4T)
  k_node; with_reducible refine wpAny_pure ?_; k_node; k_node; k_node; with_reducible refine wpAny_bind ?_; with_reducible refine wpAny_call ?_
  obtain ⟨_, _, _, _, zI, _⟩ := id FI11
  obtain ⟨_, _, _, _, zL, _⟩ := id FL11
  obtain ⟨_, _, _, _, zG, _⟩ := id FG11
  obtain ⟨_, _, _, _, zE, _⟩ := id FE11
  obtain ⟨_, _, _, _, ze, _⟩ := id Fe11
  obtain ⟨_, _, _, _, zg, _⟩ := id Fg11
  refine tcall eT11 B11.d hsm lS11 zI zL zG zE ze zg est (tp.keeps B11.kg) fun h12 C nsC mb2 tk t12 k12 nn eC dC eM => ?_
  k_node; with_reducible refine wpAny_pure ?_
  have KT : KeepT h h11 := by
    intro b o e ht
    have e3 := K3 _ _ e
    have b1 : b ≠ P1 := fun q => by rw [q, eP1] at e3; exact ht _ tP1 (Option.some.inj e3).symm
    have e4 := x4 _ _ b1 e3
    exact far b o e4 (n3.ne (k2 _ _ (k1 _ _ e))) (fun q => by obtain ⟨ps, z, zt, _⟩ := TB4; rw [q, z] at e4; exact ht _ zt (Option.some.inj e4).symm)
  refine q h12 C nsC _ (B11.kg.trans k12) (fun b o e ht => k12 _ _ (KT b o e ht)) ?_ ?_ ?_ (fun b o e ht z => by have := KT b o e ht; rw [z, nn.2] at this; cases this)
  · refine .inr ⟨c, Pc, k12 _ _ (far _ _ e4 (Ne.symm nP1) (Ne.symm p1)), B11.hd.keeps k12, B11.t.keeps k12, p1, p2, p3⟩
  · intro o e
    exact k12 _ _ (far _ _ (x4 _ _ (Ne.symm hPP) (K3 _ _ e)) (n3.ne (k2 _ _ (k1 _ _ e))) (Ne.symm p2))
  · exact ⟨T, mb2, _, _, tk, _, _, sl, fI, fL, fG, fE, fe, fg, st, eC, dC, eM, FI11.keeps k12, FL11.keeps k12, FE11.keeps k12⟩
end

section
variable {prog : Program} {w : World} {A : Around} {E : Value → Shared → Prop} {g₀ : Heap} {mg mb : Str → Option Value} {s : Shared}
/-- a call of a def that has cells -/
theorem call_cell {k : Nat} {nm : Str} {f : Addr} {cdv : Value} {vals : List Value} {binds : List (Str × Value)} {Q : Value → Shared → Prop} (F : FnAt s.heap f k nm cdv) (hlim : s.heap.NoLimit) (hroom : A.depth < recursionLimit)
    (hbind : ∀ doc pm ct, bindArgs (fnX nm nm (fArgs (stm k)) (fBody (stm k)) (fScope (stm k)) [] .none .none doc pm none cdv ct) ⟨vals, []⟩ = pure binds)
    (hkind : ∀ L, ∀ x ∈ binds, (fScope (stm k)).names.lookup x.1 = some .local ∨ ((fScope (stm k)).names.lookup x.1 = some .cell ∧ ((cellsFrom L (fScope (stm k)).names []).lookup x.1).isSome = true))
    (h : ∀ L h₁ tk, s.heap.objs.size = L → h₁.Ns L (bindL (fun x => (fScope (stm k)).names.lookup x) binds fun _ => none) → (∀ n c, (cellsFrom (L + 1) (fScope (stm k)).names []).lookup n = some c → h₁.IsCell c (bindC (fun x => (fScope (stm k)).names.lookup x) binds (fun _ => none) n)) → Keep s.heap h₁ →
      wpAny (model prog w) (A.deeper (envX nm (fScope (stm k)) L f cdv (cellsFrom (L + 1) (fScope (stm k)).names []))) (execs (fBody (stm k)) (envX nm (fScope (stm k)) L f cdv (cellsFrom (L + 1) (fScope (stm k)).names []))) (fun fl s' => Q (retOf fl) s') (fun _ _ => False) { s with heap := h₁, toks := tk })
    (hco : (fScope (stm k)).isCoroutine = false := by rfl) (hgen : (fScope (stm k)).isGenerator = false := by rfl) (hk : (fScope (stm k)).kind = .function := by rfl) :
    wpAny (model prog w) A (call (.ref f) vals) Q E s := by
  obtain ⟨o, pm, doc, ct, ho, hd, hc⟩ := F
  refine wpAny_call (codeAny_call_cells hroom ho hd hlim hc rfl (hbind doc pm ct) rfl (hkind _) (fun s₁ X => ?_) hco hgen hk)
  obtain ⟨h₁, tk, rfl⟩ := X.toInCall.same
  refine wpAny_mono (h _ h₁ tk rfl X.toInCall.ns X.cell X.toInCall.keep) (fun fl s' hq => ?_) fun _ _ e => e.elim
  cases fl <;> exact hq
end
section
variable {prog : Program} {w : World} {A : Around} {E : Value → Shared → Prop} {g₀ : Heap} {mg mb : Str → Option Value} {h : Heap} {g : Array GenState} {d : Drawn} {t : Nat} {os : OsState}
theorem c_cmp {f c1 P1 P2 : Addr} {nmV lam : Value} {oP2 : Obj} {Q : Value → Shared → Prop} (G : Glo g₀ mg mb) (F : FnAt g₀ f 1 "cmp_to_key" (.ref c1)) (kg : Keep g₀ h) (tp : Looks (model prog w) g₀ (nsGet cStatics "thirdparty.any") none) (hnm : mg "__name__" = some nmV) (hob : mg "object" = none)
    (T1 : Tab1 g₀ P1 P2 h) (hd : CodeHd g₀ c1 P1) (hPP : P1 ≠ P2) (hP2 : h.get? P2 = some oP2) (hg1 : g₀.get? P1 = none) (hroom : A.depth + 1 < recursionLimit)
    (q : ∀ h' C ns cm tk, Keep g₀ h' → KeepT h h' → Tab1 g₀ P1 P2 h' → (∀ o, h.get? P2 = some o → (∀ es n, o.data ≠ .dict es n) → h'.get? P2 = some o) → KN h' C ns cm → (∀ b o, h.get? b = some o → NT o → b ≠ ns) → h.objs.size ≤ cm → h'.IsCell cm (some lam) → Q (.ref C) ⟨h', g, d, tk, os⟩) :
    wpAny (model prog w) A (call (.ref f) [lam]) Q E ⟨h, g, d, t, os⟩ := by
  refine call_cell (k := 1) (binds := [("mycmp", lam)]) (F.keeps kg) (G.lim.keeps kg) (Nat.lt_of_succ_lt hroom) (fun _ _ _ => rfl) (fun L x hx => ?_) fun L h1 t1 hL hn hcl k1 => ?_
  · rcases List.mem_cons.mp hx with rfl | hx
    · exact .inr ⟨rfl, rfl⟩
    · cases hx
  have cM : h1.IsCell (L + 1) (some lam) := hcl "mycmp" (L + 1) rfl
  refine wpAny_execs_cons ?_
  show wpAny _ _ (exec (.ClassDef _ _ _ _ _ [] _ _ _ _ _) _) _ _ _
  rw [arm_exec_ClassDef]
  have lkB : Looks (model prog w) h1 (nsGet builtinsNs "__build_class__") (some (.builtin "__build_class__")) := fun A' Q' E' s' k' q' => wpAny_nsGet ((G.b.keeps (kg.trans k1)).keeps k') (by rw [G.bi _ (by decide)]; rw [show bootBuiltins "__build_class__" = some (.builtin "__build_class__") from by decide +kernel]; exact q')
  with_reducible refine wpAny_bind ?_; k_node; with_reducible refine wpAny_pure ?_; with_reducible refine wpAny_bind ?_
  refine wpAny_standAt ?_
  with_reducible refine wpAny_bind ?_; k_node; with_reducible refine wpAny_bind ?_; with_reducible refine Looks.at (by assumption) ?_; k_node; with_reducible refine wpAny_pure ?_; with_reducible refine wpAny_bind ?_; with_reducible refine wpAny_holding ?_; with_reducible refine wpAny_bind ?_; k_node
  k_node; with_reducible refine wpAny_bind ?_; k_node; with_reducible refine wpAny_bind ?_; k_node
  refine nB G (kg.trans k1) hob boot_object ?_
  k_node; k_node; with_reducible refine wpAny_bind ?_; with_reducible refine wpAny_pure ?_; k_node; with_reducible refine wpAny_bind ?_; with_reducible refine wpAny_holding ?_; k_node; with_reducible refine wpAny_pure ?_; with_reducible refine wpAny_pure ?_; with_reducible refine wpAny_bind ?_
  with_reducible refine wpAny_pure ?_; k_node; with_reducible refine wpAny_holding ?_; k_node; k_node; with_reducible refine wpAny_bind ?_; k_node; with_reducible refine wpAny_pure ?_; k_node; with_reducible refine wpAny_bind ?_; k_node; with_reducible refine wpAny_pure ?_
  with_reducible refine wpAny_pure ?_; with_reducible refine wpAny_bind ?_
  refine wpAny_standAt ?_
  with_reducible refine wpAny_holding ?_
  have eP2 := k1 _ _ hP2
  refine c_build (P1 := P1) (P2 := P2) (cm := L + 1) G (kg.trans k1) tp hnm (T1.keeps k1) (hd.keeps (kg.trans k1)) hPP eP2 hg1 rfl rfl rfl rfl hroom fun h2 C ns t2 kg2 kt2 T2 p2 K2 f2 => ?_
  with_reducible refine wpAny_bind ?_; k_node; with_reducible refine wpAny_pure ?_; with_reducible refine wpAny_bind ?_
  refine wpAny_standAt ?_
  with_reducible refine wpAny_bind ?_
  unfold bindName
  have hn2 := ns_t hn kt2
  with_reducible refine wpAny_bind ?_; with_reducible refine wpAny_holding ?_; k_node; with_reducible refine nd_point ?_; with_reducible refine nd_pure ?_; with_reducible refine wpAny_bind ?_
  refine stL (m := _) hn2 fun h3 hn3 s3 => ?_
  k_node; with_reducible refine nd_point ?_; with_reducible refine nd_pure ?_; with_reducible refine wpAny_pure ?_
  have nsL : ns ≠ L := by
    obtain ⟨o, es, ep, e, hd, _⟩ := hn
    exact Ne.symm (f2 _ _ e (no_tab fun vs q => by rw [hd] at q; cases q))
  have KF := keepF hn2 s3
  refine wpAny_execs_cons (wpAny_Return_some (nL hn3 rfl ?_))
  show Q (.ref C) _
  have hlt : ∀ b o, h.get? b = some o → b ≠ L := fun b o e => Nat.ne_of_lt (hL ▸ Heap.lt_size e)
  refine q h3 C ns (L + 1) _ (fun b o e => (s3.2 b (hlt b o (kg _ _ e))).trans (kg2 b o e)) (fun b o e ht => (s3.2 b (hlt b o e)).trans (kt2 b o (k1 b o e) ht)) (T2.f KF) (fun o e hd => KF _ _ (p2 o (k1 _ _ e)) hd) (K2.f KF (s3.2 _ nsL)) (fun b o e ht => f2 b o (k1 _ _ e) ht) (hL ▸ Nat.le_succ _) ?_
  exact (cell_t cM kt2).sameBut s3 (Nat.succ_ne_self L)
end

def lamE : Expr := match fBody (stm 12) with
  | [.Return (some (.Call _ (a :: _) _ _)) _] => a
  | _ => .Constant .none 0 default
def lArgs : Arguments := match lamE with | .Lambda a _ _ _ => a | _ => default
def lBody : Expr := match lamE with | .Lambda _ b _ _ => b | _ => .Constant .none 0 default
def lScope : Scope := match lamE with | .Lambda _ _ sc _ => sc | _ => default
def lPos : Pos := match lamE with | .Lambda _ _ _ p => p | _ => default
theorem lamE_eq : lamE = .Lambda lArgs lBody lScope lPos := rfl
def qL : Str := ("_law_steepness" : Str) ++ (".<locals>." : Str) ++ ("<lambda>" : Str)
def Tab2 (P2 : Addr) (h : Heap) : Prop := h.get? P2 = some (tabObj #[]) ∨ ∃ c, h.get? P2 = some (tabObj (trip lPos c)) ∧ h.CodeRec (.ref c) qL
theorem Tab2.keeps {h h' : Heap} {P2 : Addr} (x : Tab2 P2 h) (k : Keep h h') : Tab2 P2 h' := by
  rcases x with e | ⟨c, e, a⟩
  · exact .inl (k _ _ e)
  · exact .inr ⟨c, k _ _ e, a.keeps k⟩
/-- the lambda, over the cell cw -/
def LamAt (h : Heap) (l cw : Addr) : Prop := ∃ pm c ctv, h.get? l = some (kla_obj "<lambda>" qL lArgs lBody lScope [("ways", cw)] pm c ctv) ∧ h.CodeRec (.ref c) qL
theorem LamAt.keeps {h h' : Heap} {l cw : Addr} (x : LamAt h l cw) (k : Keep h h') : LamAt h' l cw := let ⟨pm, c, ctv, e, r⟩ := x; ⟨pm, c, ctv, k _ _ e, r.keeps k⟩
theorem LamAt.t {h h' : Heap} {l cw : Addr} (x : LamAt h l cw) (k : KeepT h h') : LamAt h' l cw := let ⟨pm, c, ctv, e, r⟩ := x; ⟨pm, c, ctv, k _ _ e (no_tab fun _ q => by cases q), rec_t r k⟩
section
variable {prog : Program} {w : World} {A : Around} {E : Value → Shared → Prop} {g₀ : Heap} {mg mb : Str → Option Value} {h : Heap} {g : Array GenState} {d : Drawn} {t : Nat} {os : OsState}
theorem mkLam {env : Env} {s : Shared} {c2 P2 cw : Addr} {Q : Value → Shared → Prop} {M : Model} (G : Glo g₀ mg mb) (kg : Keep g₀ s.heap) (T2 : Tab2 P2 s.heap) (C : CodeHd s.heap c2 P2) (hcode : env.code = .ref c2) (hge : env.globals = mainGlobals) (hcl : closureFor lScope env = pure [(("ways" : Str), cw)])
    (hq : env.qual ++ ("<lambda>" : Str) = qL) (hdef : defaultsOf lArgs env = ([], []))
    (h : ∀ h' tk l, Heap.ExtBut P2 s.heap h' → Tab2 P2 h' → LamAt h' l cw → Q (.ref l) { s with heap := h', toks := tk }) : wpAny M A (eval lamE env) Q E s := by
  rw [lamE_eq]
  refine kla_eval hdef ?_
  rw [hq]
  rcases T2 with e | ⟨c, e, r⟩
  · obtain ⟨hB, hgP⟩ := builtinsAt G kg e
    refine kla_makeFunction hcl hge (G.g.keeps kg) hcode C e trivial rfl hgP hB fun c' ctv h' tk hx hge' hlt hrec htb => ?_
    refine h _ _ _ (fun b o nb e => Heap.get?_push_of_some _ (hx b o nb e)) (.inr ⟨c', Heap.get?_push_of_some _ htb, hrec.keeps fun b o e => Heap.get?_push_of_some _ e⟩) ⟨_, c', ctv, Heap.get?_push_size _ rfl, hrec.keeps fun b o e => Heap.get?_push_of_some _ e⟩
  · obtain ⟨hB, hgP⟩ := builtinsAt G kg e
    refine kla_makeFunctionHit hcl hge (G.g.keeps kg) hcode C e (TriplesOk_snoc _ _ _ [] trivial) (codeAmong_snoc [] trivial rfl) hB fun ctv h' tk hk hsz => ?_
    have k : Keep s.heap _ := fun b o e => Heap.get?_push_of_some (kla_obj "<lambda>" qL lArgs lBody lScope [("ways", cw)] ((mg "__name__").getD .none) c ctv) (hk b o e)
    exact h _ _ _ (fun b o nb e => k b o e) (.inr ⟨c, k _ _ e, r.keeps k⟩) ⟨_, c, ctv, Heap.get?_push_size _ rfl, r.keeps k⟩
theorem c_steep {f f1 c1 c2 P1 P2 : Addr} {nmV wv : Value} {Q : Value → Shared → Prop} (G : Glo g₀ mg mb) (F : FnAt g₀ f 12 "_law_steepness" (.ref c2)) (F1 : FnAt g₀ f1 1 "cmp_to_key" (.ref c1)) (hf1 : mg "cmp_to_key" = some (.ref f1)) (kg : Keep g₀ h) (tp : Looks (model prog w) g₀ (nsGet cStatics "thirdparty.any") none) (hnm : mg "__name__" = some nmV) (hob : mg "object" = none)
    (T1 : Tab1 g₀ P1 P2 h) (T2 : Tab2 P2 h) (hd1 : CodeHd g₀ c1 P1) (hd2 : CodeHd g₀ c2 P2) (hPP : P1 ≠ P2) (hg1 : g₀.get? P1 = none) (hg2 : g₀.get? P2 = none) (hroom : A.depth + 2 < recursionLimit)
    (q : ∀ h' C ns cm l cw tk, Keep g₀ h' → KeepT h h' → Tab1 g₀ P1 P2 h' → Tab2 P2 h' → KN h' C ns cm → (∀ b o, h.get? b = some o → NT o → b ≠ ns ∧ b ≠ cm ∧ b ≠ cw) → h'.IsCell cm (some (.ref l)) → LamAt h' l cw → h'.IsCell cw (some wv) → Q (.ref C) ⟨h', g, d, tk, os⟩) :
    wpAny (model prog w) A (call (.ref f) [wv]) Q E ⟨h, g, d, t, os⟩ := by
  refine call_cell (k := 12) (binds := [("ways", wv)]) (F.keeps kg) (G.lim.keeps kg) (Nat.lt_of_succ_lt (Nat.lt_of_succ_lt hroom)) (fun _ _ _ => rfl) (fun L x hx => ?_) fun L h1 t1 hL hn hcl k1 => ?_
  · rcases List.mem_cons.mp hx with rfl | hx
    · exact .inr ⟨rfl, rfl⟩
    · cases hx
  have cW : h1.IsCell (L + 1) (some wv) := hcl "ways" (L + 1) rfl
  obtain ⟨o1, pm1, doc1, ct1, e1, d1, r1⟩ := id F1
  refine wpAny_execs_cons (wpAny_Return_some (Call_ (nG G (kg.trans k1) hf1 (cwF (o := o1) (fd := _) (spliced_more (mkLam (P2 := P2) (cw := L + 1) G (kg.trans k1) (T2.keeps k1) (hd2.keeps (kg.trans k1)) rfl rfl rfl rfl rfl fun h2 t2 l x2 T22 l2 => spliced_none ⟨⟨(fun b o e => x2 b o (fun q => by rw [q, hg2] at e; cases e) (k1 _ _ (kg _ _ e)) : Keep g₀ h2) _ _ e1, d1⟩, ?_⟩))))))
  have kg2 : Keep g₀ h2 := fun b o e => x2 b o (fun q => by rw [q, hg2] at e; cases e) (k1 _ _ (kg _ _ e))
  have eP2 : ∃ ps, h2.get? P2 = some (tabObj ps) := by
    rcases T22 with e | ⟨c, e, _⟩
    · exact ⟨_, e⟩
    · exact ⟨_, e⟩
  obtain ⟨ps2, eP2⟩ := eP2
  have eP2' : ∃ ps, h1.get? P2 = some (tabObj ps) ∧ TriplesOk ps.toList := by
    rcases T2.keeps k1 with e | ⟨c, e, _⟩
    · exact ⟨_, e, trivial⟩
    · exact ⟨_, e, TriplesOk_snoc _ _ _ [] trivial⟩
  obtain ⟨ps2', eP2', tP2'⟩ := eP2'
  have KT2 : KeepT h1 h2 := fun b o e ht => x2 b o (fun q => by rw [q, eP2'] at e; exact ht _ tP2' (Option.some.inj e).symm) e
  have T12 : Tab1 g₀ P1 P2 h2 := by
    rcases T1.keeps k1 with e | ⟨c, Pc, e, a, b, n1, n2, n3⟩
    · exact .inl (x2 _ _ hPP e)
    · refine .inr ⟨c, Pc, x2 _ _ hPP e, ?_, ?_, n1, n2, n3⟩
      · obtain ⟨o, vs, file, tf, flags, tg, inF, text, tt, e, r1, r⟩ := a
        exact ⟨o, vs, file, tf, flags, tg, inF, text, tt, KT2 _ _ e (no_tabC (by rw [r1]; intro z; cases z)), r1, r⟩
      · obtain ⟨ps, e1, e2, e3⟩ := b
        exact ⟨ps, x2 _ _ n2 e1, e2, fun x hx cv e => let ⟨c2', z1, z2⟩ := e3 x hx cv e; ⟨c2', z1, rec_t z2 KT2⟩⟩
  refine c_cmp (P1 := P1) (P2 := P2) G F1 kg2 tp hnm hob T12 hd1 hPP eP2 hg1 (by show (A.deeper _).depth + 1 < _; exact hroom) fun h3 C ns cm t3 kg3 kt3 T13 p3 K3 f3 z3 c3 => ?_
  show Q (.ref C) _
  have T23 : Tab2 P2 h3 := by
    rcases T22 with e | ⟨c, e, r⟩
    · exact .inl (p3 _ e (fun _ _ q => by cases q))
    · refine .inr ⟨c, p3 _ e (fun _ _ q => by cases q), rec_t r kt3⟩
  exact q h3 C ns cm l (L + 1) _ kg3 (fun b o e ht => kt3 _ _ (KT2 _ _ (k1 _ _ e) ht) ht) T13 T23 K3 (fun b o e ht => ⟨f3 b o (KT2 _ _ (k1 _ _ e) ht) ht, Nat.ne_of_lt (Nat.lt_of_lt_of_le (Heap.lt_size (KT2 _ _ (k1 _ _ e) ht)) z3), Nat.ne_of_lt (Nat.lt_succ_of_lt (hL ▸ Heap.lt_size e))⟩) c3 (l2.t kt3) (cell_t (cell_t cW KT2) kt3)
end

/-- an object of the class, over the int j -/
abbrev kiObj (C dx : Addr) (v : Value) : Obj := ⟨.ref C, some dx, .plain, #[some v]⟩
def KI (h : Heap) (C x : Addr) (j : Int) : Prop := ∃ dx tk, h.get? x = some (kiObj C dx (.int j tk))
theorem KI.keeps {h h' : Heap} {C x : Addr} {j : Int} (y : KI h C x j) (k : Keep h h') : KI h' C x j := let ⟨dx, tk, e⟩ := y; ⟨dx, tk, k _ _ e⟩
section
variable {prog : Program} {w : World} {A : Around} {E : Value → Shared → Prop} {h : Heap} {g : Array GenState} {d : Drawn} {t : Nat} {os : OsState} {M : Model}
theorem makes {C T ns : Addr} {tn tq : Tok} {kvs : List (Str × Value)} (eC : h.get? C = some (clsObj C T ns tn tq)) (dN : Dct h ns kvs) (hnw : kvs.lookup ("__new__" : Str) = none) : Makes M h C := by
  refine ⟨⟨_, _, _, _, eC, rfl, rfl, rfl⟩, ?_, ?_, ?_, ?_, ?_, ?_⟩
  · intro yA yQ yE ys yk yq
    obtain ⟨yh, yg, yd, yt, yo⟩ := ys
    replace eC := yk _ _ eC; replace dN := Dct.keeps dN yk
    k_node; k_node; with_reducible refine wpAny_bind ?_; k_node; k_node; with_reducible refine wpAny_bind ?_; k_node; with_reducible refine wpAny_bind ?_; with_reducible refine wpAny_load (by assumption) ?_; k_node; with_reducible refine wpAny_pure ?_; with_reducible refine wpAny_pure ?_
    with_reducible refine wpAny_bind ?_; k_node; k_node; k_node; k_node; k_node; k_node; k_node; with_reducible refine wpAny_bind ?_; k_node; with_reducible refine wpAny_bind ?_; k_node; with_reducible refine wpAny_bind ?_; with_reducible refine wpAny_loadPart (by assumption) ?_
    with_reducible refine wpAny_pure ?_; k_node; with_reducible refine wpAny_pure ?_; k_node; with_reducible refine wpAny_pure ?_; k_node; with_reducible refine wpAny_pure ?_
    assumption
  · intro yA yQ yE ys yk yq
    obtain ⟨yh, yg, yd, yt, yo⟩ := ys
    replace eC := yk _ _ eC; replace dN := Dct.keeps dN yk
    k_node; k_node; with_reducible refine wpAny_bind ?_; k_node; k_node; with_reducible refine wpAny_bind ?_; k_node; with_reducible refine wpAny_bind ?_; with_reducible refine wpAny_load (by assumption) ?_; k_node; with_reducible refine wpAny_pure ?_; with_reducible refine wpAny_pure ?_
    with_reducible refine wpAny_bind ?_; k_node; k_node; k_node; k_node; k_node; k_node; k_node; with_reducible refine wpAny_bind ?_; k_node; with_reducible refine wpAny_bind ?_; k_node; k_node; with_reducible refine wpAny_bind ?_; k_node; k_node; with_reducible refine wpAny_bind ?_; k_node
    with_reducible refine wpAny_bind ?_; with_reducible refine wpAny_load (by assumption) ?_; k_node; with_reducible refine wpAny_pure ?_; with_reducible refine wpAny_pure ?_; with_reducible refine wpAny_bind ?_; k_node; k_node; k_node; k_node; k_node; k_node; k_node; with_reducible refine wpAny_bind ?_
    k_node; with_reducible refine wpAny_bind ?_; k_node; with_reducible refine wpAny_bind ?_; with_reducible refine wpAny_loadPart (by assumption) ?_; with_reducible refine wpAny_pure ?_; k_node; with_reducible refine wpAny_pure ?_; k_node; with_reducible refine wpAny_pure ?_; k_node
    with_reducible refine wpAny_pure ?_; k_node; with_reducible refine wpAny_pure ?_; k_node; with_reducible refine wpAny_pure ?_; k_node; with_reducible refine wpAny_pure ?_
    assumption
  · intro yA yQ yE ys yk yq
    obtain ⟨yh, yg, yd, yt, yo⟩ := ys
    replace eC := yk _ _ eC; replace dN := Dct.keeps dN yk
    k_node; with_reducible refine wpAny_bind ?_; k_node; k_node; with_reducible refine wpAny_bind ?_; k_node; with_reducible refine wpAny_bind ?_; with_reducible refine wpAny_load (by assumption) ?_; k_node; with_reducible refine wpAny_pure ?_; with_reducible refine wpAny_pure ?_; k_node; k_node; k_node
    with_reducible refine wpAny_pure ?_
    rw [show List.contains [Value.ref C, Value.type "object"] (Value.ref C) = true from by simp]
    assumption
  · intro yA yQ yE ys yk yq
    obtain ⟨yh, yg, yd, yt, yo⟩ := ys
    replace eC := yk _ _ eC; replace dN := Dct.keeps dN yk
    k_node; with_reducible refine wpAny_bind ?_; k_node; k_node; with_reducible refine wpAny_bind ?_; k_node; with_reducible refine wpAny_bind ?_; with_reducible refine wpAny_load (by assumption) ?_; k_node; with_reducible refine wpAny_pure ?_; with_reducible refine wpAny_pure ?_; k_node; k_node; k_node
    with_reducible refine wpAny_pure ?_
    rw [show List.contains [Value.ref C, Value.type "object"] (Value.type "object") = true from by simp]
    assumption
  · intro yA yQ yE ys yk yq
    obtain ⟨yh, yg, yd, yt, yo⟩ := ys
    replace eC := yk _ _ eC; replace dN := Dct.keeps dN yk
    k_node; with_reducible refine wpAny_bind ?_; k_node; k_node; with_reducible refine wpAny_bind ?_; with_reducible refine wpAny_loadPart (by assumption) ?_; with_reducible refine wpAny_pure ?_; k_node; with_reducible refine wpAny_bind ?_; k_node; k_node; with_reducible refine wpAny_pure ?_
    with_reducible refine wpAny_bind ?_; k_node; k_node; k_node; k_node; k_node; k_node; k_node; with_reducible refine wpAny_bind ?_; k_node; with_reducible refine wpAny_bind ?_; k_node; k_node; with_reducible refine wpAny_pure ?_; k_node; with_reducible refine wpAny_pure ?_; k_node
    with_reducible refine wpAny_pure ?_; k_node; with_reducible refine wpAny_pure ?_
    assumption
  · intro yA yQ yE ys yk yq
    obtain ⟨yh, yg, yd, yt, yo⟩ := ys
    replace eC := yk _ _ eC; replace dN := Dct.keeps dN yk
    k_node; with_reducible refine wpAny_bind ?_; k_node; k_node; with_reducible refine wpAny_bind ?_; with_reducible refine wpAny_loadPart (by assumption) ?_; with_reducible refine wpAny_pure ?_; k_node; with_reducible refine wpAny_bind ?_; k_node; k_node; with_reducible refine wpAny_pure ?_; k_node
    with_reducible refine wpAny_pure ?_
    assumption
theorem find_init {C T ns : Addr} {tn tq : Tok} {kvs : List (Str × Value)} {nm : Str} {v : Value} (eC : h.get? C = some (clsObj C T ns tn tq)) (dN : Dct h ns kvs) (hv : kvs.lookup nm = some v) : Looks M h (typeLookup (.ref C) nm) (some v) := by
  intro yA yQ yE ys yk yq
  obtain ⟨yh, yg, yd, yt, yo⟩ := ys
  replace eC := yk _ _ eC; replace dN := Dct.keeps dN yk
  k_node; with_reducible refine wpAny_bind ?_; k_node; k_node; with_reducible refine wpAny_bind ?_; k_node; with_reducible refine wpAny_bind ?_; with_reducible refine wpAny_load (by assumption) ?_; k_node; with_reducible refine wpAny_pure ?_; with_reducible refine wpAny_pure ?_
  with_reducible refine wpAny_bind ?_; k_node; k_node; k_node; k_node; k_node; k_node; k_node; with_reducible refine wpAny_bind ?_; k_node; with_reducible refine wpAny_bind ?_; k_node; k_node; with_reducible refine wpAny_bind ?_; k_node; with_reducible refine wpAny_bind ?_
  with_reducible refine wpAny_load (by assumption) ?_; k_node; with_reducible refine wpAny_pure ?_; with_reducible refine d_get (by assumption) ?_
  rw [hv]
  k_node; with_reducible refine wpAny_pure ?_; k_node; with_reducible refine wpAny_pure ?_; k_node; with_reducible refine wpAny_pure ?_
  assumption
theorem bind_fn' {f : Addr} {fd : FuncData} (self : Value) (e : h.get? f = some { cls := .type "function", data := .func fd }) : Looks M h (bindSpecial (.ref f) self) (.ref f, [self]) := by
  intro yA yQ yE ys yk yq
  obtain ⟨yh, yg, yd, yt, yo⟩ := ys
  replace e := yk _ _ e
  k_node; with_reducible refine wpAny_bind ?_; k_node; k_node; with_reducible refine wpAny_bind ?_; with_reducible refine wpAny_loadPart (by assumption) ?_; with_reducible refine wpAny_pure ?_; k_node; with_reducible refine wpAny_pure ?_
  assumption
theorem set_slot {C T ns mb x dx : Addr} {tn tq tk : Tok} {m0 l0 : Value} {sl fI fL fG fE fe fg st : Addr} {v : Value} {Q : Unit → Shared → Prop} (eC : h.get? C = some (clsObj C T ns tn tq)) (dN : Dct h ns (kv13 m0 l0 sl fI fL fG fE fe fg st mb)) (eM : h.get? mb = some (memObj C tk))
    (eX : h.get? x = some (instObj C dx)) (q : ∀ h' t', h'.get? x = some (kiObj C dx v) → Heap.SameBut x h h' → Q () ⟨h', g, d, t', os⟩) : wpAny (model prog w) A (setAttr (.ref x) "obj" v) Q E ⟨h, g, d, t, os⟩ := by
  k_node; with_reducible refine wpAny_bind ?_; k_node; with_reducible refine wpAny_bind ?_; k_node; with_reducible refine nd_fresh ?_; with_reducible refine nd_pure ?_; with_reducible refine wpAny_pure ?_; with_reducible refine wpAny_bind ?_; k_node; with_reducible refine wpAny_bind ?_; k_node
  with_reducible refine wpAny_bind ?_; k_node; k_node; with_reducible refine wpAny_bind ?_; with_reducible refine wpAny_loadPart (by assumption) ?_; with_reducible refine wpAny_pure ?_; k_node; with_reducible refine wpAny_bind ?_; k_node; k_node; with_reducible refine wpAny_bind ?_; k_node
  with_reducible refine wpAny_bind ?_; with_reducible refine wpAny_load (by assumption) ?_; k_node; with_reducible refine wpAny_pure ?_; with_reducible refine wpAny_pure ?_; with_reducible refine wpAny_bind ?_; k_node; k_node; k_node; k_node; k_node; k_node; k_node; with_reducible refine wpAny_bind ?_
  k_node; with_reducible refine wpAny_bind ?_; k_node; k_node; with_reducible refine wpAny_bind ?_; k_node; with_reducible refine wpAny_bind ?_; with_reducible refine wpAny_load (by assumption) ?_; k_node; with_reducible refine wpAny_pure ?_; with_reducible refine d_get (by assumption) ?_; k_node
  with_reducible refine wpAny_pure ?_; k_node; k_node; k_node; with_reducible refine wpAny_bind ?_; k_node; with_reducible refine wpAny_bind ?_; k_node; k_node; with_reducible refine wpAny_pure ?_; k_node; with_reducible refine wpAny_pure ?_; k_node; with_reducible refine wpAny_pure ?_; k_node
  with_reducible refine wpAny_pure ?_; k_node; with_reducible refine wpAny_holding ?_; with_reducible refine wpAny_bind ?_; k_node; with_reducible refine wpAny_bind ?_; k_node; k_node; k_node; k_node; k_node; with_reducible refine wpAny_pure ?_; k_node; with_reducible refine wpAny_pure ?_; k_node
  with_reducible refine wpAny_bind ?_; with_reducible refine wpAny_call ?_
  refine codeAny_call_builtin_at (id := "object.__setattr__") (b := Builtin.«object.__setattr__») (Code.quiet_builtin _ (by decide +kernel)) (entryFor_of_tree (by kernel_rfl)) ?_
  k_node; k_node; with_reducible refine wpAny_bind ?_; k_node; with_reducible refine wpAny_bind ?_; k_node; k_node; with_reducible refine wpAny_bind ?_; with_reducible refine wpAny_loadPart (by assumption) ?_; with_reducible refine wpAny_pure ?_; k_node; with_reducible refine wpAny_bind ?_; k_node
  k_node; with_reducible refine wpAny_bind ?_; k_node; with_reducible refine wpAny_bind ?_; with_reducible refine wpAny_load (by assumption) ?_; k_node; with_reducible refine wpAny_pure ?_; with_reducible refine wpAny_pure ?_; k_node; k_node; k_node; with_reducible refine wpAny_pure ?_; k_node; k_node
  k_node; k_node; with_reducible refine wpAny_bind ?_; k_node; k_node; with_reducible refine wpAny_pure ?_; with_reducible refine wpAny_bind ?_; k_node; k_node; with_reducible refine wpAny_pure ?_; k_node; with_reducible refine wpAny_onRaise ?_; k_node; k_node; k_node; k_node; k_node; k_node; k_node
  k_node; k_node; with_reducible refine wpAny_pure ?_; k_node; k_node; k_node; k_node; with_reducible refine wpAny_bind ?_; k_node; with_reducible refine wpAny_bind ?_; k_node; k_node; with_reducible refine wpAny_bind ?_; with_reducible refine wpAny_loadPart (by assumption) ?_
  with_reducible refine wpAny_pure ?_; with_reducible refine wpAny_bind ?_; k_node; k_node; with_reducible refine wpAny_bind ?_; k_node; with_reducible refine wpAny_bind ?_; with_reducible refine wpAny_load (by assumption) ?_; k_node; with_reducible refine wpAny_pure ?_
  with_reducible refine wpAny_pure ?_; with_reducible refine wpAny_bind ?_; k_node; k_node; k_node; k_node; k_node; k_node; k_node; with_reducible refine wpAny_bind ?_; k_node; with_reducible refine wpAny_pure ?_; k_node; k_node; k_node; with_reducible refine wpAny_bind ?_; k_node; k_node; k_node
  with_reducible refine wpAny_bind ?_; k_node; k_node; with_reducible refine wpAny_pure ?_; k_node; k_node; k_node; k_node; with_reducible refine wpAny_pure ?_; k_node; with_reducible refine wpAny_pure ?_; k_node; with_reducible refine wpAny_pure ?_; with_reducible refine wpAny_bind ?_; k_node; k_node
  with_reducible refine wpAny_pure ?_; with_reducible refine wpAny_bind ?_; k_node; k_node; with_reducible refine wpAny_bind ?_; with_reducible refine wpAny_loadPart (by assumption) ?_; with_reducible refine wpAny_pure ?_; with_reducible refine wpAny_bind ?_; k_node; with_reducible refine wpAny_bind ?_
  k_node; k_node; with_reducible refine wpAny_bind ?_; k_node; with_reducible refine wpAny_bind ?_; with_reducible refine wpAny_load (by assumption) ?_; k_node; with_reducible refine wpAny_pure ?_; with_reducible refine wpAny_pure ?_; with_reducible refine wpAny_bind ?_; k_node; k_node; k_node; k_node
  k_node; k_node; k_node; with_reducible refine wpAny_bind ?_; k_node; with_reducible refine wpAny_bind ?_; k_node; k_node; with_reducible refine wpAny_bind ?_; k_node; with_reducible refine wpAny_bind ?_; with_reducible refine wpAny_load (by assumption) ?_; k_node; with_reducible refine wpAny_pure ?_
  with_reducible refine d_get (by assumption) ?_; k_node; with_reducible refine wpAny_pure ?_; k_node; with_reducible refine wpAny_pure ?_; k_node; with_reducible refine wpAny_pure ?_; with_reducible refine wpAny_bind ?_; k_node; k_node; with_reducible refine wpAny_bind ?_; k_node
  with_reducible refine wpAny_bind ?_; k_node; with_reducible refine wpAny_bind ?_; k_node; k_node; with_reducible refine wpAny_bind ?_; with_reducible refine wpAny_loadPart (by assumption) ?_; with_reducible refine wpAny_pure ?_; k_node; with_reducible refine wpAny_bind ?_; k_node; k_node
  with_reducible refine wpAny_pure ?_; with_reducible refine wpAny_bind ?_; k_node; k_node; k_node; k_node; k_node; k_node; k_node; with_reducible refine wpAny_bind ?_; k_node; with_reducible refine wpAny_bind ?_; k_node; k_node; with_reducible refine wpAny_pure ?_; k_node
  with_reducible refine wpAny_pure ?_; k_node; with_reducible refine wpAny_pure ?_; k_node; with_reducible refine wpAny_pure ?_; k_node; with_reducible refine wpAny_pure ?_; k_node; with_reducible refine wpAny_pure ?_; k_node; k_node; with_reducible refine wpAny_bind ?_; k_node
  with_reducible refine nd_rule ?_; with_reducible refine nd_pure ?_; with_reducible refine wpAny_bind ?_; with_reducible refine wpAny_holding ?_; k_node; with_reducible refine wpAny_bind ?_; k_node; with_reducible refine wpAny_bind ?_; k_node; k_node; with_reducible refine wpAny_bind ?_
  with_reducible refine wpAny_loadPart (by assumption) ?_; with_reducible refine wpAny_pure ?_; k_node; with_reducible refine wpAny_bind ?_; k_node; k_node; with_reducible refine wpAny_pure ?_; with_reducible refine wpAny_bind ?_; k_node; k_node; k_node; k_node; k_node; k_node; k_node
  with_reducible refine wpAny_bind ?_; k_node; with_reducible refine wpAny_bind ?_; k_node; k_node; with_reducible refine wpAny_pure ?_; k_node; with_reducible refine wpAny_pure ?_; k_node; with_reducible refine wpAny_pure ?_; k_node; with_reducible refine wpAny_pure ?_; k_node
  with_reducible refine wpAny_holding ?_; with_reducible refine wpAny_bind ?_; k_node; with_reducible refine wpAny_bind ?_; k_node; k_node; k_node; k_node; k_node; with_reducible refine wpAny_pure ?_; k_node; with_reducible refine wpAny_pure ?_; k_node; with_reducible refine wpAny_bind ?_
  with_reducible refine wpAny_call ?_
  refine codeAny_call_builtin_at (id := "member_descriptor.__set__") (b := Builtin.«member_descriptor.__set__») (Code.quiet_builtin _ (by decide +kernel)) (entryFor_of_tree (by kernel_rfl)) ?_
  k_node; k_node; with_reducible refine wpAny_bind ?_; k_node; with_reducible refine wpAny_bind ?_; k_node; k_node; with_reducible refine wpAny_bind ?_; with_reducible refine wpAny_loadPart (by assumption) ?_; with_reducible refine wpAny_pure ?_; k_node; with_reducible refine wpAny_bind ?_; k_node
  k_node; with_reducible refine wpAny_pure ?_; k_node; with_reducible refine wpAny_pure ?_; k_node; k_node; k_node; k_node; with_reducible refine wpAny_bind ?_; k_node; k_node; with_reducible refine wpAny_pure ?_; with_reducible refine wpAny_bind ?_; k_node; k_node; with_reducible refine wpAny_pure ?_
  k_node; with_reducible refine wpAny_onRaise ?_; k_node; k_node; k_node; k_node; k_node; k_node; k_node; k_node; k_node; with_reducible refine wpAny_pure ?_; k_node; k_node; k_node; k_node; k_node; k_node; with_reducible refine wpAny_bind ?_; k_node; with_reducible refine wpAny_bind ?_; k_node; k_node
  with_reducible refine wpAny_bind ?_; k_node; with_reducible refine wpAny_bind ?_; k_node; k_node; with_reducible refine wpAny_bind ?_; with_reducible refine wpAny_load (by assumption) ?_; k_node; with_reducible refine wpAny_pure ?_; k_node; with_reducible refine wpAny_pure ?_; k_node
  with_reducible refine wpAny_bind ?_; k_node; with_reducible refine wpAny_bind ?_; k_node; k_node; with_reducible refine wpAny_bind ?_; with_reducible refine wpAny_load (by assumption) ?_; k_node; with_reducible refine wpAny_pure ?_; k_node; with_reducible refine wpAny_pure ?_
  with_reducible refine wpAny_pure ?_; k_node; with_reducible refine wpAny_bind ?_; k_node; with_reducible refine wpAny_bind ?_; k_node; k_node; with_reducible refine wpAny_bind ?_; with_reducible refine wpAny_loadPart (by assumption) ?_; with_reducible refine wpAny_pure ?_; k_node
  with_reducible refine wpAny_bind ?_; k_node; k_node; with_reducible refine wpAny_bind ?_; k_node; with_reducible refine wpAny_bind ?_; with_reducible refine wpAny_load (by assumption) ?_; k_node; with_reducible refine wpAny_pure ?_; with_reducible refine wpAny_pure ?_; k_node; k_node; k_node
  with_reducible refine wpAny_pure ?_
  refine if_f (by simp) ?_
  with_reducible refine wpAny_pure ?_; with_reducible refine wpAny_bind ?_; k_node; k_node; with_reducible refine wpAny_bind ?_; k_node; k_node; with_reducible refine wpAny_bind ?_; with_reducible refine wpAny_load (by assumption) ?_; k_node; with_reducible refine wpAny_pure ?_
  with_reducible refine wpAny_pure ?_; k_node; with_reducible refine wpAny_bind ?_; k_node; with_reducible refine wpAny_bind ?_; k_node; k_node; with_reducible refine wpAny_bind ?_; with_reducible refine wpAny_load (by assumption) ?_; k_node; with_reducible refine wpAny_pure ?_; k_node
  with_reducible refine wpAny_pure ?_; k_node; with_reducible refine wpAny_bind ?_; k_node; with_reducible refine nd_rule ?_; with_reducible refine nd_pure ?_; k_node; k_node; with_reducible refine wpAny_pure ?_
  refine And.intro (Code.quiet_builtin _ (by decide +kernel)) (codeAny_builtin (id := "proto.slot#set") (b := Builtin.«proto.slot#set») (entryFor_of_tree (by kernel_rfl)) ?_)
  k_node; k_node; with_reducible refine wpAny_bind ?_; k_node; with_reducible refine wpAny_bind ?_; k_node; with_reducible refine wpAny_bind ?_; k_node; k_node; with_reducible refine wpAny_bind ?_; with_reducible refine wpAny_load (by assumption) ?_; k_node; with_reducible refine wpAny_pure ?_; k_node
  with_reducible refine wpAny_pure ?_; with_reducible refine wpAny_bind ?_; k_node; with_reducible refine wpAny_bind ?_; k_node; k_node; with_reducible refine wpAny_bind ?_; with_reducible refine wpAny_load (by assumption) ?_; k_node; with_reducible refine wpAny_pure ?_; k_node
  with_reducible refine wpAny_pure ?_; k_node; with_reducible refine wpAny_bind ?_; k_node; k_node; with_reducible refine wpAny_bind ?_; with_reducible refine wpAny_loadPart (by assumption) ?_; with_reducible refine wpAny_pure ?_; with_reducible refine wpAny_bind ?_; k_node; k_node
  with_reducible refine wpAny_bind ?_; k_node; with_reducible refine wpAny_bind ?_; with_reducible refine wpAny_load (by assumption) ?_; k_node; with_reducible refine wpAny_pure ?_; with_reducible refine wpAny_pure ?_; k_node; k_node; k_node; with_reducible refine wpAny_pure ?_; k_node
  with_reducible refine wpAny_bind ?_
  show wpAny _ _ (setSlotAt x 0 (some v)) _ _ _
  refine slot_up (sl' := #[some v]) eX rfl fun h1 e1 s1 => ?_
  k_node; with_reducible refine wpAny_pure ?_; with_reducible refine wpAny_pure ?_; k_node; k_node; with_reducible refine wpAny_pure ?_; with_reducible refine wpAny_pure ?_; k_node; with_reducible refine wpAny_pure ?_
  exact q h1 _ e1 s1
theorem get_slot' {C T ns mb x dx : Addr} {tn tq tk : Tok} {m0 l0 : Value} {sl fI fL fG fE fe fg st : Addr} {j : Int} {tj : Tok} {Q : Value → Shared → Prop} (eC : h.get? C = some (clsObj C T ns tn tq)) (dN : Dct h ns (kv13 m0 l0 sl fI fL fG fE fe fg st mb)) (eM : h.get? mb = some (memObj C tk))
    (eX : h.get? x = some (kiObj C dx (.int j tj))) (q : ∀ t', Q (.int j tj) ⟨h, g, d, t', os⟩) : wpAny (model prog w) A (getAttr (.ref x) "obj" true) Q E ⟨h, g, d, t, os⟩ := by
  k_node; with_reducible refine wpAny_bind ?_; k_node; with_reducible refine wpAny_bind ?_; k_node; with_reducible refine nd_fresh ?_; with_reducible refine nd_pure ?_; with_reducible refine wpAny_pure ?_; k_node; with_reducible refine wpAny_holding ?_; with_reducible refine wpAny_bind ?_; k_node
  k_node; with_reducible refine wpAny_bind ?_; with_reducible refine wpAny_loadPart (by assumption) ?_; with_reducible refine wpAny_pure ?_; with_reducible refine wpAny_bind ?_; k_node; with_reducible refine wpAny_bind ?_; k_node; k_node; with_reducible refine wpAny_bind ?_; k_node
  with_reducible refine wpAny_bind ?_; with_reducible refine wpAny_load (by assumption) ?_; k_node; with_reducible refine wpAny_pure ?_; with_reducible refine wpAny_pure ?_; with_reducible refine wpAny_bind ?_; k_node; k_node; k_node; k_node; k_node; k_node; k_node; with_reducible refine wpAny_bind ?_
  k_node; with_reducible refine wpAny_bind ?_; k_node; k_node; with_reducible refine wpAny_bind ?_; k_node; with_reducible refine wpAny_bind ?_; with_reducible refine wpAny_load (by assumption) ?_; k_node; with_reducible refine wpAny_pure ?_; with_reducible refine d_get (by assumption) ?_; k_node
  with_reducible refine wpAny_pure ?_; k_node; k_node; k_node; with_reducible refine wpAny_bind ?_; k_node; with_reducible refine wpAny_bind ?_; k_node; k_node; with_reducible refine wpAny_pure ?_; k_node; with_reducible refine wpAny_pure ?_; k_node; with_reducible refine wpAny_pure ?_; k_node
  with_reducible refine wpAny_pure ?_; k_node; k_node; k_node; with_reducible refine wpAny_bind ?_; with_reducible refine wpAny_onRaise ?_; with_reducible refine wpAny_runValue ?_
  refine codeAny_builtin (id := "proto.getattr_hooked") (b := Builtin.«proto.getattr_hooked») (entryFor_of_tree (by kernel_rfl)) ?_
  k_node; k_node; with_reducible refine wpAny_bind ?_; k_node; k_node; with_reducible refine wpAny_pure ?_; with_reducible refine wpAny_bind ?_; k_node; k_node; with_reducible refine wpAny_bind ?_; with_reducible refine wpAny_loadPart (by assumption) ?_; with_reducible refine wpAny_pure ?_
  with_reducible refine wpAny_bind ?_; k_node; with_reducible refine wpAny_bind ?_; k_node; with_reducible refine wpAny_bind ?_; k_node; k_node; with_reducible refine wpAny_bind ?_; k_node; with_reducible refine wpAny_bind ?_; with_reducible refine wpAny_load (by assumption) ?_; k_node
  with_reducible refine wpAny_pure ?_; with_reducible refine wpAny_pure ?_; with_reducible refine wpAny_bind ?_; k_node; k_node; k_node; k_node; k_node; k_node; k_node; with_reducible refine wpAny_bind ?_; k_node; with_reducible refine wpAny_bind ?_; k_node; k_node; with_reducible refine wpAny_bind ?_
  k_node; with_reducible refine wpAny_bind ?_; with_reducible refine wpAny_load (by assumption) ?_; k_node; with_reducible refine wpAny_pure ?_; with_reducible refine d_get (by assumption) ?_; k_node; with_reducible refine wpAny_pure ?_; k_node; with_reducible refine wpAny_pure ?_; k_node
  with_reducible refine wpAny_pure ?_; with_reducible refine wpAny_bind ?_; k_node; k_node; k_node; with_reducible refine wpAny_bind ?_; k_node; k_node; with_reducible refine wpAny_bind ?_; with_reducible refine wpAny_loadPart (by assumption) ?_; with_reducible refine wpAny_pure ?_; k_node
  with_reducible refine wpAny_bind ?_; k_node; k_node; with_reducible refine wpAny_pure ?_; with_reducible refine wpAny_bind ?_; k_node; k_node; k_node; k_node; k_node; k_node; k_node; with_reducible refine wpAny_bind ?_; k_node; with_reducible refine wpAny_bind ?_; k_node; k_node
  with_reducible refine wpAny_pure ?_; k_node; with_reducible refine wpAny_pure ?_; k_node; with_reducible refine wpAny_pure ?_; k_node; with_reducible refine wpAny_pure ?_; with_reducible refine wpAny_bind ?_; k_node; k_node; with_reducible refine wpAny_bind ?_; k_node
  with_reducible refine wpAny_bind ?_; k_node; with_reducible refine wpAny_bind ?_; k_node; k_node; with_reducible refine wpAny_bind ?_; with_reducible refine wpAny_loadPart (by assumption) ?_; with_reducible refine wpAny_pure ?_; k_node; with_reducible refine wpAny_bind ?_; k_node; k_node
  with_reducible refine wpAny_pure ?_; with_reducible refine wpAny_bind ?_; k_node; k_node; k_node; k_node; k_node; k_node; k_node; with_reducible refine wpAny_bind ?_; k_node; with_reducible refine wpAny_bind ?_; k_node; k_node; with_reducible refine wpAny_pure ?_; k_node
  with_reducible refine wpAny_pure ?_; k_node; with_reducible refine wpAny_pure ?_; k_node; with_reducible refine wpAny_pure ?_; k_node; with_reducible refine wpAny_pure ?_; k_node; with_reducible refine wpAny_pure ?_; k_node; with_reducible refine wpAny_bind ?_; k_node; with_reducible refine nd_rule ?_
  with_reducible refine nd_pure ?_; with_reducible refine wpAny_pure ?_; k_node; with_reducible refine wpAny_bind ?_; k_node; with_reducible refine wpAny_bind ?_; k_node; k_node; with_reducible refine wpAny_bind ?_; k_node; with_reducible refine wpAny_bind ?_
  with_reducible refine wpAny_load (by assumption) ?_; k_node; with_reducible refine wpAny_pure ?_; with_reducible refine wpAny_pure ?_; with_reducible refine wpAny_bind ?_; k_node; k_node; k_node; k_node; k_node; k_node; k_node; with_reducible refine wpAny_bind ?_; k_node
  with_reducible refine wpAny_bind ?_; k_node; k_node; with_reducible refine wpAny_bind ?_; k_node; with_reducible refine wpAny_bind ?_; with_reducible refine wpAny_load (by assumption) ?_; k_node; with_reducible refine wpAny_pure ?_; with_reducible refine d_get (by assumption) ?_; k_node
  with_reducible refine wpAny_pure ?_; k_node; k_node; k_node; with_reducible refine wpAny_bind ?_; k_node; with_reducible refine wpAny_bind ?_; k_node; k_node; with_reducible refine wpAny_pure ?_; k_node; with_reducible refine wpAny_pure ?_; k_node; k_node; with_reducible refine wpAny_pure ?_; k_node
  with_reducible refine wpAny_pure ?_; k_node; k_node; k_node; k_node; with_reducible refine wpAny_bind ?_; with_reducible refine wpAny_holding ?_; with_reducible refine wpAny_call ?_
  refine codeAny_call_builtin_at (id := "member_descriptor.__get__") (b := Builtin.«member_descriptor.__get__») (Code.quiet_builtin _ (by decide +kernel)) (entryFor_of_tree (by kernel_rfl)) ?_
  k_node; k_node; with_reducible refine wpAny_bind ?_; k_node; with_reducible refine wpAny_bind ?_; k_node; k_node; with_reducible refine wpAny_bind ?_; with_reducible refine wpAny_loadPart (by assumption) ?_; with_reducible refine wpAny_pure ?_; k_node; with_reducible refine wpAny_bind ?_; k_node
  k_node; with_reducible refine wpAny_pure ?_; k_node; with_reducible refine wpAny_pure ?_; k_node; k_node; k_node; k_node; with_reducible refine wpAny_bind ?_; k_node; k_node; with_reducible refine wpAny_pure ?_; with_reducible refine wpAny_bind ?_; k_node; k_node; with_reducible refine wpAny_pure ?_
  k_node; with_reducible refine wpAny_onRaise ?_; k_node; k_node; k_node; k_node; k_node; k_node; k_node; k_node; k_node; with_reducible refine wpAny_pure ?_; k_node; k_node; with_reducible refine wpAny_bind ?_; k_node; k_node; k_node; k_node; with_reducible refine wpAny_bind ?_
  with_reducible refine wpAny_pure ?_; k_node; k_node; k_node; with_reducible refine wpAny_pure ?_; k_node; k_node; k_node; with_reducible refine wpAny_bind ?_; k_node; with_reducible refine wpAny_bind ?_; k_node; k_node; with_reducible refine wpAny_bind ?_; k_node; with_reducible refine wpAny_bind ?_
  k_node; k_node; with_reducible refine wpAny_bind ?_; with_reducible refine wpAny_load (by assumption) ?_; k_node; with_reducible refine wpAny_pure ?_; k_node; with_reducible refine wpAny_pure ?_; k_node; with_reducible refine wpAny_bind ?_; k_node; with_reducible refine wpAny_bind ?_; k_node; k_node
  with_reducible refine wpAny_bind ?_; with_reducible refine wpAny_load (by assumption) ?_; k_node; with_reducible refine wpAny_pure ?_; k_node; with_reducible refine wpAny_pure ?_; with_reducible refine wpAny_pure ?_; k_node; with_reducible refine wpAny_bind ?_; k_node
  with_reducible refine wpAny_bind ?_; k_node; k_node; with_reducible refine wpAny_bind ?_; with_reducible refine wpAny_loadPart (by assumption) ?_; with_reducible refine wpAny_pure ?_; k_node; with_reducible refine wpAny_bind ?_; k_node; k_node; with_reducible refine wpAny_bind ?_; k_node
  with_reducible refine wpAny_bind ?_; with_reducible refine wpAny_load (by assumption) ?_; k_node; with_reducible refine wpAny_pure ?_; with_reducible refine wpAny_pure ?_; k_node; k_node; k_node; with_reducible refine wpAny_pure ?_
  refine if_f (by simp) ?_
  with_reducible refine wpAny_pure ?_; k_node; with_reducible refine wpAny_bind ?_; k_node; with_reducible refine wpAny_bind ?_; k_node; k_node; with_reducible refine wpAny_bind ?_; with_reducible refine wpAny_load (by assumption) ?_; k_node; with_reducible refine wpAny_pure ?_; k_node
  with_reducible refine wpAny_pure ?_; k_node; with_reducible refine wpAny_bind ?_; k_node; with_reducible refine nd_rule ?_; with_reducible refine nd_pure ?_; with_reducible refine wpAny_bind ?_; k_node; k_node; with_reducible refine wpAny_bind ?_; k_node; k_node; with_reducible refine wpAny_bind ?_
  with_reducible refine wpAny_load (by assumption) ?_; k_node; with_reducible refine wpAny_pure ?_; with_reducible refine wpAny_pure ?_; k_node; with_reducible refine wpAny_pure ?_
  refine And.intro (Code.quiet_builtin _ (by decide +kernel)) (codeAny_builtin (id := "proto.slot") (b := Builtin.«proto.slot») (entryFor_of_tree (by kernel_rfl)) ?_)
  k_node; k_node; with_reducible refine wpAny_bind ?_; k_node; with_reducible refine wpAny_bind ?_; k_node; with_reducible refine wpAny_bind ?_; k_node; k_node; with_reducible refine wpAny_bind ?_; with_reducible refine wpAny_load (by assumption) ?_; k_node; with_reducible refine wpAny_pure ?_; k_node
  with_reducible refine wpAny_pure ?_; with_reducible refine wpAny_bind ?_; k_node; with_reducible refine wpAny_bind ?_; k_node; k_node; with_reducible refine wpAny_bind ?_; with_reducible refine wpAny_load (by assumption) ?_; k_node; with_reducible refine wpAny_pure ?_; k_node
  with_reducible refine wpAny_pure ?_; k_node; with_reducible refine wpAny_bind ?_; k_node; k_node; with_reducible refine wpAny_bind ?_; with_reducible refine wpAny_loadPart (by assumption) ?_; with_reducible refine wpAny_pure ?_; with_reducible refine wpAny_bind ?_; k_node; k_node
  with_reducible refine wpAny_bind ?_; k_node; with_reducible refine wpAny_bind ?_; with_reducible refine wpAny_load (by assumption) ?_; k_node; with_reducible refine wpAny_pure ?_; with_reducible refine wpAny_pure ?_; k_node; k_node; k_node; with_reducible refine wpAny_pure ?_; k_node
  with_reducible refine wpAny_bind ?_; k_node; with_reducible refine wpAny_bind ?_; with_reducible refine wpAny_loadPart (by assumption) ?_; with_reducible refine wpAny_pure ?_; k_node; k_node; with_reducible refine wpAny_pure ?_; k_node; with_reducible refine wpAny_pure ?_; k_node; k_node
  with_reducible refine wpAny_pure ?_
  exact q _
end

section
variable {prog : Program} {w : World} {A : Around} {E : Value → Shared → Prop} {h : Heap} {g : Array GenState} {d : Drawn} {t : Nat} {os : OsState} {M : Model}
theorem mkK {C ns cm : Addr} {j : Int} {tj : Tok} {R : Result → Shared → Prop} (K : KN h C ns cm) (hlim : h.NoLimit) (hroom : A.depth + 1 < recursionLimit)
    (q : ∀ h' x tk, Keep h h' → KI h' C x j → h.objs.size ≤ x → R (.ok (.ret (.ref x))) ⟨h', g, d, tk, os⟩) : codeAny (model prog w) A (.call (.ref C) ⟨[.int j tj], []⟩) R ⟨h, g, d, t, os⟩ := by
  obtain ⟨T, mb, tn, tq, tk, m0, l0, sl, fI, fL, fG, fE, fe, fg, st, eC, dN, eM, FI, FL, FE⟩ := K
  obtain ⟨doc, pm, c', ctv, eI, rI⟩ := FI
  refine make_core (makes eC dN rfl) (find_init eC dN rfl) (fun self => bind_fn' self eI) (.inl rfl) ?_
  have kk : Keep h ((h.push emptyDict).push (instObj C h.objs.size)) := (keep_push _ _).trans (keep_push _ _)
  have eX : ((h.push emptyDict).push (instObj C h.objs.size)).get? (h.objs.size + 1) = some (instObj C h.objs.size) := by heap_get
  have hr : (A.under (Code.builtin "type.__call__" ⟨[.ref C, .int j tj], []⟩)).depth < recursionLimit := by
    show A.depth + (Code.builtin "type.__call__" ⟨[.ref C, .int j tj], []⟩).weight < _
    rw [show (Code.builtin "type.__call__" ⟨[.ref C, .int j tj], []⟩).weight = 1 from by kernel_rfl]
    exact hroom
  refine codeAny_call_def (body := fBody ((cBody clsStmt).getD 2 (.Pass default))) (binds := [("self", .ref (h.objs.size + 1)), ("obj", .int j tj)]) hr (kk _ _ eI) rfl (hlim.keeps kk) (rI.keeps kk) rfl (BindsTo.of_eq rfl) (show ∀ x ∈ (fScope ((cBody clsStmt).getD 2 (.Pass default))).names, x.2 ≠ .cell from by decide) (locs rfl) (fun h₁ hn hk => ?_) rfl rfl rfl
  refine wpAny_execs_cons ?_
  refine plainObj_wpAny_Assign_Attribute (nL hn rfl (nL hn rfl ?_))
  have k1 : Keep h h₁ := kk.trans hk
  refine set_slot (k1 _ _ eC) (dN.keeps k1) (k1 _ _ eM) (hk _ _ eX) fun h2 t2 e2 s2 => wpAny_execs_nil ?_
  refine And.intro rfl (q h2 _ _ (fun b o e => (s2.2 b (Nat.ne_of_lt (Nat.lt_succ_of_lt (Heap.lt_size e)))).trans (k1 b o e)) ⟨_, _, e2⟩ (Nat.le_succ _))
end

/-- the cross value of two ways -/
def cross (p r : Int × Int) : Int := p.2 * r.1 - r.2 * p.1
theorem mulOk {a b : Int} (h0 : 0 ≤ b) (h1 : b ≤ 5) : IntMulOk a b := by
  refine .of_right ?_
  have : b = 0 ∨ b = 1 ∨ b = 2 ∨ b = 3 ∨ b = 4 ∨ b = 5 := by omega
  rcases this with rfl | rfl | rfl | rfl | rfl | rfl <;> decide
section
variable {prog : Program} {w : World} {A : Around} {E : Value → Shared → Prop} {s : Shared} {M : Model}
theorem c_lam {l cw wa : Addr} {zs : List (Int × Int)} {a b : Nat} {ta tb : Tok} {za zb : Int × Int} {Q : Value → Shared → Prop} (L : LamAt s.heap l cw) (hc : s.heap.IsCell cw (some (.ref wa))) (P : PT s.heap wa zs) (ha : zs[a]? = some za) (hb : zs[b]? = some zb)
    (hz : zs.length ≤ 1000) (hs : ∀ z ∈ zs, 0 ≤ z.1 ∧ z.1 ≤ 5) (hlim : s.heap.NoLimit) (hroom : A.depth < recursionLimit)
    (q : ∀ h' tk t', Keep s.heap h' → Q (.int (cross za zb) t') { s with heap := h', toks := tk }) : wpAny (model prog w) A (call (.ref l) [.int a ta, .int b tb]) Q E s := by
  obtain ⟨pm, c, ctv, e, r⟩ := L
  refine wpAny_call (kla_callFunE hroom e rfl rfl rfl rfl r ?_)
  have hbi : bindArgs (kla_fn "<lambda>" qL lArgs lBody lScope [("ways", cw)] pm (.ref c) ctv) ⟨[.int a ta, .int b tb], []⟩ = pure [(("a" : Str), Value.int a ta), (("b" : Str), Value.int b tb)] := rfl
  rw [hbi]
  refine wpAny_pure (wpAny_newFunctionEnv (show ∀ x ∈ lScope.names, x.2 ≠ .cell from by decide) (locs rfl) (fun h₁ hn hsb => ⟨hlim.fresh _ hsb, kla_codeExpr ?_⟩) rfl)
  have k1 : Keep s.heap h₁ := fun b o e => hsb.extBut b o (Nat.ne_of_lt (Heap.lt_size e)) (Heap.get?_push_of_some _ e)
  obtain ⟨vs, hl, hp⟩ := P
  have hsz : vs.size ≤ 1000 := by rw [← Array.length_toList, hp.length]; exact hz
  obtain ⟨ra, t1, t2, va, la⟩ := hp.get ha
  obtain ⟨rb, t3, t4, vb, lb⟩ := hp.get hb
  have hcl := hc.keeps k1
  have hlk := hl.keeps k1
  have lak := la.keeps k1
  have lbk := lb.keeps k1
  rw [Array.getElem?_toList] at va vb
  have ia : (0 : Int) ≤ (a : Int) := Int.natCast_nonneg a
  have ib : (0 : Int) ≤ (b : Int) := Int.natCast_nonneg b
  have va' : vs[(a : Int).toNat]? = some (.ref ra) := va
  have vb' : vs[(b : Int).toNat]? = some (.ref rb) := vb
  have z2 : ∀ x y : Value, (#[x, y] : Array Value).size ≤ 1000 := fun x y => Nat.le_of_ble_eq_true rfl
  obtain ⟨pa0, pa1⟩ := hs za (List.mem_of_getElem? ha)
  obtain ⟨pb0, pb1⟩ := hs zb (List.mem_of_getElem? hb)
  refine wpAny_BinOp (wpAny_BinOp (Subscript_ (Subscript_ (nF hcl (nL hn rfl (item hlk ia va' (wpAny_Constant_int (item lak (by decide) rfl ?_ (z2 _ _))) hsz))))))
  refine Subscript_ (Subscript_ (nF hcl (nL hn rfl (item hlk ib vb' (wpAny_Constant_int (item lbk (by decide) rfl (mul_int ?_ (mulOk pb0 pb1)) (z2 _ _))) hsz))))
  refine wpAny_BinOp (Subscript_ (Subscript_ (nF hcl (nL hn rfl (item hlk ib vb' (wpAny_Constant_int (item lbk (by decide) rfl ?_ (z2 _ _))) hsz)))))
  refine Subscript_ (Subscript_ (nF hcl (nL hn rfl (item hlk ia va' (wpAny_Constant_int (item lak (by decide) rfl (mul_int (sub_int ?_) (mulOk pa0 pa1)) (z2 _ _))) hsz))))
  exact q h₁ _ _ k1
end

/-- all that the objects of the class need -/
def KW (h : Heap) (C wa : Addr) (zs : List (Int × Int)) : Prop := ∃ ns cm l cw, KN h C ns cm ∧ h.IsCell cm (some (.ref l)) ∧ LamAt h l cw ∧ h.IsCell cw (some (.ref wa)) ∧ PT h wa zs
theorem KW.keeps {h h' : Heap} {C wa : Addr} {zs : List (Int × Int)} (x : KW h C wa zs) (k : Keep h h') : KW h' C wa zs :=
  let ⟨ns, cm, l, cw, a, b, c, d, e⟩ := x; ⟨ns, cm, l, cw, a.keeps k, b.keeps k, c.keeps k, d.keeps k, e.keeps k⟩
section
variable {prog : Program} {w : World} {A : Around} {E : Value → Shared → Prop} {s : Shared} {M : Model} {C wa : Addr} {zs : List (Int × Int)} {x y : Addr} {a b : Nat} {za zb : Int × Int} {Q : Value → Shared → Prop}
theorem c_ltf {ns cm l cw f : Addr} (K : KN s.heap C ns cm) (hcm : s.heap.IsCell cm (some (.ref l))) (L : LamAt s.heap l cw) (hcw : s.heap.IsCell cw (some (.ref wa))) (P : PT s.heap wa zs) (F : FnO s.heap f "__lt__" 3 [("mycmp", cm)]) (X : KI s.heap C x a) (Y : KI s.heap C y b)
    (ha : zs[a]? = some za) (hb : zs[b]? = some zb) (hz : zs.length ≤ 1000) (hs : ∀ z ∈ zs, 0 ≤ z.1 ∧ z.1 ≤ 5) (hlim : s.heap.NoLimit) (hroom : A.depth + 1 < recursionLimit)
    (q : ∀ h' tk, Keep s.heap h' → Q (.bool (decide (cross za zb < 0))) { s with heap := h', toks := tk }) : wpAny (model prog w) A (call (.ref f) [.ref x, .ref y]) Q E s := by
  obtain ⟨doc, pm, c', ctv, eF, rF⟩ := F
  refine call_fn (binds := [("self", .ref x), ("other", .ref y)]) eF rfl hlim rF (Nat.lt_of_succ_lt hroom) (BindsTo.of_eq rfl) (locs rfl) (show ∀ x ∈ (fScope ((cBody clsStmt).getD 3 (.Pass default))).names, x.2 ≠ .cell from by decide) fun Lc h₁ hL hn hk => ?_
  obtain ⟨T, mb, tn, tq, tk, m0, l0, sl, fI, fL, fG, fE, fe, fg, st, eC, dN, eM, FI, FL, FE⟩ := K.keeps hk
  obtain ⟨dx, tx, eX⟩ := X.keeps hk
  obtain ⟨dy, ty, eY⟩ := Y.keeps hk
  obtain ⟨pm2, c2, ctv2, eLam, rLam⟩ := id (L.keeps hk)
  refine wpAny_execs_cons (wpAny_Return_some (wpAny_Compare1 (Call_ (nF (hcm.keeps hk) (cwF (o := kla_obj "<lambda>" qL lArgs lBody lScope [("ways", cw)] pm2 c2 ctv2) (fd := kla_fn "<lambda>" qL lArgs lBody lScope [("ways", cw)] pm2 (.ref c2) ctv2) (spliced_more (Attribute_name (nL hn rfl (get_slot' eC dN eM eX fun t1 => ?_)))))))))
  refine spliced_more (Attribute_name (nL hn rfl (get_slot' eC dN eM eY fun t2 => spliced_none ⟨⟨eLam, rfl⟩, ?_⟩)))
  refine c_lam (L.keeps hk) (hcw.keeps hk) (P.keeps hk) ha hb hz hs (hlim.keeps hk) (by exact hroom) fun h2 t3 t4 k2 => wpAny_Constant_int (lt_int ?_)
  exact q h2 _ (hk.trans k2)
theorem c_eqf {ns cm l cw f : Addr} (K : KN s.heap C ns cm) (hcm : s.heap.IsCell cm (some (.ref l))) (L : LamAt s.heap l cw) (hcw : s.heap.IsCell cw (some (.ref wa))) (P : PT s.heap wa zs) (F : FnO s.heap f "__eq__" 5 [("mycmp", cm)]) (X : KI s.heap C x a) (Y : KI s.heap C y b)
    (ha : zs[a]? = some za) (hb : zs[b]? = some zb) (hz : zs.length ≤ 1000) (hs : ∀ z ∈ zs, 0 ≤ z.1 ∧ z.1 ≤ 5) (hlim : s.heap.NoLimit) (hroom : A.depth + 1 < recursionLimit)
    (q : ∀ h' tk, Keep s.heap h' → Q (.bool (cross za zb == 0)) { s with heap := h', toks := tk }) : wpAny (model prog w) A (call (.ref f) [.ref x, .ref y]) Q E s := by
  obtain ⟨doc, pm, c', ctv, eF, rF⟩ := F
  refine call_fn (binds := [("self", .ref x), ("other", .ref y)]) eF rfl hlim rF (Nat.lt_of_succ_lt hroom) (BindsTo.of_eq rfl) (locs rfl) (show ∀ x ∈ (fScope ((cBody clsStmt).getD 5 (.Pass default))).names, x.2 ≠ .cell from by decide) fun Lc h₁ hL hn hk => ?_
  obtain ⟨T, mb, tn, tq, tk, m0, l0, sl, fI, fL, fG, fE, fe, fg, st, eC, dN, eM, FI, FL, FE⟩ := K.keeps hk
  obtain ⟨dx, tx, eX⟩ := X.keeps hk
  obtain ⟨dy, ty, eY⟩ := Y.keeps hk
  obtain ⟨pm2, c2, ctv2, eLam, rLam⟩ := id (L.keeps hk)
  refine wpAny_execs_cons (wpAny_Return_some (wpAny_Compare1 (Call_ (nF (hcm.keeps hk) (cwF (o := kla_obj "<lambda>" qL lArgs lBody lScope [("ways", cw)] pm2 c2 ctv2) (fd := kla_fn "<lambda>" qL lArgs lBody lScope [("ways", cw)] pm2 (.ref c2) ctv2) (spliced_more (Attribute_name (nL hn rfl (get_slot' eC dN eM eX fun t1 => ?_)))))))))
  refine spliced_more (Attribute_name (nL hn rfl (get_slot' eC dN eM eY fun t2 => spliced_none ⟨⟨eLam, rfl⟩, ?_⟩)))
  refine c_lam (L.keeps hk) (hcw.keeps hk) (P.keeps hk) ha hb hz hs (hlim.keeps hk) (by exact hroom) fun h2 t3 t4 k2 => wpAny_Constant_int (eq_int ?_)
  exact q h2 _ (hk.trans k2)
end

section
variable {prog : Program} {w : World} {A : Around} {E : Value → Shared → Prop} {h : Heap} {g : Array GenState} {d : Drawn} {t : Nat} {os : OsState} {M : Model} {C wa : Addr} {zs : List (Int × Int)} {x y : Addr} {a b : Nat} {za zb : Int × Int}
theorem ifB {s : Shared} {f : Addr} {name : Str} {args : List Value} {Q : Option Value → Shared → Prop} (h1 : Looks M s.heap (specialOf (.ref x) name) (some (.ref f))) (h2 : Looks M s.heap (bindSpecial (.ref f) (.ref x)) (.ref f, [.ref x]))
    (h : wpAny M A (call (.ref f) (.ref x :: args)) (fun v => Q (some v)) E s) : wpAny M A (callSpecialIfBound? (.ref x) name args) Q E s := by
  simp only [callSpecialIfBound?, bindSpecialIfBound?]
  refine wpAny_holding (wpAny_bind (wpAny_bind (h1.here ?_)))
  refine wpAny_bind (wpAny_askSetting (wpAny_ite ?_))
  have fin : wpAny M A (call (.ref f) ([.ref x] ++ args) >>= fun v => pure (some v)) Q E s := wpAny_bind (wpAny_mono h (fun v s' h' => wpAny_pure h') fun _ _ h' => h')
  split
  · exact wpAny_bind (h2.here (wpAny_pure (by exact fin)))
  · exact wpAny_tryCatch (wpAny_bind (h2.here (wpAny_pure (by exact fin))))
theorem k_key {Q : Bool → Shared → Prop} (W : KW h C wa zs) (X : KI h C x a) (Y : KI h C y b)
    (ha : zs[a]? = some za) (hb : zs[b]? = some zb) (hz : zs.length ≤ 1000) (hs : ∀ z ∈ zs, 0 ≤ z.1 ∧ z.1 ≤ 5) (hlim : h.NoLimit) (hroom : A.depth + 1 < recursionLimit) (hu : A.units < cLine)
    (q : ∀ h' tk, Keep h h' → Q (decide (cross za zb < 0)) ⟨h', g, d, tk, os⟩) : wpAny (model prog w) A (keyLt' oneType' (.ref x) (.ref y)) Q E ⟨h, g, d, t, os⟩ := by
  obtain ⟨ns, cm, l, cw, K, hcm, L, hcw, P⟩ := W
  obtain ⟨T, mb, tn, tq, tk, m0, l0, sl, fI, fL, fG, fE, fe, fg, st, eC, dN, eM, FI, FL, FE⟩ := id K
  obtain ⟨dx, tx, eX⟩ := id X
  obtain ⟨dy, ty, eY⟩ := id Y
  obtain ⟨_, _, _, _, eL, _⟩ := id FL
  rw [keyLt'_oneType, oneLt'_eq]
  simp only [if_true]
  refine wpAny_bind (wpAny_cRoomFor hu (wpAny_bind (ifB ((Looks.ld eX).andThen (Looks.now.andThen (find_init eC dN rfl))) (bind_fn' _ eL) ?_)))
  refine c_ltf K hcm L hcw P FL X Y ha hb hz hs hlim hroom fun h' tk k => ?_
  exact wpAny_truthy_bool (q h' tk k)
theorem k_lt {Q : Value → Shared → Prop} (W : KW h C wa zs) (X : KI h C x a) (Y : KI h C y b)
    (ha : zs[a]? = some za) (hb : zs[b]? = some zb) (hz : zs.length ≤ 1000) (hs : ∀ z ∈ zs, 0 ≤ z.1 ∧ z.1 ≤ 5) (hlim : h.NoLimit) (hroom : A.depth + 1 < recursionLimit) (hu : A.units < cLine)
    (q : ∀ h' tk, Keep h h' → Q (.bool (decide (cross za zb < 0))) ⟨h', g, d, tk, os⟩) : wpAny (model prog w) A (compareOp .Lt (.ref x) (.ref y)) Q E ⟨h, g, d, t, os⟩ := by
  obtain ⟨ns, cm, l, cw, K, hcm, L, hcw, P⟩ := W
  obtain ⟨T, mb, tn, tq, tk, m0, l0, sl, fI, fL, fG, fE, fe, fg, st, eC, dN, eM, FI, FL, FE⟩ := id K
  obtain ⟨dx, tx, eX⟩ := id X
  obtain ⟨dy, ty, eY⟩ := id Y
  obtain ⟨_, _, _, _, eL, _⟩ := id FL
  k_node; k_node; k_node; with_reducible refine wpAny_holding ?_; with_reducible refine wpAny_bind ?_
  refine wpAny_cRoomFor hu ?_
  k_node; with_reducible refine wpAny_bind ?_; k_node; k_node; with_reducible refine wpAny_bind ?_; with_reducible refine wpAny_loadPart (by assumption) ?_; with_reducible refine wpAny_pure ?_; with_reducible refine wpAny_bind ?_; k_node; k_node; with_reducible refine wpAny_bind ?_
  with_reducible refine wpAny_loadPart (by assumption) ?_; with_reducible refine wpAny_pure ?_; k_node
  refine if_f (by simp) ?_
  with_reducible refine wpAny_bind ?_; with_reducible refine wpAny_pure ?_; k_node; k_node; k_node; with_reducible refine wpAny_bind ?_; k_node; with_reducible refine wpAny_bind ?_
  refine ifB ((Looks.ld eX).andThen (Looks.now.andThen (find_init eC dN rfl))) (bind_fn' _ eL) ?_
  refine c_ltf K hcm L hcw P FL X Y ha hb hz hs hlim hroom fun h' tk k => ?_
  k_node; with_reducible refine wpAny_pure ?_; k_node; with_reducible refine wpAny_pure ?_
  exact q h' tk k
theorem k_eq {Q : Value → Shared → Prop} (W : KW h C wa zs) (X : KI h C x a) (Y : KI h C y b)
    (ha : zs[a]? = some za) (hb : zs[b]? = some zb) (hz : zs.length ≤ 1000) (hs : ∀ z ∈ zs, 0 ≤ z.1 ∧ z.1 ≤ 5) (hlim : h.NoLimit) (hroom : A.depth + 1 < recursionLimit) (hu : A.units < cLine)
    (q : ∀ h' tk, Keep h h' → Q (.bool (cross za zb == 0)) ⟨h', g, d, tk, os⟩) : wpAny (model prog w) A (compareOp .Eq (.ref x) (.ref y)) Q E ⟨h, g, d, t, os⟩ := by
  obtain ⟨ns, cm, l, cw, K, hcm, L, hcw, P⟩ := W
  obtain ⟨T, mb, tn, tq, tk, m0, l0, sl, fI, fL, fG, fE, fe, fg, st, eC, dN, eM, FI, FL, FE⟩ := id K
  obtain ⟨dx, tx, eX⟩ := id X
  obtain ⟨dy, ty, eY⟩ := id Y
  obtain ⟨_, _, _, _, eE, _⟩ := id FE
  k_node; k_node; k_node; with_reducible refine wpAny_holding ?_; with_reducible refine wpAny_bind ?_
  refine wpAny_cRoomFor hu ?_
  k_node; with_reducible refine wpAny_bind ?_; k_node; k_node; with_reducible refine wpAny_bind ?_; with_reducible refine wpAny_loadPart (by assumption) ?_; with_reducible refine wpAny_pure ?_; with_reducible refine wpAny_bind ?_; k_node; k_node; with_reducible refine wpAny_bind ?_
  with_reducible refine wpAny_loadPart (by assumption) ?_; with_reducible refine wpAny_pure ?_; k_node
  refine if_f (by simp) ?_
  with_reducible refine wpAny_bind ?_; with_reducible refine wpAny_pure ?_; k_node; k_node; k_node; with_reducible refine wpAny_bind ?_; k_node; with_reducible refine wpAny_bind ?_
  refine ifB ((Looks.ld eX).andThen (Looks.now.andThen (find_init eC dN rfl))) (bind_fn' _ eE) ?_
  refine c_eqf K hcm L hcw P FE X Y ha hb hz hs hlim hroom fun h' tk k => ?_
  k_node; with_reducible refine wpAny_pure ?_; k_node; with_reducible refine wpAny_pure ?_
  exact q h' tk k
end

/-- the tree of questions, answered -/
def ev {α : Type} (lt : Nat → Nat → Bool) : KasT α → α
  | .ret a => a
  | .ask i j k => ev lt (k (lt i j))
def okT {α : Type} (n : Nat) : KasT α → Bool
  | .ret _ => true
  | .ask i j k => decide (i < n) && decide (j < n) && okT n (k true) && okT n (k false)
theorem wp_ev {α : Type} {cmp : Nat → Nat → (Bool → Shared → Prop) → Shared → Prop} {I : Shared → Prop} {lt : Nat → Nat → Bool} {n : Nat} {Q : α → Shared → Prop}
    (hc : ∀ i j C s, i < n → j < n → I s → (∀ s', I s' → C (lt i j) s') → cmp i j C s) : ∀ (t : KasT α), okT n t = true → ∀ s, I s → (∀ s', I s' → Q (ev lt t) s') → t.kasWp cmp Q s
  | .ret a, _, s, i, q => q s i
  | .ask i j k, ok, s, hi, q => by
    unfold okT at ok
    simp only [Bool.and_eq_true, decide_eq_true_eq] at ok
    obtain ⟨⟨⟨o1, o2⟩, o3⟩, o4⟩ := ok
    refine hc i j _ s o1 o2 hi fun s' hi' => wp_ev hc (k (lt i j)) ?_ s' hi' q
    cases lt i j
    · exact o4
    · exact o3
theorem ok3 : okT 3 (kas_sort 3) = true := by decide +kernel
theorem ok5 : okT 5 (kas_sort 5) = true := by decide +kernel
section
variable {prog : Program} {w : World} {A : Around} {E : Value → Shared → Prop} {s : Shared} {lt : Nat → Nat → Bool}
/-- the state of the sort's own objects -/
def Inv (s : Shared) (H : Heap) (s' : Shared) : Prop := ∃ h' tk, s' = { s with heap := h', toks := tk } ∧ Keep H h'
/-- a comparison of two keys -/
def Cmp (prog : Program) (w : World) (A : Around) (s : Shared) (H : Heap) (keys : List Value) (lt : Nat → Nat → Bool) (n : Nat) : Prop :=
  ∀ i j h tk (C : Bool → Shared → Prop), i < n → j < n → Keep H h → (∀ h' tk', Keep h h' → C (lt i j) { s with heap := h', toks := tk' }) → wpAny (model prog w) A (keyLt' oneType' (keys.getD i .none) (keys.getD j .none)) C (fun _ _ => False) { s with heap := h, toks := tk }
theorem srun {s₀ : Shared} {H : Heap} {it : Array Keyed} {keys : List Value} {n : Nat} (hit : it.size = n) (h2 : 2 ≤ n) (h64 : n < 64) (hok : okT n (kas_sort n) = true) (hk : ∀ i, i < n → (kas_item it i).1 = keys.getD i .none)
    (hc : Cmp prog w A s₀ H keys lt n) (hi : Inv s₀ H s) :
    wpAny (model prog w) A (sortRuns'.run (SortSt.mk' oneType' it #[] 7 none)) (fun r s' => arrOf r.2 = (ev lt (kas_sort n)).map (kas_item it) ∧ failedOf r.2 = none ∧ (ev lt (kas_sort n)).size = n ∧ Inv s₀ H s') E s := by
  have est : SortSt.mk' oneType' it #[] 7 none = kas_st oneType' it (List.toArray (List.range n)) := by
    have e := kas_range it
    rw [hit] at e
    show SortSt.mk' oneType' it #[] 7 none = SortSt.mk' oneType' ((List.toArray (List.range n)).map (kas_item it)) #[] 7 none
    rw [e]
  rw [est]
  refine kas_runs (E := E) (G := fun p s' => p = ev lt (kas_sort n) ∧ Inv s₀ H s') (Q := fun _ st' s' => arrOf st' = (ev lt (kas_sort n)).map (kas_item it) ∧ failedOf st' = none ∧ (ev lt (kas_sort n)).size = n ∧ Inv s₀ H s') h2 h64 (fun p' st' s' a1 a2 a3 a4 => ⟨by rw [a2, a4.1], a3, by rw [← a4.1, a1], a4.2⟩) ?_
  refine wp_ev (I := Inv s₀ H) (lt := lt) (n := n) (fun i j C s1 h1 h2 hs q => ?_) _ hok s hi fun s' hs => ⟨rfl, hs⟩
  obtain ⟨h', tk, rfl, k⟩ := hs
  unfold kas_cmp
  rw [hk i h1, hk j h2]
  exact hc i j h' tk C h1 h2 k fun h'' tk' k' => q _ ⟨h'', tk', rfl, k.trans k'⟩
end

def ltJ (zs : List (Int × Int)) (js : List Nat) (i j : Nat) : Bool := decide (cross (zs.getD (js.getD i 0) (0, 0)) (zs.getD (js.getD j 0) (0, 0)) < 0)
/-- keys.(i) is an object over js.(i) -/
def KeysAt (H : Heap) (C : Addr) (keys : List Value) (js : List Nat) : Prop := keys.length = js.length ∧ ∀ i < js.length, ∃ x, keys.getD i .none = .ref x ∧ KI H C x (js.getD i 0)
theorem KeysAt.keeps {h h' : Heap} {C : Addr} {keys : List Value} {js : List Nat} (x : KeysAt h C keys js) (k : Keep h h') : KeysAt h' C keys js := ⟨x.1, fun i hi => let ⟨y, e, r⟩ := x.2 i hi; ⟨y, e, r.keeps k⟩⟩
/-- what all that a K needs of the heap and of the place -/
structure KEnv (H : Heap) (A : Around) (C wa : Addr) (zs : List (Int × Int)) : Prop where
  W : KW H C wa zs
  z : zs.length ≤ 1000
  s : ∀ z ∈ zs, 0 ≤ z.1 ∧ z.1 ≤ 5
  lim : H.NoLimit
  room : A.depth + 1 < recursionLimit
  u : A.units < cLine
section
variable {prog : Program} {w : World} {A : Around} {E : Value → Shared → Prop} {s : Shared} {C wa : Addr} {zs : List (Int × Int)} {js : List Nat} {n : Nat}
theorem get_of {zs : List (Int × Int)} {j : Nat} (h : j < zs.length) : zs[j]? = some (zs.getD j (0, 0)) := by
  rw [List.getD_eq_getElem?_getD, List.getElem?_eq_getElem h]; rfl
theorem cmpK {H : Heap} {keys : List Value} (V : KEnv H A C wa zs) (hk : KeysAt H C keys js) (hn : js.length = n) (hj : ∀ i < n, js.getD i 0 < zs.length) : Cmp prog w A s H keys (ltJ zs js) n := by
  intro i j h tk D hi hj' k q
  obtain ⟨x, ex, X⟩ := hk.2 i (hn ▸ hi)
  obtain ⟨y, ey, Y⟩ := hk.2 j (hn ▸ hj')
  rw [ex, ey]
  exact k_key (V.W.keeps k) (X.keeps k) (Y.keeps k) (get_of (hj i hi)) (get_of (hj j hj')) V.z V.s (V.lim.keeps k) V.room V.u fun h' tk' k' => q h' tk' k'
theorem keys_type {M : Model} {H : Heap} {keys : List Value} (hk : KeysAt H C keys js) : ∀ v ∈ keys, Looks M H (typeOf v) (.ref C) := by
  intro v hv
  obtain ⟨i, hi, e⟩ := List.mem_iff_getElem.mp hv
  obtain ⟨x, ex, dx, tk, X⟩ := hk.2 i (hk.1 ▸ hi)
  rw [List.getD_eq_getElem?_getD, List.getElem?_eq_getElem hi, Option.getD_some, e] at ex
  rw [ex]
  exact (Looks.ld X).andThen .now
/-- the order that the sort gives -/
def ordJ (zs : List (Int × Int)) (js : List Nat) : List Nat := (ev (ltJ zs js) (kas_sort js.length)).toList
theorem plain_sort {a : Addr} {vs : List Value} {e0 : Nat} {Hb : Heap} {P : PySem.Fin → Shared → Prop} (kb : Keep Hb s.heap) (hba : Hb.get? a = none) (ho : s.heap.get? a = some (seqObj "list" vs.toArray e0)) (V : KEnv Hb A C wa zs) (hk : KeysAt Hb C vs js)
    (hn : js.length = n) (h2 : 2 ≤ n) (h64 : n < 64) (hok : okT n (kas_sort n) = true) (hj : ∀ i < n, js.getD i 0 < zs.length)
    (h : ∀ h' tk, Keep Hb h' → LS h' a (((ordJ zs js).map fun i => vs.getD i .none).toArray) → P (.done (.ret .none)) { s with heap := h', toks := tk }) : wpAny (model prog w) A (Builtin.«list.sort» ⟨[.ref a], []⟩) P E s := by
  have hvs : vs.length = n := hk.1.trans hn
  have ha : a < s.heap.objs.size := Heap.lt_size ho
  have s1 := Heap.SameBut.update s.heap a (Obj.mapSeq fun _ => (#[] : Array Value))
  obtain ⟨e1, ho1⟩ : ∃ e1, (s.heap.update a (Obj.mapSeq fun _ => (#[] : Array Value))).get? a = some (seqObj "list" #[] e1) := ⟨_, get?_update_seq ho fun _ => #[]⟩
  have k1 : Keep Hb (s.heap.update a (Obj.mapSeq fun _ => (#[] : Array Value))) := fun b o e => (s1.2 b (fun q => by rw [q, hba] at e; cases e)).trans (kb b o e)
  rw [list_sort_plain]
  refine wpAny_bind (listItems_at ho rfl ?_)
  refine wpAny_bind (listUpdate_at ho rfl ?_ (by rw [List.size_toArray, sizeLine_eq]; omega) (Nat.zero_le _))
  refine wpAny_bind (seqEpoch_at ho1 rfl ?_)
  refine wpAny_bind (wpAny_newTuple ?_ (by show vs.length ≤ _; rw [sizeLine_eq]; omega))
  refine wpAny_bind (wpAny_newList ?_ (Nat.zero_le _))
  refine wpAny_holding ?_
  show wpAny (model prog w) A _ P E { s with heap := ((s.heap.update a (Obj.mapSeq fun _ => (#[] : Array Value))).push (seqObj "tuple" vs.toArray 0)).push (seqObj "list" #[] 0) }
  generalize hH : ((s.heap.update a (Obj.mapSeq fun _ => (#[] : Array Value))).push (seqObj "tuple" vs.toArray 0)).push (seqObj "list" #[] 0) = H3
  have k3 : Keep (s.heap.update a (Obj.mapSeq fun _ => (#[] : Array Value))) H3 := by rw [← hH]; exact (keep_push _ _).trans (keep_push _ _)
  dsimp only
  have hn2 : ¬ vs.toArray.size < 2 := by rw [List.size_toArray]; omega
  rw [if_neg hn2, if_neg hn2]
  have kH := k1.trans k3
  refine wpAny_bind (kas_kind (by omega) (fun v hv => (keys_type hk v hv).keeps kH) rfl (by simp) ?_)
  refine wpAny_bind (wpAny_mono (srun (s₀ := s) (H := H3) (keys := vs) (n := n) (lt := ltJ zs js) (by show (pairsOf vs).size = n; rw [pairsOf_size, hvs]) h2 h64 hok (fun i hi => by show (kas_item (pairsOf vs) i).1 = _; rw [kas_item_eq])
    (cmpK ⟨V.W.keeps kH, V.z, V.s, V.lim.keeps kH, V.room, V.u⟩ (hk.keeps kH) hn hj) ⟨H3, s.toks, rfl, Keep.refl _⟩) ?_ fun _ _ e => e)
  rintro ⟨⟨⟩, st'⟩ s' ⟨har, hf, hsn, h', tk, rfl, k'⟩
  dsimp only at har hf ⊢
  have na := k' _ _ (k3 _ _ ho1)
  have hout : (arrOf st').map (·.2) = ((ordJ zs js).map fun i => vs.getD i .none).toArray := by
    apply Array.toList_inj.mp
    rw [har, Array.map_map, Array.toList_map]
    unfold ordJ
    rw [hn]
    exact List.map_congr_left fun i _ => by show (kas_item (pairsOf vs) i).2 = _; rw [kas_item_eq]
  rw [hout]
  generalize hO : ((ordJ zs js).map fun i => vs.getD i .none).toArray = out at *
  have hsz : out.size ≤ sizeLine := by
    rw [← hO, List.size_toArray, List.length_map]
    show (ordJ zs js).length ≤ _
    unfold ordJ
    rw [hn, Array.length_toList, hsn, sizeLine_eq]; omega
  have s2 := Heap.SameBut.update h' a (Obj.mapSeq fun _ => out)
  obtain ⟨c2, hc2⟩ : ∃ c2, (h'.update a (Obj.mapSeq fun _ => out)).get? a = some (seqObj "list" out c2) := ⟨_, get?_update_seq na fun _ => out⟩
  refine wpAny_bind (seqEpoch_at na rfl ?_)
  refine wpAny_bind (listUpdate_at na rfl ?_ (Nat.zero_le _) (Nat.le_succ_of_le hsz))
  rw [hf]
  simp only [bne_self_eq_false, Bool.false_eq_true, if_false]
  exact wpAny_pure (h _ _ (fun b o e => (s2.2 b (fun q => by rw [q, hba] at e; cases e)).trans (k' _ _ (kH b o e))) ⟨c2, hc2⟩)
theorem sorts_K {d : Addr} {h : Heap} {vs : List Value} (hd : LS h d vs.toArray) (V : KEnv h (A.in1.in1) C wa zs) (hroom : A.depth + 2 < recursionLimit) (hun : A.units + 5 < cLine) (hk : KeysAt h C vs js)
    (hn : js.length = n) (h2 : 2 ≤ n) (h64 : n < 64) (hok : okT n (kas_sort n) = true) (hj : ∀ i < n, js.getD i 0 < zs.length) : SortsTo prog w A h d (fun out => out = ((ordJ zs js).map fun i => vs.getD i .none).toArray) := by
  intro A' s' Q' E' a1 a2 a3 hkp q
  have hvs : vs.length = n := hk.1.trans hn
  have hl := (hd.keeps hkp).isList
  refine Calls.call_function_entry kind_sorted plain_sorted entry_sorted (args_sorted1 _) ?_
  unfold Builtin.«sorted»
  refine wpAny_bind (m := checkCount "sorted" 1 1 _) (wpAny_pure ?_)
  refine wpAny_bind (collect_list hl ?_ (by rw [sizeLine_eq]; omega))
  refine wpAny_bind (wpAny_newList ?_ (by rw [sizeLine_eq]; omega))
  have hsz : ((s'.heap.push (seqObj "list" #[] 0)).update s'.heap.objs.size (Obj.mapSeq (· ++ vs.toArray))).objs.size = s'.heap.objs.size + 1 := by
    rw [Heap.size_update, size_push']
  have hoL : (((s'.heap.push (seqObj "list" #[] 0)).update s'.heap.objs.size (Obj.mapSeq (· ++ vs.toArray))).push (seqObj "list" vs.toArray 0)).get? (s'.heap.objs.size + 1) = some (seqObj "list" vs.toArray 0) := by
    rw [← hsz]; exact Heap.get?_push_size _ rfl
  have keep : Keep s'.heap (((s'.heap.push (seqObj "list" #[] 0)).update s'.heap.objs.size (Obj.mapSeq (· ++ vs.toArray))).push (seqObj "list" vs.toArray 0)) := fun b o q => by
    have hlt : b < s'.heap.objs.size := Heap.lt_size q
    rw [Heap.get?_push_ne _ _ _ (by rw [hsz]; exact Nat.ne_of_lt (Nat.lt_succ_of_lt hlt)), Heap.get?_update_ne _ _ _ _ (Nat.ne_of_lt hlt), Heap.get?_push_ne _ _ _ (Nat.ne_of_lt hlt)]
    exact q
  show wpAny _ _ _ _ _ { s' with heap := ((s'.heap.push (seqObj "list" #[] 0)).update s'.heap.objs.size (Obj.mapSeq (· ++ vs.toArray))).push (seqObj "list" vs.toArray 0) }
  rw [hsz]
  refine wpAny_bind (wpAny_holding (wpAny_call_entry slot_list_sort ⟨_, hoL, rfl⟩ entry_list_sort ?body (args_list_sort _)))
  case body =>
    refine plain_sort (Hb := s'.heap) keep ?_ hoL ⟨V.W.keeps hkp, V.z, V.s, V.lim.keeps hkp, ?_, ?_⟩ (hk.keeps hkp) hn h2 h64 hok hj fun h' tk k l => ?_
    · cases z : s'.heap.get? (s'.heap.objs.size + 1) with
      | none => rfl
      | some o => exact absurd (Heap.lt_size z) (Nat.not_lt_of_le (Nat.le_succ _))
    · show A'.depth + 1 < _
      rw [a1]; exact hroom
    · show A'.units + 1 + 1 < _
      rw [a2]; exact hun
    exact ⟨_, rfl, wpAny_pure ⟨_, rfl, q h' tk _ _ rfl k l (Nat.le_succ _)⟩⟩
end

theorem KeysAt.upd {h h' : Heap} {C k : Addr} {keys : List Value} {js : List Nat} {vs : Array Value} {e : Nat} (x : KeysAt h C keys js) (s : Heap.SameBut k h h') (hk : h.get? k = some (seqObj "list" vs e)) : KeysAt h' C keys js :=
  ⟨x.1, fun i hi => let ⟨y, e1, dx, tk, r⟩ := x.2 i hi; ⟨y, e1, dx, tk, (s.2 y (fun q => by rw [q, hk] at r; have z := congrArg Obj.data (Option.some.inj r); cases z)).trans r⟩⟩
theorem KeysAt.snoc {h : Heap} {C x : Addr} {keys : List Value} {js : List Nat} {j : Nat} (y : KeysAt h C keys js) (k : KI h C x j) : KeysAt h C (keys ++ [.ref x]) (js ++ [j]) := by
  refine ⟨by rw [List.length_append, List.length_append, y.1]; rfl, fun i hi => ?_⟩
  rw [List.length_append] at hi
  rcases Nat.lt_or_ge i js.length with hl | hl
  · obtain ⟨z, e1, r⟩ := y.2 i hl
    refine ⟨z, ?_, ?_⟩
    · rw [List.getD_eq_getElem?_getD, List.getElem?_append_left (by rw [y.1]; exact hl), ← List.getD_eq_getElem?_getD]; exact e1
    · rw [List.getD_eq_getElem?_getD, List.getElem?_append_left hl, ← List.getD_eq_getElem?_getD]; exact r
  · have : i = js.length := by have : i < js.length + 1 := hi; omega
    subst this
    refine ⟨x, ?_, ?_⟩
    · rw [List.getD_eq_getElem?_getD, ← y.1]; simp
    · rw [List.getD_eq_getElem?_getD]; simpa using k
theorem item_zip {keys : Array Value} {vs : List Value} {n i : Nat} (h1 : keys.size = n) (h2 : vs.length = n) (hi : i < n) : kas_item (keys.zip vs.toArray) i = (keys.toList.getD i .none, vs.getD i .none) := by
  unfold kas_item
  have hs : (keys.zip vs.toArray).size = n := by simp [Array.size_zip, h1, h2]
  simp only [Array.getD, hs, hi, dite_true]
  rw [List.getD_eq_getElem?_getD, List.getD_eq_getElem?_getD]
  simp [h1, h2, hi]
def okR (n : Nat) : KasT (Array Nat) → Bool
  | .ret p => p.toList.all fun i => decide (i < n)
  | .ask _ _ k => okR n (k true) && okR n (k false)
theorem okR_ev {n : Nat} (lt : Nat → Nat → Bool) : ∀ (t : KasT (Array Nat)), okR n t = true → ∀ i ∈ (ev lt t).toList, i < n
  | .ret p, h, i, hi => by simpa using List.all_eq_true.mp h i hi
  | .ask a b k, h, i, hi => by
    unfold okR at h
    simp only [Bool.and_eq_true] at h
    refine okR_ev lt (k (lt a b)) ?_ i hi
    cases lt a b
    · exact h.2
    · exact h.1
theorem okR3 : okR 3 (kas_sort 3) = true := by decide +kernel
theorem okR5 : okR 5 (kas_sort 5) = true := by decide +kernel
section
variable {prog : Program} {w : World} {A : Around} {E : Value → Shared → Prop} {s : Shared} {C wa : Addr} {zs : List (Int × Int)} {js : List Nat} {n : Nat}
theorem key_sort {a : Addr} {vs : List Value} {e0 : Nat} {Hb : Heap} {P : PySem.Fin → Shared → Prop} (kb : Keep Hb s.heap) (hba : Hb.get? a = none) (ho : s.heap.get? a = some (seqObj "list" vs.toArray e0)) (V : KEnv Hb A C wa zs)
    (hvs : vs.length = js.length) (hi : ∀ i < js.length, ∃ t, vs[i]? = some (.int (js.getD i 0 : Nat) t))
    (hn : js.length = n) (h2 : 2 ≤ n) (h64 : n < 64) (hok : okT n (kas_sort n) = true) (hokR : okR n (kas_sort n) = true) (hj : ∀ i < n, js.getD i 0 < zs.length)
    (h : ∀ h' tk, Keep Hb h' → LS h' a (((ordJ zs js).map fun i => vs.getD i .none).toArray) → P (.done (.ret .none)) { s with heap := h', toks := tk }) : wpAny (model prog w) A (ksk_tree a (.ref C) false) P E s := by
  have hvn : vs.length = n := hvs.trans hn
  have ha : a < s.heap.objs.size := Heap.lt_size ho
  have s1 := Heap.SameBut.update s.heap a (Obj.mapSeq fun _ => (#[] : Array Value))
  obtain ⟨e1, ho1⟩ : ∃ e1, (s.heap.update a (Obj.mapSeq fun _ => (#[] : Array Value))).get? a = some (seqObj "list" #[] e1) := ⟨_, get?_update_seq ho fun _ => #[]⟩
  have k1 : Keep Hb (s.heap.update a (Obj.mapSeq fun _ => (#[] : Array Value))) := fun b o e => (s1.2 b (fun q => by rw [q, hba] at e; cases e)).trans (kb b o e)
  unfold ksk_tree
  refine wpAny_bind (listItems_at ho rfl ?_)
  refine wpAny_bind (listUpdate_at ho rfl ?_ (by rw [List.size_toArray, sizeLine_eq]; omega) (Nat.zero_le _))
  refine wpAny_bind (seqEpoch_at ho1 rfl ?_)
  refine wpAny_bind (wpAny_newTuple ?_ (by show vs.length ≤ _; rw [sizeLine_eq]; omega))
  refine wpAny_bind (wpAny_newList ?_ (Nat.zero_le _))
  refine wpAny_holding ?_
  dsimp only
  generalize hG : (s.heap.update a (Obj.mapSeq fun _ => (#[] : Array Value))).push { cls := .type "tuple", data := .seq vs.toArray.toList.toArray } = H2
  have k2 : Keep (s.heap.update a (Obj.mapSeq fun _ => (#[] : Array Value))) H2 := by rw [← hG]; exact keep_push _ _
  have kS : ∃ kS, H2.objs.size = kS := ⟨_, rfl⟩
  obtain ⟨kS, hkS⟩ := kS
  have ek : (H2.push { cls := .type "list", data := .seq [].toArray }).get? kS = some (seqObj "list" #[] 0) := by rw [← hkS]; exact Heap.get?_push_size _ rfl
  have hkn : H2.get? kS = none := by rw [← hkS]; exact size_none _
  rw [hkS]
  generalize hG3 : H2.push { cls := .type "list", data := .seq [].toArray } = H3 at *
  have k3 : Keep H2 H3 := by rw [← hG3]; exact keep_push _ _
  have ea3 := k3 _ _ (k2 _ _ ho1)
  have hka : a ≠ kS := fun q => by have := k2 _ _ ho1; rw [q, hkn] at this; cases this
  have hbk : ∀ b o, Hb.get? b = some o → b ≠ kS := fun b o e q => by have := k2 _ _ (k1 _ _ e); rw [q, hkn] at this; cases this
  have kH := k1.trans (k2.trans k3)
  unfold ksk_rest
  refine wpAny_bind (wpAny_rule ?_)
  rw [List.forIn_toArray]
  refine wpAny_bind (ksk_fold (fun i s' => ∃ h' tk kA e, s' = { s with heap := h', toks := tk } ∧ Keep Hb h' ∧ h'.get? a = some (seqObj "list" #[] e1) ∧ h'.get? kS = some (seqObj "list" kA e) ∧ KeysAt h' C kA.toList (js.take i)) vs 0 _
    ⟨H3, s.toks, #[], 0, rfl, kH, ea3, ek, by rw [List.take_zero]; exact ⟨rfl, fun i hi => by simp at hi⟩⟩ ?step ?done)
  case step =>
    rintro j x s' hx ⟨h', tk, kA, e, rfl, kb', ea, ekS, K⟩
    simp only [Nat.zero_add] at K ⊢
    have hjl : j < js.length := by rw [← hvs]; exact (List.getElem?_eq_some_iff.mp hx).1
    obtain ⟨t, ht⟩ := hi j hjl
    rw [hx] at ht; cases ht
    have hz : kA.size ≤ js.length := by
      have h1 := K.1
      rw [Array.length_toList, List.length_take] at h1
      omega
    obtain ⟨ns, cm, l, cw, KNx, _⟩ := V.W.keeps kb'
    refine wpAny_bind (wpAny_attempt (wpAny_call (mkK KNx (V.lim.keeps kb') V.room fun h2 x tk2 k2' X _ => ?_)))
    have ek2 := k2' _ _ ekS
    have s2 := Heap.SameBut.update h2 kS (Obj.mapSeq (·.push (.ref x)))
    obtain ⟨c2, hc2⟩ : ∃ c2, (h2.update kS (Obj.mapSeq (·.push (.ref x)))).get? kS = some (seqObj "list" (kA.push (.ref x)) c2) := ⟨_, get?_update_seq ek2 (·.push (.ref x))⟩
    have et : js.take (j + 1) = js.take j ++ [js.getD j 0] := by
      rw [List.take_add_one, List.getD_eq_getElem?_getD, List.getElem?_eq_getElem hjl]; simp
    refine wpAny_bind (listUpdate_at ek2 rfl ?_ (by rw [sizeLine_eq]; omega) (Nat.le_trans (Nat.le_of_eq (Array.size_push ..)) (by rw [sizeLine_eq]; omega)))
    refine wpAny_pure ⟨rfl, _, _, kA.push (.ref x), c2, rfl, fun b o e => (s2.2 b (hbk b o e)).trans (k2' _ _ (kb' b o e)), (s2.2 a hka).trans (k2' _ _ ea), hc2, ?_⟩
    rw [et, show (kA.push (Value.ref x)).toList = kA.toList ++ [.ref x] from by simp]
    exact ((K.keeps k2').snoc X).upd s2 ek2
  case done =>
    rintro s' ⟨h', tk, kA, e, rfl, kb', ea, ekS, K⟩
    rw [Nat.zero_add, hvs, List.take_of_length_le (Nat.le_refl _)] at K
    have hkz : kA.size = n := by rw [← Array.length_toList, K.1, hn]
    refine wpAny_bind (listItems_at ekS rfl ?_)
    unfold ksk_end
    dsimp only
    have hn2 : ¬ vs.toArray.size < 2 := by rw [List.size_toArray]; omega
    rw [if_neg Bool.false_ne_true, if_neg hn2, if_neg hn2, if_neg Bool.false_ne_true]
    have kk := @kas_kind (model prog w) A E { s with heap := h', toks := tk } kA.toList (.ref C)
    rw [Array.toArray_toList] at kk
    refine wpAny_bind (kk (by rw [Array.length_toList, hkz]; exact h2) (fun v hv => (keys_type K v hv)) rfl (by simp) ?_)
    refine wpAny_bind (wpAny_mono (srun (s₀ := s) (H := h') (keys := kA.toList) (n := n) (lt := ltJ zs js) (by rw [Array.size_zip, hkz, List.size_toArray, hvn, Nat.min_self]) h2 h64 hok (fun i hi => by rw [item_zip hkz hvn hi])
      (cmpK ⟨V.W.keeps kb', V.z, V.s, V.lim.keeps kb', V.room, V.u⟩ K hn hj) ⟨h', tk, rfl, Keep.refl _⟩) ?_ fun _ _ e => e)
    rintro ⟨⟨⟩, st'⟩ s' ⟨har, hf, hsn, h2', tk2, rfl, k'⟩
    dsimp only at har hf ⊢
    unfold ksk_tail
    dsimp only
    have ek2 := k' _ _ ekS
    have s2 := Heap.SameBut.update h2' kS (Obj.mapSeq fun _ => (#[] : Array Value))
    have ea2 := (s2.2 a hka).trans (k' _ _ ea)
    have hall : ∀ i ∈ (ev (ltJ zs js) (kas_sort n)).toList, i < n := okR_ev _ _ hokR
    have hout : (arrOf st').map (·.2) = ((ordJ zs js).map fun i => vs.getD i .none).toArray := by
      apply Array.toList_inj.mp
      rw [har, Array.map_map, Array.toList_map]
      unfold ordJ
      rw [hn]
      exact List.map_congr_left fun i hi => by show (kas_item (kA.zip vs.toArray) i).2 = _; rw [item_zip hkz hvn (hall i hi)]
    rw [hout]
    generalize hO : ((ordJ zs js).map fun i => vs.getD i .none).toArray = out at *
    have hsz : out.size ≤ sizeLine := by
      rw [← hO, List.size_toArray, List.length_map]
      show (ordJ zs js).length ≤ _
      unfold ordJ
      rw [hn, Array.length_toList, hsn, sizeLine_eq]; omega
    have s3 := Heap.SameBut.update (h2'.update kS (Obj.mapSeq fun _ => (#[] : Array Value))) a (Obj.mapSeq fun _ => out)
    obtain ⟨c2, hc2⟩ : ∃ c2, ((h2'.update kS (Obj.mapSeq fun _ => (#[] : Array Value))).update a (Obj.mapSeq fun _ => out)).get? a = some (seqObj "list" out c2) := ⟨_, get?_update_seq ea2 fun _ => out⟩
    refine wpAny_bind (listUpdate_at ek2 rfl ?_ (by rw [hkz, sizeLine_eq]; omega) (Nat.zero_le _))
    refine wpAny_bind (wpAny_letGo ?_)
    refine wpAny_bind (seqEpoch_at ea2 rfl ?_)
    refine wpAny_bind (listUpdate_at ea2 rfl ?_ (Nat.zero_le _) (Nat.le_succ_of_le hsz))
    rw [hf]
    simp only [bne_self_eq_false, Bool.false_eq_true, if_false]
    exact wpAny_pure (h _ _ (fun b o e => (s3.2 b (fun q => by rw [q, hba] at e; cases e)).trans ((s2.2 b (hbk b o e)).trans (k' _ _ (kb' b o e)))) ⟨c2, hc2⟩)
theorem sorted_key {d : Addr} {vs : List Value} {Q : Value → Shared → Prop} (hd : LS s.heap d vs.toArray) (V : KEnv s.heap A.in1.in1 C wa zs) 
    (hvs : vs.length = js.length) (hi : ∀ i < js.length, ∃ t, vs[i]? = some (.int (js.getD i 0 : Nat) t))
    (hn : js.length = n) (h2 : 2 ≤ n) (h64 : n < 64) (hok : okT n (kas_sort n) = true) (hokR : okR n (kas_sort n) = true) (hj : ∀ i < n, js.getD i 0 < zs.length)
    (q : ∀ h' tk a, Keep s.heap h' → LS h' a (((ordJ zs js).map fun i => vs.getD i .none).toArray) → s.heap.objs.size ≤ a → Q (.ref a) { s with heap := h', toks := tk }) : wpAny (model prog w) A (call (.builtin "sorted") [.ref d] [("key", .ref C)]) Q E s := by
  have hvn : vs.length = n := hvs.trans hn
  have hl := hd.isList
  refine call_function_entry_kw kind_sorted plain_sorted entry_sorted (ksk_s1 _ _) ?_
  unfold Builtin.«sorted»
  refine wpAny_bind (m := checkCount "sorted" 1 1 _) (wpAny_pure ?_)
  refine wpAny_bind (collect_list hl ?_ (by rw [sizeLine_eq]; omega))
  refine wpAny_bind (wpAny_newList ?_ (by rw [sizeLine_eq]; omega))
  have hsz : ((s.heap.push (seqObj "list" #[] 0)).update s.heap.objs.size (Obj.mapSeq (· ++ vs.toArray))).objs.size = s.heap.objs.size + 1 := by
    rw [Heap.size_update, size_push']
  have hoL : (((s.heap.push (seqObj "list" #[] 0)).update s.heap.objs.size (Obj.mapSeq (· ++ vs.toArray))).push (seqObj "list" vs.toArray 0)).get? (s.heap.objs.size + 1) = some (seqObj "list" vs.toArray 0) := by
    rw [← hsz]; exact Heap.get?_push_size _ rfl
  have keep : Keep s.heap (((s.heap.push (seqObj "list" #[] 0)).update s.heap.objs.size (Obj.mapSeq (· ++ vs.toArray))).push (seqObj "list" vs.toArray 0)) := fun b o q => by
    have hlt : b < s.heap.objs.size := Heap.lt_size q
    rw [Heap.get?_push_ne _ _ _ (by rw [hsz]; exact Nat.ne_of_lt (Nat.lt_succ_of_lt hlt)), Heap.get?_update_ne _ _ _ _ (Nat.ne_of_lt hlt), Heap.get?_push_ne _ _ _ (Nat.ne_of_lt hlt)]
    exact q
  show wpAny _ _ _ _ _ { s with heap := ((s.heap.push (seqObj "list" #[] 0)).update s.heap.objs.size (Obj.mapSeq (· ++ vs.toArray))).push (seqObj "list" vs.toArray 0) }
  rw [hsz]
  refine wpAny_bind (wpAny_holding (wpAny_call_entry_kw slot_list_sort ⟨_, hoL, rfl⟩ entry_list_sort ?body (ksk_l1 _ _)))
  case body =>
    show wpAny _ _ (Builtin.«list.sort» ⟨[.ref (s.heap.objs.size + 1)], [(Str.ofString "key", .ref C)]⟩) _ _ _
    rw [ksk_t1]
    refine key_sort (Hb := s.heap) keep ?_ hoL V hvs hi hn h2 h64 hok hokR hj fun h' tk k l => ?_
    · cases z : s.heap.get? (s.heap.objs.size + 1) with
      | none => rfl
      | some o => exact absurd (Heap.lt_size z) (Nat.not_lt_of_le (Nat.le_succ _))
    exact ⟨_, rfl, wpAny_pure ⟨_, rfl, q h' tk _ k l (Nat.le_succ _)⟩⟩
end

/-- kept but for the objects of ds -/
abbrev KX (ds : List Addr) (h h' : Heap) : Prop := ∀ b o, b ∉ ds → h.get? b = some o → h'.get? b = some o
theorem kx_keep {ds : List Addr} {h h' : Heap} (k : Keep h h') : KX ds h h' := fun b o _ e => k b o e
theorem kx_same {ds : List Addr} {h h' : Heap} {a : Addr} (s : Heap.SameBut a h h') (ha : a ∈ ds) : KX ds h h' := fun b o n e => (s.2 b (fun q => n (q ▸ ha))).trans e
theorem KX.trans {ds : List Addr} {a b c : Heap} (x : KX ds a b) (y : KX ds b c) : KX ds a c := fun _ _ n e => y _ _ n (x _ _ n e)
section
variable {prog : Program} {w : World} {A : Around} {E : Value → Shared → Prop} {env : Env}
theorem lc_loop {s : Shared} {R : Result → Shared → Prop} {elt iter : Expr} {x : Str} {px : Pos} {ifs : List Expr} {scope : Scope} {pos : Pos} {I D : Addr} {wr : List Addr} {n : Nat} {P : Nat → Value → Prop} {St : Nat → Heap → Prop} {fp : List Addr}
    {cenv : Env} {m : Str → Option Value} (W : Walks prog w A I fp wr n P St) (J : Nat → List Value → Heap → Prop)
    (hx : cenv.kindOf x = some .local) (hp : (cenv.scope.kind == .class || (cenv.scope.kind == .module && cenv.locals != cenv.globals)) = false)
    (hDC : D ≠ cenv.locals) (hDf : D ∉ fp) (hCf : cenv.locals ∉ fp)
    (hst : St 0 s.heap) (hacc : s.heap.PlainList D #[]) (hn : s.heap.Ns cenv.locals m) (hz : n ≤ 1000) (hJ0 : J 0 [] s.heap) (hlen : ∀ i ys h, J i ys h → ys.length ≤ i)
    (hJ : ∀ i ys h h', J i ys h → KX (cenv.locals :: D :: wr) h h' → J i ys h')
    (step : ∀ i v ys s₂ m₂ E', i < n → P i v → J i ys s₂.heap → s₂.heap.Ns cenv.locals m₂ → m₂ x = some v → KX (cenv.locals :: D :: wr) s.heap s₂.heap → (∃ o, s₂.heap.get? D = some o) → (∃ o, s₂.heap.get? cenv.locals = some o) →
      wpAny (model prog w) A (forIn ifs true fun c r => if r = true then do let ok ← isTrue c cenv (eval c cenv); pure (ForInStep.yield ok) else pure (ForInStep.yield r))
        (fun ok s₃ => (∃ h₃ tk₃, s₃ = { s₂ with heap := h₃, toks := tk₃ } ∧ Keep s₂.heap h₃) ∧ (if ok = true then wpAny (model prog w) A (eval elt cenv) (fun y s₄ => (∃ h₄ tk₄, s₄ = { s₃ with heap := h₄, toks := tk₄ } ∧ Keep s₃.heap h₄) ∧ J (i + 1) (ys ++ [y]) s₄.heap) E' s₃ else J (i + 1) ys s₃.heap)) E' s₂)
    (hR : ∀ h' tk ys m', h'.Ns cenv.locals m' → LS h' D ys.toArray → J n ys h' → KX (cenv.locals :: D :: wr) s.heap h' → R (.ok .next) { s with heap := h', toks := tk }) :
    codeAny (model prog w) A (.compLoop (.ListComp elt [⟨.Name x px, iter, ifs, 0⟩] scope pos) 0 (.ref I) (.ref D) cenv) R s := by
  have hCw : cenv.locals ∉ wr := fun h => hCf (W.sub _ h)
  have hDw : D ∉ wr := fun h => hDf (W.sub _ h)
  refine codeAny_compLoop_tests
    (fun k s' => ∃ h' tk m' ys i, s' = { s with heap := h', toks := tk } ∧ St i h' ∧ h'.PlainList D (List.toArray ys) ∧ h'.Ns cenv.locals m' ∧ J i ys h' ∧ i ≤ n ∧ k = n + 1 - i ∧ KX (cenv.locals :: D :: wr) s.heap h') ?_ (n + 1)
    ⟨s.heap, s.toks, m, [], 0, rfl, hst, hacc, hn, hJ0, Nat.zero_le _, rfl, fun _ _ _ e => e⟩
  rintro k s' ⟨H, tk, m', ys, i, rfl, hst', hacc', hn', hJi, hi, rfl, hk⟩
  by_cases hlt : i < n
  · refine W.item i _ _ _ hlt hst' fun v h₁ tk₁ hPv hst₁ hk₁ => ?_
    have kx1 : KX (cenv.locals :: D :: wr) H h₁ := fun b o nb e => hk₁ b o (fun q => nb (.tail _ (.tail _ q))) e
    have hn1 : h₁.Ns cenv.locals m' := hn'.at' fun o e => hk₁ _ o hCw e
    refine wpAny_assign_Name (wpAny_storeName_local hx hn1 (fun h₂ hn₂ hs₂ => ?_) hp)
    have kx2 : KX (cenv.locals :: D :: wr) h₁ h₂ := kx_same hs₂ (.head _)
    have hst₂ : St (i + 1) h₂ := W.frame _ _ _ hst₁ fun b hb o e => hs₂.extBut b o (fun h => hCf (h ▸ hb)) e
    have hac2 : h₂.PlainList D ys.toArray := hacc'.at fun o e => hs₂.extBut _ o hDC (hk₁ _ o hDw e)
    have hD2 : ∃ o, h₂.get? D = some o := let ⟨_, e⟩ := hac2; ⟨_, e⟩
    have hC2 : ∃ o, h₂.get? cenv.locals = some o := let ⟨_, _, _, e, _⟩ := hn₂; ⟨_, e⟩
    refine wpAny_mono (step i v ys _ _ _ hlt hPv (hJ _ _ _ _ hJi (kx1.trans kx2)) hn₂ (by simp) (hk.trans (kx1.trans kx2)) hD2 hC2) (fun ok s₃ h₃ => ?_) fun _ _ e => e
    obtain ⟨⟨h₃, tk₃, rfl, k₃⟩, h₃'⟩ := h₃
    have hst₃ : St (i + 1) h₃ := W.frame _ _ _ hst₂ fun b _ o e => k₃ b o e
    have hac₃ : h₃.PlainList D ys.toArray := hac2.at fun o e => k₃ _ o e
    have kx3 : KX (cenv.locals :: D :: wr) s.heap h₃ := (hk.trans (kx1.trans kx2)).trans (kx_keep k₃)
    cases ok with
    | false =>
      simp only [Bool.false_eq_true, if_false] at h₃' ⊢
      exact ⟨n + 1 - (i + 1), by omega, h₃, tk₃, _, ys, i + 1, rfl, hst₃, hac₃, hn₂.keeps k₃, h₃', hlt, rfl, kx3⟩
    | true =>
      simp only [if_true] at h₃' ⊢
      refine wpAny_mono h₃' (fun y s₄ h₄ => ?_) fun _ _ e => e
      obtain ⟨⟨h₄, tk₄, rfl, k₄⟩, hJ4⟩ := h₄
      have hl := hlen _ _ _ hJi
      refine wpAny_list_append_plain (hsz := by rw [List.size_toArray, sizeLine_eq]; omega) (hac₃.at fun o e => k₄ _ o e) fun h₅ hl₅ hs₅ => ?_
      have kx5 : KX (cenv.locals :: D :: wr) h₄ h₅ := kx_same hs₅ (.tail _ (.head _))
      refine ⟨n + 1 - (i + 1), by omega, h₅, tk₄, _, ys ++ [y], i + 1, rfl, ?_, ?_, ((hn₂.keeps k₃).keeps k₄).sameBut hs₅ (Ne.symm hDC), hJ _ _ _ _ hJ4 kx5, hlt, rfl, (kx3.trans (kx_keep k₄)).trans kx5⟩
      · exact W.frame _ _ h₅ hst₃ fun b hb o e => hs₅.extBut b o (fun h => hDf (h ▸ hb)) (k₄ b o e)
      · rw [show (ys ++ [y]).toArray = ys.toArray.push y from by simp]; exact hl₅
  · have hin : i = n := by omega
    subst hin
    refine W.done _ _ _ hst' fun h₁ tk₁ hk₁ => ?_
    have kx1 : KX (cenv.locals :: D :: wr) H h₁ := fun b o nb e => hk₁ b o (fun q => nb (.tail _ (.tail _ q))) e
    refine hR h₁ tk₁ ys m' (hn'.at' fun o e => hk₁ _ o hCw e) ?_ (hJ _ _ _ _ hJi kx1) (hk.trans kx1)
    have := hacc'.at fun o e => hk₁ _ o hDw e
    obtain ⟨e, he⟩ := this
    exact ⟨e, he⟩
end

section
variable {prog : Program} {w : World} {A : Around} {E : Value → Shared → Prop} {env : Env}
/-- what a comprehension needs, once its iterator stands -/
structure LC (prog : Program) (w : World) (A : Around) (env : Env) (scope : Scope) (cl : List (Str × Addr)) (x : Str) (ifs : List Expr) (elt : Expr) (s₂ : Shared) (I : Addr) (fp wr : List Addr) (n : Nat) (P : Nat → Value → Prop) (St : Nat → Heap → Prop)
    (J : Addr → Addr → Nat → List Value → Heap → Prop) : Prop where
  W : Walks prog w A I fp wr n P St
  z : n ≤ 1000
  st : St 0 s₂.heap
  fp : ∀ b ∈ fp, b < s₂.heap.objs.size
  j0 : ∀ D C h, Keep s₂.heap h → J D C 0 [] h
  jl : ∀ D C i ys h, J D C i ys h → ys.length ≤ i
  jk : ∀ D C i ys h h', J D C i ys h → KX (C :: D :: wr) h h' → J D C i ys h'
  step : ∀ D C i v ys s₃ m₃ E', s₂.heap.objs.size ≤ D → s₂.heap.objs.size ≤ C → i < n → P i v → J D C i ys s₃.heap → s₃.heap.Ns C m₃ → m₃ x = some v → KX wr s₂.heap s₃.heap → (∃ o, s₃.heap.get? D = some o) → (∃ o, s₃.heap.get? C = some o) →
      wpAny (model prog w) A (forIn ifs true fun c r => if r = true then do let ok ← isTrue c (compEnvC scope cl C env) (eval c (compEnvC scope cl C env)); pure (ForInStep.yield ok) else pure (ForInStep.yield r))
        (fun ok s₄ => (∃ h₄ tk₄, s₄ = { s₃ with heap := h₄, toks := tk₄ } ∧ Keep s₃.heap h₄) ∧ (if ok = true then wpAny (model prog w) A (eval elt (compEnvC scope cl C env)) (fun y s₅ => (∃ h₅ tk₅, s₅ = { s₄ with heap := h₅, toks := tk₅ } ∧ Keep s₄.heap h₅) ∧ J D C (i + 1) (ys ++ [y]) s₅.heap) E' s₄ else J D C (i + 1) ys s₄.heap)) E' s₃
theorem lc_block {elt iter : Expr} {x : Str} {px : Pos} {ifs : List Expr} {scope : Scope} {cl : List (Str × Addr)} {pos : Pos} {s₂ : Shared} {I : Addr} {fp wr : List Addr} {n : Nat} {P : Nat → Value → Prop}
    {St : Nat → Heap → Prop} {J : Addr → Addr → Nat → List Value → Heap → Prop} (V : LC prog w A env scope cl x ifs elt s₂ I fp wr n P St J) {RR : Value → Addr → Result → Shared → Prop}
    (hcell : ∀ y ∈ scope.names, y.2 ≠ .cell) (hkind : scope.kind = .function) (hx : scope.names.lookup x = some .local)
    (hRR : ∀ D C h' tk m' ys, s₂.heap.objs.size ≤ D → s₂.heap.objs.size ≤ C → D ≠ C → h'.Ns C m' → LS h' D (List.toArray ys) → J D C n ys h' → KX wr s₂.heap h' → RR (.ref D) C (.ok .next) { s₂ with heap := h', toks := tk }) :
    wpAny (model prog w) A (newList []) (fun acc s₃ => wpAny (model prog w) A (newFunctionEnv scope env.globals cl [] env.qual none .none (some env)) (fun cenv s₄ =>
      codeAny (model prog w) A (.compStart (.ListComp elt [⟨.Name x px, iter, ifs, 0⟩] scope pos) 0 (.ref I) acc { cenv with scope := relabel scope env }) (RR acc cenv.locals) s₄) E s₃) E s₂ := by
  obtain ⟨W, hz, hst, hfp, j0, jl, jk, step⟩ := V
  refine wpAny_newObj_type (wpAny_newFunctionEnv hcell (by intro y hy; simp at hy) (fun h₁ hns₁ hsb₁ => ?_) hkind)
  dsimp only at hns₁ hsb₁ ⊢
  generalize hH2 : s₂.heap.push { cls := .type "list", dict := none, data := .seq ([] : List Value).toArray } = H2 at hns₁ hsb₁ ⊢
  have hC : H2.objs.size = s₂.heap.objs.size + 1 := by rw [← hH2, Heap.size_push]
  have hDC : s₂.heap.objs.size ≠ H2.objs.size := by rw [hC]; exact Nat.ne_of_lt (Nat.lt_succ_self _)
  have hCle : s₂.heap.objs.size ≤ H2.objs.size := by rw [hC]; exact Nat.le_succ _
  have below : ∀ b, b < s₂.heap.objs.size → b ≠ H2.objs.size ∧ b ≠ s₂.heap.objs.size := fun b hb => ⟨by rw [hC]; exact Nat.ne_of_lt (Nat.lt_succ_of_lt hb), Nat.ne_of_lt hb⟩
  have hDf : s₂.heap.objs.size ∉ fp := fun hm => Nat.lt_irrefl _ (hfp _ hm)
  have hCf : H2.objs.size ∉ fp := fun hm => by have := hfp _ hm; rw [hC] at this; exact Nat.lt_irrefl _ (Nat.lt_of_succ_lt this)
  have old : Keep s₂.heap h₁ := fun b o e => hsb₁.extBut b o (below b (Heap.lt_size e)).1 (Heap.get?_push_of_some _ (hH2 ▸ Heap.get?_push_of_some _ e))
  have hacc : h₁.PlainList s₂.heap.objs.size #[] := ⟨_, hsb₁.extBut _ _ hDC (Heap.get?_push_of_some _ (hH2 ▸ Heap.get?_push_size _ rfl))⟩
  have hst₁ : St 0 h₁ := W.frame _ _ _ hst fun b _ o e => old b o e
  have un : ∀ {h'}, KX (H2.objs.size :: s₂.heap.objs.size :: wr) h₁ h' → KX wr s₂.heap h' := fun k b o nb e => k b o (by
    simp only [List.mem_cons, not_or]; exact ⟨(below b (Heap.lt_size e)).1, (below b (Heap.lt_size e)).2, nb⟩) (old b o e)
  have loop : ∀ s₃ : Shared, s₃ = { s₂ with heap := h₁, toks := s₂.toks + ([] : List (Str × Value)).length } →
      codeAny (model prog w) A (.compLoop (.ListComp elt [⟨.Name x px, iter, ifs, 0⟩] scope pos) 0 (.ref I) (.ref s₂.heap.objs.size) (compEnvC scope cl H2.objs.size env))
        (RR (.ref s₂.heap.objs.size) H2.objs.size) s₃ := by
    rintro s₃ rfl
    refine lc_loop (cenv := compEnvC scope cl H2.objs.size env) W (J s₂.heap.objs.size H2.objs.size) (lookup_relabel_local hx) (by simp [compEnvC, relabel, hkind]) hDC hDf hCf hst₁ hacc hns₁ hz (j0 _ _ _ old) (jl _ _) (jk _ _)
      (fun i v ys s₃ m₃ E' hi hv hj hn hm hk hd hc => step _ _ i v ys s₃ m₃ E' (Nat.le_refl _) hCle hi hv hj hn hm (un hk) hd hc) fun h' tk ys m' hn hl hj hk => ?_
    exact hRR _ _ h' tk m' ys (Nat.le_refl _) hCle hDC hn hl hj (un hk)
  exact codeAny_compStart_list (loop _ rfl) (W.self 0 _ _ _ hst₁ (loop _ rfl))
theorem lc {s : Shared} {elt iter : Expr} {x : Str} {px : Pos} {ifs : List Expr} {scope : Scope} {cl : List (Str × Addr)} {pos : Pos} {Q : Value → Shared → Prop}
    (h : wpAny (model prog w) A (eval iter env) (fun xv s₁ => wpAny (model prog w) A (pyIter xv) (fun it s₂ => ∃ I fp wr n P St J, it = .ref I ∧ LC prog w A env scope cl x ifs elt s₂ I fp wr n P St J ∧
      (∀ D C h' tk ys, s₂.heap.objs.size ≤ D → LS h' D (List.toArray ys) → J D C n ys h' → KX wr s₂.heap h' → Q (.ref D) { s₂ with heap := h', toks := tk })) E s₁) E s)
    (hclos : closureFor scope env = pure cl := by rfl) (hcell : ∀ y ∈ scope.names, y.2 ≠ .cell := by decide) (hkind : scope.kind = .function := by rfl)
    (hnames : ∀ y ∈ scope.names, y.2 = .local → scope.names.lookup y.1 = some .local := by decide) (hx : scope.names.lookup x = some .local := by rfl)
    (hs : ∀ x, foldedSetIterable iter env x = pure x := by intro _; rfl) :
    wpAny (model prog w) A (eval (.ListComp elt [⟨.Name x px, iter, ifs, 0⟩] scope pos) env) Q E s := by
  rw [eval_ListComp]
  refine wpAny_comprehension_free (use := none) rfl hs hclos hkind hnames (wpAny_mono h (fun xv s₁ h₁ => wpAny_mono h₁ (fun it s₂ h₂ => ?_) fun _ _ e => e) fun _ _ e => e)
  obtain ⟨I, fp, wr, n, P, St, J, rfl, V, hQ⟩ := h₂
  refine lc_block (RR := fun acc C => compPost (model prog w) A E none Q acc C) V hcell hkind hx ?_
  intro D C h' tk m' ys hD hC hDC hn hl hj hk
  refine ⟨m', hn, fun h'' hs'' => hQ D C h'' tk ys hD ?_ (V.jk _ _ _ _ _ _ hj (kx_same hs'' (.head _))) ?_⟩
  · obtain ⟨e, he⟩ := hl; exact ⟨e, hs''.extBut _ _ hDC he⟩
  · exact fun b o nb e => hs''.extBut b o (Nat.ne_of_lt (Nat.lt_of_lt_of_le (Heap.lt_size e) hC)) (hk b o nb e)
theorem lc_assign {s : Shared} {elt iter : Expr} {x y : Str} {px py : Pos} {ifs : List Expr} {scope : Scope} {cl : List (Str × Addr)} {pos spos : Pos} {Q : Flow → Shared → Prop}
    (h : wpAny (model prog w) A (eval iter env) (fun xv s₁ => wpAny (model prog w) A (pyIter xv) (fun it s₂ => ∃ I fp wr n P St J m, it = .ref I ∧ LC prog w A env scope cl x ifs elt s₂ I fp wr n P St J ∧ env.locals ∉ wr ∧ s₂.heap.Ns env.locals m ∧
      (∀ D C h' tk ys, s₂.heap.objs.size ≤ D → LS h' D (List.toArray ys) → (∃ h1, J D C n ys h1 ∧ KX [env.locals, C] h1 h') → h'.Ns env.locals (fun z => if z = y then some (.ref D) else m z) → KX (env.locals :: wr) s₂.heap h' → s₂.heap.objs.size ≤ C → Q .next { s₂ with heap := h', toks := tk })) E s₁) E s)
    (hsw : swapsWith (.ListComp elt [⟨.Name x px, iter, ifs, 0⟩] scope pos) (some (.Name y py)) spos.line env = pure true := by rfl)
    (hclos : closureFor scope env = pure cl := by rfl) (hcell : ∀ z ∈ scope.names, z.2 ≠ .cell := by decide) (hkind : scope.kind = .function := by rfl)
    (hnames : ∀ z ∈ scope.names, z.2 = .local → scope.names.lookup z.1 = some .local := by decide) (hx : scope.names.lookup x = some .local := by rfl)
    (hy : env.kindOf y = some .local := by rfl) (hp : (env.scope.kind == .class || (env.scope.kind == .module && env.locals != env.globals)) = false := by rfl)
    (hs : ∀ x, foldedSetIterable iter env x = pure x := by intro _; rfl) :
    wpAny (model prog w) A (exec (.Assign [.Name y py] (.ListComp elt [⟨.Name x px, iter, ifs, 0⟩] scope pos) spos) env) Q E s := by
  rw [exec_Assign_Name_used _ _ _ _ hsw]
  refine wpAny_bind (wpAny_standAt (wpAny_bind ?_))
  show wpAny _ A (do let _ ← comprehension (.ListComp elt [⟨.Name x px, iter, ifs, 0⟩] scope pos) scope env _ (newList []) false (eval iter env) (some (assign (.Name y py) env))) _ _ s
  refine wpAny_bind (wpAny_mono (wpAny_comprehension_free (use := some (assign (.Name y py) env)) (Q := fun _ s' => Q .next s') rfl hs hclos hkind hnames
    (wpAny_mono h (fun xv s₁ h₁ => wpAny_mono h₁ (fun it s₂ h₂ => ?_) fun _ _ e => e) fun _ _ e => e)) (fun _ s' hq => wpAny_pure (wpAny_pure hq)) fun _ _ e => e)
  obtain ⟨I, fp, wr, n, P, St, J, m, rfl, V, hLf, hn, hQ⟩ := h₂
  refine lc_block (RR := fun acc C => compPost (model prog w) A E (some (assign (.Name y py) env)) (fun _ s' => Q .next s') acc C) V hcell hkind hx ?_
  intro D C h' tk m' ys hD hC hDC hnC hl hj hk
  have hlt : env.locals < s₂.heap.objs.size := hn.lt
  have hLC : env.locals ≠ C := Nat.ne_of_lt (Nat.lt_of_lt_of_le hlt hC)
  have hLD : env.locals ≠ D := Nat.ne_of_lt (Nat.lt_of_lt_of_le hlt hD)
  show wpAny _ A (assign (.Name y py) env (.ref D)) _ _ _
  refine wpAny_assign_Name (wpAny_storeName_local hy (hn.at' fun o e => hk _ o hLf e) (fun h₂ hn₂ hs₂ => ?_) hp)
  refine ⟨m', hnC.sameBut hs₂ (Ne.symm hLC), fun h₃ hs₃ => ?_⟩
  refine hQ D C h₃ _ ys hD ?_ ⟨h', hj, fun b o nb e => ?_⟩ (hn₂.sameBut hs₃ hLC) (fun b o nb e => ?_) hC
  · obtain ⟨e, he⟩ := hl; exact ⟨e, hs₃.extBut _ _ hDC (hs₂.extBut _ _ (Ne.symm hLD) he)⟩
  · simp only [List.mem_cons, List.not_mem_nil, or_false, not_or] at nb
    exact hs₃.extBut _ _ nb.2 (hs₂.extBut _ _ nb.1 e)
  · simp only [List.mem_cons, not_or] at nb
    exact hs₃.extBut _ _ (Nat.ne_of_lt (Nat.lt_of_lt_of_le (Heap.lt_size e) hC)) (hs₂.extBut _ _ nb.1 (hk _ _ nb.2 e))
end

section
variable {prog : Program} {w : World} {A : Around} {E : Value → Shared → Prop} {env : Env} {s : Shared}
/-- an iterator over something, fresh, that goes through n values -/
def Iters (prog : Program) (w : World) (A : Around) (s : Shared) (v : Value) (n : Nat) (P : Nat → Value → Prop) : Prop :=
  ∀ (K : Value → Shared → Prop) (E : Value → Shared → Prop), (∀ I fp St h2, (∀ b o, h2.get? b = some o → b = I ∨ s.heap.get? b = some o) → s.heap.get? I = none → Keep s.heap h2 → Walks prog w A I fp [I] n P St → St 0 h2 → (∀ b ∈ fp, b < h2.objs.size) → s.heap.objs.size ≤ h2.objs.size → K (.ref I) { s with heap := h2 }) → wpAny (model prog w) A (pyIter v) K E s
theorem iters_list {l : Addr} {vs : Array Value} (hl : LS s.heap l vs) (hh : A.handled = none) : Iters prog w A s (.ref l) vs.size (fun i v => vs[i]? = some v) := by
  intro K E k
  refine wpAny_pyIter_list hl.isList ?_
  have k1 := keep_push s.heap { cls := .type "list_iterator", data := .fields #[.ref l, .int 0 0] }
  have ne : l ≠ s.heap.objs.size := Nat.ne_of_lt hl.lt
  refine k s.heap.objs.size _ _ _ (fun b o e => ?_) (size_none _) k1 (Walks.list hh _ l ne vs) ⟨⟨_, Heap.get?_push_size _ rfl, rfl, rfl⟩, (hl.keeps k1).isList⟩ ?_ (by rw [Heap.size_push]; exact Nat.le_succ _)
  · rcases Heap.get?_push_cases e with ⟨rfl, _⟩ | e
    · exact .inl rfl
    · exact .inr e
  · intro b hb
    rw [Heap.size_push]
    rcases List.mem_cons.mp hb with rfl | hb
    · exact Nat.lt_succ_self _
    · rw [List.mem_singleton.mp hb]; exact Nat.lt_succ_of_lt hl.lt
/-- one step of a comprehension whose result does not speak of the heap -/
def Step (prog : Program) (w : World) (A : Around) (env : Env) (s : Shared) (scope : Scope) (cl : List (Str × Addr)) (x : Str) (ifs : List Expr) (elt : Expr) (n : Nat) (P : Nat → Value → Prop) (J : Nat → List Value → Prop) : Prop :=
  ∀ C i v ys s₃ m₃ E', i < n → P i v → J i ys → s₃.heap.Ns C m₃ → m₃ x = some v → Keep s.heap s₃.heap → s.heap.get? C = none →
      wpAny (model prog w) A (forIn ifs true fun c r => if r = true then do let ok ← isTrue c (compEnvC scope cl C env) (eval c (compEnvC scope cl C env)); pure (ForInStep.yield ok) else pure (ForInStep.yield r))
        (fun ok s₄ => (∃ h₄ tk₄, s₄ = { s₃ with heap := h₄, toks := tk₄ } ∧ Keep s₃.heap h₄) ∧ (if ok = true then wpAny (model prog w) A (eval elt (compEnvC scope cl C env)) (fun y s₅ => (∃ h₅ tk₅, s₅ = { s₄ with heap := h₅, toks := tk₅ } ∧ Keep s₄.heap h₅) ∧ J (i + 1) (ys ++ [y])) E' s₄ else J (i + 1) ys)) E' s₃
theorem Step.lc {scope : Scope} {cl : List (Str × Addr)} {x : Str} {ifs : List Expr} {elt : Expr} {n : Nat} {P : Nat → Value → Prop} {J : Nat → List Value → Prop} (X : Step prog w A env s scope cl x ifs elt n P J) (hz : n ≤ 1000) (h0 : J 0 []) (hl : ∀ i ys, J i ys → ys.length ≤ i)
    {I : Addr} {fp : List Addr} {St : Nat → Heap → Prop} {h2 : Heap} (hn : s.heap.get? I = none) (hk : Keep s.heap h2) (W : Walks prog w A I fp [I] n P St) (st : St 0 h2) (hf : ∀ b ∈ fp, b < h2.objs.size) (hsz : s.heap.objs.size ≤ h2.objs.size) :
    LC prog w A env scope cl x ifs elt { s with heap := h2 } I fp [I] n P St (fun _ _ i ys _ => J i ys) := by
  refine ⟨W, hz, st, hf, fun _ _ _ _ => h0, fun _ _ i ys _ j => hl i ys j, fun _ _ _ _ _ _ j _ => j, ?_⟩
  intro D C i v ys s₃ m₃ E' hD hC hi hv hj hns hm k _ _
  refine X C i v ys s₃ m₃ E' hi hv hj hns hm (fun b o e => k b o (fun q => by rw [List.mem_singleton.mp q, hn] at e; cases e) (hk b o e)) ?_
  cases z : s.heap.get? C with
  | none => rfl
  | some o => exact absurd (Heap.lt_size z) (Nat.not_lt_of_le (Nat.le_trans hsz hC))
/-- a comprehension over what v gives -/
theorem lcp {elt iter : Expr} {x : Str} {px : Pos} {ifs : List Expr} {scope : Scope} {cl : List (Str × Addr)} {pos : Pos} {Q : Value → Shared → Prop} {n : Nat} {P : Nat → Value → Prop} (J : Nat → List Value → Prop)
    (h : wpAny (model prog w) A (eval iter env) (fun v s₁ => Iters prog w A s₁ v n P ∧ Step prog w A env s₁ scope cl x ifs elt n P J ∧ n ≤ 1000 ∧ J 0 [] ∧ (∀ i ys, J i ys → ys.length ≤ i) ∧
      (∀ D h' tk ys, s₁.heap.objs.size ≤ D → LS h' D (List.toArray ys) → J n ys → Keep s₁.heap h' → Q (.ref D) { s₁ with heap := h', toks := tk })) E s)
    (hclos : closureFor scope env = pure cl := by rfl) (hcell : ∀ y ∈ scope.names, y.2 ≠ .cell := by decide) (hkind : scope.kind = .function := by rfl)
    (hnames : ∀ y ∈ scope.names, y.2 = .local → scope.names.lookup y.1 = some .local := by decide) (hx : scope.names.lookup x = some .local := by rfl)
    (hs : ∀ x, foldedSetIterable iter env x = pure x := by intro _; rfl) :
    wpAny (model prog w) A (eval (.ListComp elt [⟨.Name x px, iter, ifs, 0⟩] scope pos) env) Q E s := by
  refine lc (wpAny_mono h (fun v s₁ h₁ => ?_) fun _ _ e => e) hclos hcell hkind hnames hx hs
  obtain ⟨It, X, hz, h0, hl, q⟩ := h₁
  refine It _ _ fun I fp St h2 _ hn hk W st hf hsz => ⟨I, fp, [I], n, P, St, _, rfl, X.lc hz h0 hl hn hk W st hf hsz, fun D C h' tk ys hD hL hj k => ?_⟩
  exact q D h' tk ys (Nat.le_trans hsz hD) hL hj fun b o e => k b o (fun z => by rw [List.mem_singleton.mp z, hn] at e; cases e) (hk b o e)
theorem lcp_assign {elt iter : Expr} {x y : Str} {px py : Pos} {ifs : List Expr} {scope : Scope} {cl : List (Str × Addr)} {pos spos : Pos} {Q : Flow → Shared → Prop} {n : Nat} {P : Nat → Value → Prop} (J : Nat → List Value → Prop)
    (h : wpAny (model prog w) A (eval iter env) (fun v s₁ => Iters prog w A s₁ v n P ∧ Step prog w A env s₁ scope cl x ifs elt n P J ∧ n ≤ 1000 ∧ J 0 [] ∧ (∀ i ys, J i ys → ys.length ≤ i) ∧ ∃ m, s₁.heap.Ns env.locals m ∧
      (∀ D h' tk ys, s₁.heap.objs.size ≤ D → LS h' D (List.toArray ys) → J n ys → h'.Ns env.locals (fun z => if z = y then some (.ref D) else m z) → KX [env.locals] s₁.heap h' → Q .next { s₁ with heap := h', toks := tk })) E s)
    (hsw : swapsWith (.ListComp elt [⟨.Name x px, iter, ifs, 0⟩] scope pos) (some (.Name y py)) spos.line env = pure true := by rfl)
    (hclos : closureFor scope env = pure cl := by rfl) (hcell : ∀ z ∈ scope.names, z.2 ≠ .cell := by decide) (hkind : scope.kind = .function := by rfl)
    (hnames : ∀ z ∈ scope.names, z.2 = .local → scope.names.lookup z.1 = some .local := by decide) (hx : scope.names.lookup x = some .local := by rfl)
    (hy : env.kindOf y = some .local := by rfl) (hp : (env.scope.kind == .class || (env.scope.kind == .module && env.locals != env.globals)) = false := by rfl)
    (hs : ∀ x, foldedSetIterable iter env x = pure x := by intro _; rfl) :
    wpAny (model prog w) A (exec (.Assign [.Name y py] (.ListComp elt [⟨.Name x px, iter, ifs, 0⟩] scope pos) spos) env) Q E s := by
  refine lc_assign (wpAny_mono h (fun v s₁ h₁ => ?_) fun _ _ e => e) hsw hclos hcell hkind hnames hx hy hp hs
  obtain ⟨It, X, hz, h0, hl, m, hns, q⟩ := h₁
  refine It _ _ fun I fp St h2 _ hn hk W st hf hsz => ⟨I, fp, [I], n, P, St, _, m, rfl, X.lc hz h0 hl hn hk W st hf hsz, ?_, hns.keeps hk, fun D C h' tk ys hD hL hj hns' k hC => ?_⟩
  · intro z
    obtain ⟨o, _, _, e, _⟩ := hns
    rw [List.mem_singleton.mp z, hn] at e; cases e
  · obtain ⟨h1, hj, _⟩ := hj
    refine q D h' tk ys (Nat.le_trans hsz hD) hL hj hns' fun b o nb e => k b o ?_ (hk b o e)
    rw [List.mem_singleton] at nb
    simp only [List.mem_cons, List.not_mem_nil, or_false, not_or]
    exact ⟨nb, fun z => by rw [z, hn] at e; cases e⟩
end

theorem le1k {n : Nat} (h : n < 64) : n ≤ 1000 := Nat.le_of_lt (Nat.lt_of_lt_of_le h (by decide))
theorem half_lt {n : Nat} (h : 2 ≤ n) : n / 2 < n := Nat.div_lt_self (Nat.lt_of_lt_of_le (by decide) h) (by decide)
theorem half1_lt {n : Nat} (h : 2 ≤ n) : (n - 1) / 2 < n := Nat.lt_of_le_of_lt (Nat.div_le_self _ _) (Nat.sub_lt (Nat.lt_of_lt_of_le (by decide) h) (by decide))
theorem fdiv2 (n : Nat) : (n : Int).fdiv 2 = ((n / 2 : Nat) : Int) := by rw [Int.fdiv_eq_ediv_of_nonneg _ (by decide)]; omega
section
variable {prog : Program} {w : World} {A : Around} {E : Value → Shared → Prop} {env : Env} {s : Shared}
theorem keep_cls {M : Model} {h : Heap} {C ns cm : Addr} (K : KN h C ns cm) : Looks M h (keeperOf (.ref C)) .machine := by
  obtain ⟨T, mb, tn, tq, tk, m0, l0, sl, fI, fL, fG, fE, fe, fg, st, eC, dN, eM, FI, FL, FE⟩ := K
  exact (Looks.ld (part := none) eC).andThen ((makes (M := M) eC dN rfl).call.andThen .now)
theorem cwK {pos : Pos} {C : Addr} {e : Expr} {rest : List Expr} {Q : Value → Shared → Prop}
    (h : wpAny (model prog w) A (spliced (backTo pos (starEach (e :: rest) env))) (fun vs s₁ => (∃ ns cm, KN s₁.heap C ns cm) ∧ wpAny (model prog w) A (call (.ref C) vs) Q E s₁) E s)
    (he : starEach (e :: rest) env = (false, eval e env) :: starEach rest env := by rfl) (hplain : (backTo pos (starEach rest env)).any (·.1) = false := by rfl) :
    wpAny (model prog w) A (callWith pos (.ref C) [] (backTo pos (starEach (e :: rest) env)) []) Q E s := by
  rw [he] at h ⊢
  exact callWith_of (P := fun h => ∃ ns cm, KN h C ns cm) (by show ((false || (backTo pos (starEach rest env)).any (·.1)) || false) = false; rw [hplain]; rfl) (fun h ⟨ns, cm, K⟩ => ⟨.machine, .inr (.inl rfl), keep_cls K⟩) (evalArgs_plain h)
end
def midComp (k : Nat) : Expr := match (fBody (stm 14)).getD 0 (.Pass default), (fBody (stm 14)).getD 4 (.Pass default), (fBody (stm 14)).getD 5 (.Pass default) with
  | .Assign _ e _, .If (.BoolOp _ [.Compare a _ _ _, .Compare b _ _ _] _) _ _ _, .Return (some (.Compare c _ _ _)) _ => [e, a, b, c].getD k (.Constant .none 0 default)
  | _, _, _ => .Constant .none 0 default
theorem jitem {vo : Array Value} {js : List Nat} {i : Nat} {v : Value} (io : IntsAre vo.toList (js.map Int.ofNat)) (e : vo[i]? = some v) : i < js.length ∧ ∃ t, v = .int ((js.getD i 0 : Nat) : Int) t := by
  rw [← Array.getElem?_toList] at e
  obtain ⟨n, t, e1, rfl⟩ := ints_get io e
  rw [List.getElem?_map] at e1
  cases z : js[i]? with
  | none => rw [z] at e1; cases e1
  | some j =>
    rw [z] at e1
    cases e1
    refine ⟨(List.getElem?_eq_some_iff.mp z).1, t, ?_⟩
    rw [List.getD_eq_getElem?_getD, z]; rfl
theorem take_snoc {js : List Nat} {i : Nat} (h : i < js.length) : js.take (i + 1) = js.take i ++ [js.getD i 0] := by
  rw [List.take_add_one, List.getD_eq_getElem?_getD, List.getElem?_eq_getElem h]; simp
def okL (n : Nat) : KasT (Array Nat) → Bool
  | .ret p => p.size == n
  | .ask _ _ k => okL n (k true) && okL n (k false)
theorem okL_ev {n : Nat} (lt : Nat → Nat → Bool) : ∀ (t : KasT (Array Nat)), okL n t = true → (ev lt t).size = n
  | .ret p, h => by unfold okL at h; exact beq_iff_eq.mp h
  | .ask a b k, h => by
    unfold okL at h
    simp only [Bool.and_eq_true] at h
    refine okL_ev lt (k (lt a b)) ?_
    cases lt a b
    · exact h.2
    · exact h.1
theorem okL3 : okL 3 (kas_sort 3) = true := by decide +kernel
theorem okL5 : okL 5 (kas_sort 5) = true := by decide +kernel
theorem cell_kx {ds : List Addr} {h h' : Heap} {c : Addr} {v : Option Value} (x : h.IsCell c v) (k : KX ds h h') (n : c ∉ ds) : h'.IsCell c v := let ⟨o, e, d⟩ := x; ⟨o, k _ _ n e, d⟩
/-- the k-th of the sorted keys -/
theorem sorted_get {h : Heap} {C : Addr} {keys : List Value} {js : List Nat} {zs : List (Int × Int)} {n k : Nat} {v : Value} (K : KeysAt h C keys js) (hn : js.length = n) (hR : okR n (kas_sort n) = true) (hL : okL n (kas_sort n) = true) (hk : k < n)
    (e : (((ordJ zs js).map fun i => keys.getD i .none).toArray)[k]? = some v) : ∃ x, v = .ref x ∧ KI h C x (js.getD ((ordJ zs js).getD k 0) 0) := by
  subst hn
  have hlen : (ordJ zs js).length = js.length := by unfold ordJ; rw [Array.length_toList, okL_ev _ _ hL]
  have hk' : k < (ordJ zs js).length := by rw [hlen]; exact hk
  rw [List.getElem?_toArray, List.getElem?_map, List.getElem?_eq_getElem hk'] at e
  cases e
  have hlt : (ordJ zs js)[k] < js.length := okR_ev (ltJ zs js) (kas_sort js.length) hR _ (List.getElem_mem hk')
  obtain ⟨x, ex, X⟩ := K.2 _ hlt
  refine ⟨x, ex, ?_⟩
  rw [List.getD_eq_getElem?_getD (l := ordJ zs js), List.getElem?_eq_getElem hk']
  exact X
theorem jbound {js : List Nat} {zs : List (Int × Int)} {n k : Nat} (hR : okR n (kas_sort n) = true) (hL : okL n (kas_sort n) = true) (hn : js.length = n) (hk : k < n) : (ordJ zs js).getD k 0 < n := by
  subst hn
  have hlen : (ordJ zs js).length = js.length := by unfold ordJ; rw [Array.length_toList, okL_ev _ _ hL]
  have hk' : k < (ordJ zs js).length := by rw [hlen]; exact hk
  rw [List.getD_eq_getElem?_getD, List.getElem?_eq_getElem hk']
  exact okR_ev (ltJ zs js) (kas_sort js.length) hR _ (List.getElem_mem hk')
theorem ordJ_len {js : List Nat} {zs : List (Int × Int)} {n : Nat} (hn : js.length = n) (hL : okL n (kas_sort n) = true) : (ordJ zs js).length = n := by unfold ordJ; rw [hn, Array.length_toList, okL_ev _ _ hL]
/-- what _law_middle_by_keys answers -/
def midB (zs : List (Int × Int)) (js rs : List Nat) : Bool :=
  let zl := zs.getD (js.getD ((ordJ zs js).getD ((js.length - 1) / 2) 0) 0) (0, 0)
  let zh := zs.getD (js.getD ((ordJ zs js).getD (js.length / 2) 0) 0) (0, 0)
  let mid := rs.length / 2
  if decide ((js.filter fun j => cross zl (zs.getD j (0, 0)) == 0) ≠ [rs.getD mid 0]) || decide ((js.filter fun j => cross zh (zs.getD j (0, 0)) == 0) ≠ [rs.getD mid 0]) then false
  else decide ((rs.filter fun j => decide (cross (zs.getD j (0, 0)) zl < 0)) = rs.take mid)
section
variable {prog : Program} {w : World} {A : Around} {E : Value → Shared → Prop} {s : Shared} {g₀ : Heap} {mg mb : Str → Option Value}
theorem t1 {M : Model} {e : Env} {c : Expr} {Q : Bool → Shared → Prop} (h : wpAny M A (isTrue c e (eval c e)) Q E s) :
    wpAny M A (forIn [c] true fun c r => if r = true then do let ok ← isTrue c e (eval c e); pure (ForInStep.yield ok) else pure (ForInStep.yield r)) Q E s := by
  rw [List.forIn_cons]
  refine wpAny_bind ?_
  rw [if_pos rfl]
  refine wpAny_bind (wpAny_mono h (fun b s' h' => wpAny_pure ?_) fun _ _ e => e)
  dsimp only
  rw [List.forIn_nil]
  exact wpAny_pure h'
theorem ints_snoc' {vs : List Value} {ns : List Int} {k : Int} {t : Tok} (h : IntsAre vs ns) : IntsAre (vs ++ [.int k t]) (ns ++ [k]) := ksk_snoc h
/-- the result of a filter so far -/
def FJ (js : List Nat) (p : Nat → Bool) (i : Nat) (ys : List Value) : Prop := IntsAre ys (((js.take i).filter p).map Int.ofNat)
theorem FJ.zero {js : List Nat} {p : Nat → Bool} : FJ js p 0 [] := by unfold FJ; rw [List.take_zero]; exact .nil
theorem FJ.len {js : List Nat} {p : Nat → Bool} {i : Nat} {ys : List Value} (h : FJ js p i ys) : ys.length ≤ i := by
  rw [h.length, List.length_map]
  exact Nat.le_trans (List.length_filter_le _ _) (by rw [List.length_take]; exact Nat.min_le_left _ _)
theorem FJ.yes {js : List Nat} {p : Nat → Bool} {i : Nat} {ys : List Value} {t : Tok} (h : FJ js p i ys) (hi : i < js.length) (hp : p (js.getD i 0) = true) : FJ js p (i + 1) (ys ++ [.int ((js.getD i 0 : Nat) : Int) t]) := by
  unfold FJ
  rw [take_snoc hi, List.filter_append, List.map_append, List.filter_cons_of_pos hp]
  exact ints_snoc' h
theorem FJ.no {js : List Nat} {p : Nat → Bool} {i : Nat} {ys : List Value} (h : FJ js p i ys) (hi : i < js.length) (hp : p (js.getD i 0) = false) : FJ js p (i + 1) ys := by
  unfold FJ
  rw [take_snoc hi, List.filter_append, List.map_append, List.filter_cons_of_neg (by rw [hp]; decide), List.filter_nil, List.map_nil, List.append_nil]
  exact h
theorem FJ.done {js : List Nat} {p : Nat → Bool} {n : Nat} {ys : List Value} (h : FJ js p n ys) (hn : js.length = n) : IntsAre ys ((js.filter p).map Int.ofNat) := by
  unfold FJ at h
  rwa [← hn, List.take_of_length_le (Nat.le_refl _)] at h
theorem mapNat {l m : List Nat} : l.map Int.ofNat = m.map Int.ofNat ↔ l = m := by
  constructor
  · intro h
    exact List.map_inj_right (fun a b e => Int.ofNat.inj e) |>.mp h
  · rintro rfl; rfl
theorem midB_n {zs : List (Int × Int)} {js rs : List Nat} {n : Nat} (hn : js.length = n) (hrn : rs.length = n) : midB zs js rs =
    if decide ((js.filter fun j => cross (zs.getD (js.getD ((ordJ zs js).getD ((n - 1) / 2) 0) 0) (0, 0)) (zs.getD j (0, 0)) == 0) ≠ [rs.getD (n / 2) 0]) || decide ((js.filter fun j => cross (zs.getD (js.getD ((ordJ zs js).getD (n / 2) 0) 0) (0, 0)) (zs.getD j (0, 0)) == 0) ≠ [rs.getD (n / 2) 0]) then false
    else decide ((rs.filter fun j => decide (cross (zs.getD j (0, 0)) (zs.getD (js.getD ((ordJ zs js).getD ((n - 1) / 2) 0) 0) (0, 0)) < 0)) = rs.take (n / 2)) := by
  unfold midB
  rw [hn, hrn]
/-- the frame of _law_middle_by_keys, once the keys stand -/
structure MS (s : Shared) (h : Heap) (L D C row oth : Addr) (ys : List Value) (js : List Nat) (m : Str → Option Value) (lo hi : Option Value) : Prop where
  k : Keep s.heap h
  n : h.Ns L m
  m1 : m "row" = some (.ref row)
  m2 : m "others" = some (.ref oth)
  c1 : h.IsCell (L + 1) (some (.ref C))
  c2 : h.IsCell (L + 2) lo
  c3 : h.IsCell (L + 3) hi
  l : LS h D ys.toArray
  K : KeysAt h C ys js
theorem MS.keeps {h h' : Heap} {L D C row oth : Addr} {ys : List Value} {js : List Nat} {m : Str → Option Value} {lo hi : Option Value} (x : MS s h L D C row oth ys js m lo hi) (k : Keep h h') : MS s h' L D C row oth ys js m lo hi :=
  ⟨x.k.trans k, x.n.keeps k, x.m1, x.m2, x.c1.keeps k, x.c2.keeps k, x.c3.keeps k, x.l.keeps k, x.K.keeps k⟩
theorem cell_ne {h : Heap} {c b : Addr} {v : Option Value} {o : Obj} (x : h.IsCell c v) (e : h.get? b = some o) (hd : ∀ v, o.data ≠ .cell v) : b ≠ c := fun q => by
  obtain ⟨o', e', d⟩ := x
  rw [q, e'] at e; cases e; exact hd _ d
theorem MS.cell {h h' : Heap} {L D C row oth c : Addr} {ys : List Value} {js : List Nat} {m : Str → Option Value} {lo hi v : Option Value} (x : MS s h L D C row oth ys js m lo hi) (hc : h.IsCell c v) (sb : Heap.SameBut c h h') (hL : s.heap.objs.size = L) (hcL : L < c) :
    Keep s.heap h' ∧ h'.Ns L m ∧ LS h' D ys.toArray ∧ KeysAt h' C ys js := by
  refine ⟨fun b o e => (sb.2 b (Nat.ne_of_lt (Nat.lt_trans (hL ▸ Heap.lt_size e) hcL))).trans (x.k b o e), x.n.sameBut sb (Nat.ne_of_lt hcL), ?_, ⟨x.K.1, fun i hi => ?_⟩⟩
  · obtain ⟨n, e⟩ := x.l
    exact ⟨n, (sb.2 D (cell_ne hc e (fun v q => by cases q))).trans e⟩
  · obtain ⟨y, ey, dx, tk, e⟩ := x.K.2 i hi
    exact ⟨y, ey, dx, tk, (sb.2 y (cell_ne hc e (fun v q => by cases q))).trans e⟩
def ifRest : List Expr := match (fBody (stm 14)).getD 4 (.Pass default) with
  | .If (.BoolOp _ [_, b] _) _ _ _ => [b]
  | _ => []
def ifBody : List Stmt := match (fBody (stm 14)).getD 4 (.Pass default) with
  | .If _ b _ _ => b
  | _ => []
theorem mid_tail2 {f C wa row oth L xl xh : Addr} {cdv : Value} {zs : List (Int × Int)} {js rs : List Nat} {n t10 : Nat} {h10 : Heap} {m : Str → Option Value} {tmid : Tok} {Q : Value → Shared → Prop}
    (hh : A.handled = none) (V : KEnv s.heap A C wa zs) (hroom : A.depth + 10 < recursionLimit) (hun : A.units + 100 < cLine) (hr : IL s.heap row (rs.map Int.ofNat)) (ho : IL s.heap oth (js.map Int.ofNat))
    (hn : js.length = n) (hrn : rs.length = n) (h2 : 2 ≤ n) (h64 : n < 64) (hokR : okR n (kas_sort n) = true) (hokL : okL n (kas_sort n) = true) (hj : ∀ i < n, js.getD i 0 < zs.length) (hrj : ∀ r ∈ rs, r < zs.length)
    (q : ∀ h' tk, Keep s.heap h' → Q (.bool (midB zs js rs)) { s with heap := h', toks := tk }) (ks10 : Keep s.heap h10) (n10 : h10.Ns L m) (m1 : m "row" = some (.ref row)) (m2 : m "others" = some (.ref oth)) (m3 : m "middle" = some (.int ((n : Int).fdiv 2) tmid))
    (c1 : h10.IsCell (L + 1) (some (.ref C))) (c2 : h10.IsCell (L + 2) (some (.ref xl))) (c3 : h10.IsCell (L + 3) (some (.ref xh))) (KL : KI h10 C xl (js.getD ((ordJ zs js).getD ((n - 1) / 2) 0) 0 : Nat)) (KH : KI h10 C xh (js.getD ((ordJ zs js).getD (n / 2) 0) 0 : Nat))
    (hP1 : (js.filter fun j => cross (zs.getD (js.getD ((ordJ zs js).getD ((n - 1) / 2) 0) 0) (0, 0)) (zs.getD j (0, 0)) == 0) = [rs.getD (n / 2) 0]) :
    wpAny (model prog w) (A.deeper (envX "_law_middle_by_keys" (fScope (stm 14)) L f cdv [("high", L + 3), ("low", L + 2), ("steep", L + 1)])) (allTrue .Or ifRest (envX "_law_middle_by_keys" (fScope (stm 14)) L f cdv [("high", L + 3), ("low", L + 2), ("steep", L + 1)]))
      (fun b s₁ => if b = true then wpAny (model prog w) (A.deeper (envX "_law_middle_by_keys" (fScope (stm 14)) L f cdv [("high", L + 3), ("low", L + 2), ("steep", L + 1)])) (execs ifBody (envX "_law_middle_by_keys" (fScope (stm 14)) L f cdv [("high", L + 3), ("low", L + 2), ("steep", L + 1)])) (fun fl s' => match fl with | .next => wpAny (model prog w) (A.deeper (envX "_law_middle_by_keys" (fScope (stm 14)) L f cdv [("high", L + 3), ("low", L + 2), ("steep", L + 1)])) (execs ((fBody (stm 14)).drop 5) (envX "_law_middle_by_keys" (fScope (stm 14)) L f cdv [("high", L + 3), ("low", L + 2), ("steep", L + 1)])) (fun fl s' => Q (retOf fl) s') (fun _ _ => False) s' | f => Q (retOf f) s') (fun _ _ => False) s₁
        else wpAny (model prog w) (A.deeper (envX "_law_middle_by_keys" (fScope (stm 14)) L f cdv [("high", L + 3), ("low", L + 2), ("steep", L + 1)])) (execs [] (envX "_law_middle_by_keys" (fScope (stm 14)) L f cdv [("high", L + 3), ("low", L + 2), ("steep", L + 1)])) (fun fl s' => match fl with | .next => wpAny (model prog w) (A.deeper (envX "_law_middle_by_keys" (fScope (stm 14)) L f cdv [("high", L + 3), ("low", L + 2), ("steep", L + 1)])) (execs ((fBody (stm 14)).drop 5) (envX "_law_middle_by_keys" (fScope (stm 14)) L f cdv [("high", L + 3), ("low", L + 2), ("steep", L + 1)])) (fun fl s' => Q (retOf fl) s') (fun _ _ => False) s' | f => Q (retOf f) s') (fun _ _ => False) s₁)
      (fun _ _ => False) { s with heap := h10, toks := t10 } := by
  obtain ⟨vo, lo, io⟩ := ho.keeps ks10
  have hvo : vo.size = n := by rw [← Array.length_toList, io.length, List.length_map, hn]
  have hh' : (A.deeper (envX "_law_middle_by_keys" (fScope (stm 14)) L f cdv [("high", L + 3), ("low", L + 2), ("steep", L + 1)])).handled = none := hh
  have hmid : (n : Int).fdiv 2 = ((n / 2 : Nat) : Int) := fdiv2 n
  refine wpAny_allTrue_Or_cons (wpAny_isTrue_Compare1 (lcp (cl := [("steep", L + 1), ("high", L + 3)]) (FJ js fun j => cross (zs.getD (js.getD ((ordJ zs js).getD (n / 2) 0) 0) (0, 0)) (zs.getD j (0, 0)) == 0) (nL n10 m2 ⟨iters_list lo hh', ?_, (by rw [hvo]; exact le1k h64), FJ.zero, fun i ys j => j.len, ?_⟩)))
  · intro Cx i v yy s₃ m₃ E' hi hv hJ hn3 hm3 k3 hC3
    obtain ⟨hil, t, rfl⟩ := jitem io hv
    have ks := ks10.trans k3
    obtain ⟨nsC, cmC, lC, cwC, KK, _⟩ := V.W.keeps ks
    refine t1 (wpAny_isTrue_Compare1 (nC (c3.keeps k3) (Call_ (nC (c1.keeps k3) (cwK (spliced_more (nL hn3 hm3 (spliced_none ⟨⟨nsC, cmC, KK⟩, wpAny_call (mkK KK (V.lim.keeps ks) (by exact (show A.depth + 2 < _ from rmk hroom 2)) fun h4 x t4 k4 X hx => ?_)⟩))))))))
    refine k_eq (V.W.keeps (ks.trans k4)) ((KH.keeps k3).keeps k4) X (get_of (hj _ (jbound hokR hokL hn (by first | exact half_lt h2 | exact half1_lt h2)))) (get_of (hj _ (hn ▸ hil))) V.z V.s (V.lim.keeps (ks.trans k4)) (by exact (show A.depth + 2 < _ from rmk hroom 2)) (by exact (show A.units + 3 < _ from rmk hun 3)) fun h5 t5 k5 => wpAny_truthy_bool ⟨⟨h5, t5, rfl, k4.trans k5⟩, ?_⟩
    split
    · rename_i hp
      exact nL ((hn3.keeps k4).keeps k5) hm3 ⟨⟨h5, t5, rfl, Keep.refl _⟩, hJ.yes hil hp⟩
    · rename_i hp
      exact hJ.no hil (Bool.not_eq_true _ ▸ hp)
  intro D1 h11 t11 y1 hD1 l1 J1 k11
  have i1 := J1.done (n := vo.size) (by rw [hvo, hn])
  have n11 := n10.keeps k11
  obtain ⟨vr9, lr9, ir9⟩ := hr.keeps (ks10.trans k11)
  have hvr9 : vr9.size = n := by rw [← Array.length_toList, ir9.length, List.length_map, hrn]
  obtain ⟨vm, em⟩ : ∃ v, vr9[n / 2]? = some v := ⟨_, Array.getElem?_eq_getElem (by rw [hvr9]; exact half_lt h2)⟩
  obtain ⟨hml, tm, rfl⟩ := jitem ir9 em
  refine lst (spliced_more (Subscript_ (nL n11 m1 (nL n11 m3 (item lr9 (by rw [hmid]; exact Int.natCast_nonneg _) (by rw [hmid]; exact em) (spliced_none ⟨Nat.le_of_ble_eq_true rfl, fun h12 D2 k12 l2 g12 => ?_⟩) (by rw [hvr9]; exact le1k h64))))))
  refine ke_ne_ints (xs := y1) (ys := [.int ((rs.getD (n / 2) 0 : Nat) : Int) tm]) (l1.keeps k12).isList l2.isList i1 (IntsAre.cons _ _ .nil) (by exact (show A.units + 67 < _ from rmk hun 67)) (wpAny_truthy_bool ?_)
  rw [show decide (((js.filter fun j => cross (zs.getD (js.getD ((ordJ zs js).getD (n / 2) 0) 0) (0, 0)) (zs.getD j (0, 0)) == 0).map Int.ofNat) = [((rs.getD (n / 2) 0 : Nat) : Int)]) = decide ((js.filter fun j => cross (zs.getD (js.getD ((ordJ zs js).getD (n / 2) 0) 0) (0, 0)) (zs.getD j (0, 0)) == 0) = [rs.getD (n / 2) 0]) from decide_eq_decide.mpr (mapNat (m := [rs.getD (n / 2) 0]))]
  have ks12 : Keep s.heap h12 := ks10.trans (k11.trans k12)
  have n12 := n11.keeps k12
  have k1012 := k11.trans k12
  by_cases hP2 : (js.filter fun j => cross (zs.getD (js.getD ((ordJ zs js).getD (n / 2) 0) 0) (0, 0)) (zs.getD j (0, 0)) == 0) = [rs.getD (n / 2) 0]
  · rw [decide_eq_true hP2]
    simp only [Bool.not_true, Bool.false_eq_true, if_false]
    refine wpAny_allTrue_Or_nil ?_
    simp only [Bool.false_eq_true, if_false]
    refine wpAny_execs_nil ?_
    have hb : midB zs js rs = decide ((rs.filter fun j => decide (cross (zs.getD j (0, 0)) (zs.getD (js.getD ((ordJ zs js).getD ((n - 1) / 2) 0) 0) (0, 0)) < 0)) = rs.take (n / 2)) := by
      rw [midB_n hn hrn, hP1, hP2]; simp
    rw [hb] at q
    obtain ⟨vr, lr, ir⟩ := hr.keeps ks12
    have hvr : vr.size = n := by rw [← Array.length_toList, ir.length, List.length_map, hrn]
    refine wpAny_execs_cons (wpAny_Return_some (wpAny_Compare1 (lcp (cl := [("steep", L + 1), ("low", L + 2)]) (FJ rs fun j => decide (cross (zs.getD j (0, 0)) (zs.getD (js.getD ((ordJ zs js).getD ((n - 1) / 2) 0) 0) (0, 0)) < 0)) (nL n12 m1 ⟨iters_list lr hh', ?_, (by rw [hvr]; exact le1k h64), FJ.zero, fun i ys j => j.len, ?_⟩))))
    · intro Cx i v yy s₃ m₃ E' hi hv hJ hn3 hm3 k3 hC3
      obtain ⟨hil, t, rfl⟩ := jitem ir hv
      have ks := ks12.trans k3
      have hrb : rs.getD i 0 < zs.length := hrj _ (by rw [List.getD_eq_getElem?_getD, List.getElem?_eq_getElem hil]; exact List.getElem_mem _)
      obtain ⟨nsC, cmC, lC, cwC, KK, _⟩ := V.W.keeps ks
      refine t1 (wpAny_isTrue_Compare1 (Call_ (nC ((c1.keeps k1012).keeps k3) (cwK (spliced_more (nL hn3 hm3 (spliced_none ⟨⟨nsC, cmC, KK⟩, wpAny_call (mkK KK (V.lim.keeps ks) (by exact (show A.depth + 2 < _ from rmk hroom 2)) fun h4 x t4 k4 X hx => nC (((c2.keeps k1012).keeps k3).keeps k4) ?_)⟩)))))))
      refine k_lt (V.W.keeps (ks.trans k4)) X (((KL.keeps k1012).keeps k3).keeps k4) (get_of hrb) (get_of (hj _ (jbound hokR hokL hn (by first | exact half_lt h2 | exact half1_lt h2)))) V.z V.s (V.lim.keeps (ks.trans k4)) (by exact (show A.depth + 2 < _ from rmk hroom 2)) (by exact (show A.units + 3 < _ from rmk hun 3)) fun h5 t5 k5 => wpAny_truthy_bool ⟨⟨h5, t5, rfl, k4.trans k5⟩, ?_⟩
      split
      · rename_i hp
        exact nL ((hn3.keeps k4).keeps k5) hm3 ⟨⟨h5, t5, rfl, Keep.refl _⟩, hJ.yes hil hp⟩
      · rename_i hp
        exact hJ.no hil (Bool.not_eq_true _ ▸ hp)
    intro D3 h13 t13 y3 hD3 l3 J3 k13
    have i3 := J3.done (n := vr.size) (by rw [hvr, hrn])
    have n13 := n12.keeps k13
    have lr13 := lr.keeps k13
    refine wpAny_Subscript_list_slice (nL n13 m1 (wpAny_evalPart_none (wpAny_evalPart_some (nL n13 m3 ⟨row, vr, none, some ((n : Int).fdiv 2), rfl, lr13.isList, by rw [hvr, sizeLine_eq]; omega, .none, .int _ _, ?_⟩)))) (fun _ _ => rfl)
    have kp1 : Keep h13 ((h13.push { cls := .type "slice", data := .fields #[.none, .int ((n : Int).fdiv 2) tmid, .none] }).push { cls := .type "list", data := .seq (slicePick vr none (some ((n : Int).fdiv 2)) none) }) := (keep_push _ _).trans (keep_push _ _)
    have i4 : IntsAre (slicePick vr none (some ((n : Int).fdiv 2)) none).toList ((rs.take (n / 2)).map Int.ofNat) := by
      have := slice_ints_uptoW ir (y := (n : Int).fdiv 2) (by rw [hmid]; exact Int.natCast_nonneg _)
      rw [Array.toArray_toList, hmid, Int.toNat_natCast, ← List.map_take] at this
      rw [hmid]; exact this
    have l4 := LS.new (h13.push { cls := .type "slice", data := .fields #[.none, .int ((n : Int).fdiv 2) tmid, .none] }) (slicePick vr none (some ((n : Int).fdiv 2)) none).toList
    rw [Array.toArray_toList, Heap.size_push] at l4
    refine ke_eq_ints (xs := y3) (ys := (slicePick vr none (some ((n : Int).fdiv 2)) none).toList) (l3.keeps kp1).isList (by rw [Array.toArray_toList]; exact l4.isList) i3 i4 (by exact (show A.units + 67 < _ from rmk hun 67)) ?_
    rw [show decide (_ = (rs.take (n / 2)).map Int.ofNat) = _ from decide_eq_decide.mpr mapNat]
    exact q _ _ (ks12.trans (k13.trans kp1))
  · rw [decide_eq_false hP2]
    simp only [Bool.not_false, if_true]
    refine wpAny_execs_cons (wpAny_Return_some (wpAny_Constant_bool ?_))
    have hb : midB zs js rs = false := by
      rw [midB_n hn hrn, decide_eq_true (p := _ ≠ _) hP2, Bool.or_true]; rfl
    have hq := fun tk => q h12 tk ks12
    rw [hb] at hq
    exact hq _
theorem mid_tail {f fl fh C wa row oth L D : Addr} {cdv cl ch : Value} {zs : List (Int × Int)} {js rs : List Nat} {n t3 : Nat} {ys : List Value} {h3 : Heap} {m : Str → Option Value} {Q : Value → Shared → Prop} (G : Glo g₀ mg mb) (kg : Keep g₀ s.heap) (Fl : FnAt g₀ fl 6 "median_low" cl) (Fh : FnAt g₀ fh 7 "median_high" ch)
    (hfl : mg "median_low" = some (.ref fl)) (hfh : mg "median_high" = some (.ref fh)) (hS : mg "sorted" = none) (hLn : mg "len" = none) (hh : A.handled = none)
    (V : KEnv s.heap A C wa zs) (hroom : A.depth + 10 < recursionLimit) (hun : A.units + 100 < cLine) (hr : IL s.heap row (rs.map Int.ofNat)) (ho : IL s.heap oth (js.map Int.ofNat))
    (hn : js.length = n) (hrn : rs.length = n) (h2 : 2 ≤ n) (h64 : n < 64) (hok : okT n (kas_sort n) = true) (hokR : okR n (kas_sort n) = true) (hokL : okL n (kas_sort n) = true) (hj : ∀ i < n, js.getD i 0 < zs.length) (hrj : ∀ r ∈ rs, r < zs.length)
    (q : ∀ h' tk, Keep s.heap h' → Q (.bool (midB zs js rs)) { s with heap := h', toks := tk }) (X : MS s h3 L D C row oth ys js m none none) (hmk : m "keys" = some (.ref D)) (hL : s.heap.objs.size = L) :
    wpAny (model prog w) (A.deeper (envX "_law_middle_by_keys" (fScope (stm 14)) L f cdv [("high", L + 3), ("low", L + 2), ("steep", L + 1)])) (execs ((fBody (stm 14)).drop 1) (envX "_law_middle_by_keys" (fScope (stm 14)) L f cdv [("high", L + 3), ("low", L + 2), ("steep", L + 1)])) (fun fl s' => Q (retOf fl) s') (fun _ _ => False) { s with heap := h3, toks := t3 } := by
  obtain ⟨ol, pml, docl, ctl, el, dl, rl⟩ := id Fl
  obtain ⟨oh, pmh, doch, cth, eh, dh, rh⟩ := id Fh
  have VV : ∀ {h : Heap} (A' : Around), Keep s.heap h → A'.depth + 1 < recursionLimit → A'.units < cLine → KEnv h A' C wa zs := fun A' k a b => ⟨V.W.keeps k, V.z, V.s, V.lim.keeps k, a, b⟩
  have srt : ∀ {h : Heap}, LS h D ys.toArray → KeysAt h C ys js → Keep s.heap h → SortsTo prog w (A.deeper (envX "_law_middle_by_keys" (fScope (stm 14)) L f cdv [("high", L + 3), ("low", L + 2), ("steep", L + 1)])) h D (fun out => out = ((ordJ zs js).map fun i => ys.getD i .none).toArray) := fun l K k =>
    sorts_K l (VV _ k (by exact (show A.depth + 2 < _ from rmk hroom 2)) (by exact (show A.units + 5 < _ from rmk hun 5))) (by exact (show A.depth + 3 < _ from rmk hroom 3)) (by exact (show A.units + 8 < _ from rmk hun 8)) K hn h2 h64 hok hj
  have hsz : ∀ out : Array Value, out = ((ordJ zs js).map fun i => ys.getD i .none).toArray → out.size = n := fun out e => by rw [e, List.size_toArray, List.length_map, ordJ_len hn hokL]
  refine wpAny_execs_cons (wpAny_Assign_Name (Call_ (nG G (kg.trans X.k) hfl (cwF (o := ol) (fd := _) (spliced_more (nL X.n hmk (spliced_none ⟨⟨X.k _ _ (kg _ _ el), dl⟩, c_medlow G (kg.trans X.k) (Fl.keeps (kg.trans X.k)) hS hLn (by exact (show A.depth + 1 < _ from rmk hroom 1)) (srt X.l X.K X.k) hsz (le1k h64) (Nat.lt_of_lt_of_le (by decide) h2) fun h4 t4 out v hR hv k4 => ?_⟩)))))))
  subst hR
  obtain ⟨xl, rfl, KL⟩ := sorted_get (X.keeps k4).K hn hokR hokL (half1_lt h2) hv
  refine wpAny_storeName_cell rfl rfl rfl (X.keeps k4).c2 fun h5 c5 s5 => ?_
  have X4 := X.keeps k4
  obtain ⟨ks5, n5, l5, K5⟩ := X4.cell X4.c2 s5 hL (Nat.lt_add_of_pos_right (by decide))
  have X5 : MS s h5 L D C row oth ys js m (some (.ref xl)) none := ⟨ks5, n5, X.m1, X.m2, X4.c1.sameBut s5 (Nat.ne_of_lt (Nat.lt_succ_self _)), c5, X4.c3.sameBut s5 (Nat.ne_of_gt (Nat.lt_succ_self _)), l5, K5⟩
  have KL5 : KI h5 C xl _ := let ⟨dx, tk, e⟩ := KL; ⟨dx, tk, (s5.2 xl (cell_ne X4.c2 e (fun v q => by cases q))).trans e⟩
  clear X4 n5 l5 K5 s5 KL
  refine wpAny_execs_cons (wpAny_Assign_Name (Call_ (nG G (kg.trans X5.k) hfh (cwF (o := oh) (fd := _) (spliced_more (nL X5.n hmk (spliced_none ⟨⟨X5.k _ _ (kg _ _ eh), dh⟩, c_medhigh G (kg.trans X5.k) (Fh.keeps (kg.trans X5.k)) hS hLn (by exact (show A.depth + 1 < _ from rmk hroom 1)) (srt X5.l X5.K X5.k) hsz (le1k h64) (Nat.lt_of_lt_of_le (by decide) h2) fun h6 t6 out v hR hv k6 => ?_⟩)))))))
  subst hR
  obtain ⟨xh, rfl, KH⟩ := sorted_get (X5.keeps k6).K hn hokR hokL (half_lt h2) hv
  refine wpAny_storeName_cell rfl rfl rfl (X5.keeps k6).c3 fun h7 c7 s7 => ?_
  have X6 := X5.keeps k6
  obtain ⟨ks7, n7, l7, K7⟩ := X6.cell X6.c3 s7 hL (Nat.lt_add_of_pos_right (by decide))
  have X7 : MS s h7 L D C row oth ys js m (some (.ref xl)) (some (.ref xh)) := ⟨ks7, n7, X.m1, X.m2, X6.c1.sameBut s7 (Nat.ne_of_lt (Nat.lt_trans (Nat.lt_succ_self _) (Nat.lt_succ_self _))), X6.c2.sameBut s7 (Nat.ne_of_lt (Nat.lt_succ_self _)), c7, l7, K7⟩
  have KL7 : KI h7 C xl _ := let ⟨dx, tk, e⟩ := KL5.keeps k6; ⟨dx, tk, (s7.2 xl (cell_ne X6.c3 e (fun v q => by cases q))).trans e⟩
  have KH7 : KI h7 C xh _ := let ⟨dx, tk, e⟩ := KH; ⟨dx, tk, (s7.2 xh (cell_ne X6.c3 e (fun v q => by cases q))).trans e⟩
  clear X6 n7 l7 K7 s7 KH KL5
  obtain ⟨vr, lr, ir⟩ := hr.keeps X7.k
  have hvr : vr.size = n := by rw [← Array.length_toList, ir.length, List.length_map, hrn]
  refine wpAny_execs_cons (wpAny_Assign_Name (wpAny_BinOp (Call_ (nB G (kg.trans X7.k) hLn boot_len (cwB (spliced_more (nL X7.n X7.m1 (spliced_none (call_len_list lr.isList (by rw [hvr]; omega) (wpAny_Constant_int (floordiv_int (by decide) ?_)))))))))))
  refine stL X7.n fun h8 n8 s8 => ?_
  have n8 : h8.Ns L _ := n8
  have s8 : Heap.SameBut L h7 h8 := s8
  have ks8 : Keep s.heap h8 := fun b o e => (s8.2 b (Nat.ne_of_lt (hL ▸ Heap.lt_size e))).trans (X7.k b o e)
  have ki8 : ∀ {x : Addr} {j : Int}, KI h7 C x j → KI h8 C x j := fun ⟨dx, tk, e⟩ => ⟨dx, tk, (s8.2 _ (ns_ne X7.n e (fun _ _ q => by cases q))).trans e⟩
  have c18 := X7.c1.sameBut s8 (Nat.succ_ne_self L)
  have c28 := X7.c2.sameBut s8 (Nat.ne_of_gt (Nat.lt_add_of_pos_right (by decide)))
  have c38 := X7.c3.sameBut s8 (Nat.ne_of_gt (Nat.lt_add_of_pos_right (by decide)))
  have KL8 := ki8 KL7
  have KH8 := ki8 KH7
  clear KL7 KH7 ki8
  obtain ⟨vo, lo, io⟩ := ho.keeps ks8
  have hvo : vo.size = n := by rw [← Array.length_toList, io.length, List.length_map, hn]
  have hh' : (A.deeper (envX "_law_middle_by_keys" (fScope (stm 14)) L f cdv [("high", L + 3), ("low", L + 2), ("steep", L + 1)])).handled = none := hh
  refine wpAny_execs_cons (wpAny_If (wpAny_isTrue_BoolOp (wpAny_allTrue_Or_cons (wpAny_isTrue_Compare1 (lcp (cl := [("steep", L + 1), ("low", L + 2)]) (FJ js fun j => cross (zs.getD (js.getD ((ordJ zs js).getD ((n - 1) / 2) 0) 0) (0, 0)) (zs.getD j (0, 0)) == 0) (nL n8 X7.m2 ⟨iters_list lo hh', ?_, (by rw [hvo]; exact le1k h64), FJ.zero, fun i ys j => j.len, ?_⟩))))))
  · intro Cx i v yy s₃ m₃ E' hi hv hJ hn3 hm3 k3 hC3
    obtain ⟨hil, t, rfl⟩ := jitem io hv
    have ks := ks8.trans k3
    obtain ⟨nsC, cmC, lC, cwC, KK, _⟩ := V.W.keeps ks
    refine t1 (wpAny_isTrue_Compare1 (nC (c28.keeps k3) (Call_ (nC (c18.keeps k3) (cwK (spliced_more (nL hn3 hm3 (spliced_none ⟨⟨nsC, cmC, KK⟩, wpAny_call (mkK KK (V.lim.keeps ks) (by exact (show A.depth + 2 < _ from rmk hroom 2)) fun h4 x t4 k4 X hx => ?_)⟩))))))))
    refine k_eq (V.W.keeps (ks.trans k4)) ((KL8.keeps k3).keeps k4) X (get_of (hj _ (jbound hokR hokL hn (by first | exact half_lt h2 | exact half1_lt h2)))) (get_of (hj _ (hn ▸ hil))) V.z V.s (V.lim.keeps (ks.trans k4)) (by exact (show A.depth + 2 < _ from rmk hroom 2)) (by exact (show A.units + 3 < _ from rmk hun 3)) fun h5 t5 k5 => wpAny_truthy_bool ⟨⟨h5, t5, rfl, k4.trans k5⟩, ?_⟩
    split
    · rename_i hp
      exact nL ((hn3.keeps k4).keeps k5) hm3 ⟨⟨h5, t5, rfl, Keep.refl _⟩, hJ.yes hil hp⟩
    · rename_i hp
      exact hJ.no hil (Bool.not_eq_true _ ▸ hp)
  intro D1 h9 t9 y1 hD1 l1 J1 k9
  have i1 := J1.done (n := vo.size) (by rw [hvo, hn])
  have n9 := n8.keeps k9
  obtain ⟨vr9, lr9, ir9⟩ := hr.keeps (ks8.trans k9)
  have hvr9 : vr9.size = n := by rw [← Array.length_toList, ir9.length, List.length_map, hrn]
  have hmid : (n : Int).fdiv 2 = ((n / 2 : Nat) : Int) := fdiv2 n
  obtain ⟨vm, em⟩ : ∃ v, vr9[n / 2]? = some v := ⟨_, Array.getElem?_eq_getElem (by rw [hvr9]; exact half_lt h2)⟩
  obtain ⟨hml, tm, rfl⟩ := jitem ir9 em
  rw [hvr] at n9
  refine lst (spliced_more (Subscript_ (nL n9 X7.m1 (nL n9 rfl (item lr9 (by rw [hmid]; exact Int.natCast_nonneg _) (by rw [hmid]; exact em) (spliced_none ⟨Nat.le_of_ble_eq_true rfl, fun h10 D2 k10 l2 g10 => ?_⟩) (by rw [hvr9]; exact le1k h64))))))
  refine ke_ne_ints (xs := y1) (ys := [.int ((rs.getD (n / 2) 0 : Nat) : Int) tm]) (l1.keeps k10).isList l2.isList i1 (IntsAre.cons _ _ .nil) (by exact (show A.units + 67 < _ from rmk hun 67)) (wpAny_truthy_bool ?_)
  rw [show decide (((js.filter fun j => cross (zs.getD (js.getD ((ordJ zs js).getD ((n - 1) / 2) 0) 0) (0, 0)) (zs.getD j (0, 0)) == 0).map Int.ofNat) = [((rs.getD (n / 2) 0 : Nat) : Int)]) = decide ((js.filter fun j => cross (zs.getD (js.getD ((ordJ zs js).getD ((n - 1) / 2) 0) 0) (0, 0)) (zs.getD j (0, 0)) == 0) = [rs.getD (n / 2) 0]) from decide_eq_decide.mpr (mapNat (m := [rs.getD (n / 2) 0]))]
  have ks10 : Keep s.heap h10 := ks8.trans (k9.trans k10)
  have n10 := n9.keeps k10
  by_cases hP1 : (js.filter fun j => cross (zs.getD (js.getD ((ordJ zs js).getD ((n - 1) / 2) 0) 0) (0, 0)) (zs.getD j (0, 0)) == 0) = [rs.getD (n / 2) 0]
  · rw [decide_eq_true hP1]
    simp only [Bool.not_true, Bool.false_eq_true, if_false]
    exact mid_tail2 (f := f) (cdv := cdv) (s := s) hh V hroom hun hr ho hn hrn h2 h64 hokR hokL hj hrj q ks10 n10 X7.m1 X7.m2 rfl (c18.keeps (k9.trans k10)) (c28.keeps (k9.trans k10)) (c38.keeps (k9.trans k10)) (KL8.keeps (k9.trans k10)) (KH8.keeps (k9.trans k10)) hP1
  · rw [decide_eq_false hP1]
    simp only [Bool.not_false, if_true]
    refine wpAny_execs_cons (wpAny_Return_some (wpAny_Constant_bool ?_))
    have hb : midB zs js rs = false := by
      rw [midB_n hn hrn, decide_eq_true (p := _ ≠ _) hP1]; rfl
    have hq := fun tk => q h10 tk ks10
    rw [hb] at hq
    exact hq _
theorem c_mid {f fl fh C wa row oth : Addr} {cdv cl ch : Value} {zs : List (Int × Int)} {js rs : List Nat} {n : Nat} {Q : Value → Shared → Prop} (G : Glo g₀ mg mb) (kg : Keep g₀ s.heap) (F : FnAt g₀ f 14 "_law_middle_by_keys" cdv) (Fl : FnAt g₀ fl 6 "median_low" cl) (Fh : FnAt g₀ fh 7 "median_high" ch)
    (hfl : mg "median_low" = some (.ref fl)) (hfh : mg "median_high" = some (.ref fh)) (hS : mg "sorted" = none) (hLn : mg "len" = none) (hh : A.handled = none)
    (V : KEnv s.heap A C wa zs) (hroom : A.depth + 10 < recursionLimit) (hun : A.units + 100 < cLine) (hr : IL s.heap row (rs.map Int.ofNat)) (ho : IL s.heap oth (js.map Int.ofNat))
    (hn : js.length = n) (hrn : rs.length = n) (h2 : 2 ≤ n) (h64 : n < 64) (hok : okT n (kas_sort n) = true) (hokR : okR n (kas_sort n) = true) (hokL : okL n (kas_sort n) = true) (hj : ∀ i < n, js.getD i 0 < zs.length) (hrj : ∀ r ∈ rs, r < zs.length)
    (q : ∀ h' tk, Keep s.heap h' → Q (.bool (midB zs js rs)) { s with heap := h', toks := tk }) : wpAny (model prog w) A (call (.ref f) [.ref row, .ref oth, .ref C]) Q E s := by
  refine call_cell (k := 14) (binds := [("row", .ref row), ("others", .ref oth), ("steep", .ref C)]) (F.keeps kg) (G.lim.keeps kg) (rm0 hroom) (fun _ _ _ => rfl) (fun L x hx => ?_) fun L h1 t1 hL hns hcl k1 => ?_
  · simp only [List.mem_cons, List.not_mem_nil, or_false] at hx
    rcases hx with rfl | rfl | rfl
    · exact .inl rfl
    · exact .inl rfl
    · exact .inr ⟨rfl, rfl⟩
  have cS : h1.IsCell (L + 1) (some (.ref C)) := hcl "steep" (L + 1) rfl
  have cL : h1.IsCell (L + 2) none := hcl "low" (L + 2) rfl
  have cH : h1.IsCell (L + 3) none := hcl "high" (L + 3) rfl
  obtain ⟨vo, lo, io⟩ := ho.keeps k1
  have hvo : vo.size = n := by rw [← Array.length_toList, io.length, List.length_map, hn]
  have hh' : (A.deeper (envX "_law_middle_by_keys" (fScope (stm 14)) L f cdv (cellsFrom (L + 1) (fScope (stm 14)).names []))).handled = none := hh
  have V1 := V.W.keeps k1
  refine wpAny_execs_cons (lc_assign (cl := [("steep", L + 1)]) (nL hns rfl (iters_list lo hh' _ _ fun I fp St hI2 hold hI kI W st hf hsz => ?_)))
  refine ⟨I, fp, [I], _, _, St, fun D Cx i ys h => KeysAt h C ys (js.take i) ∧ ∀ x, .ref x ∈ ys → x ≠ D ∧ x ≠ Cx ∧ x ≠ I ∧ x ≠ L, _, rfl, ⟨W, (by rw [hvo]; exact le1k h64), st, hf, fun D Cx h _ => ⟨by rw [List.take_zero]; exact ⟨rfl, fun i hi => by simp at hi⟩, fun x hx => by simp at hx⟩, ?_, ?_, ?_⟩, ?_, hns.keeps kI, ?_⟩
  · rintro D Cx i ys h ⟨a, _⟩
    rw [a.1, List.length_take]; exact Nat.min_le_left _ _
  · rintro D Cx i ys h h' ⟨a, b⟩ kx
    refine ⟨⟨a.1, fun j hj => ?_⟩, b⟩
    obtain ⟨x, ex, dx, tk, X⟩ := a.2 j hj
    have hm : (Value.ref x) ∈ ys := by
      rw [← ex, List.getD_eq_getElem?_getD, List.getElem?_eq_getElem (by rw [a.1]; exact hj)]
      exact List.getElem_mem _
    obtain ⟨b1, b2, b3, _⟩ := b x hm
    exact ⟨x, ex, dx, tk, kx _ _ (by simp only [List.mem_cons, List.not_mem_nil, or_false, not_or]; exact ⟨b2, b1, b3⟩) X⟩
  · rintro D Cx i v ys s₃ m₃ E' hD hC hi hv ⟨a, b⟩ hn3 hm3 k3 ⟨oD, eD⟩ ⟨oC, eC⟩
    have ks : Keep h1 s₃.heap := fun b o e => k3 b o (fun z => by rw [List.mem_singleton.mp z, hI] at e; cases e) (kI b o e)
    obtain ⟨hil, t, rfl⟩ := jitem io hv
    refine wpAny_pure ⟨⟨s₃.heap, s₃.toks, rfl, Keep.refl _⟩, ?_⟩
    rw [if_pos rfl]
    obtain ⟨nsC, cmC, lC, cwC, KK, _⟩ := V1.keeps ks
    refine Call_ (nC (cS.keeps ks) (cwK (spliced_more (nL hn3 hm3 (spliced_none ⟨⟨nsC, cmC, KK⟩, wpAny_call (mkK KK (V.lim.keeps (k1.trans ks)) (by exact (show A.depth + 2 < _ from rmk hroom 2)) fun h4 x t4 k4 X hx => ?_)⟩)))))
    refine ⟨⟨h4, t4, rfl, k4⟩, ?_, ?_⟩
    · rw [take_snoc hil]
      exact (a.keeps k4).snoc X
    · intro y hy
      rcases List.mem_append.mp hy with hy | hy
      · exact b y hy
      · cases List.mem_singleton.mp hy
        have l1 : D < x := Nat.lt_of_lt_of_le (Heap.lt_size eD) hx
        have l2 : Cx < x := Nat.lt_of_lt_of_le (Heap.lt_size eC) hx
        have l3 : I < x := Nat.lt_of_lt_of_le (Nat.lt_of_lt_of_le (hf I (W.sub _ (.head _))) hD) (Nat.le_of_lt l1)
        exact ⟨Nat.ne_of_gt l1, Nat.ne_of_gt l2, Nat.ne_of_gt l3, Nat.ne_of_gt (Nat.lt_of_lt_of_le (Nat.lt_of_lt_of_le (hns.keeps kI).lt hD) (Nat.le_of_lt l1))⟩
  · intro z
    have z' : L = I := List.mem_singleton.mp z
    obtain ⟨o, _, _, e, _⟩ := hns
    rw [z', hI] at e; cases e
  · intro D Cx h3 t3 ys hD lD hJ hns3 k3 hCx
    obtain ⟨hJh, ⟨KJ, hxs⟩, kJ⟩ := hJ
    have hns3 : h3.Ns L _ := hns3
    have nI : ∀ b o, h1.get? b = some o → b ≠ I := fun b o e z => by rw [z, hI] at e; cases e
    have ks3 : Keep s.heap h3 := fun b o e => k3 b o (by
      simp only [List.mem_cons, List.not_mem_nil, or_false, not_or]
      exact ⟨Nat.ne_of_lt (hL ▸ Heap.lt_size e), nI b o (k1 _ _ e)⟩) (kI _ _ (k1 _ _ e))
    have cS3 : h3.IsCell (L + 1) (some (.ref C)) := cell_kx (cS.keeps kI) k3 (by
      obtain ⟨o, e, _⟩ := cS
      simp only [List.mem_cons, List.not_mem_nil, or_false, not_or]; exact ⟨Nat.succ_ne_self L, nI _ o e⟩)
    have cL3 : h3.IsCell (L + 2) none := cell_kx (cL.keeps kI) k3 (by
      obtain ⟨o, e, _⟩ := cL
      simp only [List.mem_cons, List.not_mem_nil, or_false, not_or]; exact ⟨Nat.ne_of_gt (Nat.lt_add_of_pos_right (by decide)), nI _ o e⟩)
    have cH3 : h3.IsCell (L + 3) none := cell_kx (cH.keeps kI) k3 (by
      obtain ⟨o, e, _⟩ := cH
      simp only [List.mem_cons, List.not_mem_nil, or_false, not_or]; exact ⟨Nat.ne_of_gt (Nat.lt_add_of_pos_right (by decide)), nI _ o e⟩)
    have K3 : KeysAt h3 C ys js := by
      rw [hvo, ← hn, List.take_of_length_le (Nat.le_refl _)] at KJ
      refine ⟨KJ.1, fun j hj => ?_⟩
      obtain ⟨x, ex, dx, tk, X⟩ := KJ.2 j hj
      have hm : (Value.ref x) ∈ ys := by
        rw [← ex, List.getD_eq_getElem?_getD, List.getElem?_eq_getElem (by rw [KJ.1]; exact hj)]
        exact List.getElem_mem _
      obtain ⟨b1, b2, b3, b4⟩ := hxs x hm
      exact ⟨x, ex, dx, tk, kJ _ _ (by simp only [List.mem_cons, List.not_mem_nil, or_false, not_or]; exact ⟨b4, b2⟩) X⟩
    clear hns cS cL cH lo io KJ hxs kJ k3
    exact mid_tail (s := s) G kg Fl Fh hfl hfh hS hLn hh V hroom hun hr ho hn hrn h2 h64 hok hokR hokL hj hrj q ⟨ks3, hns3, rfl, rfl, cS3, cL3, cH3, lD, K3⟩ rfl hL
end

section
variable {prog : Program} {w : World} {A : Around} {E : Value → Shared → Prop} {s : Shared} {env : Env}
theorem sumL {l : Addr} {vs : Array Value} {ns : List Int} {Q : Value → Shared → Prop} (hh : A.handled = none) (hl : LS s.heap l vs) (hi : IntsAre vs.toList ns)
    (q : ∀ h' tk t', Keep s.heap h' → Q (.int ns.sum t') { s with heap := h', toks := tk }) : wpAny (model prog w) A (call (.builtin "sum") [.ref l]) Q E s := by
  have ha := hi.allInts
  rw [Array.toArray_toList] at ha
  obtain ⟨xs, rfl⟩ := ha.items
  have e := hi.numsOf
  rw [nums_intItems] at e
  refine sum_intListG hh hl.isList fun h' tk t' hk => ?_
  have := q h' tk t' hk
  rw [preSum_eq, List.take_of_length_le (by simp), e]; exact this
theorem isList_keeps {h h' : Heap} {a : Addr} {vs : Array Value} (x : h.IsList a vs) (k : Keep h h') : h'.IsList a vs := let ⟨o, e, r⟩ := x; ⟨o, k _ _ e, r⟩
/-- script[k::n] -/
theorem sliceStep {l : Addr} {vs : List Value} {ns : List Int} {a c : Int} {value lo st : Expr} {p pos : Pos} {Q : Value → Shared → Prop}
    (h : wpAny (model prog w) A (eval value env) (fun o s₁ => o = .ref l ∧ wpAny (model prog w) A (eval lo env) (fun vl s₂ => wpAny (model prog w) A (eval st env) (fun vst s₃ => (∃ ta, vl = .int a ta) ∧ (∃ tc, vst = .int c tc) ∧ c ≠ 0 ∧ s₃.heap.IsList l vs.toArray ∧ IntsAre vs ns ∧ vs.length ≤ 1000 ∧
      (∀ h' D, Keep s₃.heap h' → IL h' D (pickNums ns (some a) none (some c)) → s₃.heap.objs.size ≤ D → Q (.ref D) { s₃ with heap := h' })) E s₂) E s₁) E s)
    (ht : ∀ o r, letTemporaryGo value o r = pure () := by intro _ _; rfl) :
    wpAny (model prog w) A (eval (.Subscript value (.Slice (some lo) none (some st) p) pos) env) Q E s := by
  refine wpAny_Subscript_Slice_step (T := "list") list_getitem_lookup (wpAny_mono h (fun o s₁ h₁ => ?_) fun _ _ e => e) ht
  obtain ⟨rfl, h₁⟩ := h₁
  refine wpAny_Slice (wpAny_evalPart_some (wpAny_mono h₁ (fun vl s₂ h₂ => wpAny_evalPart_none (wpAny_evalPart_some (wpAny_mono h₂ (fun vst s₃ h₃ => ?_) fun _ _ e => e))) fun _ _ e => e))
  obtain ⟨⟨ta, rfl⟩, ⟨tc, rfl⟩, hc, hl, hi, hz, q⟩ := h₃
  have k1 := keep_push s₃.heap { cls := .type "slice", data := .fields #[.int a ta, .none, .int c tc] }
  refine ⟨(isList_keeps hl k1).typeIs, ?_⟩
  refine wpAny_getItem_list_slice (isList_keeps hl k1) ⟨_, Heap.get?_push_size _ rfl, rfl, rfl⟩ (.int _ _) .none (.int _ _) (by simpa using hc) ?_ (by rw [List.size_toArray, sizeLine_eq]; omega)
  have l4 := LS.new (s₃.heap.push { cls := .type "slice", data := .fields #[.int a ta, .none, .int c tc] }) (slicePick vs.toArray (some a) none (some c)).toList
  rw [Array.toArray_toList] at l4
  exact q _ _ (k1.trans (keep_push _ _)) ⟨_, l4, hi.pick _ _ _⟩ (by rw [Heap.size_push]; exact Nat.le_succ _)
theorem range_size (n : Nat) : Builtin.Range.rangeSize 0 n 1 = n := by rw [rangeSize_one]; split <;> omega
theorem fits1k (x : Int) (h0 : 0 ≤ x) (h1 : x ≤ 1000) : Builtin.Range.rangeFitsLong x = true := by
  unfold Builtin.Range.rangeFitsLong
  simp only [Bool.and_eq_true, decide_eq_true_eq]
  omega
theorem range_small {n : Nat} (hn : n < 1000) : Builtin.Range.small 0 n 1 = true := by
  unfold Builtin.Range.small
  rw [range_size, fits1k 0 (by decide) (by decide), fits1k n (by omega) (by omega), fits1k 1 (by decide) (by decide)]
  simp only [Bool.true_and, Bool.or_eq_true]
  right
  rw [if_pos (by decide)]
  exact fits1k _ (by omega) (by omega)
/-- an iterator over range(n) -/
theorem iters_range {r : Addr} {n : Nat} {t u v : Tok} (hr : IsRange s.heap r 0 n 1 t u v) (hn : n < 1000) (hh : A.handled = none) : Iters prog w A s (.ref r) n (fun i v => ∃ t, v = .int (i : Nat) t) := by
  intro K E k
  have hsz : Builtin.Range.rangeSize 0 n 1 = n := range_size n
  have hs : Builtin.Range.small 0 n 1 = true := range_small hn
  refine wpAny_pyIter_range hr hs ?_
  rw [hsz]
  have k1 := keep_push s.heap { cls := .type "range_iterator", data := .fields #[rawInt 0, rawInt n, rawInt 1] }
  have W := Walks.range (prog := prog) (w := w) hh s.heap.objs.size 0 1 n
  have hP : (fun (i : Nat) (v : Value) => ∃ t, v = .int (0 + (i : Int) * 1) t) = (fun (i : Nat) (v : Value) => ∃ t, v = .int ((i : Nat) : Int) t) := by
    funext i v
    rw [Int.zero_add, Int.mul_one]
  rw [hP] at W
  refine k s.heap.objs.size _ _ _ (fun b o e => ?_) (size_none _) k1 W ?_ ?_ (by rw [Heap.size_push]; exact Nat.le_succ _)
  · rcases Heap.get?_push_cases e with ⟨rfl, _⟩ | e
    · exact .inl rfl
    · exact .inr e
  · show IsRangeIter _ _ (0 + ((0 : Nat) : Int) * 1) ((n : Int) - ((0 : Nat) : Int)) 1
    rw [show (0 + ((0 : Nat) : Int) * 1) = 0 from rfl, show (n : Int) - ((0 : Nat) : Int) = n from by omega]
    exact Heap.get?_push_size _ rfl
  · intro b hb
    rw [Heap.size_push, List.mem_singleton.mp hb]
    exact Nat.lt_succ_self _
end

abbrev lawCells (L : Addr) : List (Str × Addr) := [("up", L + 6), ("across", L + 5), ("i", L + 4), ("points", L + 3), ("n", L + 2), ("script", L + 1)]
abbrev lawEnv (L f : Addr) (cdv : Value) : Env := envX "law" (fScope (stm 15)) L f cdv (lawCells L)
def ptsE : Expr := match (fBody (stm 15)).getD 1 (.Pass default) with
  | .Assign _ e _ => e
  | _ => .Constant .none 0 default
def offs : List Int := [0, 9, 2, 0, 7, 4]
def ptAt (ns : List Int) (n k : Nat) : Int × Int := ((k : Int), (k : Int) * k + 1000 * ((pickNums ns (some (k : Int)) none (some (n : Int))).sum + offs.getD k 0))
def ptsOf (ns : List Int) (n : Nat) : List (Int × Int) := (List.range n).map (ptAt ns n)
theorem offs_get {h : Heap} {a : Addr} {t0 t1 t2 t3 t4 t5 : Tok} {i : Nat} (_l : LS h a #[.int 0 t0, .int 9 t1, .int 2 t2, .int 0 t3, .int 7 t4, .int 4 t5]) (hi : i < 6) :
    ∃ t, (#[.int 0 t0, .int 9 t1, .int 2 t2, .int 0 t3, .int 7 t4, .int 4 t5] : Array Value)[((i : Nat) : Int).toNat]? = some (.int (offs.getD i 0) t) := by
  have : i = 0 ∨ i = 1 ∨ i = 2 ∨ i = 3 ∨ i = 4 ∨ i = 5 := by omega
  rcases this with rfl | rfl | rfl | rfl | rfl | rfl <;> exact ⟨_, rfl⟩
theorem pts_take {ns : List Int} {n i : Nat} (hi : i < n) : (ptsOf ns n).take (i + 1) = (ptsOf ns n).take i ++ [ptAt ns n i] := by
  have hl : i < (ptsOf ns n).length := by unfold ptsOf; rw [List.length_map, List.length_range]; exact hi
  rw [List.take_add_one, List.getElem?_eq_getElem hl]
  congr 1
  simp [ptsOf]
theorem pts_snoc {h : Heap} {ys : List Value} {ns : List Int} {n i : Nat} {a : Addr} {t u : Tok} (x : Prs h ys ((ptsOf ns n).take i)) (l : LS h a #[.int (i : Int) t, .int ((i : Int) * (i : Int) + 1000 * ((pickNums ns (some (i : Int)) none (some (n : Int))).sum + offs.getD i 0)) u]) (hi : i < n) : Prs h (ys ++ [.ref a]) ((ptsOf ns n).take (i + 1)) := by
  rw [pts_take hi]
  exact x.snoc l
section
variable {prog : Program} {w : World} {A : Around} {E : Value → Shared → Prop} {s : Shared} {g₀ : Heap} {mg mb : Str → Option Value}
theorem c_points {L f sc : Addr} {cdv : Value} {vs : List Value} {ns : List Int} {n : Nat} {tn : Tok} {Q : Value → Shared → Prop} (G : Glo g₀ mg mb) (kg : Keep g₀ s.heap) (hsum : mg "sum" = none) (hrange : mg "range" = none) (hh : A.handled = none)
    (c1 : s.heap.IsCell (L + 1) (some (.ref sc))) (c2 : s.heap.IsCell (L + 2) (some (.int (n : Nat) tn))) (hl : s.heap.IsList sc vs.toArray) (hi : IntsAre vs ns) (hz : vs.length ≤ 1000) (hn0 : 0 < n) (hn : n ≤ 6)
    (q : ∀ h' tk D, Keep s.heap h' → PT h' D (ptsOf ns n) → s.heap.objs.size ≤ D → Q (.ref D) { s with heap := h', toks := tk }) : wpAny (model prog w) A (eval ptsE (lawEnv L f cdv)) Q E s := by
  refine lc (cl := [("script", L + 1), ("n", L + 2)]) (Call_ (nB G kg hrange boot_range (callWith_type1 (spliced_more (nC c2 (spliced_none ?_))))))
  refine call_range_1 ?_
  have kr : Keep s.heap (s.heap.push { cls := .type "range", data := .fields #[.int 0 s.toks, .int (n : Nat) tn, .int 1 (s.toks + 1)] }) := keep_push _ _
  refine iters_range (IsRange.new _ _ _ _ _ _ _) (by omega) hh _ _ fun I fp St h2 hold hI kI W st hf hsz => ?_
  have k2 : Keep s.heap h2 := kr.trans kI
  have hI' : s.heap.get? I = none := by
    cases z : s.heap.get? I with
    | none => rfl
    | some o => have := kr _ _ z; rw [hI] at this; cases this
  refine ⟨I, fp, [I], _, _, St, fun D Cx i ys h => Prs h ys ((ptsOf ns n).take i) ∧ ∀ a, .ref a ∈ ys → a ≠ D ∧ a ≠ Cx ∧ a ≠ I, rfl, ⟨W, by omega, st, hf, fun D Cx h _ => ⟨by rw [List.take_zero]; exact .nil, fun x hx => by simp at hx⟩, ?_, ?_, ?_⟩, ?_⟩
  · rintro D Cx i ys h ⟨a, _⟩
    rw [a.length, List.length_take]; exact Nat.min_le_left _ _
  · rintro D Cx i ys h h' ⟨a, b⟩ kx
    refine ⟨a.map fun x ws hm ⟨e, l⟩ => ?_, b⟩
    obtain ⟨b1, b2, b3⟩ := b x hm
    exact ⟨e, kx _ _ (by simp only [List.mem_cons, List.not_mem_nil, or_false, not_or]; exact ⟨b2, b1, b3⟩) l⟩
  · rintro D Cx i v ys s₃ m₃ E' hD hC hin ⟨t, rfl⟩ ⟨a, b⟩ hn3 hm3 k3 ⟨oD, eD⟩ ⟨oC, eC⟩
    have ks : Keep s.heap s₃.heap := fun b o e => k3 b o (fun z => by rw [List.mem_singleton.mp z, hI'] at e; cases e) (k2 b o e)
    have kgs := kg.trans ks
    refine wpAny_pure ⟨⟨s₃.heap, s₃.toks, rfl, Keep.refl _⟩, ?_⟩
    rw [if_pos rfl]
    refine lst (spliced_more (nL hn3 hm3 ?_))
    refine spliced_more (wpAny_BinOp (wpAny_BinOp (nL hn3 hm3 (nL hn3 hm3 (mul_int ?_ (mulOk (by omega) (by omega)))))))
    refine wpAny_BinOp (wpAny_Constant_int (wpAny_BinOp (Call_ (nB G kgs hsum boot_sum (cwB (spliced_more ?_))))))
    refine sliceStep (l := sc) (vs := vs) (ns := ns) (a := (i : Int)) (c := (n : Int)) (nC (c1.keeps ks) ⟨rfl, nL hn3 hm3 (nC (c2.keeps ks) ⟨⟨_, rfl⟩, ⟨_, rfl⟩, by omega, isList_keeps hl ks, hi, hz, fun h4 D4 k4 l4 g4 => ?_⟩)⟩)
    obtain ⟨v4, l4, i4⟩ := l4
    refine spliced_none (sumL hh l4 i4 fun h5 t5 t5' k5 => ?_)
    have k35 := k4.trans k5
    refine Subscript_ (lst (spliced_more (wpAny_Constant_int (spliced_more (wpAny_Constant_int (spliced_more (wpAny_Constant_int (spliced_more (wpAny_Constant_int (spliced_more (wpAny_Constant_int (spliced_more (wpAny_Constant_int (spliced_none ⟨Nat.le_of_ble_eq_true rfl, fun h6 D6 k6 l6 g6 => ?_⟩))))))))))))))
    have hi6 : i < 6 := by omega
    obtain ⟨ti, ei⟩ := offs_get l6 hi6
    refine nL (((hn3.keeps k35).keeps k6)) hm3 (item l6 (by omega) ei (add_int (mul_int (add_int (spliced_none ⟨Nat.le_of_ble_eq_true rfl, fun h7 D7 k7 l7 g7 => ?_⟩)) (.of_left (by decide)))) (Nat.le_of_ble_eq_true rfl))
    have k37 := k35.trans (k6.trans k7)
    have k37' : Keep s₃.heap h7 := k37
    refine ⟨⟨h7, _, rfl, k37⟩, ?_, ?_⟩
    · exact pts_snoc (a.keeps k37') l7 hin
    · intro y hy
      rcases List.mem_append.mp hy with hy | hy
      · exact b y hy
      · cases List.mem_singleton.mp hy
        have g7' : h6.objs.size ≤ D7 := g7
        have k36 : Keep s₃.heap h6 := k35.trans k6
        have l1 : D < D7 := Nat.lt_of_lt_of_le (Heap.lt_size (k36 _ _ eD)) g7'
        have l2 : Cx < D7 := Nat.lt_of_lt_of_le (Heap.lt_size (k36 _ _ eC)) g7'
        have l3 : I < D7 := Nat.lt_trans (Nat.lt_of_lt_of_le (hf I (W.sub _ (.head _))) hD) l1
        exact ⟨Nat.ne_of_gt l1, Nat.ne_of_gt l2, Nat.ne_of_gt l3⟩
  · intro D Cx h' tk ys hD lD hJ k
    refine q h' tk D (fun b o e => k b o (fun z => ?_) (k2 b o e)) ⟨_, lD, ?_⟩ (Nat.le_trans (by rw [Heap.size_push]; exact Nat.le_succ _) (Nat.le_trans hsz hD))
    · rw [List.mem_singleton.mp z, hI'] at e; cases e
    · have := hJ.1
      rw [List.take_of_length_le (by unfold ptsOf; rw [List.length_map, List.length_range]; exact Nat.le_refl _)] at this
      exact this
end

def forBody : Stmt → List Stmt
  | .For _ _ b _ _ => b
  | _ => []
def outB : List Stmt := forBody ((fBody (stm 15)).getD 2 (.Pass default))
def inB : List Stmt := forBody (outB.getD 6 (.Pass default))
theorem mulOkL {a b : Int} (h0 : 0 ≤ a) (h1 : a ≤ 5) : IntMulOk a b := .of_left (intBits_le_64 (by omega) (by omega))
theorem mulOkR {a b : Int} (h0 : -5 ≤ b) (h1 : b ≤ 5) : IntMulOk a b := .of_right (intBits_le_64 (by omega) (by omega))
/-- the sign of the point k about the line -/
def sgAt (zs : List (Int × Int)) (z0 wy : Int × Int) (k : Nat) : Int := sg (wy.1 * ((zs.getD k (0, 0)).2 - z0.2)) (wy.2 * ((zs.getD k (0, 0)).1 - z0.1))
/-- the result of a map so far -/
def MJ (js : List Nat) (g : Nat → Int) (i : Nat) (ys : List Value) : Prop := IntsAre ys ((js.take i).map g)
theorem MJ.zero {js : List Nat} {g : Nat → Int} : MJ js g 0 [] := by unfold MJ; rw [List.take_zero]; exact .nil
theorem MJ.len {js : List Nat} {g : Nat → Int} {i : Nat} {ys : List Value} (h : MJ js g i ys) : ys.length ≤ i := by
  rw [IntsAre.length h, List.length_map, List.length_take]; exact Nat.min_le_left _ _
theorem MJ.more {js : List Nat} {g : Nat → Int} {i : Nat} {ys : List Value} {t : Tok} (h : MJ js g i ys) (hi : i < js.length) : MJ js g (i + 1) (ys ++ [.int (g (js.getD i 0)) t]) := by
  unfold MJ
  rw [take_snoc hi, List.map_append]
  exact ints_snoc' h
theorem MJ.done {js : List Nat} {g : Nat → Int} {n : Nat} {ys : List Value} (h : MJ js g n ys) (hn : n = js.length) : IntsAre ys (js.map g) := by
  unfold MJ at h
  rwa [hn, List.take_of_length_le (Nat.le_refl _)] at h
section
variable {prog : Program} {w : World} {A : Around} {E : Value → Shared → Prop} {s : Shared} {g₀ : Heap} {mg mb : Str → Option Value}
/-- a call of a def of the text's -/
theorem cwG {env : Env} {pos : Pos} {a : Addr} {k : Nat} {nm : Str} {cv : Value} {e : Expr} {rest : List Expr} {Q : Value → Shared → Prop} (F : FnAt g₀ a k nm cv)
    (h : wpAny (model prog w) A (spliced (backTo pos (starEach (e :: rest) env))) (fun vs s₁ => Keep g₀ s₁.heap ∧ wpAny (model prog w) A (call (.ref a) vs) Q E s₁) E s)
    (he : starEach (e :: rest) env = (false, eval e env) :: starEach rest env := by rfl) :
    wpAny (model prog w) A (callWith pos (.ref a) [] (backTo pos (starEach (e :: rest) env)) []) Q E s := by
  obtain ⟨o, pm, doc, ct, ho, hd, hc⟩ := F
  exact cwF (o := o) (wpAny_mono h (fun vs s₁ h₁ => ⟨⟨h₁.1 _ _ ho, hd⟩, h₁.2⟩) fun _ _ e => e) he
theorem c_signs {L f f3 p oth i : Addr} {cdv cd3 : Value} {ti ta tu : Tok} {zs : List (Int × Int)} {z0 : Int × Int} {ac up : Int} {js : List Nat} {m : Str → Option Value} {Q : Flow → Shared → Prop} (G : Glo g₀ mg mb) (kg : Keep g₀ s.heap) (F3 : FnAt g₀ f3 9 "three_way_cmp" cd3) (hf3 : mg "three_way_cmp" = some (.ref f3))
    (hh : A.handled = none) (hroom : A.depth < recursionLimit) (hn : s.heap.Ns L m) (mo : m "others" = some (.ref oth)) (c3 : s.heap.IsCell (L + 3) (some (.ref p))) (c4 : s.heap.IsCell (L + 4) (some (.int (i : Nat) ti))) (c5 : s.heap.IsCell (L + 5) (some (.int ac ta))) (c6 : s.heap.IsCell (L + 6) (some (.int up tu)))
    (P : PT s.heap p zs) (O : IL s.heap oth (js.map Int.ofNat)) (hz : zs.length ≤ 1000) (hjl : js.length ≤ 1000) (h0 : zs[i]? = some z0) (hj : ∀ j ∈ js, j < zs.length) (ha0 : 0 ≤ ac) (ha5 : ac ≤ 5) (hs : ∀ z ∈ zs, 0 ≤ z.1 ∧ z.1 ≤ 5)
    (q : ∀ h' tk D, KX [L] s.heap h' → h'.Ns L (fun z => if z = "signs" then some (.ref D) else m z) → IL h' D (js.map (sgAt zs z0 (ac, up))) → s.heap.objs.size ≤ D → Q .next { s with heap := h', toks := tk }) :
    wpAny (model prog w) A (exec (inB.getD 1 (.Pass default)) (lawEnv L f cdv)) Q E s := by
  obtain ⟨vo, lo, io⟩ := O
  have hvo : vo.size = js.length := by rw [← Array.length_toList, io.length, List.length_map]
  refine lcp_assign (cl := [("up", L + 6), ("points", L + 3), ("i", L + 4), ("across", L + 5)]) (MJ js (sgAt zs z0 (ac, up))) (nL hn mo ⟨iters_list lo hh, ?_, by omega, MJ.zero, fun k ys h => h.len, m, hn, fun D h' tk ys hD lD hJ hn' k => ?_⟩)
  · intro C k v ys s₃ m₃ E' hk hv hJ hn3 hm3 k3 hC
    obtain ⟨hil, t, rfl⟩ := jitem io hv
    refine wpAny_pure ⟨⟨s₃.heap, s₃.toks, rfl, Keep.refl _⟩, ?_⟩
    rw [if_pos rfl]
    obtain ⟨vs, hl, hp⟩ := P.keeps k3
    have hsz : vs.size ≤ 1000 := by rw [← Array.length_toList, hp.length]; exact hz
    have hjk : js.getD k 0 < zs.length := by
      rw [List.getD_eq_getElem?_getD, List.getElem?_eq_getElem hil]; exact hj _ (List.getElem_mem hil)
    obtain ⟨ra, t1, t2, va, la⟩ := hp.get (get_of hjk)
    obtain ⟨rb, t3, t4, vb, lb⟩ := hp.get h0
    rw [Array.getElem?_toList] at va vb
    have z2 : ∀ x y : Value, (#[x, y] : Array Value).size ≤ 1000 := fun x y => Nat.le_of_ble_eq_true rfl
    have ia : (0 : Int) ≤ ((js.getD k 0 : Nat) : Int) := Int.natCast_nonneg _
    have ib : (0 : Int) ≤ (i : Int) := Int.natCast_nonneg _
    have kgs := kg.trans k3
    obtain ⟨pa0, pa1⟩ := hs _ (List.mem_of_getElem? (get_of hjk))
    obtain ⟨pb0, pb1⟩ := hs _ (List.mem_of_getElem? h0)
    refine Call_ (nG G kgs hf3 (cwG F3 (spliced_more (wpAny_BinOp (nC (c5.keeps k3) (wpAny_BinOp (Subscript_ (Subscript_ (nC (c3.keeps k3) (nL hn3 hm3 (item hl ia va (wpAny_Constant_int (item la (by decide) rfl ?_ (z2 _ _))) hsz)))))))))))
    refine Subscript_ (Subscript_ (nC (c3.keeps k3) (nC (c4.keeps k3) (item hl ib vb (wpAny_Constant_int (item lb (by decide) rfl (sub_int (mul_int ?_ (mulOkL ha0 ha5))) (z2 _ _))) hsz))))
    refine spliced_more (wpAny_BinOp (nC (c6.keeps k3) (wpAny_BinOp (Subscript_ (Subscript_ (nC (c3.keeps k3) (nL hn3 hm3 (item hl ia va (wpAny_Constant_int (item la (by decide) rfl ?_ (z2 _ _))) hsz))))))))
    refine Subscript_ (Subscript_ (nC (c3.keeps k3) (nC (c4.keeps k3) (item hl ib vb (wpAny_Constant_int (item lb (by decide) rfl (sub_int (mul_int ?_ (mulOkR (by omega) (by omega)))) (z2 _ _))) hsz))))
    refine spliced_none ⟨kgs, c_three (F3.keeps kgs) (G.lim.keeps kgs) hroom fun h4 t5 t6 k4 => ?_⟩
    refine ⟨⟨h4, _, rfl, k4⟩, ?_⟩
    exact hJ.more hil
  · exact q h' tk D k hn' ⟨_, lD, hJ.done hvo⟩ hD
end

def chkE : Expr := match inB.getD 2 (.Pass default) with
  | .If (.BoolOp _ (.Compare c _ _ _ :: _) _) _ _ _ => c
  | _ => .Constant .none 0 default
/-- a filter of ints so far -/
def GJ (ns : List Int) (p : Int → Bool) (i : Nat) (ys : List Value) : Prop := IntsAre ys ((ns.take i).filter p)
theorem GJ.zero {ns : List Int} {p : Int → Bool} : GJ ns p 0 [] := by unfold GJ; rw [List.take_zero]; exact .nil
theorem GJ.len {ns : List Int} {p : Int → Bool} {i : Nat} {ys : List Value} (h : GJ ns p i ys) : ys.length ≤ i := by
  rw [IntsAre.length h]
  exact Nat.le_trans (List.length_filter_le _ _) (by rw [List.length_take]; exact Nat.min_le_left _ _)
theorem take_snocI {ns : List Int} {i : Nat} {n : Int} (h : ns[i]? = some n) : ns.take (i + 1) = ns.take i ++ [n] := by
  rw [List.take_add_one, h]; rfl
theorem GJ.yes {ns : List Int} {p : Int → Bool} {i : Nat} {ys : List Value} {n : Int} {t : Tok} (h : GJ ns p i ys) (hi : ns[i]? = some n) (hp : p n = true) : GJ ns p (i + 1) (ys ++ [.int n t]) := by
  unfold GJ
  rw [take_snocI hi, List.filter_append, List.filter_cons_of_pos hp]
  exact ints_snoc' h
theorem GJ.no {ns : List Int} {p : Int → Bool} {i : Nat} {ys : List Value} {n : Int} (h : GJ ns p i ys) (hi : ns[i]? = some n) (hp : p n = false) : GJ ns p (i + 1) ys := by
  unfold GJ
  rw [take_snocI hi, List.filter_append, List.filter_cons_of_neg (by rw [hp]; decide), List.filter_nil, List.append_nil]
  exact h
theorem GJ.done {ns : List Int} {p : Int → Bool} {n : Nat} {ys : List Value} (h : GJ ns p n ys) (hn : n = ns.length) : IntsAre ys (ns.filter p) := by
  unfold GJ at h
  rwa [hn, List.take_of_length_le (Nat.le_refl _)] at h
section
variable {prog : Program} {w : World} {A : Around} {E : Value → Shared → Prop} {s : Shared} {g₀ : Heap} {mg mb : Str → Option Value}
theorem c_chk {L f S : Addr} {cdv : Value} {ns : List Int} {m : Str → Option Value} {Q : Value → Shared → Prop} (G : Glo g₀ mg mb) (kg : Keep g₀ s.heap) (hty : mg "type" = none) (hin : mg "int" = none)
    (hh : A.handled = none) (hn : s.heap.Ns L m) (ms : m "signs" = some (.ref S)) (O : IL s.heap S ns) (hz : ns.length ≤ 1000)
    (q : ∀ h' tk D, Keep s.heap h' → LS h' D #[] → s.heap.objs.size ≤ D → Q (.ref D) { s with heap := h', toks := tk }) :
    wpAny (model prog w) A (eval chkE (lawEnv L f cdv)) Q E s := by
  obtain ⟨vo, lo, io⟩ := O
  have hvo : vo.size = ns.length := by rw [← Array.length_toList, io.length]
  refine lcp (cl := []) (fun _ ys => ys = []) (nL hn ms ⟨iters_list lo hh, ?_, by omega, rfl, fun i ys e => by rw [e]; exact Nat.zero_le _, fun D h' tk ys hD lD hJ k => by subst hJ; exact q h' tk D k lD hD⟩)
  intro C k v ys s₃ m₃ E' hk hv hJ hn3 hm3 k3 hC
  obtain ⟨n, t, e1, rfl⟩ := ints_get io (by rw [Array.getElem?_toList]; exact hv)
  have kgs := kg.trans k3
  refine t1 (wpAny_isTrue_Compare1 (Call_ (nB G kgs hty boot_type (callWith_type1 (spliced_more (nL hn3 hm3 (spliced_none ?_)))))))
  refine call_type_of (typeIs_int _ _ _) (by decide) (nB G kgs hin boot_int (wpAny_isNot_self rfl (wpAny_truthy_bool ⟨⟨s₃.heap, s₃.toks, rfl, Keep.refl _⟩, ?_⟩)))
  rw [if_neg (by decide)]
  exact hJ
theorem c_rest {L f S : Addr} {cdv : Value} {ns : List Int} {m : Str → Option Value} {Q : Flow → Shared → Prop} 
    (hh : A.handled = none) (hn : s.heap.Ns L m) (ms : m "signs" = some (.ref S)) (O : IL s.heap S ns) (hz : ns.length ≤ 1000)
    (q : ∀ h' tk D, KX [L] s.heap h' → h'.Ns L (fun z => if z = "rest" then some (.ref D) else m z) → IL h' D (ns.filter fun x => x != 0) → s.heap.objs.size ≤ D → Q .next { s with heap := h', toks := tk }) :
    wpAny (model prog w) A (exec (inB.getD 5 (.Pass default)) (lawEnv L f cdv)) Q E s := by
  obtain ⟨vo, lo, io⟩ := O
  have hvo : vo.size = ns.length := by rw [← Array.length_toList, io.length]
  refine lcp_assign (cl := []) (GJ ns fun x => x != 0) (nL hn ms ⟨iters_list lo hh, ?_, by omega, GJ.zero, fun i ys e => e.len, m, hn, fun D h' tk ys hD lD hJ hn' k => q h' tk D k hn' ⟨_, lD, hJ.done hvo⟩ hD⟩)
  intro C k v ys s₃ m₃ E' hk hv hJ hn3 hm3 k3 hC
  obtain ⟨n, t, e1, rfl⟩ := ints_get io (by rw [Array.getElem?_toList]; exact hv)
  refine t1 (wpAny_isTrue_Compare1 (nL hn3 hm3 (wpAny_Constant_int (ne_int (wpAny_truthy_bool ⟨⟨s₃.heap, _, rfl, Keep.refl _⟩, ?_⟩)))))
  split
  · rename_i hp
    exact nL hn3 hm3 ⟨⟨s₃.heap, _, rfl, Keep.refl _⟩, hJ.yes e1 hp⟩
  · rename_i hp
    exact hJ.no e1 (by simpa using hp)
end

def mlow (ns : List Int) : Int := (isort ns).getD ((ns.length - 1) / 2) 0
def mhigh (ns : List Int) : Int := (isort ns).getD (ns.length / 2) 0
theorem isort_len (ns : List Int) : (isort ns).length = ns.length := (isort_perm ns).length_eq
theorem out_get {out : Array Value} {ns : List Int} {k : Nat} {v : Value} (h : IntsAre out.toList ns) (e : out[k]? = some v) : ∃ t, v = .int (ns.getD k 0) t := by
  obtain ⟨n, t, e1, rfl⟩ := ints_get h (by rw [Array.getElem?_toList]; exact e)
  exact ⟨t, by rw [List.getD_eq_getElem?_getD, e1]; rfl⟩
section
variable {prog : Program} {w : World} {A : Around} {E : Value → Shared → Prop} {s : Shared} {g₀ : Heap} {mg mb : Str → Option Value}
theorem ml_int {f d : Addr} {cdv : Value} {ns : List Int} {Q : Value → Shared → Prop} (G : Glo g₀ mg mb) (kg : Keep g₀ s.heap) (F : FnAt g₀ f 6 "median_low" cdv) (hS : mg "sorted" = none) (hLn : mg "len" = none) (hroom : A.depth < recursionLimit)
    (O : IL s.heap d ns) (h0 : 0 < ns.length) (h64 : ns.length < 64) (q : ∀ h' tk t, Keep s.heap h' → Q (.int (mlow ns) t) { s with heap := h', toks := tk }) : wpAny (model prog w) A (call (.ref f) [.ref d]) Q E s := by
  refine c_medlow (N := ns.length) G kg (F.keeps kg) hS hLn hroom (sorts_ints O h64) (fun out h => by rw [← Array.length_toList, h.length, isort_len]) (by omega) h0 fun h' tk out v hR hv k => ?_
  obtain ⟨t, rfl⟩ := out_get hR hv
  exact q h' tk t k
theorem mh_int {f d : Addr} {cdv : Value} {ns : List Int} {Q : Value → Shared → Prop} (G : Glo g₀ mg mb) (kg : Keep g₀ s.heap) (F : FnAt g₀ f 7 "median_high" cdv) (hS : mg "sorted" = none) (hLn : mg "len" = none) (hroom : A.depth < recursionLimit)
    (O : IL s.heap d ns) (h0 : 0 < ns.length) (h64 : ns.length < 64) (q : ∀ h' tk t, Keep s.heap h' → Q (.int (mhigh ns) t) { s with heap := h', toks := tk }) : wpAny (model prog w) A (call (.ref f) [.ref d]) Q E s := by
  refine c_medhigh (N := ns.length) G kg (F.keeps kg) hS hLn hroom (sorts_ints O h64) (fun out h => by rw [← Array.length_toList, h.length, isort_len]) (by omega) h0 fun h' tk out v hR hv k => ?_
  obtain ⟨t, rfl⟩ := out_get hR hv
  exact q h' tk t k
end
/-- an address whose object at h, if any, is a dict or a cell -/
def Soft (h : Heap) (b : Addr) : Prop := ∀ o, h.get? b = some o → (∃ es n, o.data = .dict es n) ∨ ∃ v, o.data = .cell v
theorem LS.kx {h h' : Heap} {wr : List Addr} {a : Addr} {vs : Array Value} (x : LS h a vs) (hw : ∀ b ∈ wr, Soft h b) (k : KX wr h h') : LS h' a vs :=
  let ⟨n, e⟩ := x; ⟨n, k _ _ (fun m => by rcases hw _ m _ e with ⟨_, _, z⟩ | ⟨_, z⟩ <;> cases z) e⟩
theorem IL.kx {h h' : Heap} {wr : List Addr} {a : Addr} {ns : List Int} (x : IL h a ns) (hw : ∀ b ∈ wr, Soft h b) (k : KX wr h h') : IL h' a ns := let ⟨vs, e, i⟩ := x; ⟨vs, e.kx hw k, i⟩
theorem PT.kx {h h' : Heap} {wr : List Addr} {a : Addr} {zs : List (Int × Int)} (x : PT h a zs) (hw : ∀ b ∈ wr, Soft h b) (k : KX wr h h') : PT h' a zs := let ⟨vs, e, i⟩ := x; ⟨vs, e.kx hw k, i.map fun _ _ _ l => l.kx hw k⟩
theorem soft_none {h : Heap} {b : Addr} (e : h.get? b = none) : Soft h b := fun o q => by rw [e] at q; cases q
theorem soft_ns {h : Heap} {b : Addr} {m : Str → Option Value} (x : h.Ns b m) : Soft h b := fun o q => by
  obtain ⟨o', es, ep, e, d, _⟩ := x
  rw [e] at q; cases q; exact .inl ⟨_, _, d⟩
theorem soft_cell {h : Heap} {b : Addr} {v : Option Value} (x : h.IsCell b v) : Soft h b := fun o q => by
  obtain ⟨o', e, d⟩ := x
  rw [e] at q; cases q; exact .inr ⟨_, d⟩
theorem addr_ne {L j k : Nat} (h : j ≠ k) : L + j ≠ L + k := by omega
/-- what stands at the start of the inner loop -/
structure TB (g₀ hB : Heap) (L p wa row oth lf H : Addr) (i n : Nat) (zs ws : List (Int × Int)) (js rs : List Nat) (lefts : List Int) : Prop where
  kg : Keep g₀ hB
  gw : ∀ b ∈ [L, L + 5, L + 6, H], g₀.get? b = none
  sf : ∀ b ∈ [L, L + 5, L + 6, H], Soft hB b
  nH : hB.get? H = none
  c2 : ∃ t, hB.IsCell (L + 2) (some (.int (n : Nat) t))
  c3 : hB.IsCell (L + 3) (some (.ref p))
  c4 : ∃ t, hB.IsCell (L + 4) (some (.int (i : Nat) t))
  P : PT hB p zs
  W : PT hB wa ws
  R : IL hB row (rs.map Int.ofNat)
  O : IL hB oth (js.map Int.ofNat)
  F : IL hB lf lefts
theorem TB.mem {g₀ hB : Heap} {L p wa row oth lf H : Addr} {i n : Nat} {zs ws : List (Int × Int)} {js rs : List Nat} {lefts : List Int} (T : TB g₀ hB L p wa row oth lf H i n zs ws js rs lefts) {k : Nat} {v : Option Value} (c : hB.IsCell (L + k) v) (hk : k = 2 ∨ k = 3 ∨ k = 4) : L + k ∉ [L, L + 5, L + 6, H] := by
  intro m
  have hH : L + k ≠ H := fun q => by obtain ⟨o, e, _⟩ := c; rw [q, T.nH] at e; cases e
  simp only [List.mem_cons, List.not_mem_nil, or_false] at m
  rcases m with m | m | m | m
  · rcases hk with rfl | rfl | rfl <;> exact addr_ne (j := _) (k := 0) (by decide) m
  · rcases hk with rfl | rfl | rfl <;> exact addr_ne (by decide) m
  · rcases hk with rfl | rfl | rfl <;> exact addr_ne (by decide) m
  · exact hH m
/-- the same at a later heap -/
structure TA (g₀ h : Heap) (L p wa row oth lf : Addr) (i n : Nat) (zs ws : List (Int × Int)) (js rs : List Nat) (lefts : List Int) : Prop where
  kg : Keep g₀ h
  c2 : ∃ t, h.IsCell (L + 2) (some (.int (n : Nat) t))
  c3 : h.IsCell (L + 3) (some (.ref p))
  c4 : ∃ t, h.IsCell (L + 4) (some (.int (i : Nat) t))
  P : PT h p zs
  W : PT h wa ws
  R : IL h row (rs.map Int.ofNat)
  O : IL h oth (js.map Int.ofNat)
  F : IL h lf lefts
theorem TB.at {g₀ hB h : Heap} {L p wa row oth lf H : Addr} {i n : Nat} {zs ws : List (Int × Int)} {js rs : List Nat} {lefts : List Int} (T : TB g₀ hB L p wa row oth lf H i n zs ws js rs lefts) (k : KX [L, L + 5, L + 6, H] hB h) : TA g₀ h L p wa row oth lf i n zs ws js rs lefts :=
  ⟨fun b o e => k b o (fun m => by have := T.gw b m; rw [e] at this; cases this) (T.kg b o e),
   let ⟨t, c⟩ := T.c2; ⟨t, cell_kx c k (T.mem c (.inl rfl))⟩, cell_kx T.c3 k (T.mem T.c3 (.inr (.inl rfl))), let ⟨t, c⟩ := T.c4; ⟨t, cell_kx c k (T.mem c (.inr (.inr rfl)))⟩,
   T.P.kx T.sf k, T.W.kx T.sf k, T.R.kx T.sf k, T.O.kx T.sf k, T.F.kx T.sf k⟩
theorem TA.keeps {g₀ h h' : Heap} {L p wa row oth lf : Addr} {i n : Nat} {zs ws : List (Int × Int)} {js rs : List Nat} {lefts : List Int} (T : TA g₀ h L p wa row oth lf i n zs ws js rs lefts) (k : Keep h h') : TA g₀ h' L p wa row oth lf i n zs ws js rs lefts :=
  ⟨T.kg.trans k, let ⟨t, c⟩ := T.c2; ⟨t, c.keeps k⟩, T.c3.keeps k, let ⟨t, c⟩ := T.c4; ⟨t, c.keeps k⟩, T.P.keeps k, T.W.keeps k, T.R.keeps k, T.O.keeps k, T.F.keeps k⟩
/-- what a turn of the inner loop changes -/
structure TM (hB h : Heap) (L C wa row oth lf H : Addr) (hv : List Int) (m : Str → Option Value) : Prop where
  kx : KX [L, L + 5, L + 6, H] hB h
  n : h.Ns L m
  c5 : ∃ v, h.IsCell (L + 5) v
  c6 : ∃ v, h.IsCell (L + 6) v
  mw : m "ways" = some (.ref wa)
  mr : m "row" = some (.ref row)
  mo : m "others" = some (.ref oth)
  ml : m "lefts" = some (.ref lf)
  mh : m "halving" = some (.ref H)
  ms : m "steep" = some (.ref C)
  V : IL h H hv
section
variable {hB h h' : Heap} {L C wa row oth lf H : Addr} {hv : List Int} {m : Str → Option Value}
theorem TM.keeps (x : TM hB h L C wa row oth lf H hv m) (k : Keep h h') : TM hB h' L C wa row oth lf H hv m :=
  ⟨x.kx.trans (kx_keep k), x.n.keeps k, let ⟨v, c⟩ := x.c5; ⟨v, c.keeps k⟩, let ⟨v, c⟩ := x.c6; ⟨v, c.keeps k⟩, x.mw, x.mr, x.mo, x.ml, x.mh, x.ms, x.V.keeps k⟩
theorem TM.loc {y : Str} {v : Value} (x : TM hB h L C wa row oth lf H hv m) (hn : h'.Ns L (fun z => if z = y then some v else m z)) (k : KX [L] h h')
    (hy : y ∉ [("ways" : Str), "row", "others", "lefts", "halving", "steep"] := by decide) : TM hB h' L C wa row oth lf H hv (fun z => if z = y then some v else m z) := by
  have ne : ∀ z ∈ [("ways" : Str), "row", "others", "lefts", "halving", "steep"], z ≠ y := fun z hz q => hy (q ▸ hz)
  have s5 : L + 5 ∉ [L] := by simp only [List.mem_cons, List.not_mem_nil, or_false]; exact Nat.ne_of_gt (Nat.lt_add_of_pos_right (by decide))
  have s6 : L + 6 ∉ [L] := by simp only [List.mem_cons, List.not_mem_nil, or_false]; exact Nat.ne_of_gt (Nat.lt_add_of_pos_right (by decide))
  refine ⟨x.kx.trans fun b o nb e => k b o (fun q => nb (by rw [List.mem_singleton.mp q]; exact .head _)) e, hn, let ⟨v, c⟩ := x.c5; ⟨v, cell_kx c k s5⟩, let ⟨v, c⟩ := x.c6; ⟨v, cell_kx c k s6⟩, ?_, ?_, ?_, ?_, ?_, ?_, x.V.kx (fun b q => by rw [List.mem_singleton.mp q]; exact soft_ns x.n) k⟩
  · exact (if_neg (ne _ (by decide))).trans x.mw
  · exact (if_neg (ne _ (by decide))).trans x.mr
  · exact (if_neg (ne _ (by decide))).trans x.mo
  · exact (if_neg (ne _ (by decide))).trans x.ml
  · exact (if_neg (ne _ (by decide))).trans x.mh
  · exact (if_neg (ne _ (by decide))).trans x.ms
theorem TM.cell {c : Addr} {v v' : Option Value} (x : TM hB h L C wa row oth lf H hv m) (hc : c = L + 5 ∨ c = L + 6) (c0 : h.IsCell c v) (c1 : h'.IsCell c v') (sb : Heap.SameBut c h h') : TM hB h' L C wa row oth lf H hv m := by
  have hm : c ∈ [L, L + 5, L + 6, H] := by rcases hc with rfl | rfl <;> simp
  have hL : L ≠ c := by rcases hc with rfl | rfl <;> exact Nat.ne_of_lt (Nat.lt_add_of_pos_right (by decide))
  have k : KX [c] h h' := kx_same sb (.head _)
  refine ⟨x.kx.trans (kx_same sb hm), x.n.sameBut sb hL, ?_, ?_, x.mw, x.mr, x.mo, x.ml, x.mh, x.ms, x.V.kx (fun b q => by rw [List.mem_singleton.mp q]; exact soft_cell c0) k⟩
  · by_cases q : L + 5 = c
    · exact ⟨_, q ▸ c1⟩
    · obtain ⟨v, z⟩ := x.c5; exact ⟨v, z.sameBut sb q⟩
  · by_cases q : L + 6 = c
    · exact ⟨_, q ▸ c1⟩
    · obtain ⟨v, z⟩ := x.c6; exact ⟨v, z.sameBut sb q⟩
end

theorem ILn.item {h : Heap} {a : Addr} {rs : List Nat} {k : Nat} (x : IL h a (rs.map Int.ofNat)) (hk : k < rs.length) : ∃ vs t, LS h a vs ∧ vs.size = rs.length ∧ vs[((k : Nat) : Int).toNat]? = some (.int ((rs.getD k 0 : Nat) : Int) t) := by
  obtain ⟨vs, l, i⟩ := x
  have hs : vs.size = rs.length := by rw [← Array.length_toList, i.length, List.length_map]
  obtain ⟨v, e⟩ : ∃ v, vs[k]? = some v := ⟨_, Array.getElem?_eq_getElem (by rw [hs]; exact hk)⟩
  obtain ⟨_, t, rfl⟩ := jitem i e
  exact ⟨vs, t, l, hs, e⟩
theorem IL.item {h : Heap} {a : Addr} {ns : List Int} {k : Nat} (x : IL h a ns) (hk : k < ns.length) : ∃ vs t, LS h a vs ∧ vs.size = ns.length ∧ vs[((k : Nat) : Int).toNat]? = some (.int (ns.getD k 0) t) := by
  obtain ⟨vs, l, i⟩ := x
  have hs : vs.size = ns.length := by rw [← Array.length_toList, i.length]
  obtain ⟨v, e⟩ : ∃ v, vs[k]? = some v := ⟨_, Array.getElem?_eq_getElem (by rw [hs]; exact hk)⟩
  obtain ⟨t, rfl⟩ := out_get i e
  exact ⟨vs, t, l, hs, e⟩
theorem PT.item {h : Heap} {a : Addr} {zs : List (Int × Int)} {k : Nat} (x : PT h a zs) (hk : k < zs.length) : ∃ vs b t u, LS h a vs ∧ vs.size = zs.length ∧ vs[((k : Nat) : Int).toNat]? = some (.ref b) ∧ LS h b #[.int (zs.getD k (0, 0)).1 t, .int (zs.getD k (0, 0)).2 u] := by
  obtain ⟨vs, l, i⟩ := x
  obtain ⟨b, t, u, e, lb⟩ := i.get (get_of hk)
  exact ⟨vs, b, t, u, l, by rw [← Array.length_toList, i.length], by rw [Array.getElem?_toList] at e; exact e, lb⟩
/-- the globals that the law reaches -/
structure LG (g₀ : Heap) (mg mb : Str → Option Value) : Prop where
  G : Glo g₀ mg mb
  three : ∃ f cd, mg "three_way_cmp" = some (.ref f) ∧ FnAt g₀ f 9 "three_way_cmp" cd
  mlo : ∃ f cd, mg "median_low" = some (.ref f) ∧ FnAt g₀ f 6 "median_low" cd
  mhi : ∃ f cd, mg "median_high" = some (.ref f) ∧ FnAt g₀ f 7 "median_high" cd
  sorted : mg "sorted" = none
  len : mg "len" = none
  sum : mg "sum" = none
  range : mg "range" = none
  type : mg "type" = none
  int : mg "int" = none
/-- the signs at the t-th of the row -/
def sgsOf (zs ws : List (Int × Int)) (i : Nat) (js rs : List Nat) (t : Nat) : List Int := js.map (sgAt zs (zs.getD i (0, 0)) (ws.getD (rs.getD t 0) (0, 0)))
def sideOf (n : Nat) (lefts : List Int) (t : Nat) : Int := sg (2 * lefts.getD t 0) ((n : Int) - 2)
def restOf (zs ws : List (Int × Int)) (i : Nat) (js rs : List Nat) (t : Nat) : List Int := (sgsOf zs ws i js rs t).filter fun x => x != 0
def halfB (zs ws : List (Int × Int)) (i : Nat) (js rs : List Nat) (t : Nat) : Bool := (mlow (restOf zs ws i js rs t) == -1) && (mhigh (restOf zs ws i js rs t) == 1)
/-- what is bounded -/
structure Bd (i n : Nat) (zs ws : List (Int × Int)) (js rs : List Nat) (lefts : List Int) : Prop where
  i : i < zs.length
  z : zs.length ≤ 50
  w : ws.length ≤ 50
  j : js.length ≤ 50
  r : rs.length ≤ 50
  jz : ∀ j ∈ js, j < zs.length
  rw : ∀ r ∈ rs, r < ws.length
  l : lefts.length = rs.length
  zs5 : ∀ z ∈ zs, 0 ≤ z.1 ∧ z.1 ≤ 5
  ws5 : ∀ z ∈ ws, 0 ≤ z.1 ∧ z.1 ≤ 5
theorem len50 {a n : Nat} (h : a + 1 = n) (h6 : n ≤ 6) : a ≤ 50 := Nat.le_trans (Nat.le_of_lt (h ▸ Nat.lt_succ_self a)) (Nat.le_trans h6 (by decide))
theorem lt64 {a : Nat} (h : a ≤ 50) : a < 64 := Nat.lt_of_le_of_lt h (by decide)
theorem k50 {a : Nat} (h : a ≤ 50) : a ≤ 1000 := Nat.le_trans h (by decide)
theorem n6 {n : Nat} (hn : n = 4 ∨ n = 6) : n ≤ 6 := by omega
theorem two_le {a n : Nat} (h : a + 1 = n) (hn : n = 4 ∨ n = 6) : 2 ≤ a := by omega
theorem getD_mem {l : List Nat} {k : Nat} (h : k < l.length) : l.getD k 0 ∈ l := by
  rw [List.getD_eq_getElem?_getD, List.getElem?_eq_getElem h]; exact List.getElem_mem _
theorem getD_memP {l : List (Int × Int)} {k : Nat} (h : k < l.length) : l.getD k (0, 0) ∈ l := by
  rw [List.getD_eq_getElem?_getD, List.getElem?_eq_getElem h]; exact List.getElem_mem _
section
variable {prog : Program} {w : World} {A : Around} {E : Value → Shared → Prop} {s : Shared} {g₀ : Heap} {mg mb : Str → Option Value}
theorem turn1 {C L p wa row oth lf H f : Addr} {cdv : Value} {i n t : Nat} {tt : Tok} {zs ws : List (Int × Int)} {js rs : List Nat} {lefts hv : List Int} {hB : Heap} {m : Str → Option Value} {Q : Flow → Shared → Prop} {rest : List Stmt}
    (Y : LG g₀ mg mb) (T : TB g₀ hB L p wa row oth lf H i n zs ws js rs lefts) (B : Bd i n zs ws js rs lefts) (hh : A.handled = none) (hroom : A.depth + 20 < recursionLimit) (hun : A.units + 200 < cLine)
    (kB : KX [L, L + 5, L + 6, H] hB s.heap) (X : TM s.heap s.heap L C wa row oth lf H hv m) (mt : m "t" = some (.int (t : Nat) tt)) (ht : t < rs.length)
    (q : ∀ h' tk m' D, TM s.heap h' L C wa row oth lf H hv m' → m' "t" = some (.int (t : Nat) tt) → m' "signs" = some (.ref D) → IL h' D (sgsOf zs ws i js rs t) → wpAny (model prog w) A (execs rest (lawEnv L f cdv)) Q E { s with heap := h', toks := tk }) :
    wpAny (model prog w) A (execs (inB.getD 0 (.Pass default) :: inB.getD 1 (.Pass default) :: rest) (lawEnv L f cdv)) Q E s := by
  have Z := T.at kB
  obtain ⟨vr, tr, lr, sr, er⟩ := ILn.item Z.R ht
  have hr : rs.getD t 0 < ws.length := B.rw _ (getD_mem ht)
  obtain ⟨vw, b, tx, ty, lw, sw, ew, lb⟩ := PT.item Z.W hr
  obtain ⟨v5, c5⟩ := X.c5
  obtain ⟨v6, c6⟩ := X.c6
  have bz := B.z
  have bw := B.w
  have br := B.r
  refine wpAny_execs_cons (Assign_Tuple (Subscript_ (nL X.n X.mw (Subscript_ (nL X.n X.mr (nL X.n mt (item lr (Int.natCast_nonneg _) er (item lw (Int.natCast_nonneg _) ew (asgList hh lb fun h2 k2 => ?_) (by omega)) (by omega))))))))
  refine assignInOrder_cons (assign_Name (wpAny_storeName_cell rfl rfl rfl (c5.keeps k2) fun h3 c53 s3 => ?_))
  have X3 := (X.keeps k2).cell (.inl rfl) (c5.keeps k2) c53 s3
  have c63 := (c6.keeps k2).sameBut s3 (addr_ne (by decide) : L + 6 ≠ L + 5)
  refine assignInOrder_cons (assign_Name (wpAny_storeName_cell rfl rfl rfl c63 fun h4 c64 s4 => assignInOrder_nil ?_))
  have X4 := X3.cell (.inr rfl) c63 c64 s4
  have c54 := c53.sameBut s4 (addr_ne (by decide) : L + 5 ≠ L + 6)
  have Z4 := T.at (kB.trans X4.kx)
  obtain ⟨f3, cd3, hf3, F3⟩ := Y.three
  obtain ⟨ti, c44⟩ := Z4.c4
  obtain ⟨w50, w55⟩ := B.ws5 _ (getD_memP hr)
  refine wpAny_execs_cons (c_signs Y.G Z4.kg F3 hf3 hh (by omega) X4.n X4.mo Z4.c3 c44 c54 c64 Z4.P Z4.O (by omega) (by have := B.j; omega) (get_of B.i) B.jz w50 w55 B.zs5 fun h5 t5 D k5 n5 l5 g5 => ?_)
  exact q h5 _ _ D (X4.loc n5 k5) mt rfl l5
end

section
variable {prog : Program} {w : World} {A : Around} {E : Value → Shared → Prop} {s : Shared} {g₀ : Heap} {mg mb : Str → Option Value}
theorem turn2 {C L p wa row oth lf H f D : Addr} {cdv : Value} {i n t : Nat} {tt : Tok} {zs ws : List (Int × Int)} {js rs : List Nat} {lefts hv : List Int} {hB h0 : Heap} {m : Str → Option Value} {Q : Flow → Shared → Prop} {rest : List Stmt}
    (Y : LG g₀ mg mb) (T : TB g₀ hB L p wa row oth lf H i n zs ws js rs lefts) (B : Bd i n zs ws js rs lefts) (hh : A.handled = none) (hroom : A.depth + 20 < recursionLimit) (hun : A.units + 200 < cLine)
    (kB : KX [L, L + 5, L + 6, H] hB h0) (X : TM h0 s.heap L C wa row oth lf H hv m) (mt : m "t" = some (.int (t : Nat) tt)) (ms : m "signs" = some (.ref D)) (S : IL s.heap D (sgsOf zs ws i js rs t)) (ht : t < rs.length)
    (hsum : (sgsOf zs ws i js rs t).sum = 2 * lefts.getD t 0 - ((n : Int) - 2))
    (q : ∀ h' tk m' ts, TM h0 h' L C wa row oth lf H hv m' → m' "t" = some (.int (t : Nat) tt) → m' "signs" = some (.ref D) → m' "side" = some (.int (sideOf n lefts t) ts) → IL h' D (sgsOf zs ws i js rs t) → wpAny (model prog w) A (execs rest (lawEnv L f cdv)) Q E { s with heap := h', toks := tk }) :
    wpAny (model prog w) A (execs (inB.getD 2 (.Pass default) :: inB.getD 3 (.Pass default) :: rest) (lawEnv L f cdv)) Q E s := by
  have bl : lefts.length ≤ 50 := by rw [B.l]; exact B.r
  have htl : t < lefts.length := by rw [B.l]; exact ht
  have bs : (sgsOf zs ws i js rs t).length ≤ 50 := by unfold sgsOf; rw [List.length_map]; exact B.j
  have Z := T.at (kB.trans X.kx)
  refine wpAny_execs_cons (wpAny_If (wpAny_isTrue_BoolOp (wpAny_allTrue_Or_cons (wpAny_isTrue_Compare1 (c_chk Y.G Z.kg Y.type Y.int hh X.n ms S (Nat.le_trans bs (by decide)) fun h6 t6 D6 k6 l6 g6 => ?_)))))
  refine lst (spliced_none ⟨Nat.le_of_ble_eq_true rfl, fun h7 D7 k7 l7 g7 => ?_⟩)
  refine ke_ne_ints (xs := []) (ys := []) (l6.keeps k7).isList l7.isList .nil .nil (by exact (show A.units + 64 < _ from rmk hun 64)) (wpAny_truthy_bool ?_)
  simp only [decide_true, Bool.not_true, Bool.false_eq_true, if_false]
  have X7 := (X.keeps k6).keeps k7
  have S7 := (S.keeps k6).keeps k7
  have Z7 := T.at (kB.trans X7.kx)
  obtain ⟨vS, lS, iS⟩ := id S7
  refine wpAny_allTrue_Or_cons (wpAny_isTrue_Compare1 (Call_ (nB Y.G Z7.kg Y.sum boot_sum (cwB (spliced_more (nL X7.n ms (spliced_none (sumL hh lS iS fun h8 t8 t8' k8 => ?_))))))))
  have X8 := X7.keeps k8
  have S8 := S7.keeps k8
  have Z8 := T.at (kB.trans X8.kx)
  obtain ⟨vl, tl, lL, sl, el⟩ := Z8.F.item htl
  have hvl : vl.size ≤ 1000 := by rw [sl]; exact Nat.le_trans bl (by decide)
  obtain ⟨tn, c28⟩ := Z8.c2
  refine wpAny_BinOp (wpAny_BinOp (wpAny_Constant_int (Subscript_ (nL X8.n X8.ml (nL X8.n mt (item lL (Int.natCast_nonneg _) el (mul_int ?_ (.of_left (by decide))) hvl))))))
  refine wpAny_BinOp (nC c28 (wpAny_Constant_int (sub_int (sub_int (ne_int (wpAny_truthy_bool ?_))))))
  rw [show ((sgsOf zs ws i js rs t).sum != 2 * lefts.getD t 0 - ((n : Int) - 2)) = false from by rw [hsum]; simp]
  simp only [Bool.false_eq_true, if_false]
  refine wpAny_allTrue_Or_nil ?_
  simp only [Bool.false_eq_true, if_false]
  refine wpAny_execs_nil ?_
  refine wpAny_execs_cons (wpAny_Assign_Name (wpAny_BinOp (wpAny_Compare1 (wpAny_BinOp (wpAny_Constant_int (Subscript_ (nL X8.n X8.ml (nL X8.n mt (item lL (Int.natCast_nonneg _) el (mul_int ?_ (.of_left (by decide))) hvl)))))))))
  refine wpAny_BinOp (nC c28 (wpAny_Constant_int (sub_int (gt_int ?_))))
  refine wpAny_Compare1 (wpAny_BinOp (wpAny_Constant_int (Subscript_ (nL X8.n X8.ml (nL X8.n mt (item lL (Int.natCast_nonneg _) el (mul_int ?_ (.of_left (by decide))) hvl))))))
  refine wpAny_BinOp (nC c28 (wpAny_Constant_int (sub_int (lt_int (sub_bool ?_)))))
  have e : b2i (decide ((n : Int) - 2 < 2 * lefts.getD t 0)) - b2i (decide (2 * lefts.getD t 0 < (n : Int) - 2)) = sideOf n lefts t := b2i_sg _ _
  rw [e]
  refine stL X8.n fun h9 n9 s9 => ?_
  have X9 := X8.loc n9 (kx_same s9 (.head _))
  exact q h9 _ _ _ X9 mt ms rfl (S8.same X8.n s9)
end

section
variable {prog : Program} {w : World} {A : Around} {E : Value → Shared → Prop} {s : Shared} {g₀ : Heap} {mg mb : Str → Option Value}
theorem turn3 {C L p wa row oth lf H f D : Addr} {cdv : Value} {i n t : Nat} {tt ts : Tok} {zs ws : List (Int × Int)} {js rs : List Nat} {lefts hv : List Int} {hB h0 : Heap} {m : Str → Option Value} {Q : Flow → Shared → Prop} {rest : List Stmt}
    (Y : LG g₀ mg mb) (T : TB g₀ hB L p wa row oth lf H i n zs ws js rs lefts) (B : Bd i n zs ws js rs lefts) (hh : A.handled = none) (hroom : A.depth + 20 < recursionLimit) (hun : A.units + 200 < cLine)
    (kB : KX [L, L + 5, L + 6, H] hB h0) (X : TM h0 s.heap L C wa row oth lf H hv m) (mt : m "t" = some (.int (t : Nat) tt)) (ms : m "signs" = some (.ref D)) (mq : m "side" = some (.int (sideOf n lefts t) ts)) (S : IL s.heap D (sgsOf zs ws i js rs t)) (hj : 0 < js.length)
    (h1 : mlow (sgsOf zs ws i js rs t) = sideOf n lefts t) (h2 : mhigh (sgsOf zs ws i js rs t) = sideOf n lefts t)
    (q : ∀ h' tk m' D', TM h0 h' L C wa row oth lf H hv m' → m' "t" = some (.int (t : Nat) tt) → m' "rest" = some (.ref D') → IL h' D' (restOf zs ws i js rs t) → wpAny (model prog w) A (execs rest (lawEnv L f cdv)) Q E { s with heap := h', toks := tk }) :
    wpAny (model prog w) A (execs (inB.getD 4 (.Pass default) :: inB.getD 5 (.Pass default) :: rest) (lawEnv L f cdv)) Q E s := by
  have bs : (sgsOf zs ws i js rs t).length = js.length := by unfold sgsOf; rw [List.length_map]
  have bj := B.j
  have Z := T.at (kB.trans X.kx)
  obtain ⟨fl, cl, hfl, Fl⟩ := Y.mlo
  obtain ⟨fh, ch, hfh, Fh⟩ := Y.mhi
  refine wpAny_execs_cons (wpAny_If (wpAny_isTrue_BoolOp (wpAny_allTrue_Or_cons (wpAny_isTrue_Compare1 (Call_ (nG Y.G Z.kg hfl (cwG Fl (spliced_more (nL X.n ms (spliced_none ⟨Z.kg, ml_int Y.G Z.kg Fl Y.sorted Y.len (rm0 hroom) S (by rw [bs]; exact hj) (by rw [bs]; exact lt64 bj) fun h3 t3 t3' k3 => ?_⟩))))))))))
  have X3 := X.keeps k3
  have S3 := S.keeps k3
  have Z3 := Z.keeps k3
  refine nL X3.n mq (ne_int (wpAny_truthy_bool ?_))
  rw [h1, bne_self_eq_false]
  simp only [Bool.false_eq_true, if_false]
  refine wpAny_allTrue_Or_cons (wpAny_isTrue_Compare1 (Call_ (nG Y.G Z3.kg hfh (cwG Fh (spliced_more (nL X3.n ms (spliced_none ⟨Z3.kg, mh_int Y.G Z3.kg Fh Y.sorted Y.len (rm0 hroom) S3 (by rw [bs]; exact hj) (by rw [bs]; exact lt64 bj) fun h4 t4 t4' k4 => ?_⟩)))))))
  have X4 := X3.keeps k4
  have S4 := S3.keeps k4
  refine nL X4.n mq (ne_int (wpAny_truthy_bool ?_))
  rw [h2, bne_self_eq_false]
  simp only [Bool.false_eq_true, if_false]
  refine wpAny_allTrue_Or_nil ?_
  simp only [Bool.false_eq_true, if_false]
  refine wpAny_execs_nil ?_
  refine wpAny_execs_cons (c_rest hh X4.n ms S4 (by rw [bs]; exact k50 bj) fun h5 t5 D5 k5 n5 l5 g5 => ?_)
  exact q h5 _ _ _ (X4.loc n5 k5) mt rfl l5
/-- the last statement of a turn -/
theorem turn4 {C L p wa row oth lf H f D : Addr} {cdv : Value} {i n t : Nat} {tt : Tok} {zs ws : List (Int × Int)} {js rs : List Nat} {lefts hv : List Int} {hB h0 : Heap} {m : Str → Option Value} {Q : Flow → Shared → Prop}
    (Y : LG g₀ mg mb) (T : TB g₀ hB L p wa row oth lf H i n zs ws js rs lefts) (B : Bd i n zs ws js rs lefts) (hh : A.handled = none) (hroom : A.depth + 20 < recursionLimit) (hun : A.units + 200 < cLine)
    (kB : KX [L, L + 5, L + 6, H] hB h0) (X : TM h0 s.heap L C wa row oth lf H hv m) (mt : m "t" = some (.int (t : Nat) tt)) (ms : m "rest" = some (.ref D)) (S : IL s.heap D (restOf zs ws i js rs t)) (h1 : 0 < (restOf zs ws i js rs t).length) (ht : t < rs.length) (hvl : hv.length ≤ 50)
    (q : ∀ h' tk m', TM h0 h' L C wa row oth lf H (hv ++ if halfB zs ws i js rs t = true then [((rs.getD t 0 : Nat) : Int)] else []) m' → Q .next { s with heap := h', toks := tk }) :
    wpAny (model prog w) A (execs [inB.getD 6 (.Pass default)] (lawEnv L f cdv)) Q E s := by
  have bs : (restOf zs ws i js rs t).length ≤ js.length := by unfold restOf sgsOf; exact Nat.le_trans (List.length_filter_le _ _) (by rw [List.length_map]; exact Nat.le_refl _)
  have bj := B.j
  have br := B.r
  have Z := T.at (kB.trans X.kx)
  obtain ⟨fl, cl, hfl, Fl⟩ := Y.mlo
  obtain ⟨fh, ch, hfh, Fh⟩ := Y.mhi
  refine wpAny_execs_cons (wpAny_If (wpAny_isTrue_BoolOp (wpAny_allTrue_And_cons (wpAny_isTrue_Compare1 (Call_ (nG Y.G Z.kg hfl (cwG Fl (spliced_more (nL X.n ms (spliced_none ⟨Z.kg, ml_int Y.G Z.kg Fl Y.sorted Y.len (rm0 hroom) S h1 (lt64 (Nat.le_trans bs bj)) fun h3 t3 t3' k3 => ?_⟩))))))))))
  have X3 := X.keeps k3
  have S3 := S.keeps k3
  have Z3 := Z.keeps k3
  refine UnaryOp_ (wpAny_Constant_int (neg_int (eq_int (wpAny_truthy_bool ?_))))
  by_cases e1 : (mlow (restOf zs ws i js rs t) == -1) = true
  · rw [e1]
    simp only [if_true]
    refine wpAny_allTrue_And_cons (wpAny_isTrue_Compare1 (Call_ (nG Y.G Z3.kg hfh (cwG Fh (spliced_more (nL X3.n ms (spliced_none ⟨Z3.kg, mh_int Y.G Z3.kg Fh Y.sorted Y.len (rm0 hroom) S3 h1 (lt64 (Nat.le_trans bs bj)) fun h4 t4 t4' k4 => ?_⟩)))))))
    have X4 := X3.keeps k4
    refine wpAny_Constant_int (eq_int (wpAny_truthy_bool ?_))
    by_cases e2 : (mhigh (restOf zs ws i js rs t) == 1) = true
    · rw [e2]
      simp only [if_true]
      refine wpAny_allTrue_And_nil ?_
      simp only [if_true]
      have hb : halfB zs ws i js rs t = true := by unfold halfB; rw [e1, e2]; rfl
      rw [hb] at q
      obtain ⟨vH, lH, iH⟩ := X4.V
      have hvs : vH.size = hv.length := by rw [← Array.length_toList, iH.length]
      obtain ⟨vr, tr, lr, sr, er⟩ := ILn.item (Z3.keeps k4).R ht
      refine wpAny_execs_cons (wpAny_Expr (wpAny_Call_append rfl rfl rfl rfl (nL X4.n X4.mh ⟨H, vH, rfl, lH.plain, ?_⟩)))
      refine Subscript_ (nL X4.n X4.mr (nL X4.n mt (item lr (Int.natCast_nonneg _) er ?_ (by rw [sr]; exact k50 br))))
      refine P_append lH (by rw [sizeLine_eq]; omega) fun h5 l5 s5 => wpAny_execs_nil ?_
      refine wpAny_execs_nil ?_
      have HL : L ≠ H := fun e => by obtain ⟨k, eH⟩ := lH; exact ns_ne X4.n eH (by intro _ _ z; cases z) e.symm
      have H5 : L + 5 ≠ H := fun e => by obtain ⟨v, c⟩ := X4.c5; obtain ⟨k, eH⟩ := lH; exact cell_ne c eH (by intro _ z; cases z) e.symm
      have H6 : L + 6 ≠ H := fun e => by obtain ⟨v, c⟩ := X4.c6; obtain ⟨k, eH⟩ := lH; exact cell_ne c eH (by intro _ z; cases z) e.symm
      refine q h5 _ m ⟨X4.kx.trans (kx_same s5 (by simp)), X4.n.sameBut s5 HL, let ⟨v, c⟩ := X4.c5; ⟨v, c.sameBut s5 H5⟩, let ⟨v, c⟩ := X4.c6; ⟨v, c.sameBut s5 H6⟩, X4.mw, X4.mr, X4.mo, X4.ml, X4.mh, X4.ms, _, l5, ?_⟩
      rw [Array.toList_push]
      exact ints_snoc' iH
    · have e2' : (mhigh (restOf zs ws i js rs t) == 1) = false := by simpa using e2
      rw [e2']
      simp only [Bool.false_eq_true, if_false]
      refine wpAny_execs_nil (wpAny_execs_nil ?_)
      have hb : halfB zs ws i js rs t = false := by unfold halfB; rw [e1, e2']; rfl
      rw [hb] at q
      simp only [Bool.false_eq_true, if_false, List.append_nil] at q
      exact q _ _ m X4
  · have e1' : (mlow (restOf zs ws i js rs t) == -1) = false := by simpa using e1
    rw [e1']
    simp only [Bool.false_eq_true, if_false]
    refine wpAny_execs_nil (wpAny_execs_nil ?_)
    have hb : halfB zs ws i js rs t = false := by unfold halfB; rw [e1']; rfl
    rw [hb] at q
    simp only [Bool.false_eq_true, if_false, List.append_nil] at q
    exact q _ _ m X3
end

section
variable {hB h h' : Heap} {L C wa row oth lf H : Addr} {hv : List Int} {m : Str → Option Value}
theorem TM.fresh (X : TM hB h L C wa row oth lf H hv m) {I : Addr} (e : h.get? I = none) : hB.get? I = none := by
  cases z : hB.get? I with
  | none => rfl
  | some o =>
    exfalso
    by_cases hm : I ∈ [L, L + 5, L + 6, H]
    · simp only [List.mem_cons, List.not_mem_nil, or_false] at hm
      rcases hm with rfl | rfl | rfl | rfl
      · obtain ⟨_, _, _, q, _⟩ := X.n; rw [e] at q; cases q
      · obtain ⟨_, _, q, _⟩ := X.c5; rw [e] at q; cases q
      · obtain ⟨_, _, q, _⟩ := X.c6; rw [e] at q; cases q
      · obtain ⟨_, ⟨_, q⟩, _⟩ := X.V; exact nomatch e.symm.trans q
    · have := X.kx _ _ hm z
      rw [e] at this; cases this
theorem TM.base (X : TM hB h L C wa row oth lf H hv m) : TM h h L C wa row oth lf H hv m := ⟨fun _ _ _ e => e, X.n, X.c5, X.c6, X.mw, X.mr, X.mo, X.ml, X.mh, X.ms, X.V⟩
theorem TM.ext (X : TM hB h L C wa row oth lf H hv m) {it : Addr} (hn : hB.get? it = none) (f : IsF h it) (he : Heap.ExtBut it h h') : TM hB h' L C wa row oth lf H hv m := by
  have ce : ∀ {c v}, h.IsCell c v → h'.IsCell c v := fun ⟨o, e, d⟩ => ⟨o, he _ _ (isF_ne f e (by rw [d]; intro _ z; cases z)) e, d⟩
  exact ⟨fun b o nb e => he _ _ (fun q => by rw [q, hn] at e; cases e) (X.kx b o nb e), ns_ext X.n f he, let ⟨v, c⟩ := X.c5; ⟨v, ce c⟩, let ⟨v, c⟩ := X.c6; ⟨v, ce c⟩, X.mw, X.mr, X.mo, X.ml, X.mh, X.ms, X.V.ext f he⟩
end
/-- the halving ones among the first t -/
def hvUp (zs ws : List (Int × Int)) (i : Nat) (js rs : List Nat) (t : Nat) : List Int := ((List.range t).filter (halfB zs ws i js rs)).map fun t => ((rs.getD t 0 : Nat) : Int)
theorem hvUp_succ {zs ws : List (Int × Int)} {i : Nat} {js rs : List Nat} {t : Nat} : hvUp zs ws i js rs (t + 1) = hvUp zs ws i js rs t ++ if halfB zs ws i js rs t = true then [((rs.getD t 0 : Nat) : Int)] else [] := by
  unfold hvUp
  rw [List.range_succ, List.filter_append, List.map_append]
  congr 1
  by_cases h : halfB zs ws i js rs t = true
  · rw [List.filter_cons_of_pos h, if_pos h]; rfl
  · rw [List.filter_cons_of_neg h, if_neg h]; rfl
theorem hvUp_len {zs ws : List (Int × Int)} {i : Nat} {js rs : List Nat} {t : Nat} : (hvUp zs ws i js rs t).length ≤ t := by
  unfold hvUp
  rw [List.length_map]
  exact Nat.le_trans (List.length_filter_le _ _) (by rw [List.length_range]; exact Nat.le_refl _)
section
variable {prog : Program} {w : World} {A : Around} {E : Value → Shared → Prop} {s : Shared} {g₀ : Heap} {mg mb : Str → Option Value}
theorem range_iter {r : Addr} {n : Nat} {t u v : Tok} {Q : Value → Shared → Prop} (hr : IsRange s.heap r 0 n 1 t u v) (hn : n < 1000)
    (q : ∀ h' I, Keep s.heap h' → IsRangeIter h' I 0 n 1 → s.heap.get? I = none → Q (.ref I) { s with heap := h' }) : wpAny (model prog w) A (pyIter (.ref r)) Q E s := by
  have hsz : Builtin.Range.rangeSize 0 n 1 = n := range_size n
  have hs : Builtin.Range.small 0 n 1 = true := range_small hn
  refine wpAny_pyIter_range hr hs ?_
  rw [hsz]
  exact q _ _ (keep_push _ _) (Heap.get?_push_size _ rfl) (size_none _)
theorem inner {C L p wa row oth lf H f : Addr} {cdv : Value} {i n : Nat} {zs ws : List (Int × Int)} {js rs : List Nat} {lefts : List Int} {hB : Heap} {m : Str → Option Value} {Q : Flow → Shared → Prop}
    (Y : LG g₀ mg mb) (T : TB g₀ hB L p wa row oth lf H i n zs ws js rs lefts) (B : Bd i n zs ws js rs lefts) (hh : A.handled = none) (hroom : A.depth + 20 < recursionLimit) (hun : A.units + 200 < cLine)
    (X : TM hB s.heap L C wa row oth lf H [] m) (hn : n = rs.length + 1) (hj : 0 < js.length)
    (h1 : ∀ t < rs.length, (sgsOf zs ws i js rs t).sum = 2 * lefts.getD t 0 - ((n : Int) - 2)) (h2 : ∀ t < rs.length, mlow (sgsOf zs ws i js rs t) = sideOf n lefts t) (h3 : ∀ t < rs.length, mhigh (sgsOf zs ws i js rs t) = sideOf n lefts t)
    (h4 : ∀ t < rs.length, 0 < (restOf zs ws i js rs t).length)
    (q : ∀ h' tk m', TM hB h' L C wa row oth lf H (hvUp zs ws i js rs rs.length) m' → Q .next { s with heap := h', toks := tk }) :
    wpAny (model prog w) A (exec (outB.getD 6 (.Pass default)) (lawEnv L f cdv)) Q E s := by
  have br := B.r
  have Z := T.at X.kx
  obtain ⟨tn, c2⟩ := Z.c2
  refine wpAny_For (Call_ (nB Y.G Z.kg Y.range boot_range (callWith_type1 (spliced_more (wpAny_BinOp (nC c2 (wpAny_Constant_int (sub_int (spliced_none ?_)))))))))
  have en : (n : Int) - 1 = ((rs.length : Nat) : Int) := by omega
  rw [en]
  refine call_range_1 (range_iter (IsRange.new _ _ _ _ _ _ _) (by omega) fun h1' I k1 hI hIn => ?_)
  have ks : Keep s.heap h1' := (keep_push _ _).trans k1
  have X1 := X.keeps ks
  have hIs : s.heap.get? I = none := by
    cases z : s.heap.get? I with
    | none => rfl
    | some o =>
      rw [keep_push _ _ _ _ z] at hIn; cases hIn
  have hIB := X.fresh hIs
  have hw : I ∉ [L, L + 5, L + 6, H] := by
    intro hm
    simp only [List.mem_cons, List.not_mem_nil, or_false] at hm
    rcases hm with rfl | rfl | rfl | rfl
    · obtain ⟨_, _, _, q, _⟩ := X.n; rw [hIs] at q; cases q
    · obtain ⟨_, _, q, _⟩ := X.c5; rw [hIs] at q; cases q
    · obtain ⟨_, _, q, _⟩ := X.c6; rw [hIs] at q; cases q
    · obtain ⟨_, ⟨_, q⟩, _⟩ := X.V; exact nomatch hIs.symm.trans q
  refine for_rangeIter [L, L + 5, L + 6, H] (fun t h => ∃ m, TM hB h L C wa row oth lf H (hvUp zs ws i js rs t) m) hh hI hw ⟨m, X1⟩ ?_ ?_ ?_
  · rintro t h h' ⟨m, X⟩ hF he
    exact ⟨m, X.ext hIB hF he⟩
  · rintro t tt s₁ E' ht ⟨m, X⟩ hF hX
    refine assign_Name (stL X.n fun h5 n5 s5 => ?_)
    have X5 := X.loc n5 (kx_same s5 (.head _))
    show wpAny _ _ (execs [inB.getD 0 (.Pass default), inB.getD 1 (.Pass default), inB.getD 2 (.Pass default), inB.getD 3 (.Pass default), inB.getD 4 (.Pass default), inB.getD 5 (.Pass default), inB.getD 6 (.Pass default)] (lawEnv L f cdv)) _ _ _
    refine turn1 Y T B hh hroom hun X5.kx X5.base rfl ht fun h6 t6 m6 D6 X6 mt6 ms6 S6 => ?_
    refine turn2 Y T B hh hroom hun X5.kx X6 mt6 ms6 S6 ht (h1 t ht) fun h7 t7 m7 ts7 X7 mt7 ms7 mq7 S7 => ?_
    refine turn3 Y T B hh hroom hun X5.kx X7 mt7 ms7 mq7 S7 hj (h2 t ht) (h3 t ht) fun h8 t8 m8 D8 X8 mt8 ms8 S8 => ?_
    refine turn4 Y T B hh hroom hun X5.kx X8 mt8 ms8 S8 (h4 t ht) ht (by have := @hvUp_len zs ws i js rs t; omega) fun h9 t9 m9 X9 => ?_
    refine ⟨rfl, h9, t9, rfl, ⟨m9, ?_⟩, ?_⟩
    · rw [hvUp_succ]
      exact ⟨X5.kx.trans X9.kx, X9.n, X9.c5, X9.c6, X9.mw, X9.mr, X9.mo, X9.ml, X9.mh, X9.ms, X9.V⟩
    · exact (kx_same s5 (.head _)).trans X9.kx
  · rintro h' tk ⟨m, X⟩ _
    exact q h' tk m X
end

/-- an object that is neither a dict nor a cell nor a table -/
def Hard (o : Obj) : Prop := (∀ es n, o.data ≠ .dict es n) ∧ (∀ v, o.data ≠ .cell v) ∧ o.cls ≠ .none
theorem Hard.nt {o : Obj} (x : Hard o) : NT o := no_tabC x.2.2
theorem soft_no {h : Heap} {wr : List Addr} (hw : ∀ b ∈ wr, Soft h b) {b : Addr} {o : Obj} (e : h.get? b = some o) (h1 : ∀ es n, o.data ≠ .dict es n) (h2 : ∀ v, o.data ≠ .cell v) : b ∉ wr := fun m => by
  rcases hw b m o e with ⟨_, _, z⟩ | ⟨_, z⟩
  · exact h1 _ _ z
  · exact h2 _ z
section
variable {prog : Program} {w : World} {A : Around} {E : Value → Shared → Prop} {s : Shared} {env : Env} {R : Result → Shared → Prop}
theorem for_rangeT {target : Expr} {body : List Stmt} {it : Addr} {n : Nat} (P : Nat → Heap → Prop) (hh : A.handled = none)
    (hit : IsRangeIter s.heap it 0 n 1) (h0 : P 0 s.heap)
    (hst : ∀ k h h' a b c, P k h → IsRangeIter h it a b c → Heap.ExtBut it h h' → P k h')
    (step : ∀ k t (s₁ : Shared) E' oI, k < n → P k s₁.heap → s₁.heap.get? it = some oI → Hard oI →
      wpAny (model prog w) A (assign target env (.int (k : Int) t)) (fun _ s₂ => wpAny (model prog w) A (execs body env) (fun f s₃ => f = .next ∧ ∃ h tk, s₃ = { s₁ with heap := h, toks := tk } ∧ P (k + 1) h ∧ h.get? it = some oI) E' s₂) E' s₁)
    (hR : ∀ h' tk, P n h' → R (.ok .next) { s with heap := h', toks := tk })
    (ht : ∀ v, letOwnedTupleGo target (.ref it) v = pure () := by intro _; rfl) :
    codeAny (model prog w) A (.forLoop target (.ref it) body [] env) R s := by
  refine codeAny_forLoop (fun m s' => ∃ h' tk k, s' = { s with heap := h', toks := tk } ∧ IsRangeIter h' it ((k : Nat) : Int) ((n : Int) - (k : Nat)) 1 ∧ P k h' ∧ k ≤ n ∧ m = n + 1 - k) ?_ (n + 1)
    ⟨s.heap, s.toks, 0, rfl, by simpa using hit, h0, Nat.zero_le _, rfl⟩ ht
  rintro m s' ⟨h', tk, k, rfl, hit', hP, hk, rfl⟩
  by_cases hlt : k < n
  · refine wpAny_pyNext_range_item hit' (by omega) fun h₁ hit₁ hs₁ => ?_
    refine wpAny_mono (step k _ { s with heap := h₁, toks := tk + 1 } _ _ hlt (hst _ _ _ _ _ _ hP hit' hs₁.extBut) hit₁ (by refine ⟨fun _ _ z => ?_, fun _ z => ?_, fun z => ?_⟩ <;> cases z)) (fun _ s₂ h₂ => wpAny_mono h₂ (fun f s₃ h₃ => ?_) fun _ _ e => e) fun _ _ e => e
    obtain ⟨rfl, h₃, tk₃, rfl, hP₃, hX₃⟩ := h₃
    refine ⟨n + 1 - (k + 1), by omega, h₃, tk₃, k + 1, rfl, ?_, hP₃, hlt, rfl⟩
    have e1 : ((k + 1 : Nat) : Int) = (k : Int) + 1 := by push_cast; rfl
    rw [e1, show (n : Int) - ((k : Int) + 1) = (n : Int) - (k : Int) - 1 by omega]
    exact hX₃
  · have hin : k = n := by omega
    subst hin
    refine wpAny_pyNext_range_end hh hit' (by omega) fun h₁ he₁ => wpAny_execs_nil ?_
    exact hR h₁ tk (hst _ _ _ _ _ _ hP hit' he₁)
end
/-- the class, away from what the turn writes -/
def KWx (h : Heap) (C wa : Addr) (zs : List (Int × Int)) (W : List Addr) : Prop := ∃ ns cm l cw, (KN h C ns cm ∧ h.IsCell cm (some (.ref l)) ∧ LamAt h l cw ∧ h.IsCell cw (some (.ref wa)) ∧ PT h wa zs) ∧ ∀ b ∈ W, b ≠ ns ∧ b ≠ cm ∧ b ≠ cw
theorem KWx.kw {h : Heap} {C wa : Addr} {zs : List (Int × Int)} {W : List Addr} (x : KWx h C wa zs W) : KW h C wa zs := let ⟨ns, cm, l, cw, a, _⟩ := x; ⟨ns, cm, l, cw, a⟩
theorem KWx.keeps {h h' : Heap} {C wa : Addr} {zs : List (Int × Int)} {W : List Addr} (x : KWx h C wa zs W) (k : Keep h h') : KWx h' C wa zs W :=
  let ⟨ns, cm, l, cw, ⟨a, b, c, d, e⟩, f⟩ := x; ⟨ns, cm, l, cw, ⟨a.keeps k, b.keeps k, c.keeps k, d.keeps k, e.keeps k⟩, f⟩
theorem rec_kx {h h' : Heap} {wr : List Addr} {c : Value} {q : Str} (x : h.CodeRec c q) (hw : ∀ b ∈ wr, Soft h b) (k : KX wr h h') : h'.CodeRec c q := by
  obtain ⟨c', o, vs, t, e, e2, e3, e4⟩ := x
  exact ⟨c', o, vs, t, e, k _ _ (soft_no hw e2 (fun _ _ z => by rw [e3] at z; cases z) (fun _ z => by rw [e3] at z; cases z)) e2, e3, e4⟩
theorem FnO.kx {h h' : Heap} {wr : List Addr} {f : Addr} {nm : Str} {k : Nat} {clos : List (Str × Addr)} (y : FnO h f nm k clos) (hw : ∀ b ∈ wr, Soft h b) (x : KX wr h h') : FnO h' f nm k clos :=
  let ⟨doc, pm, c', ctv, e, hc⟩ := y
  ⟨doc, pm, c', ctv, x _ _ (soft_no hw e (fun _ _ q => by cases q) (fun _ q => by cases q)) e, rec_kx hc hw x⟩
theorem LamAt.kx {h h' : Heap} {wr : List Addr} {l cw : Addr} (y : LamAt h l cw) (hw : ∀ b ∈ wr, Soft h b) (x : KX wr h h') : LamAt h' l cw :=
  let ⟨pm, c, ctv, e, r⟩ := y; ⟨pm, c, ctv, x _ _ (soft_no hw e (fun _ _ q => by cases q) (fun _ q => by cases q)) e, rec_kx r hw x⟩
theorem KWx.kx {h h' : Heap} {C wa : Addr} {zs : List (Int × Int)} {W wr : List Addr} (x : KWx h C wa zs W) (hw : ∀ b ∈ wr, Soft h b) (hW : ∀ b ∈ wr, b ∈ W ∨ h.get? b = none) (k : KX wr h h') : KWx h' C wa zs W := by
  obtain ⟨ns, cm, l, cw, ⟨a, b, c, d, e⟩, f⟩ := x
  obtain ⟨T, mb, tn, tq, tk, m0, l0, sl, fI, fL, fG, fE, fe, fg, st, eC, dN, eM, FI, FL, FE⟩ := a
  have cel : ∀ {c v}, (∀ b ∈ W, b ≠ c) → h.IsCell c v → h'.IsCell c v := fun {c v} hc ⟨o, e, d⟩ => ⟨o, k _ _ (fun m => by
    rcases hW _ m with q | q
    · exact hc _ q rfl
    · rw [q] at e; cases e) e, d⟩
  refine ⟨ns, cm, l, cw, ⟨⟨T, mb, tn, tq, tk, m0, l0, sl, fI, fL, fG, fE, fe, fg, st, k _ _ (soft_no hw eC (fun _ _ q => by cases q) (fun _ q => by cases q)) eC, ?_, k _ _ (soft_no hw eM (fun _ _ q => by cases q) (fun _ q => by cases q)) eM, FI.kx hw k, FL.kx hw k, FE.kx hw k⟩,
    cel (fun b m => (f b m).2.1) b, c.kx hw k, cel (fun b m => (f b m).2.2) d, e.kx hw k⟩, f⟩
  obtain ⟨es, n, en, kd⟩ := dN
  exact ⟨es, n, k _ _ (fun m => by
    rcases hW _ m with q | q
    · exact (f _ q).1 rfl
    · rw [q] at en; cases en) en, kd⟩
theorem codeHd_kx {h h' : Heap} {wr : List Addr} {c P : Addr} (x : CodeHd h c P) (hw : ∀ b ∈ wr, Soft h b) (k : KX wr h h') : CodeHd h' c P := by
  obtain ⟨o, vs, file, tf, flags, tg, inF, text, tt, e, r1, r2, r⟩ := x; exact ⟨o, vs, file, tf, flags, tg, inF, text, tt, k _ _ (soft_no hw e (fun _ _ q => by rw [r2] at q; cases q) (fun _ q => by rw [r2] at q; cases q)) e, r1, r2, r⟩
theorem TabB.kx {h h' : Heap} {wr : List Addr} {P : Addr} {want : List (Pos × Str)} (x : TabB h P want) (hw : ∀ b ∈ wr, Soft h b) (k : KX wr h h') : TabB h' P want :=
  let ⟨ps, a, b, c⟩ := x; ⟨ps, k _ _ (soft_no hw a (fun _ _ q => by cases q) (fun _ q => by cases q)) a, b, fun x hx cv e => let ⟨c', e1, hc⟩ := c x hx cv e; ⟨c', e1, rec_kx hc hw k⟩⟩
theorem Tab1.kx {g₀ h h' : Heap} {wr : List Addr} {P1 P2 : Addr} (x : Tab1 g₀ P1 P2 h) (hw : ∀ b ∈ wr, Soft h b) (k : KX wr h h') : Tab1 g₀ P1 P2 h' := by
  rcases x with e | ⟨c, Pc, e, a, b, r⟩
  · exact .inl (k _ _ (soft_no hw e (fun _ _ q => by cases q) (fun _ q => by cases q)) e)
  · exact .inr ⟨c, Pc, k _ _ (soft_no hw e (fun _ _ q => by cases q) (fun _ q => by cases q)) e, codeHd_kx a hw k, b.kx hw k, r⟩
theorem Tab2.kx {h h' : Heap} {wr : List Addr} {P2 : Addr} (x : Tab2 P2 h) (hw : ∀ b ∈ wr, Soft h b) (k : KX wr h h') : Tab2 P2 h' := by
  rcases x with e | ⟨c, e, a⟩
  · exact .inl (k _ _ (soft_no hw e (fun _ _ q => by cases q) (fun _ q => by cases q)) e)
  · exact .inr ⟨c, k _ _ (soft_no hw e (fun _ _ q => by cases q) (fun _ q => by cases q)) e, rec_kx a hw k⟩
/-- the state of the outer loop, within a turn -/
structure OS (g₀ h : Heap) (L p P1 P2 I : Addr) (oI : Obj) (i n : Nat) (zs : List (Int × Int)) (m : Str → Option Value) : Prop where
  kg : Keep g₀ h
  ns : h.Ns L m
  c2 : ∃ t, h.IsCell (L + 2) (some (.int (n : Nat) t))
  c3 : h.IsCell (L + 3) (some (.ref p))
  c4 : ∃ t, h.IsCell (L + 4) (some (.int (i : Nat) t))
  c5 : ∃ v, h.IsCell (L + 5) v
  c6 : ∃ v, h.IsCell (L + 6) v
  P : PT h p zs
  T1 : Tab1 g₀ P1 P2 h
  T2 : Tab2 P2 h
  it : h.get? I = some oI
section
variable {g₀ h h' : Heap} {L p P1 P2 I : Addr} {oI : Obj} {i n : Nat} {zs : List (Int × Int)} {m : Str → Option Value}
theorem OS.keeps (x : OS g₀ h L p P1 P2 I oI i n zs m) (k : Keep h h') : OS g₀ h' L p P1 P2 I oI i n zs m :=
  ⟨x.kg.trans k, x.ns.keeps k, let ⟨t, c⟩ := x.c2; ⟨t, c.keeps k⟩, x.c3.keeps k, let ⟨t, c⟩ := x.c4; ⟨t, c.keeps k⟩, let ⟨t, c⟩ := x.c5; ⟨t, c.keeps k⟩, let ⟨t, c⟩ := x.c6; ⟨t, c.keeps k⟩, x.P.keeps k, x.T1.keeps k, x.T2.keeps k, k _ _ x.it⟩
theorem OS.t (x : OS g₀ h L p P1 P2 I oI i n zs m) (hI : Hard oI) (k : KeepT h h') (kg : Keep g₀ h') (T1 : Tab1 g₀ P1 P2 h') (T2 : Tab2 P2 h') : OS g₀ h' L p P1 P2 I oI i n zs m :=
  ⟨kg, ns_t x.ns k, let ⟨t, c⟩ := x.c2; ⟨t, cell_t c k⟩, cell_t x.c3 k, let ⟨t, c⟩ := x.c4; ⟨t, cell_t c k⟩, let ⟨t, c⟩ := x.c5; ⟨t, cell_t c k⟩, let ⟨t, c⟩ := x.c6; ⟨t, cell_t c k⟩, x.P.t k, T1, T2, k _ _ x.it hI.nt⟩
theorem OS.loc {y : Str} {v : Value} (x : OS g₀ h L p P1 P2 I oI i n zs m) (hI : Hard oI) (gL : g₀.get? L = none) (hn : h'.Ns L (fun z => if z = y then some v else m z)) (k : KX [L] h h') : OS g₀ h' L p P1 P2 I oI i n zs (fun z => if z = y then some v else m z) := by
  have hw : ∀ b ∈ [L], Soft h b := fun b q => by rw [List.mem_singleton.mp q]; exact soft_ns x.ns
  have ne : ∀ j, 0 < j → L + j ∉ [L] := fun j hj m => addr_ne (L := L) (j := j) (k := 0) (Nat.ne_of_gt hj) (List.mem_singleton.mp m)
  exact ⟨fun b o e => k b o (fun m => by rw [List.mem_singleton.mp m, gL] at e; cases e) (x.kg b o e), hn, let ⟨t, c⟩ := x.c2; ⟨t, cell_kx c k (ne 2 (by decide))⟩, cell_kx x.c3 k (ne 3 (by decide)), let ⟨t, c⟩ := x.c4; ⟨t, cell_kx c k (ne 4 (by decide))⟩,
    let ⟨t, c⟩ := x.c5; ⟨t, cell_kx c k (ne 5 (by decide))⟩, let ⟨t, c⟩ := x.c6; ⟨t, cell_kx c k (ne 6 (by decide))⟩, x.P.kx hw k, x.T1.kx hw k, x.T2.kx hw k, k _ _ (soft_no hw x.it hI.1 hI.2.1) x.it⟩
end

/-- the others of i -/
def othJ (n i : Nat) : List Nat := (List.range n).filter fun j => j != i
theorem range_getD {n k : Nat} (h : k < n) : (List.range n).getD k 0 = k := by
  rw [List.getD_eq_getElem?_getD, List.getElem?_range h]; rfl
section
variable {prog : Program} {w : World} {A : Around} {E : Value → Shared → Prop} {s : Shared} {g₀ : Heap} {mg mb : Str → Option Value}
theorem c_others {L f : Addr} {cdv : Value} {i n : Nat} {ti tn : Tok} {m : Str → Option Value} {Q : Flow → Shared → Prop} (G : Glo g₀ mg mb) (kg : Keep g₀ s.heap) (hr : mg "range" = none)
    (hh : A.handled = none) (hn : s.heap.Ns L m) (c2 : s.heap.IsCell (L + 2) (some (.int (n : Nat) tn))) (c4 : s.heap.IsCell (L + 4) (some (.int (i : Nat) ti))) (hz : n < 1000)
    (q : ∀ h' tk D, KX [L] s.heap h' → h'.Ns L (fun z => if z = "others" then some (.ref D) else m z) → IL h' D ((othJ n i).map Int.ofNat) → Q .next { s with heap := h', toks := tk }) :
    wpAny (model prog w) A (exec (outB.getD 2 (.Pass default)) (lawEnv L f cdv)) Q E s := by
  refine lcp_assign (cl := [("i", L + 4)]) (FJ (List.range n) fun j => j != i) (Call_ (nB G kg hr boot_range (callWith_type1 (spliced_more (nC c2 (spliced_none (call_range_1 ⟨iters_range (IsRange.new _ _ _ _ _ _ _) hz hh, ?_, by omega, FJ.zero, fun k ys e => e.len, m, hn.keeps (keep_push _ _), fun D h' tk ys hD lD hJ hn' k => ?_⟩)))))))
  · intro C k v ys s₃ m₃ E' hk hv hJ hn3 hm3 k3 hC
    obtain ⟨t, rfl⟩ := hv
    have ks : Keep s.heap s₃.heap := (keep_push _ _).trans k3
    have hkl : k < (List.range n).length := by rw [List.length_range]; exact hk
    refine t1 (wpAny_isTrue_Compare1 (nL hn3 hm3 (nC (c4.keeps ks) (ne_int (wpAny_truthy_bool ⟨⟨s₃.heap, _, rfl, Keep.refl _⟩, ?_⟩)))))
    have eb : (((k : Nat) : Int) != (i : Int)) = (((List.range n).getD k 0) != i) := by
      rw [range_getD hk]
      by_cases e : k = i
      · subst e; simp
      · rw [bne_iff_ne.mpr e, bne_iff_ne.mpr (by omega : (k : Int) ≠ (i : Int))]
    rw [eb]
    split
    · rename_i hp
      have := hJ.yes (t := t) hkl hp
      rw [range_getD hk] at this
      exact nL hn3 hm3 ⟨⟨s₃.heap, _, rfl, Keep.refl _⟩, this⟩
    · rename_i hp
      exact hJ.no hkl (by simpa using hp)
  · exact q h' tk D ((kx_keep (keep_push _ _)).trans k) hn' ⟨_, lD, hJ.done List.length_range⟩
theorem cwR {env : Env} {pos : Pos} {a : Addr} {cv : Value} {e : Expr} {rest : List Expr} {Q : Value → Shared → Prop} (F : RedAt g₀ a cv)
    (h : wpAny (model prog w) A (spliced (backTo pos (starEach (e :: rest) env))) (fun vs s₁ => Keep g₀ s₁.heap ∧ wpAny (model prog w) A (call (.ref a) vs) Q E s₁) E s)
    (he : starEach (e :: rest) env = (false, eval e env) :: starEach rest env := by rfl) :
    wpAny (model prog w) A (callWith pos (.ref a) [] (backTo pos (starEach (e :: rest) env)) []) Q E s := by
  obtain ⟨o, pm, doc, ct, T, oT, y, n, ho, hd, r⟩ := F
  exact cwF (o := o) (wpAny_mono h (fun vs s₁ h₁ => ⟨⟨h₁.1 _ _ ho, hd⟩, h₁.2⟩) fun _ _ e => e) he
/-- the row -/
def rowJ (ws : List (Int × Int)) (js : List Nat) : List Nat := (ordJ ws js).map fun k => js.getD k 0
theorem ints_map {vs : List Value} {js ks : List Nat} (io : IntsAre vs (js.map Int.ofNat)) (hk : ∀ k ∈ ks, k < js.length) : IntsAre (ks.map fun i => vs.getD i .none) ((ks.map fun k => js.getD k 0).map Int.ofNat) := by
  induction ks with
  | nil => exact .nil
  | cons k ks ih =>
    have hl : vs.length = js.length := by rw [io.length, List.length_map]
    have hkl := hk k (.head _)
    obtain ⟨v, e⟩ : ∃ v, vs[k]? = some v := ⟨_, List.getElem?_eq_getElem (by omega)⟩
    obtain ⟨_, t, rfl⟩ := jitem (vo := vs.toArray) (by simpa using io) (by simpa using e)
    have ev : vs.getD k .none = .int ((js.getD k 0 : Nat) : Int) t := by rw [List.getD_eq_getElem?_getD, e]; rfl
    rw [List.map_cons, ev]
    exact .cons _ _ (ih fun k hk' => hk k (.tail _ hk'))
theorem c_row {L f C wa oth : Addr} {cdv : Value} {n : Nat} {ws : List (Int × Int)} {js : List Nat} {m : Str → Option Value} {Q : Flow → Shared → Prop} (G : Glo g₀ mg mb) (kg : Keep g₀ s.heap) (hS : mg "sorted" = none)
    (hn : s.heap.Ns L m) (mo : m "others" = some (.ref oth)) (ms : m "steep" = some (.ref C)) (O : IL s.heap oth (js.map Int.ofNat)) (V : KEnv s.heap A.in1.in1 C wa ws)
    (hl : js.length = n) (h2 : 2 ≤ n) (h64 : n < 64) (hok : okT n (kas_sort n) = true) (hokR : okR n (kas_sort n) = true) (hj : ∀ i < n, js.getD i 0 < ws.length)
    (q : ∀ h' tk D, KX [L] s.heap h' → h'.Ns L (fun z => if z = "row" then some (.ref D) else m z) → IL h' D ((rowJ ws js).map Int.ofNat) → Q .next { s with heap := h', toks := tk }) :
    wpAny (model prog w) A (exec (outB.getD 3 (.Pass default)) (lawEnv L f cdv)) Q E s := by
  obtain ⟨vo, lo, io⟩ := O
  refine wpAny_Assign_Name (wpAny_Call_Name_kw (nB G kg hS boot_sorted (callWith_kw (spliced_more (nL hn mo (spliced_none ?_))))))
  refine evalAll_cons (wpAny_bind (nL hn ms (wpAny_bind (wpAny_standAt (wpAny_pure (wpAny_evalAll_nil ?_))))))
  have lo' : LS s.heap oth vo.toList.toArray := by rw [Array.toArray_toList]; exact lo
  have hlen : vo.toList.length = js.length := by rw [io.length, List.length_map]
  refine sorted_key (js := js) (n := n) lo' V hlen (fun i hi => ?_) hl h2 h64 hok hokR hj fun h' tk D k l g => ?_
  · obtain ⟨v, e⟩ : ∃ v, vo.toList[i]? = some v := ⟨_, List.getElem?_eq_getElem (by omega)⟩
    obtain ⟨_, t, rfl⟩ := jitem io (by rw [← Array.getElem?_toList]; exact e)
    exact ⟨t, e⟩
  · refine stL (hn.keeps k) fun h3 n3 s3 => ?_
    refine q h3 _ D ((kx_keep k).trans (kx_same s3 (.head _))) n3 ⟨_, l.same (hn.keeps k) s3, ?_⟩
    exact ints_map io fun k hk => okR_ev (ltJ ws js) (kas_sort js.length) (by rw [← hl] at hokR; exact hokR) k (by unfold ordJ at hk; exact hk)
end

/-- all the globals of the law -/
structure LH (g₀ : Heap) (mg mb : Str → Option Value) (P1 P2 : Addr) : Prop where
  Y : LG g₀ mg mb
  ways : ∃ f cd, mg "_law_ways" = some (.ref f) ∧ FnAt g₀ f 11 "_law_ways" cd
  steep : ∃ f c2, mg "_law_steepness" = some (.ref f) ∧ FnAt g₀ f 12 "_law_steepness" (.ref c2) ∧ CodeHd g₀ c2 P2
  cmp : ∃ f c1, mg "cmp_to_key" = some (.ref f) ∧ FnAt g₀ f 1 "cmp_to_key" (.ref c1) ∧ CodeHd g₀ c1 P1
  red : ∃ f cd, mg "reduce" = some (.ref f) ∧ RedAt g₀ f cd
  pas : ∃ f cd, mg "_law_passed" = some (.ref f) ∧ FnAt g₀ f 13 "_law_passed" cd
  mid : ∃ f cd, mg "_law_middle_by_keys" = some (.ref f) ∧ FnAt g₀ f 14 "_law_middle_by_keys" cd
  miss : ∃ a o, mg "_initial_missing" = some (.ref a) ∧ g₀.get? a = some o ∧ o.cls = .type "object"
  nm : ∃ v, mg "__name__" = some v
  obj : mg "object" = none
  iter : mg "iter" = none
  P12 : P1 ≠ P2
  g1 : g₀.get? P1 = none
  g2 : g₀.get? P2 = none
/-- what reduce tells -/
def leftsOf (n i : Nat) (rs : List Nat) : List Int := ((rs.map Int.ofNat).foldl (passStep i) ((n : Int) - 1 - i, [])).2
section
variable {prog : Program} {w : World} {A : Around} {E : Value → Shared → Prop} {s : Shared} {g₀ : Heap} {mg mb : Str → Option Value} {P1 P2 : Addr}
theorem c_lefts {L f row : Addr} {cdv : Value} {i n : Nat} {ti tn : Tok} {rs : List Nat} {m : Str → Option Value} {Q : Flow → Shared → Prop} (Z : LH g₀ mg mb P1 P2) (kg : Keep g₀ s.heap)
    (hh : A.handled = none) (hroom : A.depth + 20 < recursionLimit) (hn : s.heap.Ns L m) (mr : m "row" = some (.ref row)) (R : IL s.heap row (rs.map Int.ofNat)) (c2 : s.heap.IsCell (L + 2) (some (.int (n : Nat) tn))) (c4 : s.heap.IsCell (L + 4) (some (.int (i : Nat) ti))) (hz : rs.length ≤ 50)
    (q : ∀ h' tk D, KX [L] s.heap h' → h'.Ns L (fun z => if z = "lefts" then some (.ref D) else m z) → IL h' D (leftsOf n i rs) → Q .next { s with heap := h', toks := tk }) :
    wpAny (model prog w) A (exec (outB.getD 4 (.Pass default)) (lawEnv L f cdv)) Q E s := by
  obtain ⟨fr, cr, hfr, Fr⟩ := Z.red
  obtain ⟨fp, cp, hfp, Fp⟩ := Z.pas
  obtain ⟨aM, oM, hM, hoM, hcM⟩ := Z.miss
  refine wpAny_Assign_Name (Subscript_ (Call_ (nG Z.Y.G kg hfr (cwR Fr (spliced_more (nG Z.Y.G kg hfp (spliced_more (nL hn mr (spliced_more (lst (spliced_more (nC c4 ?_))))))))))))
  refine spliced_more (wpAny_BinOp (wpAny_BinOp (nC c2 (wpAny_Constant_int (sub_int (nC c4 (sub_int ?_)))))))
  refine spliced_more (lst (spliced_none ⟨Nat.le_of_ble_eq_true rfl, fun h3 D3 k3 l3 g3 => spliced_none ⟨Nat.le_of_ble_eq_true rfl, fun h4 D4 k4 l4 g4 => ?_⟩⟩))
  have k34 := k3.trans k4
  refine spliced_none ⟨kg.trans k34, c_reduce (i := (i : Int)) (left := (n : Int) - 1 - (i : Int)) (ns := []) (js := rs.map Int.ofNat) Z.Y.G (kg.trans k34) (Fr.keeps (kg.trans k34)) (Fp.keeps (kg.trans k34)) Z.iter hM hoM hcM (rmk hroom 1) hh ⟨_, _, _, l4, _, l3.keeps k4, .nil⟩ (R.keeps k34) (by rw [List.length_map]; show 0 + _ ≤ 1000; omega) fun h5 t5 a5 k5 S5 => ?_⟩
  obtain ⟨t1, t2, b, l5, I5⟩ := S5
  refine wpAny_Constant_int (item l5 (by decide) rfl ?_ (Nat.le_of_ble_eq_true rfl))
  have k05 := k34.trans k5
  refine stL (hn.keeps k05) fun h6 n6 s6 => ?_
  exact q h6 _ b ((kx_keep k05).trans (kx_same s6 (.head _))) n6 (I5.same (hn.keeps k05) s6)
end

def ifBodyOf : Stmt → List Stmt
  | .If _ b _ _ => b
  | _ => []
def endB : List Stmt := ifBodyOf (outB.getD 8 (.Pass default))
theorem hf2_of {n : Nat} (h : 2 ≤ n) : (n : Int).fdiv 2 - 1 = ((n / 2 - 1 : Nat) : Int) := by rw [Int.fdiv_eq_ediv_of_nonneg _ (by decide)]; omega
theorem hlt_of {a r n : Nat} (h2 : 2 ≤ a) (ha : a + 1 = n) (hr : r + 1 = n) : n / 2 - 1 < r := by omega
theorem l50_of {a n : Nat} (h : a + 1 = n) (h50 : n ≤ 50) : a ≤ 50 := Nat.le_trans (Nat.le_of_lt (h ▸ Nat.lt_succ_self a)) h50
section
variable {prog : Program} {w : World} {A : Around} {E : Value → Shared → Prop} {s : Shared} {g₀ : Heap} {mg mb : Str → Option Value} {P1 P2 : Addr}
/-- the last test, at the first and the last point -/
theorem c_end {L f row oth H C wa : Addr} {cdv : Value} {n : Nat} {tn : Tok} {ws : List (Int × Int)} {js rs : List Nat} {hv : List Int} {m : Str → Option Value} {Q : Flow → Shared → Prop} (Z : LH g₀ mg mb P1 P2) (kg : Keep g₀ s.heap)
    (hh : A.handled = none) (hroom : A.depth + 40 < recursionLimit) (hun : A.units + 300 < cLine) (hn : s.heap.Ns L m) (mr : m "row" = some (.ref row)) (mo : m "others" = some (.ref oth)) (ms : m "steep" = some (.ref C)) (mh : m "halving" = some (.ref H))
    (R : IL s.heap row (rs.map Int.ofNat)) (O : IL s.heap oth (js.map Int.ofNat)) (V : IL s.heap H hv) (c2 : s.heap.IsCell (L + 2) (some (.int (n : Nat) tn))) (K : KW s.heap C wa ws)
    (hl : js.length + 1 = n) (hrl : rs.length + 1 = n) (h2 : 2 ≤ js.length) (h50 : n ≤ 50) (hok : okT js.length (kas_sort js.length) = true) (hokR : okR js.length (kas_sort js.length) = true) (hokL : okL js.length (kas_sort js.length) = true) (hj : ∀ i < js.length, js.getD i 0 < ws.length) (hr : ∀ r ∈ rs, r < ws.length)
    (hws : ws.length ≤ 50) (hw5 : ∀ z ∈ ws, 0 ≤ z.1 ∧ z.1 ≤ 5)
    (he : hv = [((rs.getD (n / 2 - 1) 0 : Nat) : Int)]) (hm : midB ws js rs = true)
    (q : ∀ h' tk, Keep s.heap h' → Q .next { s with heap := h', toks := tk }) :
    wpAny (model prog w) A (execs endB (lawEnv L f cdv)) Q E s := by
  obtain ⟨vH, lH, iH⟩ := V
  have hf2 : (n : Int).fdiv 2 - 1 = ((n / 2 - 1 : Nat) : Int) := hf2_of (hl ▸ Nat.le_trans h2 (Nat.le_succ _))
  have hlt : n / 2 - 1 < rs.length := hlt_of h2 hl hrl
  obtain ⟨vr, tr, lr, sr, er⟩ := ILn.item R hlt
  obtain ⟨fm, cm, hfm, Fm⟩ := Z.mid
  obtain ⟨fl, cl, hfl, Fl⟩ := Z.Y.mlo
  obtain ⟨fh, ch, hfh, Fh⟩ := Z.Y.mhi
  refine wpAny_execs_cons (wpAny_If (wpAny_isTrue_BoolOp (wpAny_allTrue_Or_cons (wpAny_isTrue_Compare1 (nL hn mh (lst (spliced_more (Subscript_ (nL hn mr ?_)))))))))
  refine wpAny_BinOp (wpAny_BinOp (nC c2 (wpAny_Constant_int (floordiv_int (by decide) (wpAny_Constant_int (sub_int ?_))))))
  rw [hf2]
  refine item lr (Int.natCast_nonneg _) er (spliced_none ⟨Nat.le_of_ble_eq_true rfl, fun h3 D3 k3 l3 g3 => ?_⟩) (by rw [sr]; exact k50 (l50_of hrl h50))
  refine ke_ne_ints (xs := vH.toList) (ys := [.int ((rs.getD (n / 2 - 1) 0 : Nat) : Int) tr]) (by rw [Array.toArray_toList]; exact (lH.keeps k3).isList) l3.isList iH (IntsAre.cons _ _ .nil) (by exact (show A.units + 64 < _ from rmk hun 64)) (wpAny_truthy_bool ?_)
  rw [decide_eq_true he]
  simp only [Bool.not_true, Bool.false_eq_true, if_false]
  refine wpAny_allTrue_Or_cons (isTrue_not (isTrue_plain (Call_ (nG Z.Y.G (kg.trans k3) hfm (cwG Fm (spliced_more (nL (hn.keeps k3) mr (spliced_more (nL (hn.keeps k3) mo (spliced_more (nL (hn.keeps k3) ms (spliced_none ⟨kg.trans k3, ?_⟩))))))))))))
  refine c_mid (n := js.length) Z.Y.G (kg.trans k3) Fm Fl Fh hfl hfh Z.Y.sorted Z.Y.len hh ⟨K.keeps k3, k50 hws, hw5, Z.Y.G.lim.keeps (kg.trans k3), rmk hroom 1, rm0 hun⟩ (rmk hroom 10) (rmk hun 100) (R.keeps k3) (O.keeps k3) rfl (Nat.succ.inj (hrl.trans hl.symm)) h2 (lt64 (l50_of hl h50)) hok hokR hokL hj hr fun h4 t4 k4 => ?_
  rw [hm]
  refine wpAny_truthy_bool ?_
  simp only [Bool.not_true, Bool.false_eq_true, if_false]
  refine wpAny_allTrue_Or_nil ?_
  simp only [Bool.false_eq_true, if_false]
  refine wpAny_execs_nil (wpAny_execs_nil ?_)
  exact q h4 _ (k3.trans k4)
end

def wsOf (zs : List (Int × Int)) (i : Nat) : List (Int × Int) := zs.map (wayOf (zs.getD i (0, 0)))
def rsOf (zs : List (Int × Int)) (n i : Nat) : List Nat := rowJ (wsOf zs i) (othJ n i)
/-- what the pure law says of the point i -/
structure PF (zs : List (Int × Int)) (n i : Nat) : Prop where
  a : ∀ t < (rsOf zs n i).length, (sgsOf zs (wsOf zs i) i (othJ n i) (rsOf zs n i) t).sum = 2 * (leftsOf n i (rsOf zs n i)).getD t 0 - ((n : Int) - 2)
  b : ∀ t < (rsOf zs n i).length, mlow (sgsOf zs (wsOf zs i) i (othJ n i) (rsOf zs n i) t) = sideOf n (leftsOf n i (rsOf zs n i)) t
  c : ∀ t < (rsOf zs n i).length, mhigh (sgsOf zs (wsOf zs i) i (othJ n i) (rsOf zs n i) t) = sideOf n (leftsOf n i (rsOf zs n i)) t
  d : ∀ t < (rsOf zs n i).length, 0 < (restOf zs (wsOf zs i) i (othJ n i) (rsOf zs n i) t).length
  e : (hvUp zs (wsOf zs i) i (othJ n i) (rsOf zs n i) (rsOf zs n i).length).length % 2 = 1
  f : i = 0 ∨ i = n - 1 → hvUp zs (wsOf zs i) i (othJ n i) (rsOf zs n i) (rsOf zs n i).length = [(((rsOf zs n i).getD (n / 2 - 1) 0 : Nat) : Int)] ∧ midB (wsOf zs i) (othJ n i) (rsOf zs n i) = true
theorem oth_len {n i : Nat} (hi : i < n) (hn : n = 4 ∨ n = 6) : (othJ n i).length + 1 = n := by
  rcases hn with rfl | rfl
  · have : i = 0 ∨ i = 1 ∨ i = 2 ∨ i = 3 := by omega
    rcases this with rfl | rfl | rfl | rfl <;> rfl
  · have : i = 0 ∨ i = 1 ∨ i = 2 ∨ i = 3 ∨ i = 4 ∨ i = 5 := by omega
    rcases this with rfl | rfl | rfl | rfl | rfl | rfl <;> rfl
theorem oth_lt {n i j : Nat} (h : j ∈ othJ n i) : j < n := List.mem_range.mp (List.mem_filter.mp h).1
theorem oks {n : Nat} (hn : n = 4 ∨ n = 6) {m : Nat} (hm : m + 1 = n) : okT m (kas_sort m) = true ∧ okR m (kas_sort m) = true ∧ okL m (kas_sort m) = true := by
  rcases hn with rfl | rfl
  · obtain rfl : m = 3 := by omega
    exact ⟨ok3, okR3, okL3⟩
  · obtain rfl : m = 5 := by omega
    exact ⟨ok5, okR5, okL5⟩
theorem rs_len {zs : List (Int × Int)} {n i : Nat} (hi : i < n) (hn : n = 4 ∨ n = 6) : (rsOf zs n i).length + 1 = n := by
  have h := oth_len hi hn
  unfold rsOf rowJ
  rw [List.length_map, ordJ_len (n := (othJ n i).length) rfl (oks hn h).2.2]
  exact h
theorem rs_mem {zs : List (Int × Int)} {n i r : Nat} (hi : i < n) (hn : n = 4 ∨ n = 6) (h : r ∈ rsOf zs n i) : r ∈ othJ n i := by
  unfold rsOf rowJ at h
  obtain ⟨k, hk, rfl⟩ := List.mem_map.mp h
  have := okR_ev (ltJ (wsOf zs i) (othJ n i)) (kas_sort (othJ n i).length) (oks hn (oth_len hi hn)).2.1 k hk
  exact getD_mem this
theorem ws5 {zs : List (Int × Int)} {i : Nat} (hi : i < zs.length) (h : ∀ z ∈ zs, 0 ≤ z.1 ∧ z.1 ≤ 5) : ∀ z ∈ wsOf zs i, 0 ≤ z.1 ∧ z.1 ≤ 5 := by
  intro z hz
  obtain ⟨y, hy, rfl⟩ := List.mem_map.mp hz
  obtain ⟨a0, a1⟩ := h y hy
  obtain ⟨b0, b1⟩ := h _ (getD_memP hi)
  unfold wayOf
  split <;> dsimp only <;> omega
theorem fold_len (i : Int) (js : List Int) : ∀ p : Int × List Int, ((js.foldl (passStep i) p).2).length = p.2.length + js.length := pass_len i js
theorem lefts_len {n i : Nat} {rs : List Nat} : (leftsOf n i rs).length = rs.length := by
  unfold leftsOf
  rw [pass_len, List.length_map]; exact Nat.zero_add _
theorem odd_mod {k : Nat} (h : k % 2 = 1) : ((k : Int).fmod 2 != 1) = false := by rw [fm2, h]; rfl
theorem ine0 {i : Nat} (h : i ≠ 0) : ((i : Int) == 0) = false := by rw [beq_eq_false_iff_ne]; omega
theorem ieqn {i n : Nat} (h : i = n - 1) (h0 : 0 < n) : ((i : Int) == (n : Int) - 1) = true := by rw [beq_iff_eq]; omega
theorem inen {i n : Nat} (h : ¬ i = n - 1) (h0 : 0 < n) : ((i : Int) == (n : Int) - 1) = false := by rw [beq_eq_false_iff_ne]; omega
theorem soft3 {h : Heap} {L : Addr} {m : Str → Option Value} (n : h.Ns L m) (c5 : ∃ v, h.IsCell (L + 5) v) (c6 : ∃ v, h.IsCell (L + 6) v) : ∀ b ∈ [L, L + 5, L + 6], Soft h b := by
  intro b hb
  simp only [List.mem_cons, List.not_mem_nil, or_false] at hb
  rcases hb with rfl | rfl | rfl
  · exact soft_ns n
  · obtain ⟨_, c⟩ := c5; exact soft_cell c
  · obtain ⟨_, c⟩ := c6; exact soft_cell c
theorem nt3 {h : Heap} {L : Addr} {m : Str → Option Value} (n : h.Ns L m) (c5 : ∃ v, h.IsCell (L + 5) v) (c6 : ∃ v, h.IsCell (L + 6) v) : ∀ b ∈ [L, L + 5, L + 6], ∃ o, h.get? b = some o ∧ NT o := by
  intro b hb
  simp only [List.mem_cons, List.not_mem_nil, or_false] at hb
  rcases hb with rfl | rfl | rfl
  · obtain ⟨o, es, ep, e, d, _⟩ := n
    exact ⟨o, e, no_tab fun vs q => by rw [d] at q; cases q⟩
  · obtain ⟨v, o, e, d⟩ := c5
    exact ⟨o, e, no_tab fun vs q => by rw [d] at q; cases q⟩
  · obtain ⟨v, o, e, d⟩ := c6
    exact ⟨o, e, no_tab fun vs q => by rw [d] at q; cases q⟩
theorem OS.kx {g₀ h h' : Heap} {L p P1 P2 I : Addr} {oI : Obj} {i n : Nat} {zs : List (Int × Int)} {m m' : Str → Option Value} {wr : List Addr} (x : OS g₀ h L p P1 P2 I oI i n zs m) (hI : Hard oI) (hw : ∀ b ∈ wr, Soft h b) (k : KX wr h h')
    (kg : Keep g₀ h') (ns : h'.Ns L m') (c2 : ∃ t, h'.IsCell (L + 2) (some (.int (n : Nat) t))) (c3 : h'.IsCell (L + 3) (some (.ref p))) (c4 : ∃ t, h'.IsCell (L + 4) (some (.int (i : Nat) t))) (c5 : ∃ v, h'.IsCell (L + 5) v) (c6 : ∃ v, h'.IsCell (L + 6) v) : OS g₀ h' L p P1 P2 I oI i n zs m' :=
  ⟨kg, ns, c2, c3, c4, c5, c6, x.P.kx hw k, x.T1.kx hw k, x.T2.kx hw k, k _ _ (soft_no hw x.it hI.1 hI.2.1) x.it⟩
section
variable {prog : Program} {w : World} {A : Around} {E : Value → Shared → Prop} {s : Shared} {g₀ : Heap} {mg mb : Str → Option Value} {P1 P2 : Addr}
/-- the turn, once the row stands -/
theorem oturn2 {L p I f row oth wa C : Addr} {oI : Obj} {cdv : Value} {i n : Nat} {zs : List (Int × Int)} {m : Str → Option Value} {Q : Flow → Shared → Prop} (Z : LH g₀ mg mb P1 P2)
    (hh : A.handled = none) (hroom : A.depth + 40 < recursionLimit) (hun : A.units + 300 < cLine) (hI : Hard oI) (gL : ∀ b ∈ [L, L + 5, L + 6], g₀.get? b = none)
    (O : OS g₀ s.heap L p P1 P2 I oI i n zs m) (mw : m "ways" = some (.ref wa)) (ms : m "steep" = some (.ref C)) (mo : m "others" = some (.ref oth)) (mr : m "row" = some (.ref row))
    (W : PT s.heap wa (wsOf zs i)) (K : KWx s.heap C wa (wsOf zs i) [L, L + 5, L + 6]) (Oth : IL s.heap oth ((othJ n i).map Int.ofNat)) (Row : IL s.heap row ((rsOf zs n i).map Int.ofNat))
    (hi : i < n) (hzl : zs.length = n) (hn : n = 4 ∨ n = 6) (hz5 : ∀ z ∈ zs, 0 ≤ z.1 ∧ z.1 ≤ 5) (F : PF zs n i)
    (q : ∀ h' tk m', OS g₀ h' L p P1 P2 I oI i n zs m' → Q .next { s with heap := h', toks := tk }) :
    wpAny (model prog w) A (execs (outB.drop 4) (lawEnv L f cdv)) Q E s := by
  have hol := oth_len hi hn
  have hrl := rs_len (zs := zs) hi hn
  have hn6 : n ≤ 6 := n6 hn
  have hiz : i < zs.length := by rw [hzl]; exact hi
  have hw50 : (wsOf zs i).length ≤ 50 := by unfold wsOf; rw [List.length_map, hzl]; exact Nat.le_trans hn6 (by decide)
  obtain ⟨o1, o2, o3⟩ := oks hn hol
  have gL0 := gL L (.head _)
  have wlen : (wsOf zs i).length = n := by unfold wsOf; rw [List.length_map, hzl]
  obtain ⟨tn, c2⟩ := O.c2
  obtain ⟨ti, c4⟩ := O.c4
  show wpAny _ _ (execs (outB.getD 4 (.Pass default) :: outB.getD 5 (.Pass default) :: outB.getD 6 (.Pass default) :: outB.getD 7 (.Pass default) :: outB.getD 8 (.Pass default) :: []) _) _ _ _
  refine wpAny_execs_cons (c_lefts Z O.kg hh (rmk hroom 20) O.ns mr Row c2 c4 (len50 hrl hn6) fun h1 t1 lf k1 n1 l1 => ?_)
  have hwL : ∀ {h : Heap} {m : Str → Option Value}, h.Ns L m → ∀ b ∈ [L], Soft h b := fun n b q => by rw [List.mem_singleton.mp q]; exact soft_ns n
  have O1 := O.loc hI gL0 n1 k1
  have W1 := W.kx (hwL O.ns) k1
  have K1 := K.kx (hwL O.ns) (fun b q => .inl (by rw [List.mem_singleton.mp q]; exact .head _)) k1
  have Oth1 := Oth.kx (hwL O.ns) k1
  have Row1 := Row.kx (hwL O.ns) k1
  refine wpAny_execs_cons (wpAny_Assign_Name (lst (spliced_none ⟨Nat.le_of_ble_eq_true rfl, fun h2 H k2 l2 g2 => ?_⟩)))
  have hHn : h1.get? H = none := by
    cases z : h1.get? H with
    | none => rfl
    | some o => exact absurd (Heap.lt_size z) (Nat.not_lt_of_le g2)
  refine stL (O1.ns.keeps k2) fun h3 n3 s3 => ?_
  have s3 : Heap.SameBut L h2 h3 := s3
  have sf : ∀ b ∈ [L, L + 5, L + 6, H], Soft h1 b := by
    intro b hb
    simp only [List.mem_cons, List.not_mem_nil, or_false] at hb
    rcases hb with rfl | rfl | rfl | rfl
    · exact soft_ns O1.ns
    · obtain ⟨v, c⟩ := O1.c5; exact soft_cell c
    · obtain ⟨v, c⟩ := O1.c6; exact soft_cell c
    · exact soft_none hHn
  have gw : ∀ b ∈ [L, L + 5, L + 6, H], g₀.get? b = none := by
    intro b hb
    simp only [List.mem_cons, List.not_mem_nil, or_false] at hb
    rcases hb with rfl | rfl | rfl | rfl
    · exact gL _ (.head _)
    · exact gL _ (.tail _ (.head _))
    · exact gL _ (.tail _ (.tail _ (.head _)))
    · cases z : g₀.get? b with
      | none => rfl
      | some o => have := O1.kg _ _ z; rw [hHn] at this; cases this
  have T : TB g₀ h1 L p wa row oth lf H i n zs (wsOf zs i) (othJ n i) (rsOf zs n i) (leftsOf n i (rsOf zs n i)) := ⟨O1.kg, gw, sf, hHn, O1.c2, O1.c3, O1.c4, O1.P, W1, Row1, Oth1, l1⟩
  have B : Bd i n zs (wsOf zs i) (othJ n i) (rsOf zs n i) (leftsOf n i (rsOf zs n i)) := ⟨hiz, (by rw [hzl]; exact Nat.le_trans hn6 (by decide)), hw50, len50 hol hn6, len50 hrl hn6, fun j hj => by rw [hzl]; exact oth_lt hj, fun r hr => by rw [wlen]; exact oth_lt (rs_mem hi hn hr), lefts_len, hz5, ws5 hiz hz5⟩
  have e5 : ∀ {c v}, c = L + 5 ∨ c = L + 6 → h1.IsCell c v → h3.IsCell c v := fun {c v} hc x => (x.keeps k2).sameBut s3 (by
    rcases hc with rfl | rfl
    · exact addr_ne (L := L) (j := 5) (k := 0) (by decide)
    · exact addr_ne (L := L) (j := 6) (k := 0) (by decide))
  have X : TM h1 h3 L C wa row oth lf H [] _ := ⟨(kx_keep k2).trans (kx_same s3 (.head _)), n3, let ⟨v, c⟩ := O1.c5; ⟨v, e5 (.inl rfl) c⟩, let ⟨v, c⟩ := O1.c6; ⟨v, e5 (.inr rfl) c⟩, mw, mr, mo, rfl, rfl, ms, _, l2.same (O1.ns.keeps k2) s3, .nil⟩
  refine wpAny_execs_cons (inner Z.Y T B hh (rmk hroom 20) (rmk hun 200) X hrl.symm (Nat.lt_of_lt_of_le (by decide) (two_le hol hn)) F.a F.b F.c F.d fun h7 t7 m7 X7 => ?_)
  have Z7 := T.at X7.kx
  have O7 : OS g₀ h7 L p P1 P2 I oI i n zs m7 := O1.kx hI sf X7.kx Z7.kg X7.n Z7.c2 Z7.c3 Z7.c4 X7.c5 X7.c6
  have K7 := K1.kx sf (fun b hb => by
    simp only [List.mem_cons, List.not_mem_nil, or_false] at hb
    rcases hb with rfl | rfl | rfl | rfl
    · exact .inl (.head _)
    · exact .inl (.tail _ (.head _))
    · exact .inl (.tail _ (.tail _ (.head _)))
    · exact .inr hHn) X7.kx
  obtain ⟨vH, lH, iH⟩ := id X7.V
  have hvs : vH.size = (hvUp zs (wsOf zs i) i (othJ n i) (rsOf zs n i) (rsOf zs n i).length).length := by rw [← Array.length_toList, iH.length]
  have hvl := @hvUp_len zs (wsOf zs i) i (othJ n i) (rsOf zs n i) (rsOf zs n i).length
  refine wpAny_execs_cons (wpAny_If (wpAny_isTrue_Compare1 (wpAny_BinOp (Call_ (nB Z.Y.G Z7.kg Z.Y.len boot_len (cwB (spliced_more (nL X7.n X7.mh (spliced_none (call_len_list lH.isList (sz63 (by rw [hvs]; exact Nat.le_trans hvl (k50 (len50 hrl hn6)))) (wpAny_Constant_int (mod_int' (by decide) (wpAny_Constant_int (ne_int (wpAny_truthy_bool ?_)))))))))))))))
  have e7 : ((vH.size : Int).fmod 2 != 1) = false := by
    rw [hvs]
    exact odd_mod F.e
  rw [e7]
  simp only [Bool.false_eq_true, if_false]
  refine wpAny_execs_nil ?_
  obtain ⟨tn7, c27⟩ := Z7.c2
  obtain ⟨ti7, c47⟩ := Z7.c4
  have fin : i = 0 ∨ i = n - 1 → ∀ tk (Q' : Flow → Shared → Prop), (∀ h' tk', Keep h7 h' → Q' .next { s with heap := h', toks := tk' }) → wpAny (model prog w) A (execs endB (lawEnv L f cdv)) Q' E { s with heap := h7, toks := tk } := fun hc tk Q' q' =>
    c_end (s := { s with heap := h7, toks := tk }) (ws := wsOf zs i) (js := othJ n i) (rs := rsOf zs n i) Z Z7.kg hh hroom hun X7.n X7.mr X7.mo X7.ms X7.mh Z7.R Z7.O X7.V c27 K7.kw hol hrl (two_le hol hn) (Nat.le_trans hn6 (by decide)) o1 o2 o3 (fun k hk => by rw [wlen]; exact oth_lt (getD_mem hk)) (fun r hr => by rw [wlen]; exact oth_lt (rs_mem hi hn hr)) hw50 (ws5 hiz hz5) (F.f hc).1 (F.f hc).2 q'
  refine wpAny_execs_cons (wpAny_If (wpAny_isTrue_BoolOp (wpAny_allTrue_Or_cons (wpAny_isTrue_Compare1 (nC c47 (wpAny_Constant_int (eq_int (wpAny_truthy_bool ?_))))))))
  by_cases h0 : i = 0
  · rw [show ((i : Int) == 0) = true from by subst h0; rfl]
    simp only [if_true]
    exact fin (.inl h0) _ _ fun h' tk' k => wpAny_execs_nil (q h' tk' m7 (O7.keeps k))
  · rw [show ((i : Int) == 0) = false from ine0 h0]
    simp only [Bool.false_eq_true, if_false]
    refine wpAny_allTrue_Or_cons (wpAny_isTrue_Compare1 (nC c47 (wpAny_BinOp (nC c27 (wpAny_Constant_int (sub_int (eq_int (wpAny_truthy_bool ?_))))))))
    by_cases h1 : i = n - 1
    · rw [show ((i : Int) == (n : Int) - 1) = true from ieqn h1 (Nat.lt_of_le_of_lt (Nat.zero_le _) hi)]
      simp only [if_true]
      exact fin (.inr h1) _ _ fun h' tk' k => wpAny_execs_nil (q h' tk' m7 (O7.keeps k))
    · rw [show ((i : Int) == (n : Int) - 1) = false from inen h1 (Nat.lt_of_le_of_lt (Nat.zero_le _) hi)]
      simp only [Bool.false_eq_true, if_false]
      refine wpAny_allTrue_Or_nil ?_
      simp only [Bool.false_eq_true, if_false]
      exact wpAny_execs_nil (wpAny_execs_nil (q h7 _ m7 O7))
end

section
variable {prog : Program} {w : World} {A : Around} {E : Value → Shared → Prop} {s : Shared} {g₀ : Heap} {mg mb : Str → Option Value} {P1 P2 : Addr}
/-- the whole turn of the outer loop -/
theorem oturn {L p I f : Addr} {oI : Obj} {cdv : Value} {i n : Nat} {zs : List (Int × Int)} {m : Str → Option Value} {Q : Flow → Shared → Prop} (Z : LH g₀ mg mb P1 P2) (tp : Looks (model prog w) g₀ (nsGet cStatics "thirdparty.any") none)
    (hh : A.handled = none) (hroom : A.depth + 40 < recursionLimit) (hun : A.units + 300 < cLine) (hI : Hard oI) (gL : ∀ b ∈ [L, L + 5, L + 6], g₀.get? b = none)
    (O : OS g₀ s.heap L p P1 P2 I oI i n zs m) (hi : i < n) (hzl : zs.length = n) (hn : n = 4 ∨ n = 6) (hz5 : ∀ z ∈ zs, 0 ≤ z.1 ∧ z.1 ≤ 5) (F : PF zs n i)
    (q : ∀ h' tk m', OS g₀ h' L p P1 P2 I oI i n zs m' → Q .next { s with heap := h', toks := tk }) :
    wpAny (model prog w) A (execs outB (lawEnv L f cdv)) Q E s := by
  have hol := oth_len hi hn
  have hn6 : n ≤ 6 := n6 hn
  have hiz : i < zs.length := by rw [hzl]; exact hi
  obtain ⟨o1, o2, o3⟩ := oks hn hol
  have gL0 := gL L (.head _)
  have wlen : (wsOf zs i).length = n := by unfold wsOf; rw [List.length_map, hzl]
  obtain ⟨ti, c4⟩ := O.c4
  obtain ⟨fw, cw, hfw, Fw⟩ := Z.ways
  obtain ⟨fs, c2', hfs, Fs, hd2⟩ := Z.steep
  obtain ⟨f1, c1', hf1, F1, hd1⟩ := Z.cmp
  obtain ⟨nmV, hnm⟩ := Z.nm
  have hwL : ∀ {h : Heap} {m : Str → Option Value}, h.Ns L m → ∀ b ∈ [L], Soft h b := fun n b q => by rw [List.mem_singleton.mp q]; exact soft_ns n
  show wpAny _ _ (execs (outB.getD 0 (.Pass default) :: outB.getD 1 (.Pass default) :: outB.getD 2 (.Pass default) :: outB.getD 3 (.Pass default) :: outB.drop 4) _) _ _ _
  refine wpAny_execs_cons (wpAny_Assign_Name (Call_ (nG Z.Y.G O.kg hfw (cwG Fw (spliced_more (nC O.c3 (spliced_more (nC c4 (spliced_none ⟨O.kg, c_ways (i := (i : Int)) (Fw.keeps O.kg) (Z.Y.G.lim.keeps O.kg) (rm0 hroom) hh O.P (Int.natCast_nonneg _) (get_of hiz) (by rw [hzl]; exact Nat.le_trans hn6 (by decide)) fun h1 t1 wa k1 W1 g1 => ?_⟩)))))))))
  refine stL (O.ns.keeps k1) fun h2 n2 s2 => ?_
  have O1 := O.keeps k1
  have O2 := O1.loc hI gL0 n2 (kx_same s2 (.head _))
  have W2 := W1.kx (hwL O1.ns) (kx_same s2 (.head _))
  refine wpAny_execs_cons (wpAny_Assign_Name (Call_ (nG Z.Y.G O2.kg hfs (cwG Fs (spliced_more (nL O2.ns rfl (spliced_none ⟨O2.kg, c_steep Z.Y.G Fs F1 hf1 O2.kg tp hnm Z.obj O2.T1 O2.T2 hd1 hd2 Z.P12 Z.g1 Z.g2 (rmk hroom 2) fun h3 C ns cm l cw t3 kg3 kt3 T13 T23 K3 aw cm3 la3 cw3 => ?_⟩)))))))
  have O3 := O2.t hI kt3 kg3 T13 T23
  have W3 := W2.t kt3
  have KX3 : KWx h3 C wa (wsOf zs i) [L, L + 5, L + 6] := ⟨ns, cm, l, cw, ⟨K3, cm3, la3, cw3, W3⟩, fun b hb => let ⟨o, e, ht⟩ := nt3 O2.ns O2.c5 O2.c6 b hb; aw b o e ht⟩
  refine stL O3.ns fun h4 n4 s4 => ?_
  have O4 := O3.loc hI gL0 n4 (kx_same s4 (.head _))
  have W4 := W3.kx (hwL O3.ns) (kx_same s4 (.head _))
  have K4 := KX3.kx (hwL O3.ns) (fun b q => .inl (by rw [List.mem_singleton.mp q]; exact .head _)) (kx_same s4 (.head _))
  obtain ⟨tn4, c24⟩ := O4.c2
  obtain ⟨ti4, c44⟩ := O4.c4
  refine wpAny_execs_cons (c_others Z.Y.G O4.kg Z.Y.range hh O4.ns c24 c44 (Nat.lt_of_le_of_lt hn6 (by decide)) fun h5 t5 oth k5 n5 l5 => ?_)
  have O5 := O4.loc hI gL0 n5 k5
  have W5 := W4.kx (hwL O4.ns) k5
  have K5 := K4.kx (hwL O4.ns) (fun b q => .inl (by rw [List.mem_singleton.mp q]; exact .head _)) k5
  refine wpAny_execs_cons (c_row (C := C) (wa := wa) (ws := wsOf zs i) Z.Y.G O5.kg Z.Y.sorted O5.ns rfl rfl l5 ⟨K5.kw, (by rw [wlen]; exact Nat.le_trans hn6 (by decide)), ws5 hiz hz5, Z.Y.G.lim.keeps O5.kg, by exact (show A.depth + 1 < _ from rmk hroom 1), by exact (show A.units + 2 < _ from rmk hun 2)⟩ rfl (two_le hol hn) (lt64 (len50 hol hn6)) o1 o2 (fun k hk => by rw [wlen]; exact oth_lt (getD_mem hk)) fun h6 t6 row k6 n6 l6 => ?_)
  have O6 := O5.loc hI gL0 n6 k6
  have W6 := W5.kx (hwL O5.ns) k6
  have K6 := K5.kx (hwL O5.ns) (fun b q => .inl (by rw [List.mem_singleton.mp q]; exact .head _)) k6
  have l56 := l5.kx (hwL O5.ns) k6
  exact oturn2 Z hh hroom hun hI gL O6 rfl rfl rfl rfl W6 K6 l56 l6 hi hzl hn hz5 F q
end

section
variable {g₀ h h' : Heap} {it P1 P2 : Addr} {a b c : Int}
theorem ri_cls (ei : IsRangeIter h it a b c) {x : Addr} {o : Obj} (e : h.get? x = some o) (hc : o.cls ≠ .type "range_iterator") : x ≠ it := fun q => by
  rw [q] at e
  have e2 : some o = some _ := e.symm.trans ei
  exact hc (by rw [Option.some.inj e2])
theorem ri_rec (ei : IsRangeIter h it a b c) {cv : Value} {q : Str} (x : h.CodeRec cv q) (he : Heap.ExtBut it h h') : h'.CodeRec cv q := by
  obtain ⟨c', o, vs, t, e, e2, e3, e4⟩ := x
  refine ⟨c', o, vs, t, e, he _ _ (fun z => ?_) e2, e3, e4⟩
  rw [z] at e2
  have e5 : some o = some _ := e2.symm.trans ei
  rw [Option.some.inj e5] at e3
  cases e3
  cases e4
theorem Tab1.ri (x : Tab1 g₀ P1 P2 h) (ei : IsRangeIter h it a b c) (he : Heap.ExtBut it h h') : Tab1 g₀ P1 P2 h' := by
  rcases x with e | ⟨c, Pc, e, a, b, r⟩
  · exact .inl (he _ _ (ri_cls ei e (fun z => by cases z)) e)
  · refine .inr ⟨c, Pc, he _ _ (ri_cls ei e (fun z => by cases z)) e, ?_, ?_, r⟩
    · obtain ⟨o, vs, file, tf, flags, tg, inF, text, tt, e, r1, r2, r⟩ := a
      exact ⟨o, vs, file, tf, flags, tg, inF, text, tt, he _ _ (ri_cls ei e (by rw [r1]; intro z; injection z with z; exact absurd z (by decide))) e, r1, r2, r⟩
    · obtain ⟨ps, a, b, c⟩ := b
      exact ⟨ps, he _ _ (ri_cls ei a (fun z => by cases z)) a, b, fun x hx cv e => let ⟨c', e1, hc⟩ := c x hx cv e; ⟨c', e1, ri_rec ei hc he⟩⟩
theorem Tab2.ri (x : Tab2 P2 h) (ei : IsRangeIter h it a b c) (he : Heap.ExtBut it h h') : Tab2 P2 h' := by
  rcases x with e | ⟨c, e, a⟩
  · exact .inl (he _ _ (ri_cls ei e (fun z => by cases z)) e)
  · exact .inr ⟨c, he _ _ (ri_cls ei e (fun z => by cases z)) e, ri_rec ei a he⟩
end
/-- the state between the turns of the outer loop -/
structure OP (g₀ h : Heap) (L p P1 P2 : Addr) (n : Nat) (zs : List (Int × Int)) : Prop where
  kg : Keep g₀ h
  ns : ∃ m, h.Ns L m
  c2 : ∃ t, h.IsCell (L + 2) (some (.int (n : Nat) t))
  c3 : h.IsCell (L + 3) (some (.ref p))
  c4 : ∃ v, h.IsCell (L + 4) v
  c5 : ∃ v, h.IsCell (L + 5) v
  c6 : ∃ v, h.IsCell (L + 6) v
  P : PT h p zs
  T1 : Tab1 g₀ P1 P2 h
  T2 : Tab2 P2 h
section
variable {g₀ h h' : Heap} {L p P1 P2 it : Addr} {n : Nat} {zs : List (Int × Int)}
theorem OP.ext {a b c : Int} (x : OP g₀ h L p P1 P2 n zs) (gi : g₀.get? it = none) (ei : IsRangeIter h it a b c) (he : Heap.ExtBut it h h') : OP g₀ h' L p P1 P2 n zs := by
  have f := isF_rangeIter ei
  have ce : ∀ {c v}, h.IsCell c v → h'.IsCell c v := fun ⟨o, e, d⟩ => ⟨o, he _ _ (isF_ne f e (by rw [d]; intro _ z; cases z)) e, d⟩
  exact ⟨fun b o e => he _ _ (fun q => by rw [q, gi] at e; cases e) (x.kg b o e), let ⟨m, n⟩ := x.ns; ⟨m, ns_ext n f he⟩, let ⟨t, c⟩ := x.c2; ⟨t, ce c⟩, ce x.c3, let ⟨t, c⟩ := x.c4; ⟨t, ce c⟩, let ⟨t, c⟩ := x.c5; ⟨t, ce c⟩, let ⟨t, c⟩ := x.c6; ⟨t, ce c⟩, x.P.ext f he, x.T1.ri ei he, x.T2.ri ei he⟩
theorem OP.keeps (x : OP g₀ h L p P1 P2 n zs) (k : Keep h h') : OP g₀ h' L p P1 P2 n zs :=
  ⟨x.kg.trans k, let ⟨m, n⟩ := x.ns; ⟨m, n.keeps k⟩, let ⟨t, c⟩ := x.c2; ⟨t, c.keeps k⟩, x.c3.keeps k, let ⟨t, c⟩ := x.c4; ⟨t, c.keeps k⟩, let ⟨t, c⟩ := x.c5; ⟨t, c.keeps k⟩, let ⟨t, c⟩ := x.c6; ⟨t, c.keeps k⟩, x.P.keeps k, x.T1.keeps k, x.T2.keeps k⟩
theorem OS.op {I : Addr} {oI : Obj} {i : Nat} {m : Str → Option Value} (x : OS g₀ h L p P1 P2 I oI i n zs m) : OP g₀ h L p P1 P2 n zs :=
  ⟨x.kg, ⟨m, x.ns⟩, x.c2, x.c3, let ⟨t, c⟩ := x.c4; ⟨_, c⟩, x.c5, x.c6, x.P, x.T1, x.T2⟩
theorem OP.os {I : Addr} {oI : Obj} {i : Nat} {ti : Tok} {v4 : Option Value} (x : OP g₀ h L p P1 P2 n zs) (hI : Hard oI) (e : h.get? I = some oI) (g4 : g₀.get? (L + 4) = none) (c4 : h.IsCell (L + 4) v4) (c4' : h'.IsCell (L + 4) (some (.int (i : Nat) ti))) (sb : Heap.SameBut (L + 4) h h') : ∃ m, OS g₀ h' L p P1 P2 I oI i n zs m := by
  obtain ⟨m, hn⟩ := x.ns
  have hw : ∀ b ∈ [L + 4], Soft h b := fun b q => by rw [List.mem_singleton.mp q]; exact soft_cell c4
  have k : KX [L + 4] h h' := kx_same sb (.head _)
  exact ⟨m, fun b o e => k b o (fun q => by rw [List.mem_singleton.mp q, g4] at e; cases e) (x.kg b o e), hn.sameBut sb (addr_ne (L := L) (j := 0) (k := 4) (by decide)), let ⟨t, c⟩ := x.c2; ⟨t, c.sameBut sb (addr_ne (by decide))⟩, x.c3.sameBut sb (addr_ne (by decide)), ⟨_, c4'⟩,
    let ⟨t, c⟩ := x.c5; ⟨t, c.sameBut sb (addr_ne (by decide))⟩, let ⟨t, c⟩ := x.c6; ⟨t, c.sameBut sb (addr_ne (by decide))⟩, x.P.kx hw k, x.T1.kx hw k, x.T2.kx hw k, k _ _ (soft_no hw e hI.1 hI.2.1) e⟩
end
section
variable {prog : Program} {w : World} {A : Around} {E : Value → Shared → Prop} {s : Shared} {g₀ : Heap} {mg mb : Str → Option Value} {P1 P2 : Addr}
theorem outer {L p f : Addr} {cdv : Value} {n : Nat} {zs : List (Int × Int)} {Q : Flow → Shared → Prop} (Z : LH g₀ mg mb P1 P2) (tp : Looks (model prog w) g₀ (nsGet cStatics "thirdparty.any") none)
    (hh : A.handled = none) (hroom : A.depth + 40 < recursionLimit) (hun : A.units + 300 < cLine) (gL : ∀ j, g₀.get? (L + j) = none)
    (O : OP g₀ s.heap L p P1 P2 n zs) (hzl : zs.length = n) (hn : n = 4 ∨ n = 6) (hz5 : ∀ z ∈ zs, 0 ≤ z.1 ∧ z.1 ≤ 5) (F : ∀ i < n, PF zs n i)
    (q : ∀ h' tk, OP g₀ h' L p P1 P2 n zs → Q .next { s with heap := h', toks := tk }) :
    wpAny (model prog w) A (exec ((fBody (stm 15)).getD 2 (.Pass default)) (lawEnv L f cdv)) Q E s := by
  obtain ⟨tn, c2⟩ := O.c2
  have hn6 : n ≤ 6 := by omega
  refine wpAny_For (Call_ (nB Z.Y.G O.kg Z.Y.range boot_range (callWith_type1 (spliced_more (nC c2 (spliced_none ?_))))))
  refine call_range_1 (range_iter (IsRange.new _ _ _ _ _ _ _) (by omega) fun h1 I k1 hI hIn => ?_)
  have ks : Keep s.heap h1 := (keep_push _ _).trans k1
  have gi : g₀.get? I = none := by
    cases z : g₀.get? I with
    | none => rfl
    | some o => rw [keep_push _ _ _ _ (O.kg _ _ z)] at hIn; cases hIn
  refine for_rangeT (fun k h => OP g₀ h L p P1 P2 n zs) hh hI (O.keeps ks) ?_ ?_ ?_
  · rintro k h h' a b c X ei he
    exact X.ext gi ei he
  · rintro k t s₁ E' oI hk X eI hI
    obtain ⟨v4, c4⟩ := X.c4
    refine assign_Name (wpAny_storeName_cell rfl rfl rfl c4 fun h2 c42 s2 => ?_)
    obtain ⟨m, O2⟩ := X.os (i := k) hI eI (gL 4) c4 c42 s2
    refine oturn Z tp hh hroom hun hI (fun b hb => ?_) O2 hk hzl hn hz5 (F k hk) fun h3 t3 m3 O3 => ⟨rfl, h3, t3, rfl, O3.op, O3.it⟩
    simp only [List.mem_cons, List.not_mem_nil, or_false] at hb
    rcases hb with rfl | rfl | rfl
    · exact gL 0
    · exact gL 5
    · exact gL 6
  · intro h' tk X
    exact q h' tk X
end

/-- how many points -/
def nOf (k : Nat) : Nat := [4, 4, 6].getD (k % 3) 0
theorem nOf_or (k : Nat) : nOf k = 4 ∨ nOf k = 6 := by
  unfold nOf
  have : k % 3 = 0 ∨ k % 3 = 1 ∨ k % 3 = 2 := by omega
  rcases this with h | h | h <;> rw [h] <;> decide
theorem nOf_at {k : Nat} {t0 t1 t2 : Tok} : ∃ t, (#[.int 4 t0, .int 4 t1, .int 6 t2] : Array Value)[((k : Int).fmod 3).toNat]? = some (.int (nOf k : Nat) t) := by
  have h3 : ((k : Int).fmod 3).toNat = k % 3 := by rw [Int.fmod_eq_emod_of_nonneg _ (by decide)]; omega
  rw [h3]
  unfold nOf
  have : k % 3 = 0 ∨ k % 3 = 1 ∨ k % 3 = 2 := by omega
  rcases this with h | h | h <;> rw [h] <;> exact ⟨_, rfl⟩
theorem pts_len (ns : List Int) (n : Nat) : (ptsOf ns n).length = n := by unfold ptsOf; rw [List.length_map, List.length_range]
theorem pts_5 {ns : List Int} {n : Nat} (hn : n ≤ 6) : ∀ z ∈ ptsOf ns n, 0 ≤ z.1 ∧ z.1 ≤ 5 := by
  intro z hz
  obtain ⟨k, hk, rfl⟩ := List.mem_map.mp hz
  have := List.mem_range.mp hk
  unfold ptAt
  dsimp only
  omega
theorem isList_kx {h h' : Heap} {wr : List Addr} {a : Addr} {vs : Array Value} (x : h.IsList a vs) (hw : ∀ b ∈ wr, Soft h b) (k : KX wr h h') : h'.IsList a vs := by
  obtain ⟨o, e, c, n, d⟩ := x
  exact ⟨o, k _ _ (soft_no hw e (fun _ _ z => by rw [d] at z; cases z) (fun _ z => by rw [d] at z; cases z)) e, c, n, d⟩
section
variable {prog : Program} {w : World} {A : Around} {E : Value → Shared → Prop} {s : Shared} {g₀ : Heap} {mg mb : Str → Option Value} {P1 P2 : Addr}
theorem c_law {L f sc : Addr} {cdv : Value} {vs : List Value} {ns : List Int} {m : Str → Option Value} {v2 v3 v4 v5 v6 : Option Value} {Q : Flow → Shared → Prop} (Z : LH g₀ mg mb P1 P2) (tp : Looks (model prog w) g₀ (nsGet cStatics "thirdparty.any") none)
    (hh : A.handled = none) (hroom : A.depth + 40 < recursionLimit) (hun : A.units + 300 < cLine) (gL : ∀ j, g₀.get? (L + j) = none)
    (kg : Keep g₀ s.heap) (hn : s.heap.Ns L m) (c1 : s.heap.IsCell (L + 1) (some (.ref sc))) (c2 : s.heap.IsCell (L + 2) v2) (c3 : s.heap.IsCell (L + 3) v3) (c4 : s.heap.IsCell (L + 4) v4) (c5 : s.heap.IsCell (L + 5) v5) (c6 : s.heap.IsCell (L + 6) v6)
    (hl : s.heap.IsList sc vs.toArray) (hi : IntsAre vs ns) (hz : ns.length ≤ 63) (T1 : Tab1 g₀ P1 P2 s.heap) (T2 : Tab2 P2 s.heap) (F : ∀ i < nOf ns.length, PF (ptsOf ns (nOf ns.length)) (nOf ns.length) i)
    (q : ∀ h' tk m', Keep g₀ h' → h'.Ns L m' → Tab1 g₀ P1 P2 h' → Tab2 P2 h' → Q (.ret (.bool true)) { s with heap := h', toks := tk }) :
    wpAny (model prog w) A (execs (fBody (stm 15)) (lawEnv L f cdv)) Q E s := by
  have hvl : vs.length = ns.length := hi.length
  have hnn := nOf_or ns.length
  show wpAny _ _ (execs ((fBody (stm 15)).getD 0 (.Pass default) :: (fBody (stm 15)).getD 1 (.Pass default) :: (fBody (stm 15)).getD 2 (.Pass default) :: (fBody (stm 15)).getD 3 (.Pass default) :: []) _) _ _ _
  refine wpAny_execs_cons (wpAny_Assign_Name (Subscript_ (lst (spliced_more (wpAny_Constant_int (spliced_more (wpAny_Constant_int (spliced_more (wpAny_Constant_int (spliced_none ⟨Nat.le_of_ble_eq_true rfl, fun h1 D k1 l1 g1 => ?_⟩))))))))))
  refine wpAny_BinOp (Call_ (nB Z.Y.G (kg.trans k1) Z.Y.len boot_len (cwB (spliced_more (nC (c1.keeps k1) (spliced_none (call_len_list (isList_keeps hl k1) (by rw [List.size_toArray]; omega) (wpAny_Constant_int (mod_int' (by decide) ?_)))))))))
  rw [List.size_toArray, hvl]
  obtain ⟨t, et⟩ := @nOf_at ns.length s.toks (s.toks + 1) (s.toks + 1 + 1)
  refine item l1 (by rw [Int.fmod_eq_emod_of_nonneg _ (by decide)]; omega) et ?_ (Nat.le_of_ble_eq_true rfl)
  refine wpAny_storeName_cell rfl rfl rfl (c2.keeps k1) fun h2 c22 s2 => ?_
  have sf2 : ∀ b ∈ [L + 2], Soft h1 b := fun b q => by rw [List.mem_singleton.mp q]; exact soft_cell (c2.keeps k1)
  have kx2 : KX [L + 2] h1 h2 := kx_same s2 (.head _)
  have kg2 : Keep g₀ h2 := fun b o e => kx2 b o (fun q => by rw [List.mem_singleton.mp q, gL] at e; cases e) (k1 _ _ (kg b o e))
  have hn2 := (hn.keeps k1).sameBut s2 (addr_ne (L := L) (j := 0) (k := 2) (by decide))
  have c12 := (c1.keeps k1).sameBut s2 (addr_ne (L := L) (j := 1) (k := 2) (by decide))
  have c32 := (c3.keeps k1).sameBut s2 (addr_ne (L := L) (j := 3) (k := 2) (by decide))
  have c42 := (c4.keeps k1).sameBut s2 (addr_ne (L := L) (j := 4) (k := 2) (by decide))
  have c52 := (c5.keeps k1).sameBut s2 (addr_ne (L := L) (j := 5) (k := 2) (by decide))
  have c62 := (c6.keeps k1).sameBut s2 (addr_ne (L := L) (j := 6) (k := 2) (by decide))
  have T12 := (T1.keeps k1).kx sf2 kx2
  have T22 := (T2.keeps k1).kx sf2 kx2
  refine wpAny_execs_cons (wpAny_Assign_Name (c_points (ns := ns) (vs := vs) (n := nOf ns.length) Z.Y.G kg2 Z.Y.sum Z.Y.range hh c12 c22 (isList_kx (isList_keeps hl k1) sf2 kx2) hi (by omega) (by omega) (by omega) fun h3 t3 p k3 P3 g3 => ?_))
  refine wpAny_storeName_cell rfl rfl rfl (c32.keeps k3) fun h4 c34 s4 => ?_
  have sf4 : ∀ b ∈ [L + 3], Soft h3 b := fun b q => by rw [List.mem_singleton.mp q]; exact soft_cell (c32.keeps k3)
  have kx4 : KX [L + 3] h3 h4 := kx_same s4 (.head _)
  have kg4 : Keep g₀ h4 := fun b o e => kx4 b o (fun q => by rw [List.mem_singleton.mp q, gL] at e; cases e) (k3 _ _ (kg2 b o e))
  refine wpAny_execs_cons (outer Z tp hh hroom hun gL (p := p) (n := nOf ns.length) (zs := ptsOf ns (nOf ns.length)) ⟨kg4, ⟨m, (hn2.keeps k3).sameBut s4 (addr_ne (L := L) (j := 0) (k := 3) (by decide))⟩, ⟨_, (c22.keeps k3).sameBut s4 (addr_ne (L := L) (j := 2) (k := 3) (by decide))⟩, c34, ⟨_, (c42.keeps k3).sameBut s4 (addr_ne (L := L) (j := 4) (k := 3) (by decide))⟩,
    ⟨_, (c52.keeps k3).sameBut s4 (addr_ne (L := L) (j := 5) (k := 3) (by decide))⟩, ⟨_, (c62.keeps k3).sameBut s4 (addr_ne (L := L) (j := 6) (k := 3) (by decide))⟩, P3.kx sf4 kx4, (T12.keeps k3).kx sf4 kx4, (T22.keeps k3).kx sf4 kx4⟩ (pts_len _ _) hnn (pts_5 (by omega)) F fun h5 t5 O5 => ?_)
  refine wpAny_execs_cons (wpAny_Return_some (wpAny_Constant_bool ?_))
  obtain ⟨m5, n5⟩ := O5.ns
  exact q h5 _ m5 O5.kg n5 O5.T1 O5.T2
end

theorem fn_at {K : Frag} {h : Heap} (X : K.In h) {f c : Addr} {nm : Str} {k : Nat} {doc pm ct : Value} {o oc : Obj} {vs : Array Value} {t : Tok} (e : K.lookup f = some o)
    (hd : o.data = .func (fnX nm nm (fArgs (stm k)) (fBody (stm k)) (fScope (stm k)) [] .none .none doc pm none (.ref c) ct)) (ec : K.lookup c = some oc) (hc : oc.data = .fields vs) (h1 : vs[1]? = some (.str nm t)) : FnAt h f k nm (.ref c) :=
  ⟨o, pm, doc, ct, X _ _ e, hd, c, oc, vs, t, rfl, X _ _ ec, hc, h1⟩
theorem red_at {K : Frag} {h : Heap} (X : K.In h) {f c T : Addr} {doc pm ct y : Value} {o oc oT : Obj} {vs : Array Value} {t : Tok} {n : Nat} (e : K.lookup f = some o)
    (hd : o.data = .func (fnX "reduce" "reduce" (fArgs (stm 3)) (fBody (stm 3)) (fScope (stm 3)) [] (.ref T) .none doc pm none (.ref c) ct)) (ec : K.lookup c = some oc) (hc : oc.data = .fields vs) (h1 : vs[1]? = some (.str "reduce" t)) (eT : K.lookup T = some oT) (hT : oT.data = .seq #[y] n) : RedAt h f (.ref c) :=
  ⟨o, pm, doc, ct, T, oT, y, n, X _ _ e, hd, ⟨c, oc, vs, t, rfl, X _ _ ec, hc, h1⟩, X _ _ eT, hT⟩
theorem with_lh {p : Program} {loose : List Str} {mean : ExcName → Option Value} {mg mb : Str → Option Value} {h : Heap} (T : Top p loose mean mg mb h) {goal : Prop} (H : LH h mg mb 16 73) (k : LH h mg mb 16 73 → goal) : goal := k H

/-! the pure law: the order that the sort finds -/
/-- what is known, with one fact more -/
def addK (kn : List (Nat × Nat)) (i j : Nat) : List (Nat × Nat) :=
  ((i :: (kn.filter fun x => x.2 == i).map (·.1)).flatMap fun a => (j :: (kn.filter fun x => x.1 == j).map (·.2)).map fun b => (a, b)) ++ kn
/-- a tree of questions, its answers a strict order: neighbours at the leaf are known, and the leaf is as ok asks -/
def chkT (ok : List Nat → Bool) : List (Nat × Nat) → KasT (Array Nat) → Bool
  | kn, .ret p => ((p.toList.zip p.toList.tail).all fun x => kn.contains x) && ok p.toList
  | kn, .ask i j k => (i != j) && (kn.contains (j, i) || chkT ok (addK kn i j) (k true)) && (kn.contains (i, j) || chkT ok (addK kn j i) (k false))
def Kn (m : Nat) (lt : Nat → Nat → Bool) (kn : List (Nat × Nat)) : Prop := ∀ x ∈ kn, x.1 < m ∧ x.2 < m ∧ lt x.1 x.2 = true
theorem Kn.add {m : Nat} {lt : Nat → Nat → Bool} (tr : ∀ a b d, a < m → b < m → d < m → lt a b = true → lt b d = true → lt a d = true) {kn : List (Nat × Nat)} {i j : Nat} (hk : Kn m lt kn) (hi : i < m) (hj : j < m) (h : lt i j = true) : Kn m lt (addK kn i j) := by
  have A : ∀ a ∈ i :: (kn.filter fun x => x.2 == i).map (·.1), a < m ∧ lt a j = true := by
    intro a ha
    rcases List.mem_cons.mp ha with rfl | ha
    · exact ⟨hi, h⟩
    · obtain ⟨x, hx, rfl⟩ := List.mem_map.mp ha
      obtain ⟨hx, e⟩ := List.mem_filter.mp hx
      obtain ⟨h1, h2, h3⟩ := hk x hx
      have e : x.2 = i := by simpa using e
      rw [e] at h3
      exact ⟨h1, tr _ _ _ h1 hi hj h3 h⟩
  intro x hx
  unfold addK at hx
  rcases List.mem_append.mp hx with hx | hx
  · obtain ⟨a, ha, hx⟩ := List.mem_flatMap.mp hx
    obtain ⟨b, hb, rfl⟩ := List.mem_map.mp hx
    obtain ⟨h1, h2⟩ := A a ha
    rcases List.mem_cons.mp hb with rfl | hb
    · exact ⟨h1, hj, h2⟩
    · obtain ⟨y, hy, rfl⟩ := List.mem_map.mp hb
      obtain ⟨hy, e⟩ := List.mem_filter.mp hy
      obtain ⟨g1, g2, g3⟩ := hk y hy
      have e : y.1 = j := by simpa using e
      rw [e] at g3
      exact ⟨h1, g2, tr _ _ _ h1 hj g2 h2 g3⟩
  · exact hk x hx
theorem chk_ev {ok : List Nat → Bool} {m : Nat} {lt : Nat → Nat → Bool} (tot : ∀ i j, i < m → j < m → i ≠ j → lt i j = !lt j i) (tr : ∀ a b d, a < m → b < m → d < m → lt a b = true → lt b d = true → lt a d = true) :
    ∀ (t : KasT (Array Nat)) (kn : List (Nat × Nat)), okT m t = true → Kn m lt kn → chkT ok kn t = true →
    (∀ x ∈ (ev lt t).toList.zip (ev lt t).toList.tail, lt x.1 x.2 = true) ∧ ok (ev lt t).toList = true
  | .ret p, kn, _, hk, h => by
    unfold chkT at h
    simp only [Bool.and_eq_true] at h
    refine ⟨fun x hx => (hk x ?_).2.2, h.2⟩
    have := List.all_eq_true.mp h.1 x hx
    simpa using this
  | .ask i j k, kn, hok, hk, h => by
    unfold chkT at h
    unfold okT at hok
    simp only [Bool.and_eq_true, decide_eq_true_eq, bne_iff_ne, Bool.or_eq_true] at h hok
    obtain ⟨⟨⟨o1, o2⟩, o3⟩, o4⟩ := hok
    obtain ⟨⟨hne, ht⟩, hf⟩ := h
    have e := tot i j o1 o2 hne
    show (∀ x ∈ (ev lt (k (lt i j))).toList.zip (ev lt (k (lt i j))).toList.tail, lt x.1 x.2 = true) ∧ ok (ev lt (k (lt i j))).toList = true
    cases hl : lt i j with
    | true =>
      rw [hl] at e
      rcases ht with c | c
      · have := (hk (j, i) (by simpa using c)).2.2
        simp only at this
        rw [this] at e; cases e
      · exact chk_ev tot tr (k true) _ o3 (hk.add tr o1 o2 hl) c
    | false =>
      rw [hl] at e
      have hji : lt j i = true := by
        cases z : lt j i with
        | true => rfl
        | false => rw [z] at e; cases e
      rcases hf with c | c
      · have := (hk (i, j) (by simpa using c)).2.2
        simp only at this
        rw [this] at hl; cases hl
      · exact chk_ev tot tr (k false) _ o4 (hk.add tr o2 o1 hji) c
def permB (m : Nat) (o : List Nat) : Bool := o.isPerm (List.range m)
theorem leaf3 : chkT (permB 3) [] (kas_sort 3) = true := by decide +kernel
theorem leaf5 : chkT (permB 5) [] (kas_sort 5) = true := by decide +kernel
theorem getD_zip {o : List Nat} {s : Nat} (h : s + 1 < o.length) : (o.getD s 0, o.getD (s + 1) 0) ∈ o.zip o.tail := by
  have h0 : s < o.length := by omega
  have h1 : s < o.tail.length := by rw [List.length_tail]; omega
  have e : (o.zip o.tail)[s]'(by rw [List.length_zip]; omega) = (o.getD s 0, o.getD (s + 1) 0) := by
    rw [List.getElem_zip, List.getD_eq_getElem?_getD, List.getD_eq_getElem?_getD, List.getElem?_eq_getElem h0, List.getElem?_eq_getElem h, List.getElem_tail]
    rfl
  rw [← e]
  exact List.getElem_mem _
theorem lt_all {m : Nat} {lt : Nat → Nat → Bool} {o : List Nat} (tr : ∀ a b d, a < m → b < m → d < m → lt a b = true → lt b d = true → lt a d = true) (hb : ∀ a ∈ o, a < m) (ad : ∀ x ∈ o.zip o.tail, lt x.1 x.2 = true) :
    ∀ t s, s < t → t < o.length → lt (o.getD s 0) (o.getD t 0) = true
  | 0, s, h, _ => absurd h (Nat.not_lt_zero _)
  | t + 1, s, h, hl => by
    have h1 := ad _ (getD_zip hl)
    by_cases e : s = t
    · subst e; exact h1
    · exact tr _ _ _ (hb _ (getD_mem (by omega))) (hb _ (getD_mem (by omega))) (hb _ (getD_mem hl)) (lt_all tr hb ad t s (by omega) (by omega)) h1
/-! geometry -/
theorem cross_anti (p q : Int × Int) : cross p q = -cross q p := by unfold cross; omega
theorem cross_self (p : Int × Int) : cross p p = 0 := by unfold cross; omega
theorem cross_trans {p q r : Int × Int} (hp : 0 < p.1) (hq : 0 < q.1) (hr : 0 < r.1) (h1 : cross p q < 0) (h2 : cross q r < 0) : cross p r < 0 := by
  unfold cross at *
  rcases Int.lt_or_le (p.2 * r.1) (r.2 * p.1) with h | h
  · omega
  · exfalso
    have a1 : p.2 * q.1 < q.2 * p.1 := by omega
    have a2 : q.2 * r.1 < r.2 * q.1 := by omega
    have b1 : p.2 * q.1 * r.1 < q.2 * p.1 * r.1 := Int.mul_lt_mul_of_pos_right a1 hr
    have b2 : q.2 * r.1 * p.1 < r.2 * q.1 * p.1 := Int.mul_lt_mul_of_pos_right a2 hp
    have b3 : r.2 * p.1 * q.1 ≤ p.2 * r.1 * q.1 := Int.mul_le_mul_of_nonneg_right h (Int.le_of_lt hq)
    rw [Int.mul_right_comm p.2 q.1 r.1] at b1
    rw [Int.mul_right_comm q.2 p.1 r.1] at b1
    rw [Int.mul_right_comm r.2 q.1 p.1] at b2
    omega
/-- the sign of a number -/
def sgc (c : Int) : Int := if 0 < c then 1 else if c < 0 then -1 else 0
theorem sg_sgc (x y : Int) : sg x y = sgc (x - y) := by
  unfold sg sgc
  by_cases h1 : y < x <;> by_cases h2 : x < y
  · omega
  · rw [if_pos h1, if_pos (by omega)]
  · rw [if_neg h1, if_pos h2, if_neg (by omega), if_pos (by omega)]
  · rw [if_neg h1, if_neg h2, if_neg (by omega), if_neg (by omega)]
theorem sgc_neg (c : Int) : sgc (-c) = -sgc c := by
  unfold sgc
  by_cases h1 : 0 < c
  · rw [if_neg (by omega), if_pos (by omega), if_pos h1]
  · by_cases h2 : c < 0
    · rw [if_pos (by omega), if_neg h1, if_pos h2]; rfl
    · rw [if_neg (by omega), if_neg (by omega), if_neg h1, if_neg h2]; rfl
theorem sgAt_pos {z0 zk wy : Int × Int} (h : 0 ≤ zk.1 - z0.1) : sg (wy.1 * (zk.2 - z0.2)) (wy.2 * (zk.1 - z0.1)) = sgc (cross (wayOf z0 zk) wy) := by
  rw [sg_sgc]
  unfold wayOf cross
  rw [if_pos h]
  dsimp only
  rw [Int.mul_comm wy.1]
theorem sgAt_neg {z0 zk wy : Int × Int} (h : ¬ 0 ≤ zk.1 - z0.1) : sg (wy.1 * (zk.2 - z0.2)) (wy.2 * (zk.1 - z0.1)) = -sgc (cross (wayOf z0 zk) wy) := by
  rw [sg_sgc, ← sgc_neg]
  unfold wayOf cross
  rw [if_neg h]
  dsimp only
  congr 1
  rw [Int.neg_mul, Int.mul_neg, Int.mul_comm wy.1]
  omega
/-- no three of the points lie on a line -/
def ncK (a b i : Int) : Int := (a * a - i * i) * (b - i) - (b * b - i * i) * (a - i)
theorem ncB : ((List.range 6).all fun a => (List.range 6).all fun b => (List.range 6).all fun i => a == i || b == i || a == b || (ncK a b i % 1000 != 0)) = true := by decide +kernel
theorem ncE (a b i ua ub ui : Int) (h : ncK a b i % 1000 ≠ 0) : (a * a + 1000 * ua - (i * i + 1000 * ui)) * (b - i) - (b * b + 1000 * ub - (i * i + 1000 * ui)) * (a - i) ≠ 0 := by
  unfold ncK at h
  rw [show a * a + 1000 * ua - (i * i + 1000 * ui) = (a * a - i * i) + 1000 * (ua - ui) by omega, show b * b + 1000 * ub - (i * i + 1000 * ui) = (b * b - i * i) + 1000 * (ub - ui) by omega, Int.add_mul, Int.add_mul, Int.mul_assoc, Int.mul_assoc]
  generalize (a * a - i * i) * (b - i) = x at h ⊢
  generalize (b * b - i * i) * (a - i) = y at h ⊢
  generalize (ua - ui) * (b - i) = u
  generalize (ub - ui) * (a - i) = v
  clear a b i ua ub ui
  omega
theorem ncol {a b i : Nat} {ua ub ui : Int} (ha : a < 6) (hb : b < 6) (hi : i < 6) (h1 : a ≠ i) (h2 : b ≠ i) (h3 : a ≠ b) :
    ((a : Int) * a + 1000 * ua - ((i : Int) * i + 1000 * ui)) * ((b : Int) - i) - ((b : Int) * b + 1000 * ub - ((i : Int) * i + 1000 * ui)) * ((a : Int) - i) ≠ 0 := by
  refine ncE _ _ _ _ _ _ ?_
  have h := List.all_eq_true.mp (List.all_eq_true.mp (List.all_eq_true.mp ncB a (List.mem_range.mpr ha)) b (List.mem_range.mpr hb)) i (List.mem_range.mpr hi)
  simpa [h1, h2, h3] using h

/-! the pure law: all by the pattern of who lies to the right -/
theorem isort_perm_eq {a b : List Int} (p : a.Perm b) : isort a = isort b := isort_uniq ((isort_perm a).trans p) (isort_sorted a)
theorem mlow_perm {a b : List Int} (p : a.Perm b) : mlow a = mlow b := by unfold mlow; rw [isort_perm_eq p, p.length_eq]
theorem mhigh_perm {a b : List Int} (p : a.Perm b) : mhigh a = mhigh b := by unfold mhigh; rw [isort_perm_eq p, p.length_eq]
theorem sum_perm {a b : List Int} (p : a.Perm b) : a.sum = b.sum := by
  induction p with
  | nil => rfl
  | cons x _ ih => rw [List.sum_cons, List.sum_cons, ih]
  | swap x y l => simp only [List.sum_cons]; omega
  | trans _ _ h1 h2 => exact h1.trans h2
def SP (bs : List Bool) (t : Nat) : List Int := (List.range bs.length).map fun s => if bs.getD s false = true then sg (s : Int) t else -sg (s : Int) t
def passB (p : Int × List Int) (b : Bool) : Int × List Int := (if b = true then p.1 - 1 else p.1 + 1, p.2 ++ [if b = true then p.1 - 1 else p.1])
def LB (bs : List Bool) : List Int := (bs.foldl passB (((bs.countP id : Nat) : Int), [])).2
def restB (bs : List Bool) (t : Nat) : List Int := (SP bs t).filter fun x => x != 0
def hB (bs : List Bool) (t : Nat) : Bool := (mlow (restB bs t) == -1) && (mhigh (restB bs t) == 1)
def turnB (n : Nat) (bs : List Bool) (t : Nat) : Bool :=
  ((SP bs t).sum == 2 * (LB bs).getD t 0 - ((n : Int) - 2)) && (mlow (SP bs t) == sideOf n (LB bs) t) && (mhigh (SP bs t) == sideOf n (LB bs) t) && (decide (0 < (restB bs t).length))
def patP (n : Nat) (bs : List Bool) : Bool :=
  ((List.range (n - 1)).all (turnB n bs)) && (((List.range (n - 1)).filter (hB bs)).length % 2 == 1) && (!(bs.all id || bs.all not) || ((List.range (n - 1)).filter (hB bs) == [n / 2 - 1]))
theorem pat4 : ∀ a b c : Bool, patP 4 [a, b, c] = true := by decide +kernel
theorem pat6 : ∀ a b c d e : Bool, patP 6 [a, b, c, d, e] = true := by decide +kernel
theorem pat {n : Nat} (hn : n = 4 ∨ n = 6) {bs : List Bool} (h : bs.length + 1 = n) : patP n bs = true := by
  rcases hn with rfl | rfl
  · match bs, h with
    | [a, b, c], _ => exact pat4 a b c
  · match bs, h with
    | [a, b, c, d, e], _ => exact pat6 a b c d e
theorem pass_B (i : Nat) : ∀ (rs : List Nat) (p : Int × List Int), (rs.map Int.ofNat).foldl (passStep i) p = (rs.map fun r => decide (i < r)).foldl passB p
  | [], _ => rfl
  | r :: rs, p => by
    rw [List.map_cons, List.map_cons, List.foldl_cons, List.foldl_cons]
    have e : passStep i p (Int.ofNat r) = passB p (decide (i < r)) := by
      unfold passStep passB
      by_cases h : i < r
      · have h' : (i : Int) < Int.ofNat r := by show (i : Int) < (r : Int); omega
        rw [if_pos h', if_pos h', if_pos (by simpa using h), if_pos (by simpa using h)]
      · have h' : ¬ (i : Int) < Int.ofNat r := by show ¬ (i : Int) < (r : Int); omega
        rw [if_neg h', if_neg h', if_neg (by simpa using h), if_neg (by simpa using h)]
    rw [e]
    exact pass_B i rs _
theorem map_getD {α β : Type} (f : α → β) (l : List α) (d : α) (e : β) {k : Nat} (h : k < l.length) : (l.map f).getD k e = f (l.getD k d) := by
  rw [List.getD_eq_getElem?_getD, List.getD_eq_getElem?_getD, List.getElem?_map, List.getElem?_eq_getElem h]; rfl
theorem range_map_getD (l : List Nat) : ((List.range l.length).map fun k => l.getD k 0) = l := by
  apply List.ext_getElem
  · rw [List.length_map, List.length_range]
  · intro k h1 h2
    rw [List.getElem_map, List.getElem_range, List.getD_eq_getElem?_getD, List.getElem?_eq_getElem h2]; rfl
theorem oth_cnt {n i : Nat} (hn : n = 4 ∨ n = 6) (hi : i < n) : (((othJ n i).map fun r => decide (i < r)).countP id : Nat) = n - 1 - i := by
  rcases hn with rfl | rfl
  · have : i = 0 ∨ i = 1 ∨ i = 2 ∨ i = 3 := by omega
    rcases this with rfl | rfl | rfl | rfl <;> rfl
  · have : i = 0 ∨ i = 1 ∨ i = 2 ∨ i = 3 ∨ i = 4 ∨ i = 5 := by omega
    rcases this with rfl | rfl | rfl | rfl | rfl | rfl <;> rfl
theorem oth_ne {n i j : Nat} (h : j ∈ othJ n i) : j ≠ i := by simpa using (List.mem_filter.mp h).2
theorem oth_pw (n i : Nat) : (othJ n i).Pairwise (· < ·) := List.Pairwise.filter _ List.pairwise_lt_range
theorem oth_inj {n i a b : Nat} (ha : a < (othJ n i).length) (hb : b < (othJ n i).length) (h : a ≠ b) : (othJ n i).getD a 0 ≠ (othJ n i).getD b 0 := by
  rw [List.getD_eq_getElem?_getD, List.getD_eq_getElem?_getD, List.getElem?_eq_getElem ha, List.getElem?_eq_getElem hb]
  have P := List.pairwise_iff_getElem.mp (oth_pw n i)
  rcases Nat.lt_or_gt_of_ne h with q | q
  · exact Nat.ne_of_lt (P a b ha hb q)
  · exact Nat.ne_of_gt (P b a hb ha q)
section
variable {zs : List (Int × Int)} {n i : Nat}
theorem ws_get {k : Nat} (hk : k < zs.length) : (wsOf zs i).getD k (0, 0) = wayOf (zs.getD i (0, 0)) (zs.getD k (0, 0)) := map_getD _ _ _ _ hk
theorem ws_pos (U : Nat → Int) (hz : ∀ k < n, zs.getD k (0, 0) = ((k : Int), (k : Int) * k + 1000 * U k)) (hl : zs.length = n) (hi : i < n) {a : Nat} (ha : a ∈ othJ n i) : 0 < ((wsOf zs i).getD a (0, 0)).1 := by
  have h1 := oth_lt ha
  have h2 := oth_ne ha
  rw [ws_get (by omega), hz i hi, hz a h1]
  unfold wayOf
  dsimp only
  split <;> dsimp only <;> omega
theorem ws_ncol (U : Nat → Int) (hz : ∀ k < n, zs.getD k (0, 0) = ((k : Int), (k : Int) * k + 1000 * U k)) (hl : zs.length = n) (hn : n = 4 ∨ n = 6) (hi : i < n) {a b : Nat} (ha : a ∈ othJ n i) (hb : b ∈ othJ n i) (hab : a ≠ b) : cross ((wsOf zs i).getD a (0, 0)) ((wsOf zs i).getD b (0, 0)) ≠ 0 := by
  have h1 := oth_lt ha
  have h2 := oth_ne ha
  have g1 := oth_lt hb
  have g2 := oth_ne hb
  have hn6 : n ≤ 6 := by omega
  have N := @ncol a b i (U a) (U b) (U i) (Nat.lt_of_lt_of_le h1 hn6) (Nat.lt_of_lt_of_le g1 hn6) (Nat.lt_of_lt_of_le hi hn6) h2 g2 hab
  rw [ws_get (by omega), ws_get (by omega), hz i hi, hz a h1, hz b g1]
  unfold wayOf cross
  dsimp only
  by_cases q1 : (0 : Int) ≤ (a : Int) - i <;> by_cases q2 : (0 : Int) ≤ (b : Int) - i
  · rw [if_pos q1, if_pos q2]; exact N
  · rw [if_pos q1, if_neg q2]; dsimp only; rw [Int.mul_neg, Int.neg_mul]; omega
  · rw [if_neg q1, if_pos q2]; dsimp only; rw [Int.mul_neg, Int.neg_mul]; omega
  · rw [if_neg q1, if_neg q2]; dsimp only; rw [Int.mul_neg, Int.neg_mul, Int.mul_neg, Int.neg_mul]; omega
end

theorem okT_of {n m : Nat} (hn : n = 4 ∨ n = 6) (hm : m + 1 = n) : chkT (permB m) [] (kas_sort m) = true := by
  rcases hn with rfl | rfl
  · obtain rfl : m = 3 := by omega
    exact leaf3
  · obtain rfl : m = 5 := by omega
    exact leaf5
theorem map_range_getD (f : Nat → Int) (l : List Nat) : l.map f = (List.range l.length).map fun s => f (l.getD s 0) := by
  conv => lhs; rw [← range_map_getD l]
  rw [List.map_map]; rfl
section
variable {zs : List (Int × Int)} {n i : Nat}
theorem order (U : Nat → Int) (hz : ∀ k < n, zs.getD k (0, 0) = ((k : Int), (k : Int) * k + 1000 * U k)) (hl : zs.length = n) (hn : n = 4 ∨ n = 6) (hi : i < n) :
    (ordJ (wsOf zs i) (othJ n i)).Perm (List.range (othJ n i).length) ∧
    ∀ s t, s < t → t < (othJ n i).length → cross ((wsOf zs i).getD ((rsOf zs n i).getD s 0) (0, 0)) ((wsOf zs i).getD ((rsOf zs n i).getD t 0) (0, 0)) < 0 := by
  have hol := oth_len hi hn
  obtain ⟨o1, o2, o3⟩ := oks hn hol
  have wp : ∀ a < (othJ n i).length, 0 < ((wsOf zs i).getD ((othJ n i).getD a 0) (0, 0)).1 := fun a ha => ws_pos U hz hl hi (getD_mem ha)
  have tr : ∀ a b d, a < (othJ n i).length → b < (othJ n i).length → d < (othJ n i).length → ltJ (wsOf zs i) (othJ n i) a b = true → ltJ (wsOf zs i) (othJ n i) b d = true → ltJ (wsOf zs i) (othJ n i) a d = true := by
    intro a b d ha hb hd h1 h2
    unfold ltJ at *
    simp only [decide_eq_true_eq] at *
    exact cross_trans (wp a ha) (wp b hb) (wp d hd) h1 h2
  have tot : ∀ a b, a < (othJ n i).length → b < (othJ n i).length → a ≠ b → ltJ (wsOf zs i) (othJ n i) a b = !ltJ (wsOf zs i) (othJ n i) b a := by
    intro a b ha hb hab
    unfold ltJ
    have h0 := ws_ncol U hz hl hn hi (getD_mem ha) (getD_mem hb) (oth_inj ha hb hab)
    have h1 := cross_anti ((wsOf zs i).getD ((othJ n i).getD a 0) (0, 0)) ((wsOf zs i).getD ((othJ n i).getD b 0) (0, 0))
    by_cases q : cross ((wsOf zs i).getD ((othJ n i).getD a 0) (0, 0)) ((wsOf zs i).getD ((othJ n i).getD b 0) (0, 0)) < 0
    · rw [decide_eq_true q, decide_eq_false (by omega)]; rfl
    · rw [decide_eq_false q, decide_eq_true (by omega)]; rfl
  obtain ⟨ad, pm⟩ := chk_ev tot tr _ [] o1 (fun x hx => by cases hx) (okT_of hn hol)
  have P : (ordJ (wsOf zs i) (othJ n i)).Perm (List.range (othJ n i).length) := List.isPerm_iff.mp pm
  refine ⟨P, fun s t hst ht => ?_⟩
  have hlen : (ordJ (wsOf zs i) (othJ n i)).length = (othJ n i).length := by rw [P.length_eq, List.length_range]
  have := lt_all tr (fun a ha => List.mem_range.mp (P.mem_iff.mp ha)) ad t s hst (by show t < (ordJ (wsOf zs i) (othJ n i)).length; omega)
  unfold ltJ at this
  simp only [decide_eq_true_eq] at this
  unfold rsOf rowJ
  rw [map_getD _ _ 0 _ (by omega), map_getD _ _ 0 _ (by omega)]
  exact this
theorem rs_perm (U : Nat → Int) (hz : ∀ k < n, zs.getD k (0, 0) = ((k : Int), (k : Int) * k + 1000 * U k)) (hl : zs.length = n) (hn : n = 4 ∨ n = 6) (hi : i < n) : (rsOf zs n i).Perm (othJ n i) := by
  have h := ((order U hz hl hn hi).1).map (fun k => (othJ n i).getD k 0)
  rw [range_map_getD] at h
  exact h
/-- the sign of two of the row -/
theorem cross_row (U : Nat → Int) (hz : ∀ k < n, zs.getD k (0, 0) = ((k : Int), (k : Int) * k + 1000 * U k)) (hl : zs.length = n) (hn : n = 4 ∨ n = 6) (hi : i < n) {s t : Nat} (hs : s < (rsOf zs n i).length) (ht : t < (rsOf zs n i).length) :
    sgc (cross ((wsOf zs i).getD ((rsOf zs n i).getD s 0) (0, 0)) ((wsOf zs i).getD ((rsOf zs n i).getD t 0) (0, 0))) = sg (s : Int) t := by
  have hrl := rs_len (zs := zs) hi hn
  have hol := oth_len hi hn
  have h := (order U hz hl hn hi).2
  rcases Nat.lt_trichotomy s t with q | q | q
  · have := h s t q (by omega)
    unfold sgc sg
    rw [if_neg (by omega), if_pos this, if_neg (by omega), if_pos (by omega)]
  · subst q
    rw [cross_self]
    unfold sgc sg
    rw [if_neg (by omega), if_neg (by omega), if_neg (by omega), if_neg (by omega)]
  · have := h t s q (by omega)
    rw [cross_anti] at this
    unfold sgc sg
    rw [if_pos (by omega), if_pos (by omega)]
def bsOf (zs : List (Int × Int)) (n i : Nat) : List Bool := (rsOf zs n i).map fun r => decide (i < r)
theorem bs_get {s : Nat} (hs : s < (rsOf zs n i).length) : (bsOf zs n i).getD s false = decide (i < (rsOf zs n i).getD s 0) := map_getD _ _ _ _ hs
theorem bs_len : (bsOf zs n i).length = (rsOf zs n i).length := List.length_map _
theorem sgs_perm (U : Nat → Int) (hz : ∀ k < n, zs.getD k (0, 0) = ((k : Int), (k : Int) * k + 1000 * U k)) (hl : zs.length = n) (hn : n = 4 ∨ n = 6) (hi : i < n) {t : Nat} (ht : t < (rsOf zs n i).length) :
    (sgsOf zs (wsOf zs i) i (othJ n i) (rsOf zs n i) t).Perm (SP (bsOf zs n i) t) := by
  have hp := ((rs_perm U hz hl hn hi).map (sgAt zs (zs.getD i (0, 0)) ((wsOf zs i).getD ((rsOf zs n i).getD t 0) (0, 0)))).symm
  unfold sgsOf
  refine hp.trans (List.Perm.of_eq ?_)
  unfold SP
  rw [bs_len]
  rw [map_range_getD]
  apply List.map_congr_left
  intro s hs
  have hs := List.mem_range.mp hs
  show sgAt _ _ _ ((rsOf zs n i).getD s 0) = _
  have hm := rs_mem (zs := zs) hi hn (getD_mem hs)
  have h1 := oth_lt hm
  have h2 := oth_ne hm
  rw [bs_get hs, ← cross_row U hz hl hn hi hs ht]
  unfold sgAt
  have e1 : ((zs.getD ((rsOf zs n i).getD s 0) (0, 0)).1 - (zs.getD i (0, 0)).1) = (((rsOf zs n i).getD s 0 : Nat) : Int) - i := by rw [hz _ h1, hz _ hi]
  by_cases q : i < (rsOf zs n i).getD s 0
  · rw [if_pos (decide_eq_true q), sgAt_pos (by rw [e1]; omega), ws_get (by omega : (rsOf zs n i).getD s 0 < zs.length)]
  · rw [if_neg (by simpa using q), sgAt_neg (by rw [e1]; omega), ws_get (by omega : (rsOf zs n i).getD s 0 < zs.length)]
theorem lefts_B (U : Nat → Int) (hz : ∀ k < n, zs.getD k (0, 0) = ((k : Int), (k : Int) * k + 1000 * U k)) (hl : zs.length = n) (hn : n = 4 ∨ n = 6) (hi : i < n) : leftsOf n i (rsOf zs n i) = LB (bsOf zs n i) := by
  unfold leftsOf LB bsOf
  rw [pass_B]
  have hc : ((rsOf zs n i).map fun r => decide (i < r)).countP id = n - 1 - i := by
    rw [((rs_perm U hz hl hn hi).map (fun r => decide (i < r))).countP_eq id]
    exact oth_cnt hn hi
  rw [hc, show ((n : Int) - 1 - (i : Int)) = ((n - 1 - i : Nat) : Int) by omega]
theorem half_B (U : Nat → Int) (hz : ∀ k < n, zs.getD k (0, 0) = ((k : Int), (k : Int) * k + 1000 * U k)) (hl : zs.length = n) (hn : n = 4 ∨ n = 6) (hi : i < n) {t : Nat} (ht : t < (rsOf zs n i).length) :
    halfB zs (wsOf zs i) i (othJ n i) (rsOf zs n i) t = hB (bsOf zs n i) t := by
  have p := (sgs_perm U hz hl hn hi ht).filter (fun x => x != 0)
  unfold halfB hB
  rw [show mlow (restOf zs (wsOf zs i) i (othJ n i) (rsOf zs n i) t) = mlow (restB (bsOf zs n i) t) from mlow_perm p, show mhigh (restOf zs (wsOf zs i) i (othJ n i) (rsOf zs n i) t) = mhigh (restB (bsOf zs n i) t) from mhigh_perm p]
theorem hvUp_B (U : Nat → Int) (hz : ∀ k < n, zs.getD k (0, 0) = ((k : Int), (k : Int) * k + 1000 * U k)) (hl : zs.length = n) (hn : n = 4 ∨ n = 6) (hi : i < n) :
    hvUp zs (wsOf zs i) i (othJ n i) (rsOf zs n i) (rsOf zs n i).length = ((List.range (n - 1)).filter (hB (bsOf zs n i))).map fun t => (((rsOf zs n i).getD t 0 : Nat) : Int) := by
  have hrl := rs_len (zs := zs) hi hn
  unfold hvUp
  rw [show (rsOf zs n i).length = n - 1 by omega]
  congr 1
  apply List.filter_congr
  intro t ht
  exact half_B U hz hl hn hi (by have := List.mem_range.mp ht; omega)
end

theorem sg0 {c : Int} {s d : Nat} (h : sgc c = sg (d : Int) s) : (c == 0) = (s == d) := by
  rw [Bool.eq_iff_iff, beq_iff_eq, beq_iff_eq]
  unfold sgc sg at h
  split at h <;> split at h <;> first | omega | (split at h <;> first | omega | (split at h <;> omega))
theorem sgn {c : Int} {s d : Nat} (h : sgc c = sg (s : Int) d) : decide (c < 0) = decide (s < d) := by
  rw [decide_eq_decide]
  unfold sgc sg at h
  split at h <;> split at h <;> first | omega | (split at h <;> first | omega | (split at h <;> omega))
theorem filt_eq {m d : Nat} (h : (m = 3 ∧ d = 1) ∨ (m = 5 ∧ d = 2)) : ((List.range m).filter fun s => s == d) = [d] ∧ ((List.range m).filter fun s => decide (s < d)) = (List.range m).take d := by
  rcases h with ⟨rfl, rfl⟩ | ⟨rfl, rfl⟩ <;> exact ⟨rfl, rfl⟩
theorem filt_range (p : Nat → Bool) (l : List Nat) : l.filter p = ((List.range l.length).filter fun s => p (l.getD s 0)).map fun s => l.getD s 0 := by
  conv => lhs; rw [← range_map_getD l]
  rw [List.filter_map]; rfl
section
variable {zs : List (Int × Int)} {n i : Nat}
theorem mid_ok (U : Nat → Int) (hz : ∀ k < n, zs.getD k (0, 0) = ((k : Int), (k : Int) * k + 1000 * U k)) (hl : zs.length = n) (hn : n = 4 ∨ n = 6) (hi : i < n) : midB (wsOf zs i) (othJ n i) (rsOf zs n i) = true := by
  have hrl := rs_len (zs := zs) hi hn
  have hol := oth_len hi hn
  have hrl' : (rsOf zs n i).length = n - 1 := by omega
  have hP := order U hz hl hn hi
  have hlen : (ordJ (wsOf zs i) (othJ n i)).length = n - 1 := by rw [hP.1.length_eq, List.length_range]; omega
  have hd : (n - 1 = 3 ∧ (n - 1) / 2 = 1) ∨ (n - 1 = 5 ∧ (n - 1) / 2 = 2) := by omega
  have hd2 : (n - 1 - 1) / 2 = (n - 1) / 2 := by omega
  obtain ⟨f1, f2⟩ := filt_eq hd
  have hdm : (n - 1) / 2 < (rsOf zs n i).length := by omega
  have er : (othJ n i).getD ((ordJ (wsOf zs i) (othJ n i)).getD ((n - 1) / 2) 0) 0 = (rsOf zs n i).getD ((n - 1) / 2) 0 := by
    unfold rsOf rowJ
    rw [map_getD _ _ 0 _ (by omega)]
  have q1 : ∀ s, s ∈ List.range (n - 1) → (cross ((wsOf zs i).getD ((rsOf zs n i).getD ((n - 1) / 2) 0) (0, 0)) ((wsOf zs i).getD ((rsOf zs n i).getD s 0) (0, 0)) == 0) = (s == (n - 1) / 2) := by
    intro s hs
    have hs := List.mem_range.mp hs
    have := cross_row U hz hl hn hi hdm (by omega : s < (rsOf zs n i).length)
    exact sg0 this
  have q2 : ∀ s, s ∈ List.range (n - 1) → (decide (cross ((wsOf zs i).getD ((rsOf zs n i).getD s 0) (0, 0)) ((wsOf zs i).getD ((rsOf zs n i).getD ((n - 1) / 2) 0) (0, 0)) < 0)) = decide (s < (n - 1) / 2) := by
    intro s hs
    have hs := List.mem_range.mp hs
    have := cross_row U hz hl hn hi (by omega : s < (rsOf zs n i).length) hdm
    exact sgn this
  have r1 : ((rsOf zs n i).filter fun j => cross ((wsOf zs i).getD ((rsOf zs n i).getD ((n - 1) / 2) 0) (0, 0)) ((wsOf zs i).getD j (0, 0)) == 0) = [(rsOf zs n i).getD ((n - 1) / 2) 0] := by
    rw [filt_range, hrl', List.filter_congr q1, f1]; rfl
  have p1 : ((othJ n i).filter fun j => cross ((wsOf zs i).getD ((rsOf zs n i).getD ((n - 1) / 2) 0) (0, 0)) ((wsOf zs i).getD j (0, 0)) == 0) = [(rsOf zs n i).getD ((n - 1) / 2) 0] := by
    have := ((rs_perm U hz hl hn hi).filter (fun j => cross ((wsOf zs i).getD ((rsOf zs n i).getD ((n - 1) / 2) 0) (0, 0)) ((wsOf zs i).getD j (0, 0)) == 0)).symm
    rw [r1] at this
    exact List.perm_singleton.mp this
  have r2 : ((rsOf zs n i).filter fun j => decide (cross ((wsOf zs i).getD j (0, 0)) ((wsOf zs i).getD ((rsOf zs n i).getD ((n - 1) / 2) 0) (0, 0)) < 0)) = (rsOf zs n i).take ((n - 1) / 2) := by
    rw [filt_range, hrl', List.filter_congr q2, f2, List.map_take, ← hrl', range_map_getD]
  rw [midB_n (n := n - 1) (by omega) (by omega), hd2, er, p1, r2]
  simp
theorem pf_of (U : Nat → Int) (hz : ∀ k < n, zs.getD k (0, 0) = ((k : Int), (k : Int) * k + 1000 * U k)) (hl : zs.length = n) (hn : n = 4 ∨ n = 6) (hi : i < n) : PF zs n i := by
  have hrl := rs_len (zs := zs) hi hn
  have hpat := pat hn (bs := bsOf zs n i) (by rw [bs_len]; exact hrl)
  unfold patP at hpat
  simp only [Bool.and_eq_true] at hpat
  obtain ⟨⟨ht, hodd⟩, hend⟩ := hpat
  have hlf := lefts_B U hz hl hn hi
  have T : ∀ t < (rsOf zs n i).length, turnB n (bsOf zs n i) t = true := fun t ht' => List.all_eq_true.mp ht t (List.mem_range.mpr (by omega))
  have T' : ∀ t < (rsOf zs n i).length, (((SP (bsOf zs n i) t).sum = 2 * (LB (bsOf zs n i)).getD t 0 - ((n : Int) - 2) ∧ mlow (SP (bsOf zs n i) t) = sideOf n (LB (bsOf zs n i)) t) ∧ mhigh (SP (bsOf zs n i) t) = sideOf n (LB (bsOf zs n i)) t) ∧ 0 < (restB (bsOf zs n i) t).length := fun t ht' => by
    have := T t ht'
    unfold turnB at this
    simpa only [Bool.and_eq_true, beq_iff_eq, decide_eq_true_eq] using this
  refine ⟨fun t h => ?_, fun t h => ?_, fun t h => ?_, fun t h => ?_, ?_, fun hc => ?_⟩
  · rw [sum_perm (sgs_perm U hz hl hn hi h), hlf]; exact (T' t h).1.1.1
  · rw [mlow_perm (sgs_perm U hz hl hn hi h), hlf]; exact (T' t h).1.1.2
  · rw [mhigh_perm (sgs_perm U hz hl hn hi h), hlf]; exact (T' t h).1.2
  · have p := (sgs_perm U hz hl hn hi h).filter (fun x => x != 0)
    rw [show (restOf zs (wsOf zs i) i (othJ n i) (rsOf zs n i) t).length = (restB (bsOf zs n i) t).length from p.length_eq]; exact (T' t h).2
  · rw [hvUp_B U hz hl hn hi, List.length_map]; simpa using hodd
  · refine ⟨?_, mid_ok U hz hl hn hi⟩
    have hb : (bsOf zs n i).all id = true ∨ (bsOf zs n i).all not = true := by
      rcases hc with rfl | hc
      · refine .inl (List.all_eq_true.mpr fun b hb => ?_)
        obtain ⟨r, hr, rfl⟩ := List.mem_map.mp hb
        have := oth_ne (rs_mem hi hn hr)
        exact decide_eq_true (by omega)
      · refine .inr (List.all_eq_true.mpr fun b hb => ?_)
        obtain ⟨r, hr, rfl⟩ := List.mem_map.mp hb
        have := oth_lt (rs_mem hi hn hr)
        rw [decide_eq_false (by omega)]; rfl
    rw [hvUp_B U hz hl hn hi]
    have : (List.range (n - 1)).filter (hB (bsOf zs n i)) = [n / 2 - 1] := by
      rcases hb with hb | hb
      · rw [hb] at hend; simpa using hend
      · rw [hb] at hend; simpa using hend
    rw [this]; rfl
end
theorem PFall (ns : List Int) : ∀ i < nOf ns.length, PF (ptsOf ns (nOf ns.length)) (nOf ns.length) i := fun i hi =>
  pf_of (fun k => (pickNums ns (some (k : Int)) none (some ((nOf ns.length : Nat) : Int))).sum + offs.getD k 0) (fun k hk => by
    unfold ptsOf
    rw [map_getD _ _ 0 _ (by rw [List.length_range]; exact hk), range_getD hk]
    rfl) (pts_len _ _) (nOf_or _) hi

end Mine
end

open PySem PySem.W PyProof.Rows
open Mine
set_option maxHeartbeats 8000000 in
theorem PySem.Challenge.cw_op0018_01_holds : PySem.Challenge.rw_op0018_01.Holds := by
  w_on; o_law; k_head; (case hw => w_witness2)
  case hc =>
    k_go0
    rename Frag.In _ (ghostOf _ _) => X1
    rename Top topProg _ _ _ _ _ => T1
    rename Fr _ _ _ _ => F1
    rename News _ _ _ _ => N1
    rename IntsAre _ _ => hI
    rename ¬ _ => hlen
    rename Heap.IsList (ghostOf _ _) _ _ => hl
    rename_i w5 w4 w3 w2 w1 w0 d6 d5 d4 d3 d2 d1 x0 k0 ch20 l0
    refine with_lh T1 ?yy_h1 (fun Z => ?yy_h2)
    case yy_h1 =>
      refine ⟨⟨⟨T1.g, T1.b, T1.builtins, T1.nolimit, T1.bmain⟩, ⟨_, .ref 63, mg_of X1 T1.g (by k_is), ?_⟩, ⟨_, .ref 49, mg_of X1 T1.g (by k_is), ?_⟩, ⟨_, .ref 56, mg_of X1 T1.g (by k_is), ?_⟩, mg_none_of X1 T1.g (by k_is), mg_none_of X1 T1.g (by k_is), mg_none_of X1 T1.g (by k_is), mg_none_of X1 T1.g (by k_is), mg_none_of X1 T1.g (by k_is), mg_none_of X1 T1.g (by k_is)⟩,
        ⟨_, .ref 70, mg_of X1 T1.g (by k_is), ?_⟩, ⟨_, 77, mg_of X1 T1.g (by k_is), ?_, codeHd⟩, ⟨_, 20, mg_of X1 T1.g (by k_is), ?_, ch20⟩, ⟨_, .ref 29, mg_of X1 T1.g (by k_is), ?yy_red⟩, ⟨_, .ref 84, mg_of X1 T1.g (by k_is), ?_⟩, ⟨_, .ref 89, mg_of X1 T1.g (by k_is), ?_⟩, ⟨_, _, mg_of X1 T1.g (by k_is), X1 _ _ (by k_is), rfl⟩, ⟨_, mg_of X1 T1.g (by k_is)⟩, mg_none_of X1 T1.g (by k_is), mg_none_of X1 T1.g (by k_is), by decide, ?yy_g1, ?yy_g2⟩
      case yy_g1 => exact (N1 (16, tabObj #[]) (by simp)).2.2
      case yy_g2 => exact (N1 (73, tabObj #[]) (by simp)).2.2
      case yy_red => exact red_at X1 (by k_is) (by rfl) (by k_is) (by rfl) (by rfl) (by k_is) (by rfl)
      all_goals exact fn_at X1 (by k_is) (by rfl) (by k_is) (by rfl) (by rfl)
    case yy_h2 =>
      show wpAny _ _ (execs (fBody (stm 15)) (lawEnv _ _ _)) _ _ _
      refine c_law Z ?yy_tp ?yy_hh ?yy_hroom ?yy_hun ?yy_gL F1.keep F1.ns ?yy_c1 ⟨w1, (N1 (_, w1) (by simp)).1, d2⟩ ⟨w2, (N1 (_, w2) (by simp)).1, d3⟩ ⟨w3, (N1 (_, w3) (by simp)).1, d4⟩ ⟨w4, (N1 (_, w4) (by simp)).1, d5⟩ ⟨w5, (N1 (_, w5) (by simp)).1, d6⟩ (isList_keeps hl F1.keep) hI ?yy_hz ?yy_t1 ?yy_t2 (Mine.PFall _) ?yy_q
      case yy_tp => exact looks_nsIn X1 (by k_is)
      case yy_hh => rfl
      case yy_hroom => show 1 + claimMargin + 1 + 40 < 1000; decide
      case yy_hun => show 4 + 3 + 300 < 9900; decide
      case yy_gL =>
        intro j
        cases z : Heap.get? (ghostOf _ _) _ with
        | none => rfl
        | some o => exact absurd (Nat.lt_of_lt_of_le (Heap.lt_size z) F1.above) (Nat.not_lt.mpr (Nat.le_add_right _ _))
      case yy_c1 => exact ⟨w0, (N1 (_, w0) (by simp)).1, d1⟩
      case yy_hz => omega
      case yy_t1 => exact .inl (N1 (16, tabObj #[]) (by simp)).1
      case yy_t2 => exact .inl (N1 (73, tabObj #[]) (by simp)).1
      case yy_q =>
        intro h' tk m' kg n t1 t2
        refine ⟨goodW_bool ⟨n, kg, F1.above⟩ ?_ (fun _ => rfl) ?_, ?_⟩
        · assumption
        · wrow_post
        · refine ⟨?_, ?_, True.intro⟩
          · obtain ⟨ps, e, _⟩ := t1.tab
            exact ⟨ps, e⟩
          · rcases t2 with e | ⟨c, e, _⟩
            · exact ⟨_, e⟩
            · exact ⟨_, e⟩
