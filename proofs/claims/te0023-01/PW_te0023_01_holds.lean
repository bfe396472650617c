import PyProof.Rows.All
import Wide.All
import OpenK.AllK
import Wide.FinOn
import Lean
import PySem.Challenge.RW_te0023_01
open PySem PySem.W PyProof.Rows
set_option Elab.async false
set_option maxRecDepth 100000
set_option maxHeartbeats 1000000
namespace Mine
/-! names for the parts of the text, by projection -/
abbrev PRG : Program := PySem.Challenge.pw_te0023_01
def nth (i : Nat) : Stmt := (PRG.main.body[i]?).getD (.Pass ⟨0, 0, 0, 0⟩)
def prmOf : Stmt → Arguments
  | .FunctionDef _ a _ _ _ _ _ _ _ _ => a
  | _ => { posonlyargs := [], args := [], vararg := none, kwonlyargs := [], kw_defaults := [], kwarg := none, defaults := [] }
def bodOf : Stmt → List Stmt
  | .FunctionDef _ _ b _ _ _ _ _ _ _ => b
  | .ClassDef _ _ _ b _ _ _ _ _ _ _ => b
  | _ => []
def scpOf : Stmt → Scope
  | .FunctionDef _ _ _ _ _ _ s _ _ _ => s
  | _ => { kind := .module, names := [], isGenerator := false, isCoroutine := false, more := [] }
def sub (s : Stmt) (i : Nat) : Stmt := ((bodOf s)[i]?).getD (.Pass ⟨0, 0, 0, 0⟩)

def sBis : Stmt := nth 1
def sTrie : Stmt := nth 2
def sSigns : Stmt := nth 4
def sWord : Stmt := nth 5
def sLongest : Stmt := nth 6
def sAlong : Stmt := nth 7
def sPrefix : Stmt := nth 8
def sNumber : Stmt := nth 9
def sLaw : Stmt := nth 10
def sInit : Stmt := sub sTrie 0
def sCont : Stmt := sub sTrie 1
def sGet : Stmt := sub sTrie 3
def sHas : Stmt := sub sTrie 4
def sLp : Stmt := sub sTrie 5

def nameOfS : Stmt → Str
  | .FunctionDef n _ _ _ _ _ _ _ _ _ => n
  | .ClassDef n _ _ _ _ _ _ _ _ _ _ => n
  | _ => ""
example : nameOfS sBis = "bisect_left" ∧ nameOfS sTrie = "Trie" ∧ nameOfS sSigns = "_law_SIGNS" ∧ nameOfS sWord = "_law_word" ∧ nameOfS sLongest = "_law_longest" ∧ nameOfS sAlong = "_law_along" ∧
  nameOfS sPrefix = "_law_prefix" ∧ nameOfS sNumber = "_law_number" ∧ nameOfS sLaw = "law" ∧ nameOfS sInit = "__init__" ∧ nameOfS sCont = "__contains__" ∧ nameOfS sGet = "__getitem__" ∧ nameOfS sHas = "has_keys_with_prefix" ∧ nameOfS sLp = "longest_prefix" := by
  refine ⟨rfl, rfl, rfl, rfl, rfl, rfl, rfl, rfl, rfl, rfl, rfl, rfl, rfl, rfl⟩

/-! heaps that grow -/
def Ext (h h' : Heap) : Prop := ∀ b o, h.get? b = some o → h'.get? b = some o
theorem Ext.refl (h : Heap) : Ext h h := fun _ _ e => e
theorem Ext.trans {a b c : Heap} (x : Ext a b) (y : Ext b c) : Ext a c := fun p o e => y p o (x p o e)
theorem Ext.push (h : Heap) (o : Obj) : Ext h (h.push o) := fun _ _ e => Heap.get?_push_of_some o e
theorem Ext.list {h h' : Heap} {a : Addr} {vs : Array Value} (x : Ext h h') (l : h.IsList a vs) : h'.IsList a vs := let ⟨o, ho, r⟩ := l; ⟨o, x a o ho, r⟩
theorem Ext.tup {h h' : Heap} {a : Addr} {vs : Array Value} (x : Ext h h') (l : IsTup h a vs) : IsTup h' a vs := let ⟨o, ho, r⟩ := l; ⟨o, x a o ho, r⟩
theorem frx {b h h' : Heap} {L : Addr} {m : Str → Option Value} (F : Fr b L h m) (x : Ext h h') : Fr b L h' m :=
  ⟨F.ns.keeps x, fun p o e => x p o (F.keep p o e), F.above⟩
theorem ext_none {h h' : Heap} (x : Ext h h') {b : Addr} (e : h'.get? b = none) : h.get? b = none := by
  cases q : h.get? b with
  | none => rfl
  | some o => rw [x b o q] at e; cases e

/-- a def of the text stands at f in h -/
def FnAt (h : Heap) (f : Addr) (qual : Str) (st : Stmt) (dV : Value) : Prop :=
  ∃ oc od osl name kV doc pm an cdv ct, h.get? f = some ⟨oc, od, .func (fnOf name qual (prmOf st) (bodOf st) (scpOf st) dV kV doc pm an cdv ct), osl⟩ ∧ h.CodeRec cdv qual
theorem FnAt.ext {h h' : Heap} {f : Addr} {qual : Str} {st : Stmt} {dV : Value} (x : FnAt h f qual st dV) (e : Ext h h') : FnAt h' f qual st dV :=
  let ⟨a1, a2, a3, a4, a5, a6, a7, a8, a9, a10, h1, h2⟩ := x; ⟨a1, a2, a3, a4, a5, a6, a7, a8, a9, a10, e _ _ h1, h2.keeps e⟩

/-- what an evaluation that only adds objects comes to -/
def Yields {α : Type} (M : Model) (A : Around) (t : Sem α) (s : Shared) (P : α → Heap → Prop) : Prop :=
  ∀ (Q : α → Shared → Prop) (E : Value → Shared → Prop), (∀ v h' tk, Ext s.heap h' → P v h' → Q v { s with heap := h', toks := tk }) → wpAny M A t Q E s

section
variable {prog : Program} {w : World} {A : Around} {s : Shared}
theorem call_fn {f : Addr} {qual : Str} {st : Stmt} {dV : Value} {args : List Value} {P : Value → Heap → Prop} {binds : List (Str × Value)}
    (hroom : A.depth < recursionLimit) (hlim : s.heap.NoLimit) (hf : FnAt s.heap f qual st dV)
    (hbind : ∀ name kV doc pm an cdv ct, BindsTo s (fnOf name qual (prmOf st) (bodOf st) (scpOf st) dV kV doc pm an cdv ct) ⟨args, []⟩ binds)
    (hcell : ∀ x ∈ (scpOf st).names, x.2 ≠ .cell) (hloc : ∀ x ∈ binds, (scpOf st).names.lookup x.1 = some .local)
    (hco : (scpOf st).isCoroutine = false) (hgen : (scpOf st).isGenerator = false) (hk : (scpOf st).kind = .function)
    (h : ∀ (Q : Flow → Shared → Prop) (E : Value → Shared → Prop) (h₁ : Heap) (tk : Nat) (cdv : Value),
      Fr s.heap s.heap.objs.size h₁ (fun x => binds.reverse.lookup x) →
      (∀ fl h' tk', Ext s.heap h' → P (match fl with | .ret v => v | _ => .none) h' → Q fl { s with heap := h', toks := tk' }) →
      wpAny (model prog w) (A.deeper (envOf qual (scpOf st) s.heap.objs.size f cdv)) (execs (bodOf st) (envOf qual (scpOf st) s.heap.objs.size f cdv)) Q E { s with heap := h₁, toks := tk }) :
    Yields (model prog w) A (call (.ref f) args []) s P := by
  intro Q E hQ
  obtain ⟨a1, a2, a3, name, kV, doc, pm, an, cdv, ct, ho, hcd⟩ := hf
  refine wpAny_call (codeAny_call_def (fd := fnOf name qual (prmOf st) (bodOf st) (scpOf st) dV kV doc pm an cdv ct) (body := bodOf st) hroom ho rfl hlim hcd rfl (hbind _ _ _ _ _ _ _) hcell hloc (fun h₀ hns hk₀ => ?_) hco hgen hk)
  refine h _ _ h₀ _ cdv ⟨hns, hk₀, Nat.le_refl _⟩ (fun fl h' tk' hx hp => ?_)
  exact hQ _ _ _ hx hp
end
structure Gl where
  mg : Str → Option Value
  mb : Str → Option Value
  K : Frag
  bis : Addr
  trie : Addr
  signs : Addr
  word : Addr
  longest : Addr
  along : Addr
  prefixA : Addr
  number : Addr
  bisD : Addr
  init : Addr
  cont : Addr
  get : Addr
  has : Addr
  lp : Addr

structure ClsOk (G : Gl) : Prop where
  makes : makesIn G.K G.trie = true
  keepT : keepIn G.K (.ref G.trie) = true
  iInit : findIn G.K (.ref G.trie) "__init__" = some (some (.ref G.init))
  fInit : isFn G.K (.ref G.init) = true
  iCont : findIn G.K (.ref G.trie) "__contains__" = some (some (.ref G.cont))
  fCont : isFn G.K (.ref G.cont) = true
  iGet : findIn G.K (.ref G.trie) "__getitem__" = some (some (.ref G.get))
  fGet : isFn G.K (.ref G.get) = true
  nGet : fnIn G.K G.get = true
  iHas : findIn G.K (.ref G.trie) "has_keys_with_prefix" = some (some (.ref G.has))
  fHas : isFn G.K (.ref G.has) = true
  iLp : findIn G.K (.ref G.trie) "longest_prefix" = some (some (.ref G.lp))
  fLp : isFn G.K (.ref G.lp) = true
  kHas : keepIn G.K (.ref G.has) = true
  kLp : keepIn G.K (.ref G.lp) = true
  plain : plainGet G.K G.trie "" = true
  dict : hasDictIn G.K G.trie = true
  aData : findIn G.K (.ref G.trie) "_data" = some none
  aKeys : findIn G.K (.ref G.trie) "_keys" = some none
  aStr : findIn G.K (.ref G.trie) "_cachestr" = some none
  aPts : findIn G.K (.ref G.trie) "_cachepoints" = some none
  over : plainOver G.K G.trie = true
  set : findIn G.K (.ref G.trie) "__setattr__" = some (some (.builtin "object.__setattr__"))

structure Glb (G : Gl) (h : Heap) : Prop where
  cls : ClsOk G
  g : h.Ns mainGlobals G.mg
  b : h.Ns builtinsNs G.mb
  nolimit : h.NoLimit
  builtins : ∀ x : Str, x ≠ "__name__" → G.mb x = bootBuiltins x
  X : G.K.In h
  nSorted : G.mg "sorted" = none
  nLen : G.mg "len" = none
  nRange : G.mg "range" = none
  nMax : G.mg "max" = none
  nKeyError : G.mg "KeyError" = none
  mBis : G.mg "bisect_left" = some (.ref G.bis)
  mTrie : G.mg "Trie" = some (.ref G.trie)
  mSigns : G.mg "_law_SIGNS" = some (.ref G.signs)
  mWord : G.mg "_law_word" = some (.ref G.word)
  mLongest : G.mg "_law_longest" = some (.ref G.longest)
  mAlong : G.mg "_law_along" = some (.ref G.along)
  mPrefix : G.mg "_law_prefix" = some (.ref G.prefixA)
  mNumber : G.mg "_law_number" = some (.ref G.number)
  dBis : ∃ t, IsTup h G.bisD #[.int 0 t, .none]
  fBis : FnAt h G.bis "bisect_left" sBis (.ref G.bisD)
  fSigns : FnAt h G.signs "_law_SIGNS" sSigns .none
  fWord : FnAt h G.word "_law_word" sWord .none
  fLongest : FnAt h G.longest "_law_longest" sLongest .none
  fAlong : FnAt h G.along "_law_along" sAlong .none
  fPrefix : FnAt h G.prefixA "_law_prefix" sPrefix .none
  fNumber : FnAt h G.number "_law_number" sNumber .none
  fInit : FnAt h G.init "Trie.__init__" sInit .none
  fCont : FnAt h G.cont "Trie.__contains__" sCont .none
  fGet : FnAt h G.get "Trie.__getitem__" sGet .none
  fHas : FnAt h G.has "Trie.has_keys_with_prefix" sHas .none
  fLp : FnAt h G.lp "Trie.longest_prefix" sLp .none


theorem Glb.ext {G : Gl} {h h' : Heap} (x : Glb G h) (e : Ext h h') : Glb G h' where
  cls := x.cls
  g := x.g.keeps e
  b := x.b.keeps e
  nolimit := x.nolimit.keeps e
  builtins := x.builtins
  X := x.X.keeps e
  nSorted := x.nSorted
  nLen := x.nLen
  nRange := x.nRange
  nMax := x.nMax
  nKeyError := x.nKeyError
  mBis := x.mBis
  mTrie := x.mTrie
  mSigns := x.mSigns
  mWord := x.mWord
  mLongest := x.mLongest
  mAlong := x.mAlong
  mPrefix := x.mPrefix
  mNumber := x.mNumber
  dBis := let ⟨t, d⟩ := x.dBis; ⟨t, e.tup d⟩
  fBis := x.fBis.ext e
  fSigns := x.fSigns.ext e
  fWord := x.fWord.ext e
  fLongest := x.fLongest.ext e
  fAlong := x.fAlong.ext e
  fPrefix := x.fPrefix.ext e
  fNumber := x.fNumber.ext e
  fInit := x.fInit.ext e
  fCont := x.fCont.ext e
  fGet := x.fGet.ext e
  fHas := x.fHas.ext e
  fLp := x.fLp.ext e

section
variable {M : Model} {A : Around} {E : Value → Shared → Prop} {s : Shared} {h₀ : Heap} {L a : Addr} {m : Str → Option Value} {cn : Str} {cs : Scope} {ccd : Value} {cl : List (Str × Addr)} {G : Gl}
  {x : Str} {pos : Pos} {v : Value} {Q : Value → Shared → Prop}
/-- a global name of the text -/
theorem nmG {env : Env} (g : Glb G h₀) (F : Fr h₀ L s.heap m) (e : G.mg x = some v) (h : Q v s)
    (hk : env.scope.kind = .function := by rfl) (hx : env.kindOf x = some .globalImplicit := by rfl) (hg : env.globals = mainGlobals := by rfl) (hd : (x == ("__debug__" : Str)) = false := by decide) :
    wpAny M A (eval (.Name x pos) env) Q E s :=
  PySem.Calls.Name_function_global hk hx (PySem.Calls.loadGlobal_global (env := env) (by rw [hg]; exact g.g.keeps F.keep) e h) hd
/-- a built-in name -/
theorem nmB {env : Env} (g : Glb G h₀) (F : Fr h₀ L s.heap m) (e : G.mg x = none) (hv : bootBuiltins x = some v) (hn : x ≠ "__name__") (h : Q v s)
    (hk : env.scope.kind = .function := by rfl) (hx : env.kindOf x = some .globalImplicit := by rfl) (hg : env.globals = mainGlobals := by rfl) (hb : env.builtins = builtinsNs := by rfl) (hd : (x == ("__debug__" : Str)) = false := by decide) :
    wpAny M A (eval (.Name x pos) env) Q E s :=
  PySem.Calls.Name_function_global hk hx (PySem.Calls.loadGlobal_builtin (env := env) (by rw [hg]; exact g.g.keeps F.keep) e (by rw [hb]; exact g.b.keeps F.keep) ((g.builtins x hn).trans hv) h) hd
/-- a local name -/
theorem nmL {env : Env} (F : Fr h₀ L s.heap m) (hv : m x = some v) (h : Q v s)
    (hk : env.scope.kind = .function := by rfl) (hx : env.kindOf x = some .local := by rfl) (hl : env.locals = L := by rfl) (hd : (x == ("__debug__" : Str)) = false := by decide) :
    wpAny M A (eval (.Name x pos) env) Q E s := wpAny_Name (wpAny_loadName_local hk hx (by rw [hl]; exact F.ns) hv h) hd
/-- a local name is bound -/
theorem stL {env : Env} {Q : Unit → Shared → Prop} (F : Fr h₀ L s.heap m)
    (h : ∀ h', Fr h₀ L h' (fun y => if y = x then some v else m y) → Heap.SameBut L s.heap h' → Q () { s with heap := h', toks := s.toks + 1 })
    (hk : env.scope.kind = .function := by rfl) (hx : env.kindOf x = some .local := by rfl) (hl : env.locals = L := by rfl) :
    wpAny M A (storeName env x v) Q E s := by
  subst hl
  exact wpAny_storeName_local hx F.ns (fun h' hn hs => h h' (F.set hn hs) hs) (by rw [hk]; rfl)
end
section
variable {M : Model} {A : Around} {E : Value → Shared → Prop} {s : Shared} {h₀ : Heap} {env : Env}
theorem newList_x {vs : List Value} {Q : Value → Shared → Prop}
    (h : ∀ h', Ext s.heap h' → h'.IsList s.heap.objs.size vs.toArray → h'.objs.size = s.heap.objs.size + 1 → Q (.ref s.heap.objs.size) { s with heap := h' }) (hsz : vs.length ≤ sizeLine := by size_fits) :
    wpAny M A (newList vs) Q E s :=
  wpAny_newObj_type (h _ (Ext.push _ _) ⟨_, Heap.get?_push_size _ rfl, rfl, _, rfl⟩ (Heap.size_push ..)) (by show vs.toArray.size ≤ sizeLine; rw [List.size_toArray]; exact hsz)
theorem newTuple_x {vs : List Value} {Q : Value → Shared → Prop}
    (h : ∀ h', Ext s.heap h' → IsTup h' s.heap.objs.size vs.toArray → h'.objs.size = s.heap.objs.size + 1 → Q (.ref s.heap.objs.size) { s with heap := h' }) (hsz : vs.length ≤ sizeLine := by size_fits) :
    wpAny M A (newTuple vs) Q E s :=
  wpAny_newObj_type (h _ (Ext.push _ _) ⟨_, Heap.get?_push_size _ rfl, rfl, _, rfl⟩ (Heap.size_push ..)) (by show vs.toArray.size ≤ sizeLine; rw [List.size_toArray]; exact hsz)
theorem callW {pos : Pos} {f : Addr} {q : Str} {st : Stmt} {dV : Value} {e : Expr} {rest : List Expr} {Q : Value → Shared → Prop} (hf : FnAt h₀ f q st dV)
    (h : wpAny M A (spliced (backTo pos (starEach (e :: rest) env))) (fun vs s₁ => Ext h₀ s₁.heap ∧ wpAny M A (call (.ref f) vs) Q E s₁) E s)
    (he : starEach (e :: rest) env = (false, eval e env) :: starEach rest env := by rfl) :
    wpAny M A (callWith pos (.ref f) [] (backTo pos (starEach (e :: rest) env)) []) Q E s := by
  obtain ⟨_, _, _, _, _, _, _, _, _, _, ho, _⟩ := hf
  exact callWith_def rfl (wpAny_mono h (fun vs s₁ h₁ => ⟨h₁.1 _ _ ho, h₁.2⟩) fun _ _ x => x) he
theorem callW0 {pos : Pos} {f : Addr} {q : Str} {st : Stmt} {dV : Value} {Q : Value → Shared → Prop} (hf : FnAt s.heap f q st dV)
    (h : wpAny M A (call (.ref f) []) Q E s) : wpAny M A (callWith pos (.ref f) [] (backTo pos (starEach [] env)) []) Q E s := by
  obtain ⟨_, _, _, _, _, _, _, _, _, _, ho, _⟩ := hf
  show wpAny M A (callWith pos (.ref f) [] [] []) Q E s
  exact PySem.Calls.callWith_function (PyProof.Rows.evalArgs_none ⟨⟨ho, rfl⟩, by simpa using h⟩)
end
section
variable {prog : Program} {w : World} {A : Around} {E : Value → Shared → Prop} {s : Shared}
theorem item_list {value slice : Expr} {l : Addr} {vs : Array Value} {k : Int} {u : Tok} {v : Value} {Q : Value → Shared → Prop}
    (hl : s.heap.IsList l vs) (h0 : 0 ≤ k) (hhi : k < 2 ^ 63) (hx : vs[k.toNat]? = some v) (h : Q v s)
    (hs : subscripted slice false (.ref l) (.int k u) = operate [.ref l, .int k u] (getItem (.ref l) (.int k u)) := by with_unfolding_all rfl) :
    wpAny (model prog w) A (subscriptTail value slice (.ref l) (.int k u)) Q E s :=
  tail_any hl.typeIs slot_list_getitem.lookup (wpAny_getItem_list hl h0 hhi hx h) hs
end
local macro_rules | `(tactic| walk_at "m") => `(tactic| (first
  | with_reducible refine wpAny_execs_cons ?_
  | with_reducible refine wpAny_execs_nil ?_
  | with_reducible refine wpAny_Return_some ?_
  | (with_reducible refine wpAny_Assign_Name ?_ ?_; rotate_left; (with_unfolding_all rfl))
  | with_reducible refine wpAny_If ?_
  | with_reducible refine wpAny_BinOp ?_
  | with_reducible refine wpAny_isTrue_Compare1 ?_
  | with_reducible refine wpAny_Compare1 ?_
  | with_reducible refine PySem.Calls.Constant_str ?_
  | with_reducible refine wpAny_Constant_int ?_
  | with_reducible refine Constant_bool ?_
  | with_reducible refine Constant_none ?_
  | with_reducible refine Subscript_ ?_
  | with_reducible refine List_ ?_
  | with_reducible refine Tuple_ ?_
  | (with_reducible refine args_cons ?_ ?_; rotate_left; (with_unfolding_all rfl))
  | with_reducible refine args_nil ?_
  | with_reducible refine add_int ?_
  | with_reducible refine sub_int ?_
  | with_reducible refine lt_int ?_
  | with_reducible refine gt_int ?_
  | with_reducible refine eq_int ?_
  | with_reducible refine ne_int ?_
  | with_reducible refine wpAny_truthy_bool ?_
  ); try dsimp only)
section
/-! texts as lists of numbers -/
abbrev T (l : List Nat) : Str := ⟨l.toArray⟩
def sgn (k : Nat) : Nat := if k = 0 then 110 else if k = 1 then 59 else 84
def wordL (n : Nat) : List Nat := if h : n = 0 then [] else sgn ((n - 1) % 3) :: wordL ((n - 1) / 3)
termination_by n
decreasing_by omega
theorem wordL_zero : wordL 0 = [] := by unfold wordL; simp
theorem wordL_pos {n : Nat} (h : n ≠ 0) : wordL n = sgn ((n - 1) % 3) :: wordL ((n - 1) / 3) := by rw [wordL]; simp [h]
theorem wordL_len (n : Nat) : ∀ k, 2 * n + 1 < 3 ^ (k + 1) → (wordL n).length ≤ k := by
  intro k
  induction k generalizing n with
  | zero => intro h; have : n = 0 := by omega
            subst this; simp [wordL_zero]
  | succ k ih =>
    intro h
    by_cases h0 : n = 0
    · subst h0; simp [wordL_zero]
    · rw [wordL_pos h0, List.length_cons]
      have e : 3 ^ (k + 1 + 1) = 3 * 3 ^ (k + 1) := by rw [Nat.pow_succ]; omega
      have := ih ((n - 1) / 3) (by omega)
      omega
theorem wordL_len4 {n : Nat} (h : n < 121) : (wordL n).length ≤ 4 := wordL_len n 4 (by omega)
/-- the word of a number -/
def wrd (n : Int) : List Nat := wordL (n.fmod 121).toNat
theorem T_append (a b : List Nat) : T a ++ T b = T (a ++ b) := by
  show (⟨a.toArray ++ b.toArray⟩ : Str) = ⟨(a ++ b).toArray⟩
  simp
theorem T_len (a : List Nat) : (T a).length = a.length := by simp [Str.length]
theorem T_inj {a b : List Nat} (h : T a = T b) : a = b := by
  have := congrArg (fun x : Str => x.cps.toList) h
  simpa using this

theorem ofs_n : Str.ofString "n" = T [110] := by decide +kernel
theorem ofs_semi : Str.ofString ";" = T [59] := by decide +kernel
theorem ofs_T : Str.ofString "T" = T [84] := by decide +kernel
theorem ofs_nil : Str.ofString "" = T [] := by decide +kernel
section
variable {w : World} {A : Around} {s : Shared} {G : Gl} 
theorem signs_spec (g : Glb G s.heap) (hA : A.depth < recursionLimit) :
    Yields (model PRG w) A (call (.ref G.signs) [] []) s (fun v h => ∃ l t0 t1 t2, v = .ref l ∧ h.IsList l #[.str (T [110]) t0, .str (T [59]) t1, .str (T [84]) t2]) := by
  refine call_fn (binds := []) hA g.nolimit g.fSigns (fun _ _ _ _ _ _ _ => BindsTo.of_eq rfl) (by decide) (by decide) rfl rfl rfl ?_
  intro Q E h₁ tk cdv F hQ
  refine wpAny_execs_cons ?_
  repeat walk_at "m"
  refine newList_x fun h' x l _ => ?_
  rw [ofs_n, ofs_semi, ofs_T] at l
  exact hQ _ _ _ (Ext.trans F.keep x) ⟨_, _, _, _, rfl, l⟩

theorem word_spec (g : Glb G s.heap) (hA : A.depth + 8 < recursionLimit) (n : Int) (t : Tok) :
    Yields (model PRG w) A (call (.ref G.word) [.int n t] []) s (fun v _ => ∃ t', v = .str (T (wrd n)) t') := by
  refine call_fn (binds := [("n", .int n t)]) (by omega) g.nolimit g.fWord (fun _ _ _ _ _ _ _ => BindsTo.of_eq rfl) (by decide) (locs rfl) rfl rfl rfl ?_
  intro Q E h₁ tk cdv F hQ
  refine wpAny_execs_cons ?_
  repeat walk_at "m"
  refine nmL F rfl ?_
  repeat walk_at "m"
  refine mod_int' (by decide) ?_
  refine st F (fun h₂ F₂ => ?_)
  repeat walk_at "m"
  refine st F₂ (fun h₃ F₃ => ?_)
  dsimp only
  refine wpAny_execs_cons ?_
  refine wpAny_While ?_
  have hlt : (n.fmod 121).toNat < 121 := by have := Int.fmod_nonneg_of_pos n (show (0:Int) < 121 by decide); have := Int.fmod_lt_of_pos n (show (0:Int) < 121 by decide); omega
  have hnn : 0 ≤ n.fmod 121 := Int.fmod_nonneg_of_pos n (by decide)
  refine codeAny_whileLoop (fun k s' => ∃ h' tk' m' acc t1 t2, s' = { s with heap := h', toks := tk' } ∧ Fr s.heap s.heap.objs.size h' m' ∧ m' "n" = some (.int k t1) ∧ m' "word" = some (.str (T acc) t2) ∧
    acc ++ wordL k = wrd n) ?_ (n.fmod 121).toNat ⟨h₃, _, _, [], _, _, rfl, F₃, (by rw [Int.toNat_of_nonneg hnn]; rfl), (by rw [← ofs_nil]; rfl), rfl⟩
  rintro k s' ⟨h', tk', m', acc, t1, t2, rfl, F', hn, hw, he⟩
  refine wpAny_isTrue_Compare1 ?_
  refine nmL F' hn ?_
  repeat walk_at "m"
  by_cases hk : k = 0
  · subst hk
    simp only [Int.natCast_zero, Int.lt_irrefl, decide_false, Bool.false_eq_true, if_false]
    repeat walk_at "m"
    refine nmL F' hw ?_
    refine hQ _ _ _ F'.keep ⟨t2, ?_⟩
    rw [wordL_zero, List.append_nil] at he
    rw [he]
  · rw [if_pos (by simp; omega)]
    refine wpAny_execs_cons ?_
    repeat walk_at "m"
    refine nmL F' hw ?_
    repeat walk_at "m"
    refine Call_ ?_
    refine nmG g F' g.mSigns ?_
    refine callW0 (g.fSigns.ext F'.keep) ?_
    refine signs_spec ?_ ?_ _ _ ?_
    · exact g.ext F'.keep
    · simp only [depth_deeper]; omega
    rintro v h4 tk4 x4 ⟨l, t5, t6, t7, rfl, hl⟩
    have F4 := frx F' x4
    repeat walk_at "m"
    refine nmL F4 hn ?_
    repeat walk_at "m"
    refine mod_int' (by decide) ?_
    have e1 : ((k : Int) - 1).fmod 3 = (((k - 1) % 3 : Nat) : Int) := by rw [Int.fmod_eq_emod_of_nonneg _ (by decide)]; omega
    have hs : ∃ t8, (#[Value.str (T [110]) t5, Value.str (T [59]) t6, Value.str (T [84]) t7])[((((k - 1) % 3 : Nat) : Int)).toNat]? = some (Value.str (T [sgn ((k - 1) % 3)]) t8) := by
      have : (k - 1) % 3 = 0 ∨ (k - 1) % 3 = 1 ∨ (k - 1) % 3 = 2 := by omega
      rcases this with e | e | e <;> rw [e] <;> exact ⟨_, rfl⟩
    obtain ⟨t8, hs⟩ := hs
    rw [e1]
    refine item_list hl (by omega) (by omega) hs ?_
    have hlen : acc.length ≤ 4 := by
      have := congrArg List.length he
      have h4 := wordL_len4 hlt
      rw [List.length_append] at this
      unfold wrd at this
      omega
    refine add_str (fun t9 tk9 => ?_) (by rw [T_len, T_len, sizeLine_eq]; simp; omega)
    rw [T_append]
    refine st F4 (fun h5 F5 => ?_)
    repeat walk_at "m"
    refine nmL F5 (by exact hn) ?_
    repeat walk_at "m"
    refine floordiv_int (by decide) ?_
    refine st F5 (fun h6 F6 => ?_)
    repeat walk_at "m"
    have e2 : ((k : Int) - 1).fdiv 3 = (((k - 1) / 3 : Nat) : Int) := by
      rw [Int.fdiv_eq_ediv_of_nonneg _ (by decide)]; omega
    refine ⟨(k - 1) / 3, by omega, h6, _, _, acc ++ [sgn ((k - 1) % 3)], _, _, rfl, F6, by rw [e2]; rfl, rfl, ?_⟩
    rw [wordL_pos hk] at he
    simpa using he
end
end
section
/-! loops: what a turn keeps -/
/-- all objects but those at W stand as they stood -/
def Kp (W : List Addr) (h h' : Heap) : Prop := ∀ a o, a ∉ W → h.get? a = some o → h'.get? a = some o
theorem Kp.refl (W : List Addr) (h : Heap) : Kp W h h := fun _ _ _ e => e
theorem Kp.trans {W : List Addr} {a b c : Heap} (x : Kp W a b) (y : Kp W b c) : Kp W a c := fun p o n e => y p o n (x p o n e)
theorem Kp.sub {W V : List Addr} {a b : Heap} (x : Kp W a b) (h : ∀ p ∈ W, p ∈ V) : Kp V a b := fun p o n e => x p o (fun q => n (h p q)) e
theorem Ext.kp {a b : Heap} (x : Ext a b) (W : List Addr) : Kp W a b := fun p o _ e => x p o e
theorem Kp.ext {W : List Addr} {a b c : Heap} (x : Kp W a b) (y : Ext b c) : Kp W a c := fun p o n e => y p o (x p o n e)
theorem Kp.same {W : List Addr} {a b c : Heap} {L : Addr} (x : Kp W a b) (y : Heap.SameBut L b c) (hL : L ∈ W) : Kp W a c := fun p o n e => (y.2 p (fun q => n (q ▸ hL))).trans (x p o n e)
theorem kp_same {L : Addr} {W : List Addr} {b c : Heap} (y : Heap.SameBut L b c) (hL : L ∈ W) : Kp W b c := Kp.same (Kp.refl _ _) y hL
theorem Kp.list {W : List Addr} {h h' : Heap} {a : Addr} {vs : Array Value} (x : Kp W h h') (n : a ∉ W) (l : h.IsList a vs) : h'.IsList a vs := let ⟨o, ho, r⟩ := l; ⟨o, x a o n ho, r⟩

section
variable {prog : Program} {w : World} {A : Around} {E : Value → Shared → Prop} {s : Shared} {env : Env} {b₀ : Heap} {L : Addr} {m : Str → Option Value}

/-- the end of a for's turn -/
def TurnEnd (s : Shared) (b₀ : Heap) (L : Addr) (W : List Addr) (Q : Flow → Shared → Prop) (I : (Str → Option Value) → Heap → Prop) (h₁ : Heap) (f : Flow) (s₃ : Shared) : Prop :=
  match f with
  | .next | .cont => ∃ h₃ tk₃ m₃, s₃ = { s with heap := h₃, toks := tk₃ } ∧ Fr b₀ L h₃ m₃ ∧ Kp (L :: W) h₁ h₃ ∧ I m₃ h₃
  | .brk => Q .next s₃
  | .ret v => Q (.ret v) s₃

theorem for_walk {target : Expr} {body : List Stmt} {I : Addr} {fp wr : List Addr} {n : Nat} {P : Nat → Value → Prop} {St : Nat → Heap → Prop} {Q : Flow → Shared → Prop} (W : List Addr)
    (Wk : Walks prog w A I fp wr n P St) (Inv : Nat → (Str → Option Value) → Heap → Prop)
    (hL : L ∉ fp) (hW : ∀ a ∈ W, a ∉ fp) (hwr : ∀ a ∈ wr, b₀.get? a = none)
    (hInv : ∀ i m h h', Inv i m h → (∀ a ∈ W, ∀ o, h.get? a = some o → h'.get? a = some o) → Inv i m h')
    (F : Fr b₀ L s.heap m) (hst : St 0 s.heap) (h0 : Inv 0 m s.heap)
    (turn : ∀ i v m₁ h₁ tk₁ (E' : Value → Shared → Prop), i < n → P i v → Inv i m₁ h₁ → Fr b₀ L h₁ m₁ → Kp (L :: W ++ wr) s.heap h₁ →
      wpAny (model prog w) A (assign target env v) (fun _ s₂ => wpAny (model prog w) A (execs body env) (TurnEnd s b₀ L W Q (Inv (i + 1)) h₁) E' s₂) E' { s with heap := h₁, toks := tk₁ })
    (hQ : ∀ h' tk m', Inv n m' h' → Fr b₀ L h' m' → Kp (L :: W ++ wr) s.heap h' → Q .next { s with heap := h', toks := tk })
    (hgo : ∀ i v (s' : Shared) (Q' : Unit → Shared → Prop) (E' : Value → Shared → Prop), St i s'.heap → Q' () s' → wpAny (model prog w) A (letOwnedTupleGo target (.ref I) v) Q' E' s') :
    codeAny (model prog w) A (.forLoop target (.ref I) body [] env) (fun r s' => match r with | .ok f => Q f s' | .error e => cameBackBy (model prog w) A env E e s') s := by
  refine codeAny_forLoop_any (fun k s' => ∃ h' tk m' i, s' = { s with heap := h', toks := tk } ∧ St i h' ∧ Inv i m' h' ∧ Fr b₀ L h' m' ∧ Kp (L :: W ++ wr) s.heap h' ∧ i ≤ n ∧ k = n - i) ?_ n
    ⟨s.heap, s.toks, m, 0, rfl, hst, h0, F, Kp.refl _ _, Nat.zero_le _, rfl⟩
  rintro k s' ⟨h', tk, m', i, rfl, hst', hI', F', K', hi, rfl⟩
  have hfr : ∀ {h₁ : Heap}, (∀ b o, b ∉ wr → h'.get? b = some o → h₁.get? b = some o) → Fr b₀ L h₁ m' := fun {h₁} hk =>
    ⟨F'.ns.at' fun o e => hk _ o (fun q => hL (Wk.sub _ q)) e, fun b o e => hk b o (fun q => by rw [hwr _ q] at e; cases e) (F'.keep b o e), F'.above⟩
  have hwrL : ∀ {h₁ : Heap}, (∀ b o, b ∉ wr → h'.get? b = some o → h₁.get? b = some o) → Kp (L :: W ++ wr) s.heap h₁ := fun {h₁} hk a o na e =>
    hk a o (fun q => na (List.mem_append_right _ q)) (K' a o na e)
  by_cases hlt : i < n
  · refine Wk.item i _ _ _ hlt hst' fun v h₁ tk₁ hP hst₁ hk₁ => ?_
    refine hgo (i + 1) v _ _ _ hst₁ ?_
    have hI₁ : Inv i m' h₁ := hInv _ _ _ _ hI' fun a ha o e => hk₁ a o (fun q => hW a ha (Wk.sub _ q)) e
    refine wpAny_mono (turn i v m' h₁ tk₁ _ hlt hP hI₁ (hfr hk₁) (hwrL hk₁)) (fun _ s₂ h₂ => wpAny_mono h₂ (fun f s₃ h₃ => ?_) fun _ _ e => e) fun _ _ e => e
    have key : (∃ h₃ tk₃ m₃, s₃ = { s with heap := h₃, toks := tk₃ } ∧ Fr b₀ L h₃ m₃ ∧ Kp (L :: W) h₁ h₃ ∧ Inv (i + 1) m₃ h₃) → ∃ m, m < n - i ∧ ∃ h' tk m' i, s₃ = { s with heap := h', toks := tk } ∧ St i h' ∧ Inv i m' h' ∧ Fr b₀ L h' m' ∧ Kp (L :: W ++ wr) s.heap h' ∧ i ≤ n ∧ m = n - i := by
      rintro ⟨hq, tk₃, m₃, rfl, F₃, K₃, I₃⟩
      refine ⟨n - (i + 1), by omega, hq, tk₃, m₃, i + 1, rfl, Wk.frame _ _ _ hst₁ fun b hb o e => K₃ b o ?_ e, I₃, F₃, (hwrL hk₁).trans (K₃.sub fun p hp => List.mem_append_left _ hp), hlt, rfl⟩
      intro q
      rcases List.mem_cons.mp q with rfl | q
      · exact hL hb
      · exact hW b q hb
    cases f with
    | next => exact key h₃
    | cont => exact key h₃
    | brk => exact h₃
    | ret v => exact h₃
  · have hin : i = n := by omega
    subst hin
    refine Wk.done _ _ _ hst' fun h₁ tk₁ hk₁ => wpAny_execs_nil ?_
    exact hQ h₁ tk₁ m' (hInv _ _ _ _ hI' fun a ha o e => hk₁ a o (fun q => hW a ha (Wk.sub _ q)) e) (hfr hk₁) (hwrL hk₁)

/-- for x in a list -/
theorem for_list {target : Expr} {body : List Stmt} {ax : Addr} {items : Array Value} {Q : Flow → Shared → Prop} (W : List Addr)
    (hh : A.handled = none) (F : Fr b₀ L s.heap m) (hl : s.heap.IsList ax items) (hxL : ax ≠ L) (hxW : ax ∉ W) (hWlow : ∀ a ∈ W, a < s.heap.objs.size)
    (Inv : Nat → (Str → Option Value) → Heap → Prop)
    (hInv : ∀ i m h h', Inv i m h → (∀ a ∈ W, ∀ o, h.get? a = some o → h'.get? a = some o) → Inv i m h') (h0 : Inv 0 m s.heap)
    (turn : ∀ i v m₁ h₁ tk₁ (E' : Value → Shared → Prop), items[i]? = some v → Inv i m₁ h₁ → Fr b₀ L h₁ m₁ → Kp (L :: W) s.heap h₁ →
      wpAny (model prog w) A (assign target env v) (fun _ s₂ => wpAny (model prog w) A (execs body env) (TurnEnd s b₀ L W Q (Inv (i + 1)) h₁) E' s₂) E' { s with heap := h₁, toks := tk₁ })
    (hQ : ∀ h' tk m', Inv items.size m' h' → Fr b₀ L h' m' → Kp (L :: W) s.heap h' → Q .next { s with heap := h', toks := tk }) :
    wpAny (model prog w) A (pyIter (.ref ax)) (fun it s₂ => codeAny (model prog w) A (.forLoop target it body [] env) (fun r s' => match r with | .ok f => Q f s' | .error e => cameBackBy (model prog w) A env E e s') s₂) E s := by
  refine wpAny_pyIter_list hl ?_
  obtain ⟨oL, _, _, hL, _⟩ := F.ns
  obtain ⟨oax, hax, _⟩ := id hl
  have hI : ∀ a o, s.heap.get? a = some o → a ≠ s.heap.objs.size := fun a o e => Nat.ne_of_lt (Heap.lt_size e)
  have hkp : ∀ {h₁ : Heap}, Kp (L :: W ++ [s.heap.objs.size]) (s.heap.push { cls := .type "list_iterator", data := .fields #[.ref ax, .int 0 0] }) h₁ → Kp (L :: W) s.heap h₁ := fun k a o na e =>
    k a o (fun q => (List.mem_append.mp q).elim na fun q => hI a o e (List.mem_singleton.mp q)) (Heap.get?_push_of_some _ e)
  refine for_walk (s := { s with heap := s.heap.push { cls := .type "list_iterator", data := .fields #[.ref ax, .int 0 0] } }) W (Walks.list hh s.heap.objs.size ax (hI _ _ hax) items) Inv ?_ ?_ ?_ hInv (F.push _) ⟨⟨_, Heap.get?_push_size _ rfl, rfl, rfl⟩, hl.push _⟩ (hInv _ _ _ _ h0 fun a _ o e => Heap.get?_push_of_some _ e) ?_ ?_ (fun _ _ _ _ _ st hq => letGo_listiter st.1 hq)
  · intro q; simp only [List.mem_cons, List.not_mem_nil, or_false] at q; rcases q with q | q
    · exact hI _ _ hL q
    · exact hxL q.symm
  · intro a ha q; simp only [List.mem_cons, List.not_mem_nil, or_false] at q; rcases q with q | q
    · exact absurd (hWlow a ha) (by rw [q]; exact Nat.lt_irrefl _)
    · exact hxW (q ▸ ha)
  · intro a ha; simp only [List.mem_cons, List.not_mem_nil, or_false] at ha; subst ha
    cases e : b₀.get? s.heap.objs.size with
    | none => rfl
    | some o => exact absurd rfl (hI _ _ (F.keep _ _ e))
  · intro i v m₁ h₁ tk₁ E' hi hv hI₁ F₁ K₁
    exact turn i v m₁ h₁ tk₁ E' hv hI₁ F₁ (hkp K₁)
  · intro h' tk m' hI' F' K'
    exact hQ h' tk m' hI' F' (hkp K')

/-- for i in a range by ones -/
theorem for_range {target : Expr} {body : List Stmt} {r : Addr} {a b : Int} {t u v : Tok} {n : Nat} {Q : Flow → Shared → Prop} (W : List Addr)
    (hh : A.handled = none) (F : Fr b₀ L s.heap m) (hr : IsRange s.heap r a b 1 t u v) (hsm : Builtin.Range.small a b 1 = true) (hn : Builtin.Range.rangeSize a b 1 = (n : Int)) (hWlow : ∀ a ∈ W, a < s.heap.objs.size)
    (Inv : Nat → (Str → Option Value) → Heap → Prop)
    (hInv : ∀ i m h h', Inv i m h → (∀ a ∈ W, ∀ o, h.get? a = some o → h'.get? a = some o) → Inv i m h') (h0 : Inv 0 m s.heap)
    (turn : ∀ i t m₁ h₁ tk₁ (E' : Value → Shared → Prop), i < n → Inv i m₁ h₁ → Fr b₀ L h₁ m₁ → Kp (L :: W) s.heap h₁ →
      wpAny (model prog w) A (assign target env (.int (a + (i : Int)) t)) (fun _ s₂ => wpAny (model prog w) A (execs body env) (TurnEnd s b₀ L W Q (Inv (i + 1)) h₁) E' s₂) E' { s with heap := h₁, toks := tk₁ })
    (hQ : ∀ h' tk m', Inv n m' h' → Fr b₀ L h' m' → Kp (L :: W) s.heap h' → Q .next { s with heap := h', toks := tk })
    (ht : ∀ it v, letOwnedTupleGo target it v = pure () := by intro _ _; rfl) :
    wpAny (model prog w) A (pyIter (.ref r)) (fun it s₂ => codeAny (model prog w) A (.forLoop target it body [] env) (fun r s' => match r with | .ok f => Q f s' | .error e => cameBackBy (model prog w) A env E e s') s₂) E s := by
  obtain ⟨oL, _, _, hL, _⟩ := F.ns
  have hI : ∀ a o, s.heap.get? a = some o → a ≠ s.heap.objs.size := fun a o e => Nat.ne_of_lt (Heap.lt_size e)
  refine wpAny_pyIter_range hr hsm ?_
  have hkp : ∀ {h₁ : Heap}, Kp (L :: W ++ [s.heap.objs.size]) (s.heap.push { cls := .type "range_iterator", data := .fields #[rawInt a, rawInt (Builtin.Range.rangeSize a b 1), rawInt 1] }) h₁ → Kp (L :: W) s.heap h₁ := fun k a o na e =>
    k a o (fun q => (List.mem_append.mp q).elim na fun q => hI a o e (List.mem_singleton.mp q)) (Heap.get?_push_of_some _ e)
  refine for_walk (s := { s with heap := s.heap.push { cls := .type "range_iterator", data := .fields #[rawInt a, rawInt (Builtin.Range.rangeSize a b 1), rawInt 1] } }) W (LCg.range_walks (I := s.heap.objs.size) hh a n) Inv ?_ ?_ ?_ hInv (F.push _) ?_ (hInv _ _ _ _ h0 fun a _ o e => Heap.get?_push_of_some _ e) ?_ ?_ (fun _ _ _ _ _ _ hq => wpAny_of_eq (ht _ _) hq)
  · intro q; exact hI _ _ hL (List.mem_singleton.mp q)
  · intro a ha q; have := hWlow a ha; rw [List.mem_singleton.mp q] at this; exact Nat.lt_irrefl _ this
  · intro a ha; rw [List.mem_singleton.mp ha]
    cases e : b₀.get? s.heap.objs.size with
    | none => rfl
    | some o => exact absurd rfl (hI _ _ (F.keep _ _ e))
  · have := Heap.get?_push_size (h := s.heap) (o := { cls := .type "range_iterator", data := .fields #[rawInt a, rawInt (Builtin.Range.rangeSize a b 1), rawInt 1] }) rfl
    rw [hn] at this ⊢
    simpa [IsRangeIter, rawInt] using this
  · rintro i v m₁ h₁ tk₁ E' hi ⟨t, rfl⟩ hI₁ F₁ K₁
    exact turn i t m₁ h₁ tk₁ E' hi hI₁ F₁ (hkp K₁)
  · intro h' tk m' hI' F' K'
    exact hQ h' tk m' hI' F' (hkp K')
end
end
section
/-! comprehensions over a list -/
/-- what was collected from the first items -/
inductive Coll (p : Nat → Bool) (R : Nat → Value → Prop) : Nat → List Value → Prop
  | nil : Coll p R 0 []
  | skip {i ys} : Coll p R i ys → p i = false → Coll p R (i + 1) ys
  | take {i ys y} : Coll p R i ys → p i = true → R i y → Coll p R (i + 1) (ys ++ [y])
theorem Coll.mono {p : Nat → Bool} {R S : Nat → Value → Prop} {n : Nat} {ys : List Value} (x : Coll p R n ys) (h : ∀ i y, R i y → S i y) : Coll p S n ys := by
  induction x with
  | nil => exact .nil
  | skip _ e ih => exact .skip ih e
  | take _ e r ih => exact .take ih e (h _ _ r)
theorem Coll.len {p : Nat → Bool} {R : Nat → Value → Prop} {n : Nat} {ys : List Value} (x : Coll p R n ys) : ys.length ≤ n := by
  induction x with
  | nil => exact Nat.le_refl _
  | skip _ e ih => omega
  | take _ e r ih => simp; omega
/-- tuples stand as they stood -/
def TupObj (o : Obj) : Prop := o.cls = .type "tuple" ∧ ∃ xs n, o.data = .seq xs n
def TupExt (h h' : Heap) : Prop := ∀ a o, TupObj o → h.get? a = some o → h'.get? a = some o
theorem TupExt.trans {a b c : Heap} (x : TupExt a b) (y : TupExt b c) : TupExt a c := fun p o q e => y p o q (x p o q e)
theorem kp_tup {W : List Addr} {h h' : Heap} (k : Kp W h h') (hW : ∀ a ∈ W, ∀ o, h.get? a = some o → ¬ TupObj o) : TupExt h h' := fun a o q e => k a o (fun n => hW a n o e q) e

def NoTup (h : Heap) (a : Addr) : Prop := ∀ o, h.get? a = some o → ¬ TupObj o
theorem Ext.tupExt {h h' : Heap} (x : Ext h h') : TupExt h h' := fun a o _ e => x a o e
theorem TupExt.tup {h h' : Heap} {a : Addr} {vs : Array Value} (x : TupExt h h') (l : IsTup h a vs) : IsTup h' a vs := let ⟨o, ho, c, n, d⟩ := l; ⟨o, x a o ⟨c, vs, n, d⟩ ho, c, n, d⟩
theorem noTup_ns {h : Heap} {a : Addr} {m : Str → Option Value} (x : h.Ns a m) : NoTup h a := fun o e => by
  obtain ⟨o', _, _, ho', hd', _⟩ := x
  rintro ⟨_, xs, n, q⟩
  rw [e] at ho'; cases ho'
  rw [q] at hd'; cases hd'
theorem noTup_list {h : Heap} {a : Addr} {vs : Array Value} (x : h.IsList a vs) : NoTup h a := fun o e => by
  obtain ⟨o', ho', hc, _⟩ := x
  rintro ⟨q, _⟩
  rw [e] at ho'; cases ho'
  rw [hc] at q; exact absurd q (by simp)
theorem noTup_iter {h : Heap} {a l : Addr} {i : Nat} (x : h.IsListIter a l i) : NoTup h a := fun o e => by
  obtain ⟨o', ho', hc, _⟩ := x
  rintro ⟨q, _⟩
  rw [e] at ho'; cases ho'
  rw [hc] at q; exact absurd q (by simp)
theorem noTup_none {h : Heap} {a : Addr} (x : h.get? a = none) : NoTup h a := fun o e => by rw [x] at e; cases e

section
variable {prog : Program} {w : World} {A : Around} {E : Value → Shared → Prop} {env : Env}

def EltEnd (s₂ : Shared) (g₀ : Heap) (C : Addr) (R : Value → Heap → Prop) (h₁ : Heap) (y : Value) (s₅ : Shared) : Prop :=
  ∃ h₅ tk₅ m₅, s₅ = { s₂ with heap := h₅, toks := tk₅ } ∧ Fr g₀ C h₅ m₅ ∧ Kp [C] h₁ h₅ ∧ R y h₅
def SkipEnd (s₂ : Shared) (g₀ : Heap) (C : Addr) (h₁ : Heap) (s₅ : Shared) : Prop :=
  ∃ h₅ tk₅ m₅, s₅ = { s₂ with heap := h₅, toks := tk₅ } ∧ Fr g₀ C h₅ m₅ ∧ Kp [C] h₁ h₅

/-- the tests of a comprehension: none or one -/
def TestW (prog : Program) (w : World) (A : Around) (env : Env) : List Expr → (Bool → Shared → Prop) → (Value → Shared → Prop) → Shared → Prop
  | [], Q, _, s => Q true s
  | [c], Q, E, s => wpAny (model prog w) A (isTrue c env (eval c env)) Q E s
  | _, _, _, _ => False
theorem TestW.nil {Q : Bool → Shared → Prop} {s : Shared} (h : Q true s) : TestW prog w A env [] Q E s := h
theorem TestW.one {c : Expr} {Q : Bool → Shared → Prop} {s : Shared} (h : wpAny (model prog w) A (isTrue c env (eval c env)) Q E s) : TestW prog w A env [c] Q E s := h
theorem TestW.mono {ifs : List Expr} {Q Q' : Bool → Shared → Prop} {E' : Value → Shared → Prop} {s : Shared} (h : TestW prog w A env ifs Q E s) (hQ : ∀ b s, Q b s → Q' b s) (hE : ∀ e s, E e s → E' e s) : TestW prog w A env ifs Q' E' s := by
  match ifs, h with
  | [], h => exact hQ _ _ h
  | [_], h => exact wpAny_mono h hQ hE
/-- the library's two loops of a comprehension in one -/
theorem comp_loop {R : Result → Shared → Prop} {s : Shared} {elt target iter : Expr} {ifs : List Expr} {scope : Scope} {pos : Pos} {it acc : Value} (I : Nat → Shared → Prop) {F : Value → Shared → Prop}
    (hF : F = notedBy (model prog w) A env fun e s' => R (.error e) s')
    (turn : ∀ n s, I n s → wpAny (model prog w) A (pyNext it) (fun r s₁ => (r = none → R (.ok .next) s₁) ∧ ∀ v, r = some v →
      wpAny (model prog w) A (letOwnedTupleGo target it v) (fun _ => wpAny (model prog w) A (assign target env v) (fun _ => TestW prog w A env ifs (fun ok s₃ =>
        (ok = true → wpAny (model prog w) A (eval elt env) (fun x => wpAny (model prog w) A (call (.builtin "list.append") [acc, x]) (fun _ s₅ => ∃ m, m < n ∧ I m s₅) F) F s₃) ∧
        (ok = false → ∃ m, m < n ∧ I m s₃)) F) F) F s₁) F s)
    (n : Nat) (h : I n s) (few : ifs.length ≤ 1) : codeAny (model prog w) A (.compLoop (.ListComp elt [⟨target, iter, ifs, 0⟩] scope pos) 0 it acc env) R s := by
  subst hF
  have dn : ∀ {α : Type} {t : Sem α} {Q : α → Shared → Prop} {F : Value → Shared → Prop} {Q' : α → Shared → Prop} {s}, wpAny (model prog w) A t Q F s → (∀ a s, Q a s → Q' a s) → wpAny (model prog w) A t Q' F s := fun h q => wpAny_mono h q fun _ _ e => e
  match ifs, turn, few with
  | [], turn, _ =>
    refine kcp_loop I (fun n s hI => dn (turn n s hI) fun r s₁ x => ?_) n h
    cases r with
    | none => exact x.1 rfl
    | some v => exact dn (x.2 v rfl) fun _ _ y => dn y fun _ _ z => z.1 rfl
  | [c], turn, _ =>
    refine kct_loop I (fun n s hI => dn (turn n s hI) fun r s₁ x => ?_) n h
    cases r with
    | none => exact x.1 rfl
    | some v =>
      refine dn (x.2 v rfl) fun _ _ y => dn y fun _ _ z => dn z fun ok s₃ u => ?_
      cases ok with
      | false => exact u.2 rfl
      | true => exact u.1 rfl
  | _ :: _ :: _, _, few => exact absurd few (by simp)

/-- one turn of a comprehension -/
def CompTurn (prog : Program) (w : World) (A : Around) (env : Env) (scope : Scope) (cl : List (Str × Addr)) (target elt : Expr) (ifs : List Expr) (s₂ : Shared) (g₀ : Heap) (n : Nat) (P : Nat → Value → Prop) (p : Nat → Bool) (R : Nat → Value → Heap → Prop) : Prop :=
  ∀ C i v m₁ h₁ tk₁ (E' : Value → Shared → Prop), i < n → P i v → Fr g₀ C h₁ m₁ →
    wpAny (model prog w) A (assign target (compEnvC scope cl C env) v) (fun _ s₃ =>
      TestW prog w A (compEnvC scope cl C env) ifs
        (fun ok s₄ => ok = p i ∧ if ok = true then wpAny (model prog w) A (eval elt (compEnvC scope cl C env)) (EltEnd s₂ g₀ C (R i) h₁) E' s₄ else SkipEnd s₂ g₀ C h₁ s₄) E' s₃) E' { s₂ with heap := h₁, toks := tk₁ }

theorem comp_core {elt target iter : Expr} {ifs : List Expr} {scope : Scope} {cl : List (Str × Addr)} {pos : Pos} {s₂ : Shared} {g₀ : Heap} {I : Addr} {fp wr : List Addr} {n : Nat} {P : Nat → Value → Prop} {St : Nat → Heap → Prop}
    (Wk : Walks prog w A I fp wr n P St) (hsz : n ≤ sizeLine) (p : Nat → Bool) (R : Nat → Value → Heap → Prop) (hR : ∀ i y h h', R i y h → TupExt h h' → R i y h')
    {RR : Value → Addr → Result → Shared → Prop}
    (hcell : ∀ y ∈ scope.names, y.2 ≠ .cell) (hkind : scope.kind = .function) (hst : St 0 s₂.heap) (hfp : ∀ b ∈ fp, b < s₂.heap.objs.size)
    (hg : Ext g₀ s₂.heap) (hgs : g₀.objs.size ≤ s₂.heap.objs.size) (hwr : ∀ a ∈ wr, g₀.get? a = none) (hwt : ∀ a ∈ wr, ∀ i h, St i h → NoTup h a)
    (turn : CompTurn prog w A env scope cl target elt ifs s₂ g₀ n P p R)
    (hRR : ∀ D C h' tk m' (ys : List Value), s₂.heap.get? D = none → s₂.heap.get? C = none → D ≠ C → h'.Ns C m' → h'.IsList D ys.toArray → Coll p (fun i y => R i y h') n ys → Kp wr s₂.heap h' →
      RR (.ref D) C (.ok .next) { s₂ with heap := h', toks := tk })
    (hgo : ∀ i v (s' : Shared) (Q' : Unit → Shared → Prop) (E' : Value → Shared → Prop), St i s'.heap → Q' () s' → wpAny (model prog w) A (letOwnedTupleGo target (.ref I) v) Q' E' s') (few : ifs.length ≤ 1) :
    wpAny (model prog w) A (newList []) (fun acc s₃ => wpAny (model prog w) A (newFunctionEnv scope env.globals cl [] env.qual none .none (some env)) (fun cenv s₄ =>
      codeAny (model prog w) A (.compStart (.ListComp elt [⟨target, iter, ifs, 0⟩] scope pos) 0 (.ref I) acc { cenv with scope := relabel scope env }) (RR acc cenv.locals) s₄) E s₃) E s₂ := by
  refine wpAny_newObj_type (wpAny_newFunctionEnv hcell (by intro y hy; simp at hy) (fun h₁ hns₁ hsb₁ => ?_) hkind)
  dsimp only at hns₁ hsb₁ ⊢
  generalize hH2 : s₂.heap.push { cls := .type "list", dict := none, data := .seq ([] : List Value).toArray } = H2 at hns₁ hsb₁ ⊢
  have hC : H2.objs.size = s₂.heap.objs.size + 1 := by rw [← hH2, Heap.size_push]
  generalize hCC : H2.objs.size = C at hns₁ hsb₁ hC ⊢
  have hDC : s₂.heap.objs.size ≠ C := by rw [hC]; exact Nat.ne_of_lt (Nat.lt_succ_self _)
  have below : ∀ b, b < s₂.heap.objs.size → b ≠ C ∧ b ≠ s₂.heap.objs.size := fun b hb => ⟨by rw [hC]; exact Nat.ne_of_lt (Nat.lt_succ_of_lt hb), Nat.ne_of_lt hb⟩
  have hDf : s₂.heap.objs.size ∉ fp := fun hm => Nat.lt_irrefl _ (hfp _ hm)
  have hCf : C ∉ fp := fun hm => by have := hfp _ hm; rw [hC] at this; exact Nat.lt_irrefl _ (Nat.lt_of_succ_lt this)
  have old : ∀ b o, s₂.heap.get? b = some o → h₁.get? b = some o := fun b o e => hsb₁.extBut b o (below b (Heap.lt_size e)).1 (Heap.get?_push_of_some _ (hH2 ▸ Heap.get?_push_of_some _ e))
  have fresh : ∀ a, s₂.heap.objs.size ≤ a → s₂.heap.get? a = none := fun a ha => by
    cases e : s₂.heap.get? a with
    | none => rfl
    | some o' => exact absurd (Heap.lt_size e) (Nat.not_lt.mpr ha)
  have hacc : h₁.IsList s₂.heap.objs.size #[] := ⟨_, hsb₁.extBut _ _ hDC (Heap.get?_push_of_some _ (hH2 ▸ Heap.get?_push_size _ rfl)), rfl, _, rfl⟩
  have hst₁ : St 0 h₁ := Wk.frame _ _ _ hst fun b _ o e => old b o e
  have hF₁ : Fr g₀ C h₁ (fun x => ([] : List (Str × Value)).reverse.lookup x) := ⟨hns₁, fun b o e => old b o (hg b o e), by rw [hC]; exact Nat.le_succ_of_le hgs⟩
  have loop : codeAny (model prog w) A (.compLoop (.ListComp elt [⟨target, iter, ifs, 0⟩] scope pos) 0 (.ref I) (.ref s₂.heap.objs.size) (compEnvC scope cl C env))
        (RR (.ref s₂.heap.objs.size) C) { s₂ with heap := h₁, toks := s₂.toks + ([] : List (Str × Value)).length } := by
    refine comp_loop (fun k s' => ∃ h' tk m' ys i, s' = { s₂ with heap := h', toks := tk } ∧ St i h' ∧ h'.IsList s₂.heap.objs.size (List.toArray ys) ∧ Fr g₀ C h' m' ∧ Coll p (fun i y => R i y h') i ys ∧ i ≤ n ∧ k = n - i ∧ Kp wr s₂.heap h')
      rfl ?_ n ⟨h₁, _, _, [], 0, rfl, hst₁, hacc, hF₁, .nil, Nat.zero_le _, rfl, fun b o _ e => old b o e⟩ few
    rintro k s' ⟨h', tk, m', ys, i, rfl, hst', hl', F', hc', hi, rfl, K'⟩
    have hDw : s₂.heap.objs.size ∉ wr := fun q => hDf (Wk.sub _ q)
    have hCw : C ∉ wr := fun q => hCf (Wk.sub _ q)
    have kfr : ∀ {hx : Heap}, (∀ b o, b ∉ wr → h'.get? b = some o → hx.get? b = some o) → Fr g₀ C hx m' := fun {hx} hk =>
      ⟨F'.ns.at' fun o e => hk _ o hCw e, fun b o e => hk b o (fun q => by rw [hwr _ q] at e; cases e) (F'.keep b o e), F'.above⟩
    have ktu : ∀ {hx : Heap}, (∀ b o, b ∉ wr → h'.get? b = some o → hx.get? b = some o) → TupExt h' hx := fun {hx} hk a o q e =>
      hk a o (fun z => hwt a z i h' hst' o e q) e
    by_cases hlt : i < n
    · refine Wk.item i _ _ _ hlt hst' fun v hx tkx hP hstx hkx => ⟨fun q => (by cases q), fun v' q => ?_⟩
      cases q
      refine hgo (i + 1) v _ _ _ hstx ?_
      have Fx := kfr hkx
      have hlx : hx.IsList s₂.heap.objs.size (List.toArray ys) := hl'.at fun o e => hkx _ o hDw e
      refine wpAny_mono (turn C i v m' hx tkx _ hlt hP Fx) (fun _ s₃ h₃ => TestW.mono h₃ (fun ok s₄ h₄ => ?_) fun _ _ e => e) fun _ _ e => e
      obtain ⟨rfl, h₄⟩ := h₄
      have next : ∀ {h5 : Heap} {m5 : Str → Option Value}, Fr g₀ C h5 m5 → Kp [C] hx h5 → St (i + 1) h5 ∧ h5.IsList s₂.heap.objs.size (List.toArray ys) ∧ TupExt h' h5 ∧ Kp wr s₂.heap h5 := fun {h5 m5} F5 K5 =>
        ⟨Wk.frame _ _ _ hstx fun b hb o e => K5 b o (fun q => hCf (List.mem_singleton.mp q ▸ hb)) e, hlx.at fun o e => K5 _ o (fun q => hDC (List.mem_singleton.mp q)) e,
          (ktu hkx).trans (kp_tup K5 fun a ha => by rw [List.mem_singleton.mp ha]; exact noTup_ns Fx.ns),
          fun b o nb e => K5 b o (fun q => (below b (Heap.lt_size e)).1 (List.mem_singleton.mp q)) (hkx b o nb (K' b o nb e))⟩
      cases hp : p i with
      | false =>
        simp only [hp, Bool.false_eq_true, if_false] at h₄
        refine ⟨fun q => (by cases q), fun _ => ?_⟩
        obtain ⟨h5, tk5, m5, rfl, F5, K5⟩ := h₄
        obtain ⟨a1, a2, a3, a4⟩ := next F5 K5
        exact ⟨n - (i + 1), by omega, h5, tk5, m5, ys, i + 1, rfl, a1, a2, F5, .skip (hc'.mono fun j y r => hR j y _ _ r a3) hp, hlt, rfl, a4⟩
      | true =>
        simp only [hp, if_true] at h₄
        refine ⟨fun _ => ?_, fun q => (by cases q)⟩
        refine wpAny_mono h₄ (fun y s₅ h₅ => ?_) fun _ _ e => e
        obtain ⟨h5, tk5, m5, rfl, F5, K5, r5⟩ := h₅
        obtain ⟨a1, a2, a3, a4⟩ := next F5 K5
        have hys : (List.toArray ys).size ≤ sizeLine := by have := hc'.len; rw [List.size_toArray]; omega
        refine wpAny_list_append (hsz := hys) a2 fun h6 hl6 hs6 => ?_
        have t6 : TupExt h5 h6 := kp_tup (kp_same hs6 (List.mem_singleton.mpr rfl)) fun a ha => by rw [List.mem_singleton.mp ha]; exact noTup_list a2
        refine ⟨n - (i + 1), by omega, h6, tk5, m5, ys ++ [y], i + 1, rfl, Wk.frame _ _ _ a1 fun b hb o e => hs6.extBut b o (fun q => hDf (q ▸ hb)) e, by simpa using hl6, ⟨F5.ns.sameBut hs6 (Ne.symm hDC), fun b o e => hs6.extBut b o ?_ (F5.keep b o e), F5.above⟩,
          .take ((hc'.mono fun j y r => hR j y _ _ r (a3.trans t6))) hp (hR _ _ _ _ r5 t6), hlt, rfl, fun b o nb e => hs6.extBut b o (below b (Heap.lt_size e)).2 (a4 b o nb e)⟩
        intro q
        have := Heap.lt_size e
        rw [q] at this
        exact absurd this (Nat.not_lt.mpr hgs)
    · have hin : i = n := by omega
      subst hin
      refine Wk.done _ _ _ hst' fun hx tkx hkx => ⟨fun _ => ?_, fun _ q => (by cases q)⟩
      exact hRR _ _ hx tkx m' ys (fresh _ (Nat.le_refl _)) (fresh _ (by rw [hC]; exact Nat.le_succ _)) hDC (kfr hkx).ns (hl'.at fun o e => hkx _ o hDw e) (hc'.mono fun j y r => hR j y _ _ r (ktu hkx)) fun b o nb e => hkx b o nb (K' b o nb e)
  exact codeAny_compStart_list loop (Wk.self 0 _ _ _ hst₁ loop)

/-- a comprehension over a list, as a value -/
theorem comp_list {s : Shared} {elt target iter : Expr} {ifs : List Expr} {scope : Scope} {cl : List (Str × Addr)} {pos : Pos} {Q : Value → Shared → Prop}
    (p : Nat → Bool) (R : Nat → Value → Heap → Prop) (hR : ∀ i y h h', R i y h → TupExt h h' → R i y h')
    (hh : A.handled = none) (hclos : closureFor scope env = pure cl) (hcell : ∀ y ∈ scope.names, y.2 ≠ .cell) (hkind : scope.kind = .function)
    (hnames : ∀ y ∈ scope.names, y.2 = .local → scope.names.lookup y.1 = some .local)
    (h : wpAny (model prog w) A (eval iter env) (fun xv s₁ => ∃ ax items, xv = .ref ax ∧ s₁.heap.IsList ax items ∧ items.size ≤ sizeLine ∧
      CompTurn prog w A env scope cl target elt ifs s₁ s₁.heap items.size (fun i v => items[i]? = some v) p R ∧
      (∀ D h' tk (ys : List Value), Ext s₁.heap h' → s₁.heap.get? D = none → h'.IsList D ys.toArray → Coll p (fun i y => R i y h') items.size ys → Q (.ref D) { s₁ with heap := h', toks := tk })) E s)
    (hs : ∀ x, foldedSetIterable iter env x = pure x := by intro _; rfl) (few : ifs.length ≤ 1 := by first | exact Nat.zero_le _ | exact Nat.le_refl _) :
    wpAny (model prog w) A (eval (.ListComp elt [⟨target, iter, ifs, 0⟩] scope pos) env) Q E s := by
  rw [eval_ListComp]
  refine wpAny_comprehension_free (use := none) rfl hs hclos hkind hnames (wpAny_mono h (fun xv s₁ h₁ => ?_) fun _ _ e => e)
  obtain ⟨ax, items, rfl, hl, hsz, turn, hQ⟩ := h₁
  refine wpAny_pyIter_list hl ?_
  obtain ⟨oax, hax, _⟩ := id hl
  have hI : ∀ a o, s₁.heap.get? a = some o → a ≠ s₁.heap.objs.size := fun a o e => Nat.ne_of_lt (Heap.lt_size e)
  have hIn : s₁.heap.get? s₁.heap.objs.size = none := by
    cases e : s₁.heap.get? s₁.heap.objs.size with
    | none => rfl
    | some o => exact absurd rfl (hI _ _ e)
  refine comp_core (s₂ := { s₁ with heap := s₁.heap.push { cls := .type "list_iterator", data := .fields #[.ref ax, .int 0 0] } }) (g₀ := s₁.heap) (RR := fun acc C => compPost (model prog w) A E none Q acc C)
    (Walks.list hh s₁.heap.objs.size ax (hI _ _ hax) items) hsz p R hR hcell hkind ⟨⟨_, Heap.get?_push_size _ rfl, rfl, rfl⟩, hl.push _⟩ ?_ (Ext.push _ _) (by rw [Heap.size_push]; exact Nat.le_succ _) ?_ ?_ turn ?_ (fun _ _ _ _ _ st hq => letGo_listiter st.1 hq) few
  · intro b hb
    simp only [List.mem_cons, List.not_mem_nil, or_false] at hb
    rw [Heap.size_push]
    rcases hb with rfl | rfl
    · exact Nat.lt_succ_self _
    · exact Nat.lt_succ_of_lt (Heap.lt_size hax)
  · intro a ha; rw [List.mem_singleton.mp ha]; exact hIn
  · intro a ha i h st; rw [List.mem_singleton.mp ha]; exact noTup_iter st.1
  · intro D C h' tk m' ys hD hC hDC hn hl' hc hk
    have hDs : s₁.heap.get? D = none := ext_none (Ext.push _ _) hD
    have hCs : s₁.heap.get? C = none := ext_none (Ext.push _ _) hC
    have x1 : Ext s₁.heap h' := fun b o e => hk b o (fun q => hI _ _ e (List.mem_singleton.mp q)) (Heap.get?_push_of_some _ e)
    refine ⟨m', hn, fun h'' hs'' => ?_⟩
    refine hQ D h'' tk ys (fun b o e => hs''.extBut b o (fun q => by rw [q, hCs] at e; cases e) (x1 b o e)) hDs (hl'.extBut hs''.extBut hDC) (hc.mono fun i y r => hR i y _ _ r ?_)
    exact kp_tup (kp_same hs'' (List.mem_singleton.mpr rfl)) fun a ha => by rw [List.mem_singleton.mp ha]; exact noTup_ns hn

/-- a comprehension over a list, bound to a local name -/
theorem comp_assign {s : Shared} {elt target iter : Expr} {ifs : List Expr} {scope : Scope} {cl : List (Str × Addr)} {pos spos py : Pos} {y : Str} {Q : Flow → Shared → Prop}
    (p : Nat → Bool) (R : Nat → Value → Heap → Prop) (hR : ∀ i y h h', R i y h → TupExt h h' → R i y h')
    (hsw : swapsWith (.ListComp elt [⟨target, iter, ifs, 0⟩] scope pos) (some (.Name y py)) spos.line env = pure true)
    (hh : A.handled = none) (hclos : closureFor scope env = pure cl) (hcell : ∀ y ∈ scope.names, y.2 ≠ .cell) (hkind : scope.kind = .function)
    (hnames : ∀ y ∈ scope.names, y.2 = .local → scope.names.lookup y.1 = some .local)
    (hy : env.kindOf y = some .local) (hp : (env.scope.kind == .class || (env.scope.kind == .module && env.locals != env.globals)) = false)
    (h : wpAny (model prog w) A (eval iter env) (fun xv s₁ => ∃ ax items m, xv = .ref ax ∧ s₁.heap.IsList ax items ∧ items.size ≤ sizeLine ∧ s₁.heap.Ns env.locals m ∧
      CompTurn prog w A env scope cl target elt ifs s₁ s₁.heap items.size (fun i v => items[i]? = some v) p R ∧
      (∀ D h' tk (ys : List Value), Kp [env.locals] s₁.heap h' → s₁.heap.get? D = none → h'.Ns env.locals (fun z => if z = y then some (.ref D) else m z) → h'.IsList D ys.toArray → Coll p (fun i y => R i y h') items.size ys → Q .next { s₁ with heap := h', toks := tk })) E s)
    (hs : ∀ x, foldedSetIterable iter env x = pure x := by intro _; rfl) (few : ifs.length ≤ 1 := by first | exact Nat.zero_le _ | exact Nat.le_refl _) :
    wpAny (model prog w) A (exec (.Assign [.Name y py] (.ListComp elt [⟨target, iter, ifs, 0⟩] scope pos) spos) env) Q E s := by
  rw [exec_Assign_Name_used _ _ _ _ hsw]
  refine wpAny_bind (wpAny_standAt (wpAny_bind ?_))
  show wpAny _ A (do let _ ← comprehension (.ListComp elt [⟨target, iter, ifs, 0⟩] scope pos) scope env _ (newList []) false (eval iter env) (some (assign (.Name y py) env))) _ _ s
  refine wpAny_bind (wpAny_mono (wpAny_comprehension_free (use := some (assign (.Name y py) env)) (Q := fun _ s' => Q .next s') rfl hs hclos hkind hnames
    (wpAny_mono h (fun xv s₁ h₁ => ?_) fun _ _ e => e)) (fun _ s' hq => wpAny_pure (wpAny_pure hq)) fun _ _ e => e)
  obtain ⟨ax, items, m, rfl, hl, hsz, hn, turn, hQ⟩ := h₁
  refine wpAny_pyIter_list hl ?_
  obtain ⟨oax, hax, _⟩ := id hl
  have hI : ∀ a o, s₁.heap.get? a = some o → a ≠ s₁.heap.objs.size := fun a o e => Nat.ne_of_lt (Heap.lt_size e)
  have hIn : s₁.heap.get? s₁.heap.objs.size = none := by
    cases e : s₁.heap.get? s₁.heap.objs.size with
    | none => rfl
    | some o => exact absurd rfl (hI _ _ e)
  refine comp_core (s₂ := { s₁ with heap := s₁.heap.push { cls := .type "list_iterator", data := .fields #[.ref ax, .int 0 0] } }) (g₀ := s₁.heap) (RR := fun acc C => compPost (model prog w) A E (some (assign (.Name y py) env)) (fun _ s' => Q .next s') acc C)
    (Walks.list hh s₁.heap.objs.size ax (hI _ _ hax) items) hsz p R hR hcell hkind ⟨⟨_, Heap.get?_push_size _ rfl, rfl, rfl⟩, hl.push _⟩ ?_ (Ext.push _ _) (by rw [Heap.size_push]; exact Nat.le_succ _) ?_ ?_ turn ?_ (fun _ _ _ _ _ st hq => letGo_listiter st.1 hq) few
  · intro b hb
    simp only [List.mem_cons, List.not_mem_nil, or_false] at hb
    rw [Heap.size_push]
    rcases hb with rfl | rfl
    · exact Nat.lt_succ_self _
    · exact Nat.lt_succ_of_lt (Heap.lt_size hax)
  · intro a ha; rw [List.mem_singleton.mp ha]; exact hIn
  · intro a ha i h st; rw [List.mem_singleton.mp ha]; exact noTup_iter st.1
  · intro D C h' tk m' ys hD hC hDC hnC hl' hc hk
    have hDs : s₁.heap.get? D = none := ext_none (Ext.push _ _) hD
    have hCs : s₁.heap.get? C = none := ext_none (Ext.push _ _) hC
    have x1 : Ext s₁.heap h' := fun b o e => hk b o (fun q => hI _ _ e (List.mem_singleton.mp q)) (Heap.get?_push_of_some _ e)
    have hLC : env.locals ≠ C := by rintro rfl; obtain ⟨o, _, _, ho, _⟩ := hn; rw [hCs] at ho; cases ho
    have hLD : env.locals ≠ D := by rintro rfl; obtain ⟨o, _, _, ho, _⟩ := hn; rw [hDs] at ho; cases ho
    have hn' := hn.keeps x1
    show wpAny _ A (assign (.Name y py) env (.ref D)) _ _ _
    refine wpAny_assign_Name (wpAny_storeName_local hy hn' (fun h₂ hn₂ hs₂ => ?_) hp)
    refine ⟨m', hnC.sameBut hs₂ (Ne.symm hLC), fun h₃ hs₃ => ?_⟩
    have t2 : TupExt h' h₂ := kp_tup (kp_same hs₂ (List.mem_singleton.mpr rfl)) fun a ha => by rw [List.mem_singleton.mp ha]; exact noTup_ns hn'
    have t3 : TupExt h₂ h₃ := kp_tup (kp_same hs₃ (List.mem_singleton.mpr rfl)) fun a ha => by rw [List.mem_singleton.mp ha]; exact noTup_ns (hnC.sameBut hs₂ (Ne.symm hLC))
    refine hQ D h₃ _ ys (fun b o nb e => hs₃.extBut b o (fun q => by rw [q, hCs] at e; cases e) (hs₂.extBut b o (fun q => nb (List.mem_singleton.mpr q)) (x1 b o e))) hDs (hn₂.sameBut hs₃ hLC) ((hl'.extBut hs₂.extBut (Ne.symm hLD)).extBut hs₃.extBut hDC) (hc.mono fun i y r => hR i y _ _ r (t2.trans t3))
end
end
section
/-! cuts of texts -/
def clp (v : Option Int) (d n : Nat) : Nat := match v with
  | none => d
  | some i => (max 0 (min (if i < 0 then i + n else i) (n : Int))).toNat
/-- l[lo:hi] -/
def cut (l : List Nat) (lo hi : Option Int) : List Nat := (l.drop (clp lo 0 l.length)).take (clp hi l.length l.length - clp lo 0 l.length)
theorem clp_le {v : Option Int} {d n : Nat} (h : d ≤ n) : clp v d n ≤ n := by
  unfold clp; split
  · exact h
  · omega
theorem indices_eq (lo hi : Option Int) (n : Nat) : PySem.Builtin.Str.strSliceIndices lo hi 1 n = if clp lo 0 n ≤ clp hi n n then (List.range (clp hi n n - clp lo 0 n)).map (fun k => clp lo 0 n + k) else [] := by
  have e : PySem.Builtin.Str.strSliceIndices lo hi 1 n = PySem.Builtin.Str.strSliceIndices (some ((clp lo 0 n : Nat) : Int)) (some ((clp hi n n : Nat) : Int)) 1 n := by
    have a1 := clp_le (v := lo) (Nat.zero_le n)
    have a2 := clp_le (v := hi) (Nat.le_refl n)
    simp only [PySem.Builtin.Str.strSliceIndices, show ((1 : Int) > 0) = True from by simp, if_true]
    have e1 : (match lo with | none => (0 : Int) | some i => max 0 (min (if i < 0 then i + (n : Int) else i) n)) = max 0 (min (if ((clp lo 0 n : Nat) : Int) < 0 then ((clp lo 0 n : Nat) : Int) + n else ((clp lo 0 n : Nat) : Int)) n) := by
      rw [if_neg (by omega)]
      cases lo with
      | none => simp only [clp]; omega
      | some i => simp only [clp]; split <;> omega
    have e2 : (match hi with | none => (n : Int) | some i => max 0 (min (if i < 0 then i + (n : Int) else i) n)) = max 0 (min (if ((clp hi n n : Nat) : Int) < 0 then ((clp hi n n : Nat) : Int) + n else ((clp hi n n : Nat) : Int)) n) := by
      rw [if_neg (by omega)]
      cases hi with
      | none => simp only [clp]; omega
      | some i => simp only [clp]; split <;> omega
    rw [← e1, ← e2]
    cases lo <;> cases hi <;> rfl
  rw [e]
  split
  · exact PySem.StrLaws.strSliceIndices_plain (by assumption) (clp_le (Nat.le_refl n))
  · rename_i h
    have h1 : ¬ (((clp lo 0 n : Nat) : Int) < 0) := by omega
    have h2 : ¬ (((clp hi n n : Nat) : Int) < 0) := by omega
    have a1 := clp_le (v := lo) (Nat.zero_le n)
    have a2 := clp_le (v := hi) (Nat.le_refl n)
    simp only [PySem.Builtin.Str.strSliceIndices, sliceRange, h1, h2, if_false, show ((1 : Int) > 0) = True from by simp, if_true]
    rw [if_neg (by omega)]
    rfl

theorem picked_eq (l : List Nat) (lo hi : Option Int) : (PySem.Builtin.Str.strSliceIndices lo hi 1 (T l).length).filterMap ((T l).cps[·]?) = cut l lo hi := by
  rw [T_len, indices_eq]
  split
  · have h := PySem.StrLaws.picks l (clp hi l.length l.length - clp lo 0 l.length) (clp lo 0 l.length) (by have := clp_le (v := hi) (Nat.le_refl l.length); omega)
    simpa [cut] using h
  · rename_i h
    unfold cut
    rw [show clp hi l.length l.length - clp lo 0 l.length = 0 by omega]
    simp
theorem picked_len (l : List Nat) (lo hi : Option Int) : (PySem.Builtin.Str.strSliceIndices lo hi 1 (T l).length).length = clp hi l.length l.length - clp lo 0 l.length := by
  rw [T_len, indices_eq]
  split
  · simp
  · simp; omega
section
variable {prog : Program} {w : World} {A : Around} {E : Value → Shared → Prop} {s : Shared} {env : Env}
theorem sliceMade_post {l : List Nat} {t : Tok} {lo hi : Option (Int × Tok)} {Q : Value → Shared → Prop} (hsz : l.length ≤ sizeLine)
    (h : ∀ t' tk, Q (.str (T (cut l (lo.map (·.1)) (hi.map (·.1)))) t') { s with toks := tk }) : (sliceMade (T l) t lo hi none).post Q s := by
  unfold sliceMade
  split
  · rename_i c
    have c2 : clp (hi.map (·.1)) l.length l.length - clp (lo.map (·.1)) 0 l.length = l.length := by
      have c1 : (slicePicked (T l) lo hi none).length = (T l).length := by simpa using c
      exact (picked_len l _ _).symm.trans (c1.trans (T_len l))
    have a1 := clp_le (v := lo.map (·.1)) (Nat.zero_le l.length)
    have a2 := clp_le (v := hi.map (·.1)) (Nat.le_refl l.length)
    have e : cut l (lo.map (·.1)) (hi.map (·.1)) = l := by
      unfold cut
      by_cases h0 : l.length = 0
      · have : l = [] := List.length_eq_zero_iff.mp h0
        subst this; simp
      · rw [show clp (lo.map (·.1)) 0 l.length = 0 by omega, show clp (hi.map (·.1)) l.length l.length = l.length by omega]
        simp
    have := h t s.toks
    rw [e] at this
    exact this
  · have e : slicePicked (T l) lo hi none = PySem.Builtin.Str.strSliceIndices (lo.map (·.1)) (hi.map (·.1)) 1 (T l).length := rfl
    rw [e, picked_eq]
    refine ⟨?_, h _ _⟩
    show (cut l _ _).toArray.size ≤ _
    rw [List.size_toArray]
    unfold cut
    rw [List.length_take, List.length_drop]
    omega

theorem sub_slice {value : Expr} {lower upper : Option Expr} {p pos : Pos} {Q : Value → Shared → Prop}
    (h : wpAny (model prog w) A (eval value env) (fun o s₁ => wpAny (model prog w) A (evalPart lower env) (fun vl s₂ => wpAny (model prog w) A (evalPart upper env) (fun vu s₃ =>
      ∃ l t lo hi, o = .str (T l) t ∧ vl = partValue lo ∧ vu = partValue hi ∧ l.length ≤ sizeLine ∧
        ∀ t' tk h', Ext s₃.heap h' → Q (.str (T (cut l (lo.map (·.1)) (hi.map (·.1)))) t') { s₃ with heap := h', toks := tk }) E s₂) E s₁) E s)
    (ht : ∀ o r, letTemporaryGo value o r = pure () := by intro _ _; rfl) :
    wpAny (model prog w) A (eval (.Subscript value (.Slice lower upper none p) pos) env) Q E s := by
  refine wpAny_Subscript_str_slice (wpAny_mono h (fun o s₁ h₁ => wpAny_mono h₁ (fun vl s₂ h₂ => wpAny_mono h₂ (fun vu s₃ h₃ => ?_) fun _ _ e => e) fun _ _ e => e) fun _ _ e => e) ht
  obtain ⟨l, t, lo, hi, rfl, rfl, rfl, hsz, hQ⟩ := h₃
  exact ⟨T l, t, lo, hi, rfl, rfl, rfl, sliceMade_post hsz fun t' tk => hQ t' tk _ (Ext.push _ _)⟩
end
theorem clp_some (k n : Nat) (d : Nat) : clp (some (k : Int)) d n = min k n := by
  simp only [clp]
  rw [if_neg (by omega)]
  omega
theorem clp_neg (i n d : Nat) (h0 : 0 < i) (h1 : i ≤ n) : clp (some (-(i : Int))) d n = n - i := by
  simp only [clp]
  rw [if_pos (by omega)]
  omega
theorem clp_none (d n : Nat) : clp none d n = d := rfl
theorem cut_take (l : List Nat) (k : Nat) : cut l none (some (k : Int)) = l.take k := by
  unfold cut
  rw [clp_none, clp_some, List.drop_zero, Nat.sub_zero, ← List.take_eq_take_min]
theorem cut_drop (l : List Nat) (k : Nat) : cut l (some (k : Int)) none = l.drop k := by
  unfold cut
  rw [clp_none, clp_some, List.take_of_length_le (by simp)]
  by_cases h : k ≤ l.length
  · rw [Nat.min_eq_left h]
  · rw [Nat.min_eq_right (by omega), List.drop_of_length_le (Nat.le_refl _), List.drop_of_length_le (by omega)]
theorem cut_mid (l : List Nat) (a b : Nat) (ha : a ≤ l.length) : cut l (some (a : Int)) (some (b : Int)) = (l.drop a).take (b - a) := by
  unfold cut
  rw [clp_some, clp_some, Nat.min_eq_left ha]
  by_cases h : b ≤ l.length
  · rw [Nat.min_eq_left h]
  · rw [Nat.min_eq_right (by omega), List.take_of_length_le (by simp), List.take_of_length_le (by simp; omega)]
theorem cut_neg (l : List Nat) (i : Nat) (h0 : 0 < i) (h1 : i ≤ l.length) : cut l none (some (-(i : Int))) = l.take (l.length - i) := by
  unfold cut
  rw [clp_none, clp_neg i _ _ h0 h1, List.drop_zero, Nat.sub_zero]
end
section
/-! lists of texts; _law_longest -/
def StrsL (vs : Array Value) (ks : List (List Nat)) : Prop := vs.size = ks.length ∧ ∀ (i : Nat) (k : List Nat), (ks[i]? : Option (List Nat)) = some k → ∃ t, (vs[i]? : Option Value) = some (Value.str (T k) t)
theorem StrsL.item {vs : Array Value} {ks : List (List Nat)} (x : StrsL vs ks) {i : Nat} {v : Value} (h : vs[i]? = some v) : ∃ k t, ks[i]? = some k ∧ v = .str (T k) t := by
  have hi : i < ks.length := by rw [← x.1]; exact (Array.getElem?_eq_some_iff.mp h).1
  obtain ⟨t, ht⟩ := x.2 i ks[i] (List.getElem?_eq_getElem hi)
  rw [h] at ht
  exact ⟨_, t, List.getElem?_eq_getElem hi, Option.some.inj ht⟩
theorem T_beq (a b : List Nat) : (T a == T b) = (a == b) := by
  rw [Bool.eq_iff_iff, beq_iff_eq, beq_iff_eq]; exact ⟨T_inj, congrArg T⟩
/-- a text or nothing -/
def IsOpt (v : Value) : Option (List Nat) → Prop
  | none => v = .none
  | some l => ∃ t, v = .str (T l) t
def better : Option (List Nat) → List Nat → Bool
  | none, _ => true
  | some b, k => decide (b.length < k.length)
def longStep (text : List Nat) (best : Option (List Nat)) (key : List Nat) : Option (List Nat) :=
  if (text.take key.length == key) && better best key then some key else best
def longestL (keys : List (List Nat)) (text : List Nat) : Option (List Nat) := keys.foldl (longStep text) none
theorem foldl_take_succ {α β : Type} (f : β → α → β) (l : List α) (b : β) (i : Nat) (a : α) (h : l[i]? = some a) : (l.take (i + 1)).foldl f b = f ((l.take i).foldl f b) a := by
  rw [List.take_add_one, h, List.foldl_append]; rfl

theorem long_mem {text : List Nat} : ∀ {l : List (List Nat)} {acc : Option (List Nat)} {b : List Nat}, l.foldl (longStep text) acc = some b → b ∈ l ∨ acc = some b
  | [], _, _, h => .inr h
  | x :: r, acc, b, h => by
    rcases long_mem (l := r) h with h | h
    · exact .inl (.tail _ h)
    · unfold longStep at h
      split at h
      · exact .inl (by cases h; exact .head _)
      · exact .inr h
section
variable {w : World} {A : Around} {E : Value → Shared → Prop} {s : Shared} {h₀ : Heap} {L : Addr} {m : Str → Option Value} {G : Gl} {x : Str} {pos p₁ : Pos} {Q : Value → Shared → Prop} {env : Env} {e : Expr}
/-- f(e), f a built-in function -/
theorem call_b1 {id : String} (g : Glb G h₀) (F : Fr h₀ L s.heap m) (e0 : G.mg x = none) (hv : bootBuiltins x = some (.builtin id)) (hn : x ≠ "__name__")
    (h : wpAny (model PRG w) A (eval e env) (fun v s₁ => wpAny (model PRG w) A (call (.builtin id) [v]) Q E s₁) E s)
    (he : starEach [e] env = (false, eval e env) :: starEach [] env := by rfl)
    (hk : env.scope.kind = .function := by rfl) (hx : env.kindOf x = some .globalImplicit := by rfl) (hg : env.globals = mainGlobals := by rfl) (hb : env.builtins = builtinsNs := by rfl) (hd : (x == ("__debug__" : Str)) = false := by decide) :
    wpAny (model PRG w) A (eval (.Call (.Name x p₁) [e] [] pos) env) Q E s := by
  refine Call_ (nmB g F e0 hv hn ?_ hk hx hg hb hd) 
  refine callWith_builtin1 (args_cons (wpAny_mono h (fun v s₁ h₁ => args_nil h₁) fun _ _ x => x) he) he
/-- f(e), f a built-in type -/
theorem call_t1 {id : String} (g : Glb G h₀) (F : Fr h₀ L s.heap m) (e0 : G.mg x = none) (hv : bootBuiltins x = some (.type id)) (hn : x ≠ "__name__")
    (h : wpAny (model PRG w) A (eval e env) (fun v s₁ => wpAny (model PRG w) A (call (.type id) [v]) Q E s₁) E s)
    (he : starEach [e] env = (false, eval e env) :: starEach [] env := by rfl)
    (hk : env.scope.kind = .function := by rfl) (hx : env.kindOf x = some .globalImplicit := by rfl) (hg : env.globals = mainGlobals := by rfl) (hb : env.builtins = builtinsNs := by rfl) (hd : (x == ("__debug__" : Str)) = false := by decide) :
    wpAny (model PRG w) A (eval (.Call (.Name x p₁) [e] [] pos) env) Q E s := by
  refine Call_ (nmB g F e0 hv hn ?_ hk hx hg hb hd) 
  refine PyProof.Rows.callWith_type1 (args_cons (wpAny_mono h (fun v s₁ h₁ => args_nil h₁) fun _ _ x => x) he) he
/-- f(e, e₂), f a built-in function -/
theorem call_b2 {e₂ : Expr} {id : String} (g : Glb G h₀) (F : Fr h₀ L s.heap m) (e0 : G.mg x = none) (hv : bootBuiltins x = some (.builtin id)) (hn : x ≠ "__name__")
    (h : wpAny (model PRG w) A (eval e env) (fun v s₁ => wpAny (model PRG w) A (eval e₂ env) (fun v₂ s₂ => wpAny (model PRG w) A (call (.builtin id) [v, v₂]) Q E s₂) E s₁) E s)
    (he : starEach [e, e₂] env = (false, eval e env) :: starEach [e₂] env := by rfl) (he₂ : starEach [e₂] env = (false, eval e₂ env) :: starEach [] env := by rfl) (hpl : (backTo pos (starEach [e₂] env)).any (·.1) = false := by rfl)
    (hk : env.scope.kind = .function := by rfl) (hx : env.kindOf x = some .globalImplicit := by rfl) (hg : env.globals = mainGlobals := by rfl) (hb : env.builtins = builtinsNs := by rfl) (hd : (x == ("__debug__" : Str)) = false := by decide) :
    wpAny (model PRG w) A (eval (.Call (.Name x p₁) [e, e₂] [] pos) env) Q E s := by
  refine Call_ (nmB g F e0 hv hn ?_ hk hx hg hb hd) 
  refine callWith_builtin1 (args_cons (wpAny_mono h (fun v s₁ h₁ => args_cons (wpAny_mono h₁ (fun v s₂ h₂ => args_nil h₂) fun _ _ x => x) he₂) fun _ _ x => x) he) he hpl
/-- f(e, e₂), f a built-in type -/
theorem call_t2 {e₂ : Expr} {id : String} (g : Glb G h₀) (F : Fr h₀ L s.heap m) (e0 : G.mg x = none) (hv : bootBuiltins x = some (.type id)) (hn : x ≠ "__name__")
    (h : wpAny (model PRG w) A (eval e env) (fun v s₁ => wpAny (model PRG w) A (eval e₂ env) (fun v₂ s₂ => wpAny (model PRG w) A (call (.type id) [v, v₂]) Q E s₂) E s₁) E s)
    (he : starEach [e, e₂] env = (false, eval e env) :: starEach [e₂] env := by rfl) (he₂ : starEach [e₂] env = (false, eval e₂ env) :: starEach [] env := by rfl) (hpl : (backTo pos (starEach [e₂] env)).any (·.1) = false := by rfl)
    (hk : env.scope.kind = .function := by rfl) (hx : env.kindOf x = some .globalImplicit := by rfl) (hg : env.globals = mainGlobals := by rfl) (hb : env.builtins = builtinsNs := by rfl) (hd : (x == ("__debug__" : Str)) = false := by decide) :
    wpAny (model PRG w) A (eval (.Call (.Name x p₁) [e, e₂] [] pos) env) Q E s := by
  refine Call_ (nmB g F e0 hv hn ?_ hk hx hg hb hd) 
  refine PyProof.Rows.callWith_type1 (args_cons (wpAny_mono h (fun v s₁ h₁ => args_cons (wpAny_mono h₁ (fun v s₂ h₂ => args_nil h₂) fun _ _ x => x) he₂) fun _ _ x => x) he) he hpl
theorem len_T {l : List Nat} {t : Tok} (hl : l.length ≤ 2 ^ 30) (h : ∀ t tk, Q (.int (l.length : Int) t) { s with toks := tk }) : wpAny (model PRG w) A (call (.builtin "len") [.str (T l) t]) Q E s :=
  PySem.P.len_str (by rw [T_len]; omega) (by rw [T_len]; exact h _ _)
end
section
variable {w : World} {A : Around} {s : Shared} {G : Gl}
theorem longest_spec (g : Glb G s.heap) (hA : A.depth + 8 < recursionLimit) (hh : A.handled = none) {ks : Addr} {vs : Array Value} {keys : List (List Nat)} {text : List Nat} {tt : Tok}
    (hl : s.heap.IsList ks vs) (hS : StrsL vs keys) (hk4 : ∀ k ∈ keys, k.length ≤ 1000) (ht4 : text.length ≤ 1000) :
    Yields (model PRG w) A (call (.ref G.longest) [.ref ks, .str (T text) tt] []) s (fun v _ => IsOpt v (longestL keys text)) := by
  refine call_fn (binds := [("keys", .ref ks), ("text", .str (T text) tt)]) (by omega) g.nolimit g.fLongest (fun _ _ _ _ _ _ _ => BindsTo.of_eq rfl) (by decide) (locs rfl) rfl rfl rfl ?_
  intro Q E h₁ tk cdv F hQ
  refine wpAny_execs_cons ?_
  repeat walk_at "m"
  refine stL F (fun h₂ F₂ _ => ?_)
  repeat walk_at "m"
  refine wpAny_For ?_
  refine nmL F₂ rfl ?_
  have hlt : ∀ {h : Heap} {m}, Fr s.heap s.heap.objs.size h m → h.IsList ks vs := fun F => let ⟨o, ho, r⟩ := hl; ⟨o, F.keep _ _ ho, r⟩
  obtain ⟨oks, hks, _⟩ := id hl
  refine for_list (b₀ := s.heap) (L := s.heap.objs.size) [] hh F₂ (hlt F₂) (Nat.ne_of_lt (Heap.lt_size hks)) (by simp) (by simp)
    (fun i m _ => m "keys" = some (.ref ks) ∧ m "text" = some (.str (T text) tt) ∧ ∃ v, m "best" = some v ∧ IsOpt v ((keys.take i).foldl (longStep text) none)) (fun _ _ _ _ x _ => x) ⟨rfl, rfl, _, rfl, rfl⟩ ?_ ?_
  · rintro i v m₁ h₁ tk₁ E' hv ⟨i1, i2, b, i3, i4⟩ F₁ K₁
    obtain ⟨key, t, hkey, rfl⟩ := hS.item hv
    have hkl : key.length ≤ 1000 := hk4 _ (List.mem_of_getElem? hkey)
    refine wpAny_assign_Name (stL F₁ fun h₃ F₃ s₃ => ?_)
    refine wpAny_execs_cons ?_
    repeat walk_at "m"
    refine isTrue_and ?_
    refine wpAny_isTrue_Compare1 ?_
    refine sub_slice ?_
    refine nmL F₃ i2 ?_
    refine evalPart_none_step ?_
    refine evalPart_some_step ?_
    refine call_b1 g F₃ g.nLen boot_len (by decide) ?_
    refine nmL F₃ rfl ?_
    refine len_T (by omega) fun t5 tk5 => ?_
    refine ⟨text, tt, none, some (_, _), rfl, rfl, rfl, by rw [sizeLine_eq]; omega, fun t6 tk6 h6 x6 => ?_⟩
    have F6 := frx F₃ x6
    simp only [Option.map, cut_take]
    refine nmL F6 rfl ?_
    refine PyProof.Rows.eq_str ?_
    rw [T_beq]
    refine wpAny_truthy_bool ?_
    have skip : ∀ tk : Nat, longStep text ((keys.take i).foldl (longStep text) none) key = (keys.take i).foldl (longStep text) none → TurnEnd s s.heap s.heap.objs.size [] Q ((fun i m _ => m "keys" = some (.ref ks) ∧ m "text" = some (.str (T text) tt) ∧ ∃ v, m "best" = some v ∧ IsOpt v ((keys.take i).foldl (longStep text) none)) (i + 1)) h₁ .next { s with heap := h6, toks := tk } := fun tk e =>
      ⟨h6, tk, _, rfl, F6, (kp_same s₃ (by simp)).ext x6, i1, i2, b, i3, by rw [foldl_take_succ _ _ _ _ _ hkey, e]; exact i4⟩
    by_cases c1 : text.take key.length = key
    · rw [if_pos (by simpa using c1)]
      refine isTrue_and ?_
      refine isTrue_or ?_
      refine wpAny_isTrue_Compare1 ?_
      refine nmL F6 i3 ?_
      refine Constant_none ?_
      refine PyProof.Rows.is_none_gen ?_
      refine wpAny_truthy_bool ?_
      have take : longStep text ((keys.take i).foldl (longStep text) none) key = some key → ∀ (tk : Nat), wpAny (model PRG w) (A.deeper (envOf (Str.ofString "_law_longest") (scpOf sLongest) s.heap.objs.size G.longest cdv))
          (storeName (envOf (Str.ofString "_law_longest") (scpOf sLongest) s.heap.objs.size G.longest cdv) (Str.ofString "best") (.str (T key) t)) (fun _ s' => TurnEnd s s.heap s.heap.objs.size [] Q ((fun i m _ => m "keys" = some (.ref ks) ∧ m "text" = some (.str (T text) tt) ∧ ∃ v, m "best" = some v ∧ IsOpt v ((keys.take i).foldl (longStep text) none)) (i + 1)) h₁ .next s') E' { s with heap := h6, toks := tk } := fun e tk => by
        refine stL F6 fun h7 F7 s7 => ?_
        exact ⟨h7, _, _, rfl, F7, ((kp_same s₃ (by simp)).ext x6).same s7 (by simp), i1, i2, _, rfl, by rw [foldl_take_succ _ _ _ _ _ hkey, e]; exact ⟨t, rfl⟩⟩
      cases hb : (keys.take i).foldl (longStep text) none with
      | none =>
        rw [hb] at i4
        have : b = .none := i4
        subst this
        refine PySem.W.ite_pos rfl (PySem.W.ite_pos rfl ?_)
        refine isTrue_and_nil ?_
        refine PySem.W.ite_pos rfl ?_
        repeat walk_at "m"
        refine nmL F6 rfl ?_
        refine wpAny_mono (take (by rw [hb]; unfold longStep; rw [if_pos]; simp [c1, better]) _) (fun _ s' e => ?_) fun _ _ e => e
        exact wpAny_execs_nil (wpAny_execs_nil e)
      | some bl =>
        rw [hb] at i4
        obtain ⟨tb, rfl⟩ := i4
        refine PySem.W.ite_neg (fun q => by cases q) ?_
        refine isTrue_or ?_
        refine wpAny_isTrue_Compare1 ?_
        refine call_b1 g F6 g.nLen boot_len (by decide) ?_
        refine nmL F6 rfl ?_
        refine len_T (by omega) fun t5 tk5 => ?_
        refine call_b1 g F6 g.nLen boot_len (by decide) ?_
        refine nmL F6 i3 ?_
        have hbl : bl.length ≤ 1000 := by
          rcases long_mem hb with q | q
          · exact hk4 _ (List.mem_of_mem_take q)
          · cases q
        refine len_T (by omega) fun t7 tk7 => ?_
        refine gt_int ?_
        refine wpAny_truthy_bool ?_
        by_cases c2 : bl.length < key.length
        · refine PySem.W.ite_pos (by simp; omega) ?_
          refine PySem.W.ite_pos rfl ?_
          refine isTrue_and_nil ?_
          refine PySem.W.ite_pos rfl ?_
          repeat walk_at "m"
          refine nmL F6 rfl ?_
          refine wpAny_mono (take (by rw [hb]; unfold longStep; rw [if_pos]; simp [c1, c2, better]) _) (fun _ s' e => ?_) fun _ _ e => e
          exact wpAny_execs_nil (wpAny_execs_nil e)
        · refine PySem.W.ite_neg (by simp; omega) ?_
          refine isTrue_or_nil ?_
          refine PySem.W.ite_neg (by decide) ?_
          refine PySem.W.ite_neg (by decide) ?_
          refine wpAny_execs_nil ?_
          refine wpAny_execs_nil ?_
          exact skip _ (by rw [hb]; unfold longStep; rw [if_neg]; simp [c2, better])
    · rw [if_neg (by simpa using c1)]
      rw [if_neg (by simp)]
      refine wpAny_execs_nil ?_
      refine wpAny_execs_nil ?_
      exact skip _ (by unfold longStep; rw [if_neg]; simp [c1])
  · intro h' tk m' ⟨_, _, b, i3, i4⟩ F' _
    repeat walk_at "m"
    refine nmL F' i3 ?_
    refine hQ _ _ _ F'.keep ?_
    rw [hS.1, List.take_length] at i4
    exact i4
end
end
section
/-! _law_along -/
/-- how far the text goes along with the key -/
def cpl : List Nat → List Nat → Nat
  | a :: k, b :: t => if a = b then cpl k t + 1 else 0
  | _, _ => 0
theorem cpl_le_key : ∀ k t : List Nat, cpl k t ≤ k.length
  | [], _ => by simp [cpl]
  | _ :: _, [] => by simp [cpl]
  | a :: k, b :: t => by
    unfold cpl; split
    · have := cpl_le_key k t; simp; omega
    · simp
theorem cpl_same : ∀ (k t : List Nat) (i : Nat), i < cpl k t → k[i]? = t[i]?
  | [], _, i, h => by simp [cpl] at h
  | _ :: _, [], i, h => by simp [cpl] at h
  | a :: k, b :: t, i, h => by
    unfold cpl at h
    by_cases e : a = b
    · subst e
      rw [if_pos rfl] at h
      cases i with
      | zero => rfl
      | succ i => simpa using cpl_same k t i (by omega)
    · rw [if_neg e] at h; omega
theorem cpl_stop : ∀ (k t : List Nat), cpl k t < k.length → k[cpl k t]? ≠ t[cpl k t]?
  | [], _, h => by simp at h
  | a :: k, [], h => by simp [cpl]
  | a :: k, b :: t, h => by
    by_cases e : a = b
    · have e1 : cpl (a :: k) (b :: t) = cpl k t + 1 := by rw [cpl, if_pos e]
      rw [e1] at h ⊢
      simpa using cpl_stop k t (by simpa using h)
    · have e1 : cpl (a :: k) (b :: t) = 0 := by rw [cpl, if_neg e]
      rw [e1]; simpa using e
def alongL (keys : List (List Nat)) (text : List Nat) : Nat := keys.foldl (fun far key => max far (cpl key text)) 0

theorem take1_beq (l : List Nat) (i c : Nat) : ((l.drop i).take 1 == [c]) = (l[i]? == some c) := by
  rw [Bool.eq_iff_iff, beq_iff_eq, beq_iff_eq, ← List.head?_drop]
  cases l.drop i with
  | nil => simp
  | cons a r => simp

section
variable {prog : Program} {w : World} {A : Around} {E : Value → Shared → Prop} {s : Shared}
theorem item_T {value slice : Expr} {l : List Nat} {t : Tok} {k : Nat} {u : Tok} {c : Nat} {Q : Value → Shared → Prop}
    (hk : k < 2 ^ 30) (hx : l[k]? = some c) (h : ∀ t tk, Q (.str (T [c]) t) { s with toks := tk })
    (hs : subscripted slice false (.str (T l) t) (.int k u) = operate [.str (T l) t, .int k u] (getItem (.str (T l) t) (.int k u)) := by with_unfolding_all rfl) :
    wpAny (model prog w) A (subscriptTail value slice (.str (T l) t) (.int k u)) Q E s := by
  refine tail_any (typeIs_str s (T l) t) PySem.F.slot_str_getitem.lookup (PySem.P.getItem_str (c := c) (by simp; omega) ?_ (h _ _)) hs
  have hkl : k < l.length := (List.getElem?_eq_some_iff.mp hx).1
  unfold seqIndex?
  have e1 : ¬ ((k : Int) < 0) := by omega
  have e2 : (decide ((0 : Int) ≤ (k : Int)) && decide ((k : Int) < ((T l).length : Int))) = true := by rw [T_len]; simp; omega
  simp only [e1, if_false, e2, if_true, Option.bind_some, Int.toNat_natCast]
  simpa using hx
end

section
variable {w : World} {A : Around} {s : Shared} {G : Gl}
theorem along_spec (g : Glb G s.heap) (hA : A.depth + 8 < recursionLimit) (hh : A.handled = none) {ks : Addr} {vs : Array Value} {keys : List (List Nat)} {text : List Nat} {tt : Tok}
    (hl : s.heap.IsList ks vs) (hS : StrsL vs keys) (hk4 : ∀ k ∈ keys, k.length ≤ 1000) (ht4 : text.length ≤ 1000) :
    Yields (model PRG w) A (call (.ref G.along) [.ref ks, .str (T text) tt] []) s (fun v _ => ∃ t, v = .int (alongL keys text : Int) t) := by
  refine call_fn (binds := [("keys", .ref ks), ("text", .str (T text) tt)]) (by omega) g.nolimit g.fAlong (fun _ _ _ _ _ _ _ => BindsTo.of_eq rfl) (by decide) (locs rfl) rfl rfl rfl ?_
  intro Q E h₁ tk cdv F hQ
  refine wpAny_execs_cons ?_
  repeat walk_at "m"
  refine stL F (fun h₂ F₂ _ => ?_)
  repeat walk_at "m"
  refine wpAny_For ?_
  refine nmL F₂ rfl ?_
  have hlt : ∀ {h : Heap} {m}, Fr s.heap s.heap.objs.size h m → h.IsList ks vs := fun F => let ⟨o, ho, r⟩ := hl; ⟨o, F.keep _ _ ho, r⟩
  obtain ⟨oks, hks, _⟩ := id hl
  refine for_list (b₀ := s.heap) (L := s.heap.objs.size) [] hh F₂ (hlt F₂) (Nat.ne_of_lt (Heap.lt_size hks)) (by simp) (by simp)
    (fun i m _ => m "keys" = some (.ref ks) ∧ m "text" = some (.str (T text) tt) ∧ ∃ t, m "far" = some (.int ((keys.take i).foldl (fun far key => max far (cpl key text)) 0 : Nat) t)) (fun _ _ _ _ x _ => x) ⟨rfl, rfl, _, rfl⟩ ?_ ?_
  · rintro i v m₁ h₁ tk₁ E' hv ⟨i1, i2, tf, i3⟩ F₁ K₁
    obtain ⟨key, t, hkey, rfl⟩ := hS.item hv
    have hkl : key.length ≤ 1000 := hk4 _ (List.mem_of_getElem? hkey)
    refine wpAny_assign_Name (stL F₁ fun h₃ F₃ s₃ => ?_)
    refine wpAny_execs_cons ?_
    repeat walk_at "m"
    refine stL F₃ fun h₄ F₄ s₄ => ?_
    dsimp only
    refine wpAny_execs_cons ?_
    refine wpAny_While ?_
    have hc := cpl_le_key key text
    refine codeAny_whileLoop (fun k s' => ∃ h' tk' m' sz ts, s' = { s with heap := h', toks := tk' } ∧ Fr s.heap s.heap.objs.size h' m' ∧ Kp [s.heap.objs.size] h₁ h' ∧ m' "keys" = some (.ref ks) ∧ m' "text" = some (.str (T text) tt) ∧ m' "key" = some (.str (T key) t) ∧
      m' "far" = some (.int ((keys.take i).foldl (fun far key => max far (cpl key text)) 0 : Nat) tf) ∧ m' "size" = some (.int (sz : Nat) ts) ∧ sz ≤ cpl key text ∧ k = cpl key text - sz) ?_ (cpl key text)
      ⟨h₄, _, _, 0, _, rfl, F₄, (kp_same s₃ (by simp)).same s₄ (by simp), i1, i2, rfl, i3, rfl, Nat.zero_le _, rfl⟩
    rintro k s' ⟨h', tk', m', sz, ts, rfl, F', K', j1, j2, j3, j4, j5, j6, rfl⟩
    have fin : ∀ (E'' : Value → Shared → Prop) (hx : Heap) (tkx : Nat), Fr s.heap s.heap.objs.size hx m' → Kp [s.heap.objs.size] h₁ hx → sz = cpl key text → 
        wpAny (model PRG w) (A.deeper (envOf (Str.ofString "_law_along") (scpOf sAlong) s.heap.objs.size G.along cdv)) (execs ((bodOf sAlong)[1]?.elim [] fun st => match st with | .For _ _ b _ _ => b.drop 2 | _ => []) (envOf (Str.ofString "_law_along") (scpOf sAlong) s.heap.objs.size G.along cdv)) (fun f s₃ => f = .next ∧ ∃ h₃ tk₃ m₃, s₃ = { s with heap := h₃, toks := tk₃ } ∧ Fr s.heap s.heap.objs.size h₃ m₃ ∧ Kp [s.heap.objs.size] h₁ h₃ ∧ (m₃ "keys" = some (.ref ks) ∧ m₃ "text" = some (.str (T text) tt) ∧ ∃ t, m₃ "far" = some (.int ((keys.take (i + 1)).foldl (fun far key => max far (cpl key text)) 0 : Nat) t))) E'' { s with heap := hx, toks := tkx } := by
      intro E'' hx tkx Fx Kx e
      refine wpAny_execs_cons ?_
      repeat walk_at "m"
      refine call_b2 g Fx g.nMax boot_max (by decide) ?_
      refine nmL Fx j4 ?_
      refine nmL Fx j5 ?_
      refine max_two_ints hh fun h7 tk7 x7 => ?_
      have F7 := frx Fx x7
      have ev : ∃ t7, (if ((sz : Nat) : Int) > (((keys.take i).foldl (fun far key => max far (cpl key text)) 0 : Nat) : Int) then Value.int (sz : Nat) ts else Value.int ((keys.take i).foldl (fun far key => max far (cpl key text)) 0 : Nat) tf) = .int ((keys.take (i + 1)).foldl (fun far key => max far (cpl key text)) 0 : Nat) t7 := by
        rw [foldl_take_succ _ _ _ _ _ hkey, ← e]
        by_cases c : ((sz : Nat) : Int) > (((keys.take i).foldl (fun far key => max far (cpl key text)) 0 : Nat) : Int)
        · rw [if_pos c]; exact ⟨ts, by rw [Nat.max_eq_right (by omega)]⟩
        · rw [if_neg c]; exact ⟨tf, by rw [Nat.max_eq_left (by omega)]⟩
      obtain ⟨t7, ev⟩ := ev
      rw [ev]
      refine stL F7 fun h8 F8 s8 => ?_
      dsimp only
      refine wpAny_execs_nil ?_
      exact ⟨rfl, h8, _, _, rfl, F8, (Kx.ext x7).same s8 (by simp), j1, j2, t7, rfl⟩
    refine isTrue_and ?_
    refine wpAny_isTrue_Compare1 ?_
    refine nmL F' j5 ?_
    refine call_b1 g F' g.nLen boot_len (by decide) ?_
    refine nmL F' j3 ?_
    refine len_T (by omega) fun t5 tk5 => ?_
    refine lt_int ?_
    refine wpAny_truthy_bool ?_
    by_cases c1 : sz < key.length
    · refine PySem.W.ite_pos (by simp; omega) ?_
      refine isTrue_and ?_
      refine wpAny_isTrue_Compare1 ?_
      refine sub_slice ?_
      refine nmL F' j2 ?_
      refine evalPart_some_step ?_
      refine nmL F' j5 ?_
      refine evalPart_some_step ?_
      repeat walk_at "m"
      refine nmL F' j5 ?_
      repeat walk_at "m"
      have htx : sz ≤ text.length := by
        rcases Nat.lt_or_ge text.length sz with q | q
        · have := cpl_same key text text.length (by omega)
          rw [List.getElem?_eq_none (Nat.le_refl _), List.getElem?_eq_none_iff] at this
          omega
        · exact q
      refine ⟨text, tt, some (_, _), some (_, _), rfl, rfl, rfl, by rw [sizeLine_eq]; omega, fun t6 tk6 h6 x6 => ?_⟩
      have F6 := frx F' x6
      have K6 := K'.ext x6
      simp only [Option.map]
      rw [show ((sz : Int) + 1) = ((sz + 1 : Nat) : Int) from rfl, cut_mid _ _ _ htx, show sz + 1 - sz = 1 by omega]
      refine Subscript_ ?_
      refine nmL F6 j3 ?_
      refine nmL F6 j5 ?_
      refine item_T (by omega) (List.getElem?_eq_getElem c1) fun t8 tk8 => ?_
      refine PyProof.Rows.eq_str ?_
      rw [T_beq, take1_beq]
      refine wpAny_truthy_bool ?_
      by_cases c2 : text[sz]? = some key[sz]
      · refine PySem.W.ite_pos (by simpa using c2) ?_
        refine isTrue_and_nil ?_
        refine PySem.W.ite_pos rfl ?_
        refine wpAny_execs_cons ?_
        repeat walk_at "m"
        refine nmL F6 j5 ?_
        repeat walk_at "m"
        refine stL F6 fun h9 F9 s9 => ?_
        dsimp only
        refine wpAny_execs_nil ?_
        have lt : sz < cpl key text := by
          rcases Nat.lt_or_ge sz (cpl key text) with q | q
          · exact q
          · have e : sz = cpl key text := by omega
            have := cpl_stop key text (by omega)
            rw [← e, c2, List.getElem?_eq_getElem c1] at this
            exact absurd rfl this
        exact ⟨cpl key text - (sz + 1), by omega, h9, _, _, sz + 1, _, rfl, F9, K6.same s9 (by simp), j1, j2, j3, j4, rfl, lt, rfl⟩
      · refine PySem.W.ite_neg (by simpa using c2) ?_
        refine PySem.W.ite_neg (by decide) ?_
        refine wpAny_execs_nil ?_
        dsimp only
        refine wpAny_mono (fin _ _ _ F6 K6 ?_) (fun f s₃ e => by obtain ⟨rfl, e⟩ := e; exact e) fun _ _ e => e
        rcases Nat.lt_or_ge sz (cpl key text) with q | q
        · have := cpl_same key text sz q
          rw [List.getElem?_eq_getElem c1] at this
          exact absurd this.symm c2
        · omega
    · refine PySem.W.ite_neg (by simp; omega) ?_
      refine PySem.W.ite_neg (by decide) ?_
      refine wpAny_execs_nil ?_
      dsimp only
      exact wpAny_mono (fin _ _ _ F' K' (by omega)) (fun f s₃ e => by obtain ⟨rfl, e⟩ := e; exact e) fun _ _ e => e
  · intro h' tk m' ⟨_, _, tf, i3⟩ F' _
    repeat walk_at "m"
    refine nmL F' i3 ?_
    refine hQ _ _ _ F'.keep ⟨tf, ?_⟩
    rw [hS.1, List.take_length]; rfl
end
end
section
/-! bisect_left -/
theorem lt_trans_l {a b c : List Nat} (h : a < b) (k : b < c) : a < c := List.lt_trans h k
theorem lt_irrefl_l (a : List Nat) : ¬ a < a := List.lt_irrefl a

section
variable {w : World} {A : Around} {s : Shared} {G : Gl}
theorem bis_spec (g : Glb G s.heap) (hA : A.depth + 8 < recursionLimit) {ks : Addr} {vs : Array Value} {keys : List (List Nat)} {key : List Nat} {tt t0 t1 : Tok}
    (hl : s.heap.IsList ks vs) (hS : StrsL vs keys) (hsort : keys.Pairwise (· < ·)) (hn : keys.length ≤ 1000) :
    Yields (model PRG w) A (call (.ref G.bis) [.ref ks, .str (T key) tt, .int 0 t0, .int (keys.length : Int) t1] []) s
      (fun v _ => ∃ (i : Nat) (t : Tok), v = .int (i : Int) t ∧ i ≤ keys.length ∧ (∀ j k, keys[j]? = some k → j < i → k < key) ∧ (∀ j k, keys[j]? = some k → i ≤ j → ¬ k < key)) := by
  obtain ⟨tD, oD, hoD, _, nD, hdD⟩ := g.dBis
  refine call_fn (binds := [("rows", .ref ks), ("key", .str (T key) tt), ("low", .int 0 t0), ("high", .int (keys.length : Int) t1)]) (by omega) g.nolimit g.fBis (fun _ _ _ _ _ _ _ => BindsTo.of_defaults rfl hoD hdD rfl rfl) (by decide) (locs rfl) rfl rfl rfl ?_
  intro Q E h₁ tk cdv F hQ
  refine wpAny_execs_cons ?_
  repeat walk_at "m"
  refine nmL F rfl ?_
  repeat walk_at "m"
  refine PyProof.Rows.is_none_gen ?_
  repeat walk_at "m"
  refine PySem.W.ite_neg (fun q => by cases q) ?_
  repeat walk_at "m"
  refine wpAny_While ?_
  have hlt : ∀ {h : Heap} {m}, Fr s.heap s.heap.objs.size h m → h.IsList ks vs := fun F => let ⟨o, ho, r⟩ := hl; ⟨o, F.keep _ _ ho, r⟩
  refine codeAny_whileLoop (fun k s' => ∃ h' tk' m' lo hi t2 t3, s' = { s with heap := h', toks := tk' } ∧ Fr s.heap s.heap.objs.size h' m' ∧ m' "rows" = some (.ref ks) ∧ m' "key" = some (.str (T key) tt) ∧
      m' "low" = some (.int (lo : Nat) t2) ∧ m' "high" = some (.int (hi : Nat) t3) ∧ lo ≤ hi ∧ hi ≤ keys.length ∧ (∀ j k, keys[j]? = some k → j < lo → k < key) ∧ (∀ j k, keys[j]? = some k → hi ≤ j → ¬ k < key) ∧ k = hi - lo) ?_ (keys.length - 0)
      ⟨h₁, _, _, 0, keys.length, _, _, rfl, F, rfl, rfl, rfl, rfl, Nat.zero_le _, Nat.le_refl _, fun _ _ _ h => absurd h (Nat.not_lt_zero _), fun j k e h => absurd (List.getElem?_eq_some_iff.mp e).1 (Nat.not_lt.mpr h), rfl⟩
  rintro k s' ⟨h', tk', m', lo, hi, t2, t3, rfl, F', i1, i2, i3, i4, i5, i6, i7, i8, rfl⟩
  refine wpAny_isTrue_Compare1 ?_
  refine nmL F' i3 ?_
  refine nmL F' i4 ?_
  repeat walk_at "m"
  by_cases c : lo < hi
  · refine PySem.W.ite_pos (by simp; omega) ?_
    refine wpAny_execs_cons ?_
    repeat walk_at "m"
    refine nmL F' i3 ?_
    refine nmL F' i4 ?_
    repeat walk_at "m"
    refine floordiv_int (by decide) ?_
    have em : ((lo : Int) + (hi : Int)).fdiv 2 = (((lo + hi) / 2 : Nat) : Int) := by rw [Int.fdiv_eq_ediv_of_nonneg _ (by decide)]; omega
    rw [em]
    refine stL F' fun h₂ F₂ s₂ => ?_
    repeat walk_at "m"
    refine nmL F₂ (by exact i1) ?_
    refine nmL F₂ rfl ?_
    have hm : (lo + hi) / 2 < keys.length := by omega
    obtain ⟨tm, hv⟩ := hS.2 ((lo + hi) / 2) keys[(lo + hi) / 2] (List.getElem?_eq_getElem hm)
    refine item_list (hlt F₂) (by omega) (by omega) (by rw [Int.toNat_natCast]; exact hv) ?_
    refine nmL F₂ (by exact i2) ?_
    refine PySem.P.lt_str ?_
    repeat walk_at "m"
    by_cases c2 : keys[(lo + hi) / 2] < key
    · refine PySem.W.ite_pos (by simpa using c2) ?_
      repeat walk_at "m"
      refine nmL F₂ rfl ?_
      repeat walk_at "m"
      refine stL F₂ fun h₃ F₃ s₃ => ?_
      repeat walk_at "m"
      refine ⟨hi - ((lo + hi) / 2 + 1), by omega, h₃, _, _, (lo + hi) / 2 + 1, hi, _, _, rfl, F₃, i1, i2, rfl, i4, by omega, i6, fun j k e hj => ?_, i8, rfl⟩
      rcases Nat.lt_or_ge j ((lo + hi) / 2) with q | q
      · refine lt_trans_l ?_ c2
        have hj' := (List.getElem?_eq_some_iff.mp e).1
        rw [← (List.getElem?_eq_some_iff.mp e).2]
        exact List.pairwise_iff_getElem.mp hsort _ _ hj' hm q
      · have : j = (lo + hi) / 2 := by omega
        subst this
        rw [List.getElem?_eq_getElem hm] at e; cases e; exact c2
    · refine PySem.W.ite_neg (by simpa using c2) ?_
      repeat walk_at "m"
      refine nmL F₂ rfl ?_
      refine stL F₂ fun h₃ F₃ s₃ => ?_
      repeat walk_at "m"
      refine ⟨(lo + hi) / 2 - lo, by omega, h₃, _, _, lo, (lo + hi) / 2, _, _, rfl, F₃, i1, i2, i3, rfl, by omega, by omega, i7, fun j k e hj => ?_, rfl⟩
      rcases Nat.lt_or_ge ((lo + hi) / 2) j with q | q
      · intro hk
        refine c2 (lt_trans_l ?_ hk)
        have hj' := (List.getElem?_eq_some_iff.mp e).1
        rw [← (List.getElem?_eq_some_iff.mp e).2]
        exact List.pairwise_iff_getElem.mp hsort _ _ hm hj' q
      · have : j = (lo + hi) / 2 := by omega
        subst this
        rw [List.getElem?_eq_getElem hm] at e; cases e; exact c2
  · refine PySem.W.ite_neg (by simp; omega) ?_
    repeat walk_at "m"
    refine nmL F' i3 ?_
    have : lo = hi := by omega
    subst this
    exact hQ _ _ _ F'.keep ⟨lo, t2, rfl, i6, i7, i8⟩
end
end
section
/-! sorted -/
def Srt (l : List (List Nat)) : Prop := l.Pairwise (fun a b => ¬ b < a)
theorem le_trans_l {a b c : List Nat} (h : ¬ b < a) (k : ¬ c < b) : ¬ c < a := fun q => by
  rcases Classical.em (a < b) with e | e
  · exact k (List.lt_trans q e)
  · have : a = b := List.le_antisymm (List.not_lt.mp h) (List.not_lt.mp e)
    subst this; exact k q
theorem srt_of_rising : ∀ (p : Str) (l : List Str), risingS p l = true → Srt ((p :: l).map fun x => x.cps.toList)
  | p, [], _ => by simp [Srt]
  | p, x :: r, h => by
    have h' : (!PySem.Spec.ltCps x.cps.toList p.cps.toList && risingS x r) = true := h
    rw [Bool.and_eq_true, ltCps_eq] at h'
    have ih := srt_of_rising x r h'.2
    have hx : ¬ x.cps.toList < p.cps.toList := by simpa using h'.1
    refine List.pairwise_cons.mpr ⟨fun b hb => ?_, ih⟩
    rcases List.mem_cons.mp hb with rfl | hb
    · exact hx
    · exact le_trans_l hx (List.rel_of_pairwise_cons ih hb)
theorem srt_of {l : List Str} (h : sortedS l = true) : Srt (l.map fun x => x.cps.toList) := by
  cases l with
  | nil => simp [Srt]
  | cons p r => exact srt_of_rising p r h
theorem strsL_of {vs : List Value} {ss : List Str} (h : StrsAre vs ss) : StrsL vs.toArray (ss.map fun x => x.cps.toList) := by
  induction h with
  | nil => exact ⟨rfl, fun i k e => by simp at e⟩
  | cons y t r ih =>
    refine ⟨by simpa using ih.1, fun i k e => ?_⟩
    cases i with
    | zero => simp at e; subst e; exact ⟨t, by simp⟩
    | succ i =>
      obtain ⟨t', h⟩ := ih.2 i k (by simpa using e)
      exact ⟨t', by simpa using h⟩
theorem are_of {vs : List Value} : ∀ {ks : List (List Nat)}, StrsL vs.toArray ks → StrsAre vs (ks.map T) := by
  induction vs with
  | nil => intro ks h; have := h.1; simp at this; cases ks with | nil => exact .nil | cons _ _ => simp at this
  | cons v vs ih =>
    intro ks h
    cases ks with
    | nil => have := h.1; simp at this
    | cons k ks =>
      obtain ⟨t, e⟩ := h.2 0 k rfl
      have : v = .str (T k) t := by simpa using e
      subst this
      refine .cons _ _ (ih ⟨by have := h.1; simpa using this, fun i k' e' => ?_⟩)
      obtain ⟨t', e2⟩ := h.2 (i + 1) k' (by simpa using e')
      exact ⟨t', by simpa using e2⟩

theorem map_T (ks : List (List Nat)) : (ks.map T).map (fun x : Str => x.cps.toList) = ks := by
  rw [List.map_map]; simp [Function.comp_def]
theorem strsL_arr {a : Array Value} {ss : List Str} (h : StrsAre a.toList ss) : StrsL a (ss.map fun x => x.cps.toList) := by
  have := strsL_of h; rwa [Array.toArray_toList] at this
theorem are_arr {a : Array Value} {ks : List (List Nat)} (h : StrsL a ks) : StrsAre a.toList (ks.map T) := are_of (by rwa [Array.toArray_toList])
section
variable {prog : Program} {w : World} {A : Around} {E : Value → Shared → Prop} {s : Shared}
/-- the sort of a new list of texts -/
theorem sort_new {vs : List Value} {ss : List Str} {Q : Value → Shared → Prop} (hS : StrsAre vs ss) (h64 : vs.length < 64)
    (h : ∀ (h' : Heap) (out : Array Value) (ks : List (List Nat)), Ext s.heap h' → h'.IsList s.heap.objs.size out → StrsL out ks → ks.Perm (ss.map fun x => x.cps.toList) → Srt ks → Q (.ref s.heap.objs.size) { s with heap := h' }) :
    wpAny (model prog w) A (call (.builtin "list.sort") [.ref s.heap.objs.size]) (fun _ s' => Q (.ref s.heap.objs.size) s') E { s with heap := s.heap.push { cls := .type "list", data := .seq vs.toArray } } := by
  have hoL : (s.heap.push { cls := .type "list", data := .seq vs.toArray }).get? s.heap.objs.size = some (seqObj "list" vs.toArray 0) := Heap.get?_push_size _ rfl
  refine wpAny_call_entry slot_list_sort ⟨_, hoL, rfl⟩ entry_list_sort (list_sort_treeK strKind_oneLt hoL hS.keysOf (fun v₁ v₂ rest e => keyKind_strs (by rw [← e]; exact hS)) h64 fun st' a1 a2 => ⟨_, rfl, ?_⟩) (args_list_sort _)
  obtain ⟨ss', h1, h2, h3⟩ := sorted_out_str hS a1 a2
  obtain ⟨e, he⟩ := sortedHeap_at (out := (arrOf st').map (·.2)) hoL
  refine h _ _ _ (fun b o hb => ?_) ⟨_, he, rfl, e, rfl⟩ (strsL_arr h1) (h2.map _) (srt_of h3)
  have hlt := Heap.lt_size hb
  rw [sortedHeap_old (Nat.ne_of_lt hlt) (by rw [Heap.size_push]; exact Nat.lt_succ_of_lt hlt)]
  exact Heap.get?_push_of_some _ hb

/-- sorted(a list of texts) -/
theorem sorted_list {l : Addr} {vs : Array Value} {ks : List (List Nat)} {Q : Value → Shared → Prop} (hl : s.heap.IsList l vs) (hS : StrsL vs ks) (h64 : ks.length < 64)
    (h : ∀ (D : Addr) (h' : Heap) (out : Array Value) (ks' : List (List Nat)), Ext s.heap h' → s.heap.get? D = none → h'.IsList D out → StrsL out ks' → ks'.Perm ks → Srt ks' → Q (.ref D) { s with heap := h' }) :
    wpAny (model prog w) A (call (.builtin "sorted") [.ref l]) Q E s := by
  have hS' : StrsAre vs.toList (ks.map T) := are_arr hS
  refine sorted_strs (vs := vs.toList) (by rwa [Array.toArray_toList]) hS' (by have := hS.1; rw [Array.length_toList]; omega) fun out ss' a1 a2 a3 => ?_
  obtain ⟨e, he⟩ := sortedAll_at s.heap vs.toList out
  refine h _ _ out _ (fun b o hb => sortedAll_old hb) ?_ ⟨_, he, rfl, e, rfl⟩ (strsL_arr a1) (by have := a2.map (fun x : Str => x.cps.toList); rwa [map_T] at this) (srt_of a3)
  cases q : s.heap.get? (s.heap.objs.size + 1) with
  | none => rfl
  | some o => exact absurd (Nat.lt_of_succ_lt (Heap.lt_size q)) (Nat.lt_irrefl _)

/-- sorted(a dict or its keys) -/
theorem sorted_src {T' : String} {r d : Addr} {n : Nat} {P : Nat → Value → Prop} {OK : Heap → Prop} {ks : List (List Nat)} {Q : Value → Shared → Prop} (K : KdlSrc prog w T' r d n P OK) (hh : A.handled = none) (hok : OK s.heap) (hn : ks.length = n) (h64 : n < 64)
    (hP : ∀ i v, P i v → ∃ k t, ks[i]? = some k ∧ v = .str (T k) t)
    (h : ∀ (D : Addr) (h' : Heap) (tk : Nat) (out : Array Value) (ks' : List (List Nat)), Ext s.heap h' → s.heap.get? D = none → h'.IsList D out → StrsL out ks' → ks'.Perm ks → Srt ks' → Q (.ref D) { s with heap := h', toks := tk }) :
    wpAny (model prog w) A (call (.builtin "sorted") [.ref r]) Q E s := by
  refine PySem.Calls.call_function_entry kind_sorted plain_sorted entry_sorted (args_sorted1 _) ?_
  unfold Builtin.«sorted»
  refine wpAny_bind (m := checkCount "sorted" 1 1 _) (wpAny_pure ?_)
  refine wpAny_bind (kdu_collect (A := A.in1) K hh hok (by rw [sizeLine_eq]; omega) fun h' tk acc hk hacc => ?_)
  have hl : acc.toList.length = n := by rw [Array.length_toList]; exact hacc.1
  refine wpAny_bind (wpAny_newList ?_ (by rw [hl, sizeLine_eq]; omega))
  have hS : StrsL acc ks := ⟨hacc.1.trans hn.symm, fun i k e => by
    have hi : i < acc.size := by rw [hacc.1, ← hn]; exact (List.getElem?_eq_some_iff.mp e).1
    obtain ⟨k', t, e1, e2⟩ := hP i acc[i] (hacc.2 i _ (Array.getElem?_eq_getElem hi))
    rw [e] at e1; cases e1
    exact ⟨t, by rw [Array.getElem?_eq_getElem hi, e2]⟩⟩
  have hS' : StrsAre acc.toList (ks.map T) := are_arr hS
  have hg := sort_new (prog := prog) (w := w) (A := A.in1) (E := E) (s := { s with heap := h', toks := tk }) (Q := Q) hS' (by rw [hl]; exact h64) fun h'' out ks' x1 x2 x3 x4 x5 =>
    h h'.objs.size h'' tk out ks' (fun b o e => x1 b o (hk b o e)) (by
      cases q : s.heap.get? h'.objs.size with
      | none => rfl
      | some o => exact absurd (Heap.lt_size (hk _ _ q)) (Nat.lt_irrefl _)) x2 x3 (by rwa [map_T] at x4) x5
  refine wpAny_bind (wpAny_holding (wpAny_mono hg (fun _ s' x => ?_) fun _ _ e => e))
  exact wpAny_pure ⟨_, rfl, x⟩
end
end
section
/-! a dict of texts to ints -/
inductive KV : List (Str × Value) → List (List Nat × Int) → Prop
  | nil : KV [] []
  | cons {kvs ps} (k : List Nat) (n : Int) (t : Tok) : KV kvs ps → KV ((T k, .int n t) :: kvs) ((k, n) :: ps)
def getP (ps : List (List Nat × Int)) (k : List Nat) : Option Int := (ps.find? fun p => decide (p.1 = k)).map (·.2)
def putP (ps : List (List Nat × Int)) (k : List Nat) (n : Int) : List (List Nat × Int) :=
  if ps.any (fun p => decide (p.1 = k)) then ps.map (fun p => if p.1 = k then (p.1, n) else p) else ps ++ [(k, n)]
theorem KV.len {kvs ps} (x : KV kvs ps) : kvs.length = ps.length := by induction x with | nil => rfl | cons _ _ _ _ ih => simp [ih]
theorem T_eq_iff {a b : List Nat} : T a = T b ↔ a = b := ⟨T_inj, congrArg T⟩
theorem KV.get {kvs ps} (x : KV kvs ps) (k : List Nat) : match getP ps k with
    | some n => ∃ t, valueAt kvs (T k) = some (.int n t)
    | none => valueAt kvs (T k) = none := by
  induction x with
  | nil => rfl
  | cons k' n t r ih =>
    unfold getP valueAt
    by_cases e : k' = k
    · subst e
      simp
    · have e' : ¬ T k' = T k := fun q => e (T_inj q)
      simp only [List.find?_cons, e, e', decide_false]
      exact ih
theorem KV.any {kvs ps} (x : KV kvs ps) (k : List Nat) : kvs.any (fun kv => decide (kv.1 = T k)) = ps.any (fun p => decide (p.1 = k)) := by
  induction x with
  | nil => rfl
  | cons k' n t r ih =>
    simp only [List.any_cons, ih]
    by_cases e : k' = k
    · simp [e]
    · have e' : ¬ T k' = T k := fun q => e (T_inj q)
      simp [e, e']
theorem KV.set {kvs ps} (x : KV kvs ps) (k : List Nat) (n : Int) (t : Tok) : KV (kvs.map fun kv => if kv.1 = T k then (kv.1, Value.int n t) else kv) (ps.map fun p => if p.1 = k then (p.1, n) else p) := by
  induction x with
  | nil => exact .nil
  | cons k' n' t' r ih =>
    simp only [List.map_cons]
    by_cases e : k' = k
    · subst e; rw [if_pos rfl, if_pos rfl]; exact .cons _ _ _ ih
    · rw [if_neg e, if_neg (fun q => e (T_inj q))]; exact .cons _ _ _ ih
theorem KV.snoc {kvs ps} (x : KV kvs ps) (k : List Nat) (n : Int) (t : Tok) : KV (kvs ++ [(T k, .int n t)]) (ps ++ [(k, n)]) := by
  induction x with
  | nil => exact .cons _ _ _ .nil
  | cons _ _ _ _ ih => exact .cons _ _ _ ih
theorem KV.put {kvs ps} (x : KV kvs ps) (k : List Nat) (n : Int) (t : Tok) : KV (stored kvs (T k) (.int n t)) (putP ps k n) := by
  unfold stored putP
  rw [x.any k]
  split
  · exact x.set k n t
  · exact x.snoc k n t
theorem KV.keys {kvs ps} (x : KV kvs ps) : kvs.map (·.1) = (ps.map (·.1)).map T := by
  induction x with
  | nil => rfl
  | cons k n t r ih => simp only [List.map_cons, ih]
theorem KV.at {kvs ps} (x : KV kvs ps) : ∀ {i : Nat} {p : Str × Value}, kvs[i]? = some p → ∃ k n, ps[i]? = some (k, n) ∧ p.1 = T k := by
  induction x with
  | nil => intro i p h; simp at h
  | cons k n t r ih =>
    intro i p h
    cases i with
    | zero => simp at h; subst h; exact ⟨k, n, rfl, rfl⟩
    | succ i => simpa using ih (by simpa using h)

section
variable {w : World}
def DicI (w : World) (h : Heap) (d : Addr) (ps : List (List Nat × Int)) : Prop := (d == sysModules) = false ∧ ∃ kvs, h.DictOf (PySem.strKind PRG w) d kvs ∧ KV kvs ps
theorem DicI.at {h h' : Heap} {d : Addr} {ps : List (List Nat × Int)} (x : DicI w h d ps) (k : ∀ o, h.get? d = some o → h'.get? d = some o) : DicI w h' d ps :=
  let ⟨lo, kvs, ⟨o, es, ep, ho, r⟩, q⟩ := x; ⟨lo, kvs, ⟨o, es, ep, k _ ho, r⟩, q⟩
theorem DicI.ext {h h' : Heap} {d : Addr} {ps : List (List Nat × Int)} (x : DicI w h d ps) (k : Ext h h') : DicI w h' d ps := x.at fun o e => k _ _ e
theorem DicI.lt {h : Heap} {d : Addr} {ps : List (List Nat × Int)} (x : DicI w h d ps) : ∃ o, h.get? d = some o := let ⟨_, _, ⟨o, _, _, ho, _⟩, _⟩ := x; ⟨o, ho⟩
theorem DicI.nodup {h : Heap} {d : Addr} {ps : List (List Nat × Int)} (x : DicI w h d ps) : (ps.map (·.1)).Nodup := by
  obtain ⟨_, kvs, ⟨_, _, _, _, _, _, _, _, hn⟩, q⟩ := x
  rw [q.keys] at hn
  exact (List.pairwise_map.mp hn).imp fun h e => h (congrArg T e)
end
section
variable {w : World} {A : Around} {E : Value → Shared → Prop} {s : Shared} {d : Addr} {ps : List (List Nat × Int)} {k : List Nat} {t : Tok}
theorem dic_in {Q : Value → Shared → Prop} (D : DicI w s.heap d ps) (h : ∀ tk, Q (.bool (getP ps k).isSome) { s with toks := tk }) : wpAny (model PRG w) A (compareOp .In (.str (T k) t) (.ref d)) Q E s := by
  obtain ⟨lo, kvs, hd, q⟩ := D
  refine wpAny_in_of (strKind_is PRG w (T k) t) lo hd.mapOf ?_
  have := q.get k
  cases e : getP ps k with
  | none => rw [e] at this; rw [show valueAt kvs (T k) = none from this]; have := h (s.toks + 1); rw [e] at this; exact this
  | some n => rw [e] at this; obtain ⟨t', this⟩ := this; rw [this]; have := h (s.toks + 1); rw [e] at this; exact this
theorem dic_get {Q : Value → Shared → Prop} {n : Int} (D : DicI w s.heap d ps) (e : getP ps k = some n) (h : ∀ t tk, Q (.int n t) { s with toks := tk }) : wpAny (model PRG w) A (getItem (.ref d) (.str (T k) t)) Q E s := by
  obtain ⟨lo, kvs, hd, q⟩ := D
  have := q.get k
  rw [e] at this
  obtain ⟨t', this⟩ := this
  exact wpAny_getItem_of (strKind_is PRG w (T k) t) hd.mapOf this (h _ _)
theorem dic_item {value slice : Expr} {Q : Value → Shared → Prop} {n : Int} (D : DicI w s.heap d ps) (e : getP ps k = some n) (h : ∀ t tk, Q (.int n t) { s with toks := tk })
    (hs : subscripted slice false (.ref d) (.str (T k) t) = operate [.ref d, .str (T k) t] (getItem (.ref d) (.str (T k) t)) := by with_unfolding_all rfl) :
    wpAny (model PRG w) A (subscriptTail value slice (.ref d) (.str (T k) t)) Q E s := by
  have D' := D
  obtain ⟨lo, kvs, hd, q⟩ := D
  exact tail_any hd.typeIs slot_dict_getitem.lookup (dic_get D' e h) hs
theorem dic_item_missing {value slice : Expr} {Q : Value → Shared → Prop} (hh : A.handled = none) (D : DicI w s.heap d ps) (e : getP ps k = none)
    (h : ∀ h' e, Heap.NewExc s.heap h' e "KeyError" → E (.ref e) { s with heap := h', toks := s.toks + 1 })
    (hs : subscripted slice false (.ref d) (.str (T k) t) = operate [.ref d, .str (T k) t] (getItem (.ref d) (.str (T k) t)) := by with_unfolding_all rfl) :
    wpAny (model PRG w) A (subscriptTail value slice (.ref d) (.str (T k) t)) Q E s := by
  obtain ⟨lo, kvs, hd, q⟩ := D
  have := q.get k
  rw [e] at this
  exact tail_any hd.typeIs slot_dict_getitem.lookup (wpAny_getItem_missing_of (strKind_is PRG w (T k) t) lo hh hd.mapOf this h) hs
theorem dic_set {Q : Unit → Shared → Prop} {n : Int} {u : Tok} (D : DicI w s.heap d ps) (hn : ps.length ≤ 1000)
    (h : ∀ h' tk, DicI w h' d (putP ps k n) → Heap.SameBut d s.heap h' → Q () { s with heap := h', toks := tk }) : wpAny (model PRG w) A (setItem (.ref d) (.str (T k) t) (.int n u)) Q E s := by
  obtain ⟨lo, kvs, hd, q⟩ := D
  exact wpAny_setItem_pairs (strKind_is PRG w (T k) t) hd (fun h' hd' hs => h h' _ ⟨lo, _, hd', q.put k n u⟩ hs) (by rw [q.len, sizeLine_eq]; omega)
theorem dic_len {Q : Value → Shared → Prop} (D : DicI w s.heap d ps) (hn : ps.length ≤ 1000) (h : ∀ t tk, Q (.int (ps.length : Int) t) { s with toks := tk }) : wpAny (model PRG w) A (call (.builtin "len") [.ref d]) Q E s := by
  obtain ⟨lo, kvs, hd, q⟩ := D
  refine call_len_dict lo hd (by rw [q.len]; omega) ?_
  rw [q.len]; exact h _ _
theorem dic_sorted {Q : Value → Shared → Prop} (hh : A.handled = none) (D : DicI w s.heap d ps) (hn : ps.length < 64)
    (h : ∀ (D : Addr) (h' : Heap) (tk : Nat) (out : Array Value) (ks' : List (List Nat)), Ext s.heap h' → s.heap.get? D = none → h'.IsList D out → StrsL out ks' → ks'.Perm (ps.map (·.1)) → Srt ks' → Q (.ref D) { s with heap := h', toks := tk }) :
    wpAny (model PRG w) A (call (.builtin "sorted") [.ref d]) Q E s := by
  obtain ⟨lo, kvs, hd, q⟩ := D
  obtain ⟨ep, hat⟩ := hd.dictAt
  refine sorted_src (ks := ps.map (·.1)) (kdl_dict (prog := PRG) (w := w) (knd := PySem.strKind PRG w) (kvs := kvs) (ep := ep) lo) hh hat (by simp [q.len]) (by rw [q.len]; exact hn) ?_ h
  rintro i v ⟨k', x, e, hk⟩
  obtain ⟨k, n, e1, e2⟩ := q.at e
  obtain ⟨t, rfl⟩ := Value.isStrOf_shape hk
  exact ⟨k, t, by simp [e1], by rw [show k' = T k from e2]⟩
theorem dic_sorted_keys {r : Addr} {Q : Value → Shared → Prop} (hh : A.handled = none) (D : DicI w s.heap d ps) (hv : KdlKeysView s.heap r d) (hn : ps.length < 64)
    (h : ∀ (D : Addr) (h' : Heap) (tk : Nat) (out : Array Value) (ks' : List (List Nat)), Ext s.heap h' → s.heap.get? D = none → h'.IsList D out → StrsL out ks' → ks'.Perm (ps.map (·.1)) → Srt ks' → Q (.ref D) { s with heap := h', toks := tk }) :
    wpAny (model PRG w) A (call (.builtin "sorted") [.ref r]) Q E s := by
  obtain ⟨lo, kvs, hd, q⟩ := D
  obtain ⟨ep, hat⟩ := hd.dictAt
  refine sorted_src (ks := ps.map (·.1)) (kdl_keys (prog := PRG) (w := w) (knd := PySem.strKind PRG w) (kvs := kvs) (ep := ep)) hh ⟨hv, hat⟩ (by simp [q.len]) (by rw [q.len]; exact hn) ?_ h
  rintro i v ⟨k', x, e, hk⟩
  obtain ⟨k, n, e1, e2⟩ := q.at e
  obtain ⟨t, rfl⟩ := Value.isStrOf_shape hk
  exact ⟨k, t, by simp [e1], by rw [show k' = T k from e2]⟩
theorem dic_keys {env : Env} {o : Expr} {apos pos : Pos} {pl : Sem Bool} {Q : Value → Shared → Prop}
    (h : wpAny (model PRG w) A (eval o env) (fun v s₁ => ∃ d ps, v = .ref d ∧ DicI w s₁.heap d ps ∧ ∀ r h', Ext s₁.heap h' → KdlKeysView h' r d → Q (.ref r) { s₁ with heap := h' }) E s)
    (he : eval (.Call (.Attribute o "keys" apos) [] [] pos) env = (do
      let ov ← eval o env
      standAt apos.atName
      let (f, first) ← holding [ov] (getMethod ov "keys" pl)
      callWith pos f first (backTo pos (starEach [] env)) []) := by rfl) :
    wpAny (model PRG w) A (eval (.Call (.Attribute o "keys" apos) [] [] pos) env) Q E s := by
  refine MethodCall_ (wpAny_mono h (fun v s₁ h₁ => ?_) fun _ _ x => x) he
  obtain ⟨d, ps, rfl, D, hQ⟩ := h₁
  obtain ⟨lo, kvs, hd, q⟩ := D
  refine getMethod_builtin hd.typeIs PySem.F.plainAttrs_dict PySem.F.slot_dict_keys PySem.F.type_dict_keys hd.mapOf.noDict ?_
  refine callWith_method0 ?_
  exact call_meetsIn PySem.F.slot_dict_keys hd.typeIs PySem.F.entry_dict_keys (PySem.F.args_dict_keys_1 _) (kdl_meets_keys (PySem.strKind PRG w) d lo) ⟨⟨kvs, hd⟩, hQ _ _ (Ext.push _ _) ⟨_, Heap.get?_push_size _ rfl, rfl, rfl⟩⟩
end
end
section
/-! the Trie -/
def TrieAt (G : Gl) (h : Heap) (x D KS CP : Addr) (t : Tok) : Prop := ∃ dx es n, h.get? x = some (instObj G.trie dx) ∧ h.get? dx = some (dictOf es n) ∧
  getL "_data" es = some (some (.ref D)) ∧ getL "_keys" es = some (some (.ref KS)) ∧ getL "_cachestr" es = some (some (.str (T []) t)) ∧ getL "_cachepoints" es = some (some (.ref CP)) ∧
  getL "has_keys_with_prefix" es = some none ∧ getL "longest_prefix" es = some none
theorem TrieAt.ext {G : Gl} {h h' : Heap} {x D KS CP : Addr} {t : Tok} (y : TrieAt G h x D KS CP t) (e : Ext h h') : TrieAt G h' x D KS CP t :=
  let ⟨dx, es, n, h1, h2, r⟩ := y; ⟨dx, es, n, e _ _ h1, e _ _ h2, r⟩

/-- the trie with its keys: ps the pairs in the dict's order, keys sorted -/
structure TrieOk (w : World) (G : Gl) (h : Heap) (x : Addr) (ps : List (List Nat × Int)) (keys : List (List Nat)) : Prop where
  at_ : ∃ D KS CP t vs t0 t1, TrieAt G h x D KS CP t ∧ DicI w h D ps ∧ h.IsList KS vs ∧ StrsL vs keys ∧ IsTup h CP #[.int 0 t0, .int (keys.length : Int) t1]
  srt : keys.Pairwise (· < ·)
  mem : ∀ k, (getP ps k).isSome = true ↔ k ∈ keys
  num : keys.length ≤ 10
  short : ∀ k ∈ keys, k.length ≤ 4
theorem TrieOk.ext {w : World} {G : Gl} {h h' : Heap} {x : Addr} {ps : List (List Nat × Int)} {keys : List (List Nat)} (y : TrieOk w G h x ps keys) (e : Ext h h') : TrieOk w G h' x ps keys :=
  ⟨let ⟨D, KS, CP, t, vs, t0, t1, a, b, c, d, f⟩ := y.at_; ⟨D, KS, CP, t, vs, t0, t1, a.ext e, b.ext e, e.list c, d, e.tup f⟩, y.srt, y.mem, y.num, y.short⟩

section
variable {w : World} {A : Around} {E : Value → Shared → Prop} {s : Shared} {G : Gl} {h₀ : Heap} {L : Addr} {m : Str → Option Value} {x D KS CP : Addr} {t : Tok} {env : Env}
theorem trie_inst {dx : Addr} {es : List DictEntry} {n : Nat} {h : Heap} (h1 : h.get? x = some (instObj G.trie dx)) (h2 : h.get? dx = some (dictOf es n)) : InstAt h x (instObj G.trie dx) G.trie (some (dictOf es n)) := ⟨h1, rfl, rfl, h2⟩
theorem ga_own {name : Str} {v : Value} {expr : Bool} {Q : Value → Shared → Prop} (C : ClsOk G) (X : G.K.In s.heap) {dx : Addr} {es : List DictEntry} {n : Nat} (h1 : s.heap.get? x = some (instObj G.trie dx)) (h2 : s.heap.get? dx = some (dictOf es n))
    (ha : findIn G.K (.ref G.trie) name = some none) (hl : getL name es = some (some v)) (hv : handedIn v = true) (h : ∀ tk, Q v { s with toks := tk }) : wpAny (model PRG w) A (getAttr (.ref x) name expr) Q E s :=
  get_value X (trie_inst h1 h2) (plainGet_of C.plain).1 (findObj_own C.dict ha rfl hl) hv (h _)
theorem ga_data {expr : Bool} {Q : Value → Shared → Prop} (C : ClsOk G) (X : G.K.In s.heap) (Y : TrieAt G s.heap x D KS CP t) (h : ∀ tk, Q (.ref D) { s with toks := tk }) : wpAny (model PRG w) A (getAttr (.ref x) "_data" expr) Q E s :=
  let ⟨_, _, _, h1, h2, a, _⟩ := Y; ga_own C X h1 h2 C.aData a rfl h
theorem ga_keys {expr : Bool} {Q : Value → Shared → Prop} (C : ClsOk G) (X : G.K.In s.heap) (Y : TrieAt G s.heap x D KS CP t) (h : ∀ tk, Q (.ref KS) { s with toks := tk }) : wpAny (model PRG w) A (getAttr (.ref x) "_keys" expr) Q E s :=
  let ⟨_, _, _, h1, h2, _, a, _⟩ := Y; ga_own C X h1 h2 C.aKeys a rfl h
theorem ga_str {expr : Bool} {Q : Value → Shared → Prop} (C : ClsOk G) (X : G.K.In s.heap) (Y : TrieAt G s.heap x D KS CP t) (h : ∀ tk, Q (.str (T []) t) { s with toks := tk }) : wpAny (model PRG w) A (getAttr (.ref x) "_cachestr" expr) Q E s :=
  let ⟨_, _, _, h1, h2, _, _, a, _⟩ := Y; ga_own C X h1 h2 C.aStr a rfl h
theorem ga_pts {expr : Bool} {Q : Value → Shared → Prop} (C : ClsOk G) (X : G.K.In s.heap) (Y : TrieAt G s.heap x D KS CP t) (h : ∀ tk, Q (.ref CP) { s with toks := tk }) : wpAny (model PRG w) A (getAttr (.ref x) "_cachepoints" expr) Q E s :=
  let ⟨_, _, _, h1, h2, _, _, _, a, _⟩ := Y; ga_own C X h1 h2 C.aPts a rfl h

theorem cont_spec (g : Glb G s.heap) (hA : A.depth + 8 < recursionLimit) {ps : List (List Nat × Int)} {k : List Nat} {tk : Tok} (Y : TrieAt G s.heap x D KS CP t) (hD : DicI w s.heap D ps) :
    Yields (model PRG w) A (call (.ref G.cont) [.ref x, .str (T k) tk] []) s (fun v _ => v = .bool (getP ps k).isSome) := by
  refine call_fn (binds := [("self", .ref x), ("key", .str (T k) tk)]) (by omega) g.nolimit g.fCont (fun _ _ _ _ _ _ _ => BindsTo.of_eq rfl) (by decide) (locs rfl) rfl rfl rfl ?_
  intro Q E h₁ tk cdv F hQ
  refine wpAny_execs_cons ?_
  repeat walk_at "m"
  refine nmL F rfl ?_
  refine Attribute_Name_ ?_
  refine nmL F rfl ?_
  refine ga_data g.cls (g.X.keeps F.keep) (Y.ext F.keep) fun tk2 => ?_
  refine dic_in (hD.ext F.keep) fun tk3 => ?_
  exact hQ _ _ _ F.keep rfl

theorem get_spec (g : Glb G s.heap) (hA : A.depth + 8 < recursionLimit) {ps : List (List Nat × Int)} {k : List Nat} {n : Int} {tk : Tok} (Y : TrieAt G s.heap x D KS CP t) (hD : DicI w s.heap D ps) (hk : getP ps k = some n) :
    Yields (model PRG w) A (call (.ref G.get) [.ref x, .str (T k) tk] []) s (fun v _ => ∃ t, v = .int n t) := by
  refine call_fn (binds := [("self", .ref x), ("key", .str (T k) tk)]) (by omega) g.nolimit g.fGet (fun _ _ _ _ _ _ _ => BindsTo.of_eq rfl) (by decide) (locs rfl) rfl rfl rfl ?_
  intro Q E h₁ tk cdv F hQ
  refine wpAny_execs_cons ?_
  repeat walk_at "m"
  refine Attribute_Name_ ?_
  refine nmL F rfl ?_
  refine ga_data g.cls (g.X.keeps F.keep) (Y.ext F.keep) fun tk2 => ?_
  refine nmL F rfl ?_
  refine dic_item (hD.ext F.keep) hk fun t3 tk3 => ?_
  exact hQ _ _ _ F.keep ⟨_, rfl⟩
end
end
section
/-! has_keys_with_prefix -/
/-- some key begins so -/
def begP (keys : List (List Nat)) (p : List Nat) : Bool := keys.any (fun k => p.isPrefixOf k)
theorem pre_not_lt : ∀ (p k : List Nat), p <+: k → ¬ k < p
  | [], _, _ => by simp
  | a :: p, [], h => by simp at h
  | a :: p, b :: k, h => by
    obtain ⟨rfl, h'⟩ := List.cons_prefix_cons.mp h
    rw [List.cons_lt_cons_iff]
    rintro (q | ⟨_, q⟩)
    · exact Nat.lt_irrefl _ q
    · exact pre_not_lt p k h' q
theorem pre_between : ∀ (p y k : List Nat), ¬ y < p → ¬ k < y → p <+: k → p <+: y
  | [], _, _, _, _, _ => List.nil_prefix
  | a :: p, [], _, h, _, _ => absurd (List.nil_lt_cons a p) h
  | a :: p, b :: y, [], _, _, hp => by simp at hp
  | a :: p, b :: y, c :: k, h1, h2, hp => by
    obtain ⟨rfl, hp'⟩ := List.cons_prefix_cons.mp hp
    rw [List.cons_lt_cons_iff] at h1 h2
    have e : a = b := by
      rcases Nat.lt_trichotomy a b with q | q | q
      · exact absurd (Or.inl q) h2
      · exact q
      · exact absurd (Or.inl q) h1
    subst e
    exact List.cons_prefix_cons.mpr ⟨rfl, pre_between p y k (fun q => h1 (.inr ⟨rfl, q⟩)) (fun q => h2 (.inr ⟨rfl, q⟩)) hp'⟩
theorem begP_iff {keys : List (List Nat)} {p : List Nat} : begP keys p = true ↔ ∃ k ∈ keys, p <+: k := by
  unfold begP
  rw [List.any_eq_true]
  constructor
  · rintro ⟨k, hk, e⟩; exact ⟨k, hk, List.isPrefixOf_iff_prefix.mp e⟩
  · rintro ⟨k, hk, e⟩; exact ⟨k, hk, List.isPrefixOf_iff_prefix.mpr e⟩
/-- what bisect_left finds tells whether some key begins so -/
theorem bis_tells {keys : List (List Nat)} {p : List Nat} {i : Nat} (hs : keys.Pairwise (· < ·)) (h1 : ∀ j k, keys[j]? = some k → j < i → k < p) (h2 : ∀ j k, keys[j]? = some k → i ≤ j → ¬ k < p) :
    begP keys p = (match keys[i]? with | none => false | some k => p.isPrefixOf k) := by
  rw [Bool.eq_iff_iff, begP_iff]
  constructor
  · rintro ⟨k, hk, hp⟩
    obtain ⟨j, hj, e⟩ := List.mem_iff_getElem.mp hk
    have ej : keys[j]? = some k := by rw [List.getElem?_eq_getElem hj, e]
    have hij : i ≤ j := by
      rcases Nat.lt_or_ge j i with q | q
      · exact absurd (h1 j k ej q) (pre_not_lt _ _ hp)
      · exact q
    have hi : i < keys.length := by omega
    rw [List.getElem?_eq_getElem hi]
    refine List.isPrefixOf_iff_prefix.mpr (pre_between p _ k (h2 i _ (List.getElem?_eq_getElem hi) (Nat.le_refl _)) ?_ hp)
    rcases Nat.lt_or_eq_of_le hij with q | q
    · intro z
      have := List.pairwise_iff_getElem.mp hs i j hi hj q
      rw [e] at this
      exact lt_irrefl_l _ (lt_trans_l this z)
    · subst q; rw [e]; exact lt_irrefl_l _
  · intro h
    cases e : keys[i]? with
    | none => rw [e] at h; exact absurd h (by simp)
    | some k => rw [e] at h; exact ⟨k, List.mem_of_getElem? e, List.isPrefixOf_iff_prefix.mp h⟩

section
variable {prog : Program} {w : World} {A : Around} {E : Value → Shared → Prop} {s : Shared} {env : Env}
theorem asg2 {e₁ e₂ : Expr} {k : Nat} {pos : Pos} {t : Addr} {v₁ v₂ : Value} {Q : Unit → Shared → Prop} (hh : A.handled = none) (ht : IsTup s.heap t #[v₁, v₂])
    (h : ∀ h', Ext s.heap h' → wpAny (model prog w) A (assign e₁ env v₁) (fun _ s₁ => wpAny (model prog w) A (assign e₂ env v₂) Q E s₁) E { s with heap := h' })
    (he : assignEach [e₁, e₂] env = [(false, assign e₁ env), (false, assign e₂ env)] := by rfl) :
    wpAny (model prog w) A (assign (.Tuple [e₁, e₂] k pos) env (.ref t)) Q E s := by
  refine assign_Tuple_tuple hh ht (by rw [he]; rfl) (by rw [he]; rfl) fun h' he' => ?_
  rw [he]
  refine assignInOrder_cons (wpAny_mono (h h' fun b o e => he' b o (Nat.ne_of_lt (Heap.lt_size e)) e) (fun _ s₁ h₁ => ?_) fun _ _ x => x)
  exact assignInOrder_cons (wpAny_mono h₁ (fun _ s₂ h₂ => assignInOrder_nil h₂) fun _ _ x => x)
/-- x.startswith(y) -/
theorem starts_T {o e : Expr} {apos pos : Pos} {pl : Sem Bool} {Q : Value → Shared → Prop}
    (h : wpAny (model prog w) A (eval o env) (fun v s₁ => ∃ l t, v = .str (T l) t ∧ wpAny (model prog w) A (eval e env) (fun v₂ s₂ => ∃ p u, v₂ = .str (T p) u ∧ Q (.bool (p.isPrefixOf l)) s₂) E s₁) E s)
    (he : eval (.Call (.Attribute o "startswith" apos) [e] [] pos) env = (do
      let ov ← eval o env
      standAt apos.atName
      let (f, first) ← holding [ov] (getMethod ov "startswith" pl)
      callWith pos f first (backTo pos (starEach [e] env)) []) := by rfl)
    (he' : starEach [e] env = (false, eval e env) :: starEach [] env := by rfl) :
    wpAny (model prog w) A (eval (.Call (.Attribute o "startswith" apos) [e] [] pos) env) Q E s := by
  refine MethodCall_ (wpAny_mono h (fun v s₁ h₁ => ?_) fun _ _ x => x) he
  obtain ⟨l, t, rfl, h₁⟩ := h₁
  refine getMethod_builtin (typeIs_str _ _ _) PySem.F.plainAttrs_str PySem.F.slot_str_startswith PySem.F.type_str_startswith (fun _ q => nomatch q) ?_
  refine callWith_method1 (args_cons (wpAny_mono h₁ (fun v₂ s₂ h₂ => args_nil ?_) fun _ _ x => x) he') he'
  obtain ⟨p, u, rfl, hq⟩ := h₂
  refine PySem.SC.startswith ?_
  have e : Txt.startswith (T l) (T p) = p.isPrefixOf l := by
    unfold Txt.startswith
    rw [PySem.StrLaws.subAt_eq, T_len, T_len, Bool.eq_iff_iff, List.isPrefixOf_iff_prefix]
    simp only [Bool.and_eq_true, decide_eq_true_eq, beq_iff_eq, List.drop_zero, Nat.zero_add]
    constructor
    · rintro ⟨_, q⟩; exact ⟨l.drop p.length, by have := List.take_append_drop p.length l; rwa [q] at this⟩
    · intro q; exact ⟨q.length_le, (List.prefix_iff_eq_take.mp q).symm⟩
  rw [e]; exact hq
end

section
variable {w : World} {A : Around} {E : Value → Shared → Prop} {s : Shared} {G : Gl} {x : Addr}
theorem has_spec (g : Glb G s.heap) (hA : A.depth + 16 < recursionLimit) (hh : A.handled = none) {ps : List (List Nat × Int)} {keys : List (List Nat)} {p : List Nat} {tp : Tok} (Y : TrieOk w G s.heap x ps keys) :
    Yields (model PRG w) A (call (.ref G.has) [.ref x, .str (T p) tp] []) s (fun v _ => v = .bool (begP keys p)) := by
  obtain ⟨⟨D, KS, CP, t, vs, t0, t1, hT, hD, hl, hS, hCP⟩, hsrt, hmem, hnum, hshort⟩ := Y
  refine call_fn (binds := [("self", .ref x), ("prefix", .str (T p) tp)]) (by omega) g.nolimit g.fHas (fun _ _ _ _ _ _ _ => BindsTo.of_eq rfl) (by decide) (locs rfl) rfl rfl rfl ?_
  intro Q E h₁ tk cdv F hQ
  refine wpAny_execs_cons ?_
  repeat walk_at "m"
  refine nmL F rfl ?_
  refine Attribute_Name_ ?_
  refine nmL F rfl ?_
  refine ga_data g.cls (g.X.keeps F.keep) (hT.ext F.keep) fun tk2 => ?_
  refine dic_in (hD.ext F.keep) fun tk3 => ?_
  repeat walk_at "m"
  by_cases c : (getP ps p).isSome = true
  · refine PySem.W.ite_pos c ?_
    repeat walk_at "m"
    refine hQ _ _ _ F.keep ?_
    have : begP keys p = true := begP_iff.mpr ⟨p, (hmem p).mp c, List.prefix_refl p⟩
    rw [this]
  · refine PySem.W.ite_neg c ?_
    repeat walk_at "m"
    refine isTrue_plain ?_
    refine starts_T ?_
    refine nmL F rfl ?_
    refine ⟨p, tp, rfl, ?_⟩
    refine Attribute_Name_ ?_
    refine nmL F rfl ?_
    refine ga_str g.cls (g.X.keeps F.keep) (hT.ext F.keep) fun tk4 => ?_
    refine ⟨[], t, rfl, ?_⟩
    refine wpAny_truthy_bool ?_
    refine PySem.W.ite_pos (by simp) ?_
    refine wpAny_execs_cons ?_
    refine Assign_Tuple ?_
    refine Attribute_Name_ ?_
    refine nmL F rfl ?_
    refine ga_pts g.cls (g.X.keeps F.keep) (hT.ext F.keep) fun tk5 => ?_
    refine asg2 hh (Ext.tup F.keep hCP) fun h₂ x₂ => ?_
    refine wpAny_assign_Name (stL (frx F x₂) fun h₃ F₃ s₃ => ?_)
    refine wpAny_assign_Name (stL F₃ fun h₄ F₄ s₄ => ?_)
    repeat walk_at "m"
    refine Call_ ?_
    refine nmG g F₄ g.mBis ?_
    refine callW (h₀ := h₄) (g.fBis.ext F₄.keep) ?_
    repeat walk_at "m"
    refine Attribute_Name_ ?_
    refine nmL F₄ rfl ?_
    refine ga_keys g.cls (g.X.keeps F₄.keep) (hT.ext F₄.keep) fun tk6 => ?_
    repeat walk_at "m"
    refine nmL F₄ rfl ?_
    repeat walk_at "m"
    refine nmL F₄ rfl ?_
    repeat walk_at "m"
    refine nmL F₄ rfl ?_
    repeat walk_at "m"
    refine ⟨Ext.refl _, ?_⟩
    refine bis_spec (keys := keys) ?_ ?_ ?_ hS hsrt (by omega) _ _ ?_
    · exact g.ext F₄.keep
    · simp only [depth_deeper]; omega
    · exact Ext.list F₄.keep hl
    rintro v h₅ tk7 x₅ ⟨i, ti, rfl, hi, b1, b2⟩
    have F₅ := frx F₄ x₅
    refine stL F₅ fun h₆ F₆ s₆ => ?_
    repeat walk_at "m"
    refine nmL F₆ rfl ?_
    refine call_b1 g F₆ g.nLen boot_len (by decide) ?_
    refine Attribute_Name_ ?_
    refine nmL F₆ rfl ?_
    refine ga_keys g.cls (g.X.keeps F₆.keep) (hT.ext F₆.keep) fun tk8 => ?_
    refine PySem.Calls.call_len_list (Ext.list F₆.keep hl) (by rw [hS.1]; omega) ?_
    repeat walk_at "m"
    rw [hS.1]
    by_cases c2 : i = keys.length
    · refine PySem.W.ite_pos (by simp [c2]) ?_
      repeat walk_at "m"
      refine hQ _ _ _ F₆.keep ?_
      rw [bis_tells hsrt b1 b2, c2, List.getElem?_eq_none (Nat.le_refl _)]
    · refine PySem.W.ite_neg (by simp; omega) ?_
      repeat walk_at "m"
      refine starts_T ?_
      refine Subscript_ ?_
      refine Attribute_Name_ ?_
      refine nmL F₆ rfl ?_
      refine ga_keys g.cls (g.X.keeps F₆.keep) (hT.ext F₆.keep) fun tk9 => ?_
      refine nmL F₆ rfl ?_
      have hi' : i < keys.length := by omega
      obtain ⟨tm, hv⟩ := hS.2 i keys[i] (List.getElem?_eq_getElem hi')
      refine item_list (Ext.list F₆.keep hl) (by omega) (by omega) (by rw [Int.toNat_natCast]; exact hv) ?_
      refine ⟨keys[i], tm, rfl, ?_⟩
      refine nmL F₆ rfl ?_
      refine ⟨p, tp, rfl, ?_⟩
      refine hQ _ _ _ F₆.keep ?_
      rw [bis_tells hsrt b1 b2, List.getElem?_eq_getElem hi']
end
end
section
/-! calls that raise; try; _law_number -/
section
variable {prog : Program} {w : World} {A : Around} {s : Shared} {E : Value → Shared → Prop}
theorem call_fnR {f : Addr} {qual : Str} {st : Stmt} {dV : Value} {args : List Value} {binds : List (Str × Value)} {Q : Value → Shared → Prop}
    (hroom : A.depth < recursionLimit) (hlim : s.heap.NoLimit) (hf : FnAt s.heap f qual st dV)
    (hbind : ∀ name kV doc pm an cdv ct, BindsTo s (fnOf name qual (prmOf st) (bodOf st) (scpOf st) dV kV doc pm an cdv ct) ⟨args, []⟩ binds)
    (hcell : ∀ x ∈ (scpOf st).names, x.2 ≠ .cell) (hloc : ∀ x ∈ binds, (scpOf st).names.lookup x.1 = some .local)
    (hco : (scpOf st).isCoroutine = false) (hgen : (scpOf st).isGenerator = false) (hk : (scpOf st).kind = .function)
    (h : ∀ (h₁ : Heap) (tk : Nat) (cdv : Value), Fr s.heap s.heap.objs.size h₁ (fun x => binds.reverse.lookup x) →
      wpAny (model prog w) (A.deeper (envOf qual (scpOf st) s.heap.objs.size f cdv)) (execs (bodOf st) (envOf qual (scpOf st) s.heap.objs.size f cdv))
        (fun fl s' => Q (match fl with | .ret v => v | _ => .none) s')
        (fun e s' => wpAny (model prog w) (A.deeper (envOf qual (scpOf st) s.heap.objs.size f cdv)) (leaving (envOf qual (scpOf st) s.heap.objs.size f cdv) e) (fun _ s'' => E e s'') (fun e' s'' => E e' s'') s')
        { s with heap := h₁, toks := tk }) :
    wpAny (model prog w) A (call (.ref f) args []) Q E s := by
  obtain ⟨a1, a2, a3, name, kV, doc, pm, an, cdv, ct, ho, hcd⟩ := hf
  refine wpAny_call (codeAny_call_def (fd := fnOf name qual (prmOf st) (bodOf st) (scpOf st) dV kV doc pm an cdv ct) (body := bodOf st) hroom ho rfl hlim hcd rfl (hbind _ _ _ _ _ _ _) hcell hloc (fun h₀ hns hk₀ => ?_) hco hgen hk)
  exact h h₀ _ cdv ⟨hns, hk₀, Nat.le_refl _⟩
end

section
variable {w : World} {A : Around} {E : Value → Shared → Prop} {s : Shared} {G : Gl} {x D KS CP : Addr} {t : Tok} {base : Heap} {outer : List Env}
theorem get_miss (K : Below A base outer s.heap) (hh : A.handled = none) (g : Glb G s.heap) (hA : A.depth + 8 < recursionLimit) {ps : List (List Nat × Int)} {k : List Nat} {tk : Tok} (Y : TrieAt G s.heap x D KS CP t) (hD : DicI w s.heap D ps) (hk : getP ps k = none)
    {Q : Value → Shared → Prop} (hE : ∀ e h' tk, RaisedN base outer e (.type "KeyError") [] h' → s.heap.UpToSlots h' → E (.ref e) { s with heap := h', toks := tk }) :
    wpAny (model PRG w) A (call (.ref G.get) [.ref x, .str (T k) tk] []) Q E s := by
  refine call_fnR (binds := [("self", .ref x), ("key", .str (T k) tk)]) (by omega) g.nolimit g.fGet (fun _ _ _ _ _ _ _ => BindsTo.of_eq rfl) (by decide) (locs rfl) rfl rfl rfl ?_
  intro h₁ tk cdv F
  refine wpAny_execs_cons ?_
  repeat walk_at "m"
  refine Attribute_Name_ ?_
  refine nmL F rfl ?_
  refine ga_data g.cls (g.X.keeps F.keep) (Y.ext F.keep) fun tk2 => ?_
  refine nmL F rfl ?_
  refine dic_item_missing hh (hD.ext F.keep) hk fun h' e hx => ?_
  refine leave_newK K hx F (news := []) (fun _ q => by cases q) fun h'' R U => ?_
  exact hE _ _ _ R U
end
section
variable {w : World} {A₀ : Around} {E : Value → Shared → Prop} {s' : Shared} {G : Gl} {base h : Heap} {outer : List Env} {L a e : Addr} {m : Str → Option Value} {name : Str} {scope : Scope} {cd : Value}
  {b₀ : Stmt} {suite : List Stmt} {pos np : Pos} {rest : List ExceptHandler} {Q : Flow → Shared → Prop}
theorem caught_B (hst : A₀.frames = some outer) (g : Glb G base) (F : Fr base L h m) (hsm : h.UpToSlots s'.heap) (R : RaisedN base (envOf name scope L a cd :: outer) e (.type "KeyError") [] s'.heap)
    (k : ∀ h' E', Fr base L h' m → h.UpToSlots h' →
      wpAny (model PRG w) ((A₀.deeper (envOf name scope L a cd)).mark (some (.ref e))) (execs (b₀ :: suite) (envOf name scope L a cd)) Q E' { s' with heap := h' })
    (hk : scope.kind = .function := by rfl) (hx : (envOf name scope L a cd).kindOf "KeyError" = some .globalImplicit := by rfl) :
    wpAny (model PRG w) (A₀.deeper (envOf name scope L a cd)) (noteFrame (.ref e) (envOf name scope L a cd))
      (fun _ s₂ => wpAny (model PRG w) (A₀.deeper (envOf name scope L a cd)) (setFlight (.ref e) none) (fun _ s₃ =>
        wpAny (model PRG w) (A₀.deeper (envOf name scope L a cd)) (handleBy (.ref e) (envOf name scope L a cd) (.ExceptHandler (some (.Name "KeyError" np)) none (b₀ :: suite) pos :: rest)) Q E s₃) E s₂) E s' := by
  obtain ⟨B, a0, hB, hl, hfl⟩ := R
  have hL : B.get? L = none := by
    obtain ⟨_, ⟨L', _, hf, hn', _⟩, _⟩ := hfl.2.2.1
    obtain rfl : L = L' := Option.some.inj hf
    exact hn'
  refine wpAny_looks_onW (Around.frames_deeper hst) rfl hfl fun h₄ hheld₄ hsm₄ => ?_
  refine wpAny_landsW hheld₄ fun h₅ hheld hsm₅' => ?_
  have hsm₅ := hsm₄.trans hsm₅'
  have hheld' := flyingW_base hB hheld
  have F₅ := F.of_stays hheld'.1 (hsm.trans hsm₅)
  obtain ⟨ob, hob, hobc⟩ := hheld'.there
  refine wpAny_handleBy_builtin (X := "KeyError") (T := "KeyError") (b := true) kr_isExc_KeyError kr_notTuple_KeyError (by rw [isSubtype_type]; kernel_rfl) (nmB g F₅ g.nKeyError PyProof.Rows.Boot.«KeyError» (by decide) ⟨rfl, ⟨ob, hob, hobc⟩, ?_⟩ hk hx)
  refine lands_againW hheld fun h₆ hfl₆ hsm₆ => ?_
  have F₆ := F.of_stays (flyingW_base hB hfl₆).1 ((hsm.trans hsm₅).trans hsm₆)
  exact k h₆ _ F₆ ((hsm.trans hsm₅).trans hsm₆)
end
theorem fr_base {base h h' : Heap} {L : Addr} {m : Str → Option Value} (x : base.StaysIn h) (hs : base.objs.size ≤ h.objs.size) (F : Fr h L h' m) : Fr base L h' m :=
  ⟨F.ns, fun b o e => F.keep b o (x b o e), Nat.le_trans hs F.above⟩

/-- the ground below a call from law: the frames of the stack are hidden -/
structure Ground (A : Around) (base : Heap) (outer : List Env) (h : Heap) : Prop where
  below : Below A base outer h
  size : base.objs.size ≤ h.objs.size
section
variable {w : World} {A : Around} {E : Value → Shared → Prop} {s : Shared} {G : Gl} {x : Addr} {base : Heap} {outer : List Env}
theorem TrieAt.inst {G : Gl} {h : Heap} {x D KS CP : Addr} {t : Tok} (y : TrieAt G h x D KS CP t) : ∃ dx es n, InstAt h x (instObj G.trie dx) G.trie (some (dictOf es n)) ∧ getL "has_keys_with_prefix" es = some none ∧ getL "longest_prefix" es = some none :=
  let ⟨dx, es, n, h1, h2, _, _, _, _, a, b⟩ := y; ⟨dx, es, n, trie_inst h1 h2, a, b⟩

theorem number_spec (K : Ground A base outer s.heap) (hh : A.handled = none) (g : Glb G base) (hA : A.depth + 16 < recursionLimit) {ps : List (List Nat × Int)} {keys : List (List Nat)} {k : List Nat} {tk : Tok} (Y : TrieOk w G base x ps keys)
    {Q : Value → Shared → Prop} (hQ : ∀ l h' tk (vs : List Value), base.StaysIn h' → s.heap.UpToSlots h' → h'.IsList l vs.toArray → (match getP ps k with | some n => ∃ t, vs = [.int n t] | none => vs = []) → Q (.ref l) { s with heap := h', toks := tk }) :
    wpAny (model PRG w) A (call (.ref G.number) [.ref x, .str (T k) tk] []) Q E s := by
  obtain ⟨⟨D, KS, CP, t, vs, t0, t1, hT, hD, hl, hS, hCP⟩, hsrt, hmem, hnum, hshort⟩ := Y
  have gs := g.ext K.below.stays
  refine call_fnR (binds := [("trie", .ref x), ("word", .str (T k) tk)]) (by omega) gs.nolimit gs.fNumber (fun _ _ _ _ _ _ _ => BindsTo.of_eq rfl) (by decide) (locs rfl) rfl rfl rfl ?_
  intro h₁ tk₁ cdv F
  have K' := K.below.push (name := "_law_number") (scope := scpOf sNumber) (a := G.number) (cd := cdv) F
  have Fb := fr_base K.below.stays K.size F
  refine wpAny_execs_cons ?_
  refine wpAny_Try_except ?_
  refine wpAny_execs_cons ?_
  repeat walk_at "m"
  refine nmL F rfl ?_
  refine nmL F rfl ?_
  obtain ⟨dx, es, n, I, _, _⟩ := hT.inst
  have I' : InstAt h₁ x (instObj G.trie dx) G.trie (some (dictOf es n)) := ⟨Fb.keep _ _ I.at_, I.cls, I.no, Fb.keep _ _ I.dict⟩
  refine sub_K (h₀ := base) Fb g.X I' g.cls.iGet g.cls.nGet g.cls.fGet ?_
  cases hk : getP ps k with
  | some v =>
    refine get_spec (D := D) (KS := KS) (CP := CP) (t := t) ?_ ?_ ?_ ?_ hk _ _ ?_
    rotate_left
    · simp only [depth_in1, depth_deeper]; omega
    · exact hT.ext Fb.keep
    · exact hD.ext Fb.keep
    rotate_left
    · exact g.ext Fb.keep
    rintro u h₂ tk₂ x₂ ⟨tv, rfl⟩
    repeat walk_at "m"
    refine newList_x fun h₃ x₃ hl₃ _ => ?_
    refine hQ _ _ _ [.int v tv] (fun b o e => x₃ _ _ (x₂ _ _ (Fb.keep _ _ e))) (Heap.UpToSlots.of_keeps fun b o e => x₃ _ _ (x₂ _ _ (F.keep _ _ e))) hl₃ ?_
    · rw [hk]; exact ⟨_, rfl⟩
  | none =>
    refine get_miss (D := D) (KS := KS) (CP := CP) (t := t) (base := base) (outer := envOf "_law_number" (scpOf sNumber) s.heap.objs.size G.number cdv :: outer) ?_ ?_ ?_ ?_ ?_ ?_ hk ?_
    · exact K'.in1
    · exact hh
    · exact g.ext Fb.keep
    · simp only [depth_in1, depth_deeper]; omega
    · exact hT.ext Fb.keep
    · exact hD.ext Fb.keep
    intro e h₂ tk₂ R U
    refine caught_B K.below.stack g Fb U R ?_
    intro h₃ E' F₃ U₃
    refine wpAny_execs_cons ?_
    repeat walk_at "m"
    refine newList_x fun h₄ x₄ hl₄ _ => ?_
    refine hQ _ _ _ [] (fun b o e => x₄ _ _ (F₃.keep _ _ e)) (((Heap.UpToSlots.of_keeps F.keep).trans U₃).trans (Heap.UpToSlots.of_keeps x₄)) hl₄ ?_
    · rw [hk]
end
end
section
/-! the longest key that a text begins with -/
theorem long_spec (text : List Nat) : ∀ (l : List (List Nat)) (acc : Option (List Nat)), (∀ b, acc = some b → text.take b.length = b) →
    match l.foldl (longStep text) acc with
    | none => acc = none ∧ ∀ k ∈ l, text.take k.length ≠ k
    | some b => text.take b.length = b ∧ (b ∈ l ∨ acc = some b) ∧ (∀ a, acc = some a → a.length ≤ b.length) ∧ ∀ k ∈ l, text.take k.length = k → k.length ≤ b.length
  | [], acc, h => by
    cases acc with
    | none => exact ⟨rfl, fun _ q => by cases q⟩
    | some b => exact ⟨h b rfl, .inr rfl, fun a e => by cases e; exact Nat.le_refl _, fun _ q => by cases q⟩
  | x :: l, acc, h => by
    have hs : ∀ b, longStep text acc x = some b → text.take b.length = b := by
      intro b e
      unfold longStep at e
      split at e
      · rename_i c
        cases e
        exact beq_iff_eq.mp (Bool.and_eq_true_iff.mp c).1
      · exact h b e
    have ih := long_spec text l (longStep text acc x) hs
    rw [List.foldl_cons]
    have key : (text.take x.length = x → ∃ c, longStep text acc x = some c ∧ x.length ≤ c.length) ∧ (∀ a, acc = some a → ∃ c, longStep text acc x = some c ∧ a.length ≤ c.length) ∧ (∀ c, longStep text acc x = some c → c = x ∨ acc = some c) := by
      unfold longStep
      refine ⟨fun e => ?_, fun a ea => ?_, fun c e => ?_⟩
      · cases acc with
        | none => exact ⟨x, by rw [if_pos]; simp [e, better], Nat.le_refl _⟩
        | some a =>
          by_cases q : a.length < x.length
          · exact ⟨x, by rw [if_pos]; simp [e, better, q], Nat.le_refl _⟩
          · exact ⟨a, by rw [if_neg]; simp [better, q], by omega⟩
      · subst ea
        split
        · rename_i c
          have := (Bool.and_eq_true_iff.mp c).2
          simp only [better, decide_eq_true_eq] at this
          exact ⟨x, rfl, by omega⟩
        · exact ⟨a, rfl, Nat.le_refl _⟩
      · split at e
        · exact .inl (Option.some.inj e).symm
        · exact .inr e
    cases r : l.foldl (longStep text) (longStep text acc x) with
    | none =>
      rw [r] at ih
      obtain ⟨e1, e2⟩ := ih
      refine ⟨?_, fun k hk => ?_⟩
      · cases acc with
        | none => rfl
        | some a => obtain ⟨c, q, _⟩ := key.2.1 a rfl; rw [e1] at q; cases q
      · rcases List.mem_cons.mp hk with rfl | hk
        · intro q; obtain ⟨c, q, _⟩ := key.1 q; rw [e1] at q; cases q
        · exact e2 k hk
    | some b =>
      rw [r] at ih
      obtain ⟨e1, e2, e3, e4⟩ := ih
      refine ⟨e1, ?_, fun a ea => ?_, fun k hk e => ?_⟩
      · rcases e2 with e2 | e2
        · exact .inl (.tail _ e2)
        · rcases key.2.2 b e2 with q | q
          · exact .inl (q ▸ .head _)
          · exact .inr q
      · obtain ⟨c, q, z⟩ := key.2.1 a ea
        exact Nat.le_trans z (e3 c q)
      · rcases List.mem_cons.mp hk with rfl | hk
        · obtain ⟨c, q, z⟩ := key.1 e
          exact Nat.le_trans z (e3 c q)
        · exact e4 k hk e
theorem long_none {keys : List (List Nat)} {p : List Nat} (h : ∀ j, j ≤ p.length → p.take (p.length - j) ∉ keys) : longestL keys p = none := by
  have := long_spec p keys none (fun _ q => by cases q)
  unfold longestL
  cases r : keys.foldl (longStep p) none with
  | none => rfl
  | some b =>
    rw [r] at this
    obtain ⟨e1, e2, _⟩ := this
    have hb : b ∈ keys := e2.resolve_right (fun q => by cases q)
    have hl : b.length ≤ p.length := by have := congrArg List.length e1; rw [List.length_take] at this; omega
    have := h (p.length - b.length) (by omega)
    rw [show p.length - (p.length - b.length) = b.length by omega, e1] at this
    exact absurd hb this
theorem long_some {keys : List (List Nat)} {p : List Nat} {i : Nat} (hi : i ≤ p.length) (hm : p.take (p.length - i) ∈ keys) (h : ∀ j, j < i → p.take (p.length - j) ∉ keys) : longestL keys p = some (p.take (p.length - i)) := by
  have := long_spec p keys none (fun _ q => by cases q)
  unfold longestL
  have hlen : (p.take (p.length - i)).length = p.length - i := by rw [List.length_take]; omega
  cases r : keys.foldl (longStep p) none with
  | none =>
    rw [r] at this
    exact absurd (by rw [hlen]) (this.2 _ hm)
  | some b =>
    rw [r] at this
    obtain ⟨e1, e2, _, e4⟩ := this
    have hb : b ∈ keys := e2.resolve_right (fun q => by cases q)
    have hl : b.length ≤ p.length := by have := congrArg List.length e1; rw [List.length_take] at this; omega
    have h4 := e4 _ hm (by rw [hlen])
    rw [hlen] at h4
    by_cases q : b.length = p.length - i
    · rw [← q, e1]
    · have := h (p.length - b.length) (by omega)
      rw [show p.length - (p.length - b.length) = b.length by omega, e1] at this
      exact absurd hb this
theorem rng_small {a b : Int} (h : -1000000 ≤ a ∧ a ≤ 1000000 ∧ -1000000 ≤ b ∧ b ≤ 1000000) : Builtin.Range.small a b 1 = true := by
  unfold Builtin.Range.small Builtin.Range.rangeFitsLong; rw [rangeSize_nat]; simp; omega

section
variable {w : World} {A : Around} {E : Value → Shared → Prop} {s : Shared} {G : Gl} {x : Addr} {base : Heap} {outer : List Env}
theorem lp_spec (K : Ground A base outer s.heap) (hh : A.handled = none) (g : Glb G base) (hA : A.depth + 24 < recursionLimit) {ps : List (List Nat × Int)} {keys : List (List Nat)} {p : List Nat} {tk : Tok} (Y : TrieOk w G base x ps keys) (hp : p.length ≤ 1000)
    {Q : Value → Shared → Prop} (hQ : ∀ l t h' tk, Ext s.heap h' → longestL keys p = some l → Q (.str (T l) t) { s with heap := h', toks := tk })
    (hE : longestL keys p = none → ∀ e h' tk, RaisedN base outer e (.type "KeyError") [] h' → s.heap.UpToSlots h' → E (.ref e) { s with heap := h', toks := tk }) :
    wpAny (model PRG w) A (call (.ref G.lp) [.ref x, .str (T p) tk] []) Q E s := by
  obtain ⟨⟨D, KS, CP, t, vs, t0, t1, hT, hD, hl, hS, hCP⟩, hsrt, hmem, hnum, hshort⟩ := Y
  have gs := g.ext K.below.stays
  refine call_fnR (binds := [("self", .ref x), ("prefix", .str (T p) tk)]) (by omega) gs.nolimit gs.fLp (fun _ _ _ _ _ _ _ => BindsTo.of_eq rfl) (by decide) (locs rfl) rfl rfl rfl ?_
  intro h₁ tk₁ cdv F
  have Kb := K.below
  have Fb := fr_base K.below.stays K.size F
  obtain ⟨dx, es, n, I, _, _⟩ := hT.inst
  have hI : ∀ {h : Heap} {m}, Fr s.heap s.heap.objs.size h m → InstAt h x (instObj G.trie dx) G.trie (some (dictOf es n)) := fun F => ⟨F.keep _ _ (Kb.stays _ _ I.at_), I.cls, I.no, F.keep _ _ (Kb.stays _ _ I.dict)⟩
  refine wpAny_execs_cons ?_
  repeat walk_at "m"
  refine nmL F rfl ?_
  refine nmL F rfl ?_
  refine in_K F gs.X (hI F) g.cls.iCont g.cls.fCont ?_
  refine cont_spec (D := D) (KS := KS) (CP := CP) (t := t) (ps := ps) ?_ ?_ ?_ ?_ _ _ ?_
  rotate_left
  · simp only [depth_deeper]; omega
  · exact (hT.ext Kb.stays).ext F.keep
  · exact (hD.ext Kb.stays).ext F.keep
  rotate_left
  · exact gs.ext F.keep
  rintro v h₂ tk₂ x₂ rfl
  have F₂ := frx F x₂
  repeat walk_at "m"
  by_cases c : (getP ps p).isSome = true
  · refine PySem.W.ite_pos c ?_
    repeat walk_at "m"
    refine nmL F₂ rfl ?_
    refine hQ p _ _ _ F₂.keep ?_
    have := long_some (keys := keys) (p := p) (i := 0) (Nat.zero_le _) (by rw [Nat.sub_zero, List.take_length]; exact (hmem p).mp c) (fun j q => by omega)
    rwa [Nat.sub_zero, List.take_length] at this
  · refine PySem.W.ite_neg c ?_
    repeat walk_at "m"
    refine wpAny_For ?_
    refine call_t2 gs F₂ gs.nRange boot_range (by decide) ?_
    repeat walk_at "m"
    refine call_b1 gs F₂ gs.nLen boot_len (by decide) ?_
    refine nmL F₂ rfl ?_
    refine len_T (by omega) fun t5 tk5 => ?_
    repeat walk_at "m"
    refine PySem.call_range_2 ?_
    refine for_range (b₀ := s.heap) (L := s.heap.objs.size) (a := 1) (b := (p.length : Int) + 1) (n := p.length) [] hh (F₂.push _) (IsRange.new _ _ _ _ _ _ _) (rng_small (by omega)) (by rw [rangeSize_nat]; omega) (by simp)
      (fun i m _ => m "self" = some (.ref x) ∧ m "prefix" = some (.str (T p) tk) ∧ ∀ j, j < i + 1 → p.take (p.length - j) ∉ keys) (fun _ _ _ _ q _ => q) ⟨rfl, rfl, ?_⟩ ?_ ?_
    · intro j hj
      rw [show j = 0 by omega, Nat.sub_zero, List.take_length]
      exact fun q => c ((hmem p).mpr q)
    · rintro i t₃ m₃ h₃ tk₃ E' hi ⟨i1, i2, i3⟩ F₃ K₃
      refine wpAny_assign_Name (stL F₃ fun h₄ F₄ s₄ => ?_)
      refine wpAny_execs_cons ?_
      refine wpAny_If ?_
      refine wpAny_isTrue_Compare1 ?_
      refine sub_slice ?_
      refine nmL F₄ i2 ?_
      refine evalPart_none_step ?_
      refine evalPart_some_step ?_
      refine UnaryOp_ ?_
      refine nmL F₄ rfl ?_
      refine neg_int ?_
      refine ⟨p, tk, none, some (_, _), rfl, rfl, rfl, by rw [sizeLine_eq]; omega, fun t6 tk6 h6 x6 => ?_⟩
      have F₆ := frx F₄ x6
      have ei : (1 : Int) + (i : Int) = ((i + 1 : Nat) : Int) := by omega
      simp only [Option.map]
      rw [ei, cut_neg p (i + 1) (by omega) (by omega)]
      refine nmL F₆ i1 ?_
      refine in_K F₆ gs.X (hI F₆) g.cls.iCont g.cls.fCont ?_
      refine cont_spec (D := D) (KS := KS) (CP := CP) (t := t) (ps := ps) ?_ ?_ ?_ ?_ _ _ ?_
      rotate_left
      · simp only [depth_deeper]; omega
      · exact (hT.ext Kb.stays).ext F₆.keep
      · exact (hD.ext Kb.stays).ext F₆.keep
      rotate_left
      · exact gs.ext F₆.keep
      rintro v h₇ tk₇ x₇ rfl
      have F₇ := frx F₆ x₇
      repeat walk_at "m"
      by_cases c3 : (getP ps (p.take (p.length - (i + 1)))).isSome = true
      · refine PySem.W.ite_pos c3 ?_
        refine wpAny_execs_cons ?_
        refine wpAny_Return_some ?_
        refine sub_slice ?_
        refine nmL F₇ i2 ?_
        refine evalPart_none_step ?_
        refine evalPart_some_step ?_
        refine UnaryOp_ ?_
        refine nmL F₇ rfl ?_
        refine neg_int ?_
        refine ⟨p, tk, none, some (_, _), rfl, rfl, rfl, by rw [sizeLine_eq]; omega, fun t8 tk8 h8 x8 => ?_⟩
        have F₈ := frx F₇ x8
        simp only [Option.map]
        rw [ei, cut_neg p (i + 1) (by omega) (by omega)]
        exact hQ _ _ _ _ F₈.keep (long_some (by omega) ((hmem _).mp c3) i3)
      · refine PySem.W.ite_neg c3 ?_
        repeat walk_at "m"
        refine ⟨h₇, _, _, rfl, F₇, ((kp_same s₄ (by simp)).ext x6).ext x₇, i1, i2, fun j hj => ?_⟩
        by_cases q : j < i + 1
        · exact i3 j q
        · rw [show j = i + 1 by omega]
          exact fun q => c3 ((hmem _).mpr q)
    · rintro h₃ tk₃ m₃ ⟨i1, i2, i3⟩ F₃ K₃
      have hn : longestL keys p = none := long_none fun j hj => i3 j (by omega)
      refine wpAny_execs_cons ?_
      refine Raise_new hh ?_
      refine call_t1 gs F₃ gs.nKeyError PyProof.Rows.Boot.«KeyError» (by decide) ?_
      refine nmL F₃ i2 ?_
      refine call_exc_raise excClass_KeyError fun h₄ e hx => ?_
      refine leave_newK Kb hx F₃ (news := []) (fun _ q => by cases q) fun h'' R U => ?_
      exact hE hn _ _ _ R U
end
end
section
/-! methods; _law_prefix -/
section
variable {w : World} {A : Around} {E : Value → Shared → Prop} {s : Shared} {G : Gl} {env : Env}
theorem meth1 {o e : Expr} {name : Str} {apos pos : Pos} {f : Addr} {pl : Sem Bool} {Q : Value → Shared → Prop} (C : ClsOk G) (hf : findIn G.K (.ref G.trie) name = some (some (.ref f))) (ht : isFn G.K (.ref f) = true) (hk : keepIn G.K (.ref f) = true)
    (h : wpAny (model PRG w) A (eval o env) (fun ov s₁ => ∃ x, ov = .ref x ∧ G.K.In s₁.heap ∧ (∃ dx es n, InstAt s₁.heap x (instObj G.trie dx) G.trie (some (dictOf es n)) ∧ getL name es = some none) ∧
      wpAny (model PRG w) A (eval e env) (fun v s₂ => G.K.In s₂.heap ∧ wpAny (model PRG w) A (call (.ref f) [.ref x, v]) Q E s₂) E s₁) E s)
    (he : eval (.Call (.Attribute o name apos) [e] [] pos) env = (do
      let ov ← eval o env
      standAt apos.atName
      let (f, first) ← holding [ov] (getMethod ov name pl)
      callWith pos f first (backTo pos (starEach [e] env)) []) := by rfl)
    (he' : starEach [e] env = (false, eval e env) :: starEach [] env := by rfl) :
    wpAny (model PRG w) A (eval (.Call (.Attribute o name apos) [e] [] pos) env) Q E s := by
  refine MethodCall_ (wpAny_mono h (fun ov s₁ h₁ => ?_) fun _ _ x => x) he
  obtain ⟨x, rfl, X, ⟨dx, es, n, I, hl⟩, h₁⟩ := h₁
  refine method_fn X I (plainGet_of C.plain).1 (plainGet_of C.plain).2 hf (beq_iff_eq.mp ht) (by show (lookIn name (dictOf es n)).map _ = _; rw [lookIn_dict, hl]; rfl) ?_
  refine callWith_K X hk (args_cons (wpAny_mono h₁ (fun v s₂ h₂ => args_nil ?_) fun _ _ x => x) he') he'
  exact h₂
end
section
variable {w : World} {A : Around} {E : Value → Shared → Prop} {s : Shared} {G : Gl} {x : Addr} {base : Heap} {outer : List Env}
theorem prefix_spec (K : Ground A base outer s.heap) (hh : A.handled = none) (g : Glb G base) (hA : A.depth + 32 < recursionLimit) {ps : List (List Nat × Int)} {keys : List (List Nat)} {p : List Nat} {tk : Tok} (Y : TrieOk w G base x ps keys) (hp : p.length ≤ 1000)
    {Q : Value → Shared → Prop} (hQ : ∀ v h' tk, base.StaysIn h' → s.heap.UpToSlots h' → IsOpt v (longestL keys p) → Q v { s with heap := h', toks := tk }) :
    wpAny (model PRG w) A (call (.ref G.prefixA) [.ref x, .str (T p) tk] []) Q E s := by
  have Y₀ := Y
  obtain ⟨⟨D, KS, CP, t, vs, t0, t1, hT, hD, hl, hS, hCP⟩, hsrt, hmem, hnum, hshort⟩ := Y
  have gs := g.ext K.below.stays
  refine call_fnR (binds := [("trie", .ref x), ("word", .str (T p) tk)]) (by omega) gs.nolimit gs.fPrefix (fun _ _ _ _ _ _ _ => BindsTo.of_eq rfl) (by decide) (locs rfl) rfl rfl rfl ?_
  intro h₁ tk₁ cdv F
  have K' := K.below.push (name := "_law_prefix") (scope := scpOf sPrefix) (a := G.prefixA) (cd := cdv) F
  have Fb := fr_base K.below.stays K.size F
  refine wpAny_execs_cons ?_
  refine wpAny_Try_except ?_
  refine wpAny_execs_cons ?_
  refine wpAny_Return_some ?_
  obtain ⟨dx, es, n, I, _, hlp⟩ := hT.inst
  refine meth1 (G := G) g.cls g.cls.iLp g.cls.fLp g.cls.kLp ?_
  refine nmL F rfl ?_
  refine ⟨x, rfl, g.X.keeps Fb.keep, ⟨dx, es, n, ⟨Fb.keep _ _ I.at_, I.cls, I.no, Fb.keep _ _ I.dict⟩, hlp⟩, ?_⟩
  refine nmL F rfl ?_
  refine ⟨g.X.keeps Fb.keep, ?_⟩
  refine lp_spec (base := base) (outer := envOf "_law_prefix" (scpOf sPrefix) s.heap.objs.size G.prefixA cdv :: outer) ?_ ?_ g ?_ Y₀ hp ?_ ?_
  · exact ⟨K', Nat.le_trans Fb.above (Nat.le_of_lt (let ⟨_, _, _, ho, _⟩ := F.ns; Heap.lt_size ho))⟩
  · exact hh
  · simp only [depth_deeper]; omega
  · intro l t₂ h₂ tk₂ x₂ e
    refine hQ _ _ _ (fun b o e => x₂ _ _ (Fb.keep _ _ e)) (Heap.UpToSlots.of_keeps fun b o e => x₂ _ _ (F.keep _ _ e)) ?_
    rw [e]; exact ⟨_, rfl⟩
  · intro e e' h₂ tk₂ R U
    refine caught_B K.below.stack g Fb U R ?_
    intro h₃ E' F₃ U₃
    refine wpAny_execs_cons ?_
    repeat walk_at "m"
    refine hQ _ _ _ (fun b o e => F₃.keep _ _ e) ((Heap.UpToSlots.of_keeps F.keep).trans U₃) ?_
    rw [e]; rfl
end
end
section
/-! sorted lists without doubles; Trie(data) -/
theorem srt_strict {l : List (List Nat)} (h : Srt l) (n : l.Nodup) : l.Pairwise (· < ·) :=
  (h.and n).imp fun {a b} ⟨p, q⟩ => by
    rcases Classical.em (a < b) with e | e
    · exact e
    · exact absurd (List.le_antisymm (List.not_lt.mp p) (List.not_lt.mp e)) q
theorem strict_eq : ∀ {a b : List (List Nat)}, a.Pairwise (· < ·) → b.Pairwise (· < ·) → (∀ x, x ∈ a ↔ x ∈ b) → a = b
  | [], [], _, _, _ => rfl
  | [], y :: b, _, _, h => absurd ((h y).mpr (.head _)) (by simp)
  | x :: a, [], _, _, h => absurd ((h x).mp (.head _)) (by simp)
  | x :: a, y :: b, ha, hb, h => by
    have e : x = y := by
      rcases List.mem_cons.mp ((h x).mp (.head _)) with q | q
      · exact q
      · rcases List.mem_cons.mp ((h y).mpr (.head _)) with z | z
        · exact z.symm
        · exact absurd (lt_trans_l (List.rel_of_pairwise_cons ha z) (List.rel_of_pairwise_cons hb q)) (lt_irrefl_l _)
    subst e
    refine congrArg _ (strict_eq ha.of_cons hb.of_cons fun z => ⟨fun q => ?_, fun q => ?_⟩)
    · rcases List.mem_cons.mp ((h z).mp (.tail _ q)) with e | e
      · exact absurd (e ▸ List.rel_of_pairwise_cons ha q) (lt_irrefl_l _)
      · exact e
    · rcases List.mem_cons.mp ((h z).mpr (.tail _ q)) with e | e
      · exact absurd (e ▸ List.rel_of_pairwise_cons hb q) (lt_irrefl_l _)
      · exact e
theorem getP_mem {ps : List (List Nat × Int)} {k : List Nat} : (getP ps k).isSome = true ↔ k ∈ ps.map (·.1) := by
  unfold getP
  rw [Option.isSome_map, List.find?_isSome]
  simp only [decide_eq_true_eq, List.mem_map]
theorem taker_none {K : Frag} {C : Addr} {name : Str} (h : findIn K (.ref C) name = some none) : takerIn K C name = some none := by unfold takerIn; rw [h]; rfl
theorem news_add {h₀ h : Heap} {L a : Addr} {o : Obj} {news : List (Addr × Obj)} (N : News h₀ L h news) (ho : h.get? a = some o) (hL : a ≠ L) (h0 : h₀.get? a = none) : News h₀ L h (news ++ [(a, o)]) := fun p hp => by
  rcases List.mem_append.mp hp with hp | hp
  · exact N p hp
  · rw [List.mem_singleton.mp hp]; exact ⟨ho, hL, h0⟩
section
variable {w : World} {A : Around} {E : Value → Shared → Prop} {s : Shared} {G : Gl} {h₀ : Heap} {L f dx x D : Addr} {cdv : Value} {m : Str → Option Value}
theorem init_body (g : Glb G h₀) (hh : A.handled = none) (F : Fr h₀ L s.heap m) (hs : m "self" = some (.ref x)) (hd : m "data" = some (.ref D)) (hne : dx ≠ x) (N : News h₀ L s.heap [(dx, dictOf [] 0), (x, instObj G.trie dx)])
    {ps : List (List Nat × Int)} (hD : DicI w h₀ D ps) (hn : ps.length ≤ 10) (hk : ∀ p ∈ ps, p.1.length ≤ 4)
    {Q : Flow → Shared → Prop} (hQ : ∀ h' tk keys, Ext h₀ h' → keys.Perm (ps.map (·.1)) → (∀ gh, (∀ a o, h'.get? a = some o → h₀.get? a = none → gh.get? a = some o) → DicI w gh D ps → TrieOk w G gh x ps keys) → Q .next { s with heap := h', toks := tk }) :
    wpAny (model PRG w) A (execs (bodOf sInit) (envOf "Trie.__init__" (scpOf sInit) L f cdv)) Q E s := by
  have C := g.cls
  refine wpAny_execs_cons ?_
  refine plainObj_wpAny_Assign_Attribute ?_
  refine nmL F hd ?_
  refine nmL F hs ?_
  refine set_dict (K := G.K) F g.X N (I := ⟨(N _ (.tail _ (.head _))).1, rfl, rfl, (N _ (.head _)).1⟩) rfl C.set C.over (taker_none C.aData) C.dict (by k_get) (by k_put) (.head fun p hp => by rw [List.mem_singleton.mp hp]; exact hne.symm) (Nat.le_of_ble_eq_true rfl) fun h₁ F₁ N₁ => ?_
  refine wpAny_execs_cons ?_
  refine plainObj_wpAny_Assign_Attribute ?_
  refine call_b1 g F₁ g.nSorted boot_sorted (by decide) ?_
  refine dic_keys ?_
  refine nmL F₁ hd ?_
  refine ⟨D, ps, rfl, hD.ext F₁.keep, fun r h₂ x₂ hv => ?_⟩
  have F₂ := frx F₁ x₂
  refine dic_sorted_keys hh (hD.ext F₂.keep) hv (by omega) fun KS h₃ tk₃ out keys x₃ hKn hKl hKs hperm hsrt => ?_
  have F₃ := frx F₂ x₃
  have N₃ := (N₁.keepsAll x₂).keepsAll x₃
  obtain ⟨oK, hoK, hKr⟩ := hKl
  have k1 : KS ≠ L := fun q => by obtain ⟨oL, _, _, hoL, _⟩ := F₂.ns; rw [q] at hKn; exact absurd (hoL.symm.trans hKn) (by simp)
  have k2 : h₀.get? KS = none := ext_none F₂.keep hKn
  have k3 : KS ≠ dx := fun q => by have := x₂ _ _ (N₁ _ (.head _)).1; rw [q] at hKn; exact absurd (this.symm.trans hKn) (by simp)
  have N₃' := news_add N₃ hoK k1 k2
  refine nmL F₃ hs ?_
  refine set_dict (K := G.K) F₃ g.X N₃' (I := ⟨(N₃ _ (.tail _ (.head _))).1, rfl, rfl, (N₃ _ (.head _)).1⟩) rfl C.set C.over (taker_none C.aKeys) C.dict (by k_get) (by k_put) (.head fun p hp => by
    rcases List.mem_cons.mp hp with rfl | hp
    · exact hne.symm
    · rw [List.mem_singleton.mp hp]; exact k3) (Nat.le_of_ble_eq_true rfl) fun h₄ F₄ N₄ => ?_
  refine wpAny_execs_cons ?_
  refine plainObj_wpAny_Assign_Attribute ?_
  refine PySem.Calls.Constant_str ?_
  refine nmL F₄ hs ?_
  refine set_dict (K := G.K) F₄ g.X N₄ (I := ⟨(N₄ _ (.tail _ (.head _))).1, rfl, rfl, (N₄ _ (.head _)).1⟩) rfl C.set C.over (taker_none C.aStr) C.dict (by k_get) (by k_put) (.head fun p hp => by
    rcases List.mem_cons.mp hp with rfl | hp
    · exact hne.symm
    · rw [List.mem_singleton.mp hp]; exact k3) (Nat.le_of_ble_eq_true rfl) fun h₅ F₅ N₅ => ?_
  refine wpAny_execs_cons ?_
  refine plainObj_wpAny_Assign_Attribute ?_
  refine Tuple_ ?_
  repeat walk_at "m"
  refine call_b1 g F₅ g.nLen boot_len (by decide) ?_
  refine nmL F₅ hd ?_
  refine dic_len (hD.ext F₅.keep) (by omega) fun t₆ tk₆ => ?_
  repeat walk_at "m"
  refine newTuple_x fun h₇ x₇ ht₇ hsz₇ => ?_
  have F₇ := frx F₅ x₇
  have N₇ := N₅.keepsAll x₇
  have c0 : h₅.get? h₅.objs.size = none := Heap.get?_none_of_le (Nat.le_refl _)
  generalize hCP : h₅.objs.size = CP at ht₇ c0
  obtain ⟨oC, hoC, hCr⟩ := ht₇
  have c1 : CP ≠ L := fun q => by obtain ⟨oL, _, _, hoL, _⟩ := F₅.ns; rw [q] at c0; exact absurd (hoL.symm.trans c0) (by simp)
  have c2 : h₀.get? CP = none := ext_none F₅.keep c0
  have c3 : CP ≠ dx := fun q => by have := (N₅ _ (.head _)).1; rw [q] at c0; exact absurd (this.symm.trans c0) (by simp)
  have N₇' := news_add N₇ hoC c1 c2
  refine nmL F₇ hs ?_
  refine set_dict (K := G.K) F₇ g.X N₇' (I := ⟨(N₇ _ (.tail _ (.head _))).1, rfl, rfl, (N₇ _ (.head _)).1⟩) rfl C.set C.over (taker_none C.aPts) C.dict (by k_get) (by k_put) (.head fun p hp => by
    rcases List.mem_cons.mp hp with rfl | hp
    · exact hne.symm
    · rcases List.mem_cons.mp hp with rfl | hp
      · exact k3
      · rw [List.mem_singleton.mp hp]; exact c3) (Nat.le_of_ble_eq_true rfl) fun h₈ F₈ N₈ => ?_
  refine wpAny_execs_nil ?_
  have hkl : keys.length = ps.length := by rw [hperm.length_eq, List.length_map]
  have hnd : keys.Nodup := hperm.symm.nodup hD.nodup
  refine hQ _ _ keys F₈.keep hperm fun gh hg hDg => ?_
  have hTA : TrieAt G gh x D KS CP (tk₃ + 2) := by
    refine ⟨dx, _, _, hg _ _ (N₈ _ (.tail _ (.head _))).1 (N₈ _ (.tail _ (.head _))).2.2, hg _ _ (N₈ _ (.head _)).1 (N₈ _ (.head _)).2.2, by k_get, by k_get, ?_, by k_get, by k_get, by k_get⟩
    rw [← ofs_nil]; k_get
  rw [← hkl] at hCr
  refine ⟨⟨D, KS, CP, _, out, _, _, hTA, hDg, ⟨oK, hg _ _ (N₈ _ (.tail _ (.tail _ (.head _)))).1 k2, hKr⟩, hKs, ⟨oC, hg _ _ (N₈ _ (.tail _ (.tail _ (.tail _ (.head _))))).1 c2, hCr⟩⟩, srt_strict hsrt hnd, fun k => ?_, by omega, fun k hk' => ?_⟩
  · rw [getP_mem]; exact hperm.symm.mem_iff
  · obtain ⟨p, hp, rfl⟩ := List.mem_map.mp (hperm.mem_iff.mp hk')
    exact hk p hp
end
section
variable {w : World} {A : Around} {s : Shared} {G : Gl}
theorem trie_new (g : Glb G s.heap) (hA : A.depth + 8 < recursionLimit) (hh : A.handled = none) {D : Addr} {ps : List (List Nat × Int)} (hD : DicI w s.heap D ps) (hn : ps.length ≤ 10) (hk : ∀ p ∈ ps, p.1.length ≤ 4) :
    Yields (model PRG w) A (call (.ref G.trie) [.ref D]) s (fun v h' => ∃ x keys, v = .ref x ∧ keys.Perm (ps.map (·.1)) ∧
      ∀ gh, (∀ a o, h'.get? a = some o → s.heap.get? a = none → gh.get? a = some o) → DicI w gh D ps → TrieOk w G gh x ps keys) := by
  intro Q E hQ
  have hmk := makes_of (M := model PRG w) g.X g.cls.makes
  refine wpAny_call ?_
  refine make_core hmk (looks_findIn g.X g.cls.iInit) (fun self => bind_fn g.X self (beq_iff_eq.mp g.cls.fInit)) (.inl rfl) ?_
  obtain ⟨a1, a2, a3, name, kV, doc, pm, an, cdv, ct, ho, hcd⟩ := g.fInit
  have x0 : Ext s.heap ((s.heap.push emptyDict).push (instObj G.trie s.heap.objs.size)) := (Ext.push _ _).trans (Ext.push _ _)
  refine codeAny_call_def (fd := fnOf name "Trie.__init__" (prmOf sInit) (bodOf sInit) (scpOf sInit) .none kV doc pm an cdv ct) (body := bodOf sInit)
    (binds := [("self", .ref (s.heap.objs.size + 1)), ("data", .ref D)]) ?_ (x0 _ _ ho) rfl (g.nolimit.keeps x0) (hcd.keeps x0) rfl (BindsTo.of_eq rfl) (show ∀ x ∈ (scpOf sInit).names, x.2 ≠ .cell by decide) (locs rfl) (fun h₁ hns hk₁ => ?_) rfl rfl rfl
  · rw [depth_under_make]; omega
  have hd0 : ((s.heap.push emptyDict).push (instObj G.trie s.heap.objs.size)).get? s.heap.objs.size = some (dictOf [] 0) := by heap_get
  have hx0 : ((s.heap.push emptyDict).push (instObj G.trie s.heap.objs.size)).get? (s.heap.objs.size + 1) = some (instObj G.trie s.heap.objs.size) := by heap_get
  have hLs : ((s.heap.push emptyDict).push (instObj G.trie s.heap.objs.size)).objs.size = s.heap.objs.size + 1 + 1 := by rw [Heap.size_push, Heap.size_push]
  refine wpAny_mono (init_body (h₀ := s.heap) (dx := s.heap.objs.size) (x := s.heap.objs.size + 1) (D := D) (Q := fun fl s' => ∃ v, fl = .next ∧ v = Value.none ∧ InitBack (s.heap.objs.size + 1) (fun r s' => match r with | .ok (.ret v) => Q v s' | .ok _ => False | .error e => E e s') (.ok (.ret .none)) s') (E := fun _ _ => False) g ?_ ⟨hns, fun b o e => hk₁ _ _ (x0 _ _ e), ?_⟩ rfl rfl ?_ ?_ hD hn hk ?_) ?_ ?_
  · exact hh
  · show s.heap.objs.size ≤ ((s.heap.push emptyDict).push (instObj G.trie s.heap.objs.size)).objs.size
    rw [hLs]; omega
  · exact fun q => absurd q (by simp)
  · intro q hq
    rcases List.mem_cons.mp hq with rfl | hq
    · exact ⟨hk₁ _ _ hd0, fun q => absurd (q.trans hLs) (by show ¬ s.heap.objs.size = s.heap.objs.size + 1 + 1; exact fun z => absurd z (Nat.ne_of_lt (by exact Nat.lt_succ_of_lt (Nat.lt_succ_self _)))), Heap.get?_none_of_le (Nat.le_refl _)⟩
    · rw [List.mem_singleton.mp hq]
      exact ⟨hk₁ _ _ hx0, fun q => absurd (q.trans hLs) (by simp), Heap.get?_none_of_le (Nat.le_succ _)⟩
  · intro h' tk keys x₁ hp ht
    exact ⟨_, rfl, rfl, rfl, hQ _ _ _ x₁ ⟨_, keys, rfl, hp, ht⟩⟩
  · rintro fl s' ⟨v, rfl, rfl, hb⟩
    exact hb
  · exact fun _ _ q => q.elim
end
end
section
/-! law's frame: the names, the two cells, what stands still (b) -/
structure Law (G : Gl) (h₀ b : Heap) (L : Addr) (h : Heap) (m : Str → Option Value) (dv wv : Option Value) : Prop where
  g₀ : Glb G h₀
  F : Fr h₀ L h m
  b0 : Ext h₀ b
  x : Ext b h
  bL : b.get? L = none
  bd : b.get? (L + 1) = none
  bw : b.get? (L + 1 + 1) = none
  cd : h.IsCell (L + 1) dv
  cw : h.IsCell (L + 1 + 1) wv
/-- law's own places -/
abbrev LW (L : Addr) : List Addr := [L, L + 1, L + 1 + 1]
abbrev lawEnv (L f : Addr) (cdv : Value) : Env := envOfC "law" (scpOf sLaw) L f cdv
namespace Law
variable {G : Gl} {h₀ b h h' : Heap} {L : Addr} {m m' : Str → Option Value} {dv wv : Option Value}
theorem g (Z : Law G h₀ b L h m dv wv) : Glb G b := Z.g₀.ext Z.b0
theorem gh (Z : Law G h₀ b L h m dv wv) : Glb G h := Z.g.ext Z.x
theorem ext (Z : Law G h₀ b L h m dv wv) (e : Ext h h') : Law G h₀ b L h' m dv wv :=
  { Z with F := frx Z.F e, x := Z.x.trans e, cd := Z.cd.keeps e, cw := Z.cw.keeps e }
/-- all but W stand, W not in b, and the frame and the cells are known -/
theorem kp {W : List Addr} {dv' wv' : Option Value} (Z : Law G h₀ b L h m dv wv) (k : Kp W h h') (hW : ∀ a ∈ W, b.get? a = none) (F : Fr h₀ L h' m') (cd : h'.IsCell (L + 1) dv') (cw : h'.IsCell (L + 1 + 1) wv') : Law G h₀ b L h' m' dv' wv' :=
  { Z with F := F, x := fun a o e => k a o (fun q => by rw [hW a q] at e; cases e) (Z.x a o e), cd := cd, cw := cw }
theorem set {x : Str} {v : Value} (Z : Law G h₀ b L h m dv wv) (F : Fr h₀ L h' (fun y => if y = x then some v else m y)) (s : Heap.SameBut L h h') : Law G h₀ b L h' (fun y => if y = x then some v else m y) dv wv := by
  obtain ⟨o, ho, hd⟩ := Z.cd
  obtain ⟨o', ho', hd'⟩ := Z.cw
  refine Z.kp (kp_same s (List.mem_singleton.mpr rfl)) (fun a ha => by rw [List.mem_singleton.mp ha]; exact Z.bL) F ⟨o, (s.2 _ ?_).trans ho, hd⟩ ⟨o', (s.2 _ ?_).trans ho', hd'⟩
  · exact Nat.succ_ne_self L
  · exact Nat.ne_of_gt (Nat.lt_succ_of_lt (Nat.lt_succ_self L))
theorem chg {D : Addr} (Z : Law G h₀ b L h m dv wv) (s : Heap.SameBut D h h') (hD : b.get? D = none) (hDL : D ∉ LW L) : Law G h₀ b L h' m dv wv := by
  have h0 : h₀.get? D = none := by
    cases e : h₀.get? D with
    | none => rfl
    | some o => have := Z.b0 _ _ e; rw [hD] at this; cases this
  have n0 : D ≠ L := fun q => hDL (by rw [q]; simp)
  have n1 : L + 1 ≠ D := fun q => hDL (by rw [← q]; simp)
  have n2 : L + 1 + 1 ≠ D := fun q => hDL (by rw [← q]; simp)
  exact Z.kp (kp_same s (List.mem_singleton.mpr rfl)) (fun a ha => by rw [List.mem_singleton.mp ha]; exact hD) (Z.F.change s n0 h0) (let ⟨o, ho, hd⟩ := Z.cd; ⟨o, (s.2 _ n1).trans ho, hd⟩) (let ⟨o, ho, hd⟩ := Z.cw; ⟨o, (s.2 _ n2).trans ho, hd⟩)
theorem ne_cells (Z : Law G h₀ b L h m dv wv) {a : Addr} {o : Obj} (ho : h.get? a = some o) (h1 : ∀ v, o.data ≠ .cell v) (h2 : ∀ m, ¬ h.Ns a m) : a ∉ LW L := by
  intro q
  simp only [LW, List.mem_cons, List.not_mem_nil, or_false] at q
  rcases q with rfl | rfl | rfl
  · exact h2 _ Z.F.ns
  · obtain ⟨o', ho', hd⟩ := Z.cd; rw [ho'] at ho; cases ho; exact h1 _ hd
  · obtain ⟨o', ho', hd⟩ := Z.cw; rw [ho'] at ho; cases ho; exact h1 _ hd
theorem ne_list (Z : Law G h₀ b L h m dv wv) {a : Addr} {vs : Array Value} (hl : h.IsList a vs) : a ∉ LW L := by
  obtain ⟨o, ho, hc, n, hd⟩ := hl
  refine Z.ne_cells ho (fun v q => by rw [hd] at q; cases q) fun m ⟨o', _, _, ho', hd', _⟩ => ?_
  rw [ho'] at ho; cases ho; rw [hd] at hd'; cases hd'
theorem ne_tup (Z : Law G h₀ b L h m dv wv) {a : Addr} {vs : Array Value} (hl : IsTup h a vs) : a ∉ LW L := by
  obtain ⟨o, ho, hc, n, hd⟩ := hl
  refine Z.ne_cells ho (fun v q => by rw [hd] at q; cases q) fun m ⟨o', _, _, ho', hd', _⟩ => ?_
  rw [ho'] at ho; cases ho; rw [hd] at hd'; cases hd'
theorem none_of (Z : Law G h₀ b L h m dv wv) {a : Addr} (h : a ∈ LW L) : b.get? a = none := by
  simp only [LW, List.mem_cons, List.not_mem_nil, or_false] at h
  rcases h with rfl | rfl | rfl
  · exact Z.bL
  · exact Z.bd
  · exact Z.bw
/-- what stands now stands still from here on, but for W -/
theorem freeze (Z : Law G h₀ b L h m dv wv) (W : List Addr) (hW : ∀ a ∈ W, b.get? a = none) : Law G h₀ (hideAll h (LW L ++ W)) L h m dv wv ∧ Ext b (hideAll h (LW L ++ W)) := by
  have e : Ext b (hideAll h (LW L ++ W)) := fun a o q => hideAll_get _ (Z.x a o q) fun z => by
    rcases List.mem_append.mp z with z | z
    · rw [Z.none_of z] at q; cases q
    · rw [hW a z] at q; cases q
  exact ⟨{ Z with b0 := Z.b0.trans e, x := fun a o q => of_hideAll _ q, bL := hideAll_none _ (by simp), bd := hideAll_none _ (by simp), bw := hideAll_none _ (by simp) }, e⟩
theorem ground (Z : Law G h₀ b L h m dv wv) {A : Around} {env : Env} (hst : A.frames = some [env]) (hf : env.frame = some L) (hk : env.scope.kind ≠ .module) : Ground A (hideAll h [L]) [env] h ∧ Ext b (hideAll h [L]) := by
  refine ⟨⟨⟨hst, fun a o q => of_hideAll _ q, hk, ?_, trivial⟩, Nat.le_of_eq (hideAll_size _ _)⟩, fun a o q => hideAll_get _ (Z.x a o q) fun z => ?_⟩
  · obtain ⟨o, es, ep, ho, hd, _⟩ := Z.F.ns
    exact ⟨L, o, hf, hideAll_none _ (by simp), ho, fun vs q => by rw [hd] at q; cases q⟩
  · rw [List.mem_singleton.mp z, Z.bL] at q; cases q
/-- behind a call that raised and caught -/
theorem up (Z : Law G h₀ b L h m dv wv) (e : (hideAll h [L]).StaysIn h') (u : h.UpToSlots h') : Law G h₀ b L h' m dv wv ∧ Kp [L] h h' := by
  have k : Kp [L] h h' := fun a o na q => e _ _ (hideAll_get _ q na)
  obtain ⟨o, ho, hd⟩ := Z.cd
  obtain ⟨o', ho', hd'⟩ := Z.cw
  refine ⟨Z.kp k (fun a ha => by rw [List.mem_singleton.mp ha]; exact Z.bL) ⟨u.ns Z.F.ns, fun a o q => k a o (fun z => ?_) (Z.F.keep _ _ q), Z.F.above⟩ ⟨o, k _ _ (fun z => ?_) ho, hd⟩ ⟨o', k _ _ (fun z => ?_) ho', hd'⟩, k⟩
  · have := Z.b0 _ _ q; rw [List.mem_singleton.mp z, Z.bL] at this; cases this
  · exact Nat.succ_ne_self L (List.mem_singleton.mp z)
  · exact Nat.ne_of_gt (Nat.lt_succ_of_lt (Nat.lt_succ_self L)) (List.mem_singleton.mp z)
end Law
section
variable {M : Model} {A : Around} {E : Value → Shared → Prop} {s : Shared} {G : Gl} {h₀ b : Heap} {L f : Addr} {cdv : Value} {m : Str → Option Value} {dv wv : Option Value} {x : Str} {pos : Pos} {v : Value}
/-- law's local is bound -/
theorem stZ {Q : Unit → Shared → Prop} (Z : Law G h₀ b L s.heap m dv wv)
    (h : ∀ h', Law G h₀ b L h' (fun y => if y = x then some v else m y) dv wv → Heap.SameBut L s.heap h' → Q () { s with heap := h', toks := s.toks + 1 })
    (hx : (lawEnv L f cdv).kindOf x = some .local := by rfl) : wpAny M A (storeName (lawEnv L f cdv) x v) Q E s :=
  stL Z.F (fun h' F' s' => h h' (Z.set F' s') s') rfl hx rfl
theorem nmD {Q : Value → Shared → Prop} (Z : Law G h₀ b L s.heap m (some v) wv) (h : Q v s) : wpAny M A (eval (.Name "data" pos) (lawEnv L f cdv)) Q E s :=
  wpAny_Name (wpAny_loadName_cell rfl rfl rfl Z.cd h) (by decide)
theorem nmW {Q : Value → Shared → Prop} (Z : Law G h₀ b L s.heap m dv (some v)) (h : Q v s) : wpAny M A (eval (.Name "word" pos) (lawEnv L f cdv)) Q E s :=
  wpAny_Name (wpAny_loadName_cell rfl rfl rfl Z.cw h) (by decide)
theorem stD {Q : Unit → Shared → Prop} (Z : Law G h₀ b L s.heap m dv wv)
    (h : ∀ h', Law G h₀ b L h' m (some v) wv → Heap.SameBut (L + 1) s.heap h' → Q () { s with heap := h' }) : wpAny M A (storeName (lawEnv L f cdv) "data" v) Q E s := by
  refine wpAny_storeName_cell rfl rfl rfl Z.cd fun h' c s' => h h' ?_ s'
  obtain ⟨o', ho', hd'⟩ := Z.cw
  refine Z.kp (kp_same s' (List.mem_singleton.mpr rfl)) (fun a ha => by rw [List.mem_singleton.mp ha]; exact Z.bd) ⟨Z.F.ns.sameBut s' ?_, fun a o q => (s'.2 _ ?_).trans (Z.F.keep _ _ q), Z.F.above⟩ c ⟨o', (s'.2 _ (Nat.succ_ne_self _)).trans ho', hd'⟩
  · exact fun z => Nat.succ_ne_self L z.symm
  · intro z; have := Z.b0 _ _ q; rw [z, Z.bd] at this; cases this
theorem stW {Q : Unit → Shared → Prop} (Z : Law G h₀ b L s.heap m dv wv)
    (h : ∀ h', Law G h₀ b L h' m dv (some v) → Heap.SameBut (L + 1 + 1) s.heap h' → Q () { s with heap := h' }) : wpAny M A (storeName (lawEnv L f cdv) "word" v) Q E s := by
  refine wpAny_storeName_cell rfl rfl rfl Z.cw fun h' c s' => h h' ?_ s'
  obtain ⟨o', ho', hd'⟩ := Z.cd
  refine Z.kp (kp_same s' (List.mem_singleton.mpr rfl)) (fun a ha => by rw [List.mem_singleton.mp ha]; exact Z.bw) ⟨Z.F.ns.sameBut s' ?_, fun a o q => (s'.2 _ ?_).trans (Z.F.keep _ _ q), Z.F.above⟩ ⟨o', (s'.2 _ ?_).trans ho', hd'⟩ c
  · exact Nat.ne_of_lt (Nat.lt_succ_of_lt (Nat.lt_succ_self L))
  · intro z; have := Z.b0 _ _ q; rw [z, Z.bw] at this; cases this
  · exact fun z => Nat.succ_ne_self _ z.symm
end
end
section
/-! law: pairs -/
theorem coll_all {R : Nat → Value → Prop} {n : Nat} {ys : List Value} (x : Coll (fun _ => true) R n ys) : ys.length = n ∧ ∀ i, i < n → ∃ y, ys[i]? = some y ∧ R i y := by
  generalize hp : (fun _ : Nat => true) = p at x
  induction x with
  | nil => exact ⟨rfl, fun i h => absurd h (Nat.not_lt_zero _)⟩
  | skip _ e _ => subst hp; cases e
  | @take i ys y _ _ r ih =>
    obtain ⟨l, ih⟩ := ih
    refine ⟨by simp [l], fun j hj => ?_⟩
    by_cases q : j < i
    · obtain ⟨z, e, rz⟩ := ih j q
      exact ⟨z, by rw [List.getElem?_append_left (by omega)]; exact e, rz⟩
    · have : j = i := by omega
      subst this
      exact ⟨y, by rw [← l]; simp, r⟩
def PairAt (h : Heap) (y : Value) (n : Int) : Prop := ∃ a t1 t2, y = .ref a ∧ IsTup h a #[.str (T (wrd n)) t1, .int n t2]
def PairsL (h : Heap) (P : Addr) (ns : List Int) : Prop := ∃ ys : List Value, h.IsList P ys.toArray ∧ ys.length = ns.length ∧ ∀ (i : Nat) (n : Int), ns[i]? = some n → ∃ y, ys[i]? = some y ∧ PairAt h y n
theorem PairAt.ext {h h' : Heap} {y : Value} {n : Int} (x : PairAt h y n) (e : Ext h h') : PairAt h' y n := let ⟨a, t1, t2, r, p⟩ := x; ⟨a, t1, t2, r, e.tup p⟩
theorem PairsL.ext {h h' : Heap} {P : Addr} {ns : List Int} (x : PairsL h P ns) (e : Ext h h') : PairsL h' P ns :=
  let ⟨ys, a, b, c⟩ := x; ⟨ys, e.list a, b, fun i n q => let ⟨y, q1, q2⟩ := c i n q; ⟨y, q1, q2.ext e⟩⟩
def stm (i : Nat) : Stmt := sub sLaw i
section
variable {w : World} {A : Around} {E : Value → Shared → Prop} {s : Shared} {G : Gl} {h₀ b : Heap} {L f : Addr} {cdv : Value} {m : Str → Option Value} {dv wv : Option Value}
theorem blk0 (Z : Law G h₀ b L s.heap m dv wv) (hA : A.depth + 64 < recursionLimit) (hh : A.handled = none) {l : Addr} {vs : List Value} {ns : List Int} (hl : b.IsList l vs.toArray) (hi : IntsAre vs ns) (hm : m "script" = some (.ref l)) (hns : ns.length ≤ 1000)
    {Q : Flow → Shared → Prop} (hQ : ∀ P h' tk b', Law G h₀ b' L h' (fun z => if z = "pairs" then some (.ref P) else m z) dv wv → Ext b b' → PairsL b' P (ns.take 10) → Q .next { s with heap := h', toks := tk }) :
    wpAny (model PRG w) A (exec (stm 0) (lawEnv L f cdv)) Q E s := by
  have hlen : vs.length = ns.length := hi.length
  refine comp_assign (cl := []) (fun _ => true) (fun i y h => ∃ n : Int, (ns.take 10)[i]? = some n ∧ PairAt h y n) ?_ rfl hh rfl (by decide) rfl (by decide) rfl rfl ?_
  · rintro i y h h' ⟨n, e, a, t1, t2, r, p⟩ x
    exact ⟨n, e, a, t1, t2, r, x.tup p⟩
  refine wpAny_Subscript_list_slice ?_
  refine nmL Z.F hm ?_
  refine evalPart_none_step ?_
  refine evalPart_some_step ?_
  repeat walk_at "m"
  refine ⟨l, vs.toArray, none, some 10, rfl, Ext.list Z.x hl, by rw [List.size_toArray, sizeLine_eq]; omega, .none, .int _ _, ?_⟩
  have hpk : slicePick vs.toArray none (some 10) none = (vs.take 10).toArray := slicePick_upto' vs.toArray 10
  rw [hpk]
  have x1 : Ext s.heap ((s.heap.push { cls := .type "slice", data := .fields #[.none, .int 10 s.toks, .none] }).push { cls := .type "list", data := .seq (vs.take 10).toArray }) := (Ext.push _ _).trans (Ext.push _ _)
  have hl1 : Heap.IsList ((s.heap.push { cls := .type "slice", data := .fields #[.none, .int 10 s.toks, .none] }).push { cls := .type "list", data := .seq (vs.take 10).toArray }) (s.heap.objs.size + 1) (vs.take 10).toArray := ⟨_, by heap_get, rfl, _, rfl⟩
  generalize ((s.heap.push { cls := .type "slice", data := .fields #[.none, .int 10 s.toks, .none] }).push { cls := .type "list", data := .seq (vs.take 10).toArray }) = h₁ at x1 hl1
  have Z1 := Z.ext x1
  have hlt : (vs.take 10).toArray.size = (ns.take 10).length := by simp [hlen]
  refine ⟨_, _, m, rfl, hl1, by rw [hlt, sizeLine_eq]; simp; omega, Z1.F.ns, ?_, ?_⟩
  · intro C i v m₂ h₂ tk₂ E' hi' hv F₂
    have hin : i < (ns.take 10).length := by rw [← hlt]; exact hi'
    have hn : (ns.take 10)[i]? = some (ns.take 10)[i] := List.getElem?_eq_getElem hin
    generalize (ns.take 10)[i] = n at hn
    obtain ⟨t, ht⟩ : ∃ t, v = .int n t := by
      rw [List.length_take] at hin
      rw [List.getElem?_take_of_lt (by omega)] at hn
      obtain ⟨t, e⟩ := hi.get i n hn
      refine ⟨t, ?_⟩
      have hv' : (vs.take 10)[i]? = some v := by simpa using hv
      rw [List.getElem?_take_of_lt (by omega), e] at hv'
      exact (Option.some.inj hv').symm
    subst ht
    refine wpAny_assign_Name (stL F₂ fun h₃ F₃ s₃ => ?_)
    refine TestW.nil ?_
    refine ⟨rfl, ?_⟩
    refine PySem.W.ite_pos rfl ?_
    repeat walk_at "m"
    refine Call_ ?_
    refine nmG (Z1.gh) F₃ Z1.gh.mWord ?_
    refine callW (h₀ := h₃) (Z1.gh.fWord.ext F₃.keep) ?_
    repeat walk_at "m"
    refine nmL F₃ rfl ?_
    repeat walk_at "m"
    refine ⟨Ext.refl _, ?_⟩
    refine word_spec ?_ ?_ n t _ _ ?_
    · exact Z1.gh.ext F₃.keep
    · omega
    rintro u h₄ tk₄ x₄ ⟨t', rfl⟩
    have F₄ := frx F₃ x₄
    repeat walk_at "m"
    refine nmL F₄ rfl ?_
    repeat walk_at "m"
    refine newTuple_x fun h₅ x₅ ht₅ _ => ?_
    exact ⟨h₅, _, _, rfl, frx F₄ x₅, ((kp_same s₃ (by simp)).ext x₄).ext x₅, n, hn, _, _, _, rfl, ht₅⟩
  · intro D h₂ tk₂ ys k₂ hD ns₂ hlD hc
    have hcl := coll_all hc
    rw [hlt] at hcl
    have hDL : D ≠ L := fun q => by obtain ⟨o, _, _, ho, _⟩ := Z1.F.ns; rw [← q, hD] at ho; cases ho
    have FD : Fr h₀ L h₂ (fun z => if z = "pairs" then some (.ref D) else m z) := ⟨ns₂, fun a o q => k₂ a o (fun z => by have := Z.b0 _ _ q; rw [List.mem_singleton.mp z] at this; exact absurd (this.symm.trans Z.bL) (by simp)) (Z1.F.keep _ _ q), Z1.F.above⟩
    have Z2 := Z1.kp k₂ (fun a ha => by rw [List.mem_singleton.mp ha]; exact Z.bL) FD (let ⟨o, ho, hd⟩ := Z1.cd; ⟨o, k₂ _ _ (fun z => Nat.succ_ne_self L (List.mem_singleton.mp z)) ho, hd⟩)
      (let ⟨o, ho, hd⟩ := Z1.cw; ⟨o, k₂ _ _ (fun z => Nat.ne_of_gt (Nat.lt_succ_of_lt (Nat.lt_succ_self L)) (List.mem_singleton.mp z)) ho, hd⟩)
    obtain ⟨Z3, e3⟩ := Z2.freeze [] (by simp)
    refine hQ D _ _ _ Z3 e3 ⟨ys, ?_, hcl.1, fun i n e => ?_⟩
    · obtain ⟨o, ho, r⟩ := hlD
      exact ⟨o, hideAll_get _ ho (by rw [List.append_nil]; exact Z2.ne_list ⟨o, ho, r⟩), r⟩
    · obtain ⟨y, ey, n', en, a, t1, t2, ry, pa⟩ := hcl.2 i (List.getElem?_eq_some_iff.mp e).1
      rw [e] at en; cases en
      refine ⟨y, ey, a, t1, t2, ry, ?_⟩
      obtain ⟨o, ho, r⟩ := pa
      exact ⟨o, hideAll_get _ ho (by rw [List.append_nil]; exact Z2.ne_tup ⟨o, ho, r⟩), r⟩
end
end
section
/-! law: data, trie, keys -/
def putStep (ps : List (List Nat × Int)) (n : Int) : List (List Nat × Int) := if (n.fdiv 121).fmod 3 < 2 then putP ps (wrd n) n else ps
def dataL (ns : List Int) : List (List Nat × Int) := ns.foldl putStep []
theorem wrd_len (n : Int) : (wrd n).length ≤ 4 := by
  unfold wrd
  have := Int.fmod_nonneg_of_pos n (show (0:Int) < 121 by decide)
  have := Int.fmod_lt_of_pos n (show (0:Int) < 121 by decide)
  exact wordL_len4 (by omega)
theorem putP_len (ps : List (List Nat × Int)) (k : List Nat) (n : Int) : (putP ps k n).length ≤ ps.length + 1 := by
  unfold putP; split <;> simp
theorem putP_mem {ps : List (List Nat × Int)} {k : List Nat} {n : Int} {p : List Nat × Int} (h : p ∈ putP ps k n) : p.1 = k ∨ ∃ q ∈ ps, p.1 = q.1 := by
  unfold putP at h
  split at h
  · obtain ⟨q, hq, rfl⟩ := List.mem_map.mp h
    right; refine ⟨q, hq, ?_⟩; split <;> rfl
  · rcases List.mem_append.mp h with h | h
    · exact .inr ⟨p, h, rfl⟩
    · rw [List.mem_singleton.mp h]; exact .inl rfl
theorem dataL_len' : ∀ (ns : List Int) (ps : List (List Nat × Int)), (ns.foldl putStep ps).length ≤ ps.length + ns.length
  | [], ps => Nat.le_refl _
  | n :: r, ps => by
    have := dataL_len' r (putStep ps n)
    have : (putStep ps n).length ≤ ps.length + 1 := by unfold putStep; split; exact putP_len _ _ _; omega
    rw [List.foldl_cons, List.length_cons]; omega
theorem dataL_len (ns : List Int) : (dataL ns).length ≤ ns.length := by have := dataL_len' ns []; simpa [dataL] using this
theorem dataL_mem' : ∀ (ns : List Int) (ps : List (List Nat × Int)) (p : List Nat × Int), p ∈ ns.foldl putStep ps → (∃ n, p.1 = wrd n) ∨ ∃ q ∈ ps, p.1 = q.1
  | [], ps, p, h => .inr ⟨p, h, rfl⟩
  | n :: r, ps, p, h => by
    rcases dataL_mem' r (putStep ps n) p h with q | ⟨q, hq, e⟩
    · exact .inl q
    · unfold putStep at hq
      split at hq
      · rcases putP_mem hq with z | ⟨z, hz, e'⟩
        · exact .inl ⟨n, e.trans z⟩
        · exact .inr ⟨z, hz, e.trans e'⟩
      · exact .inr ⟨q, hq, e⟩
theorem dataL_wrd {ns : List Int} {p : List Nat × Int} (h : p ∈ dataL ns) : ∃ n, p.1 = wrd n := by
  rcases dataL_mem' ns [] p h with q | ⟨q, hq, _⟩
  · exact q
  · cases hq
section
variable {w : World} {A : Around} {E : Value → Shared → Prop} {s : Shared} {G : Gl} {h₀ b : Heap} {L f : Addr} {cdv : Value} {m : Str → Option Value} {dv wv : Option Value} {D : Addr}
theorem live (Z : Law G h₀ b L s.heap m dv wv) {a : Addr} (h : a ∈ LW L) : ∃ o, s.heap.get? a = some o := by
  simp only [LW, List.mem_cons, List.not_mem_nil, or_false] at h
  rcases h with rfl | rfl | rfl
  · obtain ⟨o, _, _, ho, _⟩ := Z.F.ns; exact ⟨o, ho⟩
  · obtain ⟨o, ho, _⟩ := Z.cd; exact ⟨o, ho⟩
  · obtain ⟨o, ho, _⟩ := Z.cw; exact ⟨o, ho⟩
theorem not_LW (Z : Law G h₀ b L s.heap m dv wv) {a : Addr} (h : s.heap.get? a = none) : a ∉ LW L := fun q => by
  obtain ⟨o, ho⟩ := live Z q; rw [h] at ho; cases ho
theorem blk1 (Z : Law G h₀ b L s.heap m dv wv)
    {Q : Flow → Shared → Prop} (hQ : ∀ D h' tk, Law G h₀ b L h' m (some (.ref D)) wv → b.get? D = none → D ∉ LW L → DicI w h' D [] → Q .next { s with heap := h', toks := tk }) :
    wpAny (model PRG w) A (exec (stm 1) (lawEnv L f cdv)) Q E s := by
  refine wpAny_Assign_Name ?_ rfl
  refine wpAny_Dict_empty ?_
  have Z1 := Z.ext (Ext.push s.heap { cls := .type "dict", data := .dict #[] })
  have hD : DicI w (s.heap.push { cls := .type "dict", data := .dict #[] }) s.heap.objs.size [] := by
    refine ⟨?_, [], Heap.DictOf.new _, .nil⟩
    obtain ⟨o, _, _, ho, _⟩ := Z.gh.g
    have := Heap.lt_size ho
    rw [beq_eq_false_iff_ne]
    intro q
    rw [q] at this
    exact absurd this (by decide)
  have hne : b.get? s.heap.objs.size = none := by
    cases e : b.get? s.heap.objs.size with
    | none => rfl
    | some o => exact absurd (Heap.lt_size (Z.x _ _ e)) (Nat.lt_irrefl _)
  refine stD Z1 fun h' Z2 s2 => ?_
  refine hQ _ _ _ Z2 hne (not_LW Z (Heap.get?_none_of_le (Nat.le_refl _))) (hD.at fun o ho => (s2.2 _ ?_).trans ho)
  intro q
  obtain ⟨o, ho, _⟩ := Z.cd
  have := Heap.lt_size ho
  rw [q] at this
  exact Nat.lt_irrefl _ this

theorem blk2 (Z : Law G h₀ b L s.heap m dv wv) (hh : A.handled = none) {P : Addr} {ns : List Int} (hdv : dv = some (.ref D)) (hD : b.get? D = none) (hDL : D ∉ LW L) (hd : DicI w s.heap D []) (hP : PairsL b P ns) (hm : m "pairs" = some (.ref P)) (hns : ns.length ≤ 10)
    {Q : Flow → Shared → Prop} (hQ : ∀ h' tk m' wv', Law G h₀ b L h' m' (some (.ref D)) wv' → (∀ z : Str, z ≠ "n" → m' z = m z) → DicI w h' D (dataL ns) → Q .next { s with heap := h', toks := tk }) :
    wpAny (model PRG w) A (exec (stm 2) (lawEnv L f cdv)) Q E s := by
  subst hdv
  refine wpAny_For ?_
  refine nmL Z.F hm ?_
  obtain ⟨ys, hl, hlen, hy⟩ := hP
  have hPb := hl
  have hW : ∀ a ∈ [L + 1 + 1, D], b.get? a = none := fun a ha => by
    rcases List.mem_cons.mp ha with rfl | ha
    · exact Z.bw
    · rw [List.mem_singleton.mp ha]; exact hD
  have hLW : ∀ a ∈ L :: [L + 1 + 1, D], b.get? a = none := fun a ha => by
    rcases List.mem_cons.mp ha with rfl | ha
    · exact Z.bL
    · exact hW a ha
  have cdk : ∀ {h' : Heap}, Kp (L :: [L + 1 + 1, D]) s.heap h' → h'.IsCell (L + 1) (some (.ref D)) := fun {h'} K => by
    obtain ⟨o, ho, hd⟩ := Z.cd
    refine ⟨o, K _ _ ?_ ho, hd⟩
    intro q
    rcases List.mem_cons.mp q with q | q
    · exact Nat.succ_ne_self L q
    · rcases List.mem_cons.mp q with q | q
      · exact Nat.succ_ne_self _ q.symm
      · exact hDL (by rw [← List.mem_singleton.mp q]; simp)
  have nL : L ≠ D := fun q => hDL (by rw [← q]; simp)
  have n2 : L + 1 + 1 ≠ D := fun q => hDL (by rw [← q]; simp)
  have hPn : ∀ a, b.get? a = none → P ≠ a := fun a e q => by obtain ⟨o, ho, _⟩ := hPb; rw [q, e] at ho; cases ho
  refine for_list (b₀ := h₀) (L := L) (items := ys.toArray) [L + 1 + 1, D] hh Z.F (Ext.list Z.x hl) (hPn L Z.bL) (fun q => hPn P (hW P q) rfl) ?_
    (fun i m' h => (∀ z : Str, z ≠ "n" → m' z = m z) ∧ (∃ wv, h.IsCell (L + 1 + 1) wv) ∧ DicI w h D (dataL (ns.take i))) ?_ ⟨fun _ _ => rfl, ⟨_, Z.cw⟩, hd⟩ ?_ ?_
  · intro a ha
    rcases List.mem_cons.mp ha with rfl | ha
    · obtain ⟨o, ho, _⟩ := Z.cw; exact Heap.lt_size ho
    · rw [List.mem_singleton.mp ha]; obtain ⟨o, ho⟩ := hd.lt; exact Heap.lt_size ho
  · rintro i m' h h' ⟨i1, ⟨v, o, ho, hv⟩, i3⟩ k
    exact ⟨i1, ⟨v, o, k _ (.head _) _ ho, hv⟩, i3.at fun o ho => k _ (.tail _ (.head _)) _ ho⟩
  · rintro i v m₁ h₁ tk₁ E' hv ⟨i1, ⟨wv₁, c1⟩, i3⟩ F₁ K₁
    have Z1 : Law G h₀ b L h₁ m₁ (some (.ref D)) wv₁ := Z.kp K₁ hLW F₁ (cdk K₁) c1
    have hin : i < ns.length := by
      have := (Array.getElem?_eq_some_iff.mp hv).1
      simpa [hlen] using this
    have hn : ns[i]? = some ns[i] := List.getElem?_eq_getElem hin
    generalize ns[i] = n at hn
    obtain ⟨y, ey, a, t1, t2, rfl, pt⟩ := hy i n hn
    obtain rfl : v = .ref a := by
      have : ys[i]? = some v := by simpa using hv
      rw [ey] at this; exact (Option.some.inj this).symm
    refine asg2 hh (Z1.x.tup pt) fun h₂ x₂ => ?_
    have Z2 := Z1.ext x₂
    refine wpAny_assign_Name (stW Z2 fun h₃ Z3 s3 => ?_)
    refine wpAny_assign_Name (stZ Z3 fun h₄ Z4 s4 => ?_)
    have k4 : Kp [L, L + 1 + 1, D] h₁ h₄ := (((x₂.kp _).same s3 (by simp)).same s4 (by simp))
    have d4 : DicI w h₄ D (dataL (ns.take i)) := i3.at fun o ho => (s4.2 _ nL.symm).trans ((s3.2 _ n2.symm).trans (x₂ _ _ ho))
    refine wpAny_execs_cons ?_
    repeat walk_at "m"
    refine nmL Z4.F rfl ?_
    repeat walk_at "m"
    refine floordiv_int (by decide) ?_
    repeat walk_at "m"
    refine mod_int' (by decide) ?_
    repeat walk_at "m"
    by_cases c : (n.fdiv 121).fmod 3 < 2
    · refine PySem.W.ite_pos (by simpa using c) ?_
      refine wpAny_execs_cons ?_
      refine wpAny_Assign_Subscript ?_
      refine nmL Z4.F rfl ?_
      refine nmD Z4 ?_
      refine nmW Z4 ?_
      refine dic_set d4 (by have := dataL_len (ns.take i); simp at this; omega) fun h₅ tk₅ d5 s5 => ?_
      repeat walk_at "m"
      have Z5 := Z4.chg s5 hD hDL
      refine ⟨h₅, _, _, rfl, Z5.F, k4.same s5 (by simp), fun z hz => ?_, ⟨_, Z5.cw⟩, ?_⟩
      · show (if z = Str.ofString "n" then _ else m₁ z) = m z
        rw [if_neg hz]; exact i1 z hz
      · unfold dataL
        rw [foldl_take_succ _ _ _ _ _ hn, putStep, if_pos c]
        exact d5
    · refine PySem.W.ite_neg (by simpa using c) ?_
      repeat walk_at "m"
      refine ⟨h₄, _, _, rfl, Z4.F, k4, fun z hz => ?_, ⟨_, Z4.cw⟩, ?_⟩
      · show (if z = Str.ofString "n" then _ else m₁ z) = m z
        rw [if_neg hz]; exact i1 z hz
      · unfold dataL
        rw [foldl_take_succ _ _ _ _ _ hn, putStep, if_neg c]
        exact d4
  · rintro h' tk m' ⟨i1, ⟨wv', c'⟩, i3⟩ F' K'
    have Z1 : Law G h₀ b L h' m' (some (.ref D)) wv' := Z.kp K' hLW F' (cdk K') c'
    refine hQ _ _ m' wv' Z1 i1 ?_
    have e : ns.take ys.toArray.size = ns := by rw [List.size_toArray, hlen, List.take_length]
    rw [e] at i3
    exact i3

theorem blk3 (Z : Law G h₀ b L s.heap m (some (.ref D)) wv) (hA : A.depth + 64 < recursionLimit) (hh : A.handled = none) {ns : List Int} (hDL : D ∉ LW L) (hd : DicI w s.heap D (dataL ns)) (hns : ns.length ≤ 10)
    {Q : Flow → Shared → Prop} (hQ : ∀ x keys h' tk b', Law G h₀ b' L h' (fun z => if z = "trie" then some (.ref x) else m z) (some (.ref D)) wv → Ext b b' → TrieOk w G b' x (dataL ns) keys → keys.Perm ((dataL ns).map (·.1)) → DicI w b' D (dataL ns) → Q .next { s with heap := h', toks := tk }) :
    wpAny (model PRG w) A (exec (stm 3) (lawEnv L f cdv)) Q E s := by
  refine wpAny_Assign_Name ?_ rfl
  refine Call_ ?_
  refine nmG Z.g₀ Z.F Z.g₀.mTrie ?_
  refine callWith_K Z.gh.X Z.gh.cls.keepT ?_
  refine args_cons ?_ rfl
  refine nmD Z ?_
  refine args_nil ?_
  refine ⟨Z.gh.X, ?_⟩
  refine trie_new Z.gh (by omega) hh hd (by have := dataL_len ns; omega) (fun p hp => by obtain ⟨n, e⟩ := dataL_wrd hp; rw [e]; exact wrd_len n) _ _ ?_
  rintro v h₁ tk₁ x₁ ⟨x, keys, rfl, hp, ht⟩
  have Z1 := Z.ext x₁
  refine stZ Z1 fun h₂ Z2 s2 => ?_
  obtain ⟨Z3, e3⟩ := Z2.freeze [] (by simp)
  rw [List.append_nil] at Z3 e3
  have hD3 : DicI w (hideAll h₂ (LW L)) D (dataL ns) := hd.at fun o ho => hideAll_get _ ((s2.2 _ (fun q => hDL (by rw [q]; simp))).trans (x₁ _ _ ho)) hDL
  refine hQ x keys _ _ _ Z3 e3 (ht _ (fun a o ho hn => ?_) hD3) hp hD3
  have hal := not_LW Z hn
  exact hideAll_get _ ((s2.2 _ (fun q => hal (by rw [q]; simp))).trans ho) hal
theorem blk4 (Z : Law G h₀ b L s.heap m (some (.ref D)) wv) (hh : A.handled = none) {ps : List (List Nat × Int)} {keys : List (List Nat)} (hd : DicI w b D ps) (hn : ps.length ≤ 10) (hk : keys.Perm (ps.map (·.1))) (hs : keys.Pairwise (· < ·))
    {Q : Flow → Shared → Prop} (hQ : ∀ KL kv h' tk b', Law G h₀ b' L h' (fun z => if z = "keys" then some (.ref KL) else m z) (some (.ref D)) wv → Ext b b' → b'.IsList KL kv → StrsL kv keys → Q .next { s with heap := h', toks := tk }) :
    wpAny (model PRG w) A (exec (stm 4) (lawEnv L f cdv)) Q E s := by
  refine wpAny_Assign_Name ?_ rfl
  refine call_b1 Z.g₀ Z.F Z.g₀.nSorted boot_sorted (by decide) ?_
  refine nmD Z ?_
  refine dic_sorted hh (hd.ext Z.x) (by omega) fun KL h₁ tk₁ out ks x₁ hn hl hS hperm hsrt => ?_
  have e : ks = keys := strict_eq (srt_strict hsrt (hperm.symm.nodup hd.nodup)) hs fun x => (hperm.mem_iff).trans hk.mem_iff.symm
  subst e
  have Z1 := Z.ext x₁
  refine stZ Z1 fun h₂ Z2 s2 => ?_
  obtain ⟨Z3, e3⟩ := Z2.freeze [] (by simp)
  rw [List.append_nil] at Z3 e3
  have hal := not_LW Z hn
  refine hQ KL out _ _ _ Z3 e3 ?_ hS
  obtain ⟨o, ho, r⟩ := hl
  exact ⟨o, hideAll_get _ ((s2.2 _ (fun q => hal (by rw [q]; simp))).trans ho) hal, r⟩
end
end
section
/-! plain lists that change -/
def LstX (h : Heap) (a : Addr) (items : Array Value) : Prop := ∃ n, h.get? a = some { cls := .type "list", dict := none, data := .seq items n, slots := #[] }
theorem LstX.list {h : Heap} {a : Addr} {items : Array Value} (x : LstX h a items) : h.IsList a items := let ⟨n, h⟩ := x; ⟨_, h, rfl, n, rfl⟩
theorem LstX.at {h h' : Heap} {a : Addr} {items : Array Value} (x : LstX h a items) (k : ∀ o, h.get? a = some o → h'.get? a = some o) : LstX h' a items := let ⟨n, h⟩ := x; ⟨n, k _ h⟩
section
variable {prog : Program} {w : World} {A : Around} {E : Value → Shared → Prop} {s : Shared} {env : Env}
theorem newList_X {vs : List Value} {Q : Value → Shared → Prop}
    (h : ∀ h', Ext s.heap h' → LstX h' s.heap.objs.size vs.toArray → s.heap.get? s.heap.objs.size = none → Q (.ref s.heap.objs.size) { s with heap := h' }) (hsz : vs.length ≤ sizeLine := by size_fits) :
    wpAny (model prog w) A (newList vs) Q E s :=
  wpAny_newObj_type (h _ (Ext.push _ _) ⟨_, Heap.get?_push_size _ rfl⟩ (Heap.get?_none_of_le (Nat.le_refl _))) (by show vs.toArray.size ≤ sizeLine; rw [List.size_toArray]; exact hsz)
theorem lx_append {l : Addr} {items : Array Value} {x : Value} {Q : Value → Shared → Prop} (hl : LstX s.heap l items)
    (hQ : ∀ h', LstX h' l (items.push x) → Heap.SameBut l s.heap h' → Q .none { s with heap := h' }) (hsz : items.size ≤ sizeLine) :
    wpAny (model prog w) A (call (.builtin "list.append") [.ref l, x]) Q E s := by
  have hL := hl.list
  obtain ⟨n, ho⟩ := hl
  refine wpAny_call_entry slot_list_append hL.typeIs entry_list_append ?_ (args_list_append _ _)
  show wpAny _ _ (updateSeq l (·.push x) >>= fun _ => ret .none) _ _ s
  refine wpAny_bind ?_
  refine wpAny_updateSeq ho rfl (wpAny_pure ⟨.none, rfl, hQ _ ?_ (Heap.SameBut.update ..)⟩)
  exact ⟨_, Heap.get?_update_self _ ho rfl⟩
theorem lx_pop {l : Addr} {items : Array Value} {y : Value} {Q : Value → Shared → Prop} (hl : LstX s.heap l items) (hy : items[items.size - 1]? = some y)
    (hQ : ∀ h', LstX h' l (items.eraseIdxIfInBounds (items.size - 1)) → Heap.SameBut l s.heap h' → Q y { s with heap := h' }) (hsz : items.size ≤ sizeLine) :
    wpAny (model prog w) A (call (.builtin "list.pop") [.ref l]) Q E s := by
  have hL := hl.list
  obtain ⟨n, ho⟩ := hl
  refine call_meets PySem.F.slot_list_pop hL.typeIs PySem.F.entry_list_pop (PySem.F.args_list_pop_1 _) (PySem.MeetsSeq.list_pop_last l items n y hy hsz) ⟨ho, hQ _ ⟨_, Heap.get?_update_self _ ho rfl⟩ (Heap.SameBut.update ..)⟩
theorem lx_meth {l : Addr} {items : Array Value} {name : Str} {id : String} {pl : Sem Bool} {Q : Value × List Value → Shared → Prop} (hl : LstX s.heap l items) (slot : Slot "list" name id) (hty : typeOf (.builtin id) = pure (.type "method_descriptor"))
    (h : Q (.builtin id, [.ref l]) s) : wpAny (model prog w) A (getMethod (.ref l) name pl) Q E s :=
  getMethod_builtin hl.list.typeIs PySem.F.plainAttrs_list slot hty (fun a e => by cases e; obtain ⟨n, ho⟩ := hl; exact ⟨_, ho, rfl⟩) h
/-- l.append(e), a statement -/
theorem exec_append {o e : Expr} {apos cpos pos : Pos} {pl : Sem Bool} {Q : Flow → Shared → Prop}
    (h : wpAny (model prog w) A (eval o env) (fun ov s₁ => ∃ l items₀, ov = .ref l ∧ LstX s₁.heap l items₀ ∧ wpAny (model prog w) A (eval e env) (fun v s₂ => ∃ items, LstX s₂.heap l items ∧ items.size ≤ sizeLine ∧
      ∀ h', LstX h' l (items.push v) → Heap.SameBut l s₂.heap h' → Q .next { s₂ with heap := h' }) E s₁) E s)
    (he : eval (.Call (.Attribute o "append" apos) [e] [] cpos) env = (do
      let ov ← eval o env
      standAt apos.atName
      let (f, first) ← holding [ov] (getMethod ov "append" pl)
      callWith cpos f first (backTo cpos (starEach [e] env)) []) := by rfl)
    (he' : starEach [e] env = (false, eval e env) :: starEach [] env := by rfl) (hi : interactive env = false := by rfl) (hs : swapsWith (.Call (.Attribute o "append" apos) [e] [] cpos) none pos.line env = pure false := by rfl) :
    wpAny (model prog w) A (exec (.Expr (.Call (.Attribute o "append" apos) [e] [] cpos) pos) env) Q E s := by
  refine wpAny_Expr_any ?_ hi hs
  refine MethodCall_ (wpAny_mono h (fun ov s₁ h₁ => ?_) fun _ _ x => x) he
  obtain ⟨l, items₀, rfl, hl, h₁⟩ := h₁
  refine lx_meth hl PySem.F.slot_list_append PySem.F.type_list_append ?_
  refine callWith_method1 (args_cons (wpAny_mono h₁ (fun v s₂ h₂ => args_nil ?_) fun _ _ x => x) he') he'
  obtain ⟨items, hl₂, hsz, hq⟩ := h₂
  exact lx_append hl₂ hq hsz
end
theorem StrsL.push {vs : Array Value} {ks : List (List Nat)} (x : StrsL vs ks) (k : List Nat) (t : Tok) : StrsL (vs.push (.str (T k) t)) (ks ++ [k]) := by
  refine ⟨by simp [x.1], fun i k' e => ?_⟩
  by_cases h : i < ks.length
  · rw [List.getElem?_append_left h] at e
    obtain ⟨t', e'⟩ := x.2 i k' e
    exact ⟨t', by rw [Array.getElem?_push_lt (by rw [x.1]; exact h)]; rw [Array.getElem?_eq_getElem (by rw [x.1]; exact h)] at e'; exact e'⟩
  · have hi : i = ks.length := by
      have := (List.getElem?_eq_some_iff.mp e).1
      simp at this; omega
    subst hi
    rw [List.getElem?_append_right (Nat.le_refl _), Nat.sub_self] at e
    cases e
    exact ⟨t, by rw [← x.1]; simp⟩
/-! begun -/
def addB (acc : List (List Nat)) (p : List Nat) : List (List Nat) := if p ∈ acc then acc else acc ++ [p]
def begKey (acc : List (List Nat)) (key : List Nat) (n : Nat) : List (List Nat) := (List.range n).foldl (fun acc j => addB acc (key.take j)) acc
def begunL (keys : List (List Nat)) : List (List Nat) := keys.foldl (fun acc key => begKey acc key (key.length + 1)) []
theorem begKey_succ (acc : List (List Nat)) (key : List Nat) (n : Nat) : begKey acc key (n + 1) = addB (begKey acc key n) (key.take n) := by
  unfold begKey; rw [List.range_succ, List.foldl_append]; rfl
theorem addB_len (acc : List (List Nat)) (p : List Nat) : (addB acc p).length ≤ acc.length + 1 := by unfold addB; split <;> simp
theorem addB_mem {acc : List (List Nat)} {p q : List Nat} : q ∈ addB acc p ↔ q ∈ acc ∨ q = p := by
  unfold addB
  split
  · rename_i h
    exact ⟨.inl, fun z => z.elim id fun e => e ▸ h⟩
  · simp
theorem addB_nodup {acc : List (List Nat)} {p : List Nat} (h : acc.Nodup) : (addB acc p).Nodup := by
  unfold addB
  split
  · exact h
  · rename_i hn
    exact List.nodup_append.mpr ⟨h, by simp, fun a ha b hb => by rw [List.mem_singleton.mp hb]; exact fun e => hn (e ▸ ha)⟩
theorem begKey_mem {acc : List (List Nat)} {key q : List Nat} (n : Nat) : q ∈ begKey acc key n ↔ q ∈ acc ∨ ∃ j, j < n ∧ q = key.take j := by
  induction n with
  | zero => simp [begKey]
  | succ n ih =>
    rw [begKey_succ, addB_mem, ih]
    constructor
    · rintro ((h | ⟨j, hj, e⟩) | e)
      · exact .inl h
      · exact .inr ⟨j, by omega, e⟩
      · exact .inr ⟨n, by omega, e⟩
    · rintro (h | ⟨j, hj, e⟩)
      · exact .inl (.inl h)
      · by_cases q : j = n
        · subst q; exact .inr e
        · exact .inl (.inr ⟨j, by omega, e⟩)
theorem begKey_nodup {acc : List (List Nat)} {key : List Nat} (h : acc.Nodup) (n : Nat) : (begKey acc key n).Nodup := by
  induction n with
  | zero => exact h
  | succ n ih => rw [begKey_succ]; exact addB_nodup ih
theorem begKey_len {acc : List (List Nat)} {key : List Nat} (n : Nat) : (begKey acc key n).length ≤ acc.length + n ∧ ([] ∈ acc → (begKey acc key n).length + 1 ≤ acc.length + n ∨ n = 0) := by
  induction n with
  | zero => simp [begKey]
  | succ n ih =>
    rw [begKey_succ]
    refine ⟨Nat.le_trans (addB_len _ _) (by omega), fun h => .inl ?_⟩
    rcases ih.2 h with q | q
    · have := addB_len (begKey acc key n) (key.take n); omega
    · subst q
      have : ([] : List Nat) ∈ begKey acc key 0 := h
      rw [List.take_zero, addB, if_pos this]
      simp [begKey]
theorem begunL_snoc (keys : List (List Nat)) (k : List Nat) : begunL (keys ++ [k]) = begKey (begunL keys) k (k.length + 1) := by unfold begunL; rw [List.foldl_append]; rfl
theorem begun_facts : ∀ (keys : List (List Nat)), (begunL keys).Nodup ∧ (∀ q, q ∈ begunL keys ↔ ∃ k ∈ keys, q <+: k) := by
  intro keys
  have main : ∀ (r : List (List Nat)) (acc : List (List Nat)), acc.Nodup → (r.foldl (fun acc key => begKey acc key (key.length + 1)) acc).Nodup ∧ (∀ q, q ∈ r.foldl (fun acc key => begKey acc key (key.length + 1)) acc ↔ q ∈ acc ∨ ∃ k ∈ r, q <+: k) := by
    intro r
    induction r with
    | nil => intro acc h; exact ⟨h, by simp⟩
    | cons k r ih =>
      intro acc h
      obtain ⟨a, b⟩ := ih (begKey acc k (k.length + 1)) (begKey_nodup h _)
      refine ⟨a, fun q => ?_⟩
      rw [List.foldl_cons, b, begKey_mem]
      have : (∃ j, j < k.length + 1 ∧ q = k.take j) ↔ q <+: k := by
        constructor
        · rintro ⟨j, _, e⟩; rw [e]; exact List.take_prefix _ _
        · intro z; exact ⟨q.length, by have := z.length_le; omega, List.prefix_iff_eq_take.mp z⟩
      rw [this]
      simp only [List.mem_cons, exists_eq_or_imp]
      constructor
      · rintro ((h | h) | h)
        · exact .inl h
        · exact .inr (.inl h)
        · exact .inr (.inr h)
      · rintro (h | h | h)
        · exact .inl (.inl h)
        · exact .inl (.inr h)
        · exact .inr h
  obtain ⟨a, b⟩ := main keys [] (by simp)
  exact ⟨a, fun q => by unfold begunL; rw [b]; simp⟩
theorem begun_len {keys : List (List Nat)} (h : ∀ k ∈ keys, k.length ≤ 4) : (begunL keys).length ≤ 1 + 4 * keys.length := by
  have main : ∀ (r : List (List Nat)) (acc : List (List Nat)), (∀ k ∈ r, k.length ≤ 4) → [] ∈ acc → (r.foldl (fun acc key => begKey acc key (key.length + 1)) acc).length ≤ acc.length + 4 * r.length := by
    intro r
    induction r with
    | nil => intro acc _ _; simp
    | cons k r ih =>
      intro acc hk h
      have h4 := hk k (.head _)
      have l := (begKey_len (acc := acc) (key := k) (k.length + 1)).2 h
      have := ih (begKey acc k (k.length + 1)) (fun x hx => hk x (.tail _ hx)) ((begKey_mem _).mpr (.inl h))
      rw [List.foldl_cons, List.length_cons]
      omega
  cases keys with
  | nil => simp [begunL]
  | cons k r =>
    have h4 := h k (.head _)
    have l := (begKey_len (acc := []) (key := k) (k.length + 1)).1
    have := main r (begKey [] k (k.length + 1)) (fun x hx => h x (.tail _ hx)) ((begKey_mem _).mpr (.inr ⟨0, by omega, by simp⟩))
    unfold begunL
    rw [List.foldl_cons, List.length_cons]
    simp at l
    omega
end
section
/-! law: begun -/
/-- names but these stand -/
abbrev Same (xs : List Str) (m m' : Str → Option Value) : Prop := ∀ z : Str, z ∉ xs → m' z = m z
theorem LstX.ne {G : Gl} {h₀ b h : Heap} {L : Addr} {m : Str → Option Value} {dv wv : Option Value} (Z : Law G h₀ b L h m dv wv) {a : Addr} {vs : Array Value} (hl : LstX h a vs) : a ∉ LW L := Z.ne_list hl.list
theorem notin_T (ks : List (List Nat)) (p : List Nat) : ((ks.map T).any (· == T p)) = decide (p ∈ ks) := by
  rw [Bool.eq_iff_iff, List.any_eq_true, decide_eq_true_eq]
  constructor
  · rintro ⟨x, hx, e⟩
    obtain ⟨k, hk, rfl⟩ := List.mem_map.mp hx
    rw [beq_iff_eq] at e
    rw [← T_inj e]; exact hk
  · intro h
    exact ⟨T p, List.mem_map_of_mem h, by simp⟩
section
variable {w : World} {A : Around} {E : Value → Shared → Prop} {s : Shared} {G : Gl} {h₀ b : Heap} {L f : Addr} {cdv : Value} {m : Str → Option Value} {dv wv : Option Value}
theorem blk5 (Z : Law G h₀ b L s.heap m dv wv)
    {Q : Flow → Shared → Prop} (hQ : ∀ B h' tk, Law G h₀ b L h' (fun z => if z = "begun" then some (.ref B) else m z) dv wv → b.get? B = none → LstX h' B #[] → Q .next { s with heap := h', toks := tk }) :
    wpAny (model PRG w) A (exec (stm 5) (lawEnv L f cdv)) Q E s := by
  refine wpAny_Assign_Name ?_ rfl
  repeat walk_at "m"
  refine newList_X fun h₁ x₁ hl hn => ?_
  have Z1 := Z.ext x₁
  refine stZ Z1 fun h₂ Z2 s2 => ?_
  exact hQ _ _ _ Z2 (ext_none Z.x hn) (hl.at fun o ho => (s2.2 _ (fun q => hl.ne Z1 (by rw [q]; simp))).trans ho)
theorem blk6 (Z : Law G h₀ b L s.heap m dv wv) (hh : A.handled = none) {B KL : Addr} {kv : Array Value} {keys : List (List Nat)} (hB : b.get? B = none) (hl : LstX s.heap B #[]) (hmB : m "begun" = some (.ref B)) (hmK : m "keys" = some (.ref KL)) (hK : b.IsList KL kv) (hS : StrsL kv keys) (hk4 : ∀ k ∈ keys, k.length ≤ 4) (hkn : keys.length ≤ 10)
    {Q : Flow → Shared → Prop} (hQ : ∀ h' tk m' vs, Law G h₀ b L h' m' dv wv → Same ["key", "size"] m m' → LstX h' B vs → StrsL vs (begunL keys) → Q .next { s with heap := h', toks := tk }) :
    wpAny (model PRG w) A (exec (stm 6) (lawEnv L f cdv)) Q E s := by
  have hBL := hl.ne Z
  have hKb : ∀ a, b.get? a = none → KL ≠ a := fun a e q => by obtain ⟨o, ho, _⟩ := hK; rw [q, e] at ho; cases ho
  have hW : ∀ a ∈ L :: [B], b.get? a = none := fun a ha => by
    rcases List.mem_cons.mp ha with rfl | ha
    · exact Z.bL
    · rw [List.mem_singleton.mp ha]; exact hB
  have cells : ∀ {g h' : Heap} {m' m₀ : Str → Option Value}, Law G h₀ b L g m₀ dv wv → Fr h₀ L h' m' → Kp (L :: [B]) g h' → Law G h₀ b L h' m' dv wv := fun {g h' m' m₀} Z F K => by
    obtain ⟨o, ho, hd⟩ := Z.cd
    obtain ⟨o', ho', hd'⟩ := Z.cw
    refine Z.kp K hW F ⟨o, K _ _ (fun q => ?_) ho, hd⟩ ⟨o', K _ _ (fun q => ?_) ho', hd'⟩
    · rcases List.mem_cons.mp q with q | q
      · exact Nat.succ_ne_self L q
      · exact hBL (by rw [← List.mem_singleton.mp q]; simp)
    · rcases List.mem_cons.mp q with q | q
      · exact Nat.ne_of_gt (Nat.lt_succ_of_lt (Nat.lt_succ_self L)) q
      · exact hBL (by rw [← List.mem_singleton.mp q]; simp)
  have hBs : ∀ {g : Heap} {vs : Array Value}, LstX g B vs → B < g.objs.size := fun ⟨n, ho⟩ => Heap.lt_size ho
  have nBL : B ≠ L := fun q => hBL (by rw [q]; simp)
  refine wpAny_For ?_
  refine nmL Z.F hmK ?_
  refine for_list (b₀ := h₀) (L := L) (items := kv) [B] hh Z.F (Ext.list Z.x hK) (hKb L Z.bL) (fun q => hKb B hB (List.mem_singleton.mp q)) (fun a ha => by rw [List.mem_singleton.mp ha]; exact hBs hl)
    (fun i m' h => Same ["key", "size"] m m' ∧ ∃ vs, LstX h B vs ∧ StrsL vs (begunL (keys.take i))) ?_ ⟨fun _ _ => rfl, #[], hl, ⟨rfl, fun i k e => by simp [begunL] at e⟩⟩ ?_ ?_
  · rintro i m' h h' ⟨i1, vs, i2, i3⟩ k
    exact ⟨i1, vs, i2.at fun o ho => k _ (.head _) _ ho, i3⟩
  · rintro i v m₁ h₁ tk₁ E' hv ⟨i1, vs, i2, i3⟩ F₁ K₁
    obtain ⟨key, t, hkey, rfl⟩ := hS.item hv
    have hkm : key ∈ keys := List.mem_of_getElem? hkey
    have hkl := hk4 _ hkm
    have Z1 := cells Z F₁ K₁
    refine wpAny_assign_Name (stZ Z1 fun h₂ Z2 s2 => ?_)
    have l2 : LstX h₂ B vs := i2.at fun o ho => (s2.2 _ nBL).trans ho
    have k2 : Kp (L :: [B]) h₁ h₂ := kp_same s2 (by simp)
    refine wpAny_execs_cons ?_
    refine wpAny_For ?_
    refine call_t1 Z2.g₀ Z2.F Z2.g₀.nRange boot_range (by decide) ?_
    repeat walk_at "m"
    refine call_b1 Z2.g₀ Z2.F Z2.g₀.nLen boot_len (by decide) ?_
    refine nmL Z2.F rfl ?_
    refine len_T (by omega) fun t5 tk5 => ?_
    repeat walk_at "m"
    refine PySem.call_range_1 ?_
    refine for_range (b₀ := h₀) (L := L) (a := 0) (b := (key.length : Int) + 1) (n := key.length + 1) [B] hh (Z2.F.push _) (IsRange.new _ _ _ _ _ _ _) (rng_small (by omega)) (by rw [rangeSize_nat]; omega) (fun a ha => by rw [List.mem_singleton.mp ha]; exact Nat.lt_of_lt_of_le (hBs l2) (by rw [Heap.size_push]; exact Nat.le_succ _))
      (fun j m' h => Same ["size"] (fun y => if y = "key" then some (.str (T key) t) else m₁ y) m' ∧ ∃ vs, LstX h B vs ∧ StrsL vs (begKey (begunL (keys.take i)) key j)) ?_ ⟨fun _ _ => rfl, vs, l2.at fun o ho => Heap.get?_push_of_some _ ho, i3⟩ ?_ ?_
    · rintro i m' h h' ⟨i1, vs, i2, i3⟩ k
      exact ⟨i1, vs, i2.at fun o ho => k _ (.head _) _ ho, i3⟩
    · rintro j tj m₃ h₃ tk₃ E'' hj ⟨j1, ws, j2, j3⟩ F₃ K₃
      have Z3 := cells (Z2.ext (Ext.push _ _)) F₃ K₃
      refine wpAny_assign_Name (stZ Z3 fun h₄ Z4 s4 => ?_)
      have l4 : LstX h₄ B ws := j2.at fun o ho => (s4.2 _ nBL).trans ho
      have k4 : Kp (L :: [B]) h₃ h₄ := kp_same s4 (by simp)
      have e1 : (0 : Int) + (j : Int) = ((j : Nat) : Int) := by omega
      have mkey : (fun y => if y = "size" then some (Value.int (0 + (j : Int)) tj) else m₃ y) "key" = some (.str (T key) t) := by
        show m₃ "key" = _
        rw [j1 "key" (by decide)]; rfl
      have mbeg : (fun y => if y = "size" then some (Value.int (0 + (j : Int)) tj) else m₃ y) "begun" = some (.ref B) := by
        show m₃ "begun" = _
        rw [j1 "begun" (by decide)]
        show m₁ "begun" = _
        rw [i1 "begun" (by decide)]; exact hmB
      refine wpAny_execs_cons ?_
      refine wpAny_If ?_
      refine wpAny_isTrue_Compare1 ?_
      refine sub_slice ?_
      refine nmL Z4.F mkey ?_
      refine evalPart_none_step ?_
      refine evalPart_some_step ?_
      refine nmL Z4.F rfl ?_
      refine ⟨key, t, none, some (_, _), rfl, rfl, rfl, by rw [sizeLine_eq]; omega, fun t6 tk6 h6 x6 => ?_⟩
      simp only [Option.map]
      rw [e1, cut_take]
      have Z6 := Z4.ext x6
      have l6 : LstX h6 B ws := l4.at fun o ho => x6 _ _ ho
      refine nmL Z6.F mbeg ?_
      refine notin_list_strs (vs := ws.toList) (by rw [Array.toArray_toList]; exact l6.list) (are_arr j3) ?_
      rw [notin_T]
      refine wpAny_truthy_bool ?_
      have hsz : ws.size ≤ 1000 := by
        rw [j3.1]
        have := (begKey_len (acc := begunL (keys.take i)) (key := key) j).1
        have := begun_len (keys := keys.take i) (fun k hk => hk4 k (List.mem_of_mem_take hk))
        have : (keys.take i).length ≤ 10 := by rw [List.length_take]; omega
        omega
      by_cases c : key.take j ∈ begKey (begunL (keys.take i)) key j
      · refine PySem.W.ite_neg (by simp [c]) ?_
        repeat walk_at "m"
        refine ⟨h6, _, _, rfl, Z6.F, k4.ext x6, fun z hz => ?_, ws, l6, ?_⟩
        · show (if z = Str.ofString "size" then _ else m₃ z) = _
          rw [if_neg (fun q => hz (by rw [q]; simp))]
          exact j1 z hz
        · rw [begKey_succ, addB, if_pos c]; exact j3
      · refine PySem.W.ite_pos (by simp [c]) ?_
        refine wpAny_execs_cons ?_
        refine exec_append ?_
        refine nmL Z6.F mbeg ?_
        refine ⟨B, ws, rfl, l6, ?_⟩
        refine sub_slice ?_
        refine nmL Z6.F mkey ?_
        refine evalPart_none_step ?_
        refine evalPart_some_step ?_
        refine nmL Z6.F rfl ?_
        refine ⟨key, t, none, some (_, _), rfl, rfl, rfl, by rw [sizeLine_eq]; omega, fun t7 tk7 h7 x7 => ?_⟩
        simp only [Option.map]
        rw [e1, cut_take]
        have Z7 := Z6.ext x7
        have l7 : LstX h7 B ws := l6.at fun o ho => x7 _ _ ho
        refine ⟨ws, l7, by rw [sizeLine_eq]; omega, fun h8 l8 s8 => ?_⟩
        have Z8 := Z7.chg s8 hB hBL
        repeat walk_at "m"
        refine ⟨h8, _, _, rfl, Z8.F, ((k4.ext x6).ext x7).same s8 (by simp), fun z hz => ?_, _, l8, ?_⟩
        · show (if z = Str.ofString "size" then _ else m₃ z) = _
          rw [if_neg (fun q => hz (by rw [q]; simp))]
          exact j1 z hz
        · rw [begKey_succ, addB, if_neg c]; exact j3.push _ _
    · rintro h₃ tk₃ m₃ ⟨j1, ws, j2, j3⟩ F₃ K₃
      repeat walk_at "m"
      refine ⟨h₃, _, _, rfl, F₃, k2.trans (fun a o na e => K₃ a o na (Heap.get?_push_of_some _ e)), fun z hz => ?_, ws, j2, ?_⟩
      · rw [j1 z (fun q => hz (by simp at q; simp [q]))]
        show (if z = Str.ofString "key" then _ else m₁ z) = _
        rw [if_neg (fun q => hz (by rw [q]; simp))]
        exact i1 z hz
      · rw [List.take_add_one, hkey]
        exact begunL_snoc _ _ ▸ j3
  · rintro h' tk m' ⟨i1, vs, i2, i3⟩ F' K'
    rw [hS.1, List.take_length] at i3
    exact hQ _ _ m' vs (cells Z F' K') i1 i2 i3
end
end
section
/-! the walk over all beginnings, as a law -/
def subN (keys : List (List Nat)) : Nat → List Nat → List (List Nat)
  | 0, _ => []
  | n + 1, p => if begP keys p = true then p :: (subN keys n (p ++ [59]) ++ (subN keys n (p ++ [84]) ++ subN keys n (p ++ [110]))) else []
def subS (keys : List (List Nat)) (p : List Nat) : List (List Nat) := subN keys (6 - p.length) p
theorem subS_eq {keys : List (List Nat)} {p : List Nat} (h : p.length ≤ 5) : subS keys p = if begP keys p = true then p :: (subS keys (p ++ [59]) ++ (subS keys (p ++ [84]) ++ subS keys (p ++ [110]))) else [] := by
  unfold subS
  rw [show 6 - p.length = (5 - p.length) + 1 by omega, subN]
  simp only [List.length_append, List.length_cons, List.length_nil]
  rw [show 6 - (p.length + (0 + 1)) = 5 - p.length by omega]
/-- words over the three signs, of at most four -/
def Signs (keys : List (List Nat)) : Prop := ∀ k ∈ keys, k.length ≤ 4 ∧ ∀ c ∈ k, c = 59 ∨ c = 84 ∨ c = 110
theorem begP_len {keys : List (List Nat)} (h : Signs keys) {p : List Nat} (b : begP keys p = true) : p.length ≤ 4 := by
  obtain ⟨k, hk, e⟩ := begP_iff.mp b
  have := e.length_le
  have := (h k hk).1
  omega
theorem begP_pre {keys : List (List Nat)} {p q : List Nat} (b : begP keys q = true) (e : p <+: q) : begP keys p = true := by
  obtain ⟨k, hk, z⟩ := begP_iff.mp b
  exact begP_iff.mpr ⟨k, hk, e.trans z⟩
theorem mem_subN {keys : List (List Nat)} (h : Signs keys) : ∀ (n : Nat) (p q : List Nat), p.length + n = 6 → (q ∈ subN keys n p ↔ p <+: q ∧ begP keys q = true)
  | 0, p, q, hn => by
    refine ⟨fun z => by simp [subN] at z, fun ⟨a, b⟩ => ?_⟩
    have := begP_len h b
    have := a.length_le
    omega
  | n + 1, p, q, hn => by
    have ih := fun c => mem_subN h n (p ++ [c]) q (by simp; omega)
    rw [subN]
    by_cases c : begP keys p = true
    · rw [if_pos c, List.mem_cons, List.mem_append, List.mem_append, ih, ih, ih]
      constructor
      · rintro (rfl | ⟨a, b⟩ | ⟨a, b⟩ | ⟨a, b⟩)
        · exact ⟨List.prefix_refl _, c⟩
        all_goals exact ⟨(List.prefix_append p _).trans a, b⟩
      · intro hab
        obtain ⟨⟨r, rfl⟩, b⟩ := hab
        cases r with
        | nil => exact .inl (by simp)
        | cons x r =>
          have hx : x = 59 ∨ x = 84 ∨ x = 110 := by
            obtain ⟨k, hk, z, e⟩ := begP_iff.mp b
            refine (h k hk).2 x ?_
            rw [← e]; simp
          have hp : ∀ y, x = y → p ++ [y] <+: p ++ x :: r := fun y e => ⟨r, by rw [← e]; simp⟩
          rcases hx with e | e | e
          · exact .inr (.inl ⟨hp _ e, b⟩)
          · exact .inr (.inr (.inl ⟨hp _ e, b⟩))
          · exact .inr (.inr (.inr ⟨hp _ e, b⟩))
    · rw [if_neg c]
      refine ⟨fun z => (by cases z), fun ⟨a, b⟩ => absurd (begP_pre b a) c⟩
theorem pre_lt : ∀ (p : List Nat) (c : Nat) (x : List Nat), p ++ [c] <+: x → p < x
  | [], c, [], h => by simp at h
  | [], c, y :: x, _ => List.nil_lt_cons _ _
  | a :: p, c, [], h => by simp at h
  | a :: p, c, y :: x, h => by
    obtain ⟨rfl, h'⟩ := List.cons_prefix_cons.mp h
    exact List.cons_lt_cons_iff.mpr (.inr ⟨rfl, pre_lt p c x h'⟩)
theorem sib_lt : ∀ (p : List Nat) (c d : Nat) (x y : List Nat), c < d → p ++ [c] <+: x → p ++ [d] <+: y → x < y
  | [], c, d, [], _, _, h, _ => by simp at h
  | [], c, d, _ :: _, [], _, _, h => by simp at h
  | [], c, d, a :: x, b :: y, hc, h1, h2 => by
    obtain ⟨rfl, _⟩ := List.cons_prefix_cons.mp h1
    obtain ⟨rfl, _⟩ := List.cons_prefix_cons.mp h2
    exact List.cons_lt_cons_iff.mpr (.inl hc)
  | _ :: p, c, d, [], _, _, h, _ => by simp at h
  | _ :: p, c, d, _ :: _, [], _, _, h => by simp at h
  | e :: p, c, d, a :: x, b :: y, hc, h1, h2 => by
    obtain ⟨rfl, h1'⟩ := List.cons_prefix_cons.mp h1
    obtain ⟨rfl, h2'⟩ := List.cons_prefix_cons.mp h2
    exact List.cons_lt_cons_iff.mpr (.inr ⟨rfl, sib_lt p c d x y hc h1' h2'⟩)
theorem srt_subN {keys : List (List Nat)} (h : Signs keys) : ∀ (n : Nat) (p : List Nat), p.length + n = 6 → (subN keys n p).Pairwise (· < ·)
  | 0, p, hn => by simp [subN]
  | n + 1, p, hn => by
    rw [subN]
    split
    · have ih := fun c => srt_subN h n (p ++ [c]) (by simp; omega)
      have mm := fun c q => (mem_subN h n (p ++ [c]) q (by simp; omega)).mp
      refine List.pairwise_cons.mpr ⟨fun q hq => ?_, List.pairwise_append.mpr ⟨ih _, List.pairwise_append.mpr ⟨ih _, ih _, fun x hx y hy => ?_⟩, fun x hx y hy => ?_⟩⟩
      · simp only [List.mem_append] at hq
        rcases hq with hq | hq | hq
        · exact pre_lt p _ q (mm _ _ hq).1
        · exact pre_lt p _ q (mm _ _ hq).1
        · exact pre_lt p _ q (mm _ _ hq).1
      · exact sib_lt p 84 110 x y (by decide) (mm _ _ hx).1 (mm _ _ hy).1
      · rcases List.mem_append.mp hy with hy | hy
        · exact sib_lt p 59 84 x y (by decide) (mm _ _ hx).1 (mm _ _ hy).1
        · exact sib_lt p 59 110 x y (by decide) (mm _ _ hx).1 (mm _ _ hy).1
    · simp
theorem len_subN (keys : List (List Nat)) : ∀ (n : Nat) (p : List Nat), (subN keys n p).length ≤ 4 ^ n
  | 0, p => by simp [subN]
  | n + 1, p => by
    rw [subN]
    have ih := fun c => len_subN keys n (p ++ [c])
    have := ih 59; have := ih 84; have := ih 110
    have : 1 ≤ 4 ^ n := Nat.one_le_pow _ _ (by decide)
    rw [Nat.pow_succ]
    split
    · simp only [List.length_cons, List.length_append]; omega
    · simp
theorem mem_all {keys : List (List Nat)} (h : Signs keys) (q : List Nat) : q ∈ subS keys [] ↔ begP keys q = true := by
  have := mem_subN h 6 [] q rfl
  show q ∈ subN keys 6 [] ↔ _
  rw [this]
  simp
theorem srt_all {keys : List (List Nat)} (h : Signs keys) : (subS keys []).Pairwise (· < ·) := srt_subN h 6 [] rfl
/-- what is told is what begun holds, sorted -/
theorem all_sorted {keys out : List (List Nat)} (h : Signs keys) (hp : out.Perm (begunL keys)) (hs : Srt out) : out = subS keys [] := by
  obtain ⟨nd, mm⟩ := begun_facts keys
  refine strict_eq (srt_strict hs (hp.symm.nodup nd)) (srt_all h) fun x => ?_
  rw [hp.mem_iff, mm, mem_all h, begP_iff]
theorem all_keys {keys : List (List Nat)} (h : Signs keys) (hs : keys.Pairwise (· < ·)) : (subS keys []).filter (fun q => decide (q ∈ keys)) = keys := by
  refine strict_eq ((srt_all h).filter _) hs fun x => ?_
  rw [List.mem_filter, mem_all h, decide_eq_true_eq]
  exact ⟨fun z => z.2, fun z => ⟨begP_iff.mpr ⟨x, z, List.prefix_refl x⟩, z⟩⟩
/-- how much waits -/
def mu (wt : List (List Nat)) : Nat := (wt.map fun p => 4 ^ (6 - p.length)).sum
theorem mu_snoc (wt : List (List Nat)) (p : List Nat) : mu (wt ++ [p]) = mu wt + 4 ^ (6 - p.length) := by simp [mu]
theorem mu_kids {wt : List (List Nat)} {p : List Nat} (h : p.length ≤ 4) : mu (wt ++ [p ++ [110], p ++ [84], p ++ [59]]) < mu (wt ++ [p]) := by
  rw [mu_snoc]
  have : 4 ^ (6 - p.length) = 4 * 4 ^ (5 - p.length) := by rw [show 6 - p.length = (5 - p.length) + 1 by omega, Nat.pow_succ]; omega
  have : 1 ≤ 4 ^ (5 - p.length) := Nat.one_le_pow _ _ (by decide)
  simp only [mu, List.map_append, List.sum_append, List.map_cons, List.map_nil, List.sum_cons, List.sum_nil, List.length_append, List.length_cons, List.length_nil]
  rw [show 6 - (p.length + (0 + 1)) = 5 - p.length by omega]
  omega
theorem len_mu : ∀ (wt : List (List Nat)), wt.length ≤ mu wt
  | [] => by simp [mu]
  | p :: r => by
    have ih := len_mu r
    have : 1 ≤ 4 ^ (6 - p.length) := Nat.one_le_pow _ _ (by decide)
    simp only [mu, List.map_cons, List.sum_cons, List.length_cons] at ih ⊢
    omega
theorem sgn_mem (k : Nat) : sgn k = 59 ∨ sgn k = 84 ∨ sgn k = 110 := by unfold sgn; split; exact .inr (.inr rfl); split; exact .inl rfl; exact .inr (.inl rfl)
theorem wordL_signs : ∀ n, ∀ c ∈ wordL n, c = 59 ∨ c = 84 ∨ c = 110 := by
  intro n
  induction n using Nat.strongRecOn with
  | _ n ih =>
    intro c hc
    by_cases h : n = 0
    · subst h; rw [wordL_zero] at hc; cases hc
    · rw [wordL_pos h] at hc
      rcases List.mem_cons.mp hc with rfl | hc
      · exact sgn_mem _
      · exact ih ((n - 1) / 3) (by omega) c hc
theorem signs_of {ns : List Int} {keys : List (List Nat)} (h : keys.Perm ((dataL ns).map (·.1))) : Signs keys := by
  intro k hk
  obtain ⟨p, hp, rfl⟩ := List.mem_map.mp (h.mem_iff.mp hk)
  obtain ⟨n, e⟩ := dataL_wrd hp
  rw [e]
  exact ⟨wrd_len n, wordL_signs _⟩
end
section
/-! law: questions to the trie -/
section
variable {w : World} {A : Around} {E : Value → Shared → Prop} {s : Shared} {G : Gl} {h₀ b : Heap} {L f : Addr} {cdv : Value} {m : Str → Option Value} {dv wv : Option Value} {x : Addr} {ps : List (List Nat × Int)} {keys : List (List Nat)}
theorem has_call {e : Expr} {p1 p2 p4 : Pos} {pl : Sem Bool} {Q : Value → Shared → Prop} (Z : Law G h₀ b L s.heap m dv wv) (hA : A.depth + 64 < recursionLimit) (hh : A.handled = none) (Y : TrieOk w G b x ps keys) (hm : m "trie" = some (.ref x))
    (h : wpAny (model PRG w) A (eval e (lawEnv L f cdv)) (fun v s₁ => ∃ p t, v = .str (T p) t ∧ Ext s.heap s₁.heap ∧ ∀ h' tk, Ext s₁.heap h' → Q (.bool (begP keys p)) { s₁ with heap := h', toks := tk }) E s)
    (he : eval (.Call (.Attribute (.Name "trie" p1) "has_keys_with_prefix" p2) [e] [] p4) (lawEnv L f cdv) = (do
      let ov ← eval (.Name "trie" p1) (lawEnv L f cdv)
      standAt p2.atName
      let (f', first) ← holding [ov] (getMethod ov "has_keys_with_prefix" pl)
      callWith p4 f' first (backTo p4 (starEach [e] (lawEnv L f cdv))) []) := by rfl)
    (he' : starEach [e] (lawEnv L f cdv) = (false, eval e (lawEnv L f cdv)) :: starEach [] (lawEnv L f cdv) := by rfl) :
    wpAny (model PRG w) A (eval (.Call (.Attribute (.Name "trie" p1) "has_keys_with_prefix" p2) [e] [] p4) (lawEnv L f cdv)) Q E s := by
  obtain ⟨D, KS, CP, t, vs, t0, t1, hT, _⟩ := id Y.at_
  obtain ⟨dx, es, n, I, hhs, _⟩ := hT.inst
  refine meth1 (G := G) Z.g₀.cls Z.g₀.cls.iHas Z.g₀.cls.fHas Z.g₀.cls.kHas ?_ he he'
  refine nmL Z.F hm ?_
  refine ⟨x, rfl, Z.gh.X, ⟨dx, es, n, ⟨Z.x _ _ I.at_, I.cls, I.no, Z.x _ _ I.dict⟩, hhs⟩, ?_⟩
  refine wpAny_mono h (fun v s₁ h₁ => ?_) fun _ _ e => e
  obtain ⟨p, t, rfl, x₁, hq⟩ := h₁
  refine ⟨Z.gh.X.keeps x₁, ?_⟩
  refine has_spec (keys := keys) (ps := ps) ?_ (by omega) hh ?_ _ _ ?_
  · exact Z.gh.ext x₁
  · exact Y.ext (Z.x.trans x₁)
  rintro v h' tk x' rfl
  exact hq _ _ x'
theorem in_trie {p : List Nat} {t : Tok} {Q : Value → Shared → Prop} (Z : Law G h₀ b L s.heap m dv wv) (hA : A.depth + 64 < recursionLimit) (Y : TrieOk w G b x ps keys)
    (h : ∀ h' tk, Ext s.heap h' → Q (.bool (getP ps p).isSome) { s with heap := h', toks := tk }) : wpAny (model PRG w) A (compareOp .In (.str (T p) t) (.ref x)) Q E s := by
  obtain ⟨D, KS, CP, t, vs, t0, t1, hT, hD, _⟩ := id Y.at_
  obtain ⟨dx, es, n, I, hhs, _⟩ := hT.inst
  have I' : InstAt s.heap x (instObj G.trie dx) G.trie (some (dictOf es n)) := ⟨Z.x _ _ I.at_, I.cls, I.no, Z.x _ _ I.dict⟩
  refine in_K Z.F Z.g₀.X I' Z.g₀.cls.iCont Z.g₀.cls.fCont ?_
  refine cont_spec (ps := ps) Z.gh (by omega) (hT.ext Z.x) (hD.ext Z.x) _ _ ?_
  rintro v h' tk x' rfl
  exact wpAny_truthy_bool (h _ _ x')
/-- trie[word], word a key -/
theorem trie_item {value slice : Expr} {p : List Nat} {t : Tok} {n : Int} {Q : Value → Shared → Prop} (Z : Law G h₀ b L s.heap m dv wv) (hA : A.depth + 64 < recursionLimit) (Y : TrieOk w G b x ps keys) (hk : getP ps p = some n)
    (h : ∀ t' h' tk, Ext s.heap h' → Q (.int n t') { s with heap := h', toks := tk })
    (hsl : subscripted slice true (.ref x) (.str (T p) t) = runValue (.builtin "lifetime.subscript" ⟨[.ref x, .str (T p) t], []⟩) := by with_unfolding_all rfl) :
    wpAny (model PRG w) A (subscriptTail value slice (.ref x) (.str (T p) t)) Q E s := by
  obtain ⟨D, KS, CP, t, vs, t0, t1, hT, hD, _⟩ := id Y.at_
  obtain ⟨dx, es, n', I, hhs, _⟩ := hT.inst
  have I' : InstAt s.heap x (instObj G.trie dx) G.trie (some (dictOf es n')) := ⟨Z.x _ _ I.at_, I.cls, I.no, Z.x _ _ I.dict⟩
  refine sub_K Z.F Z.g₀.X I' Z.g₀.cls.iGet Z.g₀.cls.nGet Z.g₀.cls.fGet ?_ hsl
  refine get_spec (ps := ps) Z.gh ?_ (hT.ext Z.x) (hD.ext Z.x) hk _ _ ?_
  · simp only [depth_in1]; omega
  rintro v h' tk x' ⟨t', rfl⟩
  exact h _ _ _ x'
end
theorem noTup_cell {h : Heap} {a : Addr} {v : Option Value} (x : h.IsCell a v) : NoTup h a := fun o e => by
  obtain ⟨o', ho', hd⟩ := x
  rintro ⟨_, xs, n, q⟩
  rw [e] at ho'; cases ho'
  rw [q] at hd; cases hd
/-- tuples of keys and their numbers -/
def NumL (ps : List (List Nat × Int)) (h : Heap) (vs : Array Value) (ks : List (List Nat)) : Prop := vs.size = ks.length ∧ ∀ (i : Nat) (k : List Nat), ks[i]? = some k → ∃ a t1 t2 n, vs[i]? = some (Value.ref a) ∧ getP ps k = some n ∧ IsTup h a #[.str (T k) t1, .int n t2]
theorem NumL.tup {ps : List (List Nat × Int)} {h h' : Heap} {vs : Array Value} {ks : List (List Nat)} (x : NumL ps h vs ks) (e : TupExt h h') : NumL ps h' vs ks :=
  ⟨x.1, fun i k q => let ⟨a, t1, t2, n, h1, h2, h3⟩ := x.2 i k q; ⟨a, t1, t2, n, h1, h2, e.tup h3⟩⟩
theorem NumL.push {ps : List (List Nat × Int)} {h : Heap} {vs : Array Value} {ks : List (List Nat)} (x : NumL ps h vs ks) {k : List Nat} {a : Addr} {t1 t2 : Tok} {n : Int} (hk : getP ps k = some n) (ht : IsTup h a #[.str (T k) t1, .int n t2]) : NumL ps h (vs.push (.ref a)) (ks ++ [k]) := by
  refine ⟨by simp [x.1], fun i k' e => ?_⟩
  by_cases h : i < ks.length
  · rw [List.getElem?_append_left h] at e
    obtain ⟨a', t1', t2', n', e', r⟩ := x.2 i k' e
    exact ⟨a', t1', t2', n', by rw [Array.getElem?_push_lt (by rw [x.1]; exact h)]; rw [Array.getElem?_eq_getElem (by rw [x.1]; exact h)] at e'; exact e', r⟩
  · have hi : i = ks.length := by
      have := (List.getElem?_eq_some_iff.mp e).1
      simp at this; omega
    subst hi
    rw [List.getElem?_append_right (Nat.le_refl _), Nat.sub_self] at e
    cases e
    exact ⟨a, t1, t2, n, by rw [← x.1]; simp, hk, ht⟩
theorem StrsL.append {vs ws : Array Value} {ks ls : List (List Nat)} (x : StrsL vs ks) (y : StrsL ws ls) : StrsL (vs ++ ws) (ks ++ ls) := by
  refine ⟨by simp [x.1, y.1], fun i k e => ?_⟩
  by_cases h : i < ks.length
  · rw [List.getElem?_append_left h] at e
    obtain ⟨t, e'⟩ := x.2 i k e
    exact ⟨t, by rw [Array.getElem?_append_left (by rw [x.1]; exact h)]; exact e'⟩
  · rw [List.getElem?_append_right (by omega)] at e
    obtain ⟨t, e'⟩ := y.2 _ k e
    exact ⟨t, by rw [Array.getElem?_append_right (by rw [x.1]; omega), x.1]; exact e'⟩
theorem StrsL.dropLast {vs : Array Value} {ks : List (List Nat)} {p : List Nat} (x : StrsL vs (ks ++ [p])) : StrsL (vs.eraseIdxIfInBounds (vs.size - 1)) ks := by
  have hs := x.1
  simp at hs
  have e : vs.eraseIdxIfInBounds (vs.size - 1) = vs.pop := by
    rw [Array.eraseIdxIfInBounds, dif_pos (by omega)]
    apply Array.ext_getElem?
    intro i
    rw [Array.getElem?_eraseIdx, Array.getElem?_pop]
    split <;> first | rfl | (rw [Array.getElem?_eq_none]; omega)
  rw [e]
  refine ⟨by simp [hs], fun i k q => ?_⟩
  have hi := (List.getElem?_eq_some_iff.mp q).1
  obtain ⟨t, z⟩ := x.2 i k (by rw [List.getElem?_append_left hi]; exact q)
  exact ⟨t, by rw [Array.getElem?_pop, if_pos (by omega)]; exact z⟩
end
section
/-! law: told, numbered, waiting -/
section
variable {prog : Program} {w : World} {A : Around} {E : Value → Shared → Prop} {s : Shared}
theorem add_lists_x {l b : Addr} {vs ws : Array Value} {Q : Value → Shared → Prop} (hl : s.heap.IsList l vs) (hb : s.heap.IsList b ws)
    (h : ∀ h', Ext s.heap h' → LstX h' s.heap.objs.size (vs ++ ws) → s.heap.get? s.heap.objs.size = none → Q (.ref s.heap.objs.size) { s with heap := h' })
    (hsz : vs.size + ws.size ≤ sizeLine) :
    wpAny (model prog w) A (binaryOp .Add (.ref l) (.ref b)) Q E s := by
  obtain ⟨⟨cls, dd, data, sl⟩, ho, hc, n, hd⟩ := id hl
  obtain ⟨⟨cls2, dd2, data2, sl2⟩, ho2, hc2, n2, hd2⟩ := id hb
  simp only at hc hd hc2 hd2
  subst hc hd hc2 hd2
  exact concat_meets ⟨_, ho, rfl⟩ ⟨_, ho2, rfl⟩ noFill_list_add seq_list_add PySem.F.slot_list_add PySem.F.entry_list_add (PySem.F.args_list_add_2 _ _) (list_addW l b vs ws n n2 dd dd2 sl sl2 (by simpa using hsz)) ⟨ho, ho2, h _ (Ext.push _ _) ⟨_, Heap.get?_push_size _ rfl⟩ (Heap.get?_none_of_le (Nat.le_refl _))⟩
end
def bodW : Stmt → List Stmt
  | .While _ b _ _ => b
  | .If _ b _ _ => b
  | .For _ _ b _ _ => b
  | _ => []
def inB (s : Stmt) (i : Nat) : Stmt := ((bodW s)[i]?).getD (.Pass ⟨0, 0, 0, 0⟩)
def sWait : Stmt := inB (inB (stm 10) 1) 3
section
variable {w : World} {A : Around} {E : Value → Shared → Prop} {s : Shared} {G : Gl} {h₀ b : Heap} {L f : Addr} {cdv : Value} {m : Str → Option Value} {dv wv : Option Value} {x : Addr} {ps : List (List Nat × Int)} {keys : List (List Nat)}
theorem newl {y : Str} {py pos spos : Pos} (Z : Law G h₀ b L s.heap m dv wv) (hy : (lawEnv L f cdv).kindOf y = some .local)
    {Q : Flow → Shared → Prop} (hQ : ∀ B h' tk, Law G h₀ b L h' (fun z => if z = y then some (.ref B) else m z) dv wv → b.get? B = none → LstX h' B #[] → s.heap.get? B = none → (∀ a o, a ≠ L → s.heap.get? a = some o → h'.get? a = some o) → Q .next { s with heap := h', toks := tk })
    (hs : swapsWith (.List [] pos) (some (.Name y py)) spos.line (lawEnv L f cdv) = pure false := by rfl) :
    wpAny (model PRG w) A (exec (.Assign [.Name y py] (.List [] pos) spos) (lawEnv L f cdv)) Q E s := by
  refine wpAny_Assign_Name ?_ hs
  refine List_ ?_
  refine args_nil ?_
  refine newList_X fun h₁ x₁ hl hn => ?_
  have Z1 := Z.ext x₁
  refine stZ Z1 (fun h₂ Z2 s2 => ?_) hy
  exact hQ _ _ _ Z2 (ext_none Z.x hn) (hl.at fun o ho => (s2.2 _ (fun q => hl.ne Z1 (by rw [q]; simp))).trans ho) hn fun a o na e => (s2.2 _ na).trans (x₁ _ _ e)

structure Dfs (w : World) (G : Gl) (h₀ b : Heap) (L : Addr) (x : Addr) (ps : List (List Nat × Int)) (keys : List (List Nat)) (TL NL : Addr) (m : Str → Option Value) (dv : Option Value) (h : Heap) (m' : Str → Option Value) (wv : Option Value) (WL : Addr) (TLv NLv WLv : Array Value) (toldK waitK : List (List Nat)) : Prop where
  Z : Law G h₀ b L h m' dv wv
  same : Same ["waiting"] m m'
  mw : m' "waiting" = some (.ref WL)
  bW : b.get? WL = none
  wt : WL ≠ TL
  wn : WL ≠ NL
  lT : LstX h TL TLv
  sT : StrsL TLv toldK
  lN : LstX h NL NLv
  sN : NumL ps h NLv (toldK.filter (fun q => decide (q ∈ keys)))
  lW : LstX h WL WLv
  sW : StrsL WLv waitK
  all : toldK ++ waitK.reverse.flatMap (subS keys) = subS keys []
  short : ∀ p ∈ waitK, p.length ≤ 5
theorem blk10 (Z : Law G h₀ b L s.heap m dv wv) (hA : A.depth + 64 < recursionLimit) (hh : A.handled = none) (Y : TrieOk w G b x ps keys) (hSg : Signs keys) (hmx : m "trie" = some (.ref x)) {TL NL WL : Addr} {WLv : Array Value}
    (hmT : m "told" = some (.ref TL)) (hmN : m "numbered" = some (.ref NL)) (hmW : m "waiting" = some (.ref WL)) (bT : b.get? TL = none) (bN : b.get? NL = none) (bW : b.get? WL = none) (tn : TL ≠ NL) (wt : WL ≠ TL) (wn : WL ≠ NL)
    (lT : LstX s.heap TL #[]) (lN : LstX s.heap NL #[]) (lW : LstX s.heap WL WLv) (sW : StrsL WLv [[]])
    {Q : Flow → Shared → Prop} (hQ : ∀ h' tk m' wv' TLv NLv, Law G h₀ b L h' m' dv wv' → Same ["waiting"] m m' → LstX h' TL TLv → StrsL TLv (subS keys []) → LstX h' NL NLv → NumL ps h' NLv ((subS keys []).filter (fun q => decide (q ∈ keys))) → Q .next { s with heap := h', toks := tk }) :
    wpAny (model PRG w) A (exec (stm 10) (lawEnv L f cdv)) Q E s := by
  refine wpAny_While ?_
  refine codeAny_whileLoop (fun k s' => ∃ h' tk' m' wv' WL' TLv NLv WLv' toldK waitK, s' = { s with heap := h', toks := tk' } ∧ Dfs w G h₀ b L x ps keys TL NL m dv h' m' wv' WL' TLv NLv WLv' toldK waitK ∧ k = mu waitK ∧ mu waitK ≤ 4096) ?_ 4096
    ⟨s.heap, s.toks, m, wv, WL, #[], #[], WLv, [], [[]], rfl, ⟨Z, fun _ _ => rfl, hmW, bW, wt, wn, lT, ⟨rfl, fun i k e => by simp at e⟩, lN, ⟨rfl, fun i k e => by simp at e⟩, lW, sW, by simp, fun p hp => by rw [List.mem_singleton.mp hp]; decide⟩, by decide, by decide⟩
  rintro k s' ⟨h, tk, m₁, wv₁, WL₁, TLv, NLv, WLv₁, toldK, waitK, rfl, ⟨Z₁, sm, mw, bW₁, wt₁, wn₁, lT₁, sT, lN₁, sN, lW₁, sW₁, all, short⟩, rfl, hmu⟩
  have hwl := len_mu waitK
  have htl : toldK.length ≤ 4096 := by
    have := congrArg List.length all
    rw [List.length_append] at this
    have l := len_subN keys 6 []
    have e : (4 : Nat) ^ 6 = 4096 := by decide
    have : (subS keys []).length = (subN keys 6 []).length := rfl
    omega
  refine isTrue_plain ?_
  refine nmL Z₁.F mw ?_
  refine wpAny_truthy_list lW₁.list (by rw [sW₁.1]; omega) ?_
  rcases List.eq_nil_or_concat waitK with rfl | ⟨wk, p, rfl⟩
  · have e : WLv₁.isEmpty = true := by have := sW₁.1; simp at this; simp [this]
    rw [e]
    refine PySem.W.ite_neg (by decide) ?_
    refine wpAny_execs_nil ?_
    simp at all
    subst all
    exact hQ _ _ m₁ wv₁ TLv NLv Z₁ sm lT₁ sT lN₁ sN
  rw [List.concat_eq_append] at *
  have hwk : wk.length ≤ 4096 := by simp at hwl; omega
  have hsz : WLv₁.size = wk.length + 1 := by have := sW₁.1; simpa using this
  have e : WLv₁.isEmpty = false := by simp only [Array.isEmpty]; rw [hsz]; simp
  rw [e]
  refine PySem.W.ite_pos rfl ?_
  obtain ⟨tp, hp⟩ := sW₁.2 wk.length p (by simp)
  have hwTm : m₁ "trie" = some (.ref x) := by rw [sm "trie" (by decide)]; exact hmx
  have hTm : m₁ "told" = some (.ref TL) := by rw [sm "told" (by decide)]; exact hmT
  have hNm : m₁ "numbered" = some (.ref NL) := by rw [sm "numbered" (by decide)]; exact hmN
  have hp5 := short p (by simp)
  refine wpAny_execs_cons ?_
  refine wpAny_Assign_Name ?_ rfl
  refine MethodCall_ ?_ rfl
  refine nmL Z₁.F mw ?_
  refine lx_meth lW₁ PySem.F.slot_list_pop PySem.F.type_list_pop ?_
  refine callWith_method0 ?_
  refine lx_pop lW₁ (by rw [hsz]; exact hp) (fun h₂ l₂ s2 => ?_) (by rw [sizeLine_eq, hsz]; omega)
  have Z2 := Z₁.chg s2 bW₁ (lW₁.ne Z₁)
  have t2 : TupExt h h₂ := kp_tup (kp_same s2 (List.mem_singleton.mpr rfl)) fun a ha => by rw [List.mem_singleton.mp ha]; exact noTup_list lW₁.list
  refine stW Z2 fun h₃ Z3 s3 => ?_
  have t3 : TupExt h₂ h₃ := kp_tup (kp_same s3 (List.mem_singleton.mpr rfl)) fun a ha => by rw [List.mem_singleton.mp ha]; exact noTup_cell Z2.cw
  have l3 : LstX h₃ WL₁ _ := l₂.at fun o ho => (s3.2 _ (fun q => l₂.ne Z2 (by rw [q]; simp))).trans ho
  have lT3 : LstX h₃ TL TLv := (lT₁.at fun o ho => (s2.2 _ wt₁.symm).trans ho).at fun o ho => (s3.2 _ (fun q => (lT₁.ne Z₁) (by rw [q]; simp))).trans ho
  have lN3 : LstX h₃ NL NLv := (lN₁.at fun o ho => (s2.2 _ wn₁.symm).trans ho).at fun o ho => (s3.2 _ (fun q => (lN₁.ne Z₁) (by rw [q]; simp))).trans ho
  have sN3 := sN.tup (t2.trans t3)
  have sW3 := sW₁.dropLast
  rw [List.reverse_append, List.reverse_singleton, List.singleton_append, List.flatMap_cons] at all
  refine wpAny_execs_cons ?_
  refine wpAny_If ?_
  refine isTrue_plain ?_
  refine has_call Z3 hA hh Y hwTm ?_
  refine nmW Z3 ?_
  refine ⟨p, tp, rfl, Ext.refl _, fun h₄ tk₄ x₄ => ?_⟩
  have Z4 := Z3.ext x₄
  refine wpAny_truthy_bool ?_
  have l4 := l3.at fun o ho => x₄ _ _ ho
  have lT4 := lT3.at fun o ho => x₄ _ _ ho
  have lN4 := lN3.at fun o ho => x₄ _ _ ho
  have sN4 := sN3.tup x₄.tupExt
  have hmu' : mu wk < mu (wk ++ [p]) := by rw [mu_snoc]; have : 1 ≤ 4 ^ (6 - p.length) := Nat.one_le_pow _ _ (by decide); omega
  by_cases c : begP keys p = true
  · refine PySem.W.ite_pos c ?_
    have hp4 := begP_len hSg c
    rw [subS_eq hp5, if_pos c] at all
    refine wpAny_execs_cons ?_
    refine wpAny_If ?_
    refine wpAny_isTrue_Compare1 ?_
    refine call_b1 Z4.g₀ Z4.F Z4.g₀.nLen boot_len (by decide) ?_
    refine nmW Z4 ?_
    refine len_T (by omega) fun t5 tk5 => ?_
    repeat walk_at "m"
    refine PySem.W.ite_neg (by simp; omega) ?_
    repeat walk_at "m"
    refine exec_append ?_
    refine nmL Z4.F hTm ?_
    refine ⟨TL, TLv, rfl, lT4, ?_⟩
    refine nmW Z4 ?_
    refine ⟨TLv, lT4, by rw [sT.1, sizeLine_eq]; omega, fun h₅ lT5 s5 => ?_⟩
    have Z5 := Z4.chg s5 bT (lT4.ne Z4)
    have t5' : TupExt h₄ h₅ := kp_tup (kp_same s5 (List.mem_singleton.mpr rfl)) fun a ha => by rw [List.mem_singleton.mp ha]; exact noTup_list lT4.list
    have l5 := l4.at fun o ho => (s5.2 _ wt₁).trans ho
    have lN5 := lN4.at fun o ho => (s5.2 _ tn.symm).trans ho
    have sN5 := sN4.tup t5'
    have sT5 := sT.push p tp
    refine wpAny_execs_cons ?_
    refine wpAny_If ?_
    refine wpAny_isTrue_Compare1 ?_
    refine nmW Z5 ?_
    refine nmL Z5.F hwTm ?_
    refine in_trie Z5 hA Y fun h₆ tk₆ x₆ => ?_
    have Z6 := Z5.ext x₆
    refine wpAny_truthy_bool ?_
    have l6 := l5.at fun o ho => x₆ _ _ ho
    have lT6 := lT5.at fun o ho => x₆ _ _ ho
    have lN6 := lN5.at fun o ho => x₆ _ _ ho
    have sN6 := sN5.tup x₆.tupExt
    have fin : ∀ (h₈ : Heap) (tk₈ : Nat) (NLv₈ : Array Value), Law G h₀ b L h₈ m₁ dv (some (.str (T p) tp)) → LstX h₈ WL₁ (WLv₁.eraseIdxIfInBounds (WLv₁.size - 1)) → LstX h₈ TL (TLv.push (.str (T p) tp)) → LstX h₈ NL NLv₈ → NumL ps h₈ NLv₈ ((toldK ++ [p]).filter (fun q => decide (q ∈ keys))) → ∀ E' : Value → Shared → Prop,
        wpAny (model PRG w) A (exec sWait (lawEnv L f cdv))
          (fun fl s' => fl = .next ∧ ∃ h' tk' m' wv' WL' TLv NLv WLv' toldK' waitK', s' = { s with heap := h', toks := tk' } ∧ Dfs w G h₀ b L x ps keys TL NL m dv h' m' wv' WL' TLv NLv WLv' toldK' waitK' ∧ mu waitK' < mu (wk ++ [p])) E' { s with heap := h₈, toks := tk₈ } := by
      intro h₈ tk₈ NLv₈ Z8 l8 lT8 lN8 sN8 E'
      refine wpAny_Assign_Name ?_ rfl
      refine wpAny_BinOp ?_
      refine nmL Z8.F mw ?_
      refine List_ ?_
      refine args_cons ?_ rfl
      refine wpAny_BinOp ?_
      refine nmW Z8 ?_
      refine PySem.Calls.Constant_str ?_
      rw [ofs_n]
      refine add_str (fun ta tka => ?_) (by rw [T_len, T_len, sizeLine_eq]; simp; omega)
      refine args_cons ?_ rfl
      refine wpAny_BinOp ?_
      refine nmW Z8 ?_
      refine PySem.Calls.Constant_str ?_
      rw [ofs_T]
      refine add_str (fun tb tkb => ?_) (by rw [T_len, T_len, sizeLine_eq]; simp; omega)
      refine args_cons ?_ rfl
      refine wpAny_BinOp ?_
      refine nmW Z8 ?_
      refine PySem.Calls.Constant_str ?_
      rw [ofs_semi]
      refine add_str (fun tc tkc => ?_) (by rw [T_len, T_len, sizeLine_eq]; simp; omega)
      refine args_nil ?_
      rw [T_append, T_append, T_append]
      refine newList_X fun h₉ x₉ l9 n9 => ?_
      have Z9 := Z8.ext x₉
      refine add_lists_x (l8.at fun o ho => x₉ _ _ ho).list l9.list (fun hX xX lX nX => ?_) (by rw [sW3.1, sizeLine_eq]; simp; omega)
      have ZX := Z9.ext xX
      have x89 : Ext h₈ hX := x₉.trans xX
      have eNew : h₈.get? h₉.objs.size = none := ext_none x₉ nX
      generalize h₉.objs.size = WN at lX nX eNew
      refine stZ ZX fun hY ZY sY => ?_
      have kY : ∀ a o, a ≠ L → h₈.get? a = some o → hY.get? a = some o := fun a o na e => (sY.2 _ na).trans (x89 _ _ e)
      have tY : TupExt h₈ hY := x89.tupExt.trans (kp_tup (kp_same sY (List.mem_singleton.mpr rfl)) fun a ha => by rw [List.mem_singleton.mp ha]; exact noTup_ns ZX.F.ns)
      refine ⟨rfl, hY, _, _, _, WN, TLv.push (.str (T p) tp), NLv₈, _, toldK ++ [p], wk ++ [p ++ [110], p ++ [84], p ++ [59]], rfl, ⟨ZY, fun z hz => ?_, rfl, ext_none Z8.x eNew, ?_, ?_, lT8.at fun o ho => kY _ _ (fun q => (lT8.ne Z8) (by rw [q]; simp)) ho, sT5, lN8.at fun o ho => kY _ _ (fun q => (lN8.ne Z8) (by rw [q]; simp)) ho, sN8.tup tY, lX.at fun o ho => (sY.2 _ (fun q => (lX.ne ZX) (by rw [q]; simp))).trans ho, ?_, ?_, ?_⟩, mu_kids hp4⟩
      · show (if z = Str.ofString "waiting" then _ else m₁ z) = m z
        rw [if_neg (fun q => hz (by rw [q]; simp))]; exact sm z hz
      · rintro rfl; obtain ⟨n, ho⟩ := lT8; rw [eNew] at ho; cases ho
      · rintro rfl; obtain ⟨n, ho⟩ := lN8; rw [eNew] at ho; cases ho
      · refine sW3.append ⟨rfl, fun i k e => ?_⟩
        match i, e with
        | 0, e => cases e; exact ⟨_, rfl⟩
        | 1, e => cases e; exact ⟨_, rfl⟩
        | 2, e => cases e; exact ⟨_, rfl⟩
        | i + 3, e => simp at e
      · rw [← all]
        simp [List.flatMap_append]
      · intro q hq
        rcases List.mem_append.mp hq with hq | hq
        · exact short q (by simp [hq])
        · simp only [List.mem_cons, List.not_mem_nil, or_false] at hq
          rcases hq with rfl | rfl | rfl <;> (simp; omega)
    have hfl : (toldK ++ [p]).filter (fun q => decide (q ∈ keys)) = toldK.filter (fun q => decide (q ∈ keys)) ++ (if p ∈ keys then [p] else []) := by
      rw [List.filter_append]; congr 1
      by_cases q : p ∈ keys <;> simp [q]
    by_cases ck : (getP ps p).isSome = true
    · refine PySem.W.ite_pos ck ?_
      obtain ⟨n, hn⟩ := Option.isSome_iff_exists.mp ck
      refine wpAny_execs_cons ?_
      refine exec_append ?_
      refine nmL Z6.F hNm ?_
      refine ⟨NL, NLv, rfl, lN6, ?_⟩
      refine Tuple_ ?_
      refine args_cons ?_ rfl
      refine nmW Z6 ?_
      refine args_cons ?_ rfl
      refine Subscript_ ?_
      refine nmL Z6.F hwTm ?_
      refine nmW Z6 ?_
      refine trie_item Z6 hA Y hn fun t' h₇ tk₇ x₇ => ?_
      refine args_nil ?_
      refine newTuple_x fun h₈ x₈ ht₈ _ => ?_
      have x68 : Ext h₆ h₈ := x₇.trans x₈
      have Z8 := Z6.ext x68
      have lN8 := lN6.at fun o ho => x68 _ _ ho
      refine ⟨NLv, lN8, by rw [sN6.1, sizeLine_eq]; have := List.length_filter_le (fun q => decide (q ∈ keys)) toldK; omega, fun h₉ lN9 s9 => ?_⟩
      have Z9 := Z8.chg s9 bN (lN8.ne Z8)
      have t9 : TupExt h₈ h₉ := kp_tup (kp_same s9 (List.mem_singleton.mpr rfl)) fun a ha => by rw [List.mem_singleton.mp ha]; exact noTup_list lN8.list
      refine wpAny_execs_nil ?_
      dsimp only
      refine wpAny_execs_cons ?_
      refine wpAny_mono (fin h₉ _ _ Z9 ((l6.at fun o ho => x68 _ _ ho).at fun o ho => (s9.2 _ wn₁).trans ho) ((lT6.at fun o ho => x68 _ _ ho).at fun o ho => (s9.2 _ tn).trans ho) lN9 ?_ _) (fun fl s' e => ?_) fun _ _ e => e
      · rw [hfl, if_pos ((Y.mem p).mp ck)]
        exact ((sN6.tup x68.tupExt).push hn ht₈).tup t9
      · obtain ⟨rfl, h', tk', m', wv', WL', TLv', NLv', WLv', toldK', waitK', e1, e2, e3⟩ := e
        refine wpAny_execs_nil ?_
        refine wpAny_execs_nil ?_
        exact ⟨mu waitK', e3, h', tk', m', wv', WL', TLv', NLv', WLv', toldK', waitK', e1, e2, rfl, by omega⟩
    · refine PySem.W.ite_neg ck ?_
      refine wpAny_execs_nil ?_
      dsimp only
      refine wpAny_execs_cons ?_
      refine wpAny_mono (fin h₆ _ _ Z6 l6 lT6 lN6 ?_ _) (fun fl s' e => ?_) fun _ _ e => e
      · rw [hfl, if_neg (fun q => ck ((Y.mem p).mpr q)), List.append_nil]; exact sN6
      · obtain ⟨rfl, h', tk', m', wv', WL', TLv', NLv', WLv', toldK', waitK', e1, e2, e3⟩ := e
        refine wpAny_execs_nil ?_
        refine wpAny_execs_nil ?_
        exact ⟨mu waitK', e3, h', tk', m', wv', WL', TLv', NLv', WLv', toldK', waitK', e1, e2, rfl, by omega⟩
  · refine PySem.W.ite_neg c ?_
    repeat walk_at "m"
    rw [subS_eq hp5, if_neg c, List.nil_append] at all
    exact ⟨mu wk, hmu', h₄, _, m₁, _, WL₁, TLv, NLv, _, toldK, wk, rfl, ⟨Z4, sm, mw, bW₁, wt₁, wn₁, lT4, sT, lN4, sN4, l4, sW3, all, fun q hq => short q (by simp [hq])⟩, rfl, by omega⟩
end
end
section
/-! law: the first comparison -/
theorem istuple {h : Heap} {a : Addr} {vs : Array Value} (x : IsTup h a vs) : h.IsTuple a vs := by
  obtain ⟨o, ho, hc, n, hd⟩ := x
  exact ⟨o, ho, hc, n, hd⟩
section
variable {prog : Program} {w : World} {A : Around} {E : Value → Shared → Prop} {s : Shared}
theorem all_true (n : Nat) : (List.range n).all (fun _ => true) = true := by simp
/-- two lists, alike in every place -/
theorem ne_same {l c : Addr} {vs ws : Array Value} {Q : Value → Shared → Prop} (hu : A.units + 8 < cLine) (hl : s.heap.IsList l vs) (hc : s.heap.IsList c ws) (hsz : vs.size = ws.size)
    (he : ∀ j (h1 : j < vs.size) (h2 : j < ws.size), SeqAt.EqAt A.in1 s vs[j] ws[j] true) (h : Q (.bool false) s) : wpAny (model prog w) A (compareOp .NotEq (.ref l) (.ref c)) Q E s := by
  have := SeqAt.RcNeAt.lists (e := fun _ => true) hl hc hsz (by omega) he prog w E Q
  rw [all_true] at this
  exact this h
theorem ne_strs {l c : Addr} {vs ws : Array Value} {ks : List (List Nat)} {Q : Value → Shared → Prop} (hu : A.units + 8 < cLine) (hl : s.heap.IsList l vs) (hc : s.heap.IsList c ws) (hv : StrsL vs ks) (hw : StrsL ws ks) (h : Q (.bool false) s) :
    wpAny (model prog w) A (compareOp .NotEq (.ref l) (.ref c)) Q E s := by
  refine ne_same hu hl hc (by rw [hv.1, hw.1]) (fun j h1 h2 => ?_) h
  have hk : ks[j]? = some (ks[j]'(by rw [← hv.1]; exact h1)) := List.getElem?_eq_getElem _
  obtain ⟨t, e1⟩ := hv.2 j _ hk
  obtain ⟨u, e2⟩ := hw.2 j _ hk
  rw [Array.getElem?_eq_getElem h1] at e1
  rw [Array.getElem?_eq_getElem h2] at e2
  rw [Option.some.inj e1, Option.some.inj e2]
  have := SeqAt.EqAt.str_str (A := A.in1) (s := s) (T (ks[j]'(by rw [← hv.1]; exact h1))) t (T (ks[j]'(by rw [← hv.1]; exact h1))) u
  rwa [beq_self_eq_true] at this
theorem tups_eq {a a' : Addr} {k : List Nat} {n : Int} {t1 t2 u1 u2 : Tok} (hu : A.units + 8 < cLine) (h1 : IsTup s.heap a #[.str (T k) t1, .int n t2]) (h2 : IsTup s.heap a' #[.str (T k) u1, .int n u2]) : SeqAt.EqAt A.in1 s (.ref a) (.ref a') true := by
  by_cases e : a = a'
  · subst e; exact SeqAt.EqAt.same _
  · refine SeqAt.EqAt.of_refs e ?_
    have := SeqAt.RcAt.tuples (A := A.in1) (e := fun _ => true) (istuple h1) (istuple h2) (by show A.units + 1 < cLine; omega) (fun j h1 h2 => ?_)
    · exact this
    · match j, h1 with
      | 0, _ =>
        have := SeqAt.EqAt.str_str (A := A.in1.in1) (s := s) (T k) t1 (T k) u1
        rw [beq_self_eq_true] at this; exact this
      | 1, _ =>
        have := SeqAt.EqAt.int_int (A := A.in1.in1) (s := s) n t2 n u2
        rw [beq_self_eq_true] at this; exact this
theorem ne_nums {ps : List (List Nat × Int)} {l c : Addr} {vs ws : Array Value} {ks : List (List Nat)} {Q : Value → Shared → Prop} (hu : A.units + 8 < cLine) (hl : s.heap.IsList l vs) (hc : s.heap.IsList c ws) (hv : NumL ps s.heap vs ks) (hw : NumL ps s.heap ws ks) (h : Q (.bool false) s) :
    wpAny (model prog w) A (compareOp .NotEq (.ref l) (.ref c)) Q E s := by
  refine ne_same hu hl hc (by rw [hv.1, hw.1]) (fun j h1 h2 => ?_) h
  have hk : ks[j]? = some (ks[j]'(by rw [← hv.1]; exact h1)) := List.getElem?_eq_getElem _
  obtain ⟨a, t1, t2, n, e1, g1, i1⟩ := hv.2 j _ hk
  obtain ⟨a', u1, u2, n', e2, g2, i2⟩ := hw.2 j _ hk
  rw [g1] at g2; cases g2
  rw [Array.getElem?_eq_getElem h1] at e1
  rw [Array.getElem?_eq_getElem h2] at e2
  rw [Option.some.inj e1, Option.some.inj e2]
  exact tups_eq hu i1 i2
end
section
variable {w : World} {A : Around} {E : Value → Shared → Prop} {s : Shared} {G : Gl} {h₀ b : Heap} {L f : Addr} {cdv : Value} {m : Str → Option Value} {dv wv : Option Value} {x D : Addr} {ps : List (List Nat × Int)} {keys : List (List Nat)}
theorem blk11 (Z : Law G h₀ b L s.heap m (some (.ref D)) wv) (hh : A.handled = none) (hu : A.units + 8 < cLine) (hd : DicI w b D ps) (hmem : ∀ k, (getP ps k).isSome = true ↔ k ∈ keys) (hSg : Signs keys) (hsrt : keys.Pairwise (· < ·)) (hkn : keys.length ≤ 10)
    {TL NL B KL : Addr} {TLv NLv Bv kv : Array Value}
    (hmT : m "told" = some (.ref TL)) (hmN : m "numbered" = some (.ref NL)) (hmB : m "begun" = some (.ref B)) (hmK : m "keys" = some (.ref KL))
    (lT : LstX s.heap TL TLv) (sT : StrsL TLv (subS keys [])) (lN : LstX s.heap NL NLv) (sN : NumL ps s.heap NLv ((subS keys []).filter (fun q => decide (q ∈ keys)))) (lB : LstX s.heap B Bv) (sB : StrsL Bv (begunL keys)) (hK : b.IsList KL kv) (hS : StrsL kv keys)
    {Q : Flow → Shared → Prop} (hQ : ∀ h' tk, Ext s.heap h' → Q .next { s with heap := h', toks := tk }) :
    wpAny (model PRG w) A (exec (stm 11) (lawEnv L f cdv)) Q E s := by
  have hbl := begun_len (keys := keys) fun k hk => (hSg k hk).1
  refine wpAny_If ?_
  refine isTrue_or ?_
  refine wpAny_isTrue_Compare1 ?_
  refine nmL Z.F hmT ?_
  refine call_b1 Z.g₀ Z.F Z.g₀.nSorted boot_sorted (by decide) ?_
  refine nmL Z.F hmB ?_
  refine sorted_list lB.list sB (by omega) fun D₁ h₁ out ks x₁ hn₁ hl₁ hS₁ hp₁ hs₁ => ?_
  have ek := all_sorted hSg hp₁ hs₁
  subst ek
  refine ne_strs hu (x₁.list lT.list) hl₁ sT hS₁ ?_
  refine wpAny_truthy_bool ?_
  refine PySem.W.ite_neg (by decide) ?_
  have Z1 := Z.ext x₁
  refine isTrue_or ?_
  refine wpAny_isTrue_Compare1 ?_
  refine nmL Z1.F hmN ?_
  refine comp_list (cl := [("data", L + 1)]) (fun _ => true) (fun i y h => ∃ (k : List Nat) (a : Addr) (t1 t2 : Tok) (n : Int), keys[i]? = some k ∧ y = .ref a ∧ getP ps k = some n ∧ IsTup h a #[.str (T k) t1, .int n t2]) ?_ hh rfl (by decide) rfl (by decide) ?_
  · rintro i y h h' ⟨k, a, t1, t2, n, r1, r2, r3, r4⟩ e
    exact ⟨k, a, t1, t2, n, r1, r2, r3, e.tup r4⟩
  refine nmL Z1.F hmK ?_
  refine ⟨KL, kv, rfl, Ext.list Z1.x hK, by rw [hS.1, sizeLine_eq]; omega, ?_, ?_⟩
  · intro C i v m₂ h₂ tk₂ E' hi hv F₂
    obtain ⟨k, t, hk, rfl⟩ := hS.item hv
    have hkm : k ∈ keys := List.mem_of_getElem? hk
    obtain ⟨n, hn⟩ := Option.isSome_iff_exists.mp ((hmem k).mpr hkm)
    refine wpAny_assign_Name (stL F₂ fun h₃ F₃ s₃ => ?_)
    refine TestW.nil ?_
    refine ⟨rfl, ?_⟩
    refine PySem.W.ite_pos rfl ?_
    refine Tuple_ ?_
    refine args_cons ?_ rfl
    refine nmL F₃ rfl ?_
    refine args_cons ?_ rfl
    refine Subscript_ ?_
    refine wpAny_Name (wpAny_loadName_cell rfl rfl rfl (Z1.cd.keeps F₃.keep) ?_) (by decide)
    refine nmL F₃ rfl ?_
    refine dic_item ((hd.ext Z1.x).ext F₃.keep) hn fun t4 tk4 => ?_
    refine args_nil ?_
    refine newTuple_x fun h₅ x₅ ht₅ _ => ?_
    exact ⟨h₅, _, _, rfl, frx F₃ x₅, (kp_same s₃ (by simp)).ext x₅, k, _, _, _, n, hk, rfl, hn, ht₅⟩
  · intro D₂ h₂ tk₂ ys x₂ hn₂ hl₂ hc₂
    have hcl := coll_all hc₂
    rw [hS.1] at hcl
    have hw : NumL ps h₂ ys.toArray keys := by
      refine ⟨by rw [List.size_toArray, hcl.1], fun i k e => ?_⟩
      obtain ⟨y, ey, k', a, t1, t2, n, r1, rfl, r3, r4⟩ := hcl.2 i (List.getElem?_eq_some_iff.mp e).1
      rw [e] at r1; cases r1
      exact ⟨a, t1, t2, n, by simpa using ey, r3, r4⟩
    rw [all_keys hSg hsrt] at sN
    refine ne_nums (ps := ps) hu (Ext.list (x₁.trans x₂) lN.list) hl₂ (sN.tup (x₁.trans x₂).tupExt) hw ?_
    refine wpAny_truthy_bool ?_
    refine PySem.W.ite_neg (by decide) ?_
    refine isTrue_or_nil ?_
    refine PySem.W.ite_neg (by decide) ?_
    repeat walk_at "m"
    exact hQ _ _ (x₁.trans x₂)
end
end
section
/-! law: asked -/
theorem ofs_ext : Str.ofString "nT;x" = T [110, 84, 59, 120] := by decide +kernel
theorem StrsL.of_list {ys : List Value} {ks : List (List Nat)} (hl : ys.length = ks.length) (h : ∀ (i : Nat) (k : List Nat), ks[i]? = some k → ∃ t, ys[i]? = some (Value.str (T k) t)) : StrsL ys.toArray ks :=
  ⟨by simp [hl], fun i k e => by obtain ⟨t, z⟩ := h i k e; exact ⟨t, by simpa using z⟩⟩
section
variable {w : World} {A : Around} {E : Value → Shared → Prop} {s : Shared} {G : Gl} {h₀ b : Heap} {L f : Addr} {cdv : Value} {m : Str → Option Value} {dv wv : Option Value}
/-- some short texts -/
theorem coll_short {n : Nat} {ys : List Value} (hc : Coll (fun _ => true) (fun i y => ∃ l t, y = .str (T l) t ∧ l.length ≤ 5) n ys) : ∃ ks, StrsL ys.toArray ks ∧ ks.length = n ∧ ∀ k ∈ ks, k.length ≤ 5 := by
  generalize hp : (fun _ : Nat => true) = p at hc
  induction hc with
  | nil => exact ⟨[], ⟨rfl, fun i k e => by simp at e⟩, rfl, fun _ h => by cases h⟩
  | skip _ e _ => subst hp; cases e
  | @take i ys y _ _ r ih =>
    obtain ⟨ks, h1, h2, h3⟩ := ih
    obtain ⟨l, t, rfl, hl⟩ := r
    refine ⟨ks ++ [l], ?_, by simp [h2], fun k hk => ?_⟩
    · have := h1.push l t
      rwa [List.push_toArray] at this
    · rcases List.mem_append.mp hk with hk | hk
      · exact h3 k hk
      · rw [List.mem_singleton.mp hk]; exact hl
theorem const_ext {M : Model} {A : Around} {E : Value → Shared → Prop} {s : Shared} {env : Env} {k : Nat} {pos : Pos} {Q : Value → Shared → Prop} (h : Q (.str (T [110, 84, 59, 120]) s.toks) { s with toks := s.toks + 1 }) : wpAny M A (eval (.Constant (.str "nT;x") k pos) env) Q E s :=
  PySem.Calls.Constant_str (by rw [ofs_ext]; exact h)
theorem idx4 (n : Int) : ∃ (j : Nat) (c : Nat), (n.fdiv 363).fmod 4 = (j : Int) ∧ j < 4 ∧ ([110, 84, 59, 120] : List Nat)[j]? = some c := by
  have e1 := Int.fmod_nonneg_of_pos (n.fdiv 363) (show (0:Int) < 4 by decide)
  have e2 := Int.fmod_lt_of_pos (n.fdiv 363) (show (0:Int) < 4 by decide)
  obtain ⟨j, hj⟩ := Int.eq_ofNat_of_zero_le e1
  have hj4 : j < 4 := by omega
  have : j = 0 ∨ j = 1 ∨ j = 2 ∨ j = 3 := by omega
  rcases this with rfl | rfl | rfl | rfl <;> exact ⟨_, _, hj, hj4, rfl⟩
theorem mod4 {prog : Program} {n : Int} {t u : Tok} {A : Around} {E : Value → Shared → Prop} {s : Shared} {Q : Value → Shared → Prop} (h : ∀ (j c : Nat) (t' : Tok) (tk : Nat), j < 4 → ([110, 84, 59, 120] : List Nat)[j]? = some c → Q (.int (j : Int) t') { s with toks := tk }) :
    wpAny (model prog w) A (binaryOp .Mod (.int (n.fdiv 363) t) (.int 4 u)) Q E s := by
  generalize hx : n.fdiv 363 = x
  refine mod_int' (by decide) ?_
  rw [← hx]
  obtain ⟨j, c, hj, hj4, hc⟩ := idx4 n
  rw [hj]
  exact h j c _ _ hj4 hc
theorem blk12 (Z : Law G h₀ b L s.heap m dv wv) (hh : A.handled = none) {P B : Addr} {ns : List Int} {Bv : Array Value} {bk : List (List Nat)} (hP : PairsL b P ns) (hns : ns.length ≤ 10) (hmP : m "pairs" = some (.ref P)) (hmB : m "begun" = some (.ref B)) (lB : LstX s.heap B Bv) (sB : StrsL Bv bk) (hb41 : bk.length ≤ 41) (hb4 : ∀ k ∈ bk, k.length ≤ 4)
    {Q : Flow → Shared → Prop} (hQ : ∀ AL h' tk av ks, Law G h₀ b L h' (fun z => if z = "asked" then some (.ref AL) else m z) dv wv → h'.IsList AL av → StrsL av ks → ks.length ≤ 62 → (∀ k ∈ ks, k.length ≤ 5) → Q .next { s with heap := h', toks := tk }) :
    wpAny (model PRG w) A (exec (stm 12) (lawEnv L f cdv)) Q E s := by
  obtain ⟨pv, hPl, hPn, hPy⟩ := hP
  refine wpAny_Assign_Name ?_ rfl
  refine wpAny_BinOp ?_
  refine wpAny_BinOp ?_
  refine wpAny_BinOp ?_
  refine nmL Z.F hmB ?_
  refine List_ ?_
  refine args_cons ?_ rfl
  refine PySem.Calls.Constant_str ?_
  refine args_nil ?_
  refine newList_X fun h₁ x₁ l₁ n₁ => ?_
  have Z1 := Z.ext x₁
  refine add_lists_x (Ext.list x₁ lB.list) l₁.list (fun h₂ x₂ l₂ n₂ => ?_) (by rw [sB.1, sizeLine_eq]; simp; omega)
  have s₂ : StrsL (Bv ++ [Value.str (Str.ofString "") s.toks].toArray) (bk ++ [[]]) := sB.append ⟨rfl, fun i k e => by
    match i, e with
    | 0, e => cases e; exact ⟨_, by rw [← ofs_nil]; rfl⟩
    | i + 1, e => simp at e⟩
  have Z2 := Z1.ext x₂
  generalize h₁.objs.size = A2 at l₂ ⊢
  refine comp_list (cl := []) (fun _ => true) (fun i y h => ∃ l t, y = .str (T l) t ∧ l.length ≤ 5) (fun _ _ _ _ q _ => q) hh rfl (by decide) rfl (by decide) ?_
  refine nmL Z2.F hmP ?_
  refine ⟨P, pv.toArray, rfl, Ext.list Z2.x hPl, by rw [List.size_toArray, hPn, sizeLine_eq]; omega, ?_, ?_⟩
  · intro C i v m₃ h₃ tk₃ E' hi hv F₃
    have hin : i < ns.length := by simpa [hPn] using hi
    have hn : ns[i]? = some ns[i] := List.getElem?_eq_getElem hin
    generalize ns[i] = n at hn
    obtain ⟨y, ey, a, t1, t2, rfl, pt⟩ := hPy i n hn
    obtain rfl : v = .ref a := by
      have : pv[i]? = some v := by simpa using hv
      rw [ey] at this; exact (Option.some.inj this).symm
    refine asg2 hh (Ext.tup F₃.keep (Z2.x.tup pt)) fun h₄ x₄ => ?_
    refine wpAny_assign_Name (stL (frx F₃ x₄) fun h₅ F₅ s₅ => ?_)
    refine wpAny_assign_Name (stL F₅ fun h₆ F₆ s₆ => ?_)
    refine TestW.nil ?_
    refine ⟨rfl, ?_⟩
    refine PySem.W.ite_pos rfl ?_
    refine nmL F₆ rfl ?_
    have hwl := wrd_len n
    exact ⟨h₆, _, _, rfl, F₆, ((x₄.kp _).same s₅ (by simp)).same s₆ (by simp), _, _, rfl, by omega⟩
  · intro D₃ h₃ tk₃ ys x₃ hn₃ hl₃ hc₃
    obtain ⟨k₃, s₃, c₃, q₃⟩ := coll_short hc₃
    rw [List.size_toArray, hPn] at c₃
    have Z3 := Z2.ext x₃
    refine add_lists_x (Ext.list x₃ l₂.list) hl₃ (fun h₄ x₄ l₄ n₄ => ?_) (by rw [s₂.1, s₃.1, sizeLine_eq]; simp; omega)
    have s₄ := s₂.append s₃
    have Z4 := Z3.ext x₄
    generalize h₃.objs.size = A4 at l₄ ⊢
    refine comp_list (cl := []) (fun _ => true) (fun i y h => ∃ l t, y = .str (T l) t ∧ l.length ≤ 5) (fun _ _ _ _ q _ => q) hh rfl (by decide) rfl (by decide) ?_
    refine nmL Z4.F hmP ?_
    refine ⟨P, pv.toArray, rfl, Ext.list Z4.x hPl, by rw [List.size_toArray, hPn, sizeLine_eq]; omega, ?_, ?_⟩
    · intro C i v m₅ h₅ tk₅ E' hi hv F₅
      have hin : i < ns.length := by simpa [hPn] using hi
      have hn : ns[i]? = some ns[i] := List.getElem?_eq_getElem hin
      generalize ns[i] = n at hn
      obtain ⟨y, ey, a, t1, t2, rfl, pt⟩ := hPy i n hn
      obtain rfl : v = .ref a := by
        have : pv[i]? = some v := by simpa using hv
        rw [ey] at this; exact (Option.some.inj this).symm
      refine asg2 hh (Ext.tup F₅.keep (Z4.x.tup pt)) fun h₆ x₆ => ?_
      refine wpAny_assign_Name (stL (frx F₅ x₆) fun h₇ F₇ s₇ => ?_)
      refine wpAny_assign_Name (stL F₇ fun h₈ F₈ s₈ => ?_)
      refine TestW.nil ?_
      refine ⟨rfl, ?_⟩
      refine PySem.W.ite_pos rfl ?_
      refine wpAny_BinOp ?_
      refine nmL F₈ rfl ?_
      refine Subscript_ ?_
      refine const_ext ?_
      refine wpAny_BinOp ?_
      refine wpAny_BinOp ?_
      refine nmL F₈ rfl ?_
      refine wpAny_Constant_int ?_
      refine floordiv_int (by decide) ?_
      refine wpAny_Constant_int ?_
      refine mod4 fun j c t8 tk8 hj4 hc => ?_
      refine item_T (by omega) hc (fun t9 tk9 => ?_)
      have hwl := wrd_len n
      refine add_str (fun t10 tk10 => ?_) (by rw [T_len, T_len, sizeLine_eq]; simp; omega)
      exact ⟨h₈, _, _, rfl, F₈, ((x₆.kp _).same s₇ (by simp)).same s₈ (by simp), wrd n ++ [c], t10, by rw [T_append], by rw [List.length_append, List.length_singleton]; omega⟩
    · intro D₅ h₅ tk₅ zs x₅ hn₅ hl₅ hc₅
      obtain ⟨k₅, s₅, c₅, q₅⟩ := coll_short hc₅
      rw [List.size_toArray, hPn] at c₅
      have Z5 := Z4.ext x₅
      refine add_lists_x (Ext.list x₅ l₄.list) hl₅ (fun h₆ x₆ l₆ n₆ => ?_) (by rw [s₄.1, s₅.1, sizeLine_eq]; simp; omega)
      have s₆ := s₄.append s₅
      have Z6 := Z5.ext x₆
      refine stZ Z6 fun h₇ Z7 s₇ => ?_
      refine hQ _ _ _ _ _ Z7 (l₆.at fun o ho => (s₇.2 _ (fun q => (l₆.ne Z6) (by rw [q]; simp))).trans ho).list s₆ (by simp; omega) ?_
      intro k hk
      simp only [List.mem_append, List.mem_singleton] at hk
      rcases hk with ((hk | rfl) | hk) | hk
      · have := hb4 k hk; omega
      · simp
      · exact q₃ k hk
      · exact q₅ k hk
end
end
section
/-! law: the words asked once more -/
section
variable {prog : Program} {w : World} {A : Around} {E : Value → Shared → Prop} {s : Shared} {env : Env}
theorem slicePick_mem {items : Array Value} {lo hi st : Option Int} {v : Value} {i : Nat} (h : (slicePick items lo hi st)[i]? = some v) : ∃ j : Nat, items[j]? = some v := by
  have hm : v ∈ (slicePick items lo hi st).toList := by
    rw [← Array.getElem?_toList] at h
    exact List.mem_of_getElem? h
  unfold slicePick at hm
  rw [List.toList_toArray, List.mem_filterMap] at hm
  obtain ⟨j, _, hj⟩ := hm
  exact ⟨_, hj⟩
theorem rev_list {value step : Expr} {p pos : Pos} {Q : Value → Shared → Prop}
    (hstep : ∀ (Q : Value → Shared → Prop) (s : Shared), (∀ t tk, Q (.int (-1) t) { s with toks := tk }) → wpAny (model prog w) A (eval step env) Q E s)
    (h : wpAny (model prog w) A (eval value env) (fun o s₁ => ∃ l items, o = .ref l ∧ s₁.heap.IsList l items ∧ items.size ≤ sizeLine ∧
      ∀ D ws h' tk, Ext s₁.heap h' → h'.IsList D ws → s₁.heap.get? D = none → (∀ (i : Nat) v, ws[i]? = some v → ∃ j : Nat, items[j]? = some v) → Q (.ref D) { s₁ with heap := h', toks := tk }) E s)
    (hs : ∀ a b, subscripted (.Slice none none (some step) p) false (.ref a) (.ref b) = operate [.ref a, .ref b] (getItem (.ref a) (.ref b)) := by intro _ _; with_unfolding_all rfl) :
    wpAny (model prog w) A (eval (.Subscript value (.Slice none none (some step) p) pos) env) Q E s := by
  refine Subscript_ (wpAny_mono h (fun o s₁ h₁ => ?_) fun _ _ e => e)
  obtain ⟨l, items, rfl, hl, hsz, hq⟩ := h₁
  refine wpAny_Slice ?_
  refine evalPart_none_step ?_
  refine evalPart_none_step ?_
  refine evalPart_some_step ?_
  refine hstep _ _ fun t tk => ?_
  refine tail_any (T := "list") (hl.push _).typeIs list_getitem_lookup ?_ (hs _ _)
  refine wpAny_getItem_list_slice (hl.push _) (Heap.IsSliceOf.new ..) .none .none (.int _ _) (by simp) ?_ hsz
  refine hq _ (slicePick items none none (some (-1))) _ _ ((Ext.push _ _).trans (Ext.push _ _)) ⟨_, Heap.get?_push_size _ rfl, rfl, _, rfl⟩ (Heap.get?_none_of_le (by rw [Heap.size_push]; exact Nat.le_succ _)) fun i v e => slicePick_mem e
end
theorem coll_none {p : Nat → Bool} {R : Nat → Value → Prop} {n : Nat} {ys : List Value} (h : Coll p R n ys) (hp : ∀ i, i < n → p i = false) : ys = [] := by
  induction h with
  | nil => rfl
  | skip _ _ ih => exact ih fun i hi => hp i (by omega)
  | @take i ys y _ e _ _ => rw [hp i (by omega)] at e; cases e
theorem coll_one {p : Nat → Bool} {R : Nat → Value → Prop} {n : Nat} {ys : List Value} (h : Coll p R n ys) {i₀ : Nat} (h0 : i₀ < n) (hp : p i₀ = true) (hu : ∀ i, i < n → p i = true → i = i₀) : ∃ y, ys = [y] ∧ R i₀ y := by
  induction h with
  | nil => omega
  | @skip i ys _ e ih =>
    by_cases q : i₀ < i
    · exact ih q fun j hj => hu j (by omega)
    · have : i₀ = i := by omega
      subst this; rw [hp] at e; cases e
  | @take i ys y c e r ih =>
    have := hu i (by omega) e
    subst this
    have := coll_none c fun j hj => by
      cases q : p j with
      | false => rfl
      | true => have := hu j (by omega) q; omega
    subst this
    exact ⟨y, rfl, r⟩
theorem coll_empty {p : Nat → Bool} {R : Nat → Value → Prop} {n : Nat} {ys : List Value} (h : Coll p R n ys) : ys.isEmpty = !((List.range n).any p) := by
  induction h with
  | nil => rfl
  | @skip i ys _ e ih => rw [List.range_succ, List.any_append, ih]; simp [e]
  | @take i ys y _ e _ _ => rw [List.range_succ, List.any_append]; simp [e]
/-- which key it is -/
def isKey (keys : List (List Nat)) (p : List Nat) (i : Nat) : Bool := match keys[i]? with | some k => k == p | none => false
def hasBeg (keys : List (List Nat)) (p : List Nat) (i : Nat) : Bool := match keys[i]? with | some k => k.take p.length == p | none => false
def OwnIs (o : Option Int) (ys : List Value) : Prop := match o with | some n => ∃ t, ys = [.int n t] | none => ys = []
theorem own_is {ps : List (List Nat × Int)} {keys : List (List Nat)} {p : List Nat} {ys : List Value} (hm : ∀ k, (getP ps k).isSome = true ↔ k ∈ keys) (hs : keys.Pairwise (· < ·))
    (h : Coll (isKey keys p) (fun i y => ∃ (k : List Nat) (n : Int) (t : Tok), keys[i]? = some k ∧ getP ps k = some n ∧ y = .int n t) keys.length ys) : OwnIs (getP ps p) ys := by
  cases e : getP ps p with
  | none =>
    refine coll_none h fun i hi => ?_
    unfold isKey
    rw [List.getElem?_eq_getElem hi]
    show (keys[i] == p) = false
    rw [beq_eq_false_iff_ne]
    intro q
    have := (hm p).mpr (q ▸ List.getElem_mem hi)
    rw [e] at this; cases this
  | some n =>
    have hk : p ∈ keys := (hm p).mp (by rw [e]; rfl)
    obtain ⟨i, hi, he⟩ := List.mem_iff_getElem.mp hk
    obtain ⟨y, rfl, k, n', t, h1, h2, rfl⟩ := coll_one h hi (by unfold isKey; rw [List.getElem?_eq_getElem hi]; simp [he]) fun j hj q => by
      unfold isKey at q
      rw [List.getElem?_eq_getElem hj] at q
      have q' : keys[j] = p := by simpa using q
      rcases Nat.lt_trichotomy j i with z | z | z
      · have := List.pairwise_iff_getElem.mp hs j i hj hi z
        rw [q', he] at this; exact absurd this (lt_irrefl_l _)
      · exact z
      · have := List.pairwise_iff_getElem.mp hs i j hi hj z
        rw [q', he] at this; exact absurd this (lt_irrefl_l _)
    rw [List.getElem?_eq_getElem hi, he] at h1
    cases h1
    rw [e] at h2; cases h2
    exact ⟨t, rfl⟩
theorem beg_any (keys : List (List Nat)) (p : List Nat) : (List.range keys.length).any (hasBeg keys p) = begP keys p := by
  rw [Bool.eq_iff_iff, List.any_eq_true, begP_iff]
  constructor
  · rintro ⟨i, hi, e⟩
    rw [List.mem_range] at hi
    unfold hasBeg at e
    rw [List.getElem?_eq_getElem hi] at e
    have e' : keys[i].take p.length = p := by simpa using e
    exact ⟨_, List.getElem_mem hi, List.prefix_iff_eq_take.mpr e'.symm⟩
  · rintro ⟨k, hk, e⟩
    obtain ⟨i, hi, he⟩ := List.mem_iff_getElem.mp hk
    refine ⟨i, List.mem_range.mpr hi, ?_⟩
    unfold hasBeg
    rw [List.getElem?_eq_getElem hi, he]
    simpa using (List.prefix_iff_eq_take.mp e).symm
section
variable {w : World} {A : Around} {E : Value → Shared → Prop} {s : Shared} {G : Gl} {h₀ b : Heap} {L f : Addr} {cdv : Value} {m : Str → Option Value} {dv wv : Option Value} {D KL : Addr} {ps : List (List Nat × Int)} {keys : List (List Nat)} {kv : Array Value} {p : List Nat} {t : Tok}
theorem cells_kp {h' : Heap} {m' : Str → Option Value} (Z : Law G h₀ b L s.heap m dv wv) (K : Kp [L] s.heap h') (hn : h'.Ns L m') : Law G h₀ b L h' m' dv wv := by
  obtain ⟨o, ho, hd⟩ := Z.cd
  obtain ⟨o', ho', hd'⟩ := Z.cw
  refine Z.kp K (fun a ha => by rw [List.mem_singleton.mp ha]; exact Z.bL) ⟨hn, fun a o q => K a o (fun z => ?_) (Z.F.keep _ _ q), Z.F.above⟩ ⟨o, K _ _ (fun z => ?_) ho, hd⟩ ⟨o', K _ _ (fun z => ?_) ho', hd'⟩
  · have := Z.b0 _ _ q; rw [List.mem_singleton.mp z, Z.bL] at this; cases this
  · exact Nat.succ_ne_self L (List.mem_singleton.mp z)
  · exact Nat.ne_of_gt (Nat.lt_succ_of_lt (Nat.lt_succ_self L)) (List.mem_singleton.mp z)
theorem blkOwn (Z : Law G h₀ b L s.heap m (some (.ref D)) (some (.str (T p) t))) (hh : A.handled = none) (hd : DicI w b D ps) (hmem : ∀ k, (getP ps k).isSome = true ↔ k ∈ keys) (hsrt : keys.Pairwise (· < ·)) (hkn : keys.length ≤ 10)
    (hmK : m "keys" = some (.ref KL)) (hK : b.IsList KL kv) (hS : StrsL kv keys)
    {Q : Flow → Shared → Prop} (hQ : ∀ O h' tk ys, Law G h₀ b L h' (fun z => if z = "own" then some (.ref O) else m z) (some (.ref D)) (some (.str (T p) t)) → Kp [L] s.heap h' → h'.IsList O ys.toArray → OwnIs (getP ps p) ys → Q .next { s with heap := h', toks := tk }) :
    wpAny (model PRG w) A (exec (inB (stm 13) 0) (lawEnv L f cdv)) Q E s := by
  refine comp_assign (cl := [("word", L + 1 + 1), ("data", L + 1)]) (isKey keys p) (fun i y h => ∃ (k : List Nat) (n : Int) (t : Tok), keys[i]? = some k ∧ getP ps k = some n ∧ y = .int n t) (fun _ _ _ _ q _ => q) rfl hh rfl (by decide) rfl (by decide) rfl rfl ?_
  refine nmL Z.F hmK ?_
  refine ⟨KL, kv, m, rfl, Ext.list Z.x hK, by rw [hS.1, sizeLine_eq]; omega, Z.F.ns, ?_, ?_⟩
  · intro C i v m₂ h₂ tk₂ E' hi hv F₂
    obtain ⟨k, tk, hk, rfl⟩ := hS.item hv
    have hkm : k ∈ keys := List.mem_of_getElem? hk
    obtain ⟨n, hn⟩ := Option.isSome_iff_exists.mp ((hmem k).mpr hkm)
    have hpi : isKey keys p i = (k == p) := by unfold isKey; rw [hk]
    refine wpAny_assign_Name (stL F₂ fun h₃ F₃ s₃ => ?_)
    refine TestW.one ?_
    refine wpAny_isTrue_Compare1 ?_
    refine nmL F₃ rfl ?_
    refine wpAny_Name (wpAny_loadName_cell rfl rfl rfl (Z.cw.keeps F₃.keep) ?_) (by decide)
    refine PyProof.Rows.eq_str ?_
    rw [T_beq]
    refine wpAny_truthy_bool ?_
    refine ⟨hpi.symm, ?_⟩
    by_cases c : (k == p) = true
    · refine PySem.W.ite_pos c ?_
      refine Subscript_ ?_
      refine wpAny_Name (wpAny_loadName_cell rfl rfl rfl (Z.cd.keeps F₃.keep) ?_) (by decide)
      refine nmL F₃ rfl ?_
      refine dic_item ((hd.ext Z.x).ext F₃.keep) hn fun t4 tk4 => ?_
      exact ⟨h₃, _, _, rfl, F₃, kp_same s₃ (by simp), k, n, t4, hk, hn, rfl⟩
    · refine PySem.W.ite_neg c ?_
      exact ⟨h₃, _, _, rfl, F₃, kp_same s₃ (by simp)⟩
  · intro O h₂ tk₂ ys k₂ hO ns₂ hlO hc
    rw [hS.1] at hc
    exact hQ O _ _ ys (cells_kp Z k₂ ns₂) k₂ hlO (own_is hmem hsrt hc)
theorem blkBeh (Z : Law G h₀ b L s.heap m dv (some (.str (T p) t))) (hh : A.handled = none) (hp : p.length ≤ 1000) (hk4 : ∀ k ∈ keys, k.length ≤ 4) (hkn : keys.length ≤ 10)
    (hmK : m "keys" = some (.ref KL)) (hK : b.IsList KL kv) (hS : StrsL kv keys)
    {Q : Flow → Shared → Prop} (hQ : ∀ O h' tk ys, Law G h₀ b L h' (fun z => if z = "behind" then some (.ref O) else m z) dv (some (.str (T p) t)) → Kp [L] s.heap h' → h'.IsList O (List.toArray ys) → ys.isEmpty = !begP keys p → Q .next { s with heap := h', toks := tk }) :
    wpAny (model PRG w) A (exec (inB (stm 13) 1) (lawEnv L f cdv)) Q E s := by
  refine comp_assign (cl := [("word", L + 1 + 1)]) (hasBeg keys p) (fun i y h => True) (fun _ _ _ _ q _ => q) rfl hh rfl (by decide) rfl (by decide) rfl rfl ?_
  refine nmL Z.F hmK ?_
  refine ⟨KL, kv, m, rfl, Ext.list Z.x hK, by rw [hS.1, sizeLine_eq]; omega, Z.F.ns, ?_, ?_⟩
  · intro C i v m₂ h₂ tk₂ E' hi hv F₂
    obtain ⟨k, tk, hk, rfl⟩ := hS.item hv
    have hkm : k ∈ keys := List.mem_of_getElem? hk
    have hkl := hk4 k hkm
    have hpi : hasBeg keys p i = (k.take p.length == p) := by unfold hasBeg; rw [hk]
    refine wpAny_assign_Name (stL F₂ fun h₃ F₃ s₃ => ?_)
    refine TestW.one ?_
    refine wpAny_isTrue_Compare1 ?_
    refine sub_slice ?_
    refine nmL F₃ rfl ?_
    refine evalPart_none_step ?_
    refine evalPart_some_step ?_
    refine call_b1 (Z.gh) F₃ Z.gh.nLen boot_len (by decide) ?_
    refine wpAny_Name (wpAny_loadName_cell rfl rfl rfl (Z.cw.keeps F₃.keep) ?_) (by decide)
    refine len_T (by omega) fun t5 tk5 => ?_
    refine ⟨k, tk, none, some (_, _), rfl, rfl, rfl, by rw [sizeLine_eq]; omega, fun t6 tk6 h6 x6 => ?_⟩
    have F6 := frx F₃ x6
    simp only [Option.map, cut_take]
    refine wpAny_Name (wpAny_loadName_cell rfl rfl rfl (Z.cw.keeps F6.keep) ?_) (by decide)
    refine PyProof.Rows.eq_str ?_
    rw [T_beq]
    refine wpAny_truthy_bool ?_
    refine ⟨hpi.symm, ?_⟩
    by_cases c : (k.take p.length == p) = true
    · refine PySem.W.ite_pos c ?_
      refine nmL F6 rfl ?_
      exact ⟨h6, _, _, rfl, F6, (kp_same s₃ (by simp)).ext x6, trivial⟩
    · refine PySem.W.ite_neg c ?_
      exact ⟨h6, _, _, rfl, F6, (kp_same s₃ (by simp)).ext x6⟩
  · intro O h₂ tk₂ ys k₂ hO ns₂ hlO hc
    rw [hS.1] at hc
    exact hQ O _ _ ys (cells_kp Z k₂ ns₂) k₂ hlO (by rw [coll_empty hc, beg_any])
end
end
section
/-! law: the two questions of each word -/
section
variable {prog : Program} {w : World} {A : Around} {E : Value → Shared → Prop} {s : Shared}
theorem ne_bools {a c : Bool} {Q : Value → Shared → Prop} (h : Q (.bool (!(a == c))) s) : wpAny (model prog w) A (compareOp .NotEq (.bool a) (.bool c)) Q E s := SeqAt.RcNeAt.bool_bool a c prog w E Q h
/-- l != [] -/
theorem ne_nil {l e : Addr} {ys : List Value} {Q : Value → Shared → Prop} (hu : A.units + 8 < cLine) (hl : s.heap.IsList l ys.toArray) (he : s.heap.IsList e #[]) (h : Q (.bool (!ys.isEmpty)) s) : wpAny (model prog w) A (compareOp .NotEq (.ref l) (.ref e)) Q E s := by
  cases ys with
  | nil => exact ne_same hu hl he rfl (fun j h1 _ => absurd h1 (by simp)) h
  | cons y r => exact SeqAt.RcNeAt.lists_lengths hl he (by simp) (by omega) prog w E Q h
theorem ne_own {o : Option Int} {l e : Addr} {ys zs : List Value} {Q : Value → Shared → Prop} (hu : A.units + 8 < cLine) (hl : s.heap.IsList l ys.toArray) (he : s.heap.IsList e zs.toArray) (h1 : OwnIs o ys) (h2 : OwnIs o zs) (h : Q (.bool false) s) :
    wpAny (model prog w) A (compareOp .NotEq (.ref l) (.ref e)) Q E s := by
  cases o with
  | none =>
    cases h1; cases h2
    exact ne_same hu hl he rfl (fun j h1 _ => absurd h1 (by simp)) h
  | some n =>
    obtain ⟨t, rfl⟩ := h1
    obtain ⟨u, rfl⟩ := h2
    refine ne_same hu hl he rfl (fun j h1 h2 => ?_) h
    match j, h1 with
    | 0, _ =>
      have := SeqAt.EqAt.int_int (A := A.in1) (s := s) n t n u
      rw [beq_self_eq_true] at this; exact this
theorem ne_opts {v u : Value} {o : Option (List Nat)} {Q : Value → Shared → Prop} (h1 : IsOpt v o) (h2 : IsOpt u o) (h : Q (.bool false) s) : wpAny (model prog w) A (compareOp .NotEq v u) Q E s := by
  cases o with
  | none =>
    rw [show v = .none from h1, show u = .none from h2]
    exact SeqAt.RcNeAt.none_none prog w E Q h
  | some l =>
    obtain ⟨t, rfl⟩ := h1
    obtain ⟨t', rfl⟩ := h2
    have := SeqAt.RcNeAt.str_str (A := A) (s := s) (T l) t (T l) t' prog w E Q
    rw [beq_self_eq_true] at this
    exact this h
end
section
variable {w : World} {A : Around} {E : Value → Shared → Prop} {s : Shared} {G : Gl} {h₀ b : Heap} {L f : Addr} {cdv : Value} {m : Str → Option Value} {dv wv : Option Value} {D KL x : Addr} {ps : List (List Nat × Int)} {keys : List (List Nat)} {kv : Array Value} {p : List Nat} {t : Tok}
theorem blkIf1 (Z : Law G h₀ b L s.heap m dv (some (.str (T p) t))) (hst : A.frames = some [lawEnv L f cdv]) (hA : A.depth + 64 < recursionLimit) (hh : A.handled = none) (hu : A.units + 8 < cLine) (Y : TrieOk w G b x ps keys) (hmx : m "trie" = some (.ref x))
    {O : Addr} {ys : List Value} (hmO : m "own" = some (.ref O)) (hO : s.heap.IsList O ys.toArray) (hys : OwnIs (getP ps p) ys)
    {Q : Flow → Shared → Prop} (hQ : ∀ h' tk, Law G h₀ b L h' m dv (some (.str (T p) t)) → Kp [L] s.heap h' → Q .next { s with heap := h', toks := tk }) :
    wpAny (model PRG w) A (exec (inB (stm 13) 2) (lawEnv L f cdv)) Q E s := by
  refine wpAny_If ?_
  refine isTrue_or ?_
  refine wpAny_isTrue_Compare1 ?_
  refine wpAny_Compare1 ?_
  refine nmW Z ?_
  refine nmL Z.F hmx ?_
  refine in_trie Z hA Y fun h₁ tk₁ x₁ => ?_
  have Z1 := Z.ext x₁
  refine wpAny_Compare1 ?_
  refine nmL Z1.F hmO ?_
  refine List_ ?_
  refine args_nil ?_
  refine newList_X fun h₂ x₂ l₂ n₂ => ?_
  have Z2 := Z1.ext x₂
  have hO2 : h₂.IsList O ys.toArray := Ext.list (x₁.trans x₂) hO
  refine ne_nil hu hO2 l₂.list ?_
  refine ne_bools ?_
  refine wpAny_truthy_bool ?_
  have e : (!((getP ps p).isSome == !ys.isEmpty)) = false := by
    cases q : getP ps p with
    | none => rw [q] at hys; rw [show ys = [] from hys]; rfl
    | some n => rw [q] at hys; obtain ⟨t, rfl⟩ := hys; rfl
  rw [e]
  refine PySem.W.ite_neg (by decide) ?_
  refine isTrue_or ?_
  refine wpAny_isTrue_Compare1 ?_
  refine Call_ ?_
  refine nmG Z2.g₀ Z2.F Z2.g₀.mNumber ?_
  refine callW (h₀ := h₂) Z2.gh.fNumber ?_
  refine args_cons ?_ rfl
  refine nmL Z2.F hmx ?_
  refine args_cons ?_ rfl
  refine nmW Z2 ?_
  refine args_nil ?_
  refine ⟨Ext.refl _, ?_⟩
  obtain ⟨K, eK⟩ := Z2.ground hst rfl (show (scpOf sLaw).kind ≠ .module by decide)
  refine number_spec (keys := keys) (ps := ps) K hh (Z2.g.ext eK) (by omega) (Y.ext eK) fun l h₃ tk₃ vs k₃ u₃ hl₃ hv₃ => ?_
  obtain ⟨Z3, k3⟩ := Z2.up k₃ u₃
  refine nmL Z3.F hmO ?_
  have nOL : O ∉ ([L] : List Addr) := fun q => Z.ne_list hO (by rw [List.mem_singleton.mp q]; simp)
  refine ne_own (o := getP ps p) hu hl₃ (k3.list nOL hO2) ?_ hys ?_
  · cases q : getP ps p with
    | none => rw [q] at hv₃; exact hv₃
    | some n => rw [q] at hv₃; exact hv₃
  refine wpAny_truthy_bool ?_
  refine PySem.W.ite_neg (by decide) ?_
  refine isTrue_or_nil ?_
  refine PySem.W.ite_neg (by decide) ?_
  refine wpAny_execs_nil ?_
  exact hQ _ _ Z3 (((x₁.trans x₂).kp _).trans k3)
theorem blkIf2 (Z : Law G h₀ b L s.heap m dv (some (.str (T p) t))) (hst : A.frames = some [lawEnv L f cdv]) (hA : A.depth + 64 < recursionLimit) (hh : A.handled = none) (hu : A.units + 8 < cLine) (Y : TrieOk w G b x ps keys) (hmx : m "trie" = some (.ref x)) (hp : p.length ≤ 1000)
    (hmK : m "keys" = some (.ref KL)) (hK : b.IsList KL kv) (hS : StrsL kv keys)
    {O : Addr} {ys : List Value} (hmO : m "behind" = some (.ref O)) (hO : s.heap.IsList O ys.toArray) (hys : ys.isEmpty = !begP keys p)
    {Q : Flow → Shared → Prop} (hQ : ∀ h' tk, Law G h₀ b L h' m dv (some (.str (T p) t)) → Kp [L] s.heap h' → Q .next { s with heap := h', toks := tk }) :
    wpAny (model PRG w) A (exec (inB (stm 13) 3) (lawEnv L f cdv)) Q E s := by
  refine wpAny_If ?_
  refine isTrue_or ?_
  refine wpAny_isTrue_Compare1 ?_
  refine has_call Z hA hh Y hmx ?_
  refine nmW Z ?_
  refine ⟨p, t, rfl, Ext.refl _, fun h₁ tk₁ x₁ => ?_⟩
  have Z1 := Z.ext x₁
  refine wpAny_Compare1 ?_
  refine nmL Z1.F hmO ?_
  refine List_ ?_
  refine args_nil ?_
  refine newList_X fun h₂ x₂ l₂ n₂ => ?_
  have Z2 := Z1.ext x₂
  have hO2 : h₂.IsList O ys.toArray := Ext.list (x₁.trans x₂) hO
  refine ne_nil hu hO2 l₂.list ?_
  refine ne_bools ?_
  refine wpAny_truthy_bool ?_
  have e : (!(begP keys p == !ys.isEmpty)) = false := by rw [hys]; cases begP keys p <;> rfl
  rw [e]
  refine PySem.W.ite_neg (by decide) ?_
  refine isTrue_or ?_
  refine wpAny_isTrue_Compare1 ?_
  refine Call_ ?_
  refine nmG Z2.g₀ Z2.F Z2.g₀.mPrefix ?_
  refine callW (h₀ := h₂) Z2.gh.fPrefix ?_
  refine args_cons ?_ rfl
  refine nmL Z2.F hmx ?_
  refine args_cons ?_ rfl
  refine nmW Z2 ?_
  refine args_nil ?_
  refine ⟨Ext.refl _, ?_⟩
  obtain ⟨K, eK⟩ := Z2.ground hst rfl (show (scpOf sLaw).kind ≠ .module by decide)
  refine prefix_spec (keys := keys) (ps := ps) K hh (Z2.g.ext eK) (by omega) (Y.ext eK) hp fun v h₃ tk₃ k₃ u₃ hv₃ => ?_
  obtain ⟨Z3, k3⟩ := Z2.up k₃ u₃
  refine Call_ ?_
  refine nmG Z3.g₀ Z3.F Z3.g₀.mLongest ?_
  refine callW (h₀ := h₃) Z3.gh.fLongest ?_
  refine args_cons ?_ rfl
  refine nmL Z3.F hmK ?_
  refine args_cons ?_ rfl
  refine nmW Z3 ?_
  refine args_nil ?_
  refine ⟨Ext.refl _, ?_⟩
  refine longest_spec (keys := keys) Z3.gh (by omega) hh (Ext.list Z3.x hK) hS (fun k hk => by have := Y.short k hk; omega) hp _ _ ?_
  rintro v' h₄ tk₄ x₄ hv₄
  refine ne_opts hv₃ hv₄ ?_
  refine wpAny_truthy_bool ?_
  refine PySem.W.ite_neg (by decide) ?_
  refine isTrue_or_nil ?_
  refine PySem.W.ite_neg (by decide) ?_
  refine wpAny_execs_nil ?_
  exact hQ _ _ (Z3.ext x₄) ((((x₁.trans x₂).kp _).trans k3).ext x₄)
end
end
section
/-! law: statement 13 -/
section
variable {w : World} {A : Around} {E : Value → Shared → Prop} {s : Shared} {G : Gl} {h₀ b : Heap} {L f : Addr} {cdv : Value} {m : Str → Option Value} {dv wv : Option Value} {D KL x AL : Addr} {ps : List (List Nat × Int)} {keys : List (List Nat)} {kv av : Array Value}
theorem blk13 (Z : Law G h₀ b L s.heap m (some (.ref D)) wv) (hst : A.frames = some [lawEnv L f cdv]) (hA : A.depth + 64 < recursionLimit) (hh : A.handled = none) (hu : A.units + 8 < cLine) (Y : TrieOk w G b x ps keys) (hd : DicI w b D ps)
    (hmx : m "trie" = some (.ref x)) (hmK : m "keys" = some (.ref KL)) (hK : b.IsList KL kv) (hS : StrsL kv keys) (hmA : m "asked" = some (.ref AL)) (lA : s.heap.IsList AL av) {ks : List (List Nat)} (sA : StrsL av ks) (hks : ks.length ≤ 62) (hk5 : ∀ k ∈ ks, k.length ≤ 5)
    {Q : Flow → Shared → Prop} (hQ : ∀ h' tk m' wv', Law G h₀ b L h' m' (some (.ref D)) wv' → Same ["own", "behind"] m m' → Q .next { s with heap := h', toks := tk }) :
    wpAny (model PRG w) A (exec (stm 13) (lawEnv L f cdv)) Q E s := by
  refine wpAny_For ?_
  refine rev_list (fun Q s h => UnaryOp_ (wpAny_Constant_int (neg_int (h _ _)))) ?_
  refine call_b1 Z.g₀ Z.F Z.g₀.nSorted boot_sorted (by decide) ?_
  refine nmL Z.F hmA ?_
  refine sorted_list lA sA (by omega) fun D₁ h₁ out os x₁ hn₁ hl₁ hS₁ hp₁ hs₁ => ?_
  have Z1 := Z.ext x₁
  have hol : os.length = ks.length := hp₁.length_eq
  refine ⟨D₁, out, rfl, hl₁, by rw [hS₁.1, hol, sizeLine_eq]; omega, fun R ws h₂ tk₂ x₂ hl₂ hn₂ hw₂ => ?_⟩
  have Z2 := Z1.ext x₂
  have hws : ∀ (i : Nat) v, ws[i]? = some v → ∃ p t, v = .str (T p) t ∧ p.length ≤ 5 := fun i v e => by
    obtain ⟨j, e'⟩ := hw₂ i v e
    obtain ⟨k, t, hk, rfl⟩ := hS₁.item e'
    exact ⟨k, t, rfl, hk5 k (hp₁.mem_iff.mp (List.mem_of_getElem? hk))⟩
  have hRL : R ∉ LW L := Z2.ne_list hl₂
  have nRL : R ≠ L := fun q => hRL (by rw [q]; simp)
  have nR2 : R ≠ L + 1 + 1 := fun q => hRL (by rw [q]; simp)
  have hW : ∀ a ∈ L :: [L + 1 + 1], b.get? a = none := fun a ha => by
    rcases List.mem_cons.mp ha with rfl | ha
    · exact Z.bL
    · rw [List.mem_singleton.mp ha]; exact Z.bw
  have cdk : ∀ {h' : Heap}, Kp (L :: [L + 1 + 1]) h₂ h' → h'.IsCell (L + 1) (some (.ref D)) := fun {h'} K => by
    obtain ⟨o, ho, hd⟩ := Z2.cd
    refine ⟨o, K _ _ ?_ ho, hd⟩
    intro q
    rcases List.mem_cons.mp q with q | q
    · exact Nat.succ_ne_self L q
    · exact Nat.succ_ne_self _ (List.mem_singleton.mp q).symm
  refine for_list (s := { s with heap := h₂, toks := tk₂ }) (b₀ := h₀) (L := L) (items := ws) [L + 1 + 1] hh Z2.F hl₂ nRL (fun q => nR2 (List.mem_singleton.mp q)) (fun a ha => by rw [List.mem_singleton.mp ha]; obtain ⟨o, ho, _⟩ := Z2.cw; exact Heap.lt_size ho)
    (fun i m' h => Same ["own", "behind"] m m' ∧ ∃ wv, h.IsCell (L + 1 + 1) wv) ?_ ⟨fun _ _ => rfl, _, Z2.cw⟩ ?_ ?_
  · rintro i m' h h' ⟨i1, v, o, ho, hv⟩ k
    exact ⟨i1, v, o, k _ (.head _) _ ho, hv⟩
  · rintro i v m₁ h₃ tk₃ E' hv ⟨i1, wv₁, c1⟩ F₁ K₁
    obtain ⟨p, t, rfl, hp5⟩ := hws i v hv
    have Z3 : Law G h₀ b L h₃ m₁ (some (.ref D)) wv₁ := Z2.kp K₁ hW F₁ (cdk K₁) c1
    refine wpAny_assign_Name (stW Z3 fun h₄ Z4 s4 => ?_)
    have k4 : Kp [L, L + 1 + 1] h₃ h₄ := kp_same s4 (by simp)
    have hmK₁ : m₁ "keys" = some (.ref KL) := by rw [i1 "keys" (by decide)]; exact hmK
    have hmx₁ : m₁ "trie" = some (.ref x) := by rw [i1 "trie" (by decide)]; exact hmx
    refine wpAny_execs_cons ?_
    refine blkOwn Z4 hh hd Y.mem Y.srt Y.num hmK₁ hK hS fun O h₅ tk₅ ys Z5 k5 hO5 hys => ?_
    dsimp only
    refine wpAny_execs_cons ?_
    refine blkBeh Z5 hh (Nat.le_trans hp5 (by decide)) Y.short Y.num (by exact hmK₁) hK hS fun O' h₆ tk₆ zs Z6 k6 hO6 hzs => ?_
    dsimp only
    have nO : O ∉ ([L] : List Addr) := fun q => Z5.ne_list hO5 (by rw [List.mem_singleton.mp q]; simp)
    have nO' : O' ∉ ([L] : List Addr) := fun q => Z6.ne_list hO6 (by rw [List.mem_singleton.mp q]; simp)
    refine wpAny_execs_cons ?_
    refine blkIf1 Z6 hst hA hh hu Y (by exact hmx₁) rfl (k6.list nO hO5) hys fun h₇ tk₇ Z7 k7 => ?_
    dsimp only
    refine wpAny_execs_cons ?_
    refine blkIf2 (p := p) Z7 hst hA hh hu Y (by exact hmx₁) (Nat.le_trans hp5 (by decide)) (by exact hmK₁) hK hS rfl (k7.list nO' hO6) hzs fun h₈ tk₈ Z8 k8 => ?_
    dsimp only
    refine wpAny_execs_nil ?_
    have up : ∀ {a c : Heap}, Kp [L] a c → Kp [L, L + 1 + 1] a c := fun k => k.sub fun p hp => by rw [List.mem_singleton.mp hp]; simp
    refine ⟨h₈, _, _, rfl, Z8.F, (((k4.trans (up k5)).trans (up k6)).trans (up k7)).trans (up k8), fun z hz => ?_, _, Z8.cw⟩
    show (if z = Str.ofString "behind" then _ else if z = Str.ofString "own" then _ else m₁ z) = m z
    rw [if_neg (fun q => hz (by rw [q]; simp)), if_neg (fun q => hz (by rw [q]; simp))]
    exact i1 z hz
  · rintro h' tk m' ⟨i1, wv', c'⟩ F' K'
    exact hQ _ _ m' wv' (Z2.kp K' hW F' (cdk K') c') i1
end
end
section
/-! law: text -/
theorem str_T (x : Str) : ∃ l, x = T l ∧ l.length = x.length := ⟨x.cps.toList, by cases x; simp [T], by simp [Str.length]⟩
section
variable {prog : Program} {w : World} {A : Around} {E : Value → Shared → Prop} {s : Shared} {env : Env}
/-- e[:k], e any text -/
theorem upto_T {value : Expr} {k : Nat} {kpos p pos : Pos} {kk : Nat} {Q : Value → Shared → Prop}
    (h : wpAny (model prog w) A (eval value env) (fun o s₁ => ∃ l t, o = .str (T l) t ∧ l.length ≤ sizeLine ∧ ∀ t' tk h', Ext s₁.heap h' → Q (.str (T (l.take k)) t') { s₁ with heap := h', toks := tk }) E s)
    (hs : ∀ x t b, subscripted (.Slice none (some (.Constant (.int k) kk kpos)) none p) false (.str x t) (.ref b) = operate [.str x t, .ref b] (getItem (.str x t) (.ref b)) := by intro _ _ _; with_unfolding_all rfl) :
    wpAny (model prog w) A (eval (.Subscript value (.Slice none (some (.Constant (.int k) kk kpos)) none p) pos) env) Q E s := by
  refine Subscript_ (wpAny_mono h (fun o s₁ h₁ => ?_) fun _ _ e => e)
  obtain ⟨l, t, rfl, hsz, hq⟩ := h₁
  refine wpAny_Slice ?_
  refine evalPart_none_step ?_
  refine evalPart_some_step ?_
  refine wpAny_Constant_int ?_
  refine evalPart_none_step ?_
  refine tail_any (T := "str") (typeIs_str _ _ _) PySem.F.slot_str_getitem.lookup ?_ (hs _ _ _)
  refine wpAny_getItem_str_slice (l := none) (u := some (_, _)) (st := none) ⟨_, Heap.get?_push_size _ rfl, rfl, rfl⟩ rfl ?_
  refine sliceMade_post hsz fun t' tk => ?_
  simp only [Option.map, cut_take]
  exact hq _ _ _ (Ext.push _ _)
end
section
variable {w : World} {A : Around} {E : Value → Shared → Prop} {s : Shared} {G : Gl} {h₀ b : Heap} {L f : Addr} {cdv : Value} {m : Str → Option Value} {dv wv : Option Value}
theorem blk14 (Z : Law G h₀ b L s.heap m dv wv) (hh : A.handled = none) {P : Addr} {ns : List Int} (hP : PairsL b P ns) (hns : ns.length ≤ 10) (hmP : m "pairs" = some (.ref P))
    {Q : Flow → Shared → Prop} (hQ : ∀ l t h' tk, Law G h₀ b L h' (fun z => if z = "text" then some (.str (T l) t) else m z) dv wv → l.length ≤ 16 → Q .next { s with heap := h', toks := tk }) :
    wpAny (model PRG w) A (exec (stm 14) (lawEnv L f cdv)) Q E s := by
  obtain ⟨pv, hPl, hPn, hPy⟩ := hP
  refine wpAny_Assign_Name ?_ rfl
  refine upto_T (k := 16) ?_
  refine MethodCall_ ?_ rfl
  refine PySem.Calls.Constant_str ?_
  refine getMethod_builtin (typeIs_str _ _ _) PySem.F.plainAttrs_str PySem.F.slot_str_join PySem.F.type_str_join (fun _ q => nomatch q) ?_
  refine callWith_method1 (args_cons ?_ rfl) rfl
  refine comp_list (cl := []) (fun _ => true) (fun i y h => ∃ l t, y = .str (T l) t ∧ l.length ≤ 5) (fun _ _ _ _ q _ => q) hh rfl (by decide) rfl (by decide) ?_
  refine nmL Z.F hmP ?_
  refine ⟨P, pv.toArray, rfl, Ext.list Z.x hPl, by rw [List.size_toArray, hPn, sizeLine_eq]; omega, ?_, ?_⟩
  · intro C i v m₃ h₃ tk₃ E' hi hv F₃
    have hin : i < ns.length := by simpa [hPn] using hi
    have hn : ns[i]? = some ns[i] := List.getElem?_eq_getElem hin
    generalize ns[i] = n at hn
    obtain ⟨y, ey, a, t1, t2, rfl, pt⟩ := hPy i n hn
    obtain rfl : v = .ref a := by
      have : pv[i]? = some v := by simpa using hv
      rw [ey] at this; exact (Option.some.inj this).symm
    refine asg2 hh (Ext.tup F₃.keep (Z.x.tup pt)) fun h₄ x₄ => ?_
    refine wpAny_assign_Name (stL (frx F₃ x₄) fun h₅ F₅ s₅ => ?_)
    refine wpAny_assign_Name (stL F₅ fun h₆ F₆ s₆ => ?_)
    refine TestW.nil ?_
    refine ⟨rfl, ?_⟩
    refine PySem.W.ite_pos rfl ?_
    refine nmL F₆ rfl ?_
    have hwl := wrd_len n
    exact ⟨h₆, _, _, rfl, F₆, ((x₄.kp _).same s₅ (by simp)).same s₆ (by simp), _, _, rfl, by omega⟩
  · intro D₃ h₃ tk₃ ys x₃ hn₃ hl₃ hc₃
    obtain ⟨k₃, s₃, c₃, q₃⟩ := coll_short hc₃
    rw [List.size_toArray, hPn] at c₃
    refine args_nil ?_
    have hsum : ∀ r : List (List Nat), (∀ k ∈ r, k.length ≤ 5) → ((r.map T).map (·.length)).sum ≤ 5 * r.length := by
      intro r
      induction r with
      | nil => intro _; simp
      | cons k r ih =>
        intro h
        have := ih fun x hx => h x (.tail _ hx)
        have hk := h k (.head _)
        simp only [List.map_cons, List.sum_cons, List.length_cons, T_len]
        omega
    have hs5 := hsum k₃ q₃
    have e0 : (Str.ofString "").length = 0 := by rw [ofs_nil, T_len]; rfl
    refine join_listC hl₃ (are_arr s₃) (by rw [e0]; decide) (by rw [List.length_map]; omega) fun t' tk' => ?_
    obtain ⟨l, el, hl⟩ := str_T (Txt.join (Str.ofString "") (k₃.map T))
    rw [el]
    have hlen : l.length ≤ 50 := by
      rw [hl]
      have e : Txt.join (Str.ofString "") (k₃.map T) = Str.join (Str.ofString "") (k₃.map T) := PySem.StrLaws.glued_eq_join _ _
      rw [e]
      have := PySem.StrLaws.join_length_le (Str.ofString "") (k₃.map T)
      rw [e0] at this
      omega
    refine ⟨l, t', rfl, by rw [sizeLine_eq]; omega, fun t₅ tk₅ h₅ x₅ => ?_⟩
    refine stZ ((Z.ext x₃).ext x₅) fun h₆ Z6 s6 => ?_
    exact hQ _ _ _ _ Z6 (by rw [List.length_take]; omega)
end
end
section
/-! law: reading the text, plain -/
theorem cpl_iff : ∀ (k r : List Nat) (j : Nat), j ≤ cpl k r ↔ j ≤ r.length ∧ r.take j <+: k
  | [], r, j => by
    have e0 : cpl [] r = 0 := by cases r <;> rfl
    rw [e0]
    constructor
    · intro h
      have : j = 0 := Nat.le_zero.mp h
      subst this; simp
    · rintro ⟨h, e⟩
      have := e.length_le
      rw [List.length_take, List.length_nil] at this
      omega
  | a :: k, [], j => by
    simp only [cpl]
    constructor
    · intro h; have : j = 0 := by omega
      subst this; simp
    · rintro ⟨h, _⟩; simpa using h
  | a :: k, b :: r, 0 => by simp [cpl]
  | a :: k, b :: r, j + 1 => by
    rw [cpl]
    by_cases e : a = b
    · subst e
      rw [if_pos rfl, List.take_succ_cons, List.cons_prefix_cons, List.length_cons]
      have := cpl_iff k r j
      constructor
      · intro h; obtain ⟨h1, h2⟩ := this.mp (by omega); exact ⟨by omega, rfl, h2⟩
      · rintro ⟨h1, _, h2⟩; have := this.mpr ⟨by omega, h2⟩; omega
    · rw [if_neg e, List.take_succ_cons, List.cons_prefix_cons]
      constructor
      · intro h; omega
      · rintro ⟨_, h, _⟩; exact absurd h.symm e
theorem along_ge {r : List Nat} {j : Nat} (h0 : 0 < j) : ∀ (l : List (List Nat)) (acc : Nat), (j ≤ l.foldl (fun far key => max far (cpl key r)) acc ↔ j ≤ acc ∨ ∃ k ∈ l, j ≤ cpl k r)
  | [], acc => by simp
  | x :: l, acc => by
    rw [List.foldl_cons, along_ge h0 l]
    simp only [List.mem_cons, exists_eq_or_imp]
    rw [show (j ≤ max acc (cpl x r)) ↔ (j ≤ acc ∨ j ≤ cpl x r) by omega, or_assoc]
theorem along_iff {keys : List (List Nat)} {r : List Nat} {j : Nat} (h0 : 0 < j) (hj : j ≤ r.length) : begP keys (r.take j) = true ↔ j ≤ alongL keys r := by
  unfold alongL
  rw [along_ge h0, begP_iff]
  constructor
  · rintro ⟨k, hk, e⟩; exact .inr ⟨k, hk, (cpl_iff k r j).mpr ⟨hj, e⟩⟩
  · rintro (h | ⟨k, hk, e⟩)
    · exact absurd h (by omega)
    · exact ⟨k, hk, ((cpl_iff k r j).mp e).2⟩
theorem along_len (keys : List (List Nat)) (r : List Nat) : alongL keys r ≤ r.length := by
  rcases Nat.eq_zero_or_pos (alongL keys r) with h | h
  · omega
  · have := (along_ge (r := r) h keys 0).mp (Nat.le_refl _)
    rcases this with q | ⟨k, _, q⟩
    · exact absurd h (Nat.not_lt.mpr (by unfold alongL; exact q))
    · exact ((cpl_iff k r _).mp q).1
theorem take_key {keys : List (List Nat)} {r k : List Nat} (hk : k ∈ keys) : ((r.take (alongL keys r)).take k.length == k) = (r.take k.length == k) := by
  rw [Bool.eq_iff_iff, beq_iff_eq, beq_iff_eq, List.take_take]
  constructor
  · intro e
    have l := congrArg List.length e
    rw [List.length_take] at l
    rw [show min k.length (alongL keys r) = k.length by omega] at e
    exact e
  · intro e
    have l := congrArg List.length e
    rw [List.length_take] at l
    have : k.length ≤ alongL keys r := by
      rcases Nat.eq_zero_or_pos k.length with h | h
      · omega
      · refine (along_iff h (by omega)).mp ?_
        rw [e]; exact begP_iff.mpr ⟨k, hk, List.prefix_refl _⟩
    rw [show min k.length (alongL keys r) = k.length by omega]
    exact e
theorem fold_congr {α β : Type} {f g : β → α → β} : ∀ (l : List α) (b : β), (∀ b, ∀ a ∈ l, f b a = g b a) → l.foldl f b = l.foldl g b
  | [], _, _ => rfl
  | x :: l, b, h => by rw [List.foldl_cons, List.foldl_cons, h b x (.head _)]; exact fold_congr l _ fun b a ha => h b a (.tail _ ha)
theorem long_along (keys : List (List Nat)) (r : List Nat) : longestL keys (r.take (alongL keys r)) = longestL keys r := by
  unfold longestL
  refine fold_congr keys none fun b k hk => ?_
  unfold longStep
  rw [take_key hk]
end
section
/-! law: reading the text -/
section
variable {w : World} {A : Around} {E : Value → Shared → Prop} {s : Shared} {G : Gl} {h₀ b : Heap} {L f : Addr} {cdv : Value} {m : Str → Option Value} {dv wv : Option Value} {KL x : Addr} {ps : List (List Nat × Int)} {keys : List (List Nat)} {kv : Array Value} {text : List Nat} {tt : Tok}
theorem innerW (Z : Law G h₀ b L s.heap m dv wv) (hA : A.depth + 64 < recursionLimit) (hh : A.handled = none) (Y : TrieOk w G b x ps keys) (hmx : m "trie" = some (.ref x)) (hmt : m "text" = some (.str (T text) tt)) (ht : text.length ≤ 16)
    {place : Nat} {tp te : Tok} (hmp : m "place" = some (.int (place : Nat) tp)) (hme : m "end" = some (.int (place : Nat) te)) (hpl : place < text.length)
    {Q : Flow → Shared → Prop} (hQ : ∀ h' tk m' te', Law G h₀ b L h' m' dv wv → Same ["end"] m m' → m' "end" = some (.int ((place + alongL keys (text.drop place) : Nat) : Int) te') → Q .next { s with heap := h', toks := tk }) :
    wpAny (model PRG w) A (exec (inB (stm 16) 1) (lawEnv L f cdv)) Q E s := by
  have hal := along_len keys (text.drop place)
  rw [List.length_drop] at hal
  refine wpAny_While ?_
  refine codeAny_whileLoop (fun k s' => ∃ h' tk' m' e te', s' = { s with heap := h', toks := tk' } ∧ Law G h₀ b L h' m' dv wv ∧ Same ["end"] m m' ∧ m' "end" = some (.int ((place + e : Nat) : Int) te') ∧ e ≤ alongL keys (text.drop place) ∧ k = alongL keys (text.drop place) - e) ?_ (alongL keys (text.drop place))
    ⟨s.heap, s.toks, m, 0, te, rfl, Z, fun _ _ => rfl, hme, Nat.zero_le _, rfl⟩
  rintro k s' ⟨h, tk, m₁, e, te₁, rfl, Z₁, sm, me, he, rfl⟩
  have mt : m₁ "text" = some (.str (T text) tt) := by rw [sm "text" (by decide)]; exact hmt
  have mp : m₁ "place" = some (.int (place : Nat) tp) := by rw [sm "place" (by decide)]; exact hmp
  have mx : m₁ "trie" = some (.ref x) := by rw [sm "trie" (by decide)]; exact hmx
  have fin : ∀ (h₂ : Heap) (tk₂ : Nat) (E' : Value → Shared → Prop), Law G h₀ b L h₂ m₁ dv wv → e = alongL keys (text.drop place) → wpAny (model PRG w) A (execs [] (lawEnv L f cdv)) Q E' { s with heap := h₂, toks := tk₂ } := fun h₂ tk₂ E' Z₂ q => by
    refine wpAny_execs_nil ?_
    exact hQ _ _ m₁ te₁ Z₂ sm (q ▸ me)
  refine isTrue_and ?_
  refine wpAny_isTrue_Compare1 ?_
  refine nmL Z₁.F me ?_
  refine call_b1 Z₁.g₀ Z₁.F Z₁.g₀.nLen boot_len (by decide) ?_
  refine nmL Z₁.F mt ?_
  refine len_T (by omega) fun t5 tk5 => ?_
  refine lt_int ?_
  refine wpAny_truthy_bool ?_
  by_cases c1 : place + e < text.length
  · refine PySem.W.ite_pos (by simp only [decide_eq_true_eq]; omega) ?_
    refine isTrue_and ?_
    refine isTrue_plain ?_
    refine has_call Z₁ hA hh Y mx ?_
    refine sub_slice ?_
    refine nmL Z₁.F mt ?_
    refine evalPart_some_step ?_
    refine nmL Z₁.F mp ?_
    refine evalPart_some_step ?_
    refine wpAny_BinOp ?_
    refine nmL Z₁.F me ?_
    refine wpAny_Constant_int ?_
    refine add_int ?_
    refine ⟨text, tt, some (_, _), some (_, _), rfl, rfl, rfl, by rw [sizeLine_eq]; omega, fun t6 tk6 h6 x6 => ?_⟩
    simp only [Option.map]
    have ec : cut text (some (place : Int)) (some (((place + e : Nat) : Int) + 1)) = (text.drop place).take (e + 1) := by
      rw [show (((place + e : Nat) : Int) + 1) = ((place + e + 1 : Nat) : Int) from rfl, cut_mid _ _ _ (by omega), show place + e + 1 - place = e + 1 by omega]
    refine ⟨(text.drop place).take (e + 1), t6, congrArg (fun l => Value.str (T l) t6) ec, x6, fun h7 tk7 x7 => ?_⟩
    have Z7 := Z₁.ext (x6.trans x7)
    have hai := along_iff (keys := keys) (r := text.drop place) (j := e + 1) (by omega) (by rw [List.length_drop]; omega)
    refine wpAny_truthy_bool ?_
    by_cases c2 : begP keys ((text.drop place).take (e + 1)) = true
    · refine PySem.W.ite_pos c2 ?_
      refine isTrue_and_nil ?_
      refine PySem.W.ite_pos rfl ?_
      refine wpAny_execs_cons ?_
      refine wpAny_Assign_Name ?_ rfl
      refine wpAny_BinOp ?_
      refine nmL Z7.F me ?_
      refine wpAny_Constant_int ?_
      refine add_int ?_
      refine stZ Z7 fun h8 Z8 s8 => ?_
      dsimp only
      refine wpAny_execs_nil ?_
      have hlt := hai.mp c2
      refine ⟨alongL keys (text.drop place) - (e + 1), by omega, h8, _, _, e + 1, _, rfl, Z8, fun z hz => ?_, rfl, hlt, rfl⟩
      show (if z = Str.ofString "end" then _ else m₁ z) = m z
      rw [if_neg (fun q => hz (by rw [q]; simp))]
      exact sm z hz
    · refine PySem.W.ite_neg c2 ?_
      refine PySem.W.ite_neg (by decide) ?_
      refine fin h7 _ _ Z7 ?_
      rcases Nat.lt_or_ge e (alongL keys (text.drop place)) with q | q
      · exact absurd (hai.mpr q) c2
      · omega
  · refine PySem.W.ite_neg (by simp only [decide_eq_true_eq]; omega) ?_
    refine PySem.W.ite_neg (by decide) ?_
    exact fin h _ _ Z₁ (by omega)
end
end
section
/-! law: reading the text, the whole -/
section
variable {w : World} {A : Around} {E : Value → Shared → Prop} {s : Shared} {G : Gl} {h₀ b : Heap} {L f : Addr} {cdv : Value} {m : Str → Option Value} {dv wv : Option Value} {KL x : Addr} {ps : List (List Nat × Int)} {keys : List (List Nat)} {kv : Array Value} {text : List Nat} {tt : Tok}
theorem blk16 (Z : Law G h₀ b L s.heap m dv wv) (hst : A.frames = some [lawEnv L f cdv]) (hA : A.depth + 64 < recursionLimit) (hh : A.handled = none) (Y : TrieOk w G b x ps keys) (hmx : m "trie" = some (.ref x)) (hmt : m "text" = some (.str (T text) tt)) (ht : text.length ≤ 16)
    (hmK : m "keys" = some (.ref KL)) (hK : b.IsList KL kv) (hS : StrsL kv keys) {tp : Tok} (hmp : m "place" = some (.int 0 tp))
    {Q : Flow → Shared → Prop} (hQ : ∀ h' tk m', Law G h₀ b L h' m' dv wv → Q .next { s with heap := h', toks := tk }) :
    wpAny (model PRG w) A (exec (stm 16) (lawEnv L f cdv)) Q E s := by
  refine wpAny_While ?_
  refine codeAny_whileLoop (fun k s' => ∃ h' tk' m' place tp', s' = { s with heap := h', toks := tk' } ∧ Law G h₀ b L h' m' dv wv ∧ Same ["place", "end", "piece"] m m' ∧ m' "place" = some (.int (place : Nat) tp') ∧ k = text.length - place) ?_ text.length
    ⟨s.heap, s.toks, m, 0, tp, rfl, Z, fun _ _ => rfl, hmp, rfl⟩
  rintro k s' ⟨h, tk, m₁, place, tp₁, rfl, Z₁, sm, mp, rfl⟩
  have mt : m₁ "text" = some (.str (T text) tt) := by rw [sm "text" (by decide)]; exact hmt
  have mx : m₁ "trie" = some (.ref x) := by rw [sm "trie" (by decide)]; exact hmx
  have mK : m₁ "keys" = some (.ref KL) := by rw [sm "keys" (by decide)]; exact hmK
  refine wpAny_isTrue_Compare1 ?_
  refine nmL Z₁.F mp ?_
  refine call_b1 Z₁.g₀ Z₁.F Z₁.g₀.nLen boot_len (by decide) ?_
  refine nmL Z₁.F mt ?_
  refine len_T (by omega) fun t5 tk5 => ?_
  refine lt_int ?_
  refine wpAny_truthy_bool ?_
  by_cases c : place < text.length
  · refine PySem.W.ite_pos (by simp only [decide_eq_true_eq]; omega) ?_
    refine wpAny_execs_cons ?_
    refine wpAny_Assign_Name ?_ rfl
    refine nmL Z₁.F mp ?_
    refine stZ Z₁ fun h₂ Z2 s2 => ?_
    dsimp only
    refine wpAny_execs_cons ?_
    refine innerW Z2 hA hh Y (by exact mx) (by exact mt) ht (by exact mp) rfl c fun h₃ tk₃ m₃ te₃ Z3 sm3 me3 => ?_
    dsimp only
    have m3 : ∀ z : Str, z ≠ "end" → m₃ z = m₁ z := fun z hz => by
      rw [sm3 z (fun q => hz (List.mem_singleton.mp q))]
      show (if z = Str.ofString "end" then _ else m₁ z) = m₁ z
      rw [if_neg hz]
    have mt3 : m₃ "text" = some (.str (T text) tt) := by rw [m3 "text" (by decide)]; exact mt
    have mx3 : m₃ "trie" = some (.ref x) := by rw [m3 "trie" (by decide)]; exact mx
    have mK3 : m₃ "keys" = some (.ref KL) := by rw [m3 "keys" (by decide)]; exact mK
    have mp3 : m₃ "place" = some (.int (place : Nat) tp₁) := by rw [m3 "place" (by decide)]; exact mp
    refine wpAny_execs_cons ?_
    refine wpAny_Assign_Name ?_ rfl
    refine Call_ ?_
    refine nmG Z3.g₀ Z3.F Z3.g₀.mPrefix ?_
    refine callW (h₀ := h₃) Z3.gh.fPrefix ?_
    refine args_cons ?_ rfl
    refine nmL Z3.F mx3 ?_
    refine args_cons ?_ rfl
    refine sub_slice ?_
    refine nmL Z3.F mt3 ?_
    refine evalPart_some_step ?_
    refine nmL Z3.F mp3 ?_
    refine evalPart_some_step ?_
    refine nmL Z3.F me3 ?_
    refine ⟨text, tt, some (_, _), some (_, _), rfl, rfl, rfl, by rw [sizeLine_eq]; omega, fun t6 tk6 h6 x6 => ?_⟩
    simp only [Option.map]
    have ec : cut text (some (place : Int)) (some ((place + alongL keys (text.drop place) : Nat) : Int)) = (text.drop place).take (alongL keys (text.drop place)) := by
      rw [cut_mid _ _ _ (by omega), show place + alongL keys (text.drop place) - place = alongL keys (text.drop place) by omega]
    refine args_nil ?_
    refine ⟨x6, ?_⟩
    generalize hcl : cut text (some (place : Int)) (some ((place + alongL keys (text.drop place) : Nat) : Int)) = cl
    rw [hcl] at ec
    have Z6 := Z3.ext x6
    obtain ⟨K, eK⟩ := Z6.ground hst rfl (show (scpOf sLaw).kind ≠ .module by decide)
    have hcl4 : cl.length ≤ 1000 := by rw [ec, List.length_take, List.length_drop]; omega
    refine prefix_spec (keys := keys) (ps := ps) K hh (Z6.g.ext eK) (by omega) (Y.ext eK) hcl4 fun v h₇ tk₇ k₇ u₇ hv₇ => ?_
    rw [ec, long_along] at hv₇
    obtain ⟨Z7, k7⟩ := Z6.up k₇ u₇
    refine stZ Z7 fun h₈ Z8 s8 => ?_
    dsimp only
    refine wpAny_execs_cons ?_
    refine wpAny_If ?_
    refine isTrue_or ?_
    refine wpAny_isTrue_Compare1 ?_
    refine wpAny_BinOp ?_
    refine nmL Z8.F (by exact me3) ?_
    refine nmL Z8.F (by exact mp3) ?_
    refine sub_int ?_
    refine Call_ ?_
    refine nmG Z8.g₀ Z8.F Z8.g₀.mAlong ?_
    refine callW (h₀ := h₈) Z8.gh.fAlong ?_
    refine args_cons ?_ rfl
    refine nmL Z8.F (by exact mK3) ?_
    refine args_cons ?_ rfl
    refine sub_slice ?_
    refine nmL Z8.F (by exact mt3) ?_
    refine evalPart_some_step ?_
    refine nmL Z8.F (by exact mp3) ?_
    refine evalPart_none_step ?_
    refine ⟨text, tt, some (_, _), none, rfl, rfl, rfl, by rw [sizeLine_eq]; omega, fun t9 tk9 h9 x9 => ?_⟩
    simp only [Option.map, cut_drop]
    refine args_nil ?_
    refine ⟨x9, ?_⟩
    have Z9 := Z8.ext x9
    have hk1000 : ∀ k ∈ keys, k.length ≤ 1000 := fun k hk => by have := Y.short k hk; omega
    have hdr : (text.drop place).length ≤ 1000 := by rw [List.length_drop]; omega
    refine along_spec (keys := keys) (text := text.drop place) Z9.gh (by omega) hh (Ext.list Z9.x hK) hS hk1000 hdr _ _ ?_
    rintro v10 h10 tk10 x10 ⟨t10, rfl⟩
    have Z10 := Z9.ext x10
    refine ne_int ?_
    refine wpAny_truthy_bool ?_
    refine PySem.W.ite_neg ?_ ?_
    · have e : (((place + alongL keys (text.drop place) : Nat) : Int) - (place : Int)) = ((alongL keys (text.drop place) : Nat) : Int) := by omega
      rw [e]; simp
    refine isTrue_or ?_
    refine wpAny_isTrue_Compare1 ?_
    refine nmL Z10.F rfl ?_
    refine Call_ ?_
    refine nmG Z10.g₀ Z10.F Z10.g₀.mLongest ?_
    refine callW (h₀ := h10) Z10.gh.fLongest ?_
    refine args_cons ?_ rfl
    refine nmL Z10.F (by exact mK3) ?_
    refine args_cons ?_ rfl
    refine sub_slice ?_
    refine nmL Z10.F (by exact mt3) ?_
    refine evalPart_some_step ?_
    refine nmL Z10.F (by exact mp3) ?_
    refine evalPart_none_step ?_
    refine ⟨text, tt, some (_, _), none, rfl, rfl, rfl, by rw [sizeLine_eq]; omega, fun t11 tk11 h11 x11 => ?_⟩
    simp only [Option.map, cut_drop]
    refine args_nil ?_
    refine ⟨x11, ?_⟩
    have Z11 := Z10.ext x11
    refine longest_spec (keys := keys) (text := text.drop place) Z11.gh (by omega) hh (Ext.list Z11.x hK) hS hk1000 hdr _ _ ?_
    rintro v12 h12 tk12 x12 hv12
    have Z12 := Z11.ext x12
    refine ne_opts hv₇ hv12 ?_
    refine wpAny_truthy_bool ?_
    refine PySem.W.ite_neg (by decide) ?_
    refine isTrue_or_nil ?_
    refine PySem.W.ite_neg (by decide) ?_
    refine wpAny_execs_nil ?_
    dsimp only
    refine wpAny_execs_cons ?_
    refine wpAny_Assign_Name ?_ rfl
    refine wpAny_BinOp ?_
    refine nmL Z12.F (by exact mp3) ?_
    refine wpAny_IfExp ?_
    refine isTrue_plain ?_
    refine nmL Z12.F rfl ?_
    have smf : ∀ (u : Value) (z : Str), z ∉ (["place", "end", "piece"] : List Str) → (fun y => if y = Str.ofString "place" then some u else (fun y => if y = Str.ofString "piece" then some v else m₃ y) y) z = m z := fun u z hz => by
      show (if z = Str.ofString "place" then _ else (if z = Str.ofString "piece" then _ else m₃ z)) = m z
      rw [if_neg (fun q => hz (by rw [q]; simp)), if_neg (fun q => hz (by rw [q]; simp)), m3 z (fun q => hz (by rw [q]; simp))]
      exact sm z hz
    cases hlg : longestL keys (text.drop place) with
    | none =>
      rw [hlg] at hv₇
      have hv : v = .none := hv₇
      subst hv
      refine truthy_none ?_
      refine PySem.W.ite_neg (by decide) ?_
      refine wpAny_Constant_int ?_
      refine add_int ?_
      refine stZ Z12 fun h13 Z13 s13 => ?_
      dsimp only
      refine wpAny_execs_nil ?_
      exact ⟨text.length - (place + 1), by omega, h13, _, _, place + 1, _, rfl, Z13, smf _, rfl, rfl⟩
    | some l =>
      rw [hlg] at hv₇
      obtain ⟨tv, rfl⟩ := hv₇
      have hl4 : l.length ≤ 4 := by
        rcases long_mem hlg with q | q
        · exact Y.short l q
        · cases q
      refine PySem.P.truthy_str (by rw [T_len]; omega) ?_
      rw [T_len]
      by_cases c0 : l.length = 0
      · refine PySem.W.ite_neg (by simp [c0]) ?_
        refine wpAny_Constant_int ?_
        refine add_int ?_
        refine stZ Z12 fun h13 Z13 s13 => ?_
        dsimp only
        refine wpAny_execs_nil ?_
        exact ⟨text.length - (place + 1), by omega, h13, _, _, place + 1, _, rfl, Z13, smf _, rfl, rfl⟩
      · refine PySem.W.ite_pos (bne_iff_ne.mpr fun q => c0 (by omega)) ?_
        refine call_b1 Z12.g₀ Z12.F Z12.g₀.nLen boot_len (by decide) ?_
        refine nmL Z12.F rfl ?_
        refine len_T (by omega) fun t14 tk14 => ?_
        refine add_int ?_
        refine stZ Z12 fun h13 Z13 s13 => ?_
        dsimp only
        refine wpAny_execs_nil ?_
        exact ⟨text.length - (place + l.length), by omega, h13, _, _, place + l.length, _, rfl, Z13, smf _, rfl, rfl⟩
  · refine PySem.W.ite_neg (by simp only [decide_eq_true_eq]; omega) ?_
    refine wpAny_execs_nil ?_
    exact hQ _ _ m₁ Z₁
end
end
section
/-! law: the whole body -/
theorem body_eq : bodOf sLaw = [stm 0, stm 1, stm 2, stm 3, stm 4, stm 5, stm 6, stm 7, stm 8, stm 9, stm 10, stm 11, stm 12, stm 13, stm 14, stm 15, stm 16, stm 17] := rfl
section
variable {w : World} {A : Around} {E : Value → Shared → Prop} {s : Shared} {G : Gl} {h₀ b : Heap} {L f : Addr} {cdv : Value} {m : Str → Option Value} {dv wv : Option Value}
theorem law_body (Z : Law G h₀ b L s.heap m dv wv) (hst : A.frames = some [lawEnv L f cdv]) (hA : A.depth + 64 < recursionLimit) (hh : A.handled = none) (hu : A.units + 8 < cLine) {l : Addr} {vs : List Value} {ns : List Int} (hl : b.IsList l vs.toArray) (hi : IntsAre vs ns) (hm : m "script" = some (.ref l)) (hns : ns.length ≤ 1000)
    {Q : Flow → Shared → Prop} (hQ : ∀ h' tk m' b' dv' wv', Law G h₀ b' L h' m' dv' wv' → Q (.ret (.bool true)) { s with heap := h', toks := tk }) :
    wpAny (model PRG w) A (execs (bodOf sLaw) (lawEnv L f cdv)) Q E s := by
  rw [body_eq]
  have hn10 : (ns.take 10).length ≤ 10 := by rw [List.length_take]; omega
  generalize hN : ns.take 10 = N at hn10
  refine wpAny_execs_cons ?_
  refine blk0 Z hA hh hl hi hm hns fun P h0 tk0 b0 Z0 e0 hP => ?_
  rw [hN] at hP
  dsimp only
  refine wpAny_execs_cons ?_
  refine blk1 Z0 fun D h1 tk1 Z1 bD hDL hD1 => ?_
  dsimp only
  refine wpAny_execs_cons ?_
  refine blk2 Z1 hh rfl bD hDL hD1 hP rfl hn10 fun h2 tk2 m2 wv2 Z2 s2 hD2 => ?_
  dsimp only
  refine wpAny_execs_cons ?_
  refine blk3 Z2 hA hh hDL hD2 hn10 fun x keys h3 tk3 b3 Z3 e3 Y3 hp3 hD3 => ?_
  dsimp only
  have hsg := signs_of hp3
  refine wpAny_execs_cons ?_
  refine blk4 Z3 hh hD3 (by have := dataL_len N; omega) hp3 Y3.srt fun KL kv h4 tk4 b4 Z4 e4 hK4 hS4 => ?_
  dsimp only
  have Y4 := Y3.ext e4
  have hD4 := hD3.ext e4
  have hP4 := (hP.ext e3).ext e4
  refine wpAny_execs_cons ?_
  refine blk5 Z4 fun B h5 tk5 Z5 bB l5 => ?_
  dsimp only
  refine wpAny_execs_cons ?_
  refine blk6 Z5 hh bB l5 rfl rfl hK4 hS4 Y4.short Y4.num fun h6 tk6 m6 Bv Z6 s6 l6 sB6 => ?_
  dsimp only
  have q2P : m2 "pairs" = some (.ref P) := (s2 "pairs" (by decide)).trans rfl
  have q6P : m6 "pairs" = some (.ref P) := (s6 "pairs" (by decide)).trans q2P
  have q6x : m6 "trie" = some (.ref x) := (s6 "trie" (by decide)).trans rfl
  have q6K : m6 "keys" = some (.ref KL) := (s6 "keys" (by decide)).trans rfl
  have q6B : m6 "begun" = some (.ref B) := (s6 "begun" (by decide)).trans rfl
  refine wpAny_execs_cons ?_
  refine newl Z6 rfl fun TL h7 tk7 Z7 bT l7 n7 k7 => ?_
  dsimp only
  have lB7 : LstX h7 B Bv := l6.at fun o ho => k7 _ _ (fun q => (l6.ne Z6) (by rw [q]; simp)) ho
  refine wpAny_execs_cons ?_
  refine newl Z7 rfl fun NL h8 tk8 Z8 bN l8 n8 k8 => ?_
  dsimp only
  have lB8 : LstX h8 B Bv := lB7.at fun o ho => k8 _ _ (fun q => (lB7.ne Z7) (by rw [q]; simp)) ho
  have lT8 : LstX h8 TL #[] := l7.at fun o ho => k8 _ _ (fun q => (l7.ne Z7) (by rw [q]; simp)) ho
  have tn : TL ≠ NL := by rintro rfl; obtain ⟨n, ho⟩ := l7; exact absurd (ho.symm.trans n8) (by simp)
  refine wpAny_execs_cons ?_
  refine wpAny_Assign_Name ?_ rfl
  refine List_ ?_
  refine args_cons ?_ rfl
  refine PySem.Calls.Constant_str ?_
  refine args_nil ?_
  refine newList_X fun h9 x9 l9 n9 => ?_
  have Z9' := Z8.ext x9
  have bW := ext_none Z8.x n9
  generalize h8.objs.size = WL at l9 n9 bW ⊢
  have wt : WL ≠ TL := by rintro rfl; obtain ⟨n, ho⟩ := lT8; exact absurd (ho.symm.trans n9) (by simp)
  have wn : WL ≠ NL := by rintro rfl; obtain ⟨n, ho⟩ := l8; exact absurd (ho.symm.trans n9) (by simp)
  have sW : StrsL #[Value.str (Str.ofString "") tk8] [[]] := ⟨rfl, fun i k e => by
    match i, e with
    | 0, e => cases e; exact ⟨_, by rw [← ofs_nil]; rfl⟩
    | i + 1, e => simp at e⟩
  refine stZ Z9' fun h10 Z10 s10 => ?_
  dsimp only
  have at10 : ∀ {a : Addr} {vs : Array Value}, LstX h8 a vs → LstX h10 a vs := fun {a vs} q => (q.at fun o ho => x9 _ _ ho).at fun o ho => (s10.2 _ (fun z => (q.ne Z8) (by rw [z]; simp))).trans ho
  have lW10 : LstX h10 WL _ := l9.at fun o ho => (s10.2 _ (fun z => (l9.ne Z9') (by rw [z]; simp))).trans ho
  have nBT : B ≠ TL := by rintro rfl; obtain ⟨n, ho⟩ := l6; exact absurd (ho.symm.trans n7) (by simp)
  have nBN : B ≠ NL := by rintro rfl; obtain ⟨n, ho⟩ := lB7; exact absurd (ho.symm.trans n8) (by simp)
  have nBW : B ≠ WL := by rintro rfl; obtain ⟨n, ho⟩ := lB8; exact absurd (ho.symm.trans n9) (by simp)
  have lB10 := at10 lB8
  obtain ⟨Zf, ef⟩ := Z10.freeze [TL, NL, WL] (fun a ha => by
    simp only [List.mem_cons, List.not_mem_nil, or_false] at ha
    rcases ha with rfl | rfl | rfl
    · exact bT
    · exact bN
    · exact bW)
  have lBf : LstX (hideAll h10 (LW L ++ [TL, NL, WL])) B Bv := lB10.at fun o ho => hideAll_get _ ho fun q => by
    rcases List.mem_append.mp q with q | q
    · exact lB10.ne Z10 q
    · simp only [List.mem_cons, List.not_mem_nil, or_false] at q
      rcases q with q | q | q
      · exact nBT q
      · exact nBN q
      · exact nBW q
  have fT : (hideAll h10 (LW L ++ [TL, NL, WL])).get? TL = none := hideAll_none _ (by simp)
  have fN : (hideAll h10 (LW L ++ [TL, NL, WL])).get? NL = none := hideAll_none _ (by simp)
  have fW : (hideAll h10 (LW L ++ [TL, NL, WL])).get? WL = none := hideAll_none _ (by simp)
  generalize hideAll h10 (LW L ++ [TL, NL, WL]) = bf at Zf ef lBf fT fN fW
  have Yf := Y4.ext ef
  have hDf := hD4.ext ef
  have hPf := hP4.ext ef
  have hKf := Ext.list ef hK4
  refine wpAny_execs_cons ?_
  refine blk10 Zf hA hh Yf hsg (by exact q6x) rfl rfl rfl fT fN fW tn wt wn (at10 lT8) (at10 l8) lW10 sW fun h11 tk11 m11 wv11 TLv NLv Z11 s11 lT11 sT11 lN11 sN11 => ?_
  dsimp only
  have lB11 := lBf.at fun o ho => Z11.x _ _ ho
  have qx : m11 "trie" = some (.ref x) := (s11 "trie" (by decide)).trans q6x
  have qK : m11 "keys" = some (.ref KL) := (s11 "keys" (by decide)).trans q6K
  have qB : m11 "begun" = some (.ref B) := (s11 "begun" (by decide)).trans q6B
  have qP : m11 "pairs" = some (.ref P) := (s11 "pairs" (by decide)).trans q6P
  have qT : m11 "told" = some (.ref TL) := (s11 "told" (by decide)).trans rfl
  have qN : m11 "numbered" = some (.ref NL) := (s11 "numbered" (by decide)).trans rfl
  refine wpAny_execs_cons ?_
  refine blk11 Z11 hh hu hDf Yf.mem hsg Yf.srt Yf.num qT qN qB qK lT11 sT11 lN11 sN11 lB11 sB6 hKf hS4 fun h12 tk12 x12 => ?_
  dsimp only
  have Z12 := Z11.ext x12
  have hb41 := begun_len (keys := keys) Yf.short
  have hkn := Yf.num
  refine wpAny_execs_cons ?_
  refine blk12 Z12 hh hPf hn10 qP qB (lB11.at fun o ho => x12 _ _ ho) sB6 (by omega) (fun k hk => by
    obtain ⟨k', hk', e⟩ := ((begun_facts keys).2 k).mp hk
    have := e.length_le
    have := Yf.short k' hk'
    omega) fun AL h13 tk13 av ks Z13 lA sA hks hk5 => ?_
  dsimp only
  refine wpAny_execs_cons ?_
  refine blk13 Z13 hst hA hh hu Yf hDf (by exact qx) (by exact qK) hKf hS4 rfl lA sA hks hk5 fun h14 tk14 m14 wv14 Z14 s14 => ?_
  dsimp only
  have rP : m14 "pairs" = some (.ref P) := (s14 "pairs" (by decide)).trans qP
  have rx : m14 "trie" = some (.ref x) := (s14 "trie" (by decide)).trans qx
  have rK : m14 "keys" = some (.ref KL) := (s14 "keys" (by decide)).trans qK
  refine wpAny_execs_cons ?_
  refine blk14 Z14 hh hPf hn10 rP fun text tt h15 tk15 Z15 ht => ?_
  dsimp only
  refine wpAny_execs_cons ?_
  refine wpAny_Assign_Name ?_ rfl
  refine wpAny_Constant_int ?_
  refine stZ Z15 fun h16 Z16 s16 => ?_
  dsimp only
  refine wpAny_execs_cons ?_
  refine blk16 Z16 hst hA hh Yf (by exact rx) rfl ht (by exact rK) hKf hS4 rfl fun h17 tk17 m17 Z17 => ?_
  dsimp only
  refine wpAny_execs_cons ?_
  refine wpAny_Return_some ?_
  refine Constant_bool ?_
  exact hQ _ _ _ _ _ _ Z17
end
end
theorem fnAt_of {K : Frag} {h : Heap} {a : Addr} {qual : Str} {st : Stmt} {dV : Value} {oc kV doc pm cdv ct : Value} {od an : Option Addr} {osl : Array (Option Value)} {name : Str} (X : K.In h)
    (e : List.lookup a K = some ⟨oc, od, .func (fnOf name qual (prmOf st) (bodOf st) (scpOf st) dV kV doc pm an cdv ct), osl⟩) (c : codeIn K cdv qual = true) : FnAt h a qual st dV :=
  ⟨oc, od, osl, name, kV, doc, pm, an, cdv, ct, X _ _ e, codeRec_of X c⟩
/-- the addresses of the text's objects, as the head lays them -/
abbrev GlOf (mg mb : Str → Option Value) (K : Frag) : Gl :=
  { mg, mb, K, bis := 22, trie := 74, signs := 85, word := 92, longest := 99, along := 106, prefixA := 113, number := 120, bisD := 15, init := 36, cont := 43, get := 57, has := 64, lp := 71 }
theorem glb_at {K : Frag} {h : Heap} (mg mb : Str → Option Value) (X : K.In h) (k : K.In h → Glb (GlOf mg mb K) h) : Glb (GlOf mg mb K) h := k X
end Mine
open Mine
set_option maxHeartbeats 8000000 in
theorem PySem.Challenge.cw_te0023_01_holds : PySem.Challenge.rw_te0023_01.Holds := by
  w_on; o_law; k_head; (case hw => w_witness2); w_strict (
  k_go0
  rename_i w s0 s1 mg mb G Y fa o pm doc ho hg KX X V GL T B TE TW xm om M cda cdb CR ns q1 q2 q3 q4 q5 l1 l2 la vs l3 hL ra wl rd hI hrw hc1 hc2 K0 DF h1 tk1 F o1 o2 d1 d2 N0 CA
  have GG := glb_at mg mb KX (fun _ =>
    { cls := by constructor <;> dsimp only [GlOf] <;> k_is, g := T.g, b := T.b, nolimit := T.nolimit, builtins := T.builtins, X := KX,
      nSorted := mg_none_of KX T.g (by k_is),
      nLen := mg_none_of KX T.g (by k_is),
      nRange := mg_none_of KX T.g (by k_is),
      nMax := mg_none_of KX T.g (by k_is),
      nKeyError := mg_none_of KX T.g (by k_is),
      mBis := mg_of KX T.g (by k_is),
      mTrie := mg_of KX T.g (by k_is),
      mSigns := mg_of KX T.g (by k_is),
      mWord := mg_of KX T.g (by k_is),
      mLongest := mg_of KX T.g (by k_is),
      mAlong := mg_of KX T.g (by k_is),
      mPrefix := mg_of KX T.g (by k_is),
      mNumber := mg_of KX T.g (by k_is),
      dBis := ⟨_, _, KX _ _ (by k_is), rfl, _, rfl⟩,
      fBis := fnAt_of KX (by k_is) (by k_is),
      fSigns := fnAt_of KX (by k_is) (by k_is),
      fWord := fnAt_of KX (by k_is) (by k_is),
      fLongest := fnAt_of KX (by k_is) (by k_is),
      fAlong := fnAt_of KX (by k_is) (by k_is),
      fPrefix := fnAt_of KX (by k_is) (by k_is),
      fNumber := fnAt_of KX (by k_is) (by k_is),
      fInit := fnAt_of KX (by k_is) (by k_is),
      fCont := fnAt_of KX (by k_is) (by k_is),
      fGet := fnAt_of KX (by k_is) (by k_is),
      fHas := fnAt_of KX (by k_is) (by k_is),
      fLp := fnAt_of KX (by k_is) (by k_is) })
  have n0 : ∀ a, s1.heap.objs.size ≤ a → s1.heap.get? a = none := fun a q => Heap.get?_none_of_le q
  have Z : Law _ s1.heap s1.heap s1.heap.objs.size h1 _ _ _ := ⟨GG, F, Ext.refl _, F.keep, n0 _ (Nat.le_refl _), n0 _ (Nat.le_succ _), n0 _ (Nat.le_succ_of_le (Nat.le_succ _)), ⟨_, (N0 _ (.tail _ (.head _))).1, d2⟩, ⟨_, (N0 _ (.head _)).1, d1⟩⟩
  refine law_body (s := { s1 with heap := h1, toks := tk1 }) (f := fa) (cdv := .ref cda) Z rfl (by simp only [depth_deeper]; decide) rfl (by simp only [units_deeper]; decide) hL hI rfl (by omega) ?_
  intro h' tk m' b' dv' wv' Z'
  exact goodW_bool Z'.F hg (fun _ => rfl) (by first | rfl | wrow_post))
