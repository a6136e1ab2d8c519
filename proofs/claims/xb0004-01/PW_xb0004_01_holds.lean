import PyProof.Rows.All
import Wide.All
import OpenK.AllK
import Wide.FinOn
import PySem.Challenge.RW_xb0004_01
open PySem PySem.Calls PySem.W PyProof.Rows PySem.Builtin PySem.Builtin.Str
set_option Elab.async false
set_option maxRecDepth 100000
namespace Xb4
/-! ## Part 1: rules -/
theorem ofString_inj {a b : String} : (Str.ofString a = Str.ofString b) = (a = b) := by
  apply propext
  constructor
  · intro h
    rw [Str.ofString_eq_toList, Str.ofString_eq_toList] at h
    have h1 : a.toList.map Char.toNat = b.toList.map Char.toNat := by
      have := congrArg (fun s : Str => s.cps.toList) h
      simpa using this
    have h2 : a.toList = b.toList := by
      refine List.map_inj_right (f := Char.toNat) ?_ |>.mp h1
      intro x y hxy
      exact Char.ext (UInt32.toNat_inj.mp hxy)
    exact String.toList_inj.mp h2
  · rintro rfl; rfl

def stm (i : Nat) : Stmt := match PySem.Challenge.pw_xb0004_01.main.body[i]? with | some s => s | none => .Pass ⟨0,0,0,0⟩
def bodyOf : Stmt → List Stmt | .FunctionDef _ _ b _ _ _ _ _ _ _ => b | _ => []
def argsOf : Stmt → Arguments | .FunctionDef _ a _ _ _ _ _ _ _ _ => a | _ => default
def scopeOf : Stmt → Scope | .FunctionDef _ _ _ _ _ _ s _ _ _ => s | _ => default

/-- every old object stands as it stood -/
abbrev Ext (h h' : Heap) : Prop := ∀ b o, h.get? b = some o → h'.get? b = some o
theorem Ext.refl (h : Heap) : Ext h h := fun _ _ e => e
theorem Ext.trans {a b c : Heap} (x : Ext a b) (y : Ext b c) : Ext a c := fun i o e => y i o (x i o e)

/-- a state that parts from another in its objects and tokens alone -/
structure Same (s s' : Shared) : Prop where
  g : s'.gens = s.gens
  d : s'.drawn = s.drawn
  o : s'.os = s.os
theorem Same.refl (s : Shared) : Same s s := ⟨rfl, rfl, rfl⟩
theorem Same.trans {a b c : Shared} (x : Same a b) (y : Same b c) : Same a c := ⟨y.g.trans x.g, y.d.trans x.d, y.o.trans x.o⟩
theorem Same.and {a b b' c : Shared} (x : Same a b) (y : Same b' c) (hg : b'.gens = b.gens := by rfl) (hd : b'.drawn = b.drawn := by rfl) (ho : b'.os = b.os := by rfl) : Same a c :=
  ⟨y.g.trans (hg.trans x.g), y.d.trans (hd.trans x.d), y.o.trans (ho.trans x.o)⟩
theorem Same.of {a b c : Shared} (y : Same b c) (hg : b.gens = a.gens := by rfl) (hd : b.drawn = a.drawn := by rfl) (ho : b.os = a.os := by rfl) : Same a c :=
  ⟨y.g.trans hg, y.d.trans hd, y.o.trans ho⟩
theorem Same.keeps {s s' : Shared} (x : Same s s') (k : Ext s.heap s'.heap) : Keeps s s' := by
  obtain ⟨h, g, d, t, o⟩ := s
  obtain ⟨h', g', d', t', o'⟩ := s'
  obtain ⟨a, b, c⟩ := x
  dsimp only at a b c k
  subst a b c
  exact ⟨h', t', rfl, k⟩

/-- what the calls ask of the place they run at -/
structure Rm (A : Around) : Prop where
  h : A.handled = none
  d : A.depth < recursionLimit

/-- the names of the module and of the builtins -/
structure Wd (mg mb : Str → Option Value) (h : Heap) : Prop where
  g : h.Ns mainGlobals mg
  b : h.Ns builtinsNs mb
  lim : h.NoLimit
theorem Wd.ext {mg mb : Str → Option Value} {h h' : Heap} (W : Wd mg mb h) (k : Ext h h') : Wd mg mb h' := ⟨W.g.keeps k, W.b.keeps k, W.lim.keeps k⟩

/-- a frame's environment, with the names it speaks of -/
structure Ev (env : Env) (ls gs : List Str) : Prop where
  k : env.scope.kind = .function
  l : ∀ x ∈ ls, env.kindOf x = some .local
  gl : ∀ x ∈ gs, env.kindOf x = some .globalImplicit
  g : env.globals = mainGlobals
  b : env.builtins = builtinsNs
  i : interactive env = false

section
variable {prog : Program} {w : World} {A : Around} {E : Value → Shared → Prop} {s : Shared} {env : Env} {ls gs : List Str} {mg mb m : Str → Option Value} {h₀ : Heap}

theorem nmL {x : Str} {pos : Pos} {v : Value} {Q : Value → Shared → Prop} (V : Ev env ls gs) (F : Fr h₀ env.locals s.heap m) (hl : env.kindOf x = some .local) (hv : m x = some v) (h : Q v s)
    (hd : (x == ("__debug__" : Str)) = false := by decide) : wpAny (model prog w) A (eval (.Name x pos) env) Q E s :=
  wpAny_Name (wpAny_loadName_local V.k hl F.ns hv h) hd
theorem nmL' {x : Str} {v : Value} {Q : Value → Shared → Prop} (V : Ev env ls gs) (F : Fr h₀ env.locals s.heap m) (hl : env.kindOf x = some .local) (hv : m x = some v) (h : Q v s) :
    wpAny (model prog w) A (loadName env x) Q E s := wpAny_loadName_local V.k hl F.ns hv h
theorem nmG {x : Str} {pos : Pos} {v : Value} {Q : Value → Shared → Prop} (V : Ev env ls gs) (W : Wd mg mb s.heap) (hl : env.kindOf x = some .globalImplicit) (hv : mg x = some v) (h : Q v s)
    (hd : (x == ("__debug__" : Str)) = false := by decide) : wpAny (model prog w) A (eval (.Name x pos) env) Q E s :=
  Name_function_global V.k hl (loadGlobal_global (env := env) (by rw [V.g]; exact W.g) hv h) hd
theorem nmB {x : Str} {pos : Pos} {v : Value} {Q : Value → Shared → Prop} (V : Ev env ls gs) (W : Wd mg mb s.heap) (hl : env.kindOf x = some .globalImplicit) (hm : mg x = none) (hv : mb x = some v) (h : Q v s)
    (hd : (x == ("__debug__" : Str)) = false := by decide) : wpAny (model prog w) A (eval (.Name x pos) env) Q E s :=
  Name_function_global V.k hl (loadGlobal_builtin (env := env) (by rw [V.g]; exact W.g) hm (by rw [V.b]; exact W.b) hv h) hd
theorem sto {x : Str} {v : Value} {Q : Unit → Shared → Prop} (V : Ev env ls gs) (F : Fr h₀ env.locals s.heap m) (hl : env.kindOf x = some .local)
    (h : ∀ s', Same s s' → Fr h₀ env.locals s'.heap (fun y => if y = x then some v else m y) → Heap.SameBut env.locals s.heap s'.heap → Q () s') :
    wpAny (model prog w) A (storeName env x v) Q E s :=
  wpAny_storeName_local hl F.ns (fun _ hn hs => h _ ⟨rfl, rfl, rfl⟩ (F.set hn hs) hs) (by rw [V.k]; rfl)
theorem lk_hit {x : Str} {a b : Option Value} : (if x = x then a else b) = a := if_pos rfl
theorem lk_miss {x z : Str} {a b c : Option Value} (n : z ≠ x) (e : b = c) : (if z = x then a else b) = c := (if_neg n).trans e
theorem conS {x : Str} {k : Nat} {pos : Pos} {Q : Value → Shared → Prop} (h : Q (.str x s.toks) { s with toks := s.toks + 1 }) : wpAny (model prog w) A (eval (.Constant (.str x) k pos) env) Q E s := wpAny_Constant_str h
end
section
variable {prog : Program} {w : World} {A : Around} {E : Value → Shared → Prop} {s : Shared} {env : Env}
theorem Ext.push {h h' : Heap} (k : Ext h h') (o : Obj) : Ext h (h'.push o) := fun b x e => Heap.get?_push_of_some _ (k b x e)
theorem keptExt (h : Heap) : KeptH (fun h' => Ext h h') := fun _ ob k => k.push ob
theorem frK {h₀ h h' : Heap} {L : Addr} {m : Str → Option Value} (F : Fr h₀ L h m) (k : Ext h h') : Fr h₀ L h' m := ⟨F.ns.keeps k, fun b o e => k b o (F.keep b o e), F.above⟩
theorem get_push {h : Heap} {o : Obj} (hf : o.isFreed = false := by rfl) : (h.push o).get? h.objs.size = some o := Heap.get?_push_size _ hf

/-- x[i:j] of a text -/
theorem sliceSS {value lo hi : Expr} {p pos : Pos} {Q : Value → Shared → Prop}
    (h : wpAny (model prog w) A (eval value env) (fun v s₁ => wpAny (model prog w) A (eval lo env) (fun a s₂ => wpAny (model prog w) A (eval hi env) (fun b s₃ => ∃ x t i ui j uj, v = .str x t ∧ a = .int i ui ∧ b = .int j uj ∧ x.length ≤ 1000 ∧
      ∀ s' t', Same s₃ s' → Ext s₃.heap s'.heap → Q (.str (Txt.slice x (some i) (some j)) t') s') E s₂) E s₁) E s) :
    wpAny (model prog w) A (eval (.Subscript value (.Slice (some lo) (some hi) none p) pos) env) Q E s := by
  refine Subscript_ (wpAny_mono h (fun v s₁ h₁ => ?_) fun _ _ e => e)
  refine wpAny_Slice (wpAny_mono h₁ (fun a s₂ h₂ => ?_) fun _ _ e => e)
  refine wpAny_mono h₂ (fun b s₃ h₃ => ?_) fun _ _ e => e
  obtain ⟨x, t, i, ui, j, uj, rfl, rfl, rfl, hx, h₃⟩ := h₃
  have hz : sizeLine = 16777216 := PySem.sizeLine_eq
  refine wpAny_pure ?_
  obtain ⟨T, id, hl, hT, hg⟩ := SBH.sliceItem_ss (prog := prog) (w := w) (A := A) (E := E) (P := fun h' => Ext s₃.heap h') (x := x) (t := t) (ui := ui) (uj := uj) (Q := Q) (i := i) (j := j) (keptExt _) (Ext.refl _) (fun h' t' k e => h₃ _ t' ⟨rfl, rfl, rfl⟩ e) (by omega)
  exact tail_any hT hl hg (by with_unfolding_all rfl)
/-- x[:j] of a text -/
theorem sliceNS {value hi : Expr} {p pos : Pos} {Q : Value → Shared → Prop}
    (h : wpAny (model prog w) A (eval value env) (fun v s₁ => wpAny (model prog w) A (eval hi env) (fun b s₃ => ∃ x t j uj, v = .str x t ∧ b = .int j uj ∧ x.length ≤ 1000 ∧
      ∀ s' t', Same s₃ s' → Ext s₃.heap s'.heap → Q (.str (Txt.slice x none (some j)) t') s') E s₁) E s) :
    wpAny (model prog w) A (eval (.Subscript value (.Slice none (some hi) none p) pos) env) Q E s := by
  refine Subscript_ (wpAny_mono h (fun v s₁ h₁ => ?_) fun _ _ e => e)
  refine wpAny_Slice (wpAny_pure (wpAny_mono h₁ (fun b s₃ h₃ => ?_) fun _ _ e => e))
  obtain ⟨x, t, j, uj, rfl, rfl, hx, h₃⟩ := h₃
  have hz : sizeLine = 16777216 := PySem.sizeLine_eq
  refine wpAny_pure ?_
  obtain ⟨T, id, hl, hT, hg⟩ := SBH.sliceItem_ns (prog := prog) (w := w) (A := A) (E := E) (P := fun h' => Ext s₃.heap h') (x := x) (t := t) (uj := uj) (Q := Q) (j := j) (keptExt _) (Ext.refl _) (fun h' t' k e => h₃ _ t' ⟨rfl, rfl, rfl⟩ e) (by omega)
  exact tail_any hT hl hg (by with_unfolding_all rfl)

/-- x.find(y, i, j) -/
def find4 (x y : Str) (i j : Int) : Int := match occurrences x y (fromIndex x.length i) (min (fromIndex x.length j) x.length) 1 with | k :: _ => (k : Int) | [] => -1
def rfind4 (x y : Str) (i j : Int) : Int := match lastOccurrence x y (fromIndex x.length i) (min (fromIndex x.length j) x.length) with | some k => (k : Int) | none => -1
theorem gives_find4 (x y : Str) (i j : Int) (t u v v' : Tok) : Gives («str.find» ⟨[.str x t, .str y u, .int i v, .int j v'], []⟩) (.int (find4 x y i j)) := by
  show Gives (match occurrences x y (fromIndex x.length i) (min (fromIndex x.length j) x.length) 1 with | k :: _ => retInt k | [] => (do rule "str.find.not-found"; retInt (-1))) _
  unfold find4
  cases occurrences x y (fromIndex x.length i) (min (fromIndex x.length j) x.length) 1 with
  | nil => exact .rule (.of_eq rfl)
  | cons k _ => exact .of_eq rfl
theorem gives_rfind4 (x y : Str) (i j : Int) (t u v v' : Tok) : Gives («str.rfind» ⟨[.str x t, .str y u, .int i v, .int j v'], []⟩) (.int (rfind4 x y i j)) := by
  show Gives (match lastOccurrence x y (fromIndex x.length i) (min (fromIndex x.length j) x.length) with | some k => retInt k | none => (do rule "str.rfind.not-found"; retInt (-1))) _
  unfold rfind4
  cases lastOccurrence x y (fromIndex x.length i) (min (fromIndex x.length j) x.length) with
  | none => exact .rule (.of_eq rfl)
  | some k => exact .of_eq rfl
theorem call_find4 {x y : Str} {t u v v' : Tok} {i j : Int} {Q : Value → Shared → Prop} (hq : Q (.int (find4 x y i j) s.toks) { s with toks := s.toks + 1 }) : wpAny (model prog w) A (call (.builtin "str.find") [.str x t, .str y u, .int i v, .int j v']) Q E s :=
  call_gives F.slot_str_find (typeIs_str _ _ _) F.entry_str_find (F.args_str_find_4 _ _ _ _) (gives_find4 x y i j t u v v') hq
theorem call_rfind4 {x y : Str} {t u v v' : Tok} {i j : Int} {Q : Value → Shared → Prop} (hq : Q (.int (rfind4 x y i j) s.toks) { s with toks := s.toks + 1 }) : wpAny (model prog w) A (call (.builtin "str.rfind") [.str x t, .str y u, .int i v, .int j v']) Q E s :=
  call_gives F.slot_str_rfind (typeIs_str _ _ _) F.entry_str_rfind (F.args_str_rfind_4 _ _ _ _) (gives_rfind4 x y i j t u v v') hq
end
section
variable {prog : Program} {w : World} {A : Around} {E : Value → Shared → Prop} {s : Shared} {env : Env} {ls gs : List Str} {m : Str → Option Value} {h₀ : Heap}
def starred : Expr → Bool | .Starred .. => true | _ => false
theorem swapped2 {x y : Str} {px py tp tp2 : Pos} {k k2 : Nat} {e1 e2 : Expr} (hk : env.scope.kind = .function) (hx : env.kindOf x = some .local) (hy : env.kindOf y = some .local) (hl : (py.line == px.line) = true) (hne : (y == x) = false)
    (hst : (starred e1 || starred e2) = false) (hf : (foldedForSure 8 e1 && foldedForSure 8 e2) = false) (hc : (constantsAlone 8 e1 && constantsAlone 8 e2) = false) :
    swappedStores [.Tuple [.Name x px, .Name y py] k tp] (.Tuple [e1, e2] k2 tp2) env = pure (some [x, y]) := by
  have hb : (env.blockKind != ScopeKind.function) = false := by simp [Env.blockKind, hk, ScopeKind.isAnnotationScope]
  have hl' : px.line == px.line := by simp
  unfold swappedStores
  simp only [hb, List.length_cons, List.length_nil, Nat.zero_add, bne_self_eq_false, Bool.or_false, List.filterMap_cons, List.filterMap_nil, hx, hy, List.head?_cons, Option.map_some, Option.getD_some, Expr.pos, beq_self_eq_true, hl, if_true,
    List.all_cons, List.all_nil, Bool.and_true, hf, hc, Bool.false_eq_true, if_false]
  have he : ([x, y] : List Str).eraseDups = [x, y] := by
    simp [List.eraseDups_cons, hne]
  simp [he]
  rw [Bool.or_eq_false_iff] at hst
  obtain ⟨i1, i2⟩ := hst
  intro h
  rcases h with h | h
  · cases e1 <;> first | (cases i1; done) | (cases h; done)
  · cases e2 <;> first | (cases i2; done) | (cases h; done)

theorem unpack2 {t : Addr} {v1 v2 : Value} {Q : List Value → Shared → Prop} (hh : A.handled = none) (ht : IsTup s.heap t [v1, v2].toArray) (h : ∀ h', Heap.ExtBut s.heap.objs.size s.heap h' → Q [v1, v2] { s with heap := h' }) :
    wpAny (model prog w) A (unpackItems (.ref t) 2 none) Q E s := by
  generalize hi : [v1, v2].toArray = items at ht
  have e2 : items.size = 2 := by rw [← hi]; rfl
  have el : items.toList = [v1, v2] := by rw [← hi]
  rw [← e2]
  exact unpackItems_tuple hh ht fun h' he => by rw [el]; exact h h' he
/-- x, y = e1, e2 -/
theorem assign2 {x y : Str} {px py tp tp2 pos : Pos} {k k2 : Nat} {e1 e2 : Expr} {Q : Flow → Shared → Prop} (V : Ev env ls gs) (hh : A.handled = none) (hx : env.kindOf x = some .local) (hy : env.kindOf y = some .local)
    (h : wpAny (model prog w) A (eval e1 env) (fun v1 s1 => wpAny (model prog w) A (eval e2 env) (fun v2 s2 => Fr h₀ env.locals s2.heap m ∧
      ∀ s', Same s2 s' → Fr h₀ env.locals s'.heap (fun z => if z = x then some v1 else if z = y then some v2 else m z) → (∀ b o, b ≠ env.locals → s2.heap.get? b = some o → s'.heap.get? b = some o) → Q .next s') E s1) E s)
    (hl : (py.line == px.line) = true := by rfl) (hne : (y == x) = false := by decide)
    (hst : (starred e1 || starred e2) = false := by rfl) (hf : (foldedForSure 8 e1 && foldedForSure 8 e2) = false := by rfl) (hc : (constantsAlone 8 e1 && constantsAlone 8 e2) = false := by rfl)
    (hs : swapsWithSole [.Tuple [.Name x px, .Name y py] k tp] (.Tuple [e1, e2] k2 tp2) pos.line env = pure false := by rfl)
    (hse : starEach [e1, e2] env = [(false, eval e1 env), (false, eval e2 env)] := by rfl) :
    wpAny (model prog w) A (exec (.Assign [.Tuple [.Name x px, .Name y py] k tp] (.Tuple [e1, e2] k2 tp2) pos) env) Q E s := by
  have hz : sizeLine = 16777216 := PySem.sizeLine_eq
  refine Assign_Tuple_swapped (names := [x, y]) ?_ hs (swapped2 V.k hx hy hl hne hst hf hc)
  refine wpAny_Tuple ?_
  rw [hse]
  refine spliced_cons (wpAny_mono h (fun v1 s1 h1 => ?_) fun _ _ e => e)
  refine spliced_cons (wpAny_mono h1 (fun v2 s2 h2 => ?_) fun _ _ e => e)
  obtain ⟨F, h2⟩ := h2
  refine spliced_nil ⟨by rw [hz]; simp, ?_⟩
  have F1 := F.push ({ cls := .type "tuple", data := .seq [v1, v2].toArray } : Obj)
  refine unpack2 hh (IsTup.new _ _) fun h1 he => ?_
  have F2 := PyProof.Rows.Fr.extBut F1 he (Nat.le_refl _)
  show wpAny _ _ (do holding _ (bindName env y _); (do holding _ (bindName env x _); pure ())) _ _ _
  refine wpAny_bind (wpAny_holding (bindName_ (sto V F2 hy fun s4 S4 F3 B4 => ?_)))
  refine wpAny_bind (wpAny_holding (bindName_ (sto V F3 hx fun s5 S5 F4 B5 => ?_)))
  refine wpAny_pure (h2 s5 (S4.of.and S5) F4 fun b o hb e => B5.extBut b o hb (B4.extBut b o hb (he b o ?_ (Heap.get?_push_of_some _ e))))
  have := Heap.lt_size (Heap.get?_push_of_some ({ cls := .type "tuple", data := .seq [v1, v2].toArray } : Obj) e)
  exact Nat.ne_of_lt this
end
section
variable {prog : Program} {w : World} {A : Around} {s : Shared} {env : Env} {ls gs : List Str}
/-- a step that leaves all but L and wr as they stood -/
abbrev But (L : Addr) (wr : List Addr) (h h' : Heap) : Prop := ∀ b o, b ≠ L → b ∉ wr → h.get? b = some o → h'.get? b = some o
abbrev NotSeq (h : Heap) (I : Addr) : Prop := ∃ o, h.get? I = some o ∧ ∀ a b, o.data ≠ .seq a b

theorem isList_but {h h' : Heap} {D I : Addr} {items : Array Value} (x : h.IsList D items) (hI : NotSeq h I) (k : ∀ b o, b ≠ I → h.get? b = some o → h'.get? b = some o) : h'.IsList D items := by
  obtain ⟨o, ho, hc, n, hd⟩ := x
  obtain ⟨o', ho', hn⟩ := hI
  refine ⟨o, k D o ?_ ho, hc, n, hd⟩
  rintro rfl
  rw [ho] at ho'
  cases ho'
  exact hn _ _ hd
theorem notSeq_ns {h : Heap} {L : Addr} {m : Str → Option Value} (hn : h.Ns L m) : NotSeq h L := by
  obtain ⟨o, es, ep, ho, hd, _⟩ := hn
  exact ⟨o, ho, fun a b e => by rw [hd] at e; cases e⟩

/-- a for over any walk, by what holds between its turns -/
theorem forW {x : Str} {px : Pos} {body : List Stmt} {I : Addr} {fp : List Addr} {n : Nat} {P : Nat → Value → Prop} {St : Nat → Heap → Prop} {m : Str → Option Value} {R : Result → Shared → Prop} {wr : List Addr}
    (W : Walks prog w A I fp [I] n P St) (V : Ev env ls gs) (hx : env.kindOf x = some .local) (hfp : ∀ b ∈ fp, b ≠ env.locals ∧ b ∉ wr) (hns : ∀ i h, St i h → NotSeq h I) (hst : St 0 s.heap) (hn : s.heap.Ns env.locals m)
    (Inv : Nat → Heap → (Str → Option Value) → Prop) (h0 : Inv 0 s.heap m)
    (stab : ∀ i h h' m J, Inv i h m → NotSeq h J → (∀ b o, b ≠ J → h.get? b = some o → h'.get? b = some o) → Inv i h' m)
    (upd : ∀ i h m v, Inv i h m → Inv i h (fun y => if y = x then some v else m y))
    (turn : ∀ i v (s' : Shared) m, i < n → P i v → Same s s' → s'.heap.Ns env.locals m → m x = some v → (∀ b o, b ≠ I → b ≠ env.locals → b ∉ wr → s.heap.get? b = some o → s'.heap.get? b = some o) → Inv i s'.heap m →
      ∀ E', wpAny (model prog w) A (execs body env) (fun fl s'' => Same s' s'' ∧ But env.locals wr s'.heap s''.heap ∧ ((fl = .next ∧ ∃ m', s''.heap.Ns env.locals m' ∧ Inv (i + 1) s''.heap m') ∨ ∃ u, fl = .ret u ∧ R (.ok (.ret u)) s'')) E' s')
    (done : ∀ s' m, Same s s' → s'.heap.Ns env.locals m → (∀ b o, b ≠ I → b ≠ env.locals → b ∉ wr → s.heap.get? b = some o → s'.heap.get? b = some o) → Inv n s'.heap m → R (.ok .next) s') :
    codeAny (model prog w) A (.forLoop (.Name x px) (.ref I) body [] env) R s := by
  refine codeAny_forLoop (fun k s' => ∃ i m', Same s s' ∧ s'.heap.Ns env.locals m' ∧ St i s'.heap ∧ Inv i s'.heap m' ∧ (∀ b o, b ≠ I → b ≠ env.locals → b ∉ wr → s.heap.get? b = some o → s'.heap.get? b = some o) ∧ i ≤ n ∧ k = n + 1 - i) ?_ (n + 1)
    ⟨0, m, Same.refl s, hn, hst, h0, fun _ _ _ _ _ e => e, Nat.zero_le _, rfl⟩
  rintro k s' ⟨i, m', hS, hn', hst', hI, hk, hi, rfl⟩
  have hIf : I ∈ fp := W.sub I (by simp)
  have hIL := (hfp I hIf).1
  by_cases hlt : i < n
  · refine W.item i _ _ _ hlt hst' fun v h₁ tk₁ hP hst₁ hk₁ => ?_
    have hk₁' : ∀ b o, b ≠ I → s'.heap.get? b = some o → h₁.get? b = some o := fun b o hb e => hk₁ b o (by simpa using hb) e
    have hI₁ : Inv i h₁ m' := stab i _ _ _ I hI (hns i _ hst') hk₁'
    refine wpAny_assign_Name (wpAny_storeName_local hx (hn'.at' fun o e => hk₁' _ o (Ne.symm hIL) e) (fun h₂ hn₂ hs₂ => ?_) (by rw [V.k]; rfl))
    have hn1 : h₁.Ns env.locals m' := hn'.at' fun o e => hk₁' _ o (Ne.symm hIL) e
    have hI₂ : Inv i h₂ (fun y => if y = x then some v else m' y) := upd i _ _ v (stab i _ _ _ env.locals hI₁ (notSeq_ns hn1) fun b o hb e => hs₂.extBut b o hb e)
    have hst₂ : St (i + 1) h₂ := W.frame _ _ _ hst₁ fun b hb o e => hs₂.extBut b o (hfp b hb).1 e
    have hk₂ : ∀ b o, b ≠ I → b ≠ env.locals → b ∉ wr → s.heap.get? b = some o → h₂.get? b = some o := fun b o h1 h2 h3 e => hs₂.extBut b o h2 (hk₁' b o h1 (hk b o h1 h2 h3 e))
    refine wpAny_mono (turn i v { s' with heap := h₂, toks := tk₁ + 1 } _ hlt hP (hS.and (Same.refl _)) hn₂ (if_pos rfl) hk₂ hI₂ _) (fun fl s₃ h₃ => ?_) fun _ _ e => e
    obtain ⟨S₃, b₃, h₃⟩ := h₃
    rcases h₃ with ⟨rfl, m₃, hn₃, hI₃⟩ | ⟨u, rfl, hR⟩
    · refine ⟨n + 1 - (i + 1), by omega, i + 1, m₃, (hS.and (Same.refl _)).trans S₃, hn₃, W.frame _ _ _ hst₂ fun b hb o e => b₃ b o (hfp b hb).1 (hfp b hb).2 e, hI₃, fun b o h1 h2 h3 e => b₃ b o h2 h3 (hk₂ b o h1 h2 h3 e), hlt, rfl⟩
    · exact hR
  · have hin : i = n := by omega
    subst hin
    refine W.done _ _ _ hst' fun h₁ tk₁ hk₁ => wpAny_execs_nil ?_
    have hk₁' : ∀ b o, b ≠ I → s'.heap.get? b = some o → h₁.get? b = some o := fun b o hb e => hk₁ b o (by simpa using hb) e
    exact done _ m' (hS.and (Same.refl _)) (hn'.at' fun o e => hk₁' _ o (Ne.symm hIL) e) (fun b o h1 h2 h3 e => hk₁' b o h1 (hk b o h1 h2 h3 e)) (stab i _ _ _ I hI (hns i _ hst') hk₁')
end
end Xb4

namespace Xb4
local macro_rules | `(tactic| walk_at "lk") => `(tactic| first | assumption | exact lk_hit | (refine lk_miss (by simp [ofString_inj]) ?_; walk_at "lk"))
section
variable {prog : Program} {w : World} {A : Around} {E : Value → Shared → Prop} {s : Shared} {mg mb : Str → Option Value}

/-- what _comment_line gives -/
def commentLine (x : Str) : Str := if (Txt.rstrip x).length = 0 then Str.ofString "#" else Str.ofString "# " ++ Txt.rstrip x

theorem stripBy_le (g : Nat → Bool) (l r : Bool) (x : Str) : (Txt.stripBy g l r x).length ≤ x.length := by
  rw [PyProof.Rows.stripBy_eq]; exact le_strSub x _ _
theorem rstrip_le (x : Str) : (Txt.rstrip x).length ≤ x.length := stripBy_le _ _ _ _

theorem comment_body {env : Env} {m : Str → Option Value} {h₀ : Heap} {x : Str} {t : Tok} {Q : Flow → Shared → Prop} (V : Ev env ["line"] []) (F : Fr h₀ env.locals s.heap m) (hm : m "line" = some (.str x t)) (hx : x.length ≤ 1000)
    (h : ∀ s' t', Same s s' → Ext h₀ s'.heap → Q (.ret (.str (commentLine x) t')) s') : wpAny (model prog w) A (execs (bodyOf (stm 6)) env) Q E s := by
  have l1 := V.l "line" (.head _)
  have hz : sizeLine = 16777216 := PySem.sizeLine_eq
  have hr := rstrip_le x
  refine wpAny_execs_cons ?_
  refine wpAny_Assign_Name ?_
  refine MethodCall_ ?_
  refine nmL V F l1 hm ?_
  refine GM.rstrip ?_
  refine callWith_method0 ?_
  refine SC.rstrip ?_ (by omega)
  intro t' k
  refine sto V F l1 fun s1 S1 F' _ => ?_
  dsimp only
  refine wpAny_execs_cons ?_
  refine wpAny_If ?_
  refine isTrue_plain ?_
  refine nmL V F' l1 (by walk_at "lk") ?_
  refine P.truthy_str (by omega) ?_
  by_cases hc : (Txt.rstrip x).length = 0
  · rw [show (((Txt.rstrip x).length : Int) != 0) = false from by simp [hc]]
    rw [if_neg (by decide)]
    refine wpAny_execs_cons (wpAny_Return_some (conS ?_))
    have e : commentLine x = Str.ofString "#" := by unfold commentLine; rw [if_pos hc]
    rw [e] at h
    exact h _ _ (S1.of.and (Same.refl _)) (fun b o e => F'.keep b o e)
  · rw [show (((Txt.rstrip x).length : Int) != 0) = true from by simp [hc]]
    rw [if_pos rfl]
    refine wpAny_execs_cons (wpAny_Return_some (wpAny_BinOp (conS ?_)))
    refine nmL V F' l1 (by walk_at "lk") ?_
    refine SB.add ?_ ?_
    · intro t2 k2
      have e : commentLine x = Str.ofString "# " ++ Txt.rstrip x := by unfold commentLine; rw [if_neg hc]
      rw [e] at h
      exact h _ _ (S1.of.and (Same.refl _)) (fun b o e => F'.keep b o e)
    · rw [show (Str.ofString "# ").length = 2 from by decide]; omega
  

theorem comment_call {f : Addr} {o : Obj} {pm cd doc : Value} {x : Str} {t : Tok} {Q : Value → Shared → Prop} (W : Wd mg mb s.heap) (R : Rm A)
    (ho : s.heap.get? f = some o) (hd : o.data = .func (docDef "_comment_line" (argsOf (stm 6)) (bodyOf (stm 6)) (scopeOf (stm 6)) pm cd doc)) (hc : s.heap.CodeRec cd "_comment_line") (hx : x.length ≤ 1000)
    (h : ∀ s' t', Same s s' → Ext s.heap s'.heap → Q (.str (commentLine x) t') s') : wpAny (model prog w) A (call (.ref f) [.str x t]) Q E s := by
  refine wpAny_call (call_plain_ret R.d ho hd W.lim hc (binds := [("line", .str x t)]) rfl (by simp; rfl) (fun h₁ F => ?_) rfl rfl rfl (by decide))
  refine comment_body (x := x) (t := t) ⟨rfl, ?_, ?_, rfl, rfl, rfl⟩ F (by rfl) hx ?_
  · simp; rfl
  · simp
  · exact fun s' t' S e => h s' t' S.of e
end
end Xb4

namespace Xb4
local macro_rules | `(tactic| walk_at "lk") => `(tactic| first | assumption | exact lk_hit | (refine lk_miss (by simp [ofString_inj]) ?_; walk_at "lk"))
section
variable {prog : Program} {w : World} {A : Around} {E : Value → Shared → Prop} {s : Shared} {mg mb m : Str → Option Value} {env : Env} {h₀ : Heap} {x : Str} {t : Tok} {Q : Flow → Shared → Prop}

/-- the pieces of what _strip_exception_details gives -/
def seE1 (x : Str) : Int := if 0 ≤ Txt.find x "\n" then Txt.find x "\n" else x.length
def seE2 (x : Str) : Int := if 0 ≤ find4 x ":" 0 (seE1 x) then find4 x ":" 0 (seE1 x) else seE1 x
def seSt (x : Str) : Int := if 0 ≤ rfind4 x "." 0 (seE2 x) then rfind4 x "." 0 (seE2 x) + 1 else 0
def stripExc (x : Str) : Str := Txt.slice x (some (seSt x)) (some (seE2 x))

abbrev EvS (env : Env) : Prop := Ev env ["msg", "start", "end", "i"] ["len"]
abbrev PostS (h₀ : Heap) (x : Str) (Q : Flow → Shared → Prop) (s : Shared) : Prop := ∀ s' t', Same s s' → Ext h₀ s'.heap → Q (.ret (.str (stripExc x) t')) s'

theorem se7 {u v : Tok} (V : EvS env) (F : Fr h₀ env.locals s.heap m) (hm : m "msg" = some (.str x t)) (hst : m "start" = some (.int (seSt x) u)) (hen : m "end" = some (.int (seE2 x) v)) (hx : x.length ≤ 1000)
    (h : PostS h₀ x Q s) : wpAny (model prog w) A (execs ((bodyOf (stm 7)).drop 7) env) Q E s := by
  have l1 := V.l "msg" (.head _)
  have l2 := V.l "start" (.tail _ (.head _))
  have l3 := V.l "end" (.tail _ (.tail _ (.head _)))
  refine wpAny_execs_cons (wpAny_Return_some (sliceSS ?_))
  refine nmL V F l1 hm (nmL V F l2 hst (nmL V F l3 hen ⟨x, t, _, _, _, _, rfl, rfl, rfl, hx, fun s' t' S e => ?_⟩))
  exact h s' t' S fun b o z => e b o (F.keep b o z)

theorem se5 {u v : Tok} (V : EvS env) (F : Fr h₀ env.locals s.heap m) (hm : m "msg" = some (.str x t)) (hst : m "start" = some (.int 0 u)) (hen : m "end" = some (.int (seE2 x) v)) (hx : x.length ≤ 1000)
    (h : PostS h₀ x Q s) : wpAny (model prog w) A (execs ((bodyOf (stm 7)).drop 5) env) Q E s := by
  have l1 := V.l "msg" (.head _)
  have l2 := V.l "start" (.tail _ (.head _))
  have l3 := V.l "end" (.tail _ (.tail _ (.head _)))
  have l4 := V.l "i" (.tail _ (.tail _ (.tail _ (.head _))))
  refine wpAny_execs_cons (wpAny_Assign_Name (MethodCall_ ?_))
  refine nmL V F l1 hm (GM.rfind (callWith_method1 (args_cons (conS (args_cons (wpAny_Constant_int (args_cons (nmL V F l3 hen (args_nil ?_)))))))))
  refine call_rfind4 ?_
  refine sto V F l4 fun s1 S1 F1 _ => ?_
  refine wpAny_execs_cons (wpAny_If (wpAny_isTrue_Compare1 ?_))
  refine nmL V F1 l4 (by walk_at "lk") (wpAny_Constant_int (ge_int (wpAny_truthy_bool ?_)))
  by_cases hc : 0 ≤ rfind4 x "." 0 (seE2 x)
  · rw [decide_eq_true hc, if_pos rfl]
    refine wpAny_execs_cons (wpAny_Assign_Name (wpAny_BinOp ?_))
    refine nmL V F1 l4 (by walk_at "lk") (wpAny_Constant_int (add_int ?_))
    refine sto V F1 l2 fun s2 S2 F2 _ => ?_
    refine wpAny_execs_nil ?_
    refine se7 V F2 (x := x) (t := t) (by walk_at "lk") (by rw [show seSt x = _ from if_pos hc]; exact lk_hit) (by walk_at "lk") hx (fun s' t' S e => h s' t' (S1.of.and (S2.and S)) e)
  · rw [decide_eq_false hc, if_neg (by decide)]
    refine wpAny_execs_nil ?_
    refine se7 V F1 (x := x) (t := t) (v := v) (u := u) (by walk_at "lk") (by rw [show seSt x = 0 from if_neg hc]; walk_at "lk") (by walk_at "lk") hx (fun s' t' S e => h s' t' (S1.of.and S) e)

theorem se3 {u v : Tok} (V : EvS env) (F : Fr h₀ env.locals s.heap m) (hm : m "msg" = some (.str x t)) (hst : m "start" = some (.int 0 u)) (hen : m "end" = some (.int (seE1 x) v)) (hx : x.length ≤ 1000)
    (h : PostS h₀ x Q s) : wpAny (model prog w) A (execs ((bodyOf (stm 7)).drop 3) env) Q E s := by
  have l1 := V.l "msg" (.head _)
  have l3 := V.l "end" (.tail _ (.tail _ (.head _)))
  have l4 := V.l "i" (.tail _ (.tail _ (.tail _ (.head _))))
  refine wpAny_execs_cons (wpAny_Assign_Name (MethodCall_ ?_))
  refine nmL V F l1 hm (GM.find (callWith_method1 (args_cons (conS (args_cons (wpAny_Constant_int (args_cons (nmL V F l3 hen (args_nil ?_)))))))))
  refine call_find4 ?_
  refine sto V F l4 fun s1 S1 F1 _ => ?_
  refine wpAny_execs_cons (wpAny_If (wpAny_isTrue_Compare1 ?_))
  refine nmL V F1 l4 (by walk_at "lk") (wpAny_Constant_int (ge_int (wpAny_truthy_bool ?_)))
  by_cases hc : 0 ≤ find4 x ":" 0 (seE1 x)
  · rw [decide_eq_true hc, if_pos rfl]
    refine wpAny_execs_cons (wpAny_Assign_Name ?_)
    refine nmL V F1 l4 (by walk_at "lk") ?_
    refine sto V F1 l3 fun s2 S2 F2 _ => ?_
    refine wpAny_execs_nil ?_
    refine se5 V F2 (x := x) (t := t) (u := u) (by walk_at "lk") (by walk_at "lk") (by rw [show seE2 x = _ from if_pos hc]; exact lk_hit) hx (fun s' t' S e => h s' t' (S1.of.and (S2.and S)) e)
  · rw [decide_eq_false hc, if_neg (by decide)]
    refine wpAny_execs_nil ?_
    refine se5 V F1 (x := x) (t := t) (v := v) (u := u) (by walk_at "lk") (by walk_at "lk") (by rw [show seE2 x = _ from if_neg hc]; walk_at "lk") hx (fun s' t' S e => h s' t' (S1.of.and S) e)

theorem se1 {u v : Tok} (V : EvS env) (F : Fr h₀ env.locals s.heap m) (hm : m "msg" = some (.str x t)) (hst : m "start" = some (.int 0 u)) (hen : m "end" = some (.int x.length v)) (hx : x.length ≤ 1000)
    (h : PostS h₀ x Q s) : wpAny (model prog w) A (execs ((bodyOf (stm 7)).drop 1) env) Q E s := by
  have l1 := V.l "msg" (.head _)
  have l3 := V.l "end" (.tail _ (.tail _ (.head _)))
  have l4 := V.l "i" (.tail _ (.tail _ (.tail _ (.head _))))
  refine wpAny_execs_cons (wpAny_Assign_Name (MethodCall_ ?_))
  refine nmL V F l1 hm (GM.find (callWith_method1 (args_cons (conS (args_nil ?_)))))
  refine SC.find ?_
  refine sto V F l4 fun s1 S1 F1 _ => ?_
  refine wpAny_execs_cons (wpAny_If (wpAny_isTrue_Compare1 ?_))
  refine nmL V F1 l4 (by walk_at "lk") (wpAny_Constant_int (ge_int (wpAny_truthy_bool ?_)))
  by_cases hc : 0 ≤ Txt.find x "\n"
  · rw [decide_eq_true hc, if_pos rfl]
    refine wpAny_execs_cons (wpAny_Assign_Name ?_)
    refine nmL V F1 l4 (by walk_at "lk") ?_
    refine sto V F1 l3 fun s2 S2 F2 _ => ?_
    refine wpAny_execs_nil ?_
    refine se3 V F2 (x := x) (t := t) (u := u) (by walk_at "lk") (by walk_at "lk") (by rw [show seE1 x = _ from if_pos hc]; exact lk_hit) hx (fun s' t' S e => h s' t' (S1.of.and (S2.and S)) e)
  · rw [decide_eq_false hc, if_neg (by decide)]
    refine wpAny_execs_nil ?_
    refine se3 V F1 (x := x) (t := t) (v := v) (u := u) (by walk_at "lk") (by walk_at "lk") (by rw [show seE1 x = _ from if_neg hc]; walk_at "lk") hx (fun s' t' S e => h s' t' (S1.of.and S) e)

theorem se0 (V : EvS env) (hh : A.handled = none) (W : Wd mg mb s.heap) (hg : mg "len" = none) (hb : mb "len" = some (.builtin "len")) (F : Fr h₀ env.locals s.heap m) (hm : m "msg" = some (.str x t)) (hx : x.length ≤ 1000)
    (h : PostS h₀ x Q s) : wpAny (model prog w) A (execs (bodyOf (stm 7)) env) Q E s := by
  have l1 := V.l "msg" (.head _)
  have l2 := V.l "start" (.tail _ (.head _))
  have l3 := V.l "end" (.tail _ (.tail _ (.head _)))
  have g1 := V.gl "len" (.head _)
  refine wpAny_execs_cons (assign2 (h₀ := h₀) (m := m) V hh l2 l3 ?_)
  refine wpAny_Constant_int (Call_ (nmB V W g1 hg hb (callWith_builtin1 (args_cons (nmL V F l1 hm (args_nil ?_))))))
  refine len_str (by omega) ⟨F, fun s1 S1 F1 _ => ?_⟩
  exact se1 V F1 (x := x) (t := t) (by walk_at "lk") (by walk_at "lk") (by walk_at "lk") hx (fun s' t' S e => h s' t' (S1.of.and S) e)

theorem strip_call {f : Addr} {o : Obj} {pm cd doc : Value} {Q : Value → Shared → Prop} (W : Wd mg mb s.heap) (hg : mg "len" = none) (hb : mb "len" = some (.builtin "len")) (R : Rm A)
    (ho : s.heap.get? f = some o) (hd : o.data = .func (docDef "_strip_exception_details" (argsOf (stm 7)) (bodyOf (stm 7)) (scopeOf (stm 7)) pm cd doc)) (hc : s.heap.CodeRec cd "_strip_exception_details") (hx : x.length ≤ 1000)
    (h : ∀ s' t', Same s s' → Ext s.heap s'.heap → Q (.str (stripExc x) t') s') : wpAny (model prog w) A (call (.ref f) [.str x t]) Q E s := by
  refine wpAny_call (call_plain_ret R.d ho hd W.lim hc (binds := [("msg", .str x t)]) rfl (by simp; rfl) (fun h₁ F => ?_) rfl rfl rfl (by decide))
  refine se0 (x := x) (t := t) ⟨rfl, ?_, ?_, rfl, rfl, rfl⟩ R.h (W.ext F.keep) hg hb F (by rfl) hx ?_
  · simp; exact ⟨rfl, rfl, rfl, rfl⟩
  · simp; rfl
  · exact fun s' t' S e => h s' t' S.of e
end
end Xb4

namespace Xb4
/-! ## the pattern's machine -/
open PySem.Sre in
def reCode : Array Nat := #[14, 4, 0, 0, 0, 6, 1, 5, 5, 0, 6, 6, 1, 1]

/-- a row opens at s, and it is not empty -/
def opens (x : Array Nat) (s : Nat) : Bool := s == 0 || x.getD (s - 1) 0 == 10
def closes (x : Array Nat) (s : Nat) : Bool := s == x.size || x.getD s 0 == 10
def nextPos (x : Array Nat) : (fuel s : Nat) → (must : Bool) → Option Nat
  | 0, _, _ => none
  | f + 1, s, must => if opens x s && !closes x s && !must then some s else if s < x.size then nextPos x f (s + 1) false else none

/-- the machine at the head of an attempt -/
def mAt (x : Array Nat) (s : Nat) (first must : Bool) (sn : Sre.Seen) : Sre.M :=
  { code := reCode, text := x, lim := x.size, start := s, lastStart := x.size, mustAdvance := must, pc := 5, pos := s, handed := s, outermost := first, marks := #[],
    frames := [{ wait := .nextStart, pc := 5, pos := s, outermost := first }], weight := 1, seen := sn }

theorem runFor_done {m : Sre.M} (h : m.outcome.isSome = true) : ∀ n, m.runFor n = m
  | 0 => rfl
  | n + 1 => by rw [Sre.M.runFor, if_pos h]
theorem runFor_add (m : Sre.M) : ∀ a b, m.runFor (a + b) = (m.runFor a).runFor b
  | 0, b => by rw [Nat.zero_add]; rfl
  | a + 1, b => by
    rw [Nat.succ_add, Sre.M.runFor, Sre.M.runFor]
    split
    · rename_i h; rw [runFor_done h]
    · exact runFor_add m.step a b

theorem forSearch_at (x : Array Nat) (s : Nat) (must : Bool) (hs : s ≤ x.size) : Sre.forSearch reCode x 0 s x.size must = mAt x s true must (({} : Sre.Seen).add 14) := by
  have h1 : (decide (s > x.size) || decide (x.size - s < 0)) = false := by simp; omega
  show (if (decide (s > x.size) || decide (x.size - s < 0)) = true then _ else _) = _
  rw [h1, if_neg (by decide)]
  rfl

section
variable (x : Array Nat) (s : Nat) (fi mu : Bool) (sn : Sre.Seen)
/-- behind the first word: the row opens -/
def m1 : Sre.M := { mAt x s fi mu sn with pc := 7 }
/-- within the look ahead, at its word p -/
def m2 (p : Nat) : Sre.M := { mAt x s fi mu sn with pc := p, outermost := false, weight := 2, frames := [{ wait := .lookNot, pc := 7, pos := s, outermost := fi }, { wait := .nextStart, pc := 5, pos := s, outermost := fi }] }
def mNo (p : Nat) : Sre.M := { mAt x s fi mu sn with pc := p, answer := some false }
def m5 : Sre.M := { mAt x s fi mu sn with pc := 13 }
def mYes : Sre.M := { mAt x s fi mu sn with pc := 13, answer := some true }
theorem step0 : (mAt x s fi mu sn).step = if opens x s = true then m1 x s fi mu ((sn.add 6).add 44) else mNo x s fi mu ((sn.add 6).add 44) 5 := by
  rfl
theorem step1 : (m1 x s fi mu sn).step = m2 x s fi mu (sn.add 5) 10 := by
  show (m1 x s fi mu sn).exec = _
  simp [Sre.M.exec, m1, m2, mAt, Sre.M.word, reCode, Sre.ops, Sre.M.attempt, Sre.M.frame, Sre.M.keep]
theorem step2 : (m2 x s fi mu sn 10).step = if closes x s = true then m2 x s fi mu ((sn.add 6).add 49) 12 else { m2 x s fi mu ((sn.add 6).add 49) 10 with answer := some false } := by rfl
theorem step3 : (m2 x s fi mu sn 12).step = { m2 x s fi mu (sn.add 1) 12 with answer := some true } := by
  show (m2 x s fi mu sn 12).exec = _
  simp [Sre.M.exec, m2, mAt, Sre.M.word, reCode, Sre.ops, Sre.M.say]
theorem step4 (p : Nat) : ({ m2 x s fi mu sn p with answer := some true } : Sre.M).step = mNo x s fi mu sn 7 := by rfl
theorem step5 (p : Nat) : ({ m2 x s fi mu sn p with answer := some false } : Sre.M).step = m5 x s fi mu sn := by
  simp [Sre.M.step, Sre.M.resume, m2, m5, mAt, Sre.M.putBack, Sre.M.word, reCode]
theorem step6 : (m5 x s fi mu sn).step = if (fi && mu) = true then mNo x s fi mu (sn.add 1) 13 else mYes x s fi mu (sn.add 1) := by
  show (m5 x s fi mu sn).exec = _
  simp [Sre.M.exec, m5, mAt, Sre.M.word, reCode, Sre.ops, Sre.M.say, mNo, mYes]
theorem step7 (p : Nat) : (mNo x s fi mu sn p).step = if s < x.size then mAt x (s + 1) false false sn else { mNo x s fi mu sn 5 with frames := [], weight := 0 } := by
  rfl
theorem step8 (p : Nat) : ({ mNo x s fi mu sn p with frames := [], weight := 0 } : Sre.M).step = { mNo x s fi mu sn p with frames := [], weight := 0, outcome := some .failed } := by rfl
theorem step9 : (mYes x s fi mu sn).step = { mYes x s fi mu sn with frames := [], weight := 0, pc := 5 } := by rfl
theorem step10 : ({ mYes x s fi mu sn with frames := [], weight := 0, pc := 5 } : Sre.M).step = { mYes x s fi mu sn with frames := [], weight := 0, pc := 5, outcome := some .matched } := by rfl
end
theorem run_go {m m' : Sre.M} {n : Nat} (ho : m.outcome = none) (hs : m.step = m') : m.runFor (n + 1) = m'.runFor n := by
  rw [Sre.M.runFor, ho, hs]; rfl

def Ended (x : Array Nat) (r : Option Nat) (m : Sre.M) : Prop := match r with
  | some p => m.outcome = some .matched ∧ m.start = p ∧ m.handed = p
  | none => m.outcome = some .failed

theorem run_at (x : Array Nat) : ∀ (f s : Nat) (fi mu : Bool) (sn : Sre.Seen), s ≤ x.size → x.size - s < f → (fi = true ∨ mu = false) → ∃ n, n ≤ 8 * f ∧ Ended x (nextPos x f s mu) ((mAt x s fi mu sn).runFor n)
  | 0, s, fi, mu, sn, _, h, _ => absurd h (Nat.not_lt_zero _)
  | f + 1, s, fi, mu, sn, hs, h, hfm => by
    have hand : (fi && mu) = mu := by rcases hfm with rfl | rfl <;> simp
    -- what follows a refusal
    have no : ∀ (p : Nat) (sn : Sre.Seen), (opens x s && !closes x s && !mu) = false → ∃ n, n ≤ 8 * f + 2 ∧ Ended x (nextPos x (f + 1) s mu) ((mNo x s fi mu sn p).runFor n) := by
      intro p sn hb
      rw [nextPos, hb, if_neg (by decide)]
      by_cases hlt : s < x.size
      · rw [if_pos hlt]
        obtain ⟨n, hn, hE⟩ := run_at x f (s + 1) false false sn hlt (by omega) (.inr rfl)
        refine ⟨n + 1, by omega, ?_⟩
        rw [run_go rfl (step7 x s fi mu sn p), if_pos hlt]
        exact hE
      · rw [if_neg hlt]
        refine ⟨2, by omega, ?_⟩
        rw [run_go rfl (step7 x s fi mu sn p), if_neg hlt, run_go rfl (step8 x s fi mu sn 5)]
        exact rfl
    cases ho : opens x s with
    | false =>
      obtain ⟨n, hn, hE⟩ := no 5 ((sn.add 6).add 44) (by rw [ho]; rfl)
      refine ⟨n + 1, by omega, ?_⟩
      rw [run_go rfl (step0 x s fi mu sn), ho, if_neg (by decide)]
      exact hE
    | true =>
      have e0 := step0 x s fi mu sn
      rw [ho, if_pos rfl] at e0
      cases hc : closes x s with
      | true =>
        obtain ⟨n, hn, hE⟩ := no 7 ((((((sn.add 6).add 44).add 5).add 6).add 49).add 1) (by rw [ho, hc]; rfl)
        refine ⟨n + 1 + 1 + 1 + 1 + 1, by omega, ?_⟩
        rw [run_go rfl e0, run_go rfl (step1 x s fi mu _), run_go rfl (step2 x s fi mu _), hc, if_pos rfl, run_go rfl (step3 x s fi mu _), run_go rfl (step4 x s fi mu _ _)]
        exact hE
      | false =>
        have e6 := step6 x s fi mu (((((sn.add 6).add 44).add 5).add 6).add 49)
        rw [hand] at e6
        cases hm : mu with
        | true =>
          rw [hm] at e6 no
          obtain ⟨n, hn, hE⟩ := no 13 ((((((sn.add 6).add 44).add 5).add 6).add 49).add 1) (by rw [ho, hc]; rfl)
          refine ⟨n + 1 + 1 + 1 + 1 + 1, by omega, ?_⟩
          rw [hm] at e0
          rw [run_go rfl e0, run_go rfl (step1 x s fi true _), run_go rfl (step2 x s fi true _), hc, if_neg (by decide), run_go rfl (step5 x s fi true _ _), run_go rfl e6, if_pos rfl]
          exact hE
        | false =>
          rw [hm] at e0 e6
          refine ⟨0 + 1 + 1 + 1 + 1 + 1 + 1 + 1, by omega, ?_⟩
          rw [run_go rfl e0, run_go rfl (step1 x s fi false _), run_go rfl (step2 x s fi false _), hc, if_neg (by decide), run_go rfl (step5 x s fi false _ _), run_go rfl e6, if_neg (by decide), run_go rfl (step9 x s fi false _), run_go rfl (step10 x s fi false _)]
          rw [nextPos, ho, hc]
          exact ⟨rfl, rfl, rfl⟩

section
variable {prog : Program} {w : World} {A : Around} {E : Value → Shared → Prop} {s : Shared}
open PySem.Builtin.Re
theorem drive : ∀ (k turns : Nat) (m : Sre.M) (mf : Sre.M) (Q : Sre.M → Shared → Prop), k ≤ turns → m.runFor (4 * k) = mf → mf.outcome.isSome = true → 0 < turns → Q mf s → wpAny (model prog w) A (reDrive turns m) Q E s
  | k, 0, _, _, _, _, _, _, h, _ => absurd h (Nat.lt_irrefl _)
  | 0, t + 1, m, mf, Q, _, hr, ho, _, hq => by
    have e : m = mf := hr
    subst e
    rw [reDrive]
    have e4 : m.runFor reTurnSteps = m := runFor_done ho _
    simp only [e4, ho, if_true]
    exact wpAny_pure hq
  | k + 1, t + 1, m, mf, Q, hk, hr, ho, _, hq => by
    rw [reDrive]
    have e4 : (m.runFor 4).runFor (4 * k) = mf := by rw [← hr, ← runFor_add]; congr 1; omega
    show wpAny (model prog w) A (if (m.runFor 4).outcome.isSome = true then pure (m.runFor 4) else (do rule "sre.turn"; reDrive t (m.runFor 4))) Q E s
    by_cases hc : (m.runFor 4).outcome.isSome = true
    · rw [if_pos hc]
      have e : m.runFor 4 = mf := by rw [← e4, runFor_done hc]
      rw [e]
      exact wpAny_pure hq
    · rw [if_neg hc]
      refine wpAny_bind (wpAny_rule ?_)
      refine drive k t (m.runFor 4) mf Q (by omega) e4 ho ?_ hq
      cases t with
      | zero =>
        have : k = 0 := by omega
        subst this
        have e : m.runFor 4 = mf := e4
        rw [e] at hc
        exact absurd ho hc
      | succ t => omega

theorem runToEnd {m : Sre.M} {n : Nat} {x : Array Nat} {r : Option Nat} {Q : Option Sre.M → Shared → Prop} (hn : n ≤ 2 ^ 40) (he : Ended x r (m.runFor n))
    (h : ∀ o, (match r with | some p => ∃ mf : Sre.M, o = some mf ∧ mf.start = p ∧ mf.handed = p | none => o = none) → Q o s) : wpAny (model prog w) A (reRunToEnd m) Q E s := by
  have ho : (m.runFor n).outcome.isSome = true := by
    unfold Ended at he
    cases r with
    | some p => rw [he.1]; rfl
    | none => rw [he]; rfl
  have h4 : m.runFor (4 * n) = m.runFor n := by
    have : 4 * n = n + 3 * n := by omega
    rw [this, runFor_add, runFor_done ho]
  unfold reRunToEnd
  refine wpAny_bind (drive n (2 ^ 64) m (m.runFor n) _ (by omega) h4 ho (by omega) ?_)
  have loop : ∀ (l : List Nat) (Q : PUnit → Shared → Prop), Q ⟨⟩ s → wpAny (model prog w) A (forIn l PUnit.unit fun i (r : PUnit) => (if (m.runFor n).seen.has i = true then (do rule (Sre.names.getD i ""); pure (ForInStep.yield PUnit.unit)) else pure (ForInStep.yield PUnit.unit))) Q E s := by
    intro l
    induction l with
    | nil => intro Q hq; exact wpAny_pure hq
    | cons i l ih =>
      intro Q hq
      rw [List.forIn_cons]
      refine wpAny_bind ?_
      split
      · exact wpAny_bind (wpAny_rule (wpAny_pure (ih Q hq)))
      · exact wpAny_pure (ih Q hq)
  refine wpAny_bind (loop _ _ ?_)
  unfold Ended at he
  cases r with
  | some p =>
    rw [he.1]
    exact wpAny_pure (h _ ⟨_, rfl, he.2⟩)
  | none =>
    rw [he]
    exact wpAny_pure (h _ rfl)
end
end Xb4

namespace Xb4
/-! ## re.Pattern.sub -/
theorem slot_sub : Slot "re.Pattern" "sub" "re.Pattern.sub" :=
  .of (owner := "re.Pattern") (n := "sub") (by rw [typeLookup_type, builtinLookup_eq_fast]; kernel_rfl) (by decide +kernel) (by decide +kernel) (by decide +kernel)
    (by first | exact .inl (by decide +kernel) | exact .inr (by decide +kernel)) (by rw [isSubtype_type]; kernel_rfl)
theorem type_sub : typeOf (.builtin "re.Pattern.sub") = pure (.type "method_descriptor") := by show builtinType _ = _; rw [builtinType_eq_fast]; kernel_rfl
theorem entry_sub : entryFor table "re.Pattern.sub" = some Builtin.«re.Pattern.sub» := entryFor_of_tree (by kernel_rfl)
theorem entry_subloop : entryFor table "re.Pattern.sub.loop" = some Builtin.«re.Pattern.sub.loop» := entryFor_of_tree (by kernel_rfl)
theorem plain_subloop : plainId "re.Pattern.sub.loop" = true := by decide +kernel
theorem args_sub (a b c : Value) : argsOk "re.Pattern.sub" ⟨[a, b, c], []⟩ := by
  unfold argsOk; kernel_rfl
theorem plainAttrs_pat : PlainAttrs "re.Pattern" where
  ga := ⟨"object.__getattribute__", by rw [typeLookup_type, builtinLookup_eq_fast]; kernel_rfl, by decide +kernel⟩
  noGetattr := by rw [typeLookup_type, builtinLookup_eq_fast]; kernel_rfl
theorem noCall_str : typeLookup (.type "str") "__call__" = pure none := by rw [typeLookup_type, builtinLookup_eq_fast]; kernel_rfl

def reVals : Array Value := (([14, 4, 0, 0, 0, 6, 1, 5, 5, 0, 6, 6, 1, 1] : List Int).map fun i => Value.int i 0).toArray
/-- the pattern's object, and the tuple of its words -/
def PatAt (h : Heap) (a T : Addr) : Prop := (∃ x1 t1 i2 t2, h.get? a = some ⟨.type "re.Pattern", none, .fields #[.str x1 t1, .int i2 t2, .int 0 0, .none, .none, .ref T, .int 0 0], #[]⟩) ∧
  h.get? T = some ⟨.type "tuple", none, .seq reVals 0, #[]⟩
theorem PatAt.ext {h h' : Heap} {a T : Addr} (P : PatAt h a T) (k : Ext h h') : PatAt h' a T := by
  obtain ⟨⟨x1, t1, i2, t2, e⟩, f⟩ := P
  exact ⟨⟨x1, t1, i2, t2, k _ _ e⟩, k _ _ f⟩

section
variable {prog : Program} {w : World} {A : Around} {E : Value → Shared → Prop} {s : Shared} {a T : Addr} {x : Str} {t : Tok}
open PySem.Builtin.Re
def tgt (a : Addr) (x : Str) (t : Tok) : ReTarget := { pattern := .ref a, string := .str x t, code := reCode, text := x.cps, kind := 0, groups := 0, pos := 0, lim := x.cps.size }
theorem textOf_str : reTextOf (.str x t) = pure (x.cps, 0) := rfl
theorem noColl (v : Value) : reNoCollectionInside v 0 = pure () := rfl
theorem words_map : (reVals.map reRawOf).map (·.toNat) = reCode := by simp [reVals, reCode, reRawOf]
theorem whole {Q : ReTarget → Shared → Prop} (P : PatAt s.heap a T) (h : Q (tgt a x t) s) : wpAny (model prog w) A (reWholeTarget (.ref a) (.str x t)) Q E s := by
  obtain ⟨⟨x1, t1, i2, t2, e⟩, f⟩ := P
  unfold reWholeTarget
  refine wpAny_bind (wpAny_fieldsOf e rfl ?_)
  rw [textOf_str]
  refine wpAny_bind (wpAny_pure ?_)
  show wpAny (model prog w) A (reNoCollectionInside (.str x t) 0 >>= fun _ => reRawItems (.ref T) >>= fun l => pure { pattern := .ref a, string := .str x t, code := l.map (·.toNat), text := x.cps, kind := 0, groups := 0, pos := 0, lim := x.cps.size }) Q E s
  rw [noColl]
  refine wpAny_bind (wpAny_pure ?_)
  unfold reRawItems
  refine wpAny_bind (wpAny_bind (wpAny_seqItems f rfl (wpAny_pure (wpAny_pure ?_))))
  show Q { pattern := .ref a, string := .str x t, code := (reVals.map reRawOf).map (·.toNat), text := x.cps, kind := 0, groups := 0, pos := 0, lim := x.cps.size } s
  rw [words_map]
  exact h

theorem pushL {D : Addr} {items : Array Value} {v : Value} {Q : Unit → Shared → Prop} (hl : s.heap.IsList D items) (hz : items.size ≤ 10000)
    (h : ∀ h', h'.IsList D (items.push v) → Heap.SameBut D s.heap h' → Q () { s with heap := h' }) : wpAny (model prog w) A (updateSeq D (·.push v)) Q E s := by
  have hs : sizeLine = 16777216 := PySem.sizeLine_eq
  obtain ⟨o, ho, hc, n, hd⟩ := id hl
  obtain ⟨n', hd'⟩ := Obj.data_mapSeq hd (·.push v)
  refine wpAny_updateSeq ho hd (h _ ?_ (Heap.SameBut.update ..)) (by omega) (by rw [Array.size_push]; omega)
  exact ⟨_, Heap.get?_update_self _ ho (Obj.isFreed_of_seq hd'), (Obj.cls_mapSeq ..).trans hc, n', hd'⟩

/-- the pieces that sub lays down -/
def subPieces (x : Array Nat) (pad : Str) : (fuel start : Nat) → (must : Bool) → List Str
  | 0, _, _ => []
  | f + 1, start, must => match nextPos x (x.size + 1 - start) start must with
    | some p => (if start < p then [⟨x.extract start p⟩] else []) ++ [pad] ++ subPieces x pad f p true
    | none => if start < x.size then [⟨x.extract start x.size⟩] else []

theorem nextPos_spec (x : Array Nat) : ∀ (f s : Nat) (must : Bool) (p : Nat), s ≤ x.size → nextPos x f s must = some p → s ≤ p ∧ (must = true → s < p) ∧ p < x.size
  | 0, _, _, _, _, h => by cases h
  | f + 1, s, must, p, hs, h => by
    rw [nextPos] at h
    split at h
    · rename_i hb
      cases h
      simp only [Bool.and_eq_true, Bool.not_eq_true'] at hb
      obtain ⟨⟨_, hc⟩, hm⟩ := hb
      refine ⟨Nat.le_refl _, (fun h => by rw [hm] at h; cases h), ?_⟩
      unfold closes at hc
      rw [Bool.or_eq_false_iff] at hc
      have := hc.1
      simp at this
      omega
    · split at h
      · rename_i hlt
        obtain ⟨h1, _, h3⟩ := nextPos_spec x f (s + 1) false p hlt h
        exact ⟨by omega, fun _ => by omega, h3⟩
      · cases h

abbrev subArgs (a D : Addr) (pad x : Str) (tp t : Tok) (n : Int) (start : Nat) (must : Bool) : Args :=
  ⟨[.ref a, .str x t, .str pad tp, rawInt 0, rawInt 0, rawInt n, rawInt start, rawInt start, .bool must, .ref D, .bool false], []⟩

theorem next_found {start : Nat} {must : Bool} {Q : Option Sre.M → Shared → Prop} (hx : x.length ≤ 1000) (hs : start ≤ x.length)
    (h : ∀ o, (match nextPos x.cps (x.cps.size + 1 - start) start must with | some p => ∃ mf : Sre.M, o = some mf ∧ mf.start = p ∧ mf.handed = p | none => o = none) → Q o s) :
    wpAny (model prog w) A (reNextFound (tgt a x t) start must) Q E s := by
  have hs' : start ≤ x.cps.size := hs
  have hx' : x.cps.size ≤ 1000 := hx
  obtain ⟨n, hn, hE⟩ := run_at x.cps (x.cps.size + 1 - start) start true must (({} : Sre.Seen).add 14) hs' (by omega) (.inl rfl)
  show wpAny (model prog w) A (reRunToEnd (Sre.forSearch reCode x.cps 0 start x.cps.size must)) Q E s
  rw [forSearch_at _ _ _ hs']
  exact runToEnd (by omega) hE h

theorem slice_kind0 {y : Array Nat} {i j : Nat} {Q : Value → Shared → Prop} (hj : j ≤ y.size) (hy : y.size ≤ 1000) (h : Q (.str ⟨y.extract i j⟩ s.toks) { s with toks := s.toks + 1 }) : wpAny (model prog w) A (reSlice y 0 i j) Q E s := by
  have hz : sizeLine = 16777216 := PySem.sizeLine_eq
  show wpAny (model prog w) A (mkStr ⟨y.extract i j⟩) Q E s
  unfold mkStr
  have : ¬ (⟨y.extract i j⟩ : Str).length > sizeLine := by simp only [Str.length, Array.size_extract]; omega
  rw [if_neg this]
  exact wpAny_bind (nd_fresh (wpAny_pure (wpAny_pure h)))

theorem sub_fin {D : Addr} {l : List (Str × Tok)} {Q : Fin → Shared → Prop} (hx : x.length ≤ 1000) (hl : s.heap.IsList D (strValues l).toArray) (hn : l.length ≤ 3000) (hy : ∀ y ∈ l.map (·.1), y.length ≤ 1000)
    (h : ∀ s' t', Same s s' → s'.heap = s.heap → Q (.done (.ret (.str (Txt.join ⟨#[]⟩ (l.map (·.1))) t'))) s') :
    wpAny (model prog w) A (reSlice x.cps 0 0 0 >>= fun joiner => seqItems? (.ref D) >>= fun r => if (r.getD #[]).isEmpty = true then (pure joiner >>= fun text => ret text) else (call (.builtin "str.join") [joiner, .ref D] >>= fun text => ret text)) Q E s := by
  have hx' : x.cps.size ≤ 1000 := hx
  refine wpAny_bind (slice_kind0 (Nat.zero_le _) hx' ?_)
  obtain ⟨o, ho, hc, n, hd⟩ := id hl
  refine wpAny_bind (wpAny_seqItems ho hd ?_)
  have e0 : (⟨x.cps.extract 0 0⟩ : Str) = ⟨#[]⟩ := by simp
  rw [e0]
  cases l with
  | nil =>
    rw [if_pos (show ((some (strValues []).toArray).getD #[]).isEmpty = true from rfl)]
    refine wpAny_bind (wpAny_pure (wpAny_pure ?_))
    exact h _ _ ⟨rfl, rfl, rfl⟩ rfl
  | cons p r =>
    rw [if_neg (by simp [strValues])]
    refine wpAny_bind (SC.join (l := p :: r) hl rfl ?_ fun t' k => ?_)
    · unfold JoinOk
      rw [StrLaws.joinFits (B := 1000) hy]
      · rfl
      · show _ + _ * 0 ≤ _
        rw [List.length_map]
        omega
    · exact wpAny_pure (h _ _ ⟨rfl, rfl, rfl⟩ rfl)

theorem sub_loop {D : Addr} {pad : Str} {tp : Tok} (hx : x.length ≤ 1000) (hpad : pad.length ≤ 10) {R : Result → Shared → Prop} :
    ∀ (f : Nat) (s : Shared) (l : List (Str × Tok)) (n : Int) (start : Nat) (must : Bool), PatAt s.heap a T → s.heap.IsList D (strValues l).toArray → start ≤ x.length →
      x.length + 1 - start + (if must then 0 else 1) ≤ f → (if must then l.length ≤ 2 * (start + 1) else l = [] ∧ start = 0) → (∀ y ∈ l.map (·.1), y.length ≤ 1000) → D ≠ a → D ≠ T →
      (∀ s' t', Same s s' → (∀ b o, b ≠ D → s.heap.get? b = some o → s'.heap.get? b = some o) → R (.ok (.ret (.str (Txt.join ⟨#[]⟩ (l.map (·.1) ++ subPieces x.cps pad f start must)) t'))) s') →
      codeAny (model prog w) A (.builtin "re.Pattern.sub.loop" (subArgs a D pad x tp t n start must)) R s
  | 0, s, l, n, start, must, P, hl, hs, hf, hI, hy, hDa, hDT, h => by omega
  | f + 1, s, l, n, start, must, P, hl, hs, hf, hI, hy, hDa, hDT, h => by
    have hz : sizeLine = 16777216 := PySem.sizeLine_eq
    have hx' : x.cps.size ≤ 1000 := hx
    have hln : l.length ≤ 2 * (start + 1) := by
      cases must with
      | true => exact hI
      | false => rw [hI.1]; exact Nat.zero_le _
    refine codeAny_builtin entry_subloop ?_
    unfold Builtin.«re.Pattern.sub.loop»
    dsimp only [rawInt]
    refine wpAny_bind (whole P ?_)
    rw [if_pos (by decide)]
    refine wpAny_bind ?_
    show wpAny _ _ (pure ()) _ _ _
    refine wpAny_pure ?_
    refine wpAny_bind ?_
    rw [if_neg (by simp)]
    refine next_found (start := start) hx hs fun o ho => ?_
    have hpk := nextPos_spec x.cps (x.cps.size + 1 - start) start must
    rw [subPieces] at h
    cases hr : nextPos x.cps (x.cps.size + 1 - start) start must with
    | none =>
      rw [hr] at ho h
      dsimp only at ho h
      subst ho
      dsimp only
      by_cases hlt : start < x.cps.size
      · rw [if_pos hlt] at h
        rw [if_pos (show ((start : Int).toNat < (tgt a x t).lim) from hlt)]
        refine wpAny_bind (slice_kind0 (y := x.cps) (Nat.le_refl _) hx' ?_)
        refine wpAny_bind (pushL hl (by simp [strValues]; omega) fun h1 hl1 hb1 => ?_)
        have e1 : (strValues l).toArray.push (.str ⟨x.cps.extract start x.cps.size⟩ s.toks) = (strValues (l ++ [(⟨x.cps.extract start x.cps.size⟩, s.toks)])).toArray := by simp [strValues]
        refine sub_fin (l := l ++ [(⟨x.cps.extract start x.cps.size⟩, s.toks)]) hx (by rw [← e1]; exact hl1) (by simp; omega) ?_ fun s' t' S e => ?_
        · intro y hy1
          rw [List.map_append] at hy1
          rcases List.mem_append.mp hy1 with q | q
          · exact hy y q
          · simp at q; subst q; simp [Str.length]; omega
        · rw [List.map_append]
          refine h s' t' S.of fun b o hb hg => ?_
          rw [e]
          exact hb1.extBut b o hb hg
      · rw [if_neg hlt] at h
        rw [if_neg (show ¬ ((start : Int).toNat < (tgt a x t).lim) from hlt)]
        refine sub_fin (l := l) hx hl (by omega) hy fun s' t' S e => ?_
        rw [List.append_nil] at h
        refine h s' t' S.of fun b o hb hg => ?_
        rw [e]
        exact hg
    | some p =>
      rw [hr] at ho h
      obtain ⟨mf, rfl, hst, hha⟩ := ho
      obtain ⟨hp1, hp2, hp3⟩ := hpk p hs hr
      have hp3' : p < x.length := hp3
      dsimp only at h ⊢
      rw [hst, hha, show (p == p) = true from beq_self_eq_true p, Int.toNat_natCast]
      have hfuel : x.length + 1 - p + (if true = true then 0 else 1) ≤ f := by
        cases must with
        | true => have := hp2 rfl; simp at hf ⊢; omega
        | false => simp at hf ⊢; omega
      have hln' : l.length + 2 ≤ 2 * (p + 1) := by
        cases must with
        | true => have := hp2 rfl; have := hI; simp at this; omega
        | false => rw [hI.1]; simp; omega
      have ne : (Value.str pad tp != Value.none) = true := by simp
      by_cases hlt : start < p
      · rw [if_pos hlt]
        rw [if_pos hlt] at h
        refine wpAny_bind (slice_kind0 (y := x.cps) (by omega) hx' ?_)
        refine wpAny_bind (pushL hl (by simp [strValues]; omega) fun h1 hl1 hb1 => ?_)
        have e1 : (strValues l).toArray.push (.str ⟨x.cps.extract start p⟩ s.toks) = (strValues (l ++ [(⟨x.cps.extract start p⟩, s.toks)])).toArray := by simp [strValues]
        rw [e1] at hl1
        rw [if_pos (by decide)]
        refine wpAny_bind (wpAny_pure ?_)
        rw [if_pos ne]
        refine wpAny_bind (pushL hl1 (by simp [strValues]; omega) fun h2 hl2 hb2 => ?_)
        have e2 : (strValues (l ++ [(⟨x.cps.extract start p⟩, s.toks)])).toArray.push (.str pad tp) = (strValues (l ++ [(⟨x.cps.extract start p⟩, s.toks)] ++ [(pad, tp)])).toArray := by simp [strValues]
        rw [e2] at hl2
        have k2 : ∀ b o, b ≠ D → s.heap.get? b = some o → h2.get? b = some o := fun b o hb e => hb2.extBut b o hb (hb1.extBut b o hb e)
        refine wpAny_pure ⟨plainId_quiet plain_subloop _, ?_⟩
        refine sub_loop hx hpad f _ (l ++ [(⟨x.cps.extract start p⟩, s.toks)] ++ [(pad, tp)]) (n + 1) p true ?_ hl2 (Nat.le_of_lt hp3) hfuel (by simp; omega) ?_ hDa hDT ?_
        · obtain ⟨⟨x1, t1, i2, t2, z⟩, f1⟩ := P
          exact ⟨⟨x1, t1, i2, t2, k2 _ _ (Ne.symm hDa) z⟩, k2 _ _ (Ne.symm hDT) f1⟩
        · intro y hy1
          simp only [List.map_append, List.mem_append] at hy1
          rcases hy1 with (q | q) | q
          · exact hy y q
          · simp at q; subst q; simp [Str.length]; omega
          · simp at q; subst q; omega
        · intro s' t' S e
          simp only [List.map_append, List.map_cons, List.map_nil, List.append_assoc] at h ⊢
          exact h s' t' S.of fun b o hb hg => e b o hb (k2 b o hb hg)
      · rw [if_neg hlt]
        rw [if_neg hlt] at h
        rw [if_pos (by decide)]
        refine wpAny_bind (wpAny_pure ?_)
        rw [if_pos ne]
        refine wpAny_bind (pushL hl (by simp [strValues]; omega) fun h2 hl2 hb2 => ?_)
        have e2 : (strValues l).toArray.push (.str pad tp) = (strValues (l ++ [(pad, tp)])).toArray := by simp [strValues]
        rw [e2] at hl2
        have k2 : ∀ b o, b ≠ D → s.heap.get? b = some o → h2.get? b = some o := fun b o hb e => hb2.extBut b o hb e
        refine wpAny_pure ⟨plainId_quiet plain_subloop _, ?_⟩
        refine sub_loop hx hpad f _ (l ++ [(pad, tp)]) (n + 1) p true ?_ hl2 (Nat.le_of_lt hp3) hfuel (by simp; omega) ?_ hDa hDT ?_
        · obtain ⟨⟨x1, t1, i2, t2, z⟩, f1⟩ := P
          exact ⟨⟨x1, t1, i2, t2, k2 _ _ (Ne.symm hDa) z⟩, k2 _ _ (Ne.symm hDT) f1⟩
        · intro y hy1
          simp only [List.map_append, List.mem_append] at hy1
          rcases hy1 with q | q
          · exact hy y q
          · simp at q; subst q; omega
        · intro s' t' S e
          simp only [List.map_append, List.map_cons, List.map_nil, List.append_assoc, List.nil_append] at h ⊢
          exact h s' t' S.of fun b o hb hg => e b o hb (k2 b o hb hg)

theorem named_sub (p q : Value) : reNamed "re.Pattern.sub" "sub" ["repl", "string", "count"] 2 [p, q] [] = pure [some p, some q, none] := by rfl
/-- what the pattern's sub gives -/
def subText (x pad : Str) : Str := Txt.join ⟨#[]⟩ (subPieces x.cps pad (x.length + 2) 0 false)

theorem sub_call {pad : Str} {tp : Tok} {Q : Value → Shared → Prop} (P : PatAt s.heap a T) (hx : x.length ≤ 1000) (hpad : pad.length ≤ 10) (hb : pad.cps.contains 92 = false)
    (h : ∀ s' t', Same s s' → Ext s.heap s'.heap → Q (.str (subText x pad) t') s') : wpAny (model prog w) A (call (.builtin "re.Pattern.sub") [.ref a, .str pad tp, .str x t]) Q E s := by
  have hT : s.TypeIs (.ref a) "re.Pattern" := by
    obtain ⟨⟨x1, t1, i2, t2, e⟩, f⟩ := P
    exact ⟨_, e, rfl⟩
  refine wpAny_call (codeAny_call_builtin slot_sub.plain entry_sub (slot_sub.check _ _ _ _ _ _ _ _ hT (args_sub _ _ _) ?_))
  show wpAny _ _ (reSubstitute "re.Pattern.sub" "sub" false ⟨[.ref a, .str pad tp, .str x t], []⟩) _ _ _
  unfold reSubstitute
  dsimp only
  rw [named_sub]
  refine wpAny_bind (wpAny_pure ?_)
  refine wpAny_bind (wpAny_pure ?_)
  refine wpAny_bind (wpAny_specialOf (typeIs_str _ _ _) noCall_str ?_)
  rw [if_neg (by decide)]
  refine wpAny_bind (wpAny_pure ?_)
  refine wpAny_bind (wpAny_pure ?_)
  rw [if_neg (by decide), hb]
  refine wpAny_bind (wpAny_pure ?_)
  refine wpAny_bind (wpAny_holding (whole P ?_))
  refine wpAny_bind (wpAny_newObj_type ?_ (by show (0 : Nat) ≤ _; omega))
  refine wpAny_pure ⟨plainId_quiet plain_subloop _, ?_⟩
  have hP' : PatAt (s.heap.push { cls := .type "list", data := .seq ([] : List Value).toArray }) a T := P.ext (Ext.push (Ext.refl _) _)
  have lt : ∀ b o, s.heap.get? b = some o → s.heap.objs.size ≠ b := fun b o e => Ne.symm (Nat.ne_of_lt (Heap.lt_size e))
  refine sub_loop hx hpad (x.length + 2) _ [] 0 0 false hP' ⟨_, get_push, rfl, _, rfl⟩ (Nat.zero_le _) (by simp) (by simp) (by simp) ?_ (lt _ _ P.2) ?_
  · obtain ⟨⟨x1, t1, i2, t2, e⟩, f⟩ := P
    exact lt _ _ e
  · intro s' t' S e
    exact h s' t' S.of fun b o hg => e b o (Ne.symm (lt _ _ hg)) (Heap.get?_push_of_some _ hg)

/-- n * x -/
theorem mul_right {n : Int} {u : Tok} {y : Str} {ty : Tok} {Q : Value → Shared → Prop} (hok : MulOk y n) (h : ∀ t' k, Q (.str (Txt.mul y n) t') { s with toks := k }) : wpAny (model prog w) A (binaryOp .Mult (.int n u) (.str y ty)) Q E s := by
  refine lm_binaryOp_repeat_right (T := "str") (U := "int") (by decide) (fun s' => typeIs_int s' n u) (typeIs_str s y ty) F.fills_int_mul noFill_str_mul F.slot_int_mul lm_noRepeat_int repeat_str F.slot_int_index.lookup
    (call_gives F.slot_int_mul (typeIs_int s n u) F.entry_int_mul (F.args_int_mul_2 _ _) (AutoIntG3.int___mul___int_str_0 n u y ty) ⟨rfl, typeIs_str _ _ _, ?_⟩)
  refine call_gives F.slot_str_mul (typeIs_str s y ty) F.entry_str_mul (F.args_str_mul_2 _ _) (gives_str_mul y n ty u hok.1 hok.2.1 hok.2.2) ?_
  unfold Txt.mul at h
  by_cases h1 : n < 1
  · rw [if_pos h1]; have h' := h s.toks (s.toks + 1); rw [if_pos h1] at h'; exact ⟨by decide, h'⟩
  · rw [if_neg h1]; refine post_val_or_made (fun hc => fits_reps (hok.2.2 h1 (by simpa using hc))) fun t' k => ?_
    have h' := h t' k; rw [if_neg h1] at h'; exact h'

/-- the blanks -/
def blanks (n : Int) : Str := Txt.mul (Str.ofString " ") n
theorem mulOk_blank {n : Int} (h1 : 1 ≤ n) (h2 : n ≤ 4) : MulOk (Str.ofString " ") n := by
  have hl : (Str.ofString " ").length = 1 := by decide
  have hn : n = 1 ∨ n = 2 ∨ n = 3 ∨ n = 4 := by omega
  rcases hn with rfl | rfl | rfl | rfl <;> (refine ⟨by decide, fun _ _ => ?_, fun _ _ => ?_⟩ <;> rw [hl] <;> decide)
theorem blanks_len {n : Int} (h1 : 1 ≤ n) (h2 : n ≤ 4) : (blanks n).length ≤ 10 ∧ (blanks n).cps.contains 92 = false := by
  have hn : n = 1 ∨ n = 2 ∨ n = 3 ∨ n = 4 := by omega
  rcases hn with rfl | rfl | rfl | rfl <;> exact ⟨by decide, by decide +kernel⟩
end
local macro_rules | `(tactic| walk_at "lk") => `(tactic| first | assumption | exact lk_hit | (refine lk_miss (by simp [ofString_inj]) ?_; walk_at "lk"))
section
variable {prog : Program} {w : World} {A : Around} {E : Value → Shared → Prop} {s : Shared} {mg mb m : Str → Option Value} {env : Env} {h₀ : Heap} {x : Str} {t : Tok} {a T : Addr}
def indent (x : Str) (n : Int) : Str := subText x (blanks n)
theorem indent_body {n : Int} {u : Tok} {Q : Flow → Shared → Prop} (V : Ev env ["s", "indent"] ["_twin_re_1"]) (W : Wd mg mb s.heap) (hg : mg "_twin_re_1" = some (.ref a)) (P : PatAt s.heap a T) (F : Fr h₀ env.locals s.heap m)
    (hm : m "s" = some (.str x t)) (hn : m "indent" = some (.int n u)) (hx : x.length ≤ 1000) (h1 : 1 ≤ n) (h2 : n ≤ 4)
    (h : ∀ s' t', Same s s' → Ext h₀ s'.heap → Q (.ret (.str (indent x n) t')) s') : wpAny (model prog w) A (execs (bodyOf (stm 4)) env) Q E s := by
  have l1 := V.l "s" (.head _)
  have l2 := V.l "indent" (.tail _ (.head _))
  have g1 := V.gl "_twin_re_1" (.head _)
  obtain ⟨b1, b2⟩ := blanks_len h1 h2
  refine wpAny_execs_cons (wpAny_Return_some (MethodCall_ ?_))
  refine nmG V W g1 hg ?_
  have hp : s.TypeIs (.ref a) "re.Pattern" ∧ ∃ o, s.heap.get? a = some o ∧ o.dict = none := by
    obtain ⟨⟨x1, t1, i2, t2, e⟩, f⟩ := P
    exact ⟨⟨_, e, rfl⟩, _, e, rfl⟩
  refine getMethod_builtin hp.1 plainAttrs_pat slot_sub type_sub (fun b e => by cases e; exact hp.2) ?_
  refine callWith_method1 (args_cons (wpAny_BinOp (nmL V F l2 hn (conS (mul_right (mulOk_blank h1 h2) fun t' k => ?_)))))
  refine args_cons (nmL V F l1 hm (args_nil ?_))
  refine sub_call P hx b1 b2 fun s' t' S e => ?_
  exact h s' t' S.of fun b o z => e b o (F.keep b o z)

theorem indent_call {f : Addr} {o : Obj} {pm cd doc : Value} {Td : Addr} {td : Tok} {n : Int} {u : Tok} {Q : Value → Shared → Prop} (W : Wd mg mb s.heap) (hg : mg "_twin_re_1" = some (.ref a)) (P : PatAt s.heap a T) (R : Rm A)
    (ho : s.heap.get? f = some o) (hd : o.data = .func { docDef "_indent" (argsOf (stm 4)) (bodyOf (stm 4)) (scopeOf (stm 4)) pm cd doc with defaults := .ref Td }) (hdf : s.heap.get? Td = some ⟨.type "tuple", none, .seq #[.int 4 td] 0, #[]⟩) (hc : s.heap.CodeRec cd "_indent") (hx : x.length ≤ 1000) (h1 : 1 ≤ n) (h2 : n ≤ 4)
    (h : ∀ s' t', Same s s' → Ext s.heap s'.heap → Q (.str (indent x n) t') s') : wpAny (model prog w) A (call (.ref f) [.str x t, .int n u]) Q E s := by
  refine wpAny_call (codeAny_call_def (binds := [("s", .str x t), ("indent", .int n u)]) R.d ho hd W.lim hc rfl (BindsTo.of_defaults rfl hdf rfl rfl rfl) (by show ∀ x ∈ (scopeOf (stm 4)).names, x.2 ≠ .cell; decide) (by simp; exact ⟨rfl, rfl⟩) (fun h₁ hn hk => ?_) rfl rfl rfl)
  have F : Fr s.heap s.heap.objs.size h₁ _ := ⟨hn, hk, Nat.le_refl _⟩
  refine wpAny_mono (indent_body (x := x) (t := t) (n := n) (u := u) (T := T) (Q := fun fl s' => ∃ v, fl = .ret v ∧ Q v s') ⟨rfl, ?_, ?_, rfl, rfl, rfl⟩ (W.ext hk) hg (P.ext hk) F (by rfl) (by rfl) hx h1 h2 ?_) (fun fl s' hq => ?_) fun _ _ e => e
  · simp; exact ⟨rfl, rfl⟩
  · simp; rfl
  · exact fun s' t' S e => ⟨_, rfl, h s' t' S.of e⟩
  · obtain ⟨v, rfl, hq⟩ := hq; exact hq
end
end Xb4

namespace Xb4
local macro_rules | `(tactic| walk_at "lk") => `(tactic| first | assumption | exact lk_hit | (refine lk_miss (by simp [ofString_inj]) ?_; walk_at "lk"))
section
variable {prog : Program} {w : World} {A : Around} {E : Value → Shared → Prop} {s : Shared} {mg mb m : Str → Option Value} {env : Env} {h₀ : Heap} {Q : Flow → Shared → Prop} {want got : Str} {tw tg : Tok}
/-! ## _ellipsis_match -/
def dots : Str := Str.ofString "..."
def ellLoop (got : Str) (en : Int) : List Str → Int → Bool
  | [], _ => true
  | w :: ws, st => if find4 got w st en < 0 then false else ellLoop got en ws (find4 got w st en + w.length)
def ellEnd (got : Str) (st en : Int) (ws : List Str) : Bool := if en < st then false else ellLoop got en ws st
def ellBack (got : Str) (st : Int) (ws : List Str) : Bool :=
  let w := ws.getLastD Str.empty
  if w.length = 0 then ellEnd got st got.length ws else if Txt.endswith got w = true then ellEnd got st ((got.length : Int) - w.length) ws.dropLast else false
def ellFront (got : Str) (ws : List Str) : Bool :=
  let w := ws.headD Str.empty
  if w.length = 0 then ellBack got 0 ws else if Txt.startswith got w = true then ellBack got w.length ws.tail else false
def ellip (want got : Str) : Bool := if Txt.contains want dots = true then ellFront got (Txt.split want dots) else want == got

abbrev EvE (env : Env) : Prop := Ev env ["want", "got", "ws", "startpos", "endpos", "w"] ["ELLIPSIS_MARKER", "len"]
abbrev PostB (h₀ : Heap) (b : Bool) (Q : Flow → Shared → Prop) (s : Shared) : Prop := ∀ s', Same s s' → Ext h₀ s'.heap → Q (.ret (.bool b)) s'

structure Glo (mg mb : Str → Option Value) : Prop where
  dots : ∃ t, mg "ELLIPSIS_MARKER" = some (.str dots t)
  len0 : mg "len" = none
  len : mb "len" = some (.builtin "len")

theorem strValues_get {l : List (Str × Tok)} {i : Nat} {v : Value} (h : (strValues l).toArray[i]? = some v) : ∃ y t, v = .str y t ∧ (l.map (·.1))[i]? = some y := by
  simp [strValues] at h
  obtain ⟨a, b, h1, rfl⟩ := h
  exact ⟨a, b, rfl, by simp [h1]⟩

/-- the for at the end -/
theorem ell17 {st en : Int} {u v : Tok} {D : Addr} {l : List (Str × Tok)} (V : EvE env) (hh : A.handled = none) (W : Wd mg mb h₀) (G : Glo mg mb) (F : Fr h₀ env.locals s.heap m) (hl : s.heap.IsList D (strValues l).toArray)
    (hgot : m "got" = some (.str got tg)) (hws : m "ws" = some (.ref D)) (hst : m "startpos" = some (.int st u)) (hen : m "endpos" = some (.int en v)) (hsz : ∀ y ∈ l.map (·.1), y.length ≤ 1000)
    (h : PostB h₀ (ellLoop got en (l.map (·.1)) st) Q s) : wpAny (model prog w) A (execs ((bodyOf (stm 5)).drop 9) env) Q E s := by
  have l1 := V.l "got" (.tail _ (.head _))
  have l2 := V.l "ws" (.tail _ (.tail _ (.head _)))
  have l3 := V.l "startpos" (.tail _ (.tail _ (.tail _ (.head _))))
  have l4 := V.l "endpos" (.tail _ (.tail _ (.tail _ (.tail _ (.head _)))))
  have l5 := V.l "w" (.tail _ (.tail _ (.tail _ (.tail _ (.tail _ (.head _))))))
  have g1 := V.gl "len" (.tail _ (.head _))
  refine wpAny_execs_cons (wpAny_For ?_)
  refine nmL V F l2 hws (wpAny_pyIter_list hl ?_)
  have hlt : ∀ b o, s.heap.get? b = some o → b ≠ s.heap.objs.size := fun b o e => Nat.ne_of_lt (Heap.lt_size e)
  obtain ⟨oL, esL, epL, hoL, hdL, hkL, hfL⟩ := F.ns
  obtain ⟨oD, hoD, hcD, nD, hdD⟩ := id hl
  have hDL : D ≠ env.locals := by
    rintro rfl
    rw [hoL] at hoD; cases hoD
    rw [hdL] at hdD; cases hdD
  have F1 := F.push ({ cls := .type "list_iterator", data := .fields #[.ref D, .int 0 0] } : Obj)
  refine forW (m := m) (wr := []) (Walks.list hh _ D (hlt _ _ hoD) (strValues l).toArray) V l5 ?_ ?_ ⟨⟨_, get_push, rfl, rfl⟩, hl.push _⟩ F1.ns
    (fun i _ m => m "got" = some (.str got tg) ∧ (∃ v, m "endpos" = some (.int en v)) ∧ ∃ st' u, m "startpos" = some (.int st' u) ∧ ellLoop got en ((l.map (·.1)).drop i) st' = ellLoop got en (l.map (·.1)) st)
    ⟨hgot, ⟨v, hen⟩, st, u, hst, rfl⟩ ?_ ?_ ?_ ?_
  · intro b hb
    simp only [List.mem_cons, List.not_mem_nil, or_false] at hb
    rcases hb with rfl | rfl
    · exact ⟨Ne.symm (hlt _ _ hoL), by simp⟩
    · exact ⟨hDL, by simp⟩
  · rintro i h ⟨⟨o, ho, _, hd⟩, _⟩
    exact ⟨o, ho, fun a b e => by rw [hd] at e; cases e⟩
  · intro i h h' m J hI _ _
    exact hI
  · rintro i h m v ⟨a, ⟨v', b⟩, st', u, c, d⟩
    exact ⟨by walk_at "lk", ⟨v', by walk_at "lk"⟩, st', u, by walk_at "lk", d⟩
  · rintro i vv s1 m1 hi hP S1 hn1 hw1 hk1 ⟨a, ⟨v', b⟩, st', u', c, d⟩ E'
    obtain ⟨y, ty, rfl, hy⟩ := strValues_get hP
    have F1' : Fr h₀ env.locals s1.heap m1 := ⟨hn1, fun b o e => hk1 b o (hlt _ _ (F.keep _ _ e)) (Nat.ne_of_lt (Nat.lt_of_lt_of_le (Heap.lt_size e) F.above)) (by simp) (F1.keep _ _ e), F.above⟩
    have hyl : y.length ≤ 1000 := hsz y (List.mem_of_getElem? hy)
    have hdrop : (l.map (·.1)).drop i = y :: (l.map (·.1)).drop (i + 1) := by
      obtain ⟨h1, rfl⟩ := List.getElem?_eq_some_iff.mp hy
      exact List.drop_eq_getElem_cons h1
    rw [hdrop, ellLoop] at d
    refine wpAny_execs_cons (wpAny_Assign_Name (MethodCall_ ?_))
    refine nmL V F1' l1 a (GM.find (callWith_method1 (args_cons (nmL V F1' l5 hw1 (args_cons (nmL V F1' l3 c (args_cons (nmL V F1' l4 b (args_nil ?_)))))))))
    refine call_find4 (sto V F1' l3 fun s2 S2 F2 B2 => ?_)
    refine wpAny_execs_cons (wpAny_If (wpAny_isTrue_Compare1 ?_))
    refine nmL V F2 l3 (by walk_at "lk") (wpAny_Constant_int (lt_int (wpAny_truthy_bool ?_)))
    by_cases hc : find4 got y st' en < 0
    · rw [decide_eq_true hc, if_pos rfl]
      rw [if_pos hc] at d
      refine wpAny_execs_cons (wpAny_Return_some (Constant_bool ?_))
      refine ⟨S2.of.and (Same.refl _), fun b o h1 _ e => B2.extBut b o h1 e, .inr ⟨_, rfl, ?_⟩⟩
      rw [← d] at h
      exact h _ (S1.of.and (S2.and (Same.refl _))) F2.keep
    · rw [decide_eq_false hc, if_neg (by decide)]
      rw [if_neg hc] at d
      refine wpAny_execs_nil (wpAny_execs_cons (wpAny_AugAssign_Name ?_))
      refine nmL' V F2 l3 (by walk_at "lk") ?_
      refine Call_ (nmB V (W.ext F2.keep) g1 G.len0 G.len (callWith_builtin1 (args_cons (nmL V F2 l5 (by walk_at "lk") (args_nil ?_)))))
      refine len_str (by omega) (iadd_int ?_)
      refine sto V F2 l3 fun s3 S3 F3 B3 => ?_
      refine wpAny_execs_nil ⟨S2.of.and (S3.and (Same.refl _)), fun b o h1 _ e => B3.extBut b o h1 (B2.extBut b o h1 e), .inl ⟨rfl, _, F3.ns, by walk_at "lk", ⟨v', by walk_at "lk"⟩, _, _, lk_hit, d⟩⟩
  · rintro s1 m1 S1 hn1 hk1 ⟨a, ⟨v', b⟩, st', u', c, d⟩
    rw [List.drop_of_length_le (by simp [strValues])] at d
    rw [← d] at h
    refine wpAny_execs_cons (wpAny_Return_some (Constant_bool ?_))
    exact h s1 S1.of fun b o e => hk1 b o (hlt _ _ (F.keep _ _ e)) (Nat.ne_of_lt (Nat.lt_of_lt_of_le (Heap.lt_size e) F.above)) (by simp) (F1.keep _ _ e)

theorem ell16 {st en : Int} {u v : Tok} {D : Addr} {l : List (Str × Tok)} (V : EvE env) (hh : A.handled = none) (W : Wd mg mb h₀) (G : Glo mg mb) (F : Fr h₀ env.locals s.heap m) (hl : s.heap.IsList D (strValues l).toArray)
    (hgot : m "got" = some (.str got tg)) (hws : m "ws" = some (.ref D)) (hst : m "startpos" = some (.int st u)) (hen : m "endpos" = some (.int en v)) (hsz : ∀ y ∈ l.map (·.1), y.length ≤ 1000)
    (h : PostB h₀ (ellEnd got st en (l.map (·.1))) Q s) : wpAny (model prog w) A (execs ((bodyOf (stm 5)).drop 8) env) Q E s := by
  have l3 := V.l "startpos" (.tail _ (.tail _ (.tail _ (.head _))))
  have l4 := V.l "endpos" (.tail _ (.tail _ (.tail _ (.tail _ (.head _)))))
  refine wpAny_execs_cons (wpAny_If (wpAny_isTrue_Compare1 ?_))
  refine nmL V F l3 hst (nmL V F l4 hen (gt_int (wpAny_truthy_bool ?_)))
  unfold ellEnd at h
  by_cases hc : en < st
  · rw [decide_eq_true hc, if_pos rfl]
    rw [if_pos hc] at h
    exact wpAny_execs_cons (wpAny_Return_some (Constant_bool (h _ (Same.refl _) F.keep)))
  · rw [decide_eq_false hc, if_neg (by decide)]
    rw [if_neg hc] at h
    exact wpAny_execs_nil (ell17 V hh W G F hl hgot hws hst hen hsz h)

theorem eraseIdx_last {l : List Value} (n : Nat) (h : l.length = n + 1) : l.eraseIdx n = l.dropLast := by
  rw [List.dropLast_eq_take, List.eraseIdx_eq_take_drop_succ]
  have : l.drop (n + 1) = [] := List.drop_eq_nil_of_le (by omega)
  rw [this, List.append_nil, h]; rfl
theorem seqIndex_last (n : Nat) : seqIndex? (-1) (n + 1) = some n := by
  unfold seqIndex?
  have h1 : (-1 : Int) < 0 := by decide
  simp only [h1, if_true]
  have h2 : (-1 : Int) + ((n + 1 : Nat) : Int) = (n : Int) := by omega
  rw [h2]
  have h3 : (decide (0 ≤ (n : Int)) && decide ((n : Int) < ((n + 1 : Nat) : Int))) = true := by simp; omega
  rw [if_pos h3]
  rfl

/-- the last piece -/
theorem ell15 {st : Int} {u v : Tok} {D : Addr} {l : List (Str × Tok)} {n : Nat} (V : EvE env) (hh : A.handled = none) (W : Wd mg mb h₀) (G : Glo mg mb) (F : Fr h₀ env.locals s.heap m) (N : News h₀ env.locals s.heap [(D, { cls := .type "list", data := .seq (strValues l).toArray n })])
    (hgot : m "got" = some (.str got tg)) (hws : m "ws" = some (.ref D)) (hst : m "startpos" = some (.int st u)) (hen : m "endpos" = some (.int got.length v)) (hsz : ∀ y ∈ l.map (·.1), y.length ≤ 1000) (hln : l.length ≤ 2000) (hne : l ≠ [])
    (h : PostB h₀ (ellBack got st (l.map (·.1))) Q s) : wpAny (model prog w) A (execs ((bodyOf (stm 5)).drop 6) env) Q E s := by
  have hz : sizeLine = 16777216 := PySem.sizeLine_eq
  have l1 := V.l "got" (.tail _ (.head _))
  have l2 := V.l "ws" (.tail _ (.tail _ (.head _)))
  have l4 := V.l "endpos" (.tail _ (.tail _ (.tail _ (.tail _ (.head _)))))
  have l5 := V.l "w" (.tail _ (.tail _ (.tail _ (.tail _ (.tail _ (.head _))))))
  have g1 := V.gl "len" (.tail _ (.head _))
  have hpos : 0 < l.length := List.length_pos_iff.mpr hne
  have hl : s.heap.IsList D (strValues l).toArray := ⟨_, N.get (.head _), rfl, _, rfl⟩
  refine wpAny_execs_cons (wpAny_Assign_Name (Subscript_ ?_))
  refine nmL V F l2 hws (UnaryOp_ (wpAny_Constant_int (PyProof.Rows.neg_int ?_)))
  refine item_strsTneg hl (by decide) (by omega) (by decide) fun y ty hy => ?_
  have hy' : (l.map (·.1)).getLastD Str.empty = y := by
    have e : ((-1 : Int) + l.length).toNat = l.length - 1 := by omega
    rw [e] at hy
    rw [List.getLastD_eq_getLast?, List.getLast?_eq_getElem?, List.length_map, hy]
    rfl
  have hyl : y.length ≤ 1000 := hsz y (List.mem_of_getElem? hy)
  refine sto V F l5 fun s1 S1 F1 B1 => ?_
  have N1 := N.set B1
  unfold ellBack at h
  rw [hy'] at h
  dsimp only at h
  refine wpAny_execs_cons (wpAny_If (isTrue_plain (nmL V F1 l5 (by walk_at "lk") (P.truthy_str (by omega) ?_))))
  by_cases hc : y.length = 0
  · rw [show ((y.length : Int) != 0) = false from by simp [hc], if_neg (by decide)]
    rw [if_pos hc] at h
    refine wpAny_execs_nil ?_
    exact ell16 V hh W G F1 (by exact ⟨_, N1.get (.head _), rfl, _, rfl⟩) (by walk_at "lk") (by walk_at "lk") (by walk_at "lk") (by walk_at "lk") hsz (fun s' S e => h s' (S1.of.and S) e)
  · rw [show ((y.length : Int) != 0) = true from by simp [hc], if_pos rfl]
    rw [if_neg hc] at h
    refine wpAny_execs_cons (wpAny_If (isTrue_plain (MethodCall_ ?_)))
    refine nmL V F1 l1 (by walk_at "lk") (GM.endswith (callWith_method1 (args_cons (nmL V F1 l5 (by walk_at "lk") (args_nil ?_)))))
    refine SC.endswith (wpAny_truthy_bool ?_)
    cases he : Txt.endswith got y with
    | false =>
      rw [if_neg (by decide)]
      rw [he, if_neg (by decide)] at h
      exact wpAny_execs_cons (wpAny_Return_some (Constant_bool (h _ (S1.of.and (Same.refl _)) F1.keep)))
    | true =>
      rw [if_pos rfl]
      rw [he, if_pos rfl] at h
      refine wpAny_execs_cons (wpAny_AugAssign_Name ?_)
      refine nmL' V F1 l4 (by walk_at "lk") ?_
      refine Call_ (nmB V (W.ext F1.keep) g1 G.len0 G.len (callWith_builtin1 (args_cons (nmL V F1 l5 (by walk_at "lk") (args_nil ?_)))))
      refine len_str (by omega) (PyProof.Rows.isub_int ?_)
      refine sto V F1 l4 fun s2 S2 F2 B2 => ?_
      have N2 := N1.set B2
      refine wpAny_execs_cons (wpAny_Delete (wpAny_deleteEach_cons (delete_Subscript ?_)))
      refine nmL V F2 l2 (by walk_at "lk") (UnaryOp_ (wpAny_Constant_int (PyProof.Rows.neg_int ?_)))
      have hsize : (strValues l).toArray.size = (l.length - 1) + 1 := by simp [strValues]; omega
      refine delItem_head (k := l.length - 1) F2 N2 (by simp) (by decide) (by rw [hsize]; exact seqIndex_last _) (fun h3 F3 N3 => ?_) (by rw [hsize, hz]; omega)
      have e3 : ((strValues l).toArray.toList.eraseIdx (l.length - 1)).toArray = (strValues l.dropLast).toArray := by
        have : (strValues l).length = (l.length - 1) + 1 := by simp [strValues]; omega
        rw [show (strValues l).toArray.toList = strValues l from rfl, eraseIdx_last _ this]
        simp [strValues, List.map_dropLast]
      rw [e3] at N3
      refine wpAny_deleteEach_nil (wpAny_execs_nil (wpAny_execs_nil ?_))
      refine ell16 (l := l.dropLast) V hh W G F3 (by exact ⟨_, N3.get (.head _), rfl, _, rfl⟩) (by walk_at "lk") (by walk_at "lk") (by walk_at "lk") (by exact lk_hit) ?_ ?_
      · intro z hz2
        rw [List.map_dropLast] at hz2
        exact hsz z (List.dropLast_subset _ hz2)
      · rw [List.map_dropLast]
        exact fun s' S e => h s' (S1.of.and (S2.and S)) e

/-- the first piece -/
theorem ell13 {u v : Tok} {D : Addr} {l : List (Str × Tok)} {n : Nat} (V : EvE env) (hh : A.handled = none) (W : Wd mg mb h₀) (G : Glo mg mb) (F : Fr h₀ env.locals s.heap m) (N : News h₀ env.locals s.heap [(D, { cls := .type "list", data := .seq (strValues l).toArray n })])
    (hgot : m "got" = some (.str got tg)) (hws : m "ws" = some (.ref D)) (hst : m "startpos" = some (.int 0 u)) (hen : m "endpos" = some (.int got.length v)) (hsz : ∀ y ∈ l.map (·.1), y.length ≤ 1000) (hln : l.length ≤ 2000) (hne : 2 ≤ l.length)
    (h : PostB h₀ (ellFront got (l.map (·.1))) Q s) : wpAny (model prog w) A (execs ((bodyOf (stm 5)).drop 4) env) Q E s := by
  have hz : sizeLine = 16777216 := PySem.sizeLine_eq
  have l1 := V.l "got" (.tail _ (.head _))
  have l2 := V.l "ws" (.tail _ (.tail _ (.head _)))
  have l3 := V.l "startpos" (.tail _ (.tail _ (.tail _ (.head _))))
  have l5 := V.l "w" (.tail _ (.tail _ (.tail _ (.tail _ (.tail _ (.head _))))))
  have g1 := V.gl "len" (.tail _ (.head _))
  have hl : s.heap.IsList D (strValues l).toArray := ⟨_, N.get (.head _), rfl, _, rfl⟩
  refine wpAny_execs_cons (wpAny_Assign_Name (Subscript_ ?_))
  refine nmL V F l2 hws (wpAny_Constant_int ?_)
  refine item_strsT hl (by decide) (by omega) (by decide) fun y ty hy => ?_
  have hy' : (l.map (·.1)).headD Str.empty = y := by
    have e : (0 : Int).toNat = 0 := rfl
    rw [e] at hy
    rw [List.headD_eq_head?_getD, List.head?_eq_getElem?, hy]
    rfl
  have hyl : y.length ≤ 1000 := hsz y (List.mem_of_getElem? hy)
  refine sto V F l5 fun s1 S1 F1 B1 => ?_
  have N1 := N.set B1
  unfold ellFront at h
  rw [hy'] at h
  dsimp only at h
  refine wpAny_execs_cons (wpAny_If (isTrue_plain (nmL V F1 l5 (by walk_at "lk") (P.truthy_str (by omega) ?_))))
  by_cases hc : y.length = 0
  · rw [show ((y.length : Int) != 0) = false from by simp [hc], if_neg (by decide)]
    rw [if_pos hc] at h
    refine wpAny_execs_nil ?_
    exact ell15 V hh W G F1 N1 (by walk_at "lk") (by walk_at "lk") (by walk_at "lk") (by walk_at "lk") hsz hln (by rintro rfl; simp at hne) (fun s' S e => h s' (S1.of.and S) e)
  · rw [show ((y.length : Int) != 0) = true from by simp [hc], if_pos rfl]
    rw [if_neg hc] at h
    refine wpAny_execs_cons (wpAny_If (isTrue_plain (MethodCall_ ?_)))
    refine nmL V F1 l1 (by walk_at "lk") (GM.startswith (callWith_method1 (args_cons (nmL V F1 l5 (by walk_at "lk") (args_nil ?_)))))
    refine SC.startswith (wpAny_truthy_bool ?_)
    cases he : Txt.startswith got y with
    | false =>
      rw [if_neg (by decide)]
      rw [he, if_neg (by decide)] at h
      exact wpAny_execs_cons (wpAny_Return_some (Constant_bool (h _ (S1.of.and (Same.refl _)) F1.keep)))
    | true =>
      rw [if_pos rfl]
      rw [he, if_pos rfl] at h
      refine wpAny_execs_cons (wpAny_Assign_Name ?_)
      refine Call_ (nmB V (W.ext F1.keep) g1 G.len0 G.len (callWith_builtin1 (args_cons (nmL V F1 l5 (by walk_at "lk") (args_nil ?_)))))
      refine len_str (by omega) ?_
      refine sto V F1 l3 fun s2 S2 F2 B2 => ?_
      have N2 := N1.set B2
      refine wpAny_execs_cons (wpAny_Delete (wpAny_deleteEach_cons (delete_Subscript ?_)))
      refine nmL V F2 l2 (by walk_at "lk") (wpAny_Constant_int ?_)
      have hsize : (strValues l).toArray.size = l.length := by simp [strValues]
      have hpos : 0 < l.length := by omega
      refine delItem_head (k := 0) F2 N2 (by simp) (by decide) (by rw [hsize]; unfold seqIndex?; simp [hpos]) (fun h3 F3 N3 => ?_) (by rw [hsize, hz]; omega)
      have e3 : ((strValues l).toArray.toList.eraseIdx 0).toArray = (strValues l.tail).toArray := by
        rw [show (strValues l).toArray.toList = strValues l from rfl]
        cases l <;> rfl
      rw [e3] at N3
      refine wpAny_deleteEach_nil (wpAny_execs_nil (wpAny_execs_nil ?_))
      refine ell15 (l := l.tail) V hh W G F3 N3 (by walk_at "lk") (by walk_at "lk") (by exact lk_hit) (by walk_at "lk") ?_ (by simp; omega) ?_ ?_
      · intro z hz2
        rw [List.map_tail] at hz2
        exact hsz z (List.mem_of_mem_tail hz2)
      · intro e
        have := congrArg List.length e
        simp at this
        omega
      · rw [List.map_tail]
        exact fun s' S e => h s' (S1.of.and (S2.and S)) e

theorem split_len_le (x y : Str) : (Txt.split x y).length ≤ x.length + 2 := by
  unfold Txt.split
  split
  · simp
  · split
    · simp
    · have e1 := StrLaws.occ_length_le x y 0 x.length (x.length + 1)
      rw [length_partsBetween]; omega
theorem split_piece_le (x y : Str) : ∀ p ∈ Txt.split x y, p.length ≤ x.length := by
  unfold Txt.split
  split
  · simp
  · split
    · simp
    · intro p hp
      unfold partsBetween at hp
      rw [List.mem_map] at hp
      obtain ⟨⟨i, j⟩, _, rfl⟩ := hp
      exact le_strSub x i j

theorem ell0 (V : EvE env) (hh : A.handled = none) (W : Wd mg mb h₀) (G : Glo mg mb) (F : Fr h₀ env.locals s.heap m) (hw : m "want" = some (.str want tw)) (hgot : m "got" = some (.str got tg)) (hwl : want.length ≤ 1000) (hgl : got.length ≤ 1000)
    (h2 : Txt.contains want dots = true → 2 ≤ (Txt.split want dots).length)
    (h : PostB h₀ (ellip want got) Q s) : wpAny (model prog w) A (execs (bodyOf (stm 5)) env) Q E s := by
  have hz : sizeLine = 16777216 := PySem.sizeLine_eq
  have l0 := V.l "want" (.head _)
  have l1 := V.l "got" (.tail _ (.head _))
  have l2 := V.l "ws" (.tail _ (.tail _ (.head _)))
  have l3 := V.l "startpos" (.tail _ (.tail _ (.tail _ (.head _))))
  have l4 := V.l "endpos" (.tail _ (.tail _ (.tail _ (.tail _ (.head _)))))
  have g0 := V.gl "ELLIPSIS_MARKER" (.head _)
  have g1 := V.gl "len" (.tail _ (.head _))
  obtain ⟨td, hd⟩ := G.dots
  refine wpAny_execs_cons (wpAny_If (wpAny_isTrue_Compare1 ?_))
  refine nmG V (W.ext F.keep) g0 hd (nmL V F l0 hw (SB.notContains (wpAny_truthy_bool ?_)))
  unfold ellip at h
  cases hc : Txt.contains want dots with
  | false =>
    rw [if_pos (by decide)]
    rw [hc, if_neg (by decide)] at h
    refine wpAny_execs_cons (wpAny_Return_some (wpAny_Compare1 ?_))
    exact nmL V F l0 hw (nmL V F l1 hgot (eq_str (h _ (Same.refl _) F.keep)))
  | true =>
    rw [if_neg (by decide)]
    rw [hc, if_pos rfl] at h
    have h2 := h2 hc
    refine wpAny_execs_nil (wpAny_execs_cons (wpAny_Assign_Name (MethodCall_ ?_)))
    refine nmL V F l0 hw (GM.split (callWith_method1 (args_cons (nmG V (W.ext F.keep) g0 hd (args_nil ?_)))))
    refine splitN1 F News.nil (by decide) (fun l h' k hl F1 N1 => ?_) (by omega)
    have hln : l.length = (Txt.split want dots).length := by rw [← hl, List.length_map]
    have hln2 := split_len_le want dots
    refine sto V F1 l2 fun s2 S2 F2 B2 => ?_
    have N2 := N1.set B2
    refine wpAny_execs_cons (wpAny_Assert_holds (wpAny_isTrue_Compare1 ?_))
    refine Call_ (nmB V (W.ext F2.keep) g1 G.len0 G.len (callWith_builtin1 (args_cons (nmL V F2 l2 lk_hit (args_nil ?_)))))
    refine call_len_list (items := (strValues l).toArray) ⟨_, N2.get (.head _), rfl, _, rfl⟩ (by simp [strValues]; omega) (wpAny_Constant_int (ge_int (wpAny_truthy_bool ⟨?_, ?_⟩)))
    · simp [strValues]; omega
    refine wpAny_execs_cons (assign2 (h₀ := h₀) (m := fun y => if y = ("ws" : Str) then some (.ref s.heap.objs.size) else m y) V hh l3 l4 ?_)
    refine wpAny_Constant_int (Call_ (nmB V (W.ext F2.keep) g1 G.len0 G.len (callWith_builtin1 (args_cons (nmL V F2 l1 (by walk_at "lk") (args_nil ?_))))))
    refine len_str (by omega) ⟨F2, fun s3 S3 F3 B3 => ?_⟩
    have N3 : News h₀ env.locals s3.heap [(s.heap.objs.size, { cls := .type "list", data := .seq (strValues l).toArray })] := fun p hp => ⟨B3 _ _ (N2 p hp).2.1 (N2 p hp).1, (N2 p hp).2⟩
    refine ell13 (l := l) V hh W G F3 N3 (by walk_at "lk") (by walk_at "lk") (by walk_at "lk") (by walk_at "lk") ?_ (by omega) (by omega) ?_
    · rw [hl]
      exact fun y hy => Nat.le_trans (split_piece_le want dots y hy) hwl
    · rw [hl]
      exact fun s' S e => h s' (S2.of.and (S3.and S)) e

theorem ellip_call {f : Addr} {o : Obj} {pm cd doc : Value} {Q : Value → Shared → Prop} (W : Wd mg mb s.heap) (G : Glo mg mb) (R : Rm A)
    (ho : s.heap.get? f = some o) (hd : o.data = .func (docDef "_ellipsis_match" (argsOf (stm 5)) (bodyOf (stm 5)) (scopeOf (stm 5)) pm cd doc)) (hc : s.heap.CodeRec cd "_ellipsis_match") (hwl : want.length ≤ 1000) (hgl : got.length ≤ 1000)
    (h2 : Txt.contains want dots = true → 2 ≤ (Txt.split want dots).length)
    (h : ∀ s', Same s s' → Ext s.heap s'.heap → Q (.bool (ellip want got)) s') : wpAny (model prog w) A (call (.ref f) [.str want tw, .str got tg]) Q E s := by
  refine wpAny_call (call_plain_ret R.d ho hd W.lim hc (binds := [("want", .str want tw), ("got", .str got tg)]) rfl (by simp; exact ⟨rfl, rfl⟩) (fun h₁ F => ?_) rfl rfl rfl (by decide))
  refine ell0 (want := want) (got := got) ⟨rfl, ?_, ?_, rfl, rfl, rfl⟩ R.h W G F (by rfl) (by rfl) hwl hgl h2 ?_
  · simp; exact ⟨rfl, rfl, rfl, rfl, rfl, rfl⟩
  · simp; exact ⟨rfl, rfl⟩
  · exact fun s' S e => h s' S.of e
end
end Xb4

namespace Xb4
local macro_rules | `(tactic| walk_at "lk") => `(tactic| first | assumption | exact lk_hit | (refine lk_miss (by simp [ofString_inj]) ?_; walk_at "lk"))
section
variable {prog : Program} {w : World} {A : Around} {E : Value → Shared → Prop} {s : Shared} {mg mb m : Str → Option Value} {env : Env} {h₀ : Heap} {Q : Flow → Shared → Prop} {text : Str} {tt : Tok}
/-! ## _law_fits -/
def fitStart (text p : Str) : List Int := if Txt.slice text none (some (p.length : Int)) == p then [(p.length : Int)] else []
def fitAt (text p : Str) (ends : List Int) (e : Nat) : Bool := (Txt.slice text (some (e : Int)) (some ((e : Int) + p.length)) == p) && ends.any fun a => decide (a ≤ (e : Int))
def fitUpTo (text p : Str) (ends : List Int) (k : Nat) : List Int := ((List.range k).filter (fitAt text p ends)).map fun (e : Nat) => (e : Int) + p.length
def fitTurn (text : Str) (ends : List Int) (p : Str) : List Int := fitUpTo text p ends (text.length + 1 - p.length)
def lawFits (pieces : List Str) (text : Str) : Bool := (pieces.tail.foldl (fitTurn text) (fitStart text (pieces.headD Str.empty))).any (· == (text.length : Int))

theorem fitUpTo_succ (text p : Str) (ends : List Int) (k : Nat) : fitUpTo text p ends (k + 1) = fitUpTo text p ends k ++ (if fitAt text p ends k = true then [(k : Int) + p.length] else []) := by
  unfold fitUpTo
  rw [List.range_succ, List.filter_append, List.map_append]
  by_cases h : fitAt text p ends k = true
  · simp [h]
  · simp [h]
theorem fitUpTo_len (text p : Str) (ends : List Int) (k : Nat) : (fitUpTo text p ends k).length ≤ k := by
  unfold fitUpTo
  rw [List.length_map]
  exact Nat.le_trans (List.length_filter_le _ _) (by simp)

theorem plain_but {h h' : Heap} {D I : Addr} {items : Array Value} (x : h.PlainList D items) (hI : NotSeq h I) (k : ∀ b o, b ≠ I → h.get? b = some o → h'.get? b = some o) : h'.PlainList D items := by
  obtain ⟨n, ho⟩ := x
  obtain ⟨o', ho', hn⟩ := hI
  refine ⟨n, k D _ ?_ ho⟩
  rintro rfl
  rw [ho] at ho'
  cases ho'
  exact hn _ _ rfl

/-- min of a list of ints -/
theorem min_ext {l : Addr} {vs : List Value} {ns : List Int} {Q : Value → Shared → Prop} (hh : A.handled = none) (hl : s.heap.IsList l vs.toArray) (hi : IntsAre vs ns) (hne : ns ≠ [])
    (h : ∀ s' M t, Same s s' → Ext s.heap s'.heap → M ∈ ns → (∀ a ∈ ns, M ≤ a) → Q (.int M t) s') : wpAny (model prog w) A (call (.builtin "min") [.ref l]) Q E s := by
  obtain ⟨xs, e⟩ := hi.allInts.items
  have hns : xs.toList.map (·.1) = ns := by rw [← nums_intItems, ← e]; exact hi.numsOf
  have hsz : 0 < xs.size := by
    rcases Nat.eq_zero_or_pos xs.size with h0 | h0
    · exfalso
      apply hne
      rw [← hns]
      have : xs = #[] := Array.eq_empty_of_size_eq_zero h0
      rw [this]; rfl
    · exact h0
  rw [e] at hl
  refine min_intList hh hl hsz fun v h' tk hv hk => ?_
  obtain ⟨t, rfl⟩ := intItems_at hv
  obtain ⟨h1, h2⟩ := argBest_lt (numAt xs) (xs.size - 1)
  refine h _ _ t ⟨rfl, rfl, rfl⟩ hk ?_ fun a ha => ?_
  · rw [← hns, numAt_eq]
    exact getD_mem (by rw [List.length_map, Array.length_toList]; omega)
  · rw [← hns] at ha
    obtain ⟨j, hj, rfl⟩ := mem_getD ha
    rw [List.length_map, Array.length_toList] at hj
    rw [← numAt_eq]
    exact h2 j (by omega)
theorem any_le_min {ns : List Int} {M : Int} (h1 : M ∈ ns) (h2 : ∀ a ∈ ns, M ≤ a) (e : Int) : (ns.any fun a => decide (a ≤ e)) = decide (M ≤ e) := by
  rw [Bool.eq_iff_iff]
  simp only [List.any_eq_true, decide_eq_true_eq]
  constructor
  · rintro ⟨a, ha, hle⟩; have := h2 a ha; omega
  · intro h; exact ⟨M, h1, h⟩

abbrev EvF (env : Env) : Prop := Ev env ["pieces", "text", "ends", "piece", "fresh", "end"] ["len", "range", "min"]
structure GloF (mg mb : Str → Option Value) : Prop where
  len0 : mg "len" = none
  len : mb "len" = some (.builtin "len")
  min0 : mg "min" = none
  min : mb "min" = some (.builtin "min")
  range0 : mg "range" = none
  range : mb "range" = some (.type "range")

/-- the inner for's body -/
def forBody : Stmt → List Stmt | .For _ _ b _ _ => b | _ => []
def innerBody : List Stmt := forBody ((forBody ((bodyOf (stm 9)).getD 1 (.Pass ⟨0, 0, 0, 0⟩))).getD 1 (.Pass ⟨0, 0, 0, 0⟩))

theorem fit_inner {p : Str} {tp tk : Tok} {De Df : Addr} {vs : List Value} {ends : List Int} {ve : List Value} {e : Nat} {done : List Int} {E' : Value → Shared → Prop} (V : EvF env) (hh : A.handled = none) (hu : A.units + 64 < cLine) (W : Wd mg mb h₀) (G : GloF mg mb) (F : Fr h₀ env.locals s.heap m)
    (ht : m "text" = some (.str text tt)) (hp : m "piece" = some (.str p tp)) (hen : m "ends" = some (.ref De)) (hfr : m "fresh" = some (.ref Df)) (he : m "end" = some (.int (e : Int) tk)) (hx : text.length ≤ 1000) (hpl : p.length ≤ 1000)
    (hDe : s.heap.IsList De ve.toArray) (hie : IntsAre ve ends) (hDf : s.heap.PlainList Df vs.toArray) (hif : IntsAre vs done) (hdl : done.length ≤ 2000) (hfL : Df ≠ env.locals) (hf0 : h₀.get? Df = none) :
    wpAny (model prog w) A (execs innerBody env) (fun fl s'' => fl = .next ∧ Same s s'' ∧ But env.locals [Df] s.heap s''.heap ∧ Fr h₀ env.locals s''.heap m ∧ ∃ vs', s''.heap.PlainList Df vs'.toArray ∧ IntsAre vs' (done ++ if fitAt text p ends e = true then [(e : Int) + p.length] else [])) E' s := by
  have hz : sizeLine = 16777216 := PySem.sizeLine_eq
  have l1 := V.l "text" (.tail _ (.head _))
  have l2 := V.l "ends" (.tail _ (.tail _ (.head _)))
  have l3 := V.l "piece" (.tail _ (.tail _ (.tail _ (.head _))))
  have l4 := V.l "fresh" (.tail _ (.tail _ (.tail _ (.tail _ (.head _)))))
  have l5 := V.l "end" (.tail _ (.tail _ (.tail _ (.tail _ (.tail _ (.head _))))))
  have g1 := V.gl "len" (.head _)
  have g3 := V.gl "min" (.tail _ (.tail _ (.head _)))
  refine wpAny_execs_cons (wpAny_If (isTrue_and (wpAny_isTrue_Compare1 (sliceSS ?_))))
  refine nmL V F l1 ht (nmL V F l5 he (wpAny_BinOp (nmL V F l5 he (Call_ (nmB V (W.ext F.keep) g1 G.len0 G.len (callWith_builtin1 (args_cons (nmL V F l3 hp (args_nil ?_)))))))))
  refine len_str (by omega) (add_int ⟨_, _, _, _, _, _, rfl, rfl, rfl, hx, fun s1 t1 S1 e1 => ?_⟩)
  have F1 := frK F e1
  refine nmL V F1 l3 hp (eq_str (wpAny_truthy_bool ?_))
  have P1 : s1.heap.PlainList Df vs.toArray := by obtain ⟨n, e⟩ := hDf; exact ⟨n, e1 _ _ e⟩
  have I1 : s1.heap.IsList De ve.toArray := by obtain ⟨o, ho, r⟩ := hDe; exact ⟨o, e1 _ _ ho, r⟩
  have stay : ∀ {s2 : Shared}, Same s1 s2 → Ext s1.heap s2.heap → fitAt text p ends e = false →
      (Flow.next = .next ∧ Same s s2 ∧ But env.locals [Df] s.heap s2.heap ∧ Fr h₀ env.locals s2.heap m ∧ ∃ vs', s2.heap.PlainList Df vs'.toArray ∧ IntsAre vs' (done ++ if fitAt text p ends e = true then [(e : Int) + p.length] else [])) := by
    intro s2 S2 e2 hf
    refine ⟨rfl, S1.of.and S2, fun b o _ _ h => e2 b o (e1 b o h), frK F1 e2, vs, ?_, ?_⟩
    · obtain ⟨n, e⟩ := P1; exact ⟨n, e2 _ _ e⟩
    · rw [hf]; simpa using hif
  by_cases hc : (Txt.slice text (some (e : Int)) (some ((e : Int) + p.length)) == p) = true
  rotate_left
  · rw [if_neg hc]
    refine wpAny_execs_nil (wpAny_execs_nil (stay (Same.refl _) (Ext.refl _) ?_))
    unfold fitAt
    rw [Bool.eq_false_iff.mpr hc]; rfl
  rw [if_pos hc]
  refine isTrue_and (wpAny_isTrue_Compare1 ?_)
  refine nmL V F1 l2 hen (wpAny_List (args_nil ⟨by simp, ?_⟩))
  have F2 := F1.push ({ cls := .type "list", data := .seq ([] : List Value).toArray } : Obj)
  have I2 := I1.push ({ cls := .type "list", data := .seq ([] : List Value).toArray } : Obj)
  refine ne_intsK I2 hie (by exact ⟨_, get_push, rfl, _, rfl⟩) IntsAre.nil hu (wpAny_truthy_bool ?_)
  by_cases hne : ends = []
  · rw [if_neg (by simp [hne])]
    refine wpAny_execs_nil (wpAny_execs_nil (stay ⟨rfl, rfl, rfl⟩ (fun b o e => Heap.get?_push_of_some _ e) ?_))
    unfold fitAt
    rw [hne]; simp
  rw [if_pos (by simp [hne])]
  refine isTrue_and (wpAny_isTrue_Compare1 ?_)
  refine Call_ (nmB V (W.ext F2.keep) g3 G.min0 G.min (callWith_builtin1 (args_cons (nmL V F2 l2 hen (args_nil ?_)))))
  refine min_ext hh I2 hie hne fun s3 M t3 S3 e3 hM1 hM2 => ?_
  have F3 := frK F2 e3
  refine nmL V F3 l5 he (le_int (wpAny_truthy_bool ?_))
  have hfit : fitAt text p ends e = decide (M ≤ (e : Int)) := by
    unfold fitAt
    rw [hc, any_le_min hM1 hM2]; rfl
  have S13 : Same s1 s3 := S3.of
  have e13 : Ext s1.heap s3.heap := fun b o e => e3 b o (Heap.get?_push_of_some _ e)
  by_cases hle : M ≤ (e : Int)
  rotate_left
  · rw [if_neg (by simpa using hle)]
    refine wpAny_execs_nil (wpAny_execs_nil (stay S13 e13 ?_))
    rw [hfit]; simpa using hle
  rw [if_pos (by simpa using hle)]
  refine isTrue_and_nil ?_
  have hf1 : fitAt text p ends e = true := by rw [hfit]; simpa using hle
  have P3 : s3.heap.PlainList Df vs.toArray := by obtain ⟨n, e⟩ := P1; exact ⟨n, e13 _ _ e⟩
  obtain ⟨n3, o3⟩ := id P3
  refine wpAny_execs_cons (wpAny_Expr_any (hi := V.i) (MethodCall_ ?_))
  refine nmL V F3 l4 hfr (getMethod_list_append o3 rfl rfl (callWith_method1 (args_cons (wpAny_BinOp (nmL V F3 l5 he ?_)))))
  refine Call_ (nmB V (W.ext F3.keep) g1 G.len0 G.len (callWith_builtin1 (args_cons (nmL V F3 l3 hp (args_nil ?_)))))
  refine len_str (by omega) (add_int (args_nil ?_))
  refine wpAny_list_append_plain P3 (fun h4 P4 B4 => ?_) (by rw [hz, List.size_toArray, hif.length]; omega)
  have hDfh : ∀ b o, h₀.get? b = some o → b ≠ Df := by
    rintro b o h rfl
    rw [hf0] at h; cases h
  rw [List.push_toArray] at P4
  refine wpAny_execs_nil (wpAny_execs_nil ⟨rfl, S1.of.and (S13.trans ⟨rfl, rfl, rfl⟩), ?_, ⟨F3.ns.at' fun o e => B4.extBut _ o (Ne.symm hfL) e, fun b o h => B4.extBut b o (hDfh b o h) (F3.keep b o h), F3.above⟩, _, P4, ?_⟩)
  · intro b o _ hb h
    exact B4.extBut b o (by simpa using hb) (e13 b o (e1 b o h))
  · rw [hf1, if_pos rfl]
    exact hif.append (.cons _ _ .nil)

theorem range1_iter {k : Int} {t : Tok} {Q : Value → Shared → Prop} (h1 : -1000000 ≤ k) (h2 : k ≤ 1000000) (h : ∀ (s' : Shared) I, Same s s' → Ext s.heap s'.heap → s.heap.objs.size ≤ I → IsRangeIter s'.heap I 0 k.toNat 1 → Q (.ref I) s') :
    wpAny (model prog w) A (call (.type "range") [.int k t]) (fun r s1 => wpAny (model prog w) A (pyIter r) Q E s1) E s := by
  refine call_range_1 (wpAny_pyIter_range get_push (small_one (by decide) (by decide) (by omega) (by omega)) ?_)
  have e : Builtin.Range.rangeSize 0 k 1 = (k.toNat : Int) := by
    rw [rangeSize_one]
    split <;> omega
  rw [e]
  have hs : ∀ (hp : Heap) (o : Obj), (hp.push o).objs.size = hp.objs.size + 1 := fun hp o => Heap.size_push ..
  have := h { heap := (s.heap.push { cls := .type "range", data := .fields #[.int 0 s.toks, .int k t, .int 1 (s.toks + 1)] }).push { cls := .type "range_iterator", data := .fields #[rawInt 0, rawInt k.toNat, rawInt 1] }, gens := s.gens, drawn := s.drawn, toks := s.toks + 1 + 1, os := s.os } (s.heap.objs.size + 1) ⟨rfl, rfl, rfl⟩ (fun b o e => Heap.get?_push_of_some _ (Heap.get?_push_of_some _ e)) (by omega) (by rw [← hs]; exact get_push)
  rw [← hs] at this
  exact this

/-- the outer for's body -/
def outerBody : List Stmt := forBody ((bodyOf (stm 9)).getD 1 (.Pass ⟨0, 0, 0, 0⟩))

theorem fit_turn {p : Str} {tp : Tok} {De : Addr} {ends : List Int} {ve : List Value} {E' : Value → Shared → Prop} (V : EvF env) (hh : A.handled = none) (hu : A.units + 64 < cLine) (W : Wd mg mb h₀) (G : GloF mg mb) (F : Fr h₀ env.locals s.heap m)
    (ht : m "text" = some (.str text tt)) (hp : m "piece" = some (.str p tp)) (hen : m "ends" = some (.ref De)) (hx : text.length ≤ 1000) (hpl : p.length ≤ 1000)
    (hDe : s.heap.IsList De ve.toArray) (hie : IntsAre ve ends) :
    wpAny (model prog w) A (execs outerBody env) (fun fl s'' => fl = .next ∧ Same s s'' ∧ But env.locals [] s.heap s''.heap ∧ ∃ m', Fr h₀ env.locals s''.heap m' ∧ m' "text" = some (.str text tt) ∧
      ∃ De' ve', m' "ends" = some (.ref De') ∧ s''.heap.IsList De' ve'.toArray ∧ IntsAre ve' (fitTurn text ends p)) E' s := by
  have hz : sizeLine = 16777216 := PySem.sizeLine_eq
  have l1 := V.l "text" (.tail _ (.head _))
  have l2 := V.l "ends" (.tail _ (.tail _ (.head _)))
  have l3 := V.l "piece" (.tail _ (.tail _ (.tail _ (.head _))))
  have l4 := V.l "fresh" (.tail _ (.tail _ (.tail _ (.tail _ (.head _)))))
  have l5 := V.l "end" (.tail _ (.tail _ (.tail _ (.tail _ (.tail _ (.head _))))))
  have g1 := V.gl "len" (.head _)
  have g2 := V.gl "range" (.tail _ (.head _))
  have hlt : ∀ b o, s.heap.get? b = some o → b < s.heap.objs.size := fun b o e => Heap.lt_size e
  obtain ⟨oL, esL, epL, hoL, hdL, hkL, hfL⟩ := F.ns
  obtain ⟨oD, hoD, hcD, nD, hdD⟩ := id hDe
  have hDL : De ≠ env.locals := by
    rintro rfl
    rw [hoL] at hoD; cases hoD
    rw [hdL] at hdD; cases hdD
  have hLlt := hlt _ _ hoL
  have hDlt := hlt _ _ hoD
  obtain ⟨Df, hDf⟩ : ∃ D : Nat, D = s.heap.objs.size := ⟨_, rfl⟩
  have hf0 : h₀.get? Df = none := by
    cases e : h₀.get? Df with
    | none => rfl
    | some o => exact absurd (hDf ▸ hlt _ _ (F.keep _ _ e)) (Nat.lt_irrefl _)
  refine wpAny_execs_cons (wpAny_Assign_Name (wpAny_List (args_nil ⟨by simp, ?_⟩)))
  have F1 := F.push ({ cls := .type "list", data := .seq ([] : List Value).toArray } : Obj)
  refine sto V F1 l4 fun s2 S2 F2 B2 => ?_
  rw [← hDf] at F2
  have e2 : ∀ b o, b ≠ env.locals → s.heap.get? b = some o → s2.heap.get? b = some o := fun b o hb e => B2.extBut b o hb (Heap.get?_push_of_some _ e)
  have hP2 : s2.heap.get? Df = some { cls := .type "list", data := .seq ([] : List Value).toArray } := by
    rw [hDf]
    exact B2.extBut _ _ (Nat.ne_of_gt hLlt) get_push
  have hlt2 := Heap.lt_size hP2
  have hL2 : s2.heap.objs.size > env.locals := by
    obtain ⟨o, _, _, ho, _⟩ := F2.ns
    exact Heap.lt_size ho
  refine wpAny_execs_cons (wpAny_For ?_)
  refine Call_ (nmB V (W.ext F2.keep) g2 G.range0 G.range (callWith_type1 (args_cons (wpAny_BinOp (wpAny_BinOp ?_)))))
  refine Call_ (nmB V (W.ext F2.keep) g1 G.len0 G.len (callWith_builtin1 (args_cons (nmL V F2 l1 (by walk_at "lk") (args_nil ?_)))))
  refine len_str (by omega) ?_
  refine Call_ (nmB V (W.ext F2.keep) g1 G.len0 G.len (callWith_builtin1 (args_cons (nmL V F2 l3 (by walk_at "lk") (args_nil ?_)))))
  refine len_str (by omega) (sub_int ?_)
  refine wpAny_Constant_int (add_int (args_nil (range1_iter (by omega) (by omega) fun s3 I S3 e3 hIa hI => ?_)))
  have S23 : Same s2 s3 := S3.of
  have e23 : Ext s2.heap s3.heap := e3
  have F3 := frK F2 e23
  generalize hn : ((text.length : Int) - p.length + 1).toNat = n at hI
  have hn' : n = text.length + 1 - p.length := by omega
  have hIa' : s2.heap.objs.size ≤ I := hIa
  clear hIa S3 e3
  have hDfL : Df ≠ env.locals := by rw [hDf]; exact Nat.ne_of_gt hLlt
  have hDeDf : De ≠ Df := by rw [hDf]; exact Nat.ne_of_lt hDlt
  have hDfI : Df < I := Nat.lt_of_lt_of_le hlt2 hIa'
  have hLI : env.locals < I := Nat.lt_of_lt_of_le hL2 hIa'
  have hP3 := e23 _ _ hP2
  have I3 : s3.heap.IsList De ve.toArray := ⟨oD, e23 _ _ (e2 _ _ hDL hoD), hcD, nD, hdD⟩
  refine forW (m := _) (wr := [Df]) (Walks.range hh I 0 1 n) V l5 ?_ ?_ (by simpa using hI) F3.ns
    (fun i h m => m "text" = some (.str text tt) ∧ m "piece" = some (.str p tp) ∧ m "ends" = some (.ref De) ∧ m "fresh" = some (.ref Df) ∧ h.IsList De ve.toArray ∧ ∃ vs, h.PlainList Df vs.toArray ∧ IntsAre vs (fitUpTo text p ends i))
    ⟨by walk_at "lk", by walk_at "lk", by walk_at "lk", by walk_at "lk", I3, [], ⟨_, hP3⟩, .nil⟩ ?_ ?_ ?_ ?_
  · intro b hb
    simp only [List.mem_cons, List.not_mem_nil, or_false] at hb
    subst hb
    exact ⟨Nat.ne_of_gt hLI, by simpa using Nat.ne_of_gt hDfI⟩
  · intro i h ho
    exact ⟨_, ho, fun a b e => by cases e⟩
  · rintro i h h' m J ⟨a, b, c, d, e, vs, f, g⟩ hJ k
    exact ⟨a, b, c, d, isList_but e hJ k, vs, plain_but f hJ k, g⟩
  · rintro i h m v ⟨a, b, c, d, e⟩
    exact ⟨by walk_at "lk", by walk_at "lk", by walk_at "lk", by walk_at "lk", e⟩
  · rintro i vv s4 m4 hi ⟨ti, rfl⟩ S4 hn4 hw4 hk4 ⟨a, b, c, d, hl4, vs, hp4, hv4⟩ E'
    have hi0 : (0 : Int) + (i : Int) * 1 = (i : Int) := by omega
    rw [hi0] at hw4
    have F4 : Fr h₀ env.locals s4.heap m4 := ⟨hn4, fun b o e => hk4 b o ?_ (Nat.ne_of_lt (Nat.lt_of_lt_of_le (Heap.lt_size e) F.above)) ?_ (F3.keep _ _ e), F.above⟩
    · refine wpAny_mono (fit_inner (text := text) V hh hu W G F4 a b c d hw4 hx hpl hl4 hie hp4 hv4 (Nat.le_trans (fitUpTo_len ..) (by omega)) hDfL hf0) ?_ fun _ _ e => e
      rintro fl s5 ⟨rfl, S5, b5, F5, vs5, hp5, hv5⟩
      refine ⟨S5, b5, .inl ⟨rfl, m4, F5.ns, a, b, c, d, ?_, vs5, hp5, ?_⟩⟩
      · obtain ⟨o, ho, r⟩ := hl4
        exact ⟨o, b5 _ _ hDL (by simpa using hDeDf) ho, r⟩
      · rw [fitUpTo_succ]; exact hv5
    · exact Nat.ne_of_lt (Nat.lt_trans (Nat.lt_of_lt_of_le (Heap.lt_size e) F.above) hLI)
    · simp only [List.mem_singleton]
      rintro rfl
      rw [hf0] at e; cases e
  · rintro s4 m4 S4 hn4 hk4 ⟨a, b, c, d, hl4, vs, hp4, hv4⟩
    have F4 : Fr h₀ env.locals s4.heap m4 := ⟨hn4, fun b o e => hk4 b o ?_ (Nat.ne_of_lt (Nat.lt_of_lt_of_le (Heap.lt_size e) F.above)) ?_ (F3.keep _ _ e), F.above⟩
    · refine wpAny_execs_cons (wpAny_Assign_Name (nmL V F4 l4 d (sto V F4 l2 fun s5 S5 F5 B5 => ?_)))
      refine wpAny_execs_nil ⟨rfl, S2.of.and (S23.trans (S4.trans S5)), ?_, _, F5, by walk_at "lk", Df, vs, lk_hit, ?_, ?_⟩
      · intro b o hb _ e
        refine B5.extBut b o hb (hk4 b o ?_ hb ?_ (e23 _ _ (e2 _ _ hb e)))
        · have := hlt _ _ e
          exact Nat.ne_of_lt (Nat.lt_trans this (hDf ▸ hDfI))
        · have := hlt _ _ e
          rw [← hDf] at this
          simpa using Nat.ne_of_lt this
      · obtain ⟨k, ho⟩ := hp4
        exact ⟨_, B5.extBut _ _ hDfL ho, rfl, _, rfl⟩
      · rw [hn'] at hv4; exact hv4
    · exact Nat.ne_of_lt (Nat.lt_trans (Nat.lt_of_lt_of_le (Heap.lt_size e) F.above) hLI)
    · simp only [List.mem_singleton]
      rintro rfl
      rw [hf0] at e; cases e

theorem fits1 {Dp De : Addr} {l : List (Str × Tok)} {ve : List Value} {ends : List Int} (V : EvF env) (hh : A.handled = none) (hu : A.units + 64 < cLine) (W : Wd mg mb h₀) (G : GloF mg mb) (F : Fr h₀ env.locals s.heap m)
    (hp : m "pieces" = some (.ref Dp)) (ht : m "text" = some (.str text tt)) (hen : m "ends" = some (.ref De)) (hl : s.heap.IsList Dp (strValues l).toArray) (hx : text.length ≤ 1000) (hsz : ∀ y ∈ l.map (·.1), y.length ≤ 1000) (hln : l.length ≤ 2000)
    (hDe : s.heap.IsList De ve.toArray) (hie : IntsAre ve ends)
    (h : PostB h₀ (((l.map (·.1)).tail.foldl (fitTurn text) ends).any (· == (text.length : Int))) Q s) : wpAny (model prog w) A (execs ((bodyOf (stm 9)).drop 1) env) Q E s := by
  have hz : sizeLine = 16777216 := PySem.sizeLine_eq
  have l0 := V.l "pieces" (.head _)
  have l1 := V.l "text" (.tail _ (.head _))
  have l2 := V.l "ends" (.tail _ (.tail _ (.head _)))
  have l3 := V.l "piece" (.tail _ (.tail _ (.tail _ (.head _))))
  have g1 := V.gl "len" (.head _)
  refine wpAny_execs_cons (wpAny_For ?_)
  refine wpAny_Subscript_list_slice (nmL V F l0 hp (evalPart_some_step (wpAny_Constant_int (evalPart_none_step ⟨Dp, _, _, _, rfl, hl, by simp [strValues]; omega, .int _ _, .none, ?_⟩))))
  have hsl : slicePick (strValues l).toArray (some 1) none none = (strValues l.tail).toArray := by
    have := slicePick_from' (strValues l).toArray 1
    rw [show ((1 : Nat) : Int) = 1 from rfl] at this
    rw [this]
    simp [strValues]
  rw [hsl]
  have S0 : Same s { s with toks := s.toks + 1 } := ⟨rfl, rfl, rfl⟩
  generalize hsi : s.heap.push { cls := .type "slice", data := .fields #[.int 1 s.toks, .none, .none] } = hp1
  have F1 : Fr h₀ env.locals hp1 m := by rw [← hsi]; exact F.push _
  have hDe1 : hp1.IsList De ve.toArray := by rw [← hsi]; exact hDe.push _
  have hD2 : hp1.objs.size = s.heap.objs.size + 1 := by rw [← hsi]; exact Heap.size_push ..
  have F2 := F1.push ({ cls := .type "list", data := .seq (strValues l.tail).toArray } : Obj)
  have hDe2 := hDe1.push ({ cls := .type "list", data := .seq (strValues l.tail).toArray } : Obj)
  generalize hD : s.heap.objs.size + 1 = D
  rw [hD] at hD2
  have hlD : (hp1.push ({ cls := .type "list", data := .seq (strValues l.tail).toArray } : Obj)).IsList D (strValues l.tail).toArray := by
    rw [← hD2]; exact ⟨_, get_push, rfl, _, rfl⟩
  have hext : Ext s.heap (hp1.push ({ cls := .type "list", data := .seq (strValues l.tail).toArray } : Obj)) := by
    rw [← hsi]
    exact fun b o e => Heap.get?_push_of_some _ (Heap.get?_push_of_some _ e)
  show wpAny _ _ (pyIter (.ref D)) _ _ { s with toks := s.toks + 1, heap := hp1.push ({ cls := .type "list", data := .seq (strValues l.tail).toArray } : Obj) }
  generalize hp2e : hp1.push ({ cls := .type "list", data := .seq (strValues l.tail).toArray } : Obj) = hp2 at *
  refine wpAny_pyIter_list hlD ?_
  have F3 := F2.push ({ cls := .type "list_iterator", data := .fields #[.ref D, .int 0 0] } : Obj)
  have hDe3 := hDe2.push ({ cls := .type "list_iterator", data := .fields #[.ref D, .int 0 0] } : Obj)
  have hlt : ∀ b o, hp2.get? b = some o → b ≠ hp2.objs.size := fun b o e => Nat.ne_of_lt (Heap.lt_size e)
  obtain ⟨oL, esL, epL, hoL, hdL, hkL, hfL⟩ := F2.ns
  obtain ⟨oD, hoD, hcD, nD, hdD⟩ := id hlD
  have hDL : D ≠ env.locals := by
    rintro rfl
    rw [hoL] at hoD; cases hoD
    rw [hdL] at hdD; cases hdD
  have hkF : ∀ s1 : Shared, (∀ b o, b ≠ hp2.objs.size → b ≠ env.locals → b ∉ ([] : List Addr) → (hp2.push ({ cls := .type "list_iterator", data := .fields #[.ref D, .int 0 0] } : Obj)).get? b = some o → s1.heap.get? b = some o) → ∀ m1, s1.heap.Ns env.locals m1 → Fr h₀ env.locals s1.heap m1 :=
    fun s1 hk1 m1 hn1 => ⟨hn1, fun b o e => hk1 b o (hlt _ _ (F2.keep _ _ e)) (Nat.ne_of_lt (Nat.lt_of_lt_of_le (Heap.lt_size e) F.above)) (by simp) (F3.keep _ _ e), F.above⟩
  refine forW (m := m) (wr := []) (Walks.list hh _ D (hlt _ _ hoD) (strValues l.tail).toArray) V l3 ?_ ?_ ⟨⟨_, get_push, rfl, rfl⟩, hlD.push _⟩ F3.ns
    (fun i h m => m "text" = some (.str text tt) ∧ ∃ De ve ends', m "ends" = some (.ref De) ∧ h.IsList De ve.toArray ∧ IntsAre ve ends' ∧ ((l.map (·.1)).tail.drop i).foldl (fitTurn text) ends' = (l.map (·.1)).tail.foldl (fitTurn text) ends)
    ⟨ht, De, ve, ends, hen, hDe3, hie, rfl⟩ ?_ ?_ ?_ ?_
  · intro b hb
    simp only [List.mem_cons, List.not_mem_nil, or_false] at hb
    rcases hb with rfl | rfl
    · exact ⟨Ne.symm (hlt _ _ hoL), by simp⟩
    · exact ⟨hDL, by simp⟩
  · rintro i h ⟨⟨o, ho, _, hd⟩, _⟩
    exact ⟨o, ho, fun a b e => by rw [hd] at e; cases e⟩
  · rintro i h h' m J ⟨a, De, ve, en, b, c, d, e⟩ hJ k
    exact ⟨a, De, ve, en, b, isList_but c hJ k, d, e⟩
  · rintro i h m v ⟨a, De, ve, en, b, c⟩
    exact ⟨by walk_at "lk", De, ve, en, by walk_at "lk", c⟩
  · rintro i vv s1 m1 hi hP S1 hn1 hw1 hk1 ⟨a, De1, ve1, en1, b, c, d, e⟩ E'
    obtain ⟨y, ty, rfl, hy⟩ := strValues_get hP
    rw [List.map_tail] at hy
    have hyl : y.length ≤ 1000 := hsz y (List.mem_of_mem_tail (List.mem_of_getElem? hy))
    have hdrop : (l.map (·.1)).tail.drop i = y :: (l.map (·.1)).tail.drop (i + 1) := by
      obtain ⟨h1, rfl⟩ := List.getElem?_eq_some_iff.mp hy
      exact List.drop_eq_getElem_cons h1
    rw [hdrop, List.foldl_cons] at e
    refine wpAny_mono (fit_turn (text := text) V hh hu W G (hkF s1 hk1 m1 hn1) a hw1 b hx hyl c d) ?_ fun _ _ e => e
    rintro fl s5 ⟨rfl, S5, b5, m5, F5, h5, De5, ve5, h6, h7, h8⟩
    exact ⟨S5, b5, .inl ⟨rfl, m5, F5.ns, h5, De5, ve5, _, h6, h7, h8, e⟩⟩
  · rintro s1 m1 S1 hn1 hk1 ⟨a, De1, ve1, en1, b, c, d, e⟩
    rw [List.drop_of_length_le (by simp [strValues]), List.foldl_nil] at e
    have F1 := hkF s1 hk1 m1 hn1
    refine wpAny_execs_cons (wpAny_Return_some (wpAny_Compare1 ?_))
    refine Call_ (nmB V (W.ext F1.keep) g1 G.len0 G.len (callWith_builtin1 (args_cons (nmL V F1 l1 a (args_nil ?_)))))
    refine len_str (by omega) (nmL V F1 l2 b (in_list_ints c d ?_))
    rw [e]
    exact h _ ((S0.and S1).and (Same.refl _)) F1.keep

theorem fits0 {Dp : Addr} {l : List (Str × Tok)} (V : EvF env) (hh : A.handled = none) (hu : A.units + 64 < cLine) (W : Wd mg mb h₀) (G : GloF mg mb) (F : Fr h₀ env.locals s.heap m)
    (hp : m "pieces" = some (.ref Dp)) (ht : m "text" = some (.str text tt)) (hl : s.heap.IsList Dp (strValues l).toArray) (hx : text.length ≤ 1000) (hsz : ∀ y ∈ l.map (·.1), y.length ≤ 1000) (hln : l.length ≤ 2000) (hne : l ≠ [])
    (h : PostB h₀ (lawFits (l.map (·.1)) text) Q s) : wpAny (model prog w) A (execs (bodyOf (stm 9)) env) Q E s := by
  have hz : sizeLine = 16777216 := PySem.sizeLine_eq
  have l0 := V.l "pieces" (.head _)
  have l1 := V.l "text" (.tail _ (.head _))
  have l2 := V.l "ends" (.tail _ (.tail _ (.head _)))
  have l3 := V.l "piece" (.tail _ (.tail _ (.tail _ (.head _))))
  have g1 := V.gl "len" (.head _)
  have hpos : 0 < l.length := List.length_pos_iff.mpr hne
  refine wpAny_execs_cons (wpAny_Assign_Name (IfExp_ (wpAny_isTrue_Compare1 (sliceNS ?_))))
  refine nmL V F l1 ht (Call_ (nmB V (W.ext F.keep) g1 G.len0 G.len (callWith_builtin1 (args_cons (Subscript_ (nmL V F l0 hp (wpAny_Constant_int (item_strsT hl (by decide) (by omega) (by decide) fun y ty hy => (args_nil ?_)))))))))
  have hy' : (l.map (·.1)).headD Str.empty = y := by
    have e : (0 : Int).toNat = 0 := rfl
    rw [e] at hy
    rw [List.headD_eq_head?_getD, List.head?_eq_getElem?, hy]
    rfl
  have hyl : y.length ≤ 1000 := hsz y (List.mem_of_getElem? hy)
  refine len_str (by omega) ⟨_, _, _, _, rfl, rfl, hx, fun s1 t1 S1 e1 => ?_⟩
  have F1 := frK F e1
  have hl1 : s1.heap.IsList Dp (strValues l).toArray := by obtain ⟨o, ho, r⟩ := hl; exact ⟨o, e1 _ _ ho, r⟩
  refine Subscript_ (nmL V F1 l0 hp (wpAny_Constant_int (item_strsT hl1 (by decide) (by omega) (by decide) fun y2 ty2 hy2 => ?_)))
  have e12 : y2 = y := by
    rw [hy] at hy2
    exact (Option.some.inj hy2).symm
  subst e12
  refine eq_str (wpAny_truthy_bool ?_)
  have key : ∀ (ve : List Value) (s2 : Shared), IntsAre ve (fitStart text y2) → Same s s2 → Fr h₀ env.locals s2.heap m → s2.heap.IsList Dp (strValues l).toArray →
      wpAny (model prog w) A (storeName env "ends" (.ref s2.heap.objs.size)) (fun _ s' => wpAny (model prog w) A (execs ((bodyOf (stm 9)).drop 1) env) Q E s') E { s2 with heap := s2.heap.push { cls := .type "list", data := .seq ve.toArray } } := by
    intro ve s2 hve S2 F2 hl2
    have F3 := F2.push ({ cls := .type "list", data := .seq ve.toArray } : Obj)
    refine sto V F3 l2 fun s4 S4 F4 B4 => ?_
    have hlt : ∀ b o, s2.heap.get? b = some o → b ≠ s2.heap.objs.size := fun b o e => Nat.ne_of_lt (Heap.lt_size e)
    obtain ⟨oL, esL, epL, hoL, hdL, hkL, hfL⟩ := F2.ns
    obtain ⟨oD, hoD, hcD, nD, hdD⟩ := id hl2
    have hDL : Dp ≠ env.locals := by
      rintro rfl
      rw [hoL] at hoD; cases hoD
      rw [hdL] at hdD; cases hdD
    refine fits1 (ve := ve) V hh hu W G F4 (by walk_at "lk") (by walk_at "lk") lk_hit ?_ hx hsz hln ?_ hve ?_
    · exact ⟨oD, B4.extBut _ _ hDL (Heap.get?_push_of_some _ hoD), hcD, nD, hdD⟩
    · exact ⟨_, B4.extBut _ _ (Ne.symm (hlt _ _ hoL)) get_push, rfl, _, rfl⟩
    · unfold lawFits at h
      rw [hy'] at h
      exact fun s' S e => h s' (S2.trans (S4.of.trans S)) e
  by_cases hc : (Txt.slice text none (some (y2.length : Int)) == y2) = true
  · rw [if_pos hc]
    refine wpAny_List (args_cons ?_)
    refine Call_ (nmB V (W.ext F1.keep) g1 G.len0 G.len (callWith_builtin1 (args_cons (Subscript_ (nmL V F1 l0 hp (wpAny_Constant_int (item_strsT hl1 (by decide) (by omega) (by decide) fun y3 ty3 hy3 => (args_nil ?_))))))))
    have e13 : y3 = y2 := by
      rw [hy] at hy3
      exact (Option.some.inj hy3).symm
    subst e13
    refine len_str (by omega) (args_nil ⟨by simp; omega, ?_⟩)
    refine key _ _ ?_ (S1.of.and (Same.refl _)) F1 hl1
    unfold fitStart
    rw [if_pos hc]
    exact .cons _ _ .nil
  · rw [if_neg hc]
    refine wpAny_List (args_nil ⟨by simp, ?_⟩)
    refine key _ _ ?_ (S1.of.and (Same.refl _)) F1 hl1
    unfold fitStart
    rw [if_neg hc]
    exact .nil

theorem fits_call {f Dp : Addr} {o : Obj} {l : List (Str × Tok)} {pm cd doc : Value} {Q : Value → Shared → Prop} (W : Wd mg mb s.heap) (G : GloF mg mb) (R : Rm A) (hu : A.units + 100 < cLine)
    (ho : s.heap.get? f = some o) (hd : o.data = .func (docDef "_law_fits" (argsOf (stm 9)) (bodyOf (stm 9)) (scopeOf (stm 9)) pm cd doc)) (hc : s.heap.CodeRec cd "_law_fits")
    (hl : s.heap.IsList Dp (strValues l).toArray) (hx : text.length ≤ 1000) (hsz : ∀ y ∈ l.map (·.1), y.length ≤ 1000) (hln : l.length ≤ 2000) (hne : l ≠ [])
    (h : ∀ s', Same s s' → Ext s.heap s'.heap → Q (.bool (lawFits (l.map (·.1)) text)) s') : wpAny (model prog w) A (call (.ref f) [.ref Dp, .str text tt]) Q E s := by
  refine wpAny_call (call_plain_ret R.d ho hd W.lim hc (binds := [("pieces", .ref Dp), ("text", .str text tt)]) rfl (by simp; exact ⟨rfl, rfl⟩) (fun h₁ F => ?_) rfl rfl rfl (by decide))
  refine fits0 (text := text) (l := l) ⟨rfl, ?_, ?_, rfl, rfl, rfl⟩ R.h ?_ W G F (by rfl) (by rfl) ?_ hx hsz hln hne ?_
  · simp; exact ⟨rfl, rfl, rfl, rfl, rfl, rfl⟩
  · simp; exact ⟨rfl, rfl, rfl⟩
  · simp [Around.deeper]; omega
  · obtain ⟨o, ho, r⟩ := hl; exact ⟨o, F.keep _ _ ho, r⟩
  · exact fun s' S e => h s' S.of e
end
end Xb4

namespace Xb4
open StrLaws (At)
/-! ## the ellipsis: the greedy search and the set of ends -/
theorem occ_hi (x y : Str) (lo hi : Nat) :
    (occurrences x y lo hi 1 = [] ∧ ∀ i, lo ≤ i → ¬ At x y hi i) ∨
    ∃ i r, occurrences x y lo hi 1 = i :: r ∧ lo ≤ i ∧ At x y hi i ∧ ∀ k, lo ≤ k → k < i → ¬ At x y hi k := by
  rw [StrLaws.occ_eq]
  rcases StrLaws.occ_first x y hi 1 (Nat.le_refl _) (List.range' lo (hi + 1 - lo)) lo (fun i h => (List.mem_range'_1.mp h).1) with ⟨h0, hn⟩ | ⟨pre, a, post, e, h0, ha, hn⟩
  · refine .inl ⟨by rw [h0], fun i hlo h => ?_⟩
    have h1 := h.1
    exact hn i (List.mem_range'_1.mpr ⟨hlo, by omega⟩) h
  · have hs := StrLaws.range'_split_from e
    generalize (forIn (List.range' lo (hi + 1 - lo)) ((#[] : Array Nat), lo) (StrLaws.occBody x y hi 1)).run.fst = arr at h0
    have h1 : arr.toList[0]? = some a := by simpa using h0
    cases hL : arr.toList with
    | nil => rw [hL] at h1; cases h1
    | cons b t =>
      rw [hL] at h1
      have hb : b = a := by simpa using h1
      exact .inr ⟨b, t, rfl, hb ▸ hs.1, hb ▸ ha, fun k hk0 hk => hn k (hs.2 k hk0 (hb ▸ hk))⟩

theorem find4_cases (g w : Str) (st en : Nat) (hen : en ≤ g.length) :
    (find4 g w st en = -1 ∧ ∀ i, st ≤ i → ¬ At g w en i) ∨ ∃ k : Nat, find4 g w st en = k ∧ st ≤ k ∧ At g w en k ∧ ∀ i, st ≤ i → i < k → ¬ At g w en i := by
  have e1 : ∀ n : Nat, fromIndex g.length (n : Int) = n := by
    intro n
    unfold fromIndex
    rw [if_neg (by omega)]
    omega
  have e2 : min (fromIndex g.length (en : Int)) g.length = en := by rw [e1]; omega
  unfold find4
  rw [e2, e1]
  rcases occ_hi g w st en with ⟨h1, h2⟩ | ⟨i, r, h1, h2, h3, h4⟩
  · rw [h1]; exact .inl ⟨rfl, h2⟩
  · rw [h1]; exact .inr ⟨i, rfl, h2, h3, h4⟩

/-- the pieces, one behind the other, from st to f -/
def Ch (g : Str) (en : Nat) : Nat → List Str → Nat → Prop
  | st, [], f => f = st
  | st, w :: ws, f => ∃ e, st ≤ e ∧ At g w en e ∧ Ch g en (e + w.length) ws f

theorem ch_le {g : Str} {en : Nat} : ∀ {ws : List Str} {st f : Nat}, Ch g en st ws f → st ≤ f
  | [], _, _, h => Nat.le_of_eq h.symm
  | w :: ws, st, f, ⟨e, h1, _, h3⟩ => by have := ch_le h3; omega
theorem ch_en {g : Str} {en : Nat} : ∀ {ws : List Str} {st f : Nat}, st ≤ en → Ch g en st ws f → f ≤ en
  | [], _, _, h, hc => by rw [show _ = _ from hc]; exact h
  | w :: ws, st, f, _, ⟨e, _, h2, h3⟩ => ch_en h2.1 h3
theorem ch_mono {g : Str} {en st st' : Nat} {ws : List Str} (h : st ≤ st') (hc : ∃ f, Ch g en st' ws f) : ∃ f, Ch g en st ws f := by
  cases ws with
  | nil => exact ⟨st, rfl⟩
  | cons w ws =>
    obtain ⟨f, e, h1, h2, h3⟩ := hc
    exact ⟨f, e, by omega, h2, h3⟩
theorem ch_hi {g : Str} {en en' : Nat} : ∀ {ws : List Str} {st f : Nat}, f ≤ en' → Ch g en st ws f → Ch g en' st ws f
  | [], _, _, _, h => h
  | w :: ws, st, f, hf, ⟨e, h1, h2, h3⟩ => by
    have := ch_le h3
    exact ⟨e, h1, ⟨by omega, h2.2⟩, ch_hi hf h3⟩
theorem ch_append {g : Str} {en : Nat} {b : List Str} {f : Nat} : ∀ {a : List Str} {st : Nat}, Ch g en st (a ++ b) f ↔ ∃ k, Ch g en st a k ∧ Ch g en k b f
  | [], st => ⟨fun h => ⟨st, rfl, h⟩, fun ⟨k, h1, h2⟩ => by have e : k = st := h1; subst e; exact h2⟩
  | w :: a, st => by
    constructor
    · rintro ⟨e, h1, h2, h3⟩
      obtain ⟨k, h4, h5⟩ := ch_append.mp h3
      exact ⟨k, ⟨e, h1, h2, h4⟩, h5⟩
    · rintro ⟨k, ⟨e, h1, h2, h4⟩, h5⟩
      exact ⟨e, h1, h2, ch_append.mpr ⟨k, h4, h5⟩⟩

theorem ellLoop_iff {g : Str} {en : Nat} (hen : en ≤ g.length) : ∀ (ws : List Str) (st : Nat), ellLoop g en ws st = true ↔ ∃ f, Ch g en st ws f
  | [], st => ⟨fun _ => ⟨st, rfl⟩, fun _ => rfl⟩
  | w :: ws, st => by
    rw [ellLoop]
    rcases find4_cases g w st en hen with ⟨h1, h2⟩ | ⟨k, h1, h2, h3, h4⟩
    · rw [h1, if_pos (by decide)]
      constructor
      · intro h; cases h
      · rintro ⟨f, e, a, b, _⟩
        exact absurd b (h2 e a)
    · rw [h1, if_neg (by omega)]
      have e1 : ((k : Int) + (w.length : Int)) = ((k + w.length : Nat) : Int) := by omega
      rw [e1, ellLoop_iff hen ws (k + w.length)]
      constructor
      · rintro ⟨f, h⟩
        exact ⟨f, k, h2, h3, h⟩
      · rintro ⟨f, e, a, b, c⟩
        refine ch_mono (st' := e + w.length) ?_ ⟨f, c⟩
        have : k ≤ e := Nat.le_of_not_lt fun hk => h4 e a hk b
        omega

theorem ellEnd_iff {g : Str} {st en : Nat} {ws : List Str} (hen : en ≤ g.length) : ellEnd g st en ws = true ↔ st ≤ en ∧ ∃ f, Ch g en st ws f := by
  unfold ellEnd
  by_cases h : (en : Int) < (st : Int)
  · rw [if_pos h]
    constructor
    · intro h; cases h
    · rintro ⟨h1, _⟩; omega
  · rw [if_neg h, ellLoop_iff hen]
    constructor
    · exact fun h2 => ⟨by omega, h2⟩
    · exact fun h2 => h2.2

theorem at_empty {g w : Str} {en e : Nat} (hw : w.length = 0) (he : e ≤ en) : At g w en e := by
  refine ⟨by omega, ?_⟩
  rw [StrLaws.subAt_eq, hw, List.take_zero]
  have : w.cps.toList = [] := by simpa [Str.length] using hw
  rw [this]; rfl
theorem ch_front {g w : Str} {en st : Nat} {ws : List Str} (hw : w.length = 0) (h : st ≤ en) : (∃ f, Ch g en st (w :: ws) f) ↔ ∃ f, Ch g en st ws f := by
  constructor
  · rintro ⟨f, e, h1, h2, h3⟩
    rw [hw] at h3
    exact ch_mono h1 ⟨f, h3⟩
  · rintro ⟨f, h1⟩
    exact ⟨f, st, Nat.le_refl _, at_empty hw h, by rw [hw]; exact h1⟩
theorem ch_back {g w : Str} {en st : Nat} {ws : List Str} (hw : w.length = 0) (h : st ≤ en) : (∃ f, Ch g en st (ws ++ [w]) f) ↔ ∃ f, Ch g en st ws f := by
  constructor
  · rintro ⟨f, h1⟩
    obtain ⟨k, h2, _⟩ := ch_append.mp h1
    exact ⟨k, h2⟩
  · rintro ⟨f, h1⟩
    have := ch_en h h1
    exact ⟨f + w.length, ch_append.mpr ⟨f, h1, f, Nat.le_refl _, at_empty hw this, rfl⟩⟩

theorem starts_iff (g w : Str) : Txt.startswith g w = true ↔ At g w g.length 0 := by
  unfold Txt.startswith At
  simp
theorem ends_iff (g w : Str) : Txt.endswith g w = true ↔ w.length ≤ g.length ∧ At g w g.length (g.length - w.length) := by
  unfold Txt.endswith At
  simp
  omega

theorem ellBack_iff {g z : Str} {st : Nat} {ws : List Str} : ellBack g st (ws ++ [z]) = true ↔ z.length ≤ g.length ∧ At g z g.length (g.length - z.length) ∧ st ≤ g.length - z.length ∧ ∃ f, Ch g (g.length - z.length) st ws f := by
  unfold ellBack
  have e : (ws ++ [z]).getLastD Str.empty = z := by simp
  rw [e]
  dsimp only
  by_cases hz : z.length = 0
  · rw [if_pos hz, ellEnd_iff (Nat.le_refl _), hz, Nat.sub_zero]
    constructor
    · rintro ⟨h1, h2⟩
      exact ⟨Nat.zero_le _, at_empty hz (Nat.le_refl _), h1, (ch_back hz h1).mp h2⟩
    · rintro ⟨_, _, h1, h2⟩
      exact ⟨h1, (ch_back hz h1).mpr h2⟩
  · rw [if_neg hz]
    by_cases he : Txt.endswith g z = true
    · rw [if_pos he]
      have h := (ends_iff g z).mp he
      have e1 : ((g.length : Int) - (z.length : Int)) = ((g.length - z.length : Nat) : Int) := by omega
      rw [List.dropLast_concat, e1, ellEnd_iff (by omega)]
      constructor
      · rintro ⟨h1, h2⟩
        exact ⟨h.1, h.2, h1, h2⟩
      · rintro ⟨_, _, h1, h2⟩
        exact ⟨h1, h2⟩
    · rw [if_neg he]
      constructor
      · intro h; cases h
      · rintro ⟨h1, h2, _⟩
        exact absurd ((ends_iff g z).mpr ⟨h1, h2⟩) he

theorem ellFront_iff {g p z : Str} {ws : List Str} : ellFront g (p :: (ws ++ [z])) = true ↔ At g p g.length 0 ∧ z.length ≤ g.length ∧ At g z g.length (g.length - z.length) ∧ p.length ≤ g.length - z.length ∧ ∃ f, Ch g (g.length - z.length) p.length ws f := by
  unfold ellFront
  rw [List.headD_cons]
  dsimp only
  by_cases hp : p.length = 0
  · rw [if_pos hp, ← List.cons_append]
    have e0 : (0 : Int) = ((0 : Nat) : Int) := rfl
    rw [e0, ellBack_iff, hp]
    constructor
    · rintro ⟨h1, h2, h3, h4⟩
      exact ⟨at_empty hp (Nat.zero_le _), h1, h2, h3, (ch_front hp h3).mp h4⟩
    · rintro ⟨_, h1, h2, h3, h4⟩
      exact ⟨h1, h2, h3, (ch_front hp h3).mpr h4⟩
  · rw [if_neg hp]
    by_cases hs : Txt.startswith g p = true
    · rw [if_pos hs, List.tail_cons, ellBack_iff]
      constructor
      · exact fun h => ⟨(starts_iff g p).mp hs, h⟩
      · exact fun h => h.2
    · rw [if_neg hs]
      constructor
      · intro h; cases h
      · rintro ⟨h1, _⟩
        exact absurd ((starts_iff g p).mpr h1) hs

theorem slice_sub {g p : Str} {e : Nat} (h : e + p.length ≤ g.length) : (Txt.slice g (some (e : Int)) (some ((e : Int) + p.length)) == p) = subAt g p e := by
  have e1 : ((e : Int) + (p.length : Int)) = ((e + p.length : Nat) : Int) := by omega
  have h1 : Txt.slice g (some (e : Int)) (some ((e + p.length : Nat) : Int)) = _ := StrLaws.sliceText_nat g (Nat.le_add_right e p.length) h
  rw [e1, h1, StrLaws.subAt_eq, Nat.add_sub_cancel_left, Bool.eq_iff_iff, beq_iff_eq, beq_iff_eq]
  constructor
  · intro h2
    have h3 := congrArg (fun s : Str => s.cps.toList) h2
    simpa using h3
  · intro h2
    rw [h2]
theorem slice_start {g p : Str} : (Txt.slice g none (some (p.length : Int)) == p) = true ↔ At g p g.length 0 := by
  by_cases h : p.length ≤ g.length
  · have h1 : Txt.slice g none (some (p.length : Int)) = Txt.slice g (some ((0 : Nat) : Int)) (some (((0 : Nat) : Int) + p.length)) := by
      unfold Txt.slice
      rw [StrLaws.sliceIdx_none_lo]
      simp
    rw [h1, slice_sub (by omega)]
    exact ⟨fun h2 => ⟨by omega, h2⟩, fun h2 => h2.2⟩
  · constructor
    · intro h1
      have h2 := Txt.slice_le g none (some (p.length : Int))
      rw [beq_iff_eq] at h1
      rw [h1] at h2
      exact absurd h2 h
    · intro h1
      have := h1.1
      omega

theorem mem_turn {g p : Str} {ends : List Int} {x : Int} : x ∈ fitTurn g ends p ↔ ∃ e : Nat, At g p g.length e ∧ (∃ a ∈ ends, a ≤ (e : Int)) ∧ x = (e : Int) + p.length := by
  unfold fitTurn fitUpTo
  rw [List.mem_map]
  constructor
  · rintro ⟨e, he, rfl⟩
    rw [List.mem_filter, List.mem_range] at he
    obtain ⟨h1, h2⟩ := he
    unfold fitAt at h2
    rw [Bool.and_eq_true, slice_sub (by omega), List.any_eq_true] at h2
    obtain ⟨h3, a, h4, h5⟩ := h2
    exact ⟨e, ⟨by omega, h3⟩, ⟨a, h4, by simpa using h5⟩, rfl⟩
  · rintro ⟨e, ⟨h1, h2⟩, ⟨a, h3, h4⟩, rfl⟩
    refine ⟨e, ?_, rfl⟩
    rw [List.mem_filter, List.mem_range]
    refine ⟨by omega, ?_⟩
    unfold fitAt
    rw [Bool.and_eq_true, slice_sub h1, List.any_eq_true]
    exact ⟨h2, a, h3, by simpa using h4⟩

theorem mem_folded {g : Str} {x : Nat} : ∀ {ps : List Str} {ends : List Int}, (∀ a ∈ ends, ∃ n : Nat, a = (n : Int)) → (((x : Nat) : Int) ∈ ps.foldl (fitTurn g) ends ↔ ∃ a : Nat, (a : Int) ∈ ends ∧ Ch g g.length a ps x)
  | [], ends, hn => by
    constructor
    · exact fun h => ⟨x, h, rfl⟩
    · rintro ⟨a, h1, h2⟩
      have e : x = a := h2
      rw [e]; exact h1
  | p :: ps, ends, hn => by
    rw [List.foldl_cons, mem_folded (ps := ps)]
    · constructor
      · rintro ⟨a, h1, h2⟩
        obtain ⟨e, h3, ⟨b, h4, h5⟩, h6⟩ := mem_turn.mp h1
        obtain ⟨n, rfl⟩ := hn b h4
        have e1 : a = e + p.length := by omega
        subst e1
        exact ⟨n, h4, e, by omega, h3, h2⟩
      · rintro ⟨n, h4, e, h5, h3, h2⟩
        exact ⟨e + p.length, mem_turn.mpr ⟨e, h3, ⟨n, h4, by omega⟩, by omega⟩, h2⟩
    · intro a ha
      obtain ⟨e, _, _, h6⟩ := mem_turn.mp ha
      exact ⟨e + p.length, by omega⟩

theorem lawFits_iff {g p : Str} {ws : List Str} : lawFits (p :: ws) g = true ↔ At g p g.length 0 ∧ Ch g g.length p.length ws g.length := by
  unfold lawFits
  rw [List.tail_cons, List.headD_cons, List.any_eq_true]
  have e1 : (∃ x, x ∈ ws.foldl (fitTurn g) (fitStart g p) ∧ (x == (g.length : Int)) = true) ↔ ((g.length : Nat) : Int) ∈ ws.foldl (fitTurn g) (fitStart g p) := by
    constructor
    · rintro ⟨x, h1, h2⟩
      rw [beq_iff_eq] at h2
      rw [← h2]; exact h1
    · exact fun h => ⟨_, h, by simp⟩
  rw [e1, mem_folded]
  · unfold fitStart
    by_cases h : (Txt.slice g none (some (p.length : Int)) == p) = true
    · rw [if_pos h]
      have h2 := slice_start.mp h
      constructor
      · rintro ⟨a, h3, h4⟩
        rw [List.mem_singleton] at h3
        have e : a = p.length := by omega
        subst e
        exact ⟨h2, h4⟩
      · rintro ⟨_, h4⟩
        exact ⟨p.length, List.mem_singleton.mpr rfl, h4⟩
    · rw [if_neg h]
      constructor
      · rintro ⟨a, h3, _⟩
        cases h3
      · rintro ⟨h3, _⟩
        exact absurd (slice_start.mpr h3) h
  · intro a ha
    unfold fitStart at ha
    split at ha
    · rw [List.mem_singleton] at ha
      exact ⟨_, ha⟩
    · cases ha

theorem two_fits {g p z : Str} {ws : List Str} : ellFront g (p :: (ws ++ [z])) = lawFits (p :: (ws ++ [z])) g := by
  rw [Bool.eq_iff_iff, ellFront_iff, lawFits_iff]
  constructor
  · rintro ⟨h1, h2, h3, h4, f, h5⟩
    refine ⟨h1, ch_append.mpr ⟨f, ch_hi ?_ h5, g.length - z.length, ch_en h4 h5, h3, ?_⟩⟩
    · have := ch_en h4 h5
      omega
    · show g.length = g.length - z.length + z.length
      omega
  · rintro ⟨h1, h2⟩
    obtain ⟨f, h3, e, h4, h5, h6⟩ := ch_append.mp h2
    have e1 : g.length = e + z.length := h6
    have e2 : e = g.length - z.length := by omega
    rw [← e2]
    have := ch_le h3
    exact ⟨h1, by omega, h5, by omega, f, ch_hi h4 h3⟩

theorem split_ne (x y : Str) : Txt.split x y ≠ [] := by
  unfold Txt.split
  split
  · simp
  · split
    · simp
    · rw [StrLaws.partsBetween_eq]
      obtain ⟨p, r, e⟩ := StrLaws.partsFrom_ne x y.length 0 (occurrences x y 0 x.length (x.length + 1))
      rw [e]; simp
theorem split_not (x y : Str) (h : Txt.contains x y = false) : Txt.split x y = [x] := by
  have hn : ∀ i, ¬ At x y x.length i := by
    intro i hi
    have := (StrLaws.found_iff x y).mpr ⟨i, hi⟩
    unfold Txt.contains at h
    rw [h] at this; cases this
  unfold Txt.split
  split
  · rfl
  · rcases StrLaws.occ_head x y (x.length + 1) (by omega) with ⟨h1, _⟩ | ⟨i, r, _, h2, _⟩
    · rw [h1]; rfl
    · exact absurd h2 (hn i)
theorem split_two (x : Str) (h : Txt.contains x dots = true) : 2 ≤ (Txt.split x dots).length := by
  obtain ⟨i, h1, h2⟩ := (StrLaws.found_iff x dots).mp h
  unfold Txt.split
  have hk : Builtin.Str.strKind dots = 1 := by decide +kernel
  have hk2 : 1 ≤ Builtin.Str.strKind x := by unfold Builtin.Str.strKind; split <;> (try split) <;> omega
  rw [if_neg (by rw [hk]; simp; omega)]
  rcases StrLaws.occ_head x dots (x.length + 1) (by omega) with ⟨_, h3⟩ | ⟨i, r, h3, _⟩
  · exact absurd ⟨h1, h2⟩ (h3 i)
  · rw [h3, if_neg (by simp), length_partsBetween]
    simp
theorem ellip_fits (w g : Str) : ellip w g = lawFits (Txt.split w dots) g := by
  unfold ellip
  by_cases h : Txt.contains w dots = true
  · rw [if_pos h]
    have h2 := split_two w h
    generalize Txt.split w dots = l at h2
    match l, h2 with
    | p :: q :: r, _ =>
      obtain ⟨ws, z, e⟩ : ∃ ws z, q :: r = ws ++ [z] := ⟨(q :: r).dropLast, (q :: r).getLast (by simp), (List.dropLast_concat_getLast (by simp)).symm⟩
      rw [e]
      exact two_fits
  · rw [if_neg h, split_not w dots (by simpa using h), Bool.eq_iff_iff, lawFits_iff, beq_iff_eq]
    constructor
    · rintro rfl
      refine ⟨⟨by omega, ?_⟩, rfl⟩
      rw [StrLaws.subAt_eq, List.drop_zero, List.take_of_length_le (by simp [Str.length])]
      simp
    · rintro ⟨⟨h1, h2⟩, h3⟩
      have e : g.length = w.length := h3
      rw [StrLaws.subAt_eq, List.drop_zero, List.take_of_length_le (by simp [Str.length] at e ⊢; omega), beq_iff_eq] at h2
      exact Str.ext' (Array.toList_inj.mp h2.symm)
end Xb4

namespace Xb4
open StrLaws (At)
/-! ## the exception's name: splits by one sign -/
abbrev cut (c : Nat) (l : List Nat) : List Nat := l.takeWhile (· != c)
def aft (c : Nat) (l : List Nat) : List Nat := (cut c l.reverse).reverse

theorem cut_free {c : Nat} : ∀ {l : List Nat}, c ∉ l → cut c l = l
  | [], _ => rfl
  | k :: l, h => by
    have h1 : (k != c) = true := by
      rw [bne_iff_ne]
      rintro rfl
      exact h (.head _)
    show (k :: l).takeWhile (· != c) = k :: l
    rw [List.takeWhile_cons, h1, if_pos rfl, show l.takeWhile (· != c) = l from cut_free fun m => h (.tail _ m)]
theorem cut_at {c : Nat} {m : List Nat} : ∀ {l : List Nat}, cut c (l ++ c :: m) = cut c l
  | [] => by simp
  | k :: l => by
    show ((k :: l) ++ c :: m).takeWhile (· != c) = (k :: l).takeWhile (· != c)
    rw [List.cons_append, List.takeWhile_cons, List.takeWhile_cons, show (l ++ c :: m).takeWhile (· != c) = l.takeWhile (· != c) from cut_at]
theorem aft_free {c : Nat} {l : List Nat} (h : c ∉ l) : aft c l = l := by
  unfold aft
  rw [cut_free (by simpa using h), List.reverse_reverse]
theorem aft_at {c : Nat} {a b : List Nat} : aft c (a ++ c :: b) = aft c b := by
  unfold aft
  rw [List.reverse_append, List.reverse_cons, List.append_assoc, List.singleton_append, cut_at]

theorem join_list (c : Nat) : ∀ (ps : List Str), ps ≠ [] → (∀ p ∈ ps, c ∉ p.cps.toList) →
    cut c (Str.join ⟨#[c]⟩ ps).cps.toList = (ps.headD Str.empty).cps.toList ∧ aft c (Str.join ⟨#[c]⟩ ps).cps.toList = (ps.getLastD Str.empty).cps.toList
  | [], h, _ => absurd rfl h
  | [p], _, h => ⟨cut_free (h p (.head _)), aft_free (h p (.head _))⟩
  | p :: q :: r, _, h => by
    have ih := join_list c (q :: r) (by simp) fun x hx => h x (.tail _ hx)
    have e : (Str.join ⟨#[c]⟩ (p :: q :: r)).cps.toList = p.cps.toList ++ c :: (Str.join ⟨#[c]⟩ (q :: r)).cps.toList := by
      show ((p ++ ⟨#[c]⟩ ++ Str.join ⟨#[c]⟩ (q :: r)).cps).toList = _
      simp only [Str.cps_append, Array.toList_append, List.append_assoc, List.singleton_append]
    rw [e, cut_at, aft_at, ih.2]
    exact ⟨cut_free (h p (.head _)), by simp⟩
theorem split_head (x : Str) (c : Nat) : ((Txt.split x ⟨#[c]⟩).headD Str.empty).cps.toList = cut c x.cps.toList := by
  have h := (join_list c (Txt.split x ⟨#[c]⟩) (split_ne _ _) (StrLaws.split_free x c)).1
  rw [StrLaws.join_split] at h
  exact h.symm
theorem split_last (x : Str) (c : Nat) : ((Txt.split x ⟨#[c]⟩).getLastD Str.empty).cps.toList = aft c x.cps.toList := by
  have h := (join_list c (Txt.split x ⟨#[c]⟩) (split_ne _ _) (StrLaws.split_free x c)).2
  rw [StrLaws.join_split] at h
  exact h.symm

theorem at_one {x : Str} {c hi i : Nat} (hh : hi ≤ x.length) : At x ⟨#[c]⟩ hi i ↔ (x.cps.toList.take hi)[i]? = some c := by
  have h1 := StrLaws.subAt_one x c i
  have hl : (⟨#[c]⟩ : Str).length = 1 := rfl
  rw [hl] at h1
  unfold At
  rw [hl]
  constructor
  · rintro ⟨a, b⟩
    rw [List.getElem?_take_of_lt (by omega)]
    exact h1.mp ⟨by omega, b⟩
  · intro h
    have hlt : i < (x.cps.toList.take hi).length := (List.getElem?_eq_some_iff.mp h).1
    rw [List.length_take] at hlt
    rw [List.getElem?_take_of_lt (by omega)] at h
    exact ⟨by omega, (h1.mpr h).2⟩

theorem cut_first {c i : Nat} {M : List Nat} (h1 : M[i]? = some c) (h2 : ∀ k, k < i → ¬ M[k]? = some c) : cut c M = M.take i := by
  obtain ⟨hi, h3⟩ := List.getElem?_eq_some_iff.mp h1
  have e : M = M.take i ++ c :: M.drop (i + 1) := by
    rw [← h3, List.getElem_cons_drop, List.take_append_drop]
  have hf : c ∉ M.take i := by
    intro hm
    obtain ⟨k, hk⟩ := List.getElem?_of_mem hm
    have hlt := (List.getElem?_eq_some_iff.mp hk).1
    rw [List.length_take] at hlt
    rw [List.getElem?_take_of_lt (by omega)] at hk
    exact h2 k (by omega) hk
  conv => lhs; rw [e]
  rw [cut_at, cut_free hf]
theorem aft_last {c i : Nat} {M : List Nat} (h1 : M[i]? = some c) (h2 : ∀ k, i < k → ¬ M[k]? = some c) : aft c M = M.drop (i + 1) := by
  obtain ⟨hi, h3⟩ := List.getElem?_eq_some_iff.mp h1
  have e : M = M.take i ++ c :: M.drop (i + 1) := by
    rw [← h3, List.getElem_cons_drop, List.take_append_drop]
  have hf : c ∉ M.drop (i + 1) := by
    intro hm
    obtain ⟨k, hk⟩ := List.getElem?_of_mem hm
    rw [List.getElem?_drop] at hk
    exact h2 _ (by omega) hk
  conv => lhs; rw [e]
  rw [aft_at, aft_free hf]
theorem not_mem_of {c : Nat} {M : List Nat} (h : ∀ k : Nat, ¬ M[k]? = some c) : c ∉ M := by
  intro hm
  obtain ⟨k, hk⟩ := List.getElem?_of_mem hm
  exact h k hk

theorem first_cut (x : Str) (c hi : Nat) (hh : hi ≤ x.length) : ∃ e : Nat, e ≤ hi ∧ cut c (x.cps.toList.take hi) = x.cps.toList.take e ∧
    ∀ v : Int, v = (match occurrences x ⟨#[c]⟩ 0 hi 1 with | k :: _ => (k : Int) | [] => -1) → (if 0 ≤ v then v else (hi : Int)) = (e : Int) := by
  rcases occ_hi x ⟨#[c]⟩ 0 hi with ⟨h1, h2⟩ | ⟨i, r, h1, _, h3, h4⟩
  · refine ⟨hi, Nat.le_refl _, ?_, ?_⟩
    · exact cut_free (not_mem_of fun k hk => h2 k (Nat.zero_le _) ((at_one hh).mpr hk))
    · intro v hv
      rw [h1] at hv
      subst hv
      rfl
  · have hle := h3.1
    refine ⟨i, by omega, ?_, ?_⟩
    · rw [cut_first ((at_one hh).mp h3) fun k hk h => h4 k (Nat.zero_le _) hk ((at_one hh).mpr h), List.take_take]
      congr 1
      omega
    · intro v hv
      rw [h1] at hv
      subst hv
      show (if 0 ≤ ((i : Nat) : Int) then ((i : Nat) : Int) else _) = _
      rw [if_pos (by omega)]

theorem last_hi (x y : Str) (hi : Nat) : (lastOccurrence x y 0 hi = none ∧ ∀ i, ¬ At x y hi i) ∨ ∃ i, lastOccurrence x y 0 hi = some i ∧ At x y hi i ∧ ∀ k, i < k → ¬ At x y hi k := by
  rw [StrLaws.last_eq]
  have key := StrLaws.last_run x y hi (List.range' 0 (hi + 1 - 0)) [] none (fun _ h => nomatch h) (fun _ h => nomatch h) (by simpa using List.pairwise_lt_range' (s := 0) (n := hi + 1 - 0))
  have mem : ∀ i, At x y hi i → i ∈ [] ++ List.range' 0 (hi + 1 - 0) := fun i h => by have := h.1; rw [List.nil_append, List.mem_range'_1]; omega
  cases hr : (forIn (List.range' 0 (hi + 1 - 0)) none (StrLaws.lastBody x y hi)).run with
  | none => rw [hr] at key; exact .inl ⟨rfl, fun i h => key i (mem i h) h⟩
  | some a => rw [hr] at key; exact .inr ⟨a, rfl, key.1, fun k hk hA => key.2 k (mem k hA) hk hA⟩

theorem last_aft (x : Str) (c hi : Nat) (hh : hi ≤ x.length) : ∃ e : Nat, e ≤ hi ∧ aft c (x.cps.toList.take hi) = (x.cps.toList.take hi).drop e ∧
    ∀ v : Int, v = (match lastOccurrence x ⟨#[c]⟩ 0 hi with | some k => (k : Int) | none => -1) → (if 0 ≤ v then v + 1 else 0) = (e : Int) := by
  rcases last_hi x ⟨#[c]⟩ hi with ⟨h1, h2⟩ | ⟨i, h1, h3, h4⟩
  · refine ⟨0, Nat.zero_le _, ?_, ?_⟩
    · exact aft_free (not_mem_of fun k hk => h2 k ((at_one hh).mpr hk))
    · intro v hv
      rw [h1] at hv
      subst hv
      rfl
  · have hle : i + 1 ≤ hi := h3.1
    refine ⟨i + 1, hle, aft_last ((at_one hh).mp h3) fun k hk h => h4 k hk ((at_one hh).mpr h), ?_⟩
    intro v hv
    rw [h1] at hv
    subst hv
    show (if 0 ≤ ((i : Nat) : Int) then ((i : Nat) : Int) + 1 else _) = _
    rw [if_pos (by omega)]
    omega

theorem from_zero (n : Nat) : fromIndex n 0 = 0 := by simp [fromIndex]
theorem min_from (n e : Nat) (h : e ≤ n) : min (fromIndex n (e : Int)) n = e := by
  unfold fromIndex
  rw [if_neg (by omega)]
  omega

def lawName (rows : Str) : List Str := Txt.split ((Txt.split ((Txt.split rows (Str.ofString "\n")).headD Str.empty) (Str.ofString ":")).headD Str.empty) (Str.ofString ".")
theorem strip_law (rows : Str) : stripExc rows = (lawName rows).getLastD Str.empty := by
  have n1 : Str.ofString "\n" = ⟨#[10]⟩ := by decide
  have n2 : Str.ofString ":" = ⟨#[58]⟩ := by decide
  have n3 : Str.ofString "." = ⟨#[46]⟩ := by decide
  have hN : rows.cps.toList.take rows.length = rows.cps.toList := List.take_of_length_le (by simp [Str.length])
  obtain ⟨e1, a1, b1, c1⟩ := first_cut rows 10 rows.length (Nat.le_refl _)
  rw [hN] at b1
  obtain ⟨e2, a2, b2, c2⟩ := first_cut rows 58 e1 a1
  obtain ⟨st, a3, b3, c3⟩ := last_aft rows 46 e2 (by omega)
  have f1 : seE1 rows = (e1 : Int) := by
    unfold seE1
    exact c1 _ (by unfold Txt.find; rw [n1]; first | done | rfl)
  have f2 : seE2 rows = (e2 : Int) := by
    unfold seE2
    rw [f1]
    exact c2 _ (by unfold find4; rw [n2, from_zero, min_from _ _ a1]; first | done | rfl)
  have f3 : seSt rows = (st : Int) := by
    unfold seSt
    rw [f2]
    exact c3 _ (by unfold rfind4; rw [n3, from_zero, min_from _ _ (by omega)]; first | done | rfl)
  apply Str.ext'
  apply Array.toList_inj.mp
  unfold lawName stripExc
  rw [n1, n2, n3, split_last, split_head, split_head, b1, b2, b3, f2, f3]
  have h1 : Txt.slice rows (some (st : Int)) (some (e2 : Int)) = _ := StrLaws.sliceText_nat rows a3 (by omega)
  rw [h1]
  simp [List.drop_take]
end Xb4

namespace Xb4
def signs6 : List Str := [Str.ofString "a", Str.ofString " ", Str.ofString ".", Str.ofString ":", Str.ofString "\t", Str.ofString "\n"]
def fR (n : Int) : Str := signs6.getD (n.fmod 6).toNat Str.empty
def rowsOf (ns : List Int) : Str := Txt.join (Str.ofString "") (ns.map fR)
def lawComment (row : Str) : Str := if (Txt.stripChars row (Str.ofString " \t")).length = 0 then Str.ofString "#" else Str.ofString "# " ++ Txt.rstripChars row (Str.ofString " \t")
/-! ## comments -/
theorem takeWhile_congr {f g : Nat → Bool} : ∀ {l : List Nat}, (∀ c ∈ l, f c = g c) → l.takeWhile f = l.takeWhile g
  | [], _ => rfl
  | k :: l, h => by
    rw [List.takeWhile_cons, List.takeWhile_cons, h k (.head _), takeWhile_congr fun c hc => h c (.tail _ hc)]
theorem rstrip_congr {f g : Nat → Bool} {x : Str} (h : ∀ c ∈ x.cps.toList, f c = g c) : Txt.stripBy f false true x = Txt.stripBy g false true x := by
  rw [PyProof.Rows.stripBy_eq, PyProof.Rows.stripBy_eq]
  have e : stripHi f true x (stripLo f false x) = stripHi g true x (stripLo g false x) := by
    unfold stripHi stripLo
    simp only [Bool.false_eq_true, if_false, if_true, List.drop_zero]
    rw [takeWhile_congr fun c hc => h c (by simpa using hc)]
  rw [e]
  rfl
theorem getD_mem_cps {x : Str} {k : Nat} (h : k < x.length) : x.cps.getD k 0 ∈ x.cps.toList := by
  have h2 : k < x.cps.size := h
  simp [Array.getD, h2]
theorem rstrip_zero (f : Nat → Bool) (x : Str) : (Txt.stripBy f false true x).length = 0 ↔ ∀ k, k < x.length → f (x.cps.getD k 0) = true := by
  obtain ⟨_, h0, h1, h2⟩ := PyProof.Rows.hi_facts f x 0 (Nat.zero_le _)
  rw [PyProof.Rows.stripBy_eq, show stripLo f false x = 0 from rfl, StrLaws.sub_len _ _ _ h0, Nat.sub_zero]
  constructor
  · intro h k hk
    exact h1 k (by omega) hk
  · intro h
    rcases h2 with h2 | h2
    · exact h2
    · by_cases hz : stripHi f true x 0 = 0
      · exact hz
      · rw [h _ (by omega)] at h2; cases h2
theorem strip_zero (f : Nat → Bool) (x : Str) : (Txt.stripBy f true true x).length = 0 ↔ ∀ k, k < x.length → f (x.cps.getD k 0) = true := by
  obtain ⟨a0, a1, a2⟩ := PyProof.Rows.lo_facts f x
  obtain ⟨b0, b1, b2, b3⟩ := PyProof.Rows.hi_facts f x _ a0
  rw [PyProof.Rows.stripBy_eq, StrLaws.sub_len _ _ _ b1]
  constructor
  · intro h k hk
    have e : stripHi f true x (stripLo f true x) = stripLo f true x := by omega
    by_cases hl : k < stripLo f true x
    · exact a1 k hl
    · exact b2 k (by omega) hk
  · intro h
    rcases a2 with a2 | a2
    · omega
    · by_cases hl : stripLo f true x = x.length
      · omega
      · rw [h _ (by omega)] at a2; cases a2

theorem comment_of {x : Str} (h : ∀ c ∈ x.cps.toList, Unicode.isSpace c = (Str.ofString " \t").cps.contains c) : commentLine x = lawComment x := by
  have e1 : Txt.rstrip x = Txt.rstripChars x (Str.ofString " \t") := rstrip_congr h
  have e2 : ((Txt.rstrip x).length = 0) = ((Txt.stripChars x (Str.ofString " \t")).length = 0) := by
    apply propext
    rw [e1]
    exact (rstrip_zero _ x).trans (strip_zero _ x).symm
  rw [e1] at e2
  unfold commentLine lawComment
  simp only [e1, e2]

theorem split_mem {x y p : Str} (h : p ∈ Txt.split x y) : ∀ c ∈ p.cps.toList, c ∈ x.cps.toList := by
  unfold Txt.split at h
  split at h
  · rw [List.mem_singleton.mp h]; exact fun c hc => hc
  · split at h
    · rw [List.mem_singleton.mp h]; exact fun c hc => hc
    · unfold partsBetween at h
      rw [List.mem_map] at h
      obtain ⟨⟨i, j⟩, _, rfl⟩ := h
      intro c hc
      rw [StrLaws.strSub_toList] at hc
      exact List.mem_of_mem_drop (List.mem_of_mem_take hc)
theorem join_mem {sep : Str} {S : List Nat} (hs : ∀ c ∈ sep.cps.toList, c ∈ S) : ∀ {ys : List Str}, (∀ y ∈ ys, ∀ c ∈ y.cps.toList, c ∈ S) → ∀ c ∈ (Str.join sep ys).cps.toList, c ∈ S
  | [], _, c, hc => by simp [Str.join, Str.empty] at hc
  | [y], h, c, hc => h y (.head _) c hc
  | y :: z :: r, h, c, hc => by
    have e : (Str.join sep (y :: z :: r)).cps.toList = y.cps.toList ++ sep.cps.toList ++ (Str.join sep (z :: r)).cps.toList := by
      show ((y ++ sep ++ Str.join sep (z :: r)).cps).toList = _
      simp only [Str.cps_append, Array.toList_append]
    rw [e, List.mem_append, List.mem_append] at hc
    rcases hc with (hc | hc) | hc
    · exact h y (.head _) c hc
    · exact hs c hc
    · exact join_mem hs (fun x hx => h x (.tail _ hx)) c hc
theorem fR_mem (n : Int) : ∀ c ∈ (fR n).cps.toList, c ∈ [97, 32, 46, 58, 9, 10] := by
  unfold fR
  generalize (n.fmod 6).toNat = k
  match k with
  | 0 => decide
  | 1 => decide
  | 2 => decide
  | 3 => decide
  | 4 => decide
  | 5 => decide
  | k + 6 => intro c hc; cases hc
theorem comment_law (ns : List Int) : ∀ row ∈ Txt.split (rowsOf ns) (Str.ofString "\n"), commentLine row = lawComment row := by
  intro row hrow
  rw [show Str.ofString "\n" = ⟨#[10]⟩ from by decide] at hrow
  refine comment_of fun c hc => ?_
  have h1 : c ∈ [97, 32, 46, 58, 9, 10] := by
    have h2 := split_mem hrow c hc
    unfold rowsOf at h2
    rw [show Txt.join (Str.ofString "") (ns.map fR) = Str.join (Str.ofString "") (ns.map fR) from StrLaws.glued_eq_join _ _] at h2
    refine join_mem (by decide) ?_ c h2
    simp only [List.mem_map]
    rintro y ⟨n, _, rfl⟩
    exact fR_mem n
  have h2 : c ≠ 10 := by
    rintro rfl
    exact StrLaws.split_free _ 10 row hrow hc
  simp only [List.mem_cons, List.not_mem_nil, or_false] at h1
  rcases h1 with rfl | rfl | rfl | rfl | rfl | rfl
  · decide +kernel
  · decide +kernel
  · decide +kernel
  · decide +kernel
  · decide +kernel
  · exact absurd rfl h2
end Xb4

namespace Xb4
def padRow (n : Int) (row : Str) : Str := if row.length = 0 then row else blanks n ++ row
def padded (rows : Str) (n : Int) : Str := Txt.join (Str.ofString "\n") ((Txt.split rows (Str.ofString "\n")).map (padRow n))
/-! ## the indent -/
/-- the pad ahead of every row that is not empty -/
def ind (pad : List Nat) : Bool → List Nat → List Nat
  | _, [] => []
  | bol, c :: l => (if (bol && c != 10) = true then pad else []) ++ c :: ind pad (c == 10) l

theorem drop_cons {x : Array Nat} {s : Nat} (h : s < x.size) : x.toList.drop s = x.getD s 0 :: x.toList.drop (s + 1) := by
  have h2 : s < x.toList.length := by simpa using h
  rw [List.drop_eq_getElem_cons h2]
  simp [Array.getD, h]

theorem nextPos_ind (x : Array Nat) (pad : List Nat) : ∀ (f s : Nat) (must : Bool), s ≤ x.size → x.size - s < f →
    match nextPos x f s must with
    | some p => ind pad (opens x s && !must) (x.toList.drop s) = (x.toList.drop s).take (p - s) ++ (pad ++ ind pad false (x.toList.drop p))
    | none => ind pad (opens x s && !must) (x.toList.drop s) = x.toList.drop s
  | 0, s, must, _, h => absurd h (Nat.not_lt_zero _)
  | f + 1, s, must, hs, h => by
    rw [nextPos]
    by_cases hb : (opens x s && !closes x s && !must) = true
    · rw [if_pos hb]
      simp only [Bool.and_eq_true, Bool.not_eq_true'] at hb
      obtain ⟨⟨ho, hc⟩, hm⟩ := hb
      unfold closes at hc
      rw [Bool.or_eq_false_iff, beq_eq_false_iff_ne, beq_eq_false_iff_ne] at hc
      have hlt : s < x.size := by omega
      have hc2 : (x.getD s 0 != 10) = true := by rw [bne_iff_ne]; exact hc.2
      show ind pad (opens x s && !must) (x.toList.drop s) = (x.toList.drop s).take (s - s) ++ (pad ++ ind pad false (x.toList.drop s))
      rw [drop_cons hlt, ho, hm, ind, ind, hc2]
      simp
    · rw [if_neg hb]
      by_cases hlt : s < x.size
      · rw [if_pos hlt]
        have hcond : ((opens x s && !must) && (x.getD s 0 != 10)) = false := by
          rw [Bool.eq_false_iff]
          intro h1
          apply hb
          simp only [Bool.and_eq_true, Bool.not_eq_true', bne_iff_ne] at h1 ⊢
          refine ⟨⟨h1.1.1, ?_⟩, h1.1.2⟩
          unfold closes
          rw [Bool.or_eq_false_iff, beq_eq_false_iff_ne, beq_eq_false_iff_ne]
          exact ⟨by omega, h1.2⟩
        have ho : opens x (s + 1) = (x.getD s 0 == 10) := by
          unfold opens
          simp
        have ih := nextPos_ind x pad f (s + 1) false (by omega) (by omega)
        rw [ho, Bool.not_false, Bool.and_true] at ih
        have e : ind pad (opens x s && !must) (x.toList.drop s) = x.getD s 0 :: ind pad (x.getD s 0 == 10) (x.toList.drop (s + 1)) := by
          rw [drop_cons hlt, ind, hcond]
          simp
        cases hn : nextPos x f (s + 1) false with
        | none =>
          rw [hn] at ih
          show ind pad (opens x s && !must) (x.toList.drop s) = x.toList.drop s
          rw [e, show ind pad (x.getD s 0 == 10) (x.toList.drop (s + 1)) = _ from ih, ← drop_cons hlt]
        | some p =>
          rw [hn] at ih
          have hp := (nextPos_spec x f (s + 1) false p (by omega) hn).1
          show ind pad (opens x s && !must) (x.toList.drop s) = (x.toList.drop s).take (p - s) ++ (pad ++ ind pad false (x.toList.drop p))
          rw [e, show ind pad (x.getD s 0 == 10) (x.toList.drop (s + 1)) = _ from ih, drop_cons hlt]
          have e2 : p - s = (p - (s + 1)) + 1 := by omega
          rw [e2, List.take_succ_cons, List.cons_append]
      · rw [if_neg hlt]
        have e : x.toList.drop s = [] := List.drop_eq_nil_of_le (by simp; omega)
        show ind pad (opens x s && !must) (x.toList.drop s) = x.toList.drop s
        rw [e]; rfl

theorem join_flat : ∀ ys : List Str, (Str.join ⟨#[]⟩ ys).cps.toList = ys.flatMap fun y => y.cps.toList
  | [] => rfl
  | [y] => by simp [Str.join]
  | y :: z :: r => by
    have e : (Str.join ⟨#[]⟩ (y :: z :: r)).cps.toList = y.cps.toList ++ (Str.join ⟨#[]⟩ (z :: r)).cps.toList := by
      show ((y ++ ⟨#[]⟩ ++ Str.join ⟨#[]⟩ (z :: r)).cps).toList = _
      simp only [Str.cps_append, Array.toList_append, List.append_nil]
    rw [e, join_flat (z :: r)]
    simp

theorem extract_list (x : Array Nat) (i j : Nat) : (x.extract i j).toList = (x.toList.drop i).take (j - i) := by simp

theorem pieces_ind (x : Array Nat) (pad : Str) : ∀ (f s : Nat) (must : Bool), s ≤ x.size → x.size + 1 - s + (if must then 0 else 1) ≤ f →
    (subPieces x pad f s must).flatMap (fun y => y.cps.toList) = ind pad.cps.toList (opens x s && !must) (x.toList.drop s)
  | 0, s, must, hs, h => by omega
  | f + 1, s, must, hs, h => by
    rw [subPieces]
    have key := nextPos_ind x pad.cps.toList (x.size + 1 - s) s must hs (by omega)
    cases hn : nextPos x (x.size + 1 - s) s must with
    | none =>
      rw [hn] at key
      rw [show ind pad.cps.toList (opens x s && !must) (x.toList.drop s) = _ from key]
      show ((if s < x.size then [(⟨x.extract s x.size⟩ : Str)] else []).flatMap fun y => y.cps.toList) = _
      by_cases hlt : s < x.size
      · rw [if_pos hlt]
        simp only [List.flatMap_cons, List.flatMap_nil, List.append_nil, extract_list]
        rw [List.take_of_length_le (by simp)]
      · rw [if_neg hlt, List.drop_eq_nil_of_le (by simp; omega)]
        rfl
    | some p =>
      rw [hn] at key
      obtain ⟨h1, h2, h3⟩ := nextPos_spec x _ s must p hs hn
      rw [show ind pad.cps.toList (opens x s && !must) (x.toList.drop s) = _ from key]
      have ih := pieces_ind x pad f p true (by omega) (by
        simp only [if_true]
        cases must with
        | true => have := h2 rfl; simp at h; omega
        | false => simp at h; omega)
      rw [Bool.not_true, Bool.and_false] at ih
      show (((if s < p then [(⟨x.extract s p⟩ : Str)] else []) ++ [pad] ++ subPieces x pad f p true).flatMap fun y => y.cps.toList) = _
      rw [List.flatMap_append, List.flatMap_append, ih]
      by_cases hlt : s < p
      · rw [if_pos hlt]
        simp [List.flatMap_cons, extract_list]
      · have e : p = s := by omega
        rw [if_neg hlt, e, Nat.sub_self]
        simp

theorem ind_free {pad : List Nat} : ∀ {l : List Nat}, 10 ∉ l → ind pad false l = l
  | [], _ => rfl
  | c :: l, h => by
    have hc : (c == 10) = false := by
      rw [beq_eq_false_iff_ne]
      rintro rfl
      exact h (.head _)
    rw [ind, hc, ind_free fun m => h (.tail _ m)]
    simp
theorem ind_free_at {pad m : List Nat} : ∀ {l : List Nat}, 10 ∉ l → ind pad false (l ++ 10 :: m) = l ++ 10 :: ind pad true m
  | [], _ => by
    rw [List.nil_append, ind]
    simp
  | c :: l, h => by
    have hc : (c == 10) = false := by
      rw [beq_eq_false_iff_ne]
      rintro rfl
      exact h (.head _)
    rw [List.cons_append, ind, hc, ind_free_at fun m => h (.tail _ m)]
    simp
theorem ind_row {n : Int} {p : Str} (h : 10 ∉ p.cps.toList) : ind (blanks n).cps.toList true p.cps.toList = (padRow n p).cps.toList ∧ ∀ m, ind (blanks n).cps.toList true (p.cps.toList ++ 10 :: m) = (padRow n p).cps.toList ++ 10 :: ind (blanks n).cps.toList true m := by
  have hl : p.length = p.cps.toList.length := by simp [Str.length]
  unfold padRow
  cases hp : p.cps.toList with
  | nil =>
    rw [hp] at hl
    rw [if_pos (by simpa using hl), hp]
    refine ⟨rfl, fun m => ?_⟩
    rw [List.nil_append, ind]
    simp
  | cons c l =>
    rw [hp] at hl h
    have hc : (c == 10) = false := by
      rw [beq_eq_false_iff_ne]
      rintro rfl
      exact h (.head _)
    have hc2 : (c != 10) = true := by rw [bne, hc]; rfl
    have hf : 10 ∉ l := fun m => h (.tail _ m)
    rw [if_neg (by simp at hl; omega), Str.cps_append, Array.toList_append, hp]
    refine ⟨?_, fun m => ?_⟩
    · rw [ind, hc, hc2, ind_free hf]
      simp
    · rw [List.cons_append, ind, hc, hc2, ind_free_at hf]
      simp
theorem ind_join {n : Int} : ∀ (ps : List Str), (∀ p ∈ ps, 10 ∉ p.cps.toList) → ind (blanks n).cps.toList true (Str.join ⟨#[10]⟩ ps).cps.toList = (Str.join ⟨#[10]⟩ (ps.map (padRow n))).cps.toList
  | [], _ => rfl
  | [p], h => (ind_row (h p (.head _))).1
  | p :: q :: r, h => by
    have ih := ind_join (n := n) (q :: r) fun x hx => h x (.tail _ hx)
    have e : ∀ (a b : Str) (l : List Str), (Str.join ⟨#[10]⟩ (a :: b :: l)).cps.toList = a.cps.toList ++ 10 :: (Str.join ⟨#[10]⟩ (b :: l)).cps.toList := by
      intro a b l
      show ((a ++ ⟨#[10]⟩ ++ Str.join ⟨#[10]⟩ (b :: l)).cps).toList = _
      simp only [Str.cps_append, Array.toList_append, List.append_assoc, List.singleton_append]
    rw [e, (ind_row (h p (.head _))).2, ih]
    exact (e _ _ _).symm

theorem indent_padded (rows : Str) (n : Int) : indent rows n = padded rows n := by
  apply Str.ext'
  apply Array.toList_inj.mp
  unfold indent subText padded
  rw [show Str.ofString "\n" = ⟨#[10]⟩ from by decide]
  rw [show Txt.join ⟨#[]⟩ (subPieces rows.cps (blanks n) (rows.length + 2) 0 false) = Str.join ⟨#[]⟩ _ from StrLaws.glued_eq_join _ _, join_flat]
  rw [show Txt.join ⟨#[10]⟩ ((Txt.split rows ⟨#[10]⟩).map (padRow n)) = Str.join ⟨#[10]⟩ _ from StrLaws.glued_eq_join _ _]
  rw [pieces_ind rows.cps (blanks n) _ 0 false (Nat.zero_le _) (by simp [Str.length]), ← ind_join _ (StrLaws.split_free rows 10), StrLaws.join_split]
  rfl
end Xb4

namespace Xb4
local macro_rules | `(tactic| walk_at "lk") => `(tactic| first | assumption | exact lk_hit | (refine lk_miss (by simp [ofString_inj]) ?_; walk_at "lk"))
section
variable {prog : Program} {w : World} {A : Around} {E : Value → Shared → Prop} {s : Shared} {mg mb m : Str → Option Value} {env : Env} {h₀ : Heap}
/-! ## the law -/
theorem conT {x : Str} {k : Nat} {pos : Pos} {Q : Value → Shared → Prop} (h : ∀ s' (t : Nat), Same s s' → Ext s.heap s'.heap → t = s.toks → s.toks < s'.toks → Q (.str x t) s') : wpAny (model prog w) A (eval (.Constant (.str x) k pos) env) Q E s :=
  conS (h _ _ ⟨rfl, rfl, rfl⟩ (Ext.refl _) rfl (Nat.lt_succ_self _))
theorem intT {x : Int} {k : Nat} {pos : Pos} {Q : Value → Shared → Prop} (h : ∀ s' t, Same s s' → Ext s.heap s'.heap → Q (.int x t) s') : wpAny (model prog w) A (eval (.Constant (.int x) k pos) env) Q E s :=
  wpAny_Constant_int (h _ _ ⟨rfl, rfl, rfl⟩ (Ext.refl _))
theorem nsK {h h' : Heap} {L : Addr} {m : Str → Option Value} (n : h.Ns L m) (k : Ext h h') : h'.Ns L m := n.keeps k
theorem listK {h h' : Heap} {D : Addr} {xs : Array Value} (n : h.IsList D xs) (k : Ext h h') : h'.IsList D xs := let ⟨o, ho, r⟩ := n; ⟨o, k _ _ ho, r⟩
theorem plain1 {pos : Pos} {e : Expr} (he : starEach [e] env = [(false, eval e env)] := by rfl) : (backTo pos (starEach [e] env)).any (·.1) = false := by rw [he]; rfl
theorem paired_strs {g : Value → Str} : ∀ {vs ys : List Value}, Paired (fun v y => ∃ t, y = Value.str (g v) t) vs ys → ∃ l : List (Str × Tok), ys = strValues l ∧ l.map (·.1) = vs.map g
  | _, _, .nil => ⟨[], rfl, rfl⟩
  | _, _, .cons (b := b) ⟨t, e⟩ r => by
    obtain ⟨l, rfl, e2⟩ := paired_strs r
    exact ⟨(_, t) :: l, by rw [e]; rfl, by simp [e2]⟩

/-- a comprehension that gives texts -/
theorem comp_strs {elt iter : Expr} {x : Str} {px pos : Pos} {scope : Scope} {cl : List (Str × Addr)} {g : Value → Str} {Q : Value → Shared → Prop} (hh : A.handled = none) (hclos : closureFor scope env = pure cl)
    (h : wpAny (model prog w) A (eval iter env) (fun xv s₁ => ∃ (D : Addr) (us : List Value), xv = .ref D ∧ us.length ≤ 100000 ∧ s₁.heap.IsList D us.toArray ∧
      (∀ (cenv : Env) s3 m3 v E', v ∈ us → cenv.scope.kind = .function → cenv.kindOf x = some .local → cenv = compEnvC scope cl cenv.locals env → s3.heap.Ns cenv.locals m3 → m3 x = some v → Ext s₁.heap s3.heap → wpAny (model prog w) A (eval elt cenv) (fun y s4 => (∃ t, y = .str (g v) t) ∧ Same s3 s4 ∧ Ext s3.heap s4.heap) E' s3) ∧
      (∀ s' D' l, Same s₁ s' → Ext s₁.heap s'.heap → l.map (·.1) = us.map g → s'.heap.IsList D' (strValues l).toArray → Q (.ref D') s')) E s)
    (hcell : ∀ y ∈ scope.names, y.2 ≠ .cell := by decide) (hkind : scope.kind = .function := by rfl)
    (hnames : ∀ y ∈ scope.names, y.2 = .local → scope.names.lookup y.1 = some .local := by decide) (hx : scope.names.lookup x = some .local := by rfl)
    (hs : ∀ x, foldedSetIterable iter env x = pure x := by intro _; rfl) : wpAny (model prog w) A (eval (.ListComp elt [⟨.Name x px, iter, [], 0⟩] scope pos) env) Q E s := by
  have hz : sizeLine = 16777216 := PySem.sizeLine_eq
  refine wpAny_ListComp_free (fun _ => true) (fun v y => ∃ t, y = Value.str (g v) t) hclos hcell hkind hnames hx (wpAny_mono h ?_ fun _ _ e => e) hs
  rintro xv s₁ ⟨D, us, rfl, hlen, hl, he, hq⟩
  refine wpAny_pyIter_list hl ?_
  have hlt : ∀ b o, s₁.heap.get? b = some o → b ≠ s₁.heap.objs.size := fun b o e => Nat.ne_of_lt (Heap.lt_size e)
  obtain ⟨oD, hoD, hcD, nD, hdD⟩ := id hl
  have hk : ∀ h' : Heap, (∀ b o, b ∉ [s₁.heap.objs.size] → (s₁.heap.push ({ cls := .type "list_iterator", data := .fields #[.ref D, .int 0 0] } : Obj)).get? b = some o → h'.get? b = some o) → Ext s₁.heap h' :=
    fun h' k b o e => k b o (by simpa using hlt b o e) (Heap.get?_push_of_some _ e)
  refine ⟨s₁.heap.objs.size, [s₁.heap.objs.size, D], [s₁.heap.objs.size], us.length, fun i v => us.toArray[i]? = some v, fun i h => h.IsListIter s₁.heap.objs.size D i ∧ h.IsList D us.toArray, rfl, by simpa using Walks.list hh s₁.heap.objs.size D (hlt _ _ hoD) us.toArray, by omega, ⟨⟨_, get_push, rfl, rfl⟩, hl.push _⟩, ?_, ⟨?_, ?_⟩, ?_⟩
  · intro b hb
    rw [Heap.size_push]
    simp only [List.mem_cons, List.not_mem_nil, or_false] at hb
    rcases hb with rfl | rfl
    · exact Nat.lt_succ_self _
    · exact Nat.lt_succ_of_lt (Heap.lt_size hoD)
  · intro C i v s₃ m₃ E' _ _ _ _ _ _
    exact wpAny_pure ⟨rfl, (Same.refl _).keeps (Ext.refl _)⟩
  · intro C i v s₃ m₃ E' _ hp _ hn hm hk3 _
    refine wpAny_mono (he (compEnvC scope cl C env) s₃ m₃ v E' ?_ (by simp [compEnvC, relabel, hkind]) (lookup_relabel_local hx) rfl hn hm (hk _ hk3)) ?_ fun _ _ e => e
    · simp at hp
      exact List.mem_of_getElem? hp
    · rintro y s4 ⟨a, b, c⟩
      exact ⟨a, b.keeps c⟩
  · intro D' h' tk ys vs hD hl' _ hvl hP hpair hk'
    have hvs : vs = us := by
      refine List.ext_getElem? fun i => ?_
      rcases Nat.lt_or_ge i vs.length with hi | hi
      · have h1 := hP i vs[i] (List.getElem?_eq_getElem hi)
        simp at h1
        rw [List.getElem?_eq_getElem hi, h1]
      · rw [List.getElem?_eq_none hi, List.getElem?_eq_none (by omega)]
    subst hvs
    rw [List.filter_eq_self.mpr (by simp)] at hpair
    obtain ⟨l, e1, e2⟩ := paired_strs hpair
    have e3 : ys = (strValues l).toArray := by rw [← e1]
    rw [e3] at hl'
    exact hq _ D' l ⟨rfl, rfl, rfl⟩ (hk _ hk') e2 hl'

def gI (f : Int → Str) : Value → Str | .int n _ => f n | _ => Str.empty
def gS (f : Str → Str) : Value → Str | .str x _ => f x | _ => Str.empty
theorem gI_map (f : Int → Str) : ∀ {vs : List Value} {ns : List Int}, IntsAre vs ns → vs.map (gI f) = ns.map f
  | _, _, .nil => rfl
  | _, _, .cons n t h => by rw [List.map_cons, List.map_cons, gI_map f h]; rfl
theorem gS_map (f : Str → Str) (l : List (Str × Tok)) : (strValues l).map (gS f) = (l.map (·.1)).map f := by
  simp [strValues, gS]
theorem intsAre_mem {v : Value} : ∀ {vs : List Value} {ns : List Int}, IntsAre vs ns → v ∈ vs → ∃ n t, v = .int n t
  | _, _, .nil, h => by cases h
  | _, _, .cons n t h, hm => by
    rcases List.mem_cons.mp hm with rfl | hm
    · exact ⟨n, t, rfl⟩
    · exact intsAre_mem h hm
theorem strs_mem {v : Value} {l : List (Str × Tok)} (h : v ∈ strValues l) : ∃ y t, v = .str y t ∧ y ∈ l.map (·.1) := by
  simp only [strValues, List.mem_map] at h
  obtain ⟨p, hp, rfl⟩ := h
  exact ⟨p.1, p.2, rfl, List.mem_map_of_mem hp⟩

def signs5 : List Str := [Str.ofString "a", Str.ofString "b", Str.ofString "...", Str.ofString "...", Str.ofString "."]
def fW (n : Int) : Str := signs5.getD (n.fmod 5).toNat Str.empty
def fT (n : Int) : Str := if (n.fdiv 5).fmod 3 = 0 then Str.ofString "a" else if (n.fdiv 5).fmod 3 = 1 then Str.ofString "b" else Str.ofString "."
def wishOf (ns : List Int) : Str := Txt.join (Str.ofString "") ((ns.take 40).map fW)
def textOf (ns : List Int) : Str := Txt.join (Str.ofString "") ((ns.take 40).map fT)

theorem len_join_all {sep : Str} {B : Nat} : ∀ (ys : List Str), (∀ y ∈ ys, y.length ≤ B) → (Txt.join sep ys).length ≤ ys.length * (B + sep.length) := by
  intro ys h
  show (glued sep ys).length ≤ _
  rw [StrLaws.glued_eq_join]
  induction ys with
  | nil => exact Nat.zero_le _
  | cons y r ih =>
    have h1 := h y (.head _)
    have h2 := ih fun z hz => h z (.tail _ hz)
    cases r with
    | nil => simp only [Str.join, List.length_cons, List.length_nil]; omega
    | cons z r =>
      have e : (Str.join sep (y :: z :: r)).length = y.length + sep.length + (Str.join sep (z :: r)).length := by
        simp only [Str.join]
        rw [Str.length_append, Str.length_append]
      rw [e, List.length_cons, Nat.succ_mul]
      omega
theorem join_ok {sep : Str} {B : Nat} (ys : List Str) (h : ∀ y ∈ ys, y.length ≤ B) (h2 : ys.length * B + ys.length * sep.length ≤ 16777216) : JoinOk sep ys = true := by
  unfold JoinOk
  rw [StrLaws.joinFits h h2]
  rfl
theorem fW_len (n : Int) : (fW n).length ≤ 3 := by
  unfold fW
  generalize (n.fmod 5).toNat = k
  match k with
  | 0 => decide
  | 1 => decide
  | 2 => decide
  | 3 => decide
  | 4 => decide
  | k + 5 => exact Nat.zero_le _
theorem fT_len (n : Int) : (fT n).length ≤ 1 := by
  unfold fT
  split
  · decide
  · split <;> decide
theorem wish_len (ns : List Int) : (wishOf ns).length ≤ 120 := by
  have := len_join_all (sep := Str.ofString "") (B := 3) ((ns.take 40).map fW) (by simp only [List.mem_map]; rintro y ⟨n, _, rfl⟩; exact fW_len n)
  have e : (Str.ofString "").length = 0 := by decide
  rw [e, List.length_map, List.length_take] at this
  unfold wishOf
  omega
theorem text_len (ns : List Int) : (textOf ns).length ≤ 40 := by
  have := len_join_all (sep := Str.ofString "") (B := 1) ((ns.take 40).map fT) (by simp only [List.mem_map]; rintro y ⟨n, _, rfl⟩; exact fT_len n)
  have e : (Str.ofString "").length = 0 := by decide
  rw [e, List.length_map, List.length_take] at this
  unfold textOf
  omega
def lapOf (wish : Str) : Str := Txt.slice ((Txt.split wish dots).headD Str.empty) none (some (max 0 ((((Txt.split wish dots).headD Str.empty).length : Int) - 1))) ++ (Txt.split wish dots).getLastD Str.empty

abbrev lawEnv (L a : Addr) (cd : Value) : Env := envOfC "law" (scopeOf (stm 10)) L a cd
abbrev lawL : List Str := ["script", "wish", "text", "pieces", "lapped", "got", "rows", "row", "name"]
abbrev lawG : List Str := ["max", "len", "_ellipsis_match", "_law_fits", "_indent", "_comment_line", "_strip_exception_details"]
theorem lawEv (L a : Addr) (cd : Value) : Ev (lawEnv L a cd) lawL lawG := by
  refine ⟨rfl, ?_, ?_, rfl, rfl, rfl⟩
  · simp; exact ⟨rfl, rfl, rfl, rfl, rfl, rfl, rfl, rfl, rfl⟩
  · simp; exact ⟨rfl, rfl, rfl, rfl, rfl, rfl, rfl⟩
abbrev ButL (L : Addr) (h h' : Heap) : Prop := ∀ b o, b ≠ L → h.get? b = some o → h'.get? b = some o

structure GloL (mg mb : Str → Option Value) : Prop where
  len0 : mg "len" = none
  len : mb "len" = some (.builtin "len")
  max0 : mg "max" = none
  max : mb "max" = some (.builtin "max")

/-- value[:k] of a list -/
theorem listUpto {value : Expr} {k : Nat} {kk : Nat} {pc p pos : Pos} {Q : Value → Shared → Prop}
    (h : wpAny (model prog w) A (eval value env) (fun v s1 => ∃ (a : Addr) (vs : List Value), v = .ref a ∧ s1.heap.IsList a vs.toArray ∧ vs.length ≤ 100000 ∧ ∀ s' D, Same s1 s' → Ext s1.heap s'.heap → s'.heap.IsList D (vs.take k).toArray → Q (.ref D) s') E s)
    (ht : ∀ o r, letTemporaryGo value o r = pure () := by intro _ _; rfl) :
    wpAny (model prog w) A (eval (.Subscript value (.Slice none (some (.Constant (.int k) kk pc)) none p) pos) env) Q E s := by
  have hz : sizeLine = 16777216 := PySem.sizeLine_eq
  refine wpAny_Subscript_list_slice (wpAny_mono h ?_ fun _ _ e => e) ht
  rintro v s1 ⟨a, vs, rfl, hl, hlen, hq⟩
  refine evalPart_none_step (evalPart_some_step (wpAny_Constant_int ⟨a, _, _, _, rfl, hl, by simp; omega, .none, .int _ _, ?_⟩))
  rw [slicePick_upto']
  refine hq _ _ ⟨rfl, rfl, rfl⟩ (fun b o e => Heap.get?_push_of_some _ (Heap.get?_push_of_some _ e)) ?_
  have hs : ∀ (hp : Heap) (o : Obj), (hp.push o).objs.size = hp.objs.size + 1 := fun hp o => Heap.size_push ..
  dsimp only
  rw [← hs]
  exact ⟨_, get_push, rfl, _, rfl⟩

set_option maxHeartbeats 4000000 in
theorem law0 {a : Addr} {vs : List Value} {ns : List Int} {Q : Flow → Shared → Prop} (V : Ev env lawL lawG) (hh : A.handled = none) (W : Wd mg mb h₀) (G : GloL mg mb) (F : Fr h₀ env.locals s.heap m) (hsc : m "script" = some (.ref a)) (hl : s.heap.IsList a vs.toArray) (hI : IntsAre vs ns) (hn : ns.length ≤ 63)
    (h : ∀ s' m' t, Same s s' → ButL env.locals s.heap s'.heap → Fr h₀ env.locals s'.heap m' → m' "script" = some (.ref a) → m' "wish" = some (.str (wishOf ns) t) → wpAny (model prog w) A (execs ((bodyOf (stm 10)).drop 1) env) Q E s') :
    wpAny (model prog w) A (execs (bodyOf (stm 10)) env) Q E s := by
  have hz : sizeLine = 16777216 := PySem.sizeLine_eq
  have l0 := V.l "script" (by simp)
  have l1 := V.l "wish" (by simp)
  have hvl : vs.length = ns.length := hI.length
  refine wpAny_execs_cons (wpAny_Assign_Name (MethodCall_ (conS (GM.join (callWith_method1 (args_cons ?_))))))
  refine comp_strs (cl := []) (g := gI fW) hh rfl ?_
  refine listUpto (k := 40) (nmL V F l0 hsc ⟨a, vs, rfl, hl, by omega, fun s1 D S1 e1 hD => ⟨D, vs.take 40, rfl, by simp; omega, hD, ?_, ?_⟩⟩)
  · intro cenv s3 m3 v E' hv hk3 hl3 _ hn3 hm3 e3
    obtain ⟨n, tn, rfl⟩ := intsAre_mem hI (List.mem_of_mem_take hv)
    refine Subscript_ ?_
    refine wpAny_List ?_
    refine args_cons ?_
    refine conT fun s4 t4 S4 e4 _ _ => ?_
    refine args_cons ?_
    refine conT fun s5 t5 S5 e5 _ _ => ?_
    refine args_cons ?_
    refine conT fun s6 t6 S6 e6 _ _ => ?_
    refine args_cons ?_
    refine conT fun s7 t7 S7 e7 _ _ => ?_
    refine args_cons ?_
    refine conT fun s8 t8 S8 e8 _ _ => ?_
    refine args_nil ⟨by simp; omega, ?_⟩
    have S38 := S4.trans (S5.trans (S6.trans (S7.trans S8)))
    have e38 := e4.trans (e5.trans (e6.trans (e7.trans e8)))
    refine wpAny_BinOp (wpAny_Name (wpAny_loadName_local hk3 hl3 ((nsK hn3 e38).push _) hm3 ?_))
    refine wpAny_Constant_int (PyProof.Rows.mod_int (by decide) ?_)
    have h0 : 0 ≤ n.fmod 5 := Int.fmod_nonneg_of_pos n (by decide)
    have h5 : n.fmod 5 < 5 := Int.fmod_lt_of_pos n (by decide)
    refine item_strsT (l := [(Str.ofString "a", t4), (Str.ofString "b", t5), (Str.ofString "...", t6), (Str.ofString "...", t7), (Str.ofString ".", t8)]) ⟨_, get_push, rfl, _, rfl⟩ h0 (by simpa using h5) (by omega) fun y ty hy => ⟨⟨ty, ?_⟩, S38.trans ⟨rfl, rfl, rfl⟩, e38.push _⟩
    have : y = fW n := by
      unfold fW
      rw [List.getD_eq_getElem?_getD]
      have hy2 : signs5[(n.fmod 5).toNat]? = some y := hy
      rw [hy2]; rfl
    rw [this]; rfl
  · intro s2 D2 l S2 e2 hl2 hD2
    rw [List.map_take, gI_map fW hI] at hl2
    refine args_nil (SC.join hD2 hl2 (join_ok (B := 3) _ ?_ ?_) fun t' k => ?_)
    · simp only [List.mem_map, ← List.map_take]
      rintro y ⟨n, _, rfl⟩
      exact fW_len n
    · have e : (Str.ofString "").length = 0 := by decide
      rw [e, List.length_take, List.length_map]; omega
    · rw [← List.map_take]
      have F2 := frK (frK F (fun b o e => e : Ext s.heap _)) (e1.trans e2)
      refine sto V F2 l1 fun s3 S3 F3 B3 => h s3 _ t' (S1.of.trans (S2.and S3)) (fun b o hb e => B3.extBut b o hb (e2 b o (e1 b o e))) F3 (by walk_at "lk") lk_hit

set_option maxHeartbeats 4000000 in
theorem law1 {a : Addr} {vs : List Value} {ns : List Int} {wt : Value} {Q : Flow → Shared → Prop} (V : Ev env lawL lawG) (hh : A.handled = none) (W : Wd mg mb h₀) (G : GloL mg mb) (F : Fr h₀ env.locals s.heap m) (hsc : m "script" = some (.ref a)) (hw : m "wish" = some wt) (hl : s.heap.IsList a vs.toArray) (hI : IntsAre vs ns) (hn : ns.length ≤ 63)
    (h : ∀ s' m' t, Same s s' → ButL env.locals s.heap s'.heap → Fr h₀ env.locals s'.heap m' → m' "script" = some (.ref a) → m' "wish" = some wt → m' "text" = some (.str (textOf ns) t) → wpAny (model prog w) A (execs ((bodyOf (stm 10)).drop 2) env) Q E s') :
    wpAny (model prog w) A (execs ((bodyOf (stm 10)).drop 1) env) Q E s := by
  have hz : sizeLine = 16777216 := PySem.sizeLine_eq
  have l0 := V.l "script" (by simp)
  have l1 := V.l "text" (by simp)
  have hvl : vs.length = ns.length := hI.length
  refine wpAny_execs_cons (wpAny_Assign_Name (MethodCall_ (conS (GM.join (callWith_method1 (args_cons ?_))))))
  refine comp_strs (cl := []) (g := gI fT) hh rfl ?_
  refine listUpto (k := 40) (nmL V F l0 hsc ⟨a, vs, rfl, hl, by omega, fun s1 D S1 e1 hD => ⟨D, vs.take 40, rfl, by simp; omega, hD, ?_, ?_⟩⟩)
  · intro cenv s3 m3 v E' hv hk3 hl3 _ hn3 hm3 e3
    obtain ⟨n, tn, rfl⟩ := intsAre_mem hI (List.mem_of_mem_take hv)
    refine Subscript_ (conT fun s4 t4 S4 e4 _ _ => ?_)
    refine wpAny_BinOp (wpAny_BinOp (wpAny_Name (wpAny_loadName_local hk3 hl3 (nsK hn3 e4) hm3 ?_)))
    refine intT fun s5 t5 S5 e5 => floordiv_int (by decide) (intT fun s6 t6 S6 e6 => PyProof.Rows.mod_int (by decide) ?_) ?_
    · have h0 : 0 ≤ (n.fdiv 5).fmod 3 := Int.fmod_nonneg_of_pos _ (by decide)
      have h5 : (n.fdiv 5).fmod 3 < 3 := Int.fmod_lt_of_pos _ (by decide)
      have key : ∀ c : Nat, (seqIndex? ((n.fdiv 5).fmod 3) (Str.ofString "ab.").length).bind ((Str.ofString "ab.").cps[·]?) = some c ∧ fT n = ⟨#[c]⟩ → 
          wpAny (model prog w) A (getItem (.str (Str.ofString "ab.") t4) (.int ((n.fdiv 5).fmod 3) s6.toks)) (fun y s4 => (∃ t, y = Value.str (gI fT (Value.int n tn)) t) ∧ Same s3 s4 ∧ Ext s3.heap s4.heap) E' { heap := s6.heap, gens := s6.gens, drawn := s6.drawn, toks := s6.toks + 1, os := s6.os } := by
        rintro c ⟨hc, hf⟩
        refine P.getItem_str ?_ hc ⟨⟨_, by rw [show gI fT (Value.int n tn) = fT n from rfl, hf]⟩, S4.trans (S5.trans (S6.of.and (Same.refl _))), e4.trans (e5.trans (fun b o e => e6 b o e))⟩
        simp; omega
      refine tail_any (typeIs_str _ _ _) slot_str_getitem.lookup ?_ (by with_unfolding_all rfl)
      unfold fT at key
      rcases (by omega : (n.fdiv 5).fmod 3 = 0 ∨ (n.fdiv 5).fmod 3 = 1 ∨ (n.fdiv 5).fmod 3 = 2) with e | e | e <;> rw [e] at key ⊢
      · exact key 97 ⟨by decide, by decide⟩
      · exact key 98 ⟨by decide, by decide⟩
      · exact key 46 ⟨by decide, by decide⟩
    · exact .inl (PyProof.noPylong_small (by decide))
  · intro s2 D2 l S2 e2 hl2 hD2
    rw [List.map_take, gI_map fT hI] at hl2
    refine args_nil (SC.join hD2 hl2 (join_ok (B := 1) _ ?_ ?_) fun t' k => ?_)
    · simp only [List.mem_map, ← List.map_take]
      rintro y ⟨n, _, rfl⟩
      exact fT_len n
    · have e : (Str.ofString "").length = 0 := by decide
      rw [e, List.length_take, List.length_map]; omega
    · rw [← List.map_take]
      have F2 := frK (frK F (fun b o e => e : Ext s.heap _)) (e1.trans e2)
      refine sto V F2 l1 fun s3 S3 F3 B3 => h s3 _ t' (S1.of.trans (S2.and S3)) (fun b o hb e => B3.extBut b o hb (e2 b o (e1 b o e))) F3 (by walk_at "lk") (by walk_at "lk") lk_hit
end
end Xb4

namespace Xb4
local macro_rules | `(tactic| walk_at "lk") => `(tactic| first | assumption | exact lk_hit | (refine lk_miss (by simp [ofString_inj]) ?_; walk_at "lk"))
section
variable {prog : Program} {w : World} {A : Around} {E : Value → Shared → Prop} {s : Shared} {mg mb m : Str → Option Value} {env : Env} {h₀ : Heap}

theorem max_ext {a b : Int} {t u : Tok} {Q : Value → Shared → Prop} (hh : A.handled = none) (h : ∀ s' v, Same s s' → Ext s.heap s'.heap → Q (.int (max a b) v) s') :
    wpAny (model prog w) A (call (.builtin "max") [.int a t, .int b u]) Q E s := by
  refine max_two_ints hh fun h' tk k => ?_
  by_cases hab : b > a
  · rw [if_pos hab]
    have e : max a b = b := by omega
    rw [e] at h
    exact h _ u ⟨rfl, rfl, rfl⟩ k
  · rw [if_neg hab]
    have e : max a b = a := by omega
    rw [e] at h
    exact h _ t ⟨rfl, rfl, rfl⟩ k

theorem split_ext {x y : Str} {t u : Tok} {Q : Value → Shared → Prop} (hy : (y.length == 0) = false) (hx : x.length ≤ 1000)
    (h : ∀ s' D l, Same s s' → Ext s.heap s'.heap → l.map (·.1) = Txt.split x y → s'.heap.IsList D (strValues l).toArray → Q (.ref D) s') : wpAny (model prog w) A (call (.builtin "str.split") [.str x t, .str y u]) Q E s := by
  have hz : sizeLine = 16777216 := PySem.sizeLine_eq
  have e1 := StrLaws.occ_length_le x y 0 x.length (x.length + 1)
  refine SCG.split1 (Fm := fun s' => Same s s' ∧ Ext s.heap s'.heap) ?_ ⟨Same.refl _, Ext.refl _⟩ hy (fun D l s' hl hF hD => h s' D l hF.1 hF.2 hl hD) (by omega) (by rw [length_partsBetween]; omega)
  intro s2 o k hk
  exact ⟨hk.1.and (Same.refl _), hk.2.push _⟩

set_option maxHeartbeats 4000000 in
theorem law2 {wt sc : Value} {wish : Str} {tw : Tok} {Q : Flow → Shared → Prop} (V : Ev env lawL lawG) (hh : A.handled = none) (W : Wd mg mb h₀) (G : GloL mg mb) (F : Fr h₀ env.locals s.heap m) (hsc : m "script" = some sc) (hw : m "wish" = some (.str wish tw)) (ht : m "text" = some wt) (hwl : wish.length ≤ 120)
    (hne : Txt.split wish dots ≠ [])
    (h : ∀ s' m' t Dp l, Same s s' → ButL env.locals s.heap s'.heap → Fr h₀ env.locals s'.heap m' → m' "script" = some sc → m' "wish" = some (.str wish tw) → m' "text" = some wt → m' "pieces" = some (.ref Dp) → m' "lapped" = some (.str (lapOf wish) t) → s'.heap.IsList Dp (strValues l).toArray → l.map (·.1) = Txt.split wish dots →
      wpAny (model prog w) A (execs ((bodyOf (stm 10)).drop 4) env) Q E s') :
    wpAny (model prog w) A (execs ((bodyOf (stm 10)).drop 2) env) Q E s := by
  have hz : sizeLine = 16777216 := PySem.sizeLine_eq
  have l1 := V.l "wish" (by simp)
  have l2 := V.l "pieces" (by simp)
  have l3 := V.l "lapped" (by simp)
  have g1 := V.gl "len" (by simp)
  have g2 := V.gl "max" (by simp)
  refine wpAny_execs_cons (wpAny_Assign_Name (MethodCall_ (nmL V F l1 hw (GM.split (callWith_method1 (args_cons (conT fun s1 t1 S1 e1 _ _ => args_nil ?_)))))))
  refine split_ext (by decide) (by omega) fun s2 D l S2 e2 hl hD => ?_
  have F2 := frK F (e1.trans e2)
  have hlen : 0 < l.length := by
    have : l.length = (Txt.split wish dots).length := by rw [← show l.map (·.1) = Txt.split wish dots from hl, List.length_map]
    rw [this]
    exact List.length_pos_iff.mpr hne
  have hln2 : l.length ≤ 122 := by
    have : l.length = (Txt.split wish dots).length := by rw [← show l.map (·.1) = Txt.split wish dots from hl, List.length_map]
    have := split_len_le wish dots
    omega
  have hpl : ∀ y ∈ l.map (·.1), y.length ≤ 120 := by
    rw [show l.map (·.1) = Txt.split wish dots from hl]
    exact fun y hy => Nat.le_trans (split_piece_le wish dots y hy) hwl
  refine sto V F2 l2 fun s3 S3 F3 B3 => ?_
  have hDL : D ≠ env.locals := by
    rintro rfl
    obtain ⟨oL, esL, epL, hoL, hdL, hkL, hfL⟩ := F2.ns
    obtain ⟨oD, hoD, hcD, nD, hdD⟩ := id hD
    rw [hoL] at hoD; cases hoD
    rw [hdL] at hdD; cases hdD
  have hD3 : s3.heap.IsList D (strValues l).toArray := by
    obtain ⟨o, ho, r⟩ := hD
    exact ⟨o, B3.extBut _ _ hDL ho, r⟩
  refine wpAny_execs_cons ?_
  refine wpAny_Assign_Name ?_
  refine wpAny_BinOp ?_
  refine sliceNS ?_
  refine Subscript_ ?_
  refine nmL V F3 l2 lk_hit ?_
  refine intT fun s4 t4 S4 e4 => ?_
  have F4 := frK F3 e4
  refine item_strsT (listK hD3 e4) (by decide) (by omega) (by decide) fun y ty hy => ?_
  have hy0 : (Txt.split wish dots).headD Str.empty = y := by
    rw [← show l.map (·.1) = Txt.split wish dots from hl, List.headD_eq_head?_getD, List.head?_eq_getElem?]
    rw [show (0 : Int).toNat = 0 from rfl] at hy
    rw [hy]; rfl
  have hyl := hpl y (List.mem_of_getElem? hy)
  refine Call_ (nmB V (W.ext F4.keep) g2 G.max0 G.max (callWith_builtin1 (hplain := plain1) (args_cons (intT fun s5 t5 S5 e5 => args_cons (wpAny_BinOp ?_)))))
  have F5 := frK F4 e5
  refine Call_ (nmB V (W.ext F5.keep) g1 G.len0 G.len (callWith_builtin1 (args_cons (Subscript_ (nmL V F5 l2 lk_hit (intT fun s6 t6 S6 e6 => ?_))))))
  have F6 := frK F5 e6
  refine item_strsT (listK hD3 (e4.trans (e5.trans e6))) (by decide) (by omega) (by decide) fun y2 ty2 hy2 => ?_
  have e12 : y2 = y := Option.some.inj (hy2.symm.trans hy)
  subst e12
  refine args_nil (len_str (by omega) (intT fun s7 t7 S7 e7 => sub_int (args_nil (max_ext hh fun s8 v8 S8 e8 => ?_))))
  have S48 : Same s4 s8 := S5.trans (S6.of.trans (S7.of.and S8))
  have e48 : Ext s4.heap s8.heap := fun b o e => e8 b o (e7 b o (e6 b o (e5 b o e)))
  refine ⟨_, _, _, _, rfl, rfl, by omega, fun s9 t9 S9 e9 => ?_⟩
  have e39 := e4.trans (e48.trans e9)
  have F9 := frK F3 e39
  refine Subscript_ (nmL V F9 l2 lk_hit (wpAny_BinOp (Call_ (nmB V (W.ext F9.keep) g1 G.len0 G.len (callWith_builtin1 (args_cons (nmL V F9 l2 lk_hit (args_nil ?_))))))))
  refine call_len_list (listK hD3 e39) (by simp [strValues]; omega) (intT fun s10 t10 S10 e10 => sub_int ?_)
  refine item_strsT (by exact listK hD3 (e39.trans e10)) (by simp [strValues]; omega) (by simp [strValues]; omega) (by simp [strValues]; omega) fun y3 ty3 hy3 => ?_
  have hy3l := hpl y3 (List.mem_of_getElem? hy3)
  have hyL : (Txt.split wish dots).getLastD Str.empty = y3 := by
    rw [← show l.map (·.1) = Txt.split wish dots from hl, List.getLastD_eq_getLast?, List.getLast?_eq_getElem?, List.length_map]
    have e : (((strValues l).toArray.size : Int) - 1).toNat = l.length - 1 := by simp [strValues]
    rw [e] at hy3
    rw [hy3]; rfl
  have F10 := frK F9 e10
  have hsl : (Txt.slice y2 none (some (max 0 ((y2.length : Int) - 1)))).length ≤ 120 := Nat.le_trans (Txt.slice_le _ _ _) hyl
  refine PyProof.Rows.add_str (fun t11 k11 => ?_) (by omega)
  refine sto V F10 l3 fun s12 S12 F12 B12 => ?_
  refine h s12 _ t11 D l ?_ ?_ F12 ?_ ?_ ?_ ?_ ?_ ?_ hl
  · exact S1.trans (S2.trans (S3.of.trans (S4.trans (S48.trans (S9.and (S10.and S12))))))
  · exact fun b o hb e => B12.extBut b o hb (e10 b o (e39 b o (B3.extBut b o hb (e2 b o (e1 b o e)))))
  · walk_at "lk"
  · walk_at "lk"
  · walk_at "lk"
  · walk_at "lk"
  · unfold lapOf
    rw [hy0, hyL]
    exact lk_hit
  · obtain ⟨o, ho, r⟩ := listK hD3 (e39.trans e10)
    exact ⟨o, B12.extBut _ _ hDL ho, r⟩

theorem replace_len (x y z : Str) : (Txt.replace x y z).length ≤ x.length + (x.length + 1) * z.length := by
  unfold Txt.replace
  split
  · omega
  · have h1 := StrLaws.occ_length_le x y 0 x.length (x.length + 1)
    have hy : (glued y (partsBetween x (occurrences x y 0 x.length (x.length + 1)) y.length)).length = x.length := by rw [StrLaws.glued_between_self]
    rw [size_glued, length_partsBetween, Nat.add_sub_cancel] at hy
    rw [size_glued, length_partsBetween, Nat.add_sub_cancel]
    have h2 : (occurrences x y 0 x.length (x.length + 1)).length * z.length ≤ (x.length + 1) * z.length := Nat.mul_le_mul_right _ h1
    omega
theorem rep_call {x y z : Str} {t : Tok} {u v : Nat} {Q : Value → Shared → Prop} (hs : 1 ≤ s.toks) (hu : 1 ≤ u) (huv : u < v) (hyz : (y == z) = false) (hb : x.length ≤ 1000) (hz : z.length ≤ 2)
    (hq : ∀ s' t', Same s s' → Ext s.heap s'.heap → 1 ≤ s'.toks → Q (.str (Txt.replace x y z) t') s') : wpAny (model prog w) A (call (.builtin "str.replace") [.str x t, .str y u, .str z v]) Q E s := by
  refine wpAny_mono (wpAny_toks_of hs (SC.replaceW (Q := fun v s' => ∃ t' k, v = .str (Txt.replace x y z) t' ∧ s' = { s with toks := k }) (E := E) (Nat.ne_of_gt hu) (Nat.ne_of_gt (Nat.lt_of_le_of_lt (Nat.zero_le u) huv)) (Nat.ne_of_lt huv) hyz (by omega) (by omega) fun t' k => ⟨t', k, rfl, rfl⟩)) ?_ fun _ _ e => e.2
  rintro v s' ⟨h1, t', k, rfl, rfl⟩
  exact hq _ t' ⟨rfl, rfl, rfl⟩ (Ext.refl _) h1
theorem add_call {x y : Str} {t u : Tok} {Q : Value → Shared → Prop} (hs : 1 ≤ s.toks) (hx : x.length ≤ 1000) (hy : y.length ≤ 1000)
    (hq : ∀ s' t', Same s s' → Ext s.heap s'.heap → 1 ≤ s'.toks → Q (.str (x ++ y) t') s') : wpAny (model prog w) A (binaryOp .Add (.str x t) (.str y u)) Q E s := by
  have hz : sizeLine = 16777216 := PySem.sizeLine_eq
  refine wpAny_mono (wpAny_toks_of hs (PyProof.Rows.add_str (Q := fun v s' => ∃ t' k, v = .str (x ++ y) t' ∧ s' = { s with toks := k }) (E := E) (fun t' k => ⟨t', k, rfl, rfl⟩) (by omega))) ?_ fun _ _ e => e.2
  rintro v s' ⟨h1, t', k, rfl, rfl⟩
  exact hq _ t' ⟨rfl, rfl, rfl⟩ (Ext.refl _) h1

/-- a function of the program, as it stands in the module -/
structure FnAt (mg : Str → Option Value) (h : Heap) (nm : Str) (i : Nat) (f : Addr) : Prop where
  v : mg nm = some (.ref f)
  o : ∃ o pm cd doc, h.get? f = some o ∧ o.data = .func (docDef nm (argsOf (stm i)) (bodyOf (stm i)) (scopeOf (stm i)) pm cd doc) ∧ h.CodeRec cd nm

def gotsOf (wish text : Str) : List Str := [text, text ++ Str.ofString "a", wish, lapOf wish, Txt.replace wish dots (Str.ofString ""), Txt.replace wish dots (Str.ofString "ab"), Txt.replace wish (Str.ofString ".") (Str.ofString "")]
theorem lap_len (wish : Str) (h : wish.length ≤ 120) : (lapOf wish).length ≤ 240 := by
  have key : ∀ y, y = Str.empty ∨ y ∈ Txt.split wish dots → y.length ≤ 120 := by
    rintro y (rfl | hy)
    · exact Nat.zero_le _
    · exact Nat.le_trans (split_piece_le _ _ _ hy) h
  have h1 : ((Txt.split wish dots).headD Str.empty).length ≤ 120 := key _ (by
    cases Txt.split wish dots with
    | nil => exact .inl rfl
    | cons a b => exact .inr (.head _))
  have h2 : ((Txt.split wish dots).getLastD Str.empty).length ≤ 120 := key _ (by
    cases hs : Txt.split wish dots with
    | nil => exact .inl rfl
    | cons a b =>
      refine .inr ?_
      rw [List.getLastD_eq_getLast?, List.getLast?_eq_some_getLast (by simp)]
      exact List.getLast_mem _)
  have h3 := Txt.slice_le ((Txt.split wish dots).headD Str.empty) none (some (max 0 ((((Txt.split wish dots).headD Str.empty).length : Int) - 1)))
  unfold lapOf
  rw [Str.length_append]
  omega
theorem gots_len (wish text : Str) (h1 : wish.length ≤ 120) (h2 : text.length ≤ 40) : ∀ y ∈ gotsOf wish text, y.length ≤ 1000 := by
  have a1 := lap_len wish h1
  have a2 := replace_len wish dots (Str.ofString "")
  have a3 := replace_len wish dots (Str.ofString "ab")
  have a4 := replace_len wish (Str.ofString ".") (Str.ofString "")
  rw [show (Str.ofString "").length = 0 from by decide] at a2 a4
  rw [show (Str.ofString "ab").length = 2 from by decide] at a3
  intro y hy
  simp only [gotsOf, List.mem_cons, List.not_mem_nil, or_false] at hy
  rcases hy with rfl | rfl | rfl | rfl | rfl | rfl | rfl
  · omega
  · rw [Str.length_append, show (Str.ofString "a").length = 1 from by decide]; omega
  all_goals omega

/-- the list of the seven texts -/
theorem gots_list {wish text : Str} {tw tt tl : Tok} {pos : Pos} {Q : Value → Shared → Prop} (V : Ev env lawL lawG) (F : Fr h₀ env.locals s.heap m) (hw : m "wish" = some (.str wish tw)) (ht : m "text" = some (.str text tt)) (hla : m "lapped" = some (.str (lapOf wish) tl)) (hwl : wish.length ≤ 120) (htl : text.length ≤ 40)
    (h : ∀ s' D l, Same s s' → Ext s.heap s'.heap → l.map (·.1) = gotsOf wish text → s'.heap.IsList D (strValues l).toArray → Q (.ref D) s') :
    wpAny (model prog w) A (eval (match ((bodyOf (stm 10)).getD 4 (.Pass pos)) with | .For _ it _ _ _ => it | _ => .Constant .none 0 pos) env) Q E s := by
  have hz : sizeLine = 16777216 := PySem.sizeLine_eq
  have l1 := V.l "wish" (by simp)
  have l2 := V.l "text" (by simp)
  have l3 := V.l "lapped" (by simp)
  refine wpAny_List ?_
  refine args_cons (nmL V F l2 ht ?_)
  refine args_cons (wpAny_BinOp (nmL V F l2 ht (conT fun s1 t1 S1 e1 _ k1 => ?_)))
  refine add_call (by omega) (by omega) (by decide) fun s2 t2 S2 e2 k2 => ?_
  have F2 := frK F (e1.trans e2)
  refine args_cons (nmL V F2 l1 hw (args_cons (nmL V F2 l3 hla ?_)))
  refine args_cons (MethodCall_ (nmL V F2 l1 hw (GM.replace (callWith_method1 (hplain := plain1) (args_cons (conT fun s3 t3 S3 e3 h3 k3 => args_cons (conT fun s4 t4 S4 e4 h4 k4 => args_nil ?_)))))))
  refine rep_call (by omega) (by omega) (by omega) (by decide) (by omega) (by decide) fun s5 t5 S5 e5 k5 => ?_
  have F5 := frK F2 (e3.trans (e4.trans e5))
  refine args_cons (MethodCall_ (nmL V F5 l1 hw (GM.replace (callWith_method1 (hplain := plain1) (args_cons (conT fun s6 t6 S6 e6 h6 k6 => args_cons (conT fun s7 t7 S7 e7 h7 k7 => args_nil ?_)))))))
  refine rep_call (by omega) (by omega) (by omega) (by decide) (by omega) (by decide) fun s8 t8 S8 e8 k8 => ?_
  have F8 := frK F5 (e6.trans (e7.trans e8))
  refine args_cons (MethodCall_ (nmL V F8 l1 hw (GM.replace (callWith_method1 (hplain := plain1) (args_cons (conT fun s9 t9 S9 e9 h9 k9 => args_cons (conT fun s10 t10 S10 e10 h10 k10 => args_nil ?_)))))))
  refine rep_call (by omega) (by omega) (by omega) (by decide) (by omega) (by decide) fun s11 t11 S11 e11 k11 => ?_
  refine args_nil ⟨by simp; omega, ?_⟩
  have S0 : Same s s11 := S1.and (S2.trans (S3.trans (S4.trans (S5.trans (S6.trans (S7.trans (S8.trans (S9.trans (S10.trans S11)))))))))
  have e0 : Ext s.heap s11.heap := e1.trans (e2.trans (e3.trans (e4.trans (e5.trans (e6.trans (e7.trans (e8.trans (e9.trans (e10.trans e11)))))))))
  refine h { s11 with heap := s11.heap.push { cls := .type "list", data := .seq (strValues [(text, tt), (text ++ Str.ofString "a", t2), (wish, tw), (lapOf wish, tl), (Txt.replace wish dots (Str.ofString ""), t5), (Txt.replace wish dots (Str.ofString "ab"), t8), (Txt.replace wish (Str.ofString ".") (Str.ofString ""), t11)]).toArray } } s11.heap.objs.size _ (S0.and (Same.refl _)) (e0.push _) ?_ ⟨_, get_push, rfl, _, rfl⟩
  rfl

theorem list_ne_ns {h : Heap} {D L : Addr} {m : Str → Option Value} {xs : Array Value} (n : h.Ns L m) (l : h.IsList D xs) : D ≠ L := by
  rintro rfl
  obtain ⟨oL, esL, epL, hoL, hdL, hkL, hfL⟩ := n
  obtain ⟨oD, hoD, hcD, nD, hdD⟩ := l
  rw [hoL] at hoD; cases hoD
  rw [hdL] at hdD; cases hdD

/-- the body of the first for -/
def gotBody : List Stmt := forBody ((bodyOf (stm 10)).getD 4 (.Pass ⟨0, 0, 0, 0⟩))

set_option maxHeartbeats 4000000 in
theorem got_turn {f1 f2 Dp : Addr} {wish got : Str} {tw tg : Tok} {l : List (Str × Tok)} {E' : Value → Shared → Prop} (V : Ev env lawL lawG) (R : Rm A) (hu : A.units + 100 < cLine) (W : Wd mg mb h₀) (GE : Glo mg mb) (GF : GloF mg mb) (f1A : FnAt mg h₀ "_ellipsis_match" 5 f1) (f2A : FnAt mg h₀ "_law_fits" 9 f2)
    (F : Fr h₀ env.locals s.heap m) (hw : m "wish" = some (.str wish tw)) (hp : m "pieces" = some (.ref Dp)) (hgot : m "got" = some (.str got tg)) (hl : s.heap.IsList Dp (strValues l).toArray) (hlw : l.map (·.1) = Txt.split wish dots) (hwl : wish.length ≤ 120) (hgl : got.length ≤ 1000)
    (h2 : Txt.contains wish dots = true → 2 ≤ (Txt.split wish dots).length) (hne : Txt.split wish dots ≠ []) (hE : ellip wish got = lawFits (Txt.split wish dots) got) :
    wpAny (model prog w) A (execs gotBody env) (fun fl s' => fl = .next ∧ Same s s' ∧ Ext s.heap s'.heap) E' s := by
  have l1 := V.l "wish" (by simp)
  have l2 := V.l "pieces" (by simp)
  have l3 := V.l "got" (by simp)
  have g1 := V.gl "_ellipsis_match" (by simp)
  have g2 := V.gl "_law_fits" (by simp)
  obtain ⟨v1, o1, pm1, cd1, doc1, ho1, hd1, hc1⟩ := f1A
  obtain ⟨v2, o2, pm2, cd2, doc2, ho2, hd2, hc2⟩ := f2A
  refine wpAny_execs_cons (wpAny_If (wpAny_isTrue_Compare1 (Call_ ?_)))
  refine nmG V (W.ext F.keep) g1 v1 (callWith_def (o := o1) hd1 (args_cons (nmL V F l1 hw (args_cons (nmL V F l3 hgot (args_nil ⟨F.keep _ _ ho1, ?_⟩))))))
  refine ellip_call (W.ext F.keep) GE R (F.keep _ _ ho1) hd1 (hc1.keeps F.keep) (by omega) hgl h2 fun s1 S1 e1 => ?_
  have F1 := frK F e1
  refine Call_ (nmG V (W.ext F1.keep) g2 v2 (callWith_def (o := o2) hd2 (args_cons (nmL V F1 l2 hp (args_cons (nmL V F1 l3 hgot (args_nil ⟨F1.keep _ _ ho2, ?_⟩)))))))
  refine fits_call (l := l) (W.ext F1.keep) GF R hu (F1.keep _ _ ho2) hd2 (hc2.keeps F1.keep) (listK hl e1) hgl ?_ ?_ ?_ fun s2 S2 e2 => ?_
  · rw [hlw]
    exact fun y hy => Nat.le_trans (split_piece_le wish dots y hy) (by omega)
  · have h1 : l.length = (Txt.split wish dots).length := by rw [← hlw, List.length_map]
    have := split_len_le wish dots
    omega
  · rintro rfl
    exact hne hlw.symm
  rw [hlw, hE]
  refine wpAny_isNot_plain (by rfl) (wpAny_truthy_bool ?_)
  rw [beq_self_eq_true, if_neg (by decide)]
  exact wpAny_execs_nil (wpAny_execs_nil ⟨rfl, S1.trans S2, e1.trans e2⟩)

set_option maxHeartbeats 4000000 in
theorem law4 {f1 f2 Dp : Addr} {sc : Value} {wish text : Str} {tw tt tl : Tok} {l : List (Str × Tok)} {Q : Flow → Shared → Prop} (V : Ev env lawL lawG) (R : Rm A) (hu : A.units + 100 < cLine) (W : Wd mg mb h₀) (GE : Glo mg mb) (GF : GloF mg mb) (f1A : FnAt mg h₀ "_ellipsis_match" 5 f1) (f2A : FnAt mg h₀ "_law_fits" 9 f2)
    (F : Fr h₀ env.locals s.heap m) (hsc : m "script" = some sc) (hw : m "wish" = some (.str wish tw)) (ht : m "text" = some (.str text tt)) (hp : m "pieces" = some (.ref Dp)) (hla : m "lapped" = some (.str (lapOf wish) tl)) (hl : s.heap.IsList Dp (strValues l).toArray) (hlw : l.map (·.1) = Txt.split wish dots) (hwl : wish.length ≤ 120) (htl : text.length ≤ 40)
    (h2 : Txt.contains wish dots = true → 2 ≤ (Txt.split wish dots).length) (hne : Txt.split wish dots ≠ []) (hE : ∀ got, ellip wish got = lawFits (Txt.split wish dots) got)
    (h : ∀ s' m', Same s s' → ButL env.locals s.heap s'.heap → Fr h₀ env.locals s'.heap m' → m' "script" = some sc → wpAny (model prog w) A (execs ((bodyOf (stm 10)).drop 5) env) Q E s') :
    wpAny (model prog w) A (execs ((bodyOf (stm 10)).drop 4) env) Q E s := by
  have l3 := V.l "got" (by simp)
  refine wpAny_execs_cons (wpAny_For ?_)
  refine gots_list (pos := ⟨0, 0, 0, 0⟩) V F hw ht hla hwl htl fun s1 D l1 S1 e1 hl1 hD => ?_
  refine wpAny_pyIter_list hD ?_
  have F0 := frK F e1
  have hlt : ∀ b o, s1.heap.get? b = some o → b ≠ s1.heap.objs.size := fun b o e => Nat.ne_of_lt (Heap.lt_size e)
  have hDL := list_ne_ns F0.ns hD
  obtain ⟨oL, esL, epL, hoL, hdL, hkL, hfL⟩ := id F0.ns
  obtain ⟨oD, hoD, hcD, nD, hdD⟩ := id hD
  have hpD := listK hl e1
  have hpL := list_ne_ns F0.ns hpD
  have F1 := F0.push ({ cls := .type "list_iterator", data := .fields #[.ref D, .int 0 0] } : Obj)
  refine forW (m := m) (wr := []) (Walks.list R.h _ D (hlt _ _ hoD) (strValues l1).toArray) V l3 ?_ ?_ ⟨⟨_, get_push, rfl, rfl⟩, hD.push _⟩ F1.ns
    (fun i h m => m "script" = some sc ∧ m "wish" = some (.str wish tw) ∧ m "pieces" = some (.ref Dp) ∧ h.IsList Dp (strValues l).toArray)
    ⟨hsc, hw, hp, hpD.push _⟩ ?_ ?_ ?_ ?_
  · intro b hb
    simp only [List.mem_cons, List.not_mem_nil, or_false] at hb
    rcases hb with rfl | rfl
    · exact ⟨Ne.symm (hlt _ _ hoL), by simp⟩
    · exact ⟨hDL, by simp⟩
  · rintro i h ⟨⟨o, ho, _, hd⟩, _⟩
    exact ⟨o, ho, fun a b e => by rw [hd] at e; cases e⟩
  · rintro i h h' m J ⟨a, b, c, d⟩ hJ k
    exact ⟨a, b, c, isList_but d hJ k⟩
  · rintro i h m v ⟨a, b, c, d⟩
    exact ⟨by walk_at "lk", by walk_at "lk", by walk_at "lk", d⟩
  · rintro i vv s2 m2 hi hP S2 hn2 hw2 hk2 ⟨a, b, c, d⟩ E'
    obtain ⟨y, ty, rfl, hy⟩ := strValues_get hP
    have F2 : Fr h₀ env.locals s2.heap m2 := ⟨hn2, fun b o e => hk2 b o (hlt _ _ (F0.keep _ _ e)) (Nat.ne_of_lt (Nat.lt_of_lt_of_le (Heap.lt_size e) F.above)) (by simp) (F1.keep _ _ e), F.above⟩
    rw [hl1] at hy
    have hyl := gots_len wish text hwl htl y (List.mem_of_getElem? hy)
    refine wpAny_mono (got_turn (l := l) V R hu W GE GF f1A f2A F2 b c hw2 d hlw hwl hyl h2 hne (hE y)) ?_ fun _ _ e => e
    rintro fl s3 ⟨rfl, S3, e3⟩
    exact ⟨S3, fun b o _ _ e => e3 b o e, .inl ⟨rfl, m2, nsK hn2 e3, a, b, c, listK d e3⟩⟩
  · rintro s2 m2 S2 hn2 hk2 ⟨a, b, c, d⟩
    have F2 : Fr h₀ env.locals s2.heap m2 := ⟨hn2, fun b o e => hk2 b o (hlt _ _ (F0.keep _ _ e)) (Nat.ne_of_lt (Nat.lt_of_lt_of_le (Heap.lt_size e) F.above)) (by simp) (F1.keep _ _ e), F.above⟩
    refine h s2 m2 (S1.and S2) ?_ F2 a
    exact fun b o hb e => hk2 b o (hlt _ _ (e1 _ _ e)) hb (by simp) (Heap.get?_push_of_some _ (e1 _ _ e))
end
end Xb4

namespace Xb4
local macro_rules | `(tactic| walk_at "lk") => `(tactic| first | assumption | exact lk_hit | (refine lk_miss (by simp [ofString_inj]) ?_; walk_at "lk"))
section
variable {prog : Program} {w : World} {A : Around} {E : Value → Shared → Prop} {s : Shared} {mg mb m : Str → Option Value} {env : Env} {h₀ : Heap}

def manyOf (ns : List Int) : Int := 1 + (ns.length : Int).fmod 4
theorem fR_len (n : Int) : (fR n).length ≤ 1 := by
  unfold fR
  generalize (n.fmod 6).toNat = k
  match k with
  | 0 => decide
  | 1 => decide
  | 2 => decide
  | 3 => decide
  | 4 => decide
  | 5 => decide
  | k + 6 => exact Nat.zero_le _
theorem rows_len (ns : List Int) (h : ns.length ≤ 63) : (rowsOf ns).length ≤ 63 := by
  have := len_join_all (sep := Str.ofString "") (B := 1) (ns.map fR) (by simp only [List.mem_map]; rintro y ⟨n, _, rfl⟩; exact fR_len n)
  have e : (Str.ofString "").length = 0 := by decide
  rw [e, List.length_map] at this
  unfold rowsOf
  omega
theorem many_le (ns : List Int) : 1 ≤ manyOf ns ∧ manyOf ns ≤ 4 := by
  have h1 : 0 ≤ (ns.length : Int).fmod 4 := Int.fmod_nonneg_of_pos _ (by decide)
  have h2 : (ns.length : Int).fmod 4 < 4 := Int.fmod_lt_of_pos _ (by decide)
  unfold manyOf
  omega

set_option maxHeartbeats 4000000 in
theorem law5 {a C : Addr} {v0 : Option Value} {vs : List Value} {ns : List Int} {Q : Flow → Shared → Prop} (V : Ev env lawL lawG) (hh : A.handled = none) (W : Wd mg mb h₀) (G : GloL mg mb) (F : Fr h₀ env.locals s.heap m) (hsc : m "script" = some (.ref a)) (hl : s.heap.IsList a vs.toArray) (hI : IntsAre vs ns) (hn : ns.length ≤ 63)
    (hm : env.kindOf "many" = some .cell) (hcs : env.cells.lookup (Str.ofString "many") = some C) (hLC : env.locals < C) (hC : s.heap.IsCell C v0)
    (h : ∀ s' m' t v, Same s s' → Fr h₀ env.locals s'.heap m' → m' "rows" = some (.str (rowsOf ns) t) → s'.heap.IsCell C (some (.int (manyOf ns) v)) → wpAny (model prog w) A (execs ((bodyOf (stm 10)).drop 7) env) Q E s') :
    wpAny (model prog w) A (execs ((bodyOf (stm 10)).drop 5) env) Q E s := by
  have hz : sizeLine = 16777216 := PySem.sizeLine_eq
  have l0 := V.l "script" (by simp)
  have l1 := V.l "rows" (by simp)
  have g1 := V.gl "len" (by simp)
  have hvl : vs.length = ns.length := hI.length
  refine wpAny_execs_cons (wpAny_Assign_Name (MethodCall_ (conT fun s0 t0 S0 e0 _ _ => (GM.join (callWith_method1 (args_cons ?_))))))
  have F0 := frK F e0
  refine comp_strs (cl := []) (g := gI fR) hh rfl ?_
  refine nmL V F0 l0 hsc ⟨a, vs, rfl, by omega, listK hl e0, ?_, ?_⟩
  · intro cenv s3 m3 v E' hv hk3 hl3 _ hn3 hm3 e3
    obtain ⟨n, tn, rfl⟩ := intsAre_mem hI hv
    refine Subscript_ ?_
    refine wpAny_List ?_
    refine args_cons ?_
    refine conT fun s4 t4 S4 e4 _ _ => ?_
    refine args_cons ?_
    refine conT fun s5 t5 S5 e5 _ _ => ?_
    refine args_cons ?_
    refine conT fun s6 t6 S6 e6 _ _ => ?_
    refine args_cons ?_
    refine conT fun s7 t7 S7 e7 _ _ => ?_
    refine args_cons ?_
    refine conT fun s8 t8 S8 e8 _ _ => ?_
    refine args_cons ?_
    refine conT fun s9 t9 S9 e9 _ _ => ?_
    refine args_nil ⟨by simp; omega, ?_⟩
    have S38 := S4.trans (S5.trans (S6.trans (S7.trans (S8.trans S9))))
    have e38 := e4.trans (e5.trans (e6.trans (e7.trans (e8.trans e9))))
    refine wpAny_BinOp (wpAny_Name (wpAny_loadName_local hk3 hl3 ((nsK hn3 e38).push _) hm3 ?_))
    refine wpAny_Constant_int (PyProof.Rows.mod_int (by decide) ?_)
    have h0 : 0 ≤ n.fmod 6 := Int.fmod_nonneg_of_pos n (by decide)
    have h5 : n.fmod 6 < 6 := Int.fmod_lt_of_pos n (by decide)
    refine item_strsT (l := [(Str.ofString "a", t4), (Str.ofString " ", t5), (Str.ofString ".", t6), (Str.ofString ":", t7), (Str.ofString "\t", t8), (Str.ofString "\n", t9)]) ⟨_, get_push, rfl, _, rfl⟩ h0 (by simpa using h5) (by omega) fun y ty hy => ⟨⟨ty, ?_⟩, S38.trans ⟨rfl, rfl, rfl⟩, e38.push _⟩
    have : y = fR n := by
      unfold fR
      rw [List.getD_eq_getElem?_getD]
      have hy2 : signs6[(n.fmod 6).toNat]? = some y := hy
      rw [hy2]; rfl
    rw [this]; rfl
  · intro s2 D2 l S2 e2 hl2 hD2
    rw [gI_map fR hI] at hl2
    refine args_nil (SC.join hD2 hl2 (join_ok (B := 1) _ ?_ ?_) fun t' k => ?_)
    · simp only [List.mem_map]
      rintro y ⟨n, _, rfl⟩
      exact fR_len n
    · have e : (Str.ofString "").length = 0 := by decide
      rw [e, List.length_map]; omega
    · have F2 := frK F0 e2
      have e02 := e0.trans e2
      refine sto V F2 l1 fun s3 S3 F3 B3 => ?_
      have hl3 : s3.heap.IsList a vs.toArray := by
        obtain ⟨o, ho, r⟩ := listK hl e02
        exact ⟨o, B3.extBut _ _ (list_ne_ns F2.ns (listK hl e02)) ho, r⟩
      have hC3 : s3.heap.IsCell C v0 := by
        obtain ⟨o, ho, r⟩ := hC
        exact ⟨o, B3.extBut _ _ (Nat.ne_of_gt hLC) (e02 _ _ ho), r⟩
      refine wpAny_execs_cons (wpAny_Assign_Name (wpAny_BinOp (intT fun s4 t4 S4 e4 => ?_)))
      have F4 := frK F3 e4
      refine wpAny_BinOp (Call_ (nmB V (W.ext F4.keep) g1 G.len0 G.len (callWith_builtin1 (args_cons (nmL V F4 l0 (by walk_at "lk") (args_nil ?_))))))
      refine call_len_list (listK hl3 e4) (by simp; omega) (intT fun s5 t5 S5 e5 => PyProof.Rows.mod_int (by decide) (add_int ?_))
      have F5 := frK F4 e5
      have hC5 : s5.heap.IsCell C v0 := by
        obtain ⟨o, ho, r⟩ := hC3
        exact ⟨o, e5 _ _ (e4 _ _ ho), r⟩
      refine wpAny_storeName_cell V.k hm hcs hC5 fun h6 hv6 hs6 => ?_
      have hsz : (vs.toArray.size : Int) = (ns.length : Int) := by simp [hvl]
      rw [hsz] at hv6
      refine h { s5 with heap := h6, toks := s5.toks + 1 + 1 } _ t' _ ?_ ⟨F5.ns.sameBut hs6 (Nat.ne_of_lt hLC), fun b o e => (hs6.2 b (Nat.ne_of_lt (Nat.lt_trans (Nat.lt_of_lt_of_le (Heap.lt_size e) F.above) hLC))).trans (F5.keep b o e), F.above⟩ (by exact lk_hit) hv6
      exact S0.trans (S2.trans (S3.of.trans (S4.trans (S5.of.and (Same.refl _)))))

/-- the pattern and the function that uses it -/
structure IndAt (mg : Str → Option Value) (h : Heap) (f a T Td : Addr) : Prop where
  v : mg "_indent" = some (.ref f)
  g : mg "_twin_re_1" = some (.ref a)
  p : PatAt h a T
  d : ∃ td, h.get? Td = some ⟨.type "tuple", none, .seq #[.int 4 td] 0, #[]⟩
  o : ∃ o pm cd doc, h.get? f = some o ∧ o.data = .func { docDef "_indent" (argsOf (stm 4)) (bodyOf (stm 4)) (scopeOf (stm 4)) pm cd doc with defaults := .ref Td } ∧ h.CodeRec cd "_indent"

theorem kind_free {scope : Scope} {cl : List (Str × Addr)} {C : Addr} {x : Str} (hk : env.scope.kind = .function) (hm : env.kindOf x = some .cell) (hx : scope.names.lookup x = some .free) : (compEnvC scope cl C env).kindOf x = some .cell := by
  show ((relabel scope env).names.lookup x) = some .cell
  unfold relabel
  generalize scope.names = names at hx
  induction names with
  | nil => cases hx
  | cons p r ih =>
    obtain ⟨n, k⟩ := p
    rw [List.map_cons]
    rw [List.lookup_cons] at hx
    cases hn : x == n with
    | true =>
      rw [hn] at hx
      have e : x = n := by simpa using hn
      cases hx
      subst e
      simp [List.lookup_cons, hk, hm]
    | false =>
      rw [hn] at hx
      have := ih hx
      have hn2 : (x == (if (k == NameKind.free && env.scope.kind == ScopeKind.function && env.kindOf n == some NameKind.cell) = true then (n, NameKind.cell) else (n, k)).1) = false := by
        split <;> exact hn
      rw [List.lookup_cons, hn2]
      exact this

set_option maxHeartbeats 4000000 in
theorem law7 {C f a T Td : Addr} {rows : Str} {tr tn : Tok} {n : Int} {Q : Flow → Shared → Prop} (V : Ev env lawL lawG) (R : Rm A) (W : Wd mg mb h₀) (I : IndAt mg h₀ f a T Td) (F : Fr h₀ env.locals s.heap m) (hr : m "rows" = some (.str rows tr)) (hrl : rows.length ≤ 63)
    (hm : env.kindOf "many" = some .cell) (hcs : env.cells.lookup (Str.ofString "many") = some C) (hC : s.heap.IsCell C (some (.int n tn))) (h1 : 1 ≤ n) (h2 : n ≤ 4) (hInd : indent rows n = padded rows n)
    (h : ∀ s', Same s s' → Ext s.heap s'.heap → wpAny (model prog w) A (execs ((bodyOf (stm 10)).drop 8) env) Q E s') :
    wpAny (model prog w) A (execs ((bodyOf (stm 10)).drop 7) env) Q E s := by
  have hz : sizeLine = 16777216 := PySem.sizeLine_eq
  have l1 := V.l "rows" (by simp)
  have g1 := V.gl "_indent" (by simp)
  obtain ⟨v1, hg, PA, ⟨td, htd⟩, o1, pm1, cd1, doc1, ho1, hd1, hc1⟩ := I
  refine wpAny_execs_cons (wpAny_If (wpAny_isTrue_Compare1 (Call_ ?_)))
  refine nmG V (W.ext F.keep) g1 v1 (callWith_def (o := o1) hd1 (args_cons (nmL V F l1 hr (args_cons (wpAny_Name (wpAny_loadName_cell V.k hm hcs hC (args_nil ⟨F.keep _ _ ho1, ?_⟩)))))))
  refine indent_call (W.ext F.keep) hg (PA.ext F.keep) R (F.keep _ _ ho1) hd1 (F.keep _ _ htd) (hc1.keeps F.keep) (by omega) h1 h2 fun s1 t1 S1 e1 => ?_
  have F1 := frK F e1
  refine MethodCall_ (conT fun s2 t2 S2 e2 _ _ => GM.join (callWith_method1 (args_cons ?_)))
  have F2 := frK F1 e2
  refine comp_strs (cl := [(Str.ofString "many", C)]) (g := gS (padRow n)) R.h ?_ ?_
  · have hc : ∀ (e : Env) (c : Addr), e.cells.lookup (Str.ofString "many") = some c → cellOf e (Str.ofString "many") = pure c := by
      intro e c he
      unfold cellOf
      rw [he]
    simp [closureFor, hc env C hcs]
  refine MethodCall_ (nmL V F2 l1 hr (GM.split (callWith_method1 (args_cons (conT fun s3 t3 S3 e3 _ _ => args_nil ?_)))))
  refine split_ext (by decide) (by omega) fun s4 D l S4 e4 hl hD => ?_
  have hln := split_len_le rows (Str.ofString "\n")
  have hln2 : l.length = (Txt.split rows (Str.ofString "\n")).length := by rw [← hl, List.length_map]
  refine ⟨D, strValues l, rfl, by simp [strValues]; omega, hD, ?_, ?_⟩
  · intro cenv s5 m5 v E' hv hk5 hl5 hce hn5 hm5 e5
    obtain ⟨y, ty, rfl, hy⟩ := strs_mem hv
    rw [hl] at hy
    have hyl := Nat.le_trans (split_piece_le rows _ _ hy) hrl
    have hcm : cenv.kindOf (Str.ofString "many") = some .cell := by rw [hce]; exact kind_free V.k hm (by rfl)
    have hcl : cenv.cells.lookup (Str.ofString "many") = some C := by rw [hce]; rfl
    have hC5 : s5.heap.IsCell C (some (.int n tn)) := hC.keeps fun b o e => e5 b o (e4 b o (e3 b o (e2 b o (e1 b o e))))
    refine IfExp_ (wpAny_isTrue_Compare1 (wpAny_Name (wpAny_loadName_local hk5 hl5 hn5 hm5 (conT fun s6 t6 S6 e6 _ _ => ?_))))
    refine P.ne_str (wpAny_truthy_bool ?_)
    have hgs : gS (padRow n) (Value.str y ty) = padRow n y := rfl
    rw [hgs]
    by_cases hy0 : y.length = 0
    · have he : y = Str.ofString "" := by
        apply Str.ext'
        exact Array.eq_empty_of_size_eq_zero hy0
      rw [he, show ((Str.ofString "").cps.toList != (Str.ofString "").cps.toList) = false from by decide, if_neg (by decide)]
      rw [he] at hm5
      exact wpAny_Name (wpAny_loadName_local hk5 hl5 (nsK hn5 e6) hm5 ⟨⟨_, by unfold padRow; rw [if_pos (by decide)]⟩, S6, e6⟩)
    · have he : (y.cps.toList != (Str.ofString "").cps.toList) = true := by
        rw [bne_iff_ne]
        intro h
        apply hy0
        have := congrArg List.length h
        rw [show (Str.ofString "").cps.toList.length = 0 from by decide] at this
        simpa [Str.length] using this
      rw [he, if_pos rfl]
      refine wpAny_BinOp (wpAny_BinOp (conT fun s7 t7 S7 e7 _ _ => wpAny_Name (wpAny_loadName_cell hk5 hcm hcl (hC5.keeps (e6.trans e7)) ?_)))
      refine SB.mul (mulOk_blank h1 h2) fun t8 k8 => ?_
      refine wpAny_Name (wpAny_loadName_local hk5 hl5 (nsK hn5 (e6.trans e7)) hm5 ?_)
      refine PyProof.Rows.add_str (fun t9 k9 => ⟨⟨t9, by unfold padRow; rw [if_neg hy0]; rfl⟩, S6.trans (S7.and (Same.refl _)), e6.trans e7⟩) ?_
      have hbl : (Txt.mul (Str.ofString " ") n).length ≤ 10 := (blanks_len h1 h2).1
      omega
  · intro s5 D5 l5 S5 e5 hl5 hD5
    rw [gS_map, hl] at hl5
    refine args_nil (SC.join hD5 hl5 (join_ok (B := 100) _ ?_ ?_) fun t6 k6 => ?_)
    · simp only [List.mem_map]
      rintro y ⟨z, hz1, rfl⟩
      have h3 := Nat.le_trans (split_piece_le rows _ _ hz1) hrl
      have h4 := (blanks_len h1 h2).1
      unfold padRow
      split
      · omega
      · rw [Str.length_append]; omega
    · have e : (Str.ofString "\n").length = 1 := by decide
      rw [e, List.length_map]; omega
    · refine P.ne_str (wpAny_truthy_bool ?_)
      rw [hInd]
      unfold padded
      rw [show ∀ l : List Nat, (l != l) = false from fun l => by simp, if_neg (by decide)]
      exact wpAny_execs_nil (h _ (S1.trans (S2.trans (S3.trans (S4.trans (S5.and (Same.refl _)))))) fun b o e => e5 b o (e4 b o (e3 b o (e2 b o (e1 b o e)))))
end
end Xb4

namespace Xb4
local macro_rules | `(tactic| walk_at "lk") => `(tactic| first | assumption | exact lk_hit | (refine lk_miss (by simp [ofString_inj]) ?_; walk_at "lk"))
section
variable {prog : Program} {w : World} {A : Around} {E : Value → Shared → Prop} {s : Shared} {mg mb m : Str → Option Value} {env : Env} {h₀ : Heap}

theorem str_ne_empty {y : Str} : (y.cps.toList != (Str.ofString "").cps.toList) = !decide (y.length = 0) := by
  rw [show (Str.ofString "").cps.toList = [] from by decide]
  by_cases h : y.length = 0
  · have : y.cps.toList = [] := by simpa [Str.length] using h
    simp [this, h]
  · have : y.cps.toList ≠ [] := by
      intro e
      exact h (by simpa [Str.length] using congrArg List.length e)
    simp [this, h]

/-- the body of the second for -/
def rowBody : List Stmt := forBody ((bodyOf (stm 10)).getD 8 (.Pass ⟨0, 0, 0, 0⟩))

set_option maxHeartbeats 4000000 in
theorem row_turn {f : Addr} {row : Str} {tr : Tok} {E' : Value → Shared → Prop} (V : Ev env lawL lawG) (R : Rm A) (W : Wd mg mb h₀) (fA : FnAt mg h₀ "_comment_line" 6 f)
    (F : Fr h₀ env.locals s.heap m) (hr : m "row" = some (.str row tr)) (hrl : row.length ≤ 63) (hE : commentLine row = lawComment row) :
    wpAny (model prog w) A (execs rowBody env) (fun fl s' => fl = .next ∧ Same s s' ∧ Ext s.heap s'.heap) E' s := by
  have hz : sizeLine = 16777216 := PySem.sizeLine_eq
  have l1 := V.l "row" (by simp)
  have g1 := V.gl "_comment_line" (by simp)
  obtain ⟨v1, o1, pm1, cd1, doc1, ho1, hd1, hc1⟩ := fA
  refine wpAny_execs_cons (wpAny_If (wpAny_isTrue_Compare1 (Call_ ?_)))
  refine nmG V (W.ext F.keep) g1 v1 (callWith_def (o := o1) hd1 (args_cons (nmL V F l1 hr (args_nil ⟨F.keep _ _ ho1, ?_⟩))))
  refine comment_call (W.ext F.keep) R (F.keep _ _ ho1) hd1 (hc1.keeps F.keep) (by omega) fun s1 t1 S1 e1 => ?_
  have F1 := frK F e1
  rw [hE]
  refine IfExp_ (wpAny_isTrue_Compare1 (MethodCall_ (nmL V F1 l1 hr (GM.strip (callWith_method1 (args_cons (conT fun s2 t2 S2 e2 _ _ => args_nil ?_)))))))
  refine SC.stripChars (fun t3 k3 => ?_) (by omega)
  refine conT fun s4 t4 S4 e4 _ _ => P.ne_str (wpAny_truthy_bool ?_)
  have F4 : Fr h₀ env.locals s4.heap m := frK F1 (fun b o e => e4 b o (e2 b o e))
  have S14 : Same s1 s4 := S2.and S4
  have e14 : Ext s1.heap s4.heap := fun b o e => e4 b o (e2 b o e)
  rw [str_ne_empty]
  have same : ∀ l : List Nat, (l != l) = false := fun l => by simp
  have hlr : (Txt.rstripChars row (Str.ofString " \t")).length ≤ row.length := stripBy_le _ _ _ _
  by_cases hc : (Txt.stripChars row (Str.ofString " \t")).length = 0
  · have hx : lawComment row = Str.ofString "#" := by unfold lawComment; rw [if_pos hc]
    rw [decide_eq_true hc, if_neg (by decide)]
    refine conT fun s5 t5 S5 e5 _ _ => P.ne_str (wpAny_truthy_bool ?_)
    rw [hx, same, if_neg (by decide)]
    exact wpAny_execs_nil (wpAny_execs_nil ⟨rfl, S1.trans (S14.trans S5), fun b o e => e5 b o (e14 b o (e1 b o e))⟩)
  · have hx : lawComment row = Str.ofString "# " ++ Txt.rstripChars row (Str.ofString " \t") := by unfold lawComment; rw [if_neg hc]
    rw [decide_eq_false hc, if_pos (by decide)]
    refine wpAny_BinOp (conT fun s5 t5 S5 e5 _ _ => MethodCall_ (nmL V (frK F4 e5) l1 hr (GM.rstrip (callWith_method1 (args_cons (conT fun s6 t6 S6 e6 _ _ => args_nil ?_))))))
    refine SC.rstripChars (fun t7 k7 => ?_) (by omega)
    refine PyProof.Rows.add_str (fun t8 k8 => P.ne_str (wpAny_truthy_bool ?_)) (by rw [show (Str.ofString "# ").length = 2 from by decide]; omega)
    rw [hx, same, if_neg (by decide)]
    exact wpAny_execs_nil (wpAny_execs_nil ⟨rfl, S1.trans (S14.trans (S5.trans (S6.and (Same.refl _)))), fun b o e => e6 b o (e5 b o (e14 b o (e1 b o e)))⟩)

set_option maxHeartbeats 4000000 in
theorem law8 {f : Addr} {rows : Str} {tr : Tok} {Q : Flow → Shared → Prop} (V : Ev env lawL lawG) (R : Rm A) (W : Wd mg mb h₀) (fA : FnAt mg h₀ "_comment_line" 6 f)
    (F : Fr h₀ env.locals s.heap m) (hr : m "rows" = some (.str rows tr)) (hrl : rows.length ≤ 63) (hE : ∀ row ∈ Txt.split rows (Str.ofString "\n"), commentLine row = lawComment row)
    (h : ∀ s' m', Same s s' → Fr h₀ env.locals s'.heap m' → m' "rows" = some (.str rows tr) → wpAny (model prog w) A (execs ((bodyOf (stm 10)).drop 9) env) Q E s') :
    wpAny (model prog w) A (execs ((bodyOf (stm 10)).drop 8) env) Q E s := by
  have l1 := V.l "rows" (by simp)
  have l2 := V.l "row" (by simp)
  refine wpAny_execs_cons (wpAny_For ?_)
  refine MethodCall_ (nmL V F l1 hr (GM.split (callWith_method1 (args_cons (conT fun s0 t0 S0 e0 _ _ => args_nil ?_)))))
  refine split_ext (by decide) (by omega) fun s1 D l S1 e1 hl hD => ?_
  refine wpAny_pyIter_list hD ?_
  have F0 := frK F (e0.trans e1)
  have hlt : ∀ b o, s1.heap.get? b = some o → b ≠ s1.heap.objs.size := fun b o e => Nat.ne_of_lt (Heap.lt_size e)
  have hDL := list_ne_ns F0.ns hD
  obtain ⟨oL, esL, epL, hoL, hdL, hkL, hfL⟩ := id F0.ns
  obtain ⟨oD, hoD, hcD, nD, hdD⟩ := id hD
  have F1 := F0.push ({ cls := .type "list_iterator", data := .fields #[.ref D, .int 0 0] } : Obj)
  refine forW (m := m) (wr := []) (Walks.list R.h _ D (hlt _ _ hoD) (strValues l).toArray) V l2 ?_ ?_ ⟨⟨_, get_push, rfl, rfl⟩, hD.push _⟩ F1.ns
    (fun i h m => m "rows" = some (.str rows tr)) hr ?_ ?_ ?_ ?_
  · intro b hb
    simp only [List.mem_cons, List.not_mem_nil, or_false] at hb
    rcases hb with rfl | rfl
    · exact ⟨Ne.symm (hlt _ _ hoL), by simp⟩
    · exact ⟨hDL, by simp⟩
  · rintro i h ⟨⟨o, ho, _, hd⟩, _⟩
    exact ⟨o, ho, fun a b e => by rw [hd] at e; cases e⟩
  · rintro i h h' m J a hJ k
    exact a
  · rintro i h m v a
    show (if Str.ofString "rows" = Str.ofString "row" then some v else m (Str.ofString "rows")) = _
    walk_at "lk"
  · rintro i vv s2 m2 hi hP S2 hn2 hw2 hk2 a E'
    obtain ⟨y, ty, rfl, hy⟩ := strValues_get hP
    have F2 : Fr h₀ env.locals s2.heap m2 := ⟨hn2, fun b o e => hk2 b o (hlt _ _ (F0.keep _ _ e)) (Nat.ne_of_lt (Nat.lt_of_lt_of_le (Heap.lt_size e) F.above)) (by simp) (F1.keep _ _ e), F.above⟩
    rw [hl] at hy
    have hym := List.mem_of_getElem? hy
    refine wpAny_mono (row_turn V R W fA F2 hw2 (Nat.le_trans (split_piece_le _ _ _ hym) hrl) (hE y hym)) ?_ fun _ _ e => e
    rintro fl s3 ⟨rfl, S3, e3⟩
    exact ⟨S3, fun b o _ _ e => e3 b o e, .inl ⟨rfl, m2, nsK hn2 e3, a⟩⟩
  · rintro s2 m2 S2 hn2 hk2 a
    have F2 : Fr h₀ env.locals s2.heap m2 := ⟨hn2, fun b o e => hk2 b o (hlt _ _ (F0.keep _ _ e)) (Nat.ne_of_lt (Nat.lt_of_lt_of_le (Heap.lt_size e) F.above)) (by simp) (F1.keep _ _ e), F.above⟩
    exact h s2 m2 (S0.trans (S1.and S2)) F2 a

set_option maxHeartbeats 4000000 in
theorem law9 {f : Addr} {rows : Str} {tr : Tok} {Q : Flow → Shared → Prop} (V : Ev env lawL lawG) (R : Rm A) (W : Wd mg mb h₀) (G : GloL mg mb) (fA : FnAt mg h₀ "_strip_exception_details" 7 f)
    (F : Fr h₀ env.locals s.heap m) (hr : m "rows" = some (.str rows tr)) (hrl : rows.length ≤ 63) (hne : ∀ x y : Str, Txt.split x y ≠ []) (hE : stripExc rows = (lawName rows).getLastD Str.empty)
    (h : ∀ s', Same s s' → Ext h₀ s'.heap → Q (.ret (.bool true)) s') :
    wpAny (model prog w) A (execs ((bodyOf (stm 10)).drop 9) env) Q E s := by
  have hz : sizeLine = 16777216 := PySem.sizeLine_eq
  have l1 := V.l "rows" (by simp)
  have l2 := V.l "name" (by simp)
  have g1 := V.gl "_strip_exception_details" (by simp)
  have g2 := V.gl "len" (by simp)
  have first : ∀ {l : List (Str × Tok)} {ys : List Str} {y : Str}, l.map (·.1) = ys → (l.map (·.1))[(0 : Int).toNat]? = some y → ys.headD Str.empty = y := by
    rintro l ys y rfl hy
    rw [show (0 : Int).toNat = 0 from rfl] at hy
    rw [List.headD_eq_head?_getD, List.head?_eq_getElem?, hy]; rfl
  have pos : ∀ {l : List (Str × Tok)} {x y : Str}, l.map (·.1) = Txt.split x y → 0 < l.length ∧ l.length ≤ x.length + 2 := by
    intro l x y hl
    have h1 : l.length = (Txt.split x y).length := by rw [← hl, List.length_map]
    have h2 := split_len_le x y
    have h3 := List.length_pos_iff.mpr (hne x y)
    omega
  refine wpAny_execs_cons (wpAny_Assign_Name (MethodCall_ ?_))
  refine Subscript_ (MethodCall_ ?_)
  refine Subscript_ (MethodCall_ (nmL V F l1 hr (GM.split (callWith_method1 (args_cons (conT fun s1 t1 S1 e1 _ _ => args_nil ?_))))))
  refine split_ext (by decide) (by omega) fun s2 D2 l3 S2 e2 hl3 hD2 => intT fun s3 t3 S3 e3 => ?_
  have p3 := pos hl3
  refine item_strsT (listK hD2 e3) (by decide) (by omega) (by decide) fun y3 ty3 hy3 => ?_
  have q3 := first hl3 hy3
  have r3 : y3.length ≤ 63 := Nat.le_trans (split_piece_le rows (Str.ofString "\n") y3 (by rw [← hl3]; exact List.mem_of_getElem? hy3)) hrl
  refine GM.split (callWith_method1 (args_cons (conT fun s4 t4 S4 e4 _ _ => args_nil ?_)))
  refine split_ext (by decide) (by omega) fun s5 D5 l6 S5 e5 hl6 hD5 => intT fun s6 t6 S6 e6 => ?_
  have p6 := pos hl6
  refine item_strsT (listK hD5 e6) (by decide) (by omega) (by decide) fun y6 ty6 hy6 => ?_
  have q6 := first hl6 hy6
  have r6 : y6.length ≤ 63 := Nat.le_trans (split_piece_le y3 (Str.ofString ":") y6 (by rw [← hl6]; exact List.mem_of_getElem? hy6)) r3
  refine GM.split (callWith_method1 (args_cons (conT fun s7 t7 S7 e7 _ _ => args_nil ?_)))
  refine split_ext (by decide) (by omega) fun s8 D8 l9 S8 e8 hl9 hD8 => ?_
  have p9 := pos hl9
  have hname : lawName rows = l9.map (·.1) := by
    unfold lawName
    rw [q3, q6, hl9]
  have e18 : Ext s.heap s8.heap := fun b o e => e8 b o (e7 b o (e6 b o (e5 b o (e4 b o (e3 b o (e2 b o (e1 b o e)))))))
  have S18 : Same s s8 := S1.trans (S2.trans (S3.trans (S4.trans (S5.trans (S6.trans (S7.trans S8))))))
  have F8 := frK F e18
  refine sto V F8 l2 fun s9 S9 F9 B9 => ?_
  have hD9 : s9.heap.IsList D8 (strValues l9).toArray := by
    obtain ⟨o, ho, r⟩ := id hD8
    exact ⟨o, B9.extBut _ _ (list_ne_ns F8.ns hD8) ho, r⟩
  obtain ⟨v1, o1, pm1, cd1, doc1, ho1, hd1, hc1⟩ := fA
  refine wpAny_execs_cons (wpAny_Return_some (wpAny_Compare1 (Call_ ?_)))
  refine nmG V (W.ext F9.keep) g1 v1 (callWith_def (o := o1) hd1 (args_cons (nmL V F9 l1 (by walk_at "lk") (args_nil ⟨F9.keep _ _ ho1, ?_⟩))))
  refine strip_call (W.ext F9.keep) G.len0 G.len R (F9.keep _ _ ho1) hd1 (hc1.keeps F9.keep) (by omega) fun s10 t10 S10 e10 => ?_
  have F10 := frK F9 e10
  refine Subscript_ (nmL V F10 l2 lk_hit (wpAny_BinOp (Call_ (nmB V (W.ext F10.keep) g2 G.len0 G.len (callWith_builtin1 (args_cons (nmL V F10 l2 lk_hit (args_nil ?_))))))))
  refine call_len_list (listK hD9 e10) (by simp [strValues]; omega) (intT fun s11 t11 S11 e11 => sub_int ?_)
  refine item_strsT (by exact listK hD9 (e10.trans e11)) (by simp [strValues]; omega) (by simp [strValues]; omega) (by simp [strValues]; omega) fun y12 ty12 hy12 => ?_
  have hyL : (lawName rows).getLastD Str.empty = y12 := by
    rw [hname, List.getLastD_eq_getLast?, List.getLast?_eq_getElem?, List.length_map]
    have e : (((strValues l9).toArray.size : Int) - 1).toNat = l9.length - 1 := by simp [strValues]
    rw [e] at hy12
    rw [hy12]; rfl
  rw [hE, hyL]
  refine eq_str ?_
  rw [beq_self_eq_true]
  exact h _ (S18.and (S9.trans (S10.and (S11.and (Same.refl _))))) fun b o e => e11 b o (F10.keep b o e)
end
end Xb4

namespace Xb4
section
variable {prog : Program} {w : World} {A : Around} {E : Value → Shared → Prop} {s : Shared} {mg mb m : Str → Option Value} {h₀ : Heap}

/-- all that the law's body reads of the module -/
structure Mod (mg mb : Str → Option Value) (h : Heap) (f1 f2 f3 f4 f5 a T Td : Addr) : Prop where
  w : Wd mg mb h
  d : ∃ t, mg "ELLIPSIS_MARKER" = some (.str dots t)
  g1 : mg "len" = none
  g2 : mg "max" = none
  g3 : mg "min" = none
  g4 : mg "range" = none
  b1 : mb "len" = some (.builtin "len")
  b2 : mb "max" = some (.builtin "max")
  b3 : mb "min" = some (.builtin "min")
  b4 : mb "range" = some (.type "range")
  f1 : FnAt mg h "_ellipsis_match" 5 f1
  f2 : FnAt mg h "_law_fits" 9 f2
  f3 : FnAt mg h "_comment_line" 6 f3
  f4 : FnAt mg h "_strip_exception_details" 7 f4
  i : IndAt mg h f5 a T Td

theorem rm_caller (e : Env) : Rm (callerA.deeper e) := ⟨rfl, by show callerA.depth + 1 < recursionLimit; decide⟩
theorem un_caller (e : Env) : (callerA.deeper e).units + 100 < cLine := by
  simp [Around.deeper, callerA, cLine]
theorem law_body {L fa sc : Addr} {cd : Value} {f1 f2 f3 f4 f5 a T Td : Addr} {vs : List Value} {ns : List Int} {Q : Flow → Shared → Prop} (R : Rm A) (hu : A.units + 100 < cLine) (M : Mod mg mb h₀ f1 f2 f3 f4 f5 a T Td) (F : Fr h₀ L s.heap m)
    (hsc : m "script" = some (.ref sc)) (hl : h₀.IsList sc vs.toArray) (hI : IntsAre vs ns) (hn : ns.length ≤ 63) (hC : s.heap.IsCell (L + 1) none)
    (h : ∀ s', Same s s' → Ext h₀ s'.heap → Q (.ret (.bool true)) s') : wpAny (model prog w) A (execs (bodyOf (stm 10)) (lawEnv L fa cd)) Q E s := by
  have V := lawEv L fa cd
  have W := M.w
  have GL : GloL mg mb := ⟨M.g1, M.b1, M.g2, M.b2⟩
  have GE : Glo mg mb := ⟨M.d, M.g1, M.b1⟩
  have GF : GloF mg mb := ⟨M.g1, M.b1, M.g3, M.b3, M.g4, M.b4⟩
  have hm : (lawEnv L fa cd).kindOf "many" = some .cell := rfl
  have hcs : (lawEnv L fa cd).cells.lookup (Str.ofString "many") = some (L + 1) := rfl
  have hne : L + 1 ≠ L := Nat.succ_ne_self L
  have hL : (lawEnv L fa cd).locals = L := rfl
  revert V hm hcs hL
  generalize lawEnv L fa cd = env
  intro V hm hcs hL
  subst hL
  refine law0 V R.h W GL F hsc (listK hl F.keep) hI hn fun s1 m1 t1 S1 k1 F1 c1 c2 => ?_
  refine law1 V R.h W GL F1 c1 c2 (listK hl F1.keep) hI hn fun s2 m2 t2 S2 k2 F2 d1 d2 d3 => ?_
  refine law2 V R.h W GL F2 d1 d2 d3 (wish_len ns) (split_ne _ _) fun s3 m3 t3 Dp l S3 k3 F3 e1 e2 e3 e4 e5 e6 e7 => ?_
  refine law4 V R hu W GE GF M.f1 M.f2 F3 e1 e2 e3 e4 e5 e6 e7 (wish_len ns) (text_len ns) (split_two _) (split_ne _ _) (fun g => ellip_fits _ g) fun s4 m4 S4 k4 F4 r1 => ?_
  have hC4 : s4.heap.IsCell (env.locals + 1) none := by
    obtain ⟨o, ho, r⟩ := hC
    exact ⟨o, k4 _ _ hne (k3 _ _ hne (k2 _ _ hne (k1 _ _ hne ho))), r⟩
  obtain ⟨n1, n2⟩ := many_le ns
  refine law5 V R.h W GL F4 r1 (listK hl F4.keep) hI hn hm hcs (Nat.lt_succ_self _) hC4 fun s5 m5 t5 v5 S5 F5 p1 p2 => ?_
  refine law7 V R W M.i F5 p1 (rows_len ns hn) hm hcs p2 n1 n2 (indent_padded _ _) fun s6 S6 x6 => ?_
  refine law8 V R W M.f3 (frK F5 x6) p1 (rows_len ns hn) (comment_law ns) fun s7 m7 S7 F7 q1 => ?_
  refine law9 V R W GL M.f4 F7 q1 (rows_len ns hn) split_ne (strip_law _) fun s8 S8 x8 => ?_
  exact h s8 (S1.trans (S2.trans (S3.trans (S4.trans (S5.trans (S6.trans (S7.trans S8)))))) ) x8
end
end Xb4

open Xb4
set_option maxRecDepth 100000 in
set_option maxHeartbeats 8000000 in
theorem PySem.Challenge.cw_xb0004_01_holds : PySem.Challenge.rw_xb0004_01.Holds := by
  (w_on; o_law; k_head; (case hw => w_witness2); w_strict (k_go0; (
    rename_i w s₀ s₁ mg mb G Y fa o pm doc ho hg KX X V GL T B TE TW a1 a2 M a3 a4 hcd ns hs hlay0 hL1 hr1 hl2 b1 b2 sc vs b3 hl ra w1 r0 hI hr hcond htr K0 hD h1 tk1 F oc right N0 X0
    clear hcd hD hr1
    clear ra w1 r0 hr G Y X V GL B TE TW M ho
    refine law_body (ns := ns) (vs := vs) (sc := sc) (mg := mg) (mb := mb) (h₀ := s₁.heap) (f1 := 51) (f2 := 72) (f3 := 58) (f4 := 65) (f5 := 44) (a := 36) (T := 35) (Td := 37) (rm_caller _) (un_caller _) ⟨⟨T.g, T.b, T.nolimit⟩, ?_, ?_, ?_, ?_, ?_, ?_, ?_, ?_, ?_, ?_, ?_, ?_, ?_, ?_⟩ F (by rfl) hl hI (by omega) ⟨_, N0.get (.head _), right⟩ ?_
    · exact ⟨_, mg_of KX T.g (by rfl)⟩
    · exact mg_none_of KX T.g (by rfl)
    · exact mg_none_of KX T.g (by rfl)
    · exact mg_none_of KX T.g (by rfl)
    · exact mg_none_of KX T.g (by rfl)
    · rw [T.builtins _ (by simp [ofString_inj])]; rfl
    · rw [T.builtins _ (by simp [ofString_inj])]; rfl
    · rw [T.builtins _ (by simp [ofString_inj])]; rfl
    · rw [T.builtins _ (by simp [ofString_inj])]; rfl
    · exact ⟨mg_of KX T.g (by rfl), _, _, _, _, KX 51 _ (by rfl), by rfl, codeRec_of KX (by rfl)⟩
    · exact ⟨mg_of KX T.g (by rfl), _, _, _, _, KX 72 _ (by rfl), by rfl, codeRec_of KX (by rfl)⟩
    · exact ⟨mg_of KX T.g (by rfl), _, _, _, _, KX 58 _ (by rfl), by rfl, codeRec_of KX (by rfl)⟩
    · exact ⟨mg_of KX T.g (by rfl), _, _, _, _, KX 65 _ (by rfl), by rfl, codeRec_of KX (by rfl)⟩
    · exact ⟨mg_of KX T.g (by rfl), mg_of KX T.g (by rfl), ⟨⟨_, _, _, _, KX 36 _ (by rfl)⟩, KX 35 _ (by rfl)⟩, ⟨_, KX 37 _ (by rfl)⟩, ⟨_, _, _, _, KX 44 _ (by rfl), by rfl, codeRec_of KX (by rfl)⟩⟩
    · intro s' S e
      refine ⟨.inl ⟨.bool true, .bool true, [], rfl, raisesW_false ?_, .bool true, ?_, unshared_nil⟩, e, S.o, S.g.trans hg⟩
      · wrow_none_raised
      · refine' postW_of ?ps ?pv ?pe
        (case ps => o_shape)
        (case pv => wtm_val)
        (case pe => w_fin))))
