import PyProof.Rows.All
import Wide.All
import OpenK.AllK
import Wide.FinOn
import PySem.Challenge.RW_pg0055_01
set_option Elab.async false
set_option linter.unusedVariables false
set_option pp.deepTerms false
set_option pp.maxSteps 300

section
-- Hd
open PySem PySem.W PyProof.Rows
set_option maxRecDepth 100000
set_option maxHeartbeats 0
namespace Mine
open_top hd for PySem.Challenge.rw_pg0055_01
end Mine
end

section
-- B0
open PySem PySem.W PyProof.Rows PySem.Spec PySem.Calls
set_option maxRecDepth 100000
namespace Mine
noncomputable abbrev LS : List Str := looseW hd.view_39 [Str.ofString "_twin_re_1", Str.ofString "_twin_re_2"]
noncomputable abbrev P0 : Program := PySem.Challenge.rw_pg0055_01.row.prog

/-- all that stood stands -/
def Kp (h h' : Heap) : Prop := ∀ b o, h.get? b = some o → h'.get? b = some o
theorem Kp.refl (h : Heap) : Kp h h := fun _ _ e => e
theorem Kp.trans {a b c : Heap} (x : Kp a b) (y : Kp b c) : Kp a c := fun p o e => y p o (x p o e)
theorem Kp.push (h : Heap) (o : Obj) : Kp h (h.push o) := fun _ _ e => Heap.get?_push_of_some _ e
theorem Kp.none {h h' : Heap} (k : Kp h h') {a : Addr} (e : h'.get? a = none) : h.get? a = none := by
  cases q : h.get? a with
  | none => rfl
  | some o => rw [k a o q] at e; cases e
def St (s : Shared) (h : Heap) (tk : Nat) : Shared := { s with heap := h, toks := tk }

/-- what stands at every heap of the call: the text's own objects, the names of the top -/
structure Gd (w : World) (h : Heap) : Prop where
  X : (hd.heap_39 w.params).In h
  T : ∃ mg mb, TopRead hd.view_39 LS mg mb h
theorem Gd.keeps {w : World} {h h' : Heap} (g : Gd w h) (k : Kp h h') : Gd w h' :=
  ⟨g.X.keeps k, let ⟨mg, mb, t⟩ := g.T; ⟨mg, mb, t.keeps k⟩⟩

structure Rm (A : Around) (d : Nat) : Prop where
  hh : A.handled = none
  dp : A.depth + d < recursionLimit
  un : A.units + 4 * d < cLine
theorem Rm.deeper {A : Around} {d : Nat} (r : Rm A (d + 1)) (env : Env) : Rm (A.deeper env) d :=
  ⟨r.hh, by have := r.dp; show A.depth + 1 + d < _; omega, by have := r.un; show A.units + 3 + 4 * d < _; omega⟩
theorem Rm.le {A : Around} {d d' : Nat} (r : Rm A d) (h : d' ≤ d) : Rm A d' := ⟨r.hh, by have := r.dp; omega, by have := r.un; omega⟩

theorem noE {α : Type} {M : Model} {A : Around} {t : Sem α} {Q : α → Shared → Prop} {E : Value → Shared → Prop} {s : Shared} (h : wpAny M A t Q (fun _ _ => False) s) : wpAny M A t Q E s :=
  wpAny_mono h (fun _ _ q => q) fun _ _ e => e.elim

/-- the tree ends, keeps what it found, and what it gives back is as P says -/
def Qs {α : Type} (w : World) (A : Around) (t : Sem α) (s : Shared) (h : Heap) (tk : Nat) (P : α → Heap → Prop) : Prop :=
  wpAny (model P0 w) A t (fun v s' => ∃ h' tk', s' = St s h' tk' ∧ Kp h h' ∧ P v h') (fun _ _ => False) (St s h tk)
theorem Qs.use {α : Type} {w : World} {A : Around} {t : Sem α} {s : Shared} {h : Heap} {tk : Nat} {P : α → Heap → Prop} {Q : α → Shared → Prop} {E : Value → Shared → Prop} (q : Qs w A t s h tk P)
    (k : ∀ v h' tk', Kp h h' → P v h' → Q v (St s h' tk')) : wpAny (model P0 w) A t Q E (St s h tk) :=
  wpAny_mono q (fun v s' ⟨h', tk', e, kk, p⟩ => by subst e; exact k v h' tk' kk p) fun _ _ e => e.elim
theorem Qs.mono {α : Type} {w : World} {A : Around} {t : Sem α} {s : Shared} {h : Heap} {tk : Nat} {P P' : α → Heap → Prop} (q : Qs w A t s h tk P) (k : ∀ v h', Kp h h' → P v h' → P' v h') : Qs w A t s h tk P' :=
  wpAny_mono q (fun v s' ⟨h', tk', e, kk, p⟩ => ⟨h', tk', e, kk, k v h' kk p⟩) fun _ _ e => e

section
variable {w : World} {A : Around} {s : Shared} {h : Heap} {tk : Nat} {f : Addr} {args : Args} {binds : List (Str × Value)} {E : Value → Shared → Prop} {Q : Value → Shared → Prop}
  {name qual : Str} {params : Arguments} {body : List Stmt} {scope : Scope} {dV kV doc pm cdv ct oc : Value} {an od : Option Addr} {osl : Array (Option Value)}
theorem enter {vs : List Value} {d : Nat} (g : Gd w h) (r : Rm A (d + 1))
    (ho : (hd.heap_39 w.params).lookup f = some ⟨oc, od, .func (fnOf name qual params body scope dV kV doc pm an cdv ct), osl⟩) (hcd : codeIn (hd.heap_39 w.params) cdv qual = true)
    (hbind : bindArgs (fnOf name qual params body scope dV kV doc pm an cdv ct) ⟨vs, []⟩ = pure binds) (hloc : (binds.all fun y => scope.names.lookup y.1 == some .local) = true)
    (hcell : ∀ x ∈ scope.names, x.2 ≠ .cell) (hco : scope.isCoroutine = false) (hgen : scope.isGenerator = false) (hk : scope.kind = .function)
    (H : ∀ A' L h₁ tk₁, Rm A' d → Fr h L h₁ (fun y => binds.reverse.lookup y) → News h L h₁ [] → Gd w h₁ →
      wpAny (model P0 w) A' (execs body (envX qual scope L f cdv []))
        (fun fl s' => Q (match fl with | .ret v => v | _ => .none) s') (fun _ _ => False) (St s h₁ tk₁)) :
    wpAny (model P0 w) A (call (.ref f) vs) Q E (St s h tk) := by
  obtain ⟨mg, mb, T⟩ := g.T
  have hloc' : ∀ y ∈ binds, scope.names.lookup y.1 = some .local := fun y hy => by simpa using List.all_eq_true.mp hloc y hy
  refine wpAny_call (codeAny_call_def (s := St s h tk) (fd := fnOf name qual params body scope dV kV doc pm an cdv ct) (body := body) (binds := binds) (Nat.lt_of_le_of_lt (Nat.le_add_right _ _) r.dp) (g.X _ _ ho) rfl T.nolimit (codeRec_of g.X hcd) rfl (BindsTo.of_eq hbind) hcell hloc' (fun h₁ hns hk₁ => ?_) hco hgen hk)
  exact wpAny_mono (H _ h.objs.size h₁ _ (r.deeper _) ⟨hns, hk₁, Nat.le_refl _⟩ News.nil (g.keeps hk₁)) (fun fl s' hl => by cases fl <;> exact hl) fun _ _ y => y.elim
theorem enterC {vs : List Value} {d : Nat} (g : Gd w h) (r : Rm A (d + 1))
    (ho : (hd.heap_39 w.params).lookup f = some ⟨oc, od, .func (fnOf name qual params body scope dV kV doc pm an cdv ct), osl⟩) (hcd : codeIn (hd.heap_39 w.params) cdv qual = true)
    (hbind : bindArgs (fnOf name qual params body scope dV kV doc pm an cdv ct) ⟨vs, []⟩ = pure binds)
    (hkind : (binds.all fun y => scope.names.lookup y.1 == some .local || scope.names.lookup y.1 == some .cell) = true)
    (hnd : ((cellsFrom 0 scope.names []).map (·.1)).Nodup) (hco : scope.isCoroutine = false) (hgen : scope.isGenerator = false) (hk : scope.kind = .function)
    (H : ∀ A' L h₁ tk₁ cells, Rm A' d → Fr h L h₁ (bindL (envOfC qual scope L f cdv).kindOf binds fun _ => none) → News h L h₁ cells →
      CellsAre (bindC (envOfC qual scope L f cdv).kindOf binds fun _ => none) (cellsFrom (L + 1) scope.names []) cells → Gd w h₁ →
      wpAny (model P0 w) A' (execs body (envX qual scope L f cdv (cellsFrom (L + 1) scope.names [])))
        (fun fl s' => Q (match fl with | .ret v => v | _ => .none) s') (fun _ _ => False) (St s h₁ tk₁)) :
    wpAny (model P0 w) A (call (.ref f) vs) Q E (St s h tk) := by
  obtain ⟨mg, mb, T⟩ := g.T
  refine wpAny_call (codeAny_call_function (s := St s h tk) (Nat.lt_of_le_of_lt (Nat.le_add_right _ _) r.dp) (g.X _ _ ho) rfl hco hgen rfl (codeRec_of g.X hcd) ((BindsTo.of_eq hbind) _ _ _ _ ?_))
  refine wpAny_newFunctionEnv_cells hk (kindsX hkind _) fun env' he s' x => ?_
  subst he
  refine ⟨T.nolimit.keeps x.toInCall.keep, codeAny_func ?_⟩
  obtain ⟨h₁, tk, rfl, _⟩ := x.done
  have hk₁ := x.toInCall.keep
  obtain ⟨cells, NC, Y⟩ := Cl.news (h₀ := h) (L := h.objs.size) (Nat.le_refl _) fun n c hm => ⟨x.cell n c (lookup_of_mem_nodup (cellsFrom_names scope.names 0 (h.objs.size + 1) [] [] rfl ▸ hnd) hm), x.above n c hm⟩
  exact wpAny_mono (H _ h.objs.size h₁ tk cells (r.deeper _) ⟨x.toInCall.ns, hk₁, Nat.le_refl _⟩ NC Y (g.keeps hk₁)) (fun fl s' hl => by cases fl <;> exact hl) fun _ _ y => y.elim
end

section
variable {w : World} {A : Around} {s : Shared} {h : Heap} {tk : Nat} {E : Value → Shared → Prop} {Q : Value → Shared → Prop} {env : Env} {x : Str} {pos : Pos} {v : Value} {m : Str → Option Value}
theorem nmG (g : Gd w h) (e : nsIn (hd.heap_39 w.params) mainGlobals x = some (some v)) (H : Q v (St s h tk)) (hg : env.globals = mainGlobals := by rfl) (hk : env.scope.kind = .function := by rfl)
    (hx : env.kindOf x = some .globalImplicit := by rfl) (hd : (x == ("__debug__" : Str)) = false := by decide) : wpAny (model P0 w) A (eval (.Name x pos) env) Q E (St s h tk) := by
  obtain ⟨mg, mb, T⟩ := g.T
  exact Name_function_global hk hx (loadGlobal_global (by rw [hg]; exact T.g) (mg_of g.X T.g e) H) hd
theorem nmB (g : Gd w h) (e : nsIn (hd.heap_39 w.params) mainGlobals x = some none) (hv : bootBuiltins x = some v) (hn : x ≠ "__name__") (H : Q v (St s h tk)) (hg : env.globals = mainGlobals := by rfl) (hb : env.builtins = builtinsNs := by rfl) (hk : env.scope.kind = .function := by rfl)
    (hx : env.kindOf x = some .globalImplicit := by rfl) (hd : (x == ("__debug__" : Str)) = false := by decide) : wpAny (model P0 w) A (eval (.Name x pos) env) Q E (St s h tk) := by
  obtain ⟨mg, mb, T⟩ := g.T
  exact Name_function_global hk hx (loadGlobal_builtin (by rw [hg]; exact T.g) (mg_none_of g.X T.g e) (by rw [hb]; exact T.b) ((T.builtins x hn).trans hv) H) hd
theorem nmL (hn : h.Ns env.locals m) (hv : m x = some v) (H : Q v (St s h tk)) (hk : env.scope.kind = .function := by rfl) (hx : env.kindOf x = some .local := by rfl) (hd : (x == ("__debug__" : Str)) = false := by decide) :
    wpAny (model P0 w) A (eval (.Name x pos) env) Q E (St s h tk) := wpAny_Name (wpAny_loadName_local hk hx hn hv H) hd
theorem nmC {c : Addr} (hc : env.cells.lookup x = some c) (hv : h.IsCell c (some v)) (H : Q v (St s h tk)) (hk : env.scope.kind = .function := by rfl) (hx : env.kindOf x = some .cell := by rfl) (hd : (x == ("__debug__" : Str)) = false := by decide) :
    wpAny (model P0 w) A (eval (.Name x pos) env) Q E (St s h tk) := wpAny_Name (wpAny_loadName_cell hk hx hc hv H) hd
/-- a call of one of the text's own defs, by its name, with at least one argument -/
theorem callO {p : Pos} {e : Expr} {rest : List Expr} {f : Addr} {oc : Value} {od : Option Addr} {osl : Array (Option Value)} {fd : FuncData} (g : Gd w h) (hx : nsIn (hd.heap_39 w.params) mainGlobals x = some (some (.ref f)))
    (ho : (hd.heap_39 w.params).lookup f = some ⟨oc, od, .func fd, osl⟩)
    (H : wpAny (model P0 w) A (spliced (backTo pos (starEach (e :: rest) env))) (fun vs s₁ => Gd w s₁.heap ∧ wpAny (model P0 w) A (call (.ref f) vs) Q E s₁) E (St s h tk))
    (hg : env.globals = mainGlobals := by rfl) (hk : env.scope.kind = .function := by rfl) (hx' : env.kindOf x = some .globalImplicit := by rfl) (hd : (x == ("__debug__" : Str)) = false := by decide)
    (he : starEach (e :: rest) env = (false, eval e env) :: starEach rest env := by rfl) :
    wpAny (model P0 w) A (eval (.Call (.Name x p) (e :: rest) [] pos) env) Q E (St s h tk) := by
  refine Call_ (nmG g hx ?_ hg hk hx' hd)
  exact callWith_def (o := ⟨oc, od, .func fd, osl⟩) (fd := fd) rfl (wpAny_mono H (fun vs s₁ q => ⟨q.1.X _ _ ho, q.2⟩) fun _ _ e => e) he
/-- a call of a built-in function, by its name -/
theorem callB {p : Pos} {e : Expr} {rest : List Expr} {id : String} (g : Gd w h) (hx : nsIn (hd.heap_39 w.params) mainGlobals x = some none) (hv : bootBuiltins x = some (.builtin id))
    (H : wpAny (model P0 w) A (spliced (backTo pos (starEach (e :: rest) env))) (fun vs s₁ => wpAny (model P0 w) A (call (.builtin id) vs) Q E s₁) E (St s h tk))
    (hn : x ≠ "__name__" := by decide) (hg : env.globals = mainGlobals := by rfl) (hb : env.builtins = builtinsNs := by rfl) (hk : env.scope.kind = .function := by rfl) (hx' : env.kindOf x = some .globalImplicit := by rfl) (hd : (x == ("__debug__" : Str)) = false := by decide)
    (he : starEach (e :: rest) env = (false, eval e env) :: starEach rest env := by rfl) (hp : (backTo pos (starEach rest env)).any (·.1) = false := by rfl) :
    wpAny (model P0 w) A (eval (.Call (.Name x p) (e :: rest) [] pos) env) Q E (St s h tk) :=
  Call_ (nmB g hx hv hn (callWith_builtin1 H he hp) hg hb hk hx' hd)
/-- a call of a built-in class, by its name -/
theorem callT {p : Pos} {e : Expr} {rest : List Expr} {T : String} (g : Gd w h) (hx : nsIn (hd.heap_39 w.params) mainGlobals x = some none) (hv : bootBuiltins x = some (.type T))
    (H : wpAny (model P0 w) A (spliced (backTo pos (starEach (e :: rest) env))) (fun vs s₁ => wpAny (model P0 w) A (call (.type T) vs) Q E s₁) E (St s h tk))
    (hn : x ≠ "__name__" := by decide) (hg : env.globals = mainGlobals := by rfl) (hb : env.builtins = builtinsNs := by rfl) (hk : env.scope.kind = .function := by rfl) (hx' : env.kindOf x = some .globalImplicit := by rfl) (hd : (x == ("__debug__" : Str)) = false := by decide)
    (he : starEach (e :: rest) env = (false, eval e env) :: starEach rest env := by rfl) (hp : (backTo pos (starEach rest env)).any (·.1) = false := by rfl) :
    wpAny (model P0 w) A (eval (.Call (.Name x p) (e :: rest) [] pos) env) Q E (St s h tk) :=
  Call_ (nmB g hx hv hn (callWith_type1 H he hp) hg hb hk hx' hd)
end

section
variable {w : World} {A : Around} {s : Shared} {h : Heap} {tk : Nat} {E : Value → Shared → Prop} {Q : Value → Shared → Prop} {env : Env} {a b : Int} {t u : Tok}
theorem cI {i : Int} {k : Nat} {pos : Pos} (H : ∀ t tk', Q (.int i t) (St s h tk')) : wpAny (model P0 w) A (eval (.Constant (.int i) k pos) env) Q E (St s h tk) := wpAny_Constant_int (H _ _)
theorem cS {x : Str} {k : Nat} {pos : Pos} (H : ∀ t tk', Q (.str x t) (St s h tk')) : wpAny (model P0 w) A (eval (.Constant (.str x) k pos) env) Q E (St s h tk) := Constant_str (H _ _)
theorem bAdd (H : ∀ t tk', Q (.int (a + b) t) (St s h tk')) : wpAny (model P0 w) A (binaryOp .Add (.int a t) (.int b u)) Q E (St s h tk) := PyProof.Rows.add_int (H _ _)
theorem bSub (H : ∀ t tk', Q (.int (a - b) t) (St s h tk')) : wpAny (model P0 w) A (binaryOp .Sub (.int a t) (.int b u)) Q E (St s h tk) := PyProof.Rows.sub_int (H _ _)
theorem bMod (hb : b ≠ 0) (H : ∀ t tk', Q (.int (a.fmod b) t) (St s h tk')) : wpAny (model P0 w) A (binaryOp .Mod (.int a t) (.int b u)) Q E (St s h tk) := PyProof.Rows.mod_int hb (H _ _)
theorem bMul (hm : IntMulOk a b) (H : ∀ t tk', Q (.int (a * b) t) (St s h tk')) : wpAny (model P0 w) A (binaryOp .Mult (.int a t) (.int b u)) Q E (St s h tk) := PySem.P.mul_int (H _ _) hm
theorem bDiv (hb : b ≠ 0) (hp : Builtin.divisionGoesByPylong a b = false) (H : ∀ t tk', Q (.int (a.fdiv b) t) (St s h tk')) : wpAny (model P0 w) A (binaryOp .FloorDiv (.int a t) (.int b u)) Q E (St s h tk) := floordiv_int hb (H _ _) (.inl hp)
theorem stL {x : Str} {v : Value} {m : Str → Option Value} {h₀ : Heap} {news : List (Addr × Obj)} {Q : Unit → Shared → Prop} (F : Fr h₀ env.locals h m) (N : News h₀ env.locals h news)
    (H : ∀ h' tk', Fr h₀ env.locals h' (fun y => if y = x then some v else m y) → News h₀ env.locals h' news → Heap.SameBut env.locals h h' → Q () (St s h' tk')) (hk : env.scope.kind = .function := by rfl) (hx : env.kindOf x = some .local := by rfl) :
    wpAny (model P0 w) A (storeName env x v) Q E (St s h tk) :=
  wpAny_storeName_local (s := St s h tk) hx F.ns (fun h' hn hs => H h' _ (F.set hn hs) (N.set hs) hs) (by show (env.scope.kind == .class || (env.scope.kind == .module && env.locals != env.globals)) = false; rw [hk]; rfl)
end
end Mine
end

section
-- B1
open PySem PySem.W PyProof.Rows PySem.Spec PySem.Calls
set_option maxRecDepth 100000
namespace Mine
/-- what can be walked: n items, the i-th as P says; nothing that stood is changed -/
def Src (w : World) (A : Around) (xv : Value) (s : Shared) (h : Heap) (tk : Nat) (n : Nat) (P : Nat → Value → Prop) : Prop :=
  ∀ (Q : Value → Shared → Prop) (E : Value → Shared → Prop),
    (∀ I fp T h₁, Kp h h₁ → h.objs.size ≤ I → Walks P0 w A I fp [I] n P T → T 0 h₁ → (∀ b ∈ fp, b < h₁.objs.size) →
      (∀ b ∈ fp, b ≠ I → ∃ o, h.get? b = some o) → Q (.ref I) (St s h₁ tk)) → wpAny (model P0 w) A (pyIter xv) Q E (St s h tk)

section
variable {w : World} {A : Around} {s : Shared} {h : Heap} {tk : Nat}
theorem Src.list (hh : A.handled = none) {l : Addr} {items : Array Value} (hl : h.IsList l items) : Src w A (.ref l) s h tk items.size (fun i v => items[i]? = some v) := fun Q E H => by
  have hlt : l < h.objs.size := by obtain ⟨_, e, _⟩ := hl; exact Heap.lt_size e
  refine wpAny_pyIter_list (s := St s h tk) hl (H h.objs.size [h.objs.size, l] _ _ (Kp.push _ _) (Nat.le_refl _) (Walks.list hh h.objs.size l (Nat.ne_of_lt hlt) items)
    ⟨⟨_, Heap.get?_push_size _ rfl, rfl, rfl⟩, hl.push _⟩ (fun b hb => ?_) fun b hb hne => ?_)
  · rw [Heap.size_push]
    rcases List.mem_cons.mp hb with rfl | hb
    · exact Nat.lt_succ_self _
    · rw [List.mem_singleton.mp hb]; exact Nat.lt_succ_of_lt hlt
  · rcases List.mem_cons.mp hb with rfl | hb
    · exact absurd rfl hne
    · obtain ⟨o, e, _⟩ := hl
      rw [List.mem_singleton.mp hb]; exact ⟨o, e⟩
theorem Src.tuple (hh : A.handled = none) {l : Addr} {items : Array Value} (hl : h.IsTuple l items) : Src w A (.ref l) s h tk items.size (fun i v => items[i]? = some v) := fun Q E H => by
  have hlt : l < h.objs.size := by obtain ⟨_, e, _⟩ := hl; exact Heap.lt_size e
  refine wpAny_pyIter_tuple (s := St s h tk) hl (H h.objs.size [h.objs.size, l] _ _ (Kp.push _ _) (Nat.le_refl _) (Walks.tuple hh h.objs.size l (Nat.ne_of_lt hlt) items)
    ⟨⟨_, Heap.get?_push_size _ rfl, rfl, rfl⟩, hl.push _⟩ (fun b hb => ?_) fun b hb hne => ?_)
  · rw [Heap.size_push]
    rcases List.mem_cons.mp hb with rfl | hb
    · exact Nat.lt_succ_self _
    · rw [List.mem_singleton.mp hb]; exact Nat.lt_succ_of_lt hlt
  · rcases List.mem_cons.mp hb with rfl | hb
    · exact absurd rfl hne
    · obtain ⟨o, e, _⟩ := hl
      rw [List.mem_singleton.mp hb]; exact ⟨o, e⟩
theorem Src.range (hh : A.handled = none) {r : Addr} {a b : Int} {t u v : Tok} {n : Nat} (hr : IsRange h r a b 1 t u v) (hs : Builtin.Range.small a b 1 = true) (hn : Builtin.Range.rangeSize a b 1 = (n : Int)) :
    Src w A (.ref r) s h tk n (fun i v => ∃ t, v = .int (a + i) t) := fun Q E H => by
  have W : Walks P0 w A h.objs.size [h.objs.size] [h.objs.size] n (fun i v => ∃ t, v = .int (a + i) t) (fun i g => IsRangeIter g h.objs.size (a + (i : Nat) * 1) ((n : Int) - (i : Nat)) 1) := by
    have W := Walks.range (prog := P0) (w := w) hh h.objs.size a 1 n
    exact { sub := W.sub, frame := W.frame, done := W.done, self := W.self, item := fun i s Q E hi st hQ => W.item i s Q E hi st fun v h' tk hP => hQ v h' tk (by obtain ⟨t, rfl⟩ := hP; exact ⟨t, by rw [Int.mul_one]⟩) }
  refine wpAny_pyIter_range (s := St s h tk) hr hs (H h.objs.size [h.objs.size] _ _ (Kp.push _ _) (Nat.le_refl _) W ?_ (fun b hb => ?_) fun b hb hne => ?_)
  · show IsRangeIter (h.push _) _ _ _ _; rw [hn]; simpa using Heap.get?_push_size h rfl
  · rw [Heap.size_push, List.mem_singleton.mp hb]; exact Nat.lt_succ_self _
  · exact absurd (List.mem_singleton.mp hb) hne
theorem Src.str (hh : A.handled = none) {x : Str} {t : Tok} : Src w A (.str x t) s h tk x.cps.size (SignAt x) := fun Q E H => by
  refine wpAny_pyIter_str (s := St s h tk) fun o T W st => H h.objs.size [h.objs.size] T _ (Kp.push _ _) (Nat.le_refl _) (W A hh) st (fun b hb => ?_) fun b hb hne => ?_
  · rw [Heap.size_push, List.mem_singleton.mp hb]; exact Nat.lt_succ_self _
  · exact absurd (List.mem_singleton.mp hb) hne
end

def isI (v : Value) (n : Int) : Prop := ∃ t, v = .int n t
def isS (v : Value) (x : Str) : Prop := ∃ t, v = .str x t
def isF (v : Value) (x : UInt64) : Prop := ∃ t, v = .float x t
theorem isI.det {v : Value} {a b : Int} (h : isI v a) (k : isI v b) : a = b := by obtain ⟨t, rfl⟩ := h; obtain ⟨u, e⟩ := k; cases e; rfl
theorem isS.det {v : Value} {a b : Str} (h : isS v a) (k : isS v b) : a = b := by obtain ⟨t, rfl⟩ := h; obtain ⟨u, e⟩ := k; cases e; rfl
theorem isF.det {v : Value} {a b : UInt64} (h : isF v a) (k : isF v b) : a = b := by obtain ⟨t, rfl⟩ := h; obtain ⟨u, e⟩ := k; cases e; rfl
theorem paired_get {α β : Type} {R : α → β → Prop} : ∀ {vs : List α} {as : List β}, Paired R vs as → ∀ (i : Nat) (v : α), vs[i]? = some v → ∃ a, as[i]? = some a ∧ R v a
  | _, _, .nil, i, v, h => by simp at h
  | _, _, .cons r t, 0, v, h => by simp at h; subst h; exact ⟨_, rfl, r⟩
  | _, _, .cons r t, i + 1, v, h => by simp at h; exact paired_get t i v h
theorem paired_at {α β : Type} {R : α → β → Prop} : ∀ {vs : List α} {as : List β}, Paired R vs as → ∀ (i : Nat) (a : β), as[i]? = some a → ∃ v, vs[i]? = some v ∧ R v a
  | _, _, .nil, i, v, h => by simp at h
  | _, _, .cons r t, 0, v, h => by simp at h; subst h; exact ⟨_, rfl, r⟩
  | _, _, .cons r t, i + 1, v, h => by simp at h; exact paired_at t i v h
theorem paired_of {α β γ : Type} {P : Nat → α → Prop} {F : α → γ → Prop} {S : γ → Nat → β → Prop} : ∀ (k : Nat) {vs : List α} {ys : List γ} (as : List β), vs.length = as.length → (∀ j v, vs[j]? = some v → P (k + j) v) → Paired F vs ys →
    (∀ i v a y, P (k + i) v → as[i]? = some a → F v y → S y (k + i) a) → ∀ (i : Nat) (a : β), as[i]? = some a → ∃ y, ys[i]? = some y ∧ S y (k + i) a
  | k, _, _, [], hl, hP, .nil, hS, i, a, h => by simp at h
  | k, v :: vs, y :: ys, a :: as, hl, hP, .cons hF r, hS, 0, b, h => by
    simp at h; subst h; exact ⟨y, rfl, hS 0 v a y (hP 0 v rfl) rfl hF⟩
  | k, v :: vs, y :: ys, a :: as, hl, hP, .cons hF r, hS, i + 1, b, h => by
    have := paired_of (P := P) (S := S) (k + 1) as (by simpa using hl) (fun j v hj => by have := hP (j + 1) v (by simpa using hj); rwa [Nat.add_right_comm, Nat.add_assoc]) r
      (fun i v a y hp ha hf => by rw [Nat.add_right_comm, Nat.add_assoc]; exact hS (i + 1) v a y (by rwa [Nat.add_right_comm, Nat.add_assoc] at hp) (by simpa using ha) hf) i b (by simpa using h)
    rw [Nat.add_right_comm, Nat.add_assoc] at this
    simpa using this
theorem paired_mk {α β : Type} {S : α → β → Prop} : ∀ {ys : List α} {bs : List β}, ys.length = bs.length → (∀ (i : Nat) (b : β), bs[i]? = some b → ∃ y, ys[i]? = some y ∧ S y b) → Paired S ys bs
  | [], [], _, _ => .nil
  | y :: ys, b :: bs, hl, h => by
    obtain ⟨y', e, hs⟩ := h 0 b rfl
    simp at e; subst e
    exact .cons hs (paired_mk (by simpa using hl) fun i b hb => by have := h (i + 1) b (by simpa using hb); simpa using this)

/-- a plain list at l, its items; its ints; its texts -/
def LO (h : Heap) (l : Addr) (vs : List Value) : Prop := h.IsList l vs.toArray
def LI (h : Heap) (l : Addr) (ns : List Int) : Prop := ∃ vs, LO h l vs ∧ Paired isI vs ns
def LT (h : Heap) (l : Addr) (ts : List Str) : Prop := ∃ vs, LO h l vs ∧ Paired isS vs ts
theorem LO.isList {h : Heap} {l : Addr} {vs : List Value} (x : LO h l vs) : h.IsList l vs.toArray := x
theorem LO.keeps {h h' : Heap} {l : Addr} {vs : List Value} (x : LO h l vs) (k : Kp h h') : LO h' l vs := let ⟨o, e, r⟩ := x; ⟨o, k _ _ e, r⟩
theorem LI.keeps {h h' : Heap} {l : Addr} {ns : List Int} (x : LI h l ns) (k : Kp h h') : LI h' l ns := let ⟨vs, e, p⟩ := x; ⟨vs, e.keeps k, p⟩
theorem LT.keeps {h h' : Heap} {l : Addr} {ns : List Str} (x : LT h l ns) (k : Kp h h') : LT h' l ns := let ⟨vs, e, p⟩ := x; ⟨vs, e.keeps k, p⟩

section
variable {w : World} {A : Around} {s : Shared} {h : Heap} {tk : Nat} {env : Env} {E : Value → Shared → Prop}
/-- a list comprehension over one name, no test, its elements quiet; the i-th item's element is as G says -/
theorem lcompG {elt iter : Expr} {x : Str} {px : Pos} {scope : Scope} {cl : List (Str × Addr)} {pos : Pos} {Q : Value → Shared → Prop}
    (hclos : closureFor scope env = pure cl) (hcell : ∀ y ∈ scope.names, y.2 ≠ .cell) (hkind : scope.kind = .function)
    (hnames : ∀ y ∈ scope.names, y.2 = .local → scope.names.lookup y.1 = some .local) (hx : scope.names.lookup x = some .local)
    (H : wpAny (model P0 w) A (eval iter env) (fun xv s₁ => ∃ (h₁ : Heap) (tk₁ n : Nat) (P : Nat → Value → Prop) (F : Value → Value → Prop), s₁ = St s h₁ tk₁ ∧ Src w A xv s h₁ tk₁ n P ∧ n ≤ sizeLine ∧
      (∀ C i v s₃ h₃ tk₃ m₃, i < n → P i v → h₃.Ns C m₃ → m₃ x = some v → Kp h₁ h₃ → Qs w A (eval elt (compEnvC scope cl C env)) s₃ h₃ tk₃ (fun y _ => F v y)) ∧
      (∀ D h' tk' (vs ys : List Value), h₁.get? D = none → LO h' D ys → vs.length = n → (∀ j v, vs[j]? = some v → P j v) → Paired F vs ys → Kp h₁ h' → Q (.ref D) (St s h' tk'))) E (St s h tk))
    (hs : ∀ x, foldedSetIterable iter env x = pure x := by intro _; rfl) :
    wpAny (model P0 w) A (eval (.ListComp elt [⟨.Name x px, iter, [], 0⟩] scope pos) env) Q E (St s h tk) := by
  rw [eval_ListComp]
  refine wpAny_comprehension_free (use := none) rfl hs hclos hkind hnames (wpAny_mono H (fun xv s₁ h₁ => ?_) fun _ _ e => e)
  obtain ⟨h₀, tk₀, n, P, F, rfl, src, hsz, helt, hQ⟩ := h₁
  refine src _ _ fun I fp T h₁ hk hI W hst hfp hfo => ?_
  have hin : ∀ b o, h₀.get? b = some o → b ∉ [I] := fun b o e hm => by
    rw [List.mem_singleton.mp hm] at e; exact absurd (Heap.lt_size e) (Nat.not_lt.mpr hI)
  have W' : Walks P0 w A I fp [I] n (fun i v => i < n ∧ P i v) T := { sub := W.sub, frame := W.frame, done := W.done, self := W.self, item := fun i s Q E hi st hQ => W.item i s Q E hi st fun v h' tk hP => hQ v h' tk ⟨hi, hP⟩ }
  refine comp_block_walkC (s₂ := St s h₁ tk₀) (RR := fun acc C => compPost (model P0 w) A E none Q acc C) W' hsz (fun _ => true) F hcell hkind hx hst hfp ⟨?_, ?_⟩ ?_
  · intro C i v s₃ m₃ E' _ _ _ _ _ _
    rw [List.forIn_nil]
    exact wpAny_pure ⟨rfl, s₃.heap, s₃.toks, rfl, fun _ _ e => e⟩
  · intro C i v s₃ m₃ E' _ hv _ hn hm hk₃ _
    exact wpAny_mono (helt C i v s₃ s₃.heap s₃.toks m₃ hv.1 hv.2 hn hm fun b o e => hk₃ b o (hin b o e) (hk b o e)) (fun y s₄ ⟨h', tk', e, kk, q⟩ => ⟨q, h', tk', e, kk⟩) fun _ _ e => e.elim
  · intro D C h' tk m' ys vs hD hC hDC hn hl hpl hlen hP hF hk'
    refine ⟨m', hn, fun h'' hs'' => hQ D h'' tk vs ys.toList (hk.none hD) ?_ hlen (fun j v hj => (hP j v hj).2) (by rw [List.filter_eq_self.mpr (fun _ _ => rfl)] at hF; exact hF) fun b o e => hs''.extBut b o (fun q => ?_) (hk' b o (hin b o e) (hk b o e))⟩
    · have := hl.extBut hs''.extBut hDC
      simpa [LO] using this
    · subst q; have e' := hk _ o e; have hC' : h₁.get? b = none := hC; rw [hC'] at e'; cases e'

/-- the same, each element told by a function of what its item is -/
theorem lcomp {α β : Type} {R : Value → α → Prop} {S : Value → β → Prop} {f : α → β} {elt iter : Expr} {x : Str} {px : Pos} {scope : Scope} {cl : List (Str × Addr)} {pos : Pos} {Q : Value → Shared → Prop}
    (det : ∀ {v a b}, R v a → R v b → a = b)
    (hclos : closureFor scope env = pure cl) (hcell : ∀ y ∈ scope.names, y.2 ≠ .cell) (hkind : scope.kind = .function)
    (hnames : ∀ y ∈ scope.names, y.2 = .local → scope.names.lookup y.1 = some .local) (hx : scope.names.lookup x = some .local)
    (H : wpAny (model P0 w) A (eval iter env) (fun xv s₁ => ∃ (h₁ : Heap) (tk₁ : Nat) (as : List α) (P : Nat → Value → Prop), s₁ = St s h₁ tk₁ ∧ Src w A xv s h₁ tk₁ as.length P ∧ as.length ≤ sizeLine ∧
      (∀ (i : Nat) (v : Value), i < as.length → P i v → ∃ a, as[i]? = some a ∧ R v a) ∧
      (∀ (C : Addr) (i : Nat) (v : Value) (a : α) (s₃ : Shared) (h₃ : Heap) (tk₃ : Nat) (m₃ : Str → Option Value), as[i]? = some a → R v a → h₃.Ns C m₃ → m₃ x = some v → Kp h₁ h₃ → Qs w A (eval elt (compEnvC scope cl C env)) s₃ h₃ tk₃ (fun y _ => S y (f a))) ∧
      (∀ D h' tk' (ys : List Value), h₁.get? D = none → LO h' D ys → Paired S ys (as.map f) → Kp h₁ h' → Q (.ref D) (St s h' tk'))) E (St s h tk))
    (hs : ∀ x, foldedSetIterable iter env x = pure x := by intro _; rfl) :
    wpAny (model P0 w) A (eval (.ListComp elt [⟨.Name x px, iter, [], 0⟩] scope pos) env) Q E (St s h tk) := by
  refine lcompG hclos hcell hkind hnames hx (wpAny_mono H (fun xv s₁ h₁ => ?_) fun _ _ e => e) hs
  obtain ⟨h₁, tk₁, as, P, rfl, src, hsz, hR, helt, hQ⟩ := h₁
  refine ⟨h₁, tk₁, as.length, P, fun v y => ∃ a, R v a ∧ S y (f a), rfl, src, hsz, fun C i v s₃ h₃ tk₃ m₃ hi hv hn hm hk => ?_, fun D h' tk' vs ys hD hl hlen hP hF hk => ?_⟩
  · obtain ⟨a, ha, hr⟩ := hR i v hi hv
    exact (helt C i v a s₃ h₃ tk₃ m₃ ha hr hn hm hk).mono fun y _ _ q => ⟨a, hr, q⟩
  · refine hQ D h' tk' ys hD hl (paired_mk ?_ fun i b hb => ?_) hk
    · rw [← hF.length, hlen, List.length_map]
    · rw [List.getElem?_map] at hb
      cases ha : as[i]? with
      | none => rw [ha] at hb; cases hb
      | some a =>
        rw [ha] at hb
        simp at hb
        subst hb
        have := paired_of (P := P) (S := fun y _ a => S y (f a)) 0 as hlen (fun j v hj => by rw [Nat.zero_add]; exact hP j v hj) hF (fun i v a y hp ha hf => by
          rw [Nat.zero_add] at hp
          obtain ⟨a', ha', hr'⟩ := hR i v (List.getElem?_eq_some_iff.mp ha).1 hp
          obtain ⟨a₂, hr₂, hs₂⟩ := hf
          rw [ha] at ha'; cases ha'
          rwa [det hr' hr₂]) i a ha
        simpa using this
theorem sizeA {α β : Type} {R : α → β → Prop} {vs : List α} {as : List β} (p : Paired R vs as) : vs.toArray.size = as.length := by rw [List.size_toArray, p.length]
theorem LO.src {R : Value → α → Prop} {l : Addr} {vs : List Value} {as : List α} (hh : A.handled = none) (hl : LO h l vs) (p : Paired R vs as) :
    Src w A (.ref l) s h tk as.length (fun i v => vs.toArray[i]? = some v) ∧ ∀ (i : Nat) (v : Value), i < as.length → vs.toArray[i]? = some v → ∃ a, as[i]? = some a ∧ R v a :=
  ⟨by rw [← sizeA p]; exact Src.list hh hl.isList, fun i v _ hv => paired_get p i v (by simpa using hv)⟩
/-- a range of n, made -/
theorem rng {n : Nat} {t : Tok} {Q : Value → Shared → Prop} (hh : A.handled = none) (hn : n < 1000000) (H : ∀ r h' tk', Kp h h' → Src w A (.ref r) s h' tk' n (fun i v => ∃ t, v = .int i t) → Q (.ref r) (St s h' tk')) :
    wpAny (model P0 w) A (call (.type "range") [.int n t]) Q E (St s h tk) := by
  refine call_range_1 (s := St s h tk) (H _ _ _ (Kp.push _ _) ?_)
  have := Src.range (w := w) (s := s) (tk := tk + 1 + 1) hh (IsRange.new h 0 n 1 tk t (tk + 1)) (small_one (by omega) (by omega) (by omega) (by omega)) (n := n) (by rw [rangeSize_one]; split <;> omega)
  simp only [Int.zero_add] at this
  exact this
/-- an item of a list -/
theorem itL {value slice : Expr} {l : Addr} {vs : List Value} {k : Int} {u : Tok} {x : Value} {Q : Value → Shared → Prop} (hl : LO h l vs) (h0 : 0 ≤ k) (hfit : k < 2 ^ 63) (hx : vs[k.toNat]? = some x) (H : Q x (St s h tk))
    (hs : subscripted slice false (.ref l) (.int k u) = operate [.ref l, .int k u] (getItem (.ref l) (.int k u)) := by with_unfolding_all rfl) (hg : ∀ r, letTemporaryGo value (.ref l) r = pure () := by intro _; with_unfolding_all rfl) :
    wpAny (model P0 w) A (subscriptTail value slice (.ref l) (.int k u)) Q E (St s h tk) := item_list (s := St s h tk) hl.isList h0 hfit (by simpa using hx) H hs hg
theorem itI {value slice : Expr} {l : Addr} {ns : List Int} {k : Int} {u : Tok} {n : Int} {Q : Value → Shared → Prop} (hl : LI h l ns) (h0 : 0 ≤ k) (hfit : k < 2 ^ 63) (hx : ns[k.toNat]? = some n) (H : ∀ t, Q (.int n t) (St s h tk))
    (hs : subscripted slice false (.ref l) (.int k u) = operate [.ref l, .int k u] (getItem (.ref l) (.int k u)) := by with_unfolding_all rfl) (hg : ∀ r, letTemporaryGo value (.ref l) r = pure () := by intro _; with_unfolding_all rfl) :
    wpAny (model P0 w) A (subscriptTail value slice (.ref l) (.int k u)) Q E (St s h tk) := by
  obtain ⟨vs, hl, p⟩ := hl
  obtain ⟨v, hv, t, rfl⟩ := paired_at p _ _ hx
  exact itL hl h0 hfit hv (H t) hs hg
end
end Mine
end

section
-- B2
open PySem PySem.W PyProof.Rows PySem.Spec PySem.Calls
set_option maxRecDepth 100000
namespace Mine
theorem kfill : PySem.Challenge.rw_pg0055_01 = PySem.Challenge.rw_pg0055_01 ∧ hd.heap_39 = hd.heap_39 := by
  k_fill
  exact ⟨rfl, rfl⟩
theorem addN {h₀ h₁ h₂ : Heap} {L l : Addr} {m : Str → Option Value} {news : List (Addr × Obj)} {o : Obj} (F : Fr h₀ L h₁ m) (N : News h₀ L h₁ news) (k : Kp h₁ h₂) (hn : h₁.get? l = none) (e : h₂.get? l = some o) : News h₀ L h₂ ((l, o) :: news) := fun p hp => by
  rcases List.mem_cons.mp hp with rfl | hp
  · refine ⟨e, fun q => ?_, Kp.none F.keep hn⟩
    obtain ⟨oL, _, _, hL, _⟩ := F.ns
    have q' : l = L := q
    rw [q', hL] at hn; cases hn
  · exact ⟨k _ _ (N p hp).1, (N p hp).2⟩
section
variable {w : World} {A : Around} {s : Shared} {h : Heap} {tk : Nat} {env : Env} {E : Value → Shared → Prop} {Q : Value → Shared → Prop}
theorem mulOk {a b : Int} (h1 : -(2 ^ 64) < a) (h2 : a < 2 ^ 64) : IntMulOk a b := IntMulOk.of_left (intBits_le_64 h1 h2)
theorem offI {I : Addr} {h h₁ h' : Heap} (hI : h.objs.size ≤ I) (k₁ : Kp h h₁) (k : ∀ b o, b ∉ [I] → h₁.get? b = some o → h'.get? b = some o) : Kp h h' := fun b o e =>
  k b o (fun hm => by rw [List.mem_singleton.mp hm] at e; exact absurd (Heap.lt_size e) (Nat.not_lt.mpr hI)) (k₁ b o e)
theorem sumL {l : Addr} {ns : List Int} (hh : A.handled = none) (hl : LI h l ns) (H : ∀ t h' tk', Kp h h' → Q (.int ns.sum t) (St s h' tk')) : wpAny (model P0 w) A (call (.builtin "sum") [.ref l]) Q E (St s h tk) := by
  obtain ⟨vs, hl, p⟩ := hl
  refine call_sum_walkG (s := St s h tk) (Src.list (w := w) (A := A.in1) (tk := tk) (s := s) hh hl.isList _ _ fun I fp T h₁ k₁ hI W hst hfp hfo => ?_)
  refine ⟨I, fp, [I], vs.toArray.size, _, T, fun i => ns.getD i 0, rfl, W, hst, hfp, fun i v hv => ?_, fun h' tk' t' hk => ?_⟩
  · obtain ⟨n, hn, t, rfl⟩ := paired_get p i v (by simpa using hv)
    exact ⟨t, by simp [List.getD, hn]⟩
  · rw [preSum_getD, sizeA p, List.take_length]
    exact H t' h' tk' (offI hI k₁ hk)
theorem min2 {a b : Int} {t u : Tok} (hh : A.handled = none) (H : ∀ t' h' tk', Kp h h' → Q (.int (if b < a then b else a) t') (St s h' tk')) : wpAny (model P0 w) A (call (.builtin "min") [.int a t, .int b u]) Q E (St s h tk) :=
  min_two_ints (s := St s h tk) hh fun h' tk' hk => by
    by_cases hc : b < a
    · have := H u h' tk' hk; rw [if_pos hc] at this ⊢; exact this
    · have := H t h' tk' hk; rw [if_neg hc] at this ⊢; exact this
theorem lenL {l : Addr} {vs : List Value} (hl : LO h l vs) (hf : vs.length < 1000000) (H : ∀ t tk', Q (.int vs.length t) (St s h tk')) : wpAny (model P0 w) A (call (.builtin "len") [.ref l]) Q E (St s h tk) :=
  call_len_list (s := St s h tk) hl.isList (by rw [List.size_toArray]; omega) (by rw [List.size_toArray]; exact H _ _)
theorem lenS {x : Str} {t : Tok} (hf : x.length < 1000000) (H : ∀ t tk', Q (.int x.length t) (St s h tk')) : wpAny (model P0 w) A (call (.builtin "len") [.str x t]) Q E (St s h tk) :=
  PySem.P.len_str (s := St s h tk) (by omega) (H _ _)
end
end Mine
end

section
-- F_steps
open PySem PySem.W PyProof.Rows PySem.Spec PySem.Calls
set_option maxRecDepth 100000
set_option maxHeartbeats 1000000
namespace Mine
theorem c_steps {w : World} {A : Around} {s : Shared} {h : Heap} {tk : Nat} {l : Addr} {c0 c1 c2 : Int} (g : Gd w h) (r : Rm A 1) (hl : LI h l [c0, c1, c2]) :
    Qs w A (call (.ref 110) [.ref l]) s h tk (fun v h' => ∃ l', v = .ref l' ∧ h.get? l' = none ∧ LI h' l' [c0 - c1, c1 - c2, c2 - c0]) := by
  refine' enterC (binds := [(Str.ofString "colour", .ref l)]) g r ?ho ?hcd ?hb ?hkind ?hnd ?hco ?hgen ?hk ?_
  case ho => k_is
  case hcd => k_is
  case hb => exact rfl
  case hkind => exact rfl
  case hnd => decide
  case hco => exact rfl
  case hgen => exact rfl
  case hk => exact rfl
  intro A' L h₁ tk₁ cells r' F N C G
  obtain ⟨o, rfl, ho⟩ := CellsAre.one (n := Str.ofString "colour") (c := L + 1) C
  have hc : h₁.IsCell (L + 1) (some (.ref l)) := ⟨o, N.get (.head _), ho⟩
  refine wpAny_execs_cons (wpAny_Return_some ?_)
  refine lcomp (R := isI) (S := isI) (f := fun k => if k = 0 then c0 - c1 else if k = 1 then c1 - c2 else c2 - c0) isI.det (by with_unfolding_all rfl) (by decide) (by rfl) (by decide) (by rfl) ?_
  refine callT G (by k_is) (by boot_fast) (args_cons (cI fun t tk₂ => args_nil (rng (n := 3) r'.hh (by decide) fun rr h₂ tk₃ k₂ sr => ?_)))
  refine ⟨h₂, tk₃, [0, 1, 2], _, rfl, sr, by decide, ?_, ?_, ?_⟩
  · intro i v hi hv
    obtain ⟨t, rfl⟩ := hv
    have hi' : i < 3 := hi
    match i, hi' with
    | 0, _ => exact ⟨_, rfl, t, rfl⟩
    | 1, _ => exact ⟨_, rfl, t, rfl⟩
    | 2, _ => exact ⟨_, rfl, t, rfl⟩
  · intro C i v a s₃ h₃ tk₃ m₃ ha hr hn hm hk
    obtain ⟨t, rfl⟩ := hr
    have hc₃ : h₃.IsCell (L + 1) (some (.ref l)) := let ⟨o, e, d⟩ := hc; ⟨o, hk _ _ (k₂ _ _ e), d⟩
    have hl₃ : LI h₃ l [c0, c1, c2] := ((hl.keeps F.keep).keeps k₂).keeps hk
    have ha' : a = 0 ∨ a = 1 ∨ a = 2 := by
      match i, ha with
      | 0, ha => left; simpa using ha.symm
      | 1, ha => right; left; simpa using ha.symm
      | 2, ha => right; right; simpa using ha.symm
      | n + 3, ha => simp at ha
    refine wpAny_BinOp (Subscript_ (nmC (c := L + 1) (by rfl) hc₃ (nmL hn hm ?_)))
    rcases ha' with rfl | rfl | rfl
    all_goals
      refine itI hl₃ (by decide) (by decide) (by rfl) fun t₁ => ?_
      refine Subscript_ (nmC (c := L + 1) (by rfl) hc₃ (wpAny_BinOp (wpAny_BinOp (nmL hn hm (cI fun t₂ tk₄ => bAdd fun t₃ tk₅ => cI fun t₄ tk₆ => bMod (by decide) fun t₅ tk₇ => ?_)))))
      refine itI hl₃ (by decide) (by decide) (by rfl) fun t₆ => bSub fun t₇ tk₈ => ⟨h₃, tk₈, rfl, Kp.refl _, t₇, rfl⟩
  · intro D h' tk' ys hD hl p k
    exact ⟨h', tk', rfl, (Kp.trans F.keep k₂).trans k, D, rfl, Kp.none (Kp.trans F.keep k₂) hD, ys, hl, p⟩
end Mine
end

section
-- F_size
open PySem PySem.W PyProof.Rows PySem.Spec PySem.Calls
set_option maxRecDepth 100000
set_option maxHeartbeats 1000000
namespace Mine
def sizeF (c0 c1 c2 : Int) : Int :=
  let a := c0 - c1
  let b := c1 - c2
  let c := c2 - c0
  (3 * (a * a + b * b + c * c)).fdiv 2 + b + 2 * c
theorem c_size {w : World} {A : Around} {s : Shared} {h : Heap} {tk : Nat} {l : Addr} {c0 c1 c2 : Int} (g : Gd w h) (r : Rm A 2) (hl : LI h l [c0, c1, c2])
    (b0 : -1000 < c0 ∧ c0 < 1000) (b1 : -1000 < c1 ∧ c1 < 1000) (b2 : -1000 < c2 ∧ c2 < 1000) :
    Qs w A (call (.ref 120) [.ref l]) s h tk (fun v h' => isI v (sizeF c0 c1 c2)) := by
  refine' enter (binds := [(Str.ofString "colour", .ref l)]) g r ?ho ?hcd ?hb ?hloc ?hcell ?hco ?hgen ?hk ?_
  case ho => k_is
  case hcd => k_is
  case hb => exact rfl
  case hloc => exact rfl
  case hcell => decide
  case hco => exact rfl
  case hgen => exact rfl
  case hk => exact rfl
  intro A' L h₁ tk₁ r' F N G
  refine wpAny_execs_cons (wpAny_Assign_Name ?_)
  refine callO G (by k_is) (by k_is) (args_cons (nmL F.ns (by rfl) (args_nil ⟨G, ?_⟩)))
  refine (c_steps G r' (hl.keeps F.keep)).use fun v h₂ tk₂ k₂ ⟨l', e, hn, hl'⟩ => ?_
  subst e
  obtain ⟨vs, ⟨o, hv, hc, n, hd⟩, p⟩ := hl'
  refine stL (F.keeps k₂) (addN F N k₂ hn hv) fun h₃ tk₃ F₃ N₃ _ => ?_
  have G₃ := g.keeps F₃.keep
  have hs : LI h₃ l' [c0 - c1, c1 - c2, c2 - c0] := ⟨vs, ⟨o, N₃.get (.head _), hc, n, hd⟩, p⟩
  refine wpAny_execs_cons (wpAny_Return_some (wpAny_BinOp (wpAny_BinOp (wpAny_BinOp (wpAny_BinOp (cI fun t₁ tk₄ => ?_))))))
  refine callB G₃ (by k_is) (by boot_fast) (args_cons ?_)
  refine lcomp (R := isI) (S := isI) (f := fun k => k * k) isI.det (by with_unfolding_all rfl) (by decide) (by rfl) (by decide) (by rfl) (nmL F₃.ns (by rfl) ?_)
  have sr := LO.src (w := w) (s := s) (tk := tk₄) r'.hh ⟨o, N₃.get (.head _), hc, n, hd⟩ p
  refine ⟨h₃, tk₄, [c0 - c1, c1 - c2, c2 - c0], _, rfl, sr.1, Nat.le_of_ble_eq_true rfl, sr.2, ?_, ?_⟩
  · intro C i v a s₅ h₅ tk₅ m₅ ha hr hn hm hk
    obtain ⟨t, rfl⟩ := hr
    have hb : -(2 ^ 64) < a ∧ a < 2 ^ 64 := by
      match i, ha with
      | 0, ha => have : c0 - c1 = a := by simpa using ha
                 omega
      | 1, ha => have : c1 - c2 = a := by simpa using ha
                 omega
      | 2, ha => have : c2 - c0 = a := by simpa using ha
                 omega
      | n + 3, ha => simp at ha
    exact wpAny_BinOp (nmL hn hm (nmL hn hm (bMul (mulOk hb.1 hb.2) fun t₇ tk₈ => ⟨h₅, tk₈, rfl, Kp.refl _, t₇, rfl⟩)))
  · intro D h₄ tk₅ ys hD hlD pD kD
    refine args_nil (sumL r'.hh ⟨ys, hlD, pD⟩ fun t₂ h₅ tk₆ k₅ => ?_)
    have hs₅ := (hs.keeps kD).keeps k₅
    have F₅ := (F₃.keeps kD).keeps k₅
    refine bMul (mulOk (by decide) (by decide)) fun t₃ tk₇ => cI fun t₄ tk₈ => bDiv (by decide) (PyProof.noPylong_small (by decide)) fun t₅ tk₉ => ?_
    refine Subscript_ (nmL F₅.ns (by rfl) (cI fun t₆ tk₁₀ => itI hs₅ (by decide) (by decide) (by rfl) fun t₇ => bAdd fun t₈ tk₁₁ => ?_))
    refine wpAny_BinOp (cI fun t₉ tk₁₂ => Subscript_ (nmL F₅.ns (by rfl) (cI fun t₆ tk₁₀ => itI hs₅ (by decide) (by decide) (by rfl) fun t₇ => bMul (mulOk (by decide) (by decide)) fun t₈ tk₁₁ => bAdd fun t₉ tk₁₂ => ?_)))
    refine ⟨h₅, tk₁₂, rfl, F₅.keep, t₉, ?_⟩
    show Value.int _ _ = Value.int _ _
    have e : [c0 - c1, c1 - c2, c2 - c0].map (fun k => k * k) = [(c0 - c1) * (c0 - c1), (c1 - c2) * (c1 - c2), (c2 - c0) * (c2 - c0)] := rfl
    rw [e]
    simp only [List.sum_cons, List.sum_nil, Int.add_zero, sizeF, Int.add_assoc]
end Mine
end

section
-- B3
open PySem PySem.W PyProof.Rows PySem.Spec PySem.Calls
set_option maxRecDepth 100000
namespace Mine
def T (xs : List Nat) : Str := ⟨xs.toArray⟩
theorem T_append (a b : List Nat) : T a ++ T b = T (a ++ b) := by show Str.mk _ = Str.mk _; simp [T]
theorem T_length (a : List Nat) : (T a).length = a.length := by show (List.toArray a).size = _; simp
theorem T_list (a : List Nat) : (T a).cps.toList = a := by simp [T]
theorem T_inj {a b : List Nat} (h : T a = T b) : a = b := by rw [← T_list a, h, T_list]
theorem T_of (x : Str) : x = T x.cps.toList := by simp [T]
theorem replicate_foldl (n : Nat) : ∀ acc : Array Nat, (List.replicate n #[46]).foldl (· ++ ·) acc = acc ++ (List.replicate n 46).toArray := by
  induction n with
  | zero => intro acc; simp
  | succ n ih => intro acc; rw [List.replicate_succ, List.foldl_cons, ih, List.replicate_succ]; apply Array.ext'; simp
theorem mul_dots (n : Nat) : Txt.mul (T [46]) n = T (List.replicate n 46) := by
  unfold Txt.mul
  match n with
  | 0 => rfl
  | 1 => rfl
  | n + 2 =>
    rw [if_neg (by omega)]
    have : (((n + 2 : Nat) : Int) == 1 || (T [46]).length == 0) = false := by
      have e : (T [46]).length = 1 := rfl
      rw [e]
      simp
      omega
    rw [if_neg (by rw [this]; decide)]
    have : ((n + 2 : Nat) : Int).toNat = n + 2 := by omega
    rw [this]
    show Str.mk _ = Str.mk _
    congr 1
    have := replicate_foldl (n + 2) #[]
    rw [show (T [46]).cps = #[46] from rfl, this]
    apply Array.ext'
    simp
theorem join_nil : ∀ xss : List (List Nat), Str.join (T []) (xss.map T) = T xss.flatten
  | [] => rfl
  | [x] => by show T x = _; simp
  | x :: y :: r => by
    have ih := join_nil (y :: r)
    show T x ++ T [] ++ Str.join (T []) ((y :: r).map T) = _
    rw [ih, T_append, T_append]
    simp
section
variable {w : World} {A : Around} {s : Shared} {h : Heap} {tk : Nat} {env : Env} {E : Value → Shared → Prop} {Q : Value → Shared → Prop}
theorem cT {x : Str} {xs : List Nat} {k : Nat} {pos : Pos} (hx : x = T xs) (H : ∀ t tk', Q (.str (T xs) t) (St s h tk')) : wpAny (model P0 w) A (eval (.Constant (.str x) k pos) env) Q E (St s h tk) := by
  subst hx; exact cS H
theorem mulT {n : Nat} {t u : Tok} (hn : n < 1000000) (H : ∀ t tk', Q (.str (T (List.replicate n 46)) t) (St s h tk')) : wpAny (model P0 w) A (binaryOp .Mult (.str (T [46]) t) (.int n u)) Q E (St s h tk) := by
  refine SB.mul (s := St s h tk) ⟨?_, fun _ _ => ?_, fun _ _ => ?_⟩ fun t' k => ?_
  · rw [Bool.or_eq_false_iff]; exact ⟨decide_eq_false (by omega), decide_eq_false (by omega)⟩
  · show ¬ ((1 : Nat) : Int) > _
    rename_i h1 _
    have : (1 : Int) ≤ (2 ^ 63 - 1) / (n : Int) := Int.le_ediv_of_mul_le (by omega) (by omega)
    omega
  · show decide (1 * (n : Int).toNat > sizeLine) = false
    exact decide_eq_false (by rw [show sizeLine = 16777216 from rfl]; omega)
  · rw [mul_dots]; exact H t' k
theorem addT {x y : List Nat} {t u : Tok} (hn : x.length + y.length < 1000000) (H : ∀ t tk', Q (.str (T (x ++ y)) t) (St s h tk')) : wpAny (model P0 w) A (binaryOp .Add (.str (T x) t) (.str (T y) u)) Q E (St s h tk) := by
  refine SB.add (s := St s h tk) (fun t' k => ?_) (by rw [T_length, T_length, show sizeLine = 16777216 from rfl]; omega)
  rw [T_append]; exact H t' k
theorem strs_of {vs : List Value} {ts : List Str} (p : Paired isS vs ts) : ∃ l : List (Str × Tok), vs = strValues l ∧ l.map (·.1) = ts := by
  induction p with
  | nil => exact ⟨[], rfl, rfl⟩
  | cons r _ ih =>
    obtain ⟨l, rfl, rfl⟩ := ih
    obtain ⟨t, rfl⟩ := r
    exact ⟨(_, t) :: l, rfl, rfl⟩
theorem joinT {x : Str} {t : Tok} {D : Addr} {ts : List Str} {B : Nat} (hl : LT h D ts) (hB : ∀ y ∈ ts, y.length ≤ B) (hf : ts.length * B + ts.length * x.length ≤ 16777216) (H : ∀ t tk', Q (.str (Str.join x ts) t) (St s h tk')) :
    wpAny (model P0 w) A (call (.builtin "str.join") [.str x t, .ref D]) Q E (St s h tk) := by
  obtain ⟨vs, hl, p⟩ := hl
  obtain ⟨l, rfl, e⟩ := strs_of p
  refine SC.join (s := St s h tk) hl.isList e (by unfold JoinOk; rw [Bool.not_eq_true']; exact StrLaws.joinFits hB hf) fun t' k => ?_
  rw [show Txt.join x ts = Str.join x ts from StrLaws.glued_eq_join x ts]
  exact H t' k
def KpS (h h' : Heap) : Prop := Kp h h' ∧ h.objs.size ≤ h'.objs.size
theorem keptKp (h : Heap) : KeptH (KpS h) := fun h' ob k => ⟨k.1.trans (Kp.push _ _), by rw [Heap.size_push]; exact Nat.le_succ_of_le k.2⟩
theorem splitT {x y : Str} {t u : Tok} (hy : (y.length == 0) = false) (hx : x.length < 1000000) (H : ∀ D l h' tk', l.map (·.1) = Txt.split x y → Kp h h' → h'.IsList D (strValues l).toArray → Q (.ref D) (St s h' tk')) :
    wpAny (model P0 w) A (call (.builtin "str.split") [.str x t, .str y u]) Q E (St s h tk) := by
  refine SCH.split1 (s := St s h tk) (keptKp h) ⟨Kp.refl _, Nat.le_refl _⟩ hy (fun D l h' k e p hl => H D l h' k e p.1 hl) (by rw [show sizeLine = 16777216 from rfl]; omega) ?_
  have e1 := StrLaws.occ_length_le x y 0 x.length (x.length + 1)
  rw [length_partsBetween, show sizeLine = 16777216 from rfl]; omega
end
end Mine
end

section
-- F_mail
open PySem PySem.W PyProof.Rows PySem.Spec PySem.Calls
set_option maxRecDepth 100000
set_option maxHeartbeats 1000000
namespace Mine
/-- rows of so many dots, each with its end -/
def mailL (ns : List Nat) (e : List Nat) : List Nat := (ns.map fun n => List.replicate n 46 ++ e).flatten
theorem c_mail {w : World} {A : Around} {s : Shared} {h : Heap} {tk : Nat} {l : Addr} {ns : List Nat} {e : List Nat} {te : Tok} (g : Gd w h) (r : Rm A 1) (hl : LI h l (ns.map Int.ofNat)) (hn : ns.length ≤ 8) (hb : ∀ n ∈ ns, n ≤ 9) (hlen : e.length ≤ 2) :
    Qs w A (call (.ref 79) [.ref l, .str (T e) te]) s h tk (fun v h' => isS v (T (mailL ns e))) := by
  refine' enterC (binds := [(Str.ofString "runs", .ref l), (Str.ofString "end", .str (T e) te)]) g r ?ho ?hcd ?hb ?hkind ?hnd ?hco ?hgen ?hk ?_
  case ho => k_is
  case hcd => k_is
  case hb => exact rfl
  case hkind => exact rfl
  case hnd => decide
  case hco => exact rfl
  case hgen => exact rfl
  case hk => exact rfl
  intro A' L h₁ tk₁ cells r' F N C G
  obtain ⟨o, rfl, ho⟩ := CellsAre.one (n := Str.ofString "end") (c := L + 1) C
  have hc : h₁.IsCell (L + 1) (some (.str (T e) te)) := ⟨o, N.get (.head _), ho⟩
  refine wpAny_execs_cons (wpAny_Return_some ?_)
  refine MethodCall_ (cT (xs := []) rfl fun t₁ tk₂ => GM.join (callWith_method1 (args_cons ?_)))
  obtain ⟨vs, hl₁, p⟩ := hl.keeps F.keep
  refine lcomp (R := isI) (S := isS) (f := fun n : Int => T (List.replicate n.toNat 46 ++ e)) isI.det (by with_unfolding_all rfl) (by decide) (by rfl) (by decide) (by rfl) (nmL F.ns (by rfl) ?_)
  have sr := LO.src (w := w) (s := s) (tk := tk₂) r'.hh hl₁ p
  refine ⟨h₁, tk₂, ns.map Int.ofNat, _, rfl, sr.1, by rw [List.length_map, show sizeLine = 16777216 from rfl]; omega, sr.2, ?_, ?_⟩
  · intro C i v a s₃ h₃ tk₃ m₃ ha hr hm₃ hm hk
    obtain ⟨t, rfl⟩ := hr
    have hc₃ : h₃.IsCell (L + 1) (some (.str (T e) te)) := let ⟨o, e, d⟩ := hc; ⟨o, hk _ _ e, d⟩
    rw [List.getElem?_map] at ha
    obtain ⟨n, hn', rfl⟩ := Option.map_eq_some_iff.mp ha
    have hb' := hb n (List.mem_of_getElem? hn')
    refine wpAny_BinOp (wpAny_BinOp (cT (xs := [46]) rfl fun t₂ tk₄ => nmL hm₃ hm (mulT (n := n) (by omega) fun t₃ tk₅ => nmC (c := L + 1) (by rfl) hc₃ (addT (by rw [List.length_replicate]; omega) fun t₄ tk₆ => ?_))))
    exact ⟨h₃, tk₆, rfl, Kp.refl _, t₄, rfl⟩
  · intro D h' tk' ys hD hlD pD k
    refine args_nil (joinT (B := 11) ⟨ys, hlD, pD⟩ (fun y hy => ?_) ?_ fun t₂ tk₃ => ?_)
    · obtain ⟨n, hn', rfl⟩ := List.mem_map.mp hy
      obtain ⟨m, hm, rfl⟩ := List.mem_map.mp hn'
      have := hb m hm
      rw [T_length, List.length_append, List.length_replicate]
      show m + e.length ≤ 11
      omega
    · rw [List.length_map, List.length_map]
      have : (T ([] : List Nat)).length = 0 := rfl
      rw [this]; omega
    · refine ⟨h', tk₃, rfl, Kp.trans F.keep k, t₂, ?_⟩
      have e1 : (ns.map Int.ofNat).map (fun n : Int => T (List.replicate n.toNat 46 ++ e)) = (ns.map fun n => List.replicate n 46 ++ e).map T := by
        rw [List.map_map, List.map_map]; rfl
      rw [e1, join_nil]; rfl
end Mine
end

section
-- F_repl
open PySem PySem.W PyProof.Rows PySem.Spec PySem.Calls
set_option maxRecDepth 100000
set_option maxHeartbeats 1000000
namespace Mine
section
variable {w : World} {A : Around} {s : Shared} {h : Heap} {tk : Nat} {f : Addr} {E : Value → Shared → Prop} {Q : Value → Shared → Prop}
  {name qual : Str} {params : Arguments} {body : List Stmt} {scope : Scope} {dV kV doc pm cdv ct oc : Value} {an od : Option Addr} {osl : Array (Option Value)}
theorem enterV {vs rest : List Value} {n1 n2 : Str} {v1 : Value} {d : Nat} (g : Gd w h) (r : Rm A (d + 1))
    (ho : (hd.heap_39 w.params).lookup f = some ⟨oc, od, .func (fnOf name qual params body scope dV kV doc pm an cdv ct), osl⟩) (hcd : codeIn (hd.heap_39 w.params) cdv qual = true)
    (hbind : bindArgs (fnOf name qual params body scope dV kV doc pm an cdv ct) ⟨vs, []⟩ = (newTuple rest >>= fun v => pure [(n1, v1), (n2, v)])) (hrest : rest.length ≤ 1000)
    (h1 : scope.names.lookup n1 = some .local) (h2 : scope.names.lookup n2 = some .local)
    (hcell : ∀ x ∈ scope.names, x.2 ≠ .cell) (hco : scope.isCoroutine = false) (hgen : scope.isGenerator = false) (hk : scope.kind = .function)
    (H : ∀ A' L tp h₁ tk₁, Rm A' d → Fr h L h₁ (fun y => [(n1, v1), (n2, .ref tp)].reverse.lookup y) → News h L h₁ [(tp, { cls := .type "tuple", data := .seq rest.toArray })] → Gd w h₁ →
      wpAny (model P0 w) A' (execs body (envX qual scope L f cdv []))
        (fun fl s' => Q (match fl with | .ret v => v | _ => .none) s') (fun _ _ => False) (St s h₁ tk₁)) :
    wpAny (model P0 w) A (call (.ref f) vs) Q E (St s h tk) := by
  obtain ⟨mg, mb, T⟩ := g.T
  refine wpAny_call (codeAny_call_function (s := St s h tk) (Nat.lt_of_le_of_lt (Nat.le_add_right _ _) r.dp) (g.X _ _ ho) rfl hco hgen rfl (codeRec_of g.X hcd) ?_)
  rw [hbind]
  refine wpAny_bind (m := newTuple rest) ?_
  refine wpAny_newObj_type (s := St s h tk) (wpAny_pure ?_) (by show rest.toArray.size ≤ sizeLine; rw [List.size_toArray, show sizeLine = 16777216 from rfl]; omega)
  let h' : Heap := h.push { cls := .type "tuple", data := .seq rest.toArray }
  have kh : Kp h h' := Kp.push _ _
  refine wpAny_newFunctionEnv (s := St s h' tk) hcell (fun y hy => ?_) (fun h₀ hns₀ hsb₀ => ⟨(T.nolimit.keeps kh).fresh _ hsb₀, codeAny_func ?_⟩) hk
  · rcases List.mem_cons.mp hy with rfl | hy
    · exact h1
    · rw [List.mem_singleton.mp hy]; exact h2
  have k2 : Kp h' h₀ := fun b o e => hsb₀.extBut b o (Nat.ne_of_lt (Heap.lt_size e)) (Heap.get?_push_of_some _ e)
  have k3 := kh.trans k2
  have hsz : h'.objs.size = h.objs.size + 1 := Heap.size_push _ _
  refine wpAny_mono (H _ h'.objs.size h.objs.size h₀ _ (r.deeper _) ⟨hns₀, k3, by rw [hsz]; exact Nat.le_succ _⟩ (fun p hp => ?_) (g.keeps k3)) (fun fl s' hl => by cases fl <;> exact hl) fun _ _ y => y.elim
  rw [List.mem_singleton.mp hp]
  exact ⟨k2 _ _ (Heap.get?_push_size _ rfl), by rw [hsz]; exact Nat.ne_of_lt (Nat.lt_succ_self _), Heap.get?_none_of_le (Nat.le_refl _)⟩
end
def repl (p q x : List Nat) : List Nat := (Str.join (T q) (Txt.split (T x) (T p))).cps.toList
def replAll : List (List Nat × List Nat) → List Nat → List Nat
  | [], x => x
  | (p, q) :: r, x => replAll r (repl p q x)
def flatP : List (List Nat × List Nat) → List Str
  | [] => []
  | (p, q) :: r => T p :: T q :: flatP r
theorem repl_T (p q x : List Nat) : Str.join (T q) (Txt.split (T x) (T p)) = T (repl p q x) := T_of _
theorem join_length (sep : Str) : ∀ ps : List Str, (Str.join sep ps).length = (ps.map (·.length)).sum + (ps.length - 1) * sep.length
  | [] => by show 0 = 0 + 0 * sep.length; omega
  | [x] => by show x.length = _; simp
  | x :: y :: r => by
    have ih := join_length sep (y :: r)
    show (x ++ sep ++ Str.join sep (y :: r)).length = _
    rw [Str.length_append, Str.length_append, ih]
    simp only [List.map_cons, List.sum_cons, List.length_cons, Nat.add_sub_cancel, Nat.succ_mul]
    omega
theorem split_len (p x : List Nat) : ((Txt.split (T x) (T p)).map (·.length)).sum + ((Txt.split (T x) (T p)).length - 1) * p.length = x.length := by
  have := join_length (T p) (Txt.split (T x) (T p))
  rw [StrLaws.join_split, T_length, T_length] at this
  omega
theorem repl_len {p q : List Nat} (x : List Nat) (hq : q.length ≤ p.length) : (repl p q x).length ≤ x.length := by
  have e : (repl p q x).length = (Str.join (T q) (Txt.split (T x) (T p))).length := by rw [repl_T, T_length]
  rw [e, join_length, T_length]
  have := split_len p x
  have h2 := Nat.mul_le_mul_left ((Txt.split (T x) (T p)).length - 1) hq
  omega
theorem part_le {ts : List Str} {t : Str} (h : t ∈ ts) : t.length ≤ (ts.map (·.length)).sum := by
  induction ts with
  | nil => cases h
  | cons a r ih =>
    rw [List.map_cons, List.sum_cons]
    rcases List.mem_cons.mp h with rfl | h
    · omega
    · have := ih h; omega
theorem idx0 (n : Nat) : seqIndex? 0 (n + 2) = some 0 := by
  unfold seqIndex?
  have : (decide ((0 : Int) ≤ 0) && decide ((0 : Int) < ((n + 2 : Nat) : Int))) = true := by simp; omega
  simp only [Int.lt_irrefl, if_false, this, if_true]; rfl
theorem idx1 (n : Nat) : seqIndex? 1 (n + 2) = some 1 := by
  unfold seqIndex?
  have : (decide ((0 : Int) ≤ 1) && decide ((1 : Int) < ((n + 2 : Nat) : Int))) = true := by simp; omega
  simp only [show ¬ ((1 : Int) < 0) by decide, if_false, this, if_true]; rfl
theorem c_replace {w : World} {A : Around} {s : Shared} {h : Heap} {tk : Nat} {x : List Nat} {t : Tok} {vs : List Value} {ps : List (List Nat × List Nat)} (g : Gd w h) (r : Rm A 1) (p : Paired isS vs (flatP ps)) (hn : ps.length ≤ 8) (hx : x.length ≤ 1000)
    (hp : ∀ a ∈ ps, a.1 ≠ [] ∧ a.2.length ≤ a.1.length ∧ a.2.length ≤ 4) :
    Qs w A (call (.ref 52) (.str (T x) t :: vs)) s h tk (fun v h' => isS v (T (replAll ps x))) := by
  have hvl : vs.length ≤ 16 := by
    have e := p.length
    have : ∀ ps : List (List Nat × List Nat), (flatP ps).length = 2 * ps.length := fun ps => by
      induction ps with
      | nil => rfl
      | cons a r ih => obtain ⟨a, b⟩ := a; simp only [flatP, List.length_cons, ih]; omega
    rw [this] at e; omega
  refine' enterV (rest := vs) (n1 := Str.ofString "text") (n2 := Str.ofString "pairs") (v1 := .str (T x) t) g r ?ho ?hcd ?hb ?hrest ?h1 ?h2 ?hcell ?hco ?hgen ?hk ?_
  case ho => k_is
  case hcd => k_is
  case hb => (cases vs with | nil => exact rfl | cons a b => exact rfl)
  case hrest => omega
  case h1 => exact rfl
  case h2 => exact rfl
  case hcell => decide
  case hco => exact rfl
  case hgen => exact rfl
  case hk => exact rfl
  intro A' L tp h₁ tk₁ r' F N G
  refine wpAny_execs_cons (wpAny_While ?_)
  refine codeAny_whileLoop (fun n s' => ∃ h' tk' tp m x' ps' vs' t' k, n = ps'.length ∧ s' = St s h' tk' ∧ Fr h L h' m ∧ m (Str.ofString "text") = some (.str (T x') t') ∧ m (Str.ofString "pairs") = some (.ref tp) ∧
    News h L h' [(tp, { cls := .type "tuple", data := .seq (List.toArray vs') k })] ∧ Paired isS vs' (flatP ps') ∧ replAll ps' x' = replAll ps x ∧ x'.length ≤ 1000 ∧ (∀ a ∈ ps', a.1 ≠ [] ∧ a.2.length ≤ a.1.length ∧ a.2.length ≤ 4) ∧ ps'.length ≤ 8) ?_ ps.length ?_
  · rintro n s' ⟨h', tk', tp, m, x', ps', vs', t', k, rfl, rfl, F', ht, hpr, N', p', he, hx', hp', hn'⟩
    have G' := g.keeps F'.keep
    have hvl : vs'.length ≤ 16 := by
      have e := p'.length
      have : ∀ ps : List (List Nat × List Nat), (flatP ps).length = 2 * ps.length := fun ps => by
        induction ps with
        | nil => rfl
        | cons a r ih => obtain ⟨a, b⟩ := a; simp only [flatP, List.length_cons, ih]; omega
      rw [this] at e; omega
    have hT : IsTup h' tp vs'.toArray := ⟨_, N'.get (.head _), rfl, k, rfl⟩
    refine isTrue_plain (nmL F'.ns hpr (truthy_tuple (s := St s h' tk') hT (by rw [List.size_toArray]; omega) ?_))
    match ps', p' with
    | [], .nil =>
      show wpAny _ _ (execs [] _) _ _ _
      refine wpAny_execs_nil ?_
      show wpAny (model P0 w) A' (execs _ _) _ _ (St s h' (tk' + 1 + 1))
      refine wpAny_execs_cons (wpAny_Return_some (nmL F'.ns ht ?_))
      exact ⟨h', _, rfl, F'.keep, t', by rw [← he]; rfl⟩
    | (pp, qq) :: rr, .cons (a := va) hva (.cons (a := vb) (l₁ := vr) hvb pr) =>
      obtain ⟨ta, rfl⟩ := hva
      obtain ⟨tb, rfl⟩ := hvb
      obtain ⟨hpne, hq1, hq2⟩ := hp' (pp, qq) (.head _)
      show wpAny (model P0 w) A' (execs _ _) _ _ (St s h' (tk' + 1 + 1))
      refine wpAny_execs_cons (wpAny_Assign_Name ?_)
      refine MethodCall_ (Subscript_ (nmL F'.ns hpr (cI fun t₁ tk₂ => item_tupleL (s := St s h' tk₂) (j := 1) hT (by decide) (by decide) (idx1 _) (by rfl) (GM.join (callWith_method1 (args_cons ?_))))))
      refine MethodCall_ (nmL F'.ns ht (GM.split (callWith_method1 (args_cons (Subscript_ (nmL F'.ns hpr (cI fun t₂ tk₃ => item_tupleL (s := St s h' tk₃) (j := 0) hT (by decide) (by decide) (idx0 _) (by rfl) (args_nil ?_))))))))
      refine splitT (by rw [T_length]; cases pp with | nil => exact absurd rfl hpne | cons => rfl) (by rw [T_length]; omega) fun D l h₂ tk₄ el k₂ hl => args_nil ?_
      have hsl := split_len pp x'
      have hnum : (Txt.split (T x') (T pp)).length ≤ x'.length + 1 := by
        have : 1 ≤ pp.length := by cases pp with | nil => exact absurd rfl hpne | cons => simp
        have := Nat.mul_le_mul_left ((Txt.split (T x') (T pp)).length - 1) this
        omega
      refine SC.join (s := St s h₂ tk₄) hl el (by unfold JoinOk; rw [Bool.not_eq_true']; exact StrLaws.joinFits (B := 1000) (fun y hy => Nat.le_trans (part_le hy) (by omega)) (by
        have h1 := Nat.mul_le_mul_right 1000 hnum
        have h2 := Nat.mul_le_mul hnum (show (T qq).length ≤ 4 by rw [T_length]; exact hq2)
        omega)) fun t₃ tk₅ => ?_
      have ej : Txt.join (T qq) (Txt.split (T x') (T pp)) = T (repl pp qq x') := by rw [← repl_T]; exact StrLaws.glued_eq_join _ _
      rw [ej]
      show wpAny _ _ (storeName _ _ _) _ _ (St s h₂ tk₅)
      refine stL (F'.keeps k₂) (N'.grown k₂) fun h₃ tk₆ F₃ N₃ _ => ?_
      have hT₃ : IsTup h₃ tp _ := ⟨_, N₃.get (.head _), rfl, k, rfl⟩
      refine wpAny_execs_cons (wpAny_Assign_Name (Subscript_ (nmL F₃.ns (v := .ref tp) hpr (wpAny_Slice ?_))))
      rw [evalPart_some]
      refine cI fun t₄ tk₇ => wpAny_pure (wpAny_pure ?_)
      refine slice_tuple_from (s := St s h₃ tk₇) (a := 2) F₃ N₃ hT₃ (by decide) (by rw [List.size_toArray]; simp) (fun h₄ F₄ N₄ => ?_) (by with_unfolding_all rfl) (by intro _; with_unfolding_all rfl) (by rw [List.size_toArray, show sizeLine = 16777216 from rfl]; omega)
      refine stL F₄ N₄ fun h₅ tk₈ F₅ N₅ _ => wpAny_execs_nil ?_
      refine ⟨rr.length, by simp, h₅, tk₈, _, _, repl pp qq x', rr, vr, t₃, 0, rfl, rfl, F₅, by rfl, by rfl, fun p hp => N₅ p (by rw [List.mem_singleton.mp hp]; exact .head _), pr, he, Nat.le_trans (repl_len x' hq1) hx', fun a ha => hp' a (.tail _ ha), by simp at hn'; omega⟩
  · exact ⟨h₁, tk₁, tp, _, x, ps, vs, t, 0, rfl, rfl, F, rfl, rfl, N, p, rfl, hx, hp, hn⟩
end Mine
end

section
-- F_worn
open PySem PySem.W PyProof.Rows PySem.Spec PySem.Calls
set_option maxRecDepth 100000
set_option maxHeartbeats 1000000
namespace Mine
theorem neT {a b : List Nat} : ((T a).cps.toList != (T b).cps.toList) = decide (a ≠ b) := by
  rw [T_list, T_list]
  by_cases h : a = b
  · subst h; simp
  · simp [h, bne_iff_ne]
theorem starL {w : World} {A : Around} {s : Shared} {h : Heap} {tk : Nat} {E : Value → Shared → Prop} {l : Addr} {vs : List Value} {Q : List Value → Shared → Prop} (hl : LO h l vs) (hz : vs.length ≤ 1000) (H : ∀ h', Kp h h' → Q vs (St s h' tk)) :
    StarOf (model P0 w) A E (.ref l) Q (St s h tk) := by
  obtain ⟨o, e, hc, n, hd⟩ := hl
  have z : wpAny (model P0 w) A (collect (.ref l)) Q E (St s h tk) :=
    wpAny_collect_seq (s := St s h tk) l (.inl rfl) e hc hd (fun h' k => H h' k) (by rw [List.size_toArray, show sizeLine = 16777216 from rfl]; omega)
  have hT' : (St s h tk).TypeIs (.ref l) "list" := ⟨_, e, hc⟩
  unfold StarOf notIterableAtAll
  exact wpAny_bind (wpAny_specialOf hT' PySem.F.slot_list_iter.lookup (wpAny_pure ⟨rfl, z⟩))
theorem flatP_len (ps : List (List Nat × List Nat)) : (flatP ps).length = 2 * ps.length := by
  induction ps with
  | nil => rfl
  | cons a r ih => obtain ⟨a, b⟩ := a; simp only [flatP, List.length_cons, ih]; omega
theorem c_worn {w : World} {A : Around} {s : Shared} {h : Heap} {tk : Nat} {l : Addr} {x : List Nat} {t : Tok} {ps : List (List Nat × List Nat)} (g : Gd w h) (r : Rm A 2) (hl : LT h l (flatP ps)) (hn : ps.length ≤ 8)
    (hp : ∀ a ∈ ps, a.1 ≠ [] ∧ a.2.length ≤ a.1.length ∧ a.2.length ≤ 4) (Inv : List Nat → Prop) (mu : List Nat → Nat) (h0 : replAll ps [] = []) (hx : Inv x) (hlen : ∀ y, Inv y → y.length ≤ 1000)
    (hst : ∀ y, Inv y → Inv (replAll ps y) ∧ (replAll ps y ≠ y → mu (replAll ps y) < mu y)) :
    Qs w A (call (.ref 93) [.str (T x) t, .ref l]) s h tk (fun v h' => ∃ y, isS v (T y) ∧ Inv y ∧ replAll ps y = y) := by
  refine' enter (binds := [(Str.ofString "rim", .str (T x) t), (Str.ofString "pairs", .ref l)]) g r ?ho ?hcd ?hb ?hloc ?hcell ?hco ?hgen ?hk ?_
  case ho => k_is
  case hcd => k_is
  case hb => exact rfl
  case hloc => exact rfl
  case hcell => decide
  case hco => exact rfl
  case hgen => exact rfl
  case hk => exact rfl
  intro A' L h₁ tk₁ r' F N G
  refine wpAny_execs_cons (wpAny_Assign_Name (cT (xs := []) rfl fun t₁ tk₂ => stL F N fun h₂ tk₃ F₂ N₂ _ => ?_))
  refine wpAny_execs_cons (wpAny_While ?_)
  refine codeAny_whileLoop (fun n s' => ∃ h' tk' m y z ty tz, n = (if z = y then 0 else mu y + 1) ∧ s' = St s h' tk' ∧ Fr h L h' m ∧ m (Str.ofString "rim") = some (.str (T y) ty) ∧ m (Str.ofString "seen") = some (.str (T z) tz) ∧ m (Str.ofString "pairs") = some (.ref l) ∧
    Inv y ∧ (z = y → replAll ps y = y)) ?_ _ ⟨h₂, tk₃, _, x, [], t, t₁, rfl, rfl, F₂, by rfl, by rfl, by rfl, hx, fun e => by rw [← e]; exact h0⟩
  rintro n s' ⟨h', tk', m, y, z, ty, tz, rfl, rfl, F', my, mz, mp, hy, hz⟩
  have G' := g.keeps F'.keep
  refine wpAny_isTrue_Compare1 (nmL F'.ns mz (nmL F'.ns my (PySem.P.ne_str (s := St s h' tk') (wpAny_truthy_bool ?_))))
  rw [neT]
  by_cases hzy : z = y
  · rw [decide_eq_false (by simp [hzy])]
    show wpAny _ _ (execs [] _) _ _ _
    refine wpAny_execs_nil ?_
    show wpAny (model P0 w) A' (execs _ _) _ _ (St s h' tk')
    exact wpAny_execs_cons (wpAny_Return_some (nmL F'.ns my ⟨h', _, rfl, F'.keep, y, ⟨ty, rfl⟩, hy, hz hzy⟩))
  · rw [decide_eq_true (by simpa using hzy)]
    show wpAny (model P0 w) A' (execs _ _) _ _ (St s h' tk')
    refine wpAny_execs_cons (wpAny_Assign_Name (nmL F'.ns my (stL F' (News.nil) fun h₃ tk₄ F₃ N₃ _ => ?_)))
    have G₃ := g.keeps F₃.keep
    obtain ⟨vs, hl₃, pv⟩ := hl.keeps F₃.keep
    refine wpAny_execs_cons (wpAny_Assign_Name ?_)
    refine callO G₃ (by k_is) (by k_is) (args_cons (nmL F₃.ns (v := .str (T y) ty) my (items_star (nmL F₃.ns (v := .ref l) mp ?_))))
    have hvl : vs.length ≤ 16 := by have e := pv.length; rw [flatP_len] at e; omega
    refine starL hl₃ (by omega) fun h₄ k₄ => args_nil ⟨G₃.keeps k₄, ?_⟩
    rw [List.append_nil]
    refine (c_replace (G₃.keeps k₄) r' pv hn (hlen y hy) hp).use fun v h₅ tk₅ k₅ ⟨t₂, e⟩ => ?_
    subst e
    refine stL ((F₃.keeps k₄).keeps k₅) News.nil fun h₆ tk₆ F₆ N₆ _ => wpAny_execs_nil ?_
    refine ⟨_, ?_, h₆, tk₆, _, replAll ps y, y, t₂, ty, rfl, rfl, F₆, by rfl, by rfl, mp, (hst y hy).1, fun e => by rw [← e]; exact e.symm⟩
    rw [if_neg hzy]
    split
    · omega
    · rename_i hne
      have := (hst y hy).2 fun e => hne e.symm
      omega
end Mine
end

section
-- B4
open PySem PySem.W PyProof.Rows PySem.Spec PySem.Calls
set_option maxRecDepth 100000
namespace Mine
theorem newI {h₀ h : Heap} {L I : Addr} {m : Str → Option Value} (F : Fr h₀ L h m) (hI : h.objs.size ≤ I) : h₀.get? I = none ∧ L ≠ I :=
  ⟨Kp.none F.keep (Heap.get?_none_of_le hI), fun e => by obtain ⟨o, _, _, ho, _⟩ := F.ns; have := Heap.lt_size ho; rw [e] at this; exact absurd this (Nat.not_lt.mpr hI)⟩
theorem newN {h₀ h : Heap} {L I : Addr} {news : List (Addr × Obj)} (N : News h₀ L h news) (hI : h.objs.size ≤ I) : ∀ p ∈ news, p.1 ≠ I := fun p hp e => by
  have := Heap.lt_size (N p hp).1; rw [e] at this; exact absurd this (Nat.not_lt.mpr hI)
section
variable {w : World} {A : Around} {s : Shared} {h : Heap} {tk : Nat} {env : Env} {E : Value → Shared → Prop}
/-- the same where the iterator alone is walked (a text, a range) -/
def SrcI (w : World) (A : Around) (xv : Value) (s : Shared) (h : Heap) (tk : Nat) (n : Nat) (P : Nat → Value → Prop) : Prop :=
  ∀ (Q : Value → Shared → Prop) (E : Value → Shared → Prop),
    (∀ I Ts h₁, Kp h h₁ → h.objs.size ≤ I → (∀ i g, Ts i g → ∃ o, g.get? I = some o) → Walks P0 w A I [I] [I] n P Ts → Ts 0 h₁ → Q (.ref I) (St s h₁ tk)) → wpAny (model P0 w) A (pyIter xv) Q E (St s h tk)
theorem SrcI.str (hh : A.handled = none) {x : Str} {t : Tok} : SrcI w A (.str x t) s h tk x.cps.size (SignAt x) := fun Q E H => by
  cases ha : x.cps.all (· < 128)
  · exact wpAny_pyIter_wide (s := St s h tk) ha (H h.objs.size _ _ (Kp.push _ _) (Nat.le_refl _) (fun i g ⟨o, e, _⟩ => ⟨o, e⟩) (Walks.strWide hh _ x t) ⟨_, Heap.get?_push_size h rfl, rfl, rfl⟩)
  · exact wpAny_pyIter_ascii (s := St s h tk) ha (H h.objs.size _ _ (Kp.push _ _) (Nat.le_refl _) (fun i g ⟨o, e, _⟩ => ⟨o, e⟩) (Walks.strAscii hh _ x t) ⟨_, Heap.get?_push_size h rfl, rfl, rfl⟩)
theorem rngI {n : Nat} {t : Tok} {Q : Value → Shared → Prop} (hh : A.handled = none) (hn : n < 1000000) (H : ∀ r h' tk', Kp h h' → SrcI w A (.ref r) s h' tk' n (fun i v => ∃ t, v = .int i t) → Q (.ref r) (St s h' tk')) :
    wpAny (model P0 w) A (call (.type "range") [.int n t]) Q E (St s h tk) := by
  refine call_range_1 (s := St s h tk) (H _ _ _ (Kp.push _ _) ?_)
  intro Q E H
  generalize hh2 : ((St s h tk).heap.push { cls := Value.type "range", data := Data.fields #[Value.int 0 (St s h tk).toks, Value.int (↑n) t, Value.int 1 ((St s h tk).toks + 1)] }) = h₂ at *
  have hr : IsRange h₂ (St s h tk).heap.objs.size 0 n 1 (St s h tk).toks t ((St s h tk).toks + 1) := by rw [← hh2]; exact IsRange.new _ _ _ _ _ _ _
  refine wpAny_pyIter_range (s := St s h₂ ((St s h tk).toks + 1 + 1)) hr (small_one (by omega) (by omega) (by omega) (by omega)) ?_
  have W := Walks.range (prog := P0) (w := w) hh h₂.objs.size 0 1 n
  have W' : Walks P0 w A h₂.objs.size [h₂.objs.size] [h₂.objs.size] n (fun i v => ∃ t, v = .int i t) _ := { sub := W.sub, frame := W.frame, done := W.done, self := W.self, item := fun i s Q E hi st hQ => W.item i s Q E hi st fun v h' tk hP => hQ v h' tk (by obtain ⟨t, rfl⟩ := hP; exact ⟨t, by rw [Int.mul_one, Int.zero_add]⟩) }
  have hz : Builtin.Range.rangeSize 0 (n : Int) 1 = n := by rw [rangeSize_one]; split <;> omega
  refine H h₂.objs.size _ _ (Kp.push _ _) (Nat.le_refl _) (fun i g e => ⟨_, e⟩) W' ?_
  show IsRangeIter (h₂.push _) _ _ _ _
  rw [hz]
  simpa using Heap.get?_push_size h₂ rfl
/-- a for over one name by an invariant over the heap -/
theorem forI {x : Str} {px pos : Pos} {iter : Expr} {body : List Stmt} {Q : Flow → Shared → Prop}
    (H : wpAny (model P0 w) A (eval iter env) (fun xv s₁ => ∃ (h₁ : Heap) (tk₁ n : Nat) (P : Nat → Value → Prop), s₁ = St s h₁ tk₁ ∧ SrcI w A xv s h₁ tk₁ n P ∧
      ∀ (I : Addr) (h₂ : Heap), Kp h₁ h₂ → h₁.objs.size ≤ I →
        ∃ J : Nat → Heap → Prop, J 0 h₂ ∧ (∀ i h h', J i h → (∀ b o, b ∉ [I] → h.get? b = some o → h'.get? b = some o) → J i h') ∧
        (∀ i v h₃ tk₃ oI, i < n → P i v → J i h₃ → h₃.get? I = some oI → wpAny (model P0 w) A (assign (.Name x px) env v) (fun _ s' => wpAny (model P0 w) A (execs body env) (fun f s'' => f = .next ∧ ∃ h₄ tk₄, s'' = St s h₄ tk₄ ∧ J (i + 1) h₄ ∧ h₄.get? I = some oI) (fun _ _ => False) s') (fun _ _ => False) (St s h₃ tk₃)) ∧
        (∀ h' tk', J n h' → Q .next (St s h' tk'))) E (St s h tk))
    (hs : ∀ x, foldedSetIterable iter env x = pure x := by intro _; rfl) :
    wpAny (model P0 w) A (exec (.For (.Name x px) iter body [] pos) env) Q E (St s h tk) := by
  refine wpAny_For (wpAny_mono H (fun xv s₁ h₁ => ?_) fun _ _ e => e) hs
  obtain ⟨h₁, tk₁, n, P, rfl, src, R⟩ := h₁
  refine src _ _ fun I Ts h₂ k₂ hI hTs W hst => ?_
  obtain ⟨J, j0, jI, step, fin⟩ := R I h₂ k₂ hI
  refine codeAny_forLoop (fun k s' => ∃ h' tk' i, s' = St s h' tk' ∧ i ≤ n ∧ k = n + 1 - i ∧ Ts i h' ∧ J i h') ?_ (n + 1) ⟨h₂, tk₁, 0, rfl, Nat.zero_le _, rfl, hst, j0⟩
  rintro k s' ⟨h', tk', i, rfl, hi, rfl, ht, hj⟩
  by_cases hlt : i < n
  · refine W.item i (St s h' tk') _ _ hlt ht fun v h₃ tk₃ hv ht₃ hk₃ => ?_
    obtain ⟨oI, eI⟩ := hTs _ _ ht₃
    refine wpAny_mono (step i v h₃ tk₃ oI hlt hv (jI i _ _ hj hk₃) eI) (fun _ s₄ q => noE (wpAny_mono q (fun f s₅ ⟨e, h₄, tk₄, e₄, j₄, kf⟩ => ?_) fun _ _ e => e)) fun _ _ e => e.elim
    subst e; subst e₄
    exact ⟨n + 1 - (i + 1), by omega, h₄, tk₄, i + 1, rfl, hlt, rfl, W.frame _ _ _ ht₃ (fun b hb o e => by rw [List.mem_singleton.mp hb] at e ⊢; rw [eI] at e; cases e; exact kf), j₄⟩
  · obtain rfl : i = n := Nat.le_antisymm hi (Nat.not_lt.mp hlt)
    refine W.done (St s h' tk') _ _ ht fun h₃ tk₃ hk₃ => wpAny_execs_nil ?_
    exact fin h₃ tk₃ (jI _ _ _ hj hk₃)
/-- an item of a list of the ledger's set -/
theorem setL {h₀ : Heap} {L l : Addr} {m : Str → Option Value} {o : Obj} {rest : List (Addr × Obj)} {vs : List Value} {n : Nat} {k : Int} {t : Tok} {v : Value} {Q : Unit → Shared → Prop} (F : Fr h₀ L h m) (N : News h₀ L h ((l, o) :: rest)) (hr : ∀ p ∈ rest, p.1 ≠ l)
    (hc : o.cls = .type "list") (hd : o.data = .seq vs.toArray n) (h0 : 0 ≤ k) (h1 : k < vs.length) (hf : vs.length < 1000000)
    (H : ∀ h' o' n', Fr h₀ L h' m → News h₀ L h' ((l, o') :: rest) → o'.cls = .type "list" → o'.data = .seq (vs.set k.toNat v).toArray n' → Heap.SameBut l h h' → Q () (St s h' tk)) :
    wpAny (model P0 w) A (setItem (.ref l) (.int k t) v) Q E (St s h tk) := by
  have Nl := N (l, o) (.head _)
  refine wpAny_setItem_list (s := St s h tk) (items := vs.toArray) ⟨o, Nl.1, hc, n, hd⟩ h0 (by omega) (by rw [List.size_toArray]; exact h1) fun h' hl' hs => ?_
  obtain ⟨o', e', c', n', d'⟩ := hl'
  refine H h' o' n' (F.change hs Nl.2.1 Nl.2.2) (fun p hp => ?_) c' (by rw [d']; simp) hs
  rcases List.mem_cons.mp hp with rfl | hp
  · exact ⟨e', Nl.2⟩
  · exact ⟨(hs.2 _ (hr p hp)).trans (N p (.tail _ hp)).1, (N p (.tail _ hp)).2⟩
theorem stC {x : Str} {v : Value} {v₀ : Option Value} {m : Str → Option Value} {h₀ : Heap} {L c : Addr} {o : Obj} {rest : List (Addr × Obj)} {Q : Unit → Shared → Prop} (F : Fr h₀ L h m) (N : News h₀ L h ((c, o) :: rest)) (hr : ∀ p ∈ rest, p.1 ≠ c)
    (hc : env.cells.lookup x = some c) (hd : o.data = .cell v₀)
    (H : ∀ h' o', Fr h₀ L h' m → News h₀ L h' ((c, o') :: rest) → o'.data = .cell (some v) → Heap.SameBut c h h' → Q () (St s h' tk)) (hk : env.scope.kind = .function := by rfl) (hx : env.kindOf x = some .cell := by rfl) :
    wpAny (model P0 w) A (storeName env x v) Q E (St s h tk) := by
  have Nc := N (c, o) (.head _)
  refine wpAny_storeName_cell (s := St s h tk) hk hx hc ⟨o, Nc.1, hd⟩ fun h' ⟨o', e', d'⟩ hs => ?_
  refine H h' o' (F.change hs Nc.2.1 Nc.2.2) (fun p hp => ?_) d' hs
  rcases List.mem_cons.mp hp with rfl | hp
  · exact ⟨e', Nc.2⟩
  · exact ⟨(hs.2 _ (hr p hp)).trans (N p (.tail _ hp)).1, (N p (.tail _ hp)).2⟩
theorem newL {h₀ : Heap} {L : Addr} {m : Str → Option Value} {news : List (Addr × Obj)} {vs : List Value} {Q : Value → Shared → Prop} (F : Fr h₀ L h m) (N : News h₀ L h news) (hz : vs.length ≤ 1000)
    (H : ∀ l h', Fr h₀ L h' m → News h₀ L h' ((l, listOf vs.toArray 0) :: news) → Kp h h' → h.get? l = none → Q (.ref l) (St s h' tk)) : wpAny (model P0 w) A (newList vs) Q E (St s h tk) :=
  wpAny_newObj_type (s := St s h tk) (H _ _ (F.push _) (N.push F _) (Kp.push _ _) (Heap.get?_none_of_le (Nat.le_refl _))) (by show vs.toArray.size ≤ sizeLine; rw [List.size_toArray, show sizeLine = 16777216 from rfl]; omega)
theorem getL {l : Addr} {vs : List Value} {k : Int} {t : Tok} {x : Value} {Q : Value → Shared → Prop} (hl : LO h l vs) (h0 : 0 ≤ k) (hfit : k < 2 ^ 63) (hx : vs[k.toNat]? = some x) (H : Q x (St s h tk)) : wpAny (model P0 w) A (getItem (.ref l) (.int k t)) Q E (St s h tk) :=
  wpAny_getItem_list (s := St s h tk) hl.isList h0 hfit (by simpa using hx) H
end
end Mine
end

section
-- F_boxes
open PySem PySem.W PyProof.Rows PySem.Spec PySem.Calls
set_option maxRecDepth 100000
set_option maxHeartbeats 1000000
namespace Mine
def bump (bs : List Int) (i : Nat) : List Int := bs.set i (bs.getD i 0 + 1)
def inner (line : Int) : Nat → List Int → List Int
  | 0, bs => bs
  | n + 1, bs => bump (inner line n bs) ((((n : Int) - line).fmod 3).toNat)
def boxStep (st : List Int × Int × Nat) (c : Nat) : List Int × Int × Nat :=
  if c = 46 then (st.1, st.2.1, st.2.2 + 1) else (inner (st.2.1 - 1) st.2.2 st.1, st.2.1 - 1, st.2.2)
def boxesF (xs : List Nat) : List Int := (xs.foldl boxStep ([0, 0, 0], ((xs.count 124 : Nat) : Int), 0)).1
theorem inner_len (line : Int) (n : Nat) (bs : List Int) : (inner line n bs).length = bs.length := by
  induction n with
  | zero => rfl
  | succ n ih => simp only [inner, bump, List.length_set, ih]
theorem cnt_count (c : Nat) : ∀ l : List Nat, cnt c l = ((l.count c : Nat) : Int)
  | [] => rfl
  | n :: r => by
    rw [cnt_cons, cnt_count c r, List.count_cons]
    by_cases h : n = c
    · subst h; simp; omega
    · simp [h]
theorem countT (x : List Nat) (c : Nat) : Txt.count (T x) (T [c]) = ((x.count c : Nat) : Int) := by
  rw [show T [c] = ⟨#[c]⟩ from rfl, count_cnt, T_list, cnt_count]
theorem eqSign (c : Nat) : ((⟨#[c]⟩ : Str).cps.toList == (T [46]).cps.toList) = decide (c = 46) := by
  rw [T_list]
  show ([c] == [46]) = _
  by_cases h : c = 46
  · subst h; rfl
  · simp [h]
theorem iAdd {w : World} {A : Around} {s : Shared} {h : Heap} {tk : Nat} {E : Value → Shared → Prop} {Q : Value → Shared → Prop} {a b : Int} {t u : Tok} (H : ∀ t tk', Q (.int (a + b) t) (St s h tk')) : wpAny (model P0 w) A (inplaceOp .Add (.int a t) (.int b u)) Q E (St s h tk) := PySem.P.iadd_int (s := St s h tk) (H _ _)
theorem paired_set {α β : Type} {R : α → β → Prop} : ∀ {vs : List α} {as : List β}, Paired R vs as → ∀ (i : Nat) (v : α) (a : β), R v a → Paired R (vs.set i v) (as.set i a)
  | _, _, .nil, i, v, a, h => .nil
  | _, _, .cons r t, 0, v, a, h => .cons h t
  | _, _, .cons r t, i + 1, v, a, h => .cons r (paired_set t i v a h)
theorem mod3 (a : Int) : 0 ≤ a.fmod 3 ∧ a.fmod 3 < 3 := by
  rw [Int.fmod_eq_emod_of_nonneg _ (by decide)]
  exact ⟨Int.emod_nonneg _ (by decide), Int.emod_lt_of_pos _ (by decide)⟩
theorem c_boxes {w : World} {A : Around} {s : Shared} {h : Heap} {tk : Nat} {x : List Nat} {t : Tok} (g : Gd w h) (r : Rm A 1) (hx : x.length ≤ 1000) :
    Qs w A (call (.ref 100) [.str (T x) t]) s h tk (fun v h' => ∃ l', v = .ref l' ∧ h.get? l' = none ∧ LI h' l' (boxesF x)) := by
  refine' enter (binds := [(Str.ofString "rim", .str (T x) t)]) g r ?ho ?hcd ?hb ?hloc ?hcell ?hco ?hgen ?hk ?_
  case ho => k_is
  case hcd => k_is
  case hb => exact rfl
  case hloc => exact rfl
  case hcell => decide
  case hco => exact rfl
  case hgen => exact rfl
  case hk => exact rfl
  intro A' L h₁ tk₁ r' F N G
  refine wpAny_execs_cons (wpAny_Assign_Name (List_ (args_cons (cI fun t₁ tk₂ => args_cons (cI fun t₂ tk₃ => args_cons (cI fun t₃ tk₄ => args_nil ?_))))))
  refine newL F N (Nat.le_of_ble_eq_true rfl) fun lb h₂ F₂ N₂ k₂ hlb => stL F₂ N₂ fun h₃ tk₅ F₃ N₃ _ => ?_
  refine wpAny_execs_cons (wpAny_Assign_Name (MethodCall_ (nmL F₃.ns (by rfl) (GM.count (callWith_method1 (args_cons (cT (xs := [124]) rfl fun t₄ tk₆ => args_nil ?_)))))))
  refine SC.count (s := St s h₃ tk₆) ?_
  rw [countT]
  show wpAny _ _ (storeName _ _ _) _ _ (St s h₃ _)
  refine stL F₃ N₃ fun h₄ tk₇ F₄ N₄ _ => ?_
  refine wpAny_execs_cons (wpAny_Assign_Name (cI fun t₅ tk₈ => stL F₄ N₄ fun h₅ tk₉ F₅ N₅ _ => ?_))
  have G₅ := g.keeps F₅.keep
  refine wpAny_execs_cons (forI (nmL F₅.ns (v := .str (T x) t) (by rfl) ?_))
  refine ⟨h₅, tk₉, x.length, SignAt (T x), rfl, by rw [show x.length = (T x).cps.size from (T_length x).symm]; exact SrcI.str r'.hh, fun I h₆ k₆ hI => ?_⟩
  obtain ⟨hI0, hIL⟩ := newI F₅ hI
  have hIlb : lb ≠ I := newN N₅ hI _ (.head _)
  refine ⟨fun i h' => ∃ m vs o n st tl tw, Fr h L h' m ∧ News h L h' [(lb, o)] ∧ o.cls = .type "list" ∧ o.data = .seq (List.toArray vs) n ∧ (x.take i).foldl boxStep ([0, 0, 0], ((x.count 124 : Nat) : Int), 0) = st ∧ st.2.2 ≤ i ∧ st.1.length = 3 ∧
    Paired isI vs st.1 ∧ m (Str.ofString "boxes") = some (.ref lb) ∧ m (Str.ofString "line") = some (.int st.2.1 tl) ∧ m (Str.ofString "width") = some (.int (st.2.2 : Nat) tw), ?_, ?_, ?_, ?_⟩
  · exact ⟨_, _, _, 0, _, _, _, F₅.keeps k₆, N₅.grown k₆, rfl, rfl, rfl, Nat.le_refl _, rfl, .cons ⟨_, rfl⟩ (.cons ⟨_, rfl⟩ (.cons ⟨_, rfl⟩ .nil)), by rfl, by rfl, by rfl⟩
  · rintro i g₁ g₂ ⟨m, vs, o, n, st, tl, tw, F', N', hc, hd, rest⟩ hk
    exact ⟨m, vs, o, n, st, tl, tw, LCg.fr_but F' hk hIL hI0, LCg.news_but N' hk (fun p hp => by rw [List.mem_singleton.mp hp]; exact hIlb), hc, hd, rest⟩
  · rintro i v h₃ tk₃ oI hi ⟨c, u, hc0, rfl⟩ ⟨m, vs, o, n, st, tl, tw, F', N', hc, hd, hst, hw, h3, pv, mb, ml, mw⟩ eI
    have hci : x[i]? = some c := by simpa [T] using hc0
    have hst' : (x.take (i + 1)).foldl boxStep ([0, 0, 0], ((x.count 124 : Nat) : Int), 0) = boxStep st c := by
      rw [List.take_add_one, hci]
      simp only [Option.toList, List.foldl_append, List.foldl_cons, List.foldl_nil, hst]
    have N'' : News h L h₃ [(lb, o), (I, oI)] := fun p hp => by
      rcases List.mem_cons.mp hp with rfl | hp
      · exact N' _ (.head _)
      · rw [List.mem_singleton.mp hp]; exact ⟨eI, Ne.symm hIL, hI0⟩
    refine wpAny_assign_Name (stL F' N'' fun h₄ tk₄ F₄ N₄ _ => ?_)
    refine wpAny_execs_cons (wpAny_If (wpAny_isTrue_Compare1 (nmL F₄.ns (by rfl) (cT (xs := [46]) rfl fun t₆ tk₅ => PySem.P.eq_str (s := St s h₄ tk₅) (wpAny_truthy_bool ?_)))))
    rw [eqSign]
    by_cases hc46 : c = 46
    · rw [decide_eq_true hc46]
      show wpAny (model P0 w) A' (execs _ _) _ _ (St s h₄ tk₅)
      refine wpAny_execs_cons (wpAny_Assign_Name (wpAny_BinOp (nmL F₄.ns (v := .int (st.2.2 : Nat) tw) mw (cI fun t₇ tk₆ => bAdd fun t₈ tk₇ => stL F₄ N₄ fun h₅ tk₈ F₅ N₅ _ => wpAny_execs_nil (wpAny_execs_nil ?_)))))
      refine ⟨rfl, h₅, tk₈, rfl, ⟨_, vs, o, n, boxStep st c, tl, t₈, F₅, fun p hp => N₅ p (by rw [List.mem_singleton.mp hp]; exact .head _), hc, hd, hst', ?_, ?_, ?_, mb, ?_, ?_⟩, N₅.get (.tail _ (.head _))⟩
      · simp only [boxStep, if_pos hc46]; omega
      · simp only [boxStep, if_pos hc46]; exact h3
      · simp only [boxStep, if_pos hc46]; exact pv
      · simp only [boxStep, if_pos hc46]; exact ml
      · simp only [boxStep, if_pos hc46]; rfl
    · rw [decide_eq_false hc46]
      show wpAny (model P0 w) A' (execs _ _) _ _ (St s h₄ tk₅)
      refine wpAny_execs_cons (wpAny_Assign_Name (wpAny_BinOp (nmL F₄.ns (v := .int st.2.1 tl) ml (cI fun t₇ tk₆ => bSub fun t₈ tk₇ => stL F₄ N₄ fun h₅ tk₈ F₅ N₅ _ => ?_))))
      have G₅ := g.keeps F₅.keep
      refine wpAny_execs_cons (forI (callT G₅ (by k_is) (by boot_fast) (args_cons (nmL F₅.ns (v := .int (st.2.2 : Nat) tw) mw (args_nil (rngI r'.hh (by omega) fun rr h₆ tk₉ k₆ sr => ?_))))))
      refine ⟨h₆, tk₉, st.2.2, _, rfl, sr, fun I2 h₇ k₇ hI2 => ?_⟩
      have F₆ := F₅.keeps k₆
      have N₆ := N₅.grown k₆
      obtain ⟨hJ0, hJL⟩ := newI F₆ hI2
      have hJ := newN N₆ hI2
      have hJlb : lb ≠ I2 := hJ (lb, o) (.head _)
      refine ⟨fun j h' => ∃ m vs o n tl tw, Fr h L h' m ∧ News h L h' [(lb, o), (I, oI)] ∧ o.cls = .type "list" ∧ o.data = .seq (List.toArray vs) n ∧ Paired isI vs (inner (st.2.1 - 1) j st.1) ∧
        m (Str.ofString "boxes") = some (.ref lb) ∧ m (Str.ofString "line") = some (.int (st.2.1 - 1) tl) ∧ m (Str.ofString "width") = some (.int (st.2.2 : Nat) tw), ?_, ?_, ?_, ?_⟩
      · exact ⟨_, vs, o, n, t₈, tw, F₆.keeps k₇, N₆.grown k₇, hc, hd, pv, mb, by rfl, mw⟩
      · rintro j g₁ g₂ ⟨m, vs, o, n, tl, tw, F', N', hc, hd, rest⟩ hk
        exact ⟨m, vs, o, n, tl, tw, LCg.fr_but F' hk hJL hJ0, LCg.news_but N' hk (fun p hp => by
          rcases List.mem_cons.mp hp with rfl | hp
          · exact hJlb
          · rw [List.mem_singleton.mp hp]; exact hJ (I, oI) (.tail _ (.head _))), hc, hd, rest⟩
      · rintro j v h₈ tk₁₀ oJ hj ⟨tj, rfl⟩ ⟨m₂, vs₂, o₂, n₂, tl₂, tw₂, F₈, N₈, hc₂, hd₂, pv₂, mb₂, ml₂, mw₂⟩ eJ
        have N₈' : News h L h₈ [(lb, o₂), (I, oI), (I2, oJ)] := fun p hp => by
          rcases List.mem_cons.mp hp with rfl | hp
          · exact N₈ _ (.head _)
          · rcases List.mem_cons.mp hp with rfl | hp
            · exact N₈ _ (.tail _ (.head _))
            · rw [List.mem_singleton.mp hp]; exact ⟨eJ, Ne.symm hJL, hJ0⟩
        refine wpAny_assign_Name (stL F₈ N₈' fun h₉ tk₁₁ F₉ N₉ _ => ?_)
        have hl9 : LO h₉ lb vs₂ := ⟨o₂, N₉.get (.head _), hc₂, n₂, hd₂⟩
        have hm3 := mod3 ((j : Int) - (st.2.1 - 1))
        have hlen : vs₂.length = 3 := by rw [pv₂.length, inner_len, h3]
        obtain ⟨b, hb⟩ : ∃ b, (inner (st.2.1 - 1) j st.1)[(((j : Int) - (st.2.1 - 1)).fmod 3).toNat]? = some b := by
          have : (((j : Int) - (st.2.1 - 1)).fmod 3).toNat < (inner (st.2.1 - 1) j st.1).length := by rw [inner_len, h3]; omega
          exact ⟨_, List.getElem?_eq_getElem this⟩
        obtain ⟨vb, hvb, tb, rfl⟩ := paired_at pv₂ _ _ hb
        refine wpAny_execs_cons (wpAny_AugAssign_Subscript_any (nmL F₉.ns (v := .ref lb) mb₂ (wpAny_BinOp (wpAny_BinOp (nmL F₉.ns (by rfl) (nmL F₉.ns (v := .int (st.2.1 - 1) tl₂) ml₂ (bSub fun t₁₁ tk₁₂ => cI fun t₁₂ tk₁₃ => bMod (by decide) fun t₁₃ tk₁₄ => ?_)))))))
        refine getL hl9 hm3.1 (by omega) hvb (cI fun t₁₄ tk₁₅ => iAdd fun t₁₅ tk₁₆ => ?_)
        refine setL F₉ N₉ (fun p hp => ?_) hc₂ hd₂ hm3.1 (by rw [hlen]; exact hm3.2) (by omega) fun h₁₀ o₃ n₃ F₁₀ N₁₀ c₃ d₃ _ => wpAny_execs_nil ?_
        · rcases List.mem_cons.mp hp with rfl | hp
          · exact Ne.symm hIlb
          · rw [List.mem_singleton.mp hp]; exact Ne.symm hJlb
        refine ⟨rfl, h₁₀, _, rfl, ⟨_, _, o₃, n₃, tl₂, tw₂, F₁₀, fun p hp => N₁₀ p (by
          rcases List.mem_cons.mp hp with rfl | hp
          · exact .head _
          · rw [List.mem_singleton.mp hp]; exact .tail _ (.head _)), c₃, d₃, ?_, mb₂, ml₂, mw₂⟩, N₁₀.get (.tail _ (.tail _ (.head _)))⟩
        show Paired isI _ (bump (inner (st.2.1 - 1) j st.1) _)
        unfold bump
        refine paired_set pv₂ _ _ _ ⟨t₁₅, ?_⟩
        simp [List.getD, hb]
      · rintro h' tk' ⟨m₂, vs₂, o₂, n₂, tl₂, tw₂, F₈, N₈, hc₂, hd₂, pv₂, mb₂, ml₂, mw₂⟩
        refine wpAny_execs_nil (wpAny_execs_nil ?_)
        refine ⟨rfl, h', tk', rfl, ⟨_, vs₂, o₂, n₂, boxStep st c, tl₂, tw₂, F₈, fun p hp => N₈ p (by rw [List.mem_singleton.mp hp]; exact .head _), hc₂, hd₂, hst', ?_, ?_, ?_, mb₂, ?_, ?_⟩, N₈.get (.tail _ (.head _))⟩
        · simp only [boxStep, if_neg hc46]; omega
        · simp only [boxStep, if_neg hc46, inner_len]; exact h3
        · simp only [boxStep, if_neg hc46]; exact pv₂
        · simp only [boxStep, if_neg hc46]; exact ml₂
        · simp only [boxStep, if_neg hc46]; exact mw₂
  · rintro h' tk' ⟨m, vs, o, n, st, tl, tw, F', N', hc, hd, hst, hw, h3, pv, mb, ml, mw⟩
    refine wpAny_execs_cons (wpAny_Return_some (nmL F'.ns mb ⟨h', tk', rfl, F'.keep, lb, rfl, (N' _ (.head _)).2.2, vs, ⟨o, (N' _ (.head _)).1, hc, n, hd⟩, ?_⟩))
    rw [List.take_length] at hst
    unfold boxesF
    rw [hst]; exact pv
end Mine
end

section
-- F_core
open PySem PySem.W PyProof.Rows PySem.Spec PySem.Calls
set_option maxRecDepth 100000
set_option maxHeartbeats 1000000
namespace Mine
def coreSign (R : Nat) (bs : List Int) (p : Int) : Nat := if p.fdiv 3 < bs.getD ((p - (R : Int)).fmod 3).toNat 0 then 124 else 46
def coreF (n R : Nat) (c0 c1 c2 : Int) : List Nat := (List.range n).map fun p => coreSign R (inner (R : Int) R [c0 - c1, c1 - c2, c2 - c0]) ((p : Nat) : Int)
theorem c_core {w : World} {A : Around} {s : Shared} {h : Heap} {tk : Nat} {l : Addr} {n R : Nat} {tn tr : Tok} {c0 c1 c2 : Int} (g : Gd w h) (r : Rm A 2) (hl : LI h l [c0, c1, c2]) (hn : n ≤ 1000) (hR : R ≤ 1000) :
    Qs w A (call (.ref 115) [.int (n : Nat) tn, .int (R : Nat) tr, .ref l]) s h tk (fun v h' => isS v (T (coreF n R c0 c1 c2))) := by
  refine' enterC (binds := [(Str.ofString "length", .int (n : Nat) tn), (Str.ofString "rows", .int (R : Nat) tr), (Str.ofString "colour", .ref l)]) g r ?ho ?hcd ?hb ?hkind ?hnd ?hco ?hgen ?hk ?_
  case ho => k_is
  case hcd => k_is
  case hb => exact rfl
  case hkind => exact rfl
  case hnd => decide
  case hco => exact rfl
  case hgen => exact rfl
  case hk => exact rfl
  intro A' L h₁ tk₁ cells r' F N C G
  obtain ⟨ob, or, rfl, hob, hor⟩ := CellsAre.two (n := Str.ofString "beads") (c := L + 2) (n' := Str.ofString "rows") (c' := L + 1) C
  refine wpAny_execs_cons (wpAny_Assign_Name (callO G (by k_is) (by k_is) (args_cons (nmL F.ns (by rfl) (args_nil ⟨G, ?_⟩)))))
  refine (c_steps G r' (hl.keeps F.keep)).use fun v h₂ tk₂ k₂ ⟨lb, e, hnew, vs, ⟨o, hv, hc, k, hd⟩, pv⟩ => ?_
  subst e
  have N₂ := addN F N k₂ hnew hv
  have hlbc : lb ≠ L + 2 := fun e => by have := (N (L + 2, ob) (.head _)).1; rw [← e, hnew] at this; cases this
  have hlbr : lb ≠ L + 1 := fun e => by have := (N (L + 1, or) (.tail _ (.head _))).1; rw [← e, hnew] at this; cases this
  have N₂' : News h L h₂ [(L + 2, ob), (lb, o), (L + 1, or)] := fun p hp => N₂ p (by
    rcases List.mem_cons.mp hp with rfl | hp
    · exact .tail _ (.head _)
    · rcases List.mem_cons.mp hp with rfl | hp
      · exact .head _
      · rw [List.mem_singleton.mp hp]; exact .tail _ (.tail _ (.head _)))
  refine stC (c := L + 2) (F.keeps k₂) N₂' (fun p hp => by
    rcases List.mem_cons.mp hp with rfl | hp
    · exact hlbc
    · rw [List.mem_singleton.mp hp]; exact Nat.ne_of_lt (Nat.lt_succ_self _)) (by rfl) hob fun h₃ ob₃ F₃ N₃ hob₃ _ => ?_
  have G₃ := g.keeps F₃.keep
  have hrow : ∀ {h' : Heap}, h'.get? (L + 1) = some or → h'.IsCell (L + 1) (some (.int (R : Nat) tr)) := fun e => ⟨or, e, hor⟩
  refine wpAny_execs_cons (forI (callT G₃ (by k_is) (by boot_fast) (args_cons (nmC (c := L + 1) (by rfl) (hrow (N₃.get (.tail _ (.tail _ (.head _))))) (args_nil (rngI r'.hh (by omega) fun rr h₄ tk₄ k₄ sr => ?_))))))
  refine ⟨h₄, tk₄, R, _, rfl, sr, fun I h₅ k₅ hI => ?_⟩
  have F₄ := F₃.keeps k₄
  have N₄ := N₃.grown k₄
  obtain ⟨hJ0, hJL⟩ := newI F₄ hI
  have hJ := newN N₄ hI
  have hJb : lb ≠ I := hJ (lb, o) (.tail _ (.head _))
  have hJ2 : L + 2 ≠ I := hJ (L + 2, ob₃) (.head _)
  have hJ1 : L + 1 ≠ I := hJ (L + 1, or) (.tail _ (.tail _ (.head _)))
  refine ⟨fun j h' => ∃ m vs o n', Fr h L h' m ∧ News h L h' [(lb, o), (L + 2, ob₃), (L + 1, or)] ∧ o.cls = .type "list" ∧ o.data = .seq (List.toArray vs) n' ∧ Paired isI vs (inner (R : Int) j [c0 - c1, c1 - c2, c2 - c0]) ∧
        m (Str.ofString "length") = some (.int (n : Nat) tn), ?_, ?_, ?_, ?_⟩
  · refine ⟨_, vs, o, k, F₄.keeps k₅, fun p hp => N₄.grown k₅ p (by
      rcases List.mem_cons.mp hp with rfl | hp
      · exact .tail _ (.head _)
      · rcases List.mem_cons.mp hp with rfl | hp
        · exact .head _
        · exact .tail _ (.tail _ hp)), hc, hd, pv, by rfl⟩
  · rintro j g₁ g₂ ⟨m, vs, o, n', F', N', hc, hd, rest⟩ hk
    exact ⟨m, vs, o, n', LCg.fr_but F' hk hJL hJ0, LCg.news_but N' hk (fun p hp => by
      rcases List.mem_cons.mp hp with rfl | hp
      · exact hJb
      · rcases List.mem_cons.mp hp with rfl | hp
        · exact hJ2
        · rw [List.mem_singleton.mp hp]; exact hJ1), hc, hd, rest⟩
  · rintro j v h₈ tk₁₀ oJ hj ⟨tj, rfl⟩ ⟨m₂, vs₂, o₂, n₂, F₈, N₈, hc₂, hd₂, pv₂, ml₂⟩ eJ
    have N₈' : News h L h₈ [(lb, o₂), (L + 2, ob₃), (L + 1, or), (I, oJ)] := fun p hp => by
      rcases List.mem_cons.mp hp with rfl | hp
      · exact N₈ _ (.head _)
      · rcases List.mem_cons.mp hp with rfl | hp
        · exact N₈ _ (.tail _ (.head _))
        · rcases List.mem_cons.mp hp with rfl | hp
          · exact N₈ _ (.tail _ (.tail _ (.head _)))
          · rw [List.mem_singleton.mp hp]; exact ⟨eJ, Ne.symm hJL, hJ0⟩
    refine wpAny_assign_Name (stL F₈ N₈' fun h₉ tk₁₁ F₉ N₉ _ => ?_)
    have hl9 : LO h₉ lb vs₂ := ⟨o₂, N₉.get (.head _), hc₂, n₂, hd₂⟩
    have hcb : h₉.IsCell (L + 2) (some (.ref lb)) := ⟨ob₃, N₉.get (.tail _ (.head _)), hob₃⟩
    have hcr := hrow (N₉.get (.tail _ (.tail _ (.head _))))
    have hm3 := mod3 ((j : Int) - (R : Int))
    have hlen : vs₂.length = 3 := by rw [pv₂.length, inner_len]; rfl
    obtain ⟨b, hb⟩ : ∃ b, (inner (R : Int) j [c0 - c1, c1 - c2, c2 - c0])[(((j : Int) - (R : Int)).fmod 3).toNat]? = some b := by
      have : (((j : Int) - (R : Int)).fmod 3).toNat < (inner (R : Int) j [c0 - c1, c1 - c2, c2 - c0]).length := by rw [inner_len]; show _ < 3; omega
      exact ⟨_, List.getElem?_eq_getElem this⟩
    obtain ⟨vb, hvb, tb, rfl⟩ := paired_at pv₂ _ _ hb
    refine wpAny_execs_cons (wpAny_AugAssign_Subscript_any (nmC (c := L + 2) (by rfl) hcb (wpAny_BinOp (wpAny_BinOp (nmL F₉.ns (by rfl) (nmC (c := L + 1) (by rfl) hcr (bSub fun t₁₁ tk₁₂ => cI fun t₁₂ tk₁₃ => bMod (by decide) fun t₁₃ tk₁₄ => ?_)))))))
    refine Mine.getL hl9 hm3.1 (by omega) hvb (cI fun t₁₄ tk₁₅ => iAdd fun t₁₅ tk₁₆ => ?_)
    refine setL F₉ N₉ (fun p hp => ?_) hc₂ hd₂ hm3.1 (by rw [hlen]; exact hm3.2) (by omega) fun h₁₀ o₃ n₃ F₁₀ N₁₀ c₃ d₃ _ => wpAny_execs_nil ?_
    · rcases List.mem_cons.mp hp with rfl | hp
      · exact Ne.symm hlbc
      · rcases List.mem_cons.mp hp with rfl | hp
        · exact Ne.symm hlbr
        · rw [List.mem_singleton.mp hp]; exact Ne.symm hJb
    refine ⟨rfl, h₁₀, _, rfl, ⟨_, _, o₃, n₃, F₁₀, fun p hp => N₁₀ p (by
      rcases List.mem_cons.mp hp with rfl | hp
      · exact .head _
      · rcases List.mem_cons.mp hp with rfl | hp
        · exact .tail _ (.head _)
        · rw [List.mem_singleton.mp hp]; exact .tail _ (.tail _ (.head _))), c₃, d₃, ?_, ml₂⟩, N₁₀.get (.tail _ (.tail _ (.tail _ (.head _))))⟩
    show Paired isI _ (bump (inner (R : Int) j _) _)
    unfold bump
    refine paired_set pv₂ _ _ _ ⟨t₁₅, ?_⟩
    simp [List.getD, hb]
  · rintro h' tk' ⟨m, vs, o, n', F', N', hc, hd, pv, ml⟩
    have G' := g.keeps F'.keep
    refine wpAny_execs_cons (wpAny_Return_some (MethodCall_ (cT (xs := []) rfl fun t₁ tk₂ => GM.join (callWith_method1 (args_cons ?_)))))
    refine lcomp (R := isI) (S := isS) (f := fun p : Int => T [coreSign R (inner (R : Int) R [c0 - c1, c1 - c2, c2 - c0]) p]) isI.det (by with_unfolding_all rfl) (by decide) (by rfl) (by decide) (by rfl) ?_
    refine callT G' (by k_is) (by boot_fast) (args_cons (nmL F'.ns ml (args_nil (rng r'.hh (by omega) fun rr h₂ tk₃ k₂ sr => ?_))))
    refine ⟨h₂, tk₃, (List.range n).map Int.ofNat, _, rfl, by rw [List.length_map, List.length_range]; exact sr, by rw [List.length_map, List.length_range, show sizeLine = 16777216 from rfl]; omega, ?_, ?_, ?_⟩
    · intro i v hi hv
      obtain ⟨t, rfl⟩ := hv
      rw [List.length_map, List.length_range] at hi
      exact ⟨(i : Int), by rw [List.getElem?_map, List.getElem?_range hi]; rfl, t, rfl⟩
    · intro C i v a s₃ h₃ tk₃ m₃ ha hr hm₃ hm hk
      obtain ⟨t, rfl⟩ := hr
      have kk := k₂
      have hl3 : LO h₃ lb vs := LO.keeps (LO.keeps (h := h') ⟨o, N'.get (.head _), hc, n', hd⟩ k₂) hk
      have hcb : h₃.IsCell (L + 2) (some (.ref lb)) := ⟨ob₃, hk _ _ (k₂ _ _ (N'.get (.tail _ (.head _)))), hob₃⟩
      have hcr := hrow (hk _ _ (k₂ _ _ (N'.get (.tail _ (.tail _ (.head _))))))
      have hm3 := mod3 (a - (R : Int))
      obtain ⟨b, hb⟩ : ∃ b, (inner (R : Int) R [c0 - c1, c1 - c2, c2 - c0])[((a - (R : Int)).fmod 3).toNat]? = some b := by
        have : ((a - (R : Int)).fmod 3).toNat < (inner (R : Int) R [c0 - c1, c1 - c2, c2 - c0]).length := by rw [inner_len]; show _ < 3; omega
        exact ⟨_, List.getElem?_eq_getElem this⟩
      obtain ⟨vb, hvb, tb, rfl⟩ := paired_at pv _ _ hb
      refine wpAny_IfExp ?_
      refine wpAny_isTrue_Compare1 (wpAny_BinOp (nmL hm₃ hm (cI fun t₂ tk₄ => bDiv (by decide) (PyProof.noPylong_small (by decide)) fun t₃ tk₅ => ?_)))
      refine Subscript_ (nmC (c := L + 2) (by rfl) hcb (wpAny_BinOp (wpAny_BinOp (nmL hm₃ hm (nmC (c := L + 1) (by rfl) hcr (bSub fun t₁₁ tk₁₂ => cI fun t₁₂ tk₁₃ => bMod (by decide) fun t₁₃ tk₁₄ => ?_))))))
      refine itL hl3 hm3.1 (by omega) hvb (PyProof.Rows.lt_int (wpAny_truthy_bool ?_))
      have eS : coreSign R (inner (R : Int) R [c0 - c1, c1 - c2, c2 - c0]) a = if a.fdiv 3 < b then 124 else 46 := by
        unfold coreSign; simp [List.getD, hb]
      by_cases hlt : a.fdiv 3 < b
      · rw [decide_eq_true hlt]
        refine cT (xs := [124]) rfl fun t₄ tk₆ => ⟨h₃, tk₆, rfl, Kp.refl _, t₄, ?_⟩
        rw [eS, if_pos hlt]
      · rw [decide_eq_false hlt]
        refine cT (xs := [46]) rfl fun t₄ tk₆ => ⟨h₃, tk₆, rfl, Kp.refl _, t₄, ?_⟩
        rw [eS, if_neg hlt]
    · intro D h₃ tk₄ ys hD hlD pD k
      refine args_nil (joinT (B := 1) ⟨ys, hlD, pD⟩ (fun y hy => ?_) ?_ fun t₂ tk₅ => ?_)
      · obtain ⟨p, hp, rfl⟩ := List.mem_map.mp hy
        exact Nat.le_refl _
      · rw [List.length_map, List.length_map, List.length_range]
        have : (T ([] : List Nat)).length = 0 := rfl
        rw [this]; omega
      · refine ⟨h₃, tk₅, rfl, Kp.trans F'.keep (Kp.trans k₂ k), t₂, ?_⟩
        have e1 : ((List.range n).map Int.ofNat).map (fun p : Int => T [coreSign R (inner (R : Int) R [c0 - c1, c1 - c2, c2 - c0]) p]) = ((List.range n).map fun p => [coreSign R (inner (R : Int) R [c0 - c1, c1 - c2, c2 - c0]) ((p : Nat) : Int)]).map T := by
          rw [List.map_map, List.map_map]; rfl
        rw [e1, join_nil]
        have e2 : ∀ (f : Nat → Nat) (l : List Nat), (l.map fun p => [f p]).flatten = l.map f := fun f l => by
          induction l with
          | nil => rfl
          | cons a r ih => rw [List.map_cons, List.flatten_cons, ih]; rfl
        rw [e2]; rfl
end Mine
end

section
-- R0
open PySem PySem.W PyProof.Rows PySem.Spec PySem.Calls
set_option maxRecDepth 100000
namespace Mine
theorem plainAttrs_re : PlainAttrs "re.Pattern" :=
  ⟨⟨"object.__getattribute__", by rw [typeLookup_type, builtinLookup_eq_fast]; kernel_rfl, by decide +kernel⟩, by rw [typeLookup_type, builtinLookup_eq_fast]; kernel_rfl⟩
theorem slot_re_sub : Slot "re.Pattern" "sub" "re.Pattern.sub" :=
  .of (owner := "re.Pattern") (n := "sub") (by rw [typeLookup_type, builtinLookup_eq_fast]; kernel_rfl) (by decide +kernel) (by decide +kernel) (by decide +kernel)
    (by first | exact .inl (by decide +kernel) | exact .inr (by decide +kernel)) (by rw [isSubtype_type]; kernel_rfl)
theorem type_re_sub : typeOf (.builtin "re.Pattern.sub") = pure (.type "method_descriptor") := by show builtinType _ = _; rw [builtinType_eq_fast]; kernel_rfl
theorem entry_re_sub : entryFor table "re.Pattern.sub" = some Builtin.«re.Pattern.sub» := entryFor_of_tree (by kernel_rfl)
theorem entry_re_loop : entryFor table "re.Pattern.sub.loop" = some Builtin.«re.Pattern.sub.loop» := entryFor_of_tree (by kernel_rfl)
theorem owner_re : Manifest.owners.lookup (String.ofList ['n', 'r', 'e', 't', 't', 'a', 'P', '.', 'e', 'r'].reverse) = some Manifest.sig_re_Pattern := by kernel_rfl
theorem args_re_sub (a b c : Value) : argsOk "re.Pattern.sub" ⟨[a, b, c], []⟩ := by
  unfold argsOk; rw [signature?_of (id := "re.Pattern.sub") (n := ['b', 'u', 's']) (o := ['n', 'r', 'e', 't', 't', 'a', 'P', '.', 'e', 'r']) (by kernel_rfl) owner_re]; kernel_rfl
end Mine
end

section
-- R1
open PySem PySem.W PyProof.Rows PySem.Spec PySem.Calls
set_option maxRecDepth 100000
namespace Mine
open PySem.Sre
def cd1 : Array Nat := #[14, 4, 0, 1, 1, 6, 1, 16, 46, 1]
def cd2 : Array Nat := #[14, 9, 4, 1, 2, 16, 10, 16, 13, 0, 7, 7, 16, 13, 16, 10, 15, 18, 5, 16, 10, 15, 13, 11, 16, 13, 5, 5, 0, 16, 10, 1, 15, 2, 0, 1]
theorem runFor_add (a b : Nat) (m : M) : M.runFor (a + b) m = M.runFor b (M.runFor a m) := by
  induction a generalizing m with
  | zero => rw [Nat.zero_add]; rfl
  | succ a ih =>
    rw [Nat.add_right_comm]
    show (if m.outcome.isSome then m else M.runFor (a + b) m.step) = M.runFor b (if m.outcome.isSome then m else M.runFor a m.step)
    by_cases h : m.outcome.isSome = true
    · rw [if_pos h, if_pos h]
      cases b with
      | zero => rfl
      | succ b => show m = if m.outcome.isSome then m else _; rw [if_pos h]
    · rw [if_neg h, if_neg h, ih]
theorem runFor_done {m : M} (h : m.outcome.isSome = true) : ∀ k, M.runFor k m = m
  | 0 => rfl
  | k + 1 => by show (if m.outcome.isSome then m else _) = m; rw [if_pos h]
/-- the machine ends as o says, and the match is where p says -/
def Ends (m : M) (k : Nat) (P : M → Prop) : Prop := ∃ j, j ≤ k ∧ (M.runFor j m).outcome.isSome = true ∧ P (M.runFor j m)
theorem Ends.step {m m' : M} {a k : Nat} {P : M → Prop} (e : M.runFor a m = m') (h : Ends m' k P) : Ends m (a + k) P := by
  obtain ⟨j, hj, ho, hp⟩ := h
  exact ⟨a + j, by omega, by rw [runFor_add, e]; exact ho, by rw [runFor_add, e]; exact hp⟩
theorem Ends.le {m : M} {k k' : Nat} {P : M → Prop} (h : Ends m k P) (hk : k ≤ k') : Ends m k' P := let ⟨j, hj, r⟩ := h; ⟨j, Nat.le_trans hj hk, r⟩
def A1 (text : Array Nat) (lim s : Nat) (first : Bool) (seen : Sre.Seen) : M :=
  { code := cd1, text, lim, start := s, lastStart := lim, pc := 5, pos := s, handed := s, outermost := first, marks := #[], frames := [{ wait := .nextStart, pc := 5, pos := s, outermost := first }], weight := 1, seen }
theorem A1_no {text : Array Nat} {lim s : Nat} {first : Bool} {seen : Sre.Seen} (h0 : s ≠ 0) (h1 : text.getD (s - 1) 0 ≠ 10) (hs : s < lim) : M.runFor 2 (A1 text lim s first seen) = A1 text lim (s + 1) false ((seen.add 6).add 44) := by
  have e1 : (s == 0 || text.getD (s - 1) 0 == 10) = false := by rw [Bool.or_eq_false_iff]; exact ⟨by simpa using h0, by simpa using h1⟩
  have s1 : (A1 text lim s first seen).step = { A1 text lim s first ((seen.add 6).add 44) with answer := some false } := by
    show (if (s == 0 || text.getD (s - 1) 0 == 10) = true then _ else _) = _
    rw [e1]; rfl
  show M.runFor 1 (A1 text lim s first seen).step = _
  rw [s1]
  show (if s < lim then _ else _) = _
  rw [if_pos hs]
  rfl
theorem A1_at {text : Array Nat} {lim s : Nat} {first : Bool} {seen : Sre.Seen} (h1 : s = 0 ∨ text.getD (s - 1) 0 = 10) : (A1 text lim s first seen).step = { A1 text lim s first ((seen.add 6).add 44) with pc := 7 } := by
  have e1 : (s == 0 || text.getD (s - 1) 0 == 10) = true := by simpa using h1
  show (if (s == 0 || text.getD (s - 1) 0 == 10) = true then _ else _) = _
  rw [e1]; rfl
theorem A1_lit {text : Array Nat} {lim s : Nat} {first : Bool} {seen : Sre.Seen} (h1 : s = 0 ∨ text.getD (s - 1) 0 = 10) (hs : s < lim) (h2 : text.getD s 0 ≠ 46) :
    M.runFor 3 (A1 text lim s first seen) = A1 text lim (s + 1) false (((seen.add 6).add 44).add 16) := by
  show M.runFor 2 (A1 text lim s first seen).step = _
  rw [A1_at h1]
  have e2 : (text.getD s 0 == 46) = false := by simpa using h2
  have s2 : M.step { A1 text lim s first ((seen.add 6).add 44) with pc := 7 } = { A1 text lim s first (((seen.add 6).add 44).add 16) with pc := 7, answer := some false } := by
    show (if s ≥ lim then _ else _) = _
    rw [if_neg (by omega)]
    show (match (Except.ok (text.getD s 0 == 46, ((seen.add 6).add 44).add 16) : Except String (Bool × Sre.Seen)) with | .error _ => _ | .ok (false, _) => _ | .ok (true, _) => _) = _
    rw [e2]; rfl
  show M.runFor 1 (M.step { A1 text lim s first ((seen.add 6).add 44) with pc := 7 }) = _
  rw [s2]
  show (if s < lim then _ else _) = _
  rw [if_pos hs]
  rfl
theorem A1_yes {text : Array Nat} {lim s : Nat} {first : Bool} {seen : Sre.Seen} (h1 : s = 0 ∨ text.getD (s - 1) 0 = 10) (hs : s < lim) (h2 : text.getD s 0 = 46) :
    Ends (A1 text lim s first seen) 5 fun m => m.outcome = some .matched ∧ m.start = s ∧ m.handed = s + 1 := by
  have e2 : (text.getD s 0 == 46) = true := by simpa using h2
  have s2 : M.step { A1 text lim s first ((seen.add 6).add 44) with pc := 7 } = { A1 text lim s first (((seen.add 6).add 44).add 16) with pc := 9, pos := s + 1 } := by
    show (if s ≥ lim then _ else _) = _
    rw [if_neg (by omega)]
    show (match (Except.ok (text.getD s 0 == 46, ((seen.add 6).add 44).add 16) : Except String (Bool × Sre.Seen)) with | .error _ => _ | .ok (false, _) => _ | .ok (true, _) => _) = _
    rw [e2]; rfl
  have s3 : M.step { A1 text lim s first (((seen.add 6).add 44).add 16) with pc := 9, pos := s + 1 } = { A1 text lim s first ((((seen.add 6).add 44).add 16).add 1) with pc := 9, pos := s + 1, handed := s + 1, answer := some true } := by
    cases first <;> rfl
  have e : M.runFor 5 (A1 text lim s first seen) = M.runFor 2 { A1 text lim s first ((((seen.add 6).add 44).add 16).add 1) with pc := 9, pos := s + 1, handed := s + 1, answer := some true } := by
    show M.runFor 4 (A1 text lim s first seen).step = _
    rw [A1_at h1]
    show M.runFor 3 (M.step { A1 text lim s first ((seen.add 6).add 44) with pc := 7 }) = _
    rw [s2]
    show M.runFor 2 (M.step { A1 text lim s first (((seen.add 6).add 44).add 16) with pc := 9, pos := s + 1 }) = _
    rw [s3]
  refine ⟨5, Nat.le_refl _, ?_⟩
  rw [e]
  exact ⟨rfl, rfl, rfl, rfl⟩
theorem A1_end {text : Array Nat} {lim : Nat} {first : Bool} {seen : Sre.Seen} : Ends (A1 text lim lim first seen) 4 fun m => m.outcome = some .failed := by
  by_cases h1 : lim = 0 ∨ text.getD (lim - 1) 0 = 10
  · have s2 : M.step { A1 text lim lim first ((seen.add 6).add 44) with pc := 7 } = { A1 text lim lim first (((seen.add 6).add 44).add 16) with pc := 7, answer := some false } := by
      show (if lim ≥ lim then _ else _) = _
      rw [if_pos (Nat.le_refl _)]; rfl
    have s3 : M.step { A1 text lim lim first (((seen.add 6).add 44).add 16) with pc := 7, answer := some false } = { A1 text lim lim first (((seen.add 6).add 44).add 16) with answer := some false, frames := [], weight := 0 } := by
      show (if lim < lim then _ else _) = _
      rw [if_neg (Nat.lt_irrefl _)]; rfl
    have e : M.runFor 4 (A1 text lim lim first seen) = M.runFor 1 { A1 text lim lim first (((seen.add 6).add 44).add 16) with answer := some false, frames := [], weight := 0 } := by
      show M.runFor 3 (A1 text lim lim first seen).step = _
      rw [A1_at h1]
      show M.runFor 2 (M.step { A1 text lim lim first ((seen.add 6).add 44) with pc := 7 }) = _
      rw [s2]
      show M.runFor 1 (M.step _) = _
      rw [s3]
    refine ⟨4, Nat.le_refl _, ?_⟩
    rw [e]
    exact ⟨rfl, rfl⟩
  · have e1 : (lim == 0 || text.getD (lim - 1) 0 == 10) = false := by simpa using h1
    have s1 : (A1 text lim lim first seen).step = { A1 text lim lim first ((seen.add 6).add 44) with answer := some false } := by
      show (if (lim == 0 || text.getD (lim - 1) 0 == 10) = true then _ else _) = _
      rw [e1]; rfl
    have s3 : M.step { A1 text lim lim first ((seen.add 6).add 44) with answer := some false } = { A1 text lim lim first ((seen.add 6).add 44) with answer := some false, frames := [], weight := 0 } := by
      show (if lim < lim then _ else _) = _
      rw [if_neg (Nat.lt_irrefl _)]; rfl
    have e : M.runFor 3 (A1 text lim lim first seen) = M.runFor 1 { A1 text lim lim first ((seen.add 6).add 44) with answer := some false, frames := [], weight := 0 } := by
      show M.runFor 2 (A1 text lim lim first seen).step = _
      rw [s1]
      show M.runFor 1 (M.step _) = _
      rw [s3]
    refine ⟨3, by omega, ?_⟩
    rw [e]
    exact ⟨rfl, rfl⟩
/-- what the first pattern's sub gives -/
def f1 : Bool → List Nat → List Nat
  | _, [] => []
  | b, c :: r => if b = true ∧ c = 46 then 46 :: 46 :: f1 false r else c :: f1 (c == 10) r
/-- a search from d ends; what it finds splits what f gives -/
def FoundAt (f : Nat → List Nat) (rep : List Nat) (xs : List Nat) (d : Nat) (m : M) : Prop :=
  (m.outcome = some .failed ∧ f d = xs.drop d) ∨ (m.outcome = some .matched ∧ d ≤ m.start ∧ m.start < m.handed ∧ m.handed ≤ xs.length ∧ f d = (xs.drop d).take (m.start - d) ++ (rep ++ f m.handed))
def F1 (xs : List Nat) (d : Nat) : List Nat := f1 (d == 0 || xs.getD (d - 1) 0 == 10) (xs.drop d)
theorem drop_cons {xs : List Nat} {d : Nat} (h : d < xs.length) : xs.drop d = xs.getD d 0 :: xs.drop (d + 1) := by
  rw [List.drop_eq_getElem_cons h]; simp [List.getD, List.getElem?_eq_getElem h]
theorem F1_step {xs : List Nat} {d : Nat} (h : d < xs.length) : F1 xs d = if (d = 0 ∨ xs.getD (d - 1) 0 = 10) ∧ xs.getD d 0 = 46 then 46 :: 46 :: F1 xs (d + 1) else xs.getD d 0 :: F1 xs (d + 1) := by
  have e : F1 xs (d + 1) = f1 (xs.getD d 0 == 10) (xs.drop (d + 1)) := by unfold F1; simp
  conv => lhs; unfold F1
  rw [drop_cons h, f1]
  by_cases hc : (d = 0 ∨ xs.getD (d - 1) 0 = 10) ∧ xs.getD d 0 = 46
  · rw [if_pos hc, if_pos (by simpa using hc), e, hc.2]; rfl
  · rw [if_neg hc, if_neg (by simpa using hc), e]
theorem getD_arr (text : Array Nat) (i : Nat) : text.getD i 0 = text.toList.getD i 0 := by
  simp [Array.getD_eq_getD_getElem?, List.getD]
theorem FoundAt.skip {f : Nat → List Nat} {rep xs : List Nat} {d : Nat} {m : M} (hd : d < xs.length) (h : FoundAt f rep xs (d + 1) m) (e : f d = xs.getD d 0 :: f (d + 1)) : FoundAt f rep xs d m := by
  rcases h with ⟨ho, hf⟩ | ⟨ho, h1, h2, h3, hf⟩
  · exact .inl ⟨ho, by rw [e, hf, drop_cons hd]⟩
  · refine .inr ⟨ho, by omega, h2, h3, ?_⟩
    rw [e, hf, drop_cons hd, show m.start - d = (m.start - (d + 1)) + 1 by omega, List.take_succ_cons]; rfl
theorem A1_run (xs : List Nat) : ∀ (n s : Nat) (first : Bool) (seen : Sre.Seen), s + n = xs.length → Ends (A1 xs.toArray xs.length s first seen) (3 * n + 5) (FoundAt (F1 xs) [46, 46] xs s)
  | 0, s, first, seen, h => by
    obtain rfl : s = xs.length := by omega
    obtain ⟨j, hj, ho, hp⟩ := A1_end (text := xs.toArray) (lim := xs.length) (first := first) (seen := seen)
    exact ⟨j, by omega, ho, .inl ⟨hp, by unfold F1; rw [List.drop_length]; rfl⟩⟩
  | n + 1, s, first, seen, h => by
    have hs : s < xs.length := by omega
    have g1 : ∀ i, xs.toArray.getD i 0 = xs.getD i 0 := fun i => getD_arr _ _
    by_cases h1 : s = 0 ∨ xs.getD (s - 1) 0 = 10
    · by_cases h2 : xs.getD s 0 = 46
      · obtain ⟨j, hj, ho, hm, hst, hh⟩ := A1_yes (text := xs.toArray) (lim := xs.length) (first := first) (seen := seen) (by rw [g1]; exact h1) hs (by rw [g1]; exact h2)
        refine ⟨j, by omega, ho, .inr ⟨hm, by rw [hst]; exact Nat.le_refl _, by rw [hst, hh]; exact Nat.lt_succ_self _, by rw [hh]; omega, ?_⟩⟩
        rw [hst, hh, F1_step hs, if_pos ⟨h1, h2⟩, Nat.sub_self]; rfl
      · refine (Ends.step (A1_lit (by rw [g1]; exact h1) hs (by rw [g1]; exact h2)) (k := 3 * n + 5) ?_).le (by omega)
        obtain ⟨j, hj, ho, hp⟩ := A1_run xs n (s + 1) false (((seen.add 6).add 44).add 16) (by omega)
        exact ⟨j, hj, ho, hp.skip hs (by rw [F1_step hs, if_neg fun c => h2 c.2])⟩
    · refine (Ends.step (A1_no (fun e => h1 (.inl e)) (by rw [g1]; exact fun e => h1 (.inr e)) hs) (k := 3 * n + 5) ?_).le (by omega)
      obtain ⟨j, hj, ho, hp⟩ := A1_run xs n (s + 1) false ((seen.add 6).add 44) (by omega)
      exact ⟨j, hj, ho, hp.skip hs (by rw [F1_step hs, if_neg fun c => h1 c.1])⟩
theorem search1 (xs : List Nat) (d : Nat) (h : d ≤ xs.length) : Ends (forSearch cd1 xs.toArray 0 d xs.length false) (3 * xs.length + 9) (FoundAt (F1 xs) [46, 46] xs d) := by
  by_cases hd : d < xs.length
  · have e : forSearch cd1 xs.toArray 0 d xs.length false = A1 xs.toArray xs.length d true (({} : Sre.Seen).add 14) := by
      unfold forSearch
      have : (decide (d > xs.length) || decide (xs.length - d < (header cd1).1)) = false := by
        rw [show (header cd1).1 = 1 from rfl]; simp; omega
      simp only [this]
      rfl
    rw [e]
    exact (A1_run xs (xs.length - d) d true _ (by omega)).le (by omega)
  · obtain rfl : d = xs.length := by omega
    have e : forSearch cd1 xs.toArray 0 xs.length xs.length false = (({ code := cd1, text := xs.toArray, lim := xs.length, start := xs.length, pc := 5, pos := xs.length, handed := xs.length, marks := #[], seen := ({} : Sre.Seen).add 14 } : M).say false) := by
      unfold forSearch
      have : (decide (xs.length > xs.length) || decide (xs.length - xs.length < (header cd1).1)) = true := by
        rw [show (header cd1).1 = 1 from rfl]; simp
      simp only [this]
      rfl
    rw [e]
    exact ⟨1, by omega, rfl, .inl ⟨rfl, by unfold F1; rw [List.drop_length]; rfl⟩⟩
end Mine
end

section
-- R2
open PySem PySem.W PyProof.Rows PySem.Spec PySem.Calls
set_option maxRecDepth 100000
namespace Mine
open PySem.Sre
section
variable (text : Array Nat) (lim p : Nat) (first : Bool)
abbrev fN : Sre.Frame := { wait := .nextStart, pc := 10, pos := p, outermost := first }
abbrev fB (k : Nat) : Sre.Frame := { wait := .nextBranch, pc := k, pos := p, outermost := first }
abbrev fL : Sre.Frame := { wait := .lookNot, pc := 26, pos := p + 1, outermost := first }
def S2 (pc pos handed : Nat) (outer : Bool) (frames : List Sre.Frame) (weight : Nat) (answer : Option Bool) (seen : Sre.Seen) : M :=
  { code := cd2, text, lim, start := p, lastStart := lim, pc, pos, handed, outermost := outer, marks := #[], frames, weight, answer, seen }
end
theorem go1 {S S' : Sre.Seen → M} {k : Nat} {P : M → Prop} (h0 : ∀ e, (S e).outcome = none) (h : ∀ e, ∃ e', M.step (S e) = S' e') (H : ∀ e, Ends (S' e) k P) (e : Sre.Seen) : Ends (S e) (1 + k) P := by
  obtain ⟨e', h⟩ := h e
  refine Ends.step (a := 1) (m' := S' e') ?_ (H e')
  show (if (S e).outcome.isSome then _ else M.runFor 0 (M.step (S e))) = _
  rw [h0, h]; rfl
section
variable {text : Array Nat} {lim p : Nat} {first : Bool}
theorem lit_no {pc pos handed weight q : Nat} {outer : Bool} {frames : List Sre.Frame} {seen : Sre.Seen} (hq : pc < 36) (h1 : cd2.getD pc 0 = 16) (h : pos ≥ lim ∨ text.getD pos 0 ≠ cd2.getD (pc + 1) 0) :
    ∃ e', M.step (S2 text lim p pc pos handed outer frames weight none seen) = S2 text lim p pc pos handed outer frames weight (some false) e' := by
  refine ⟨seen.add 16, ?_⟩
  show (if pc < 36 then M.exec (S2 text lim p pc pos handed outer frames weight none seen) else _) = _
  rw [if_pos hq]
  unfold M.exec
  have hw : (S2 text lim p pc pos handed outer frames weight none seen).word 0 = 16 := h1
  simp only [hw]
  show (if pos ≥ lim then _ else _) = _
  by_cases hl : pos ≥ lim
  · rw [if_pos hl]; rfl
  · rw [if_neg hl]
    have hc : text.getD pos 0 ≠ cd2.getD (pc + 1) 0 := h.resolve_left hl
    have ha : ∀ e, accepts cd2 pc (text.getD pos 0) e = .ok (false, e) := fun e => by
      unfold accepts
      rw [h1]
      show Except.ok (text.getD pos 0 == cd2.getD (pc + 1) 0, e) = _
      rw [beq_false_of_ne hc]
    show (match accepts cd2 pc (text.getD pos 0) (seen.add 16) with | .error _ => _ | .ok (false, _) => _ | .ok (true, _) => _) = _
    rw [ha]; rfl
theorem lit_yes {pc pos handed weight q : Nat} {outer : Bool} {frames : List Sre.Frame} {seen : Sre.Seen} (hq : pc < 36) (h1 : cd2.getD pc 0 = 16) (hl : pos < lim) (hc : text.getD pos 0 = cd2.getD (pc + 1) 0) :
    ∃ e', M.step (S2 text lim p pc pos handed outer frames weight none seen) = S2 text lim p (pc + 2) (pos + 1) handed outer frames weight none e' := by
  refine ⟨seen.add 16, ?_⟩
  show (if pc < 36 then M.exec (S2 text lim p pc pos handed outer frames weight none seen) else _) = _
  rw [if_pos hq]
  unfold M.exec
  have hw : (S2 text lim p pc pos handed outer frames weight none seen).word 0 = 16 := h1
  simp only [hw]
  show (if pos ≥ lim then _ else _) = _
  rw [if_neg (by omega)]
  have ha : ∀ e, accepts cd2 pc (text.getD pos 0) e = .ok (true, e) := fun e => by
    unfold accepts
    rw [h1]
    show Except.ok (text.getD pos 0 == cd2.getD (pc + 1) 0, e) = _
    rw [hc, beq_self_eq_true]
  show (match accepts cd2 pc (text.getD pos 0) (seen.add 16) with | .error _ => _ | .ok (false, _) => _ | .ok (true, _) => _) = _
  rw [ha]
  have hi : itemWidth cd2 pc = 2 := by unfold itemWidth; rw [h1]; rfl
  show S2 text lim p (pc + itemWidth cd2 pc) (pos + 1) handed outer frames weight none (seen.add 16) = _
  rw [hi]
abbrev Yes (p q : Nat) (m : M) : Prop := m.outcome = some .matched ∧ m.start = p ∧ m.handed = q
theorem fin2 {q k : Nat} (e : Sre.Seen) : Ends (S2 text lim p 35 q p first [fB p first k, fN p first] 2 none e) (1 + 3) (Yes p q) := by
  refine go1 (S := S2 text lim p 35 q p first [fB p first k, fN p first] 2 none) (S' := S2 text lim p 35 q q first [fB p first k, fN p first] 2 (some true)) (fun _ => rfl) (fun e => ⟨e.add 1, by cases first <;> rfl⟩) (fun e => ?_) e
  exact ⟨3, Nat.le_refl _, rfl, rfl, rfl, rfl⟩
theorem br2 {k : Nat} {P : M → Prop} (H : ∀ e, Ends (S2 text lim p 12 p p first [fB p first 11, fN p first] 2 none e) k P) (e : Sre.Seen) : Ends (S2 text lim p 10 p p first [fN p first] 1 none e) (1 + k) P :=
  go1 (S := S2 text lim p 10 p p first [fN p first] 1 none) (S' := S2 text lim p 12 p p first [fB p first 11, fN p first] 2 none) (fun _ => rfl) (fun e => ⟨e.add 7, rfl⟩) H e
theorem m10 (hl : p < lim) (h : text.getD p 0 = 10) (e : Sre.Seen) : Ends (S2 text lim p 10 p p first [fN p first] 1 none e) (1 + (1 + (1 + (1 + (1 + (1 + 3)))))) (Yes p (p + 1)) := by
  refine br2 (fun e => ?_) e
  refine go1 (S := S2 text lim p 12 p p first [fB p first 11, fN p first] 2 none) (fun _ => rfl) (fun e => lit_no (q := 0) (by decide) rfl (.inr (by rw [h]; decide))) (fun e => ?_) e
  refine go1 (S := S2 text lim p 12 p p first [fB p first 11, fN p first] 2 (some false)) (S' := S2 text lim p 19 p p first [fB p first 18, fN p first] 2 none) (fun _ => rfl) (fun e => ⟨e, rfl⟩) (fun e => ?_) e
  refine go1 (S := S2 text lim p 19 p p first [fB p first 18, fN p first] 2 none) (fun _ => rfl) (fun e => lit_yes (q := 0) (by decide) rfl hl h) (fun e => ?_) e
  refine go1 (S := S2 text lim p 21 (p + 1) p first [fB p first 18, fN p first] 2 none) (S' := S2 text lim p 35 (p + 1) p first [fB p first 18, fN p first] 2 none) (fun _ => rfl) (fun e => ⟨e.add 15, rfl⟩) (fun e => ?_) e
  exact fin2 e
theorem m1310 (hl : p + 1 < lim) (h : text.getD p 0 = 13) (h' : text.getD (p + 1) 0 = 10) (e : Sre.Seen) : Ends (S2 text lim p 10 p p first [fN p first] 1 none e) (1 + (1 + (1 + (1 + (1 + 3))))) (Yes p (p + 2)) := by
  refine br2 (fun e => ?_) e
  refine go1 (S := S2 text lim p 12 p p first [fB p first 11, fN p first] 2 none) (fun _ => rfl) (fun e => lit_yes (q := 0) (by decide) rfl (by omega) h) (fun e => ?_) e
  refine go1 (S := S2 text lim p 14 (p + 1) p first [fB p first 11, fN p first] 2 none) (fun _ => rfl) (fun e => lit_yes (q := 0) (by decide) rfl hl h') (fun e => ?_) e
  refine go1 (S := S2 text lim p 16 (p + 2) p first [fB p first 11, fN p first] 2 none) (S' := S2 text lim p 35 (p + 2) p first [fB p first 11, fN p first] 2 none) (fun _ => rfl) (fun e => ⟨e.add 15, rfl⟩) (fun e => ?_) e
  exact fin2 e
theorem m13 (hl : p < lim) (h : text.getD p 0 = 13) (h' : p + 1 ≥ lim ∨ text.getD (p + 1) 0 ≠ 10) (e : Sre.Seen) : Ends (S2 text lim p 10 p p first [fN p first] 1 none e) (1 + (1 + (1 + (1 + (1 + (1 + (1 + (1 + (1 + (1 + (1 + (1 + 3)))))))))))) (Yes p (p + 1)) := by
  refine br2 (fun e => ?_) e
  refine go1 (S := S2 text lim p 12 p p first [fB p first 11, fN p first] 2 none) (fun _ => rfl) (fun e => lit_yes (q := 0) (by decide) rfl hl h) (fun e => ?_) e
  refine go1 (S := S2 text lim p 14 (p + 1) p first [fB p first 11, fN p first] 2 none) (fun _ => rfl) (fun e => lit_no (q := 0) (by decide) rfl h') (fun e => ?_) e
  refine go1 (S := S2 text lim p 14 (p + 1) p first [fB p first 11, fN p first] 2 (some false)) (S' := S2 text lim p 19 p p first [fB p first 18, fN p first] 2 none) (fun _ => rfl) (fun e => ⟨e, rfl⟩) (fun e => ?_) e
  refine go1 (S := S2 text lim p 19 p p first [fB p first 18, fN p first] 2 none) (fun _ => rfl) (fun e => lit_no (q := 0) (by decide) rfl (.inr (by rw [h]; decide))) (fun e => ?_) e
  refine go1 (S := S2 text lim p 19 p p first [fB p first 18, fN p first] 2 (some false)) (S' := S2 text lim p 24 p p first [fB p first 23, fN p first] 2 none) (fun _ => rfl) (fun e => ⟨e, rfl⟩) (fun e => ?_) e
  refine go1 (S := S2 text lim p 24 p p first [fB p first 23, fN p first] 2 none) (fun _ => rfl) (fun e => lit_yes (q := 0) (by decide) rfl hl h) (fun e => ?_) e
  refine go1 (S := S2 text lim p 26 (p + 1) p first [fB p first 23, fN p first] 2 none) (S' := S2 text lim p 29 (p + 1) (p + 1) false [fL p first, fB p first 23, fN p first] 3 none) (fun _ => rfl) (fun e => ⟨e.add 5, rfl⟩) (fun e => ?_) e
  refine go1 (S := S2 text lim p 29 (p + 1) (p + 1) false [fL p first, fB p first 23, fN p first] 3 none) (fun _ => rfl) (fun e => lit_no (q := 0) (by decide) rfl h') (fun e => ?_) e
  refine go1 (S := S2 text lim p 29 (p + 1) (p + 1) false [fL p first, fB p first 23, fN p first] 3 (some false)) (S' := S2 text lim p 32 (p + 1) (p + 1) first [fB p first 23, fN p first] 2 none) (fun _ => rfl) (fun e => ⟨e, rfl⟩) (fun e => ?_) e
  refine go1 (S := S2 text lim p 32 (p + 1) (p + 1) first [fB p first 23, fN p first] 2 none) (S' := S2 text lim p 35 (p + 1) (p + 1) first [fB p first 23, fN p first] 2 none) (fun _ => rfl) (fun e => ⟨e.add 15, rfl⟩) (fun e => ?_) e
  refine go1 (S := S2 text lim p 35 (p + 1) (p + 1) first [fB p first 23, fN p first] 2 none) (S' := S2 text lim p 35 (p + 1) (p + 1) first [fB p first 23, fN p first] 2 (some true)) (fun _ => rfl) (fun e => ⟨e.add 1, by cases first <;> rfl⟩) (fun e => ?_) e
  exact ⟨3, Nat.le_refl _, rfl, rfl, rfl, rfl⟩
end
end Mine
end

section
-- R3
open PySem PySem.W PyProof.Rows PySem.Spec PySem.Calls
set_option maxRecDepth 100000
namespace Mine
open PySem.Sre
def f2 : List Nat → List Nat
  | [] => []
  | [c] => if c = 10 ∨ c = 13 then [13, 10] else [c]
  | c :: c' :: r => if c = 13 ∧ c' = 10 then 13 :: 10 :: f2 r else if c = 10 ∨ c = 13 then 13 :: 10 :: f2 (c' :: r) else c :: f2 (c' :: r)
def F2 (xs : List Nat) (d : Nat) : List Nat := f2 (xs.drop d)
theorem F2_plain {xs : List Nat} {d : Nat} (h : d < xs.length) (hc : ¬ (xs.getD d 0 = 10 ∨ xs.getD d 0 = 13)) : F2 xs d = xs.getD d 0 :: F2 xs (d + 1) := by
  unfold F2
  rw [drop_cons h]
  cases hr : xs.drop (d + 1) with
  | nil => simp only [f2]; rw [if_neg hc]
  | cons c' r => simp only [f2]; rw [if_neg (fun e => hc (.inr e.1)), if_neg hc]
theorem F2_pair {xs : List Nat} {d : Nat} (h : d + 1 < xs.length) (hc : xs.getD d 0 = 13) (hc' : xs.getD (d + 1) 0 = 10) : F2 xs d = 13 :: 10 :: F2 xs (d + 2) := by
  unfold F2
  rw [drop_cons (by omega : d < xs.length), drop_cons h]
  simp only [f2]; rw [if_pos ⟨hc, hc'⟩]
theorem F2_one {xs : List Nat} {d : Nat} (h : d < xs.length) (hc : xs.getD d 0 = 10 ∨ xs.getD d 0 = 13) (hc' : xs.getD d 0 = 13 → d + 1 ≥ xs.length ∨ xs.getD (d + 1) 0 ≠ 10) : F2 xs d = 13 :: 10 :: F2 xs (d + 1) := by
  unfold F2
  rw [drop_cons h]
  by_cases h1 : d + 1 < xs.length
  · rw [drop_cons h1]
    simp only [f2]
    rw [if_neg (fun e => (hc' e.1).elim (fun x => by omega) fun x => x e.2), if_pos hc]
  · rw [List.drop_eq_nil_of_le (by omega : xs.length ≤ d + 1)]
    simp only [f2]
    rw [if_pos hc]
theorem inSet2 (c : Nat) (seen : Sre.Seen) : ∃ e, inSet cd2 c 36 5 true seen = .ok (decide (c = 10 ∨ c = 13), e) := by
  have s1 : inSet cd2 c 36 5 true seen = if (c == 10) = true then .ok (true, seen.add 16) else inSet cd2 c 35 7 true (seen.add 16) := rfl
  have s2 : inSet cd2 c 35 7 true (seen.add 16) = if (c == 13) = true then .ok (true, (seen.add 16).add 16) else inSet cd2 c 34 9 true ((seen.add 16).add 16) := rfl
  have s3 : inSet cd2 c 34 9 true ((seen.add 16).add 16) = .ok (false, ((seen.add 16).add 16).add 0) := rfl
  rw [s1, s2, s3]
  by_cases h : c = 10
  · exact ⟨_, by rw [if_pos (by simpa using h), decide_eq_true (.inl h)]⟩
  · rw [if_neg (by simpa using h)]
    by_cases h' : c = 13
    · exact ⟨_, by rw [if_pos (by simpa using h'), decide_eq_true (.inr h')]⟩
    · exact ⟨_, by rw [if_neg (by simpa using h'), decide_eq_false (fun e => e.elim h h')]⟩
theorem adm (xs : List Nat) (m : M) (hc : m.code = cd2) (ht : m.text = xs.toArray) (hl : m.lim = xs.length) : ∀ (n fuel s : Nat) (seen : Sre.Seen), s + n = xs.length → n + 1 ≤ fuel →
    (∃ e, M.admitted m fuel s seen = .ok (none, e) ∧ F2 xs s = xs.drop s) ∨ ∃ e p, M.admitted m fuel s seen = .ok (some p, e) ∧ s ≤ p ∧ p < xs.length ∧ (xs.getD p 0 = 10 ∨ xs.getD p 0 = 13) ∧ F2 xs s = (xs.drop s).take (p - s) ++ F2 xs p
  | 0, fuel + 1, s, seen, h, hf => by
    refine .inl ⟨seen, ?_, ?_⟩
    · unfold M.admitted; rw [hl, if_pos (by omega)]
    · unfold F2; rw [List.drop_eq_nil_of_le (by omega)]; rfl
  | n + 1, fuel + 1, s, seen, h, hf => by
    have hs : s < xs.length := by omega
    obtain ⟨e, he⟩ := inSet2 (xs.getD s 0) seen
    have hu : M.admitted m (fuel + 1) s seen = match inSet cd2 (xs.getD s 0) 36 5 true seen with | .ok (true, seen) => .ok (some s, seen) | .ok (false, seen) => M.admitted m fuel (s + 1) seen | .error why => .error why := by
      conv => lhs; unfold M.admitted
      rw [hl, if_neg (by omega), hc, ht, getD_arr]
      rfl
    rw [hu, he]
    by_cases hcc : xs.getD s 0 = 10 ∨ xs.getD s 0 = 13
    · rw [decide_eq_true hcc]
      exact .inr ⟨e, s, rfl, Nat.le_refl _, hs, hcc, by rw [Nat.sub_self]; rfl⟩
    · rw [decide_eq_false hcc]
      rcases adm xs m hc ht hl n fuel (s + 1) e (by omega) (by omega) with ⟨e', h1, h2⟩ | ⟨e', p, h1, h2, h3, h4, h5⟩
      · exact .inl ⟨e', h1, by rw [F2_plain hs hcc, h2, drop_cons hs]⟩
      · refine .inr ⟨e', p, h1, by omega, h3, h4, ?_⟩
        rw [F2_plain hs hcc, h5, drop_cons hs, show p - s = (p - (s + 1)) + 1 by omega, List.take_succ_cons]; rfl
theorem at2 (xs : List Nat) (p d : Nat) (first : Bool) (hp : p < xs.length) (hd : d ≤ p) (hc : xs.getD p 0 = 10 ∨ xs.getD p 0 = 13) (hf : F2 xs d = (xs.drop d).take (p - d) ++ F2 xs p) (e : Sre.Seen) :
    Ends (S2 xs.toArray xs.length p 10 p p first [fN p first] 1 none e) 20 (FoundAt (F2 xs) [13, 10] xs d) := by
  have g1 : ∀ i, xs.toArray.getD i 0 = xs.getD i 0 := fun i => getD_arr _ _
  by_cases h13 : xs.getD p 0 = 13
  · by_cases h10 : p + 1 < xs.length ∧ xs.getD (p + 1) 0 = 10
    · obtain ⟨j, hj, ho, hm, hst, hh⟩ := m1310 (text := xs.toArray) (lim := xs.length) (first := first) h10.1 (by rw [g1]; exact h13) (by rw [g1]; exact h10.2) e
      refine ⟨j, by omega, ho, .inr ⟨hm, by rw [hst]; exact hd, by rw [hst, hh]; omega, by rw [hh]; omega, ?_⟩⟩
      rw [hst, hh, hf, F2_pair h10.1 h13 h10.2]; rfl
    · have hn : p + 1 ≥ xs.length ∨ xs.getD (p + 1) 0 ≠ 10 := by
        by_cases hq : p + 1 < xs.length
        · exact .inr fun e => h10 ⟨hq, e⟩
        · exact .inl (by omega)
      obtain ⟨j, hj, ho, hm, hst, hh⟩ := m13 (text := xs.toArray) (lim := xs.length) (first := first) hp (by rw [g1]; exact h13) (by rw [g1]; exact hn) e
      refine ⟨j, by omega, ho, .inr ⟨hm, by rw [hst]; exact hd, by rw [hst, hh]; omega, by rw [hh]; omega, ?_⟩⟩
      rw [hst, hh, hf, F2_one hp hc fun _ => hn]; rfl
  · have h10 : xs.getD p 0 = 10 := hc.resolve_right h13
    obtain ⟨j, hj, ho, hm, hst, hh⟩ := m10 (text := xs.toArray) (lim := xs.length) (first := first) hp (by rw [g1]; exact h10) e
    refine ⟨j, by omega, ho, .inr ⟨hm, by rw [hst]; exact hd, by rw [hst, hh]; omega, by rw [hh]; omega, ?_⟩⟩
    rw [hst, hh, hf, F2_one hp hc fun e => absurd e h13]; rfl
theorem search2 (xs : List Nat) (d : Nat) (h : d ≤ xs.length) : Ends (forSearch cd2 xs.toArray 0 d xs.length false) 21 (FoundAt (F2 xs) [13, 10] xs d) := by
  by_cases hd : d < xs.length
  · let m0 : M := { code := cd2, text := xs.toArray, lim := xs.length, start := d, lastStart := xs.length, pc := 10, pos := d, handed := d, marks := #[], seen := ({} : Sre.Seen).add 14 }
    have e : forSearch cd2 xs.toArray 0 d xs.length false = M.attemptFrom m0 d true := by
      unfold forSearch
      have : (decide (d > xs.length) || decide (xs.length - d < (header cd2).1)) = false := by
        rw [show (header cd2).1 = 1 from rfl]; simp; omega
      simp only [this]
      rfl
    rw [e]
    have e2 : M.attemptFrom m0 d true = match M.admitted m0 (xs.length + 1 - d) d (({} : Sre.Seen).add 14) with | .ok (some s, seen) => { m0 with mustAdvance := false, seen }.attemptAt s true | .ok (none, seen) => { m0 with seen }.say false | .error why => m0.stick why := rfl
    rw [e2]
    rcases adm xs m0 rfl rfl rfl (xs.length - d) (xs.length + 1 - d) d (({} : Sre.Seen).add 14) (by omega) (by omega) with ⟨e', h1, h2⟩ | ⟨e', p, h1, h2, h3, h4, h5⟩
    · rw [h1]
      exact ⟨1, by omega, rfl, .inl ⟨rfl, h2⟩⟩
    · rw [h1]
      exact (at2 xs p d true h3 h2 h4 h5 e').le (by omega)
  · obtain rfl : d = xs.length := by omega
    have e : forSearch cd2 xs.toArray 0 xs.length xs.length false = (({ code := cd2, text := xs.toArray, lim := xs.length, start := xs.length, pc := 10, pos := xs.length, handed := xs.length, marks := #[], seen := ({} : Sre.Seen).add 14 } : M).say false) := by
      unfold forSearch
      have : (decide (xs.length > xs.length) || decide (xs.length - xs.length < (header cd2).1)) = true := by
        rw [show (header cd2).1 = 1 from rfl]; simp
      simp only [this]
      rfl
    rw [e]
    exact ⟨1, by omega, rfl, .inl ⟨rfl, by unfold F2; rw [List.drop_length]; rfl⟩⟩
end Mine
end

section
-- R4
open PySem PySem.W PyProof.Rows PySem.Spec PySem.Calls
set_option maxRecDepth 100000
namespace Mine
open PySem.Sre PySem.Builtin PySem.Builtin.Re
section
variable {w : World} {A : Around} {s : Shared} {h : Heap} {tk : Nat} {E : Value → Shared → Prop}
theorem wp_drive {Q : Sre.M → Shared → Prop} {P : Sre.M → Prop} (H : ∀ m, P m → m.outcome.isSome = true → Q m (St s h tk)) : ∀ (turns : Nat) (m : Sre.M) (k : Nat), k ≤ 4 * turns → Ends m k P → 0 < turns → wpAny (model P0 w) A (reDrive turns m) Q E (St s h tk)
  | 0, m, k, hk, he, h0 => absurd h0 (Nat.lt_irrefl _)
  | turns + 1, m, k, hk, ⟨j, hj, ho, hp⟩, h0 => by
    show wpAny _ _ (if (M.runFor 4 m).outcome.isSome then pure (M.runFor 4 m) else do rule "sre.turn"; reDrive turns (M.runFor 4 m)) _ _ _
    by_cases h4 : (M.runFor 4 m).outcome.isSome = true
    · rw [if_pos h4]
      have e : M.runFor j m = M.runFor 4 m := by
        by_cases hj4 : j ≤ 4
        · have := runFor_add j (4 - j) m
          rw [show j + (4 - j) = 4 by omega] at this
          rw [this, runFor_done ho]
        · have := runFor_add 4 (j - 4) m
          rw [show 4 + (j - 4) = j by omega] at this
          rw [this, runFor_done h4]
      rw [e] at hp ho
      exact wpAny_pure (H _ hp ho)
    · rw [if_neg h4]
      have hj4 : 4 < j := by
        apply Nat.lt_of_not_le
        intro hle
        apply h4
        have := runFor_add j (4 - j) m
        rw [show j + (4 - j) = 4 by omega] at this
        rw [this, runFor_done ho]; exact ho
      have e := runFor_add 4 (j - 4) m
      rw [show 4 + (j - 4) = j by omega] at e
      refine wpAny_bind (wpAny_rule (wp_drive H turns (M.runFor 4 m) (j - 4) (by omega) ⟨j - 4, Nat.le_refl _, by rw [← e]; exact ho, by rw [← e]; exact hp⟩ (by omega)))
theorem wp_names {m : Sre.M} {Q : PUnit → Shared → Prop} (hq : Q ⟨⟩ (St s h tk)) (l : List Nat) : wpAny (model P0 w) A (forIn l PUnit.unit fun i _ => if m.seen.has i = true then (rule (Sre.names.getD i "") >>= fun _ => pure (ForInStep.yield PUnit.unit)) else pure (ForInStep.yield PUnit.unit)) Q E (St s h tk) := by
  refine wpAny_forIn_list _ (fun _ _ s' => s' = St s h tk) _ (fun x rest b s₁ e => ?_) (fun b s₁ e => by subst e; exact hq) l _ rfl
  subst e
  by_cases hc : m.seen.has x = true
  · rw [if_pos hc]; exact wpAny_bind (wpAny_rule (wpAny_pure rfl))
  · rw [if_neg hc]; exact wpAny_pure rfl
theorem wp_run {Q : Option Sre.M → Shared → Prop} {P : Sre.M → Prop} {m : Sre.M} {k : Nat} (hk : k ≤ 1000000) (he : Ends m k P) (h1 : ∀ m, P m → m.outcome = some .matched → Q (some m) (St s h tk)) (h2 : ∀ m, P m → m.outcome = some .failed → Q none (St s h tk)) (h3 : ∀ m, P m → m.outcome = some .matched ∨ m.outcome = some .failed) :
    wpAny (model P0 w) A (reRunToEnd m) Q E (St s h tk) := by
  unfold reRunToEnd
  refine wpAny_bind (wp_drive (P := P) (fun m' hp ho => ?_) (2 ^ 64) m k (Nat.le_trans hk (by decide)) he (by decide))
  refine wpAny_bind (wp_names ?_ _)
  rcases h3 m' hp with e | e
  · rw [e]; exact wpAny_pure (h1 m' hp e)
  · rw [e]; exact wpAny_pure (h2 m' hp e)
end
end Mine
end

section
-- R5
open PySem PySem.W PyProof.Rows PySem.Spec PySem.Calls
set_option maxRecDepth 100000
namespace Mine
open PySem.Sre PySem.Builtin PySem.Builtin.Re
def Pat (h : Heap) (a : Addr) (code : Array Nat) : Prop :=
  ∃ o c oc items n x y, h.get? a = some o ∧ o.cls = .type "re.Pattern" ∧ o.dict = none ∧ o.data = .fields #[x, y, .int 0 0, .none, .none, .ref c, .int 0 0] ∧ h.get? c = some oc ∧ oc.data = .seq items n ∧ (items.map reRawOf).map (·.toNat) = code
theorem Pat.keeps {h h' : Heap} {a : Addr} {code : Array Nat} (p : Pat h a code) (k : Kp h h') : Pat h' a code :=
  let ⟨o, c, oc, items, n, x, y, e1, e2, e3, e4, e5, e6⟩ := p; ⟨o, c, oc, items, n, x, y, k _ _ e1, e2, e3, e4, k _ _ e5, e6⟩
section
variable {w : World} {A : Around} {s : Shared} {h : Heap} {tk : Nat} {E : Value → Shared → Prop}
theorem wp_target {a : Addr} {code : Array Nat} {xs : List Nat} {t : Tok} {Q : ReTarget → Shared → Prop} (hp : Pat h a code) (H : Q ⟨.ref a, .str (T xs) t, code, xs.toArray, 0, 0, 0, xs.length⟩ (St s h tk)) :
    wpAny (model P0 w) A (reWholeTarget (.ref a) (.str (T xs) t)) Q E (St s h tk) := by
  obtain ⟨o, c, oc, items, n, x, y, e1, e2, e3, e4, e5, e6, e7⟩ := hp
  unfold reWholeTarget
  refine wpAny_bind (wpAny_fieldsOf (s := St s h tk) e1 e4 ?_)
  refine wpAny_bind (m := reTextOf _) (wpAny_bind (m := asStr? _) (wpAny_pure (wpAny_pure ?_)))
  refine wpAny_bind (m := reRawItems (.ref c)) ?_
  unfold reRawItems
  refine wpAny_bind (wpAny_seqItems (s := St s h tk) e5 e6 (wpAny_pure (wpAny_pure ?_)))
  subst e7
  exact H
/-- a piece put on the list of pieces -/
theorem wp_put {l : Addr} {o : Obj} {vs : List Value} {n : Nat} {v : Value} {Q : Unit → Shared → Prop} (ho : h.get? l = some o) (hc : o.cls = .type "list") (hd : o.data = .seq vs.toArray n) (hz : vs.length ≤ 100000)
    (H : ∀ h' o' n', h'.get? l = some o' → o'.cls = .type "list" → o'.data = .seq (vs ++ [v]).toArray n' → (∀ b o, b ≠ l → h.get? b = some o → h'.get? b = some o) → Q () (St s h' tk)) :
    wpAny (model P0 w) A (updateSeq l (·.push v)) Q E (St s h tk) := by
  refine wpAny_updateSeq (s := St s h tk) ho hd ?_ (by rw [List.size_toArray, show sizeLine = 16777216 from rfl]; omega) (by rw [Array.size_push, List.size_toArray, show sizeLine = 16777216 from rfl]; omega)
  obtain ⟨n', hd'⟩ := Obj.data_mapSeq hd (·.push v)
  refine H _ (Obj.mapSeq (·.push v) o) n' (Heap.get?_update_self _ ho (Obj.isFreed_of_seq hd')) (by rw [Obj.cls_mapSeq]; exact hc) (by rw [hd']; simp) fun b o hb e => ?_
  exact (Heap.SameBut.update ..).extBut b o hb e
theorem wp_put0 {h₀ : Heap} {l : Addr} {vs : List Value} {v : Value} {Q : Unit → Shared → Prop} (k : Kp h₀ h) (hn : h₀.get? l = none) (hl : LO h l vs) (hz : vs.length ≤ 100000)
    (H : ∀ h', Kp h₀ h' → LO h' l (vs ++ [v]) → Q () (St s h' tk)) : wpAny (model P0 w) A (updateSeq l (·.push v)) Q E (St s h tk) := by
  obtain ⟨o, ho, hc, n, hd⟩ := hl
  refine wp_put ho hc hd hz fun h' o' n' e c d kb => H h' (fun b ob e => kb b ob (fun q => ?_) (k _ _ e)) ⟨o', e, c, n', d⟩
  rw [q, hn] at e; cases e
theorem ext_T (xs : List Nat) (d e : Nat) : (⟨xs.toArray.extract d e⟩ : Str) = T ((xs.drop d).take (e - d)) := by
  unfold T; congr 1; apply Array.ext'; simp [List.extract_eq_take_drop]
theorem mem_flat {z : List Nat} : ∀ {l : List (List Nat)}, z ∈ l → z.length ≤ l.flatten.length
  | a :: r, h => by
    rw [List.flatten_cons, List.length_append]
    rcases List.mem_cons.mp h with rfl | h
    · omega
    · have := mem_flat h; omega
theorem plain_loop : plainId "re.Pattern.sub.loop" = true := by decide +kernel
theorem paired_snoc {α β : Type} {R : α → β → Prop} : ∀ {vs : List α} {as : List β}, Paired R vs as → ∀ {v : α} {a : β}, R v a → Paired R (vs ++ [v]) (as ++ [a])
  | _, _, .nil, v, a, h => .cons h .nil
  | _, _, .cons r t, v, a, h => .cons r (paired_snoc t h)
theorem wp_loop {h₀ : Heap} {a l : Addr} {code : Array Nat} {xs rep : List Nat} {tx tr : Tok} {f : Nat → List Nat} {k : Nat} {R : Result → Shared → Prop} (hP : Pat h₀ a code) (hnl : h₀.get? l = none) (hk : k ≤ 1000000) (hx : xs.length ≤ 1000) (hrep : rep.length ≤ 2) (hf0 : (f 0).length ≤ 3000)
    (hs : ∀ d, d ≤ xs.length → Ends (forSearch code xs.toArray 0 d xs.length false) k (FoundAt f rep xs d))
    (H : ∀ t h' tk', Kp h₀ h' → R (.ok (.ret (.str (T (f 0)) t))) (St s h' tk')) :
    ∀ (n d : Nat) (c : Int) (h : Heap) (tk : Nat) (vs : List Value) (tss : List (List Nat)), d + n = xs.length → Kp h₀ h → LO h l vs → Paired isS vs (tss.map T) → vs.length ≤ 2 * d → tss.flatten ++ f d = f 0 →
    codeAny (model P0 w) A (.builtin "re.Pattern.sub.loop" ⟨[.ref a, .str (T xs) tx, .str (T rep) tr, rawInt 0, rawInt 0, rawInt c, rawInt d, rawInt d, .bool false, .ref l, .bool false], []⟩) R (St s h tk) := by
  intro n
  induction n using Nat.strongRecOn with
  | ind n ih =>
  intro d c h tk vs tss hd kh hl pv hvl hfl
  refine codeAny_builtin entry_re_loop ?_
  rw [Around.under_plainId plain_loop]
  unfold «re.Pattern.sub.loop»
  refine wpAny_bind (m := reWholeTarget _ _) (wp_target (hP.keeps kh) ?_)
  refine wpAny_bind (m := (if ((0 : Int) == 0) = true then reLiteralCannotBeTurned (.str (T rep) tr) else pure ())) (wpAny_bind (m := asStr? _) (wpAny_pure (wpAny_pure ?_)))
  refine wpAny_bind (m := (if ((0 : Int) != 0 && decide (c ≥ 0)) = true then pure none else reNextFound _ _ _)) ?_
  show wpAny _ _ (reRunToEnd (forSearch code xs.toArray 0 (Int.toNat (d : Int)) xs.length false)) _ _ _
  rw [Int.toNat_natCast]
  refine wp_run hk (hs d (by omega)) (fun m hm ho => ?_) (fun m hm ho => ?_) fun m hm => ?_
  · rcases hm with ⟨e, _⟩ | ⟨_, h1, h2, h3, hfd⟩
    · rw [ho] at e; cases e
    have hmust : (m.handed == m.start) = false := by simp; omega
    have after : ∀ (h' : Heap) (tk' : Nat) (vs' : List Value) (tss' : List (List Nat)), Kp h₀ h' → LO h' l vs' → Paired isS vs' (tss'.map T) → vs'.length ≤ 2 * d + 1 → tss'.flatten = tss.flatten ++ (xs.drop d).take (m.start - d) →
        wpAny (model P0 w) A.in1 (updateSeq l (·.push (.str (T rep) tr))) (fun _ s' => (Code.builtin "re.Pattern.sub.loop" ⟨[.ref a, .str (T xs) tx, .str (T rep) tr, rawInt 0, rawInt 0, rawInt (c + 1), rawInt m.handed, rawInt m.handed, .bool (m.handed == m.start), .ref l, .bool false], []⟩).quiet = true ∧ codeAny (model P0 w) A (Code.builtin "re.Pattern.sub.loop" ⟨[.ref a, .str (T xs) tx, .str (T rep) tr, rawInt 0, rawInt 0, rawInt (c + 1), rawInt m.handed, rawInt m.handed, .bool (m.handed == m.start), .ref l, .bool false], []⟩) R s') (fun e s' => R (.error e) s') (St s h' tk') := by
      intro h' tk' vs' tss' k' hl' pv' hv' hf'
      refine wp_put0 k' hnl hl' (by omega) fun h₂ k₂ hl₂ => ⟨plainId_quiet plain_loop _, ?_⟩
      rw [hmust]
      refine ih (xs.length - m.handed) (by omega) m.handed (c + 1) h₂ tk' _ (tss' ++ [rep]) (by omega) k₂ hl₂ (by rw [List.map_append]; exact paired_snoc pv' ⟨tr, rfl⟩) (by rw [List.length_append]; show vs'.length + 1 ≤ _; omega) ?_
      rw [← hfl, hfd, List.flatten_append, hf']
      simp
    by_cases hlt : d < m.start
    · show wpAny _ _ (if Int.toNat (d : Int) < m.start then _ else _) _ _ _
      rw [Int.toNat_natCast, if_pos hlt]
      refine wpAny_bind (m := mkStr _) (wpAny_mkStr (s := St s h tk) ?_ ?_)
      · rw [ext_T]
        refine wpAny_bind (m := updateSeq l _) (wp_put0 kh hnl hl (by omega) fun h₁ k₁ hl₁ => ?_)
        refine wpAny_bind (m := pure _) (wpAny_pure ?_)
        refine wpAny_bind (m := updateSeq l (·.push (.str (T rep) tr))) ?_
        refine wpAny_mono (after h₁ (tk + 1) _ (tss ++ [(xs.drop d).take (m.start - d)]) k₁ hl₁ (by rw [List.map_append]; exact paired_snoc pv ⟨_, rfl⟩) (by rw [List.length_append]; show vs.length + 1 ≤ _; omega) (by simp)) (fun _ s' q => wpAny_pure q) fun _ _ e => e
      · rw [ext_T, T_length, List.length_take, List.length_drop, show sizeLine = 16777216 from rfl]; omega
    · show wpAny _ _ (if Int.toNat (d : Int) < m.start then _ else _) _ _ _
      rw [Int.toNat_natCast, if_neg hlt]
      refine wpAny_bind (m := pure _) (wpAny_pure ?_)
      refine wpAny_bind (m := updateSeq l (·.push (.str (T rep) tr))) ?_
      refine wpAny_mono (after h tk vs tss kh hl pv (by omega) (by rw [show m.start - d = 0 by omega]; simp)) (fun _ s' q => wpAny_pure q) fun _ _ e => e
  · rcases hm with ⟨_, hfd⟩ | ⟨e, _⟩
    · have fin : ∀ (h' : Heap) (tk' : Nat) (vs' : List Value) (tss' : List (List Nat)), Kp h₀ h' → LO h' l vs' → Paired isS vs' (tss'.map T) → vs'.length ≤ 2 * d + 1 → tss'.flatten = f 0 →
          wpAny (model P0 w) A.in1 (do
            let joiner ← reSlice xs.toArray 0 0 0
            let text ← if ((← seqItems? (.ref l)).getD #[]).isEmpty then pure joiner
              else call (.builtin (if (0 : Nat) == 0 then "str.join" else "bytes.join")) [joiner, .ref l]
            if false then ret (← holding [text] do newTuple [text, ← mkInt c]) else ret text) (fun fin s' => match fin with | .done f => R (.ok f) s' | .again c' => c'.quiet = true ∧ codeAny (model P0 w) A c' R s') (fun e s' => R (.error e) s') (St s h' tk') := by
        intro h' tk' vs' tss' k' hl' pv' hv' hf'
        refine wpAny_bind (m := mkStr _) (wpAny_mkStr (s := St s h' tk') ?_ ?_)
        · rw [ext_T]
          obtain ⟨o, ho, hc, n', hd'⟩ := hl'
          refine wpAny_bind (m := seqItems? _) (wpAny_seqItems (s := St s h' (tk' + 1)) ho hd' ?_)
          show wpAny _ _ (if vs'.toArray.isEmpty = true then _ else _) _ _ (St s h' (tk' + 1))
          cases vs' with
          | nil =>
            refine wpAny_bind (m := pure _) (wpAny_pure (wpAny_pure ?_))
            cases tss' with
            | nil => have := H tk' h' (tk' + 1) k'; rw [← hf'] at this; exact this
            | cons a r => cases pv'
          | cons v r =>
            refine wpAny_bind (m := call _ _) ?_
            have hB : ∀ y ∈ tss'.map T, y.length ≤ 3000 := fun y hy => by
              obtain ⟨z, hz, rfl⟩ := List.mem_map.mp hy
              rw [T_length]
              have : z.length ≤ tss'.flatten.length := mem_flat hz
              rw [hf'] at this; omega
            refine joinT (B := 3000) ⟨v :: r, ⟨o, ho, hc, n', hd'⟩, pv'⟩ hB ?_ fun t₂ tk₂ => wpAny_pure ?_
            · have e := pv'.length
              rw [← e]
              have : (T ((xs.drop 0).take (0 - 0))).length = 0 := by rw [T_length]; rfl
              rw [this]
              omega
            · rw [show (xs.drop 0).take (0 - 0) = [] from rfl, join_nil, hf']
              exact H t₂ h' tk₂ k'
        · rw [ext_T, T_length]; exact Nat.zero_le _
      by_cases hlt : d < xs.length
      · show wpAny _ _ (if Int.toNat (d : Int) < xs.length then _ else _) _ _ _
        rw [Int.toNat_natCast, if_pos hlt]
        refine wpAny_bind (m := mkStr _) (wpAny_mkStr (s := St s h tk) ?_ ?_)
        · rw [ext_T]
          refine wpAny_bind (m := updateSeq l _) (wp_put0 kh hnl hl (by omega) fun h₁ k₁ hl₁ => ?_)
          refine fin h₁ (tk + 1) _ (tss ++ [(xs.drop d).take (xs.length - d)]) k₁ hl₁ (by rw [List.map_append]; exact paired_snoc pv ⟨_, rfl⟩) (by rw [List.length_append]; show vs.length + 1 ≤ _; omega) ?_
          rw [← hfl, hfd, List.flatten_append, List.take_of_length_le (by rw [List.length_drop]; exact Nat.le_refl _)]
          simp
        · rw [ext_T, T_length, List.length_take, List.length_drop, show sizeLine = 16777216 from rfl]; omega
      · show wpAny _ _ (if Int.toNat (d : Int) < xs.length then _ else _) _ _ _
        rw [Int.toNat_natCast, if_neg hlt]
        refine fin h tk vs tss kh hl pv (by omega) ?_
        rw [← hfl, hfd, List.drop_eq_nil_of_le (by omega), List.append_nil]
    · rw [ho] at e; cases e
  · rcases hm with ⟨e, _⟩ | ⟨e, _⟩
    · exact .inr e
    · exact .inl e
end
end Mine
end

section
-- R6
open PySem PySem.W PyProof.Rows PySem.Spec PySem.Calls
set_option maxRecDepth 100000
namespace Mine
open PySem.Sre PySem.Builtin PySem.Builtin.Re
theorem str_no_call : typeLookup (.type "str") "__call__" = pure none := by rw [typeLookup_type, builtinLookup_eq_fast]; kernel_rfl
theorem named_sub (a b : Value) : reNamed "re.Pattern.sub" "sub" ["repl", "string", "count"] 2 [a, b] [] = pure [some a, some b, none] := by rfl
section
variable {w : World} {A : Around} {s : Shared} {h : Heap} {tk : Nat} {E : Value → Shared → Prop}
theorem subT {a : Addr} {code : Array Nat} {xs rep : List Nat} {tx tr : Tok} {f : Nat → List Nat} {k : Nat} {Q : Value → Shared → Prop} (hP : Pat h a code) (hk : k ≤ 1000000) (hx : xs.length ≤ 1000) (hrep : rep.length ≤ 2) (hf0 : (f 0).length ≤ 3000)
    (h92 : rep.toArray.contains 92 = false)
    (hs : ∀ d, d ≤ xs.length → Ends (forSearch code xs.toArray 0 d xs.length false) k (FoundAt f rep xs d))
    (H : ∀ t h' tk', Kp h h' → Q (.str (T (f 0)) t) (St s h' tk')) :
    wpAny (model P0 w) A (call (.builtin "re.Pattern.sub") [.ref a, .str (T rep) tr, .str (T xs) tx]) Q E (St s h tk) := by
  have hT : (St s h tk).TypeIs (.ref a) "re.Pattern" := let ⟨o, c, oc, items, n, x, y, e1, e2, _⟩ := hP; ⟨o, e1, e2⟩
  refine wpAny_call (codeAny_call_builtin slot_re_sub.plain entry_re_sub (slot_re_sub.check _ _ _ _ _ _ _ _ hT (args_re_sub _ _ _) ?_))
  show wpAny _ _ (reSubstitute "re.Pattern.sub" "sub" false _) _ _ _
  unfold reSubstitute
  refine wpAny_bind (m := reNamed _ _ _ _ _ _) ?_
  rw [named_sub]
  refine wpAny_pure ?_
  refine wpAny_bind (m := pure _) (wpAny_pure ?_)
  refine wpAny_bind (wpAny_specialOf (typeIs_str _ _ _) str_no_call ?_)
  refine wpAny_bind (m := asStr? _) (wpAny_pure ?_)
  refine wpAny_bind (m := pure _) (wpAny_pure ?_)
  rw [show (T rep).cps.contains 92 = false from h92]
  refine wpAny_bind (m := pure _) (wpAny_pure ?_)
  refine wpAny_bind (m := holding _ _) (wpAny_holding (wp_target hP ?_))
  refine wpAny_bind (m := newList _) (wpAny_newList (s := St s h tk) (wpAny_pure ?_) (by decide))
  refine ⟨plainId_quiet plain_loop _, ?_⟩
  have kp : Kp h (h.push { cls := .type "list", data := .seq #[] }) := Kp.push _ _
  exact wp_loop (h₀ := h) (tx := tx) (tr := tr) hP (Heap.get?_none_of_le (Nat.le_refl _)) hk hx hrep hf0 hs (fun t h' tk' k' => H t h' tk' k') xs.length 0 0 _ tk [] [] (Nat.zero_add _) kp ⟨_, Heap.get?_push_size _ rfl, rfl, 0, rfl⟩ .nil (Nat.zero_le _) rfl
end
end Mine
end

section
-- F_quote
open PySem PySem.W PyProof.Rows PySem.Spec PySem.Calls
set_option maxRecDepth 100000
set_option maxHeartbeats 1000000
namespace Mine
open PySem.Sre PySem.Builtin PySem.Builtin.Re
theorem f1_len : ∀ (b : Bool) (l : List Nat), (f1 b l).length ≤ 2 * l.length
  | _, [] => Nat.le_refl _
  | b, c :: r => by
    unfold f1
    split
    · have := f1_len false r; simp only [List.length_cons]; omega
    · have := f1_len (c == 10) r; simp only [List.length_cons]; omega
theorem f2_len : ∀ (l : List Nat), (f2 l).length ≤ 2 * l.length
  | [] => Nat.le_refl _
  | [c] => by unfold f2; split <;> simp
  | c :: c' :: r => by
    unfold f2
    split
    · have := f2_len r; simp only [List.length_cons]; omega
    · split
      · have := f2_len (c' :: r); simp only [List.length_cons] at this ⊢; omega
      · have := f2_len (c' :: r); simp only [List.length_cons] at this ⊢; omega
theorem getSub {w : World} {A : Around} {s : Shared} {h : Heap} {tk : Nat} {E : Value → Shared → Prop} {a : Addr} {code : Array Nat} {pl : Sem Bool} {Q : Value × List Value → Shared → Prop} (hP : Pat h a code) (H : Q (.builtin "re.Pattern.sub", [.ref a]) (St s h tk)) :
    wpAny (model P0 w) A (getMethod (.ref a) "sub" pl) Q E (St s h tk) := by
  obtain ⟨o, c, oc, items, n, x, y, e1, e2, e3, _⟩ := hP
  exact getMethod_builtin (s := St s h tk) ⟨o, e1, e2⟩ plainAttrs_re slot_re_sub type_re_sub (fun b e => by cases e; exact ⟨o, e1, e3⟩) H
theorem pat1 {w : World} {h : Heap} (g : Gd w h) : Pat h 57 cd1 := by
  have h1 : (hd.heap_39 w.params).lookup 57 = some { cls := .type "re.Pattern", data := .fields #[.str (Str.ofString "(?m)^\\.") 329, .int 40 342, .int 0 0, .none, .none, .ref 56, .int 0 0] } := by k_is
  have h2 : (hd.heap_39 w.params).lookup 56 = some { cls := .type "tuple", data := .seq #[.int 14 0, .int 4 0, .int 0 0, .int 1 0, .int 1 0, .int 6 0, .int 1 0, .int 16 0, .int 46 0, .int 1 0] } := by k_is
  exact ⟨_, _, _, _, _, _, _, g.X _ _ h1, rfl, rfl, rfl, g.X _ _ h2, rfl, by decide +kernel⟩
theorem pat2 {w : World} {h : Heap} (g : Gd w h) : Pat h 62 cd2 := by
  have h1 : (hd.heap_39 w.params).lookup 62 = some { cls := .type "re.Pattern", data := .fields #[.str (Str.ofString "(?:\\r\\n|\\n|\\r(?!\\n))") 345, .int 32 384, .int 0 0, .none, .none, .ref 61, .int 0 0] } := by k_is
  have h2 : (hd.heap_39 w.params).lookup 61 = some { cls := .type "tuple", data := .seq #[.int 14 0, .int 9 0, .int 4 0, .int 1 0, .int 2 0, .int 16 0, .int 10 0, .int 16 0, .int 13 0, .int 0 0, .int 7 0, .int 7 0, .int 16 0, .int 13 0, .int 16 0, .int 10 0, .int 15 0, .int 18 0, .int 5 0, .int 16 0, .int 10 0, .int 15 0, .int 13 0, .int 11 0, .int 16 0, .int 13 0, .int 5 0, .int 5 0, .int 0 0, .int 16 0, .int 10 0, .int 1 0, .int 15 0, .int 2 0, .int 0 0, .int 1 0] } := by k_is
  exact ⟨_, _, _, _, _, _, _, g.X _ _ h1, rfl, rfl, rfl, g.X _ _ h2, rfl, by decide +kernel⟩
theorem c_quote {w : World} {A : Around} {s : Shared} {h : Heap} {tk : Nat} {x : List Nat} {t : Tok} (g : Gd w h) (r : Rm A 1) (hx : x.length ≤ 400) :
    Qs w A (call (.ref 69) [.str (T x) t]) s h tk (fun v h' => isS v (T (f1 true (f2 x)))) := by
  refine' enter (binds := [(Str.ofString "data", .str (T x) t)]) g r ?ho ?hcd ?hb ?hloc ?hcell ?hco ?hgen ?hk ?_
  case ho => k_is
  case hcd => k_is
  case hb => exact rfl
  case hloc => exact rfl
  case hcell => decide
  case hco => exact rfl
  case hgen => exact rfl
  case hk => exact rfl
  intro A' L h₁ tk₁ r' F N G
  refine wpAny_execs_cons (wpAny_Return_some ?_)
  refine MethodCall_ (nmG G (v := .ref 57) (by k_is) ?_)
  refine getSub (pat1 G) (callWith_method1 (args_cons (cT (xs := [46, 46]) rfl fun t₁ tk₂ => args_cons ?_)))
  refine MethodCall_ (nmG G (v := .ref 62) (by k_is) ?_)
  refine getSub (pat2 G) (callWith_method1 (args_cons (nmG G (by k_is) (args_cons (nmL F.ns (by rfl) (args_nil ?_))))))
  refine subT (rep := [13, 10]) (f := F2 x) (k := 21) (pat2 G) (by decide) (by omega) (by decide) (by have := f2_len x; show (f2 x).length ≤ _; omega) (by decide +kernel) (fun d hd => search2 x d hd) fun t₂ h₂ tk₃ k₂ => ?_
  refine args_nil ?_
  have hy := f2_len x
  refine subT (xs := f2 x) (rep := [46, 46]) (f := F1 (f2 x)) (k := 3 * (f2 x).length + 9) (pat1 (G.keeps k₂)) (by omega) (by omega) (by decide) (by have := f1_len true (f2 x); show (f1 true (f2 x)).length ≤ _; omega) (by decide +kernel) (fun d hd => search1 (f2 x) d hd) fun t₃ h₃ tk₄ k₃ => ?_
  exact ⟨h₃, tk₄, rfl, (Kp.trans F.keep k₂).trans k₃, t₃, rfl⟩
end Mine
end

section
-- B5
open PySem PySem.W PyProof.Rows PySem.Spec PySem.Calls
set_option maxRecDepth 100000
namespace Mine
def fgt (x y : UInt64) : Bool := Float64.cmp x y == some Ordering.gt
def flt (x y : UInt64) : Bool := Float64.cmp x y == some Ordering.lt
def feq (x y : UInt64) : Bool := Float64.cmp x y == some Ordering.eq
def mx3 (a b c : UInt64) : UInt64 := let m := if fgt b a then b else a; if fgt c m then c else m
def mn3 (a b c : UInt64) : UInt64 := let m := if flt b a then b else a; if flt c m then c else m
section
variable {w : World} {A : Around} {s : Shared} {h : Heap} {tk : Nat} {env : Env} {E : Value → Shared → Prop} {Q : Value → Shared → Prop} {a b c : UInt64} {t u x : Tok}
theorem fAt {a b c : UInt64} {t u x : Tok} (i : Nat) (v : Value) (h : (#[Value.float a t, Value.float b u, Value.float c x] : Array Value)[i]? = some v) : ∃ t, v = .float ([a, b, c].getD i 0) t := by
  match i, h with
  | 0, h => simp at h; subst h; exact ⟨_, rfl⟩
  | 1, h => simp at h; subst h; exact ⟨_, rfl⟩
  | 2, h => simp at h; subst h; exact ⟨_, rfl⟩
  | n + 3, h => simp at h
theorem fmax3 (hh : A.handled = none) (H : ∀ t h' tk', Kp h h' → Q (.float (mx3 a b c) t) (St s h' tk')) : wpAny (model P0 w) A (call (.builtin "max") [.float a t, .float b u, .float c x]) Q E (St s h tk) := by
  have hT : (h.push { cls := .type "tuple", data := .seq #[.float a t, .float b u, .float c x] }).IsTuple h.objs.size #[.float a t, .float b u, .float c x] := ⟨_, Heap.get?_push_size _ rfl, rfl, 0, rfl⟩
  refine call_max_three (s := St s h tk) (Src.tuple (w := w) (A := A.in1) (s := s) (tk := tk) hh hT _ _ fun I fp T h₁ k₁ hI W hst hfp hfo => ?_)
  refine ⟨I, fp, [I], _, _, T, fun i j => fgt ([a, b, c].getD i 0) ([a, b, c].getD j 0), rfl, W, hst, hfp, (by decide : 0 < 3), fun i j vi vj s Q E hi hj hQ => ?_, fun v h' tk' hP hk => ?_⟩
  · obtain ⟨t, rfl⟩ := fAt i vi hi
    obtain ⟨u, rfl⟩ := fAt j vj hj
    exact richCompare_gives (op := .Gt) (AutoFloatOps.typeIs_float s _ t) (AutoFloatOps.typeIs_float s _ u) F.slot_float_gt F.entry_float_gt (F.args_float_gt_2 _ _) (AutoFloatG4.float___gt___float_float_0 _ t _ u) (fun x => nomatch x) hQ
  · obtain ⟨t', rfl⟩ := fAt _ v hP
    have e : [a, b, c].getD (argBest (fun i j => fgt ([a, b, c].getD i 0) ([a, b, c].getD j 0)) 2) 0 = mx3 a b c := by
      unfold mx3
      by_cases h1 : fgt b a = true
      · have e1 : argBest (fun i j => fgt ([a, b, c].getD i 0) ([a, b, c].getD j 0)) 1 = 1 := by show (if fgt b a = true then 1 else 0) = 1; rw [if_pos h1]
        show [a, b, c].getD (if fgt c ([a, b, c].getD (argBest _ 1) 0) = true then 2 else argBest _ 1) 0 = _
        rw [e1, if_pos h1]
        show [a, b, c].getD (if fgt c b = true then 2 else 1) 0 = if fgt c b = true then c else b
        split <;> rfl
      · have e1 : argBest (fun i j => fgt ([a, b, c].getD i 0) ([a, b, c].getD j 0)) 1 = 0 := by show (if fgt b a = true then 1 else 0) = 0; rw [if_neg h1]
        show [a, b, c].getD (if fgt c ([a, b, c].getD (argBest _ 1) 0) = true then 2 else argBest _ 1) 0 = _
        rw [e1, if_neg h1]
        show [a, b, c].getD (if fgt c a = true then 2 else 0) 0 = if fgt c a = true then c else a
        split <;> rfl
    have := H t' h' tk' (offI (Nat.le_trans (by rw [Heap.size_push]; exact Nat.le_succ _) hI) ((Kp.push _ _).trans k₁) hk)
    rw [← e] at this
    exact this
theorem fmin3 (hh : A.handled = none) (H : ∀ t h' tk', Kp h h' → Q (.float (mn3 a b c) t) (St s h' tk')) : wpAny (model P0 w) A (call (.builtin "min") [.float a t, .float b u, .float c x]) Q E (St s h tk) := by
  have hT : (h.push { cls := .type "tuple", data := .seq #[.float a t, .float b u, .float c x] }).IsTuple h.objs.size #[.float a t, .float b u, .float c x] := ⟨_, Heap.get?_push_size _ rfl, rfl, 0, rfl⟩
  refine call_min_three (s := St s h tk) (Src.tuple (w := w) (A := A.in1) (s := s) (tk := tk) hh hT _ _ fun I fp T h₁ k₁ hI W hst hfp hfo => ?_)
  refine ⟨I, fp, [I], _, _, T, fun i j => flt ([a, b, c].getD i 0) ([a, b, c].getD j 0), rfl, W, hst, hfp, (by decide : 0 < 3), fun i j vi vj s Q E hi hj hQ => ?_, fun v h' tk' hP hk => ?_⟩
  · obtain ⟨t, rfl⟩ := fAt i vi hi
    obtain ⟨u, rfl⟩ := fAt j vj hj
    exact richCompare_gives (op := .Lt) (AutoFloatOps.typeIs_float s _ t) (AutoFloatOps.typeIs_float s _ u) F.slot_float_lt F.entry_float_lt (F.args_float_lt_2 _ _) (AutoFloatG5.float___lt___float_float_0 _ t _ u) (fun x => nomatch x) hQ
  · obtain ⟨t', rfl⟩ := fAt _ v hP
    have e : [a, b, c].getD (argBest (fun i j => flt ([a, b, c].getD i 0) ([a, b, c].getD j 0)) 2) 0 = mn3 a b c := by
      unfold mn3
      by_cases h1 : flt b a = true
      · have e1 : argBest (fun i j => flt ([a, b, c].getD i 0) ([a, b, c].getD j 0)) 1 = 1 := by show (if flt b a = true then 1 else 0) = 1; rw [if_pos h1]
        show [a, b, c].getD (if flt c ([a, b, c].getD (argBest _ 1) 0) = true then 2 else argBest _ 1) 0 = _
        rw [e1, if_pos h1]
        show [a, b, c].getD (if flt c b = true then 2 else 1) 0 = if flt c b = true then c else b
        split <;> rfl
      · have e1 : argBest (fun i j => flt ([a, b, c].getD i 0) ([a, b, c].getD j 0)) 1 = 0 := by show (if flt b a = true then 1 else 0) = 0; rw [if_neg h1]
        show [a, b, c].getD (if flt c ([a, b, c].getD (argBest _ 1) 0) = true then 2 else argBest _ 1) 0 = _
        rw [e1, if_neg h1]
        show [a, b, c].getD (if flt c a = true then 2 else 0) 0 = if flt c a = true then c else a
        split <;> rfl
    have := H t' h' tk' (offI (Nat.le_trans (by rw [Heap.size_push]; exact Nat.le_succ _) hI) ((Kp.push _ _).trans k₁) hk)
    rw [← e] at this
    exact this
theorem cF {y : UInt64} {k : Nat} {pos : Pos} (H : ∀ t tk', Q (.float y t) (St s h tk')) : wpAny (model P0 w) A (eval (.Constant (.float y) k pos) env) Q E (St s h tk) := AutoFloatOps.wpAny_Constant_float (H _ _)
theorem fAdd (H : ∀ t tk', Q (.float (Float64.add a b) t) (St s h tk')) : wpAny (model P0 w) A (binaryOp .Add (.float a t) (.float b u)) Q E (St s h tk) := AutoFloatOps.add_0 (s := St s h tk) (H _ _)
theorem fSub (H : ∀ t tk', Q (.float (Float64.sub a b) t) (St s h tk')) : wpAny (model P0 w) A (binaryOp .Sub (.float a t) (.float b u)) Q E (St s h tk) := AutoFloatOps.sub_0 (s := St s h tk) (H _ _)
theorem fMul (H : ∀ t tk', Q (.float (Float64.mul a b) t) (St s h tk')) : wpAny (model P0 w) A (binaryOp .Mult (.float a t) (.float b u)) Q E (St s h tk) := AutoFloatOps.mul_0 (s := St s h tk) (H _ _)
theorem fDiv (hz : Float64.isZero b = false) (H : ∀ t tk', Q (.float (Float64.div a b) t) (St s h tk')) : wpAny (model P0 w) A (binaryOp .Div (.float a t) (.float b u)) Q E (St s h tk) := AutoFloatOps.truediv_1 (s := St s h tk) (by rw [hz]; decide) (H _ _)
theorem fMod (hz : Float64.isZero b = false) (H : ∀ t tk', Q (.float (Float64.divmod a b).snd t) (St s h tk')) : wpAny (model P0 w) A (binaryOp .Mod (.float a t) (.float b u)) Q E (St s h tk) := AutoFloatOps.mod_1 (s := St s h tk) (by rw [hz]; decide) (H _ _)
theorem fSubI {n : Int} (hz : Float64.isInf (Float64.ofInt n) = false) (H : ∀ t tk', Q (.float (Float64.sub a (Float64.ofInt n)) t) (St s h tk')) : wpAny (model P0 w) A (binaryOp .Sub (.float a t) (.int n u)) Q E (St s h tk) := AutoFloatOps.sub_fi_1 (s := St s h tk) (by rw [hz]; decide) (H _ _)
theorem fMulI {n : Int} (hz : Float64.isInf (Float64.ofInt n) = false) (H : ∀ t tk', Q (.float (Float64.mul a (Float64.ofInt n)) t) (St s h tk')) : wpAny (model P0 w) A (binaryOp .Mult (.float a t) (.int n u)) Q E (St s h tk) := AutoFloatOps.mul_fi_1 (s := St s h tk) (by rw [hz]; decide) (H _ _)
theorem fEq (H : ∀ tk', Q (.bool (feq a b)) (St s h tk')) : wpAny (model P0 w) A (compareOp .Eq (.float a t) (.float b u)) Q E (St s h tk) := AutoFloatOps.eq_0 (s := St s h tk) (H _)
def quo (a : Int) : UInt64 := Float64.ofFrac (decide (a < 0) != decide ((64 : Int) < 0)) a.natAbs (Int.natAbs 64)
theorem iQuo {a : Int} (hz : Float64.isInf (quo a) = false) (H : ∀ t tk', Q (.float (quo a) t) (St s h tk')) : wpAny (model P0 w) A (binaryOp .Div (.int a t) (.int 64 u)) Q E (St s h tk) := AutoIntOps.truediv_2 (s := St s h tk) (by decide) (by show ¬ Float64.isInf (quo a) = true; rw [hz]; decide) (H _ _)
/-- the int that int() makes of a float, where it makes one -/
def trunc (x : UInt64) : Option Int := match Float64.decode x with | .fin sg m e => some (Float64.truncOf sg m e) | _ => none
theorem toI {n : Int} (hn : trunc a = some n) (H : ∀ t tk', Q (.int n t) (St s h tk')) : wpAny (model P0 w) A (call (.type "int") [.float a t]) Q E (St s h tk) := by
  unfold trunc at hn
  split at hn
  · rename_i sg m e hd
    cases hn
    exact call_int_float (s := St s h tk) hd (H _ _)
  · cases hn
/-- a new tuple -/
theorem newT {vs : List Value} (hz : vs.length ≤ 1000) (H : ∀ l h', Kp h h' → h.get? l = none → h'.get? l = some { cls := .type "tuple", data := .seq vs.toArray } → Q (.ref l) (St s h' tk)) : wpAny (model P0 w) A (newTuple vs) Q E (St s h tk) :=
  wpAny_newTuple (s := St s h tk) (H _ _ (Kp.push _ _) (Heap.get?_none_of_le (Nat.le_refl _)) (Heap.get?_push_size _ rfl)) (by rw [show sizeLine = 16777216 from rfl]; omega)
end
end Mine
end

section
-- F_rgb
open PySem PySem.W PyProof.Rows PySem.Spec PySem.Calls
set_option maxRecDepth 100000
set_option maxHeartbeats 1000000
namespace Mine
def rgbH (r g b : UInt64) : UInt64 :=
  let maxc := mx3 r g b
  let rangec := Float64.sub maxc (mn3 r g b)
  let rc := Float64.div (Float64.sub maxc r) rangec
  let gc := Float64.div (Float64.sub maxc g) rangec
  let bc := Float64.div (Float64.sub maxc b) rangec
  let hh := if feq r maxc then Float64.sub bc gc else if feq g maxc then Float64.sub (Float64.add 4611686018427387904 rc) bc else Float64.sub (Float64.add 4616189618054758400 gc) rc
  (Float64.divmod (Float64.div hh 4618441417868443648) 4607182418800017408).snd
def rgbF (r g b : UInt64) : UInt64 × UInt64 × UInt64 :=
  if feq (mn3 r g b) (mx3 r g b) then (0, 0, mx3 r g b) else (rgbH r g b, Float64.div (Float64.sub (mx3 r g b) (mn3 r g b)) (mx3 r g b), mx3 r g b)
def rgbOk (r g b : UInt64) : Bool := feq (mn3 r g b) (mx3 r g b) || (!Float64.isZero (mx3 r g b) && !Float64.isZero (Float64.sub (mx3 r g b) (mn3 r g b)))
/-- a tuple of three floats -/
def TF (h : Heap) (l : Addr) (x : UInt64 × UInt64 × UInt64) : Prop := ∃ t u v, h.get? l = some { cls := .type "tuple", data := .seq #[.float x.1 t, .float x.2.1 u, .float x.2.2 v] }
theorem TF.keeps {h h' : Heap} {l : Addr} {x : UInt64 × UInt64 × UInt64} (p : TF h l x) (k : Kp h h') : TF h' l x := let ⟨t, u, v, e⟩ := p; ⟨t, u, v, k _ _ e⟩
theorem c_rgb {w : World} {A : Around} {s : Shared} {h : Heap} {tk : Nat} {r g b : UInt64} {t1 t2 t3 : Tok} (G0 : Gd w h) (R : Rm A 1) (hok : rgbOk r g b = true) :
    Qs w A (call (.ref 38) [.float r t1, .float g t2, .float b t3]) s h tk (fun v h' => ∃ l', v = .ref l' ∧ h.get? l' = none ∧ TF h' l' (rgbF r g b)) := by
  refine' enter (binds := [(Str.ofString "r", .float r t1), (Str.ofString "g", .float g t2), (Str.ofString "b", .float b t3)]) G0 R ?ho ?hcd ?hb ?hloc ?hcell ?hco ?hgen ?hk ?_
  case ho => k_is
  case hcd => k_is
  case hb => exact rfl
  case hloc => exact rfl
  case hcell => decide
  case hco => exact rfl
  case hgen => exact rfl
  case hk => exact rfl
  intro A' L h₁ tk₁ r' F N G
  refine wpAny_execs_cons (wpAny_Assign_Name ?_)
  refine callB G (by k_is) (by boot_fast) (args_cons (nmL F.ns (by rfl) (args_cons (nmL F.ns (by rfl) (args_cons (nmL F.ns (by rfl) (args_nil (fmax3 r'.hh fun t₁ h₂ tk₂ k₂ => ?_))))))))
  refine stL (F.keeps k₂) (N.grown k₂) fun h₃ tk₃ F₃ N₃ _ => ?_
  have G₃ := G0.keeps F₃.keep
  refine wpAny_execs_cons (wpAny_Assign_Name ?_)
  refine callB G₃ (by k_is) (by boot_fast) (args_cons (nmL F₃.ns (by rfl) (args_cons (nmL F₃.ns (by rfl) (args_cons (nmL F₃.ns (by rfl) (args_nil (fmin3 r'.hh fun t₂ h₄ tk₄ k₄ => ?_))))))))
  refine stL (F₃.keeps k₄) (N₃.grown k₄) fun h₅ tk₅ F₅ N₅ _ => ?_
  refine wpAny_execs_cons (wpAny_Assign_Name (wpAny_BinOp (nmL F₅.ns (by rfl) (nmL F₅.ns (by rfl) (fSub fun t₃ tk₆ => stL F₅ N₅ fun h₆ tk₇ F₆ N₆ _ => ?_)))))
  refine wpAny_execs_cons (wpAny_Assign_Name (nmL F₆.ns (by rfl) (stL F₆ N₆ fun h₇ tk₈ F₇ N₇ _ => ?_)))
  refine wpAny_execs_cons (wpAny_If (wpAny_isTrue_Compare1 (nmL F₇.ns (by rfl) (nmL F₇.ns (by rfl) (fEq fun tk₉ => wpAny_truthy_bool ?_)))))
  cases hq : feq (mn3 r g b) (mx3 r g b) with
  | true =>
    show wpAny (model P0 w) A' (execs _ _) _ _ (St s h₇ tk₉)
    refine wpAny_execs_cons (wpAny_Return_some (Tuple_ (args_cons (cF fun t₄ tk₁₀ => args_cons (cF fun t₅ tk₁₁ => args_cons (nmL F₇.ns (by rfl) (args_nil ?_)))))))
    refine newT (by simp) fun l h₈ k₈ hn e => ⟨h₈, _, rfl, Kp.trans F₇.keep k₈, l, rfl, Kp.none F₇.keep hn, ?_⟩
    unfold rgbF; rw [if_pos hq]
    exact ⟨_, _, _, e⟩
  | false =>
    have hz : Float64.isZero (mx3 r g b) = false ∧ Float64.isZero (Float64.sub (mx3 r g b) (mn3 r g b)) = false := by
      unfold rgbOk at hok; rw [hq] at hok; simpa using hok
    show wpAny (model P0 w) A' (execs [] _) _ _ (St s h₇ tk₉)
    refine wpAny_execs_nil ?_
    refine wpAny_execs_cons (wpAny_Assign_Name (wpAny_BinOp (nmL F₇.ns (by rfl) (nmL F₇.ns (by rfl) (fDiv hz.1 fun t₄ tk₁₀ => stL F₇ N₇ fun h₈ tk₁₁ F₈ N₈ _ => ?_)))))
    refine wpAny_execs_cons (wpAny_Assign_Name (wpAny_BinOp (wpAny_BinOp (nmL F₈.ns (by rfl) (nmL F₈.ns (by rfl) (fSub fun t₅ tk₁₂ => nmL F₈.ns (by rfl) (fDiv hz.2 fun t₆ tk₁₃ => stL F₈ N₈ fun h₉ tk₁₄ F₉ N₉ _ => ?_)))))))
    refine wpAny_execs_cons (wpAny_Assign_Name (wpAny_BinOp (wpAny_BinOp (nmL F₉.ns (by rfl) (nmL F₉.ns (by rfl) (fSub fun t₇ tk₁₂ => nmL F₉.ns (by rfl) (fDiv hz.2 fun t₈ tk₁₃ => stL F₉ N₉ fun h₁₀ tk₁₄ F₁₀ N₁₀ _ => ?_)))))))
    refine wpAny_execs_cons (wpAny_Assign_Name (wpAny_BinOp (wpAny_BinOp (nmL F₁₀.ns (by rfl) (nmL F₁₀.ns (by rfl) (fSub fun t₉ tk₁₂ => nmL F₁₀.ns (by rfl) (fDiv hz.2 fun t₁₀ tk₁₃ => stL F₁₀ N₁₀ fun h₁₁ tk₁₄ F₁₁ N₁₁ _ => ?_)))))))
    refine wpAny_execs_cons (wpAny_If (wpAny_isTrue_Compare1 (nmL F₁₁.ns (by rfl) (nmL F₁₁.ns (by rfl) (fEq fun tk₁₅ => wpAny_truthy_bool ?_)))))
    cases hr : feq r (mx3 r g b) with
    | true =>
      show wpAny (model P0 w) A' (execs _ _) _ _ (St s h₁₁ tk₁₅)
      refine wpAny_execs_cons (wpAny_Assign_Name (wpAny_BinOp (nmL F₁₁.ns (by rfl) (nmL F₁₁.ns (by rfl) (fSub fun t₁₁ tk₁₆ => stL F₁₁ N₁₁ fun h₁₂ tk₁₇ F₁₂ N₁₂ _ => wpAny_execs_nil ?_)))))
      refine wpAny_execs_cons (wpAny_Assign_Name (wpAny_BinOp (wpAny_BinOp (nmL F₁₂.ns (by rfl) (cF fun t₁₂ tk₁₇ => fDiv (by decide +kernel) fun t₁₃ tk₁₈ => cF fun t₁₄ tk₁₉ => fMod (by decide +kernel) fun t₁₅ tk₂₀ => stL F₁₂ N₁₂ fun h₁₃ tk₂₁ F₁₃ N₁₃ _ => ?_)))))
      refine wpAny_execs_cons (wpAny_Return_some (Tuple_ (args_cons (nmL F₁₃.ns (by rfl) (args_cons (nmL F₁₃.ns (by rfl) (args_cons (nmL F₁₃.ns (by rfl) (args_nil ?_)))))))))
      refine newT (by simp) fun l h₁₄ k₁₄ hn e => ⟨h₁₄, _, rfl, Kp.trans F₁₃.keep k₁₄, l, rfl, Kp.none F₁₃.keep hn, ?_⟩
      simp only [rgbF, rgbH, hq, hr, if_true, Bool.false_eq_true, if_false]
      exact ⟨_, _, _, e⟩
    | false =>
      show wpAny (model P0 w) A' (execs _ _) _ _ (St s h₁₁ tk₁₅)
      refine wpAny_execs_cons (wpAny_If (wpAny_isTrue_Compare1 (nmL F₁₁.ns (by rfl) (nmL F₁₁.ns (by rfl) (fEq fun tk₁₆ => wpAny_truthy_bool ?_)))))
      cases hg : feq g (mx3 r g b) with
      | true =>
        show wpAny (model P0 w) A' (execs _ _) _ _ (St s h₁₁ tk₁₆)
        refine wpAny_execs_cons (wpAny_Assign_Name (wpAny_BinOp (wpAny_BinOp (cF fun t₁₀ tk₁₆ => nmL F₁₁.ns (by rfl) (fAdd fun t₁₁ tk₁₆ => nmL F₁₁.ns (by rfl) (fSub fun t₁₁ tk₁₆ => stL F₁₁ N₁₁ fun h₁₂ tk₁₇ F₁₂ N₁₂ _ => wpAny_execs_nil (wpAny_execs_nil ?_)))))))
        refine wpAny_execs_cons (wpAny_Assign_Name (wpAny_BinOp (wpAny_BinOp (nmL F₁₂.ns (by rfl) (cF fun t₁₂ tk₁₇ => fDiv (by decide +kernel) fun t₁₃ tk₁₈ => cF fun t₁₄ tk₁₉ => fMod (by decide +kernel) fun t₁₅ tk₂₀ => stL F₁₂ N₁₂ fun h₁₃ tk₂₁ F₁₃ N₁₃ _ => ?_)))))
        refine wpAny_execs_cons (wpAny_Return_some (Tuple_ (args_cons (nmL F₁₃.ns (by rfl) (args_cons (nmL F₁₃.ns (by rfl) (args_cons (nmL F₁₃.ns (by rfl) (args_nil ?_)))))))))
        refine newT (by simp) fun l h₁₄ k₁₄ hn e => ⟨h₁₄, _, rfl, Kp.trans F₁₃.keep k₁₄, l, rfl, Kp.none F₁₃.keep hn, ?_⟩
        simp only [rgbF, rgbH, hq, hr, hg, if_true, Bool.false_eq_true, if_false]
        exact ⟨_, _, _, e⟩
      | false =>
        show wpAny (model P0 w) A' (execs _ _) _ _ (St s h₁₁ tk₁₆)
        refine wpAny_execs_cons (wpAny_Assign_Name (wpAny_BinOp (wpAny_BinOp (cF fun t₁₀ tk₁₆ => nmL F₁₁.ns (by rfl) (fAdd fun t₁₁ tk₁₆ => nmL F₁₁.ns (by rfl) (fSub fun t₁₁ tk₁₆ => stL F₁₁ N₁₁ fun h₁₂ tk₁₇ F₁₂ N₁₂ _ => wpAny_execs_nil (wpAny_execs_nil ?_)))))))
        refine wpAny_execs_cons (wpAny_Assign_Name (wpAny_BinOp (wpAny_BinOp (nmL F₁₂.ns (by rfl) (cF fun t₁₂ tk₁₇ => fDiv (by decide +kernel) fun t₁₃ tk₁₈ => cF fun t₁₄ tk₁₉ => fMod (by decide +kernel) fun t₁₅ tk₂₀ => stL F₁₂ N₁₂ fun h₁₃ tk₂₁ F₁₃ N₁₃ _ => ?_)))))
        refine wpAny_execs_cons (wpAny_Return_some (Tuple_ (args_cons (nmL F₁₃.ns (by rfl) (args_cons (nmL F₁₃.ns (by rfl) (args_cons (nmL F₁₃.ns (by rfl) (args_nil ?_)))))))))
        refine newT (by simp) fun l h₁₄ k₁₄ hn e => ⟨h₁₄, _, rfl, Kp.trans F₁₃.keep k₁₄, l, rfl, Kp.none F₁₃.keep hn, ?_⟩
        simp only [rgbF, rgbH, hq, hr, hg, if_true, Bool.false_eq_true, if_false]
        exact ⟨_, _, _, e⟩
end Mine
end

section
-- F_hsv
open PySem PySem.W PyProof.Rows PySem.Spec PySem.Calls
set_option maxRecDepth 100000
set_option maxHeartbeats 1000000
namespace Mine
def hsvP (s v : UInt64) : UInt64 := Float64.mul v (Float64.sub 4607182418800017408 s)
def hsvQ (s v f : UInt64) : UInt64 := Float64.mul v (Float64.sub 4607182418800017408 (Float64.mul s f))
def hsvT (s v f : UInt64) : UInt64 := Float64.mul v (Float64.sub 4607182418800017408 (Float64.mul s (Float64.sub 4607182418800017408 f)))
def hsvJ (j : Int) (v p q t : UInt64) : UInt64 × UInt64 × UInt64 :=
  if j = 0 then (v, t, p) else if j = 1 then (q, v, p) else if j = 2 then (p, v, t) else if j = 3 then (p, q, v) else if j = 4 then (t, p, v) else (v, p, q)
def hsvF (h s v : UInt64) : Option (UInt64 × UInt64 × UInt64) :=
  if feq s 0 then some (v, v, v) else
  match trunc (Float64.mul h 4618441417868443648) with
  | none => none
  | some i => if Float64.isInf (Float64.ofInt i) then none else
    let f := Float64.sub (Float64.mul h 4618441417868443648) (Float64.ofInt i)
    some (hsvJ (i.fmod 6) v (hsvP s v) (hsvQ s v f) (hsvT s v f))
theorem mod6 (a : Int) : 0 ≤ a.fmod 6 ∧ a.fmod 6 < 6 := by
  rw [Int.fmod_eq_emod_of_nonneg _ (by decide)]
  exact ⟨Int.emod_nonneg _ (by decide), Int.emod_lt_of_pos _ (by decide)⟩
theorem eqI {w : World} {A : Around} {s : Shared} {h : Heap} {tk : Nat} {E : Value → Shared → Prop} {Q : Value → Shared → Prop} {a b : Int} {t u : Tok} (H : Q (.bool (a == b)) (St s h tk)) : wpAny (model P0 w) A (compareOp .Eq (.int a t) (.int b u)) Q E (St s h tk) := PyProof.Rows.eq_int H
theorem c_hsv {w : World} {A : Around} {s : Shared} {h : Heap} {tk : Nat} {hv sv vv : UInt64} {x : UInt64 × UInt64 × UInt64} {t1 t2 t3 : Tok} (G0 : Gd w h) (R : Rm A 1) (hx : hsvF hv sv vv = some x) :
    Qs w A (call (.ref 45) [.float hv t1, .float sv t2, .float vv t3]) s h tk (fun v h' => ∃ l', v = .ref l' ∧ h.get? l' = none ∧ TF h' l' x) := by
  refine' enter (binds := [(Str.ofString "h", .float hv t1), (Str.ofString "s", .float sv t2), (Str.ofString "v", .float vv t3)]) G0 R ?ho ?hcd ?hb ?hloc ?hcell ?hco ?hgen ?hk ?_
  case ho => k_is
  case hcd => k_is
  case hb => exact rfl
  case hloc => exact rfl
  case hcell => decide
  case hco => exact rfl
  case hgen => exact rfl
  case hk => exact rfl
  intro A' L h₁ tk₁ r' F N G
  refine wpAny_execs_cons (wpAny_If (wpAny_isTrue_Compare1 (nmL F.ns (by rfl) (cF fun t₁ tk₂ => fEq fun tk₃ => wpAny_truthy_bool ?_))))
  unfold hsvF at hx
  cases hq : feq sv 0 with
  | true =>
    rw [if_pos hq] at hx
    cases hx
    show wpAny (model P0 w) A' (execs _ _) _ _ (St s h₁ tk₃)
    refine wpAny_execs_cons (wpAny_Return_some (Tuple_ (args_cons (nmL F.ns (by rfl) (args_cons (nmL F.ns (by rfl) (args_cons (nmL F.ns (by rfl) (args_nil ?_)))))))))
    exact newT (by simp) fun l h₈ k₈ hn e => ⟨h₈, _, rfl, Kp.trans F.keep k₈, l, rfl, Kp.none F.keep hn, _, _, _, e⟩
  | false =>
    rw [if_neg (by rw [hq]; decide)] at hx
    cases hi : trunc (Float64.mul hv 4618441417868443648) with
    | none => rw [hi] at hx; cases hx
    | some i =>
    rw [hi] at hx
    dsimp only at hx
    cases hz : Float64.isInf (Float64.ofInt i) with
    | true => rw [hz] at hx; cases hx
    | false =>
    rw [hz] at hx
    cases hx
    show wpAny (model P0 w) A' (execs [] _) _ _ (St s h₁ tk₃)
    refine wpAny_execs_nil ?_
    refine wpAny_execs_cons (wpAny_Assign_Name ?_)
    refine callT G (by k_is) (by boot_fast) (args_cons (wpAny_BinOp (nmL F.ns (by rfl) (cF fun t₂ tk₄ => fMul fun t₃ tk₅ => args_nil (toI hi fun t₄ tk₆ => stL F N fun h₂ tk₇ F₂ N₂ _ => ?_)))))
    refine wpAny_execs_cons (wpAny_Assign_Name (wpAny_BinOp (wpAny_BinOp (nmL F₂.ns (by rfl) (cF fun t₅ tk₈ => fMul fun t₆ tk₉ => nmL F₂.ns (by rfl) (fSubI hz fun t₇ tk₁₀ => stL F₂ N₂ fun h₃ tk₁₁ F₃ N₃ _ => ?_))))))
    refine wpAny_execs_cons (wpAny_Assign_Name (wpAny_BinOp (nmL F₃.ns (by rfl) (wpAny_BinOp (cF fun t₈ tk₈ => nmL F₃.ns (by rfl) (fSub fun t₉ tk₉ => fMul fun t₁₀ tk₁₀ => stL F₃ N₃ fun h₄ tk₁₁ F₄ N₄ _ => ?_))))))
    refine wpAny_execs_cons (wpAny_Assign_Name (wpAny_BinOp (nmL F₄.ns (by rfl) (wpAny_BinOp (cF fun t₁₁ tk₈ => wpAny_BinOp (nmL F₄.ns (by rfl) (nmL F₄.ns (by rfl) (fMul fun t₁₂ tk₉ => fSub fun t₁₃ tk₁₀ => fMul fun t₁₄ tk₁₀ => stL F₄ N₄ fun h₅ tk₁₁ F₅ N₅ _ => ?_))))))))
    refine wpAny_execs_cons (wpAny_Assign_Name (wpAny_BinOp (nmL F₅.ns (by rfl) (wpAny_BinOp (cF fun t₁₅ tk₈ => wpAny_BinOp (nmL F₅.ns (by rfl) (wpAny_BinOp (cF fun t₁₆ tk₉ => nmL F₅.ns (by rfl) (fSub fun t₁₇ tk₁₀ => fMul fun t₁₈ tk₉ => fSub fun t₁₉ tk₁₀ => fMul fun t₂₀ tk₁₀ => stL F₅ N₅ fun h₆ tk₁₁ F₆ N₆ _ => ?_)))))))))
    refine wpAny_execs_cons (wpAny_Assign_Name (wpAny_BinOp (nmL F₆.ns (by rfl) (cI fun t₂₁ tk₁₂ => bMod (by decide) fun t₂₂ tk₁₃ => stL F₆ N₆ fun h₇ tk₁₄ F₇ N₇ _ => ?_))))
    have hj := mod6 i
    refine wpAny_execs_cons (wpAny_If (wpAny_isTrue_Compare1 (nmL F₇.ns (by rfl) (cI fun u0 tu0 => eqI (wpAny_truthy_bool ?_)))))
    cases e0 : (i.fmod 6 == 0) with
    | true =>
      have j0 : i.fmod 6 = 0 := by simpa using e0
      show wpAny (model P0 w) A' (execs _ _) _ _ (St s h₇ tu0)
      refine wpAny_execs_cons (wpAny_Return_some (Tuple_ (args_cons (nmL F₇.ns (by rfl) (args_cons (nmL F₇.ns (by rfl) (args_cons (nmL F₇.ns (by rfl) (args_nil ?_)))))))))
      refine newT (by simp) fun l h₈ k₈ hn e => ⟨h₈, _, rfl, Kp.trans F₇.keep k₈, l, rfl, Kp.none F₇.keep hn, ?_⟩
      rw [j0]
      exact ⟨_, _, _, e⟩
    | false =>
    have j0 : i.fmod 6 ≠ 0 := by simpa using e0
    show wpAny (model P0 w) A' (execs [] _) _ _ (St s h₇ tu0)
    refine wpAny_execs_nil ?_
    refine wpAny_execs_cons (wpAny_If (wpAny_isTrue_Compare1 (nmL F₇.ns (by rfl) (cI fun u1 tu1 => eqI (wpAny_truthy_bool ?_)))))
    cases e1 : (i.fmod 6 == 1) with
    | true =>
      have j1 : i.fmod 6 = 1 := by simpa using e1
      show wpAny (model P0 w) A' (execs _ _) _ _ (St s h₇ tu1)
      refine wpAny_execs_cons (wpAny_Return_some (Tuple_ (args_cons (nmL F₇.ns (by rfl) (args_cons (nmL F₇.ns (by rfl) (args_cons (nmL F₇.ns (by rfl) (args_nil ?_)))))))))
      refine newT (by simp) fun l h₈ k₈ hn e => ⟨h₈, _, rfl, Kp.trans F₇.keep k₈, l, rfl, Kp.none F₇.keep hn, ?_⟩
      rw [j1]
      exact ⟨_, _, _, e⟩
    | false =>
    have j1 : i.fmod 6 ≠ 1 := by simpa using e1
    show wpAny (model P0 w) A' (execs [] _) _ _ (St s h₇ tu1)
    refine wpAny_execs_nil ?_
    refine wpAny_execs_cons (wpAny_If (wpAny_isTrue_Compare1 (nmL F₇.ns (by rfl) (cI fun u2 tu2 => eqI (wpAny_truthy_bool ?_)))))
    cases e2 : (i.fmod 6 == 2) with
    | true =>
      have j2 : i.fmod 6 = 2 := by simpa using e2
      show wpAny (model P0 w) A' (execs _ _) _ _ (St s h₇ tu2)
      refine wpAny_execs_cons (wpAny_Return_some (Tuple_ (args_cons (nmL F₇.ns (by rfl) (args_cons (nmL F₇.ns (by rfl) (args_cons (nmL F₇.ns (by rfl) (args_nil ?_)))))))))
      refine newT (by simp) fun l h₈ k₈ hn e => ⟨h₈, _, rfl, Kp.trans F₇.keep k₈, l, rfl, Kp.none F₇.keep hn, ?_⟩
      rw [j2]
      exact ⟨_, _, _, e⟩
    | false =>
    have j2 : i.fmod 6 ≠ 2 := by simpa using e2
    show wpAny (model P0 w) A' (execs [] _) _ _ (St s h₇ tu2)
    refine wpAny_execs_nil ?_
    refine wpAny_execs_cons (wpAny_If (wpAny_isTrue_Compare1 (nmL F₇.ns (by rfl) (cI fun u3 tu3 => eqI (wpAny_truthy_bool ?_)))))
    cases e3 : (i.fmod 6 == 3) with
    | true =>
      have j3 : i.fmod 6 = 3 := by simpa using e3
      show wpAny (model P0 w) A' (execs _ _) _ _ (St s h₇ tu3)
      refine wpAny_execs_cons (wpAny_Return_some (Tuple_ (args_cons (nmL F₇.ns (by rfl) (args_cons (nmL F₇.ns (by rfl) (args_cons (nmL F₇.ns (by rfl) (args_nil ?_)))))))))
      refine newT (by simp) fun l h₈ k₈ hn e => ⟨h₈, _, rfl, Kp.trans F₇.keep k₈, l, rfl, Kp.none F₇.keep hn, ?_⟩
      rw [j3]
      exact ⟨_, _, _, e⟩
    | false =>
    have j3 : i.fmod 6 ≠ 3 := by simpa using e3
    show wpAny (model P0 w) A' (execs [] _) _ _ (St s h₇ tu3)
    refine wpAny_execs_nil ?_
    refine wpAny_execs_cons (wpAny_If (wpAny_isTrue_Compare1 (nmL F₇.ns (by rfl) (cI fun u4 tu4 => eqI (wpAny_truthy_bool ?_)))))
    cases e4 : (i.fmod 6 == 4) with
    | true =>
      have j4 : i.fmod 6 = 4 := by simpa using e4
      show wpAny (model P0 w) A' (execs _ _) _ _ (St s h₇ tu4)
      refine wpAny_execs_cons (wpAny_Return_some (Tuple_ (args_cons (nmL F₇.ns (by rfl) (args_cons (nmL F₇.ns (by rfl) (args_cons (nmL F₇.ns (by rfl) (args_nil ?_)))))))))
      refine newT (by simp) fun l h₈ k₈ hn e => ⟨h₈, _, rfl, Kp.trans F₇.keep k₈, l, rfl, Kp.none F₇.keep hn, ?_⟩
      rw [j4]
      exact ⟨_, _, _, e⟩
    | false =>
    have j4 : i.fmod 6 ≠ 4 := by simpa using e4
    show wpAny (model P0 w) A' (execs [] _) _ _ (St s h₇ tu4)
    refine wpAny_execs_nil ?_
    refine wpAny_execs_cons (wpAny_If (wpAny_isTrue_Compare1 (nmL F₇.ns (by rfl) (cI fun u5 tu5 => eqI (wpAny_truthy_bool ?_)))))
    cases e5 : (i.fmod 6 == 5) with
    | true =>
      have j5 : i.fmod 6 = 5 := by simpa using e5
      show wpAny (model P0 w) A' (execs _ _) _ _ (St s h₇ tu5)
      refine wpAny_execs_cons (wpAny_Return_some (Tuple_ (args_cons (nmL F₇.ns (by rfl) (args_cons (nmL F₇.ns (by rfl) (args_cons (nmL F₇.ns (by rfl) (args_nil ?_)))))))))
      refine newT (by simp) fun l h₈ k₈ hn e => ⟨h₈, _, rfl, Kp.trans F₇.keep k₈, l, rfl, Kp.none F₇.keep hn, ?_⟩
      rw [j5]
      exact ⟨_, _, _, e⟩
    | false =>
    have j5 : i.fmod 6 ≠ 5 := by simpa using e5
    omega
end Mine
end

section
-- F_colour
open PySem PySem.W PyProof.Rows PySem.Spec PySem.Calls
set_option maxRecDepth 100000
set_option maxHeartbeats 1000000
namespace Mine
def part64 (z : UInt64) : Option Int := trunc (Float64.add (Float64.mul z (Float64.ofInt 64)) 4602678819172646912)
/-- what _law_colour gives, where all goes well on the way -/
def colF (b0 b1 b2 : Int) : Option (Int × Int × Int) :=
  if Float64.isInf (quo b0) || Float64.isInf (quo b1) || Float64.isInf (quo b2) || !rgbOk (quo b0) (quo b1) (quo b2) then none else
  let x := rgbF (quo b0) (quo b1) (quo b2)
  match hsvF x.1 4607182418800017408 (Float64.mul x.2.1 x.2.2) with
  | none => none
  | some y => match part64 y.1, part64 y.2.1, part64 y.2.2 with
    | some a, some b, some c => some (a, b, c)
    | _, _, _ => none
theorem c_colour {w : World} {A : Around} {s : Shared} {h : Heap} {tk : Nat} {l : Addr} {b0 b1 b2 c0 c1 c2 : Int} (G0 : Gd w h) (R : Rm A 2) (hl : LI h l [b0, b1, b2]) (hc : colF b0 b1 b2 = some (c0, c1, c2)) :
    Qs w A (call (.ref 105) [.ref l]) s h tk (fun v h' => ∃ l', v = .ref l' ∧ h.get? l' = none ∧ LI h' l' [c0, c1, c2]) := by
  unfold colF at hc
  cases hok : (Float64.isInf (quo b0) || Float64.isInf (quo b1) || Float64.isInf (quo b2) || !rgbOk (quo b0) (quo b1) (quo b2)) with
  | true => rw [hok] at hc; cases hc
  | false =>
  rw [hok] at hc
  simp only [Bool.or_eq_false_iff, Bool.not_eq_false'] at hok
  obtain ⟨⟨⟨i0, i1⟩, i2⟩, hrgb⟩ := hok
  simp only [Bool.false_eq_true, if_false] at hc
  generalize hX : rgbF (quo b0) (quo b1) (quo b2) = X at hc
  cases hY : hsvF X.1 4607182418800017408 (Float64.mul X.2.1 X.2.2) with
  | none => rw [hY] at hc; cases hc
  | some Y =>
  rw [hY] at hc
  dsimp only at hc
  obtain ⟨y0, y1, y2⟩ := Y
  dsimp only at hc
  cases p0 : part64 y0 with
  | none => rw [p0] at hc; cases hc
  | some a0 =>
  cases p1 : part64 y1 with
  | none => rw [p0, p1] at hc; cases hc
  | some a1 =>
  cases p2 : part64 y2 with
  | none => rw [p0, p1, p2] at hc; cases hc
  | some a2 =>
  rw [p0, p1, p2] at hc
  cases hc
  refine' enter (binds := [(Str.ofString "boxes", .ref l)]) G0 R ?ho ?hcd ?hb ?hloc ?hcell ?hco ?hgen ?hk ?_
  case ho => k_is
  case hcd => k_is
  case hb => exact rfl
  case hloc => exact rfl
  case hcell => decide
  case hco => exact rfl
  case hgen => exact rfl
  case hk => exact rfl
  intro A' L h₁ tk₁ r' F N G
  have hl₁ := hl.keeps F.keep
  refine wpAny_execs_cons (Assign_Tuple (callO G (by k_is) (by k_is) ?_) (by with_unfolding_all rfl) (by with_unfolding_all rfl))
  refine args_cons (wpAny_BinOp (Subscript_ (nmL F.ns (by rfl) (cI fun t₁ tk₂ => itI hl₁ (by decide) (by decide) (by rfl) fun t₂ => cI fun t₃ tk₃ => iQuo i0 fun t₄ tk₄ => ?_))))
  refine args_cons (wpAny_BinOp (Subscript_ (nmL F.ns (by rfl) (cI fun t₅ tk₂ => itI hl₁ (by decide) (by decide) (by rfl) fun t₆ => cI fun t₇ tk₃ => iQuo i1 fun t₈ tk₄ => ?_))))
  refine args_cons (wpAny_BinOp (Subscript_ (nmL F.ns (by rfl) (cI fun t₉ tk₂ => itI hl₁ (by decide) (by decide) (by rfl) fun t₁₀ => cI fun t₁₁ tk₃ => iQuo i2 fun t₁₂ tk₄ => ?_))))
  refine args_nil ⟨G, ?_⟩
  refine (c_rgb G (r'.le (by decide)) hrgb).use fun v h₂ tk₅ k₂ ⟨tp, e, hn, ht⟩ => ?_
  subst e
  rw [hX] at ht
  obtain ⟨u1, u2, u3, ht⟩ := ht
  have N₂ := addN F N k₂ hn ht
  refine unpackN_ (s := St s h₂ tk₅) (F.keeps k₂) N₂ ⟨_, ht, rfl, _, rfl⟩ r'.hh (by rfl) (by rfl) fun h₃ F₃ N₃ => ?_
  show wpAny _ _ (assignInOrder [_, _, _] [_, _, _]) _ _ (St s h₃ tk₅)
  refine assignInOrder_cons (assign_Name (stL F₃ N₃ fun h₄ tk₆ F₄ N₄ _ => assignInOrder_cons (assign_Name (stL F₄ N₄ fun h₅ tk₇ F₅ N₅ _ => assignInOrder_cons (assign_Name (stL F₅ N₅ fun h₆ tk₈ F₆ N₆ _ => assignInOrder_nil ?_))))))
  have G₆ := G0.keeps F₆.keep
  refine wpAny_execs_cons (wpAny_Return_some ?_)
  refine lcomp (R := isF) (S := isI) (f := fun x => (part64 x).getD 0) isF.det (by with_unfolding_all rfl) (by decide) (by rfl) (by decide) (by rfl) ?_
  refine callO G₆ (by k_is) (by k_is) (args_cons (nmL F₆.ns (by rfl) (args_cons (cF fun t₁₃ tk₉ => args_cons (wpAny_BinOp (nmL F₆.ns (by rfl) (nmL F₆.ns (by rfl) (fMul fun t₁₄ tk₁₀ => args_nil ⟨G₆, ?_⟩))))))))
  refine (c_hsv G₆ (r'.le (by decide)) hY).use fun v h₇ tk₁₁ k₇ ⟨tq, e, hn₇, hq⟩ => ?_
  subst e
  obtain ⟨w1, w2, w3, hq⟩ := hq
  refine ⟨h₇, tk₁₁, [y0, y1, y2], _, rfl, Src.tuple r'.hh ⟨_, hq, rfl, _, rfl⟩, by show 3 ≤ sizeLine; decide, ?_, ?_, ?_⟩
  · intro i v hi hv
    obtain ⟨t, rfl⟩ := fAt i v hv
    refine ⟨[y0, y1, y2].getD i 0, ?_, t, rfl⟩
    match i, hi with
    | 0, _ => rfl
    | 1, _ => rfl
    | 2, _ => rfl
  · intro C i v a s₈ h₈ tk₁₂ m₈ ha hr hm₈ hm hk
    obtain ⟨t, rfl⟩ := hr
    have G₈ : Gd w h₈ := (G₆.keeps k₇).keeps hk
    obtain ⟨n, hn⟩ : ∃ n, part64 a = some n := by
      match i, ha with
      | 0, ha => simp at ha; subst ha; exact ⟨_, p0⟩
      | 1, ha => simp at ha; subst ha; exact ⟨_, p1⟩
      | 2, ha => simp at ha; subst ha; exact ⟨_, p2⟩
      | n + 3, ha => simp at ha
    refine callT G₈ (by k_is) (by boot_fast) (args_cons (wpAny_BinOp (wpAny_BinOp (nmL hm₈ hm (cI fun t₁₅ tk₁₃ => fMulI (by decide +kernel) fun t₁₆ tk₁₄ => cF fun t₁₇ tk₁₅ => fAdd fun t₁₈ tk₁₆ => args_nil (toI hn fun t₁₉ tk₁₇ => ?_))))))
    exact ⟨h₈, tk₁₇, rfl, Kp.refl _, t₁₉, by rw [hn]; rfl⟩
  · intro D h₈ tk₁₂ ys hD hlD pD k
    refine ⟨h₈, tk₁₂, rfl, (Kp.trans F₆.keep k₇).trans k, D, rfl, Kp.none F₆.keep (Kp.none k₇ hD), ys, hlD, ?_⟩
    have : [y0, y1, y2].map (fun x => (part64 x).getD 0) = [c0, c1, c2] := by simp [p0, p1, p2]
    rw [this] at pD; exact pD
end Mine
end

section
-- B6
open PySem PySem.W PyProof.Rows PySem.Spec PySem.Calls
set_option maxRecDepth 100000
namespace Mine
section
variable {w : World} {A : Around} {s : Shared} {h : Heap} {tk : Nat} {env : Env} {E : Value → Shared → Prop}
/-- a for over one name through a tuple, by an invariant over the heap -/
theorem forTup {x : Str} {px pos : Pos} {iter : Expr} {body : List Stmt} {Q : Flow → Shared → Prop} (hh : A.handled = none)
    (H : wpAny (model P0 w) A (eval iter env) (fun xv s₁ => ∃ (h₁ : Heap) (tk₁ : Nat) (tp : Addr) (oT : Obj) (items : Array Value) (kT : Nat), xv = .ref tp ∧ s₁ = St s h₁ tk₁ ∧ h₁.get? tp = some oT ∧ oT.cls = .type "tuple" ∧ oT.data = .seq items kT ∧
      ∀ (I : Addr) (h₂ : Heap), Kp h₁ h₂ → h₁.objs.size ≤ I →
        ∃ J : Nat → Heap → Prop, J 0 h₂ ∧ (∀ i h h', J i h → (∀ b o, b ∉ [I] → h.get? b = some o → h'.get? b = some o) → J i h') ∧
        (∀ i v h₃ tk₃ oI, i < items.size → items[i]? = some v → J i h₃ → h₃.get? I = some oI → h₃.get? tp = some oT → wpAny (model P0 w) A (assign (.Name x px) env v) (fun _ s' => wpAny (model P0 w) A (execs body env) (fun f s'' => f = .next ∧ ∃ h₄ tk₄, s'' = St s h₄ tk₄ ∧ J (i + 1) h₄ ∧ h₄.get? I = some oI ∧ h₄.get? tp = some oT) (fun _ _ => False) s') (fun _ _ => False) (St s h₃ tk₃)) ∧
        (∀ h' tk', J items.size h' → Q .next (St s h' tk'))) E (St s h tk))
    (hs : ∀ x, foldedSetIterable iter env x = pure x := by intro _; rfl) :
    wpAny (model P0 w) A (exec (.For (.Name x px) iter body [] pos) env) Q E (St s h tk) := by
  refine wpAny_For (wpAny_mono H (fun xv s₁ h₁ => ?_) fun _ _ e => e) hs
  obtain ⟨h₁, tk₁, tp, oT, items, kT, rfl, rfl, hT, hTc, hTd, R⟩ := h₁
  have hl : h₁.IsTuple tp items := ⟨oT, hT, hTc, kT, hTd⟩
  have hlt : tp < h₁.objs.size := Heap.lt_size hT
  refine wpAny_pyIter_tuple (s := St s h₁ tk₁) hl ?_
  have W := Walks.tuple (prog := P0) (w := w) hh h₁.objs.size tp (Nat.ne_of_lt hlt) items
  generalize hh2 : (St s h₁ tk₁).heap.push _ = h₂
  have k₂ : Kp h₁ h₂ := by rw [← hh2]; exact Kp.push _ _
  have hT₂ := k₂ _ _ hT
  obtain ⟨J, j0, jI, step, fin⟩ := R h₁.objs.size h₂ k₂ (Nat.le_refl _)
  refine codeAny_forLoop (fun k s' => ∃ h' tk' i, s' = St s h' tk' ∧ i ≤ items.size ∧ k = items.size + 1 - i ∧ (h'.IsTupleIter h₁.objs.size tp i ∧ h'.IsTuple tp items) ∧ J i h' ∧ h'.get? tp = some oT) ?_ (items.size + 1) ⟨h₂, tk₁, 0, rfl, Nat.zero_le _, rfl, ⟨by rw [← hh2]; exact ⟨_, Heap.get?_push_size _ rfl, rfl, rfl⟩, by rw [← hh2]; exact hl.push _⟩, j0, hT₂⟩
  rintro k s' ⟨h', tk', i, rfl, hi, rfl, ht, hj, hT'⟩
  have hne : tp ∉ [h₁.objs.size] := fun hm => by rw [List.mem_singleton.mp hm] at hlt; exact Nat.lt_irrefl _ hlt
  by_cases hlt' : i < items.size
  · refine W.item i (St s h' tk') _ _ hlt' ht fun v h₃ tk₃ hv ht₃ hk₃ => ?_
    obtain ⟨oI, eI, hrest⟩ := id ht₃.1
    refine wpAny_mono (step i v h₃ tk₃ oI hlt' hv (jI i _ _ hj hk₃) eI (hk₃ _ _ hne hT')) (fun _ s₄ q => noE (wpAny_mono q (fun f s₅ ⟨e, h₄, tk₄, e₄, j₄, kf, kT'⟩ => ?_) fun _ _ e => e)) fun _ _ e => e.elim
    subst e; subst e₄
    exact ⟨items.size + 1 - (i + 1), by omega, h₄, tk₄, i + 1, rfl, hlt', rfl, ⟨⟨oI, kf, hrest⟩, ⟨oT, kT', hTc, kT, hTd⟩⟩, j₄, kT'⟩
  · obtain rfl : i = items.size := Nat.le_antisymm hi (Nat.not_lt.mp hlt')
    refine W.done (St s h' tk') _ _ ht fun h₃ tk₃ hk₃ => wpAny_execs_nil ?_
    exact fin h₃ tk₃ (jI _ _ _ hj hk₃)
theorem getPop {l : Addr} {vs : Array Value} {n : Nat} {pl : Sem Bool} {Q : Value × List Value → Shared → Prop} (ho : h.get? l = some (W.listOf vs n)) (H : Q (.builtin "list.pop", [.ref l]) (St s h tk)) :
    wpAny (model P0 w) A (getMethod (.ref l) "pop" pl) Q E (St s h tk) :=
  getMethod_builtin (s := St s h tk) ⟨_, ho, rfl⟩ F.plainAttrs_list F.slot_list_pop F.type_list_pop (fun b e => by cases e; exact ⟨_, ho, rfl⟩) H
theorem getExtend {l : Addr} {vs : Array Value} {n : Nat} {pl : Sem Bool} {Q : Value × List Value → Shared → Prop} (ho : h.get? l = some (W.listOf vs n)) (H : Q (.builtin "list.extend", [.ref l]) (St s h tk)) :
    wpAny (model P0 w) A (getMethod (.ref l) "extend" pl) Q E (St s h tk) :=
  getMethod_builtin (s := St s h tk) ⟨_, ho, rfl⟩ F.plainAttrs_list F.slot_list_extend F.type_list_extend (fun b e => by cases e; exact ⟨_, ho, rfl⟩) H
theorem popL {h₀ : Heap} {L l : Addr} {m : Str → Option Value} {rest : List (Addr × Obj)} {vs : List Value} {n : Nat} {k : Int} {u : Tok} {y : Value} {Q : Value → Shared → Prop} (F : Fr h₀ L h m) (N : News h₀ L h ((l, W.listOf vs.toArray n) :: rest)) (hr : ∀ p ∈ rest, p.1 ≠ l)
    (h0 : 0 ≤ k) (h1 : k < vs.length) (hz : vs.length ≤ 1000) (hy : vs[k.toNat]? = some y)
    (H : ∀ h' n', Fr h₀ L h' m → News h₀ L h' ((l, W.listOf (vs.eraseIdx k.toNat).toArray n') :: rest) → Q y (St s h' tk)) :
    wpAny (model P0 w) A (call (.builtin "list.pop") [.ref l, .int k u]) Q E (St s h tk) := by
  have Nl := N (l, _) (.head _)
  have hk : seqIndex? k vs.toArray.size = some k.toNat := by
    unfold seqIndex?
    have h2 : ¬ k < 0 := by omega
    have h3 : (decide (0 ≤ k) && decide (k < ((vs.toArray.size : Nat) : Int))) = true := by rw [List.size_toArray]; simp; omega
    simp only [h2, if_false, h3, if_true]
  refine call_meets PySem.F.slot_list_pop ⟨_, Nl.1, rfl⟩ PySem.F.entry_list_pop (PySem.F.args_list_pop_2 _ _) (MeetsSeq.list_pop_at l vs.toArray n k u k.toNat y (by unfold Builtin.List.listFitsIndex; simp; omega) hk (by simpa using hy) (by rw [List.size_toArray, show sizeLine = 16777216 from rfl]; omega)) ⟨Nl.1, ?_⟩
  have hlt : k.toNat < vs.toArray.size := by rw [List.size_toArray]; omega
  have ho' : (h.update l (Obj.mapSeq fun xs => xs.eraseIdxIfInBounds k.toNat)).get? l = some (W.listOf (vs.eraseIdx k.toNat).toArray (n + 1)) := by
    rw [Heap.get?_update_self _ Nl.1 (by rw [mapSeq_erase _ _ _ hlt]; rfl), mapSeq_erase _ _ _ hlt]
  exact H _ _ (F.change (Heap.SameBut.update ..) Nl.2.1 Nl.2.2) (N.setHead hr (Heap.SameBut.update ..) ho')
end
end Mine
end

section
-- F_pairs
open PySem PySem.W PyProof.Rows PySem.Spec PySem.Calls
set_option maxRecDepth 100000
set_option maxHeartbeats 1000000
namespace Mine
def pairStep (st : List (List Nat) × Int × List (List Nat × List Nat)) (size : Int) : List (List Nat) × Int × List (List Nat × List Nat) :=
  let k := (st.2.1.fmod size).toNat
  let m := st.1.getD k []
  (st.1.eraseIdx k, st.2.1.fdiv size, st.2.2 ++ [([46] ++ m ++ [124], [124] ++ m ++ [46])])
def pairSt (n : Int) (i : Nat) : List (List Nat) × Int × List (List Nat × List Nat) := ([4, 3, 2, 1].take i).foldl pairStep ([[46, 46], [46, 124], [124, 46], [124, 124]], n, [])
def pairsF (n : Int) : List (List Nat × List Nat) := (pairSt n 4).2.2
theorem flatP_append : ∀ a b, flatP (a ++ b) = flatP a ++ flatP b
  | [], b => rfl
  | (p, q) :: r, b => by show T p :: T q :: flatP (r ++ b) = _; rw [flatP_append r b]; rfl
theorem paired_erase {α β : Type} {R : α → β → Prop} : ∀ {vs : List α} {as : List β}, Paired R vs as → ∀ (i : Nat), Paired R (vs.eraseIdx i) (as.eraseIdx i)
  | _, _, .nil, i => .nil
  | _, _, .cons r t, 0 => t
  | _, _, .cons r t, i + 1 => .cons r (paired_erase t i)
theorem paired_app {α β : Type} {R : α → β → Prop} : ∀ {vs : List α} {as : List β}, Paired R vs as → ∀ {vs' : List α} {as' : List β}, Paired R vs' as' → Paired R (vs ++ vs') (as ++ as')
  | _, _, .nil, _, _, h => h
  | _, _, .cons r t, _, _, h => .cons r (paired_app t h)
theorem map_erase {α β : Type} (f : α → β) : ∀ (l : List α) (i : Nat), (l.eraseIdx i).map f = (l.map f).eraseIdx i
  | [], i => rfl
  | a :: r, 0 => rfl
  | a :: r, i + 1 => by show f a :: (r.eraseIdx i).map f = f a :: (r.map f).eraseIdx i; rw [map_erase f r i]
theorem mid_fold : ∀ (l : List Int) st, (∀ z ∈ st.1, z.length ≤ 2) → ∀ z ∈ (l.foldl pairStep st).1, z.length ≤ 2
  | [], st, h => h
  | a :: r, st, h => mid_fold r _ fun z hz => h z (List.mem_of_mem_eraseIdx hz)
theorem mid2 (l : List Int) (n : Int) (i : Nat) : ∀ z ∈ (pairSt n i).1, z.length ≤ 2 := mid_fold _ _ (show ∀ z ∈ [[46, 46], [46, 124], [124, 46], [124, 124]], z.length ≤ 2 by decide)
theorem fmod_lt (a b : Int) (hb : 0 < b) : 0 ≤ a.fmod b ∧ a.fmod b < b := by
  rw [Int.fmod_eq_emod_of_nonneg _ (by omega)]
  exact ⟨Int.emod_nonneg _ (by omega), Int.emod_lt_of_pos _ hb⟩
theorem c_pairs {w : World} {A : Around} {s : Shared} {h : Heap} {tk : Nat} {n : Int} {t : Tok} (g : Gd w h) (r : Rm A 1) :
    Qs w A (call (.ref 86) [.int n t]) s h tk (fun v h' => ∃ l', v = .ref l' ∧ h.get? l' = none ∧ LT h' l' (flatP (pairsF n))) := by
  refine' enter (binds := [(Str.ofString "number", .int n t)]) g r ?ho ?hcd ?hb ?hloc ?hcell ?hco ?hgen ?hk ?_
  case ho => k_is
  case hcd => k_is
  case hb => exact rfl
  case hloc => exact rfl
  case hcell => decide
  case hco => exact rfl
  case hgen => exact rfl
  case hk => exact rfl
  intro A' L h₁ tk₁ r' F N G
  refine wpAny_execs_cons (wpAny_Assign_Name (List_ (args_cons (cT (xs := [46, 46]) rfl fun t₁ tk₂ => args_cons (cT (xs := [46, 124]) rfl fun t₂ tk₃ => args_cons (cT (xs := [124, 46]) rfl fun t₃ tk₄ => args_cons (cT (xs := [124, 124]) rfl fun t₄ tk₅ => args_nil ?_)))))))
  refine newL F N (Nat.le_of_ble_eq_true rfl) fun lb h₂ F₂ N₂ k₂ hlb => stL F₂ N₂ fun h₃ tk₆ F₃ N₃ _ => ?_
  refine wpAny_execs_cons (wpAny_Assign_Name (List_ (args_nil ?_)))
  refine newL F₃ N₃ (Nat.le_of_ble_eq_true rfl) fun lp h₄ F₄ N₄ k₄ hlp => stL F₄ N₄ fun h₅ tk₇ F₅ N₅ _ => ?_
  have hbp : lp ≠ lb := fun e => by have := N₃.get (.head _); rw [← e, hlp] at this; cases this
  refine wpAny_execs_cons (forTup r'.hh (Tuple_ (args_cons (cI fun t₅ tk₈ => args_cons (cI fun t₆ tk₉ => args_cons (cI fun t₇ tk₁₀ => args_cons (cI fun t₈ tk₁₁ => args_nil ?_)))))))
  refine newT (by simp) fun tp h₆ k₆ hn e₆ => ?_
  refine ⟨h₆, _, tp, _, _, _, rfl, rfl, e₆, rfl, rfl, fun I h₇ k₇ hI => ?_⟩
  have F₆ := F₅.keeps k₆
  have N₆ := addN F₅ N₅ k₆ hn e₆
  obtain ⟨hI0, hIL⟩ := newI F₆ hI
  have hIn := newN N₆ hI
  have hIt : tp ≠ I := hIn _ (.head _)
  have hIp : lp ≠ I := hIn _ (.tail _ (.head _))
  have hIb : lb ≠ I := hIn _ (.tail _ (.tail _ (.head _)))
  have htb : tp ≠ lb := fun e => by have := N₅.get (.tail _ (.head _)); rw [← e, hn] at this; cases this
  have htp : tp ≠ lp := fun e => by have := N₅.get (.head _); rw [← e, hn] at this; cases this
  refine ⟨fun i h' => ∃ m vb nb vp np tn, Fr h L h' m ∧ News h L h' [(lb, W.listOf (List.toArray vb) nb), (lp, W.listOf (List.toArray vp) np)] ∧ Paired isS vb ((pairSt n i).1.map T) ∧ Paired isS vp (flatP (pairSt n i).2.2) ∧ vp.length ≤ 2 * i ∧ vb.length = 4 - i ∧
    m (Str.ofString "between") = some (.ref lb) ∧ m (Str.ofString "pairs") = some (.ref lp) ∧ m (Str.ofString "number") = some (.int (pairSt n i).2.1 tn), ?_, ?_, ?_, ?_⟩
  · refine ⟨_, [_, _, _, _], _, [], _, t, F₆.keeps k₇, fun p hp => N₆.grown k₇ p (by
      rcases List.mem_cons.mp hp with rfl | hp
      · exact .tail _ (.tail _ (.head _))
      · rw [List.mem_singleton.mp hp]; exact .tail _ (.head _)), .cons ⟨_, rfl⟩ (.cons ⟨_, rfl⟩ (.cons ⟨_, rfl⟩ (.cons ⟨_, rfl⟩ .nil))), .nil, Nat.le_refl _, rfl, by rfl, by rfl, by rfl⟩
  · rintro i g₁ g₂ ⟨m, vb, nb, vp, np, tn, F', N', rest⟩ hk
    exact ⟨m, vb, nb, vp, np, tn, LCg.fr_but F' hk hIL hI0, LCg.news_but N' hk (fun p hp => by
      rcases List.mem_cons.mp hp with rfl | hp
      · exact hIb
      · rw [List.mem_singleton.mp hp]; exact hIp), rest⟩
  · rintro i v h₈ tk₁₂ oI hi hv ⟨m, vb, nb, vp, np, tn, F', N', pb, pp, hvl, hbl, mb, mp, mn⟩ eI eT
    obtain ⟨sz, tz, rfl, hsz, hst⟩ : ∃ sz tz, v = Value.int sz tz ∧ sz = 4 - (i : Int) ∧ pairSt n (i + 1) = pairStep (pairSt n i) sz := by
      match i, hv with
      | 0, hv => simp at hv; exact ⟨4, t₅, hv.symm, rfl, rfl⟩
      | 1, hv => simp at hv; exact ⟨3, t₆, hv.symm, rfl, rfl⟩
      | 2, hv => simp at hv; exact ⟨2, t₇, hv.symm, rfl, rfl⟩
      | 3, hv => simp at hv; exact ⟨1, t₈, hv.symm, rfl, rfl⟩
      | j + 4, hv => simp at hv
    have hi4 : i < 4 := hi
    have N'' : News h L h₈ [(lb, W.listOf vb.toArray nb), (lp, W.listOf vp.toArray np), (I, oI), (tp, { cls := .type "tuple", data := .seq #[.int 4 t₅, .int 3 t₆, .int 2 t₇, .int 1 t₈] })] := fun p hp => by
      rcases List.mem_cons.mp hp with rfl | hp
      · exact N' _ (.head _)
      · rcases List.mem_cons.mp hp with rfl | hp
        · exact N' _ (.tail _ (.head _))
        · rcases List.mem_cons.mp hp with rfl | hp
          · exact ⟨eI, Ne.symm hIL, hI0⟩
          · rw [List.mem_singleton.mp hp]; exact ⟨eT, (N₆ _ (.head _)).2⟩
    refine wpAny_assign_Name (stL F' N'' fun h₉ tk₁₃ F₉ N₉ _ => ?_)
    have hm := fmod_lt (pairSt n i).2.1 sz (by omega)
    have hlt : ((pairSt n i).2.1.fmod sz).toNat < vb.length := by omega
    have hlt' : ((pairSt n i).2.1.fmod sz).toNat < (pairSt n i).1.length := by have := pb.length; rw [List.length_map] at this; omega
    obtain ⟨y, hy, ty, rfl⟩ := paired_at pb _ _ (by rw [List.getElem?_map, List.getElem?_eq_getElem hlt']; rfl)
    have hmid : (pairSt n i).1[((pairSt n i).2.1.fmod sz).toNat] = (pairSt n i).1.getD ((pairSt n i).2.1.fmod sz).toNat [] := by simp [List.getD, List.getElem?_eq_getElem hlt']
    rw [hmid] at hy
    generalize hM : (pairSt n i).1.getD ((pairSt n i).2.1.fmod sz).toNat [] = M at hy
    have hMl : M.length ≤ 2 := by rw [← hM, ← hmid]; exact mid2 [4, 3, 2, 1] n i _ (List.getElem_mem hlt')
    refine wpAny_execs_cons (wpAny_Assign_Name (MethodCall_ (nmL F₉.ns (v := .ref lb) mb (getPop (N₉.get (.head _)) (callWith_method1 (args_cons (wpAny_BinOp (nmL F₉.ns (v := .int (pairSt n i).2.1 tn) mn (nmL F₉.ns (by rfl) (bMod (by omega) fun t₉ tk₁₄ => args_nil ?_))))))))))
    refine popL F₉ N₉ (fun p hp => ?_) hm.1 (by omega) (by omega) hy fun h₁₀ n₁₀ F₁₀ N₁₀ => ?_
    · rcases List.mem_cons.mp hp with rfl | hp
      · exact hbp
      · rcases List.mem_cons.mp hp with rfl | hp
        · exact Ne.symm hIb
        · rw [List.mem_singleton.mp hp]; exact htb
    refine stL F₁₀ N₁₀ fun h₁₁ tk₁₅ F₁₁ N₁₁ _ => ?_
    refine wpAny_execs_cons (wpAny_Assign_Name (wpAny_BinOp (nmL F₁₁.ns (v := .int (pairSt n i).2.1 tn) mn (nmL F₁₁.ns (by rfl) (bDiv (by omega) (PyProof.noPylong_small (by omega)) fun t₁₀ tk₁₆ => stL F₁₁ N₁₁ fun h₁₂ tk₁₇ F₁₂ N₁₂ _ => ?_)))))
    refine wpAny_execs_cons (wpAny_Expr (MethodCall_ (nmL F₁₂.ns (v := .ref lp) mp (getExtend (N₁₂.get (.tail _ (.head _))) (callWith_method1 (args_cons (List_ ?_)))))))
    refine args_cons (wpAny_BinOp (wpAny_BinOp (cT (xs := [46]) rfl fun t₁₁ tk₁₈ => nmL F₁₂.ns (by rfl) (addT (by show 1 + M.length < _; omega) fun t₁₂ tk₁₉ => cT (xs := [124]) rfl fun t₁₃ tk₂₀ => addT (by simp; omega) fun t₁₄ tk₂₁ => ?_))))
    refine args_cons (wpAny_BinOp (wpAny_BinOp (cT (xs := [124]) rfl fun t₁₅ tk₁₈ => nmL F₁₂.ns (by rfl) (addT (by show 1 + M.length < _; omega) fun t₁₆ tk₁₉ => cT (xs := [46]) rfl fun t₁₇ tk₂₀ => addT (by simp; omega) fun t₁₈ tk₂₁ => args_nil ?_))))
    refine newL F₁₂ N₁₂ (Nat.le_of_ble_eq_true rfl) fun ln h₁₃ F₁₃ N₁₃ k₁₃ hln => args_nil ?_
    have hlnp : ln ≠ lp := fun e => by have := N₁₂.get (.tail _ (.head _)); rw [← e, hln] at this; cases this
    refine extend_in (s := St s h₁₃ _) (own := [(ln, _), (lb, _)]) F₁₃ N₁₃ (fun p hp => ?_) (fun p hp => ?_) (N₁₃.get (.head _)) (fun h₁₄ n₁₄ F₁₄ N₁₄ => ?_) (by show vp.length + 2 ≤ 16777216; omega)
    · rcases List.mem_cons.mp hp with rfl | hp
      · exact hlnp
      · rw [List.mem_singleton.mp hp]; exact Ne.symm hbp
    · rcases List.mem_cons.mp hp with rfl | hp
      · exact Ne.symm hIp
      · rw [List.mem_singleton.mp hp]; exact htp
    refine wpAny_execs_nil ⟨rfl, h₁₄, _, rfl, ⟨_, _, n₁₀, _, n₁₄, t₁₀, F₁₄, fun p hp => N₁₄ p (by
      rcases List.mem_cons.mp hp with rfl | hp
      · exact .tail _ (.head _)
      · rw [List.mem_singleton.mp hp]; exact .tail _ (.tail _ (.head _))), ?_, ?_, ?_, ?_, mb, mp, ?_⟩, N₁₄.get (.tail _ (.tail _ (.tail _ (.head _)))), N₁₄.get (.tail _ (.tail _ (.tail _ (.tail _ (.head _)))))⟩
    · rw [hst]; show Paired isS _ (List.map T ((pairSt n i).1.eraseIdx _))
      rw [map_erase]
      exact paired_erase pb _
    · rw [hst]; show Paired isS _ (flatP ((pairSt n i).2.2 ++ _))
      rw [flatP_append, hM]
      exact paired_app pp (.cons ⟨_, rfl⟩ (.cons ⟨_, rfl⟩ .nil))
    · rw [List.length_append]; show vp.length + 2 ≤ _; omega
    · rw [List.length_eraseIdx_of_lt hlt]; omega
    · rw [hst]; rfl
  · rintro h' tk' ⟨m, vb, nb, vp, np, tn, F', N', pb, pp, hvl, hbl, mb, mp, mn⟩
    refine wpAny_execs_cons (wpAny_Return_some (nmL F'.ns mp ⟨h', tk', rfl, F'.keep, lp, rfl, (N' _ (.tail _ (.head _))).2.2, vp, ⟨_, (N' _ (.tail _ (.head _))).1, rfl, np, rfl⟩, pp⟩))
end Mine
end

section
-- B7
open PySem PySem.W PyProof.Rows PySem.Spec PySem.Calls
set_option maxRecDepth 100000
namespace Mine
theorem ints_of : ∀ {vs : List Value} {ns : List Int}, Paired isI vs ns → IntsAre vs ns
  | _, _, .nil => .nil
  | _, _, .cons ⟨t, e⟩ p => by subst e; exact .cons _ _ (ints_of p)
theorem LO.nz {h h' : Heap} {l L : Addr} {vs : List Value} (x : LO h l vs) (hs : Heap.SameBut L h h') (hne : l ≠ L) : LO h' l vs := let ⟨o, e, r⟩ := x; ⟨o, (hs.2 _ hne).trans e, r⟩
def minL (ns : List Int) : Int := ns.getD (argBest (fun i j => decide (ns.getD i 0 < ns.getD j 0)) (ns.length - 1)) 0
section
variable {w : World} {A : Around} {s : Shared} {h : Heap} {tk : Nat} {env : Env} {E : Value → Shared → Prop} {Q : Value → Shared → Prop}
theorem minLs {l : Addr} {ns : List Int} (hh : A.handled = none) (hl : LI h l ns) (h0 : 0 < ns.length) (H : ∀ t h' tk', Kp h h' → Q (.int (minL ns) t) (St s h' tk')) : wpAny (model P0 w) A (call (.builtin "min") [.ref l]) Q E (St s h tk) := by
  obtain ⟨vs, hl, p⟩ := hl
  have hat : ∀ (i : Nat) v, vs.toArray[i]? = some v → ∃ t, v = .int (ns.getD i 0) t := fun i v hv => by
    obtain ⟨n, hn, t, rfl⟩ := paired_get p i v (by simpa using hv)
    exact ⟨t, by simp [List.getD, hn]⟩
  refine call_min_walk (s := St s h tk) (Src.list (w := w) (A := A.in1) (tk := tk) (s := s) hh hl.isList _ _ fun I fp T h₁ k₁ hI W hst hfp hfo => ?_)
  refine ⟨I, fp, [I], vs.toArray.size, _, T, fun i j => decide (ns.getD i 0 < ns.getD j 0), rfl, W, hst, hfp, by rw [sizeA p]; exact h0, CmpOf.ints_lt (fun i => ns.getD i 0) hat, fun v h' tk' hv hk => ?_⟩
  obtain ⟨t, rfl⟩ := hat _ v hv
  rw [sizeA p]
  exact H t h' tk' (offI hI k₁ hk)
theorem neLs {a b : Addr} {ns ms : List Int} {Q : Value → Shared → Prop} (hl : LI h a ns) (hl' : LI h b ms) (hu : A.units + 64 < cLine) (H : Q (.bool (!decide (ns = ms))) (St s h tk)) : wpAny (model P0 w) A (compareOp .NotEq (.ref a) (.ref b)) Q E (St s h tk) := by
  obtain ⟨vs, hl, p⟩ := hl
  obtain ⟨us, hl', p'⟩ := hl'
  exact ne_intsK (s := St s h tk) hl.isList (ints_of p) hl'.isList (ints_of p') hu H
end
end Mine
end

section
-- F_turn
open PySem PySem.W PyProof.Rows PySem.Spec PySem.Calls
set_option maxRecDepth 100000
set_option maxHeartbeats 1000000
namespace Mine
def moreL (ns : List Nat) : List Nat := ns.map fun n => n + min n 1
def rimL (ns : List Nat) : List Nat := mailL (moreL ns) [124]
def outL (y : List Nat) : List Int := (Txt.split (T y) (T [124])).dropLast.map fun x => ((x.length : Nat) : Int)
/-- all that a turn asks of the plain law -/
structure TurnOk (ns e : List Nat) (ps : List (List Nat × List Nat)) (y : List Nat) : Prop where
  len : ns.length ≤ 8
  dots : ∀ n ∈ ns, n ≤ 8
  elen : e.length ≤ 2
  quote : f1 true (f2 (mailL ns e)) = mailL (moreL ns) [13, 10]
  rim : repl [13, 10] [124] (mailL (moreL ns) [13, 10]) = rimL ns
  plen : ps.length ≤ 8
  pok : ∀ a ∈ ps, a.1 ≠ [] ∧ a.2.length ≤ a.1.length ∧ a.2.length ≤ 4
  nil : replAll ps [] = []
  worn : ∃ (Inv : List Nat → Prop) (mu : List Nat → Nat), Inv (rimL ns) ∧ (∀ y, Inv y → y.length ≤ 1000) ∧ (∀ y, Inv y → Inv (replAll ps y) ∧ (replAll ps y ≠ y → mu (replAll ps y) < mu y)) ∧ ∀ z, Inv z → replAll ps z = z → z = y
  colour : ∃ b0 b1 b2 l0 l1 l2 c0 c1 c2, boxesF (rimL ns) = [b0, b1, b2] ∧ boxesF y = [l0, l1, l2] ∧ colF b0 b1 b2 = some (c0, c1, c2) ∧ colF l0 l1 l2 = some (c0, c1, c2) ∧ [c0, c1, c2] = [b0, b1, b2].map (· - minL [b0, b1, b2]) ∧
    y = coreF (rimL ns).length ns.length c0 c1 c2 ∧ [l0, l1, l2].sum = sizeF c0 c1 c2 ∧ (-1000 < c0 ∧ c0 < 1000) ∧ (-1000 < c1 ∧ c1 < 1000) ∧ (-1000 < c2 ∧ c2 < 1000)
  ylen : y.length ≤ 1000
theorem mail_len : ∀ (ns e : List Nat), (∀ n ∈ ns, n ≤ 9) → e.length ≤ 2 → (mailL ns e).length ≤ 11 * ns.length
  | [], e, _, _ => Nat.le_refl _
  | n :: r, e, h, he => by
    have ih := mail_len r e (fun m hm => h m (.tail _ hm)) he
    have h0 := h n (.head _)
    show (List.replicate n 46 ++ e ++ mailL r e).length ≤ _
    rw [List.length_append, List.length_append, List.length_replicate, List.length_cons]
    omega
theorem more_le {ns : List Nat} (h : ∀ n ∈ ns, n ≤ 8) : ∀ n ∈ moreL ns, n ≤ 9 := fun n hn => by
  obtain ⟨m, hm, rfl⟩ := List.mem_map.mp hn
  have := h m hm
  show m + min m 1 ≤ 9
  omega
theorem split_pos (x y : Str) : 1 ≤ (Txt.split x y).length := by
  unfold Txt.split
  split
  · exact Nat.le_refl _
  · split
    · exact Nat.le_refl _
    · rw [length_partsBetween]; omega
theorem pick_last (vs : List Value) (h : 1 ≤ vs.length) : slicePick vs.toArray none (some (-1)) none = vs.dropLast.toArray := by
  have e : sliceBounds none (some (-1)) none vs.toArray.size = sliceBounds none (some ((vs.length - 1 : Nat) : Int)) none vs.toArray.size := by
    rw [List.size_toArray]
    unfold sliceBounds
    simp only [Option.getD_none]
    rw [if_pos (by decide : (-1 : Int) < 0), if_neg (by omega : ¬ (((vs.length - 1 : Nat) : Int) < 0))]
    have : ((vs.length - 1 : Nat) : Int) = -1 + (vs.length : Int) := by omega
    rw [this]
  have := slicePick_upto vs.toArray (vs.length - 1) (by rw [List.size_toArray]; omega)
  unfold slicePick at this ⊢
  rw [e, this]
  simp [List.dropLast_eq_take]
theorem paired_dropLast {α β : Type} {R : α → β → Prop} : ∀ {vs : List α} {as : List β}, Paired R vs as → Paired R vs.dropLast as.dropLast
  | _, _, .nil => .nil
  | _, _, .cons r .nil => .nil
  | _, _, .cons r (.cons r' t) => .cons r (paired_dropLast (.cons r' t))
theorem paired_strs : ∀ l : List (Str × Tok), Paired isS (strValues l) (l.map (·.1))
  | [] => .nil
  | (x, t) :: r => .cons ⟨t, rfl⟩ (paired_strs r)
theorem c_turn {w : World} {A : Around} {s : Shared} {h : Heap} {tk : Nat} {l lp : Addr} {ns e y : List Nat} {ps : List (List Nat × List Nat)} {te : Tok} (g : Gd w h) (r : Rm A 21) (hl : LI h l (ns.map Int.ofNat)) (hlp : LT h lp (flatP ps)) (ok : TurnOk ns e ps y) :
    Qs w A (call (.ref 125) [.ref l, .str (T e) te, .ref lp]) s h tk (fun v h' => ∃ l', v = .ref l' ∧ h.get? l' = none ∧ LI h' l' (outL y)) := by
  refine' enterC (binds := [(Str.ofString "runs", .ref l), (Str.ofString "end", .str (T e) te), (Str.ofString "pairs", .ref lp)]) g r ?ho ?hcd ?hb ?hkind ?hnd ?hco ?hgen ?hk ?_
  case ho => k_is
  case hcd => k_is
  case hb => exact rfl
  case hkind => exact rfl
  case hnd => decide
  case hco => exact rfl
  case hgen => exact rfl
  case hk => exact rfl
  intro A' L h₁ tk₁ cells r' F N C G
  obtain ⟨oc, rfl, hoc⟩ := CellsAre.one (n := Str.ofString "boxes") (c := L + 1) C
  have hu : A'.units + 64 < cLine := by have := r'.un; omega
  have hlen := ok.len
  have hmail := mail_len ns e (fun n hn => Nat.le_succ_of_le (ok.dots n hn)) ok.elen
  refine wpAny_execs_cons (wpAny_Assign_Name (callO G (by k_is) (by k_is) (args_cons (callO G (by k_is) (by k_is) (args_cons (nmL F.ns (by rfl) (args_cons (nmL F.ns (by rfl) (args_nil ⟨G, ?_⟩)))))))))
  refine (c_mail G (r'.le (by decide)) (hl.keeps F.keep) ok.len (fun n hn => Nat.le_succ_of_le (ok.dots n hn)) ok.elen).use fun v h₂ tk₂ k₂ ⟨t₁, e₂⟩ => ?_
  subst e₂
  refine args_nil ⟨G.keeps k₂, ?_⟩
  refine (c_quote (G.keeps k₂) (r'.le (by decide)) (by omega)).use fun v h₃ tk₃ k₃ ⟨t₂, e₃⟩ => ?_
  subst e₃
  rw [ok.quote]
  refine stL ((F.keeps k₂).keeps k₃) ((N.grown k₂).grown k₃) fun h₄ tk₄ F₄ N₄ _ => ?_
  have G₄ := g.keeps F₄.keep
  -- the first test
  refine wpAny_execs_cons (wpAny_If (wpAny_isTrue_Compare1 (nmL F₄.ns (by rfl) (callO G₄ (by k_is) (by k_is) (args_cons ?_)))))
  obtain ⟨vs, hl₄, p⟩ := hl.keeps F₄.keep
  refine lcomp (R := isI) (S := isI) (f := fun n : Int => n + if 1 < n then 1 else n) isI.det (by with_unfolding_all rfl) (by decide) (by rfl) (by decide) (by rfl) (nmL F₄.ns (by rfl) ?_)
  have sr := LO.src (w := w) (s := s) (tk := tk₄) r'.hh hl₄ p
  refine ⟨h₄, tk₄, ns.map Int.ofNat, _, rfl, sr.1, by rw [List.length_map, show sizeLine = 16777216 from rfl]; omega, sr.2, ?_, ?_⟩
  · intro C i v a s₃ h₃ tk₃ m₃ ha hr hm₃ hm hk
    obtain ⟨t, rfl⟩ := hr
    refine wpAny_BinOp (nmL hm₃ hm (callB (G₄.keeps hk) (by k_is) (by boot_fast) (args_cons (nmL hm₃ hm (args_cons (cI fun t₃ tk₅ => args_nil (min2 r'.hh fun t₄ h₅ tk₆ k₅ => bAdd fun t₅ tk₇ => ?_)))))))
    exact ⟨h₅, tk₇, rfl, k₅, t₅, rfl⟩
  intro D h₅ tk₅ ys hD hlD pD k₅
  refine args_cons (cT (xs := [13, 10]) rfl fun t₃ tk₆ => args_nil ⟨G₄.keeps k₅, ?_⟩)
  have hmo : (ns.map Int.ofNat).map (fun n : Int => n + if 1 < n then 1 else n) = (moreL ns).map Int.ofNat := by
    unfold moreL
    rw [List.map_map, List.map_map]
    refine List.map_congr_left fun n _ => ?_
    show (n : Int) + (if 1 < (n : Int) then 1 else (n : Int)) = ((n + min n 1 : Nat) : Int)
    split <;> omega
  rw [hmo] at pD
  refine (c_mail (G₄.keeps k₅) (r'.le (by decide)) ⟨ys, hlD, pD⟩ (by unfold moreL; rw [List.length_map]; exact ok.len) (more_le ok.dots) (by decide)).use fun v h₆ tk₇ k₆ ⟨t₄, e₆⟩ => ?_
  subst e₆
  refine PySem.P.ne_str (s := St s h₆ tk₇) (wpAny_truthy_bool ?_)
  rw [neT, decide_eq_false (by simp)]
  show wpAny (model P0 w) A' (execs [] _) _ _ (St s h₆ tk₇)
  refine wpAny_execs_nil ?_
  have F₆ := (F₄.keeps k₅).keeps k₆
  have N₆ := (N₄.grown k₅).grown k₆
  have G₆ := g.keeps F₆.keep
  -- rim
  refine wpAny_execs_cons (wpAny_Assign_Name (callO G₆ (by k_is) (by k_is) (args_cons (nmL F₆.ns (by rfl) (args_cons (cT (xs := [13, 10]) rfl fun t₅ tk₈ => args_cons (cT (xs := [124]) rfl fun t₆ tk₉ => args_nil ⟨G₆, ?_⟩)))))))
  have hm2 := mail_len (moreL ns) [13, 10] (more_le ok.dots) (by decide)
  have hml : (moreL ns).length ≤ 8 := by unfold moreL; rw [List.length_map]; exact ok.len
  refine (c_replace (ps := [([13, 10], [124])]) G₆ (r'.le (by decide)) (.cons ⟨t₅, rfl⟩ (.cons ⟨t₆, rfl⟩ .nil)) (by decide) (by omega) (by decide)).use fun v h₇ tk₁₀ k₇ ⟨t₇, e₇⟩ => ?_
  subst e₇
  rw [show replAll [([13, 10], [124])] (mailL (moreL ns) [13, 10]) = rimL ns from ok.rim]
  refine stL (F₆.keeps k₇) (N₆.grown k₇) fun h₈ tk₁₁ F₈ N₈ _ => ?_
  have G₈ := g.keeps F₈.keep
  -- worn
  obtain ⟨Inv, mu, hI0, hIl, hIs, hIe⟩ := ok.worn
  refine wpAny_execs_cons (wpAny_Assign_Name (callO G₈ (by k_is) (by k_is) (args_cons (nmL F₈.ns (by rfl) (args_cons (nmL F₈.ns (by rfl) (args_nil ⟨G₈, ?_⟩)))))))
  refine (c_worn G₈ (r'.le (by decide)) (hlp.keeps F₈.keep) ok.plen ok.pok Inv mu ok.nil hI0 hIl hIs).use fun v h₉ tk₁₂ k₉ ⟨z, ⟨t₈, e₉⟩, hz, hze⟩ => ?_
  subst e₉
  obtain rfl := hIe z hz hze
  refine stL (F₈.keeps k₉) (N₈.grown k₉) fun h₁₀ tk₁₃ F₁₀ N₁₀ _ => ?_
  have G₁₀ := g.keeps F₁₀.keep
  obtain ⟨b0, b1, b2, l0, l1, l2, c0, c1, c2, hB, hLf, hc1, hc2, hmin, hcore, hsize, hb0, hb1, hb2⟩ := ok.colour
  -- boxes, into its cell
  have hrl : (rimL ns).length ≤ 1000 := by
    have := mail_len (moreL ns) [124] (more_le ok.dots) (by decide)
    unfold rimL; omega
  refine wpAny_execs_cons (wpAny_Assign_Name (callO G₁₀ (by k_is) (by k_is) (args_cons (nmL F₁₀.ns (by rfl) (args_nil ⟨G₁₀, ?_⟩)))))
  refine (c_boxes G₁₀ (r'.le (by decide)) hrl).use fun v h₁₁ tk₁₄ k₁₁ ⟨lb, e₁₁, hnb, vb, ⟨ob, eb, cb, nb, db⟩, pb⟩ => ?_
  subst e₁₁
  rw [hB] at pb
  have hbc : lb ≠ L + 1 := fun e => by have := N₁₀.get (.head _); rw [← e, hnb] at this; cases this
  have N₁₁ : News h L h₁₁ [(L + 1, oc), (lb, ob)] := fun p hp => addN F₁₀ N₁₀ k₁₁ hnb eb p (by
    rcases List.mem_cons.mp hp with rfl | hp
    · exact .tail _ (.head _)
    · rw [List.mem_singleton.mp hp]; exact .head _)
  refine stC (c := L + 1) (F₁₀.keeps k₁₁) N₁₁ (fun p hp => by rw [List.mem_singleton.mp hp]; exact hbc) (by rfl) hoc fun h₁₂ oc₂ F₁₂ N₁₂ hoc₂ _ => ?_
  have G₁₂ := g.keeps F₁₂.keep
  -- left
  refine wpAny_execs_cons (wpAny_Assign_Name (callO G₁₂ (by k_is) (by k_is) (args_cons (nmL F₁₂.ns (by rfl) (args_nil ⟨G₁₂, ?_⟩)))))
  refine (c_boxes G₁₂ (r'.le (by decide)) ok.ylen).use fun v h₁₃ tk₁₅ k₁₃ ⟨ll, e₁₃, hnl, vl, ⟨ol, el, cl, nl, dl⟩, pl⟩ => ?_
  subst e₁₃
  rw [hLf] at pl
  refine stL (F₁₂.keeps k₁₃) (addN F₁₂ N₁₂ k₁₃ hnl el) fun h₁₄ tk₁₆ F₁₄ N₁₄ _ => ?_
  have G₁₄ := g.keeps F₁₄.keep
  have hcell₁₄ : h₁₄.IsCell (L + 1) (some (.ref lb)) := ⟨oc₂, N₁₄.get (.tail _ (.head _)), hoc₂⟩
  have hlb₁₄ : LI h₁₄ lb [b0, b1, b2] := ⟨vb, ⟨ob, N₁₄.get (.tail _ (.tail _ (.head _))), cb, nb, db⟩, pb⟩
  -- colour
  refine wpAny_execs_cons (wpAny_Assign_Name (callO G₁₄ (by k_is) (by k_is) (args_cons (nmC (c := L + 1) (by rfl) hcell₁₄ (args_nil ⟨G₁₄, ?_⟩)))))
  refine (c_colour G₁₄ (r'.le (by decide)) hlb₁₄ hc1).use fun v h₁₅ tk₁₇ k₁₅ ⟨lc, e₁₅, hnc, vc, ⟨o3, e3, c3, n3, d3⟩, pc⟩ => ?_
  subst e₁₅
  refine stL (F₁₄.keeps k₁₅) (addN F₁₄ N₁₄ k₁₅ hnc e3) fun h₁₆ tk₁₈ F₁₆ N₁₆ _ => ?_
  have G₁₆ := g.keeps F₁₆.keep
  have hlc : LI h₁₆ lc [c0, c1, c2] := ⟨vc, ⟨o3, N₁₆.get (.head _), c3, n3, d3⟩, pc⟩
  have hll : LI h₁₆ ll [l0, l1, l2] := ⟨vl, ⟨ol, N₁₆.get (.tail _ (.head _)), cl, nl, dl⟩, pl⟩
  have hcell : h₁₆.IsCell (L + 1) (some (.ref lb)) := ⟨oc₂, N₁₆.get (.tail _ (.tail _ (.head _))), hoc₂⟩
  have hlbO : LO h₁₆ lb vb := ⟨ob, N₁₆.get (.tail _ (.tail _ (.tail _ (.head _)))), cb, nb, db⟩
  -- the second test
  refine wpAny_execs_cons (wpAny_If (wpAny_isTrue_BoolOp (wpAny_allTrue_Or_cons (wpAny_isTrue_Compare1 (nmL F₁₆.ns (by rfl) ?_)))))
  refine lcomp (R := isI) (S := isI) (f := fun n : Int => n - minL [b0, b1, b2]) isI.det (by with_unfolding_all rfl) (by decide) (by rfl) (by decide) (by rfl) (nmC (c := L + 1) (by rfl) hcell ?_)
  have sr := LO.src (w := w) (s := s) (tk := tk₁₈) r'.hh hlbO pb
  refine ⟨h₁₆, tk₁₈, [b0, b1, b2], _, rfl, sr.1, by show 3 ≤ sizeLine; decide, sr.2, ?_, ?_⟩
  · intro C i v a s₃ h₃ tk₃ m₃ ha hr hm₃ hm hk
    obtain ⟨t, rfl⟩ := hr
    have hcell₃ : h₃.IsCell (L + 1) (some (.ref lb)) := let ⟨o, e, d⟩ := hcell; ⟨o, hk _ _ e, d⟩
    refine wpAny_BinOp (nmL hm₃ hm (callB (G₁₆.keeps hk) (by k_is) (by boot_fast) (args_cons (nmC (c := L + 1) (by rfl) hcell₃ (args_nil (minLs r'.hh (LI.keeps ⟨vb, hlbO, pb⟩ hk) (by show 0 < 3; decide) fun t₉ h₄ tk₄ k₄ => bSub fun t₁₀ tk₅ => ?_))))))
    exact ⟨h₄, tk₅, rfl, k₄, t₁₀, rfl⟩
  intro D h₁₇ tk₁₉ ys hD hlD pD k₁₇
  rw [← hmin] at pD
  refine neLs (hlc.keeps k₁₇) ⟨ys, hlD, pD⟩ hu (wpAny_truthy_bool ?_)
  rw [decide_eq_true rfl]
  show wpAny (model P0 w) A' (allTrue _ _ _) _ _ (St s h₁₇ tk₁₉)
  have F₁₇ := F₁₆.keeps k₁₇
  have N₁₇ := N₁₆.grown k₁₇
  have G₁₇ := g.keeps F₁₇.keep
  refine wpAny_allTrue_Or_cons (wpAny_isTrue_Compare1 (nmL F₁₇.ns (by rfl) (callO G₁₇ (by k_is) (by k_is) (args_cons (nmL F₁₇.ns (by rfl) (args_nil ⟨G₁₇, ?_⟩))))))
  refine (c_colour G₁₇ (r'.le (by decide)) (hll.keeps k₁₇) hc2).use fun v h₁₈ tk₂₀ k₁₈ ⟨ld, e₁₈, hnd, hld⟩ => ?_
  subst e₁₈
  refine neLs ((hlc.keeps k₁₇).keeps k₁₈) hld hu (wpAny_truthy_bool ?_)
  rw [decide_eq_true rfl]
  show wpAny (model P0 w) A' (allTrue _ [] _) _ _ (St s h₁₈ tk₂₀)
  refine wpAny_allTrue_Or_nil ?_
  show wpAny (model P0 w) A' (execs [] _) _ _ (St s h₁₈ tk₂₀)
  refine wpAny_execs_nil ?_
  have F₁₈ := F₁₇.keeps k₁₈
  have N₁₈ := N₁₇.grown k₁₈
  have G₁₈ := g.keeps F₁₈.keep
  have hlc₁₈ := (hlc.keeps k₁₇).keeps k₁₈
  have hll₁₈ := (hll.keeps k₁₇).keeps k₁₈
  obtain ⟨vr, hlr, pr⟩ := hl.keeps F₁₈.keep
  have hvr : vr.length = ns.length := by rw [pr.length, List.length_map]
  -- the third test
  refine wpAny_execs_cons (wpAny_If (wpAny_isTrue_BoolOp (wpAny_allTrue_Or_cons (wpAny_isTrue_Compare1 (nmL F₁₈.ns (by rfl) (callO G₁₈ (by k_is) (by k_is) (args_cons ?_)))))))
  refine callB G₁₈ (by k_is) (by boot_fast) (args_cons (nmL F₁₈.ns (by rfl) (args_nil (lenS (by rw [T_length]; omega) fun t₁₁ tk₂₁ => args_cons ?_))))
  refine callB G₁₈ (by k_is) (by boot_fast) (args_cons (nmL F₁₈.ns (by rfl) (args_nil (lenL hlr (by omega) fun t₁₂ tk₂₂ => args_cons (nmL F₁₈.ns (by rfl) (args_nil ⟨G₁₈, ?_⟩))))))
  rw [T_length, hvr]
  refine (c_core G₁₈ (r'.le (by decide)) hlc₁₈ hrl (by omega)).use fun v h₁₉ tk₂₃ k₁₉ ⟨t₁₃, e₁₉⟩ => ?_
  subst e₁₉
  refine PySem.P.ne_str (s := St s h₁₉ tk₂₃) (wpAny_truthy_bool ?_)
  rw [neT, decide_eq_false (by rw [← hcore]; simp)]
  show wpAny (model P0 w) A' (allTrue _ _ _) _ _ (St s h₁₉ tk₂₃)
  have F₁₉ := F₁₈.keeps k₁₉
  have G₁₉ := g.keeps F₁₉.keep
  refine wpAny_allTrue_Or_cons (wpAny_isTrue_Compare1 (callB G₁₉ (by k_is) (by boot_fast) (args_cons (nmL F₁₉.ns (by rfl) (args_nil (sumL r'.hh (hll₁₈.keeps k₁₉) fun t₁₄ h₂₀ tk₂₄ k₂₀ => ?_))))))
  have F₂₀ := F₁₉.keeps k₂₀
  have G₂₀ := g.keeps F₂₀.keep
  refine callO G₂₀ (by k_is) (by k_is) (args_cons (nmL F₂₀.ns (by rfl) (args_nil ⟨G₂₀, ?_⟩)))
  refine (c_size G₂₀ (r'.le (by decide)) ((hlc₁₈.keeps k₁₉).keeps k₂₀) hb0 hb1 hb2).use fun v h₂₁ tk₂₅ k₂₁ ⟨t₁₅, e₂₁⟩ => ?_
  subst e₂₁
  refine PyProof.Rows.ne_int (wpAny_truthy_bool ?_)
  rw [show ([l0, l1, l2].sum != sizeF c0 c1 c2) = false by rw [hsize]; simp]
  show wpAny (model P0 w) A' (allTrue _ [] _) _ _ (St s h₂₁ tk₂₅)
  refine wpAny_allTrue_Or_nil ?_
  show wpAny (model P0 w) A' (execs [] _) _ _ (St s h₂₁ tk₂₅)
  refine wpAny_execs_nil ?_
  have F₂₁ := F₂₀.keeps k₂₁
  have G₂₁ := g.keeps F₂₁.keep
  -- the end
  refine wpAny_execs_cons (wpAny_Return_some ?_)
  refine lcomp (R := isS) (S := isI) (f := fun x : Str => ((x.length : Nat) : Int)) isS.det (by with_unfolding_all rfl) (by decide) (by rfl) (by decide) (by rfl) ?_
  refine Subscript_ (MethodCall_ (nmL F₂₁.ns (by rfl) (GM.split (callWith_method1 (args_cons (cT (xs := [124]) rfl fun t₁₆ tk₂₆ => args_nil ?_))))))
  refine splitT (by rfl) (by rw [T_length]; have := ok.ylen; omega) fun D l h₂₂ tk₂₇ el k₂₂ hlD => ?_
  refine wpAny_Slice ?_
  rw [evalPart_none, evalPart_some]
  refine wpAny_pure (wpAny_UnaryOp (cI fun t₁₇ tk₂₈ => PyProof.Rows.neg_int (wpAny_pure ?_)))
  have hvl : (strValues l).length = (Txt.split (T z) (T [124])).length := by rw [(paired_strs l).length, el]
  have hsl := split_len [124] z
  have hyl := ok.ylen
  have h1l : 1 ≤ (Txt.split (T z) (T [124])).length := split_pos _ _
  have hle : (Txt.split (T z) (T [124])).length ≤ z.length + 1 := by
    have : ([124] : List Nat).length = 1 := rfl
    rw [this] at hsl; omega
  refine kba_turn (value' := .Name (Str.ofString "x") ⟨0, 0, 0, 0⟩) (fun _ => rfl) ?_
  refine slice_list (s := St s h₂₂ (tk₂₈ + 1)) (F₂₁.keeps k₂₂) (News.nil) hlD .none (.int _ _) (fun h₂₃ F₂₃ N₂₃ => ?_) (by with_unfolding_all rfl) (by intro _; rfl) (by rw [List.size_toArray, show sizeLine = 16777216 from rfl]; omega)
  rw [pick_last _ (by omega)] at N₂₃
  have pS := paired_dropLast (paired_strs l)
  rw [el] at pS
  have hL₂₃ : LO h₂₃ (h₂₂.objs.size + 1) (strValues l).dropLast := ⟨_, N₂₃.get (.head _), rfl, 0, rfl⟩
  have G₂₃ := g.keeps F₂₃.keep
  have sr := LO.src (w := w) (s := s) (tk := tk₂₈ + 1) r'.hh hL₂₃ pS
  refine ⟨h₂₃, tk₂₈ + 1, _, _, rfl, sr.1, ?_, sr.2, ?_, ?_⟩
  · rw [List.length_dropLast, show sizeLine = 16777216 from rfl]; omega
  · intro C i v a s₃ h₃ tk₃ m₃ ha hr hm₃ hm hk
    obtain ⟨t, rfl⟩ := hr
    have ha' : a.length ≤ 1000 := Nat.le_trans (part_le (List.dropLast_subset _ (List.mem_of_getElem? ha))) (by omega)
    refine callB (G₂₃.keeps hk) (by k_is) (by boot_fast) (args_cons (nmL hm₃ hm (args_nil (lenS (by omega) fun t₁₈ tk₂₉ => ?_))))
    exact ⟨h₃, tk₂₉, rfl, Kp.refl _, t₁₈, rfl⟩
  · intro D₂ h₂₄ tk₂₉ ys hD₂ hlD₂ pD₂ k₂₄
    exact ⟨h₂₄, tk₂₉, rfl, Kp.trans F₂₃.keep k₂₄, D₂, rfl, Kp.none F₂₃.keep hD₂, ys, hlD₂, pD₂⟩
end Mine
end

section
-- B8
open PySem PySem.W PyProof.Rows PySem.Spec PySem.Calls
set_option maxRecDepth 100000
namespace Mine
section
variable {w : World} {A : Around} {s : Shared} {h : Heap} {tk : Nat} {env : Env} {E : Value → Shared → Prop}
/-- what can be walked by pairs: n of them, the i-th as P says -/
def SrcP (w : World) (A : Around) (xv : Value) (s : Shared) (hb h : Heap) (tk : Nat) (n : Nat) (P : Nat → Value → Value → Prop) : Prop :=
  ∀ (Q : Value → Shared → Prop) (E : Value → Shared → Prop),
    (∀ I fp wr Ts Mid h₁, Kp hb h₁ → (∀ b ∈ wr, hb.get? b = none) → (∀ b ∈ fp, b < h₁.objs.size) → WalksU P0 w A I fp wr n (fun i vals => ∃ a b, vals = #[a, b] ∧ P i a b) Ts Mid → Ts 0 h₁ → Q (.ref I) (St s h₁ tk)) →
      wpAny (model P0 w) A (pyIter xv) Q E (St s h tk)
/-- the block of a list comprehension over two names, no test, its elements quiet -/
theorem pairBlock {elt iter : Expr} {x x₂ : Str} {px px₂ tp : Pos} {kt : Nat} {scope : Scope} {cl : List (Str × Addr)} {pos : Pos} {I : Addr} {fp wr : List Addr} {n : Nat} {P : Nat → Value → Value → Prop} {Ts : Nat → Heap → Prop} {Mid : Nat → Addr → Heap → Prop}
    {h₁ : Heap} {RR : Value → Addr → Result → Shared → Prop} (hh : A.handled = none)
    (W : WalksU P0 w A I fp wr n (fun i vals => ∃ a b, vals = #[a, b] ∧ P i a b) Ts Mid) (hsz : n ≤ sizeLine) (F : Nat → Value → Prop)
    (hcell : ∀ y ∈ scope.names, y.2 ≠ .cell) (hkind : scope.kind = .function) (hx : scope.names.lookup x = some .local) (hx₂ : scope.names.lookup x₂ = some .local) (hxx : x ≠ x₂) (hst : Ts 0 h₁) (hfp : ∀ b ∈ fp, b < h₁.objs.size)
    (helt : ∀ (C : Addr) (i : Nat) (a b : Value) (s₃ : Shared) (h₃ : Heap) (tk₃ : Nat) (m₃ : Str → Option Value), i < n → P i a b → h₃.Ns C m₃ → m₃ x = some a → m₃ x₂ = some b → (∀ b o, b ∉ wr → h₁.get? b = some o → h₃.get? b = some o) →
      Qs w A (eval elt (compEnvC scope cl C env)) s₃ h₃ tk₃ (fun y _ => F i y))
    (hRR : ∀ (D C : Addr) (h' : Heap) (tk' : Nat) (m' : Str → Option Value) (ys : List Value), h₁.get? D = none → h₁.get? C = none → D ≠ C → h'.Ns C m' → LO h' D ys → ys.length = n → (∀ i y, ys[i]? = some y → F i y) →
      (∀ b o, b ∉ wr → h₁.get? b = some o → h'.get? b = some o) → RR (.ref D) C (.ok .next) (St s h' tk')) :
    wpAny (model P0 w) A (newList []) (fun acc s₃ => wpAny (model P0 w) A (newFunctionEnv scope env.globals cl [] env.qual none .none (some env)) (fun cenv s₄ =>
      codeAny (model P0 w) A (.compStart (.ListComp elt [⟨.Tuple [.Name x px, .Name x₂ px₂] kt tp, iter, [], 0⟩] scope pos) 0 (.ref I) acc { cenv with scope := relabel scope env }) (RR acc cenv.locals) s₄) E s₃) E (St s h₁ tk) := by
  refine wpAny_newObj_type (s := St s h₁ tk) (wpAny_newFunctionEnv hcell (by intro y hy; simp at hy) (fun h₂ hns₂ hsb₂ => ?_) hkind)
  dsimp only at hns₂ hsb₂ ⊢
  generalize hH2 : (St s h₁ tk).heap.push { cls := .type "list", dict := none, data := .seq ([] : List Value).toArray } = H2 at hns₂ hsb₂ ⊢
  have hC : H2.objs.size = h₁.objs.size + 1 := by rw [← hH2, Heap.size_push]; rfl
  show codeAny _ _ (.compStart _ 0 (.ref I) (.ref h₁.objs.size) _) (RR (.ref h₁.objs.size) H2.objs.size) _
  have hDC : h₁.objs.size ≠ H2.objs.size := by rw [hC]; exact Nat.ne_of_lt (Nat.lt_succ_self _)
  have below : ∀ b, b < h₁.objs.size → b ≠ H2.objs.size ∧ b ≠ h₁.objs.size := fun b hb => ⟨by rw [hC]; exact Nat.ne_of_lt (Nat.lt_succ_of_lt hb), Nat.ne_of_lt hb⟩
  have hDf : h₁.objs.size ∉ fp := fun hm => Nat.lt_irrefl _ (hfp _ hm)
  have hCf : H2.objs.size ∉ fp := fun hm => by have := hfp _ hm; rw [hC] at this; exact Nat.lt_irrefl _ (Nat.lt_of_succ_lt this)
  have hDw : h₁.objs.size ∉ wr := fun hm => hDf (W.sub _ hm)
  have hCw : H2.objs.size ∉ wr := fun hm => hCf (W.sub _ hm)
  have old : ∀ b o, h₁.get? b = some o → h₂.get? b = some o := fun b o e => hsb₂.extBut b o (below b (Heap.lt_size e)).1 (Heap.get?_push_of_some _ (hH2 ▸ Heap.get?_push_of_some _ e))
  have hacc : h₂.PlainList h₁.objs.size #[] := ⟨_, hsb₂.extBut _ _ hDC (Heap.get?_push_of_some _ (hH2 ▸ Heap.get?_push_size _ rfl))⟩
  have hst₂ : Ts 0 h₂ := W.frame _ _ _ hst fun b _ o e => old b o e
  have loop : ∀ s₃ : Shared, s₃ = St s h₂ (tk + ([] : List (Str × Value)).length) →
      codeAny (model P0 w) A (.compLoop (.ListComp elt [⟨.Tuple [.Name x px, .Name x₂ px₂] kt tp, iter, [], 0⟩] scope pos) 0 (.ref I) (.ref h₁.objs.size) (compEnvC scope cl H2.objs.size env))
        (RR (.ref h₁.objs.size) H2.objs.size) s₃ := by
    rintro s₃ rfl
    refine LCp.codeAny_compLoop_pair
      (fun k s' => ∃ h' tk' i ys m', s' = St s h' tk' ∧ i ≤ n ∧ k = n + 1 - i ∧ Array.size ys = i ∧ (∀ (j : Nat) (y : Value), ys[j]? = some y → F j y) ∧ Ts i h' ∧ h'.Ns H2.objs.size m' ∧ h'.PlainList h₁.objs.size ys ∧
        (∀ b o, b ∉ wr → h₁.get? b = some o → h'.get? b = some o)) ?_ (n + 1)
      ⟨h₂, _, 0, #[], _, rfl, Nat.zero_le _, rfl, rfl, fun j y e => by simp at e, hst₂, hns₂, hacc, fun b o _ e => old b o e⟩
    rintro k s' ⟨h', tk', i, ys, m', rfl, hi, rfl, hyl, hF, hst', hn', hl', hk'⟩
    by_cases hlt : i < n
    · refine W.item i (St s h' tk') _ _ hlt hst' fun Tp vals h₃ tk₃ hP hT hmid hk₃ => ?_
      obtain ⟨a, b, rfl, hP⟩ := hP
      refine W.go _ _ _ i Tp (St s h₃ tk₃) _ _ hmid fun h₄ hst₄ hk₄ => ?_
      have hT₄ : IsTup h₄ Tp #[a, b] := let ⟨o, e, r⟩ := hT; ⟨o, hk₄ _ o (W.apart i Tp _ hmid) e, r⟩
      refine assign_Tuple_tuple (s := St s h₄ tk₃) hh hT₄ rfl rfl fun h₅ he => ?_
      have he' : ∀ b o, h₄.get? b = some o → h₅.get? b = some o := fun b o e => he b o (Nat.ne_of_lt (Heap.lt_size e)) e
      have up₅ : ∀ b o, b ∉ wr → h'.get? b = some o → h₅.get? b = some o := fun b o hb e => he' b o (hk₄ b o hb (hk₃ b o hb e))
      refine assignInOrder_cons (wpAny_assign_Name (wpAny_storeName_local (lookup_relabel_local hx) (hn'.at' fun o e => up₅ _ o hCw e) (fun h₆ hn₆ hs₆ => ?_) (by simp [compEnvC, relabel, hkind])))
      refine assignInOrder_cons (wpAny_assign_Name (wpAny_storeName_local (lookup_relabel_local hx₂) hn₆ (fun h₇ hn₇ hs₇ => ?_) (by simp [compEnvC, relabel, hkind])))
      refine assignInOrder_nil ?_
      have up₇ : ∀ b o, b ≠ H2.objs.size → h₅.get? b = some o → h₇.get? b = some o := fun b o hb e => hs₇.extBut b o hb (hs₆.extBut b o hb e)
      have hst₇ : Ts (i + 1) h₇ := W.frame _ _ _ hst₄ fun b hb o e => up₇ b o (fun q => hCf (q ▸ hb)) (he' b o e)
      have kp₇ : ∀ b o, b ∉ wr → h₁.get? b = some o → h₇.get? b = some o := fun b o hb e => up₇ b o (below b (Heap.lt_size e)).1 (up₅ b o hb (hk' b o hb e))
      refine noE (wpAny_mono (helt H2.objs.size i a b s h₇ _ _ hlt hP hn₇ (by simp [hxx]) (by simp) kp₇) (fun y s₈ h₈ => ?_) fun _ _ e => e)
      obtain ⟨h₈, tk₈, rfl, k₈, hFy⟩ := h₈
      have hl₈ : h₈.PlainList h₁.objs.size ys := hl'.at fun o e => k₈ _ o (up₇ _ o hDC (up₅ _ o hDw e))
      refine wpAny_list_append_plain (s := St s h₈ tk₈) hl₈ (fun h₉ hl₉ hs₉ => ?_) (by rw [hyl]; exact Nat.le_trans hi hsz)
      refine ⟨n + 1 - (i + 1), by omega, h₉, tk₈, i + 1, ys.push y, _, rfl, hlt, rfl, by rw [Array.size_push, hyl], fun j z e => ?_, W.frame _ _ _ hst₇ fun b hb o e => hs₉.extBut b o (fun q => hDf (q ▸ hb)) (k₈ b o e), (hn₇.keeps k₈).sameBut hs₉ (Ne.symm hDC), hl₉,
        fun b o hb e => hs₉.extBut b o (below b (Heap.lt_size e)).2 (k₈ b o (kp₇ b o hb e))⟩
      rw [Array.getElem?_push] at e
      split at e
      · rename_i q
        cases e
        rw [q, hyl]; exact hFy
      · exact hF j z e
    · obtain rfl : i = n := Nat.le_antisymm hi (Nat.not_lt.mp hlt)
      refine W.done (St s h' tk') _ _ hst' fun h₃ tk₃ hk₃ => ?_
      refine hRR _ _ h₃ tk₃ _ ys.toList (Heap.get?_none_of_le (Nat.le_refl _)) (Heap.get?_none_of_le (by rw [hC]; exact Nat.le_succ _)) hDC (hn'.at' fun o e => hk₃ _ o hCw e) ?_ (by simpa using hyl) (fun j y e => hF j y (by simpa using e)) fun b o hb e => hk₃ b o hb (hk' b o hb e)
      have := (hl'.at fun o e => hk₃ _ o hDw e).isList
      simpa [LO] using this
  exact codeAny_compStart_list (loop _ rfl) (W.self 0 _ _ _ hst₂ (loop _ rfl))
/-- a list comprehension over two names -/
theorem lcompP {elt iter : Expr} {x x₂ : Str} {px px₂ tp : Pos} {kt : Nat} {scope : Scope} {cl : List (Str × Addr)} {pos : Pos} {Q : Value → Shared → Prop} (hh : A.handled = none)
    (hclos : closureFor scope env = pure cl) (hcell : ∀ y ∈ scope.names, y.2 ≠ .cell) (hkind : scope.kind = .function)
    (hnames : ∀ y ∈ scope.names, y.2 = .local → scope.names.lookup y.1 = some .local) (hx : scope.names.lookup x = some .local) (hx₂ : scope.names.lookup x₂ = some .local) (hxx : x ≠ x₂)
    (H : wpAny (model P0 w) A (eval iter env) (fun xv s₁ => ∃ (hb h₁ : Heap) (tk₁ n : Nat) (P : Nat → Value → Value → Prop) (F : Nat → Value → Prop), s₁ = St s h₁ tk₁ ∧ SrcP w A xv s hb h₁ tk₁ n P ∧ n ≤ sizeLine ∧
      (∀ (C : Addr) (i : Nat) (a b : Value) (s₃ : Shared) (h₃ : Heap) (tk₃ : Nat) (m₃ : Str → Option Value), i < n → P i a b → h₃.Ns C m₃ → m₃ x = some a → m₃ x₂ = some b → Kp hb h₃ → Qs w A (eval elt (compEnvC scope cl C env)) s₃ h₃ tk₃ (fun y _ => F i y)) ∧
      (∀ D h' tk' (ys : List Value), hb.get? D = none → LO h' D ys → ys.length = n → (∀ i y, ys[i]? = some y → F i y) → Kp hb h' → Q (.ref D) (St s h' tk'))) E (St s h tk))
    (hs : ∀ x, foldedSetIterable iter env x = pure x := by intro _; rfl) :
    wpAny (model P0 w) A (eval (.ListComp elt [⟨.Tuple [.Name x px, .Name x₂ px₂] kt tp, iter, [], 0⟩] scope pos) env) Q E (St s h tk) := by
  rw [eval_ListComp]
  refine wpAny_comprehension_free (use := none) rfl hs hclos hkind hnames (wpAny_mono H (fun xv s₁ h₁ => ?_) fun _ _ e => e)
  obtain ⟨h₀, h₀', tk₀, n, P, F, rfl, src, hsz, helt, hQ⟩ := h₁
  refine src _ _ fun I fp wr Ts Mid h₁ hk hwr hfp W hst => ?_
  have kk : ∀ {h' : Heap}, (∀ b o, b ∉ wr → h₁.get? b = some o → h'.get? b = some o) → Kp h₀ h' := fun q b o e => q b o (fun hm => by rw [hwr b hm] at e; cases e) (hk b o e)
  refine pairBlock (RR := fun acc C => compPost (model P0 w) A E none Q acc C) hh W hsz F hcell hkind hx hx₂ hxx hst hfp (fun C i a b s₃ h₃ tk₃ m₃ hi hP hn ha hb q => helt C i a b s₃ h₃ tk₃ m₃ hi hP hn ha hb (kk q)) ?_
  intro D C h' tk' m' ys hD hC hDC hn hl hlen hF q
  refine ⟨m', hn, fun h'' hs'' => hQ D h'' tk' ys (hk.none hD) ?_ hlen hF fun b o e => hs''.extBut b o (fun r => ?_) (kk q b o e)⟩
  · have := hl.isList.extBut hs''.extBut hDC
    exact this
  · subst r; have e' := hk _ o e; have hC' : h₁.get? b = none := hC; rw [hC'] at e'; cases e'
/-- the same, kept under a name -/
theorem asgP {h₀ : Heap} {m : Str → Option Value} {news : List (Addr × Obj)} {elt iter : Expr} {x x₂ y : Str} {px px₂ tp py : Pos} {kt : Nat} {scope : Scope} {cl : List (Str × Addr)} {pos spos : Pos} {Q : Flow → Shared → Prop} (hh : A.handled = none)
    (hsw : swapsWith (.ListComp elt [⟨.Tuple [.Name x px, .Name x₂ px₂] kt tp, iter, [], 0⟩] scope pos) (some (.Name y py)) spos.line env = pure true)
    (hclos : closureFor scope env = pure cl) (hcell : ∀ y ∈ scope.names, y.2 ≠ .cell) (hkind : scope.kind = .function)
    (hnames : ∀ y ∈ scope.names, y.2 = .local → scope.names.lookup y.1 = some .local) (hx : scope.names.lookup x = some .local) (hx₂ : scope.names.lookup x₂ = some .local) (hxx : x ≠ x₂)
    (hy : env.kindOf y = some .local) (hp : (env.scope.kind == .class || (env.scope.kind == .module && env.locals != env.globals)) = false)
    (H : wpAny (model P0 w) A (eval iter env) (fun xv s₁ => ∃ (hb h₁ : Heap) (tk₁ n : Nat) (P : Nat → Value → Value → Prop) (F : Nat → Value → Prop), s₁ = St s h₁ tk₁ ∧ SrcP w A xv s hb h₁ tk₁ n P ∧ n ≤ sizeLine ∧ Fr h₀ env.locals hb m ∧ News h₀ env.locals hb news ∧
      (∀ (C : Addr) (i : Nat) (a b : Value) (s₃ : Shared) (h₃ : Heap) (tk₃ : Nat) (m₃ : Str → Option Value), i < n → P i a b → h₃.Ns C m₃ → m₃ x = some a → m₃ x₂ = some b → Kp hb h₃ → Qs w A (eval elt (compEnvC scope cl C env)) s₃ h₃ tk₃ (fun y _ => F i y)) ∧
      (∀ D h' tk' (ys : List Value), hb.get? D = none → D ≠ env.locals → LO h' D ys → ys.length = n → (∀ i y, ys[i]? = some y → F i y) → Fr h₀ env.locals h' (fun z => if z = y then some (.ref D) else m z) → News h₀ env.locals h' news → Q .next (St s h' tk'))) E (St s h tk))
    (hs : ∀ x, foldedSetIterable iter env x = pure x := by intro _; rfl) :
    wpAny (model P0 w) A (exec (.Assign [.Name y py] (.ListComp elt [⟨.Tuple [.Name x px, .Name x₂ px₂] kt tp, iter, [], 0⟩] scope pos) spos) env) Q E (St s h tk) := by
  rw [exec_Assign_Name_used _ _ _ _ hsw]
  refine wpAny_bind (wpAny_standAt (wpAny_bind ?_))
  show wpAny _ A (do let _ ← comprehension (.ListComp elt [⟨.Tuple [.Name x px, .Name x₂ px₂] kt tp, iter, [], 0⟩] scope pos) scope env _ (newList []) false (eval iter env) (some (assign (.Name y py) env))) _ _ (St s h tk)
  refine wpAny_bind (wpAny_mono (wpAny_comprehension_free (use := some (assign (.Name y py) env)) (Q := fun _ s' => Q .next s') rfl hs hclos hkind hnames
    (wpAny_mono H (fun xv s₁ h₁ => ?_) fun _ _ e => e)) (fun _ s' hq => wpAny_pure (wpAny_pure hq)) fun _ _ e => e)
  obtain ⟨h₁', h₁'', tk₀, n, P, F, rfl, src, hsz, Fr₁, N₁, helt, hQ⟩ := h₁
  refine src _ _ fun I fp wr Ts Mid h₁ hk hwr hfp W hst => ?_
  have kk : ∀ {h' : Heap}, (∀ b o, b ∉ wr → h₁.get? b = some o → h'.get? b = some o) → Kp h₁' h' := fun q b o e => q b o (fun hm => by rw [hwr b hm] at e; cases e) (hk b o e)
  refine pairBlock (RR := fun acc C => compPost (model P0 w) A E (some (assign (.Name y py) env)) (fun _ s' => Q .next s') acc C) hh W hsz F hcell hkind hx hx₂ hxx hst hfp (fun C i a b s₃ h₃ tk₃ m₃ hi hP hn ha hb q => helt C i a b s₃ h₃ tk₃ m₃ hi hP hn ha hb (kk q)) ?_
  intro D C h' tk' m' ys hD hC hDC hn hl hlen hF q
  have k' := kk q
  have F' := Fr₁.keeps k'
  have N' := N₁.grown k'
  have hL : ∃ o, h₁.get? env.locals = some o := by obtain ⟨o, _, _, e, _⟩ := (Fr₁.keeps hk).ns; exact ⟨o, e⟩
  obtain ⟨oL, eL⟩ := hL
  have hCL : C ≠ env.locals := fun r => by rw [r, eL] at hC; cases hC
  have hDL : D ≠ env.locals := fun r => by rw [r, eL] at hD; cases hD
  have hC₀ : h₀.get? C = none := Kp.none (Fr₁.keeps hk).keep hC
  show wpAny _ A (assign (.Name y py) env (.ref D)) _ _ _
  refine wpAny_assign_Name (wpAny_storeName_local (s := St s h' tk') hy F'.ns (fun h₂ hn₂ hs₂ => ?_) hp)
  refine ⟨m', hn.sameBut hs₂ hCL, fun h'' hs'' => hQ D h'' _ ys (hk.none hD) hDL ?_ hlen hF ((F'.set hn₂ hs₂).change hs'' hCL hC₀) fun p hp => ?_⟩
  · exact (hl.isList.extBut hs₂.extBut hDL).extBut hs''.extBut hDC
  · have z := N'.set hs₂ p hp
    refine ⟨hs''.extBut _ _ (fun r => ?_) z.1, z.2⟩
    have e₁ := hk _ _ (N₁ p hp).1
    rw [r, hC] at e₁; cases e₁
/-- zip of two lists -/
theorem zipP {l1 l2 : Addr} {xs ys : List Value} {Q : Value → Shared → Prop} (hh : A.handled = none) (h1 : LO h l1 xs) (h2 : LO h l2 ys)
    (H : ∀ z h' tk', Kp h h' → SrcP w A (.ref z) s h h' tk' (min xs.length ys.length) (fun i a b => xs[i]? = some a ∧ ys[i]? = some b) → Q (.ref z) (St s h' tk')) :
    wpAny (model P0 w) A (call (.type "zip") [.ref l1, .ref l2]) Q E (St s h tk) := by
  refine call_zip_2 (s := St s h tk) h1.isList h2.isList fun h' hz hTI hTO i1 i2 hsz hk => ?_
  change IsZip h' (h.objs.size + 4) (h.objs.size + 2) (h.objs.size + 3) .none at hz
  change IsPair h' (h.objs.size + 2) (.ref h.objs.size) (.ref (h.objs.size + 1)) at hTI
  change IsPair h' (h.objs.size + 3) .none .none at hTO
  change h'.IsListIter h.objs.size l1 0 at i1
  change h'.IsListIter (h.objs.size + 1) l2 0 at i2
  change h'.objs.size = h.objs.size + 5 at hsz
  change Kp h h' at hk
  refine H (h.objs.size + 4) h' tk hk fun Q' E' H' => ?_
  have hl1 : @LT.lt Nat instLTNat l1 h.objs.size := by obtain ⟨o, e, _⟩ := h1; exact Heap.lt_size e
  have hl2 : @LT.lt Nat instLTNat l2 h.objs.size := by obtain ⟨o, e, _⟩ := h2; exact Heap.lt_size e
  have D : ZipApart (h.objs.size + 4) (h.objs.size + 2) (h.objs.size + 3) h.objs.size (h.objs.size + 1) l1 l2 := by
    constructor <;> (show ¬ (@Eq Nat _ _); omega)
  have W := (WalksT.zip2 (prog := P0) (w := w) hh _ _ _ _ _ _ _ D xs.toArray ys.toArray).toU
  have hmin : min xs.toArray.size ys.toArray.size = min xs.length ys.length := by rw [List.size_toArray, List.size_toArray]
  rw [hmin] at W
  have W' : WalksU P0 w A (h.objs.size + 4) [h.objs.size + 4, h.objs.size + 2, h.objs.size + 3, h.objs.size, h.objs.size + 1, l1, l2] [h.objs.size + 4, h.objs.size + 3, h.objs.size, h.objs.size + 1] (min xs.length ys.length)
      (fun i vals => ∃ a b, vals = #[a, b] ∧ xs[i]? = some a ∧ ys[i]? = some b) _ _ :=
    { sub := W.sub, frame := W.frame, go := W.go, apart := W.apart, done := W.done, self := W.self,
      item := fun i s Q E hi st hQ => W.item i s Q E hi st fun T vals h' tk hP hT hm hk => hQ T vals h' tk (by obtain ⟨a, b, e1, e2, e3⟩ := hP; exact ⟨a, b, e3, by simpa using e1, by simpa using e2⟩) hT hm hk }
  have st0 : _ := (⟨hz, hTI, ⟨_, _, hTO⟩, i1, i2, h1.isList.at fun o e => hk _ o e, h2.isList.at fun o e => hk _ o e⟩ : IsZip h' (h.objs.size + 4) (h.objs.size + 2) (h.objs.size + 3) .none ∧ IsPair h' (h.objs.size + 2) (.ref h.objs.size) (.ref (h.objs.size + 1)) ∧ (∃ a b, IsPair h' (h.objs.size + 3) a b) ∧ h'.IsListIter h.objs.size l1 0 ∧ h'.IsListIter (h.objs.size + 1) l2 0 ∧ h'.IsList l1 xs.toArray ∧ h'.IsList l2 ys.toArray)
  refine W'.self 0 (St s h' tk) Q' E' st0 (H' _ _ _ _ _ h' hk (fun b hb => Heap.get?_none_of_le ?_) (fun b hb => ?_) W' st0)
  · simp only [List.mem_cons, List.not_mem_nil, or_false] at hb
    rcases hb with rfl | rfl | rfl | rfl <;> omega
  · simp only [List.mem_cons, List.not_mem_nil, or_false] at hb
    rw [hsz]
    rcases hb with rfl | rfl | rfl | rfl | rfl | rfl | rfl <;> omega
end
end Mine
end

section
-- F_holds
open PySem PySem.W PyProof.Rows PySem.Spec PySem.Calls
set_option maxRecDepth 100000
set_option maxHeartbeats 1000000
namespace Mine
def ends : List (List Nat) := [[10], [13], [13, 10]]
/-- the plain law of one turn -/
def TurnLaw : Prop := ∀ (ns e : List Nat) (n : Int), ns.length = 4 → (∀ a ∈ ns, a ≤ 4) → e ∈ ends → ∃ (y rs : List Nat), TurnOk ns e (pairsF n) y ∧ outL y = rs.map Int.ofNat ∧ rs.length = 4 ∧ ∀ a ∈ rs, a ≤ 2
theorem seqIdx (k : Int) (n : Nat) (h0 : 0 ≤ k) (h1 : k < n) : seqIndex? k n = some k.toNat := by
  unfold seqIndex?
  have h2 : ¬ k < 0 := by omega
  have h3 : (decide (0 ≤ k) && decide (k < (n : Int))) = true := by simp; omega
  simp only [h2, if_false, h3, if_true]
def digit (i : Nat) (a : Nat) (b : Int) : Nat := a + ((b.fdiv (3 ^ i)).fmod 3).toNat
theorem digit_le (i a : Nat) (b : Int) (h : a ≤ 2) : digit i a b ≤ 4 := by
  have := mod3 (b.fdiv (3 ^ i))
  unfold digit; omega
theorem pow3 (i : Nat) (h : i < 3) : (3 : Int) ^ i = 1 ∨ (3 : Int) ^ i = 3 ∨ (3 : Int) ^ i = 9 := by
  match i, h with
  | 0, _ => exact .inl rfl
  | 1, _ => exact .inr (.inl rfl)
  | 2, _ => exact .inr (.inr rfl)
theorem endAt (q : Nat) (h : q < 3) (t₆ t₇ t₈ : Tok) : ∃ ee, ee ∈ ends ∧ ∃ te, [Value.str (T [10]) t₆, .str (T [13]) t₇, .str (T [13, 10]) t₈][q]? = some (.str (T ee) te) := by
  match q, h with
  | 0, _ => exact ⟨[10], by decide, t₆, rfl⟩
  | 1, _ => exact ⟨[13], by decide, t₇, rfl⟩
  | 2, _ => exact ⟨[13, 10], by decide, t₈, rfl⟩
theorem more_le4 {rs : List Nat} {ss : List Int} (i : Nat) (hr : ∀ a ∈ rs, a ≤ 2) : ∀ a ∈ List.zipWith (digit i) rs ss, a ≤ 4 := fun a ha => by
  obtain ⟨j, hj⟩ := List.mem_iff_getElem?.mp ha
  rw [List.getElem?_zipWith] at hj
  cases h1 : rs[j]? with
  | none => rw [h1] at hj; simp at hj
  | some x =>
    cases h2 : ss[j]? with
    | none => rw [h1, h2] at hj; simp at hj
    | some z =>
      rw [h1, h2] at hj
      simp at hj
      rw [← hj]
      exact digit_le i x z (hr x (List.mem_of_getElem? h1))
theorem more_paired {rs : List Nat} {ss : List Int} {ys : List Value} (i : Nat) (h1 : rs.length = 4) (h2 : ss.length = 4) (h3 : ys.length = 4) (hF : ∀ (i' : Nat) (y : Value), ys[i']? = some y → ∃ a b, rs[i']? = some a ∧ ss[i']? = some b ∧ isI y ((digit i a b : Nat) : Int)) :
    Paired isI ys ((List.zipWith (digit i) rs ss).map Int.ofNat) := by
  refine paired_mk (by rw [h3, List.length_map, List.length_zipWith, h1, h2]; rfl) fun j b hb => ?_
  rw [List.getElem?_map] at hb
  obtain ⟨q, hq, rfl⟩ := Option.map_eq_some_iff.mp hb
  obtain ⟨y, hy⟩ : ∃ y, ys[j]? = some y := by
    have hj := (List.getElem?_eq_some_iff.mp hq).1
    rw [List.length_zipWith, h1, h2] at hj
    exact ⟨_, List.getElem?_eq_getElem (by rw [h3]; exact hj)⟩
  obtain ⟨a, b, ha, hb, hI⟩ := hF j y hy
  refine ⟨y, hy, ?_⟩
  rw [List.getElem?_zipWith, ha, hb] at hq
  simp at hq
  rw [← hq]; exact hI
theorem c_holds {w : World} {A : Around} {s : Shared} {h : Heap} {tk : Nat} {l : Addr} {ss : List Int} (TL : TurnLaw) (g : Gd w h) (r : Rm A 22) (hl : LI h l ss) (h4 : ss.length = 4) :
    Qs w A (call (.ref 130) [.ref l]) s h tk (fun v h' => v = .bool true) := by
  refine' enterC (binds := [(Str.ofString "sums", .ref l)]) g r ?ho ?hcd ?hb ?hkind ?hnd ?hco ?hgen ?hk ?_
  case ho => k_is
  case hcd => k_is
  case hb => exact rfl
  case hkind => exact rfl
  case hnd => decide
  case hco => exact rfl
  case hgen => exact rfl
  case hk => exact rfl
  intro A' L h₁ tk₁ cells r' F N C G
  obtain ⟨oc, rfl, hoc⟩ := CellsAre.one (n := Str.ofString "turn") (c := L + 1) C
  refine wpAny_execs_cons (wpAny_Assign_Name (List_ (args_cons (cI fun t₁ tk₂ => args_cons (cI fun t₂ tk₃ => args_cons (cI fun t₃ tk₄ => args_cons (cI fun t₄ tk₅ => args_nil ?_)))))))
  refine newL F N (Nat.le_of_ble_eq_true rfl) fun lr h₂ F₂ N₂ k₂ hlr => stL F₂ N₂ fun h₃ tk₆ F₃ N₃ _ => ?_
  have G₃ := g.keeps F₃.keep
  have hlc : lr ≠ L + 1 := fun e => by have := N.get (.head _); rw [← e, hlr] at this; cases this
  refine wpAny_execs_cons (forI (callT G₃ (by k_is) (by boot_fast) (args_cons (cI fun t₅ tk₇ => args_nil (rngI (n := 3) r'.hh (by decide) fun rr h₄ tk₈ k₄ sr => ?_)))))
  refine ⟨h₄, tk₈, 3, _, rfl, sr, fun I h₅ k₅ hI => ?_⟩
  have F₄ := F₃.keeps k₄
  have N₄ := N₃.grown k₄
  obtain ⟨hI0, hIL⟩ := newI F₄ hI
  have hIn := newN N₄ hI
  have hIr : lr ≠ I := hIn _ (.head _)
  have hIc : L + 1 ≠ I := hIn _ (.tail _ (.head _))
  refine ⟨fun i h' => ∃ m lr oc c rs vs o n, Fr h L h' m ∧ News h L h' [(L + 1, oc), (lr, o)] ∧ oc.data = .cell c ∧ o.cls = .type "list" ∧ o.data = .seq (List.toArray vs) n ∧ Paired isI vs (List.map Int.ofNat rs) ∧ rs.length = 4 ∧ (∀ a ∈ rs, a ≤ 2) ∧
    lr ≠ I ∧ lr ≠ L + 1 ∧ m (Str.ofString "runs") = some (.ref lr) ∧ m (Str.ofString "sums") = some (.ref l), ?_, ?_, ?_, ?_⟩
  · refine ⟨_, lr, oc, none, [0, 0, 0, 0], _, _, 0, F₄.keeps k₅, fun p hp => N₄.grown k₅ p (by
      rcases List.mem_cons.mp hp with rfl | hp
      · exact .tail _ (.head _)
      · rw [List.mem_singleton.mp hp]; exact .head _), hoc, rfl, rfl, .cons ⟨_, rfl⟩ (.cons ⟨_, rfl⟩ (.cons ⟨_, rfl⟩ (.cons ⟨_, rfl⟩ .nil))), rfl, by decide, hIr, hlc, by rfl, by rfl⟩
  · rintro i g₁ g₂ ⟨m, lr, oc, c, rs, vs, o, n, F', N', a1, a2, a3, a4, a5, a6, a7, a8, a9⟩ hk
    exact ⟨m, lr, oc, c, rs, vs, o, n, LCg.fr_but F' hk hIL hI0, LCg.news_but N' hk (fun p hp => by
      rcases List.mem_cons.mp hp with rfl | hp
      · exact hIc
      · rw [List.mem_singleton.mp hp]; exact a7), a1, a2, a3, a4, a5, a6, a7, a8, a9⟩
  · rintro i v h₆ tk₉ oI hi ⟨ti, rfl⟩ ⟨m, lr, oc, c, rs, vs, o, n, F₆, N₆, hoc, hc, hd, pv, hr4, hr2, hlI, hlc, mr, ms⟩ eI
    have N₆' : News h L h₆ [(L + 1, oc), (lr, o), (I, oI)] := fun p hp => by
      rcases List.mem_cons.mp hp with rfl | hp
      · exact N₆ _ (.head _)
      · rcases List.mem_cons.mp hp with rfl | hp
        · exact N₆ _ (.tail _ (.head _))
        · rw [List.mem_singleton.mp hp]; exact ⟨eI, Ne.symm hIL, hI0⟩
    refine wpAny_assign_Name (stC (c := L + 1) F₆ N₆' (fun p hp => by
      rcases List.mem_cons.mp hp with rfl | hp
      · exact hlc
      · rw [List.mem_singleton.mp hp]; exact Ne.symm hIc) (by rfl) hoc fun h₇ oc₇ F₇ N₇ hoc₇ _ => ?_)
    have G₇ := g.keeps F₇.keep
    have hcell : h₇.IsCell (L + 1) (some (.int (i : Nat) ti)) := ⟨oc₇, N₇.get (.head _), hoc₇⟩
    have hlr₇ : LO h₇ lr vs := ⟨o, N₇.get (.tail _ (.head _)), hc, n, hd⟩
    obtain ⟨us, hls₇, pu⟩ := hl.keeps F₇.keep
    have hvl : vs.length = 4 := by rw [pv.length, List.length_map, hr4]
    have hul : us.length = 4 := by rw [pu.length, h4]
    -- more
    refine wpAny_execs_cons (asgP (h₀ := h) (m := m) (news := [(L + 1, oc₇), (lr, o), (I, oI)]) (cl := [(Str.ofString "turn", L + 1)]) r'.hh (by with_unfolding_all rfl) (by with_unfolding_all rfl) (by decide) (by rfl) (by decide) (by rfl) (by rfl) (by decide) (by rfl) (by rfl) ?_)
    refine callT G₇ (by k_is) (by boot_fast) (args_cons (nmL F₇.ns mr (args_cons (nmL F₇.ns ms (args_nil (zipP r'.hh hlr₇ hls₇ fun z h₈ tk₁₀ k₈ src => ?_))))))
    refine ⟨h₇, h₈, tk₁₀, _, _, fun i' y => ∃ a b, rs[i']? = some a ∧ ss[i']? = some b ∧ isI y ((digit i a b : Nat) : Int), rfl, src, by rw [hvl, hul]; decide, F₇, N₇, ?_, ?_⟩
    · intro C i' a b s₃ h₉ tk₃ m₃ hi' ⟨ha, hb⟩ hn hma hmb hk
      obtain ⟨a', ha', t₆, rfl⟩ := paired_get pv i' a ha
      obtain ⟨b', hb', t₇, rfl⟩ := paired_get pu i' b hb
      rw [List.getElem?_map] at ha'
      obtain ⟨a₀, ha₀, rfl⟩ := Option.map_eq_some_iff.mp ha'
      have hcell₉ : h₉.IsCell (L + 1) (some (.int (i : Nat) ti)) := let ⟨o, e, d⟩ := hcell; ⟨o, hk _ _ e, d⟩
      have hpow := pow3 i hi
      refine wpAny_BinOp (nmL hn hma (wpAny_BinOp (wpAny_BinOp (nmL hn hmb (wpAny_BinOp (cI fun t₈ tk₁₁ => nmC (c := L + 1) (by rfl) hcell₉ ?_))))))
      refine pow_int_small (s := St s₃ h₉ tk₁₁) (by omega) (by omega) (by decide) ?_
      rw [Int.toNat_natCast]
      show wpAny _ _ _ _ _ (St s₃ h₉ _)
      refine bDiv (by omega) (PyProof.noPylong_small (by omega)) fun t₉ tk₁₂ => cI fun t₁₀ tk₁₃ => bMod (by decide) fun t₁₁ tk₁₄ => bAdd fun t₁₂ tk₁₅ => ?_
      refine ⟨h₉, tk₁₅, rfl, Kp.refl _, a₀, b', ha₀, hb', t₁₂, ?_⟩
      have := mod3 (b'.fdiv (3 ^ i))
      congr 1
      show (a₀ : Int) + _ = ((digit i a₀ b' : Nat) : Int)
      unfold digit; omega
    intro D h₈ tk₁₀ ys hD hDL hlD hyl hF F₈ N₈
    obtain ⟨oD, eD, cD, nD, dD⟩ := id hlD
    have N₈' : News h L h₈ [(D, oD), (L + 1, oc₇), (lr, o), (I, oI)] := fun p hp => by
      rcases List.mem_cons.mp hp with rfl | hp
      · exact ⟨eD, hDL, Kp.none F₇.keep hD⟩
      · exact N₈ p hp
    have G₈ := g.keeps F₈.keep
    have hsum₈ := hl.keeps F₈.keep
    -- end
    refine wpAny_execs_cons (wpAny_Assign_Name (Subscript_ (Tuple_ (args_cons (cT (xs := [10]) rfl fun t₆ tk₁₁ => args_cons (cT (xs := [13]) rfl fun t₇ tk₁₂ => args_cons (cT (xs := [13, 10]) rfl fun t₈ tk₁₃ => args_nil ?_)))))))
    refine newT (by simp) fun tp h₉ k₉ hnt e₉ => ?_
    refine wpAny_BinOp (wpAny_BinOp (callB (G₈.keeps k₉) (by k_is) (by boot_fast) (args_cons (nmL (F₈.keeps k₉).ns (v := .ref l) ms (args_nil (sumL r'.hh (hsum₈.keeps k₉) fun t₉ h₁₀ tk₁₄ k₁₀ => ?_))))))
    have hcell₁₀ : h₁₀.IsCell (L + 1) (some (.int (i : Nat) ti)) := ⟨oc₇, k₁₀ _ _ (k₉ _ _ (N₈.get (.head _))), hoc₇⟩
    refine nmC (c := L + 1) (by rfl) hcell₁₀ (bAdd fun t₁₀ tk₁₅ => cI fun t₁₁ tk₁₆ => bMod (by decide) fun t₁₂ tk₁₇ => ?_)
    have hm3 := mod3 (ss.sum + (i : Int))
    obtain ⟨ee, hee, te, hte⟩ := endAt ((ss.sum + (i : Int)).fmod 3).toNat (by omega) t₆ t₇ t₈
    refine kba_turn (value' := .Name (Str.ofString "x") ⟨0, 0, 0, 0⟩) (fun _ => rfl) ?_
    refine item_tupleL (s := St s h₁₀ tk₁₇) (j := ((ss.sum + (i : Int)).fmod 3).toNat) ⟨_, k₁₀ _ _ e₉, rfl, _, rfl⟩ (by omega) (by omega) (seqIdx _ _ hm3.1 hm3.2) hte ?_ (by with_unfolding_all rfl) (by intro _; rfl)
    refine stL ((F₈.keeps k₉).keeps k₁₀) ((N₈'.grown k₉).grown k₁₀) fun h₁₁ tk₁₈ F₁₁ N₁₁ _ => ?_
    have G₁₁ := g.keeps F₁₁.keep
    have hsum₁₁ := hl.keeps F₁₁.keep
    have hcell₁₁ : h₁₁.IsCell (L + 1) (some (.int (i : Nat) ti)) := ⟨oc₇, N₁₁.get (.tail _ (.head _)), hoc₇⟩
    -- runs
    refine wpAny_execs_cons (wpAny_Assign_Name (callO G₁₁ (by k_is) (by k_is) (args_cons (nmL F₁₁.ns (v := .ref D) (by rfl) (args_cons (nmL F₁₁.ns (v := .str (T ee) te) (by rfl) (args_cons (callO G₁₁ (by k_is) (by k_is) ?_))))))))
    refine args_cons (wpAny_BinOp (wpAny_BinOp (callB G₁₁ (by k_is) (by boot_fast) (args_cons (nmL F₁₁.ns (v := .ref l) ms (args_nil (sumL r'.hh hsum₁₁ fun t₁₃ h₁₂ tk₁₉ k₁₂ => ?_)))))))
    have hcell₁₂ : h₁₂.IsCell (L + 1) (some (.int (i : Nat) ti)) := let ⟨o, e, d⟩ := hcell₁₁; ⟨o, k₁₂ _ _ e, d⟩
    refine cI fun t₁₄ tk₂₀ => bDiv (by decide) (PyProof.noPylong_small (by decide)) fun t₁₅ tk₂₁ => wpAny_BinOp (cI fun t₁₆ tk₂₂ => nmC (c := L + 1) (by rfl) hcell₁₂ (bMul (mulOk (by decide) (by decide)) fun t₁₇ tk₂₃ => bAdd fun t₁₈ tk₂₄ => args_nil ⟨G₁₁.keeps k₁₂, ?_⟩))
    refine (c_pairs (G₁₁.keeps k₁₂) (r'.le (by decide))).use fun v h₁₃ tk₂₅ k₁₃ ⟨lp, e₁₃, hnp, hlp⟩ => ?_
    subst e₁₃
    have kq := Kp.trans k₁₂ k₁₃
    refine args_nil ⟨G₁₁.keeps kq, ?_⟩
    have pD := more_paired i hr4 h4 (by rw [hyl, hvl, hul]; rfl) hF
    obtain ⟨y, rs', ok, hout, hrl, hr2'⟩ := TL (List.zipWith (digit i) rs ss) ee (ss.sum.fdiv 3 + 7 * (i : Int)) (by rw [List.length_zipWith, hr4, h4]; rfl) (more_le4 i hr2) hee
    have hlD₁₃ : LI h₁₃ D ((List.zipWith (digit i) rs ss).map Int.ofNat) := ⟨ys, ⟨oD, kq _ _ (N₁₁.get (.head _)), cD, nD, dD⟩, pD⟩
    refine (c_turn (G₁₁.keeps kq) (r'.le (by decide)) hlD₁₃ hlp ok).use fun v h₁₄ tk₂₆ k₁₄ ⟨lr', e₁₄, hnr, vr, ⟨or', er, cr, nr, dr⟩, pr⟩ => ?_
    subst e₁₄
    rw [hout] at pr
    have F₁₃ := F₁₁.keeps kq
    have N₁₃ := N₁₁.grown kq
    have hrI : lr' ≠ I := fun e => by have := N₁₃.get (.tail _ (.tail _ (.tail _ (.head _)))); rw [← e, hnr] at this; cases this
    have hrc : lr' ≠ L + 1 := fun e => by have := N₁₃.get (.tail _ (.head _)); rw [← e, hnr] at this; cases this
    refine stL (F₁₃.keeps k₁₄) (addN F₁₃ N₁₃ k₁₄ hnr er) fun h₁₅ tk₂₇ F₁₅ N₁₅ _ => ?_
    refine wpAny_execs_cons (wpAny_If (wpAny_isTrue_Compare1 (nmL F₁₅.ns (v := .ref lr') (by rfl) (wpAny_Constant_none (is_ref_none (wpAny_truthy_bool ?_))))))
    show wpAny (model P0 w) A' (execs [] _) _ _ (St s h₁₅ tk₂₇)
    refine wpAny_execs_nil (wpAny_execs_nil ?_)
    refine ⟨rfl, h₁₅, tk₂₇, rfl, ⟨_, lr', oc₇, _, rs', vr, or', nr, F₁₅, fun p hp => N₁₅ p (by
      rcases List.mem_cons.mp hp with rfl | hp
      · exact .tail _ (.tail _ (.head _))
      · rw [List.mem_singleton.mp hp]; exact .head _), hoc₇, cr, dr, pr, hrl, hr2', hrI, hrc, by rfl, ms⟩, N₁₅.get (.tail _ (.tail _ (.tail _ (.tail _ (.head _)))))⟩
  · rintro h' tk' ⟨m, lr, oc, c, rs, vs, o, n, F', N', rest⟩
    exact wpAny_execs_cons (wpAny_Return_some (wpAny_Constant_bool ⟨h', tk', rfl, F'.keep, rfl⟩))
end Mine
end

section
-- B9
open PySem PySem.W PyProof.Rows PySem.Spec PySem.Calls
set_option maxRecDepth 100000
set_option maxHeartbeats 1000000
namespace Mine
open AutoSeq1 (wpAny_loadPart')
section
variable {w : World} {A : Around} {E : Value → Shared → Prop} {s : Shared}
theorem nextTup {it t : Addr} {i : Nat} {items : Array Value} {x : Value} {Q : Value → Shared → Prop} (hit : s.heap.IsTupleIter it t i) (ht : s.heap.IsTuple t items) (hx : items[i]? = some x)
    (hQ : ∀ h', h'.IsTupleIter it t (i + 1) → Heap.SameBut it s.heap h' → Q x { s with heap := h' }) :
    wpAny (model P0 w) A (Builtin.SmallTypes.nextOf (.ref it)) Q E s := by
  obtain ⟨o, ho, hc, hd⟩ := id hit
  obtain ⟨ol, hol, _, nl, hdl⟩ := ht
  unfold Builtin.SmallTypes.nextOf
  refine wpAny_bind (wpAny_callSpecial?_slot (name := Str.ofString "__next__") hit.typeIs F.slot_tuple_iterator_next
    (wpAny_call_entry F.slot_tuple_iterator_next hit.typeIs F.entry_tuple_iterator_next ?_ (F.args_tuple_iterator_next_1 _)))
  show wpAny _ _ (field (.ref it) 0 >>= _) _ _ s
  refine wpAny_bind (wpAny_field ho hd (x := .ref t) rfl ?_)
  show wpAny _ _ (if (Value.ref t == Value.none) = true then _ else _) _ _ s
  rw [if_neg (show ¬ ((Value.ref t == Value.none) = true) from Bool.false_ne_true)]
  show wpAny _ _ (field (.ref it) 1 >>= _) _ _ s
  refine wpAny_bind (wpAny_field ho hd (x := .int i 0) rfl ?_)
  show wpAny _ _ (seqItems? (.ref t) >>= _) _ _ s
  refine wpAny_bind (wpAny_seqItems hol hdl ?_)
  simp only [Int.toNat_natCast, hx]
  refine wpAny_bind (wpAny_setField ho hd (by simp) (wpAny_pure ⟨x, rfl, wpAny_pure (hQ _ ?_ (Heap.SameBut.update ..))⟩))
  exact ⟨_, Heap.get?_update_self _ ho (Obj.isFreed_of_fields (Obj.data_mapFields hd _)), (Obj.cls_mapFields ..).trans hc, by
    rw [Obj.data_mapFields hd]; simp [rawInt]⟩
theorem nextTupEnd {it t : Addr} {i : Nat} {items : Array Value} {Q : Value → Shared → Prop} (hh : A.handled = none) (hit : s.heap.IsTupleIter it t i) (ht : s.heap.IsTuple t items) (hx : items[i]? = none)
    (hE : ∀ h' e, Heap.ExtBut it s.heap h' → (∃ o, h'.get? e = some o ∧ o.cls = .type "StopIteration") → E (.ref e) { s with heap := h' }) :
    wpAny (model P0 w) A (Builtin.SmallTypes.nextOf (.ref it)) Q E s := by
  obtain ⟨o, ho, hc, hd⟩ := id hit
  obtain ⟨ol, hol, _, nl, hdl⟩ := ht
  unfold Builtin.SmallTypes.nextOf
  refine wpAny_bind (wpAny_callSpecial?_slot (name := Str.ofString "__next__") hit.typeIs F.slot_tuple_iterator_next
    (wpAny_call_entry F.slot_tuple_iterator_next hit.typeIs F.entry_tuple_iterator_next ?_ (F.args_tuple_iterator_next_1 _)))
  show wpAny _ _ (field (.ref it) 0 >>= _) _ _ s
  refine wpAny_bind (wpAny_field ho hd (x := .ref t) rfl ?_)
  show wpAny _ _ (if (Value.ref t == Value.none) = true then _ else _) _ _ s
  rw [if_neg (show ¬ ((Value.ref t == Value.none) = true) from Bool.false_ne_true)]
  show wpAny _ _ (field (.ref it) 1 >>= _) _ _ s
  refine wpAny_bind (wpAny_field ho hd (x := .int i 0) rfl ?_)
  show wpAny _ _ (seqItems? (.ref t) >>= _) _ _ s
  refine wpAny_bind (wpAny_seqItems hol hdl ?_)
  simp only [Int.toNat_natCast, hx]
  refine wpAny_bind (wpAny_rule (wpAny_bind (wpAny_setField ho hd (by simp) ?_)))
  show wpAny _ _ (newExc (.type "StopIteration") [] >>= _) _ _ _
  refine wpAny_bind ?_
  simp only [newExc, newTuple]
  refine wpAny_bind (wpAny_newObj_type ?_ (by size_fits))
  refine wpAny_bind (m := firstArgMember _ _) (wpAny_of_eq (a := Value.none) (by first | rfl | (simp only [firstArgMember]; rfl)) ?_)
  refine wpAny_newObj_type ?_ (by size_fits)
  simp only [raiseNew]
  refine wpAny_bind (wpAny_handled ?_)
  first | rw [show A.in1.handled = none from hh] | rw [hh]
  refine wpAny_bind (wpAny_pure (wpAny_throw ?_))
  exact hE _ _ (((Heap.SameBut.update ..).extBut.push _).push _) ⟨_, Heap.get?_push_size _ rfl, rfl⟩
theorem drawTup (hh : A.handled = none) (it t : Addr) (hne : t ≠ it) (items : Array Value) :
    Draws P0 w A it [it, t] items.size (fun i v => items[i]? = some v) (fun i h => h.IsTupleIter it t i ∧ h.IsTuple t items) where
  live := fun _ _ st => let ⟨o, ho, _⟩ := st.1; ⟨o, ho⟩
  frame := fun _ _ _ st hk => ⟨let ⟨o, e, r⟩ := st.1; ⟨o, hk it (by simp) o e, r⟩, let ⟨o, e, r⟩ := st.2; ⟨o, hk t (by simp) o e, r⟩⟩
  item := fun i s Q E hi st hQ => by
    refine nextTup st.1 st.2 (x := items[i]) (by simp [hi]) fun h' hit' hs' => ?_
    exact hQ _ h' s.toks (by simp [hi]) ⟨hit', st.2.extBut hs'.extBut hne⟩ hs'
  done := fun s Q E st hE => nextTupEnd hh st.1 st.2 (by simp) hE
theorem meetsEnumT (l : Addr) (items : Array Value) (n : Nat) :
    Meets (Builtin.«enumerate.__new__» ⟨[.type "enumerate", .ref l], []⟩) (fun _ R s => s.heap.get? l = some { cls := .type "tuple", data := .seq items n } ∧
      R (.ok (.ret (.ref (s.heap.push { cls := .type "tuple_iterator", data := .fields #[.ref l, .int 0 0] }).objs.size)))
        { s with heap := (s.heap.push { cls := .type "tuple_iterator", data := .fields #[.ref l, .int 0 0] }).push { cls := .type "enumerate", data := .fields #[.none, .bool false, .ref s.heap.objs.size, rawInt 0, .none, .none] } }) :=
  .of_wp fun prog w A R s h => by
    obtain ⟨hp, g, d, tk, os⟩ := s; obtain ⟨hl, h⟩ := h
    have hsub := sub_enumerate
    have hL : Heap.IsTuple (Shared.heap ⟨hp, g, d, tk, os⟩) l items := ⟨_, hl, rfl, n, rfl⟩
    wp_walk using wpAny_loadPart' hl
    refine wpAny_stack_any fun st => wpAny_pure ?_
    split
    · rename_i c _ _ _ _ _
      cases (c == Value.type "enumerate")
      · wp_walk using wpAny_loadPart' hl, wpAny_pyIter_tuple hL
        exact ⟨_, rfl, h⟩
      · wp_walk using wpAny_loadPart' hl, wpAny_pyIter_tuple hL
        exact ⟨_, rfl, h⟩
    · wp_walk using wpAny_loadPart' hl, wpAny_pyIter_tuple hL
      exact ⟨_, rfl, h⟩
end
section
variable {w : World} {A : Around} {s : Shared} {h : Heap} {tk : Nat} {env : Env} {E : Value → Shared → Prop}
/-- enumerate of a tuple -/
theorem enumP {l : Addr} {vs : List Value} {n : Nat} {Q : Value → Shared → Prop} (hh : A.handled = none) (hl : h.get? l = some { cls := .type "tuple", data := .seq vs.toArray n })
    (H : ∀ z h' tk', Kp h h' → SrcP w A (.ref z) s h h' tk' vs.length (fun i a b => (∃ t, a = .int i t) ∧ vs[i]? = some b) → Q (.ref z) (St s h' tk')) :
    wpAny (model P0 w) A (call (.type "enumerate") [.ref l]) Q E (St s h tk) := by
  refine callType_new (s := St s h tk) F.called_enumerate (by decide) (F.typeCall_enumerate_1 _) (F.newCall_enumerate_1 _) (fun obj => F.args_object_init_2 obj _) F.entry_enumerate_new
    (meetsEnumT l vs.toArray n) ⟨hl, ?_⟩
  change _ ∧ _
  have hz : (h.push { cls := .type "tuple_iterator", data := .fields #[.ref l, .int 0 0] }).objs.size = h.objs.size + 1 := Heap.size_push ..
  show (∃ o, _ ∧ _) ∧ _
  change (∃ o, ((h.push { cls := .type "tuple_iterator", data := .fields #[.ref l, .int 0 0] }).push { cls := .type "enumerate", data := .fields #[.none, .bool false, .ref h.objs.size, rawInt 0, .none, .none] }).get? (h.push { cls := .type "tuple_iterator", data := .fields #[.ref l, .int 0 0] }).objs.size = some o ∧ _) ∧ Q (.ref (h.push { cls := .type "tuple_iterator", data := .fields #[.ref l, .int 0 0] }).objs.size) (St s ((h.push { cls := .type "tuple_iterator", data := .fields #[.ref l, .int 0 0] }).push { cls := .type "enumerate", data := .fields #[.none, .bool false, .ref h.objs.size, rawInt 0, .none, .none] }) tk)
  generalize hh1 : h.push { cls := .type "tuple_iterator", data := .fields #[.ref l, .int 0 0] } = h₁ at *
  have he : IsEnum (h₁.push { cls := .type "enumerate", data := .fields #[.none, .bool false, .ref h.objs.size, rawInt 0, .none, .none] }) (h.objs.size + 1) h.objs.size 0 .none := by
    have := Heap.get?_push_size h₁ (o := { cls := .type "enumerate", data := .fields #[.none, .bool false, .ref h.objs.size, rawInt 0, .none, .none] }) rfl
    rw [hz] at this; exact this
  rw [hz]
  refine ⟨⟨_, he, rfl⟩, ?_⟩
  have k1 : Kp h h₁ := by rw [← hh1]; exact Kp.push _ _
  have hit : h₁.IsTupleIter h.objs.size l 0 := by rw [← hh1]; exact ⟨_, Heap.get?_push_size _ rfl, rfl, rfl⟩
  generalize hh2 : h₁.push { cls := .type "enumerate", data := .fields #[.none, .bool false, .ref h.objs.size, rawInt 0, .none, .none] } = h₂ at *
  have k2 : Kp h₁ h₂ := by rw [← hh2]; exact Kp.push _ _
  have hsz : h₂.objs.size = h.objs.size + 2 := by rw [← hh2, Heap.size_push, hz]
  have hit2 : h₂.IsTupleIter h.objs.size l 0 := let ⟨o, e, r⟩ := hit; ⟨o, k2 _ _ e, r⟩
  have ht2 : h₂.IsTuple l vs.toArray := ⟨_, k2 _ _ (k1 _ _ hl), rfl, n, rfl⟩
  have hll : @LT.lt Nat instLTNat l h.objs.size := Heap.lt_size hl
  refine H (h.objs.size + 1) h₂ tk (k1.trans k2) fun Q' E' H' => ?_
  have W := (WalksT.enumerateD (drawTup (w := w) (A := A.in1) hh h.objs.size l (Nat.ne_of_lt hll) vs.toArray) (h.objs.size + 1) (Nat.ne_of_gt (Nat.lt_succ_self _)) (by
    intro hm
    simp only [List.mem_cons, List.not_mem_nil, or_false] at hm
    have hm' : (@Eq Nat (h.objs.size + 1) h.objs.size) ∨ (@Eq Nat (h.objs.size + 1) l) := hm
    omega) (.head _)).toU
  have hsv : vs.toArray.size = vs.length := List.size_toArray ..
  rw [hsv] at W
  have W' : WalksU P0 w A (h.objs.size + 1) [h.objs.size + 1, h.objs.size, l] [h.objs.size + 1, h.objs.size] vs.length (fun i vals => ∃ a b, vals = #[a, b] ∧ (∃ t, a = .int i t) ∧ vs[i]? = some b) _ _ :=
    { sub := W.sub, frame := W.frame, go := W.go, apart := W.apart, done := W.done, self := W.self,
      item := fun i s Q E hi st hQ => W.item i s Q E hi st fun T vals h' tk hP hT hm hk => hQ T vals h' tk (by obtain ⟨t, x, e1, e2⟩ := hP; exact ⟨_, x, e2, ⟨t, rfl⟩, by simpa using e1⟩) hT hm hk }
  have st0 : (∃ old, IsEnum h₂ (h.objs.size + 1) h.objs.size (0 : Nat) old) ∧ h₂.IsTupleIter h.objs.size l 0 ∧ h₂.IsTuple l vs.toArray := ⟨⟨_, he⟩, hit2, ht2⟩
  refine W'.self 0 (St s h₂ tk) Q' E' st0 (H' _ _ _ _ _ h₂ (k1.trans k2) (fun b hb => Heap.get?_none_of_le ?_) (fun b hb => ?_) W' st0)
  · simp only [List.mem_cons, List.not_mem_nil, or_false] at hb
    rcases hb with rfl | rfl <;> omega
  · simp only [List.mem_cons, List.not_mem_nil, or_false] at hb
    rw [hsz]
    rcases hb with rfl | rfl | rfl <;> omega
/-- a slice of a list with a step -/
theorem slice3 {value slice : Expr} {l : Addr} {vs : List Value} {ns : List Int} {vl vu vk : Value} {lo hi st : Option Int} {Q : Value → Shared → Prop} (hl : LO h l vs) (p : Paired isI vs ns) (pl : IsPart vl lo) (pu : IsPart vu hi) (pk : IsPart vk st) (h0 : st ≠ some 0) (hz : vs.length ≤ 1000)
    (H : ∀ D h', Kp h h' → LI h' D (pickNums ns lo hi st) → (pickNums ns lo hi st).length ≤ 1000 → Q (.ref D) (St s h' tk))
    (hs : subscripted slice false (.ref l) (.ref h.objs.size) = operate [.ref l, .ref h.objs.size] (getItem (.ref l) (.ref h.objs.size)) := by with_unfolding_all rfl)
    (ht : ∀ r, letTemporaryGo value (.ref l) r = pure () := by intro _; with_unfolding_all rfl) :
    wpAny (model P0 w) A (subscriptTail value slice (.ref l) (.ref h.objs.size)) Q E (St s (h.push { cls := .type "slice", data := .fields #[vl, vu, vk] }) tk) := by
  have hi' := (ints_of p).pick lo hi st
  have hle := length_pickNums_le (ints_of p) lo hi st
  have hpl := p.length
  refine subscriptTail_ops (Heap.IsList.typeIs (s := St s (h.push { cls := .type "slice", data := .fields #[vl, vu, vk] }) tk) (hl.isList.push _)) list_getitem_lookup
    (wpAny_getItem_list_slice (s := St s (h.push { cls := .type "slice", data := .fields #[vl, vu, vk] }) tk) (hl.isList.push _) (Heap.IsSliceOf.new ..) pl pu pk h0 ?_ (by rw [List.size_toArray, show sizeLine = 16777216 from rfl]; omega)) hs ht
  refine H _ _ (Kp.trans (Kp.push _ _) (Kp.push _ _)) ⟨(slicePick vs.toArray lo hi st).toList, ⟨_, Heap.get?_push_size _ rfl, rfl, 0, by simp⟩, ?_⟩ (by omega)
  have conv : ∀ {us : List Value} {ms : List Int}, IntsAre us ms → Paired isI us ms := by
    intro us ms q
    induction q with
    | nil => exact .nil
    | cons n t _ ih => exact .cons ⟨t, rfl⟩ ih
  exact conv hi'
end
end Mine
end

section
-- F_sums
open PySem PySem.W PyProof.Rows PySem.Spec PySem.Calls
set_option maxRecDepth 100000
set_option maxHeartbeats 1000000
namespace Mine
theorem c_sums {w : World} {A : Around} {s : Shared} {h : Heap} {tk : Nat} {l : Addr} {ns : List Int} (g : Gd w h) (r : Rm A 2) (hl : LI h l ns) (hn : ns.length ≤ 63) :
    Qs w A (call (.ref 74) [.ref l]) s h tk (fun v h' => ∃ l' ss, v = .ref l' ∧ h.get? l' = none ∧ LI h' l' ss ∧ ss.length = 4) := by
  refine' enterC (binds := [(Str.ofString "script", .ref l)]) g r ?ho ?hcd ?hb ?hkind ?hnd ?hco ?hgen ?hk ?_
  case ho => k_is
  case hcd => k_is
  case hb => exact rfl
  case hkind => exact rfl
  case hnd => decide
  case hco => exact rfl
  case hgen => exact rfl
  case hk => exact rfl
  intro A' L h₁ tk₁ cells r' F N C G
  obtain ⟨o, rfl, ho⟩ := CellsAre.one (n := Str.ofString "script") (c := L + 1) C
  have hc : h₁.IsCell (L + 1) (some (.ref l)) := ⟨o, N.get (.head _), ho⟩
  refine wpAny_execs_cons (wpAny_Return_some ?_)
  refine lcompP (cl := [(Str.ofString "script", L + 1)]) r'.hh (by with_unfolding_all rfl) (by decide) (by rfl) (by decide) (by rfl) (by rfl) (by decide) ?_
  refine callT G (by k_is) (by boot_fast) (args_cons (Tuple_ (args_cons (cI fun t₁ tk₂ => args_cons (cI fun t₂ tk₃ => args_cons (cI fun t₃ tk₄ => args_cons (cI fun t₄ tk₅ => args_nil ?_)))))))
  refine newT (by simp) fun tp h₂ k₂ hnt e₂ => args_nil ?_
  refine enumP r'.hh e₂ fun z h₃ tk₆ k₃ src => ?_
  refine ⟨h₂, h₃, tk₆, 4, _, fun _ y => ∃ a, isI y a, rfl, src, by decide, ?_, ?_⟩
  · intro C i a b s₃ h₄ tk₇ m₃ hi ⟨⟨t₅, ha⟩, hb⟩ hns hma hmb hk
    subst ha
    obtain ⟨b₀, tb, rfl⟩ : ∃ b₀ tb, b = Value.int b₀ tb := by
      have hi4 : i < 4 := hi
      match i, hi4, hb with
      | 0, _, hb => exact ⟨19, t₁, by simpa using hb.symm⟩
      | 1, _, hb => exact ⟨3, t₂, by simpa using hb.symm⟩
      | 2, _, hb => exact ⟨5, t₃, by simpa using hb.symm⟩
      | 3, _, hb => exact ⟨16, t₄, by simpa using hb.symm⟩
    have hc₄ : h₄.IsCell (L + 1) (some (.ref l)) := let ⟨o, e, d⟩ := hc; ⟨o, hk _ _ (k₂ _ _ e), d⟩
    have G₄ := (G.keeps k₂).keeps hk
    obtain ⟨vs, hl₄, p⟩ := ((hl.keeps F.keep).keeps k₂).keeps hk
    have hvl : vs.length = ns.length := p.length
    refine wpAny_BinOp (nmL hns hmb (callB G₄ (by k_is) (by boot_fast) (args_cons ?_)))
    refine lcomp (R := isI) (S := isI) (f := fun x : Int => x.fmod 1000000) (cl := []) isI.det (by with_unfolding_all rfl) (by decide) (by rfl) (by decide) (by rfl) ?_
    refine Subscript_ (nmC (c := L + 1) (by rfl) hc₄ (wpAny_Slice ?_))
    rw [evalPart_some, evalPart_some, evalPart_some]
    refine nmL hns hma (cI fun t₆ tk₈ => cI fun t₇ tk₉ => ?_)
    refine slice3 hl₄ p (.int _ _) (.int _ _) (.int _ _) (by decide) (by omega) (fun D h₅ k₅ hD hle => ?_) (by with_unfolding_all rfl) (by intro _; with_unfolding_all rfl)
    obtain ⟨us, hlD, pu⟩ := hD
    have sr := LO.src (w := w) (s := s₃) (tk := tk₉) r'.hh hlD pu
    refine ⟨h₅, tk₉, _, _, rfl, sr.1, by rw [show sizeLine = 16777216 from rfl]; omega, sr.2, ?_, ?_⟩
    · intro C₂ i₂ v₂ a₂ s₆ h₆ tk₁₀ m₆ ha₂ hr₂ hm₆ hm hk₆
      obtain ⟨t, rfl⟩ := hr₂
      exact wpAny_BinOp (nmL hm₆ hm (cI fun t₈ tk₁₁ => bMod (by decide) fun t₉ tk₁₂ => ⟨h₆, tk₁₂, rfl, Kp.refl _, t₉, rfl⟩))
    · intro D₂ h₆ tk₁₀ ys hD₂ hlD₂ pD₂ k₆
      refine args_nil (sumL r'.hh ⟨ys, hlD₂, pD₂⟩ fun t₈ h₇ tk₁₁ k₇ => bAdd fun t₉ tk₁₂ => ?_)
      exact ⟨h₇, tk₁₂, rfl, (k₅.trans k₆).trans k₇, _, t₉, rfl⟩
  · intro D h' tk' ys hD hlD hyl hF k
    have hK := (Kp.trans F.keep k₂).trans k
    refine ⟨h', tk', rfl, hK, D, ys.map (fun v => match v with | .int n _ => n | _ => 0), rfl, Kp.none (Kp.trans F.keep k₂) hD, ⟨ys, hlD, paired_mk (by rw [List.length_map]) fun i b hb => ?_⟩, by rw [List.length_map, hyl]⟩
    rw [List.getElem?_map] at hb
    obtain ⟨y, hy, rfl⟩ := Option.map_eq_some_iff.mp hb
    obtain ⟨a, t, rfl⟩ := hF i y hy
    exact ⟨_, hy, t, rfl⟩
end Mine
end

section
-- F_law
open PySem PySem.W PyProof.Rows PySem.Spec PySem.Calls
set_option maxRecDepth 100000
set_option maxHeartbeats 8000000
namespace Mine
theorem paired_ints {us : List Value} {ms : List Int} (q : IntsAre us ms) : Paired isI us ms := by
  induction q with
  | nil => exact .nil
  | cons n t _ ih => exact .cons ⟨t, rfl⟩ ih
theorem law_holds (TL : TurnLaw) : PySem.Challenge.rw_pg0055_01.Holds := hd (by
  w_strict k_go0
  rename_i w s₀ s₁ mg mb G Y fa o pm doc kV ho hg KX X V GL T B TE TW a1 a2 M a3 a4 hcd xs hs hlay hL1 hr1 hl2 a5 a6 l vs a7 hL ra w1 r0 hI hr hc1 hc2 K0 hD h₁ F N
  have G₁ : Gd w h₁ := ⟨KX.keeps F.keep, mg, mb, (topRead_of T).keeps F.keep⟩
  have hll : LI h₁ l xs := LI.keeps ⟨vs, hL, paired_ints hI⟩ F.keep
  have r' : ∀ env, Rm (callerA.deeper env) 22 := fun env => ⟨rfl, by show callerA.depth + 1 + 22 < recursionLimit; decide +kernel, by show callerA.units + 3 + 4 * 22 < cLine; decide +kernel⟩
  have hn : xs.length ≤ 63 := by omega
  refine wpAny_execs_cons (wpAny_Assign_Name ?_)
  refine callO (s := s₁) G₁ (by k_is) (by k_is) (args_cons (nmL F.ns (by rfl) (args_nil ⟨G₁, ?_⟩)))
  refine (c_sums G₁ ((r' _).le (by decide)) hll hn).use fun v h₂ tk₂ k₂ ⟨l', ss, e, hnew, ⟨us, ⟨o2, e2, c2, n2, d2⟩, pu⟩, h4⟩ => ?_
  subst e
  refine stL (F.keeps k₂) (addN F N k₂ hnew e2) fun h₃ tk₃ F₃ N₃ _ => ?_
  have G₃ : Gd w h₃ := ⟨KX.keeps F₃.keep, mg, mb, (topRead_of T).keeps F₃.keep⟩
  refine wpAny_execs_cons (wpAny_Return_some ?_)
  refine callO G₃ (by k_is) (by k_is) (args_cons (nmL F₃.ns (by rfl) (args_nil ⟨G₃, ?_⟩)))
  refine (c_holds TL G₃ (r' _) ⟨us, ⟨o2, N₃.get (.head _), c2, n2, d2⟩, pu⟩ h4).use fun v h₄ tk₄ k₄ e => ?_
  subst e
  have F₄ := F₃.keeps k₄
  show GoodW _ _ _ _ _ (.ok (.ret (.bool true))) _
  refine goodW_bool (s' := St s₁ h₄ tk₄) F₄ hg (raisesW_false ?hn) ?hp
  case hn => wrow_none_raised
  case hp =>
    refine' postW_of ?s ?v ?ee
    case s => o_shape
    case v => wtm_val
    case ee => w_fin)
end Mine
end

section
-- P1
open PySem PySem.W PyProof.Rows PySem.Spec PySem.Calls
set_option maxRecDepth 100000
namespace Mine
/-- the four pairs, in one order -/
def P4 : List (List Nat × List Nat) := [([46, 46, 46, 124], [124, 46, 46, 46]), ([46, 46, 124, 124], [124, 46, 124, 46]), ([46, 124, 46, 124], [124, 124, 46, 46]), ([46, 124, 124, 124], [124, 124, 124, 46])]
def pstep (st : List (List Nat) × List (List Nat × List Nat)) (k : Nat) : List (List Nat) × List (List Nat × List Nat) :=
  let m := st.1.getD k []
  (st.1.eraseIdx k, st.2 ++ [([46] ++ m ++ [124], [124] ++ m ++ [46])])
def pG (a b c d : Nat) : List (List Nat × List Nat) := ([a, b, c, d].foldl pstep ([[46, 46], [46, 124], [124, 46], [124, 124]], [])).2
theorem pairsF_pG (n : Int) : pairsF n = pG (n.fmod 4).toNat ((n.fdiv 4).fmod 3).toNat (((n.fdiv 4).fdiv 3).fmod 2).toNat ((((n.fdiv 4).fdiv 3).fdiv 2).fmod 1).toNat := rfl
def pGok (a b c d : Nat) : Bool := (pG a b c d).all (fun x => P4.any (· == x)) && P4.all (fun x => (pG a b c d).any (· == x)) && (pG a b c d).length == 4
theorem pG_ok' : ∀ a, a < 4 → ∀ b, b < 3 → ∀ c, c < 2 → ∀ d, d < 1 → pGok a b c d = true := by decide +kernel
theorem pG_ok (a : Nat) (ha : a < 4) (b : Nat) (hb : b < 3) (c : Nat) (hc : c < 2) (d : Nat) (hd : d < 1) : (∀ x ∈ pG a b c d, x ∈ P4) ∧ (∀ x ∈ P4, x ∈ pG a b c d) ∧ (pG a b c d).length = 4 := by
  have h := pG_ok' a ha b hb c hc d hd
  unfold pGok at h
  simp only [Bool.and_eq_true, List.all_eq_true, List.any_eq_true, beq_iff_eq] at h
  refine ⟨fun x hx => ?_, fun x hx => ?_, h.2⟩
  · obtain ⟨y, hy, e⟩ := h.1.1 x hx; rw [← e]; exact hy
  · obtain ⟨y, hy, e⟩ := h.1.2 x hx; rw [← e]; exact hy
theorem pairsF_ok (n : Int) : (∀ x ∈ pairsF n, x ∈ P4) ∧ (∀ x ∈ P4, x ∈ pairsF n) ∧ (pairsF n).length = 4 := by
  rw [pairsF_pG]
  have h1 := fmod_lt n 4 (by decide)
  have h2 := fmod_lt (n.fdiv 4) 3 (by decide)
  have h3 := fmod_lt ((n.fdiv 4).fdiv 3) 2 (by decide)
  have h4 := fmod_lt (((n.fdiv 4).fdiv 3).fdiv 2) 1 (by decide)
  exact pG_ok _ (by omega) _ (by omega) _ (by omega) _ (by omega)

/-- how many 124 stand at places = r mod 3, the first place being off -/
def cn (r off : Nat) : List Nat → Nat
  | [] => 0
  | c :: t => (if c = 124 ∧ off % 3 = r then 1 else 0) + cn r (off + 1) t
/-- the sum of the places of the 124 -/
def wt (off : Nat) : List Nat → Nat
  | [] => 0
  | c :: t => (if c = 124 then off else 0) + wt (off + 1) t
theorem cn_app (r : Nat) : ∀ (x y : List Nat) (off : Nat), cn r off (x ++ y) = cn r off x + cn r (off + x.length) y
  | [], y, off => by simp [cn]
  | c :: t, y, off => by
    simp only [List.cons_append, cn, List.length_cons, cn_app r t y (off + 1)]
    rw [show off + 1 + t.length = off + (t.length + 1) by omega]; omega
theorem wt_app : ∀ (x y : List Nat) (off : Nat), wt off (x ++ y) = wt off x + wt (off + x.length) y
  | [], y, off => by simp [wt]
  | c :: t, y, off => by
    simp only [List.cons_append, wt, List.length_cons, wt_app t y (off + 1)]
    rw [show off + 1 + t.length = off + (t.length + 1) by omega]; omega
structure PairOk (p q : List Nat) : Prop where
  lp : p.length = 4
  lq : q.length = 4
  alp : ∀ c ∈ p, c = 46 ∨ c = 124
  alq : ∀ c ∈ q, c = 46 ∨ c = 124
  cn : ∀ r off, Mine.cn r off p = Mine.cn r off q
  wt : ∀ off, Mine.wt off q + 3 = Mine.wt off p
theorem pairOk : ∀ a ∈ P4, PairOk a.1 a.2 := by
  have e : ∀ off : Nat, (off + 1 + 1 + 1) % 3 = off % 3 := fun off => by omega
  intro a ha
  simp only [P4, List.mem_cons, List.not_mem_nil, or_false] at ha
  rcases ha with rfl | rfl | rfl | rfl
  all_goals
    refine ⟨rfl, rfl, by decide, by decide, fun r off => ?_, fun off => ?_⟩
    · simp only [Mine.cn, e]; simp; try omega
    · simp [Mine.wt] <;> omega
def J (p : List Nat) (parts : List Str) : List Nat := (Str.join (T p) parts).cps.toList
theorem J_cons (p : List Nat) (a b : Str) (r : List Str) : J p (a :: b :: r) = a.cps.toList ++ (p ++ J p (b :: r)) := by
  show (a ++ T p ++ Str.join (T p) (b :: r)).cps.toList = _
  simp only [Str.cps_append, Array.toList_append, T_list, List.append_assoc]; rfl
theorem J_facts {p q : List Nat} (ok : PairOk p q) : ∀ (parts : List Str) (off : Nat), (J q parts).length = (J p parts).length ∧ (∀ r, cn r off (J q parts) = cn r off (J p parts)) ∧ wt off (J q parts) + 3 * (parts.length - 1) = wt off (J p parts) ∧ (∀ c ∈ J q parts, c ∈ q ∨ c ∈ J p parts)
  | [], off => ⟨rfl, fun _ => rfl, rfl, fun c h => .inr h⟩
  | [a], off => ⟨rfl, fun _ => rfl, rfl, fun c h => .inr h⟩
  | a :: b :: r, off => by
    obtain ⟨h1, h2, h3, h4⟩ := J_facts ok (b :: r) (off + a.cps.toList.length + 4)
    rw [J_cons, J_cons]
    refine ⟨?_, fun k => ?_, ?_, fun c hc => ?_⟩
    · simp only [List.length_append, h1, ok.lp, ok.lq]
    · rw [cn_app, cn_app, cn_app, cn_app, ok.lp, ok.lq, h2, ok.cn]
    · rw [wt_app, wt_app, wt_app, wt_app, ok.lp, ok.lq, ← h3, ← ok.wt]
      simp only [List.length_cons]; omega
    · rcases List.mem_append.mp hc with hc | hc
      · exact .inr (List.mem_append_left _ hc)
      · rcases List.mem_append.mp hc with hc | hc
        · exact .inl hc
        · rcases h4 c hc with h | h
          · exact .inl h
          · exact .inr (List.mem_append_right _ (List.mem_append_right _ h))
theorem J_split (p x : List Nat) : J p (Txt.split (T x) (T p)) = x := by
  unfold J; rw [StrLaws.join_split, T_list]
theorem repl_J (p q x : List Nat) : repl p q x = J q (Txt.split (T x) (T p)) := rfl
def Al (x : List Nat) : Prop := ∀ c ∈ x, c = 46 ∨ c = 124
structure Same (x y : List Nat) : Prop where
  len : y.length = x.length
  cn : ∀ r, Mine.cn r 0 y = Mine.cn r 0 x
  wt : Mine.wt 0 y ≤ Mine.wt 0 x
  al : Al x → Al y
theorem Same.trans {x y z : List Nat} (a : Same x y) (b : Same y z) : Same x z :=
  ⟨b.len.trans a.len, fun r => (b.cn r).trans (a.cn r), Nat.le_trans b.wt a.wt, fun h => b.al (a.al h)⟩
theorem repl_same {p q : List Nat} (ok : PairOk p q) (x : List Nat) : Same x (repl p q x) ∧ (wt 0 (repl p q x) = wt 0 x → (Txt.split (T x) (T p)).length ≤ 1 ∧ repl p q x = x) := by
  obtain ⟨h1, h2, h3, h4⟩ := J_facts ok (Txt.split (T x) (T p)) 0
  rw [J_split] at h1 h2 h3 h4
  rw [repl_J]
  refine ⟨⟨h1, h2, by omega, fun hx c hc => ?_⟩, fun e => ?_⟩
  · rcases h4 c hc with h | h
    · exact ok.alq c h
    · exact hx c h
  · have hl : (Txt.split (T x) (T p)).length ≤ 1 := by omega
    refine ⟨hl, ?_⟩
    have := J_split p x
    generalize Txt.split (T x) (T p) = parts at hl this
    match parts, hl with
    | [], _ => exact this
    | [a], _ => exact this
theorem replAll_same : ∀ (ps : List (List Nat × List Nat)) (x : List Nat), (∀ a ∈ ps, PairOk a.1 a.2) → Same x (replAll ps x) ∧ (wt 0 (replAll ps x) = wt 0 x → replAll ps x = x ∧ ∀ a ∈ ps, (Txt.split (T x) (T a.1)).length ≤ 1)
  | [], x, _ => ⟨⟨rfl, fun _ => rfl, Nat.le_refl _, fun h => h⟩, fun _ => ⟨rfl, fun a h => nomatch h⟩⟩
  | (p, q) :: r, x, ok => by
    obtain ⟨s1, k1⟩ := repl_same (ok (p, q) (.head _)) x
    obtain ⟨s2, k2⟩ := replAll_same r (repl p q x) fun a ha => ok a (.tail _ ha)
    refine ⟨s1.trans s2, fun e => ?_⟩
    have e' : wt 0 (replAll r (repl p q x)) = wt 0 x := e
    have a1 : wt 0 (repl p q x) ≤ wt 0 x := s1.wt
    have a2 : wt 0 (replAll r (repl p q x)) ≤ wt 0 (repl p q x) := s2.wt
    obtain ⟨l1, e1⟩ := k1 (show wt 0 (repl p q x) = wt 0 x by omega)
    obtain ⟨e2, l2⟩ := k2 (by omega)
    refine ⟨by show replAll r (repl p q x) = x; rw [e2, e1], fun a ha => ?_⟩
    rcases List.mem_cons.mp ha with rfl | ha
    · exact l1
    · have := l2 a ha; rwa [e1] at this
open Builtin Builtin.Str in
/-- one part only: it does not occur -/
theorem no_occ {x p : List Nat} (hx : Al x) (hp : p.length = 4) (ap : Al p) (h : (Txt.split (T x) (T p)).length ≤ 1) (i : Nat) (hi : i + 4 ≤ x.length) : (x.drop i).take 4 ≠ p := by
  intro e
  have hA : StrLaws.At (T x) (T p) (T x).length i := by
    refine ⟨by rw [T_length, T_length, hp]; exact hi, ?_⟩
    rw [StrLaws.subAt_eq, T_list, T_list, T_length, hp, e]; simp
  have kind : ∀ y : List Nat, Al y → PySem.Builtin.Str.strKind (T y) = 1 := fun y hy => by
    unfold PySem.Builtin.Str.strKind
    rw [if_pos]
    rw [← Array.all_toList, T_list, List.all_eq_true]
    intro c hc
    rcases hy c hc with rfl | rfl <;> decide
  unfold Txt.split at h
  rw [if_neg (by rw [T_length, T_length, kind x hx, kind p ap, hp]; simp; omega)] at h
  rcases StrLaws.occ_head (T x) (T p) ((T x).length + 1) (by omega) with ⟨h0, hn⟩ | ⟨j, r, h0, _⟩
  · exact hn i hA
  · rw [h0] at h
    rw [if_neg (by simp), length_partsBetween] at h
    simp at h
end Mine
end

section
-- P2
open PySem PySem.W PyProof.Rows PySem.Spec PySem.Calls
set_option maxRecDepth 100000
namespace Mine
def NoD (z : List Nat) : Prop := ∀ i, z[i]? = some 46 → z[i + 3]? = some 124 → False
theorem drop4 {z : List Nat} {i a b c d : Nat} (h0 : z[i]? = some a) (h1 : z[i + 1]? = some b) (h2 : z[i + 2]? = some c) (h3 : z[i + 3]? = some d) : (z.drop i).take 4 = [a, b, c, d] := by
  have hl : i + 3 < z.length := (List.getElem?_eq_some_iff.mp h3).1
  refine List.ext_getElem? fun k => ?_
  rw [List.getElem?_take]
  split
  · rename_i hk
    rw [List.getElem?_drop]
    match k, hk with
    | 0, _ => exact h0
    | 1, _ => exact h1
    | 2, _ => exact h2
    | 3, _ => exact h3
  · rename_i hk
    rw [List.getElem?_eq_none (by simp; omega)]
theorem noD_of {ps : List (List Nat × List Nat)} (h1 : ∀ a ∈ ps, a ∈ P4) (h2 : ∀ a ∈ P4, a ∈ ps) {z : List Nat} (hz : Al z) (e : replAll ps z = z) : NoD z := fun i h0 h3 => by
  obtain ⟨_, k⟩ := replAll_same ps z fun a ha => pairOk a (h1 a ha)
  obtain ⟨_, hl⟩ := k (by rw [e])
  have hlen : i + 3 < z.length := (List.getElem?_eq_some_iff.mp h3).1
  obtain ⟨b, hb⟩ : ∃ b, z[i + 1]? = some b := ⟨_, List.getElem?_eq_getElem (by omega)⟩
  obtain ⟨c, hc⟩ : ∃ c, z[i + 2]? = some c := ⟨_, List.getElem?_eq_getElem (by omega)⟩
  have hd := drop4 h0 hb hc h3
  have key : ∀ a ∈ P4, (z.drop i).take 4 ≠ a.1 := fun a ha => no_occ hz (pairOk a ha).lp (pairOk a ha).alp (hl a (h2 a ha)) i (by omega)
  rcases hz b (List.mem_of_getElem? hb) with rfl | rfl <;> rcases hz c (List.mem_of_getElem? hc) with rfl | rfl
  · exact key ([46, 46, 46, 124], [124, 46, 46, 46]) (by simp [P4]) hd
  · exact key ([46, 46, 124, 124], [124, 46, 124, 46]) (by simp [P4]) hd
  · exact key ([46, 124, 46, 124], [124, 124, 46, 46]) (by simp [P4]) hd
  · exact key ([46, 124, 124, 124], [124, 124, 124, 46]) (by simp [P4]) hd
theorem cn_succ (r : Nat) {z : List Nat} {k c : Nat} (h : z[k]? = some c) : cn r 0 (z.take (k + 1)) = cn r 0 (z.take k) + if c = 124 ∧ k % 3 = r then 1 else 0 := by
  have hl : k < z.length := (List.getElem?_eq_some_iff.mp h).1
  rw [List.take_add_one, h, cn_app, List.length_take]
  simp only [Option.toList, cn, Nat.zero_add, Nat.add_zero]
  rw [Nat.min_eq_left (by omega)]
theorem cn_mono (r : Nat) (z : List Nat) (k : Nat) : cn r 0 (z.take k) ≤ cn r 0 z := by
  conv => rhs; rw [← List.take_append_drop k z]
  rw [cn_app]; omega
theorem cn_bound (r : Nat) (hr : r < 3) (z : List Nat) : ∀ k, k ≤ z.length → cn r 0 (z.take k) ≤ (k + 2 - r) / 3
  | 0, _ => by simp [cn]
  | k + 1, h => by
    have ih := cn_bound r hr z k (by omega)
    obtain ⟨c, hc⟩ : ∃ c, z[k]? = some c := ⟨_, List.getElem?_eq_getElem (by omega)⟩
    rw [cn_succ r hc]
    split
    · rename_i hh; omega
    · omega
theorem cn_up {z : List Nat} (hz : Al z) (hd : NoD z) : ∀ (p : Nat), z[p]? = some 124 → p / 3 + 1 ≤ cn (p % 3) 0 (z.take (p + 1)) := fun p => by
  induction p using Nat.strongRecOn with
  | ind p ih =>
    intro h
    rw [cn_succ _ h, if_pos ⟨rfl, rfl⟩]
    by_cases h3 : p < 3
    · have : p / 3 = 0 := by omega
      omega
    · have hl : p < z.length := (List.getElem?_eq_some_iff.mp h).1
      obtain ⟨c, hc⟩ : ∃ c, z[p - 3]? = some c := ⟨_, List.getElem?_eq_getElem (by omega)⟩
      rcases hz c (List.mem_of_getElem? hc) with rfl | rfl
      · exact absurd (by rw [show p - 3 + 3 = p by omega]; exact h) (hd (p - 3) hc)
      · have := ih (p - 3) (by omega) hc
        have e1 : (p - 3) % 3 = p % 3 := by omega
        have e2 : (p - 3) / 3 + 1 = p / 3 := by omega
        rw [e1, e2] at this
        have m := cn_mono (p % 3) (z.take p) (p - 3 + 1)
        rw [List.take_take, Nat.min_eq_left (by omega)] at m
        omega
theorem stay46 {z : List Nat} (hz : Al z) (hd : NoD z) {p : Nat} (h : z[p]? = some 46) : ∀ j, p + 3 * j < z.length → z[p + 3 * j]? = some 46
  | 0, _ => h
  | j + 1, hl => by
    have ih := stay46 hz hd h j (by omega)
    obtain ⟨c, hc⟩ : ∃ c, z[p + 3 * (j + 1)]? = some c := ⟨_, List.getElem?_eq_getElem hl⟩
    rcases hz c (List.mem_of_getElem? hc) with rfl | rfl
    · exact hc
    · exact absurd hc (hd (p + 3 * j) ih)
theorem cn_down {z : List Nat} (hz : Al z) (hd : NoD z) {p : Nat} (h : z[p]? = some 46) : ∀ k, p + 1 + k ≤ z.length → cn (p % 3) 0 (z.take (p + 1 + k)) ≤ p / 3
  | 0, hl => by
    show cn (p % 3) 0 (z.take (p + 1)) ≤ _
    rw [cn_succ _ h, if_neg (by omega)]
    have := cn_bound (p % 3) (by omega) z p (by omega)
    omega
  | k + 1, hl => by
    have ih := cn_down hz hd h k (by omega)
    obtain ⟨c, hc⟩ : ∃ c, z[p + 1 + k]? = some c := ⟨_, List.getElem?_eq_getElem (by omega)⟩
    show cn (p % 3) 0 (z.take (p + 1 + k + 1)) ≤ _
    rw [cn_succ _ hc]
    split
    · rename_i hh
      have := stay46 hz hd h ((p + 1 + k - p) / 3) (by omega)
      rw [show p + 3 * ((p + 1 + k - p) / 3) = p + 1 + k by omega, hc, hh.1] at this
      cases this
    · omega
theorem char {z : List Nat} (hz : Al z) (hd : NoD z) {p : Nat} (hp : p < z.length) : z[p]? = some (if p / 3 < cn (p % 3) 0 z then 124 else 46) := by
  obtain ⟨c, hc⟩ : ∃ c, z[p]? = some c := ⟨_, List.getElem?_eq_getElem hp⟩
  rcases hz c (List.mem_of_getElem? hc) with rfl | rfl
  · have := cn_down hz hd hc (z.length - (p + 1)) (by omega)
    rw [show p + 1 + (z.length - (p + 1)) = z.length by omega, List.take_length] at this
    rw [if_neg (by omega)]; exact hc
  · have := cn_up hz hd p hc
    have m := cn_mono (p % 3) z (p + 1)
    rw [if_pos (by omega)]; exact hc
/-- the beads tell the text -/
theorem core_of {z : List Nat} (hz : Al z) (hd : NoD z) {R : Nat} {c0 c1 c2 : Int} (hb : ∀ r, r < 3 → (inner (R : Int) R [c0 - c1, c1 - c2, c2 - c0]).getD ((((r : Nat) : Int) - (R : Int)).fmod 3).toNat 0 = ((cn r 0 z : Nat) : Int)) : z = coreF z.length R c0 c1 c2 := by
  refine List.ext_getElem? fun p => ?_
  unfold coreF
  rw [List.getElem?_map]
  by_cases hp : p < z.length
  · rw [List.getElem?_range hp, char hz hd hp]
    show _ = some (coreSign R _ ((p : Nat) : Int))
    unfold coreSign
    have h := hb (p % 3) (by omega)
    have e1 : ((((p % 3 : Nat) : Nat) : Int) - (R : Int)).fmod 3 = (((p : Nat) : Int) - (R : Int)).fmod 3 := by
      rw [Int.fmod_eq_emod_of_nonneg _ (by decide), Int.fmod_eq_emod_of_nonneg _ (by decide)]; omega
    rw [e1] at h
    rw [h]
    have e2 : (((p : Nat) : Int)).fdiv 3 = ((p / 3 : Nat) : Int) := by
      rw [Int.fdiv_eq_ediv_of_nonneg _ (by decide)]; omega
    rw [e2]
    by_cases hc : p / 3 < cn (p % 3) 0 z
    · rw [if_pos hc, if_pos (by omega)]
    · rw [if_neg hc, if_neg (by omega)]
  · rw [List.getElem?_eq_none (by omega), List.getElem?_eq_none (by simp; omega)]; rfl
theorem wornOk {ps : List (List Nat × List Nat)} (h1 : ∀ a ∈ ps, a ∈ P4) (h2 : ∀ a ∈ P4, a ∈ ps) {x : List Nat} (hx : Al x) (hlen : x.length ≤ 1000) {R : Nat} {c0 c1 c2 : Int}
    (hb : ∀ r, r < 3 → (inner (R : Int) R [c0 - c1, c1 - c2, c2 - c0]).getD ((((r : Nat) : Int) - (R : Int)).fmod 3).toNat 0 = ((cn r 0 x : Nat) : Int)) :
    ∃ (Inv : List Nat → Prop) (mu : List Nat → Nat), Inv x ∧ (∀ y, Inv y → y.length ≤ 1000) ∧ (∀ y, Inv y → Inv (replAll ps y) ∧ (replAll ps y ≠ y → mu (replAll ps y) < mu y)) ∧ ∀ z, Inv z → replAll ps z = z → z = coreF x.length R c0 c1 c2 := by
  refine ⟨fun y => Same x y, wt 0, ⟨rfl, fun _ => rfl, Nat.le_refl _, fun h => h⟩, fun y hy => by rw [hy.len]; exact hlen, fun y hy => ?_, fun z hz e => ?_⟩
  · obtain ⟨s, k⟩ := replAll_same ps y fun a ha => pairOk a (h1 a ha)
    refine ⟨hy.trans s, fun hne => ?_⟩
    have hw := s.wt
    rcases Nat.lt_or_eq_of_le hw with h | h
    · exact h
    · exact absurd (k h).1 hne
  · have := core_of (hz.al hx) (noD_of h1 h2 (hz.al hx) e) (R := R) (c0 := c0) (c1 := c1) (c2 := c2) fun r hr => by rw [hz.cn r]; exact hb r hr
    rwa [hz.len] at this
theorem pokOk {ps : List (List Nat × List Nat)} (h1 : ∀ a ∈ ps, a ∈ P4) : ∀ a ∈ ps, a.1 ≠ [] ∧ a.2.length ≤ a.1.length ∧ a.2.length ≤ 4 := fun a ha => by
  have ok := pairOk a (h1 a ha)
  refine ⟨fun e => ?_, by rw [ok.lp, ok.lq]; exact Nat.le_refl _, by rw [ok.lq]; exact Nat.le_refl _⟩
  have := ok.lp; rw [e] at this; cases this
theorem nilOk {ps : List (List Nat × List Nat)} (h1 : ∀ a ∈ ps, a ∈ P4) : replAll ps [] = [] := by
  obtain ⟨s, _⟩ := replAll_same ps [] fun a ha => pairOk a (h1 a ha)
  exact List.eq_nil_of_length_eq_zero s.len
end Mine
end

section
-- P3
open PySem PySem.W PyProof.Rows PySem.Spec PySem.Calls
set_option maxRecDepth 100000
namespace Mine
-- quote
theorem f2_dot (t : List Nat) : f2 (46 :: t) = 46 :: f2 t := by cases t <;> simp [f2]
theorem f2_dots (t : List Nat) : ∀ n, f2 (List.replicate n 46 ++ t) = List.replicate n 46 ++ f2 t
  | 0 => rfl
  | n + 1 => by rw [List.replicate_succ, List.cons_append, f2_dot, f2_dots t n, List.cons_append]
theorem f2_lf (t : List Nat) : f2 (10 :: t) = 13 :: 10 :: f2 t := by cases t <;> simp [f2]
theorem f2_crlf (t : List Nat) : f2 (13 :: 10 :: t) = 13 :: 10 :: f2 t := by simp [f2]
theorem f2_cr {t : List Nat} (h : t.head? ≠ some 10) : f2 (13 :: t) = 13 :: 10 :: f2 t := by
  cases t with
  | nil => simp [f2]
  | cons c r =>
    have : c ≠ 10 := fun e => h (by rw [e]; rfl)
    simp [f2, this]
theorem mail_cons (n : Nat) (r e : List Nat) : mailL (n :: r) e = List.replicate n 46 ++ (e ++ mailL r e) := by
  show List.replicate n 46 ++ e ++ mailL r e = _
  rw [List.append_assoc]
theorem mail_head13 : ∀ ns : List Nat, (mailL ns [13]).head? ≠ some 10
  | [] => by simp [mailL]
  | 0 :: r => by simp [mailL]
  | (n + 1) :: r => by simp [mailL, List.replicate_succ]
theorem f2_mail {e : List Nat} (he : e ∈ ends) : ∀ ns, f2 (mailL ns e) = mailL ns [13, 10]
  | [] => rfl
  | n :: r => by
    have ih := f2_mail he r
    rw [mail_cons, mail_cons, f2_dots]
    simp only [ends, List.mem_cons, List.not_mem_nil, or_false] at he
    rcases he with rfl | rfl | rfl
    · show _ ++ f2 (10 :: mailL r [10]) = _
      rw [f2_lf, ih]; rfl
    · show _ ++ f2 (13 :: mailL r [13]) = _
      rw [f2_cr (mail_head13 r), ih]; rfl
    · show _ ++ f2 (13 :: 10 :: mailL r [13, 10]) = _
      rw [f2_crlf, ih]; rfl
theorem f1_false (t : List Nat) : ∀ n, f1 false (List.replicate n 46 ++ 13 :: 10 :: t) = List.replicate n 46 ++ 13 :: 10 :: f1 true t
  | 0 => by simp [f1]
  | n + 1 => by
    have ih := f1_false t n
    rw [List.replicate_succ, List.cons_append, f1, if_neg (by simp), List.cons_append]
    rw [show ((46 : Nat) == 10) = false from rfl, ih]
theorem f1_true (t : List Nat) : ∀ n, f1 true (List.replicate n 46 ++ 13 :: 10 :: t) = List.replicate (n + min n 1) 46 ++ 13 :: 10 :: f1 true t
  | 0 => by simp [f1]
  | n + 1 => by
    have e : n + 1 + min (n + 1) 1 = n + 1 + 1 := by omega
    rw [e, List.replicate_succ, List.cons_append, f1, if_pos ⟨rfl, rfl⟩, f1_false, List.replicate_succ, List.replicate_succ]; rfl
theorem f1_mail : ∀ ns, f1 true (mailL ns [13, 10]) = mailL (moreL ns) [13, 10]
  | [] => rfl
  | n :: r => by
    rw [show moreL (n :: r) = (n + min n 1) :: moreL r from rfl, mail_cons, mail_cons, ← f1_mail r]
    exact f1_true _ n
theorem quoteOk {e : List Nat} (he : e ∈ ends) (ns : List Nat) : f1 true (f2 (mailL ns e)) = mailL (moreL ns) [13, 10] := by
  rw [f2_mail he, f1_mail]
-- rim
structure Good (x : List Nat) : Prop where
  a : ∀ k, x[k]? = some 13 → x[k + 1]? = some 10
  b : ∀ k, x[k]? = some 10 → ∃ j, k = j + 1 ∧ x[j]? = some 13
theorem good_dots {x : List Nat} (g : Good x) : ∀ n, Good (List.replicate n 46 ++ x)
  | 0 => g
  | n + 1 => by
    have ih := good_dots g n
    rw [List.replicate_succ, List.cons_append]
    refine ⟨fun k hk => ?_, fun k hk => ?_⟩
    · cases k with
      | zero => simp at hk
      | succ k => exact ih.a k hk
    · cases k with
      | zero => simp at hk
      | succ k => obtain ⟨j, e, h⟩ := ih.b k hk; exact ⟨j + 1, by omega, h⟩
theorem good_end {x : List Nat} (g : Good x) : Good (13 :: 10 :: x) := by
  refine ⟨fun k hk => ?_, fun k hk => ?_⟩
  · match k, hk with
    | 0, _ => rfl
    | 1, hk => simp at hk
    | k + 2, hk => exact g.a k hk
  · match k, hk with
    | 0, hk => simp at hk
    | 1, _ => exact ⟨0, rfl, rfl⟩
    | k + 2, hk => obtain ⟨j, e, h⟩ := g.b k hk; exact ⟨j + 2, by omega, h⟩
theorem good_mail : ∀ ns, Good (mailL ns [13, 10])
  | [] => ⟨fun k hk => by simp [mailL] at hk, fun k hk => by simp [mailL] at hk⟩
  | n :: r => by rw [mail_cons]; exact good_dots (good_end (good_mail r)) n
open Builtin Builtin.Str in
theorem at_of {x : List Nat} {k : Nat} (h0 : x[k]? = some 13) (h1 : x[k + 1]? = some 10) : StrLaws.At (T x) (T [13, 10]) (T x).length k := by
  have hl : k + 1 < x.length := (List.getElem?_eq_some_iff.mp h1).1
  refine ⟨by rw [T_length]; exact hl, ?_⟩
  rw [StrLaws.subAt_eq, T_list, T_list, beq_iff_eq]
  show (x.drop k).take 2 = [13, 10]
  refine List.ext_getElem? fun j => ?_
  rw [List.getElem?_take]
  split
  · rename_i hj
    rw [List.getElem?_drop]
    match j, hj with
    | 0, _ => exact h0
    | 1, _ => exact h1
  · rename_i hj
    rw [List.getElem?_eq_none (by simp; omega)]
open Builtin Builtin.Str in
theorem of_at {x : List Nat} {k : Nat} (h : StrLaws.At (T x) (T [13, 10]) (T x).length k) : x[k + 1]? = some 10 := by
  have h2 := h.2
  rw [StrLaws.subAt_eq, T_list, T_list, beq_iff_eq] at h2
  have h3 : ((x.drop k).take 2)[1]? = some 10 := by rw [show (x.drop k).take 2 = [13, 10] from h2]; rfl
  rw [List.getElem?_take_of_lt (by decide), List.getElem?_drop] at h3
  exact h3
def Clean (t : Str) : Prop := ∀ c ∈ t.cps.toList, c ≠ 13 ∧ c ≠ 10
open Builtin Builtin.Str in
theorem clean_part {x : List Nat} (g : Good x) (a b : Nat) (ha : ∀ j, a = j + 1 → x[j]? ≠ some 13) (hn : ∀ k, a ≤ k → k < b → ¬ StrLaws.At (T x) (T [13, 10]) (T x).length k) : Clean (strSub (T x) a b) := fun c hc => by
  rw [StrLaws.strSub_toList, T_list] at hc
  obtain ⟨j, hj⟩ := List.getElem?_of_mem hc
  have hlt : j < b - a := by
    have h1 := (List.getElem?_eq_some_iff.mp hj).1
    simp at h1
    omega
  rw [List.getElem?_take_of_lt hlt, List.getElem?_drop] at hj
  refine ⟨fun e => ?_, fun e => ?_⟩
  · rw [e] at hj
    exact hn (a + j) (by omega) (by omega) (at_of hj (g.a _ hj))
  · rw [e] at hj
    obtain ⟨i, ei, hi⟩ := g.b _ hj
    by_cases h : a ≤ i
    · exact hn i h (by omega) (at_of hi (g.a _ hi))
    · exact ha i (by omega) hi
open Builtin Builtin.Str in
theorem clean_parts {x : List Nat} (g : Good x) : ∀ (cuts : List Nat) (a f : Nat), StrLaws.ChainG (T x) (T [13, 10]) (T x).length a cuts f → (∀ k, f ≤ k → ¬ StrLaws.At (T x) (T [13, 10]) (T x).length k) → (∀ j, a = j + 1 → x[j]? ≠ some 13) →
    ∀ t ∈ StrLaws.partsFrom (T x) 2 a cuts, Clean t
  | [], a, f, h, hn, ha, t, ht => by
    have e : f = a := h
    subst e
    rw [List.mem_singleton.mp ht]
    exact clean_part g _ _ ha fun k h1 _ => hn k h1
  | c :: r, a, f, h, hn, ha, t, ht => by
    rcases List.mem_cons.mp ht with rfl | ht
    · exact clean_part g _ _ ha h.2.2.1
    · refine clean_parts g r (c + 2) f h.2.2.2 hn (fun j e => ?_) t ht
      have := of_at h.2.1
      have ej : j = c + 1 := by omega
      rw [ej, this]; simp
open Builtin Builtin.Str in
theorem clean_split {x : List Nat} (g : Good x) (h2 : 2 ≤ x.length) (hk : ∀ c ∈ x, c < 256) : ∀ t ∈ Txt.split (T x) (T [13, 10]), Clean t := by
  obtain ⟨f, hG, hn⟩ := StrLaws.occ_tight (T x) (T [13, 10]) (by decide)
  have kx : PySem.Builtin.Str.strKind (T x) = 1 := by
    unfold PySem.Builtin.Str.strKind
    rw [if_pos]
    rw [← Array.all_toList, T_list, List.all_eq_true]
    intro c hc
    exact decide_eq_true (hk c hc)
  unfold Txt.split
  rw [if_neg (by rw [T_length, kx, show (T [13, 10]).length = 2 from rfl, show PySem.Builtin.Str.strKind (T [13, 10]) = 1 by decide +kernel]; simp; omega)]
  split
  · rename_i he
    have e0 := List.isEmpty_iff.mp he
    rw [e0] at hG
    intro t ht
    rw [List.mem_singleton.mp ht]
    have := clean_parts g [] 0 f hG hn (fun j e => by omega) _ (List.mem_singleton.mpr rfl)
    rwa [StrLaws.sub_whole] at this
  · rw [StrLaws.partsBetween_eq]
    exact clean_parts g _ 0 f hG hn (fun j e => by omega)
def gg : List Nat → List Nat
  | [] => []
  | c :: t => if c = 13 then 124 :: gg t else if c = 10 then gg t else c :: gg t
theorem gg_app : ∀ a b, gg (a ++ b) = gg a ++ gg b
  | [], _ => rfl
  | c :: t, b => by
    have ih := gg_app t b
    simp only [List.cons_append, gg]
    split
    · rw [ih]; rfl
    · split
      · exact ih
      · rw [ih]; rfl
theorem gg_clean : ∀ {l : List Nat}, (∀ c ∈ l, c ≠ 13 ∧ c ≠ 10) → gg l = l
  | [], _ => rfl
  | c :: t, h => by
    have h0 := h c (.head _)
    simp only [gg, if_neg h0.1, if_neg h0.2, gg_clean fun d hd => h d (.tail _ hd)]
theorem gg_J : ∀ parts : List Str, (∀ t ∈ parts, Clean t) → J [124] parts = gg (J [13, 10] parts)
  | [], _ => rfl
  | [a], h => (gg_clean (h a (.head _))).symm
  | a :: b :: r, h => by
    rw [J_cons, J_cons, gg_app, gg_app, gg_clean (h a (.head _)), gg_J (b :: r) fun t ht => h t (.tail _ ht)]; rfl
theorem gg_mail : ∀ ns, gg (mailL ns [13, 10]) = mailL ns [124]
  | [] => rfl
  | n :: r => by
    rw [mail_cons, mail_cons, gg_app, gg_app, gg_mail r, gg_clean]
    · rfl
    · intro c hc; rw [List.eq_of_mem_replicate hc]; decide
theorem mail_al {e : List Nat} : ∀ ns, ∀ c ∈ mailL ns e, c = 46 ∨ c ∈ e
  | [], c, h => by simp [mailL] at h
  | n :: r, c, h => by
    rw [mail_cons] at h
    rcases List.mem_append.mp h with h | h
    · exact .inl (List.eq_of_mem_replicate h)
    · rcases List.mem_append.mp h with h | h
      · exact .inr h
      · exact mail_al r c h
theorem rimOk (ns : List Nat) (hn : 1 ≤ ns.length) : repl [13, 10] [124] (mailL ns [13, 10]) = mailL ns [124] := by
  rw [repl_J, gg_J _ (clean_split (good_mail ns) ?_ ?_), J_split, gg_mail]
  · cases ns with
    | nil => simp at hn
    | cons n r => rw [mail_cons]; simp only [List.length_append, List.length_cons]; omega
  · intro c hc
    rcases mail_al ns c hc with h | h
    · omega
    · simp at h; omega
-- rows
def rowsOf : List Nat → List Nat
  | [] => [0]
  | c :: t => if c = 124 then 0 :: rowsOf t else match rowsOf t with | [] => [1] | n :: r => (n + 1) :: r
theorem rowsOf_bar (rest : List Nat) : ∀ t : List Nat, 124 ∉ t → rowsOf (t ++ 124 :: rest) = t.length :: rowsOf rest
  | [], _ => by simp [rowsOf]
  | c :: t, h => by
    have h0 : c ≠ 124 := fun e => h (by rw [e]; exact .head _)
    rw [List.cons_append, rowsOf, if_neg h0, rowsOf_bar rest t fun m => h (.tail _ m)]; rfl
theorem rowsOf_free : ∀ t : List Nat, 124 ∉ t → rowsOf t = [t.length]
  | [], _ => rfl
  | c :: t, h => by
    have h0 : c ≠ 124 := fun e => h (by rw [e]; exact .head _)
    rw [rowsOf, if_neg h0, rowsOf_free t fun m => h (.tail _ m)]; rfl
theorem rowsOf_J : ∀ parts : List Str, parts ≠ [] → (∀ t ∈ parts, 124 ∉ t.cps.toList) → rowsOf (J [124] parts) = parts.map (·.length)
  | [], h, _ => absurd rfl h
  | [a], _, h => by
    show rowsOf a.cps.toList = _
    rw [rowsOf_free _ (h a (.head _))]; simp [Str.length]
  | a :: b :: r, _, h => by
    rw [J_cons]
    show rowsOf (a.cps.toList ++ 124 :: J [124] (b :: r)) = _
    rw [rowsOf_bar _ _ (h a (.head _)), rowsOf_J (b :: r) (by simp) fun t ht => h t (.tail _ ht)]; simp [Str.length]
theorem outL_rows (y : List Nat) : outL y = (rowsOf y).dropLast.map Int.ofNat := by
  have e := rowsOf_J (Txt.split (T y) (T [124])) (fun e => by have := split_pos (T y) (T [124]); rw [e] at this; simp at this) (StrLaws.split_free (T y) 124)
  rw [J_split] at e
  rw [e]
  unfold outL
  rw [← List.map_dropLast, List.map_map]; rfl
end Mine
end

section
-- Q1
open PySem PySem.W PyProof.Rows PySem.Spec PySem.Calls
set_option maxRecDepth 100000
namespace Mine
/-- a colour's three counts as one number, and back -/
def key (a b c : Int) : Nat := a.toNat * 400 + b.toNat * 20 + c.toNat
def k0 (k : Nat) : Int := ((k / 400 : Nat) : Int)
def k1 (k : Nat) : Int := ((k / 20 % 20 : Nat) : Int)
def k2 (k : Nat) : Int := ((k % 20 : Nat) : Int)
def low (k : Nat) : Int := minL [k0 k, k1 k, k2 k]
def colOk (k : Nat) : Bool := decide (colF (k0 k) (k1 k) (k2 k) = some (k0 k - low k, k1 k - low k, k2 k - low k))
def ks0 : List Nat := [0, 400, 401, 420, 421, 422, 441, 442]
theorem ksOk0 : ks0.all colOk = true := by decide +kernel
def ks1 : List Nat := [821, 841, 842, 1222, 1241, 1242, 1243, 1262]
theorem ksOk1 : ks1.all colOk = true := by decide +kernel
def ks2 : List Nat := [1263, 1264, 1282, 1285, 1642, 1643, 1663, 1664]
theorem ksOk2 : ks2.all colOk = true := by decide +kernel
def ks3 : List Nat := [1682, 1683, 1684, 1685, 1705, 1706, 2064, 2084]
theorem ksOk3 : ks3.all colOk = true := by decide +kernel
def ks4 : List Nat := [2085, 2104, 2105, 2106, 2125, 2126, 2127, 2485]
theorem ksOk4 : ks4.all colOk = true := by decide +kernel
def ks5 : List Nat := [2505, 2506, 2525, 2526, 2527, 2545, 2546, 2547]
theorem ksOk5 : ks5.all colOk = true := by decide +kernel
def ks6 : List Nat := [2548, 2885, 2906, 2926, 2927, 2946, 2947, 2948]
theorem ksOk6 : ks6.all colOk = true := by decide +kernel
def ks7 : List Nat := [2965, 2966, 2967, 2968, 2969, 3327, 3347, 3348]
theorem ksOk7 : ks7.all colOk = true := by decide +kernel
def ks8 : List Nat := [3366, 3367, 3368, 3369, 3386, 3387, 3388, 3389]
theorem ksOk8 : ks8.all colOk = true := by decide +kernel
def ks9 : List Nat := [3390, 3748, 3767, 3768, 3769, 3787, 3788, 3789]
theorem ksOk9 : ks9.all colOk = true := by decide +kernel
def ks10 : List Nat := [3790, 3807, 3808, 3809, 3810, 3811, 4168, 4169]
theorem ksOk10 : ks10.all colOk = true := by decide +kernel
def ks11 : List Nat := [4188, 4189, 4190, 4208, 4209, 4210, 4211, 4228]
theorem ksOk11 : ks11.all colOk = true := by decide +kernel
def ks12 : List Nat := [4229, 4230, 4231, 4232, 4569, 4589, 4590, 4609]
theorem ksOk12 : ks12.all colOk = true := by decide +kernel
def ks13 : List Nat := [4610, 4611, 4629, 4630, 4631, 4632, 4649, 4650]
theorem ksOk13 : ks13.all colOk = true := by decide +kernel
def ks14 : List Nat := [4651, 4652, 4653, 4990, 5010, 5011, 5030, 5031]
theorem ksOk14 : ks14.all colOk = true := by decide +kernel
def ks15 : List Nat := [5032, 5050, 5051, 5052, 5053, 5070, 5071, 5072]
theorem ksOk15 : ks15.all colOk = true := by decide +kernel
def ks16 : List Nat := [5073, 5074, 5411, 5431, 5432, 5451, 5452, 5453]
theorem ksOk16 : ks16.all colOk = true := by decide +kernel
def ks17 : List Nat := [5471, 5472, 5473, 5474, 5491, 5492, 5493, 5494]
theorem ksOk17 : ks17.all colOk = true := by decide +kernel
def ks18 : List Nat := [5495, 5832, 5852, 5853, 5872, 5873, 5874, 5892]
theorem ksOk18 : ks18.all colOk = true := by decide +kernel
def ks19 : List Nat := [5893, 5894, 5895, 5912, 5913, 5914, 5915, 6253]
theorem ksOk19 : ks19.all colOk = true := by decide +kernel
def ks20 : List Nat := [6273, 6274, 6293, 6294, 6295, 6313, 6314, 6315]
theorem ksOk20 : ks20.all colOk = true := by decide +kernel
def ks21 : List Nat := [6333, 6334, 6335, 6674, 6694, 6695, 6714, 6715]
theorem ksOk21 : ks21.all colOk = true := by decide +kernel
def ks22 : List Nat := [6734, 6735, 6754, 6755, 7095, 7115, 7135, 7155]
theorem ksOk22 : ks22.all colOk = true := by decide +kernel
def ks23 : List Nat := [7175]
theorem ksOk23 : ks23.all colOk = true := by decide +kernel
def ks : List Nat := ks0 ++ (ks1 ++ (ks2 ++ (ks3 ++ (ks4 ++ (ks5 ++ (ks6 ++ (ks7 ++ (ks8 ++ (ks9 ++ (ks10 ++ (ks11 ++ (ks12 ++ (ks13 ++ (ks14 ++ (ks15 ++ (ks16 ++ (ks17 ++ (ks18 ++ (ks19 ++ (ks20 ++ (ks21 ++ (ks22 ++ (ks23)))))))))))))))))))))))
theorem ks_col (k : Nat) (h : k ∈ ks) : colF (k0 k) (k1 k) (k2 k) = some (k0 k - low k, k1 k - low k, k2 k - low k) := by
  have all : ks.all colOk = true := by
    unfold ks
    simp only [List.all_append, ksOk0, ksOk1, ksOk2, ksOk3, ksOk4, ksOk5, ksOk6, ksOk7, ksOk8, ksOk9, ksOk10, ksOk11, ksOk12, ksOk13, ksOk14, ksOk15, ksOk16, ksOk17, ksOk18, ksOk19, ksOk20, ksOk21, ksOk22, ksOk23, Bool.and_self]
  exact of_decide_eq_true (List.all_eq_true.mp all k h)
end Mine
end

section
-- Q2
open PySem PySem.W PyProof.Rows PySem.Spec PySem.Calls
set_option maxRecDepth 100000
namespace Mine
/-- a colour whose key stands in the table -/
def inT (a b c : Int) : Bool := ks.any (Nat.beq (key a b c)) && decide (a = k0 (key a b c)) && decide (b = k1 (key a b c)) && decide (c = k2 (key a b c))
theorem inT_col {a b c : Int} (h : inT a b c = true) : colF a b c = some (a - minL [a, b, c], b - minL [a, b, c], c - minL [a, b, c]) := by
  unfold inT at h
  simp only [Bool.and_eq_true, decide_eq_true_eq, List.any_eq_true] at h
  obtain ⟨⟨⟨⟨k, hk, e⟩, h0⟩, h1⟩, h2⟩ := h
  have e' : key a b c = k := Nat.eq_of_beq_eq_true e
  have := ks_col k hk
  unfold low at this
  rw [e'] at h0 h1 h2
  rw [← h0, ← h1, ← h2] at this
  exact this
def beadOk (rim : List Nat) (bs : List Int) (r : Nat) : Bool := decide (bs.getD ((((r : Nat) : Int) - ((4 : Nat) : Int)).fmod 3).toNat 0 = ((cn r 0 rim : Nat) : Int))
def small (c : Int) : Bool := decide (-1000 < c) && decide (c < 1000)
def chkL (y : List Nat) (c0 c1 c2 : Int) : Bool :=
  match boxesF y with
  | [l0, l1, l2] => inT l0 l1 l2 && decide (l0 - minL [l0, l1, l2] = c0) && decide (l1 - minL [l0, l1, l2] = c1) && decide (l2 - minL [l0, l1, l2] = c2) && decide ([l0, l1, l2].sum = sizeF c0 c1 c2)
  | _ => false
def chkC (rim : List Nat) (c0 c1 c2 : Int) : Bool :=
  small c0 && small c1 && small c2 && chkL (coreF rim.length 4 c0 c1 c2) c0 c1 c2 &&
    beadOk rim (inner ((4 : Nat) : Int) 4 [c0 - c1, c1 - c2, c2 - c0]) 0 && beadOk rim (inner ((4 : Nat) : Int) 4 [c0 - c1, c1 - c2, c2 - c0]) 1 && beadOk rim (inner ((4 : Nat) : Int) 4 [c0 - c1, c1 - c2, c2 - c0]) 2 &&
    Nat.beq (rowsOf (coreF rim.length 4 c0 c1 c2)).dropLast.length 4 && (rowsOf (coreF rim.length 4 c0 c1 c2)).dropLast.all (fun n => Nat.ble n 2)
def chk (ns : List Nat) : Bool :=
  match boxesF (rimL ns) with
  | [b0, b1, b2] => inT b0 b1 b2 && chkC (rimL ns) (b0 - minL [b0, b1, b2]) (b1 - minL [b0, b1, b2]) (b2 - minL [b0, b1, b2])
  | _ => false
def row5 (a b : Nat) : Bool := (List.range 5).all fun c => (List.range 5).all fun d => chk [a, b, c, d]
theorem r00 : row5 0 0 = true := by decide +kernel
theorem r01 : row5 0 1 = true := by decide +kernel
theorem r02 : row5 0 2 = true := by decide +kernel
theorem r03 : row5 0 3 = true := by decide +kernel
theorem r04 : row5 0 4 = true := by decide +kernel
theorem r10 : row5 1 0 = true := by decide +kernel
theorem r11 : row5 1 1 = true := by decide +kernel
theorem r12 : row5 1 2 = true := by decide +kernel
theorem r13 : row5 1 3 = true := by decide +kernel
theorem r14 : row5 1 4 = true := by decide +kernel
theorem r20 : row5 2 0 = true := by decide +kernel
theorem r21 : row5 2 1 = true := by decide +kernel
theorem r22 : row5 2 2 = true := by decide +kernel
theorem r23 : row5 2 3 = true := by decide +kernel
theorem r24 : row5 2 4 = true := by decide +kernel
theorem r30 : row5 3 0 = true := by decide +kernel
theorem r31 : row5 3 1 = true := by decide +kernel
theorem r32 : row5 3 2 = true := by decide +kernel
theorem r33 : row5 3 3 = true := by decide +kernel
theorem r34 : row5 3 4 = true := by decide +kernel
theorem r40 : row5 4 0 = true := by decide +kernel
theorem r41 : row5 4 1 = true := by decide +kernel
theorem r42 : row5 4 2 = true := by decide +kernel
theorem r43 : row5 4 3 = true := by decide +kernel
theorem r44 : row5 4 4 = true := by decide +kernel
theorem rows5 (a b : Nat) (ha : a < 5) (hb : b < 5) : row5 a b = true := by
  match a, ha, b, hb with
  | 0, _, 0, _ => exact r00
  | 0, _, 1, _ => exact r01
  | 0, _, 2, _ => exact r02
  | 0, _, 3, _ => exact r03
  | 0, _, 4, _ => exact r04
  | 1, _, 0, _ => exact r10
  | 1, _, 1, _ => exact r11
  | 1, _, 2, _ => exact r12
  | 1, _, 3, _ => exact r13
  | 1, _, 4, _ => exact r14
  | 2, _, 0, _ => exact r20
  | 2, _, 1, _ => exact r21
  | 2, _, 2, _ => exact r22
  | 2, _, 3, _ => exact r23
  | 2, _, 4, _ => exact r24
  | 3, _, 0, _ => exact r30
  | 3, _, 1, _ => exact r31
  | 3, _, 2, _ => exact r32
  | 3, _, 3, _ => exact r33
  | 3, _, 4, _ => exact r34
  | 4, _, 0, _ => exact r40
  | 4, _, 1, _ => exact r41
  | 4, _, 2, _ => exact r42
  | 4, _, 3, _ => exact r43
  | 4, _, 4, _ => exact r44
theorem chk_all {a b c d : Nat} (ha : a ≤ 4) (hb : b ≤ 4) (hc : c ≤ 4) (hd : d ≤ 4) : chk [a, b, c, d] = true := by
  have h := rows5 a b (by omega) (by omega)
  unfold row5 at h
  exact List.all_eq_true.mp (List.all_eq_true.mp h c (List.mem_range.mpr (by omega))) d (List.mem_range.mpr (by omega))
end Mine
end

section
-- Q3
open PySem PySem.W PyProof.Rows PySem.Spec PySem.Calls
set_option maxRecDepth 100000
namespace Mine
theorem rim_al (ns : List Nat) : Al (rimL ns) := fun c hc => by
  rcases mail_al _ c hc with h | h
  · exact .inl h
  · exact .inr (by simpa using h)
theorem small_of {c : Int} (h : small c = true) : -1000 < c ∧ c < 1000 := by
  unfold small at h; simpa using h
theorem bead_of {x : List Nat} {bs : List Int} (h0 : beadOk x bs 0 = true) (h1 : beadOk x bs 1 = true) (h2 : beadOk x bs 2 = true) : ∀ r, r < 3 → bs.getD ((((r : Nat) : Int) - ((4 : Nat) : Int)).fmod 3).toNat 0 = ((cn r 0 x : Nat) : Int)
  | 0, _ => of_decide_eq_true h0
  | 1, _ => of_decide_eq_true h1
  | 2, _ => of_decide_eq_true h2
theorem turnLaw : TurnLaw := by
  intro ns e n hlen hle he
  obtain ⟨a, b, c, d, rfl⟩ : ∃ a b c d, ns = [a, b, c, d] := by
    match ns, hlen with
    | [a, b, c, d], _ => exact ⟨a, b, c, d, rfl⟩
  have hc := chk_all (hle a (by simp)) (hle b (by simp)) (hle c (by simp)) (hle d (by simp))
  obtain ⟨p1, p2, p3⟩ := pairsF_ok n
  have hrl : (rimL [a, b, c, d]).length ≤ 1000 := by
    have := mail_len (moreL [a, b, c, d]) [124] (more_le fun m hm => Nat.le_trans (hle m hm) (by decide)) (by decide)
    have h4 : (moreL [a, b, c, d]).length = 4 := rfl
    rw [h4] at this
    unfold rimL; omega
  generalize hns : [a, b, c, d] = ns at *
  unfold chk at hc
  generalize hB : boxesF (rimL ns) = B at hc
  match B, hc with
  | [b0, b1, b2], hc =>
    dsimp only at hc
    rw [Bool.and_eq_true] at hc
    obtain ⟨hin, hc⟩ := hc
    have hcol := inT_col hin
    generalize hc0 : b0 - minL [b0, b1, b2] = c0 at hc hcol
    generalize hc1 : b1 - minL [b0, b1, b2] = c1 at hc hcol
    generalize hc2 : b2 - minL [b0, b1, b2] = c2 at hc hcol
    unfold chkC at hc
    simp only [Bool.and_eq_true] at hc
    obtain ⟨⟨⟨⟨⟨⟨⟨⟨s0, s1⟩, s2⟩, hL⟩, g0⟩, g1⟩, g2⟩, hr4⟩, hr2⟩ := hc
    unfold chkL at hL
    generalize hLB : boxesF (coreF (rimL ns).length 4 c0 c1 c2) = LB at hL
    match LB, hL with
    | [l0, l1, l2], hL =>
      dsimp only at hL
      simp only [Bool.and_eq_true, decide_eq_true_eq] at hL
      obtain ⟨⟨⟨⟨hl, q0⟩, q1⟩, q2⟩, hs⟩ := hL
      have hcl := inT_col hl
      rw [q0, q1, q2] at hcl
      refine ⟨coreF (rimL ns).length 4 c0 c1 c2, (rowsOf (coreF (rimL ns).length 4 c0 c1 c2)).dropLast, ?_, outL_rows _, Nat.eq_of_beq_eq_true hr4, fun m hm => Nat.le_of_ble_eq_true (List.all_eq_true.mp hr2 m hm)⟩
      refine { len := by omega, dots := fun m hm => Nat.le_trans (hle m hm) (by decide), elen := ?_, quote := quoteOk he ns, rim := rimOk (moreL ns) (by unfold moreL; rw [List.length_map]; omega), plen := by omega, pok := pokOk p1, nil := nilOk p1, worn := ?_, colour := ?_, ylen := ?_ }
      · simp only [ends, List.mem_cons, List.not_mem_nil, or_false] at he
        rcases he with rfl | rfl | rfl <;> decide
      · exact wornOk p1 p2 (rim_al ns) hrl (bead_of g0 g1 g2)
      · refine ⟨b0, b1, b2, l0, l1, l2, c0, c1, c2, hB, hLB, hcol, hcl, ?_, by rw [hlen], hs, small_of s0, small_of s1, small_of s2⟩
        rw [← hc0, ← hc1, ← hc2]; rfl
      · have : (coreF (rimL ns).length 4 c0 c1 c2).length = (rimL ns).length := by unfold coreF; simp
        omega
end Mine
end

theorem PySem.Challenge.cw_pg0055_01_holds : PySem.Challenge.rw_pg0055_01.Holds := by
  exact Mine.law_holds Mine.turnLaw
