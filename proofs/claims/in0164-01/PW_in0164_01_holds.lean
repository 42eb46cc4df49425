import PyProof.Rows.All
import Wide.All
import Open.Line
import OpenK.KCell
import OpenK.KCall
import PyProof.CodeObjX
import PyProof.DefMake
import PyProof.Rows.HelperG
import PyProof.CallTypeRange
import Wide.FinOn
import Lean
import PySem.Challenge.RW_in0164_01
open PySem PySem.W PyProof.Rows
set_option Elab.async false
set_option linter.unusedVariables false
set_option linter.unusedSimpArgs false
set_option maxRecDepth 100000
set_option bootstrap.genMatcherCode false
set_option genSizeOf false
set_option genSizeOfSpec false
set_option compiler.extract_closed false
set_option backward.eqns.nonrecursive false
set_option tactic.hygienic false
local macro_rules | `(tactic| omega) => `(tactic| lia)

namespace Mine
section
theorem hide {G : Prop} (h : ∀ H : Prop, (G → H) → H) : G := h G id
inductive CodeHd (h : Heap) (c P : Addr) : Prop
  | mk (o : Obj) (vs : Array Value) (file : Str) (tf : Tok) (flags : Int) (tg : Tok) (inF : Bool) (text : Int) (tt : Tok) (out : h.get? c = some o) (cls : o.cls = .type "code") (data : o.data = .fields vs) (tab : vs[11]? = some (.ref P)) (tab' : vs.getD 11 .none = .ref P)
    (e1 : vs.getD 18 .none = .str file tf) (e2 : vs.getD 7 .none = .int flags tg) (e3 : vs.getD 9 .none = .bool inF) (e4 : vs.getD 10 .none = .int text tt) (ne : c ≠ P)
theorem CodeHd.keeps {h h' : Heap} {c P : Addr} (x : CodeHd h c P) (k : ∀ b o, h.get? b = some o → h'.get? b = some o) : CodeHd h' c P :=
  x.casesOn fun o vs f tf fl tg b t tt e e1 e2 e3 e4 e5 e6 e7 e8 n => .mk o vs f tf fl tg b t tt (k _ _ e) e1 e2 e3 e4 e5 e6 e7 e8 n
theorem CodeHd.tab {h : Heap} {c P : Addr} {ps : Array Value} (x : CodeHd h c P) (hP : h.get? P = some { cls := .none, data := .fields ps }) : h.TableAt c P ps :=
  x.casesOn fun o vs f tf fl tg b t tt e e1 e2 e3 e4 e5 e6 e7 e8 n => ⟨⟨o, vs, e, e1, e2, e3⟩, hP⟩
theorem CodeHd.code {h : Heap} {c P : Addr} {ps : Array Value} (x : CodeHd h c P) (hP : h.get? P = some { cls := .none, data := .fields ps }) (ht : TriplesOk ps.toList) : h.IsCode c P ps :=
  x.casesOn fun o vs f tf fl tg b t tt e e1 e2 e3 e4 e5 e6 e7 e8 n => ⟨o, vs, f, tf, fl, tg, b, t, tt, _, e, e2, e4, e5, e6, e7, e8, hP, rfl, ht, n⟩
noncomputable abbrev lamFd (name qual : Str) (params : Arguments) (body : Expr) (scope : Scope) (cl : List (Str × Addr)) (pm cdv ct : Value) : FuncData :=
  { name, qualname := qual, params, body := .expr body, scope, globals := mainGlobals, closure := cl, defaults := .none, kwdefaults := .none, doc := .none, pyModule := pm, annotations := none, code := cdv, closureTuple := ct, builtins := builtinsNs }
noncomputable abbrev lamObj (name qual : Str) (params : Arguments) (body : Expr) (scope : Scope) (cl : List (Str × Addr)) (pm : Value) (c' : Addr) (ct : Value) : Obj := { cls := .type "function", data := .func (lamFd name qual params body scope cl pm (.ref c') ct) }
section
variable {prog : Program} {w : World} {A : Around} {R : Result → Shared → Prop} {s : Shared}
theorem lamCall {a c : Addr} {args : Args} {o oc : Obj} {fd : FuncData} {body : Expr} {vs : Array Value} {tq : Tok} (hroom : A.depth < recursionLimit) (ho : s.heap.get? a = some o) (hd : o.data = .func fd) (h1 : fd.scope.isCoroutine = false) (h2 : fd.scope.isGenerator = false) (h3 : fd.body = .expr body)
    (h4 : fd.code = .ref c) (h5 : s.heap.get? c = some oc) (h6 : oc.data = .fields vs) (h7 : vs[1]? = some (.str fd.qualname tq))
    (h : wpAny (model prog w) A.in1 (bindArgs fd args) (fun binds s₁ => wpAny (model prog w) A.in1 (newFunctionEnv fd.scope fd.globals fd.closure binds (fd.qualname ++ ".<locals>.") (some a) fd.code none fd.builtins)
        (fun env s₂ => s₂.heap.NoLimit ∧ codeAny (model prog w) A (.expr body env) R s₂) (fun e s' => R (.error e) s') s₁) (fun e s' => R (.error e) s') s) : codeAny (model prog w) A (.call (.ref a) args) R s := by
  apply codeAny_of_tree
  change wpAny _ A.in1 (callAny (.ref a) args) _ _ s
  unfold callAny
  apply wpAny_bind
  apply wpAny_load ho
  rw [h4] at h
  simp only [hd, callFunction, h1, h2, h3, h4]
  apply wpAny_bind (m := field (.ref c) 1)
  apply wpAny_field h5 h6 h7
  apply wpAny_bind
  apply wpAny_pure
  apply wpAny_bind
  refine wpAny_mono h (fun binds s₁ k => ?_) fun _ _ k => k
  apply wpAny_bind
  refine wpAny_mono k (fun env s₂ k2 => ?_) fun _ _ k => k
  exact wpAny_bind (wpAny_enterFrame k2.1 hroom (wpAny_pure ⟨rfl, k2.2⟩))
theorem lamBody {e : Expr} {env : Env} (h : wpAny (model prog w) (A.deeper env) (eval e env) (fun v s' => R (.ok (.ret v)) s') (fun e' s' => wpAny (model prog w) (A.deeper env) (leaving env e') (fun _ s'' => R (.error e') s'') (fun e'' s'' => R (.error e'') s'') s') s) :
    codeAny (model prog w) A (.expr e env) R s := by
  apply codeAny_of_tree
  change wpAny _ (A.deeper env) (do point; ret (← (eval e env).onRaise (leaving env))) _ _ s
  apply wpAny_bind
  apply wpAny_point
  apply wpAny_bind
  apply wpAny_onRaise
  exact wpAny_mono h (fun _ _ k => wpAny_pure k) fun _ _ k => k
theorem lamEval {M : Model} {E : Value → Shared → Prop} {Q : Value → Shared → Prop} {env : Env} {params : Arguments} {body : Expr} {scope : Scope} {pos : Pos} (hdef : defaultsOf params env = ([], []))
    (h : wpAny M A (makeFunction "<lambda>" (env.qual ++ "<lambda>") params (.expr body) scope env [] [] [] pos pos.line) Q E s) : wpAny M A (eval (.Lambda params body scope pos) env) Q E s := by
  rw [arm_eval_Lambda, hdef]
  change wpAny M A (do let dv ← evalAll []; let kdv ← holding dv (evalAllOpt []); makeFunction "<lambda>" (env.qual ++ "<lambda>") params (.expr body) scope env dv kdv [] pos pos.line) Q E s
  apply wpAny_bind
  apply wpAny_pure
  apply wpAny_bind
  apply wpAny_holding
  exact wpAny_pure h
end
inductive V where
  | none | bool (b : Bool) | int (i : Int) | str (s : List Nat) | tup (vs : List V) | lst (i : Nat) | ob (i : Nat) | rol (is : List Int)
inductive Cell where
  | list (vs : List V) | obj
noncomputable abbrev Sto := List Cell
inductive Wv where
  | v (x : V) | app (i : Nat)
noncomputable abbrev Vars := String → Option Wv
structure Ct where
  prog : Program
  w : World
  base : Heap
  mg : Str → Option Value
  mb : Str → Option Value
  os : OsState
  exs : List Addr := []
mutual
inductive VR (B : Heap) (μ : List Addr) (h : Heap) : V → Value → Prop
  | none : VR B μ h .none .none
  | bool (b : Bool) : VR B μ h (.bool b) (.bool b)
  | int (i : Int) (t : Tok) : VR B μ h (.int i) (.int i t)
  | str (s : List Nat) (t : Tok) : VR B μ h (.str s) (.str ⟨s.toArray⟩ t)
  | tup {a : Addr} {items : List Value} {vs : List V} {n : Nat} : IsT h a items.toArray n → VRs B μ h vs items → VR B μ h (.tup vs) (.ref a)
  | lst {i : Nat} {a : Addr} : μ[i]? = some a → VR B μ h (.lst i) (.ref a)
  | ob {i : Nat} {a : Addr} : μ[i]? = some a → VR B μ h (.ob i) (.ref a)
  | rol {a : Addr} {items : List Value} {is : List Int} : B.IsList a items.toArray → IntsAre items is → VR B μ h (.rol is) (.ref a)
inductive VRs (B : Heap) (μ : List Addr) (h : Heap) : List V → List Value → Prop
  | nil : VRs B μ h [] []
  | cons {v : V} {x : Value} {vs : List V} {xs : List Value} : VR B μ h v x → VRs B μ h vs xs → VRs B μ h (v :: vs) (x :: xs)
end
noncomputable def objO : Obj := { cls := .type "object" }
inductive CellR (B : Heap) (μ : List Addr) (h : Heap) (a : Addr) : Cell → Prop
  | list {items : List Value} {vs : List V} {n : Nat} : IsL h a items.toArray n → VRs B μ h vs items → CellR B μ h a (.list vs)
  | obj : h.get? a = some objO → CellR B μ h a .obj
inductive EnvFn' (mg : Str → Option Value) (B : Heap) (env : Env) : Prop
  | mk (d : DefRec) (a : Addr) (o : Obj) (pm code doc : Value) : d ∈ recsOf PySem.Challenge.pw_in0164_01 → mg d.name = some (.ref a) → B.get? a = some o → o.data = .func (Calls.docDef d.name d.params d.body d.scope pm code doc) → env.scope = d.scope → env.code = code → env.qual = d.name ++ ".<locals>." → EnvFn' mg B env
noncomputable abbrev EnvFn (C : Ct) (env : Env) : Prop := EnvFn' C.mg C.base env
inductive FrOk' (mg : Str → Option Value) (B h : Heap) (env : Env) : Prop
  | mk (L : Addr) (o : Obj) (es : Array DictEntry) (n : Nat) : env.frame = some L → B.get? L = none → h.get? L = some o → o.data = .dict es n → env.scope.kind ≠ .module ∧ EnvFn' mg B env → FrOk' mg B h env
noncomputable abbrev FrOk (C : Ct) (h : Heap) (env : Env) : Prop := FrOk' C.mg C.base h env
noncomputable abbrev tabO (ps : Array Value) : Obj := { cls := .none, data := .fields ps }
noncomputable abbrev tabA : Addr := 89
noncomputable abbrev codeA : Addr := 93
noncomputable abbrev lamQ : Str := Str.ofString "_translate.<locals>.<lambda>"
noncomputable abbrev lamPos : Pos := ⟨85, 39, 85, 76⟩
noncomputable def OC (c : Value) : Prop := c ≠ .type "builtin_function_or_method" ∧ c ≠ .none ∧ c ≠ .type "code"
noncomputable def TabK (h h' : Heap) : Prop := ∀ b o vs, h.get? b = some o → o.data = .fields vs → (o.cls = .none ∨ o.cls = .type "code") → h'.get? b = some o
noncomputable def TabOk (h : Heap) (ps : Array Value) : Prop := ps = #[] ∨ ∃ c o vs t, ps = #[rawInt lamPos.line, rawInt lamPos.col, .ref c] ∧ h.get? c = some o ∧ o.cls = .type "code" ∧ o.data = .fields vs ∧ vs[1]? = some (.str lamQ t)
theorem TabOk.mono {h h' : Heap} {ps} (x : TabOk h ps) (k : TabK h h') : TabOk h' ps := x.imp id fun ⟨c, o, vs, t, e1, e2, e3, e4, e5⟩ => ⟨c, o, vs, t, e1, k _ _ _ e2 e4 (.inr e3), e3, e4, e5⟩
theorem TabK.but {h h' : Heap} {c : Addr} (hn : ∃ o, h.get? c = some o ∧ ∀ vs, o.data ≠ .fields vs) (hs : ∀ b, b ≠ c → h'.get? b = h.get? b) : TabK h h' := fun b o vs e hd _ =>
  (hs b (by rintro rfl; obtain ⟨o', q1, q2⟩ := hn; rw [q1] at e; cases e; exact q2 _ hd)).trans e
theorem TabK.of_keeps {h h' : Heap} (k : ∀ b o, h.get? b = some o → h'.get? b = some o) : TabK h h' := fun b o _ e _ _ => k b o e
noncomputable abbrev fa (frs : List Env) : List Addr := frs.filterMap (·.frame)
noncomputable def HanOk (B h : Heap) (a : Addr) : Prop := B.get? a = none ∧ ∃ o vs, h.get? a = some o ∧ o.data = .fields vs ∧ vs[2]? = some .none ∧ OC o.cls
structure Inv (C : Ct) (frs : List Env) (μ : List Addr) (σ : Sto) (s : Shared) : Prop where
  base : ∀ b o, C.base.get? b = some o → s.heap.get? b = some o
  bmu : ∀ a ∈ μ, C.base.get? a = none
  bnt : C.base.get? tabA = none
  tab : ∃ ps, s.heap.get? tabA = some (tabO ps) ∧ TabOk s.heap ps
  len : μ.length = σ.length
  nd : μ.Nodup
  cells : ∀ (i : Nat) (a : Addr) (c : Cell), μ[i]? = some a → σ[i]? = some c → CellR C.base μ s.heap a c
  fr : ∀ env ∈ frs, FrOk C s.heap env
  gens : s.gens = #[]
  os : s.os = C.os
  tk : 0 < s.toks
  han : ∀ a ∈ C.exs, HanOk C.base s.heap a
structure Le (F O : List Addr) (μ : List Addr) (h : Heap) (μ' : List Addr) (h' : Heap) : Prop where
  ext : ∃ ν, μ' = μ ++ ν ∧ ∀ a ∈ ν, h.get? a = none
  keep : ∀ b o, h.get? b = some o → b ≠ tabA → b ∉ μ → b ∉ O → (b ∉ F → h'.get? b = some o) ∧ ∃ sl, h'.get? b = some { o with slots := sl }
  live : ∀ a o, h.get? a = some o → ∃ o', h'.get? a = some o'
  tab : ∀ ps, h.get? tabA = some (tabO ps) → TabOk h ps → ∃ ps', h'.get? tabA = some (tabO ps') ∧ TabOk h' ps'
theorem Le.refl {F O μ h} : Le F O μ h μ h := ⟨⟨[], by simp, fun _ e => nomatch e⟩, fun b o e _ _ _ => ⟨fun _ => e, o.slots, e⟩, fun _ o e => ⟨o, e⟩, fun ps e k => ⟨ps, e, k⟩⟩
theorem Le.none {F O μ h μ' h'} (x : Le F O μ h μ' h') {a : Addr} (e : h'.get? a = .none) : h.get? a = .none := by
  cases hq : h.get? a with
  | none => rfl
  | some o => obtain ⟨o', q⟩ := x.live a o hq; rw [q] at e; cases e
theorem Le.trans {F O μ h μ' h' μ'' h''} (x : Le F O μ h μ' h') (y : Le F O μ' h' μ'' h'') : Le F O μ h μ'' h'' := by
  obtain ⟨ν, e1, f1⟩ := x.ext
  obtain ⟨ν', e2, f2⟩ := y.ext
  subst e1 e2
  refine ⟨⟨ν ++ ν', by simp, fun a ha => ?_⟩, fun b o hb nt hn hO => ?_, fun a o e => ?_, fun ps e k => ?_⟩
  · rcases List.mem_append.mp ha with q | q
    · exact f1 a q
    · exact x.none (f2 a q)
  · obtain ⟨k1, sl, k2⟩ := x.keep b o hb nt hn hO
    have hnb : b ∉ μ ++ ν := by
      rw [List.mem_append, not_or]; refine ⟨hn, fun q => ?_⟩
      rw [f1 b q] at hb; cases hb
    obtain ⟨_, sl', k3⟩ := y.keep b _ k2 nt hnb hO
    refine ⟨fun hf => ?_, sl', k3⟩
    exact (y.keep b o (k1 hf) nt hnb hO).1 hf
  · obtain ⟨o', e'⟩ := x.live a o e
    exact y.live a o' e'
  · obtain ⟨ps', e', k'⟩ := x.tab ps e k
    exact y.tab ps' e' k'
theorem Le.of_keeps {F O μ h h'} (k : ∀ b o, h.get? b = some o → h'.get? b = some o) : Le F O μ h μ h' :=
  ⟨⟨[], by simp, fun _ e => nomatch e⟩, fun b o e _ _ _ => ⟨fun _ => k b o e, o.slots, k b o e⟩, fun a o e => ⟨o, k a o e⟩, fun ps e q => ⟨ps, k _ _ e, q.mono (.of_keeps k)⟩⟩
theorem Le.weakO {F O O' μ h μ' h'} (x : Le F O μ h μ' h') (k : ∀ a ∈ O, a ∈ O') : Le F O' μ h μ' h' :=
  ⟨x.ext, fun b o e nt h1 h2 => x.keep b o e nt h1 fun q => h2 (k b q), x.live, x.tab⟩
theorem Le.dropO {F O O' μ h μ' h'} (x : Le F O μ h μ' h') (k : ∀ a ∈ O, a ∉ O' → h.get? a = .none) : Le F O' μ h μ' h' :=
  ⟨x.ext, fun b o e nt h1 h2 => x.keep b o e nt h1 fun q => (by rw [k b q h2] at e; cases e), x.live, x.tab⟩
theorem Le.mu {F O μ h μ' h'} (l : Le F O μ h μ' h') : ∀ (i : Nat) (a : Addr), μ[i]? = some a → μ'[i]? = some a := fun i a e => by
  obtain ⟨ν, q, _⟩ := l.ext; rw [q, List.getElem?_append_left (List.getElem?_eq_some_iff.mp e).1]; exact e
theorem Inv.isL {C : Ct} {frs μ σ s} (I : Inv C frs μ σ s) {i : Nat} {a : Addr} {vs : List V} (ha : μ[i]? = some a) (hc : σ[i]? = some (.list vs)) :
    ∃ items n, IsL s.heap a items.toArray n ∧ VRs C.base μ s.heap vs items := by
  have := I.cells i a _ ha hc
  cases this with
  | list h1 h2 => exact ⟨_, _, h1, h2⟩
theorem Inv.mem {C : Ct} {frs μ σ s} (I : Inv C frs μ σ s) {a : Addr} (ha : a ∈ μ) : (∃ items n, IsL s.heap a items n) ∨ s.heap.get? a = some objO := by
  obtain ⟨i, hi, e⟩ := List.getElem_of_mem ha
  have h1 : μ[i]? = some a := by rw [List.getElem?_eq_getElem hi, e]
  have h2 : i < σ.length := I.len ▸ hi
  have := I.cells i a _ h1 (List.getElem?_eq_getElem h2)
  cases hh : σ[i] with
  | list vs => rw [hh] at this; cases this with | list a b => exact .inl ⟨_, _, a⟩
  | obj => rw [hh] at this; cases this with | obj a => exact .inr a
theorem Inv.notMu {C : Ct} {frs μ σ s} (I : Inv C frs μ σ s) {a : Addr} {o : Obj} (ho : s.heap.get? a = some o) (h1 : o.cls ≠ .type "list") (h2 : o.cls ≠ .type "object") : a ∉ μ := fun hm => by
  rcases I.mem hm with ⟨items, n, e⟩ | e
  · rw [e] at ho; cases ho; exact h1 rfl
  · rw [e] at ho; cases ho; exact h2 rfl
theorem Inv.notMuD {C : Ct} {frs μ σ s} (I : Inv C frs μ σ s) {a : Addr} {o : Obj} (ho : s.heap.get? a = some o) (h1 : ∀ xs n, o.data ≠ .seq xs n) (h2 : o.data ≠ .plain) : a ∉ μ := fun hm => by
  rcases I.mem hm with ⟨items, n, e⟩ | e
  · rw [e] at ho; cases ho; exact h1 _ _ rfl
  · rw [e] at ho; cases ho; exact h2 rfl
theorem Inv.neT {C : Ct} {frs μ σ s} (I : Inv C frs μ σ s) {a : Addr} {o : Obj} (ho : s.heap.get? a = some o) (h : o.cls ≠ .none ∨ ∀ ps, o.data ≠ .fields ps) : a ≠ tabA := fun q => by
  subst q
  obtain ⟨ps, e, _⟩ := I.tab
  rw [e] at ho; cases ho
  rcases h with h | h
  · exact h rfl
  · exact h _ rfl
theorem Inv.notFa {C : Ct} {frs μ σ s} (I : Inv C frs μ σ s) {a : Addr} {o : Obj} (ho : s.heap.get? a = some o) (h1 : ∀ es n, o.data ≠ .dict es n) : a ∉ fa frs := fun hm => by
  obtain ⟨env, he, hf⟩ := List.mem_filterMap.mp hm
  obtain ⟨L, o', es, n, e1, _, e2, e3, _⟩ := I.fr env he
  rw [e1] at hf; cases hf
  rw [e2] at ho; cases ho
  exact h1 _ _ e3
noncomputable def OOk (C : Ct) (O : List Addr) (h : Heap) : Prop := ∀ a ∈ O, C.base.get? a = .none ∧ ∃ o, h.get? a = some o ∧ ((∃ es n, o.data = .dict es n) ∨ ∃ v, o.data = .cell v)
theorem OOk.nil {C h} : OOk C [] h := fun _ e => nomatch e
theorem OOk.notin {C O h} (x : OOk C O h) {a : Addr} {o : Obj} (ho : h.get? a = some o) (h1 : ∀ es n, o.data ≠ .dict es n) (h2 : ∀ v, o.data ≠ .cell v) : a ∉ O := fun hm => by
  obtain ⟨_, o', e, q⟩ := x a hm
  rw [e] at ho; cases ho
  rcases q with ⟨es, n, q⟩ | ⟨v, q⟩
  · exact h1 _ _ q
  · exact h2 _ q
theorem VR.mono' {B h h' : Heap} {μ μ' : List Addr} (hT : ∀ a items n, IsT h a items n → IsT h' a items n) (hμ : ∀ (i : Nat) (a : Addr), μ[i]? = some a → μ'[i]? = some a)
    {V v} (x : VR B μ h V v) : VR B μ' h' V v :=
  VR.rec (motive_1 := fun V v _ => VR B μ' h' V v) (motive_2 := fun V v _ => VRs B μ' h' V v) .none .bool .int .str (fun h _ r => .tup (hT _ _ _ h) r) (fun h => .lst (hμ _ _ h)) (fun h => .ob (hμ _ _ h)) .rol .nil (fun _ _ a b => .cons a b) x
theorem VRs.nilI {B h μ ys} (x : VRs B μ h [] ys) : ys = [] := by cases x; rfl
theorem VRs.consI {B h μ v vs ys} (x : VRs B μ h (v :: vs) ys) : ∃ y r, ys = y :: r ∧ VR B μ h v y ∧ VRs B μ h vs r := by cases x with | cons a b => exact ⟨_, _, rfl, a, b⟩
theorem VR.boolI {B h μ b v} (x : VR B μ h (.bool b) v) : v = .bool b := by cases x; rfl
theorem VR.intI {B h μ b v} (x : VR B μ h (.int b) v) : ∃ t, v = .int b t := by cases x; exact ⟨_, rfl⟩
theorem VR.strI {B h μ b v} (x : VR B μ h (.str b) v) : ∃ t, v = .str ⟨b.toArray⟩ t := by cases x; exact ⟨_, rfl⟩
theorem VR.lstI {B h μ b v} (x : VR B μ h (.lst b) v) : ∃ a, v = .ref a ∧ μ[b]? = some a := by cases x with | lst e => exact ⟨_, rfl, e⟩
theorem VR.tupI {B h μ vs v} (x : VR B μ h (.tup vs) v) : ∃ a xs n, v = .ref a ∧ IsT h a xs.toArray n ∧ VRs B μ h vs xs := by cases x with | tup e r => exact ⟨_, _, _, rfl, e, r⟩
theorem VRs.mono' {B h h' : Heap} {μ μ' : List Addr} (hT : ∀ a items n, IsT h a items n → IsT h' a items n) (hμ : ∀ (i : Nat) (a : Addr), μ[i]? = some a → μ'[i]? = some a)
    {V v} (x : VRs B μ h V v) : VRs B μ' h' V v := by
  induction V generalizing v with
  | nil => rw [x.nilI]; exact .nil
  | cons a r ih =>
    obtain ⟨y, ys, rfl, r1, r2⟩ := x.consI
    exact .cons (r1.mono' hT hμ) (ih r2)
theorem mu_ext {μ ν : List Addr} (i : Nat) (a : Addr) (h : μ[i]? = some a) : (μ ++ ν)[i]? = some a := by
  rw [List.getElem?_append_left (List.getElem?_eq_some_iff.mp h).1]; exact h
theorem Inv.tupKeep {C : Ct} {frs O μ σ s μ' h'} (I : Inv C frs μ σ s) (k : OOk C O s.heap) (l : Le (fa frs) O μ s.heap μ' h') : ∀ a items n, IsT s.heap a items n → IsT h' a items n := fun _ _ _ hT =>
  (l.keep _ _ hT (I.neT hT (.inl (by simp))) (I.notMu hT (by simp) (by simp)) (k.notin hT (by simp) (by simp))).1 (I.notFa hT (by simp))
theorem VR.mono {C : Ct} {frs O μ σ s μ' h'} (I : Inv C frs μ σ s) (k : OOk C O s.heap) (l : Le (fa frs) O μ s.heap μ' h') {V v} (x : VR C.base μ s.heap V v) : VR C.base μ' h' V v := x.mono' (I.tupKeep k l) l.mu
theorem VRs.mono {C : Ct} {frs O μ σ s μ' h'} (I : Inv C frs μ σ s) (k : OOk C O s.heap) (l : Le (fa frs) O μ s.heap μ' h') {V v} (x : VRs C.base μ s.heap V v) : VRs C.base μ' h' V v := x.mono' (I.tupKeep k l) l.mu
theorem CellR.mono {C : Ct} {frs O μ σ s μ' h'} (I : Inv C frs μ σ s) (k : OOk C O s.heap) (l : Le (fa frs) O μ s.heap μ' h') {a : Addr} {c : Cell} (x : CellR C.base μ s.heap a c) (e : h'.get? a = s.heap.get? a) : CellR C.base μ' h' a c := by
  cases x with
  | list h1 h2 => exact .list (e.trans h1) (h2.mono I k l)
  | obj h => exact .obj (e.trans h)
theorem FrOk'.mono {C : Ct} {h h' : Heap} {env : Env} (x : FrOk C h env) (k : ∀ b o, env.frame = some b → h.get? b = some o → ∃ sl, h'.get? b = some { o with slots := sl }) : FrOk C h' env := by
  obtain ⟨L, o, es, n, e1, e2, e3, e4, e5⟩ := x
  obtain ⟨sl, q⟩ := k L o e1 e3
  exact ⟨L, _, es, n, e1, e2, q, e4, e5⟩
theorem Inv.frNotMu {C : Ct} {frs μ σ s} (I : Inv C frs μ σ s) {L : Addr} (h : L ∈ fa frs) : L ∉ μ := by
  obtain ⟨env, he, q⟩ := List.mem_filterMap.mp h
  obtain ⟨L', o', es, n, e1, e2, e3, e4, _⟩ := I.fr env he
  rw [e1] at q; cases q
  exact I.notMuD e3 (by simp [e4]) (by simp [e4])
theorem Inv.fr_mono {C : Ct} {frs μ σ s μ' h'} (I : Inv C frs μ σ s) (l : Le (fa frs) [] μ s.heap μ' h') : ∀ env ∈ frs, FrOk C h' env := fun env he => by
  refine (I.fr env he).mono fun b o hf ho => ?_
  obtain ⟨L, o', es, n, e1, e2, e3, e4, _⟩ := I.fr env he
  have hm := I.frNotMu (List.mem_filterMap.mpr ⟨env, he, hf⟩)
  rw [e1] at hf; cases hf
  rw [e3] at ho; cases ho
  exact (l.keep _ _ e3 (I.neT e3 (.inr (by simp [e4]))) hm (by simp)).2
theorem Inv.base_mono {C : Ct} {frs O μ σ s μ' h'} (I : Inv C frs μ σ s) (k : OOk C O s.heap) (l : Le (fa frs) O μ s.heap μ' h') : ∀ b o, C.base.get? b = some o → h'.get? b = some o := fun b o e => by
  refine (l.keep b o (I.base b o e) (by rintro rfl; rw [I.bnt] at e; cases e) (fun hm => ?_) fun hm => ?_).1 fun hf => ?_
  · rw [I.bmu b hm] at e; cases e
  · rw [(k b hm).1] at e; cases e
  · obtain ⟨env, he, q⟩ := List.mem_filterMap.mp hf
    obtain ⟨L, o', es, n, e1, e2, _⟩ := I.fr env he
    rw [e1] at q; cases q
    rw [e2] at e; cases e
theorem Inv.han_mono {C : Ct} {frs O μ σ s μ' h'} (I : Inv C frs μ σ s) (k : OOk C O s.heap) (l : Le (fa frs) O μ s.heap μ' h') : ∀ a ∈ C.exs, HanOk C.base h' a := fun a ha => by
  obtain ⟨hb, o, vs, h1, h2, h3, h4⟩ := I.han a ha
  exact ⟨hb, o, vs, (l.keep a o h1 (I.neT h1 (.inl h4.2.1)) (I.notMuD h1 (by simp [h2]) (by simp [h2])) (k.notin h1 (by simp [h2]) (by simp [h2]))).1 (I.notFa h1 (by simp [h2])), h2, h3, h4⟩
theorem Inv.step {C : Ct} {frs O μ σ s s'} (I : Inv C frs μ σ s) (k : OOk C O s.heap) (l : Le (fa frs) O μ s.heap μ s'.heap) (hm : ∀ a ∈ μ, s'.heap.get? a = s.heap.get? a) (hf : ∀ env ∈ frs, FrOk C s'.heap env)
    (hg : s'.gens = s.gens := by rfl) (ho : s'.os = s.os := by rfl) (ht : s.toks ≤ s'.toks := by first | exact Nat.le_refl _ | exact Nat.le_succ _ | exact Nat.le_add_right _ _ | omega | (dsimp only; omega)) : Inv C frs μ σ s' :=
  { tk := Nat.lt_of_lt_of_le I.tk ht, base := I.base_mono k l, bmu := I.bmu, bnt := I.bnt, tab := let ⟨ps, e, q⟩ := I.tab; l.tab ps e q, len := I.len, nd := I.nd
    cells := fun i a c ha hc => (I.cells i a c ha hc).mono I k l (hm a (List.mem_of_getElem? ha))
    fr := hf, gens := hg.trans I.gens, os := ho.trans I.os, han := I.han_mono k l }
theorem Inv.keeps {C : Ct} {frs μ σ s s'} (I : Inv C frs μ σ s) (k : ∀ b o, s.heap.get? b = some o → s'.heap.get? b = some o) (hg : s'.gens = s.gens := by rfl) (ho : s'.os = s.os := by rfl) (ht : s.toks ≤ s'.toks := by first | exact Nat.le_refl _ | exact Nat.le_succ _ | exact Nat.le_add_right _ _ | omega | (dsimp only; omega)) : Inv C frs μ σ s' :=
  have l : Le (fa frs) [] μ s.heap μ s'.heap := .of_keeps k
  I.step .nil l (fun a ha => by rcases I.mem ha with ⟨_, _, e⟩ | e <;> exact (k _ _ e).trans e.symm) (I.fr_mono l) hg ho ht
theorem push_keeps (h : Heap) (o : Obj) : ∀ b o', h.get? b = some o' → (h.push o).get? b = some o' := fun _ _ e => Heap.get?_push_of_some o e
theorem fresh_size (h : Heap) : h.get? h.objs.size = .none := Heap.get?_none_of_le (Nat.le_refl _)
theorem Inv.alloc {C : Ct} {frs μ σ} {s s' : Shared} (I : Inv C frs μ σ s) {a : Addr} {c : Cell} (k : ∀ b o, s.heap.get? b = some o → s'.heap.get? b = some o) (ha : s.heap.get? a = .none)
    (hc : CellR C.base μ s'.heap a c) (hg : s'.gens = s.gens := by rfl) (ho : s'.os = s.os := by rfl) (ht : s.toks ≤ s'.toks := by first | exact Nat.le_refl _ | exact Nat.le_succ _ | exact Nat.le_add_right _ _ | omega | (dsimp only; omega)) : Inv C frs (μ ++ [a]) (σ ++ [c]) s' ∧ Le (fa frs) [] μ s.heap (μ ++ [a]) s'.heap := by
  have l : Le (fa frs) [] μ s.heap μ s'.heap := .of_keeps k
  have I' := I.keeps k hg ho ht
  have am : a ∉ μ := fun hm => by rcases I.mem hm with ⟨_, _, e⟩ | e <;> (rw [e] at ha; cases ha)
  have l' : Le (fa frs) [] μ s.heap (μ ++ [a]) s'.heap := ⟨⟨[a], rfl, fun b hb => by rw [List.mem_singleton.mp hb]; exact ha⟩, l.keep, l.live, l.tab⟩
  have up : ∀ {b c}, CellR C.base μ s'.heap b c → CellR C.base (μ ++ [a]) s'.heap b c := fun x => by
    cases x with
    | list h1 h2 => exact .list h1 (h2.mono' (fun _ _ _ e => e) mu_ext)
    | obj h => exact .obj h
  refine ⟨{ tk := I'.tk, base := I'.base, bnt := I'.bnt, tab := I'.tab, bmu := fun b hb => ?_, len := by simp [I.len], nd := ?_, cells := fun i b c' h1 h2 => ?_, fr := I'.fr, gens := I'.gens, os := I'.os, han := I'.han }, l'⟩
  · rcases List.mem_append.mp hb with q | q
    · exact I.bmu b q
    · rw [List.mem_singleton.mp q]
      cases hq : C.base.get? a with
      | none => rfl
      | some o => rw [I.base a o hq] at ha; cases ha
  · rw [List.nodup_append]
    refine ⟨I.nd, by simp, fun x hx y hy => ?_⟩
    rw [List.mem_singleton.mp hy]; rintro rfl; exact am hx
  · by_cases hi : i < μ.length
    · rw [List.getElem?_append_left hi] at h1
      rw [List.getElem?_append_left (I.len ▸ hi)] at h2
      exact up (I'.cells i b c' h1 h2)
    · have hl := (List.getElem?_eq_some_iff.mp h1).1
      simp only [List.length_append, List.length_cons, List.length_nil] at hl
      have e : i = μ.length := by omega
      subst e
      rw [List.getElem?_append_right (Nat.le_refl _), Nat.sub_self] at h1
      rw [I.len, List.getElem?_append_right (Nat.le_refl _), Nat.sub_self] at h2
      simp at h1 h2
      subst h1 h2
      exact up hc
theorem Inv.upd {C : Ct} {frs μ σ} {s s' : Shared} (I : Inv C frs μ σ s) {i : Nat} {a : Addr} {vs vs' : List V} {items : List Value} {n : Nat} (ha : μ[i]? = some a) (hc : σ[i]? = some (.list vs))
    (k : ∀ b, b ≠ a → s'.heap.get? b = s.heap.get? b) (hl : IsL s'.heap a items.toArray n) (hv : VRs C.base μ s.heap vs' items)
    (hg : s'.gens = s.gens := by rfl) (ho : s'.os = s.os := by rfl) (ht : s.toks ≤ s'.toks := by first | exact Nat.le_refl _ | exact Nat.le_succ _ | exact Nat.le_add_right _ _ | omega | (dsimp only; omega)) : Inv C frs μ (σ.set i (.list vs')) s' ∧ Le (fa frs) [] μ s.heap μ s'.heap := by
  have am : a ∈ μ := List.mem_of_getElem? ha
  have l : Le (fa frs) [] μ s.heap μ s'.heap := ⟨⟨[], by simp, fun _ e => nomatch e⟩, fun b o hb nt hn _ => by
    have e : s'.heap.get? b = some o := (k b (by rintro rfl; exact hn am)).trans hb
    exact ⟨fun _ => e, o.slots, e⟩, fun b o e => by
    by_cases q : b = a
    · subst q; exact ⟨_, hl⟩
    · exact ⟨o, (k b q).trans e⟩, fun ps e q => by
    obtain ⟨it₀, n₀, hL, _⟩ := I.isL ha hc
    have tk : TabK s.heap s'.heap := fun b o vs e hd hcl => (k b (by rintro rfl; rw [hL] at e; cases e; simp at hcl)).trans e
    exact ⟨ps, tk _ _ _ e rfl (.inl rfl), q.mono tk⟩⟩
  refine ⟨{ tk := Nat.lt_of_lt_of_le I.tk ht, base := I.base_mono .nil l, bmu := I.bmu, bnt := I.bnt, tab := let ⟨ps, e, q⟩ := I.tab; l.tab ps e q, len := by simp [I.len], nd := I.nd, cells := fun j b c' h1 h2 => ?_, fr := I.fr_mono l, gens := hg.trans I.gens, os := ho.trans I.os, han := I.han_mono .nil l }, l⟩
  by_cases hj : j = i
  · subst hj
    rw [ha] at h1; cases h1
    have : j < σ.length := (List.getElem?_eq_some_iff.mp hc).1
    rw [List.getElem?_set_self this] at h2
    cases h2
    exact .list hl (hv.mono I .nil l)
  · rw [List.getElem?_set_ne (Ne.symm hj)] at h2
    refine (I.cells j b c' h1 h2).mono I .nil l (k b ?_)
    rintro rfl
    exact hj ((List.getElem?_inj (List.getElem?_eq_some_iff.mp h1).1 I.nd).mp (by rw [h1, ha]))
inductive WR (B : Heap) (μ : List Addr) (h : Heap) : Wv → Value → Prop
  | v {V x} : VR B μ h V x → WR B μ h (.v V) x
  | app {i : Nat} {l a : Addr} : μ[i]? = some l → h.get? a = some { cls := .type "builtin_function_or_method", data := .fields #[.builtin "list.append", .ref l] } → WR B μ h (.app i) (.ref a)
theorem WR.mono {C : Ct} {frs O μ σ s μ' h'} (I : Inv C frs μ σ s) (k : OOk C O s.heap) (l : Le (fa frs) O μ s.heap μ' h') {V v} (x : WR C.base μ s.heap V v) : WR C.base μ' h' V v := by
  cases x with
  | v x => exact .v (x.mono I k l)
  | app h1 h2 => exact .app (l.mu _ _ h1) ((l.keep _ _ h2 (I.neT h2 (.inl (by simp))) (I.notMu h2 (by simp) (by simp)) (k.notin h2 (by simp) (by simp))).1 (I.notFa h2 (by simp)))
noncomputable def LocR (B : Heap) (μ : List Addr) (h : Heap) (env : Env) (x : Str) (w : Wv) : Prop :=
  (env.kindOf x = some .local ∧ ∃ m v, h.Ns env.locals m ∧ m x = some v ∧ WR B μ h w v) ∨
  ((env.kindOf x = some .cell ∨ env.kindOf x = some .free) ∧ ∃ c v, env.cells.lookup x = some c ∧ h.IsCell c (some v) ∧ WR B μ h w v)
structure EnvR (C : Ct) (env : Env) (sc : Scope) (vars : Vars) (μ : List Addr) (h : Heap) : Prop where
  hsc : env.scope = sc
  kind : sc.kind = .function
  glob : env.globals = mainGlobals
  blt : env.builtins = builtinsNs
  ns : ∃ m, h.Ns env.locals m
  vars : ∀ x w, vars x = some w → LocR C.base μ h env (Str.ofString x) w
theorem UpTo.ns {h h' : Heap} {a : Addr} {m : Str → Option Value} (hn : h.Ns a m) (k : ∀ o, h.get? a = some o → ∃ sl, h'.get? a = some { o with slots := sl }) : h'.Ns a m := by
  obtain ⟨o, es, ep, ho, hd, r⟩ := hn
  obtain ⟨sl, hs⟩ := k o ho
  exact ⟨_, es, ep, hs, hd, r⟩
theorem Inv.nsKeep {C : Ct} {frs μ σ s μ' h'} (I : Inv C frs μ σ s) (l : Le (fa frs) [] μ s.heap μ' h') {a m} (hn : s.heap.Ns a m) : h'.Ns a m := by
  refine UpTo.ns hn fun o ho => ?_
  obtain ⟨o', es, ep, ho', hd, _⟩ := hn
  rw [ho'] at ho; cases ho
  exact (l.keep _ _ ho' (I.neT ho' (.inr (by simp [hd]))) (I.notMuD ho' (by simp [hd]) (by simp [hd])) (by simp)).2
theorem Inv.cellKeep {C : Ct} {frs μ σ s μ' h'} (I : Inv C frs μ σ s) (l : Le (fa frs) [] μ s.heap μ' h') {a v} (hn : s.heap.IsCell a v) : h'.IsCell a v := by
  obtain ⟨o, ho, hd⟩ := hn
  exact ⟨o, (l.keep _ _ ho (I.neT ho (.inr (by simp [hd]))) (I.notMuD ho (by simp [hd]) (by simp [hd])) (by simp)).1 (I.notFa ho (by simp [hd])), hd⟩
theorem EnvR.mono {C : Ct} {frs env sc vars μ σ s μ' h'} (R : EnvR C env sc vars μ s.heap) (I : Inv C frs μ σ s) (l : Le (fa frs) [] μ s.heap μ' h') : EnvR C env sc vars μ' h' := by
  refine ⟨R.hsc, R.kind, R.glob, R.blt, ?_, fun x w h => ?_⟩
  · obtain ⟨m, hm⟩ := R.ns
    exact ⟨m, I.nsKeep l hm⟩
  · rcases R.vars x w h with ⟨k, m, v, h1, h2, h3⟩ | ⟨k, c, v, h1, h2, h3⟩
    · exact .inl ⟨k, m, v, I.nsKeep l h1, h2, h3.mono I .nil l⟩
    · exact .inr ⟨k, c, v, h1, I.cellKeep l h2, h3.mono I .nil l⟩
end
end Mine

namespace Mine
section
inductive X where
  | idx | val | err | idxc
deriving DecidableEq
inductive Mo where
  | pl | fin | any
deriving DecidableEq
noncomputable abbrev Ex := Vars → Sto → (V → Sto → Prop) → (X → Sto → Prop) → Prop
noncomputable def clsOf (C : Ct) : X → Value → Prop
  | .idx, c => c = .type "IndexError"
  | .idxc, c => c = .type "IndexError"
  | .val, c => c = .type "ValueError"
  | .err, c => C.mg "error_reply" = some c
noncomputable def ExcIn (C : Ct) (h₀ h : Heap) (e : Value) (x : X) : Prop :=
  ∃ a oe vs, e = .ref a ∧ h₀.get? a = none ∧ h.get? a = some oe ∧ (clsOf C x oe.cls ∧ OC oe.cls) ∧ oe.data = .fields vs ∧ 5 < vs.size ∧ (x ≠ .idxc → vs[2]? = some .none) ∧
    (vs[1]? = some .none ∨ ∃ T oT ts, vs[1]? = some (.ref T) ∧ h₀.get? T = none ∧ T ≠ a ∧ h.get? T = some oT ∧ oT.cls = .type "traceback" ∧ oT.data = .fields ts ∧ 3 < ts.size)
structure AOk (C : Ct) (A : Around) (frs : List Env) (k : Nat) (hd : Mo) : Prop where
  frames : A.frames = some frs
  depth : A.depth + k < 900
  units : A.units + 4 * k < 9000
  han : hd = .pl → A.handled = none
  fin : hd = .fin → ∃ a ∈ C.exs, A.handled = some (.ref a)
noncomputable abbrev reCode : List Nat := [14, 14, 4, 1, 1, 9, 0, 64, 0, 1342177280, 0, 0, 0, 0, 0, 17, 0, 13, 11, 9, 0, 64, 0, 1342177280, 0, 0, 0, 0, 0, 17, 1, 1]
inductive PatOk (h : Heap) (a : Addr) : Prop
  | mk (v0 v1 : Value) (t2 t6 : Tok) (v3 v4 : Value) (ct : Addr) : h.get? a = some { cls := .type "re.Pattern", data := .fields #[v0, v1, .int 1 t2, v3, v4, .ref ct, .int 0 t6] } → h.get? ct = some { cls := .type "tuple", data := .seq (reCode.map fun n : Nat => Value.int n 0).toArray } → PatOk h a
noncomputable abbrev spec24 : List Nat := [40, 41, 91, 93, 123, 125, 63, 42, 43, 45, 124, 94, 36, 92, 46, 38, 126, 35, 32, 9, 10, 13, 11, 12]
noncomputable abbrev looseL : List Str := [Str.ofString "_twin_re_1", Str.ofString "_special_chars_map", Str.ofString "_sre"]
noncomputable def defL : List Str := [Str.ofString "parse257", Str.ofString "translate", Str.ofString "escape", Str.ofString "_translate", Str.ofString "_join_translated_parts", Str.ofString "sorted_list_difference", Str.ofString "unorderable_list_difference", Str.ofString "_law_numbers", Str.ofString "_law_items", Str.ofString "_law_texts", Str.ofString "_law_named", Str.ofString "_law_on", Str.ofString "_law_opened", Str.ofString "_law_told", Str.ofString "_law_set", Str.ofString "_law_pieces", Str.ofString "_law_lies_at", Str.ofString "_law_takes", Str.ofString "_law_alone", Str.ofString "_law_more", Str.ofString "_law_refused", Str.ofString "law"]
noncomputable def clsL : List Str := [Str.ofString "Error", Str.ofString "error_reply"]
noncomputable def bltOk (x : Str) : Bool := !(startupNames.contains x) && !(looseL.contains x) && !(defL.contains x) && !(clsL.contains x) && !(x == "__name__")
structure COk (C : Ct) : Prop where
  g : C.base.Ns mainGlobals C.mg
  b : C.base.Ns builtinsNs C.mb
  nolimit : C.base.NoLimit
  bnt : C.base.get? tabA = none
  names : (∀ x : Str, bltOk x = true → C.mg x = none) ∧ ∀ x : Str, x ≠ ("__name__" : Str) → C.mb x = bootBuiltins x
  fns : ∀ d ∈ recsOf PySem.Challenge.pw_in0164_01, ∃ a o pm code doc, C.mg d.name = some (.ref a) ∧ C.base.get? a = some o ∧ o.data = .func (Calls.docDef d.name d.params d.body d.scope pm code doc) ∧ C.base.CodeRec code d.name
  err : ∃ Cx, OwnClsQ (Str.ofString "error_reply") Cx [.type "Exception", .type "BaseException", .type "object"] "Exception.__new__" C.mg C.base
  bmain : C.base.BuiltinsAt C.mg tabA
  code : CodeHd C.base codeA tabA
  codeOf : ∀ a o pm code doc p b sc, C.mg (Str.ofString "_translate") = some (.ref a) → C.base.get? a = some o → o.data = .func (Calls.docDef (Str.ofString "_translate") p b sc pm code doc) → code = .ref codeA
  pat : ∃ a, C.mg (Str.ofString "_twin_re_1") = some (.ref a) ∧ PatOk C.base a
  map : ∃ a f, C.mg (Str.ofString "_special_chars_map") = some (.ref a) ∧ C.base.IntMap a f ∧ (a == sysModules) = false ∧ (∀ o, C.base.get? a = some o → o.dict = none ∧ o.slots = #[]) ∧ ∀ c : Nat, c < 128 → if c ∈ spec24 then ∃ t, f c = some (.str ⟨#[92, c]⟩ t) else f c = none
noncomputable abbrev Md (C : Ct) : Model := model C.prog C.w
noncomputable def QC (C : Ct) (frs : List Env) (μ : List Addr) (s : Shared) (Q : V → Sto → Prop) (PQ : Value → Shared → Prop) : Prop :=
  ∀ V v σ' μ' s', Le (fa frs) [] μ s.heap μ' s'.heap → Inv C frs μ' σ' s' → VR C.base μ' s'.heap V v → Q V σ' → PQ v s'
noncomputable def EC (C : Ct) (frs : List Env) (μ : List Addr) (s : Shared) (E : X → Sto → Prop) (PE : Value → Shared → Prop) : Prop :=
  ∀ x e σ' μ' s', Le (fa frs) [] μ s.heap μ' s'.heap → Inv C frs μ' σ' s' → ExcIn C s.heap s'.heap e x → E x σ' → PE e s'
theorem ExcIn.older {C F O μ h μ' h' h'' e x} (l : Le F O μ h μ' h') (y : ExcIn C h' h'' e x) : ExcIn C h h'' e x := by
  obtain ⟨a, oe, vs, e1, e2, e3, e4, e5, e6, e7, e8⟩ := y
  refine ⟨a, oe, vs, e1, l.none e2, e3, e4, e5, e6, e7, e8.imp id ?_⟩
  rintro ⟨T, oT, ts, f1, f2, r⟩
  exact ⟨T, oT, ts, f1, l.none f2, r⟩
theorem QC.after {C frs μ s Q PQ μ' s'} (q : QC C frs μ s Q PQ) (l : Le (fa frs) [] μ s.heap μ' s'.heap) : QC C frs μ' s' Q PQ := fun V v σ'' μ'' s'' l' => q V v σ'' μ'' s'' (l.trans l')
theorem EC.after {C frs μ s E PE μ' s'} (q : EC C frs μ s E PE) (l : Le (fa frs) [] μ s.heap μ' s'.heap) : EC C frs μ' s' E PE := fun x e σ'' μ'' s'' l' I y => q x e σ'' μ'' s'' (l.trans l') I (y.older l)
noncomputable def Run (C : Ct) (A : Around) (frs : List Env) (μ : List Addr) (s : Shared) (t : Sem Value) (P : (V → Sto → Prop) → (X → Sto → Prop) → Prop) : Prop :=
  ∀ (Q : V → Sto → Prop) (E : X → Sto → Prop) (PQ PE : Value → Shared → Prop), P Q E → QC C frs μ s Q PQ → EC C frs μ s E PE → wpAny (Md C) A t PQ PE s
structure SoundE (k : Nat) (hd : Mo) (sc : Scope) (e : Expr) (f : Ex) : Prop where
  run : ∀ (C : Ct) (_ : COk C) (A : Around) (frs : List Env) (_ : AOk C A frs k hd) (env : Env) (vars : Vars) (μ : List Addr) (σ : Sto) (s : Shared)
    (_ : EnvR C env sc vars μ s.heap) (_ : Inv C frs μ σ s), Run C A frs μ s (eval e env) (f vars σ)
noncomputable abbrev Op1 := V → Sto → (V → Sto → Prop) → (X → Sto → Prop) → Prop
noncomputable abbrev Op2 := V → V → Sto → (V → Sto → Prop) → (X → Sto → Prop) → Prop
noncomputable def SoundO1 (k : Nat) (hd : Mo) (t : Value → Sem Value) (f : Op1) : Prop :=
  ∀ (C : Ct) (_ : COk C) (A : Around) (frs : List Env) (_ : AOk C A frs k hd) (μ : List Addr) (σ : Sto) (s : Shared) (_ : Inv C frs μ σ s) (U : V) (u : Value) (_ : VR C.base μ s.heap U u),
    Run C A frs μ s (t u) (f U σ)
noncomputable def SoundO2 (k : Nat) (hd : Mo) (t : Value → Value → Sem Value) (f : Op2) : Prop :=
  ∀ (C : Ct) (_ : COk C) (A : Around) (frs : List Env) (_ : AOk C A frs k hd) (μ : List Addr) (σ : Sto) (s : Shared) (_ : Inv C frs μ σ s) (U : V) (u : Value) (_ : VR C.base μ s.heap U u)
    (W : V) (w : Value) (_ : VR C.base μ s.heap W w), Run C A frs μ s (t u w) (f U W σ)
noncomputable def op1 (o : Op1) (a : Ex) : Ex := fun vars σ Q E => a vars σ (fun x σ => o x σ Q E) E
noncomputable def op2 (o : Op2) (a b : Ex) : Ex := fun vars σ Q E => a vars σ (fun x σ => b vars σ (fun y σ => o x y σ Q E) E) E
noncomputable def cint (i : Int) : Ex := fun _ σ Q _ => Q (.int i) σ
noncomputable def cstr (l : List Nat) : Ex := fun _ σ Q _ => Q (.str l) σ
noncomputable def cbool (b : Bool) : Ex := fun _ σ Q _ => Q (.bool b) σ
noncomputable def cnone : Ex := fun _ σ Q _ => Q .none σ
noncomputable def var (x : String) : Ex := fun vars σ Q _ => ∃ V, vars x = some (.v V) ∧ Q V σ
theorem toks_le {F O μ} {s : Shared} {t : Nat} : Le F O μ s.heap μ ({ s with toks := t } : Shared).heap := .refl
theorem Inv.toks {C frs μ σ s} (I : Inv C frs μ σ s) (t : Nat) (ht : s.toks ≤ t := by first | exact Nat.le_refl _ | exact Nat.le_succ _ | exact Nat.le_add_right _ _ | omega | (dsimp only; omega)) : Inv C frs μ σ { s with toks := t } := I.keeps (fun _ _ e => e) rfl rfl ht
variable {k : Nat} {hd : Mo} {sc : Scope}
theorem s_int {i : Int} {n : Nat} {pos : Pos} : SoundE k hd sc (.Constant (.int i) n pos) (cint i) := .mk fun C _ A frs _ env vars μ σ s _ I Q E PQ PE hf hQ _ =>
  wpAny_Constant_int (hQ _ _ _ _ _ toks_le (I.toks _) (.int i _) hf)
theorem s_str {x : Str} {l : List Nat} {n : Nat} {pos : Pos} (h : x.cps.toList = l := by decide +kernel) : SoundE k hd sc (.Constant (.str x) n pos) (cstr l) := .mk fun C _ A frs _ env vars μ σ s _ I Q E PQ PE hf hQ _ => by
  subst h
  refine Calls.Constant_str (hQ _ _ _ _ _ toks_le (I.toks _) ?_ hf)
  exact .str x.cps.toList _
theorem s_bool {b : Bool} {n : Nat} {pos : Pos} : SoundE k hd sc (.Constant (.bool b) n pos) (cbool b) := .mk fun C _ A frs _ env vars μ σ s _ I Q E PQ PE hf hQ _ =>
  show wpAny _ _ (pure (Value.bool b)) _ _ _ from wpAny_pure (hQ _ _ _ _ _ .refl I (.bool b) hf)
theorem s_none {n : Nat} {pos : Pos} : SoundE k hd sc (.Constant .none n pos) cnone := .mk fun C _ A frs _ env vars μ σ s _ I Q E PQ PE hf hQ _ =>
  show wpAny _ _ (pure Value.none) _ _ _ from wpAny_pure (hQ _ _ _ _ _ .refl I .none hf)
theorem s_var {x : String} {pos : Pos} (hd1 : (Str.ofString x == ("__debug__" : Str)) = false := by decide +kernel) (hd2 : (Str.ofString x == ("__classdict__" : Str)) = false := by decide +kernel) :
    SoundE k hd sc (.Name (Str.ofString x) pos) (var x) := .mk fun C _ A frs _ env vars μ σ s R I Q E PQ PE hf hQ _ => by
  obtain ⟨V, hv, hq⟩ := hf
  have hk : env.scope.kind = .function := by rw [R.hsc]; exact R.kind
  refine wpAny_Name ?_ hd1
  rcases R.vars x _ hv with ⟨kd, m, v, h1, h2, h3⟩ | ⟨kd, c, v, h1, h2, h3⟩
  · cases h3 with | v h3 => exact wpAny_loadName_local hk kd h1 h2 (hQ _ _ _ _ _ .refl I h3 hq)
  · cases h3 with
    | v h3 =>
      rcases kd with kd | kd
      · exact wpAny_loadName_cell hk kd h1 h2 (hQ _ _ _ _ _ .refl I h3 hq)
      · exact wpAny_loadName_free hk kd h1 h2 (hQ _ _ _ _ _ .refl I h3 hq) hd2
theorem two {C A frs env vars μ σ s} {a b : Expr} {fa' fb : Ex} (ha : SoundE k hd sc a fa') (hb : SoundE k hd sc b fb) (hC : COk C) (hA : AOk C A frs k hd) (R : EnvR C env sc vars μ s.heap) (I : Inv C frs μ σ s)
    {G : V → V → Sto → Prop} {E : X → Sto → Prop} {PQ : Value → Value → Shared → Prop} {PE : Value → Shared → Prop}
    (hf : fa' vars σ (fun x σ => fb vars σ (fun y σ => G x y σ) E) E)
    (hQ : ∀ U u W w σ' μ' s', Le (fa frs) [] μ s.heap μ' s'.heap → Inv C frs μ' σ' s' → EnvR C env sc vars μ' s'.heap → VR C.base μ' s'.heap U u → VR C.base μ' s'.heap W w → G U W σ' → PQ u w s')
    (hE : EC C frs μ s E PE) : wpAny (Md C) A (eval a env) (fun u s₁ => wpAny (Md C) A (eval b env) (fun w s₂ => PQ u w s₂) PE s₁) PE s :=
  ha.run C hC A frs hA env vars μ σ s R I _ _ _ _ hf (fun U u σ1 μ1 s1 l1 I1 r1 hf1 =>
    hb.run C hC A frs hA env vars μ1 σ1 s1 (R.mono I l1) I1 _ _ _ _ hf1 (fun W w σ2 μ2 s2 l2 I2 r2 hf2 =>
      hQ U u W w σ2 μ2 s2 (l1.trans l2) I2 ((R.mono I l1).mono I1 l2) (r1.mono I1 .nil l2) r2 hf2) (hE.after l1)) hE
theorem s_bin {o : Op2} {op : Operator} {a b : Expr} {pos : Pos} {fa' fb : Ex} (ho : SoundO2 k hd (binaryOp op) o) (ha : SoundE k hd sc a fa') (hb : SoundE k hd sc b fb) : SoundE k hd sc (.BinOp a op b pos) (op2 o fa' fb) :=
  .mk fun C hC A frs hA env vars μ σ s R I Q E PQ PE hf hQ hE =>
    wpAny_BinOp (two ha hb hC hA R I hf (fun U u W w σ' μ' s' l I' R' r1 r2 g => ho C hC A frs hA μ' σ' s' I' U u r1 W w r2 Q E PQ PE g (hQ.after l) (hE.after l)) hE)
theorem s_cmp {o : Op2} {op : CmpOp} {a b : Expr} {pos : Pos} {fa' fb : Ex} (ho : SoundO2 k hd (compareOp op) o) (ha : SoundE k hd sc a fa') (hb : SoundE k hd sc b fb) (hm : behindInMarks op b = false := by rfl) : SoundE k hd sc (.Compare a [op] [b] pos) (op2 o fa' fb) :=
  .mk fun C hC A frs hA env vars μ σ s R I Q E PQ PE hf hQ hE =>
    wpAny_Compare1 (two ha hb hC hA R I hf (fun U u W w σ' μ' s' l I' R' r1 r2 g => ho C hC A frs hA μ' σ' s' I' U u r1 W w r2 Q E PQ PE g (hQ.after l) (hE.after l)) hE) hm
end
end Mine

namespace Mine
section
variable {k : Nat} {hd : Mo} {sc : Scope}
noncomputable def lim : Nat := 1000000
theorem lim_le : lim ≤ sizeLine := by decide
noncomputable def oAdd : Op2
  | .int a, .int b, σ, Q, _ => Q (.int (a + b)) σ
  | .str x, .str y, σ, Q, _ => x.length + y.length ≤ lim ∧ Q (.str (x ++ y)) σ
  | .lst i, .lst j, σ, Q, _ => ∃ xs ys, σ[i]? = some (.list xs) ∧ σ[j]? = some (.list ys) ∧ xs.length + ys.length ≤ lim ∧ Q (.lst σ.length) (σ ++ [.list (xs ++ ys)])
  | _, _, _, _, _ => False
theorem VRs.append {B μ h as xs bs ys} (r : VRs B μ h as xs) (q : VRs B μ h bs ys) : VRs B μ h (as ++ bs) (xs ++ ys) := by
  induction as generalizing xs with
  | nil => rw [r.nilI]; exact q
  | cons a as ih =>
    obtain ⟨y, zs, rfl, r1, r2⟩ := r.consI
    exact .cons r1 (ih r2)
theorem VRs.length {B μ h as xs} (r : VRs B μ h as xs) : xs.length = as.length := by
  induction as generalizing xs with
  | nil => rw [r.nilI]; rfl
  | cons a as ih =>
    obtain ⟨y, zs, rfl, r1, r2⟩ := r.consI
    exact congrArg (· + 1) (ih r2)
theorem VRs.at {B μ h as xs} (r : VRs B μ h as xs) {i : Nat} {a : V} (e : as[i]? = some a) : ∃ x, xs[i]? = some x ∧ VR B μ h a x := by
  induction as generalizing xs i with
  | nil => cases e
  | cons b as ih =>
    obtain ⟨y, zs, rfl, r1, r2⟩ := r.consI
    cases i with
    | zero => exact ⟨y, rfl, Option.some.inj e ▸ r1⟩
    | succ i => exact ih r2 e
theorem VRs.none {B μ h} {as xs} (r : VRs B μ h as xs) {i : Nat} (e : as[i]? = .none) : xs[i]? = .none := by
  rw [List.getElem?_eq_none_iff] at e ⊢; rw [r.length]; exact e
theorem VRs.take {B μ h as xs} (r : VRs B μ h as xs) (n : Nat) : VRs B μ h (as.take n) (xs.take n) := by
  induction as generalizing xs n with
  | nil => rw [r.nilI, List.take_nil, List.take_nil]; exact .nil
  | cons b as ih =>
    obtain ⟨y, zs, rfl, r1, r2⟩ := r.consI
    cases n with
    | zero => exact .nil
    | succ n => exact .cons r1 (ih r2 n)
theorem VRs.drop {B μ h as xs} (r : VRs B μ h as xs) (n : Nat) : VRs B μ h (as.drop n) (xs.drop n) := by
  induction as generalizing xs n with
  | nil => rw [r.nilI, List.drop_nil, List.drop_nil]; exact .nil
  | cons b as ih =>
    obtain ⟨y, zs, rfl, r1, r2⟩ := r.consI
    cases n with
    | zero => exact r
    | succ n => exact ih r2 n
theorem newList_run {C : Ct} {frs μ σ s} (I : Inv C frs μ σ s) {vs : List V} {items : List Value} {Q : V → Sto → Prop} {PQ : Value → Shared → Prop} (hv : VRs C.base μ s.heap vs items) (hQ : QC C frs μ s Q PQ)
    (hq : Q (.lst σ.length) (σ ++ [.list vs])) (t : Nat) (ht : s.toks ≤ t := by first | exact Nat.le_refl _ | exact Nat.le_succ _ | exact Nat.le_add_right _ _ | omega | (dsimp only; omega)) : PQ (.ref s.heap.objs.size) { s with heap := s.heap.push { cls := .type "list", data := .seq items.toArray }, toks := t } := by
  have kp := push_keeps s.heap { cls := .type "list", data := .seq items.toArray }
  have nw := IsL.new s.heap items.toArray
  obtain ⟨I', l⟩ := I.alloc (s' := { s with heap := s.heap.push { cls := .type "list", data := .seq items.toArray }, toks := t }) (a := s.heap.objs.size) (c := .list vs) kp (fresh_size _) (.list nw (hv.mono I .nil (.of_keeps kp)))
  refine hQ _ _ _ _ _ l I' (.lst ?_) hq
  rw [← I.len, List.getElem?_append_right (Nat.le_refl _), Nat.sub_self]; rfl
theorem o_add : SoundO2 k hd (binaryOp .Add) oAdd := by
  intro C hC A frs hA μ σ s I U u r1 W w r2 Q E PQ PE hf hQ hE
  induction r1 using VR.casesOn with
  | int a t =>
    induction r2 using VR.casesOn with
    | int b u => exact P.add_int (hQ _ _ _ _ _ toks_le (I.toks _) (.int _ _) hf)
    | _ => exact hf.elim
  | str x t =>
    induction r2 using VR.casesOn with
    | str y u =>
      obtain ⟨hz, hq⟩ := hf
      refine P.add_str ?_
      by_cases hx : ((⟨x.toArray⟩ : Str).length == 0) = true
      · rw [if_pos hx]
        have : x = [] := by simpa [Str.length] using hx
        subst this
        exact hQ _ _ _ _ _ .refl I (.str y u) hq
      · rw [if_neg hx]
        by_cases hy : ((⟨y.toArray⟩ : Str).length == 0) = true
        · rw [if_pos hy]
          have : y = [] := by simpa [Str.length] using hy
          subst this
          rw [List.append_nil] at hq
          exact hQ _ _ _ _ _ .refl I (.str x t) hq
        · rw [if_neg hy]
          refine ⟨?_, ?_⟩
          · rw [Str.length_append]; simp only [Str.length, List.size_toArray]; exact Nat.le_trans hz lim_le
          · have e : ((⟨x.toArray⟩ : Str) ++ (⟨y.toArray⟩ : Str)) = ⟨(x ++ y).toArray⟩ := by
              apply Str.ext'
              rw [Str.cps_append]; simp
            rw [e]
            exact hQ _ _ _ _ _ toks_le (I.toks _) (.str _ _) hq
    | _ => exact hf.elim
  | lst h1 =>
    induction r2 using VR.casesOn with
    | lst h2 =>
      obtain ⟨xs, ys, e1, e2, hz, hq⟩ := hf
      obtain ⟨xi, n1, l1, v1⟩ := I.isL h1 e1
      obtain ⟨yi, n2, l2, v2⟩ := I.isL h2 e2
      refine P.add_list l1 l2 ?_ ?_
      · rw [List.append_toArray]
        exact newList_run I (v1.append v2) hQ hq _
      · simp only [List.size_toArray]; rw [v1.length, v2.length]; exact Nat.le_trans hz lim_le
    | _ => exact hf.elim
  | _ => exact hf.elim
noncomputable def oSub : Op2
  | .int a, .int b, σ, Q, _ => Q (.int (a - b)) σ
  | _, _, _, _, _ => False
theorem o_sub : SoundO2 k hd (binaryOp .Sub) oSub := by
  intro C hC A frs hA μ σ s I U u r1 W w r2 Q E PQ PE hf hQ hE
  induction r1 using VR.casesOn with
  | int a t =>
    induction r2 using VR.casesOn with
    | int b u => exact P.sub_int (hQ _ _ _ _ _ toks_le (I.toks _) (.int _ _) hf)
    | _ => exact hf.elim
  | _ => exact hf.elim
noncomputable def oMod : Op2
  | .int a, .int b, σ, Q, _ => 0 < b ∧ Q (.int (a % b)) σ
  | _, _, _, _, _ => False
theorem o_mod : SoundO2 k hd (binaryOp .Mod) oMod := by
  intro C hC A frs hA μ σ s I U u r1 W w r2 Q E PQ PE hf hQ hE
  induction r1 using VR.casesOn with
  | int a t =>
    induction r2 using VR.casesOn with
    | int b u =>
      obtain ⟨h0, hq⟩ := hf
      refine mod_int (by omega) ?_
      rw [Int.fmod_eq_emod_of_nonneg _ (by omega)]
      exact hQ _ _ _ _ _ toks_le (I.toks _) (.int _ _) hq
    | _ => exact hf.elim
  | _ => exact hf.elim
noncomputable def oDiv : Op2
  | .int a, .int b, σ, Q, _ => (0 < b ∧ b < 1000000) ∧ Q (.int (a / b)) σ
  | _, _, _, _, _ => False
theorem o_div : SoundO2 k hd (binaryOp .FloorDiv) oDiv := by
  intro C hC A frs hA μ σ s I U u r1 W w r2 Q E PQ PE hf hQ hE
  induction r1 using VR.casesOn with
  | int a t =>
    induction r2 using VR.casesOn with
    | int b u =>
      obtain ⟨⟨h0, h1⟩, hq⟩ := hf
      refine floordiv_int (by omega) ?_ (.inl (PyProof.noPylong_small (by omega)))
      rw [Int.fdiv_eq_ediv_of_nonneg _ (by omega)]
      exact hQ _ _ _ _ _ toks_le (I.toks _) (.int _ _) hq
    | _ => exact hf.elim
  | _ => exact hf.elim
noncomputable def oPow : Op2
  | .int a, .int b, σ, Q, _ => (0 ≤ b ∧ b < 1000 ∧ a.natAbs < 2 ^ 64) ∧ Q (.int (a ^ b.toNat)) σ
  | _, _, _, _, _ => False
theorem o_pow : SoundO2 k hd (binaryOp .Pow) oPow := by
  intro C hC A frs hA μ σ s I U u r1 W w r2 Q E PQ PE hf hQ hE
  induction r1 using VR.casesOn with
  | int a t =>
    induction r2 using VR.casesOn with
    | int b u =>
      obtain ⟨⟨h0, h1, h2⟩, hq⟩ := hf
      exact pow_int_small h0 (by omega) h2 (hQ _ _ _ _ _ toks_le (I.toks _) (.int _ _) hq)
    | _ => exact hf.elim
  | _ => exact hf.elim
theorem rep_fold {α : Type} (xs : List α) : ∀ (n : Nat) (acc : Array α), (List.replicate n xs.toArray).foldl (· ++ ·) acc = acc ++ ((List.replicate n xs).flatten).toArray
  | 0, acc => by simp
  | n + 1, acc => by rw [List.replicate_succ, List.foldl_cons, rep_fold xs n, List.replicate_succ, List.flatten_cons]; apply Array.ext'; simp
noncomputable def oMul : Op2
  | .str x, .int n, σ, Q, _ => (0 ≤ n ∧ n < 1000 ∧ x.length < 1000) ∧ Q (.str (List.replicate n.toNat x).flatten) σ
  | .lst i, .int n, σ, Q, _ => ∃ xs, σ[i]? = some (.list xs) ∧ (0 ≤ n ∧ n < 1000 ∧ 0 < xs.length ∧ xs.length < 1000) ∧ Q (.lst σ.length) (σ ++ [.list (List.replicate n.toNat xs).flatten])
  | _, _, _, _, _ => False
theorem Str.len_mk (x : List Nat) : (⟨x.toArray⟩ : Str).length = x.length := by simp [Str.length]
theorem VRs.rep {B μ h vs xs} (r : VRs B μ h vs xs) : ∀ n : Nat, VRs B μ h (List.replicate n vs).flatten (List.replicate n xs).flatten
  | 0 => by simp; exact .nil
  | n + 1 => by rw [List.replicate_succ, List.flatten_cons, List.replicate_succ, List.flatten_cons]; exact r.append (r.rep n)
theorem o_mul : SoundO2 k hd (binaryOp .Mult) oMul := by
  intro C hC A frs hA μ σ s I U u r1 W w r2 Q E PQ PE hf hQ hE
  induction r1 using VR.casesOn with
  | str x t =>
    induction r2 using VR.casesOn with
    | int n u =>
      obtain ⟨⟨h0, h1, h2⟩, hq⟩ := hf
      have hl : x.length * n.toNat ≤ 1000 * 1000 := Nat.mul_le_mul (by omega) (by omega)
      refine P.mul_str ?_ ?_ ?_ ?_
      · rw [decide_eq_false (by omega), decide_eq_false (by omega)]; rfl
      · intro h3 _
        rw [Str.len_mk]
        have : (9223372036854775807 : Int) / n ≥ 1000 := (Int.le_ediv_iff_mul_le (by omega)).mpr (by omega)
        have e : ((2 : Int) ^ 63 - 1) = 9223372036854775807 := by decide
        rw [e]
        omega
      · intro _ _
        rw [Str.len_mk]
        simp only [Builtin.Str.tooLong, decide_eq_false_iff_not]
        rw [sizeLine_eq] at *
        omega
      · have lenr : ∀ m : Nat, (List.replicate m x).flatten.length = m * x.length := fun m => by simp
        split
        · have : n.toNat = 0 := by omega
          rw [this] at hq
          exact ⟨by decide, hQ _ _ _ _ _ toks_le (I.toks _) (.str [] _) hq⟩
        · split
          · rename_i h3 h4
            simp only [Bool.or_eq_true, beq_iff_eq] at h4
            rw [Str.len_mk] at h4
            rcases h4 with h4 | h4
            · subst h4
              simp at hq
              exact hQ _ _ _ _ _ .refl I (.str x t) hq
            · have : x = [] := by simpa using h4
              subst this
              simp at hq
              exact hQ _ _ _ _ _ .refl I (.str [] t) hq
          · have e : (⟨(List.replicate n.toNat (⟨x.toArray⟩ : Str).cps).foldl (fun x1 x2 => x1 ++ x2) #[]⟩ : Str) = ⟨((List.replicate n.toNat x).flatten).toArray⟩ := by
              apply Str.ext'
              show (List.replicate n.toNat x.toArray).foldl (· ++ ·) #[] = _
              rw [rep_fold]; simp
            rw [e]
            refine ⟨?_, hQ _ _ _ _ _ toks_le (I.toks _) (.str _ _) hq⟩
            rw [Str.len_mk, lenr, Nat.mul_comm, sizeLine_eq]; omega
    | _ => exact hf.elim
  | lst h1 =>
    induction r2 using VR.casesOn with
    | int n u =>
      obtain ⟨xs, e1, ⟨h0, h2, h3, h4⟩, hq⟩ := hf
      obtain ⟨xi, n1, l1, v1⟩ := I.isL h1 e1
      have hl : xi.length * n.toNat ≤ 1000 * 1000 := Nat.mul_le_mul (by rw [v1.length]; omega) (by omega)
      have hp := v1.length
      refine wpAny_binaryOp_repeat_ref (T := "list") (U := "int") (by decide) ⟨_, l1, rfl⟩ (fun s' => typeIs_int s' n u) noFill_list_mul F.fills_int_mul F.slot_int_rmul repeat_list F.slot_int_index.lookup
        (call_meets F.slot_int_rmul (typeIs_int s n u) F.entry_int_rmul (F.args_int_rmul_2 _ _) (lm_int_rmul_list_any n u _ xi.toArray n1 none #[])
          ⟨l1, rfl, ⟨_, l1, rfl⟩, call_meets F.slot_list_mul ⟨_, l1, rfl⟩ F.entry_list_mul (F.args_list_mul_2 _ _)
            (lm_list_mul_any _ xi.toArray n1 none #[] n u (by simp [Builtin.List.listFitsIndex]; omega) (by simp only [List.size_toArray]; omega) (by simp [Builtin.List.listTooLong, sizeLine]; omega))
            ⟨l1, ?_⟩⟩)
      have hne : xi.toArray.isEmpty = false := by
        cases xi with
        | nil => simp at hp; omega
        | cons a b => rfl
      rw [hne]
      simp only [Bool.false_eq_true, if_false]
      rw [rep_fold, show (#[] : Array Value) ++ ((List.replicate n.toNat xi).flatten).toArray = ((List.replicate n.toNat xi).flatten).toArray from by apply Array.ext'; simp]
      exact newList_run I (v1.rep _) hQ hq _
    | _ => exact hf.elim
  | _ => exact hf.elim
noncomputable def vS (xs : List (List Nat)) : List V := xs.map V.str
noncomputable def vB (xs : List Bool) : List V := xs.map V.bool
noncomputable def vI (xs : List Int) : List V := xs.map V.int
noncomputable def asc (xs : List (List Nat)) : Prop := ∀ l ∈ xs, ∀ c ∈ l, c < 128
noncomputable def pdS (xs : List (List Nat)) : PyData := .list (xs.map fun l => .str ⟨l.toArray⟩)
noncomputable def pdB (xs : List Bool) : PyData := .list (xs.map fun b => .bool b)
noncomputable def vP (xs : List (Bool × List Nat)) : List V := xs.map fun p => V.tup [.bool p.1, .str p.2]
noncomputable def ascP (xs : List (Bool × List Nat)) : Prop := ∀ p ∈ xs, ∀ c ∈ p.2, c < 128
noncomputable def pdP (xs : List (Bool × List Nat)) : PyData := .list (xs.map fun p => .tuple [.bool p.1, .str ⟨p.2.toArray⟩])
inductive DataOf (σ : Sto) : V → PyData → Nat → Prop
  | sl {i : Nat} {xs : List (List Nat)} : σ[i]? = some (.list (vS xs)) → asc xs → DataOf σ (.lst i) (pdS xs) 1
  | bl {i : Nat} {xs : List Bool} : σ[i]? = some (.list (vB xs)) → DataOf σ (.lst i) (pdB xs) 1
  | pl {i : Nat} {xs : List (Bool × List Nat)} : σ[i]? = some (.list (vP xs)) → ascP xs → DataOf σ (.lst i) (pdP xs) 2
  | two {a b : V} {d e : PyData} : DataOf σ a d 1 → DataOf σ b e 1 → DataOf σ (.tup [a, b]) (.tuple [d, e]) 2
theorem reads_strs {B μ h} {xs : List (List Nat)} : ∀ {vs}, VRs B μ h (vS xs) vs → ReadsAll h vs (xs.map fun l => .str ⟨l.toArray⟩) [] := by
  induction xs with
  | nil => intro vs r; rw [VRs.nilI r]; exact .nil
  | cons a xs ih =>
    intro vs r
    obtain ⟨y, ys, rfl, r1, r2⟩ := VRs.consI r
    obtain ⟨t, rfl⟩ := r1.strI
    exact ReadsAll.cons (as := []) (bs := []) (.str _ _) (ih r2)
theorem reads_bools {B μ h} {xs : List Bool} : ∀ {vs}, VRs B μ h (vB xs) vs → ReadsAll h vs (xs.map fun b => .bool b) [] := by
  induction xs with
  | nil => intro vs r; rw [VRs.nilI r]; exact .nil
  | cons a xs ih =>
    intro vs r
    obtain ⟨y, ys, rfl, r1, r2⟩ := VRs.consI r
    rw [r1.boolI]
    exact ReadsAll.cons (as := []) (bs := []) (.bool _) (ih r2)
theorem reads_pairs {B μ h} {xs : List (Bool × List Nat)} : ∀ {vs}, VRs B μ h (vP xs) vs → ∃ as, ReadsAll h vs (xs.map fun p => .tuple [.bool p.1, .str ⟨p.2.toArray⟩]) as := by
  induction xs with
  | nil => intro vs r; rw [VRs.nilI r]; exact ⟨_, .nil⟩
  | cons a xs ih =>
    intro vs r
    obtain ⟨y, ys, rfl, r1, r2⟩ := VRs.consI r
    obtain ⟨c, zs, n, rfl, ht, r3⟩ := r1.tupI
    obtain ⟨z1, zr, rfl, r4, r5⟩ := r3.consI
    obtain ⟨z2, zq, rfl, r6, r7⟩ := r5.consI
    obtain ⟨t, rfl⟩ := r6.strI
    rw [r4.boolI, r7.nilI] at ht
    obtain ⟨as, q⟩ := ih r2
    exact ⟨_, ReadsAll.cons (reads_tuple_at ht rfl rfl (ReadsAll.cons (as := []) (bs := []) (.bool _) (ReadsAll.cons (as := []) (bs := []) (.str _ _) .nil))) q⟩
theorem data_reads {C frs μ σ s} (I : Inv C frs μ σ s) {U d n} (x : DataOf σ U d n) : ∀ {u}, VR C.base μ s.heap U u → ∃ as, Reads s.heap u d as := by
  induction x with
  | sl e _ =>
    intro u r
    obtain ⟨a, rfl, h⟩ := r.lstI
    obtain ⟨xi, n1, l1, v1⟩ := I.isL h e
    exact ⟨_, reads_list_at l1 rfl rfl (reads_strs v1)⟩
  | bl e =>
    intro u r
    obtain ⟨a, rfl, h⟩ := r.lstI
    obtain ⟨xi, n1, l1, v1⟩ := I.isL h e
    exact ⟨_, reads_list_at l1 rfl rfl (reads_bools v1)⟩
  | pl e _ =>
    intro u r
    obtain ⟨a, rfl, h⟩ := r.lstI
    obtain ⟨xi, n1, l1, v1⟩ := I.isL h e
    obtain ⟨as, q⟩ := reads_pairs v1
    exact ⟨_, reads_list_at l1 rfl rfl q⟩
  | two a b iha ihb =>
    intro u r
    obtain ⟨c, zs, n, rfl, ht, r3⟩ := r.tupI
    obtain ⟨z1, zr, rfl, ra, r5⟩ := r3.consI
    obtain ⟨z2, zq, rfl, rb, r7⟩ := r5.consI
    rw [r7.nilI] at ht
    obtain ⟨as, qa⟩ := iha ra
    obtain ⟨bs, qb⟩ := ihb rb
    exact ⟨_, reads_tuple_at ht rfl rfl (ReadsAll.cons qa (ReadsAll.cons qb .nil))⟩
theorem strOk_asc {l : List Nat} (h : ∀ c ∈ l, c < 128) : PyData.strOk ⟨l.toArray⟩ = true := by
  simp only [PyData.strOk, List.all_toArray, List.all_eq_true, decide_eq_true_eq]
  intro c hc
  have := h c hc
  omega
theorem beq_dec {α : Type} [DecidableEq α] [BEq α] [LawfulBEq α] (a b : α) : (a == b) = decide (a = b) := by by_cases h : a = b <;> simp [h]
theorem lay_strs : ∀ xs : List (List Nat), asc xs → PyData.canLayAll0 (xs.map fun l => .str ⟨l.toArray⟩) = true ∧ PyData.depthAll (xs.map fun l => PyData.str ⟨l.toArray⟩) = 0
  | [], _ => ⟨rfl, rfl⟩
  | a :: r, h => by
    have := lay_strs r fun l hl => h l (.tail _ hl)
    simp [PyData.canLayAll0, PyData.canLay0, PyData.depthAll, PyData.depth, this.1, this.2, strOk_asc (h a (.head _))]
theorem lay_bools : ∀ xs : List Bool, PyData.canLayAll0 (xs.map fun b => .bool b) = true ∧ PyData.depthAll (xs.map fun b => PyData.bool b) = 0
  | [] => ⟨rfl, rfl⟩
  | _ :: r => by simp [PyData.canLayAll0, PyData.canLay0, PyData.depthAll, PyData.depth, (lay_bools r).1, (lay_bools r).2]
theorem lay_pairs : ∀ xs : List (Bool × List Nat), ascP xs → PyData.canLayAll0 (xs.map fun p => .tuple [.bool p.1, .str ⟨p.2.toArray⟩]) = true ∧ PyData.depthAll (xs.map fun p => PyData.tuple [.bool p.1, .str ⟨p.2.toArray⟩]) ≤ 1
  | [], _ => ⟨rfl, Nat.zero_le _⟩
  | a :: r, h => by
    have h1 := (lay_pairs r fun l hl => h l (.tail _ hl)).1
    have h2 := (lay_pairs r fun l hl => h l (.tail _ hl)).2
    have h3 := strOk_asc (h a (.head _))
    refine ⟨by simp [PyData.canLayAll0, PyData.canLay0, h1, h3], ?_⟩
    simp only [List.map_cons, PyData.depthAll, PyData.depth]
    omega
theorem data_lay {σ U d n} (x : DataOf σ U d n) : d.canLay0 = true ∧ d.depth ≤ n := by
  induction x with
  | @sl i xs e h => simp [pdS, PyData.canLay0, PyData.depth, (lay_strs xs h).1, (lay_strs xs h).2]
  | @bl i xs e => simp [pdB, PyData.canLay0, PyData.depth, (lay_bools xs).1, (lay_bools xs).2]
  | @pl i xs e h =>
    have := (lay_pairs xs h).2
    simp [pdP, PyData.canLay0, PyData.depth, (lay_pairs xs h).1]; omega
  | two a b iha ihb =>
    simp [PyData.canLay0, PyData.canLayAll0, iha.1, ihb.1, PyData.depth, PyData.depthAll]
    have := iha.2
    have := ihb.2
    omega
theorem data_shaped {σ U d n} (x : DataOf σ U d n) : SeqAt.shaped d = true := by
  obtain ⟨a, b⟩ := data_lay x
  have : n ≤ 2 := by cases x <;> omega
  simp [SeqAt.shaped, a]; omega
theorem eqv_pdS : ∀ xs ys : List (List Nat), PyData.eqvAll (xs.map fun l => .str ⟨l.toArray⟩) (ys.map fun l => .str ⟨l.toArray⟩) = decide (xs = ys)
  | [], [] => rfl
  | [], _ :: _ => by simp [PyData.eqvAll]
  | _ :: _, [] => by simp [PyData.eqvAll]
  | a :: r, b :: t => by
    simp only [List.map_cons, PyData.eqvAll, PyData.eqv, eqv_pdS r t, List.cons.injEq]
    have e : ((⟨a.toArray⟩ : Str) == ⟨b.toArray⟩) = decide (a = b) := by
      by_cases h : a = b
      · subst h; simp
      · simp [h]
    rw [e]; simp
theorem eqv_S (xs ys : List (List Nat)) : (pdS xs).eqv (pdS ys) = decide (xs = ys) := by simp only [pdS, PyData.eqv]; exact eqv_pdS xs ys
theorem eqv_pdB : ∀ xs ys : List Bool, PyData.eqvAll (xs.map fun l => .bool l) (ys.map fun l => .bool l) = decide (xs = ys)
  | [], [] => rfl
  | [], _ :: _ => by simp [PyData.eqvAll]
  | _ :: _, [] => by simp [PyData.eqvAll]
  | a :: r, b :: t => by
    simp only [List.map_cons, PyData.eqvAll, PyData.eqv, eqv_pdB r t, List.cons.injEq]
    cases a <;> cases b <;> simp
theorem eqv_B (xs ys : List Bool) : (pdB xs).eqv (pdB ys) = decide (xs = ys) := by simp only [pdB, PyData.eqv]; exact eqv_pdB xs ys
theorem eqv_two (a b c d : PyData) : (PyData.tuple [a, b]).eqv (.tuple [c, d]) = (a.eqv c && b.eqv d) := by simp [PyData.eqv, PyData.eqvAll]
theorem eqv_P_nil (xs : List (Bool × List Nat)) : (pdP xs).eqv (pdS []) = xs.isEmpty := by cases xs <;> simp [pdP, pdS, PyData.eqv, PyData.eqvAll]
theorem units_le {C A frs} {k : Nat} {hd : Mo} (hA : AOk C A frs k hd) : A.units + 64 < cLine := by have := hA.units; rw [show cLine = 9900 from rfl]; omega
noncomputable def oEqNe (neg : Bool) : Op2
  | .int a, .int b, σ, Q, _ => Q (.bool (decide (a = b) != neg)) σ
  | .str a, .str b, σ, Q, _ => Q (.bool (decide (a = b) != neg)) σ
  | .bool a, .bool b, σ, Q, _ => Q (.bool ((a == b) != neg)) σ
  | U, W, σ, Q, _ => ∃ d e n m, DataOf σ U d n ∧ DataOf σ W e m ∧ Q (.bool (d.eqv e != neg)) σ
theorem eqNe_cases {neg U W σ Q E} (h : oEqNe neg U W σ Q E) : (∃ a b, U = .int a ∧ W = .int b ∧ Q (.bool (decide (a = b) != neg)) σ) ∨ (∃ a b, U = .str a ∧ W = .str b ∧ Q (.bool (decide (a = b) != neg)) σ) ∨
    (∃ a b, U = .bool a ∧ W = .bool b ∧ Q (.bool ((a == b) != neg)) σ) ∨ ∃ d e n m, DataOf σ U d n ∧ DataOf σ W e m ∧ Q (.bool (d.eqv e != neg)) σ := by
  cases U with
  | int a => cases W with
    | int b => exact .inl ⟨a, b, rfl, rfl, h⟩
    | _ => exact .inr (.inr (.inr h))
  | str a => cases W with
    | str b => exact .inr (.inl ⟨a, b, rfl, rfl, h⟩)
    | _ => exact .inr (.inr (.inr h))
  | bool a => cases W with
    | bool b => exact .inr (.inr (.inl ⟨a, b, rfl, rfl, h⟩))
    | _ => exact .inr (.inr (.inr h))
  | _ => exact .inr (.inr (.inr h))
theorem o_eq : SoundO2 k hd (compareOp .Eq) (oEqNe false) := by
  intro C hC A frs hA μ σ s I U u r1 W w r2 Q E PQ PE hf hQ hE
  have go : ∀ {b : Bool}, Q (.bool (b != false)) σ → PQ (.bool b) s := fun {b} h => hQ _ _ _ _ _ .refl I (.bool b) (Bool.bne_false b ▸ h)
  rcases eqNe_cases hf with ⟨a, b, rfl, rfl, hq⟩ | ⟨a, b, rfl, rfl, hq⟩ | ⟨a, b, rfl, rfl, hq⟩ | ⟨d, e, n, m, d1, d2, hq⟩
  · obtain ⟨t, rfl⟩ := r1.intI
    obtain ⟨t', rfl⟩ := r2.intI
    exact P.eq_int (go (by rw [beq_dec]; exact hq))
  · obtain ⟨t, rfl⟩ := r1.strI
    obtain ⟨t', rfl⟩ := r2.strI
    exact P.eq_str (go (by rw [beq_dec]; exact hq))
  · rw [r1.boolI, r2.boolI]
    exact eq_bool (go hq)
  · obtain ⟨as, q1⟩ := data_reads I d1 r1
    obtain ⟨bs, q2⟩ := data_reads I d2 r2
    exact eq_dataH q1 q2 (data_shaped d1) (data_shaped d2) (units_le hA) (go hq)
theorem o_ne : SoundO2 k hd (compareOp .NotEq) (oEqNe true) := by
  intro C hC A frs hA μ σ s I U u r1 W w r2 Q E PQ PE hf hQ hE
  have go : ∀ {b : Bool}, Q (.bool (b != true)) σ → PQ (.bool !b) s := fun {b} h => hQ _ _ _ _ _ .refl I (.bool _) (Bool.bne_true b ▸ h)
  rcases eqNe_cases hf with ⟨a, b, rfl, rfl, hq⟩ | ⟨a, b, rfl, rfl, hq⟩ | ⟨a, b, rfl, rfl, hq⟩ | ⟨d, e, n, m, d1, d2, hq⟩
  · obtain ⟨t, rfl⟩ := r1.intI
    obtain ⟨t', rfl⟩ := r2.intI
    exact P.ne_int (go (by rw [beq_dec]; exact hq))
  · obtain ⟨t, rfl⟩ := r1.strI
    obtain ⟨t', rfl⟩ := r2.strI
    exact P.ne_str (go (by rw [beq_dec]; exact hq))
  · rw [r1.boolI, r2.boolI]
    exact ne_bool (go hq)
  · obtain ⟨as, q1⟩ := data_reads I d1 r1
    obtain ⟨bs, q2⟩ := data_reads I d2 r2
    exact ne_dataH q1 q2 (data_shaped d1) (data_shaped d2) (units_le hA) (go hq)
end
end Mine

namespace Mine
section
variable {k : Nat} {hd : Mo} {sc : Scope}
noncomputable def oOrd (f : Int → Int → Bool) (g : List Nat → List Nat → Bool) : Op2
  | .int a, .int b, σ, Q, _ => Q (.bool (f a b)) σ
  | .str a, .str b, σ, Q, _ => Q (.bool (g a b)) σ
  | _, _, _, _, _ => False
noncomputable abbrev oLt : Op2 := oOrd (fun a b => decide (a < b)) (fun a b => decide (a < b))
noncomputable abbrev oGt : Op2 := oOrd (fun a b => decide (b < a)) (fun a b => decide (b < a))
noncomputable abbrev oLe : Op2 := oOrd (fun a b => decide (a ≤ b)) (fun a b => !decide (b < a))
noncomputable abbrev oGe : Op2 := oOrd (fun a b => decide (b ≤ a)) (fun a b => !decide (a < b))
theorem oOrd_cases {f g U W σ Q E} (h : oOrd f g U W σ Q E) : (∃ a b, U = .int a ∧ W = .int b ∧ Q (.bool (f a b)) σ) ∨ ∃ a b, U = .str a ∧ W = .str b ∧ Q (.bool (g a b)) σ := by
  cases U with
  | int a => cases W with
    | int b => exact .inl ⟨a, b, rfl, rfl, h⟩
    | _ => exact h.elim
  | str a => cases W with
    | str b => exact .inr ⟨a, b, rfl, rfl, h⟩
    | _ => exact h.elim
  | _ => exact h.elim
theorem o_ord {f g op} (hi : ∀ {C A PE s a b t u} {PQ : Value → Shared → Prop}, PQ (.bool (f a b)) s → wpAny (Md C) A (compareOp op (.int a t) (.int b u)) PQ PE s)
    (hs : ∀ {C A PE s} {a b : List Nat} {t u} {PQ : Value → Shared → Prop}, PQ (.bool (g a b)) s → wpAny (Md C) A (compareOp op (.str ⟨a.toArray⟩ t) (.str ⟨b.toArray⟩ u)) PQ PE s) : SoundO2 k hd (compareOp op) (oOrd f g) := by
  intro C hC A frs hA μ σ s I U u r1 W w r2 Q E PQ PE hf hQ hE
  rcases oOrd_cases hf with ⟨a, b, rfl, rfl, hq⟩ | ⟨a, b, rfl, rfl, hq⟩
  · obtain ⟨t, rfl⟩ := r1.intI
    obtain ⟨t', rfl⟩ := r2.intI
    exact hi (hQ _ _ _ _ _ .refl I (.bool _) hq)
  · obtain ⟨t, rfl⟩ := r1.strI
    obtain ⟨t', rfl⟩ := r2.strI
    exact hs (hQ _ _ _ _ _ .refl I (.bool _) hq)
theorem o_lt : SoundO2 k hd (compareOp .Lt) oLt := o_ord P.lt_int fun h => P.lt_str h
theorem o_gt : SoundO2 k hd (compareOp .Gt) oGt := o_ord P.gt_int fun h => P.gt_str h
theorem o_le : SoundO2 k hd (compareOp .LtE) oLe := o_ord P.le_int fun h => P.le_str h
theorem o_ge : SoundO2 k hd (compareOp .GtE) oGe := o_ord P.ge_int fun h => P.ge_str h
theorem VR.noneI {B h μ v} (x : VR B μ h .none v) : v = .none := by cases x; rfl
theorem VR.obI {B h μ b v} (x : VR B μ h (.ob b) v) : ∃ a, v = .ref a ∧ μ[b]? = some a := by cases x with | ob e => exact ⟨_, rfl, e⟩
theorem CellR.seen {B μ h a c} (x : CellR B μ h a c) : ∃ o, h.get? a = some o ∧ o.cls ≠ .type "tuple" := by cases x with | list a b => exact ⟨_, a, by simp⟩ | obj a => exact ⟨_, a, by simp [objO]⟩
noncomputable def isV : V → V → Option Bool
  | .none, .none => some true
  | .none, _ => none
  | .str _, .none => some false
  | .tup _, .none => some false
  | .lst _, .none => some false
  | .str _, .ob _ => some false
  | .ob i, .ob j => some (decide (i = j))
  | .lst i, .lst j => some (decide (i = j))
  | _, _ => none
noncomputable def oIs (neg : Bool) : Op2 := fun U W σ Q _ => ∃ b, isV U W = some b ∧ (∀ i j, U = .ob i → W = .ob j → σ[i]? = some .obj ∧ σ[j]? = some .obj) ∧ (∀ i j, U = .lst i → W = .lst j → (∃ x, σ[i]? = some (.list x)) ∧ ∃ x, σ[j]? = some (.list x)) ∧ Q (.bool (b != neg)) σ
theorem is_plain {B h μ U u W w b} (r1 : VR B μ h U u) (r2 : VR B μ h W w) (hb : isV U W = some b) :
    (plainIs u w = true ∧ (u == w) = b) ∨ ∃ i j, (U = .ob i ∧ W = .ob j ∨ U = .lst i ∧ W = .lst j) ∧ b = decide (i = j) := by
  cases U with
  | none => cases W with
    | none => rw [r1.noneI, r2.noneI]; exact .inl ⟨rfl, Option.some.inj hb⟩
    | _ => exact (Option.some_ne_none b hb.symm).elim
  | str x => cases W with
    | none => obtain ⟨t, rfl⟩ := r1.strI; rw [r2.noneI]; exact .inl ⟨rfl, Option.some.inj hb⟩
    | ob e => obtain ⟨t, rfl⟩ := r1.strI; obtain ⟨a, rfl, _⟩ := r2.obI; exact .inl ⟨rfl, Option.some.inj hb⟩
    | _ => exact (Option.some_ne_none b hb.symm).elim
  | tup e => cases W with
    | none => obtain ⟨a, _, _, rfl, _⟩ := r1.tupI; rw [r2.noneI]; exact .inl ⟨rfl, Option.some.inj hb⟩
    | _ => exact (Option.some_ne_none b hb.symm).elim
  | lst i => cases W with
    | none => obtain ⟨a, rfl, _⟩ := r1.lstI; rw [r2.noneI]; exact .inl ⟨rfl, Option.some.inj hb⟩
    | lst j => exact .inr ⟨i, j, .inr ⟨rfl, rfl⟩, (Option.some.inj hb).symm⟩
    | _ => exact (Option.some_ne_none b hb.symm).elim
  | ob i => cases W with
    | ob j => exact .inr ⟨i, j, .inl ⟨rfl, rfl⟩, (Option.some.inj hb).symm⟩
    | _ => exact (Option.some_ne_none b hb.symm).elim
  | _ => exact (Option.some_ne_none b hb.symm).elim
theorem is_refs {C A frs μ σ s} {i j : Nat} {x y : Addr} {c d : Cell} (I : Inv C frs μ σ s) (e1 : μ[i]? = some x) (e2 : μ[j]? = some y) (e3 : σ[i]? = some c) (e4 : σ[j]? = some d)
    {E : Value → Shared → Prop} {Q : Bool → Shared → Prop} (h : Q (decide (i = j)) s) : wpAny (Md C) A (isSame (.ref x) (.ref y)) Q E s := by
  by_cases hij : i = j
  · rw [decide_eq_true hij] at h
    rw [hij, e2] at e1
    rw [Option.some.inj e1]
    exact wpAny_isSame_ref_self h
  · rw [decide_eq_false hij] at h
    have hxy : x ≠ y := fun q => hij ((List.getElem?_inj (List.getElem?_eq_some_iff.mp e1).1 I.nd).mp (by rw [e1, e2, q]))
    obtain ⟨o1, g1, n1⟩ := (I.cells _ _ _ e1 e3).seen
    obtain ⟨o2, g2, n2⟩ := (I.cells _ _ _ e2 e4).seen
    exact wpAny_isSame_ref_other hxy g1 g2 n1 h
theorem is_run {C A frs μ σ s U u W w b} (I : Inv C frs μ σ s) (r1 : VR C.base μ s.heap U u) (r2 : VR C.base μ s.heap W w) (hb : isV U W = some b)
    (ho : ∀ i j, U = .ob i → W = .ob j → σ[i]? = some .obj ∧ σ[j]? = some .obj) (hl : ∀ i j, U = .lst i → W = .lst j → (∃ x, σ[i]? = some (.list x)) ∧ ∃ x, σ[j]? = some (.list x))
    {E : Value → Shared → Prop} {Q : Bool → Shared → Prop} (h : Q b s) : wpAny (Md C) A (isSame u w) Q E s := by
  rcases is_plain r1 r2 hb with e | ⟨i, j, ⟨e1, e2⟩ | ⟨e1, e2⟩, rfl⟩
  · exact wpAny_isSame_plain e.1 (e.2.symm ▸ h)
  · obtain ⟨g1, g2⟩ := ho _ _ e1 e2
    rw [e1] at r1
    rw [e2] at r2
    obtain ⟨a, rfl, h1⟩ := r1.obI
    obtain ⟨b, rfl, h2⟩ := r2.obI
    exact is_refs I h1 h2 g1 g2 h
  · obtain ⟨⟨_, g1⟩, _, g2⟩ := hl _ _ e1 e2
    rw [e1] at r1
    rw [e2] at r2
    obtain ⟨a, rfl, h1⟩ := r1.lstI
    obtain ⟨b, rfl, h2⟩ := r2.lstI
    exact is_refs I h1 h2 g1 g2 h
theorem o_is : SoundO2 k hd (compareOp .Is) (oIs false) := by
  intro C hC A frs hA μ σ s I U u r1 W w r2 Q E PQ PE hf hQ hE
  obtain ⟨b, hb, h1, h2, hq⟩ := hf
  show wpAny (Md C) A (do return .bool (← isSame u w)) PQ PE s
  refine wpAny_bind (is_run I r1 r2 hb h1 h2 (wpAny_pure (hQ _ _ _ _ _ .refl I (.bool _) ?_)))
  simpa using hq
theorem o_isNot : SoundO2 k hd (compareOp .IsNot) (oIs true) := by
  intro C hC A frs hA μ σ s I U u r1 W w r2 Q E PQ PE hf hQ hE
  obtain ⟨b, hb, h1, h2, hq⟩ := hf
  show wpAny (Md C) A (do return .bool (!(← isSame u w))) PQ PE s
  refine wpAny_bind (is_run I r1 r2 hb h1 h2 (wpAny_pure (hQ _ _ _ _ _ .refl I (.bool _) ?_)))
  simpa using hq
noncomputable def oIn (neg : Bool) : Op2
  | .str c, .str l, σ, Q, _ => ∃ x, c = [x] ∧ Q (.bool (decide (x ∈ l) != neg)) σ
  | .str c, .lst i, σ, Q, _ => ∃ xs, σ[i]? = some (.list (vS xs)) ∧ Q (.bool (decide (c ∈ xs) != neg)) σ
  | .int c, .lst i, σ, Q, _ => ∃ xs, σ[i]? = some (.list (vI xs)) ∧ Q (.bool (decide (c ∈ xs) != neg)) σ
  | .str c, .tup vs, σ, Q, _ => ∃ xs, vs = vS xs ∧ Q (.bool (decide (c ∈ xs) != neg)) σ
  | _, _, _, _, _ => False
noncomputable def eqS (c : List Nat) : Value → Bool
  | .str y _ => y.cps.toList == c
  | _ => false
noncomputable def eqI (c : Int) : Value → Bool
  | .int y _ => y == c
  | _ => false
theorem any_strs {B μ h} (c : List Nat) {xs : List (List Nat)} : ∀ {vs}, VRs B μ h (vS xs) vs → vs.any (eqS c) = decide (c ∈ xs) := by
  induction xs with
  | nil => intro vs r; rw [VRs.nilI r]; simp
  | cons a xs ih =>
    intro vs r
    obtain ⟨y, ys, rfl, r1, r2⟩ := VRs.consI r
    obtain ⟨t, rfl⟩ := r1.strI
    simp only [List.any_cons, ih r2, List.mem_cons, eqS, beq_dec]
    by_cases h : a = c
    · subst h; simp
    · have : ¬ c = a := fun e => h e.symm
      simp [h, this]
theorem any_ints {B μ h} (c : Int) {xs : List Int} : ∀ {vs}, VRs B μ h (vI xs) vs → vs.any (eqI c) = decide (c ∈ xs) := by
  induction xs with
  | nil => intro vs r; rw [VRs.nilI r]; simp
  | cons a xs ih =>
    intro vs r
    obtain ⟨y, ys, rfl, r1, r2⟩ := VRs.consI r
    obtain ⟨t, rfl⟩ := r1.intI
    simp only [List.any_cons, ih r2, List.mem_cons, eqI, beq_dec]
    by_cases h : a = c
    · subst h; simp
    · have : ¬ c = a := fun e => h e.symm
      simp [h, this]
theorem eqAt_strs {B μ h A s} (c : List Nat) (t : Tok) {xs vs} (r : VRs B μ h (vS xs) vs) : ∀ y ∈ vs, SeqAt.EqAt A s y (.str ⟨c.toArray⟩ t) (eqS c y) := by
  induction xs generalizing vs with
  | nil => rw [r.nilI]; exact fun y hy => nomatch hy
  | cons a as ih =>
    obtain ⟨z, zs, rfl, r1, r2⟩ := r.consI
    obtain ⟨u, rfl⟩ := r1.strI
    intro y hy
    rcases List.mem_cons.mp hy with rfl | hy
    · exact (SeqRoads2.EqGives.str ⟨a.toArray⟩ ⟨c.toArray⟩ u t).at A s
    · exact ih r2 y hy
theorem eqAt_ints {B μ h A s} (c : Int) (t : Tok) {xs vs} (r : VRs B μ h (vI xs) vs) : ∀ y ∈ vs, SeqAt.EqAt A s y (.int c t) (eqI c y) := by
  induction xs generalizing vs with
  | nil => rw [r.nilI]; exact fun y hy => nomatch hy
  | cons a as ih =>
    obtain ⟨z, zs, rfl, r1, r2⟩ := r.consI
    obtain ⟨u, rfl⟩ := r1.intI
    intro y hy
    rcases List.mem_cons.mp hy with rfl | hy
    · exact (MeetsSeq.EqGives.int a c u t).at A s
    · exact ih r2 y hy
theorem oIn_cases {neg C frs μ σ s U u W w Q E} {A : Around} (I : Inv C frs μ σ s) (r1 : VR C.base μ s.heap U u) (r2 : VR C.base μ s.heap W w) (hf : oIn neg U W σ Q E) :
    (∃ x l t t', u = .str ⟨#[x]⟩ t ∧ w = .str ⟨List.toArray l⟩ t' ∧ Q (.bool (decide (x ∈ l) != neg)) σ) ∨
    ∃ a f items, w = .ref a ∧ (s.heap.IsList a items ∨ s.heap.IsTuple a items) ∧ (∀ y ∈ items, SeqAt.EqAt A s y u (f y)) ∧ Q (.bool (items.any f != neg)) σ := by
  cases U with
  | str c =>
    obtain ⟨t, rfl⟩ := r1.strI
    cases W with
    | str l =>
      obtain ⟨x, rfl, hq⟩ := hf
      obtain ⟨t', rfl⟩ := r2.strI
      exact .inl ⟨x, l, t, t', rfl, rfl, hq⟩
    | lst i =>
      obtain ⟨xs, g, hq⟩ := hf
      obtain ⟨a, rfl, e⟩ := r2.lstI
      obtain ⟨xi, n1, l1, v1⟩ := I.isL e g
      exact .inr ⟨a, eqS c, _, rfl, .inl l1.isList, fun y hy => eqAt_strs c t v1 y (List.mem_toArray.mp hy), by rw [List.any_toArray, any_strs c v1]; exact hq⟩
    | tup vs =>
      obtain ⟨xs, rfl, hq⟩ := hf
      obtain ⟨a, ys, n, rfl, e, v1⟩ := r2.tupI
      exact .inr ⟨a, eqS c, _, rfl, .inr ⟨_, e, rfl, _, rfl⟩, fun y hy => eqAt_strs c t v1 y (List.mem_toArray.mp hy), by rw [List.any_toArray, any_strs c v1]; exact hq⟩
    | _ => exact hf.elim
  | int c =>
    obtain ⟨t, rfl⟩ := r1.intI
    cases W with
    | lst i =>
      obtain ⟨xs, g, hq⟩ := hf
      obtain ⟨a, rfl, e⟩ := r2.lstI
      obtain ⟨xi, n1, l1, v1⟩ := I.isL e g
      exact .inr ⟨a, eqI c, _, rfl, .inl l1.isList, fun y hy => eqAt_ints c t v1 y (List.mem_toArray.mp hy), by rw [List.any_toArray, any_ints c v1]; exact hq⟩
    | _ => exact hf.elim
  | _ => exact hf.elim
theorem o_in : SoundO2 k hd (compareOp .In) (oIn false) := by
  intro C hC A frs hA μ σ s I U u r1 W w r2 Q E PQ PE hf hQ hE
  have go : ∀ {b : Bool}, Q (.bool (b != false)) σ → PQ (.bool b) s := fun {b} h => hQ _ _ _ _ _ .refl I (.bool b) (Bool.bne_false b ▸ h)
  rcases oIn_cases I r1 r2 hf with ⟨x, l, t, t', rfl, rfl, hq⟩ | ⟨a, f, items, rfl, l1 | l1, h1, hq⟩
  · refine P.in_str ?_
    rw [StrLaws.found_one ⟨l.toArray⟩ x]
    exact go (by simpa using hq)
  · exact SeqAt.in_listAt f l1 h1 (go hq)
  · exact SeqAt.in_tupleAt f l1 h1 (go hq)
theorem o_notIn : SoundO2 k hd (compareOp .NotIn) (oIn true) := by
  intro C hC A frs hA μ σ s I U u r1 W w r2 Q E PQ PE hf hQ hE
  have go : ∀ {b : Bool}, Q (.bool (b != true)) σ → PQ (.bool !b) s := fun {b} h => hQ _ _ _ _ _ .refl I (.bool _) (Bool.bne_true b ▸ h)
  rcases oIn_cases I r1 r2 hf with ⟨x, l, t, t', rfl, rfl, hq⟩ | ⟨a, f, items, rfl, l1 | l1, h1, hq⟩
  · refine P.notIn_str ?_
    rw [StrLaws.found_one ⟨l.toArray⟩ x]
    exact go (by simpa using hq)
  · exact SeqAt.notIn_listAt f l1 h1 (go hq)
  · exact SeqAt.notIn_tupleAt f l1 h1 (go hq)
end
end Mine

namespace Mine
section
variable {k : Nat} {hd : Mo} {sc : Scope}
noncomputable def atI {α : Type} (xs : List α) (i : Int) : Option α := if 0 ≤ i then xs[i.toNat]? else if -(xs.length : Int) ≤ i then xs[(i + xs.length).toNat]? else none
noncomputable def oIdxX (e : X) : Op2
  | .str s, .int i, σ, Q, _ => (-(10 ^ 9 : Int) < i ∧ i < 10 ^ 9) ∧ ∃ c, atI s i = some c ∧ Q (.str [c]) σ
  | .tup vs, .int i, σ, Q, _ => (-(10 ^ 9 : Int) < i ∧ i < 10 ^ 9) ∧ ∃ v, atI vs i = some v ∧ Q v σ
  | .lst l, .int i, σ, Q, E => (-(10 ^ 9 : Int) < i ∧ i < 10 ^ 9) ∧ ∃ vs, σ[l]? = some (.list vs) ∧ match atI vs i with
    | some v => Q v σ
    | none => E e σ
  | _, _, _, _, _ => False
noncomputable abbrev oIdx : Op2 := oIdxX .idx
theorem excIn_new {C : Ct} {h h' : Heap} {e : Addr} (x : Heap.NewExc h h' e "IndexError") : ExcIn C h h' (.ref e) .idx := by
  obtain ⟨ob, t, h1, h2, h3⟩ := x.there
  exact ⟨e, ob, _, rfl, x.new, h1, ⟨h2, by rw [h2]; simp [OC]⟩, h3, by simp, fun _ => rfl, .inl rfl⟩
theorem atI_seq {α : Type} {xs : List α} {i : Int} {v : α} (h : atI xs i = some v) : ∃ j, seqIndex? i xs.length = some j ∧ xs[j]? = some v := by
  unfold atI at h
  split at h
  · rename_i h0
    have hl := (List.getElem?_eq_some_iff.mp h).1
    exact ⟨i.toNat, seqIndex_of h0 (by omega), h⟩
  · split at h
    · exact ⟨_, seqIndex_neg (by omega) (by omega), h⟩
    · cases h
theorem o_idx_str {ex : X} {C A frs μ σ s} (I : Inv C frs μ σ s) {x : List Nat} {t u : Tok} {i : Int} {Q : V → Sto → Prop} {E : X → Sto → Prop} {PQ PE : Value → Shared → Prop}
    (hf : oIdxX ex (.str x) (.int i) σ Q E) (hQ : QC C frs μ s Q PQ) : wpAny (Md C) A (getItem (.str ⟨x.toArray⟩ t) (.int i u)) PQ PE s := by
  obtain ⟨hb, c, hc, hq⟩ := hf
  obtain ⟨j, h1, h2⟩ := atI_seq hc
  refine P.getItem_str (c := c) ?_ ?_ ?_
  · rw [decide_eq_false (by omega), decide_eq_false (by omega)]; rfl
  · rw [Str.len_mk, h1]; simpa using h2
  · exact hQ _ _ _ _ _ toks_le (I.toks _) (.str [c] _) hq
theorem o_idx_tup {ex : X} {C A frs μ σ s} (I : Inv C frs μ σ s) {vs : List V} {a : Addr} {u : Tok} {i : Int} {Q : V → Sto → Prop} {E : X → Sto → Prop} {PQ PE : Value → Shared → Prop} (r : VR C.base μ s.heap (.tup vs) (.ref a))
    (hf : oIdxX ex (.tup vs) (.int i) σ Q E) (hQ : QC C frs μ s Q PQ) : wpAny (Md C) A (getItem (.ref a) (.int i u)) PQ PE s := by
  obtain ⟨hb, c, hc, hq⟩ := hf
  cases r with
  | tup ht hv =>
    obtain ⟨j, h1, h2⟩ := atI_seq hc
    obtain ⟨y, h3, h4⟩ := hv.at h2
    refine P.getItem_tuple (k := j) (y := y) ht (by omega) (by omega) ?_ ?_ (hQ _ _ _ _ _ .refl I h4 hq)
    · rw [List.size_toArray, hv.length]; exact h1
    · simpa using h3
theorem entry_unchain : entryFor table "proto.unchain" = some Builtin.«proto.unchain» := entryFor_of_fast (by kernel_rfl)
theorem raiseNew_fin {α : Type} {prog : Program} {w : World} {A : Around} {s : Shared} {e a : Addr} {oe oa : Obj} {ve va : Array Value} {Q : α → Shared → Prop} {E : Value → Shared → Prop}
    (hh : A.handled = some (.ref a)) (hne : a ≠ e) (ha : s.heap.get? a = some oa) (hda : oa.data = .fields va) (h2 : va[2]? = some .none) (he : s.heap.get? e = some oe) (hde : oe.data = .fields ve) (hz : 2 < ve.size)
    (h : E (.ref e) { s with heap := s.heap.update e (Obj.mapFields (·.setIfInBounds 2 (.ref a))) }) : wpAny (model prog w) A (raiseNew (.ref e) : Sem α) Q E s := by
  unfold raiseNew
  refine wpAny_bind (wpAny_handled ?_)
  rw [hh]
  dsimp only
  rw [if_pos (show (Value.ref a != Value.ref e) = true by simpa using hne)]
  have st : wpAny (model prog w) A (holding [.ref e] (runValue (.builtin "proto.unchain" ⟨[.ref e, .ref a, .ref a, .bool false], []⟩))) (fun _ s' => s' = s) E s := by
    refine wpAny_holding (wpAny_runValue (codeAny_builtin entry_unchain ?_))
    show wpAny _ _ (field (.ref a) 2 >>= _) _ _ s
    refine wpAny_bind (wpAny_field ha hda h2 ?_)
    rw [if_pos (show (Value.none == Value.none) = true from rfl)]
    first | exact wpAny_bind (wpAny_pure (wpAny_pure rfl)) | exact wpAny_pure rfl | exact wpAny_bind (show wpAny _ _ (ret .none) _ _ s from wpAny_pure (wpAny_pure rfl))
  refine wpAny_bind (wpAny_mono st (fun _ s' e' => ?_) fun _ _ x => x)
  subst e'
  exact wpAny_bind (m := setField (.ref e) 2 (.ref a)) (wpAny_setField he hde hz (wpAny_throw h))
structure MadeFin (h h' : Heap) (e : Addr) : Prop where
  keeps : ∀ b o, h.get? b = some o → h'.get? b = some o
  new : h.get? e = none
  there : ∃ ob vs, h'.get? e = some ob ∧ ob.cls = .type "IndexError" ∧ ob.data = .fields vs ∧ 5 < vs.size ∧ vs[1]? = some .none
theorem raiseWords_fin {α : Type} {prog : Program} {w : World} {A : Around} {s : Shared} {a : Addr} {oa : Obj} {va : Array Value} {msg : String} {Q : α → Shared → Prop} {E : Value → Shared → Prop}
    (hh : A.handled = some (.ref a)) (ha : s.heap.get? a = some oa) (hda : oa.data = .fields va) (h2 : va[2]? = some .none)
    (h : ∀ h' tk e, s.toks ≤ tk → MadeFin s.heap h' e → E (.ref e) { s with heap := h', toks := tk }) :
    wpAny (model prog w) A (raiseErrorWords "IndexError" msg : Sem α) Q E s := by
  have hp := plainExc_IndexError
  unfold raiseErrorWords
  refine wpAny_bind (wpAny_mkText (wpAny_bind ?_))
  unfold newExc newTuple
  refine wpAny_bind (wpAny_newObj_type ?_)
  refine wpAny_bind (m := firstArgMember _ _) (wpAny_of_eq (a := Value.none) (by simp only [firstArgMember, hp.first]; rfl) ?_)
  rw [hp.own]
  refine wpAny_newObj_type ?_
  have hal := Heap.lt_size ha
  refine raiseNew_fin (e := (s.heap.push { cls := .type "tuple", data := .seq [Value.str (msg : Str) s.toks].toArray }).objs.size) hh (by rw [Heap.size_push]; exact Nat.ne_of_lt (Nat.lt_succ_of_lt hal)) (Heap.get?_push_of_some _ (Heap.get?_push_of_some _ ha)) hda h2 (Heap.get?_push_size _ rfl) rfl (by simp) ?_
  refine h _ _ _ (Nat.le_succ _) ⟨fun b o hb => ?_, Heap.get?_none_of_le (by simp), _, _, Heap.get?_update_self _ (Heap.get?_push_size _ rfl) rfl, rfl, rfl, by simp, by simp⟩
  have hbl := Heap.lt_size hb
  rw [Heap.get?_update_other _ _ (by rw [Heap.size_push]; exact Nat.ne_of_gt (Nat.lt_succ_of_lt hbl))]
  exact Heap.get?_push_of_some _ (Heap.get?_push_of_some _ hb)
theorem getItem_out_fin {prog : Program} {w : World} {A : Around} {s : Shared} {a : Addr} {oa : Obj} {va : Array Value} {l : Addr} {items : Array Value} {k : Int} {t : Tok} {Q : Value → Shared → Prop} {E : Value → Shared → Prop}
    (hh : A.handled = some (.ref a)) (ha : s.heap.get? a = some oa) (hda : oa.data = .fields va) (h2 : va[2]? = some .none) (hl : s.heap.IsList l items)
    (hout : k < -(items.size : Int) ∨ (items.size : Int) ≤ k) (hlo : -(2 ^ 63) ≤ k) (hhi : k < 2 ^ 63)
    (hE : ∀ h' tk e, s.toks ≤ tk → MadeFin s.heap h' e → E (.ref e) { s with heap := h', toks := tk }) :
    wpAny (model prog w) A (getItem (.ref l) (.int k t)) Q E s := by
  obtain ⟨o, ho, hc, ne, hd⟩ := id hl
  unfold getItem
  try with_reducible refine wpAny_holding ?_
  first | refine wpAny_bind (wpAny_pure ?_) | skip
  refine wpAny_bind (wpAny_sequenceKey hl.typeIs (by decide) ?_)
  refine wpAny_bind (wpAny_callSpecial?_slot (name := Str.ofString "__getitem__") hl.typeIs slot_list_getitem
    (wpAny_call_entry slot_list_getitem hl.typeIs entry_list_getitem ?_ (args_list_getitem _ _)))
  show wpAny _ _ (Builtin.List.listSubscript? (.int k t) >>= _) _ _ s
  refine wpAny_bind (wpAny_listSubscript_int (fitsIndex_both hlo hhi) ?_)
  clear hlo hhi
  cases k with
  | ofNat j =>
    have hx : items[j]? = none := by
      rcases hout with h | h
      · exact absurd h (by simp only [Int.ofNat_eq_natCast]; omega)
      · exact Array.getElem?_eq_none (by have : (items.size : Int) ≤ (j : Int) := h; omega)
    show wpAny _ _ ((seqItemAt l j >>= fun r => pure (r.map (j, ·))) >>= _) _ _ s
    refine wpAny_bind (wpAny_bind (wpAny_seqItemAt ho hd (wpAny_pure ?_)))
    rw [hx]
    first
      | exact wpAny_bind (wpAny_rule (raiseWords_fin hh ha hda h2 hE))
      | exact wpAny_bind (wpAny_rule (wpAny_bind (raiseWords_fin hh ha hda h2 hE)))
      | exact wpAny_bind (wpAny_bind (wpAny_rule (raiseWords_fin hh ha hda h2 hE)))
      | exact wpAny_rule (raiseWords_fin hh ha hda h2 hE)
  | negSucc j =>
    have hidx : seqIndex? (Int.negSucc j) items.size = none := by
      rcases hout with h | h
      · exact seqIndex_below h
      · exact absurd h (by have := Int.negSucc_lt_zero j; omega)
    show wpAny _ _ ((Builtin.List.listItems (.ref l) >>= fun xs => pure ((seqIndex? (Int.negSucc j) xs.size).bind fun i => xs[i]?.map (i, ·))) >>= _) _ _ s
    refine wpAny_bind (wpAny_bind ?_)
    show wpAny _ _ (seqItems? (.ref l) >>= _) _ _ s
    refine wpAny_bind (wpAny_seqItems ho hd (wpAny_pure (wpAny_pure ?_)))
    rw [hidx]
    first
      | exact wpAny_bind (wpAny_rule (raiseWords_fin hh ha hda h2 hE))
      | exact wpAny_bind (wpAny_rule (wpAny_bind (raiseWords_fin hh ha hda h2 hE)))
      | exact wpAny_bind (wpAny_bind (wpAny_rule (raiseWords_fin hh ha hda h2 hE)))
      | exact wpAny_rule (raiseWords_fin hh ha hda h2 hE)
noncomputable def CanRaise (C : Ct) (A : Around) (e : X) : Prop := (A.handled = none ∧ e = .idx) ∨ (∃ a ∈ C.exs, A.handled = some (.ref a)) ∧ e = .idxc
theorem o_idx_list {C A frs μ σ s} {ex : X} (hh : CanRaise C A ex) (I : Inv C frs μ σ s) {l : Nat} {a : Addr} {u : Tok} {i : Int} {Q : V → Sto → Prop} {E : X → Sto → Prop} {PQ PE : Value → Shared → Prop} (r : VR C.base μ s.heap (.lst l) (.ref a))
    (hf : oIdxX ex (.lst l) (.int i) σ Q E) (hQ : QC C frs μ s Q PQ) (hE : EC C frs μ s E PE) : wpAny (Md C) A (getItem (.ref a) (.int i u)) PQ PE s := by
  obtain ⟨hb, vs, hc, hq⟩ := hf
  cases r with
  | lst e =>
    obtain ⟨xi, n1, l1, v1⟩ := I.isL e hc
    have hlen := v1.length
    cases hv : atI vs i with
    | some v =>
      rw [hv] at hq
      unfold atI at hv
      split at hv
      · obtain ⟨y, h3, h4⟩ := v1.at hv
        exact wpAny_getItem_list l1.isList (by omega) (by omega) (by simpa using h3) (hQ _ _ _ _ _ .refl I h4 hq)
      · split at hv
        · obtain ⟨y, h3, h4⟩ := v1.at hv
          refine wpAny_getItem_list_neg l1.isList (by omega) ?_ (by omega) ?_ (hQ _ _ _ _ _ .refl I h4 hq)
          · simp only [List.size_toArray]; omega
          · simp only [List.size_toArray, hlen]; simpa using h3
        · cases hv
    | none =>
      rw [hv] at hq
      have hout : i < -((xi.toArray.size : Nat) : Int) ∨ ((xi.toArray.size : Nat) : Int) ≤ i := by
        simp only [List.size_toArray]
        unfold atI at hv
        split at hv
        · rw [List.getElem?_eq_none_iff] at hv; omega
        · split at hv
          · rw [List.getElem?_eq_none_iff] at hv; omega
          · omega
      rcases hh with ⟨hh, rfl⟩ | ⟨⟨ea, hea, hh⟩, rfl⟩
      rotate_left
      · obtain ⟨_, oa, va, q1, q2, q3, _⟩ := I.han ea hea
        refine getItem_out_fin hh q1 q2 q3 l1.isList hout (by omega) (by omega) fun h' tk x ht hx => ?_
        refine hE _ _ _ _ _ (.of_keeps hx.keeps) (I.keeps hx.keeps rfl rfl ht) ?_ hq
        obtain ⟨ob, vs, h1, h2, h3, h4, h5⟩ := hx.there
        exact ⟨x, ob, vs, rfl, hx.new, h1, ⟨h2, by rw [h2]; simp [OC]⟩, h3, h4, (fun q => (q rfl).elim), .inl h5⟩
      refine wpAny_with_toks (n := s.toks) (Nat.le_refl _) (wpAny_getItem_list_out hh l1.isList hout (by omega) (by omega) fun h' tk x hx ht => ?_)
      · exact hE _ _ _ _ _ (.of_keeps hx.keeps) (I.keeps hx.keeps rfl rfl ht) (excIn_new hx) hq
theorem AOk.can {C A frs k hd e} (h : AOk C A frs k hd) (hm : hd = .pl ∧ e = .idx ∨ hd = .fin ∧ e = .idxc) : CanRaise C A e := by
  rcases hm with ⟨rfl, rfl⟩ | ⟨rfl, rfl⟩
  · exact .inl ⟨h.han rfl, rfl⟩
  · exact .inr ⟨h.fin rfl, rfl⟩
theorem s_idx {a b : Expr} {pos : Pos} {fa' fb : Ex} (ha : SoundE k hd sc a fa') (hb : SoundE k hd sc b fb) {ex : X} (hm : hd = .pl ∧ ex = .idx ∨ hd = .fin ∧ ex = .idxc := by decide)
    (hs : ∀ o i : Value, subscripted b false o i = operate [o, i] (getItem o i) := by intro _ _; rfl) : SoundE k hd sc (.Subscript a b pos) (op2 (oIdxX ex) fa' fb) :=
  .mk fun C hC A frs hA env vars μ σ s R I Q E PQ PE hf hQ hE => by
    refine Subscript_ (two ha hb hC hA R I hf (fun U u W w σ' μ' s' l I' R' r1 r2 g => ?_) hE)
    have hQ' := hQ.after l
    have hE' := hE.after l
    induction r1 using VR.casesOn with
    | str x t => induction r2 using VR.casesOn with
      | int i u => exact tail_any (typeIs_str _ _ _) F.slot_str_getitem.lookup (o_idx_str I' g hQ') (hs _ _)
      | _ => exact g.elim
    | tup e f => induction r2 using VR.casesOn with
      | int i u => exact tail_any (T := "tuple") ⟨_, e, rfl⟩ F.slot_tuple_getitem.lookup (o_idx_tup I' (.tup e f) g hQ') (hs _ _)
      | _ => exact g.elim
    | lst e => induction r2 using VR.casesOn with
      | int i u =>
        obtain ⟨_, vs, hc, _⟩ := id g
        obtain ⟨xi, n1, l1, v1⟩ := I'.isL e hc
        exact tail_any l1.isList.typeIs slot_list_getitem.lookup (o_idx_list (hA.can hm) I' (.lst e) g hQ' hE') (hs _ _)
      | _ => exact g.elim
    | _ => exact g.elim
noncomputable def slc {α : Type} (xs : List α) (lo hi : Option Int) : List α :=
  (xs.drop (lo.elim 0 (clipAt xs.length))).take (hi.elim xs.length (clipAt xs.length) - lo.elim 0 (clipAt xs.length))
theorem slc_length_le {α : Type} (xs : List α) (lo hi : Option Int) : (slc xs lo hi).length ≤ xs.length := by
  unfold slc; rw [List.length_take, List.length_drop]; exact Nat.le_trans (Nat.min_le_right _ _) (Nat.sub_le _ _)
noncomputable def asPart : V → Option (Option Int)
  | .none => some none
  | .int i => some (some i)
  | _ => none
noncomputable def oSlice (U L H : V) (σ : Sto) (Q : V → Sto → Prop) : Prop := ∃ lo hi, asPart L = some lo ∧ asPart H = some hi ∧ match U with
  | .str s => s.length ≤ lim ∧ Q (.str (slc s lo hi)) σ
  | .lst l => ∃ vs, σ[l]? = some (.list vs) ∧ vs.length ≤ lim ∧ Q (.lst σ.length) (σ ++ [.list (slc vs lo hi)])
  | _ => False
theorem str_pick (x : List Nat) (lo hi : Option (Int × Tok)) : (slicePicked ⟨x.toArray⟩ lo hi none) = (List.range ((hi.map (·.1)).elim x.length (clipAt x.length) - (lo.map (·.1)).elim 0 (clipAt x.length))).map ((lo.map (·.1)).elim 0 (clipAt x.length) + ·) := by
  rw [← sliceRange_one]
  unfold slicePicked Builtin.Str.strSliceIndices
  simp only [Str.len_mk, Option.map_none, Option.getD_none]
  congr 1
  · cases lo with
    | none => rfl
    | some p => simp only [Option.map_some, Option.elim]; rw [clipAt_cast]; simp
  · cases hi with
    | none => rfl
    | some p => simp only [Option.map_some, Option.elim]; rw [clipAt_cast]; simp
theorem part_of {B μ h L l} (r : VR B μ h L l) {p} (e : asPart L = some p) : ∃ q : Option (Int × Tok), l = partValue q ∧ q.map (·.1) = p ∧ IsPart l p := by
  cases r with
  | none => cases e; exact ⟨none, rfl, rfl, .none⟩
  | int i t => cases e; exact ⟨some (i, t), rfl, rfl, .int i t⟩
  | _ => cases e
theorem slc_all {α : Type} (xs : List α) (a b : Nat) (h : b - a = xs.length) (hb : b ≤ xs.length) : (xs.drop a).take (b - a) = xs := by
  have : xs.length = 0 ∨ a = 0 := by omega
  rcases this with h0 | h0
  · have : xs = [] := by simpa using h0
    subst this; simp
  · subst h0; rw [h]; simp
theorem clipAt_le (n : Nat) (i : Int) : clipAt n i ≤ n := Int.ofNat_le.mp (by rw [clipAt_cast]; exact Int.max_le.mpr ⟨Int.natCast_nonneg _, Int.min_le_right _ _⟩)
theorem clip_le (n : Nat) (p : Option Int) : p.elim n (clipAt n) ≤ n := by
  cases p with
  | none => exact Nat.le_refl _
  | some i => exact clipAt_le n i
theorem slice_run {C A frs μ σ s U u L l H h} {Q : V → Sto → Prop} {PQ PE : Value → Shared → Prop} {value : Expr} {e1 e2 : Option Expr} {p : Pos} (I : Inv C frs μ σ s) (rU : VR C.base μ s.heap U u) (rL : VR C.base μ s.heap L l) (rH : VR C.base μ s.heap H h)
    (hf : oSlice U L H σ Q) (hQ : QC C frs μ s Q PQ) :
    wpAny (Md C) A (subscriptTail value (.Slice e1 e2 none p) u (.ref s.heap.objs.size)) PQ PE { s with heap := s.heap.push { cls := .type "slice", data := .fields #[l, h, .none] } } := by
  obtain ⟨lo, hi, h1, h2, hf⟩ := hf
  obtain ⟨ql, el, ml, pl⟩ := part_of rL h1
  obtain ⟨qh, eh, mh, ph⟩ := part_of rH h2
  have kp := push_keeps s.heap { cls := .type "slice", data := .fields #[l, h, .none] }
  have I' : Inv C frs μ σ { s with heap := s.heap.push { cls := .type "slice", data := .fields #[l, h, .none] } } := I.keeps kp
  have hQ' := hQ.after (s' := { s with heap := s.heap.push { cls := .type "slice", data := .fields #[l, h, .none] } }) (.of_keeps kp)
  induction rU using VR.casesOn with
  | str x t =>
    obtain ⟨hz, hq⟩ := hf
    refine tail_any (typeIs_str _ _ _) F.slot_str_getitem.lookup (wpAny_getItem_str_slice (l := ql) (u := qh) (st := none) ⟨_, Heap.get?_push_size _ rfl, rfl, by rw [el, eh]; rfl⟩ rfl ?_) rfl
    unfold sliceMade
    rw [str_pick, ml, mh]
    have hfm : (((List.range (hi.elim x.length (clipAt x.length) - lo.elim 0 (clipAt x.length))).map (lo.elim 0 (clipAt x.length) + ·)).filterMap ((⟨x.toArray⟩ : Str).cps[·]?)) = slc x lo hi := by
      exact pick_run x.toArray _ _
    by_cases hc : ((Option.map (fun x => x.fst) (none : Option (Int × Tok))).getD 1 == 1 && (((List.range (hi.elim x.length (clipAt x.length) - lo.elim 0 (clipAt x.length))).map (lo.elim 0 (clipAt x.length) + ·)).length == (⟨x.toArray⟩ : Str).length)) = true
    · rw [if_pos hc]
      have e : slc x lo hi = x := by
        simp only [Option.map_none, Option.getD_none, beq_self_eq_true, Bool.true_and, List.length_map, List.length_range, Str.len_mk, beq_iff_eq] at hc
        exact slc_all x _ _ hc (clip_le _ _)
      rw [e] at hq
      exact hQ' _ _ _ _ _ .refl I' (.str x t) hq
    · rw [if_neg hc, hfm]
      refine ⟨?_, hQ' _ _ _ _ _ toks_le (I'.toks _) (.str _ _) hq⟩
      rw [Str.len_mk]
      exact Nat.le_trans (slc_length_le x lo hi) (Nat.le_trans hz lim_le)
  | lst e =>
    obtain ⟨vs, hc, hz, hq⟩ := hf
    obtain ⟨xi, n1, l1, v1⟩ := I.isL e hc
    have hlen := v1.length
    refine tail_any (l1.push _).isList.typeIs slot_list_getitem.lookup (wpAny_getItem_list_slice (l1.push _).isList (Heap.IsSliceOf.new ..) pl ph .none (by simp) ?_ ?_) rfl
    · have e3 : slicePick xi.toArray lo hi none = (slc xi lo hi).toArray := by
        rw [slicePick_plain]; rfl
      rw [e3]
      have v2 : VRs C.base μ (s.heap.push { cls := .type "slice", data := .fields #[l, h, .none] }) (slc vs lo hi) (slc xi lo hi) := by
        have v3 := v1.mono I .nil (.of_keeps kp)
        unfold slc; rw [hlen]; exact (v3.drop _).take _
      exact newList_run I' v2 hQ' hq _
    · simp only [List.size_toArray]; rw [hlen]; exact Nat.le_trans hz lim_le
  | _ => exact hf.elim
structure SoundP (k : Nat) (hd : Mo) (sc : Scope) (e : Option Expr) (f : Ex) : Prop where
  run : ∀ (C : Ct) (_ : COk C) (A : Around) (frs : List Env) (_ : AOk C A frs k hd) (env : Env) (vars : Vars) (μ : List Addr) (σ : Sto) (s : Shared)
    (_ : EnvR C env sc vars μ s.heap) (_ : Inv C frs μ σ s), Run C A frs μ s (evalPart e env) (f vars σ)
theorem p_none : SoundP k hd sc none cnone := .mk fun C _ A frs _ env vars μ σ s _ I Q E PQ PE hf hQ _ => by
  rw [evalPart_none]; exact wpAny_pure (hQ _ _ _ _ _ .refl I .none hf)
theorem p_some {e f} (h : SoundE k hd sc e f) : SoundP k hd sc (some e) f := ⟨h.run⟩
noncomputable def slice (a lo hi : Ex) : Ex := fun vars σ Q E => a vars σ (fun x σ => lo vars σ (fun y σ => hi vars σ (fun z σ => oSlice x y z σ Q) E) E) E
theorem s_slice {a : Expr} {lo hi : Option Expr} {p pos : Pos} {fa' fl fh : Ex} (ha : SoundE k hd sc a fa') (hl : SoundP k hd sc lo fl) (hh : SoundP k hd sc hi fh) : SoundE k hd sc (.Subscript a (.Slice lo hi none p) pos) (slice fa' fl fh) :=
  .mk fun C hC A frs hA env vars μ σ s R I Q E PQ PE hf hQ hE => by
    refine Subscript_ (ha.run C hC A frs hA env vars μ σ s R I _ _ _ _ hf (fun U u σ1 μ1 s1 l1 I1 r1 hf1 => wpAny_Slice ?_) hE)
    have R1 := R.mono I l1
    refine hl.run C hC A frs hA env vars μ1 σ1 s1 R1 I1 _ _ _ _ hf1 (fun L l σ2 μ2 s2 l2 I2 r2 hf2 => ?_) (hE.after l1)
    have R2 := R1.mono I1 l2
    refine hh.run C hC A frs hA env vars μ2 σ2 s2 R2 I2 _ _ _ _ hf2 (fun H h σ3 μ3 s3 l3 I3 r3 hf3 => ?_) (hE.after (l1.trans l2))
    rw [evalPart_none]
    exact wpAny_pure (slice_run I3 (r1.mono I1 .nil (l2.trans l3)) (r2.mono I2 .nil l3) r3 hf3 (hQ.after (l1.trans (l2.trans l3))))
end
end Mine

namespace Mine
section
variable {k : Nat} {hd : Mo} {sc : Scope}
noncomputable abbrev Tx := Vars → Sto → (Bool → Sto → Prop) → (X → Sto → Prop) → Prop
noncomputable def BC (C : Ct) (frs : List Env) (μ : List Addr) (s : Shared) (Q : Bool → Sto → Prop) (PQ : Bool → Shared → Prop) : Prop :=
  ∀ b σ' μ' s', Le (fa frs) [] μ s.heap μ' s'.heap → Inv C frs μ' σ' s' → Q b σ' → PQ b s'
theorem BC.after {C frs μ s Q PQ μ' s'} (q : BC C frs μ s Q PQ) (l : Le (fa frs) [] μ s.heap μ' s'.heap) : BC C frs μ' s' Q PQ := fun b σ'' μ'' s'' l' => q b σ'' μ'' s'' (l.trans l')
structure SoundT (k : Nat) (hd : Mo) (sc : Scope) (e : Expr) (f : Tx) : Prop where
  run : ∀ (C : Ct) (_ : COk C) (A : Around) (frs : List Env) (_ : AOk C A frs k hd) (env : Env) (vars : Vars) (μ : List Addr) (σ : Sto) (s : Shared)
    (_ : EnvR C env sc vars μ s.heap) (_ : Inv C frs μ σ s) (Q : Bool → Sto → Prop) (E : X → Sto → Prop) (PQ : Bool → Shared → Prop) (PE : Value → Shared → Prop),
    f vars σ Q E → BC C frs μ s Q PQ → EC C frs μ s E PE → wpAny (Md C) A (isTrue e env (eval e env)) PQ PE s
noncomputable def truthV (v : V) (σ : Sto) (Q : Bool → Sto → Prop) : Prop := match v with
  | .bool b => Q b σ
  | .str s => s.length ≤ lim ∧ Q (!s.isEmpty) σ
  | .lst i => ∃ vs, σ[i]? = some (.list vs) ∧ vs.length ≤ lim ∧ Q (!vs.isEmpty) σ
  | _ => False
theorem truth_run {C A frs μ σ s U u} {Q : Bool → Sto → Prop} {PQ : Bool → Shared → Prop} {PE : Value → Shared → Prop} (I : Inv C frs μ σ s) (r : VR C.base μ s.heap U u) (hf : truthV U σ Q) (hQ : BC C frs μ s Q PQ) :
    wpAny (Md C) A (truthy u) PQ PE s := by
  cases r with
  | bool b => exact wpAny_truthy_bool (hQ _ _ _ _ .refl I hf)
  | str x t =>
    obtain ⟨hz, hq⟩ := hf
    refine P.truthy_str ?_ (hQ _ _ _ _ toks_le (I.toks _) ?_)
    · rw [Str.len_mk]; have : lim = 1000000 := rfl; omega
    · rw [Str.len_mk]
      cases x with
      | nil => exact hq
      | cons a b =>
        have q : (((a :: b).length : Int) != 0) = true := by rw [bne_iff_ne]; simp only [List.length_cons]; omega
        rw [q]; exact hq
  | lst e =>
    obtain ⟨vs, hc, hz, hq⟩ := hf
    obtain ⟨xi, n1, l1, v1⟩ := I.isL e hc
    have hlen := v1.length
    refine wpAny_truthy_list l1.isList ?_ (hQ _ _ _ _ toks_le (I.toks _) ?_)
    · simp only [List.size_toArray]; have : lim = 1000000 := rfl; omega
    · cases v1 with
      | nil => exact hq
      | cons a b => exact hq
  | _ => exact hf.elim
noncomputable def tcmp (o : Op2) (a b : Ex) : Tx := fun vars σ Q E => op2 o a b vars σ (fun v σ => ∃ c, v = .bool c ∧ Q c σ) E
noncomputable def tval (a : Ex) : Tx := fun vars σ Q E => a vars σ (fun v σ => truthV v σ Q) E
noncomputable def tnot (a : Tx) : Tx := fun vars σ Q E => a vars σ (fun b σ => Q (!b) σ) E
noncomputable def tand (a b : Tx) : Tx := fun vars σ Q E => a vars σ (fun x σ => if x then b vars σ Q E else Q false σ) E
noncomputable def tor (a b : Tx) : Tx := fun vars σ Q E => a vars σ (fun x σ => if x then Q true σ else b vars σ Q E) E
theorem t_cmp {o : Op2} {op : CmpOp} {a b : Expr} {pos : Pos} {fa' fb : Ex} (ho : SoundO2 k hd (compareOp op) o) (ha : SoundE k hd sc a fa') (hb : SoundE k hd sc b fb) (hm : behindInMarks op b = false := by rfl) :
    SoundT k hd sc (.Compare a [op] [b] pos) (tcmp o fa' fb) := .mk fun C hC A frs hA env vars μ σ s R I Q E PQ PE hf hQ hE =>
  wpAny_isTrue_Compare1 (two ha hb hC hA R I hf (fun U u W w σ' μ' s' l I' R' r1 r2 g => ho C hC A frs hA μ' σ' s' I' U u r1 W w r2 _ _ _ _ g
    (fun V v σ2 μ2 s2 l2 I2 r hq => by
      obtain ⟨c, rfl, hq⟩ := hq
      cases r
      exact wpAny_truthy_bool (hQ _ _ _ _ (l.trans l2) I2 hq)) (hE.after l)) hE) hm
theorem t_val {a : Expr} {f : Ex} (ha : SoundE k hd sc a f) (he : ∀ env, isTrue a env (eval a env) = (do let v ← eval a env; standAt a.pos; holding [v] (truthy v)) := by intro; rfl) : SoundT k hd sc a (tval f) :=
  .mk fun C hC A frs hA env vars μ σ s R I Q E PQ PE hf hQ hE =>
    wpAny_isTrue_value (ha.run C hC A frs hA env vars μ σ s R I _ _ _ _ hf (fun V v σ' μ' s' l I' r hq => truth_run I' r hq (hQ.after l)) hE) (he env)
theorem t_not {a : Expr} {pos : Pos} {f : Tx} (ha : SoundT k hd sc a f) : SoundT k hd sc (.UnaryOp .Not a pos) (tnot f) :=
  .mk fun C hC A frs hA env vars μ σ s R I Q E PQ PE hf hQ hE => wpAny_isTrue_Not (ha.run C hC A frs hA env vars μ σ s R I _ _ _ _ hf (fun b σ' μ' s' l I' hq => hQ _ _ _ _ l I' hq) hE)
structure SoundA (k : Nat) (hd : Mo) (sc : Scope) (op : BoolOp) (es : List Expr) (f : Tx) : Prop where
  run : ∀ (C : Ct) (_ : COk C) (A : Around) (frs : List Env) (_ : AOk C A frs k hd) (env : Env) (vars : Vars) (μ : List Addr) (σ : Sto) (s : Shared)
    (_ : EnvR C env sc vars μ s.heap) (_ : Inv C frs μ σ s) (Q : Bool → Sto → Prop) (E : X → Sto → Prop) (PQ : Bool → Shared → Prop) (PE : Value → Shared → Prop),
    f vars σ Q E → BC C frs μ s Q PQ → EC C frs μ s E PE → wpAny (Md C) A (allTrue op es env) PQ PE s
noncomputable def tlit (b : Bool) : Tx := fun _ σ Q _ => Q b σ
theorem a_and_nil : SoundA k hd sc .And [] (tlit true) := .mk fun C hC A frs hA env vars μ σ s R I Q E PQ PE hf hQ hE => wpAny_allTrue_And_nil (hQ _ _ _ _ .refl I hf)
theorem a_or_nil : SoundA k hd sc .Or [] (tlit false) := .mk fun C hC A frs hA env vars μ σ s R I Q E PQ PE hf hQ hE => wpAny_allTrue_Or_nil (hQ _ _ _ _ .refl I hf)
theorem a_and {a rest f g} (ha : SoundT k hd sc a f) (hr : SoundA k hd sc .And rest g) : SoundA k hd sc .And (a :: rest) (tand f g) :=
  .mk fun C hC A frs hA env vars μ σ s R I Q E PQ PE hf hQ hE => wpAny_allTrue_And_cons (ha.run C hC A frs hA env vars μ σ s R I _ _ _ _ hf (fun b σ' μ' s' l I' hq => by
    cases b with
    | true => exact hr.run C hC A frs hA env vars μ' σ' s' (R.mono I l) I' _ _ _ _ hq (hQ.after l) (hE.after l)
    | false => exact hQ _ _ _ _ l I' hq) hE)
theorem a_or {a rest f g} (ha : SoundT k hd sc a f) (hr : SoundA k hd sc .Or rest g) : SoundA k hd sc .Or (a :: rest) (tor f g) :=
  .mk fun C hC A frs hA env vars μ σ s R I Q E PQ PE hf hQ hE => wpAny_allTrue_Or_cons (ha.run C hC A frs hA env vars μ σ s R I _ _ _ _ hf (fun b σ' μ' s' l I' hq => by
    cases b with
    | false => exact hr.run C hC A frs hA env vars μ' σ' s' (R.mono I l) I' _ _ _ _ hq (hQ.after l) (hE.after l)
    | true => exact hQ _ _ _ _ l I' hq) hE)
theorem t_bop {op es pos f} (h : SoundA k hd sc op es f) : SoundT k hd sc (.BoolOp op es pos) f :=
  .mk fun C hC A frs hA env vars μ σ s R I Q E PQ PE hf hQ hE => wpAny_isTrue_BoolOp (h.run C hC A frs hA env vars μ σ s R I _ _ _ _ hf hQ hE)
noncomputable def ifx (t : Tx) (a b : Ex) : Ex := fun vars σ Q E => t vars σ (fun c σ => if c then a vars σ Q E else b vars σ Q E) E
theorem s_ifx {t a b pos ft fa' fb} (ht : SoundT k hd sc t ft) (ha : SoundE k hd sc a fa') (hb : SoundE k hd sc b fb) : SoundE k hd sc (.IfExp t a b pos) (ifx ft fa' fb) :=
  .mk fun C hC A frs hA env vars μ σ s R I Q E PQ PE hf hQ hE => wpAny_IfExp (ht.run C hC A frs hA env vars μ σ s R I _ _ _ _ hf (fun b σ' μ' s' l I' hq => by
    cases b with
    | true => exact ha.run C hC A frs hA env vars μ' σ' s' (R.mono I l) I' _ _ _ _ hq (hQ.after l) (hE.after l)
    | false => exact hb.run C hC A frs hA env vars μ' σ' s' (R.mono I l) I' _ _ _ _ hq (hQ.after l) (hE.after l)) hE)
noncomputable def andx (a b : Ex) : Ex := fun vars σ Q E => a vars σ (fun v σ => ∃ c, v = .bool c ∧ if c then b vars σ Q E else Q (.bool false) σ) E
theorem s_and {a b pos fa' fb} (ha : SoundE k hd sc a fa') (hb : SoundE k hd sc b fb) : SoundE k hd sc (.BoolOp .And [a, b] pos) (andx fa' fb) :=
  .mk fun C hC A frs hA env vars μ σ s R I Q E PQ PE hf hQ hE => by
    show wpAny (Md C) A (do
      let v ← eval a env
      standAt pos
      let t ← holding [v] (truthy v)
      match BoolOp.And, t with
      | .And, false | .Or, true => pure v
      | _, _ => boolOp pos .And [eval b env]) PQ PE s
    refine wpAny_bind (ha.run C hC A frs hA env vars μ σ s R I _ _ _ _ hf (fun V v σ' μ' s' l I' r hq => ?_) hE)
    obtain ⟨c, rfl, hq⟩ := hq
    cases r
    refine wpAny_bind (wpAny_standAt (wpAny_bind (wpAny_holding (wpAny_truthy_bool ?_))))
    cases c with
    | true => exact hb.run C hC A frs hA env vars μ' σ' s' (R.mono I l) I' _ _ _ _ hq (hQ.after l) (hE.after l)
    | false => exact wpAny_pure (hQ _ _ _ _ _ l I' (.bool _) hq)
noncomputable def oNeg : Op1
  | .int a, σ, Q, _ => Q (.int (-a)) σ
  | _, _, _, _ => False
theorem s_neg {a pos f} (ha : SoundE k hd sc a f) : SoundE k hd sc (.UnaryOp .USub a pos) (op1 oNeg f) :=
  .mk fun C hC A frs hA env vars μ σ s R I Q E PQ PE hf hQ hE => wpAny_UnaryOp (ha.run C hC A frs hA env vars μ σ s R I _ _ _ _ hf (fun V v σ' μ' s' l I' r hq => by
    cases r with
    | int i t => exact P.neg_int (hQ _ _ _ _ _ (l.trans toks_le) (I'.toks _) (.int _ _) hq)
    | _ => exact hq.elim) hE)
noncomputable abbrev Exs := Vars → Sto → (List V → Sto → Prop) → (X → Sto → Prop) → Prop
noncomputable def LC (C : Ct) (frs : List Env) (μ : List Addr) (s : Shared) (Q : List V → Sto → Prop) (PQ : List Value → Shared → Prop) : Prop :=
  ∀ Vs vs σ' μ' s', Le (fa frs) [] μ s.heap μ' s'.heap → Inv C frs μ' σ' s' → VRs C.base μ' s'.heap Vs vs → Q Vs σ' → PQ vs s'
structure SoundEs (k : Nat) (hd : Mo) (sc : Scope) (es : List Expr) (f : Exs) : Prop where
  run : ∀ (C : Ct) (_ : COk C) (A : Around) (frs : List Env) (_ : AOk C A frs k hd) (env : Env) (pos : Pos) (vars : Vars) (μ : List Addr) (σ : Sto) (s : Shared)
    (_ : EnvR C env sc vars μ s.heap) (_ : Inv C frs μ σ s) (Q : List V → Sto → Prop) (E : X → Sto → Prop) (PQ : List Value → Shared → Prop) (PE : Value → Shared → Prop),
    f vars σ Q E → LC C frs μ s Q PQ → EC C frs μ s E PE → wpAny (Md C) A (spliced (backTo pos (starEach es env))) PQ PE s
noncomputable def xnil : Exs := fun _ σ Q _ => Q [] σ
noncomputable def xcons (a : Ex) (r : Exs) : Exs := fun vars σ Q E => a vars σ (fun v σ => r vars σ (fun vs σ => Q (v :: vs) σ) E) E
noncomputable def notStar : Expr → Bool
  | .Starred .. => false
  | _ => true
theorem star_eq {e : Expr} {rest : List Expr} (h : notStar e = true) (env : Env) : starEach (e :: rest) env = (false, eval e env) :: starEach rest env := by
  cases e <;> first | rfl | cases h
theorem e_nil : SoundEs k hd sc [] xnil := .mk fun C hC A frs hA env pos vars μ σ s R I Q E PQ PE hf hQ hE => wpAny_items_nil (hQ _ _ _ _ _ .refl I .nil hf)
theorem e_cons {e rest f g} (he : SoundE k hd sc e f) (hr : SoundEs k hd sc rest g) (hs : notStar e = true := by rfl) : SoundEs k hd sc (e :: rest) (xcons f g) :=
  .mk fun C hC A frs hA env pos vars μ σ s R I Q E PQ PE hf hQ hE => wpAny_items_cons (he.run C hC A frs hA env vars μ σ s R I _ _ _ _ hf (fun V v σ1 μ1 s1 l1 I1 r1 hq =>
    hr.run C hC A frs hA env pos vars μ1 σ1 s1 (R.mono I l1) I1 _ _ _ _ hq (fun Vs vs σ2 μ2 s2 l2 I2 r2 hq2 => hQ _ _ _ _ _ (l1.trans l2) I2 (.cons (r1.mono I1 .nil l2) r2) hq2) (hE.after l1)) hE) (star_eq hs env)
theorem push_run {C : Ct} {frs μ σ s} (I : Inv C frs μ σ s) (o : Obj) (t : Nat) (ht : s.toks ≤ t := by first | exact Nat.le_refl _ | exact Nat.le_succ _ | exact Nat.le_add_right _ _ | omega | (dsimp only; omega)) : Inv C frs μ σ { s with heap := s.heap.push o, toks := t } ∧ Le (fa frs) [] μ s.heap μ ({ s with heap := s.heap.push o, toks := t } : Shared).heap :=
  ⟨I.keeps (push_keeps _ _) rfl rfl ht, .of_keeps (push_keeps _ _)⟩
noncomputable def tup (es : Exs) : Ex := fun vars σ Q E => es vars σ (fun vs σ => vs.length ≤ lim ∧ Q (.tup vs) σ) E
noncomputable def lst (es : Exs) : Ex := fun vars σ Q E => es vars σ (fun vs σ => vs.length ≤ lim ∧ Q (.lst σ.length) (σ ++ [.list vs])) E
theorem s_tup {es n pos f} (h : SoundEs k hd sc es f) : SoundE k hd sc (.Tuple es n pos) (tup f) :=
  .mk fun C hC A frs hA env vars μ σ s R I Q E PQ PE hf hQ hE => wpAny_Tuple (h.run C hC A frs hA env pos vars μ σ s R I _ _ _ _ hf (fun Vs vs σ' μ' s' l I' r hq => by
    obtain ⟨hz, hq⟩ := hq
    refine ⟨by rw [r.length]; exact Nat.le_trans hz lim_le, ?_⟩
    obtain ⟨I2, l2⟩ := push_run I' { cls := .type "tuple", data := .seq vs.toArray } s'.toks
    exact hQ _ _ _ _ _ (l.trans l2) I2 (.tup (IsT.new _ _) (r.mono I' .nil l2)) hq) hE)
theorem s_lst {es pos f} (h : SoundEs k hd sc es f) : SoundE k hd sc (.List es pos) (lst f) :=
  .mk fun C hC A frs hA env vars μ σ s R I Q E PQ PE hf hQ hE => wpAny_List (h.run C hC A frs hA env pos vars μ σ s R I _ _ _ _ hf (fun Vs vs σ' μ' s' l I' r hq => by
    obtain ⟨hz, hq⟩ := hq
    exact ⟨by rw [r.length]; exact Nat.le_trans hz lim_le, newList_run I' r (hQ.after l) hq _⟩) hE)
end
end Mine

namespace Mine
section
variable {k : Nat} {hd : Mo} {sc : Scope}
theorem mapSeq_run {C : Ct} {frs μ σ s} (I : Inv C frs μ σ s) {i : Nat} {a : Addr} {vs vs' : List V} {items items' : List Value} {n : Nat} {f : Array Value → Array Value} {Q : V → Sto → Prop} {PQ : Value → Shared → Prop} {V v}
    (ha : μ[i]? = some a) (hc : σ[i]? = some (.list vs)) (hl : IsL s.heap a items.toArray n) (hf : f items.toArray = items'.toArray) (hv : VRs C.base μ s.heap vs' items') (hQ : QC C frs μ s Q PQ)
    (hr : VR C.base μ s.heap V v) (hq : Q V (σ.set i (.list vs'))) (t : Nat) (ht : s.toks ≤ t := by first | exact Nat.le_refl _ | exact Nat.le_succ _ | exact Nat.le_add_right _ _ | omega | (dsimp only; omega)) : PQ v { s with heap := s.heap.update a (Obj.mapSeq f), toks := t } := by
  have hl' := hl.update f
  rw [hf] at hl'
  obtain ⟨I', l⟩ := I.upd (s' := { s with heap := s.heap.update a (Obj.mapSeq f), toks := t }) ha hc (fun b hb => Heap.get?_update_other _ _ (Ne.symm hb)) hl' hv rfl rfl ht
  exact hQ _ _ _ _ _ l I' (hr.mono I .nil l) hq
noncomputable def oAppend : Op2
  | .lst i, v, σ, Q, _ => ∃ vs, σ[i]? = some (.list vs) ∧ vs.length < lim ∧ Q .none (σ.set i (.list (vs ++ [v])))
  | _, _, _, _, _ => False
noncomputable def isList (U : V) (σ : Sto) : Prop := ∃ i vs, U = .lst i ∧ σ[i]? = some (.list vs)
theorem isList_run {C frs μ σ s U u} (I : Inv C frs μ σ s) (r : VR C.base μ s.heap U u) (h : isList U σ) : ∃ i a vs xi n, U = .lst i ∧ u = .ref a ∧ μ[i]? = some a ∧ σ[i]? = some (.list vs) ∧ IsL s.heap a (xi : List Value).toArray n ∧ VRs C.base μ s.heap vs xi := by
  obtain ⟨i, vs, rfl, hc⟩ := h
  cases r with
  | lst e =>
    obtain ⟨xi, n1, hl, v1⟩ := I.isL e hc
    exact ⟨i, _, vs, xi, n1, rfl, rfl, e, hc, hl, v1⟩
noncomputable def lm0 (o : Op1) (a : Ex) : Ex := fun vars σ Q E => a vars σ (fun U σ1 => isList U σ1 ∧ o U σ1 Q E) E
noncomputable def lm1 (o : Op2) (a b : Ex) : Ex := fun vars σ Q E => a vars σ (fun U σ1 => isList U σ1 ∧ b vars σ1 (fun W σ2 => o U W σ2 Q E) E) E
theorem lm1_run {C A frs env vars μ σ s} {o e : Expr} {name : Str} {id : String} {apos pos : Pos} {fo fe : Ex} {op : Op2} (ho : SoundE k hd sc o fo) (he : SoundE k hd sc e fe) (slot : Slot "list" name id) (hty : typeOf (.builtin id) = pure (.type "method_descriptor"))
    (hbase : ∀ env, attributeBase o name env (eval o env) = eval o env) (hs : ∀ env, starEach [e] env = [(false, eval e env)]) (hline : (apos.endLine == pos.line) = true)
    (hC : COk C) (hA : AOk C A frs k hd) (R : EnvR C env sc vars μ s.heap) (I : Inv C frs μ σ s) {Q : V → Sto → Prop} {E : X → Sto → Prop} {PQ PE : Value → Shared → Prop}
    (hf : lm1 op fo fe vars σ Q E) (hQ : QC C frs μ s Q PQ) (hE : EC C frs μ s E PE)
    (step : ∀ (a : Addr) (x : Sem Value) (s1 : Shared), wpAny (Md C) A x (fun v s' => ∃ i W σ' μ', Le (fa frs) [] μ s.heap μ' s'.heap ∧ Inv C frs μ' σ' s' ∧ μ'[i]? = some a ∧ VR C.base μ' s'.heap W v ∧ op (.lst i) W σ' Q E) PE s1 →
      wpAny (Md C) A (callWith pos (.builtin id) [.ref a] [(false, x)] []) PQ PE s1) :
    wpAny (Md C) A (eval (.Call (.Attribute o name apos) [e] [] pos) env) PQ PE s :=
  Call_method1 (hbase env) (hs env) hline (ho.run C hC A frs hA env vars μ σ s R I _ _ _ _ hf (fun U u σ1 μ1 s1 l1 I1 r1 hf1 => by
    obtain ⟨hl, hf1⟩ := hf1
    obtain ⟨i, a, vs, xi, n, rfl, rfl, e1, e2, e3, e4⟩ := isList_run I1 r1 hl
    refine ⟨"list", _, F.plainAttrs_list, slot, hty, ⟨_, e3, rfl⟩, fun b hb => by cases hb; exact ⟨_, e3, rfl⟩, step a _ s1 ?_⟩
    refine he.run C hC A frs hA env vars μ1 σ1 s1 (R.mono I l1) I1 _ _ _ _ hf1 (fun W w σ2 μ2 s2 l2 I2 r2 hf2 => ?_) (hE.after l1)
    exact ⟨i, W, σ2, μ2, l1.trans l2, I2, l2.mu _ _ e1, r2, hf2⟩) hE)
theorem s_append {o e : Expr} {apos pos : Pos} {fo fe : Ex} (ho : SoundE k hd sc o fo) (he : SoundE k hd sc e fe)
    (hbase : ∀ env, attributeBase o (Str.ofString "append") env (eval o env) = eval o env := by intro; rfl) (hs : ∀ env, starEach [e] env = [(false, eval e env)] := by intro; rfl) (hline : (apos.endLine == pos.line) = true := by rfl) :
    SoundE k hd sc (.Call (.Attribute o (Str.ofString "append") apos) [e] [] pos) (lm1 oAppend fo fe) :=
  .mk fun C hC A frs hA env vars μ σ s R I Q E PQ PE hf hQ hE => lm1_run ho he F.slot_list_append F.type_list_append hbase hs hline hC hA R I hf hQ hE fun a x s1 hx => P.append_list (wpAny_mono hx (fun v s' h => by
    obtain ⟨i, W, σ', μ', l, I', e1, r2, vs, hc, hz, hq⟩ := h
    obtain ⟨xi, n1, hl, v1⟩ := I'.isL e1 hc
    refine ⟨_, _, ?_, hl, mapSeq_run I' e1 hc hl (items' := xi ++ [v]) (by simp) (v1.append (.cons r2 .nil)) (hQ.after l) .none hq _⟩
    simp only [List.size_toArray]; rw [v1.length]; exact Nat.le_trans (Nat.le_of_lt hz) lim_le) fun _ _ e => e)
noncomputable def oExtend : Op2
  | .lst i, .lst j, σ, Q, _ => ∃ vs ws, σ[i]? = some (.list vs) ∧ σ[j]? = some (.list ws) ∧ vs.length + ws.length < lim ∧ Q .none (σ.set i (.list (vs ++ ws)))
  | _, _, _, _, _ => False
theorem s_extend {o e : Expr} {apos pos : Pos} {fo fe : Ex} (ho : SoundE k hd sc o fo) (he : SoundE k hd sc e fe)
    (hbase : ∀ env, attributeBase o (Str.ofString "extend") env (eval o env) = eval o env := by intro; rfl) (hs : ∀ env, starEach [e] env = [(false, eval e env)] := by intro; rfl) (hline : (apos.endLine == pos.line) = true := by rfl) :
    SoundE k hd sc (.Call (.Attribute o (Str.ofString "extend") apos) [e] [] pos) (lm1 oExtend fo fe) :=
  .mk fun C hC A frs hA env vars μ σ s R I Q E PQ PE hf hQ hE => lm1_run ho he F.slot_list_extend F.type_list_extend hbase hs hline hC hA R I hf hQ hE fun a x s1 hx => P.extend_list (wpAny_mono hx (fun v s' h => by
    obtain ⟨i, W, σ', μ', l, I', e1, r2, hf⟩ := h
    induction r2 using VR.casesOn with
    | lst e2 =>
      obtain ⟨vs, ws, hc, hd, hz, hq⟩ := hf
      obtain ⟨xi, n1, hl, v1⟩ := I'.isL e1 hc
      obtain ⟨yi, n2, hm, v2⟩ := I'.isL e2 hd
      have z1 := v1.length
      have z2 := v2.length
      have z3 : lim = 1000000 := rfl
      have z4 := sizeLine_eq
      refine ⟨_, _, _, _, _, ?_, ?_, ?_, rfl, hl, hm, mapSeq_run I' e1 hc hl (items' := xi ++ yi) (by simp) (v1.append v2) (hQ.after l) .none hq _⟩
      · simp only [List.size_toArray]; omega
      · simp only [List.size_toArray]; omega
      · simp only [List.size_toArray, Builtin.List.listTooLong, Bool.and_eq_true, decide_eq_true_eq]; omega
    | _ => exact hf.elim) fun _ _ e => e)
noncomputable def oCount : Op2
  | .lst i, .str c, σ, Q, _ => ∃ xs, σ[i]? = some (.list (vS xs)) ∧ Q (.int (xs.count c : Nat)) σ
  | _, _, _, _, _ => False
theorem count_strs {B μ h} (c : List Nat) {xs vs} (r : VRs B μ h (vS xs) vs) : vs.countP (eqS c) = xs.count c := by
  induction xs generalizing vs with
  | nil => rw [r.nilI]; rfl
  | cons a as ih =>
    obtain ⟨z, zs, rfl, r1, r2⟩ := r.consI
    obtain ⟨u, rfl⟩ := r1.strI
    rw [List.countP_cons, ih r2, List.count_cons]
    rfl
theorem eqGives_strs {B μ h} (c : List Nat) (t : Tok) {xs vs} (r : VRs B μ h (vS xs) vs) : ∀ y ∈ vs, MeetsSeq.EqGives y (.str ⟨c.toArray⟩ t) (eqS c y) := by
  induction xs generalizing vs with
  | nil => rw [r.nilI]; exact fun y hy => nomatch hy
  | cons a as ih =>
    obtain ⟨z, zs, rfl, r1, r2⟩ := r.consI
    obtain ⟨u, rfl⟩ := r1.strI
    intro y hy
    rcases List.mem_cons.mp hy with rfl | hy
    · exact SeqRoads2.EqGives.str ⟨a.toArray⟩ ⟨c.toArray⟩ u t
    · exact ih r2 y hy
theorem s_count {o e : Expr} {apos pos : Pos} {fo fe : Ex} (ho : SoundE k hd sc o fo) (he : SoundE k hd sc e fe)
    (hbase : ∀ env, attributeBase o (Str.ofString "count") env (eval o env) = eval o env := by intro; rfl) (hs : ∀ env, starEach [e] env = [(false, eval e env)] := by intro; rfl) (hline : (apos.endLine == pos.line) = true := by rfl) :
    SoundE k hd sc (.Call (.Attribute o (Str.ofString "count") apos) [e] [] pos) (lm1 oCount fo fe) :=
  .mk fun C hC A frs hA env vars μ σ s R I Q E PQ PE hf hQ hE => lm1_run ho he F.slot_list_count F.type_list_count hbase hs hline hC hA R I hf hQ hE fun a x s1 hx => P.count_list (wpAny_mono hx (fun v s' h => by
    obtain ⟨i, W, σ', μ', l, I', e1, r2, hf⟩ := h
    induction r2 using VR.casesOn with
    | str c t =>
      obtain ⟨xs, hc, hq⟩ := hf
      obtain ⟨xi, n1, hl, v1⟩ := I'.isL e1 hc
      refine ⟨_, _, eqS c, hl, fun y hy => eqGives_strs c t v1 y (by simpa using hy), hQ _ _ _ _ _ (l.trans toks_le) (I'.toks _) (.int _ _) ?_⟩
      rw [List.toList_toArray, count_strs c v1]; exact hq
    | _ => exact hf.elim) fun _ _ e => e)
noncomputable def oPop : Op1
  | .lst i, σ, Q, _ => ∃ vs v, σ[i]? = some (.list (vs ++ [v])) ∧ vs.length < lim ∧ Q v (σ.set i (.list vs))
  | _, _, _, _ => False
theorem s_pop {o : Expr} {apos pos : Pos} {fo : Ex} (ho : SoundE k hd sc o fo)
    (hbase : ∀ env, attributeBase o (Str.ofString "pop") env (eval o env) = eval o env := by intro; rfl) (hline : (apos.endLine == pos.line) = true := by rfl) :
    SoundE k hd sc (.Call (.Attribute o (Str.ofString "pop") apos) [] [] pos) (lm0 oPop fo) :=
  .mk fun C hC A frs hA env vars μ σ s R I Q E PQ PE hf hQ hE => Call_method0 (hbase env) hline (ho.run C hC A frs hA env vars μ σ s R I _ _ _ _ hf (fun U u σ1 μ1 s1 l1 I1 r1 hf1 => by
    obtain ⟨hl, hf1⟩ := hf1
    obtain ⟨i, a, vs, xi, n, rfl, rfl, e1, e2, e3, e4⟩ := isList_run I1 r1 hl
    obtain ⟨ws, w, hc, hz, hq⟩ := hf1
    rw [hc] at e2; cases e2
    obtain ⟨ys, ye, rfl, q1, q2⟩ : ∃ ys y, xi = ys ++ [y] ∧ VRs C.base μ1 s1.heap ws ys ∧ VR C.base μ1 s1.heap w y := by
      clear hc hq hz e3 hl
      induction ws generalizing xi with
      | nil => cases e4 with | cons a b => cases b; exact ⟨[], _, rfl, .nil, a⟩
      | cons b bs ih =>
        cases e4 with
        | cons x y =>
          obtain ⟨ys, z, rfl, h1, h2⟩ := ih _ y
          exact ⟨_ :: ys, z, rfl, .cons x h1, h2⟩
    have z1 := q1.length
    have z4 := sizeLine_eq
    have z3 : lim = 1000000 := rfl
    refine ⟨"list", _, F.plainAttrs_list, F.slot_list_pop, F.type_list_pop, ⟨_, e3, rfl⟩, fun b hb => by cases hb; exact ⟨_, e3, rfl⟩, P.pop_list e3 (y := ye) (by simp) ?_ (by simp; omega)⟩
    exact mapSeq_run I1 e1 hc e3 (items' := ys) (by simp [Array.eraseIdxIfInBounds, List.eraseIdx_append_of_length_le]) q1 (hQ.after l1) q2 hq _) hE)
noncomputable def oJoin : Op2
  | .str [], .lst i, σ, Q, _ => ∃ xs, σ[i]? = some (.list (vS xs)) ∧ xs.flatten.length ≤ lim ∧ Q (.str xs.flatten) σ
  | _, _, _, _, _ => False
end
end Mine

namespace Mine
section
variable {k : Nat} {hd : Mo} {sc : Scope}
theorem Inv.anyToks {C frs μ σ s} (I : Inv C frs μ σ s) (t : Nat) (h : 0 < t) : Inv C frs μ σ { s with toks := t } :=
  { base := I.base, bmu := I.bmu, bnt := I.bnt, tab := I.tab, len := I.len, nd := I.nd, cells := I.cells, fr := I.fr, gens := I.gens, os := I.os, tk := h, han := I.han }
theorem join_flat : ∀ xs : List (List Nat), Str.join (⟨[].toArray⟩ : Str) (xs.map fun l => ⟨l.toArray⟩) = ⟨xs.flatten.toArray⟩
  | [] => rfl
  | [x] => by show (⟨x.toArray⟩ : Str) = _; simp
  | x :: y :: r => by
    show (⟨x.toArray⟩ : Str) ++ ⟨[].toArray⟩ ++ Str.join (⟨[].toArray⟩ : Str) ((y :: r).map fun l => ⟨l.toArray⟩) = _
    rw [join_flat (y :: r)]
    apply Str.ext'
    rw [Str.cps_append, Str.cps_append]
    apply Array.ext'
    simp
theorem sum_fold : ∀ (xs : List (List Nat)) (n : Nat), (xs.map fun l => (⟨l.toArray⟩ : Str)).foldl (fun a b => a + b.length + (⟨[].toArray⟩ : Str).length) n = n + xs.flatten.length
  | [], n => by simp
  | x :: r, n => by
    rw [List.map_cons, List.foldl_cons, sum_fold r, List.flatten_cons, List.length_append, Str.len_mk, Str.len_mk]
    simp; omega
theorem strVals {B μ h} {xs : List (List Nat)} {vs} (r : VRs B μ h (vS xs) vs) : ∃ l : List (Str × Tok), vs = strValues l ∧ l.map (·.1) = xs.map fun l => ⟨l.toArray⟩ := by
  induction xs generalizing vs with
  | nil => exact ⟨[], r.nilI, rfl⟩
  | cons a as ih =>
    obtain ⟨z, zs, rfl, r1, r2⟩ := r.consI
    obtain ⟨t, rfl⟩ := r1.strI
    obtain ⟨l, h1, h2⟩ := ih r2
    exact ⟨(⟨a.toArray⟩, t) :: l, by rw [h1]; rfl, by rw [List.map_cons, h2]; rfl⟩
noncomputable def strC (U : V) : Prop := ∃ s, U = .str s
noncomputable def sm1 (o : Op2) (a b : Ex) : Ex := fun vars σ Q E => a vars σ (fun U σ1 => strC U ∧ b vars σ1 (fun W σ2 => o U W σ2 Q E) E) E
theorem s_join {o e : Expr} {apos pos : Pos} {fo fe : Ex} (ho : SoundE k hd sc o fo) (he : SoundE k hd sc e fe)
    (hbase : ∀ env, attributeBase o (Str.ofString "join") env (eval o env) = eval o env := by intro; rfl) (hs : ∀ env, starEach [e] env = [(false, eval e env)] := by intro; rfl) (hline : (apos.endLine == pos.line) = true := by rfl) :
    SoundE k hd sc (.Call (.Attribute o (Str.ofString "join") apos) [e] [] pos) (sm1 oJoin fo fe) :=
  .mk fun C hC A frs hA env vars μ σ s R I Q E PQ PE hf hQ hE => wpAny_with_toks (n := 1) I.tk (Call_method1 (hbase env) (hs env) hline (ho.run C hC A frs hA env vars μ σ s R I _ _ _ _ hf (fun U u σ1 μ1 s1 l1 I1 r1 hf1 => by
    obtain ⟨⟨x, rfl⟩, hf1⟩ := hf1
    obtain ⟨t, rfl⟩ := r1.strI
    ·
      refine SB.join (he.run C hC A frs hA env vars μ1 σ1 s1 (R.mono I l1) I1 _ _ _ _ hf1 (fun W w σ2 μ2 s2 l2 I2 r2 hf2 => ?_) (fun x e σ' μ' s' l' I' y hx _ => hE x e σ' μ' s' (l1.trans l') I' (y.older l1) hx))
      cases x with
      | cons _ _ => exact hf2.elim
      | nil =>
        induction r2 using VR.casesOn with
        | lst e2 =>
          obtain ⟨xs, hc, hz, hq⟩ := hf2
          obtain ⟨xi, n1, hl, v1⟩ := I2.isL e2 hc
          obtain ⟨l, q1, q2⟩ := strVals v1
          refine ⟨_, l, rfl, by rw [← q1]; exact hl.isList, _, rfl, ?_, fun t' kk ht => ?_⟩
          · rw [q2]
            unfold JoinOk
            rw [← Array.foldl_toList, List.toList_toArray, sum_fold]
            have := lim_le
            simp only [Builtin.Str.tooLong, Nat.zero_add, Bool.not_eq_true', decide_eq_false_iff_not]; omega
          · rw [q2]
            unfold Txt.join
            rw [StrLaws.glued_eq_join, join_flat]
            exact hQ _ _ _ _ _ (l1.trans (l2.trans toks_le)) (I2.anyToks _ ht) (.str _ _) hq
        | _ => exact hf2.elim) (fun x e σ' μ' s' l' I' y hx _ => hE x e σ' μ' s' l' I' y hx)))
end
end Mine

namespace Mine
section
variable {k : Nat} {hd : Mo} {sc : Scope}
noncomputable def gl (sc : Scope) (x : String) : Bool := sc.names.lookup (Str.ofString x) == some .globalImplicit && !(Str.ofString x == ("__debug__" : Str))
theorem name_glob {C A env vars μ s} {x : String} {pos : Pos} {v : Value} {Q E} (hC : COk C) {frs σ} (I : Inv C frs μ σ s) (R : EnvR C env sc vars μ s.heap) (hx : gl sc x = true) (hv : C.mg (Str.ofString x) = some v) (h : Q v s) :
    wpAny (Md C) A (eval (.Name (Str.ofString x) pos) env) Q E s := by
  unfold gl at hx
  rw [Bool.and_eq_true, Bool.not_eq_true'] at hx
  refine Calls.Name_function_global (by rw [R.hsc]; exact R.kind) ?_ (Calls.loadGlobal_global (mg := C.mg) ?_ hv h) hx.2
  · unfold Env.kindOf; rw [R.hsc]; exact eq_of_beq hx.1
  · rw [R.glob]; exact hC.g.keeps I.base
theorem name_blt {C A env vars μ s} {x : String} {pos : Pos} {v : Value} {Q E} (hC : COk C) {frs σ} (I : Inv C frs μ σ s) (R : EnvR C env sc vars μ s.heap) (hx : gl sc x = true) (hn : C.mg (Str.ofString x) = none) (hv : C.mb (Str.ofString x) = some v) (h : Q v s) :
    wpAny (Md C) A (eval (.Name (Str.ofString x) pos) env) Q E s := by
  unfold gl at hx
  rw [Bool.and_eq_true, Bool.not_eq_true'] at hx
  refine Calls.Name_function_global (by rw [R.hsc]; exact R.kind) ?_ (Calls.loadGlobal_builtin (mg := C.mg) (mb := C.mb) ?_ hn ?_ hv h) hx.2
  · unfold Env.kindOf; rw [R.hsc]; exact eq_of_beq hx.1
  · rw [R.glob]; exact hC.g.keeps I.base
  · rw [R.blt]; exact hC.b.keeps I.base
noncomputable abbrev Spec' := List V → Sto → (V → Sto → Prop) → (X → Sto → Prop) → Prop
noncomputable abbrev backR (PQ PE : Value → Shared → Prop) : Result → Shared → Prop := fun r s' => match r with | .ok (.ret v) => PQ v s' | .ok _ => False | .error e => PE e s'
noncomputable def Contract (j : Nat) (x : String) (spec : Spec') : Prop := ∀ C, COk C → ∃ f o fd, C.mg (Str.ofString x) = some (.ref f) ∧ C.base.get? f = some o ∧ o.data = .func fd ∧
  ∀ (A : Around) (frs : List Env) (_ : AOk C A frs (j + 1) .pl) (μ : List Addr) (σ : Sto) (s : Shared) (_ : Inv C frs μ σ s) (Vs : List V) (vs : List Value) (_ : VRs C.base μ s.heap Vs vs)
    (Q : V → Sto → Prop) (E : X → Sto → Prop) (PQ PE : Value → Shared → Prop), spec Vs σ Q E → QC C frs μ s Q PQ → EC C frs μ s E PE → codeAny (Md C) A (.call (.ref f) ⟨vs, []⟩) (backR PQ PE) s
theorem AOk.less {C A frs k j} (h : AOk C A frs k hd) (hj : j ≤ k) : AOk C A frs j hd := ⟨h.frames, by have := h.depth; omega, by have := h.units; omega, h.han, h.fin⟩
noncomputable def callF (spec : Spec') (es : Exs) : Ex := fun vars σ Q E => es vars σ (fun vs σ => spec vs σ Q E) E
theorem s_call {j : Nat} {x : String} {spec : Spec'} {e : Expr} {rest : List Expr} {p pos : Pos} {fs : Exs} (hc : Contract j x spec) (hj : j + 1 ≤ k) (hx : gl sc x = true) (he : SoundEs k .pl sc (e :: rest) fs)
    (hs' : notStar e = true := by rfl) :
    SoundE k .pl sc (.Call (.Name (Str.ofString x) p) (e :: rest) [] pos) (callF spec fs) := .mk fun C hC A frs hA env vars μ σ s R I Q E PQ PE hf hQ hE => by
  have hs := star_eq (rest := rest) hs'
  obtain ⟨f, o, fd, h1, h2, h3, h4⟩ := hc C hC
  refine Call_Name rfl (name_glob hC I R hx h1 ?_)
  refine Calls.callWith_function (o := o) (fd := fd) ?_
  have := he.run C hC A frs hA env pos vars μ σ s R I _ _ (fun vs s' => (s'.heap.get? f = some o ∧ o.data = .func fd) ∧ wpAny (Md C) A (call (.ref f) ([] ++ vs) []) PQ PE s') PE hf (fun Vs vs σ' μ' s' l I' r hq => ⟨⟨I'.base _ _ h2, h3⟩,
    wpAny_call (h4 A frs (hA.less hj) μ' σ' s' I' Vs vs r Q E PQ PE hq (hQ.after l) (hE.after l))⟩) hE
  rw [hs] at this ⊢
  exact Calls.evalArgs_plain this
noncomputable def bltF (x : String) (v : Value) : Prop := ∀ C, COk C → C.mg (Str.ofString x) = none ∧ C.mb (Str.ofString x) = some v
theorem s_blt1 {x : String} {id : String} {o : Op1} {e : Expr} {p pos : Pos} {f : Ex} (hb : bltF x (.builtin id)) (hx : gl sc x = true) (ho : SoundO1 k hd (fun u => call (.builtin id) [u]) o) (he : SoundE k hd sc e f)
    (hs : ∀ env, starEach [e] env = [(false, eval e env)] := by intro; rfl) : SoundE k hd sc (.Call (.Name (Str.ofString x) p) [e] [] pos) (op1 o f) := .mk fun C hC A frs hA env vars μ σ s R I Q E PQ PE hf hQ hE => by
  refine Call_Name1 (name_blt hC I R hx (hb C hC).1 (hb C hC).2 ?_) (hs env)
  refine Calls.callWith_builtin rfl (Calls.evalArgs_plain (Calls.spliced_cons (he.run C hC A frs hA env vars μ σ s R I _ _ _ _ hf (fun U u σ' μ' s' l I' r hq => Calls.spliced_nil ?_) hE)))
  exact ho C hC A frs hA μ' σ' s' I' U u r Q E PQ PE hq (hQ.after l) (hE.after l)
theorem s_blt2 {x : String} {id : String} {o : Op2} {e e' : Expr} {p pos : Pos} {f f' : Ex} (hb : bltF x (.builtin id)) (hx : gl sc x = true) (ho : SoundO2 k hd (fun u w => call (.builtin id) [u, w]) o) (he : SoundE k hd sc e f) (he' : SoundE k hd sc e' f')
    (hs : ∀ env, starEach [e, e'] env = [(false, eval e env), (false, eval e' env)] := by intro; rfl) : SoundE k hd sc (.Call (.Name (Str.ofString x) p) [e, e'] [] pos) (op2 o f f') := .mk fun C hC A frs hA env vars μ σ s R I Q E PQ PE hf hQ hE => by
  refine Call_Name2 (name_blt hC I R hx (hb C hC).1 (hb C hC).2 ?_) (hs env)
  refine Calls.callWith_builtin rfl (Calls.evalArgs_plain (Calls.spliced_cons (two he he' hC hA R I hf (fun U u W w σ' μ' s' l I' R' r1 r2 hq => ?_) hE |> fun h => wpAny_mono h (fun u s1 h1 => Calls.spliced_cons (wpAny_mono h1 (fun w s2 h2 => Calls.spliced_nil h2) fun _ _ x => x)) fun _ _ x => x)))
  exact ho C hC A frs hA μ' σ' s' I' U u r1 W w r2 Q E PQ PE hq (hQ.after l) (hE.after l)
theorem s_typ1 {x : String} {T : String} {o : Op1} {e : Expr} {p pos : Pos} {f : Ex} (hb : bltF x (.type T)) (hx : gl sc x = true) (ho : SoundO1 k hd (fun u => call (.type T) [u]) o) (he : SoundE k hd sc e f)
    (hs : ∀ env, starEach [e] env = [(false, eval e env)] := by intro; rfl) : SoundE k hd sc (.Call (.Name (Str.ofString x) p) [e] [] pos) (op1 o f) := .mk fun C hC A frs hA env vars μ σ s R I Q E PQ PE hf hQ hE => by
  refine Call_Name1 (name_blt hC I R hx (hb C hC).1 (hb C hC).2 ?_) (hs env)
  refine PyProof.Rows.callWith_type rfl (Calls.evalArgs_plain (Calls.spliced_cons (he.run C hC A frs hA env vars μ σ s R I _ _ _ _ hf (fun U u σ' μ' s' l I' r hq => Calls.spliced_nil ?_) hE)))
  exact ho C hC A frs hA μ' σ' s' I' U u r Q E PQ PE hq (hQ.after l) (hE.after l)
noncomputable def oLen : Op1
  | .str s, σ, Q, _ => s.length ≤ lim ∧ Q (.int s.length) σ
  | .lst i, σ, Q, _ => ∃ vs, σ[i]? = some (.list vs) ∧ vs.length ≤ lim ∧ Q (.int vs.length) σ
  | .rol is, σ, Q, _ => is.length ≤ lim ∧ Q (.int is.length) σ
  | _, _, _, _ => False
theorem o_len : SoundO1 k hd (fun u => call (.builtin "len") [u]) oLen := by
  intro C hC A frs hA μ σ s I U u r Q E PQ PE hf hQ hE
  have z3 : lim = 1000000 := rfl
  cases r with
  | str x t =>
    obtain ⟨hz, hq⟩ := hf
    refine P.len_str (by rw [Str.len_mk]; omega) (hQ _ _ _ _ _ toks_le (I.toks _) ?_ hq)
    rw [Str.len_mk]; exact .int _ _
  | lst e =>
    obtain ⟨vs, hc, hz, hq⟩ := hf
    obtain ⟨xi, n1, hl, v1⟩ := I.isL e hc
    have z1 := v1.length
    refine Calls.call_len_list hl.isList (by simp only [List.size_toArray]; omega) (hQ _ _ _ _ _ toks_le (I.toks _) ?_ hq)
    simp only [List.size_toArray, z1]; exact .int _ _
  | rol h1 h2 =>
    obtain ⟨hz, hq⟩ := hf
    have z1 := h2.length
    obtain ⟨o, ho, hc, n, hd⟩ := h1
    refine Calls.call_len_list (l := _) ⟨o, I.base _ _ ho, hc, n, hd⟩ (by simp only [List.size_toArray]; omega) (hQ _ _ _ _ _ toks_le (I.toks _) ?_ hq)
    simp only [List.size_toArray, z1]; exact .int _ _
  | _ => exact hf.elim
end
end Mine

namespace Mine
section
variable {k : Nat} {hd : Mo} {sc : Scope}
theorem ofString_inj {a b : String} (h : Str.ofString a = Str.ofString b) : a = b := by
  rw [Str.ofString_eq_toList, Str.ofString_eq_toList] at h
  have h1 : a.toList.map Char.toNat = b.toList.map Char.toNat := by
    have := congrArg (fun x => x.cps.toList) h
    simpa using this
  have h2 : a.toList = b.toList := by
    revert h1
    generalize a.toList = xs
    generalize b.toList = ys
    intro h1
    induction xs generalizing ys with
    | nil => cases ys with | nil => rfl | cons _ _ => simp at h1
    | cons x xs ih =>
      cases ys with
      | nil => simp at h1
      | cons y ys =>
        simp only [List.map_cons, List.cons.injEq] at h1
        obtain ⟨e1, e2⟩ := h1
        have : x = y := by
          have : x.val.toNat = y.val.toNat := e1
          exact Char.ext (UInt32.toNat_inj.mp this)
        rw [this, ih ys e2]
  exact String.toList_inj.mp h2
inductive Fl where
  | next | brk | cont | ret (v : V)
inductive FlR (B : Heap) (μ : List Addr) (h : Heap) : Fl → Flow → Prop
  | next : FlR B μ h .next .next
  | brk : FlR B μ h .brk .brk
  | cont : FlR B μ h .cont .cont
  | ret {V v} : VR B μ h V v → FlR B μ h (.ret V) (.ret v)
structure St where
  vars : Vars
  sto : Sto
noncomputable abbrev Sx := St → (Fl → St → Prop) → (X → St → Prop) → Prop
noncomputable def upd (vars : Vars) (x : String) (w : Wv) : Vars := fun y => if y = x then some w else vars y
noncomputable abbrev own (env : Env) : List Addr := env.locals :: env.cells.map (·.2)
structure OwnR (C : Ct) (env : Env) (sc : Scope) (frs : List Env) (h : Heap) : Prop where
  top : ∃ outer, frs = env :: outer
  frame : env.frame = some env.locals
  lbase : C.base.get? env.locals = none
  cells : ∀ p ∈ env.cells, C.base.get? p.2 = none ∧ ∃ v, h.IsCell p.2 v
  apart : env.cells.Pairwise fun x y => x.2 ≠ y.2
  has : ∀ x, sc.names.lookup x = some .cell → (env.cells.lookup x).isSome = true
structure FI (C : Ct) (env : Env) (sc : Scope) (frs : List Env) (μ : List Addr) (st : St) (s : Shared) : Prop where
  R : EnvR C env sc st.vars μ s.heap
  O : OwnR C env sc frs s.heap
  I : Inv C frs μ st.sto s
theorem FI.ook {C env frs μ st s} (x : FI C env sc frs μ st s) : OOk C (own env) s.heap := fun a ha => by
  rcases List.mem_cons.mp ha with rfl | ha
  · obtain ⟨m, o, es, ep, ho, hd, _⟩ := x.R.ns
    exact ⟨x.O.lbase, o, ho, .inl ⟨es, ep, hd⟩⟩
  · obtain ⟨p, hp, rfl⟩ := List.mem_map.mp ha
    obtain ⟨h1, v, o, ho, hd⟩ := x.O.cells p hp
    exact ⟨h1, o, ho, .inr ⟨v, hd⟩⟩
theorem FI.step {C env frs μ st s μ' σ' s'} (x : FI C env sc frs μ st s) (l : Le (fa frs) [] μ s.heap μ' s'.heap) (I' : Inv C frs μ' σ' s') : FI C env sc frs μ' { st with sto := σ' } s' :=
  ⟨x.R.mono x.I l, ⟨x.O.top, x.O.frame, x.O.lbase, fun p hp => let ⟨h1, v, hv⟩ := x.O.cells p hp; ⟨h1, v, x.I.cellKeep l hv⟩, x.O.apart, x.O.has⟩, I'⟩
noncomputable def FC (C : Ct) (env : Env) (sc : Scope) (frs : List Env) (μ : List Addr) (s : Shared) (Q : Fl → St → Prop) (PQ : Flow → Shared → Prop) : Prop :=
  ∀ fl flow st' μ' s', Le (fa frs) (own env) μ s.heap μ' s'.heap → FI C env sc frs μ' st' s' → FlR C.base μ' s'.heap fl flow → Q fl st' → PQ flow s'
noncomputable def XC (C : Ct) (env : Env) (sc : Scope) (frs : List Env) (μ : List Addr) (s : Shared) (E : X → St → Prop) (PE : Value → Shared → Prop) : Prop :=
  ∀ x e st' μ' s', Le (fa frs) (own env) μ s.heap μ' s'.heap → FI C env sc frs μ' st' s' → ExcIn C s.heap s'.heap e x → E x st' → PE e s'
theorem FC.after {C env frs μ s Q PQ μ' s'} (q : FC C env sc frs μ s Q PQ) (l : Le (fa frs) (own env) μ s.heap μ' s'.heap) : FC C env sc frs μ' s' Q PQ := fun fl flow st'' μ'' s'' l' => q fl flow st'' μ'' s'' (l.trans l')
theorem XC.after {C env frs μ s E PE μ' s'} (q : XC C env sc frs μ s E PE) (l : Le (fa frs) (own env) μ s.heap μ' s'.heap) : XC C env sc frs μ' s' E PE := fun x e st'' μ'' s'' l' I y => q x e st'' μ'' s'' (l.trans l') I (y.older l)
theorem Le.ex {F O μ h μ' h'} (l : Le F [] μ h μ' h') : Le F O μ h μ' h' := l.weakO fun _ e => nomatch e
theorem XC.ex {C env frs μ st s E PE} (q : XC C env sc frs μ s E PE) (x : FI C env sc frs μ st s) : EC C frs μ s (fun y σ => E y { st with sto := σ }) PE := fun y e σ' μ' s' l I' ex hq => q y e _ μ' s' l.ex (x.step l I') ex hq
structure SoundS (k : Nat) (hd : Mo) (sc : Scope) (e : Stmt) (f : Sx) : Prop where
  run : ∀ (C : Ct) (_ : COk C) (A : Around) (frs : List Env) (_ : AOk C A frs k hd) (env : Env) (μ : List Addr) (st : St) (s : Shared) (_ : FI C env sc frs μ st s)
    (Q : Fl → St → Prop) (E : X → St → Prop) (PQ : Flow → Shared → Prop) (PE : Value → Shared → Prop), f st Q E → FC C env sc frs μ s Q PQ → XC C env sc frs μ s E PE → wpAny (Md C) A (exec e env) PQ PE s
structure SoundSs (k : Nat) (hd : Mo) (sc : Scope) (e : List Stmt) (f : Sx) : Prop where
  run : ∀ (C : Ct) (_ : COk C) (A : Around) (frs : List Env) (_ : AOk C A frs k hd) (env : Env) (μ : List Addr) (st : St) (s : Shared) (_ : FI C env sc frs μ st s)
    (Q : Fl → St → Prop) (E : X → St → Prop) (PQ : Flow → Shared → Prop) (PE : Value → Shared → Prop), f st Q E → FC C env sc frs μ s Q PQ → XC C env sc frs μ s E PE → wpAny (Md C) A (execs e env) PQ PE s
noncomputable def skip : Sx := fun st Q _ => Q .next st
noncomputable def seq (a b : Sx) : Sx := fun st Q E => a st (fun fl st => match fl with | .next => b st Q E | fl => Q fl st) E
theorem ss_nil : SoundSs k hd sc [] skip := .mk fun C hC A frs hA env μ st s F Q E PQ PE hf hQ hE => wpAny_execs_nil (hQ _ _ _ _ _ .refl F .next hf)
theorem ss_cons {a rest f g} (ha : SoundS k hd sc a f) (hr : SoundSs k hd sc rest g) : SoundSs k hd sc (a :: rest) (seq f g) := .mk fun C hC A frs hA env μ st s F Q E PQ PE hf hQ hE =>
  wpAny_execs_cons (ha.run C hC A frs hA env μ st s F _ _ _ _ hf (fun fl flow st' μ' s' l F' r hq => by
    cases r with
    | next => exact hr.run C hC A frs hA env μ' st' s' F' _ _ _ _ hq (hQ.after l) (hE.after l)
    | brk => exact hQ _ _ _ _ _ l F' .brk hq
    | cont => exact hQ _ _ _ _ _ l F' .cont hq
    | ret r => exact hQ _ _ _ _ _ l F' (.ret r) hq) hE)
theorem ss_one {a f} (ha : SoundS k hd sc a f) : SoundSs k hd sc [a] f := .mk fun C hC A frs hA env μ st s F Q E PQ PE hf hQ hE =>
  wpAny_execs_cons (ha.run C hC A frs hA env μ st s F _ _ _ _ hf (fun fl flow st' μ' s' l F' r hq => by
    cases r with
    | next => exact wpAny_execs_nil (hQ _ _ _ _ _ l F' .next hq)
    | brk => exact hQ _ _ _ _ _ l F' .brk hq
    | cont => exact hQ _ _ _ _ _ l F' .cont hq
    | ret r => exact hQ _ _ _ _ _ l F' (.ret r) hq) hE)
noncomputable def stK (sc : Scope) (x : String) : Bool := sc.names.lookup (Str.ofString x) == some .local || sc.names.lookup (Str.ofString x) == some .cell
theorem store_run {C A env frs μ st s} {x : String} {w : Wv} {v : Value} {Q : Unit → Shared → Prop} {E} (F : FI C env sc frs μ st s) (hx : stK sc x = true) (hv : WR C.base μ s.heap w v)
    (h : ∀ s', Le (fa frs) (own env) μ s.heap μ s'.heap → FI C env sc frs μ { st with vars := upd st.vars x w } s' → Q () s') : wpAny (Md C) A (storeName env (Str.ofString x) v) Q E s := by
  have kf : env.scope.kind = .function := by rw [F.R.hsc]; exact F.R.kind
  have kd : ∀ n, env.kindOf n = sc.names.lookup n := fun n => by unfold Env.kindOf; rw [F.R.hsc]
  obtain ⟨m0, hm0⟩ := F.R.ns
  have fin : ∀ (a : Addr) (s' : Shared), a ∈ own env → (∀ b, b ≠ a → s'.heap.get? b = s.heap.get? b) → (∃ o, s'.heap.get? a = some o) → (∀ env' ∈ frs, FrOk C s'.heap env') → s'.gens = s.gens → s'.os = s.os → s.toks ≤ s'.toks →
      Le (fa frs) (own env) μ s.heap μ s'.heap ∧ Inv C frs μ st.sto s' := by
    intro a s' ha hb hex hfr hg ho ht
    have am : a ∉ μ := by
      obtain ⟨_, o, ho', q⟩ := F.ook a ha
      refine F.I.notMuD ho' ?_ ?_
      · rcases q with ⟨_, _, q⟩ | ⟨_, q⟩ <;> simp [q]
      · rcases q with ⟨_, _, q⟩ | ⟨_, q⟩ <;> simp [q]
    have l : Le (fa frs) (own env) μ s.heap μ s'.heap := ⟨⟨[], by simp, fun _ e => nomatch e⟩, fun b o e _ _ hO => by
      have : s'.heap.get? b = some o := (hb b (by rintro rfl; exact hO ha)).trans e
      exact ⟨fun _ => this, o.slots, this⟩, fun b o e => by
      by_cases q : b = a
      · subst q; exact hex
      · exact ⟨o, (hb b q).trans e⟩, fun ps e q => by
      have tk : TabK s.heap s'.heap := .but (by obtain ⟨_, o, ho', r⟩ := F.ook a ha; exact ⟨o, ho', by rcases r with ⟨_, _, r⟩ | ⟨_, r⟩ <;> simp [r]⟩) hb
      exact ⟨ps, tk _ _ _ e rfl (.inl rfl), q.mono tk⟩⟩
    exact ⟨l, F.I.step F.ook l (fun b hb' => hb b (by rintro rfl; exact am hb')) hfr hg ho ht⟩
  have lown : env.locals ∈ own env := .head _
  have lfr : env.locals ∈ fa frs := by
    obtain ⟨outer, e⟩ := F.O.top
    rw [e]; exact List.mem_filterMap.mpr ⟨env, .head _, F.O.frame⟩
  unfold stK at hx
  rw [Bool.or_eq_true] at hx
  rcases hx with hx | hx
  · have hk : env.kindOf (Str.ofString x) = some .local := by rw [kd]; exact eq_of_beq hx
    refine wpAny_storeName_local hk hm0 (fun h' hn hs => ?_) (by rw [kf]; rfl)
    obtain ⟨o', es', ep', ho', hd', _⟩ := id hn
    have hfr : ∀ env' ∈ frs, FrOk C h' env' := fun env' he => by
      obtain ⟨L, o, es, n, e1, e2, e3, e4, e5⟩ := F.I.fr env' he
      by_cases q : L = env.locals
      · subst q; exact ⟨_, o', es', ep', e1, e2, ho', hd', e5⟩
      · exact ⟨L, o, es, n, e1, e2, (hs.2 L q).trans e3, e4, e5⟩
    obtain ⟨l, I'⟩ := fin env.locals { s with heap := h', toks := s.toks + 1 } lown hs.2 ⟨_, ho'⟩ hfr rfl rfl (Nat.le_succ _)
    have cne : ∀ c v, s.heap.IsCell c v → c ≠ env.locals := fun c v hc q => by
      subst q
      obtain ⟨o, ho, hd⟩ := hc
      obtain ⟨o2, es, ep, ho2, hd2, _⟩ := hm0
      rw [ho] at ho2; cases ho2; rw [hd] at hd2; cases hd2
    refine h _ l ⟨⟨F.R.hsc, F.R.kind, F.R.glob, F.R.blt, ⟨_, hn⟩, fun y w' hy => ?_⟩, ⟨F.O.top, F.O.frame, F.O.lbase, fun p hp => ?_, F.O.apart, F.O.has⟩, I'⟩
    · change (if y = x then some w else st.vars y) = some w' at hy
      by_cases hyx : y = x
      · subst hyx
        rw [if_pos rfl] at hy; cases hy
        exact .inl ⟨hk, _, v, hn, if_pos rfl, hv.mono F.I F.ook l⟩
      · rw [if_neg hyx] at hy
        rcases F.R.vars y w' hy with ⟨k1, m, u, h1, h2, h3⟩ | ⟨k1, c, u, h1, h2, h3⟩
        · have hne : Str.ofString y ≠ Str.ofString x := fun q => hyx (ofString_inj q)
          refine .inl ⟨k1, _, u, hn, ?_, h3.mono F.I F.ook l⟩
          show (if Str.ofString y = Str.ofString x then some v else m0 (Str.ofString y)) = some u
          rw [if_neg hne]
          obtain ⟨o1, es1, ep1, ho1, hd1, _, hm1⟩ := h1
          obtain ⟨o2, es2, ep2, ho2, hd2, _, hm2⟩ := hm0
          rw [ho1] at ho2; cases ho2; rw [hd1] at hd2; cases hd2
          rw [← hm2, hm1]; exact h2
        · exact .inr ⟨k1, c, u, h1, h2.sameBut hs (cne _ _ h2), h3.mono F.I F.ook l⟩
    · obtain ⟨h1, u, h2⟩ := F.O.cells p hp
      exact ⟨h1, u, h2.sameBut hs (cne _ _ h2)⟩
  · have hkc : env.kindOf (Str.ofString x) = some .cell := by rw [kd]; exact eq_of_beq hx
    obtain ⟨c, hc⟩ := Option.isSome_iff_exists.mp (F.O.has _ (eq_of_beq hx))
    have hcm := mem_of_lookup hc
    obtain ⟨cb, u0, hu0⟩ := F.O.cells _ hcm
    refine wpAny_storeName_cell kf hkc hc hu0 fun h' hc' hs => ?_
    have cL : c ≠ env.locals := fun q => by
      subst q
      obtain ⟨o, ho, hd⟩ := hu0
      obtain ⟨o2, es, ep, ho2, hd2, _⟩ := hm0
      rw [ho] at ho2; cases ho2; rw [hd] at hd2; cases hd2
    have hfr : ∀ env' ∈ frs, FrOk C h' env' := fun env' he => by
      obtain ⟨L, o, es, n, e1, e2, e3, e4, e5⟩ := F.I.fr env' he
      have q : L ≠ c := fun q => by
        subst q
        obtain ⟨o2, ho, hd⟩ := hu0
        rw [e3] at ho; cases ho; rw [e4] at hd; cases hd
      exact ⟨L, o, es, n, e1, e2, (hs.2 L q).trans e3, e4, e5⟩
    have cown : c ∈ own env := .tail _ (List.mem_map.mpr ⟨_, hcm, rfl⟩)
    obtain ⟨l, I'⟩ := fin c { s with heap := h' } cown hs.2 (let ⟨o, ho, _⟩ := hc'; ⟨o, ho⟩) hfr rfl rfl (Nat.le_refl _)
    have hn' : h'.Ns env.locals m0 := hm0.sameBut hs (Ne.symm cL)
    refine h _ l ⟨⟨F.R.hsc, F.R.kind, F.R.glob, F.R.blt, ⟨_, hn'⟩, fun y w' hy => ?_⟩, ⟨F.O.top, F.O.frame, F.O.lbase, fun p hp => ?_, F.O.apart, F.O.has⟩, I'⟩
    · change (if y = x then some w else st.vars y) = some w' at hy
      by_cases hyx : y = x
      · subst hyx
        rw [if_pos rfl] at hy; cases hy
        exact .inr ⟨.inl hkc, c, v, hc, hc', hv.mono F.I F.ook l⟩
      · rw [if_neg hyx] at hy
        rcases F.R.vars y w' hy with ⟨k1, m, u, h1, h2, h3⟩ | ⟨k1, d, u, h1, h2, h3⟩
        · exact .inl ⟨k1, m, u, h1.sameBut hs (Ne.symm cL), h2, h3.mono F.I F.ook l⟩
        · have hdc : d ≠ c := fun q => by
            subst q
            exact hyx (ofString_inj (name_of_addr F.O.apart (mem_of_lookup h1) hcm))
          exact .inr ⟨k1, d, u, h1, h2.sameBut hs hdc, h3.mono F.I F.ook l⟩
    · obtain ⟨h1, u, h2⟩ := F.O.cells p hp
      by_cases q : p.2 = c
      · exact ⟨h1, some v, q ▸ hc'⟩
      · exact ⟨h1, u, h2.sameBut hs q⟩
end
end Mine

namespace Mine
section
variable {k : Nat} {hd : Mo} {sc : Scope}
theorem funFrames_of {C : Ct} {h : Heap} : ∀ {frs : List Env}, (∀ env ∈ frs, FrOk C h env) → h.FunFrames C.base frs
  | [], _ => trivial
  | env :: r, x => by
    obtain ⟨L, o, es, n, e1, e2, e3, e4, e5⟩ := x env (.head _)
    exact ⟨e5.1, ⟨L, o, e1, e2, e3, fun vs q => by rw [e4] at q; cases q⟩, funFrames_of fun e he => x e (.tail _ he)⟩
structure Near (F X : List Addr) (h h' : Heap) : Prop where
  keep : ∀ b o, h.get? b = some o → b ∉ X → (b ∉ F → h'.get? b = some o) ∧ ∃ sl, h'.get? b = some { o with slots := sl }
theorem Near.refl {F X h} : Near F X h h := ⟨fun b o e _ => ⟨fun _ => e, o.slots, e⟩⟩
theorem Near.trans {F X h h' h''} (x : Near F X h h') (y : Near F X h' h'') : Near F X h h'' :=
  ⟨fun b o e n => by
    obtain ⟨k1, sl, k2⟩ := x.keep b o e n
    obtain ⟨_, sl', k3⟩ := y.keep b _ k2 n
    exact ⟨fun hf => (y.keep b o (k1 hf) n).1 hf, sl', k3⟩⟩
theorem Near.of_keeps {F X h h'} (k : ∀ b o, h.get? b = some o → h'.get? b = some o) : Near F X h h' := ⟨fun b o e _ => ⟨fun _ => k b o e, o.slots, k b o e⟩⟩
theorem Near.of_slots {F X h h'} (x : Heap.SlotsOnly F h h') : Near F X h h' := ⟨fun b o e _ => ⟨fun hf => (x.2.1 b hf).trans e, x.2.2 b o e⟩⟩
theorem Near.of_ext {F X h h'} {a : Addr} (ha : a ∈ X) (x : Heap.ExtBut a h h') : Near F X h h' := ⟨fun b o e n => have q := x b o (by rintro rfl; exact n ha) e; ⟨fun _ => q, o.slots, q⟩⟩
theorem Near.of_update {F X h} {a : Addr} {o : Obj} {f : Obj → Obj} (ha : a ∈ X) (ho : h.get? a = some o) (hf : (f o).isFreed = false) : Near F X h (h.update a f) := .of_ext ha (Heap.SameBut.update h a f).extBut
noncomputable def XOk (h₀ h : Heap) (X : List Addr) : Prop := ∀ a ∈ X, h₀.get? a = none ∧ ∃ o vs, h.get? a = some o ∧ o.data = .fields vs ∧ OC o.cls
theorem XOk.notin {h₀ h X a o} (x : XOk h₀ h X) (ho : h.get? a = some o) (hd : (∀ vs, o.data ≠ .fields vs) ∨ o.cls = .type "builtin_function_or_method") : a ∉ X := fun hm => by
  obtain ⟨_, o', vs, e, d, c⟩ := x a hm
  rw [e] at ho; cases ho
  rcases hd with hd | hd
  · exact hd _ d
  · exact c.1 hd
theorem XOk.tupK {F h₀ h h' X} (hX : XOk h₀ h X) (n : Near F X h h') (hF : ∀ a o, h.get? a = some o → (∀ es m, o.data ≠ .dict es m) → a ∉ F) : ∀ a items m, IsT h a items m → IsT h' a items m :=
  fun a items m h => (n.keep a _ h (hX.notin h (.inl (by simp)))).1 (hF _ _ h (by simp))
theorem Near.tabK {C : Ct} {frs μ σ s X h₀ h'} (n : Near (fa frs) X s.heap h') (I : Inv C frs μ σ s) (hX : XOk h₀ s.heap X) : TabK s.heap h' := fun b o vs e hd hc => by
  refine (n.keep b o e fun hm => ?_).1 (I.notFa e (by simp [hd]))
  obtain ⟨_, o', vs', q1, _, q2, q3, q4⟩ := hX b hm
  rw [q1] at e; cases e
  rcases hc with hc | hc
  · exact q3 hc
  · exact q4 hc
theorem Inv.near {C : Ct} {frs μ σ s X h₀ s'} (I : Inv C frs μ σ s) (hX : XOk h₀ s.heap X) (hb : (∀ b o, C.base.get? b = some o → h₀.get? b = some o) ∧ ∀ a ∈ C.exs, ∃ o, h₀.get? a = some o) (n : Near (fa frs) X s.heap s'.heap)
    (hg : s'.gens = s.gens := by rfl) (ho : s'.os = s.os := by rfl) (ht : s.toks ≤ s'.toks := by exact Nat.le_refl _) : Inv C frs μ σ s' := by
  have tupK := hX.tupK n fun a o => I.notFa
  refine { base := fun b o e => ?_, bmu := I.bmu, bnt := I.bnt, tab := let ⟨ps, e, q⟩ := I.tab; have tk := n.tabK I hX; ⟨ps, tk _ _ _ e rfl (.inl rfl), q.mono tk⟩, len := I.len, nd := I.nd, cells := fun i a c h1 h2 => ?_, fr := fun env' he => ?_, gens := hg.trans I.gens, os := ho.trans I.os, tk := Nat.lt_of_lt_of_le I.tk ht, han := fun a ha => ?_ }
  · refine (n.keep b o (I.base b o e) fun hm => ?_).1 fun hf => ?_
    · have q := hb.1 b o e; rw [(hX b hm).1] at q; cases q
    · obtain ⟨env', he, q⟩ := List.mem_filterMap.mp hf
      obtain ⟨L, o', es, m, e1, e2, _⟩ := I.fr env' he
      rw [e1] at q; cases q
      rw [e2] at e; cases e
  · cases I.cells i a c h1 h2 with
    | list a b => exact .list ((n.keep _ _ a (hX.notin a (.inl (by simp)))).1 (I.notFa a (by simp))) (b.mono' tupK fun _ _ e => e)
    | obj a => exact .obj ((n.keep _ _ a (hX.notin a (.inl (by simp [objO])))).1 (I.notFa a (by simp [objO])))
  · refine (I.fr env' he).mono fun b o hf ho => ?_
    obtain ⟨L, o', es, m, e1, e2, e3, e4, e5⟩ := I.fr env' he
    rw [e1] at hf; cases hf
    rw [e3] at ho; cases ho
    exact (n.keep _ _ e3 (hX.notin e3 (.inl (by simp [e4])))).2
  · obtain ⟨hb', o, vs, h1, h2, h3, h4⟩ := I.han a ha
    refine ⟨hb', o, vs, (n.keep a o h1 fun hm => ?_).1 (I.notFa h1 (by simp [h2])), h2, h3, h4⟩
    obtain ⟨o', q⟩ := hb.2 a ha
    rw [(hX a hm).1] at q; cases q
theorem Inv.olds {C : Ct} {frs μ σ s} (I : Inv C frs μ σ s) : (∀ b o, C.base.get? b = some o → s.heap.get? b = some o) ∧ ∀ a ∈ C.exs, ∃ o, s.heap.get? a = some o :=
  ⟨I.base, fun a ha => let ⟨_, o, _, h, _⟩ := I.han a ha; ⟨o, h⟩⟩
theorem nsNear {F h₀ h h' X a m} (hX : XOk h₀ h X) (n : Near F X h h') (hn : h.Ns a m) : h'.Ns a m := UpTo.ns hn fun o ho => by
  obtain ⟨o', es, ep, ho', hd, _⟩ := hn
  rw [ho'] at ho; cases ho
  exact (n.keep a _ ho' (hX.notin ho' (.inl (by simp [hd])))).2
theorem EnvR.near {C : Ct} {env vars frs μ σ s X h₀ h'} (R : EnvR C env sc vars μ s.heap) (I : Inv C frs μ σ s) (hX : XOk h₀ s.heap X) (n : Near (fa frs) X s.heap h') : EnvR C env sc vars μ h' := by
  have tupK := hX.tupK n fun a o => I.notFa
  have cellK : ∀ a v, s.heap.IsCell a v → h'.IsCell a v := fun a v h => by
    obtain ⟨o, ho, hd⟩ := h
    exact ⟨o, (n.keep a _ ho (hX.notin ho (.inl (by simp [hd])))).1 (I.notFa ho (by simp [hd])), hd⟩
  have wrK : ∀ {w v}, WR C.base μ s.heap w v → WR C.base μ h' w v := fun x => by
    cases x with
    | v x => exact .v (x.mono' tupK fun _ _ e => e)
    | app h1 h2 => exact .app h1 ((n.keep _ _ h2 (hX.notin h2 (.inr rfl))).1 (I.notFa h2 (by simp)))
  refine ⟨R.hsc, R.kind, R.glob, R.blt, let ⟨m, hm⟩ := R.ns; ⟨m, nsNear hX n hm⟩, fun x w hw => ?_⟩
  rcases R.vars x w hw with ⟨k1, m, v, h1, h2, h3⟩ | ⟨k1, c, v, h1, h2, h3⟩
  · exact .inl ⟨k1, m, v, nsNear hX n h1, h2, wrK h3⟩
  · exact .inr ⟨k1, c, v, h1, cellK _ _ h2, wrK h3⟩
theorem FI.near {C env frs μ st s X h₀ s'} (F : FI C env sc frs μ st s) (hX : XOk h₀ s.heap X) (hb : (∀ b o, C.base.get? b = some o → h₀.get? b = some o) ∧ ∀ a ∈ C.exs, ∃ o, h₀.get? a = some o) (n : Near (fa frs) X s.heap s'.heap)
    (hg : s'.gens = s.gens := by rfl) (ho : s'.os = s.os := by rfl) (ht : s.toks ≤ s'.toks := by exact Nat.le_refl _) : FI C env sc frs μ st s' := by
  have cellK : ∀ a v, s.heap.IsCell a v → s'.heap.IsCell a v := fun a v h => by
    obtain ⟨o, ho, hd⟩ := h
    exact ⟨o, (n.keep a _ ho (hX.notin ho (.inl (by simp [hd])))).1 (F.I.notFa ho (by simp [hd])), hd⟩
  exact ⟨F.R.near F.I hX n, ⟨F.O.top, F.O.frame, F.O.lbase, fun p hp => let ⟨h1, v, h2⟩ := F.O.cells p hp; ⟨h1, v, cellK _ _ h2⟩, F.O.apart, F.O.has⟩, F.I.near hX hb n hg ho ht⟩
theorem Le.near {F O μ h₀ μ' h X h'} (l : Le F O μ h₀ μ' h) (hX : ∀ a ∈ X, h₀.get? a = .none) (n : Near F X h h') (tk : TabK h h') : Le F O μ h₀ μ' h' :=
  ⟨l.ext, fun b o e nt h1 h2 => by
    have nx : b ∉ X := fun q => by rw [hX b q] at e; cases e
    obtain ⟨k1, sl, k2⟩ := l.keep b o e nt h1 h2
    exact ⟨fun hf => (n.keep b o (k1 hf) nx).1 hf, (n.keep b _ k2 nx).2⟩, fun b o e => by
    obtain ⟨o', e'⟩ := l.live b o e
    have nx : b ∉ X := fun q => by rw [hX b q] at e; cases e
    obtain ⟨sl, q⟩ := (n.keep b o' e' nx).2
    exact ⟨_, q⟩, fun ps e q => by
    obtain ⟨ps', e', q'⟩ := l.tab ps e q
    exact ⟨ps', tk _ _ _ e' rfl (.inl rfl), q'.mono tk⟩⟩
noncomputable def ExcT (C : Ct) (h₀ h : Heap) (e : Value) (x : X) : Prop :=
  ∃ a oe vs T oT ts, e = .ref a ∧ h₀.get? a = none ∧ h.get? a = some oe ∧ (clsOf C x oe.cls ∧ OC oe.cls) ∧ oe.data = .fields vs ∧ 5 < vs.size ∧ (x ≠ .idxc → vs[2]? = some .none) ∧
    vs[1]? = some (.ref T) ∧ h₀.get? T = none ∧ T ≠ a ∧ h.get? T = some oT ∧ oT.cls = .type "traceback" ∧ oT.data = .fields ts ∧ 3 < ts.size
theorem ExcT.ex {C h₀ h e x} (y : ExcT C h₀ h e x) : ExcIn C h₀ h e x := by
  obtain ⟨a, oe, vs, T, oT, ts, h1, h2, h3, h4, h5, h6, h7, h8, h9, h10, h11, h12, h13, h14⟩ := y
  exact ⟨a, oe, vs, h1, h2, h3, h4, h5, h6, h7, .inr ⟨T, oT, ts, h8, h9, h10, h11, h12, h13, h14⟩⟩
noncomputable def exOf : Value → List Addr
  | .ref a => [a]
  | _ => []
theorem entry_run {C : Ct} {A frs env h₀ s a oe vs head hn x} {Q : Unit → Shared → Prop} {E : Value → Shared → Prop} (hfr : A.frames = some frs) (ht : ∃ outer, frs = env :: outer) (hf : env.frame = some env.locals) (hff : ∀ env ∈ frs, FrOk C s.heap env)
    (ha : s.heap.get? a = some oe) (h0 : h₀.get? a = none) (hl0 : ∀ b o, h₀.get? b = some o → ∃ o', s.heap.get? b = some o') (hc : clsOf C x oe.cls ∧ OC oe.cls) (hd : oe.data = .fields vs) (hz : 5 < vs.size) (h2 : (x ≠ .idxc → vs[2]? = some .none))
    (h : ∀ h', Near (fa frs) [a] s.heap h' → ExcT C h₀ h' (.ref a) x → Q () { s with heap := h' }) :
    wpAny (Md C) A (do let b ← frameOf env; let pl ← entryPlaceOf env.locals hn; let c ← EntryCells.newEntry head b .none (rawInt env.locals) .none pl; setField (.ref a) 1 c) Q E s := by
  obtain ⟨outer, rfl⟩ := ht
  refine wpAny_bind (wpAny_frameOf_fun hfr (funFrames_of hff) hf fun h₁ hs₁ => ?_)
  refine wpAny_bind (wpAny_entryPlaceOf fun pl hpl => ?_)
  unfold EntryCells.newEntry newFields
  refine wpAny_bind (wpAny_newObj_type ?_ (hpl.sizeOk5 _ _ _ _ _))
  have anf : a ∉ fa (env :: outer) := fun hm => by
    obtain ⟨env', he, q⟩ := List.mem_filterMap.mp hm
    obtain ⟨L, o', es, n, e1, _, e2, e3, _⟩ := hff env' he
    rw [e1] at q; cases q
    rw [e2] at ha; cases ha
    rw [e3] at hd; cases hd
  have ha1 : h₁.get? a = some oe := (hs₁.2.1 a anf).trans ha
  have ha2 := Heap.get?_push_of_some (h := h₁) { cls := .type "traceback", dict := none, data := .fields ([head, .ref env.locals, .none, rawInt env.locals, .none] ++ (if pl.isEmpty then List.replicate 6 Value.none else pl)).toArray } ha1
  have hd3 := Obj.data_mapFields hd (·.setIfInBounds 1 (Value.ref h₁.objs.size))
  refine wpAny_setField ha2 hd (by omega) (h _ ?_ ?_)
  · exact (Near.of_slots hs₁).trans ((Near.of_keeps (push_keeps _ _)).trans (Near.of_update (.head _) ha2 (Obj.isFreed_of_fields hd3)))
  · have hTa : h₁.objs.size ≠ a := Nat.ne_of_gt (Heap.lt_size ha1)
    refine ⟨a, _, _, h₁.objs.size, { cls := .type "traceback", dict := none, data := .fields ([head, .ref env.locals, .none, rawInt env.locals, .none] ++ (if pl.isEmpty then List.replicate 6 Value.none else pl)).toArray }, _, rfl, h0, Heap.get?_update_self _ ha2 (Obj.isFreed_of_fields hd3), ?_, hd3, by simpa using hz, ?_, ?_, ?_, hTa, ?_, rfl, rfl, ?_⟩
    · rw [Obj.cls_mapFields]; exact hc
    · rw [Array.getElem?_setIfInBounds_ne (by decide)]; exact h2
    · rw [Array.getElem?_setIfInBounds_self_of_lt (by omega)]
    · cases hq : h₀.get? h₁.objs.size with
      | none => rfl
      | some o =>
        obtain ⟨o', e⟩ := hl0 _ _ hq
        have := Heap.lt_size e
        rw [← hs₁.1] at this
        exact absurd this (Nat.lt_irrefl _)
    · rw [Heap.get?_update_other _ _ (Ne.symm hTa)]; exact Heap.get?_push_size h₁ rfl
    · simp only [List.size_toArray, List.length_append, List.length_cons, List.length_nil]; omega
end
end Mine

namespace Mine
section
variable {k : Nat} {hd : Mo} {sc : Scope}
theorem XOk.of {h₀ h X} (x : ∀ a ∈ X, h₀.get? a = none ∧ ∃ o vs, h.get? a = some o ∧ o.data = .fields vs ∧ OC o.cls) : XOk h₀ h X := x
theorem noted_run {C : Ct} {A env frs μ st s μ₀ σ₀ s₀ e x} {Q : Unit → Shared → Prop} {E : Value → Shared → Prop} (hfr : A.frames = some frs) (F : FI C env sc frs μ st s) (I₀ : Inv C frs μ₀ σ₀ s₀) (l₀ : Le (fa frs) (own env) μ₀ s₀.heap μ s.heap)
    (y : ExcIn C s₀.heap s.heap e x)
    (h : ∀ h', Le (fa frs) (own env) μ₀ s₀.heap μ h' → FI C env sc frs μ st { s with heap := h' } → ExcT C s₀.heap h' e x → Q () { s with heap := h' }) :
    wpAny (Md C) A (noteFrame e env) Q E s := by
  unfold noteFrame
  simp only [F.O.frame]
  refine hide fun H out => ?_
  obtain ⟨a, oe, vs, rfl, h0, ha, hc, hdt, hz, h2, h1⟩ := y
  rcases h1 with h1 | ⟨T, oT, ts, h1, hT0, hTa, hT, hTc, hTd, hTz⟩
  · refine out (wpAny_bind (wpAny_field ha hdt h1 (wpAny_ite_false rfl (entry_run hfr F.O.top F.O.frame F.I.fr ha h0 l₀.live hc hdt hz h2 fun h' n t => ?_))))
    have hX : XOk s₀.heap s.heap [a] := fun b hb => by
      rw [List.mem_singleton.mp hb]; exact ⟨h0, oe, vs, ha, hdt, hc.2⟩
    exact h h' (l₀.near (fun b hb => (hX b hb).1) n (n.tabK F.I hX)) (F.near (s' := { s with heap := h' }) hX I₀.olds n) t
  · have h3 : ts[3]? = some ts[3] := Array.getElem?_eq_getElem hTz
    refine out (wpAny_bind (wpAny_field ha hdt h1 (wpAny_ite_true (c := (Value.ref T != Value.none) = true) rfl (wpAny_bind (wpAny_field hT hTd h3 ?_)))))
    by_cases hw : (ts[3] == rawInt env.locals) = true
    · exact wpAny_ite_true (decide_eq_true hw) <| wpAny_pure (h s.heap l₀ F ⟨a, oe, vs, T, oT, ts, rfl, h0, ha, hc, hdt, hz, h2, h1, hT0, hTa, hT, hTc, hTd, hTz⟩)
    · refine wpAny_ite_false (decide_eq_false hw) (wpAny_bind (wpAny_setField hT hTd hTz ?_))
      have hX : XOk s₀.heap s.heap [T] := fun b hb => by
        rw [List.mem_singleton.mp hb]; exact ⟨hT0, oT, ts, hT, hTd, by rw [hTc]; simp [OC]⟩
      have hd3 := Obj.data_mapFields hTd (·.setIfInBounds 3 Value.none)
      have n1 : Near (fa frs) [T] s.heap (s.heap.update T (Obj.mapFields (·.setIfInBounds 3 .none))) := .of_update (.head _) hT (Obj.isFreed_of_fields hd3)
      have F1 := F.near (s' := { s with heap := s.heap.update T (Obj.mapFields (·.setIfInBounds 3 .none)) }) hX I₀.olds n1
      have l1 := l₀.near (fun b hb => (hX b hb).1) n1 (n1.tabK F.I hX)
      have ha1 : (s.heap.update T (Obj.mapFields (·.setIfInBounds 3 Value.none))).get? a = some oe := (Heap.get?_update_other _ _ hTa).trans ha
      refine entry_run (s := { s with heap := s.heap.update T (Obj.mapFields (·.setIfInBounds 3 .none)) }) hfr F1.O.top F1.O.frame F1.I.fr ha1 h0 l1.live hc hdt hz h2 fun h' n t => ?_
      have hX1 : XOk s₀.heap (s.heap.update T (Obj.mapFields (·.setIfInBounds 3 Value.none))) [a] := fun b hb => by
        rw [List.mem_singleton.mp hb]; exact ⟨h0, oe, vs, ha1, hdt, hc.2⟩
      exact h h' (l1.near (fun b hb => (hX1 b hb).1) n (n.tabK F1.I hX1)) (F1.near (s' := { s with heap := h' }) hX1 I₀.olds n) t
theorem flight_run {C : Ct} {A env frs μ st s μ₀ σ₀ s₀ e x} {fr : Option Addr} {Q : Unit → Shared → Prop} {E : Value → Shared → Prop} (F : FI C env sc frs μ st s) (I₀ : Inv C frs μ₀ σ₀ s₀) (l₀ : Le (fa frs) (own env) μ₀ s₀.heap μ s.heap)
    (y : ExcT C s₀.heap s.heap e x)
    (h : ∀ h', Le (fa frs) (own env) μ₀ s₀.heap μ h' → FI C env sc frs μ st { s with heap := h' } → ExcT C s₀.heap h' e x → Q () { s with heap := h' }) :
    wpAny (Md C) A (setFlight e fr) Q E s := by
  obtain ⟨a, oe, vs, T, oT, ts, rfl, h0, ha, hc, hdt, hz, h2, h1, hT0, hTa, hT, hTc, hTd, hTz⟩ := y
  unfold setFlight
  refine wpAny_bind (wpAny_field ha hdt h1 ?_)
  rw [if_pos (show (Value.ref T != Value.none) = true from by simp)]
  refine wpAny_setField hT hTd hTz ?_
  have hX : XOk s₀.heap s.heap [T] := fun b hb => by
    rw [List.mem_singleton.mp hb]; exact ⟨hT0, oT, ts, hT, hTd, by rw [hTc]; simp [OC]⟩
  have hd3 := Obj.data_mapFields hTd (·.setIfInBounds 3 (fr.elim Value.none fun f => rawInt f))
  have n1 : Near (fa frs) [T] s.heap (s.heap.update T (Obj.mapFields (·.setIfInBounds 3 (fr.elim .none fun f => rawInt f)))) := .of_update (.head _) hT (Obj.isFreed_of_fields hd3)
  refine h _ (l₀.near (fun b hb => (hX b hb).1) n1 (n1.tabK F.I hX)) (F.near (s' := { s with heap := _ }) hX I₀.olds n1) ?_
  exact ⟨a, oe, vs, T, _, _, rfl, h0, (Heap.get?_update_other _ _ hTa).trans ha, hc, hdt, hz, h2, h1, hT0, hTa, Heap.get?_update_self _ hT (Obj.isFreed_of_fields hd3), (Obj.cls_mapFields _ _).trans hTc, hd3, by simpa using hTz⟩
theorem cameBack_run {C : Ct} {A env frs μ st s μ₀ σ₀ s₀ e x} {PE : Value → Shared → Prop} (F : FI C env sc frs μ st s) (I₀ : Inv C frs μ₀ σ₀ s₀) (l₀ : Le (fa frs) (own env) μ₀ s₀.heap μ s.heap)
    (y : ExcT C s₀.heap s.heap e x)
    (h : ∀ h', Le (fa frs) (own env) μ₀ s₀.heap μ h' → FI C env sc frs μ st { s with heap := h' } → ExcT C s₀.heap h' e x → PE e { s with heap := h' }) :
    cameBackBy (Md C) A env PE e s := by
  obtain ⟨a, oe, vs, T, oT, ts, rfl, h0, ha, hc, hdt, hz, h2, h1, hT0, hTa, hT, hTc, hTd, hTz⟩ := id y
  unfold cameBackBy
  refine wpAny_bind (wpAny_field ha hdt h1 ?_)
  rw [if_neg (show ¬ ((Value.ref T == Value.none) = true) from by simp)]
  have st := flight_run (A := A) (fr := env.frame) (Q := fun _ s'' => PE (.ref a) s'') (E := PE) F I₀ l₀ y h
  first | exact wpAny_bind (wpAny_pure st) | exact st
theorem passes_run {C : Ct} {A A' env frs μ st s μ₀ σ₀ s₀ e x} {PE : Value → Shared → Prop} (hfr : A'.frames = some frs) (F : FI C env sc frs μ st s) (I₀ : Inv C frs μ₀ σ₀ s₀) (l₀ : Le (fa frs) (own env) μ₀ s₀.heap μ s.heap)
    (y : ExcIn C s₀.heap s.heap e x)
    (h : ∀ h', Le (fa frs) (own env) μ₀ s₀.heap μ h' → FI C env sc frs μ st { s with heap := h' } → ExcT C s₀.heap h' e x → PE e { s with heap := h' }) :
    notedBy (Md C) A' env (cameBackBy (Md C) A env PE) e s := by
  refine noted_run hfr F I₀ l₀ y fun h' l' F' y' => ?_
  exact cameBack_run (s := { s with heap := h' }) F' I₀ l' y' h
theorem XC.passes {C : Ct} {A A' env frs μ st s E PE} (q : XC C env sc frs μ s E PE) (hfr : A'.frames = some frs) (F : FI C env sc frs μ st s) : XC C env sc frs μ s E (notedBy (Md C) A' env (cameBackBy (Md C) A env PE)) :=
  fun x e st' μ' s' l F' y hq => passes_run hfr F' F.I l y fun h' l' F'' y' => q x e st' μ' _ l' F'' y'.ex hq
theorem leaving_run {C : Ct} {A env frs μ st s μ₀ σ₀ s₀ e x} {Q : Unit → Shared → Prop} {E : Value → Shared → Prop} (hfr : A.frames = some frs) (F : FI C env sc frs μ st s) (I₀ : Inv C frs μ₀ σ₀ s₀) (l₀ : Le (fa frs) (own env) μ₀ s₀.heap μ s.heap)
    (y : ExcIn C s₀.heap s.heap e x)
    (h : ∀ h', Le (fa frs) (own env) μ₀ s₀.heap μ h' → FI C env sc frs μ st { s with heap := h' } → ExcT C s₀.heap h' e x → Q () { s with heap := h' }) :
    wpAny (Md C) A (leaving env e) Q E s := by
  unfold leaving
  refine wpAny_bind (noted_run hfr F I₀ l₀ y fun h' l' F' y' => ?_)
  exact flight_run (s := { s with heap := h' }) F' I₀ l' y' h
end
end Mine

namespace Mine
section
variable {k : Nat} {hd : Mo} {sc : Scope}
theorem interactive_no {C : Ct} {env vars μ h} (R : EnvR C env sc vars μ h) : interactive env = false := by
  unfold interactive; rw [R.hsc, R.kind]; rfl
noncomputable def withS (st : St) (Q : V → Sto → Prop) : V → Sto → Prop := Q
noncomputable abbrev exE (st : St) (E : X → St → Prop) : X → Sto → Prop := fun x σ => E x { st with sto := σ }
noncomputable def exprS (f : Ex) : Sx := fun st Q E => f st.vars st.sto (fun _ σ => Q .next { st with sto := σ }) (exE st E)
theorem s_expr {e pos f} (he : SoundE k hd sc e f) (hs : ∀ env, swapsWith e none pos.line env = pure false := by intro _; rfl) : SoundS k hd sc (.Expr e pos) (exprS f) :=
  .mk fun C hC A frs hA env μ st s F Q E PQ PE hf hQ hE =>
    wpAny_Expr_any (he.run C hC A frs hA env st.vars μ st.sto s F.R F.I _ _ _ _ hf (fun V v σ' μ' s' l I' r hq => hQ _ _ _ _ _ l.ex (F.step l I') .next hq) (hE.ex F)) (interactive_no F.R) (hs env)
noncomputable def asn (x : String) (f : Ex) : Sx := fun st Q E => f st.vars st.sto (fun v σ => Q .next ⟨upd st.vars x (.v v), σ⟩) (exE st E)
theorem s_asn {x e p pos f} (he : SoundE k hd sc e f) (hx : stK sc x = true) (hs : ∀ env, env.scope = sc → swapsWith e (some (.Name (Str.ofString x) p)) pos.line env = pure false := by intro _ _; rfl) : SoundS k hd sc (.Assign [.Name (Str.ofString x) p] e pos) (asn x f) :=
  .mk fun C hC A frs hA env μ st s F Q E PQ PE hf hQ hE =>
    wpAny_Assign_Name (he.run C hC A frs hA env st.vars μ st.sto s F.R F.I _ _ _ _ hf (fun V v σ' μ' s' l I' r hq =>
      store_run (F.step l I') hx (.v r) fun s2 l2 F2 => hQ _ _ _ _ _ (l.ex.trans l2) F2 .next hq) (hE.ex F)) (hs env F.R.hsc)
noncomputable def asn2 (x y : String) (f : Ex) : Sx := fun st Q E => f st.vars st.sto (fun v σ => Q .next ⟨upd (upd st.vars x (.v v)) y (.v v), σ⟩) (exE st E)
theorem s_asn2 {x y e p p' pos f} (he : SoundE k hd sc e f) (hx : stK sc x = true) (hy : stK sc y = true) (hw : ∀ env, swappedStores [.Name (Str.ofString x) p, .Name (Str.ofString y) p'] e env = pure none := by intro _; rfl) :
    SoundS k hd sc (.Assign [.Name (Str.ofString x) p, .Name (Str.ofString y) p'] e pos) (asn2 x y f) :=
  .mk fun C hC A frs hA env μ st s F Q E PQ PE hf hQ hE =>
    wpAny_Assign_two (he.run C hC A frs hA env st.vars μ st.sto s F.R F.I _ _ _ _ hf (fun V v σ' μ' s' l I' r hq =>
      wpAny_assign_Name (store_run (F.step l I') hx (.v r) fun s2 l2 F2 => wpAny_assign_Name (store_run F2 hy (.v (r.mono (F.step l I').I (F.step l I').ook l2)) fun s3 l3 F3 =>
        hQ _ _ _ _ _ (l.ex.trans (l2.trans l3)) F3 .next hq))) (hE.ex F)) rfl (hw env)
noncomputable def aug (o : Op2) (x : String) (f : Ex) : Sx := fun st Q E => ∃ V, st.vars x = some (.v V) ∧ f st.vars st.sto (fun w σ => o V w σ (fun r σ => Q .next ⟨upd st.vars x (.v r), σ⟩) (exE st E)) (exE st E)
theorem load_run {C : Ct} {A env vars μ s} {x : String} {V : V} {Q : Value → Shared → Prop} {E} (R : EnvR C env sc vars μ s.heap) (hv : vars x = some (.v V)) (hq : ∀ v, VR C.base μ s.heap V v → Q v s)
    (hd2 : (Str.ofString x == ("__classdict__" : Str)) = false := by decide +kernel) : wpAny (Md C) A (loadName env (Str.ofString x)) Q E s := by
  have hk : env.scope.kind = .function := by rw [R.hsc]; exact R.kind
  rcases R.vars x _ hv with ⟨kd, m, v, h1, h2, h3⟩ | ⟨kd, c, v, h1, h2, h3⟩
  · cases h3 with | v h3 => exact wpAny_loadName_local hk kd h1 h2 (hq _ h3)
  · cases h3 with
    | v h3 =>
      rcases kd with kd | kd
      · exact wpAny_loadName_cell hk kd h1 h2 (hq _ h3)
      · exact wpAny_loadName_free hk kd h1 h2 (hq _ h3) hd2
theorem s_aug {o : Op2} {op : Operator} {x e p pos f} (ho : SoundO2 k hd (inplaceOp op) o) (he : SoundE k hd sc e f) (hx : stK sc x = true) (hd2 : (Str.ofString x == ("__classdict__" : Str)) = false := by decide +kernel) :
    SoundS k hd sc (.AugAssign (.Name (Str.ofString x) p) op e pos) (aug o x f) := .mk fun C hC A frs hA env μ st s F Q E PQ PE hf hQ hE => by
  obtain ⟨V, hv, hf⟩ := hf
  refine wpAny_AugAssign_Name (load_run F.R hv (fun v r0 => ?_) hd2)
  refine he.run C hC A frs hA env st.vars μ st.sto s F.R F.I _ _ _ _ hf (fun W w σ1 μ1 s1 l1 I1 r1 hq => ?_) (hE.ex F)
  refine ho C hC A frs hA μ1 σ1 s1 I1 V v (r0.mono F.I .nil l1) W w r1 _ _ _ _ hq (fun Z z σ2 μ2 s2 l2 I2 r2 hq2 => ?_) ((hE.ex F).after l1)
  exact store_run (F.step (l1.trans l2) I2) hx (.v r2) fun s3 l3 F3 => hQ _ _ _ _ _ ((l1.trans l2).ex.trans l3) F3 .next hq2
noncomputable def ifS (t : Tx) (a b : Sx) : Sx := fun st Q E => t st.vars st.sto (fun c σ => if c then a { st with sto := σ } Q E else b { st with sto := σ } Q E) (exE st E)
theorem s_if {t a b pos ft fa' fb} (ht : SoundT k hd sc t ft) (ha : SoundSs k hd sc a fa') (hb : SoundSs k hd sc b fb) : SoundS k hd sc (.If t a b pos) (ifS ft fa' fb) :=
  .mk fun C hC A frs hA env μ st s F Q E PQ PE hf hQ hE => wpAny_If (ht.run C hC A frs hA env st.vars μ st.sto s F.R F.I _ _ _ _ hf (fun c σ' μ' s' l I' hq => by
    cases c with
    | true => exact ha.run C hC A frs hA env μ' _ s' (F.step l I') _ _ _ _ hq (hQ.after l.ex) (hE.after l.ex)
    | false => exact hb.run C hC A frs hA env μ' _ s' (F.step l I') _ _ _ _ hq (hQ.after l.ex) (hE.after l.ex)) (hE.ex F))
noncomputable def retS (f : Ex) : Sx := fun st Q E => f st.vars st.sto (fun v σ => Q (.ret v) { st with sto := σ }) (exE st E)
theorem s_ret {e pos f} (he : SoundE k hd sc e f) : SoundS k hd sc (.Return (some e) pos) (retS f) :=
  .mk fun C hC A frs hA env μ st s F Q E PQ PE hf hQ hE =>
    wpAny_Return_some (he.run C hC A frs hA env st.vars μ st.sto s F.R F.I _ _ _ _ hf (fun V v σ' μ' s' l I' r hq => hQ _ _ _ _ _ l.ex (F.step l I') (.ret r) hq) (hE.ex F))
noncomputable def brk : Sx := fun st Q _ => Q .brk st
theorem s_brk {pos} : SoundS k hd sc (.Break pos) brk := .mk fun C hC A frs hA env μ st s F Q E PQ PE hf hQ hE => wpAny_Break (hQ _ _ _ _ _ .refl F .brk hf)
noncomputable def asrt (t : Tx) : Sx := fun st Q E => t st.vars st.sto (fun c σ => c = true ∧ Q .next { st with sto := σ }) (exE st E)
theorem s_asrt {t pos ft} (ht : SoundT k hd sc t ft) : SoundS k hd sc (.Assert t none pos) (asrt ft) :=
  .mk fun C hC A frs hA env μ st s F Q E PQ PE hf hQ hE => wpAny_Assert_holds (ht.run C hC A frs hA env st.vars μ st.sto s F.R F.I _ _ _ _ hf (fun c σ' μ' s' l I' hq => ⟨hq.1, hQ _ _ _ _ _ l.ex (F.step l I') .next hq.2⟩) (hE.ex F))
noncomputable def dead : Sx := fun _ _ _ => False
theorem ss_dead {e} : SoundSs k hd sc e dead := .mk fun C hC A frs hA env μ st s F Q E PQ PE hf hQ hE => hf.elim
noncomputable def loopN (t : Tx) (b : Sx) : Nat → Sx
  | 0 => fun _ _ _ => False
  | n + 1 => fun st Q E => t st.vars st.sto (fun c σ => if c then b { st with sto := σ } (fun fl st' => match fl with
      | .next => loopN t b n st' Q E
      | .cont => loopN t b n st' Q E
      | .brk => Q .next st'
      | .ret v => Q (.ret v) st') E else Q .next { st with sto := σ }) (exE st E)
noncomputable def whileS (t : Tx) (b : Sx) : Sx := fun st Q E => ∃ n, loopN t b n st Q E
theorem s_while {t b pos ft fb} (ht : SoundT k hd sc t ft) (hb : SoundSs k hd sc b fb) : SoundS k hd sc (.While t b [] pos) (whileS ft fb) := .mk fun C hC A frs hA env μ st s F Q E PQ PE hf hQ hE => by
  obtain ⟨n, hf⟩ := hf
  refine wpAny_While (codeAny_whileLoop (fun n s' => ∃ st' μ', Le (fa frs) (own env) μ s.heap μ' s'.heap ∧ FI C env sc frs μ' st' s' ∧ loopN ft fb n st' Q E) ?_ n ⟨st, μ, .refl, F, hf⟩)
  rintro n s' ⟨st', μ', l, F', hf⟩
  cases n with
  | zero => exact hf.elim
  | succ n =>
    have hE' := (hE.passes (A := A) (A' := A) hA.frames F).after l
    refine ht.run C hC A frs hA env st'.vars μ' st'.sto s' F'.R F'.I _ _ _ _ hf (fun c σ2 μ2 s2 l2 I2 hq => ?_) (hE'.ex F')
    have F2 := F'.step l2 I2
    cases c with
    | true =>
      refine hb.run C hC A frs hA env μ2 _ s2 F2 _ _ _ _ hq (fun fl flow st3 μ3 s3 l3 F3 r3 hq3 => ?_) (hE'.after l2.ex)
      have l4 := l.trans (l2.ex.trans l3)
      cases r3 with
      | next => exact ⟨n, Nat.lt_succ_self n, st3, μ3, l4, F3, hq3⟩
      | cont => exact ⟨n, Nat.lt_succ_self n, st3, μ3, l4, F3, hq3⟩
      | brk => exact hQ _ _ _ _ _ l4 F3 .next hq3
      | ret r => exact hQ _ _ _ _ _ l4 F3 (.ret r) hq3
    | false => exact wpAny_execs_nil (hQ _ _ _ _ _ (l.trans l2.ex) F2 .next hq)
inductive It where
  | lst (l : Nat) (all : List V) | rng (a : Int) (n : Nat)
noncomputable def It.chk : It → Sto → Prop
  | .lst l all, σ => σ[l]? = some (.list all)
  | .rng _ _, _ => True
noncomputable def It.items : It → List V
  | .lst _ all => all
  | .rng a n => (List.range n).map fun i : Nat => V.int (a + i)
noncomputable def ItR (μ : List Addr) (h : Heap) (it : Addr) : It → Nat → Prop
  | .lst l _, i => ∃ a, μ[l]? = some a ∧ h.IsListIter it a i
  | .rng a n, i => IsRangeIter h it (a + i) ((n : Int) - i) 1
theorem ItR.rec {μ h it d i} (x : ItR μ h it d i) : ∃ o vs, h.get? it = some o ∧ o.data = .fields vs ∧ OC o.cls ∧ o.cls ≠ .type "list" ∧ o.cls ≠ .type "object" := by
  cases d with
  | lst l all => obtain ⟨a, _, o, h1, h2, h3⟩ := x; exact ⟨o, _, h1, h3, by rw [h2]; simp [OC], by rw [h2]; simp, by rw [h2]; simp⟩
  | rng a n => exact ⟨_, _, x, rfl, by simp [OC], by simp, by simp⟩
theorem ItR.keep {μ h it d i μ' h'} (x : ItR μ h it d i) (hμ : ∀ (i : Nat) (a : Addr), μ[i]? = some a → μ'[i]? = some a) (k : ∀ o, h.get? it = some o → h'.get? it = some o) : ItR μ' h' it d i := by
  cases d with
  | lst l all => obtain ⟨a, h0, o, h1, h2⟩ := x; exact ⟨a, hμ _ _ h0, o, k _ h1, h2⟩
  | rng a n => exact k _ x
theorem ItR.mono {C : Ct} {frs O μ σ s μ' h' it d i} (x : ItR μ s.heap it d i) (I : Inv C frs μ σ s) (ko : OOk C O s.heap) (l : Le (fa frs) O μ s.heap μ' h') : ItR μ' h' it d i :=
  x.keep l.mu fun o ho => by
    obtain ⟨o', vs, h1, h2, h3, h4, h5⟩ := x.rec
    rw [ho] at h1; cases h1
    exact (l.keep _ _ ho (I.neT ho (.inl h3.2.1)) (I.notMu ho h4 h5) (ko.notin ho (by simp [h2]) (by simp [h2]))).1 (I.notFa ho (by simp [h2]))
theorem ItR.xok {μ h it d i h₀} (x : ItR μ h it d i) (h0 : h₀.get? it = none) : XOk h₀ h [it] := fun a ha => by
  rw [List.mem_singleton.mp ha]
  obtain ⟨o, vs, h1, h2, h3, _⟩ := x.rec
  exact ⟨h0, o, vs, h1, h2, h3⟩
theorem next_run {C : Ct} {A frs μ σ s it d i} {Q : Option Value → Shared → Prop} {E} (hh : A.handled = none) (I : Inv C frs μ σ s) (r : ItR μ s.heap it d i) (hk : d.chk σ)
    (h1 : ∀ v x h' t, d.items[i]? = some v → s.toks ≤ t → Heap.SameBut it s.heap h' → ItR μ h' it d (i + 1) → VR C.base μ s.heap v x → Q (some x) { s with heap := h', toks := t })
    (h2 : d.items[i]? = none → ∀ h', Heap.ExtBut it s.heap h' → Q none { s with heap := h' }) : wpAny (Md C) A (pyNext (.ref it)) Q E s := by
  cases d with
  | lst l all =>
    obtain ⟨a, ha, hi⟩ := r
    obtain ⟨xi, n, hl, hv⟩ := I.isL ha hk
    cases hx : all[i]? with
    | none =>
      refine wpAny_pyNext_list_end hh hi hl.isList (by simpa using hv.none hx) fun h' he => h2 hx h' he
    | some v =>
      obtain ⟨x, h3, h4⟩ := hv.at hx
      exact wpAny_pyNext_list_item hi hl.isList (by simpa using h3) fun h' hi' hs => h1 v x h' s.toks hx (Nat.le_refl _) hs ⟨a, ha, hi'⟩ h4
  | rng a n =>
    have hr : IsRangeIter s.heap it (a + i) ((n : Int) - i) 1 := r
    by_cases hx : i < n
    · refine wpAny_pyNext_range_item hr (by omega) fun h' hi' hs => ?_
      refine h1 (.int (a + i)) _ h' _ ?_ (Nat.le_succ _) hs ?_ (.int _ _)
      · show ((List.range n).map _)[i]? = _
        rw [List.getElem?_map, List.getElem?_range hx]; rfl
      · show IsRangeIter h' it (a + (i + 1 : Nat)) ((n : Int) - (i + 1 : Nat)) 1
        have e1 : a + ((i + 1 : Nat) : Int) = a + i + 1 := by omega
        have e2 : (n : Int) - ((i + 1 : Nat) : Int) = (n : Int) - i - 1 := by omega
        rw [e1, e2]; exact hi'
    · refine wpAny_pyNext_range_end hh hr (by omega) fun h' he => h2 ?_ h' he
      show ((List.range n).map _)[i]? = none
      rw [List.getElem?_eq_none_iff]; simp; omega
noncomputable abbrev Itx := Vars → Sto → (It → Sto → Prop) → (X → Sto → Prop) → Prop
noncomputable def IC (C : Ct) (frs : List Env) (μ : List Addr) (s : Shared) (Q : It → Sto → Prop) (PQ : Value → Shared → Prop) : Prop :=
  ∀ d it σ' μ' s', s.heap.get? it = none → Le (fa frs) [] μ s.heap μ' s'.heap → Inv C frs μ' σ' s' → ItR μ' s'.heap it d 0 → Q d σ' → PQ (.ref it) s'
structure SoundI (k : Nat) (hd : Mo) (sc : Scope) (e : Expr) (f : Itx) : Prop where
  run : ∀ (C : Ct) (_ : COk C) (A : Around) (frs : List Env) (_ : AOk C A frs k hd) (env : Env) (vars : Vars) (μ : List Addr) (σ : Sto) (s : Shared)
    (_ : EnvR C env sc vars μ s.heap) (_ : Inv C frs μ σ s) (Q : It → Sto → Prop) (E : X → Sto → Prop) (PQ : Value → Shared → Prop) (PE : Value → Shared → Prop),
    f vars σ Q E → IC C frs μ s Q PQ → EC C frs μ s E PE → wpAny (Md C) A (eval e env) (fun x s₁ => wpAny (Md C) A (pyIter x) PQ PE s₁) PE s
noncomputable def ofLst (f : Ex) : Itx := fun vars σ Q E => f vars σ (fun v σ => ∃ l all, v = .lst l ∧ σ[l]? = some (.list all) ∧ Q (.lst l all) σ) E
theorem i_lst {e f} (he : SoundE k hd sc e f) : SoundI k hd sc e (ofLst f) := .mk fun C hC A frs hA env vars μ σ s R I Q E PQ PE hf hQ hE =>
  he.run C hC A frs hA env vars μ σ s R I _ _ _ _ hf (fun V v σ' μ' s' l I' r hq => by
    obtain ⟨i, all, rfl, hc, hq⟩ := hq
    cases r with
    | @lst _ la ha =>
      obtain ⟨xi, n, hl, hv⟩ := I'.isL ha hc
      refine wpAny_pyIter_list hl.isList ?_
      have kp := push_keeps s'.heap { cls := .type "list_iterator", data := .fields #[.ref la, .int 0 0] }
      exact hQ (.lst i all) _ _ _ _ (l.none (fresh_size _)) (l.trans (.of_keeps kp)) (I'.keeps kp) ⟨_, ha, _, Heap.get?_push_size _ rfl, rfl, rfl⟩ hq) hE
noncomputable def forC (chk : Sto → Prop) (x : String) (b : Sx) : List V → Sx
  | [] => fun st Q _ => chk st.sto ∧ Q .next st
  | v :: r => fun st Q E => chk st.sto ∧ b { st with vars := upd st.vars x (.v v) } (fun fl st' => match fl with
      | .next => forC chk x b r st' Q E
      | .cont => forC chk x b r st' Q E
      | .brk => Q .next st'
      | .ret w => Q (.ret w) st') E
noncomputable def forS (x : String) (it : Itx) (b : Sx) : Sx := fun st Q E => it st.vars st.sto (fun d σ => forC d.chk x b d.items { st with sto := σ } Q E) (exE st E)
inductive ForI (C : Ct) (env : Env) (sc : Scope) (frs : List Env) (μ : List Addr) (h : Heap) (ia : Addr) (d : It) (x : String) (fb : Sx) (Q : Fl → St → Prop) (E : X → St → Prop) (n : Nat) (s' : Shared) : Prop
  | mk (st' : St) (μ' : List Addr) (i : Nat) (l : Le (fa frs) (own env) μ h μ' s'.heap) (F : FI C env sc frs μ' st' s') (r : ItR μ' s'.heap ia d i) (hq : forC d.chk x fb (d.items.drop i) st' Q E) (hi : i ≤ d.items.length) (hn : n = d.items.length - i)
theorem s_for {x it b p pos fi fb} (hi : SoundI k .pl sc it fi) (hb : SoundSs k .pl sc b fb) (hx : stK sc x = true) (hs : ∀ env x, foldedSetIterable it env x = pure x := by intro _ _; rfl) :
    SoundS k .pl sc (.For (.Name (Str.ofString x) p) it b [] pos) (forS x fi fb) := .mk fun C hC A frs hA env μ st s F Q E PQ PE hf hQ hE => by
  refine wpAny_For (hi.run C hC A frs hA env st.vars μ st.sto s F.R F.I _ _ _ _ hf (fun d ia σ1 μ1 s1 hfr l1 I1 r1 hq => ?_) (hE.ex F)) (hs env)
  refine codeAny_forLoop (ForI C env sc frs μ s.heap ia d x fb Q E) ?_ (d.items.length) ⟨_, μ1, 0, l1.ex, F.step l1 I1, r1, hq, Nat.zero_le _, rfl⟩
  rintro n s' ⟨st', μ', i, l, F', r', hq', hil, hn⟩
  have hX := r'.xok hfr
  have hE' := (hE.passes (A := A) (A' := A) hA.frames F).after l
  have hk : d.chk st'.sto := by
    cases hdr : d.items.drop i with
    | nil => rw [hdr] at hq'; exact hq'.1
    | cons v r => rw [hdr] at hq'; exact hq'.1
  refine next_run (hA.han rfl) F'.I r' hk (fun v xv h' t hv ht hs' r2 rv => ?_) (fun hv h' he => ?_)
  · obtain ⟨hlt, hv⟩ := List.getElem?_eq_some_iff.mp hv
    have hdr : d.items.drop i = v :: d.items.drop (i + 1) := by rw [List.drop_eq_getElem_cons hlt, hv]
    have hlt2 : d.items.length - (i + 1) < n := by rw [hn]; omega
    rw [hdr] at hq'
    have nr : Near (fa frs) [ia] s'.heap h' := .of_ext (.head _) hs'.extBut
    have F2 : FI C env sc frs μ' st' { s' with heap := h', toks := t } := F'.near hX F.I.olds nr rfl rfl ht
    have l2 : Le (fa frs) (own env) μ s.heap μ' h' := l.near (fun b hb => (hX b hb).1) nr (nr.tabK F'.I hX)
    have hEb : XC C env sc frs μ' { s' with heap := h', toks := t } E (notedBy (Md C) A env (cameBackBy (Md C) A env PE)) := (hE.passes (A := A) (A' := A) hA.frames F).after l2
    refine wpAny_assign_Name (store_run F2 hx (.v (rv.mono' (hX.tupK nr fun a o => F'.I.notFa) fun _ _ e => e)) fun s3 l3 F3 => ?_)
    refine hb.run C hC A frs hA env μ' _ s3 F3 _ _ _ _ hq'.2 (fun fl flow st4 μ4 s4 l4 F4 r4 hq4 => ?_) (hEb.after l3)
    have l5 := l2.trans (l3.trans l4)
    have r5 := (r2.mono F2.I F2.ook l3).mono F3.I F3.ook l4
    cases r4 with
    | next => exact ⟨_, hlt2, st4, μ4, i + 1, l5, F4, r5, hq4, hlt, rfl⟩
    | cont => exact ⟨_, hlt2, st4, μ4, i + 1, l5, F4, r5, hq4, hlt, rfl⟩
    | brk => exact hQ _ _ _ _ _ l5 F4 .next hq4
    | ret r => exact hQ _ _ _ _ _ l5 F4 (.ret r) hq4
  · rw [List.drop_eq_nil_iff.mpr (List.getElem?_eq_none_iff.mp hv)] at hq'
    have nr : Near (fa frs) [ia] s'.heap h' := .of_ext (.head _) he
    exact wpAny_execs_nil (hQ _ _ _ _ _ (l.near (fun b hb => (hX b hb).1) nr (nr.tabK F'.I hX)) (F'.near (s' := { s' with heap := h' }) hX F.I.olds nr) .next hq'.2)
end
end Mine

namespace Mine
section
variable {k : Nat} {hd : Mo} {sc : Scope}
noncomputable def raiseErr (f : Exs) : Sx := fun st Q E => f st.vars st.sto (fun vs σ => vs.length ≤ lim ∧ E .err { st with sto := σ }) (exE st E)
theorem s_raise {e rest np cpos pos f} (he : SoundEs k .pl sc (e :: rest) f) (hx : gl sc "error_reply" = true)
    (hs' : notStar e = true := by rfl) (hplain : ∀ env, (backTo cpos (starEach rest env)).any (·.1) = false := by intro; rfl) :
    SoundS k .pl sc (.Raise (some (.Call (.Name (Str.ofString "error_reply") np) (e :: rest) [] cpos)) none pos) (raiseErr f) := .mk fun C hC A frs hA env μ st s F Q E PQ PE hf hQ hE => by
  have hs := star_eq (rest := rest) hs'
  refine hide fun H out => ?_
  obtain ⟨Cx, O⟩ := hC.err
  have FB := PySem.F.excBase_Exception
  obtain ⟨tl, N, nm, q, bs, hdct, sn, sub, ab, col, dd, k0, k1, k2, k3, k5, mN, hCx, hN, hni, T⟩ := O.own.obj
  refine out (wpAny_Raise_call_subT (C := Cx) (nm := nm) (q := q) (N := N) (bs := bs) (bm := tl) (hdct := hdct) (sn := sn) (sub := sub) (ab := ab) (col := col) (dd := dd) (k0 := k0) (k1 := k1) (k2 := k2) (k3 := k3) (k5 := k5)
    FB (mN := mN) (T.hasType FB.hasBase) (hA.han rfl) (by rw [hs]; show (false || (backTo cpos (starEach rest env)).any (·.1)) = false; rw [hplain]; rfl) hni (name_glob hC F.I F.R hx O.bound ⟨rfl, ?_⟩))
  have := he.run C hC A frs hA env cpos st.vars μ st.sto s F.R F.I _ _ (fun vs s₂ => vs.length ≤ sizeLine ∧ (∀ b o, C.base.get? b = some o → s₂.heap.get? b = some o) ∧ ∀ h' e, Heap.MadeExcOf s₂.heap h' e (.ref Cx) vs → PE (.ref e) { s₂ with heap := h' }) PE hf
    (fun Vs vs σ' μ' s' l I' r hq => ⟨by rw [r.length]; exact Nat.le_trans hq.1 lim_le, I'.base, fun h' e hm => ?_⟩) (hE.ex F)
  · rw [hs] at this ⊢
    exact Calls.evalArgs_plain (wpAny_mono this (fun vs s₂ h₂ => ⟨rfl, h₂.1, h₂.2.1 _ _ hCx, hN.keeps h₂.2.1, T.keeps h₂.2.1, h₂.2.2⟩) fun _ _ y => y)
  · have F' := F.step l I'
    have F2 : FI C env sc frs μ' { st with sto := σ' } { s' with heap := h' } := F'.step (.of_keeps hm.keeps) (I'.keeps hm.keeps)
    refine hE _ _ _ _ _ (l.trans (.of_keeps hm.keeps)).ex F2 ?_ hq.2
    obtain ⟨t, h1, _, _⟩ := hm.there
    exact ⟨e, _, _, rfl, l.none hm.new, h1, ⟨O.bound, by simp [OC]⟩, rfl, by simp, fun _ => rfl, .inl rfl⟩
theorem AOk.mark {C A frs v} (h : AOk C A frs k hd) : AOk C (A.mark v) frs k .any := ⟨h.frames, h.depth, h.units, (fun q => nomatch q), (fun q => nomatch q)⟩
theorem ExcT.mono {C : Ct} {frs O μ σ s μ' h' h₀ e x} (y : ExcT C h₀ s.heap e x) (I : Inv C frs μ σ s) (ko : OOk C O s.heap) (l : Le (fa frs) O μ s.heap μ' h') : ExcT C h₀ h' e x := by
  have kp : ∀ a o vs, s.heap.get? a = some o → o.data = .fields vs → OC o.cls → h'.get? a = some o := fun a o vs h1 h2 h4 =>
    (l.keep _ _ h1 (I.neT h1 (.inl h4.2.1)) (I.notMuD h1 (by simp [h2]) (by simp [h2])) (ko.notin h1 (by simp [h2]) (by simp [h2]))).1 (I.notFa h1 (by simp [h2]))
  obtain ⟨a, oe, vs, T, oT, ts, h1, h2, h3, h4, h5, h6, h7, h8, h9, h10, h11, h12, h13, h14⟩ := y
  exact ⟨a, oe, vs, T, oT, ts, h1, h2, kp _ _ _ h3 h5 h4.2, h4, h5, h6, h7, h8, h9, h10, kp _ _ _ h11 h13 (by rw [h12]; simp [OC]), h12, h13, h14⟩
noncomputable def catches (x₀ x : X) : Prop := x = x₀ ∨ (x₀ = .idx ∧ x = .idxc)
noncomputable def tryX (x₀ : X) (b h : Sx) : Sx := fun st Q E => b st Q (fun x st => catches x₀ x ∧ h st Q (fun _ _ => False))
noncomputable def tyOf : X → String
  | .idx => "IndexError"
  | .val => "ValueError"
  | _ => ""
theorem s_try {x₀ : X} {np hpos pos body b₀ suite fb fh} (hn : x₀ = .idx ∨ x₀ = .val) (hb : SoundSs k .pl sc body fb) (hh : SoundSs k .any sc (b₀ :: suite) fh) (hx : gl sc (tyOf x₀) = true) (hbl : bltF (tyOf x₀) (.type (tyOf x₀))) :
    SoundS k .pl sc (.Try body [.ExceptHandler (some (.Name (Str.ofString (tyOf x₀)) np)) none (b₀ :: suite) hpos] [] [] pos) (tryX x₀ fb fh) := .mk fun C hC A frs hA env μ st s F Q E PQ PE hf hQ hE => by
  refine wpAny_Try_except (hb.run C hC A frs hA env μ st s F _ _ _ _ hf (fun fl flow st' μ' s' l F' r hq => ?_) (fun x e st' μ' s' l F' y hq => ?_))
  · cases r with
    | next => exact wpAny_execs_nil (hQ _ _ _ _ _ l F' .next hq)
    | brk => exact hQ _ _ _ _ _ l F' .brk hq
    | cont => exact hQ _ _ _ _ _ l F' .cont hq
    | ret r => exact hQ _ _ _ _ _ l F' (.ret r) hq
  · obtain ⟨hct, hq⟩ := hq
    refine noted_run hA.frames F' F.I l y fun h1 l1 F1 y1 => ?_
    refine flight_run (s := { s' with heap := h1 }) F1 F.I l1 y1 fun h2 l2 F2 y2 => ?_
    obtain ⟨a, oe, vs, T, oT, ts, rfl, q2, q3, q4, _⟩ := id y2
    have hcl : oe.cls = .type (tyOf x₀) := by
      rcases hct with rfl | ⟨rfl, rfl⟩
      · rcases hn with rfl | rfl <;> exact q4.1
      · exact q4.1
    have hexc : isSubtype (.type (tyOf x₀)) (.type "BaseException") = pure true := by
      rcases hn with rfl | rfl <;> exact isSubtype_of_subB (by decide +kernel)
    have hnt : isSubtype (.type ((Manifest.find? (tyOf x₀)).elim "type" fun y => y.metatype)) (.type "tuple") = pure false := by
      rcases hn with rfl | rfl <;> exact isSubtype_of_subB (by decide +kernel)
    have hsub : isSubtype (.type (tyOf x₀)) (.type (tyOf x₀)) = pure true := by
      rcases hn with rfl | rfl <;> exact isSubtype_of_subB (by decide +kernel)
    refine wpAny_handleBy_builtin (X := tyOf x₀) (T := tyOf x₀) (b := true) hexc hnt hsub (name_blt hC F2.I F2.R hx (hbl C hC).1 (hbl C hC).2 ⟨rfl, ⟨_, q3, hcl⟩, ?_⟩)
    rw [if_pos rfl]
    refine flight_run (s := { s' with heap := h2 }) F2 F.I l2 y2 fun h3 l3 F3 y3 => ?_
    exact hh.run C hC _ frs hA.mark env μ' _ _ F3 _ _ _ _ hq (hQ.after l3) (fun _ _ _ _ _ _ _ _ hq => hq.elim)
theorem s_tryErr {np hpos pos body b₀ suite fb fh} (hb : SoundSs k .pl sc body fb) (hh : SoundSs k .any sc (b₀ :: suite) fh) (hx : gl sc "error_reply" = true) :
    SoundS k .pl sc (.Try body [.ExceptHandler (some (.Name (Str.ofString "error_reply") np)) none (b₀ :: suite) hpos] [] [] pos) (tryX .err fb fh) := .mk fun C hC A frs hA env μ st s F Q E PQ PE hf hQ hE => by
  refine wpAny_Try_except (hb.run C hC A frs hA env μ st s F _ _ _ _ hf (fun fl flow st' μ' s' l F' r hq => ?_) (fun x e st' μ' s' l F' y hq => ?_))
  · cases r with
    | next => exact wpAny_execs_nil (hQ _ _ _ _ _ l F' .next hq)
    | brk => exact hQ _ _ _ _ _ l F' .brk hq
    | cont => exact hQ _ _ _ _ _ l F' .cont hq
    | ret r => exact hQ _ _ _ _ _ l F' (.ret r) hq
  · obtain ⟨hct, hq⟩ := hq
    obtain rfl : x = .err := hct.elim id fun q => nomatch q.1
    refine noted_run hA.frames F' F.I l y fun h1 l1 F1 y1 => ?_
    refine flight_run (s := { s' with heap := h1 }) F1 F.I l1 y1 fun h2 l2 F2 y2 => ?_
    refine hide fun H out => ?_
    obtain ⟨a, oe, vs, T, oT, ts, rfl, q2, q3, q4, _⟩ := id y2
    obtain ⟨Cx, O⟩ := hC.err
    obtain ⟨bm, N, nm, q, bs, hdct, sn, sub, ab, col, dd, k0, k1, k2, k3, k5, mN, hCx, hN, hqn, Tl⟩ := O.obj
    have hcl : oe.cls = .ref Cx := by
      have h1 : C.mg (Str.ofString "error_reply") = some oe.cls := q4.1
      rw [O.bound] at h1; exact (Option.some.inj h1).symm
    refine out (wpAny_handleBy_cons (codeAny_handlers_test (name_glob hC F2.I F2.R hx O.bound (wpAny_excMatches_sub_self (F2.I.base _ _ hCx) q3 hcl (Tl.tail.hasType PySem.F.excBase_Exception.hasBase) (codeAny_handlers_suite (flight_run (s := { s' with heap := h2 }) F2 F.I l2 y2 fun h3 l3 F3 y3 => ?_))))) (by intro q; cases q))
    exact hh.run C hC _ frs hA.mark env μ' _ _ F3 _ _ _ _ hq (hQ.after l3) (fun _ _ _ _ _ _ _ _ hq => hq.elim)
end
end Mine

namespace Mine
section
variable {k : Nat} {hd : Mo} {sc : Scope}
noncomputable def Ct.wx (C : Ct) (l : List Addr) : Ct := { C with exs := l }
theorem COk.wx {C : Ct} (h : COk C) (l : List Addr) : COk (C.wx l) := ⟨h.g, h.b, h.nolimit, h.bnt, h.names, h.fns, h.err, h.bmain, h.code, h.codeOf, h.pat, h.map⟩
theorem Inv.wx {C : Ct} {frs μ σ s} (I : Inv C frs μ σ s) (l : List Addr) (h : ∀ a ∈ l, HanOk C.base s.heap a) : Inv (C.wx l) frs μ σ s :=
  { base := I.base, bmu := I.bmu, bnt := I.bnt, tab := I.tab, len := I.len, nd := I.nd, cells := I.cells, fr := I.fr, gens := I.gens, os := I.os, tk := I.tk, han := h }
theorem EnvR.wx {C : Ct} {env vars μ h} (R : EnvR C env sc vars μ h) (l : List Addr) : EnvR (C.wx l) env sc vars μ h := ⟨R.hsc, R.kind, R.glob, R.blt, R.ns, R.vars⟩
theorem FI.wx {C : Ct} {env frs μ st s} (F : FI C env sc frs μ st s) (l : List Addr) (h : ∀ a ∈ l, HanOk C.base s.heap a) : FI (C.wx l) env sc frs μ st s :=
  ⟨F.R.wx l, ⟨F.O.top, F.O.frame, F.O.lbase, F.O.cells, F.O.apart, F.O.has⟩, F.I.wx l h⟩
theorem FI.unwx {C : Ct} {env frs μ st s l} (F : FI (C.wx l) env sc frs μ st s) (h : ∀ a ∈ C.exs, a ∈ l) : FI C env sc frs μ st s :=
  ⟨⟨F.R.hsc, F.R.kind, F.R.glob, F.R.blt, F.R.ns, F.R.vars⟩, ⟨F.O.top, F.O.frame, F.O.lbase, F.O.cells, F.O.apart, F.O.has⟩,
    { base := F.I.base, bmu := F.I.bmu, bnt := F.I.bnt, tab := F.I.tab, len := F.I.len, nd := F.I.nd, cells := F.I.cells, fr := F.I.fr, gens := F.I.gens, os := F.I.os, tk := F.I.tk, han := fun a ha => F.I.han a (h a ha) }⟩
theorem FI.ofC {C : Ct} {env frs μ st s l} (F : FI (C.wx l) env sc frs μ st s) (h : ∀ a ∈ C.exs, a ∈ l) : FI C env sc frs μ st s := F.unwx h
theorem passOn_run {C : Ct} {A env frs μ st s μ₀ σ₀ s₀ e x} {α : Type} {what : String} {Q : α → Shared → Prop} {PE : Value → Shared → Prop} (F : FI C env sc frs μ st s) (I₀ : Inv C frs μ₀ σ₀ s₀) (l₀ : Le (fa frs) (own env) μ₀ s₀.heap μ s.heap)
    (y : ExcT C s₀.heap s.heap e x)
    (h : ∀ h', Le (fa frs) (own env) μ₀ s₀.heap μ h' → FI C env sc frs μ st { s with heap := h' } → ExcT C s₀.heap h' e x → PE e { s with heap := h' }) :
    wpAny (Md C) A (PySem.passOn what e env) Q PE s := by
  obtain ⟨a, oe, vs, T, oT, ts, rfl, h0, ha, hc, hdt, hz, h2, h1, hT0, hTa, hT, hTc, hTd, hTz⟩ := id y
  unfold PySem.passOn
  refine wpAny_bind (wpAny_field ha hdt h1 ?_)
  rw [if_neg (show ¬ ((Value.ref T == Value.none) = true) from by simp)]
  have st2 := wpAny_bind (flight_run (A := A) (fr := env.frame) (Q := fun _ s'' => wpAny (Md C) A (throw (Value.ref a) : Sem α) Q PE s'') (E := PE) F I₀ l₀ y fun h' l' F' y' => wpAny_throw (h h' l' F' y'))
  first | exact wpAny_bind (wpAny_pure st2) | exact st2
noncomputable def tryF (b f f' : Sx) : Sx := fun st Q E =>
  b st (fun fl st => f st (fun fl' st' => fl' = .next ∧ Q fl st') E) (fun x st => x ≠ .idxc ∧ f' st (fun fl' st' => fl' = .next ∧ E x st') E)
theorem s_fin {body f0 fs pos fb ff ff'} (hb : SoundSs k .pl sc body fb) (hf1 : SoundSs k .pl sc (f0 :: fs) ff) (hf2 : SoundSs k .fin sc (f0 :: fs) ff') :
    SoundS k .pl sc (.Try body [] [] (f0 :: fs) pos) (tryF fb ff ff') := .mk fun C hC A frs hA env μ st s F Q E PQ PE hf hQ hE => by
  have fin : ∀ fl flow st' μ' s', Le (fa frs) (own env) μ s.heap μ' s'.heap → FI C env sc frs μ' st' s' → FlR C.base μ' s'.heap fl flow → ff st' (fun fl' st' => fl' = .next ∧ Q fl st') E →
      wpAny (Md C) A (execs (f0 :: fs) env) (fun g s' => match g with | .next => PQ flow s' | g => PQ g s') (notedBy (Md C) A env (cameBackBy (Md C) A env PE)) s' := fun fl flow st' μ' s' l F' r hq =>
    hf1.run C hC A frs hA env μ' st' s' F' _ _ _ _ hq (fun fl' flow' st2 μ2 s2 l2 F2 r2 hq2 => by
      obtain ⟨rfl, hq2⟩ := hq2
      cases r2
      refine hQ _ _ _ _ _ (l.trans l2) F2 ?_ hq2
      cases r with
      | next => exact .next
      | brk => exact .brk
      | cont => exact .cont
      | ret r => exact .ret (r.mono F'.I F'.ook l2)) ((hE.passes hA.frames F).after l)
  refine wpAny_Try_finally (hb.run C hC A frs hA env μ st s F _ _ _ _ hf (fun fl flow st' μ' s' l F' r hq => ?_) (fun x e st' μ' s' l F' y hq => ?_))
  · cases r with
    | next => exact wpAny_execs_nil (fin _ _ _ _ _ l F' .next hq)
    | brk => exact fin _ _ _ _ _ l F' .brk hq
    | cont => exact fin _ _ _ _ _ l F' .cont hq
    | ret r => exact fin _ _ _ _ _ l F' (.ret r) hq
  · obtain ⟨hx, hq⟩ := hq
    refine noted_run hA.frames F' F.I l y fun h1 l1 F1 y1 => ?_
    have hnb : e ≠ byPass := by obtain ⟨a, _, _, _, _, _, rfl, _⟩ := y1; exact ref_ne_byPass a
    refine ⟨hnb, noted_run (s := { s' with heap := h1 }) hA.frames F1 F.I l1 y1.ex fun h2 l2 F2 y2 => ?_⟩
    refine flight_run (s := { s' with heap := h2 }) F2 F.I l2 y2 fun h3 l3 F3 y3 => ?_
    refine hide fun H out => ?_
    obtain ⟨a, oe, vs, T, oT, ts, rfl, q2, q3, q4, q5, q6, q7, _⟩ := id y3
    have hbn : C.base.get? a = none := by
      cases hq : C.base.get? a with
      | none => rfl
      | some o => have := F.I.base _ _ hq; rw [q2] at this; cases this
    have hl : ∀ b ∈ a :: C.exs, HanOk C.base h3 b := fun b hb => by
      rcases List.mem_cons.mp hb with rfl | hb
      · exact ⟨hbn, oe, vs, q3, q5, q7 hx, q4.2⟩
      · exact F3.I.han b hb
    have F4 : FI (C.wx (a :: C.exs)) env sc frs μ' st' { s' with heap := h3 } := F3.wx _ hl
    have hA' : AOk (C.wx (a :: C.exs)) (A.mark (some (.ref a))) frs k .fin := ⟨hA.frames, hA.depth, hA.units, (fun q => nomatch q), fun _ => ⟨a, .head _, rfl⟩⟩
    refine out (hf2.run _ (hC.wx _) _ frs hA' env μ' st' _ F4 _ _ _ _ hq (fun fl' flow' st5 μ5 s5 l5 F5 r5 hq5 => ?_) (fun x5 e5 st5 μ5 s5 l5 F5 y5 hq5 => ?_))
    · obtain ⟨rfl, hq5⟩ := hq5
      cases r5
      have F6 : FI C env sc frs μ5 st5 s5 := F5.ofC fun b hb => .tail _ hb
      exact passOn_run F6 F.I (l3.trans l5) (y3.mono F3.I F3.ook l5) fun h6 l6 F7 y7 => hE _ _ _ _ _ l6 F7 y7.ex hq5
    · have F6 : FI C env sc frs μ5 st5 s5 := F5.ofC fun b hb => .tail _ hb
      have y6 : ExcIn C s.heap s5.heap e5 x5 := ExcIn.older (C := C) l3 y5
      exact passes_run (A' := A.mark (some (.ref a))) hA.frames F6 F.I (l3.trans l5) y6 fun h6 l6 F7 y7 => hE _ _ _ _ _ l6 F7 y7.ex hq5
end
end Mine

namespace Mine
section
variable {k : Nat} {hd : Mo} {sc : Scope}
noncomputable def pairOf (U : V) (σ : Sto) (a b : V) : Prop := U = .tup [a, b] ∨ ∃ i, U = .lst i ∧ σ[i]? = some (.list [a, b])
theorem unpack2_list {prog : Program} {w : World} {A : Around} {s : Shared} {E : Value → Shared → Prop} {l : Addr} {x y : Value} {Q : List Value → Shared → Prop} (hh : A.handled = none) (hl : s.heap.IsList l #[x, y])
    (hQ : ∀ h', (∀ b o, s.heap.get? b = some o → h'.get? b = some o) → Q [x, y] { s with heap := h' }) : wpAny (model prog w) A (unpackItems (.ref l) 2 none) Q E s := by
  unfold unpackItems notIterableAtAll
  refine wpAny_bind ?_
  refine wpAny_bind (wpAny_specialOf hl.typeIs slot_list_iter.lookup ?_)
  refine wpAny_pure ?_
  simp only [Bool.false_eq_true, if_false]
  refine wpAny_bind (wpAny_holding (wpAny_pyIter_list hl ?_))
  have hne : ∀ b o, s.heap.get? b = some o → b ≠ s.heap.objs.size := fun b o h => Nat.ne_of_lt (Heap.lt_size h)
  have hlne : l ≠ s.heap.objs.size := by obtain ⟨o, ho, _⟩ := hl; exact hne _ _ ho
  have hit0 : (s.heap.push { cls := .type "list_iterator", data := .fields #[.ref l, .int 0 0] }).IsListIter s.heap.objs.size l 0 := ⟨_, Heap.get?_push_size _ rfl, rfl, rfl⟩
  refine wpAny_bind (wpAny_holding ?_)
  show wpAny _ _ (pyNext (.ref s.heap.objs.size) >>= _) _ _ _
  refine wpAny_bind (wpAny_pyNext_list_item hit0 (hl.push _) (x := x) rfl fun h1 hit1 hs1 => ?_)
  have hl1 : h1.IsList l #[x, y] := (hl.push _).extBut hs1.extBut hlne
  refine wpAny_bind (wpAny_holding ?_)
  show wpAny _ _ (pyNext (.ref s.heap.objs.size) >>= _) _ _ _
  refine wpAny_bind (wpAny_pyNext_list_item (s := { s with heap := h1 }) hit1 hl1 (x := y) rfl fun h2 hit2 hs2 => ?_)
  have hl2 : h2.IsList l #[x, y] := hl1.extBut hs2.extBut hlne
  refine wpAny_bind (wpAny_holding (show wpAny _ _ (pure []) _ _ _ from wpAny_pure (wpAny_pure (wpAny_pure ?_))))
  simp only [List.length_cons, List.length_nil, Nat.lt_irrefl, if_false, Nat.zero_add, Nat.reduceAdd]
  refine wpAny_bind (wpAny_holding (wpAny_pyNext_list_end (s := { s with heap := h2 }) hh hit2 hl2 rfl fun h3 he => ?_))
  simp only [Option.isSome_none, Bool.false_eq_true, if_false]
  refine wpAny_pure (hQ h3 fun b o hb => ?_)
  have n := hne b o hb
  exact he b o n (hs2.extBut b o n (hs1.extBut b o n (Heap.get?_push_of_some _ hb)))
theorem unpack2_run {C A frs μ σ s U u a b} {Q : List Value → Shared → Prop} {E} (hh : A.handled = none) (I : Inv C frs μ σ s) (r : VR C.base μ s.heap U u) (hp : pairOf U σ a b)
    (hQ : ∀ x y h', (∀ b o, s.heap.get? b = some o → h'.get? b = some o) → VR C.base μ h' a x → VR C.base μ h' b y → Q [x, y] { s with heap := h' }) : wpAny (Md C) A (unpackItems u 2 none) Q E s := by
  have fin : ∀ x y h', (∀ b o, s.heap.get? b = some o → h'.get? b = some o) → VR C.base μ s.heap a x → VR C.base μ s.heap b y → Q [x, y] { s with heap := h' } := fun x y h' k r1 r2 =>
    hQ x y h' k (r1.mono I .nil (.of_keeps k)) (r2.mono I .nil (.of_keeps k))
  rcases hp with rfl | ⟨i, rfl, hc⟩
  · cases r with
    | @tup t items _ n ht hv =>
      cases hv with
      | cons r1 hv => cases hv with
        | cons r2 hv => cases hv with
          | nil =>
            exact unpackItems_tuple (items := #[_, _]) hh ⟨_, ht, rfl, _, rfl⟩ fun h' he => fin _ _ h' (fun b o hb => he b o (Nat.ne_of_lt (Heap.lt_size hb)) hb) r1 r2
  · cases r with
    | lst e =>
      obtain ⟨xi, n1, hl, hv⟩ := I.isL e hc
      cases hv with
      | cons r1 hv => cases hv with
        | cons r2 hv => cases hv with
          | nil => exact unpack2_list hh hl.isList fun h' k => fin _ _ h' k r1 r2
noncomputable def asnP (x y : String) (f : Ex) : Sx := fun st Q E => f st.vars st.sto (fun v σ => ∃ a b, pairOf v σ a b ∧ Q .next ⟨upd (upd st.vars x (.v a)) y (.v b), σ⟩) (exE st E)
noncomputable def asnSw (x y : String) (f : Ex) : Sx := fun st Q E => f st.vars st.sto (fun v σ => ∃ a b, pairOf v σ a b ∧ Q .next ⟨upd (upd st.vars y (.v b)) x (.v a), σ⟩) (exE st E)
theorem s_asnSw {x y e p1 p2 n tp pos f} (he : SoundE k .pl sc e f) (hx : stK sc x = true) (hy : stK sc y = true)
    (hs : ∀ env, env.scope = sc → swapsWithSole [.Tuple [.Name (Str.ofString x) p1, .Name (Str.ofString y) p2] n tp] e pos.line env = pure false := by intro _ _; rfl)
    (hw : ∀ env, env.scope = sc → swappedStores [.Tuple [.Name (Str.ofString x) p1, .Name (Str.ofString y) p2] n tp] e env = pure (some [Str.ofString x, Str.ofString y]) := by intro env h; cases env; cases h; rfl) :
    SoundS k .pl sc (.Assign [.Tuple [.Name (Str.ofString x) p1, .Name (Str.ofString y) p2] n tp] e pos) (asnSw x y f) :=
  .mk fun C hC A frs hA env μ st s F Q E PQ PE hf hQ hE => by
    refine Assign_Tuple_swapped (names := [Str.ofString x, Str.ofString y]) (he.run C hC A frs hA env st.vars μ st.sto s F.R F.I _ _ _ _ hf (fun V v σ' μ' s' l I' r hq => ?_) (hE.ex F)) (hs env F.R.hsc) (hw env F.R.hsc)
    obtain ⟨a, b, hp, hq⟩ := hq
    refine unpack2_run (hA.han rfl) I' r hp fun xv yv h' kp r1 r2 => ?_
    have F1 := F.step l I'
    have F2 : FI C env sc frs μ' { st with sto := σ' } { s' with heap := h' } := F1.step (.of_keeps kp) (I'.keeps kp)
    have l2 : Le (fa frs) (own env) μ s.heap μ' h' := (l.trans (.of_keeps kp)).ex
    show wpAny (Md C) A (do holding [xv] (bindName env (Str.ofString y) yv); assignInOrder [bindName env (Str.ofString x)] [xv]) _ _ _
    refine wpAny_bind (wpAny_holding (wpAny_bindName (store_run F2 hy (.v r2) fun s3 l3 F3 => ?_)))
    show wpAny (Md C) A (do holding [] (bindName env (Str.ofString x) xv); assignInOrder [] []) _ _ _
    refine wpAny_bind (wpAny_holding (wpAny_bindName (store_run F3 hx (.v (r1.mono F2.I F2.ook l3)) fun s4 l4 F4 => ?_)))
    exact wpAny_pure (hQ _ _ _ _ _ (l2.trans (l3.trans l4)) F4 .next hq)
theorem assignP_run {C A frs env μ st s U u a b x y n tp p1 p2} {Q : Unit → Shared → Prop} {E} (hh : A.handled = none) (F : FI C env sc frs μ st s) (hx : stK sc x = true) (hy : stK sc y = true) (r : VR C.base μ s.heap U u) (hp : pairOf U st.sto a b)
    (hQ : ∀ s', Le (fa frs) (own env) μ s.heap μ s'.heap → FI C env sc frs μ { st with vars := upd (upd st.vars x (.v a)) y (.v b) } s' → Q () s') :
    wpAny (Md C) A (assign (.Tuple [.Name (Str.ofString x) p1, .Name (Str.ofString y) p2] n tp) env u) Q E s := by
  rw [arm_assign_Tuple]
  refine wpAny_bind (wpAny_standAt ?_)
  show wpAny (Md C) A (do assignInOrder [assign (.Name (Str.ofString x) p1) env, assign (.Name (Str.ofString y) p2) env] (← holding [u] (unpackItems u 2 none))) _ _ _
  refine wpAny_bind (wpAny_holding (unpack2_run hh F.I r hp fun xv yv h' kp r1 r2 => ?_))
  have F2 : FI C env sc frs μ st { s with heap := h' } := F.step (.of_keeps kp) (F.I.keeps kp)
  show wpAny (Md C) A (do holding [yv] (assign (.Name (Str.ofString x) p1) env xv); assignInOrder [assign (.Name (Str.ofString y) p2) env] [yv]) _ _ _
  refine wpAny_bind (wpAny_holding (wpAny_assign_Name (store_run F2 hx (.v r1) fun s3 l3 F3 => ?_)))
  show wpAny (Md C) A (do holding [] (assign (.Name (Str.ofString y) p2) env yv); assignInOrder [] []) _ _ _
  refine wpAny_bind (wpAny_holding (wpAny_assign_Name (store_run F3 hy (.v (r2.mono F2.I F2.ook l3)) fun s4 l4 F4 => ?_)))
  exact wpAny_pure (hQ _ ((Le.of_keeps kp).trans (l3.trans l4)) F4)
theorem s_asnP {x y e p1 p2 n tp pos f} (he : SoundE k .pl sc e f) (hx : stK sc x = true) (hy : stK sc y = true)
    (hs : ∀ env, swapsWithSole [.Tuple [.Name (Str.ofString x) p1, .Name (Str.ofString y) p2] n tp] e pos.line env = pure false := by intro _; rfl)
    (hw : ∀ env, swappedStores [.Tuple [.Name (Str.ofString x) p1, .Name (Str.ofString y) p2] n tp] e env = pure none := by intro _; rfl) :
    SoundS k .pl sc (.Assign [.Tuple [.Name (Str.ofString x) p1, .Name (Str.ofString y) p2] n tp] e pos) (asnP x y f) :=
  .mk fun C hC A frs hA env μ st s F Q E PQ PE hf hQ hE => by
    refine Assign_Tuple (he.run C hC A frs hA env st.vars μ st.sto s F.R F.I _ _ _ _ hf (fun V v σ' μ' s' l I' r hq => ?_) (hE.ex F)) (hs env) (hw env)
    obtain ⟨a, b, hp, hq⟩ := hq
    exact assignP_run (hA.han rfl) (F.step l I') hx hy r hp fun s2 l2 F2 => hQ _ _ _ _ _ (l.ex.trans l2) F2 .next hq
noncomputable def rng1 (f : Ex) : Itx := fun vars σ Q E => f vars σ (fun v σ => ∃ n : Int, v = .int n ∧ (-(10 ^ 9 : Int) < n ∧ n < 10 ^ 9) ∧ Q (.rng 0 n.toNat) σ) E
noncomputable def rng2 (f g : Ex) : Itx := fun vars σ Q E => f vars σ (fun u σ => g vars σ (fun v σ => ∃ a b : Int, u = .int a ∧ v = .int b ∧ (-(10 ^ 9 : Int) < a ∧ a < 10 ^ 9) ∧ (-(10 ^ 9 : Int) < b ∧ b < 10 ^ 9) ∧ Q (.rng a (b - a).toNat) σ) E) E
theorem range_iter {C A frs μ σ s} {r : Addr} {a b : Int} {t u v : Tok} {Q : It → Sto → Prop} {PQ PE : Value → Shared → Prop} (I : Inv C frs μ σ s) (hr : IsRange s.heap r a b 1 t u v) (ha : -(10 ^ 9 : Int) < a ∧ a < 10 ^ 9) (hb : -(10 ^ 9 : Int) < b ∧ b < 10 ^ 9)
    (hq : Q (.rng a (b - a).toNat) σ) (hQ : IC C frs μ s Q PQ) : wpAny (Md C) A (pyIter (.ref r)) PQ PE s := by
  have p62 : (2 : Int) ^ 62 = 4611686018427387904 := by decide
  have p9 : (10 : Int) ^ 9 = 1000000000 := by decide
  refine wpAny_pyIter_range hr (small_one (by omega) (by omega) (by omega) (by omega)) ?_
  have kp := push_keeps s.heap { cls := .type "range_iterator", data := .fields #[rawInt a, rawInt (Builtin.Range.rangeSize a b 1), rawInt 1] }
  refine hQ (.rng a (b - a).toNat) _ _ _ _ (fresh_size _) (.of_keeps kp) (I.keeps kp) ?_ hq
  have e : Builtin.Range.rangeSize a b 1 = ((b - a).toNat : Int) := by rw [rangeSize_one]; split <;> omega
  rw [e]
  show Heap.get? _ _ = _
  rw [Heap.get?_push_size _ rfl]
  simp
theorem i_rng1 {e : Expr} {p pos : Pos} {f : Ex} (hb : bltF "range" (.type "range")) (hx : gl sc "range" = true) (he : SoundE k hd sc e f) (hs : ∀ env, starEach [e] env = [(false, eval e env)] := by intro; rfl) :
    SoundI k hd sc (.Call (.Name (Str.ofString "range") p) [e] [] pos) (rng1 f) := .mk fun C hC A frs hA env vars μ σ s R I Q E PQ PE hf hQ hE => by
  refine Call_Name1 (name_blt hC I R hx (hb C hC).1 (hb C hC).2 ?_) (hs env)
  refine PyProof.Rows.callWith_type rfl (Calls.evalArgs_plain (Calls.spliced_cons (he.run C hC A frs hA env vars μ σ s R I _ _ _ _ hf (fun U u σ' μ' s' l I' r hq => Calls.spliced_nil ?_) hE)))
  obtain ⟨n, rfl, hn, hq⟩ := hq
  cases r with | int _ t1 => ?_
  refine call_range_1 ?_
  have kp := push_keeps s'.heap { cls := .type "range", data := .fields #[.int 0 s'.toks, .int n t1, .int 1 (s'.toks + 1)] }
  refine range_iter (I'.keeps kp) (Heap.get?_push_size _ rfl) (by decide) hn (by rw [Int.sub_zero]; exact hq) fun d it σ2 μ2 s2 hfr l2 I2 r2 hq2 => ?_
  have l3 : Le (fa frs) [] μ s.heap μ2 s2.heap := l.trans ((Le.of_keeps kp).trans l2)
  exact hQ _ _ _ _ _ ((l.trans (Le.of_keeps kp)).none hfr) l3 I2 r2 hq2
theorem i_rng2 {e e' : Expr} {p pos : Pos} {f f' : Ex} (hb : bltF "range" (.type "range")) (hx : gl sc "range" = true) (he : SoundE k hd sc e f) (he' : SoundE k hd sc e' f') (hs : ∀ env, starEach [e, e'] env = [(false, eval e env), (false, eval e' env)] := by intro; rfl) :
    SoundI k hd sc (.Call (.Name (Str.ofString "range") p) [e, e'] [] pos) (rng2 f f') := .mk fun C hC A frs hA env vars μ σ s R I Q E PQ PE hf hQ hE => by
  refine Call_Name2 (name_blt hC I R hx (hb C hC).1 (hb C hC).2 ?_) (hs env)
  refine PyProof.Rows.callWith_type rfl (Calls.evalArgs_plain (Calls.spliced_cons (two he he' hC hA R I hf (fun U u W w σ' μ' s' l I' R' r1 r2 hq => ?_) hE |> fun h => wpAny_mono h (fun u s1 h1 => Calls.spliced_cons (wpAny_mono h1 (fun w s2 h2 => Calls.spliced_nil h2) fun _ _ x => x)) fun _ _ x => x)))
  obtain ⟨a, b, rfl, rfl, ha, hb', hq⟩ := hq
  cases r1 with | int _ t1 => ?_
  cases r2 with | int _ t2 => ?_
  refine call_range_2 ?_
  have kp := push_keeps s'.heap { cls := .type "range", data := .fields #[.int a t1, .int b t2, .int 1 s'.toks] }
  refine range_iter (I'.keeps kp) (Heap.get?_push_size _ rfl) ha hb' hq fun d it σ2 μ2 s2 hfr l2 I2 r2 hq2 => ?_
  have l3 : Le (fa frs) [] μ s.heap μ2 s2.heap := l.trans ((Le.of_keeps kp).trans l2)
  exact hQ _ _ _ _ _ ((l.trans (Le.of_keeps kp)).none hfr) l3 I2 r2 hq2
end
end Mine

namespace Mine
section
variable {k : Nat} {hd : Mo} {sc : Scope}
structure Off (C : Ct) (frs : List Env) (c : Addr) : Prop where
  base : C.base.get? c = none
  fr : c ∉ fa frs
theorem Off.ook {C frs c h m} (x : Off C frs c) (hn : h.Ns c m) : OOk C [c] h := fun a ha => by
  rw [List.mem_singleton.mp ha]
  obtain ⟨o, es, ep, ho, hd, _⟩ := hn
  exact ⟨x.base, o, ho, .inl ⟨es, ep, hd⟩⟩
theorem ns_ne {h : Heap} {c : Addr} {m} (hn : h.Ns c m) {a : Addr} {o : Obj} (ha : h.get? a = some o) (hd : ∀ es n, o.data ≠ .dict es n) : a ≠ c := fun q => by
  subst q
  obtain ⟨o', es, ep, ho, hd', _⟩ := hn
  rw [ha] at ho; cases ho
  exact hd _ _ hd'
theorem Inv.sameBut {C : Ct} {frs μ σ s c m h'} (I : Inv C frs μ σ s) (x : Off C frs c) (hn : s.heap.Ns c m) (hs : Heap.SameBut c s.heap h') {t : Nat} (ht : s.toks ≤ t) : Inv C frs μ σ { s with heap := h', toks := t } := by
  have kp : ∀ a o, s.heap.get? a = some o → (∀ es n, o.data ≠ .dict es n) → h'.get? a = some o := fun a o ha hd => (hs.2 a (ns_ne hn ha hd)).trans ha
  refine { base := fun b o e => ?_, bmu := I.bmu, bnt := I.bnt, tab := let ⟨ps, e, q⟩ := I.tab; have tk : TabK s.heap h' := .but (let ⟨o, es, ep, ho, hd, _⟩ := hn; ⟨o, ho, by simp [hd]⟩) hs.2; ⟨ps, tk _ _ _ e rfl (.inl rfl), q.mono tk⟩, len := I.len, nd := I.nd, cells := fun i a cc h1 h2 => ?_, fr := fun env' he => ?_, gens := I.gens, os := I.os, tk := Nat.lt_of_lt_of_le I.tk ht, han := fun a ha => ?_ }
  · exact (hs.2 b (by rintro rfl; rw [x.base] at e; cases e)).trans (I.base b o e)
  · cases I.cells i a cc h1 h2 with
    | list p q => exact .list (kp _ _ p (by simp)) (q.mono' (fun _ _ _ r => kp _ _ r (by simp)) fun _ _ e => e)
    | obj p => exact .obj (kp _ _ p (by simp [objO]))
  · obtain ⟨L, o, es, n, e1, e2, e3, e4, e5⟩ := I.fr env' he
    refine ⟨L, o, es, n, e1, e2, (hs.2 L ?_).trans e3, e4, e5⟩
    rintro rfl
    exact x.fr (List.mem_filterMap.mpr ⟨env', he, e1⟩)
  · obtain ⟨hb, o, vs, h1, h2, h3, h4⟩ := I.han a ha
    exact ⟨hb, o, vs, kp _ _ h1 (by simp [h2]), h2, h3, h4⟩
theorem WR.sameBut {B : Heap} {μ : List Addr} {h h' : Heap} {c m w v} (x : WR B μ h w v) (hn : h.Ns c m) (hs : Heap.SameBut c h h') : WR B μ h' w v := by
  have kp : ∀ a o, h.get? a = some o → (∀ es n, o.data ≠ .dict es n) → h'.get? a = some o := fun a o ha hd => (hs.2 a (ns_ne hn ha hd)).trans ha
  cases x with
  | v x => exact .v (x.mono' (fun _ _ _ r => kp _ _ r (by simp)) fun _ _ e => e)
  | app h1 h2 => exact .app h1 (kp _ _ h2 (by simp))
theorem EnvR.sameBut {C : Ct} {env vars μ h h' c m} (R : EnvR C env sc vars μ h) (hc : c ∉ own env) (hn : h.Ns c m) (hs : Heap.SameBut c h h') : EnvR C env sc vars μ h' := by
  have hl : env.locals ≠ c := by rintro rfl; exact hc (.head _)
  refine ⟨R.hsc, R.kind, R.glob, R.blt, let ⟨m, hm⟩ := R.ns; ⟨m, hm.sameBut hs hl⟩, fun x w hw => ?_⟩
  rcases R.vars x w hw with ⟨k1, m, v, h1, h2, h3⟩ | ⟨k1, d, v, h1, h2, h3⟩
  · exact .inl ⟨k1, m, v, h1.sameBut hs hl, h2, h3.sameBut hn hs⟩
  · refine .inr ⟨k1, d, v, h1, h2.sameBut hs ?_, h3.sameBut hn hs⟩
    rintro rfl
    exact hc (.tail _ (List.mem_map.mpr ⟨_, mem_of_lookup h1, rfl⟩))
theorem FI.sameBut {C : Ct} {env frs μ st s c m h'} (F : FI C env sc frs μ st s) (x : Off C frs c) (hc : c ∉ own env) (hn : s.heap.Ns c m) (hs : Heap.SameBut c s.heap h') : FI C env sc frs μ st { s with heap := h' } :=
  ⟨F.R.sameBut hc hn hs, ⟨F.O.top, F.O.frame, F.O.lbase, fun p hp => let ⟨h1, v, h2⟩ := F.O.cells p hp; ⟨h1, v, h2.sameBut hs (by rintro rfl; exact hc (.tail _ (List.mem_map.mpr ⟨p, hp, rfl⟩)))⟩, F.O.apart, F.O.has⟩, F.I.sameBut x hn hs (Nat.le_refl _)⟩
theorem Le.sameBut {F O μ h₀ μ' h h' c} (l : Le F O μ h₀ μ' h) (hc : h₀.get? c = .none) (hs : Heap.SameBut c h h') {m} (hn : h.Ns c m) : Le F O μ h₀ μ' h' := by
  have ne : ∀ b o, h₀.get? b = some o → b ≠ c := fun b o e q => by rw [q, hc] at e; cases e
  have tk : TabK h h' := .but (let ⟨o, es, ep, ho, hd, _⟩ := hn; ⟨o, ho, by simp [hd]⟩) hs.2
  exact ⟨l.ext, fun b o e nt h1 h2 => by
    obtain ⟨k1, sl, k2⟩ := l.keep b o e nt h1 h2
    have e2 := hs.2 b (ne b o e)
    exact ⟨fun hf => e2.trans (k1 hf), sl, e2.trans k2⟩, fun b o e => by
    obtain ⟨o', q⟩ := l.live b o e
    exact ⟨o', (hs.2 b (ne b o e)).trans q⟩, fun ps e q => by
    obtain ⟨ps', e', q'⟩ := l.tab ps e q
    exact ⟨ps', tk _ _ _ e' rfl (.inl rfl), q'.mono tk⟩⟩
theorem Le.off {F μ h₀ μ' h c} (l : Le F [c] μ h₀ μ' h) (hc : h₀.get? c = .none) {O} : Le F O μ h₀ μ' h :=
  l.dropO fun a ha _ => by rw [List.mem_singleton.mp ha]; exact hc
theorem cstore_run {C A frs cenv vs μ σ s} {x : String} {w : Wv} {v : Value} {Q : Unit → Shared → Prop} {E} (R : EnvR C cenv sc vs μ s.heap) (I : Inv C frs μ σ s) (O : Off C frs cenv.locals) (hx : sc.names.lookup (Str.ofString x) = some .local) (hv : WR C.base μ s.heap w v)
    (h : ∀ s', Le (fa frs) [cenv.locals] μ s.heap μ s'.heap → Inv C frs μ σ s' → EnvR C cenv sc (upd vs x w) μ s'.heap → Q () s') : wpAny (Md C) A (storeName cenv (Str.ofString x) v) Q E s := by
  have kf : cenv.scope.kind = .function := by rw [R.hsc]; exact R.kind
  obtain ⟨m0, hm0⟩ := R.ns
  have hk : cenv.kindOf (Str.ofString x) = some .local := by unfold Env.kindOf; rw [R.hsc]; exact hx
  refine wpAny_storeName_local hk hm0 (fun h' hn hs => ?_) (by rw [kf]; rfl)
  obtain ⟨o', es', ep', ho', hd', _⟩ := id hn
  have hne : ∀ a o, s.heap.get? a = some o → (∀ es n, o.data ≠ .dict es n) → a ≠ cenv.locals := fun a o ha hd => ns_ne hm0 ha hd
  have lm : cenv.locals ∉ μ := fun hm => by
    rcases I.mem hm with ⟨items, n, e⟩ | e
    · exact hne _ _ e (by simp) rfl
    · exact hne _ _ e (by simp [objO]) rfl
  have I' : Inv C frs μ σ { s with heap := h', toks := s.toks + 1 } := I.sameBut O hm0 hs (Nat.le_succ _)
  have l : Le (fa frs) [cenv.locals] μ s.heap μ h' := ⟨⟨[], by simp, fun _ e => nomatch e⟩, fun b o e _ _ hO => by
      have : h'.get? b = some o := (hs.2 b (by rintro rfl; exact hO (.head _))).trans e
      exact ⟨fun _ => this, o.slots, this⟩, fun b o e => by
      by_cases q : b = cenv.locals
      · subst q; exact ⟨_, ho'⟩
      · exact ⟨o, (hs.2 b q).trans e⟩, fun ps e q => by
      have tk : TabK s.heap h' := .but (let ⟨o, es, ep, ho, hd, _⟩ := hm0; ⟨o, ho, by simp [hd]⟩) hs.2
      exact ⟨ps, tk _ _ _ e rfl (.inl rfl), q.mono tk⟩⟩
  refine h _ l I' ⟨R.hsc, R.kind, R.glob, R.blt, ⟨_, hn⟩, fun y w' hy => ?_⟩
  change (if y = x then some w else vs y) = some w' at hy
  by_cases hyx : y = x
  · subst hyx
    rw [if_pos rfl] at hy; cases hy
    exact .inl ⟨hk, _, v, hn, if_pos rfl, hv.sameBut hm0 hs⟩
  · rw [if_neg hyx] at hy
    rcases R.vars y w' hy with ⟨k1, m, u, h1, h2, h3⟩ | ⟨k1, c, u, h1, h2, h3⟩
    · have hne : Str.ofString y ≠ Str.ofString x := fun q => hyx (ofString_inj q)
      refine .inl ⟨k1, _, u, hn, ?_, h3.sameBut hm0 hs⟩
      show (if Str.ofString y = Str.ofString x then some v else m0 (Str.ofString y)) = some u
      rw [if_neg hne]
      obtain ⟨o1, es1, ep1, ho1, hd1, _, hm1⟩ := h1
      obtain ⟨o2, es2, ep2, ho2, hd2, _, hm2⟩ := hm0
      rw [ho1] at ho2; cases ho2; rw [hd1] at hd2; cases hd2
      rw [← hm2, hm1]; exact h2
    · refine .inr ⟨k1, c, u, h1, h2.sameBut hs ?_, h3.sameBut hm0 hs⟩
      obtain ⟨o, ho, hd⟩ := h2
      exact hne _ _ ho (by simp [hd])
inductive Tg where
  | one (x : String) | two (x y : String)
noncomputable def Tg.bind : Tg → V → Sto → Vars → (Vars → Prop) → Prop
  | .one x, v, _, vs, K => K (upd vs x (.v v))
  | .two x y, v, σ, vs, K => ∃ a b, pairOf v σ a b ∧ K (upd (upd vs x (.v a)) y (.v b))
inductive TgR : Tg → Expr → Prop
  | one {x p} : TgR (.one x) (.Name (Str.ofString x) p)
  | two {x y p1 p2 n tp} : TgR (.two x y) (.Tuple [.Name (Str.ofString x) p1, .Name (Str.ofString y) p2] n tp)
noncomputable def Tg.ok (sc : Scope) : Tg → Bool
  | .one x => sc.names.lookup (Str.ofString x) == some .local
  | .two x y => sc.names.lookup (Str.ofString x) == some .local && sc.names.lookup (Str.ofString y) == some .local
theorem tg_run {C A frs cenv vs μ σ s} {tg : Tg} {te : Expr} {V : V} {v : Value} {K : Vars → Prop} {Q : Unit → Shared → Prop} {E} (hh : A.handled = none) (R : EnvR C cenv sc vs μ s.heap) (I : Inv C frs μ σ s) (O : Off C frs cenv.locals) (ht : TgR tg te) (hx : tg.ok sc = true) (hv : VR C.base μ s.heap V v)
    (hk : tg.bind V σ vs K) (h : ∀ vs' s', Le (fa frs) [cenv.locals] μ s.heap μ s'.heap → Inv C frs μ σ s' → EnvR C cenv sc vs' μ s'.heap → K vs' → Q () s') : wpAny (Md C) A (assign te cenv v) Q E s := by
  cases ht with
  | one => exact wpAny_assign_Name (cstore_run R I O (eq_of_beq hx) (.v hv) fun s' l I' R' => h _ s' l I' R' hk)
  | two =>
    obtain ⟨a, b, hp, hk⟩ := hk
    unfold Tg.ok at hx
    rw [Bool.and_eq_true] at hx
    rw [arm_assign_Tuple]
    refine wpAny_bind (wpAny_standAt ?_)
    show wpAny (Md C) A (do assignInOrder [assign (.Name (Str.ofString _) _) cenv, assign (.Name (Str.ofString _) _) cenv] (← holding [v] (unpackItems v 2 none))) _ _ _
    refine wpAny_bind (wpAny_holding (unpack2_run hh I hv hp fun xv yv h' kp r1 r2 => ?_))
    have I2 : Inv C frs μ σ { s with heap := h' } := I.keeps kp
    have R2 : EnvR C cenv sc vs μ h' := R.mono I (.of_keeps kp)
    show wpAny (Md C) A (do holding [yv] (assign (.Name (Str.ofString _) _) cenv xv); assignInOrder [assign (.Name (Str.ofString _) _) cenv] [yv]) _ _ _
    refine wpAny_bind (wpAny_holding (wpAny_assign_Name (cstore_run (s := { s with heap := h' }) R2 I2 O (eq_of_beq hx.1) (.v r1) fun s3 l3 I3 R3 => ?_)))
    show wpAny (Md C) A (do holding [] (assign (.Name (Str.ofString _) _) cenv yv); assignInOrder [] []) _ _ _
    obtain ⟨m2, hm2⟩ := R2.ns
    refine wpAny_bind (wpAny_holding (wpAny_assign_Name (cstore_run R3 I3 O (eq_of_beq hx.2) (.v (r2.mono I2 (O.ook hm2) l3)) fun s4 l4 I4 R4 => ?_)))
    exact wpAny_pure (h _ _ ((Le.of_keeps kp).trans (l3.trans l4)) I4 R4 hk)
noncomputable abbrev Gx := Vars → Sto → (Vars → Sto → Prop) → Prop
noncomputable abbrev noE : X → Sto → Prop := fun _ _ => False
noncomputable def compC (chk : Sto → Prop) (tg : Tg) (t : Tx) (g : Gx) : List V → Vars → Sto → (Vars → Sto → Prop) → Prop
  | [], vs, σ, K => chk σ ∧ K vs σ
  | v :: r, vs, σ, K => chk σ ∧ tg.bind v σ vs (fun vs1 => t vs1 σ (fun c σ1 => if c then g vs1 σ1 (fun vs2 σ2 => compC chk tg t g r vs2 σ2 K) else compC chk tg t g r vs1 σ1 K) noE)
noncomputable def ActOk (C : Ct) (A : Around) (frs : List Env) (cenv : Env) (sc : Scope) (j : Nat) (da : Addr) (act : Sem Unit) (g : Gx) : Prop :=
  ∀ (vs : Vars) (μ : List Addr) (σ : Sto) (s : Shared), EnvR C cenv sc vs μ s.heap → Inv C frs μ σ s → μ[j]? = some da → ∀ (K : Vars → Sto → Prop) (PK : Shared → Prop), g vs σ K →
    (∀ vs' σ' μ' s', Le (fa frs) [cenv.locals] μ s.heap μ' s'.heap → Inv C frs μ' σ' s' → EnvR C cenv sc vs' μ' s'.heap → K vs' σ' → PK s') → wpAny (Md C) A act (fun _ => PK) (fun _ _ => False) s
noncomputable def compTurnOf (target iter : Expr) (ifs : List Expr) (it : Value) (env : Env) (act : Sem Unit) (c : Code) : Sem Fin := do
  standAt iter.pos
  match ← pyNext it with
  | none => pure (.done .next)
  | some v =>
    letOwnedTupleGo target it v
    assign target env v
    let mut ok := true
    for c in ifs do
      if ok then ok ← isTrue c env (eval c env)
    if ok then act
    again c
inductive SoundIf (k : Nat) (sc : Scope) : List Expr → Tx → Prop
  | nil : SoundIf k sc [] (tlit true)
  | one {c t} : SoundT k .pl sc c t → SoundIf k sc [c] t
theorem go_run {C : Ct} {A μ s ia d i} {tg : Tg} {target : Expr} {v : Value} {Q : Unit → Shared → Prop} {E} (ht : TgR tg target) (r : ItR μ s.heap ia d i) (h : Q () s) : wpAny (Md C) A (letOwnedTupleGo target (.ref ia) v) Q E s := by
  cases ht with
  | one => exact wpAny_pure h
  | two =>
    cases v with
    | ref a =>
      cases d with
      | lst l all =>
        obtain ⟨la, _, o, ho, hc, hd⟩ := r
        show wpAny _ _ (load ia >>= _) _ _ _
        refine wpAny_bind (wpAny_load ho ?_)
        rw [hc, hd]
        exact wpAny_pure h
      | rng b n =>
        show wpAny _ _ (load ia >>= _) _ _ _
        refine wpAny_bind (wpAny_load r ?_)
        exact wpAny_pure h
    | _ => exact wpAny_pure h
theorem if_run {C : Ct} {A frs cenv vs μ σ s} {ifs : List Expr} {t : Tx} (hif : SoundIf k sc ifs t) (hC : COk C) (hA : AOk C A frs k .pl) (R3 : EnvR C cenv sc vs μ s.heap) (I3 : Inv C frs μ σ s) {act : Sem Unit} {c : Code} {Q : Fin → Shared → Prop} {E : Value → Shared → Prop} (P : Bool → Sto → Prop) (hP : t vs σ P noE)
    (h : ∀ b σ4 μ4 s4, Le (fa frs) [] μ s.heap μ4 s4.heap → Inv C frs μ4 σ4 s4 → P b σ4 → wpAny (Md C) A (if b = true then (do act; again c) else again c) Q E s4) :
    wpAny (Md C) A (do
          let mut ok := true
          for c in ifs do
            if ok then ok ← isTrue c cenv (eval c cenv)
          if ok then act
          again c) Q E s := by
  cases hif with
  | nil => exact wpAny_bind (wpAny_tests_nil (h _ _ _ _ .refl I3 hP))
  | one ht => exact wpAny_bind (wpAny_tests_one (ht.run C hC A frs hA cenv vs μ σ s R3 I3 P noE _ _ hP (fun b σ4 μ4 s4 l4 I4 hq => h b σ4 μ4 s4 l4 I4 hq) (fun _ _ _ _ _ _ _ _ hq => hq.elim)))
inductive LoopI (C : Ct) (frs : List Env) (cenv : Env) (sc : Scope) (tg : Tg) (t : Tx) (g : Gx) (d : It) (j : Nat) (da ia : Addr) (K : Vars → Sto → Prop) (μ₀ : List Addr) (h₀ : Heap) (n : Nat) (s' : Shared) : Prop
  | mk (vs' : Vars) (σ' : Sto) (μ' : List Addr) (i : Nat) (l : Le (fa frs) [cenv.locals] μ₀ h₀ μ' s'.heap) (I : Inv C frs μ' σ' s') (R : EnvR C cenv sc vs' μ' s'.heap) (hj : μ'[j]? = some da) (r : ItR μ' s'.heap ia d i) (hf : compC d.chk tg t g (d.items.drop i) vs' σ' K) (hi : i ≤ d.items.length) (hn : n = d.items.length - i)
theorem compC.ck {c : Sto → Prop} {tg t g l vs σ K} (h : compC c tg t g l vs σ K) : c σ := by
  cases l with
  | nil => exact h.1
  | cons v r => exact h.1
theorem comp_loop {C : Ct} {A frs cenv} {elt target iter : Expr} {ifs : List Expr} {gens : List Comprehension} {scope : Scope} {pos : Pos} {depth : Nat} {ia da : Addr} {act : Sem Unit} {g : Gx} {tg : Tg} {t : Tx} {j : Nat} {R : Result → Shared → Prop}
    (hC : COk C) (hA : AOk C A frs k .pl) (O : Off C frs cenv.locals) (htg : TgR tg target) (hok : tg.ok sc = true) (hif : SoundIf k sc ifs t) (hact : ActOk C A frs cenv sc j da act g)
    (hturn : compTurn (.ListComp elt gens scope pos) depth (.ref ia) (.ref da) cenv = compTurnOf target iter ifs (.ref ia) cenv act (.compLoop (.ListComp elt gens scope pos) depth (.ref ia) (.ref da) cenv))
    {d : It} {μ₀ : List Addr} {σ₀ : Sto} {s₀ : Shared} (I₀ : Inv C frs μ₀ σ₀ s₀) (hia : s₀.heap.get? ia = none)
    {vs : Vars} {μ : List Addr} {σ : Sto} {s : Shared} {K : Vars → Sto → Prop} (l₀ : Le (fa frs) [cenv.locals] μ₀ s₀.heap μ s.heap) (R₀ : EnvR C cenv sc vs μ s.heap) (I : Inv C frs μ σ s) (hj : μ[j]? = some da) (r : ItR μ s.heap ia d 0)
    (hf : compC d.chk tg t g d.items vs σ K)
    (hK : ∀ vs' σ' μ' s', Le (fa frs) [cenv.locals] μ₀ s₀.heap μ' s'.heap → Inv C frs μ' σ' s' → EnvR C cenv sc vs' μ' s'.heap → μ'[j]? = some da → K vs' σ' → R (.ok .next) s') :
    codeAny (Md C) A (.compLoop (.ListComp elt gens scope pos) depth (.ref ia) (.ref da) cenv) R s := by
  refine codeAny_loop rfl (LoopI C frs cenv sc tg t g d j da ia K μ₀ s₀.heap) ?_ d.items.length ⟨vs, σ, μ, 0, l₀, I, R₀, hj, r, hf, Nat.zero_le _, rfl⟩
  rintro n s' ⟨vs', σ', μ', i, l, I', R', hj', r', hf', hil, hn⟩
  show wpAny _ A ((compTurn (.ListComp elt gens scope pos) depth (.ref ia) (.ref da) cenv).onRaise (fun x => do noteFrame x cenv; theTreesLotGoes x)) _ _ s'
  refine wpAny_noted ?_
  rw [hturn]
  have hX := r'.xok hia
  have hl0 : ∀ b ∈ [ia], s₀.heap.get? b = none := fun b hb => by rw [List.mem_singleton.mp hb]; exact hia
  refine wpAny_bind (wpAny_standAt (wpAny_bind (next_run (hA.han rfl) I' r' hf'.ck (fun v xv h' tk hv htk hs' r2 rv => ?_) (fun hv h' he => ?_))))
  · obtain ⟨hlt, hv⟩ := List.getElem?_eq_some_iff.mp hv
    have hdr : d.items.drop i = v :: d.items.drop (i + 1) := by rw [List.drop_eq_getElem_cons hlt, hv]
    rw [hdr] at hf'
    have nr : Near (fa frs) [ia] s'.heap h' := .of_ext (.head _) hs'.extBut
    have I2 : Inv C frs μ' σ' { s' with heap := h', toks := tk } := I'.near hX I₀.olds nr rfl rfl htk
    have R2 : EnvR C cenv sc vs' μ' h' := R'.near I' hX nr
    have l2 : Le (fa frs) [cenv.locals] μ₀ s₀.heap μ' h' := l.near hl0 nr (nr.tabK I' hX)
    refine wpAny_bind (go_run htg r2 (wpAny_bind (tg_run (s := { s' with heap := h', toks := tk }) (hA.han rfl) R2 I2 O htg hok (rv.mono' (hX.tupK nr fun a o => I'.notFa) fun _ _ e => e) hf'.2 fun vs3 s3 l3 I3 R3 hf3 => if_run hif hC hA R3 I3 _ hf3 fun b σ4 μ4 s4 l4 I4 hq => hide fun H out => ?_)))
    obtain ⟨m2, hm2⟩ := R2.ns
    have r3 : ItR μ' s3.heap ia d (i + 1) := r2.mono I2 (O.ook hm2) l3
    have R4 := R3.mono I3 l4
    have r4 := r3.mono I3 .nil l4
    have l34 := l2.trans (l3.trans l4.ex)
    have hlt2 : d.items.length - (i + 1) < n := by rw [hn]; omega
    cases b with
    | false => exact out (wpAny_pure ⟨rfl, _, hlt2, vs3, σ4, μ4, i + 1, l34, I4, R4, l4.mu _ _ hj', r4, hq, hlt, rfl⟩)
    | true =>
      refine out (wpAny_bind (wpAny_mono (hact vs3 μ4 σ4 s4 R4 I4 (l4.mu _ _ hj') _ (fun s5 => _) hq fun vs5 σ5 μ5 s5 l5 I5 R5 hq5 => ?_) (fun _ s5 h5 => wpAny_pure h5) fun _ _ q => q.elim))
      obtain ⟨m4, hm4⟩ := R4.ns
      exact ⟨rfl, _, hlt2, vs5, σ5, μ5, i + 1, l34.trans l5, I5, R5, l5.mu _ _ (l4.mu _ _ hj'), r4.mono I4 (O.ook hm4) l5, hq5, hlt, rfl⟩
  · rw [List.drop_eq_nil_iff.mpr (List.getElem?_eq_none_iff.mp hv)] at hf'
    have nr : Near (fa frs) [ia] s'.heap h' := .of_ext (.head _) he
    exact wpAny_pure (hK _ _ _ _ (l.near hl0 nr (nr.tabK I' hX)) (I'.near (s' := { s' with heap := h' }) hX I₀.olds nr) (R'.near I' hX nr) hj' hf'.2)
end
end Mine

namespace Mine
section
variable {k : Nat} {hd : Mo} {sc : Scope}
theorem append_run {C A frs μ σ s j da ys V v} {Q : Value → Shared → Prop} {E} (I : Inv C frs μ σ s) (hj : μ[j]? = some da) (hc : σ[j]? = some (.list ys)) (hz : ys.length < lim) (r : VR C.base μ s.heap V v)
    (hQ : ∀ h', Le (fa frs) [] μ s.heap μ h' → Inv C frs μ (σ.set j (.list (ys ++ [V]))) { s with heap := h' } → Q .none { s with heap := h' }) : wpAny (Md C) A (call (.builtin "list.append") [.ref da, v]) Q E s := by
  obtain ⟨xi, n, hl, hv⟩ := I.isL hj hc
  refine call_meets slot_list_append hl.isList.typeIs entry_list_append (args_list_append _ _) (PySem.list_append da xi.toArray n v ?_) ⟨hl, ?_⟩
  · simp only [List.size_toArray]; rw [hv.length]; exact Nat.le_trans (Nat.le_of_lt hz) lim_le
  · have hl' := hl.update (fun x => x.push v)
    have e : xi.toArray.push v = (xi ++ [v]).toArray := by simp
    rw [e] at hl'
    obtain ⟨I', l⟩ := I.upd (s' := { s with heap := s.heap.update da (Obj.mapSeq fun x => x.push v) }) hj hc (fun b hb => Heap.get?_update_other _ _ (Ne.symm hb)) hl' (hv.append (.cons r .nil)) rfl rfl (Nat.le_refl _)
    exact hQ _ l I'
noncomputable def emitG (j : Nat) (f : Ex) : Gx := fun vs σ K => f vs σ (fun x σ2 => ∃ ys, σ2[j]? = some (.list ys) ∧ ys.length < lim ∧ K vs (σ2.set j (.list (ys ++ [x])))) noE
theorem act_emit {C A frs cenv j da elt f} (hC : COk C) (hA : AOk C A frs k .pl) (he : SoundE k .pl sc elt f) :
    ActOk C A frs cenv sc j da (do let _ ← call (.builtin "list.append") [.ref da, ← eval elt cenv]) (emitG j f) := fun vs μ σ s R I hj K PK hf hK => by
  refine wpAny_bind (he.run C hC A frs hA cenv vs μ σ s R I _ noE _ _ hf (fun V v σ1 μ1 s1 l1 I1 r1 hq => ?_) (fun _ _ _ _ _ _ _ _ hq => hq.elim))
  obtain ⟨ys, hc, hz, hq⟩ := hq
  refine wpAny_bind (append_run I1 (l1.mu _ _ hj) hc hz r1 fun h' l2 I2 => wpAny_pure ?_)
  exact hK vs _ _ { s1 with heap := h' } (l1.trans l2).ex I2 ((R.mono I l1).mono I1 l2) hq
theorem self_run {C A μ s ia d} {Q : Value → Shared → Prop} {E} (r : ItR μ s.heap ia d 0) (h : Q (.ref ia) s) : wpAny (Md C) A (pyIter (.ref ia)) Q E s := by
  cases d with
  | lst l all => obtain ⟨a, _, hi⟩ := r; exact wpAny_pyIter_listiter hi h
  | rng a n => exact wpAny_pyIter_rangeiter r h
theorem start_run {C A} {elt : Expr} {gens : List Comprehension} {scope : Scope} {pos : Pos} {depth : Nat} {ia : Addr} {acc : Value} {env : Env} {R : Result → Shared → Prop} {μ s d} (r : ItR μ s.heap ia d 0)
    (hg : ((clausesOf (.ListComp elt gens scope pos))[depth]?).elim false (·.is_async != 0) = false)
    (h : codeAny (Md C) A (.compLoop (.ListComp elt gens scope pos) depth (.ref ia) acc env) R s) : codeAny (Md C) A (.compStart (.ListComp elt gens scope pos) depth (.ref ia) acc env) R s := by
  refine codeAny_of_tree ?_
  show wpAny _ _ ((compStart (.ListComp elt gens scope pos) depth (.ref ia) acc env).onRaise (fun x => do noteFrame x env; standAt theWindowsPlace)) _ _ s
  refine wpAny_notedAt ?_
  unfold compStart
  rw [hg]
  show wpAny _ _ (ask >>= _) _ _ s
  refine wpAny_bind (wpAny_askSetting (wpAny_ite ?_))
  have fin : wpAny (Md C) A (pyIter (.ref ia)) (fun it' s' => wpAny (Md C) A (again (.compLoop (.ListComp elt gens scope pos) depth it' acc env)) (fun fin s'' => match fin with | .done f => R (.ok f) s'' | .again c' => c'.quiet = true ∧ codeAny (Md C) A c' R s'') (notedBy (Md C) A env fun x s' => R (.error x) s') s') (notedBy (Md C) A env fun x s' => R (.error x) s') s :=
    self_run r (wpAny_pure ⟨rfl, h⟩)
  split
  · first
      | exact wpAny_bind (wpAny_pure (wpAny_pure (And.intro rfl h)))
      | exact wpAny_pure (And.intro rfl h)
  · refine wpAny_bind (wpAny_rule ?_)
    cases (clausesOf (.ListComp elt gens scope pos))[depth]? with
    | none => exact wpAny_bind fin
    | some g => exact wpAny_bind (wpAny_standAt (wpAny_bind fin))
noncomputable def innerG (it : Itx) (tg : Tg) (t : Tx) (g : Gx) : Gx := fun vs σ K => it vs σ (fun d σ => compC d.chk tg t g d.items vs σ K) noE
noncomputable def innerAct (elt : Expr) (gens : List Comprehension) (scope : Scope) (pos : Pos) (iter : Expr) (acc : Value) (env : Env) : Sem Unit := do
  let x ← eval iter env
  standAt iter.pos
  let x ← foldedSetIterable iter env x
  let _ ← runOwn (.compStart (.ListComp elt gens scope pos) 1 (← holding [x] (pyIter x)) acc env) env
theorem act_inner {C A frs cenv j da} {elt target iter : Expr} {ifs : List Expr} {gens : List Comprehension} {scope : Scope} {pos : Pos} {fi : Itx} {tg : Tg} {t : Tx} {act : Sem Unit} {g : Gx} (hC : COk C) (hA : AOk C A frs k .pl) (O : Off C frs cenv.locals)
    (hi : SoundI k .pl sc iter fi) (htg : TgR tg target) (hok : tg.ok sc = true) (hif : SoundIf k sc ifs t) (hact : ActOk C A frs cenv sc j da act g)
    (hturn : ∀ ia, compTurn (.ListComp elt gens scope pos) 1 (.ref ia) (.ref da) cenv = compTurnOf target iter ifs (.ref ia) cenv act (.compLoop (.ListComp elt gens scope pos) 1 (.ref ia) (.ref da) cenv))
    (hs : ∀ x, foldedSetIterable iter cenv x = pure x)
    (hg : ((clausesOf (.ListComp elt gens scope pos))[1]?).elim false (·.is_async != 0) = false) :
    ActOk C A frs cenv sc j da (innerAct elt gens scope pos iter (.ref da) cenv) (innerG fi tg t g) := fun vs μ σ s R I hj K PK hf hK => by
  have := hi.run C hC A frs hA cenv vs μ σ s R I _ noE (fun it s' => wpAny (Md C) A (runOwn (.compStart (.ListComp elt gens scope pos) 1 it (.ref da) cenv) cenv) (fun _ s'' => PK s'') (fun _ _ => False) s') (fun _ _ => False) hf
    (fun d ia σ1 μ1 s1 hfr l1 I1 r1 hq => ?_) (fun _ _ _ _ _ _ _ _ hq => hq.elim)
  · unfold innerAct
    refine wpAny_bind (wpAny_mono this (fun x s1 h1 => wpAny_bind (wpAny_standAt (wpAny_bind (wpAny_of_eq (hs x) (wpAny_bind (wpAny_holding (wpAny_mono h1 (fun it s2 h2 => wpAny_bind (wpAny_mono h2 (fun _ s3 h3 => wpAny_pure h3) fun _ _ q => q)) fun _ _ q => q))))))) fun _ _ q => q)
  · refine wpAny_runOwn ?_
    have hA2 : A.mark none = A := Around.mark_none A
    rw [hA2]
    refine start_run r1 hg ?_
    refine comp_loop (R := fun r s' => match r with | .ok _ => PK s' | .error e => cameBackBy (Md C) A cenv (fun _ _ => False) e s') hC hA O htg hok hif hact (hturn ia) I hfr l1.ex (R.mono I l1) I1 (l1.mu _ _ hj) r1 hq
      fun vs' σ' μ' s' l' I' R' _ hq' => hK vs' σ' μ' s' l' I' R' hq'
noncomputable def relabelS (sc scope : Scope) : Scope := { scope with names := scope.names.map fun (n, k) => if (k == .free && sc.kind == .function && sc.names.lookup n == some .cell) then (n, .cell) else (n, k) }
noncomputable def cv (frees : List String) (vars : Vars) : Vars := fun y => if y ∈ frees then vars y else none
noncomputable def compOk (sc scope : Scope) (frees : List String) : Bool :=
  scope.kind == .function && (scope.names.all fun p => p.2 != .cell) && ((scope.names.filter fun p => p.2 == .free).map (·.1) == frees.map Str.ofString) &&
    (frees.all fun n => sc.names.lookup (Str.ofString n) == some .cell) && (scope.names.all fun p => p.2 != .local || scope.names.lookup p.1 == some .local) && (frees.all fun n => (relabelS sc scope).names.lookup (Str.ofString n) == some .cell)
theorem lookup_fun {α β : Type} [BEq α] [LawfulBEq α] (f : α → β) : ∀ {l : List α} {x : α}, x ∈ l → (l.map fun y => (y, f y)).lookup x = some (f x)
  | [], _, h => nomatch h
  | y :: r, x, h => by
    rw [List.map_cons, List.lookup_cons]
    cases hxy : x == y with
    | true => rw [eq_of_beq hxy]
    | false =>
      rcases List.mem_cons.mp h with rfl | h
      · rw [beq_self_eq_true] at hxy; cases hxy
      · exact lookup_fun f h
theorem closure_run {env : Env} (f : Str → Addr) : ∀ (names : List (Str × NameKind)) (acc : List (Str × Addr)), (∀ p ∈ names, p.2 = .free → env.cells.lookup p.1 = some (f p.1)) →
    (forIn names acc (fun (x : Str × NameKind) (cs : List (Str × Addr)) => (match x with | (name, kind) => if (kind == .free) = true then do let a ← cellOf env name; pure (ForInStep.yield ((name, a) :: cs)) else pure (ForInStep.yield cs) : Sem (ForInStep (List (Str × Addr)))))) =
      (pure ((((names.filter fun p => p.2 == .free).map fun p => (p.1, f p.1)).reverse) ++ acc) : Sem _)
  | [], acc, _ => rfl
  | (n, kd) :: r, acc, h => by
    rw [List.forIn_cons]
    cases hk : kd == NameKind.free with
    | true =>
      have hc := h _ (.head _) (eq_of_beq hk)
      have e : cellOf env n = pure (f n) := by unfold cellOf; dsimp only at hc; rw [hc]
      simp only [hk, if_true, e, pure_bind]
      rw [closure_run f r _ fun p hp => h p (.tail _ hp)]
      simp [List.filter_cons, hk]
    | false =>
      simp only [hk, Bool.false_eq_true, if_false, pure_bind]
      rw [closure_run f r _ fun p hp => h p (.tail _ hp)]
      simp [List.filter_cons, hk]
theorem closureFor_run {env : Env} {scope : Scope} (f : Str → Addr) (h : ∀ p ∈ scope.names, p.2 = .free → env.cells.lookup p.1 = some (f p.1)) :
    closureFor scope env = pure (((scope.names.filter fun p => p.2 == .free).map fun p => (p.1, f p.1)).reverse) := by
  have := closure_run f scope.names [] h
  unfold closureFor
  simp only [List.append_nil] at this
  first | rw [this]; rfl | (simp only [bind_pure]; exact this) | skip
end
end Mine

namespace Mine
section
variable {k : Nat} {hd : Mo} {sc : Scope}
structure Body (k : Nat) (sc : Scope) (elt : Expr) (gens : List Comprehension) (scope : Scope) (pos : Pos) (target iter : Expr) (ifs : List Expr) (body : Nat → Gx) : Prop where
  run : ∀ (C : Ct) (_ : COk C) (A : Around) (frs : List Env) (_ : AOk C A frs k .pl) (cenv : Env) (_ : Off C frs cenv.locals) (j : Nat) (da : Addr), ∃ act, ActOk C A frs cenv sc j da act (body j) ∧
    ∀ ia, compTurn (.ListComp elt gens scope pos) 0 (.ref ia) (.ref da) cenv = compTurnOf target iter ifs (.ref ia) cenv act (.compLoop (.ListComp elt gens scope pos) 0 (.ref ia) (.ref da) cenv)
theorem body_one {elt target iter ifs scope pos f} (he : SoundE k .pl sc elt f) : Body k sc elt [⟨target, iter, ifs, 0⟩] scope pos target iter ifs (fun j => emitG j f) :=
  ⟨fun C hC A frs hA cenv O j da => ⟨_, act_emit hC hA he, fun ia => rfl⟩⟩
theorem body_two {elt target iter ifs target' iter' ifs' scope pos f fi tg t} (he : SoundE k .pl sc elt f) (hi : SoundI k .pl sc iter' fi) (htg : TgR tg target') (hok : tg.ok sc = true) (hif : SoundIf k sc ifs' t)
    (hs : ∀ cenv x, foldedSetIterable iter' cenv x = pure x := by intro _ _; rfl) :
    Body k sc elt [⟨target, iter, ifs, 0⟩, ⟨target', iter', ifs', 0⟩] scope pos target iter ifs (fun j => innerG fi tg t (emitG j f)) :=
  ⟨fun C hC A frs hA cenv O j da => ⟨innerAct elt [⟨target, iter, ifs, 0⟩, ⟨target', iter', ifs', 0⟩] scope pos iter' (.ref da) cenv,
    act_inner hC hA O hi htg hok hif (act_emit hC hA he) (fun ia => rfl) (hs cenv) rfl, fun ia => by unfold compTurnOf innerAct; simp only [bind_assoc, pure_bind]; rfl⟩⟩
theorem comp_run {C : Ct} {A frs env vars μ σ s} {elt target iter : Expr} {ifs : List Expr} {rest : List Comprehension} {scope : Scope} {pos : Pos} {fi : Itx} {tg : Tg} {t : Tx} {body : Nat → Gx} {frees : List String} {E' : X → Sto → Prop} {PE : Value → Shared → Prop}
    {RR : Value → Addr → Result → Shared → Prop} {QF : V → Sto → Prop}
    (hC : COk C) (hA : AOk C A frs k .pl) (R : EnvR C env sc vars μ s.heap) (I : Inv C frs μ σ s) (hi : SoundI k .pl sc iter fi) (htg : TgR tg target) (hsk : compOk sc scope frees = true) (hok : tg.ok (relabelS sc scope) = true) (hif : SoundIf k (relabelS sc scope) ifs t)
    (hb : Body k (relabelS sc scope) elt (⟨target, iter, ifs, 0⟩ :: rest) scope pos target iter ifs body)
    (hfr : ∀ n ∈ frees, ∃ w, vars n = some w)
    (hf : fi vars σ (fun d σ1 => compC d.chk tg t (body σ1.length) d.items (cv frees vars) (σ1 ++ [.list []]) (fun _ σ' => QF (.lst σ1.length) σ')) E') (hE : EC C frs μ s E' PE)
    (hRR : ∀ da Ca j μ' σ' s', s.heap.get? Ca = none → Off C frs Ca → (∃ m, s'.heap.Ns Ca m) → Le (fa frs) [Ca] μ s.heap μ' s'.heap → Inv C frs μ' σ' s' → μ'[j]? = some da → QF (.lst j) σ' → RR (.ref da) Ca (.ok .next) s') :
    ∃ cl, closureFor scope env = pure cl ∧ wpAny (Md C) A (eval iter env) (fun x s₁ => wpAny (Md C) A (pyIter x) (fun it s₂ => wpAny (Md C) A (newList []) (fun acc s₃ =>
      wpAny (Md C) A (newFunctionEnv scope env.globals cl [] env.qual none .none (some env)) (fun cenv s₄ =>
        codeAny (Md C) A (.compStart (.ListComp elt (⟨target, iter, ifs, 0⟩ :: rest) scope pos) 0 it acc { cenv with scope := relabel scope env }) (RR acc cenv.locals) s₄) PE s₃) PE s₂) PE s₁) PE s := by
  unfold compOk at hsk
  simp only [Bool.and_eq_true] at hsk
  obtain ⟨⟨⟨⟨⟨k1, k2⟩, k3⟩, k4⟩, k5⟩, k6⟩ := hsk
  have hkind : scope.kind = .function := eq_of_beq k1
  have hncell : ∀ x ∈ scope.names, x.2 ≠ .cell := fun x hx q => by have := List.all_eq_true.mp k2 x hx; rw [q] at this; simp at this
  have hfree : ∀ p ∈ scope.names, p.2 = .free → p.1 ∈ frees.map Str.ofString := fun p hp hq => by
    rw [← eq_of_beq k3]; exact List.mem_map.mpr ⟨p, List.mem_filter.mpr ⟨hp, by rw [hq]; rfl⟩, rfl⟩
  have kd : ∀ n, env.kindOf n = sc.names.lookup n := fun n => by unfold Env.kindOf; rw [R.hsc]
  have cellAt : ∀ n ∈ frees, ∀ w, vars n = some w → ∃ c v, env.cells.lookup (Str.ofString n) = some c ∧ s.heap.IsCell c (some v) ∧ WR C.base μ s.heap w v := fun n hn w hw => by
    have hk := eq_of_beq (List.all_eq_true.mp k4 n hn)
    rcases R.vars n w hw with ⟨q1, m, v, h1, h2, h3⟩ | ⟨q1, c, v, h1, h2, h3⟩
    · rw [kd, hk] at q1; cases q1
    · exact ⟨c, v, h1, h2, h3⟩
  let f : Str → Addr := fun n => (env.cells.lookup n).getD 0
  have hclf : ∀ p ∈ scope.names, p.2 = .free → env.cells.lookup p.1 = some (f p.1) := fun p hp hq => by
    obtain ⟨n, hn, e⟩ := List.mem_map.mp (hfree p hp hq)
    obtain ⟨w, hw⟩ := hfr n hn
    obtain ⟨c, v, h1, _⟩ := cellAt n hn w hw
    rw [e] at h1
    show _ = some ((env.cells.lookup p.1).getD 0)
    rw [h1]; rfl
  refine ⟨_, closureFor_run f hclf, ?_⟩
  refine hi.run C hC A frs hA env vars μ σ s R I _ _ _ _ hf (fun d ia σ1 μ1 s1 hia l1 I1 r1 hq => ?_) hE
  refine wpAny_newObj_type (wpAny_newFunctionEnv hncell (by intro y hy; simp at hy) (fun h₁ hns₁ hsb₁ => ?_) hkind)
  dsimp only at hns₁ hsb₁ ⊢
  have hrl : relabel scope env = relabelS sc scope := by
    unfold relabel relabelS
    have e1 : ∀ n, env.kindOf n = sc.names.lookup n := kd
    simp only [R.hsc, e1]
  have hroom : (s1.heap.push { cls := .type "list", dict := none, data := .seq ([] : List Value).toArray }).objs.size = s1.heap.objs.size + 1 := Heap.size_push ..
  generalize hCa : (s1.heap.push { cls := .type "list", dict := none, data := .seq ([] : List Value).toArray }).objs.size = Ca at hns₁ hsb₁ ⊢
  have kp1 : ∀ b o, s1.heap.get? b = some o → h₁.get? b = some o := fun b o e => by
    have e2 := Heap.get?_push_of_some { cls := .type "list", dict := none, data := .seq ([] : List Value).toArray } e
    have := Heap.lt_size e2
    rw [hCa] at this
    exact hsb₁.extBut b o (Nat.ne_of_lt this) (Heap.get?_push_of_some _ e2)
  have hda : IsL h₁ s1.heap.objs.size ([] : List Value).toArray 0 := by
    have e2 : (s1.heap.push { cls := .type "list", dict := none, data := .seq ([] : List Value).toArray }).get? s1.heap.objs.size = some { cls := .type "list", dict := none, data := .seq ([] : List Value).toArray } := Heap.get?_push_size _ rfl
    exact hsb₁.extBut _ _ (by rw [← hCa, hroom]; exact Nat.ne_of_lt (Nat.lt_succ_self _)) (Heap.get?_push_of_some _ e2)
  obtain ⟨I2, l2⟩ := I1.alloc (s' := { s1 with heap := h₁, toks := s1.toks + 0 }) (c := .list []) kp1 (fresh_size _) (.list hda .nil) rfl rfl (Nat.le_add_right _ _)
  have hC1 : s1.heap.get? Ca = none := Heap.get?_none_of_le (by rw [← hCa, hroom]; exact Nat.le_succ _)
  have hCb : C.base.get? Ca = none := by
    cases hq : C.base.get? Ca with
    | none => rfl
    | some o => rw [I1.base _ _ hq] at hC1; cases hC1
  have O : Off C frs Ca := ⟨hCb, fun hm => by
    obtain ⟨env', he, q⟩ := List.mem_filterMap.mp hm
    obtain ⟨L, o, es, n, e1, e2, e3, _⟩ := I1.fr env' he
    rw [e1] at q; cases q
    rw [hC1] at e3; cases e3⟩
  obtain ⟨act, hact, hturn⟩ := hb.run C hC A frs hA { newEnv scope Ca env.globals (((scope.names.filter fun p => p.2 == .free).map fun p => (p.1, f p.1)).reverse) env.qual none .none (some env) builtinsNs with scope := relabel scope env } O σ1.length s1.heap.objs.size
  have r2 : ItR (μ1 ++ [s1.heap.objs.size]) h₁ ia d 0 := r1.keep (fun i a e => mu_ext i a e) fun o ho => kp1 _ _ ho
  have hlen : (μ1 ++ [s1.heap.objs.size])[σ1.length]? = some s1.heap.objs.size := by
    rw [← I1.len, List.getElem?_append_right (Nat.le_refl _), Nat.sub_self]; rfl
  have R2 : EnvR C { newEnv scope Ca env.globals (((scope.names.filter fun p => p.2 == .free).map fun p => (p.1, f p.1)).reverse) env.qual none .none (some env) builtinsNs with scope := relabel scope env } (relabelS sc scope) (cv frees vars) (μ1 ++ [s1.heap.objs.size]) h₁ := by
    refine ⟨hrl, hkind, R.glob, R.blt, ⟨_, hns₁⟩, fun y w hy => ?_⟩
    unfold cv at hy
    split at hy
    · rename_i hyf
      have R' := (R.mono I l1).mono I1 l2
      have hk := eq_of_beq (List.all_eq_true.mp k4 y hyf)
      rcases R'.vars y w hy with ⟨q1, m, v, h1, h2, h3⟩ | ⟨q1, c, v, h1, h2, h3⟩
      · rw [kd, hk] at q1; cases q1
      · refine .inr ⟨.inl ?_, c, v, ?_, h2, h3⟩
        · show (relabel scope env).names.lookup _ = _
          rw [hrl]; exact eq_of_beq (List.all_eq_true.mp k6 y hyf)
        · have hm : Str.ofString y ∈ ((scope.names.filter fun p => p.2 == .free).map (·.1)).reverse := by
            rw [eq_of_beq k3, List.mem_reverse]; exact List.mem_map.mpr ⟨y, hyf, rfl⟩
          have := lookup_fun f hm
          have e : f (Str.ofString y) = c := by show (env.cells.lookup _).getD 0 = c; rw [h1]; rfl
          rw [e] at this
          rw [← this]
          show List.lookup _ (List.reverse _) = List.lookup _ _
          rw [List.map_reverse, List.map_map]
          rfl
    · cases hy
  show codeAny (Md C) A (.compStart (.ListComp elt (⟨target, iter, ifs, 0⟩ :: rest) scope pos) 0 (.ref ia) (.ref s1.heap.objs.size) _) _ _
  refine start_run r2 rfl ?_
  refine comp_loop (R := RR (.ref s1.heap.objs.size) Ca) hC hA O htg hok hif hact (hturn ia) I hia (l1.trans l2).ex R2 I2 hlen r2 hq fun vs' σ' μ' s' l' I' R' hj' hq' => ?_
  exact hRR _ Ca _ μ' σ' s' (l1.none hC1) O R'.ns l' I' hj' hq'
noncomputable def comp (frees : List String) (fi : Itx) (tg : Tg) (t : Tx) (body : Nat → Gx) : Ex := fun vars σ Q E => (∀ n ∈ frees, ∃ w, vars n = some w) ∧
  fi vars σ (fun d σ1 => compC d.chk tg t (body σ1.length) d.items (cv frees vars) (σ1 ++ [.list []]) (fun _ σ' => Q (.lst σ1.length) σ')) E
theorem compOk_names {scope : Scope} {frees : List String} (h : compOk sc scope frees = true) : scope.kind = .function ∧ ∀ x ∈ scope.names, x.2 = .local → scope.names.lookup x.1 = some .local := by
  unfold compOk at h
  simp only [Bool.and_eq_true] at h
  obtain ⟨⟨⟨⟨⟨k1, k2⟩, k3⟩, k4⟩, k5⟩, k6⟩ := h
  refine ⟨eq_of_beq k1, fun x hx hl => ?_⟩
  have := List.all_eq_true.mp k5 x hx
  rw [hl] at this
  exact eq_of_beq (by simpa using this)
theorem s_comp {elt target iter ifs rest scope pos fi tg t body frees} (hi : SoundI k .pl sc iter fi) (htg : TgR tg target) (hsk : compOk sc scope frees = true) (hok : tg.ok (relabelS sc scope) = true) (hif : SoundIf k (relabelS sc scope) ifs t)
    (hb : Body k (relabelS sc scope) elt (⟨target, iter, ifs, 0⟩ :: rest) scope pos target iter ifs body)
    (hs : ∀ env x, foldedSetIterable iter env x = pure x := by intro _ _; rfl) :
    SoundE k .pl sc (.ListComp elt (⟨target, iter, ifs, 0⟩ :: rest) scope pos) (comp frees fi tg t body) := .mk fun C hC A frs hA env vars μ σ s R I Q E PQ PE hf hQ hE => by
  obtain ⟨hfr, hf⟩ := hf
  obtain ⟨cl, hcl, h⟩ := comp_run (RR := fun acc Ca => compPost (Md C) A PE none PQ acc Ca) (QF := Q) hC hA R I hi htg hsk hok hif hb hfr hf hE fun da Ca j μ' σ' s' hCa O hns l' I' hj hq => by
    obtain ⟨m, hm⟩ := hns
    refine ⟨m, hm, fun h' hs' => ?_⟩
    exact hQ _ _ _ _ _ ((l'.off hCa).sameBut hCa hs' hm) (I'.sameBut O hm hs' (Nat.le_refl _)) (.lst hj) hq
  rw [eval_ListComp]
  exact wpAny_comprehension_free (use := none) rfl (hs env) hcl (compOk_names hsk).1 (compOk_names hsk).2 h
theorem s_asnC {x p elt target iter ifs rest scope pos spos fi tg t body frees} (hx : sc.names.lookup (Str.ofString x) == some .local) (hi : SoundI k .pl sc iter fi) (htg : TgR tg target) (hsk : compOk sc scope frees = true) (hok : tg.ok (relabelS sc scope) = true) (hif : SoundIf k (relabelS sc scope) ifs t)
    (hb : Body k (relabelS sc scope) elt (⟨target, iter, ifs, 0⟩ :: rest) scope pos target iter ifs body)
    (hs : ∀ env x, foldedSetIterable iter env x = pure x := by intro _ _; rfl)
    (hsw : ∀ env, env.scope = sc → swapsWith (.ListComp elt (⟨target, iter, ifs, 0⟩ :: rest) scope pos) (some (.Name (Str.ofString x) p)) spos.line env = pure true := by intro env h; cases env; cases h; rfl) :
    SoundS k .pl sc (.Assign [.Name (Str.ofString x) p] (.ListComp elt (⟨target, iter, ifs, 0⟩ :: rest) scope pos) spos) (asn x (comp frees fi tg t body)) := .mk fun C hC A frs hA env μ st s F Q E PQ PE hf hQ hE => by
  obtain ⟨hfr, hf⟩ := hf
  have hx' : stK sc x = true := by unfold stK; rw [hx]; rfl
  obtain ⟨cl, hcl, h⟩ := comp_run (RR := fun acc Ca => compPost (Md C) A PE (some (assign (.Name (Str.ofString x) p) env)) (fun _ s' => PQ .next s') acc Ca) (QF := fun v σ => Q .next ⟨upd st.vars x (.v v), σ⟩) hC hA F.R F.I hi htg hsk hok hif hb hfr hf (hE.ex F) fun da Ca j μ' σ' s' hCa O hns l' I' hj hq => by
    obtain ⟨m, hm⟩ := hns
    have l2 : Le (fa frs) [] μ s.heap μ' s'.heap := l'.off hCa
    have F' := F.step l2 I'
    have hown : Ca ∉ own env := fun hmm => by
      obtain ⟨_, o, ho, _⟩ := F.ook _ hmm
      rw [hCa] at ho; cases ho
    show wpAny _ A (assign (.Name (Str.ofString x) p) env (.ref da)) _ _ _
    refine wpAny_assign_Name (store_run F' hx' (.v (.lst hj)) fun s2 l3 F2 => ?_)
    obtain ⟨o, es, ep, ho, hdt, hrest⟩ := id hm
    have hno : s2.heap.get? Ca = some o := (l3.keep _ _ ho (I'.neT ho (.inr (by simp [hdt]))) (I'.notMuD ho (by simp [hdt]) (by simp [hdt])) hown).1 O.fr
    have hm2 : s2.heap.Ns Ca m := ⟨o, es, ep, hno, hdt, hrest⟩
    refine ⟨m, hm2, fun h' hs' => ?_⟩
    exact hQ _ _ _ _ { s2 with heap := h' } ((l2.ex.trans l3).sameBut hCa hs' hm2) (F2.sameBut O hown hm2 hs') .next hq
  rw [exec_Assign_Name_used _ _ _ _ (hsw env F.R.hsc)]
  refine wpAny_bind (wpAny_standAt (wpAny_bind ?_))
  show wpAny _ A (do let _ ← comprehension (.ListComp elt (⟨target, iter, ifs, 0⟩ :: rest) scope pos) scope env _ (newList []) false (eval iter env) (some (assign (.Name (Str.ofString x) p) env))) _ _ s
  exact wpAny_bind (wpAny_mono (wpAny_comprehension_free (use := some (assign (.Name (Str.ofString x) p) env)) (Q := fun _ s' => PQ .next s') rfl (hs env) hcl (compOk_names hsk).1 (compOk_names hsk).2 h) (fun _ s' hq => wpAny_pure (wpAny_pure hq)) fun _ _ e => e)
end
end Mine

namespace Mine
section
theorem mro_object : mroOf (.type "object") = pure [.type "object"] := by rw [mroOf_type]; kernel_rfl
theorem lookup_object_new : typeLookup (.type "object") "__new__" = pure (some (.builtin "object.__new__")) := by rw [typeLookup_type, builtinLookup_eq_fast]; kernel_rfl
theorem made_object : Bind.madeBy (.type "object") = pure (some "object.__new__") := madeBy_type mro_object lookup_object_new (by decide +kernel)
theorem called_object : TypeCalled "object" "object.__new__" "object.__init__" :=
  ⟨by decide +kernel, by decide +kernel, ⟨_, _, mro_object⟩, made_object, by decide +kernel, by rw [isSubtype_type]; kernel_rfl, F.slot_object_init⟩
theorem madeHere_object : Bind.madeHere "object.__new__" (.type "object") = pure () := by
  unfold Bind.madeHere
  have e : Bind.staticBase (.type "object") = pure (.type "object") := by
    unfold Bind.staticBase
    simp only [mro_object, pure_bind, List.forIn_cons, made_object]
    rfl
  rw [e, pure_bind, made_object, pure_bind]
  rfl
theorem object_new_meets : Meets (Builtin.«object.__new__» ⟨[.type "object"], []⟩) (fun _ R s => R (.ok (.ret (.ref s.heap.objs.size))) { s with heap := s.heap.push objO }) :=
  .of_wp fun prog w A R s h => by
    have hm := madeHere_object
    show wpAny _ _ (isType (.type "object") >>= _) _ _ s
    refine wpAny_bind (wpAny_of_eq (a := true) rfl ?_)
    rw [if_neg (by decide)]
    show wpAny _ _ (if ((Manifest.find? "object").elim false (·.mro.any fun t => (Manifest.find? t).elim false (·.noNew))) = true then _ else _) _ _ s
    rw [if_neg (by decide +kernel)]
    refine wpAny_bind (wpAny_of_eq hm ?_)
    rw [if_neg (by decide)]
    dsimp only
    rw [if_neg (show ¬ typeHasDict (.type "object") = true by decide +kernel)]
    refine wpAny_bind (wpAny_pure ?_)
    refine wpAny_bind (wpAny_newObj_type ?_)
    rw [if_neg (show ¬ diesByItsTypesDel "object" = true by decide +kernel)]
    exact wpAny_pure ⟨_, rfl, h⟩
theorem call_object {prog : Program} {w : World} {A : Around} {s : Shared} {Q E : Value → Shared → Prop} (h : Q (.ref s.heap.objs.size) { s with heap := s.heap.push objO }) : wpAny (model prog w) A (call (.type "object") []) Q E s :=
  callType_meets (Q₁ := fun obj s₁ => obj = .ref s.heap.objs.size ∧ s₁ = { s with heap := s.heap.push objO }) called_object (by kernel_rfl) (by kernel_rfl) F.entry_object_new F.entry_object_init object_new_meets ⟨rfl, rfl⟩ fun obj s₁ hq => by
    obtain ⟨rfl, rfl⟩ := hq
    refine ⟨⟨_, Heap.get?_push_size _ rfl, rfl⟩, by unfold argsOk; kernel_rfl, fun _ R s => R (.ok (.ret .none)) s, .of_wp fun prog w A R s h => wpAny_pure ⟨_, rfl, h⟩, ?_⟩
    exact ⟨rfl, h⟩
end
end Mine

namespace Mine
section
variable {k : Nat} {hd : Mo} {sc : Scope}
theorem keepT {C frs μ σ} {s : Shared} (I : Inv C frs μ σ s) {h' : Heap} {t : Nat} (ht : 1 ≤ t) (kp : ∀ b o, s.heap.get? b = some o → h'.get? b = some o) : Inv C frs μ σ { s with heap := h', toks := t } ∧ Le (fa frs) [] μ s.heap μ h' :=
  ⟨Inv.anyToks (s := { s with heap := h' }) (I.keeps kp) t ht, .of_keeps kp⟩
theorem newAt {C : Ct} {frs μ σ} {s : Shared} (I : Inv C frs μ σ s) {h' : Heap} {t : Nat} (ht : 1 ≤ t) (kp : ∀ b o, s.heap.get? b = some o → h'.get? b = some o) {a : Addr} {items : List Value} {vs : List V} {n : Nat} (ha : s.heap.get? a = none)
    (hl : IsL h' a items.toArray n) (hv : VRs C.base μ s.heap vs items) :
    Inv C frs (μ ++ [a]) (σ ++ [.list vs]) { s with heap := h', toks := t } ∧ Le (fa frs) [] μ s.heap (μ ++ [a]) h' ∧ VR C.base (μ ++ [a]) h' (.lst σ.length) (.ref a) := by
  have l : Le (fa frs) [] μ s.heap μ h' := .of_keeps kp
  obtain ⟨I', l'⟩ := I.alloc (s' := { s with heap := h' }) kp ha (.list hl (hv.mono I .nil l))
  refine ⟨I'.anyToks t ht, l', .lst ?_⟩
  rw [← I.len, List.getElem?_append_right (Nat.le_refl _), Nat.sub_self]; rfl
noncomputable def newObjX : Ex := fun _ σ Q _ => Q (.ob σ.length) (σ ++ [.obj])
theorem s_object {p pos : Pos} (hb : bltF "object" (.type "object")) (hx : gl sc "object" = true) : SoundE k hd sc (.Call (.Name (Str.ofString "object") p) [] [] pos) newObjX := .mk fun C hC A frs hA env vars μ σ s R I Q E PQ PE hf hQ hE => by
  refine Call_Name0 (name_blt hC I R hx (hb C hC).1 (hb C hC).2 ?_)
  refine PyProof.Rows.callWith_type rfl (evalArgs_empty (call_object ?_))
  obtain ⟨I', l⟩ := I.alloc (s' := { s with heap := s.heap.push objO }) (c := .obj) (push_keeps _ _) (fresh_size _) (.obj (Heap.get?_push_size _ rfl))
  refine hQ _ _ _ _ _ l I' (.ob ?_) hf
  rw [← I.len, List.getElem?_append_right (Nat.le_refl _), Nat.sub_self]; rfl
noncomputable def oIadd : Op2
  | .int a, .int b, σ, Q, _ => Q (.int (a + b)) σ
  | .str a, .str b, σ, Q, _ => a.length + b.length ≤ lim ∧ Q (.str (a ++ b)) σ
  | _, _, _, _, _ => False
theorem o_iadd : SoundO2 k hd (inplaceOp .Add) oIadd := by
  intro C hC A frs hA μ σ s I U u r1 W w r2 Q E PQ PE hf hQ hE
  induction r1 using VR.casesOn with
  | int a t => induction r2 using VR.casesOn with
    | int b u => exact PyProof.Rows.iadd_int (hQ _ _ _ _ _ toks_le (I.toks _) (.int _ _) hf)
    | _ => exact hf.elim
  | str x t => induction r2 using VR.casesOn with
    | str y u =>
      obtain ⟨hz, hq⟩ := hf
      refine wpAny_with_toks (n := 1) I.tk (PyProof.Rows.iadd_str (fun t' tk ht => ?_) (by rw [Str.len_mk, Str.len_mk]; exact Nat.le_trans hz lim_le))
      have e : ((⟨x.toArray⟩ : Str) ++ ⟨y.toArray⟩) = ⟨(x ++ y).toArray⟩ := by
        show (⟨x.toArray ++ y.toArray⟩ : Str) = _
        simp
      rw [e]
      exact hQ _ _ _ _ _ toks_le (I.anyToks _ ht) (.str _ _) hq
    | _ => exact hf.elim
  | _ => exact hf.elim
noncomputable def oMin : Op2
  | .int a, .int b, σ, Q, _ => Q (.int (min a b)) σ
  | _, _, _, _, _ => False
theorem o_min : SoundO2 k .pl (fun u w => call (.builtin "min") [u, w]) oMin := by
  intro C hC A frs hA μ σ s I U u r1 W w r2 Q E PQ PE hf hQ hE
  induction r1 using VR.casesOn with
  | int a t => induction r2 using VR.casesOn with
    | int b u =>
      refine wpAny_with_toks (n := 1) I.tk (min_two_ints (hA.han rfl) fun h' tk kp ht => ?_)
      obtain ⟨I', l⟩ := keepT I ht kp
      have hq : Q (.int (min a b)) σ := hf
      by_cases hab : b < a
      · rw [if_pos hab]
        rw [Int.min_eq_right (by omega)] at hq
        exact hQ _ _ _ _ _ l I' (.int _ _) hq
      · rw [if_neg hab]
        rw [Int.min_eq_left (by omega)] at hq
        exact hQ _ _ _ _ _ l I' (.int _ _) hq
    | _ => exact hf.elim
  | _ => exact hf.elim
theorem preSum_take (val : Nat → Int) : ∀ (xs : List Int) (n : Nat), n ≤ xs.length → (∀ i x, xs[i]? = some x → val i = x) → preSum val n = (xs.take n).sum
  | xs, 0, _, _ => by simp [preSum]
  | xs, n + 1, hn, h => by
    have hx : xs[n]? = some xs[n] := List.getElem?_eq_getElem hn
    rw [preSum, preSum_take val xs n (by omega) h, List.take_add_one, hx, h n _ hx]
    simp only [Option.toList_some, List.sum_append, List.sum_cons, List.sum_nil]; omega
theorem sum_bound (xs : List Int) (h : ∀ x ∈ xs, 0 ≤ x ∧ x ≤ 1000000) : ∀ n, 0 ≤ (xs.take n).sum ∧ (xs.take n).sum ≤ 1000000 * n := by
  induction xs with
  | nil => intro n; simp; omega
  | cons a r ih =>
    intro n
    cases n with
    | zero => simp
    | succ n =>
      have h1 := ih (fun x hx => h x (.tail _ hx)) n
      have h2 := h a (.head _)
      simp only [List.take_succ_cons, List.sum_cons]
      omega
noncomputable def oSum : Op1
  | .lst i, σ, Q, _ => ∃ xs, σ[i]? = some (.list (vI xs)) ∧ (∀ x ∈ xs, 0 ≤ x ∧ x ≤ 1000000) ∧ xs.length ≤ lim ∧ Q (.int xs.sum) σ
  | _, _, _, _ => False
theorem vI_at {B μ h xs vs} (r : VRs B μ h (vI xs) vs) {i : Nat} {v : Value} (e : vs[i]? = some v) : ∃ x t, xs[i]? = some x ∧ v = .int x t := by
  induction xs generalizing vs i with
  | nil => rw [r.nilI] at e; cases e
  | cons a as ih =>
    obtain ⟨z, zs, rfl, r1, r2⟩ := r.consI
    cases i with
    | zero => obtain ⟨t, h⟩ := r1.intI; exact ⟨a, t, rfl, (Option.some.inj e).symm.trans h⟩
    | succ i => exact ih r2 e
theorem vS_at {B μ h xs vs} (r : VRs B μ h (vS xs) vs) {i : Nat} {v : Value} (e : vs[i]? = some v) : ∃ x t, xs[i]? = some x ∧ v = .str ⟨x.toArray⟩ t := by
  induction xs generalizing vs i with
  | nil => rw [r.nilI] at e; cases e
  | cons a as ih =>
    obtain ⟨z, zs, rfl, r1, r2⟩ := r.consI
    cases i with
    | zero => obtain ⟨t, h⟩ := r1.strI; exact ⟨a, t, rfl, (Option.some.inj e).symm.trans h⟩
    | succ i => exact ih r2 e
theorem o_sum : SoundO1 k .pl (fun u => call (.builtin "sum") [u]) oSum := by
  intro C hC A frs hA μ σ s I U u r Q E PQ PE hf hQ hE
  induction r using VR.casesOn with
  | @lst i a e =>
    obtain ⟨xs, hc, hb, hz, hq⟩ := hf
    obtain ⟨xi, n1, hl, hv⟩ := I.isL e hc
    have hlen := hv.length
    have hxl : (vI xs).length = xs.length := by simp [vI]
    refine wpAny_with_toks (n := 1) I.tk (call_sum_walk (wpAny_pyIter_list hl.isList ?_))
    have hal : a < s.heap.objs.size := Heap.lt_size hl
    refine ⟨s.heap.objs.size, _, _, _, _, _, fun i => xs.getD i 0, rfl, Walks.list (A := A.in1) (hA.han rfl) s.heap.objs.size a (Nat.ne_of_lt hal) xi.toArray, ⟨⟨_, Heap.get?_push_size _ rfl, rfl, rfl⟩, (hl.push _).isList⟩, fun b hb => ?_, fun i v hv' => ?_, fun j hj => ?_, fun h' tk t' kp ht => ?_⟩
    · show b < (s.heap.push _).objs.size
      rw [Heap.size_push]
      rcases List.mem_cons.mp hb with rfl | hb
      · exact Nat.lt_succ_self _
      · rw [List.mem_singleton.mp hb]; exact Nat.lt_succ_of_lt hal
    · obtain ⟨x, t, h1, h2⟩ := vI_at hv (by simpa using hv')
      exact ⟨t, by show v = Value.int (xs.getD i 0) t; rw [h2, List.getD_eq_getElem?_getD, h1]; rfl⟩
    · simp only [List.size_toArray] at hj
      have hp := preSum_take (fun i => xs.getD i 0) xs (j + 1) (by omega) (fun i x hx => by simp [List.getD_eq_getElem?_getD, hx])
      have hs := sum_bound xs hb (j + 1)
      have hx : xs[j]? = some xs[j] := List.getElem?_eq_getElem (by omega)
      have hm := hb xs[j] (List.getElem_mem _)
      have hz' : xs.length ≤ 1000000 := hz
      have p63 : (2 : Int) ^ 63 = 9223372036854775808 := by decide
      unfold InLong
      rw [hp]
      simp only [List.getD_eq_getElem?_getD, hx, Option.getD_some]
      refine ⟨by omega, by omega, ?_⟩
      omega
    · have hp := preSum_take (fun i => xs.getD i 0) xs xs.length (Nat.le_refl _) (fun i x hx => by simp [List.getD_eq_getElem?_getD, hx])
      have en : xi.toArray.size = xs.length := by simp only [List.size_toArray]; omega
      rw [en, hp, List.take_length]
      have kp2 : ∀ b o, s.heap.get? b = some o → h'.get? b = some o := fun b o hb => kp b o (by
        intro hm; rw [List.mem_singleton.mp hm] at hb; exact Nat.lt_irrefl _ (Heap.lt_size hb)) (Heap.get?_push_of_some _ hb)
      obtain ⟨I', l⟩ := keepT I ht kp2
      exact hQ _ _ _ _ _ l I' (.int _ _) hq
  | _ => exact hf.elim
theorem CmpOf_strs {prog : Program} {w : World} {A : Around} {P : Nat → Value → Prop} (val : Nat → List Nat) (hval : ∀ i v, P i v → ∃ t, v = .str ⟨(val i).toArray⟩ t) :
    CmpOf prog w A .Gt P (fun i j => decide (val j < val i)) := fun i j vi vj s Q E hi hj h => by
  obtain ⟨t, rfl⟩ := hval i vi hi
  obtain ⟨u, rfl⟩ := hval j vj hj
  exact richCompare_gives (op := .Gt) (typeIs_str s _ t) (typeIs_str s _ u) F.slot_str_gt F.entry_str_gt (F.args_str_gt_2 _ _) (gives_str_gt _ _ t u) (fun x => nomatch x) h
theorem argBest_spec (val : Nat → List Nat) : ∀ n, argBest (fun i j => decide (val j < val i)) n ≤ n ∧ ∀ i ≤ n, ¬ val (argBest (fun i j => decide (val j < val i)) n) < val i
  | 0 => ⟨Nat.le_refl _, fun i hi => by
    have e : i = 0 := by omega
    subst e
    exact List.lt_irrefl _⟩
  | n + 1 => by
    obtain ⟨h1, h2⟩ := argBest_spec val n
    unfold argBest
    by_cases h : val (argBest (fun i j => decide (val j < val i)) n) < val (n + 1)
    · rw [if_pos (by simpa using h)]
      refine ⟨Nat.le_refl _, fun i hi hlt => ?_⟩
      by_cases hin : i ≤ n
      · exact h2 i hin (List.lt_trans h hlt)
      · obtain rfl : i = n + 1 := by omega
        exact List.lt_irrefl _ hlt
    · rw [if_neg (by simpa using h)]
      refine ⟨by omega, fun i hi => ?_⟩
      by_cases hin : i ≤ n
      · exact h2 i hin
      · obtain rfl : i = n + 1 := by omega
        exact h
noncomputable def oMax : Op1
  | .lst i, σ, Q, _ => ∃ xs, σ[i]? = some (.list (vS xs)) ∧ xs ≠ [] ∧ ∀ m ∈ xs, (∀ x ∈ xs, ¬ m < x) → Q (.str m) σ
  | _, _, _, _ => False
theorem o_max : SoundO1 k .pl (fun u => call (.builtin "max") [u]) oMax := by
  intro C hC A frs hA μ σ s I U u r Q E PQ PE hf hQ hE
  induction r using VR.casesOn with
  | @lst i a e =>
    obtain ⟨xs, hc, hne, hq⟩ := hf
    obtain ⟨xi, n1, hl, hv⟩ := I.isL e hc
    have hlen := hv.length
    have hxl : (vS xs).length = xs.length := by simp [vS]
    have hpos : 0 < xs.length := List.length_pos_iff.mpr hne
    refine wpAny_with_toks (n := 1) I.tk (call_max_walk (wpAny_pyIter_list hl.isList ?_))
    have hal : a < s.heap.objs.size := Heap.lt_size hl
    have hval : ∀ (i : Nat) (v : Value), xi.toArray[i]? = some v → ∃ t, v = Value.str ⟨(xs.getD i []).toArray⟩ t := fun i v hv' => by
      obtain ⟨x, t, h1, h2⟩ := vS_at hv (by simpa using hv')
      exact ⟨t, by rw [h2, List.getD_eq_getElem?_getD, h1]; rfl⟩
    refine ⟨s.heap.objs.size, _, _, _, _, _, fun i j => decide (xs.getD j [] < xs.getD i []), rfl, Walks.list (A := A.in1) (hA.han rfl) s.heap.objs.size a (Nat.ne_of_lt hal) xi.toArray, ⟨⟨_, Heap.get?_push_size _ rfl, rfl, rfl⟩, (hl.push _).isList⟩, fun b hb => ?_, by simp only [List.size_toArray]; omega, CmpOf_strs (fun i => xs.getD i []) hval, fun v h' tk hP kp ht => ?_⟩
    · show b < (s.heap.push _).objs.size
      rw [Heap.size_push]
      rcases List.mem_cons.mp hb with rfl | hb
      · exact Nat.lt_succ_self _
      · rw [List.mem_singleton.mp hb]; exact Nat.lt_succ_of_lt hal
    · obtain ⟨h1, h2⟩ := argBest_spec (fun i => xs.getD i []) (xi.toArray.size - 1)
      generalize argBest (fun i j => decide (xs.getD j [] < xs.getD i [])) (xi.toArray.size - 1) = b at *
      obtain ⟨x, t, h3, h4⟩ := vS_at hv (by simpa using hP)
      have kp2 : ∀ b o, s.heap.get? b = some o → h'.get? b = some o := fun b o hb => kp b o (by
        intro hm; rw [List.mem_singleton.mp hm] at hb; exact Nat.lt_irrefl _ (Heap.lt_size hb)) (Heap.get?_push_of_some _ hb)
      obtain ⟨I', l⟩ := keepT I ht kp2
      rw [h4]
      refine hQ _ _ _ _ _ l I' (VR.str _ _) (hq x (List.mem_of_getElem? h3) fun y hy hlt => ?_)
      obtain ⟨j, hj, rfl⟩ := List.getElem_of_mem hy
      refine h2 j (by simp only [List.size_toArray]; omega) ?_
      have e1 : xs.getD b [] = x := by rw [List.getD_eq_getElem?_getD, h3]; rfl
      have e2 : xs.getD j [] = xs[j] := by rw [List.getD_eq_getElem?_getD, List.getElem?_eq_getElem hj]; rfl
      show xs.getD b [] < xs.getD j []
      rw [e1, e2]; exact hlt
  | _ => exact hf.elim
end
end Mine

namespace Mine
section
variable {k : Nat} {hd : Mo} {sc : Scope}
theorem strsAre {B μ h xs vs} (r : VRs B μ h (vS xs) vs) : StrsAre vs (xs.map fun l => ⟨l.toArray⟩) := by
  induction xs generalizing vs with
  | nil => rw [r.nilI]; exact .nil
  | cons a as ih =>
    obtain ⟨z, zs, rfl, r1, r2⟩ := r.consI
    obtain ⟨t, rfl⟩ := r1.strI
    exact .cons _ _ (ih r2)
theorem ofStrsAre {B μ h} : ∀ {ss : List Str} {vs : List Value}, StrsAre vs ss → VRs B μ h (vS (ss.map fun s => s.cps.toList)) vs
  | _, _, .nil => .nil
  | _, _, .cons y t r => .cons (by have := VR.str (B := B) (μ := μ) (h := h) y.cps.toList t; simpa using this) (ofStrsAre r)
theorem pairwise_sortedS : ∀ {ss : List Str} (p : Str), risingS p ss = true → ∀ x ∈ ss, ¬ (x.cps.toList < p.cps.toList) := by
  intro ss
  induction ss with
  | nil => intro p _ x hx; cases hx
  | cons a r ih =>
    intro p h x hx
    have h' : (!Spec.ltCps a.cps.toList p.cps.toList && risingS a r) = true := h
    rw [Bool.and_eq_true, Bool.not_eq_true', ltCps_eq, decide_eq_false_iff_not] at h'
    rcases List.mem_cons.mp hx with rfl | hx
    · exact h'.1
    · intro hlt
      have h2 := ih a h'.2 x hx
      exact h'.1 (List.lt_of_le_of_lt (List.not_lt.mp h2) hlt)
theorem sortedS_pairwise : ∀ {ss : List Str}, sortedS ss = true → ss.Pairwise fun a b => ¬ (b.cps.toList < a.cps.toList)
  | [], _ => .nil
  | a :: r, h => by
    have h' : risingS a r = true := h
    refine .cons (fun x hx => pairwise_sortedS a h' x hx) (sortedS_pairwise ?_)
    cases r with
    | nil => rfl
    | cons b t =>
      have h'' : (!Spec.ltCps b.cps.toList a.cps.toList && risingS b t) = true := h'
      rw [Bool.and_eq_true] at h''
      exact h''.2
noncomputable def oSorted : Op1
  | .lst i, σ, Q, _ => ∃ xs, σ[i]? = some (.list (vS xs)) ∧ xs.length < 64 ∧ ∀ ys, ys.Perm xs → (ys.Pairwise fun a b => ¬ b < a) → Q (.lst σ.length) (σ ++ [.list (vS ys)])
  | _, _, _, _ => False
theorem o_sorted : SoundO1 k hd (fun u => call (.builtin "sorted") [u]) oSorted := by
  intro C hC A frs hA μ σ s I U u r Q E PQ PE hf hQ hE
  induction r using VR.casesOn with
  | @lst i a e =>
    obtain ⟨xs, hc, hz, hq⟩ := hf
    obtain ⟨xi, n1, hl, hv⟩ := I.isL e hc
    have hlen : xi.length = xs.length := by rw [hv.length]; simp [vS]
    refine sorted_strs hl.isList (strsAre hv) (by omega) fun out ss' h1 h2 h3 => ?_
    obtain ⟨n, hat⟩ := sortedAll_at s.heap xi out
    have hl' : IsL (sortedAll s.heap xi out) (s.heap.objs.size + 1) out.toList.toArray n := by
      show _ = _
      rw [hat]
    obtain ⟨I', l, r'⟩ := newAt (t := s.toks) I I.tk (fun b o hb => sortedAll_old hb) (Heap.get?_none_of_le (Nat.le_succ _)) hl' (ofStrsAre (B := C.base) (μ := μ) (h := s.heap) h1)
    refine hQ _ _ _ _ _ l I' r' (hq _ ?_ ?_)
    · have := h2.map fun s : Str => s.cps.toList
      simpa [List.map_map, Function.comp_def] using this
    · exact List.pairwise_map.mpr (sortedS_pairwise h3)
  | _ => exact hf.elim
noncomputable def oList : Op1
  | .lst i, σ, Q, _ => ∃ vs, σ[i]? = some (.list vs) ∧ vs.length ≤ lim ∧ Q (.lst σ.length) (σ ++ [.list vs])
  | .str x, σ, Q, _ => x.length ≤ lim ∧ Q (.lst σ.length) (σ ++ [.list (vS (x.map fun c => [c]))])
  | _, _, _, _ => False
theorem signs_VRs {B μ h} : ∀ (x : List Nat) (vs : List Value), vs.length = x.length → (∀ (j : Nat) v, vs[j]? = some v → ∃ c u, x[j]? = some c ∧ v = Value.str ⟨#[c]⟩ u) → VRs B μ h (vS (x.map fun c => [c])) vs
  | [], [], _, _ => .nil
  | [], _ :: _, h, _ => by simp at h
  | _ :: _, [], h, _ => by simp at h
  | a :: x, v :: vs, h, hj => by
    obtain ⟨c, u, h1, h2⟩ := hj 0 v rfl
    simp at h1; subst h1; subst h2
    exact .cons (.str [a] u) (signs_VRs x vs (by simpa using h) fun j v hv => hj (j + 1) v (by simpa using hv))
theorem o_list : SoundO1 k .pl (fun u => call (.type "list") [u]) oList := by
  intro C hC A frs hA μ σ s I U u r Q E PQ PE hf hQ hE
  induction r using VR.casesOn with
  | @lst i a e =>
    obtain ⟨vs, hc, hz, hq⟩ := hf
    obtain ⟨xi, n1, hl, hv⟩ := I.isL e hc
    refine call_list_seq a (.inl rfl) hl rfl rfl (fun h' c' kp hn => ?_) (by simp only [List.size_toArray]; rw [hv.length]; exact Nat.le_trans hz lim_le)
    obtain ⟨I', l, r'⟩ := newAt (t := s.toks) I I.tk kp (fresh_size _) hn hv
    exact hQ _ _ _ _ _ l I' r' hq
  | str x t =>
    obtain ⟨hz, hq⟩ := hf
    refine wpAny_with_toks (n := 1) I.tk (call_list_str (hA.han rfl) _ _ (fun h' tk acc c' kp hn hit ht => ?_) (by simp only [List.size_toArray]; exact Nat.le_trans hz lim_le))
    have hv : VRs C.base μ s.heap (vS (x.map fun c => [c])) acc.toList := signs_VRs x acc.toList (by simpa using hit.1) fun j v hv => by
      obtain ⟨c, u, h1, h2⟩ := hit.2 j v (by simpa using hv)
      exact ⟨c, u, by simpa using h1, h2⟩
    obtain ⟨I', l, r'⟩ := newAt I ht kp (fresh_size _) (items := acc.toList) (n := c') (by show _ = _; rw [hn]) hv
    exact hQ _ _ _ _ _ l I' r' hq
  | _ => exact hf.elim
noncomputable def pick {α : Type} (xs : List α) (lo hi st : Option Int) : List α :=
  (sliceRange (sliceBounds lo hi st xs.length).1 (sliceBounds lo hi st xs.length).2.1 (sliceBounds lo hi st xs.length).2.2).filterMap (xs[·]?)
theorem VRs.pick {B μ h vs xs} (r : VRs B μ h vs xs) (lo hi st : Option Int) : VRs B μ h (Mine.pick vs lo hi st) (slicePick xs.toArray lo hi st).toList := by
  unfold Mine.pick slicePick
  simp only [List.size_toArray, r.length]
  generalize sliceRange (sliceBounds lo hi st vs.length).1 (sliceBounds lo hi st vs.length).2.1 (sliceBounds lo hi st vs.length).2.2 = idx
  show VRs B μ h _ (idx.filterMap fun x => xs.toArray[x]?)
  induction idx with
  | nil => exact .nil
  | cons i t ih =>
    rw [List.filterMap_cons, List.filterMap_cons]
    cases hv : vs[i]? with
    | none => have := r.none hv; simp only [List.getElem?_toArray] at ih ⊢; rw [this]; exact ih
    | some v =>
      obtain ⟨x, h1, h2⟩ := r.at hv
      simp only [List.getElem?_toArray] at ih ⊢
      rw [h1]
      exact .cons h2 ih
theorem VRs.ints {B μ h} : ∀ {xs : List Value} {is : List Int}, IntsAre xs is → VRs B μ h (vI is) xs
  | _, _, .nil => .nil
  | _, _, .cons i t r => .cons (.int i t) (VRs.ints r)
noncomputable def oSlice3 (U L H S : V) (σ : Sto) (Q : V → Sto → Prop) : Prop := ∃ lo hi st, asPart L = some lo ∧ asPart H = some hi ∧ asPart S = some st ∧ st ≠ some 0 ∧ match U with
  | .lst l => ∃ vs, σ[l]? = some (.list vs) ∧ vs.length ≤ lim ∧ Q (.lst σ.length) (σ ++ [.list (pick vs lo hi st)])
  | .rol is => is.length ≤ lim ∧ Q (.lst σ.length) (σ ++ [.list (vI (pick is lo hi st))])
  | _ => False
theorem vI_pick (is : List Int) (lo hi st : Option Int) : vI (pick is lo hi st) = pick (vI is) lo hi st := by
  unfold pick vI
  simp only [List.length_map, List.map_filterMap, List.getElem?_map]
theorem slice3_run {C A frs μ σ s U u L l H h S t} {Q : V → Sto → Prop} {PQ PE : Value → Shared → Prop} {value : Expr} {e1 e2 e3 : Option Expr} {p : Pos} (I : Inv C frs μ σ s) (rU : VR C.base μ s.heap U u) (rL : VR C.base μ s.heap L l) (rH : VR C.base μ s.heap H h) (rS : VR C.base μ s.heap S t)
    (hf : oSlice3 U L H S σ Q) (hQ : QC C frs μ s Q PQ) (hs : ∀ o i : Value, ∃ ops, subscripted (.Slice e1 e2 e3 p) false o i = operate ops (getItem o i)) :
    wpAny (Md C) A (subscriptTail value (.Slice e1 e2 e3 p) u (.ref s.heap.objs.size)) PQ PE { s with heap := s.heap.push { cls := .type "slice", data := .fields #[l, h, t] } } := by
  obtain ⟨ops, hs⟩ := hs u (.ref s.heap.objs.size)
  obtain ⟨lo, hi, st, h1, h2, h3, h0, hf⟩ := hf
  obtain ⟨ql, el, ml, pl⟩ := part_of rL h1
  obtain ⟨qh, eh, mh, ph⟩ := part_of rH h2
  obtain ⟨qs, es, ms, ps⟩ := part_of rS h3
  have kp := push_keeps s.heap { cls := .type "slice", data := .fields #[l, h, t] }
  have I' : Inv C frs μ σ { s with heap := s.heap.push { cls := .type "slice", data := .fields #[l, h, t] } } := I.keeps kp
  have hQ' := hQ.after (s' := { s with heap := s.heap.push { cls := .type "slice", data := .fields #[l, h, t] } }) (.of_keeps kp)
  have fin : ∀ (a : Addr) (xi : List Value) (vs : List V), (s.heap.push { cls := .type "slice", data := .fields #[l, h, t] }).IsList a xi.toArray → VRs C.base μ s.heap vs xi → vs.length ≤ lim → u = .ref a → Q (.lst σ.length) (σ ++ [.list (pick vs lo hi st)]) →
      wpAny (Md C) A (subscriptTail value (.Slice e1 e2 e3 p) u (.ref s.heap.objs.size)) PQ PE { s with heap := s.heap.push { cls := .type "slice", data := .fields #[l, h, t] } } := fun a xi vs hl hv hz e hq => by
    subst e
    refine tail_any (T := "list") hl.typeIs slot_list_getitem.lookup (wpAny_getItem_list_slice hl (Heap.IsSliceOf.new ..) pl ph ps h0 ?_ (by simp only [List.size_toArray]; rw [hv.length]; exact Nat.le_trans hz lim_le)) hs
    have v2 := (hv.mono I .nil (.of_keeps kp)).pick lo hi st
    have e : slicePick xi.toArray lo hi st = (slicePick xi.toArray lo hi st).toList.toArray := by simp
    rw [e]
    exact newList_run I' v2 hQ' hq _
  induction rU using VR.casesOn with
  | @lst i a e =>
    obtain ⟨vs, hc, hz, hq⟩ := hf
    obtain ⟨xi, n1, l1, v1⟩ := I.isL e hc
    exact fin a xi vs (l1.push _).isList v1 hz rfl hq
  | rol q1 q2 =>
    obtain ⟨hz, hq⟩ := hf
    rw [vI_pick] at hq
    obtain ⟨o, ho, hc, n, hdt⟩ := q1
    exact fin _ _ _ ⟨o, kp _ _ (I.base _ _ ho), hc, n, hdt⟩ (.ints q2) (by simpa [vI] using hz) rfl hq
  | _ => exact hf.elim
noncomputable def slice3 (a lo hi st : Ex) : Ex := fun vars σ Q E => a vars σ (fun x σ => lo vars σ (fun y σ => hi vars σ (fun z σ => st vars σ (fun w σ => oSlice3 x y z w σ Q) E) E) E) E
theorem s_slice3 {a : Expr} {lo hi st : Option Expr} {p pos : Pos} {fa' fl fh fs : Ex} (ha : SoundE k hd sc a fa') (hl : SoundP k hd sc lo fl) (hh : SoundP k hd sc hi fh) (hst : SoundP k hd sc st fs)
    (hs : ∀ o i : Value, ∃ ops, subscripted (.Slice lo hi st p) false o i = operate ops (getItem o i) := by intro _ _; exact ⟨_, rfl⟩) : SoundE k hd sc (.Subscript a (.Slice lo hi st p) pos) (slice3 fa' fl fh fs) :=
  .mk fun C hC A frs hA env vars μ σ s R I Q E PQ PE hf hQ hE => by
    refine Subscript_ (ha.run C hC A frs hA env vars μ σ s R I _ _ _ _ hf (fun U u σ1 μ1 s1 l1 I1 r1 hf1 => wpAny_Slice ?_) hE)
    have R1 := R.mono I l1
    refine hl.run C hC A frs hA env vars μ1 σ1 s1 R1 I1 _ _ _ _ hf1 (fun L l σ2 μ2 s2 l2 I2 r2 hf2 => ?_) (hE.after l1)
    have R2 := R1.mono I1 l2
    refine hh.run C hC A frs hA env vars μ2 σ2 s2 R2 I2 _ _ _ _ hf2 (fun H h σ3 μ3 s3 l3 I3 r3 hf3 => ?_) (hE.after (l1.trans l2))
    have R3 := R2.mono I2 l3
    refine hst.run C hC A frs hA env vars μ3 σ3 s3 R3 I3 _ _ _ _ hf3 (fun S t σ4 μ4 s4 l4 I4 r4 hf4 => ?_) (hE.after (l1.trans (l2.trans l3)))
    exact slice3_run I4 (r1.mono I1 .nil (l2.trans (l3.trans l4))) (r2.mono I2 .nil (l3.trans l4)) (r3.mono I3 .nil l4) r4 hf4 (hQ.after (l1.trans (l2.trans (l3.trans l4)))) hs
end
end Mine

namespace Mine
section
variable {k : Nat} {hd : Mo} {sc : Scope}
theorem lk_list_append : typeLookup (.type "list") "append" = pure (some (.builtin "list.append")) := by rw [typeLookup_type, builtinLookup_eq_fast]; kernel_rfl
theorem type_list_append : typeOf (.builtin "list.append") = pure (.type "method_descriptor") := F.type_list_append
theorem slot_md_get : Slot "method_descriptor" "__get__" "method_descriptor.__get__" :=
  .of (owner := "method_descriptor") (n := "__get__") (by rw [typeLookup_type, builtinLookup_eq_fast]; kernel_rfl) (by decide +kernel) (by decide +kernel) (by decide +kernel)
    (by first | exact .inl (by decide +kernel) | exact .inr (by decide +kernel)) (by rw [isSubtype_type]; kernel_rfl)
theorem entry_md_get : entryFor table "method_descriptor.__get__" = some Builtin.«method_descriptor.__get__» := entryFor_of_tree (by kernel_rfl)
theorem args_md_get (a b c : Value) : argsOk "method_descriptor.__get__" ⟨[a, b, c], []⟩ := by unfold argsOk; kernel_rfl
theorem lk_md_set : typeLookup (.type "method_descriptor") "__set__" = pure none := by rw [typeLookup_type, builtinLookup_eq_fast]; kernel_rfl
theorem lk_md_delete : typeLookup (.type "method_descriptor") "__delete__" = pure none := by rw [typeLookup_type, builtinLookup_eq_fast]; kernel_rfl
theorem sub_list_list : isSubtype (.type "list") (.type "list") = pure true := by rw [isSubtype_type]; kernel_rfl
section
variable {prog : Program} {w : World} {A : Around} {E : Value → Shared → Prop} {h : Heap} {g : Array GenState} {d : Drawn} {t : Nat} {os : OsState} {a : Addr} {o : Obj}
noncomputable abbrev bfm (a : Addr) : Obj := { cls := .type "builtin_function_or_method", data := .fields #[.builtin "list.append", .ref a] }
theorem md_get_run {R : Result → Shared → Prop} (hx : h.get? a = some o) (hc : o.cls = .type "list") (hq : R (.ok (.ret (.ref h.objs.size))) ⟨h.push (bfm a), g, d, t, os⟩) :
    codeAny (model prog w) A (.call (.builtin "method_descriptor.__get__") ⟨[.builtin "list.append", .ref a, .type "list"], []⟩) R ⟨h, g, d, t, os⟩ := by
  have hT : (⟨h, g, d, t, os⟩ : Shared).TypeIs (.ref a) "list" := ⟨_, hx, hc⟩
  have hT5 : (⟨h, g, d, t, os⟩ : Shared).TypeIs (.builtin "list.append") "method_descriptor" := type_list_append
  have f1 : Manifest.toldItsClass.contains "list.append" = false := by decide +kernel
  have f2 := sub_list_list
  refine codeAny_call_builtin slot_md_get.plain entry_md_get (slot_md_get.check _ _ _ _ _ _ _ _ hT5 (args_md_get _ _ _) ?_)
  unfold Builtin.«method_descriptor.__get__»
  refine wpAny_bind (wpAny_of_eq (a := (.builtin "list.append", some (.ref a), some (.type "list"))) (by first | rfl | kernel_rfl) ?_)
  dsimp only
  rw [if_neg (by rw [f1]; decide)]
  refine wpAny_bind ?_
  refine wpAny_bind ?_
  refine wpAny_of_eq (a := (Str.ofString "append", Value.type "list")) (by first | rfl | kernel_rfl) ?_
  refine wpAny_bind (wpAny_isInstance hT sub_list_list ?_)
  rw [if_neg (by decide)]
  refine wpAny_pure ?_
  exact wpAny_bind (wpAny_newObj_type (wpAny_pure hq))
theorem getattribute_run {tk : Tok} {Q : Fin → Shared → Prop} {items : Array Value} {n : Nat} (hx : IsL h a items n) (hq : Q (.done (.ret (.ref h.objs.size))) ⟨h.push (bfm a), g, d, t, os⟩) :
    wpAny (model prog w) A (Builtin.«object.__getattribute__» ⟨[.ref a, .str "append" tk], []⟩) Q E ⟨h, g, d, t, os⟩ := by
  have hT : (⟨h, g, d, t, os⟩ : Shared).TypeIs (.ref a) "list" := ⟨_, hx, rfl⟩
  have hT5 : (⟨h, g, d, t, os⟩ : Shared).TypeIs (.builtin "list.append") "method_descriptor" := type_list_append
  have f4 := lk_list_append
  have f5 := type_list_append
  have f6 := slot_md_get.lookup
  have f7 := lk_md_set
  have f8 := lk_md_delete
  repeat (any_goals (first | assumption | wp_step))
  exact md_get_run hx rfl (wpAny_pure hq)
theorem getAttr_append {Q : Value → Shared → Prop} {items : Array Value} {n : Nat} (hx : IsL h a items n) (hq : Q (.ref h.objs.size) ⟨h.push (bfm a), g, d, t + 1, os⟩) :
    wpAny (model prog w) A (getAttr (.ref a) "append" true) Q E ⟨h, g, d, t, os⟩ := by
  have hT : (⟨h, g, d, t + 1, os⟩ : Shared).TypeIs (.ref a) "list" := ⟨_, hx, rfl⟩
  have f2 := F.slot_list_getattribute.lookup
  have f3 := F.slot_list_getattribute.bind (.ref a)
  unfold getAttr
  refine wpAny_bind (wpAny_mkText ?_)
  repeat (any_goals (first | assumption | wp_step))
  refine codeAny_call_builtin F.slot_list_getattribute.plain F.entry_list_ga (F.slot_list_getattribute.check _ _ _ _ _ _ _ _ hT (F.args_list_getattribute_2 _ _) (getattribute_run hx ?_))
  repeat (any_goals (first | assumption | wp_step))
end
section
variable {prog : Program} {w : World} {A : Around} {E : Value → Shared → Prop} {s : Shared} {a : Addr}
theorem sub_list_module : isSubtype (.type "list") (.type "module") = pure false := by rw [isSubtype_type]; kernel_rfl
theorem check_app {v : Value} {items : Array Value} {n : Nat} {Q : Unit → Shared → Prop} (hx : IsL s.heap a items n) (hq : Q () s) : wpAny (model prog w) A (checkBoundCall "list.append" ⟨[.ref a, v], []⟩) Q E s := by
  obtain ⟨hp, g, d, tk, os⟩ := s
  have hT : (⟨hp, g, d, tk, os⟩ : Shared).TypeIs (.ref a) "list" := ⟨_, hx, rfl⟩
  have f1 := sub_list_module
  have hx' : hp.get? a = some { cls := .type "list", dict := none, data := .seq items n, slots := #[] } := hx
  unfold checkBoundCall
  repeat (any_goals (first | assumption | wp_step))
theorem if_so' {α : Type} {M : Model} {A : Around} {c : Prop} [Decidable c] {t u : Sem α} {Q : α → Shared → Prop} {E : Value → Shared → Prop} {s : Shared} (hc : c) (h : wpAny M A t Q E s) : wpAny M A (if c then t else u) Q E s := by rw [if_pos hc]; exact h
theorem call_app {x : Addr} {v : Value} {items : Array Value} {n : Nat} {Q : Value → Shared → Prop} (ho : s.heap.get? x = some (bfm a)) (hx : IsL s.heap a items n) (hsz : items.size ≤ sizeLine)
    (hq : Q .none { s with heap := s.heap.update a (Obj.mapSeq fun xs => xs.push v) }) : wpAny (model prog w) A (call (.ref x) [v]) Q E s := by
  refine wpAny_call (codeAny_of_tree ?_)
  show wpAny _ A.in1 (callAny (.ref x) ⟨[v], []⟩) _ _ s
  simp only [callAny]
  refine wpAny_bind (wpAny_load ho ?_)
  simp only [bfm, show (Value.type "builtin_function_or_method" == Value.type "method" || Value.type "builtin_function_or_method" == Value.type "builtin_function_or_method" || Value.type "builtin_function_or_method" == Value.type "method-wrapper") = true by decide, if_true]
  refine if_so' (by decide) ?_
  refine wpAny_bind (check_app hx ?_)
  refine wpAny_bind (wpAny_pure (wpAny_pure ?_))
  refine ⟨F.slot_list_append.plain |> fun h => plainId_quiet h _, codeAny_builtin entry_list_append ?_⟩
  rw [Around.under_plainId F.slot_list_append.plain _]
  exact PySem.list_append a items n v hsz prog w A (fun r s' => match r with | .ok (.ret v) => Q v s' | .ok _ => False | .error e => E e s') s ⟨hx, hq⟩
theorem callWith_app {pos : Pos} {u : Addr} {first : List Value} {args : List (Bool × Sem Value)} {Q : Value → Shared → Prop} (hplain : args.any (·.1) = false)
    (h : wpAny (model prog w) A (evalArgs (.ref u) true args []) (fun x s₁ => s₁.heap.get? u = some (bfm a) ∧ wpAny (model prog w) A (call (.ref u) (first ++ x.pos) x.kw) Q E s₁) E s) : wpAny (model prog w) A (callWith pos (.ref u) first args []) Q E s := by
  unfold callWith
  refine wpAny_bind (wpAny_holding (wpAny_mono h (fun x s₁ h₁ => wpAny_bind (wpAny_standAt ?_)) fun _ _ x => x))
  obtain ⟨ho, hcall⟩ := h₁
  simp only [hplain, List.any_nil, Bool.or_false]
  refine wpAny_bind (m := keeperOf (.ref u)) ?_
  unfold keeperOf
  refine wpAny_bind (wpAny_load ho ?_)
  simp only [bfm, show (Value.type "builtin_function_or_method" != Value.type "method") = true by decide, show (Value.type "builtin_function_or_method" == Value.type "builtin_function_or_method" || Value.type "builtin_function_or_method" == Value.type "method-wrapper") = true by decide, if_true]
  refine wpAny_pure ?_
  exact wpAny_bind (wpAny_mono hcall (fun r s₂ hr => wpAny_bind (wpAny_holding (wpAny_point (wpAny_pure hr)))) fun _ _ x => x)
end
noncomputable def asnApp (x y : String) : Sx := fun st Q _ => ∃ i vs, st.vars y = some (.v (.lst i)) ∧ st.sto[i]? = some (.list vs) ∧ Q .next { st with vars := upd st.vars x (.app i) }
theorem s_asnApp {x y p np ap pos} (hx : stK sc x = true) (hd1 : (Str.ofString y == ("__debug__" : Str)) = false := by decide +kernel) (hd2 : (Str.ofString y == ("__classdict__" : Str)) = false := by decide +kernel)
    (hs : ∀ env, swapsWith (.Attribute (.Name (Str.ofString y) np) (Str.ofString "append") ap) (some (.Name (Str.ofString x) p)) pos.line env = pure false := by intro _; rfl) :
    SoundS k hd sc (.Assign [.Name (Str.ofString x) p] (.Attribute (.Name (Str.ofString y) np) (Str.ofString "append") ap) pos) (asnApp x y) := .mk fun C hC A frs hA env μ st s F Q E PQ PE hf hQ hE => by
  obtain ⟨i, vs, hv, hc, hq⟩ := hf
  refine wpAny_Assign_Name (Attribute_name (wpAny_Name (load_run F.R hv (fun v r => ?_) hd2) hd1)) (hs env)
  cases r with
  | @lst _ a e =>
    obtain ⟨xi, n, hl, hvv⟩ := F.I.isL e hc
    obtain ⟨hp, g, d, t, os⟩ := s
    refine getAttr_append hl ?_
    have I' : Inv C frs μ st.sto ⟨hp.push (bfm a), g, d, t + 1, os⟩ := F.I.keeps (push_keeps _ _) rfl rfl (Nat.le_succ _)
    have l : Le (fa frs) [] μ hp μ (hp.push (bfm a)) := .of_keeps (push_keeps _ _)
    have F' : FI C env sc frs μ st ⟨hp.push (bfm a), g, d, t + 1, os⟩ := F.step l I'
    exact store_run F' hx (.app e (Heap.get?_push_size _ rfl)) fun s2 l2 F2 => hQ _ _ _ _ _ (l.ex.trans l2) F2 .next hq
noncomputable def appF (x : String) (f : Ex) : Ex := fun vars σ Q E => ∃ i, vars x = some (.app i) ∧ f vars σ (fun v σ => ∃ vs, σ[i]? = some (.list vs) ∧ vs.length < lim ∧ Q .none (σ.set i (.list (vs ++ [v])))) E
theorem load_app {C : Ct} {A env vars μ s} {x : String} {i : Nat} {Q : Value → Shared → Prop} {E} (R : EnvR C env sc vars μ s.heap) (hv : vars x = some (.app i)) (hq : ∀ v, WR C.base μ s.heap (.app i) v → Q v s)
    (hd2 : (Str.ofString x == ("__classdict__" : Str)) = false := by decide +kernel) : wpAny (Md C) A (loadName env (Str.ofString x)) Q E s := by
  have hk : env.scope.kind = .function := by rw [R.hsc]; exact R.kind
  rcases R.vars x _ hv with ⟨kd, m, v, h1, h2, h3⟩ | ⟨kd, c, v, h1, h2, h3⟩
  · exact wpAny_loadName_local hk kd h1 h2 (hq _ h3)
  · rcases kd with kd | kd
    · exact wpAny_loadName_cell hk kd h1 h2 (hq _ h3)
    · exact wpAny_loadName_free hk kd h1 h2 (hq _ h3) hd2
theorem s_app {x : String} {e : Expr} {p pos : Pos} {f : Ex} (he : SoundE k hd sc e f) (hd1 : (Str.ofString x == ("__debug__" : Str)) = false := by decide +kernel) (hd2 : (Str.ofString x == ("__classdict__" : Str)) = false := by decide +kernel)
    (hs : ∀ env, starEach [e] env = [(false, eval e env)] := by intro; rfl) : SoundE k hd sc (.Call (.Name (Str.ofString x) p) [e] [] pos) (appF x f) := .mk fun C hC A frs hA env vars μ σ s R I Q E PQ PE hf hQ hE => by
  obtain ⟨i, hv, hf⟩ := hf
  refine Call_Name1 (wpAny_Name (load_app R hv (fun v r => ?_) hd2) hd1) (hs env)
  cases r with
  | @app _ l u h1 h2 =>
    refine callWith_app (a := l) rfl (Calls.evalArgs_plain (Calls.spliced_cons (he.run C hC A frs hA env vars μ σ s R I _ _ _ _ hf (fun W w σ1 μ1 s1 l1 I1 r1 hq => Calls.spliced_nil ?_) hE)))
    obtain ⟨vs, hc, hz, hq⟩ := hq
    have h2' : s1.heap.get? u = some (bfm l) := (l1.keep _ _ h2 (I.neT h2 (.inl (by simp))) (I.notMu h2 (by simp) (by simp)) (by simp)).1 (I.notFa h2 (by simp))
    obtain ⟨xi, n, hl, hvv⟩ := I1.isL (l1.mu _ _ h1) hc
    refine ⟨h2', call_app h2' hl (by simp only [List.size_toArray]; rw [hvv.length]; exact Nat.le_trans (Nat.le_of_lt hz) lim_le) ?_⟩
    exact mapSeq_run I1 (l1.mu _ _ h1) hc hl (items' := xi ++ [w]) (by simp) (hvv.append (.cons r1 .nil)) (hQ.after l1) .none hq s1.toks
end
end Mine

namespace Mine
section
variable {k : Nat} {hd : Mo} {sc : Scope}
theorem setItem_run {prog : Program} {w : World} {A : Around} {E : Value → Shared → Prop} {s : Shared} {l : Addr} {items : Array Value} {n : Nat} {i : Int} {t : Tok} {v : Value} {Q : Unit → Shared → Prop} (hl : IsL s.heap l items n)
    (h0 : 0 ≤ i) (hfit : i < 2 ^ 63) (hn : i < items.size) (hQ : Q () { s with heap := s.heap.update l (Obj.mapSeq (·.setIfInBounds i.toNat v)) }) : wpAny (model prog w) A (setItem (.ref l) (.int i t) v) Q E s := by
  have hL := hl.isList
  unfold setItem
  try with_reducible refine wpAny_holding ?_
  first | refine wpAny_bind (wpAny_pure ?_) | skip
  refine wpAny_bind (wpAny_sequenceKey hL.typeIs (by decide) ?_)
  refine wpAny_bind (wpAny_callSpecial?_slot (name := Str.ofString "__setitem__") hL.typeIs slot_list_setitem
    (wpAny_call_entry slot_list_setitem hL.typeIs entry_list_setitem ?_ (args_list_setitem _ _ _)))
  show wpAny _ _ (Builtin.List.listSubscript? (.int i t) >>= _) _ _ s
  refine wpAny_bind (wpAny_listSubscript_int (fitsIndex_of h0 hfit) ?_)
  clear hfit
  obtain ⟨j, rfl⟩ := Int.eq_ofNat_of_zero_le h0
  have hj : j < items.size := by omega
  have hx' : items[j]? = some items[j] := Array.getElem?_eq_getElem hj
  show wpAny _ _ ((seqItemAt l j >>= fun r => pure (r.map (j, ·))) >>= _) _ _ s
  refine wpAny_bind (wpAny_bind (wpAny_seqItemAt hl rfl (wpAny_pure ?_)))
  rw [hx']
  show wpAny _ _ (setSeqItemAt l j v >>= _) _ _ s
  refine wpAny_bind (wpAny_setSeqItemAt hl rfl ?_)
  first
    | exact wpAny_bind (wpAny_pure (wpAny_pure ⟨.none, rfl, wpAny_pure hQ⟩))
    | exact wpAny_pure ⟨.none, rfl, wpAny_pure hQ⟩
noncomputable def setIdx (fo fi fv : Ex) : Sx := fun st Q E => fv st.vars st.sto (fun v σ => fo st.vars σ (fun o σ => fi st.vars σ (fun i σ => ∃ l n vs, o = .lst l ∧ i = .int n ∧ σ[l]? = some (.list vs) ∧ 0 ≤ n ∧ n < vs.length ∧ vs.length ≤ lim ∧ Q .next { st with sto := σ.set l (.list (vs.set n.toNat v)) }) (exE st E)) (exE st E)) (exE st E)
theorem VRs.set {B μ h vs xs} (r : VRs B μ h vs xs) (n : Nat) {V v} (x : VR B μ h V v) : VRs B μ h (vs.set n V) (xs.set n v) := by
  induction vs generalizing xs n with
  | nil => rw [r.nilI]; exact .nil
  | cons a as ih =>
    obtain ⟨z, zs, rfl, r1, r2⟩ := r.consI
    cases n with
    | zero => exact .cons x r2
    | succ n => exact .cons r1 (ih r2 n)
theorem s_setIdx {o i e p pos fo fi fv} (ho : SoundE k hd sc o fo) (hi : SoundE k hd sc i fi) (he : SoundE k hd sc e fv) (hs : ∀ env, swapsWith e (some (.Subscript o i p)) pos.line env = pure false := by intro _; rfl) :
    SoundS k hd sc (.Assign [.Subscript o i p] e pos) (setIdx fo fi fv) := .mk fun C hC A frs hA env μ st s F Q E PQ PE hf hQ hE => by
  refine wpAny_Assign_Subscript (he.run C hC A frs hA env st.vars μ st.sto s F.R F.I _ _ _ _ hf (fun V v σ1 μ1 s1 l1 I1 r1 hf1 => ?_) (hE.ex F)) (hs env)
  refine ho.run C hC A frs hA env st.vars μ1 σ1 s1 (F.R.mono F.I l1) I1 _ _ _ _ hf1 (fun U u σ2 μ2 s2 l2 I2 r2 hf2 => ?_) ((hE.ex F).after l1)
  refine hi.run C hC A frs hA env st.vars μ2 σ2 s2 ((F.R.mono F.I l1).mono I1 l2) I2 _ _ _ _ hf2 (fun W w σ3 μ3 s3 l3 I3 r3 hf3 => ?_) ((hE.ex F).after (l1.trans l2))
  obtain ⟨l, n, vs, rfl, rfl, hc, h0, hn, hz, hq⟩ := hf3
  cases r3 with | int _ t => ?_
  cases r2 with | @lst _ a e2 => ?_
  obtain ⟨xi, nn, hl, hv⟩ := I3.isL (l3.mu _ _ e2) hc
  have hlen := hv.length
  have z9 : lim = 1000000 := rfl
  have p63 : (2 : Int) ^ 63 = 9223372036854775808 := by decide
  refine setItem_run hl h0 (by omega) (by simp only [List.size_toArray]; omega) ?_
  have hl' := hl.update (·.setIfInBounds n.toNat v)
  have e3 : xi.toArray.setIfInBounds n.toNat v = (xi.set n.toNat v).toArray := by simp
  rw [e3] at hl'
  obtain ⟨I4, l4⟩ := I3.upd (s' := { s3 with heap := s3.heap.update a (Obj.mapSeq (·.setIfInBounds n.toNat v)) }) (l3.mu _ _ e2) hc (fun b hb => Heap.get?_update_other _ _ (Ne.symm hb)) hl' (hv.set n.toNat (r1.mono I1 .nil (l2.trans l3))) rfl rfl (Nat.le_refl _)
  have l5 : Le (fa frs) [] μ s.heap μ3 (s3.heap.update a (Obj.mapSeq (·.setIfInBounds n.toNat v))) := l1.trans (l2.trans (l3.trans l4))
  exact hQ _ _ _ _ { s3 with heap := _ } l5.ex (F.step l5 I4) .next hq
noncomputable def oRemove : Op2
  | .lst i, .str c, σ, Q, E => ∃ xs, σ[i]? = some (.list (vS xs)) ∧ xs.length < lim ∧ if c ∈ xs then Q .none (σ.set i (.list (vS (xs.erase c)))) else E .val σ
  | _, _, _, _, _ => False
theorem erase_idx {B μ h} (c : List Nat) {xs : List (List Nat)} : ∀ {vs : List Value}, VRs B μ h (vS xs) vs → c ∈ xs → ∃ j, ∃ hj : j < vs.length, eqS c vs[j] = true ∧ (∀ m (hm : m < vs.length), m < j → eqS c vs[m] = false) ∧ VRs B μ h (vS (xs.erase c)) (vs.eraseIdx j) := by
  induction xs with
  | nil => intro vs r hm; cases hm
  | cons a xs ih =>
    intro vs r hm
    obtain ⟨y, ys, rfl, r1, r2⟩ := VRs.consI r
    obtain ⟨t, rfl⟩ := r1.strI
    by_cases hac : a = c
    · subst hac
      refine ⟨0, by simp, by simp [eqS], fun m _ h0 => absurd h0 (Nat.not_lt_zero _), ?_⟩
      simp [List.erase_cons_head]; exact r2
    · obtain ⟨j, hj, h1, h2, h3⟩ := ih r2 ((List.mem_cons.mp hm).resolve_left fun h => hac h.symm)
      refine ⟨j + 1, by simpa using hj, by simpa using h1, fun m hm hlt => ?_, ?_⟩
      · cases m with
        | zero => simp only [List.getElem_cons_zero, eqS]; simpa using hac
        | succ m => simpa using h2 m (by simpa using hm) (by omega)
      · rw [List.erase_cons_tail (by simpa using hac)]
        exact .cons (.str _ t) h3
theorem s_remove {o e : Expr} {apos pos : Pos} {fo fe : Ex} (ho : SoundE k .pl sc o fo) (he : SoundE k .pl sc e fe)
    (hbase : ∀ env, attributeBase o (Str.ofString "remove") env (eval o env) = eval o env := by intro; rfl) (hs : ∀ env, starEach [e] env = [(false, eval e env)] := by intro; rfl) (hline : (apos.endLine == pos.line) = true := by rfl) :
    SoundE k .pl sc (.Call (.Attribute o (Str.ofString "remove") apos) [e] [] pos) (lm1 oRemove fo fe) :=
  .mk fun C hC A frs hA env vars μ σ s R I Q E PQ PE hf hQ hE => wpAny_with_toks (n := 1) I.tk (lm1_run ho he F.slot_list_remove F.type_list_remove hbase hs hline hC hA R I hf (fun V v σ' μ' s' l I' r hq _ => hQ V v σ' μ' s' l I' r hq) (fun x e σ' μ' s' l I' y hx _ => hE x e σ' μ' s' l I' y hx) fun a x s1 hx => seqMethod1_meets F.slot_list_remove F.entry_list_remove (wpAny_mono hx (fun v s' h => by
    obtain ⟨i, W, σ', μ', l, I', e1, r2, hop⟩ := h
    induction r2 using VR.casesOn with
    | str c t =>
      obtain ⟨xs, hc, hz, hif⟩ := hop
      obtain ⟨xi, n1, hl, v1⟩ := I'.isL e1 hc
      have hEq := eqGives_strs c t v1
      refine ⟨⟨_, hl, rfl⟩, F.args_list_remove_2 _ _, ?_⟩
      have hsz : xi.toArray.size ≤ sizeLine := by simp only [List.size_toArray]; rw [v1.length]; simpa [vS] using Nat.le_trans (Nat.le_of_lt hz) lim_le
      by_cases hm : c ∈ xs
      · rw [if_pos hm] at hif
        obtain ⟨j, hj, h1, h2, h3⟩ := erase_idx c v1 hm
        refine ⟨_, MeetsSeq.list_remove a xi.toArray n1 (.str ⟨c.toArray⟩ t) (eqS c) (fun y hy => hEq y (by simpa using hy)) j (by simpa using hj) (by simpa using h1) (fun m hm' hlt => by simpa using h2 m (by simpa using hm') hlt) hsz, hl, ?_⟩
        show (1 ≤ _ → PQ .none _)
        intro _
        exact mapSeq_run (f := fun xs => xs.eraseIdxIfInBounds j) I' e1 hc hl (items' := xi.eraseIdx j) (by simp [Array.eraseIdxIfInBounds, hj]) h3 (hQ.after l) .none hif s'.toks
      · rw [if_neg hm] at hif
        refine ⟨_, MeetsSeq.list_remove_none a xi.toArray n1 (.str ⟨c.toArray⟩ t) (eqS c) (fun y hy => hEq y (by simpa using hy)) (fun m hm' => ?_), hl, hA.han rfl, fun h' tk e hx => ?_⟩
        · have hany := any_strs (h := s'.heap) c v1
          rw [decide_eq_false hm, List.any_eq_false] at hany
          simpa using hany _ (List.getElem_mem (by simpa using hm'))
        · show (1 ≤ _ → PE _ _)
          intro ht
          have I2 : Inv C frs μ' σ' { s' with heap := h', toks := tk } := (keepT I' ht hx.keeps).1
          refine hE _ _ _ _ _ (l.trans (.of_keeps hx.keeps)) I2 ?_ hif
          obtain ⟨ob, tt, q1, q2, q3⟩ := hx.there
          exact ⟨e, ob, _, rfl, l.none hx.new, q1, ⟨q2, by rw [q2]; simp [OC]⟩, q3, by simp, fun _ => rfl, .inl rfl⟩
    | _ => exact hop.elim) fun _ _ e => e))
end
end Mine

namespace Mine
section
variable {k : Nat} {hd : Mo} {sc : Scope}
noncomputable def fstr (a : List Nat) (f : Ex) (b : List Nat) : Ex := fun vars σ Q E => f vars σ (fun v σ => ∃ x, v = .str x ∧ a.length + x.length + b.length ≤ lim ∧ Q (.str (a ++ x ++ b)) σ) E
theorem str_app (x y : List Nat) : ((⟨x.toArray⟩ : Str) ++ ⟨y.toArray⟩) = ⟨(x ++ y).toArray⟩ := by
  show (⟨x.toArray ++ y.toArray⟩ : Str) = _
  simp
theorem s_fstr {a b : Str} {la lb : List Nat} {e : Expr} {n n' : Nat} {p p' fp pos : Pos} {f : Ex} (he : SoundE k hd sc e f) (ha : a.cps.toList = la := by decide +kernel) (hb : b.cps.toList = lb := by decide +kernel) (hz0 : la.length ≤ lim := by decide +kernel)
    (hev : ∀ env, evalEach [.Constant (.str a) n p, .FormattedValue e (-1) none fp, .Constant (.str b) n' p'] env = [eval (.Constant (.str a) n p) env, eval (.FormattedValue e (-1) none fp) env, eval (.Constant (.str b) n' p') env] := by intro; rfl) :
    SoundE k hd sc (.JoinedStr [.Constant (.str a) n p, .FormattedValue e (-1) none fp, .Constant (.str b) n' p'] pos) (fstr la f lb) := .mk fun C hC A frs hA env vars μ σ s R I Q E PQ PE hf hQ hE => by
  subst ha hb
  refine wpAny_JoinedStr ?_
  rw [hev]
  have z : lim ≤ sizeLine := lim_le
  have I1 : Inv C frs μ σ { s with toks := s.toks + 1 } := I.toks _
  have R1 : EnvR C env sc vars μ ({ s with toks := s.toks + 1 } : Shared).heap := R
  have fin : ∀ (tk : Tok) (x : List Nat) (σ' : Sto) (μ' : List Addr) (s' : Shared), Le (fa frs) [] μ s.heap μ' s'.heap → Inv C frs μ' σ' s' → a.cps.toList.length + x.length + b.cps.toList.length ≤ lim → Q (.str (a.cps.toList ++ x ++ b.cps.toList)) σ' →
      ∃ y t, Value.str ⟨x.toArray⟩ tk = Value.str y t ∧ ((Str.empty ++ a) ++ y).length ≤ sizeLine ∧ Joins (Md C) A PE [eval (.Constant (.str b) n' p') env] ((Str.empty ++ a) ++ y) (fun out s₁ => out.length ≤ sizeLine ∧ PQ (.str out s₁.toks) { s₁ with toks := s₁.toks + 1 }) s' := fun tk x σ' μ' s' l I' hz hq => by
    have ea : (Str.empty ++ a) = ⟨a.cps.toList.toArray⟩ := by
      show (⟨#[] ++ a.cps⟩ : Str) = _
      simp
    have eb : b = ⟨b.cps.toList.toArray⟩ := by simp
    refine ⟨_, _, rfl, ?_, ?_⟩
    · rw [ea, str_app, Str.len_mk, List.length_append]; omega
    · show wpAny _ _ (eval (.Constant (.str b) n' p') env) _ _ _
      refine Calls.Constant_str ⟨b, _, rfl, ?_, ?_, ?_⟩
      · rw [ea, eb, str_app, str_app, Str.len_mk, List.length_append, List.length_append]; simp only [Array.toArray_toList] at *; omega
      · rw [ea, eb, str_app, str_app, Str.len_mk, List.length_append, List.length_append]; simp only [Array.toArray_toList] at *; omega
      · rw [ea, eb, str_app, str_app]
        have e3 : (⟨b.cps.toList.toArray⟩ : Str).cps.toList = b.cps.toList := by simp
        refine hQ (.str (a.cps.toList ++ x ++ b.cps.toList)) _ _ _ _ l (I'.toks _) ?_ hq
        exact .str _ _
  show wpAny _ _ (eval (.Constant (.str a) n p) env) _ _ _
  refine Calls.Constant_str ⟨a, _, rfl, ?_, ?_⟩
  · have ea : (Str.empty ++ a) = ⟨a.cps.toList.toArray⟩ := by
      show (⟨#[] ++ a.cps⟩ : Str) = _
      simp
    rw [ea, Str.len_mk]; exact Nat.le_trans hz0 z
  · show wpAny _ _ (eval (.FormattedValue e (-1) none fp) env) _ _ _
    refine wpAny_FormattedValue_plain (he.run C hC A frs hA env vars μ σ _ R1 I1 _ _ _ _ hf (fun V v σ' μ' s' l I' r hq => ?_) (hE.after (μ' := μ) (s' := { s with toks := s.toks + 1 }) .refl))
    obtain ⟨x, rfl, hz, hq⟩ := hq
    cases r with | str _ tk => ?_
    exact wpAny_formatField_str (fin tk x σ' μ' s' l I' hz hq) (fin _ x σ' μ' _ l (I'.toks _) hz hq) (by rw [Str.len_mk]; omega)
noncomputable def dblX (c : Nat) (f : Ex) : Ex := fun vars σ Q E => f vars σ (fun v σ => ∃ x, v = .str x ∧ x.length ≤ lim ∧ Q (.str (StrLaws.dbl c x)) σ) E
theorem s_dbl {o : Expr} {y z : Str} {c : Nat} {n n' : Nat} {p p' apos pos : Pos} {f : Ex} (ho : SoundE k hd sc o f) (hy : y = ⟨#[c]⟩ := by decide +kernel) (hz : z = ⟨#[c, c]⟩ := by decide +kernel)
    (hbase : ∀ env, attributeBase o (Str.ofString "replace") env (eval o env) = eval o env := by intro; rfl)
    (hs : ∀ env, starEach [.Constant (.str y) n p, .Constant (.str z) n' p'] env = [(false, eval (.Constant (.str y) n p) env), (false, eval (.Constant (.str z) n' p') env)] := by intro; rfl) (hline : (apos.endLine == pos.line) = true := by rfl) :
    SoundE k hd sc (.Call (.Attribute o (Str.ofString "replace") apos) [.Constant (.str y) n p, .Constant (.str z) n' p'] [] pos) (dblX c f) := .mk fun C hC A frs hA env vars μ σ s R I Q E PQ PE hf hQ hE => by
  subst hy hz
  refine wpAny_with_toks (n := 1) I.tk (Call_method2 (hbase env) (hs env) hline (ho.run C hC A frs hA env vars μ σ s R I _ _ _ _ hf (fun V v σ' μ' s' l I' r hq => ?_) (fun x e σ' μ' s' l I' y hx _ => hE x e σ' μ' s' l I' y hx)))
  obtain ⟨x, rfl, hl, hq⟩ := hq
  cases r with | str _ t => ?_
  refine ⟨"str", _, F.plainAttrs_str, F.slot_str_replace, F.type_str_replace, typeIs_str _ _ _, (fun _ e => nomatch e), ?_⟩
  refine Calls.callWith_builtin rfl (Calls.evalArgs_plain (Calls.spliced_cons (Calls.Constant_str (Calls.spliced_cons (Calls.Constant_str (Calls.spliced_nil ?_))))))
  have hlm : lim = 1000000 := rfl
  have tk := I'.tk
  show wpAny _ _ (call (.builtin "str.replace") [.str ⟨x.toArray⟩ t, .str ⟨#[c]⟩ s'.toks, .str ⟨#[c, c]⟩ (s'.toks + 1)]) _ _ _
  refine SC.replaceW (by show ¬ s'.toks = 0; omega) (by show ¬ s'.toks + 1 = 0; omega) (by show ¬ s'.toks = s'.toks + 1; omega) ?_ (by rw [Str.len_mk]; omega) (by show 2 ≤ 14; decide) (fun t' kk ht => ?_)
  · rfl
  · have e : Txt.replace (⟨x.toArray⟩ : Str) ⟨#[c]⟩ ⟨#[c, c]⟩ = ⟨(StrLaws.dbl c x).toArray⟩ := by
      have := StrLaws.replace_double ⟨x.toArray⟩ c
      simp only at this
      rw [← this]
    rw [e]
    exact hQ _ _ _ _ _ l (I'.anyToks _ ht) (.str _ _) hq
end
end Mine

namespace Mine
section
variable {k : Nat} {hd : Mo} {sc : Scope}
noncomputable def bindV (ps : List String) (Vs : List V) : Vars := fun y => ((ps.zip Vs).lookup y).map Wv.v
theorem bindL_notin {kd : Str → Option NameKind} {n : Str} : ∀ {binds : List (Str × Value)} {m}, n ∉ binds.map (·.1) → bindL kd binds m n = m n
  | [], _, _ => rfl
  | (a, v) :: r, m, h => by
    rw [List.map_cons, List.mem_cons, not_or] at h
    unfold bindL
    rw [bindL_notin h.2]
    split
    · exact if_neg h.1
    · rfl
theorem bindC_notin {kd : Str → Option NameKind} {n : Str} : ∀ {binds : List (Str × Value)} {m}, n ∉ binds.map (·.1) → bindC kd binds m n = m n
  | [], _, _ => rfl
  | (a, v) :: r, m, h => by
    rw [List.map_cons, List.mem_cons, not_or] at h
    unfold bindC
    rw [bindC_notin h.2]
    split
    · rfl
    · exact if_neg h.1
theorem bindL_get {kd : Str → Option NameKind} {n : Str} {v : Value} (hk : kd n = some .local) : ∀ {binds : List (Str × Value)} {m}, (binds.map (·.1)).Nodup → (n, v) ∈ binds → bindL kd binds m n = some v
  | (a, u) :: r, m, hn, h => by
    rw [List.map_cons, List.nodup_cons] at hn
    unfold bindL
    rcases List.mem_cons.mp h with q | h
    · cases q; rw [bindL_notin hn.1, if_pos hk]; exact if_pos rfl
    · exact bindL_get hk hn.2 h
theorem bindC_get {kd : Str → Option NameKind} {n : Str} {v : Value} (hk : kd n = some .cell) : ∀ {binds : List (Str × Value)} {m}, (binds.map (·.1)).Nodup → (n, v) ∈ binds → bindC kd binds m n = some v
  | (a, u) :: r, m, hn, h => by
    rw [List.map_cons, List.nodup_cons] at hn
    unfold bindC
    rcases List.mem_cons.mp h with q | h
    · cases q; rw [bindC_notin hn.1, if_neg (by rw [hk]; decide)]; exact if_pos rfl
    · exact bindC_get hk hn.2 h
theorem cells_has {x : Str} : ∀ {names : List (Str × NameKind)} {n : Nat} {acc : List (Str × Addr)}, ((x, NameKind.cell) ∈ names ∨ (acc.lookup x).isSome = true) → ((cellsFrom n names acc).lookup x).isSome = true
  | [], n, acc, h => by
    rcases h with h | h
    · cases h
    · exact h
  | (a, kd) :: r, n, acc, h => by
    unfold cellsFrom
    split
    · rename_i hk
      refine cells_has ?_
      rcases h with h | h
      · rcases List.mem_cons.mp h with q | h
        · cases q; right; rw [List.lookup_cons, beq_self_eq_true]; rfl
        · exact .inl h
      · right
        rw [List.lookup_cons]
        cases x == a with
        | true => rfl
        | false => exact h
    · rename_i hk
      refine cells_has ?_
      rcases h with h | h
      · rcases List.mem_cons.mp h with q | h
        · cases q; exact absurd rfl hk
        · exact .inl h
      · exact .inr h
theorem lookup_mem : ∀ {l : List (Str × Addr)} {n : Str} {c : Addr}, (l.map (·.1)).Nodup → (n, c) ∈ l → l.lookup n = some c
  | (a, b) :: r, n, c, hn, h => by
    rw [List.map_cons, List.nodup_cons] at hn
    rw [List.lookup_cons]
    rcases List.mem_cons.mp h with q | h
    · cases q; rw [beq_self_eq_true]
    · cases hna : n == a with
      | true => exact absurd (List.mem_map.mpr ⟨_, h, rfl⟩) (by rw [eq_of_beq hna]; exact hn.1)
      | false => exact lookup_mem hn.2 h
theorem cells_keys : ∀ {names : List (Str × NameKind)} {n : Nat} {acc : List (Str × Addr)}, (names.map (·.1)).Nodup → (acc.map (·.1)).Nodup → (∀ x ∈ names.map (·.1), x ∉ acc.map (·.1)) → ((cellsFrom n names acc).map (·.1)).Nodup
  | [], _, _, _, h, _ => h
  | (a, kd) :: r, n, acc, h1, h2, h3 => by
    rw [List.map_cons, List.nodup_cons] at h1
    unfold cellsFrom
    split
    · refine cells_keys h1.2 ?_ fun x hx => ?_
      · rw [List.map_cons, List.nodup_cons]; exact ⟨h3 a (.head _), h2⟩
      · rw [List.map_cons, List.mem_cons, not_or]
        refine ⟨?_, h3 x (.tail _ hx)⟩
        rintro rfl
        exact h1.1 hx
    · exact cells_keys h1.2 h2 fun x hx => h3 x (.tail _ hx)
theorem bindV_get {B μ h} : ∀ {ps : List String} {Vs : List V} {vs : List Value} {y : String} {w : Wv}, VRs B μ h Vs vs → bindV ps Vs y = some w → ∃ V v, w = .v V ∧ VR B μ h V v ∧ (Str.ofString y, v) ∈ (ps.map Str.ofString).zip vs ∧ y ∈ ps
  | [], _, _, _, _, _, e => by simp [bindV] at e
  | _ :: _, _, _, _, _, .nil, e => by simp [bindV] at e
  | p :: ps, V :: Vs, v :: vs, y, w, .cons r rs, e => by
    unfold bindV at e
    rw [List.zip_cons_cons, List.lookup_cons] at e
    cases hy : y == p with
    | true =>
      rw [hy] at e
      cases e
      rw [eq_of_beq hy]
      exact ⟨V, v, rfl, r, .head _, .head _⟩
    | false =>
      rw [hy] at e
      obtain ⟨V', v', h1, h2, h3, h4⟩ := bindV_get (ps := ps) rs (show bindV ps Vs y = some w from e)
      exact ⟨V', v', h1, h2, .tail _ h3, .tail _ h4⟩
section
variable {M : Model} {A : Around} {E : Value → Shared → Prop} {s : Shared}
theorem newEnv_one {scope : Scope} {globals : Addr} {n : Str} {v : Value} {qual : Str} {func : Option Addr} {code : Value} {builtins : Addr} {Q : Env → Shared → Prop} (hk : scope.kind = .function) (hl : scope.names.lookup n = some .local)
    (hQ : ∀ env, env = newEnv scope s.heap.objs.size globals (cellsFrom (s.heap.objs.size + 1) scope.names []) qual func code none builtins →
      ∀ s', 1 ≤ s'.toks → InCallC s env.locals (bindL env.kindOf [(n, v)] fun _ => none) env.cells (bindC env.kindOf [(n, v)] fun _ => none) s' → Q env s') :
    wpAny M A (newFunctionEnv scope globals [] [(n, v)] qual func code none builtins) Q E s := by
  simp only [newFunctionEnv, Option.isSome_none, Bool.false_eq_true, if_false]
  refine wpAny_bind (wpAny_alloc ?_)
  refine wpAny_bind (wpAny_layCells _ (fun name kind cells => by cases hkc : kind == NameKind.cell <;> simp [hkc]) _ _ _ _ ?_)
  have ok := cellsFrom_ok scope.names (s.heap.push { cls := .type "frame", data := .dict #[] }) (s.heap.objs.size + 1) [] ⟨fun _ _ hm => (nomatch hm), List.Pairwise.nil⟩ (by rw [Heap.size_push]; exact Nat.le_refl _)
  rw [Heap.size_push] at ok
  rw [show ({ s with heap := s.heap.push { cls := .type "frame", data := .dict #[] } } : Shared).heap.objs.size = s.heap.objs.size + 1 from Heap.size_push ..]
  generalize henv : newEnv scope s.heap.objs.size globals (cellsFrom (s.heap.objs.size + 1) scope.names []) qual func code none builtins = env
  have e0 : env.kindOf n = some .local := by subst henv; exact hl
  have x : InCallC s env.locals (fun _ => none) env.cells (fun _ => none) { s with heap := pushCells (s.heap.push { cls := .type "frame", data := .dict #[] }) scope.names } := by
    subst henv
    exact ⟨⟨⟨_, _, rfl⟩, (Heap.Ns.new s.heap (.type "frame")).keeps (pushCells_keeps _ _), fun b o e => pushCells_keeps _ _ b o (Heap.get?_push_of_some _ e), Nat.le_refl _⟩,
      fun n c hc => (ok.empty n c (mem_of_lookup hc)).1, ok.apart, fun n c hm => (ok.empty n c hm).2⟩
  have hkk : env.scope.kind = .function := by subst henv; exact hk
  have fin : wpAny M A (storeName env n v) (fun _ s' => Q env s') E { s with heap := pushCells (s.heap.push { cls := .type "frame", data := .dict #[] }) scope.names } := by
    refine wpAny_storeName_local e0 x.toInCall.ns (fun h' hn' hs' => hQ env henv.symm _ (by dsimp only; omega) ⟨⟨⟨h', _, rfl⟩, ?_, fun b o e => ?_, x.toInCall.fresh⟩, fun k c hc => ?_, x.apart, x.above⟩) (by rw [hkk]; rfl)
    · unfold bindL bindL; rw [if_pos e0]; exact hn'
    · exact hs'.extBut b o (Nat.ne_of_lt (Nat.lt_of_lt_of_le (Heap.lt_size e) x.toInCall.fresh)) (x.toInCall.keep b o e)
    · have hb : bindC env.kindOf [(n, v)] (fun _ => none) = fun _ => none := by unfold bindC bindC; rw [if_pos e0]
      rw [hb]
      exact (x.cell k c hc).sameBut hs' (Nat.ne_of_gt (x.above k c (mem_of_lookup hc)))
  subst henv
  rw [List.forIn_cons]
  refine wpAny_bind (wpAny_bind (wpAny_bind (wpAny_mono fin (fun _ s' h => wpAny_pure ?_) fun _ _ h => h)))
  dsimp only
  rw [List.forIn_nil]
  exact wpAny_pure (wpAny_pure h)
end
section
variable {prog : Program} {w : World} {A : Around} {s : Shared}
theorem codeAny_call_cellsT {R : Result → Shared → Prop} {a : Addr} {o : Obj} {fd : FuncData} {body : List Stmt} {vals : List Value} {binds : List (Str × Value)} (htk : 1 ≤ s.toks ∨ ∃ n v, binds = [(n, v)] ∧ fd.scope.names.lookup n = some .local)
    (hroom : A.depth < recursionLimit) (ho : s.heap.get? a = some o) (hdata : o.data = .func fd) (hlim : s.heap.NoLimit) (hcd : s.heap.CodeRec fd.code fd.qualname)
    (hbody : fd.body = .stmts body) (hbind : bindArgs fd ⟨vals, []⟩ = pure binds) (hclo : fd.closure = [])
    (hkind : ∀ x ∈ binds, fd.scope.names.lookup x.1 = some .local ∨ (fd.scope.names.lookup x.1 = some .cell ∧ ((cellsFrom (s.heap.objs.size + 1) fd.scope.names []).lookup x.1).isSome = true))
    (h : ∀ s₁, 1 ≤ s₁.toks → InCallC s (callEnvC fd s.heap.objs.size a).locals (bindL (callEnvC fd s.heap.objs.size a).kindOf binds fun _ => none) (callEnvC fd s.heap.objs.size a).cells
        (bindC (callEnvC fd s.heap.objs.size a).kindOf binds fun _ => none) s₁ →
      wpAny (model prog w) (A.deeper (callEnvC fd s.heap.objs.size a)) (execs body (callEnvC fd s.heap.objs.size a)) (fun f s' => R (.ok (.ret (match f with | .ret v => v | _ => .none))) s')
        (fun e s' => wpAny (model prog w) (A.deeper (callEnvC fd s.heap.objs.size a)) (leaving (callEnvC fd s.heap.objs.size a) e) (fun _ s'' => R (.error e) s'') (fun e' s'' => R (.error e') s'') s') s₁)
    (hco : fd.scope.isCoroutine = false) (hgen : fd.scope.isGenerator = false) (hk : fd.scope.kind = .function) :
    codeAny (model prog w) A (.call (.ref a) ⟨vals, []⟩) R s := by
  refine codeAny_call_function hroom ho hdata hco hgen hbody hcd ?_
  rw [hbind, hclo]
  have go : ∀ env, env = newEnv fd.scope s.heap.objs.size fd.globals (cellsFrom (s.heap.objs.size + 1) fd.scope.names []) (fd.qualname ++ ".<locals>.") (some a) fd.code none fd.builtins → ∀ s', 1 ≤ s'.toks → InCallC s env.locals (bindL env.kindOf binds fun _ => none) env.cells (bindC env.kindOf binds fun _ => none) s' →
      s'.heap.NoLimit ∧ codeAny (model prog w) A (.func body env) R s' := fun env he s' ht x => by
    subst he
    exact ⟨hlim.keeps x.toInCall.keep, codeAny_func (h s' ht x)⟩
  refine wpAny_pure ?_
  rcases htk with htk | ⟨n, v, rfl, hl⟩
  · exact wpAny_with_toks (n := 1) htk (wpAny_newFunctionEnv_cells hk hkind fun env he s' x ht => go env he s' ht x)
  · exact newEnv_one hk hl fun env he s' ht x => go env he s' ht x
end
noncomputable def paramsOk (sc : Scope) (ps : List String) : Bool :=
  decide ((ps.map Str.ofString).Nodup) && (ps.all fun p => sc.names.lookup (Str.ofString p) == some .local || sc.names.lookup (Str.ofString p) == some .cell) && sc.kind == .function && !sc.isCoroutine && !sc.isGenerator && decide ((sc.names.map (·.1)).Nodup)
theorem Le.back {F F' O : List Addr} {μ μ' : List Addr} {h0 h1 h' : Heap} (kp : ∀ b o, h0.get? b = some o → h1.get? b = some o) (hF : ∀ b o, h0.get? b = some o → b ∈ F' → b ∈ F) (hO : ∀ b o, h0.get? b = some o → b ∉ O) (l : Le F' O μ h1 μ' h') : Le F [] μ h0 μ' h' := by
  obtain ⟨ν, q1, q2⟩ := l.ext
  have l1 : Le F [] μ h0 μ h1 := .of_keeps kp
  exact ⟨⟨ν, q1, fun b hb => l1.none (q2 b hb)⟩, fun b o hb nt hmu _ => (l.keep b o (kp b o hb) nt hmu (hO b o hb)).imp (fun q hf => q fun hm => hf (hF b o hb hm)) id, fun b o hb => l.live b o (kp b o hb), fun ps e q => l.tab ps (kp _ _ e) (q.mono (.of_keeps kp))⟩
theorem Inv.tl {C e frs μ σ s} (I : Inv C (e :: frs) μ σ s) : Inv C frs μ σ s :=
  { base := I.base, bmu := I.bmu, bnt := I.bnt, tab := I.tab, len := I.len, nd := I.nd, cells := I.cells, gens := I.gens, os := I.os, tk := I.tk, han := I.han, fr := fun env he => I.fr env (.tail _ he) }
theorem enter_of {x : String} {d : DefRec} {ps : List String} {f : Sx} {spec : Spec'} (hd : (recsOf PySem.Challenge.pw_in0164_01).find? (fun e => e.name == Str.ofString x) = some d) (hs : SoundSs k .pl d.scope d.body f) (hok : paramsOk d.scope ps = true)
    (hbind : ∀ pm code doc vs, vs.length = ps.length → bindArgs (Calls.docDef d.name d.params d.body d.scope pm code doc) ⟨vs, []⟩ = pure ((ps.map Str.ofString).zip vs))
    (hspec : ∀ Vs σ Q E, spec Vs σ Q E → Vs.length = ps.length ∧ f ⟨bindV ps Vs, σ⟩ (fun fl st => match fl with | .ret v => Q v st.sto | .next => Q .none st.sto | _ => False) (fun x st => E x st.sto)) :
    ∀ C, COk C → ∃ f o fd, C.mg (Str.ofString x) = some (.ref f) ∧ C.base.get? f = some o ∧ o.data = .func fd ∧
      ∀ (A : Around) (frs : List Env) (_ : AOk C A frs (k + 1) .pl) (μ : List Addr) (σ : Sto) (s : Shared) (_ : Inv C frs μ σ s) (Vs : List V) (vs : List Value) (_ : VRs C.base μ s.heap Vs vs) (Q : V → Sto → Prop) (E : X → Sto → Prop) (PQ PE : Value → Shared → Prop),
        spec Vs σ Q E → QC C frs μ s Q PQ → EC C frs μ s E PE → ∀ t0, (1 ≤ t0 ∨ ∃ p, ps = [p] ∧ d.scope.names.lookup (Str.ofString p) = some .local) → codeAny (Md C) A (.call (.ref f) ⟨vs, []⟩) (backR PQ PE) { s with toks := t0 } := fun C hC => by
  have hn : d.name = Str.ofString x := beq_iff_eq.mp (List.find?_some (p := fun e : DefRec => e.name == Str.ofString x) hd)
  refine hide fun H out => ?_
  obtain ⟨a, o, pm, code, doc, h1, h2, h3, h4⟩ := hC.fns d (List.mem_of_find?_eq_some hd)
  unfold paramsOk at hok
  simp only [Bool.and_eq_true, Bool.not_eq_true', decide_eq_true_eq] at hok
  obtain ⟨⟨⟨⟨⟨k1, k2⟩, k3⟩, k4⟩, k5⟩, k6⟩ := hok
  refine out ⟨a, o, _, hn ▸ h1, h2, h3, fun A frs hA μ σ s I Vs vs rs Q E PQ PE hf hQ hE t0 ht0 => ?_⟩
  obtain ⟨hlen, hf⟩ := hspec _ _ _ _ hf
  have hvl : vs.length = ps.length := by rw [rs.length, hlen]
  have hdep := hA.depth
  have hkinds : ∀ y ∈ (ps.map Str.ofString).zip vs, d.scope.names.lookup y.1 = some .local ∨ (d.scope.names.lookup y.1 = some .cell ∧ ((cellsFrom (s.heap.objs.size + 1) d.scope.names []).lookup y.1).isSome = true) := fun y hy => by
    have hm := (List.of_mem_zip hy).1
    obtain ⟨p, hp, e⟩ := List.mem_map.mp hm
    have := List.all_eq_true.mp k2 p hp
    rw [Bool.or_eq_true] at this
    rw [← e]
    rcases this with q | q
    · exact .inl (eq_of_beq q)
    · exact .inr ⟨eq_of_beq q, cells_has (.inl (mem_of_lookup (eq_of_beq q)))⟩
  refine codeAny_call_cellsT (fd := Calls.docDef d.name d.params d.body d.scope pm code doc) (body := d.body) (s := { s with toks := t0 }) (ht0.imp id fun ⟨p, hp, hl⟩ => by subst hp; obtain ⟨v, e⟩ := List.length_eq_one_iff.mp hvl; exact ⟨_, v, by rw [e]; rfl, hl⟩) (by show _ < 1000; omega) (I.base _ _ h2) h3 (hC.nolimit.keeps I.base) (h4.keeps I.base) rfl (hbind pm code doc vs hvl) rfl hkinds (fun s₁ ht hin => ?_) k4 k5 (eq_of_beq k3)
  replace hin : InCallC s _ _ _ _ s₁ := ⟨⟨hin.toInCall.same, hin.toInCall.ns, hin.toInCall.keep, hin.toInCall.fresh⟩, hin.cell, hin.apart, hin.above⟩
  generalize hfd : Calls.docDef d.name d.params d.body d.scope pm code doc = fd at hin ⊢
  have e_sc : fd.scope = d.scope := by rw [← hfd]; rfl
  have e_cd : fd.code = code := by rw [← hfd]; rfl
  have e_qn : fd.qualname ++ ".<locals>." = d.name ++ ".<locals>." := by rw [← hfd]; rfl
  have e_gl : fd.globals = mainGlobals := by rw [← hfd]; rfl
  have e_bl : fd.builtins = builtinsNs := by rw [← hfd]; rfl
  have hLs : s.heap.get? s.heap.objs.size = none := fresh_size _
  have kp : ∀ b o, s.heap.get? b = some o → s₁.heap.get? b = some o := hin.toInCall.keep
  have notbase : ∀ b, s.heap.objs.size ≤ b → C.base.get? b = none := fun b hb => by
    cases hq : C.base.get? b with
    | none => rfl
    | some o => exact absurd (Heap.lt_size (I.base _ _ hq)) (Nat.not_lt.mpr hb)
  refine hide fun H out => ?_
  obtain ⟨hh, tk, es⟩ := hin.toInCall.same
  have hns := hin.toInCall.ns
  have I1 : Inv C frs μ σ s₁ := by
    subst es
    exact (keepT I ht kp).1
  have l1 : Le (fa frs) [] μ s.heap μ s₁.heap := .of_keeps kp
  have hL : (callEnvC fd s.heap.objs.size a).locals = s.heap.objs.size := rfl
  have hfr : ∀ env ∈ callEnvC fd s.heap.objs.size a :: frs, FrOk C s₁.heap env := fun env he => by
    rcases List.mem_cons.mp he with rfl | he
    · obtain ⟨o', es', ep, ho', hd', _⟩ := id hns
      exact ⟨_, o', es', ep, rfl, notbase _ (Nat.le_refl _), ho', hd', by show fd.scope.kind ≠ _; rw [e_sc, eq_of_beq k3]; decide, d, a, o, pm, code, doc, List.mem_of_find?_eq_some hd, h1, h2, hfd ▸ h3, e_sc, e_cd, e_qn⟩
    · exact I1.fr env he
  have Ie : Inv C (callEnvC fd s.heap.objs.size a :: frs) μ σ s₁ := { base := I1.base, bmu := I1.bmu, bnt := I1.bnt, tab := I1.tab, len := I1.len, nd := I1.nd, cells := I1.cells, gens := I1.gens, os := I1.os, tk := I1.tk, han := I1.han, fr := hfr }
  have kd : ∀ n, (callEnvC fd s.heap.objs.size a).kindOf n = d.scope.names.lookup n := fun n => by show fd.scope.names.lookup n = _; rw [e_sc]
  have hnd : (((ps.map Str.ofString).zip vs).map (·.1)).Nodup := by
    rw [List.map_fst_zip (by simp [hvl])]; exact k1
  have F : FI C (callEnvC fd s.heap.objs.size a) d.scope (callEnvC fd s.heap.objs.size a :: frs) μ ⟨bindV ps Vs, σ⟩ s₁ := by
    refine ⟨⟨e_sc, eq_of_beq k3, e_gl, e_bl, ⟨_, hns⟩, fun y w hy => ?_⟩, ⟨⟨frs, rfl⟩, rfl, notbase _ (Nat.le_refl _), fun p hp => ?_, hin.apart, fun y hy => ?_⟩, Ie⟩
    · obtain ⟨V, v, rfl, r, hm, hyp⟩ := bindV_get rs hy
      have r1 : WR C.base μ s₁.heap (.v V) v := .v (r.mono I .nil l1)
      have := List.all_eq_true.mp k2 y hyp
      rw [Bool.or_eq_true] at this
      rcases this with q | q
      · have hk : (callEnvC fd s.heap.objs.size a).kindOf (Str.ofString y) = some .local := by rw [kd]; exact eq_of_beq q
        exact .inl ⟨hk, _, v, hns, bindL_get hk hnd hm, r1⟩
      · have hk : (callEnvC fd s.heap.objs.size a).kindOf (Str.ofString y) = some .cell := by rw [kd]; exact eq_of_beq q
        obtain ⟨c, hc⟩ := Option.isSome_iff_exists.mp (show ((callEnvC fd s.heap.objs.size a).cells.lookup (Str.ofString y)).isSome = true from cells_has (.inl (by rw [e_sc]; exact mem_of_lookup (eq_of_beq q))))
        have hcell := hin.cell _ _ hc
        rw [bindC_get hk hnd hm] at hcell
        exact .inr ⟨.inl hk, c, v, hc, hcell, r1⟩
    · obtain ⟨n, c⟩ := p
      have hab := hin.above n c hp
      refine ⟨notbase _ (Nat.le_of_lt hab), ?_⟩
      have hkn : ((callEnvC fd s.heap.objs.size a).cells.map (·.1)).Nodup := cells_keys (by rw [e_sc]; exact k6) List.nodup_nil (fun _ _ h => nomatch h)
      exact ⟨_, hin.cell n c (lookup_mem hkn hp)⟩
    · exact cells_has (.inl (by rw [e_sc]; exact mem_of_lookup hy))
  have hA' : AOk C (A.deeper (callEnvC fd s.heap.objs.size a)) (callEnvC fd s.heap.objs.size a :: frs) k .pl := ⟨Around.frames_deeper hA.frames, by show A.depth + 1 + k < 900; omega, by have := hA.units; show A.units + 3 + 4 * k < 9000; omega, fun _ => hA.han rfl, fun q => nomatch q⟩
  have back : ∀ μ' (h' : Heap), Le (fa (callEnvC fd s.heap.objs.size a :: frs)) (own (callEnvC fd s.heap.objs.size a)) μ s₁.heap μ' h' → Le (fa frs) [] μ s.heap μ' h' := fun μ' h' l => by
    refine Le.back kp (fun b o hb hm => ?_) (fun b o hb hm => ?_) l
    · exact (List.mem_cons.mp (show b ∈ s.heap.objs.size :: fa frs from hm)).resolve_left (Nat.ne_of_lt (Heap.lt_size hb))
    · rcases List.mem_cons.mp hm with e | hm
      · exact Nat.ne_of_lt (Heap.lt_size hb) e
      · obtain ⟨⟨n, c⟩, hp, e⟩ := List.mem_map.mp hm
        exact Nat.lt_irrefl _ (Nat.lt_trans (hin.above n c hp) (by rw [show c = b from e]; exact Heap.lt_size hb))
  refine out (hs.run C hC _ _ hA' _ μ _ s₁ F _ _ _ _ hf (fun fl flow st' μ' s' l F' r hq => ?_) (fun x e st' μ' s' l F' y hq => ?_))
  · cases r with
    | next => exact hQ _ _ _ _ _ (back _ _ l) F'.I.tl .none hq
    | ret r => exact hQ _ _ _ _ _ (back _ _ l) F'.I.tl r hq
    | brk => exact hq.elim
    | cont => exact hq.elim
  · refine leaving_run hA'.frames F' F.I l y fun h' l' F'' y' => ?_
    exact hE _ _ _ _ { s' with heap := h' } (back _ _ l') F''.I.tl (ExcIn.older (C := C) l1 y'.ex) hq
theorem contract_of {x : String} {d : DefRec} {ps : List String} {f : Sx} {spec : Spec'} (hd : (recsOf PySem.Challenge.pw_in0164_01).find? (fun e => e.name == Str.ofString x) = some d) (hs : SoundSs k .pl d.scope d.body f) (hok : paramsOk d.scope ps = true)
    (hbind : ∀ pm code doc vs, vs.length = ps.length → bindArgs (Calls.docDef d.name d.params d.body d.scope pm code doc) ⟨vs, []⟩ = pure ((ps.map Str.ofString).zip vs))
    (hspec : ∀ Vs σ Q E, spec Vs σ Q E → Vs.length = ps.length ∧ f ⟨bindV ps Vs, σ⟩ (fun fl st => match fl with | .ret v => Q v st.sto | .next => Q .none st.sto | _ => False) (fun x st => E x st.sto)) :
    Contract k x spec := fun C hC => by
  obtain ⟨f, o, fd, h1, h2, h3, h⟩ := enter_of hd hs hok hbind hspec C hC
  exact ⟨f, o, fd, h1, h2, h3, fun A frs hA μ σ s I Vs vs rs Q E PQ PE hf hQ hE => h A frs hA μ σ s I Vs vs rs Q E PQ PE hf hQ hE s.toks (.inl I.tk)⟩
end
end Mine

namespace Mine
section
theorem t_true {k hd sc n pos} : SoundT k hd sc (.Constant (.bool true) n pos) (tlit true) := .mk fun C hC A frs hA env vars μ σ s R I Q E PQ PE hf hQ hE => by
  refine wpAny_isTrue_value (show wpAny _ _ (pure (Value.bool true)) _ _ _ from wpAny_pure (wpAny_truthy_bool (hQ _ _ _ _ .refl I hf))) rfl
noncomputable def stmtAt (n : Nat) : Stmt := PySem.Challenge.pw_in0164_01.main.body.getD n (.Pass ⟨0, 0, 0, 0⟩)
noncomputable def recAt (n : Nat) : DefRec := match stmtAt n with
  | .FunctionDef name a b _ _ _ sc _ _ pos => ⟨name, a, b, sc, pos⟩
  | _ => ⟨"", default, [], default, ⟨0, 0, 0, 0⟩⟩
theorem blt_of {x : String} {v : Value} (h : bltOk (Str.ofString x) = true) (hv : bootBuiltins (Str.ofString x) = some v) : bltF x v := fun C hC => by
  have h' := h
  unfold bltOk at h
  simp only [Bool.and_eq_true, Bool.not_eq_true', List.contains_eq_mem, decide_eq_false_iff_not, beq_eq_false_iff_ne] at h
  exact ⟨hC.names.1 _ h', (hC.names.2 _ h.2).trans hv⟩
theorem b_len : bltF "len" (.builtin "len") := blt_of (by decide +kernel) (by decide +kernel)
theorem b_sum : bltF "sum" (.builtin "sum") := blt_of (by decide +kernel) (by decide +kernel)
theorem b_max : bltF "max" (.builtin "max") := blt_of (by decide +kernel) (by decide +kernel)
theorem b_min : bltF "min" (.builtin "min") := blt_of (by decide +kernel) (by decide +kernel)
theorem b_sorted : bltF "sorted" (.builtin "sorted") := blt_of (by decide +kernel) (by decide +kernel)
theorem b_list : bltF "list" (.type "list") := blt_of (by decide +kernel) (by decide +kernel)
theorem b_object : bltF "object" (.type "object") := blt_of (by decide +kernel) (by decide +kernel)
theorem b_range : bltF "range" (.type "range") := blt_of (by decide +kernel) (by decide +kernel)
theorem b_IndexError : bltF (tyOf .idx) (.type (tyOf .idx)) := blt_of (x := "IndexError") (by decide +kernel) (by decide +kernel)
theorem b_ValueError : bltF (tyOf .val) (.type (tyOf .val)) := blt_of (x := "ValueError") (by decide +kernel) (by decide +kernel)
theorem b_isinstance : bltF "isinstance" (.builtin "isinstance") := blt_of (by decide +kernel) (by decide +kernel)
theorem b_str : bltF "str" (.type "str") := blt_of (by decide +kernel) (by decide +kernel)
end
end Mine

namespace Mine
section
noncomputable abbrev S := List Nat
theorem atI_nat {α : Type} (xs : List α) (k : Nat) : atI xs (k : Int) = xs[k]? := by unfold atI; rw [if_pos (by omega)]; simp
theorem ext_get {σ ν : Sto} {i : Nat} {c : Cell} (h : σ[i]? = some c) : (σ ++ ν)[i]? = some c := by
  rw [List.getElem?_append_left (List.getElem?_eq_some_iff.mp h).1]; exact h
theorem new_get (σ : Sto) (c : Cell) : (σ ++ [c])[σ.length]? = some c := by simp
theorem atI_last {α : Type} (xs : List α) (b : α) : atI (xs ++ [b]) (-1) = some b := by
  unfold atI
  rw [if_neg (by decide), if_pos (by simp; omega)]
  have e : (-1 + ((xs ++ [b]).length : Int)).toNat = xs.length := by simp; omega
  rw [e]; simp
theorem at_get (σ : Sto) (c : Cell) (ν : Sto) : (σ ++ c :: ν)[σ.length]? = some c := by simp
theorem at_set (σ : Sto) (c d : Cell) (ν : Sto) : (σ ++ c :: ν).set σ.length d = σ ++ d :: ν := by simp
theorem app2 (σ : Sto) (c : Cell) (ν μ : Sto) : (σ ++ c :: ν) ++ μ = σ ++ c :: (ν ++ μ) := by simp
theorem nat_pos9 {k : Nat} (h : k < 1000000) : (-(10 ^ 9 : Int) < (k : Int) ∧ (k : Int) < 10 ^ 9) := by
  have p9 : (10 : Int) ^ 9 = 1000000000 := by decide
  rw [p9]; omega
theorem is_lst {σ : Sto} {i : Nat} {xs : List V} (h : σ[i]? = some (.list xs)) : isList (.lst i) σ := ⟨_, _, rfl, h⟩
theorem is_at {σ ν : Sto} {xs : List V} : isList (.lst σ.length) (σ ++ .list xs :: ν) := is_lst (at_get _ _ _)
theorem app_at {σ ν : Sto} {xs : List V} {v : V} {Q E} (hl : xs.length < 1000000) (h : Q .none (σ ++ .list (xs ++ [v]) :: ν)) : oAppend (.lst σ.length) v (σ ++ .list xs :: ν) Q E := ⟨xs, at_get _ _ _, hl, by rw [at_set]; exact h⟩
theorem vS_app (xs ys : List S) : vS (xs ++ ys) = vS xs ++ vS ys := by simp [vS]
theorem vS_len (xs : List S) : (vS xs).length = xs.length := by simp [vS]
theorem app_str {σ ν : Sto} {xs : List S} {x : S} {Q E} (hl : xs.length < 1000000) (h : Q .none (σ ++ .list (vS (xs ++ [x])) :: ν)) : oAppend (.lst σ.length) (.str x) (σ ++ .list (vS xs) :: ν) Q E :=
  app_at (by rw [vS_len]; exact hl) (by rw [vS_app] at h; exact h)
theorem at_other {σ ν : Sto} {c : Cell} (d : Cell) {l : Nat} (h : l ≠ σ.length) {x} (e : (σ ++ c :: ν)[l]? = x) : (σ ++ d :: ν)[l]? = x := by
  rw [← e]
  rcases Nat.lt_or_gt_of_ne h with q | q
  · rw [List.getElem?_append_left q, List.getElem?_append_left q]
  · rw [List.getElem?_append_right (by omega), List.getElem?_append_right (by omega)]
    obtain ⟨m, hm⟩ : ∃ m, l - σ.length = m + 1 := ⟨l - σ.length - 1, by omega⟩
    rw [hm]; simp
theorem at_get1 (σ : Sto) (a b : Cell) (ν : Sto) : (σ ++ a :: b :: ν)[σ.length + 1]? = some b := by
  have := at_get (σ ++ [a]) b ν
  simpa using this
theorem at_set1 (σ : Sto) (a b c : Cell) (ν : Sto) : (σ ++ a :: b :: ν).set (σ.length + 1) c = σ ++ a :: c :: ν := by
  have := at_set (σ ++ [a]) b c ν
  simpa using this
noncomputable def TV (t : Tx) (vars : Vars) (σ : Sto) (c : Bool) : Prop := ∀ Q E, Q c σ → t vars σ Q E
noncomputable def EV (f : Ex) (vars : Vars) (σ : Sto) (v : V) : Prop := ∀ Q E, Q v σ → f vars σ Q E
theorem ifS_true {t : Tx} {a b : Sx} {st : St} {Q E} (h : TV t st.vars st.sto true) (k : a st Q E) : ifS t a b st Q E := h _ _ (by rw [if_pos rfl]; exact k)
theorem ifS_false {t : Tx} {a b : Sx} {st : St} {Q E} (h : TV t st.vars st.sto false) (k : b st Q E) : ifS t a b st Q E := h _ _ (by rw [if_neg (by decide)]; exact k)
theorem TV.andT {a b : Tx} {vars σ c} (h : TV a vars σ true) (k : TV b vars σ c) : TV (tand a b) vars σ c := fun Q E q => h _ _ (by rw [if_pos rfl]; exact k _ _ q)
theorem TV.andF {a b : Tx} {vars σ} (h : TV a vars σ false) : TV (tand a b) vars σ false := fun Q E q => h _ _ (by rw [if_neg (by decide)]; exact q)
theorem TV.orT {a b : Tx} {vars σ} (h : TV a vars σ true) : TV (tor a b) vars σ true := fun Q E q => h _ _ (by rw [if_pos rfl]; exact q)
theorem TV.orF {a b : Tx} {vars σ c} (h : TV a vars σ false) (k : TV b vars σ c) : TV (tor a b) vars σ c := fun Q E q => h _ _ (by rw [if_neg (by decide)]; exact k _ _ q)
theorem TV.lit {vars σ c} : TV (tlit c) vars σ c := fun Q E q => q
theorem TV.not {a : Tx} {vars σ c} (h : TV a vars σ c) : TV (tnot a) vars σ (!c) := fun Q E q => h _ _ q
theorem TV.bool {x : String} {vars : Vars} {σ c} (h : vars x = some (.v (.bool c))) : TV (tval (var x)) vars σ c := fun Q E q => ⟨_, h, q⟩
theorem TV.eqS {f g : Ex} {vars σ a b} (h : EV f vars σ (.str a)) (k : EV g vars σ (.str b)) : TV (tcmp (oEqNe false) f g) vars σ (decide (a = b)) := fun Q E q => h _ _ (k _ _ ⟨_, rfl, by rw [Bool.bne_false]; exact q⟩)
theorem EV.str {vars σ} {l : S} : EV (cstr l) vars σ (.str l) := fun Q E q => q
theorem EV.int {vars σ} {i : Int} : EV (cint i) vars σ (.int i) := fun Q E q => q
theorem EV.var {x : String} {vars : Vars} {σ v} (h : vars x = some (.v v)) : EV (var x) vars σ v := fun Q E q => ⟨_, h, q⟩
theorem EV.add {f g : Ex} {vars σ a b} (h : EV f vars σ (.int a)) (k : EV g vars σ (.int b)) : EV (op2 oAdd f g) vars σ (.int (a + b)) := fun Q E q => h _ _ (k _ _ q)
theorem EV.idx {f g : Ex} {vars σ} {s : S} {i : Nat} {c : Nat} (h : EV f vars σ (.str s)) (k : EV g vars σ (.int i)) (hi : i < 1000000) (hc : s[i]? = some c) : EV (op2 oIdx f g) vars σ (.str [c]) := fun Q E q => h _ _ (k _ _ ⟨nat_pos9 hi, c, by rw [atI_nat]; exact hc, q⟩)
theorem EV.slc {f g k : Ex} {vars σ} {s : S} {i j : Int} (h : EV f vars σ (.str s)) (h1 : EV g vars σ (.int i)) (h2 : EV k vars σ (.int j)) (hs : s.length ≤ 1000000) : EV (slice f g k) vars σ (.str (slc s (some i) (some j))) := fun Q E q => h _ _ (h1 _ _ (h2 _ _ ⟨_, _, rfl, rfl, hs, q⟩))
theorem TV.inS {f g : Ex} {vars σ c} {l : S} (h : EV f vars σ (.str [c])) (k : EV g vars σ (.str l)) : TV (tcmp (oIn false) f g) vars σ (decide (c ∈ l)) := fun Q E q => h _ _ (k _ _ ⟨c, rfl, _, rfl, by rw [Bool.bne_false]; exact q⟩)
theorem EV.len {f : Ex} {vars σ} {s : S} (h : EV f vars σ (.str s)) (hs : s.length ≤ 1000000) : EV (op1 oLen f) vars σ (.int s.length) := fun Q E q => h _ _ ⟨hs, q⟩
theorem TV.lt {f g : Ex} {vars σ} {a b : Int} (h : EV f vars σ (.int a)) (k : EV g vars σ (.int b)) : TV (tcmp oLt f g) vars σ (decide (a < b)) := fun Q E q => h _ _ (k _ _ ⟨_, rfl, q⟩)
theorem EV.none {vars σ} : EV cnone vars σ .none := fun Q E q => q
theorem EV.neg {f : Ex} {vars σ} {i : Int} (h : EV f vars σ (.int i)) : EV (op1 oNeg f) vars σ (.int (-i)) := fun Q E q => h _ _ q
theorem EV.slcG {f g k : Ex} {vars σ} {s : S} {y z : V} {lo hi : Option Int} (h : EV f vars σ (.str s)) (h1 : EV g vars σ y) (h2 : EV k vars σ z) (e1 : asPart y = some lo) (e2 : asPart z = some hi) (hs : s.length ≤ 1000000) : EV (slice f g k) vars σ (.str (Mine.slc s lo hi)) := fun Q E q => h _ _ (h1 _ _ (h2 _ _ ⟨_, _, e1, e2, hs, q⟩))
theorem TV.neS {f g : Ex} {vars σ a b} (h : EV f vars σ (.str a)) (k : EV g vars σ (.str b)) : TV (tcmp (oEqNe true) f g) vars σ (!decide (a = b)) := fun Q E q => h _ _ (k _ _ ⟨_, rfl, by rw [Bool.bne_true]; exact q⟩)
theorem TV.and {a b : Tx} {vars σ c d} (h : TV a vars σ c) (k : TV b vars σ d) : TV (tand a b) vars σ (c && d) := by
  cases c
  · exact TV.andF h
  · exact TV.andT h k
theorem TV.to {a : Tx} {vars σ c d} (h : TV a vars σ c) (e : c = d) : TV a vars σ d := e ▸ h
theorem EV.idxL {f g : Ex} {vars σ} {l : Nat} {vs : List V} {i : Nat} {v : V} (h : EV f vars σ (.lst l)) (k : EV g vars σ (.int i)) (hl : σ[l]? = some (.list vs)) (hi : i < 1000000) (hc : vs[i]? = some v) : EV (op2 oIdx f g) vars σ v := fun Q E q => h _ _ (k _ _ ⟨nat_pos9 hi, vs, hl, by rw [atI_nat, hc]; exact q⟩)
theorem EV.lenL {f : Ex} {vars σ} {l : Nat} {vs : List V} (h : EV f vars σ (.lst l)) (hl : σ[l]? = some (.list vs)) (hs : vs.length ≤ 1000000) : EV (op1 oLen f) vars σ (.int vs.length) := fun Q E q => h _ _ ⟨vs, hl, hs, q⟩
theorem TV.isStr {neg : Bool} {f g : Ex} {vars σ s o} (h : EV f vars σ (.str s)) (k : EV g vars σ (.ob o)) : TV (tcmp (oIs neg) f g) vars σ neg := fun Q E q => h _ _ (k _ _ ⟨false, rfl, (fun _ _ h => by cases h), (fun _ _ h => by cases h), _, rfl, by simpa using q⟩)
theorem TV.isOb {neg : Bool} {f g : Ex} {vars σ o} (h : EV f vars σ (.ob o)) (k : EV g vars σ (.ob o)) (ho : σ[o]? = some .obj) : TV (tcmp (oIs neg) f g) vars σ (!neg) := fun Q E q => h _ _ (k _ _ ⟨true, by simp [isV], (fun i j h1 h2 => by cases h1; cases h2; exact ⟨ho, ho⟩), (fun _ _ h => by cases h), _, rfl, by simpa using q⟩)
theorem TV.eqI {f g : Ex} {vars σ} {a b : Int} (h : EV f vars σ (.int a)) (k : EV g vars σ (.int b)) : TV (tcmp (oEqNe false) f g) vars σ (decide (a = b)) := fun Q E q => h _ _ (k _ _ ⟨_, rfl, by rw [Bool.bne_false]; exact q⟩)
theorem seq_run {a b : Sx} {st : St} {Q : Fl → St → Prop} {E} (h : a st (fun fl st => match fl with | .next => b st Q E | fl => Q fl st) E) : seq a b st Q E := h
theorem EV.join {vars σ} {l : Nat} {xs : List S} {f : Ex} (h : EV f vars σ (.lst l)) (hl : σ[l]? = some (.list (vS xs))) (hs : xs.flatten.length ≤ 1000000) : EV (sm1 oJoin (cstr []) f) vars σ (.str xs.flatten) := fun Q E q => ⟨⟨_, rfl⟩, h _ _ ⟨xs, hl, hs, q⟩⟩
theorem EV.fstr {vars σ} {a b x : S} {f : Ex} (h : EV f vars σ (.str x)) (hs : a.length + x.length + b.length ≤ 1000000) : EV (fstr a f b) vars σ (.str (a ++ x ++ b)) := fun Q E q => h _ _ ⟨x, rfl, hs, q⟩
theorem asn_run {x : String} {f : Ex} {vars : Vars} {σ : Sto} {v : V} {Q : Fl → St → Prop} {E} (h : EV f vars σ v) (k : Q .next ⟨upd vars x (.v v), σ⟩) : asn x f ⟨vars, σ⟩ Q E := h _ _ k
theorem EV.app {f g : Ex} {vars σ} {x y : S} (h : EV f vars σ (.str x)) (k : EV g vars σ (.str y)) (hl : x.length + y.length ≤ 1000000) : EV (op2 oAdd f g) vars σ (.str (x ++ y)) := fun Q E q => h _ _ (k _ _ ⟨hl, q⟩)
theorem EV.call1 {p : Spec'} {f : Ex} {vars σ} {v r : V} (h : EV f vars σ v) (k : ∀ Q E, Q r σ → p [v] σ Q E) : EV (callF p (xcons f xnil)) vars σ r := fun Q E q => h _ _ (k _ _ q)
theorem EV.dbl {f : Ex} {vars σ} {x : S} {c : Nat} (h : EV f vars σ (.str x)) (hl : x.length ≤ 1000000) : EV (dblX c f) vars σ (.str (StrLaws.dbl c x)) := fun Q E q => h _ _ ⟨x, rfl, hl, q⟩
theorem TV.str {f : Ex} {vars σ} {x : S} (h : EV f vars σ (.str x)) (hl : x.length ≤ 1000000) : TV (tval f) vars σ (!x.isEmpty) := fun Q E q => h _ _ ⟨hl, q⟩
theorem TV.lst {f : Ex} {vars σ} {l : Nat} {xs : List V} (h : EV f vars σ (.lst l)) (hc : σ[l]? = some (.list xs)) (hl : xs.length ≤ 1000000) : TV (tval f) vars σ (!xs.isEmpty) := fun Q E q => h _ _ ⟨xs, hc, hl, q⟩
theorem TV.ge {f g : Ex} {vars σ} {a b : Int} (h : EV f vars σ (.int a)) (k : EV g vars σ (.int b)) : TV (tcmp oGe f g) vars σ (decide (b ≤ a)) := fun Q E q => h _ _ (k _ _ ⟨_, rfl, q⟩)
theorem TV.notInS {f g : Ex} {vars σ c} {l : S} (h : EV f vars σ (.str [c])) (k : EV g vars σ (.str l)) : TV (tcmp (oIn true) f g) vars σ (!decide (c ∈ l)) := fun Q E q => h _ _ (k _ _ ⟨c, rfl, _, rfl, by rw [Bool.bne_true]; exact q⟩)
theorem EV.two {f g : Ex} {vars σ} {a b : V} (h : EV f vars σ a) (k : EV g vars σ b) : EV (tup (xcons f (xcons g xnil))) vars σ (.tup [a, b]) := fun Q E q => h _ _ (k _ _ ⟨by show 2 ≤ 1000000; decide, q⟩)
theorem TV.inT {f g : Ex} {vars σ} {c : S} {xs : List S} (h : EV f vars σ (.str c)) (k : EV g vars σ (.tup (vS xs))) : TV (tcmp (oIn false) f g) vars σ (decide (c ∈ xs)) := fun Q E q => h _ _ (k _ _ ⟨xs, rfl, _, rfl, by rw [Bool.bne_false]; exact q⟩)
theorem EV.last {f : Ex} {vars σ} {l : Nat} {xs : List V} {v : V} (h : EV f vars σ (.lst l)) (hc : σ[l]? = some (.list (xs ++ [v]))) : EV (op2 oIdx f (op1 oNeg (cint 1))) vars σ v := fun Q E q => by
  refine h _ _ ?_
  show oIdx (.lst l) (.int (-1)) σ Q E
  refine ⟨by decide, _, hc, ?_⟩
  rw [atI_last]; exact q
noncomputable def EE (f : Ex) (vars : Vars) (σ : Sto) (v : V) : Prop := ∀ Q E, (∀ ν, Q v (σ ++ ν)) → f vars σ Q E
noncomputable def EL (f : Ex) (vars : Vars) (σ : Sto) (xs : List V) : Prop := ∀ Q E, (∀ ν l, (σ ++ ν)[l]? = some (.list xs) → Q (.lst l) (σ ++ ν)) → f vars σ Q E
noncomputable def TE (t : Tx) (vars : Vars) (σ : Sto) (c : Bool) : Prop := ∀ Q E, (∀ ν, Q c (σ ++ ν)) → t vars σ Q E
noncomputable def IE (f : Itx) (vars : Vars) (σ : Sto) (all : List V) : Prop := ∀ Q E, (∀ (ν : Sto) (d : It), d.items = all → (∀ μ, d.chk ((σ ++ ν) ++ μ)) → Q d (σ ++ ν)) → f vars σ Q E
theorem EV.ee {f vars σ v} (h : EV f vars σ v) : EE f vars σ v := fun Q E q => h _ _ (by have := q []; rwa [List.append_nil] at this)
theorem TV.te {f vars σ v} (h : TV f vars σ v) : TE f vars σ v := fun Q E q => h _ _ (by have := q []; rwa [List.append_nil] at this)
theorem EL.var {x : String} {vars : Vars} {σ : Sto} {l : Nat} {xs : List V} (h : vars x = some (.v (.lst l))) (hl : σ[l]? = some (.list xs)) : EL (var x) vars σ xs := fun Q E q => ⟨_, h, by have := q [] l (by rwa [List.append_nil]); rwa [List.append_nil] at this⟩
theorem EL.ie {f vars σ xs} (h : EL f vars σ xs) : IE (ofLst f) vars σ xs := fun Q E q => h _ _ fun ν l hl => ⟨l, xs, rfl, hl, q ν _ rfl fun μ => ext_get hl⟩
theorem EE.join {f : Ex} {vars σ} {xs : List S} (h : EL f vars σ (vS xs)) (hz : xs.flatten.length ≤ 1000000) : EE (sm1 oJoin (cstr []) f) vars σ (.str xs.flatten) := fun Q E q => ⟨⟨_, rfl⟩, h _ _ fun ν l hl => ⟨xs, hl, hz, q ν⟩⟩
theorem EE.call1 {p : Spec'} {f : Ex} {vars σ} {v r : V} (h : EE f vars σ v) (k : ∀ σ' Q E, (∃ μ, σ' = σ ++ μ) → (∀ ν, Q r (σ' ++ ν)) → p [v] σ' Q E) : EE (callF p (xcons f xnil)) vars σ r := fun Q E q => h _ _ fun ν => k _ _ _ ⟨ν, rfl⟩ fun μ => by rw [List.append_assoc]; exact q _
theorem ifS_falseE {t : Tx} {a b : Sx} {vars : Vars} {σ : Sto} {Q : Fl → St → Prop} {E} (h : TE t vars σ false) (k : ∀ ν, b ⟨vars, σ ++ ν⟩ Q E) : ifS t a b ⟨vars, σ⟩ Q E := h _ _ fun ν => by rw [if_neg (by decide)]; exact k ν
theorem asnL {x : String} {f : Ex} {vars : Vars} {σ : Sto} {xs : List V} {Q : Fl → St → Prop} {E} (h : EL f vars σ xs) (k : ∀ ν l, (σ ++ ν)[l]? = some (.list xs) → Q .next ⟨upd vars x (.v (.lst l)), σ ++ ν⟩) : asn x f ⟨vars, σ⟩ Q E := h _ _ k
theorem TV.isNone {f : Ex} {vars σ l} (h : EV f vars σ (.lst l)) : TV (tcmp (oIs false) f cnone) vars σ false := fun Q E q => h _ _ ⟨false, rfl, (fun _ _ h => by cases h), (fun _ _ _ h => by cases h), _, rfl, q⟩
theorem TV.boolE {f : Ex} {vars σ c} (h : EV f vars σ (.bool c)) : TV (tval f) vars σ c := fun Q E q => h _ _ q
theorem EV.idxB {f g : Ex} {vars σ} {l i : Nat} {xs : List Bool} {b : Bool} (h : EV f vars σ (.lst l)) (k : EV g vars σ (.int i)) (hl : σ[l]? = some (.list (vB xs))) (hi : i < 1000000) (hc : xs[i]? = some b) : EV (op2 oIdx f g) vars σ (.bool b) := EV.idxL h k hl hi (by unfold vB; rw [List.getElem?_map, hc]; rfl)
theorem EV.idxS {f g : Ex} {vars σ} {l i : Nat} {xs : List S} {s : S} (h : EV f vars σ (.lst l)) (k : EV g vars σ (.int i)) (hl : σ[l]? = some (.list (vS xs))) (hi : i < 1000000) (hc : xs[i]? = some s) : EV (op2 oIdx f g) vars σ (.str s) := EV.idxL h k hl hi (by unfold vS; rw [List.getElem?_map, hc]; rfl)
theorem EV.mod {f g : Ex} {vars : Vars} {σ : Sto} {a b : Int} (h : EV f vars σ (.int a)) (k : EV g vars σ (.int b)) (hb : 0 < b) : EV (op2 oMod f g) vars σ (.int (a % b)) := fun Q E q => h _ _ (k _ _ ⟨hb, q⟩)
structure Has (vars : Vars) (K : List String) (W : List Wv) : Prop where
  hold : ∀ (i : Nat) (x : String) (w : Wv), K[i]? = some x → W[i]? = some w → vars x = some w
theorem Has.v {vars K W} (h : Has vars K W) (i : Nat) {x : String} {w : Wv} (a : K[i]? = some x) (b : W[i]? = some w) : vars x = some w := h.hold i x w a b
theorem Has.nil {vars : Vars} : Has vars [] [] := ⟨fun i x w a _ => by simp at a⟩
theorem Has.new {vars : Vars} {K : List String} {W : List Wv} (h : Has vars K W) {x : String} {w : Wv} (hk : ∀ y ∈ K, y ≠ x) : Has (upd vars x w) (x :: K) (w :: W) := ⟨fun i y u a b => by
  cases i with
  | zero =>
    simp only [List.getElem?_cons_zero, Option.some.injEq] at a b
    rw [← a, ← b]; exact if_pos rfl
  | succ i =>
    simp only [List.getElem?_cons_succ] at a b
    exact (if_neg (hk y (List.mem_of_getElem? a))).trans (h.hold i y u a b)⟩
theorem Has.set {vars : Vars} {K : List String} {W : List Wv} (h : Has vars K W) (i : Nat) {x : String} {w : Wv} (hi : K[i]? = some x) (hk : ∀ y ∈ K.eraseIdx i, y ≠ x) : Has (upd vars x w) K (W.set i w) := ⟨fun j y u a b => by
  by_cases hij : i = j
  · subst hij
    rw [hi] at a
    cases a
    rw [List.getElem?_set_self'] at b
    cases hw : W[i]? with
    | none => rw [hw] at b; cases b
    | some v => rw [hw] at b; cases b; exact if_pos rfl
  · rw [List.getElem?_set_ne hij] at b
    have hm : y ∈ K.eraseIdx i := List.mem_eraseIdx_iff_getElem?.mpr ⟨j, fun q => hij q.symm, a⟩
    exact (if_neg (hk y hm)).trans (h.hold j y u a b)⟩
theorem Has.sub {vars : Vars} {K K' : List String} {W W' : List Wv} (h : Has vars K W) (hs : ∀ (i : Nat) (x : String) (w : Wv), K'[i]? = some x → W'[i]? = some w → ∃ j : Nat, K[j]? = some x ∧ W[j]? = some w) : Has vars K' W' := ⟨fun i x w a b => let ⟨j, c, d⟩ := hs i x w a b; h.hold j x w c d⟩
theorem Has.pre {vars : Vars} {K K2 : List String} {W W2 : List Wv} (h : Has vars (K ++ K2) (W ++ W2)) (hl : K.length = W.length) : Has vars K W := ⟨fun i x w a b => by
  have h1 := (List.getElem?_eq_some_iff.mp a).1
  exact h.hold i x w (by rw [List.getElem?_append_left h1]; exact a) (by rw [List.getElem?_append_left (hl ▸ h1)]; exact b)⟩
theorem Has.tl {vars : Vars} {x : String} {w : Wv} {K : List String} {W : List Wv} (h : Has vars (x :: K) (w :: W)) : Has vars K W := ⟨fun i y u a b => h.hold (i + 1) y u a b⟩
theorem Has.one {x : String} {v : V} : Has (bindV [x] [v]) [x] [.v v] := ⟨fun i y w a b => by
  cases i with
  | zero => cases a; cases b; simp [bindV]
  | succ i => simp at a⟩
theorem EV.call2 {p : Spec'} {f g : Ex} {vars σ} {v w r : V} (h : EV f vars σ v) (h2 : EV g vars σ w) (k : ∀ Q E, Q r σ → p [v, w] σ Q E) : EV (callF p (xcons f (xcons g xnil))) vars σ r := fun Q E q => h _ _ (h2 _ _ (k _ _ q))
theorem EV.vr {vars : Vars} {K W} (h : Has vars K W) (i : Nat) {x : String} {v : V} {σ : Sto} (a : K[i]? = some x) (b : W[i]? = some (.v v)) : EV (Mine.var x) vars σ v := EV.var (h.v i a b)
theorem TV.vr {vars : Vars} {K W} (h : Has vars K W) (i : Nat) {x : String} {c : Bool} {σ : Sto} (a : K[i]? = some x) (b : W[i]? = some (.v (.bool c))) : TV (tval (var x)) vars σ c := TV.bool (h.v i a b)
theorem asnH {x : String} {f : Ex} {vars : Vars} {σ : Sto} {v : V} {Q : Fl → St → Prop} {E} {K W} (h : Has vars K W) (i : Nat) (e : EV f vars σ v) (hi : K[i]? = some x) (hk : ∀ y ∈ K.eraseIdx i, y ≠ x) (k : ∀ vars', Has vars' K (W.set i (.v v)) → Q .next ⟨vars', σ⟩) : asn x f ⟨vars, σ⟩ Q E := asn_run e (k _ (h.set i hi hk))
theorem asnN {x : String} {f : Ex} {vars : Vars} {σ : Sto} {v : V} {Q : Fl → St → Prop} {E} {K W} (h : Has vars K W) (e : EV f vars σ v) (hk : ∀ y ∈ K, y ≠ x) (k : ∀ vars', Has vars' (x :: K) (.v v :: W) → Q .next ⟨vars', σ⟩) : asn x f ⟨vars, σ⟩ Q E := asn_run e (k _ (h.new hk))
theorem augH {x : String} {vars : Vars} {σ : Sto} {a b : Int} {Q : Fl → St → Prop} {E} {K W} (h : Has vars K W) (i : Nat) (hi : K[i]? = some x) (hw : W[i]? = some (.v (.int a))) (hk : ∀ y ∈ K.eraseIdx i, y ≠ x) (k : ∀ vars', Has vars' K (W.set i (.v (.int (a + b)))) → Q .next ⟨vars', σ⟩) : aug oIadd x (cint b) ⟨vars, σ⟩ Q E := ⟨_, h.v i hi hw, k _ (h.set i hi hk)⟩
theorem EV.bool {vars : Vars} {σ : Sto} {b : Bool} : EV (cbool b) vars σ (.bool b) := fun Q E q => q
theorem asn_new {x : String} {vars : Vars} {σ : Sto} {Q : Fl → St → Prop} {E} {K W} (h : Has vars K W) (hk : ∀ y ∈ K, y ≠ x) (k : ∀ vars', Has vars' (x :: K) (.v (.lst σ.length) :: W) → Q .next ⟨vars', σ ++ [Cell.list []]⟩) : asn x (lst xnil) ⟨vars, σ⟩ Q E := ⟨by show 0 ≤ 1000000; decide, k _ (h.new hk)⟩
theorem lapp_run {f g : Ex} {vars : Vars} {σ : Sto} {l : Nat} {xs : List V} {v : V} {Q : Fl → St → Prop} {E} (e : EV f vars σ (.lst l)) (c : EV g vars σ v) (hl : σ[l]? = some (.list xs)) (hz : xs.length < 1000000) (k : Q .next ⟨vars, σ.set l (.list (xs ++ [v]))⟩) : exprS (lm1 oAppend f g) ⟨vars, σ⟩ Q E := e _ _ ⟨is_lst hl, c _ _ ⟨xs, hl, hz, k⟩⟩
theorem app_new {f : Ex} {vars : Vars} {σ : Sto} {l : Nat} {xs : List V} {Q : Fl → St → Prop} {E} (e : EV f vars σ (.lst l)) (hl : σ[l]? = some (.list xs)) (hz : xs.length < 1000000) (k : Q .next ⟨vars, (σ ++ [Cell.list []]).set l (.list (xs ++ [.lst σ.length]))⟩) : exprS (lm1 oAppend f (lst xnil)) ⟨vars, σ⟩ Q E :=
  e _ _ ⟨is_lst hl, show _ ≤ 1000000 ∧ _ from ⟨by show 0 ≤ 1000000; decide, xs, ext_get hl, hz, k⟩⟩
theorem loop_go {t : Tx} {b : Sx} {n : Nat} {vars : Vars} {σ : Sto} {c : Bool} {Q : Fl → St → Prop} {E} (h : TV t vars σ c) (k1 : c = true → b ⟨vars, σ⟩ (fun fl st' => match fl with
      | .next => loopN t b n st' Q E
      | .cont => loopN t b n st' Q E
      | .brk => Q .next st'
      | .ret v => Q (.ret v) st') E) (k2 : c = false → Q .next ⟨vars, σ⟩) : loopN t b (n + 1) ⟨vars, σ⟩ Q E := h _ _ (by
  cases c with
  | true => rw [if_pos rfl]; exact k1 rfl
  | false => rw [if_neg (by decide)]; exact k2 rfl)
theorem EV.to {f : Ex} {vars σ v w} (h : EV f vars σ v) (e : v = w) : EV f vars σ w := e ▸ h
theorem EV.sub {f g : Ex} {vars σ} {a b : Int} (h : EV f vars σ (.int a)) (k : EV g vars σ (.int b)) : EV (op2 oSub f g) vars σ (.int (a - b)) := fun Q E q => h _ _ (k _ _ q)
theorem EV.div {f g : Ex} {vars : Vars} {σ : Sto} {a b : Int} (h : EV f vars σ (.int a)) (k : EV g vars σ (.int b)) (hb : 0 < b) (hb2 : b < 1000000) : EV (op2 oDiv f g) vars σ (.int (a / b)) := fun Q E q => h _ _ (k _ _ ⟨⟨hb, hb2⟩, q⟩)
theorem EV.lastS {f : Ex} {vars σ} {t : S} {c : Nat} (h : EV f vars σ (.str t)) (hc : t.getLast? = some c) : EV (op2 oIdx f (op1 oNeg (cint 1))) vars σ (.str [c]) := fun Q E q => by
  obtain ⟨u, rfl⟩ := List.getLast?_eq_some_iff.mp hc
  exact h _ _ ⟨by decide, c, atI_last u c, q⟩
theorem asnP_run {x y : String} {f : Ex} {vars : Vars} {σ : Sto} {a b : V} {Q : Fl → St → Prop} {E} {K W} (h : Has vars K W) (e : EV f vars σ (.tup [a, b])) (hx : ∀ z ∈ K, z ≠ x) (hy : ∀ z ∈ x :: K, z ≠ y) (k : ∀ vars', Has vars' (y :: x :: K) (.v b :: .v a :: W) → Q .next ⟨vars', σ⟩) : asnP x y f ⟨vars, σ⟩ Q E := e _ _ ⟨a, b, .inl rfl, k _ ((h.new hx).new hy)⟩
noncomputable def ELN (f : Ex) (vars : Vars) (σ : Sto) (xs : List V) : Prop := ∀ Q E, (∀ ν l, σ.length ≤ l → (σ ++ ν)[l]? = some (.list xs) → Q (.lst l) (σ ++ ν)) → f vars σ Q E
theorem app_own {f g : Ex} {vars : Vars} {σ ν : Sto} {xs : List V} {v : V} {Q : Fl → St → Prop} {E} (e : EV f vars (σ ++ Cell.list xs :: ν) (.lst σ.length)) (c : EV g vars (σ ++ Cell.list xs :: ν) v) (hz : xs.length < 1000000) (k : Q .next ⟨vars, σ ++ Cell.list (xs ++ [v]) :: ν⟩) : exprS (lm1 oAppend f g) ⟨vars, σ ++ Cell.list xs :: ν⟩ Q E :=
  lapp_run e c (at_get _ _ _) hz (by rw [at_set]; exact k)
theorem forC_nil {chk : Sto → Prop} {x : String} {b : Sx} {vars : Vars} {σ : Sto} {Q : Fl → St → Prop} {E} (hc : chk σ) (k : Q .next ⟨vars, σ⟩) : forC chk x b [] ⟨vars, σ⟩ Q E := ⟨hc, k⟩
theorem forC_cons {chk : Sto → Prop} {x : String} {b : Sx} {v : V} {r : List V} {vars : Vars} {σ : Sto} {Q : Fl → St → Prop} {E} (hc : chk σ) (k : b ⟨upd vars x (.v v), σ⟩ (fun fl st' => match fl with
      | .next => forC chk x b r st' Q E
      | .cont => forC chk x b r st' Q E
      | .brk => Q .next st'
      | .ret w => Q (.ret w) st') E) : forC chk x b (v :: r) ⟨vars, σ⟩ Q E := ⟨hc, k⟩
theorem EV.idxX {ex : X} {f g : Ex} {vars : Vars} {σ : Sto} {l : Nat} {xs : List S} {x : S} {i : Nat} {r : List S} (h : EV f vars σ (.lst l)) (k : EV g vars σ (.int i)) (hl : σ[l]? = some (.list (vS xs))) (hi : i < 1000000) (hd : xs.drop i = x :: r) : EV (op2 (oIdxX ex) f g) vars σ (.str x) := fun Q E q => by
  refine h _ _ (k _ _ ⟨nat_pos9 hi, _, hl, ?_⟩)
  have e : (vS xs)[i]? = some (.str x) := by
    have := congrArg List.head? hd
    rw [List.head?_drop] at this
    unfold vS; rw [List.getElem?_map, this]; rfl
  rw [atI_nat, e]
  exact q
theorem drop_next {α : Type} {xs : List α} {i : Nat} {x : α} {r : List α} (hd : xs.drop i = x :: r) : xs.drop (i + 1) = r ∧ i + 1 ≤ xs.length := by
  refine ⟨by rw [← List.drop_drop, hd]; rfl, ?_⟩
  have := congrArg List.length hd
  rw [List.length_drop, List.length_cons] at this
  omega
theorem app_gen {f g : Ex} {vars : Vars} {σ ν : Sto} {xs : List V} {Q : Fl → St → Prop} {E} (e : EV f vars (σ ++ Cell.list xs :: ν) (.lst σ.length)) (c : g vars (σ ++ Cell.list xs :: ν) (fun v σ2 => oAppend (.lst σ.length) v σ2 (fun _ σ3 => Q .next ⟨vars, σ3⟩) (exE ⟨vars, σ ++ Cell.list xs :: ν⟩ E)) (exE ⟨vars, σ ++ Cell.list xs :: ν⟩ E)) : exprS (lm1 oAppend f g) ⟨vars, σ ++ Cell.list xs :: ν⟩ Q E := e _ _ ⟨is_at, c⟩
theorem augS {x : String} {f : Ex} {vars : Vars} {σ : Sto} {a b : S} {Q : Fl → St → Prop} {E} {K W} (h : Has vars K W) (i : Nat) (hi : K[i]? = some x) (hw : W[i]? = some (.v (.str a))) (e : EV f vars σ (.str b)) (hl : a.length + b.length ≤ 1000000) (hk : ∀ y ∈ K.eraseIdx i, y ≠ x) (k : ∀ vars', Has vars' K (W.set i (.v (.str (a ++ b)))) → Q .next ⟨vars', σ⟩) : aug oIadd x f ⟨vars, σ⟩ Q E :=
  ⟨_, h.v i hi hw, e _ _ ⟨hl, k _ (h.set i hi hk)⟩⟩
theorem TV.or {a b : Tx} {vars σ c d} (h : TV a vars σ c) (k : TV b vars σ d) : TV (tor a b) vars σ (c || d) := by
  cases c
  · exact TV.orF h k
  · exact TV.orT h
theorem ifS_run {t : Tx} {a b : Sx} {vars : Vars} {σ : Sto} {c : Bool} {Q : Fl → St → Prop} {E} (h : TV t vars σ c) (k1 : c = true → a ⟨vars, σ⟩ Q E) (k2 : c = false → b ⟨vars, σ⟩ Q E) : ifS t a b ⟨vars, σ⟩ Q E := by
  cases c with
  | true => exact ifS_true h (k1 rfl)
  | false => exact ifS_false h (k2 rfl)
theorem Has.two {x y : String} {a b : V} (h : x ≠ y) : Has (bindV [x, y] [a, b]) [x, y] [.v a, .v b] := ⟨fun i z w p q => by
  match i with
  | 0 => cases p; cases q; simp [bindV]
  | 1 => cases p; cases q; simp [bindV, List.lookup_cons, beq_eq_false_iff_ne.mpr (Ne.symm h)]
  | i + 2 => cases p⟩
theorem EV.three {f g h : Ex} {vars : Vars} {σ : Sto} {a b c : V} (x : EV f vars σ a) (y : EV g vars σ b) (z : EV h vars σ c) : EV (tup (xcons f (xcons g (xcons h xnil)))) vars σ (.tup [a, b, c]) := fun Q E q => x _ _ (y _ _ (z _ _ ⟨by show 3 ≤ 1000000; decide, q⟩))
theorem TV.le {f g : Ex} {vars σ} {a b : Int} (h : EV f vars σ (.int a)) (k : EV g vars σ (.int b)) : TV (tcmp oLe f g) vars σ (decide (a ≤ b)) := fun Q E q => h _ _ (k _ _ ⟨_, rfl, q⟩)
theorem TV.gt {f g : Ex} {vars σ} {a b : Int} (h : EV f vars σ (.int a)) (k : EV g vars σ (.int b)) : TV (tcmp oGt f g) vars σ (decide (b < a)) := fun Q E q => h _ _ (k _ _ ⟨_, rfl, q⟩)
theorem TV.val {f : Ex} {vars σ c} (h : EV f vars σ (.bool c)) : TV (tval f) vars σ c := fun Q E q => h _ _ q
theorem EV.call3 {p : Spec'} {f g h : Ex} {vars σ} {u v w r : V} (h1 : EV f vars σ u) (h2 : EV g vars σ v) (h3 : EV h vars σ w) (k : ∀ Q E, Q r σ → p [u, v, w] σ Q E) : EV (callF p (xcons f (xcons g (xcons h xnil)))) vars σ r := fun Q E q => h1 _ _ (h2 _ _ (h3 _ _ (k _ _ q)))
theorem augI {x : String} {f : Ex} {vars : Vars} {σ : Sto} {a b : Int} {Q : Fl → St → Prop} {E} {K W} (h : Has vars K W) (i : Nat) (hi : K[i]? = some x) (hw : W[i]? = some (.v (.int a))) (e : EV f vars σ (.int b)) (hk : ∀ y ∈ K.eraseIdx i, y ≠ x) (k : ∀ vars', Has vars' K (W.set i (.v (.int (a + b)))) → Q .next ⟨vars', σ⟩) : aug oIadd x f ⟨vars, σ⟩ Q E := ⟨_, h.v i hi hw, e _ _ (k _ (h.set i hi hk))⟩
theorem for_lst {x : String} {f : Ex} {b : Sx} {vars : Vars} {σ : Sto} {Q : Fl → St → Prop} {E} {xs : List V} (e : ∀ Q' E', (∀ ν l, (σ ++ ν)[l]? = some (.list xs) → Q' (.lst l) (σ ++ ν)) → f vars σ Q' E') (k : ∀ ν l, (σ ++ ν)[l]? = some (.list xs) → forC (It.lst l xs).chk x b xs ⟨vars, σ ++ ν⟩ Q E) : forS x (ofLst f) b ⟨vars, σ⟩ Q E :=
  e _ _ fun ν l hl => ⟨l, xs, rfl, hl, k ν l hl⟩
theorem EV.leI {f g : Ex} {vars σ} {a b : Int} (h : EV f vars σ (.int a)) (k : EV g vars σ (.int b)) : EV (op2 oLe f g) vars σ (.bool (decide (a ≤ b))) := fun Q E q => h _ _ (k _ _ q)
theorem EV.andxT {f g : Ex} {vars : Vars} {σ : Sto} {c : Bool} {v : V} (h : EV f vars σ (.bool c)) (e : c = true) (k : EV g vars σ v) : EV (andx f g) vars σ v := fun Q E q => h _ _ ⟨c, rfl, by rw [if_pos e]; exact k _ _ q⟩
theorem EV.andxF {f g : Ex} {vars : Vars} {σ : Sto} {c : Bool} (h : EV f vars σ (.bool c)) (e : c = false) : EV (andx f g) vars σ (.bool false) := fun Q E q => h _ _ ⟨c, rfl, by rw [e, if_neg (by decide)]; exact q⟩
theorem skipS {st : St} {Q : Fl → St → Prop} {E : X → St → Prop} (h : Q .next st) : skip st Q E := h
theorem at_nat {α : Type} {xs : List α} {i : Nat} {a : α} (h : xs[i]? = some a) : atI xs (i : Int) = some a := (atI_nat xs i).trans h
theorem EV.idxT {f g : Ex} {vars : Vars} {σ : Sto} {vs : List V} {i : Nat} {v : V} (h : EV f vars σ (.tup vs)) (k : EV g vars σ (.int i)) (hi : i < 1000000) (hc : vs[i]? = some v) : EV (op2 oIdx f g) vars σ v := fun Q E q => h _ _ (k _ _ ⟨nat_pos9 hi, v, at_nat hc, q⟩)
theorem TV.isNoneV {f : Ex} {vars : Vars} {σ : Sto} {v : V} {b : Bool} (h : EV f vars σ v) (e : isV v .none = some b) : TV (tcmp (oIs false) f cnone) vars σ b := fun Q E q => h _ _ ⟨b, e, (fun _ _ _ h => by cases h), (fun _ _ _ h => by cases h), _, rfl, by rw [Bool.bne_false]; exact q⟩
theorem lookup_zip {ps : List String} : ∀ {Vs : List V} {i : Nat} {x : String} {v : V}, ps.Nodup → ps[i]? = some x → Vs[i]? = some v → (ps.zip Vs).lookup x = some v := by
  induction ps with
  | nil => intro Vs i x v _ h; simp at h
  | cons p ps ih =>
    intro Vs i x v hn a b
    cases Vs with
    | nil => simp at b
    | cons u Vs =>
      rw [List.zip_cons_cons, List.lookup_cons]
      cases i with
      | zero => cases a; cases b; rw [beq_self_eq_true]
      | succ i =>
        have hx : x ≠ p := fun q => (List.nodup_cons.mp hn).1 (q ▸ List.mem_of_getElem? (by simpa using a))
        rw [beq_eq_false_iff_ne.mpr hx]
        exact ih (List.nodup_cons.mp hn).2 (by simpa using a) (by simpa using b)
theorem Has.bind {ps : List String} {Vs : List V} (hn : ps.Nodup) : Has (bindV ps Vs) ps (Vs.map Wv.v) := ⟨fun i x w a b => by
  rw [List.getElem?_map] at b
  obtain ⟨v, hv, rfl⟩ := Option.map_eq_some_iff.mp b
  unfold bindV
  rw [lookup_zip hn a hv]; rfl⟩
theorem for_var {x : String} {f : Ex} {b : Sx} {vars : Vars} {σ : Sto} {Q : Fl → St → Prop} {E} {l : Nat} {xs : List V} (e : EV f vars σ (.lst l)) (hl : σ[l]? = some (.list xs)) (k : forC (It.lst l xs).chk x b xs ⟨vars, σ⟩ Q E) : forS x (ofLst f) b ⟨vars, σ⟩ Q E := e _ _ ⟨l, xs, rfl, hl, k⟩
theorem EV.inS {f g : Ex} {vars σ c} {l : S} (h : EV f vars σ (.str [c])) (k : EV g vars σ (.str l)) : EV (op2 (oIn false) f g) vars σ (.bool (decide (c ∈ l))) := fun Q E q => h _ _ (k _ _ ⟨c, rfl, by rw [Bool.bne_false]; exact q⟩)
theorem TV.neB {f g : Ex} {vars : Vars} {σ : Sto} {a b : Bool} (h : EV f vars σ (.bool a)) (k : EV g vars σ (.bool b)) : TV (tcmp (oEqNe true) f g) vars σ (a != b) := fun Q E q => h _ _ (k _ _ ⟨_, rfl, by rw [show ((a == b) != true) = (a != b) by cases a <;> cases b <;> rfl]; exact q⟩)
theorem ret_run {f : Ex} {vars : Vars} {σ : Sto} {v : V} {Q : Fl → St → Prop} {E} (e : EV f vars σ v) (k : Q (.ret v) ⟨vars, σ⟩) : retS f ⟨vars, σ⟩ Q E := e _ _ k
end
end Mine

namespace Mine
section
theorem plainAttrs_pat : PlainAttrs "re.Pattern" :=
  ⟨⟨"object.__getattribute__", by rw [typeLookup_type, builtinLookup_eq_fast]; kernel_rfl, by decide +kernel⟩, by rw [typeLookup_type, builtinLookup_eq_fast]; kernel_rfl⟩
theorem plainAttrs_mat : PlainAttrs "re.Match" :=
  ⟨⟨"object.__getattribute__", by rw [typeLookup_type, builtinLookup_eq_fast]; kernel_rfl, by decide +kernel⟩, by rw [typeLookup_type, builtinLookup_eq_fast]; kernel_rfl⟩
theorem slot_sub : Slot "re.Pattern" "sub" "re.Pattern.sub" :=
  .of (owner := "re.Pattern") (n := "sub") (by rw [typeLookup_type, builtinLookup_eq_fast]; kernel_rfl) (by decide +kernel) (by decide +kernel) (by decide +kernel)
    (by first | exact .inl (by decide +kernel) | exact .inr (by decide +kernel)) (by rw [isSubtype_type]; kernel_rfl)
theorem slot_group : Slot "re.Match" "group" "re.Match.group" :=
  .of (owner := "re.Match") (n := "group") (by rw [typeLookup_type, builtinLookup_eq_fast]; kernel_rfl) (by decide +kernel) (by decide +kernel) (by decide +kernel)
    (by first | exact .inl (by decide +kernel) | exact .inr (by decide +kernel)) (by rw [isSubtype_type]; kernel_rfl)
theorem type_sub : typeOf (.builtin "re.Pattern.sub") = pure (.type "method_descriptor") := by show builtinType _ = _; rw [builtinType_eq_fast]; kernel_rfl
theorem type_group : typeOf (.builtin "re.Match.group") = pure (.type "method_descriptor") := by show builtinType _ = _; rw [builtinType_eq_fast]; kernel_rfl
theorem entry_sub : entryFor table "re.Pattern.sub" = some Builtin.«re.Pattern.sub» := entryFor_of_tree (by kernel_rfl)
theorem entry_loop : entryFor table "re.Pattern.sub.loop" = some Builtin.«re.Pattern.sub.loop» := entryFor_of_tree (by kernel_rfl)
theorem entry_group : entryFor table "re.Match.group" = some Builtin.«re.Match.group» := entryFor_of_tree (by kernel_rfl)
theorem owner_pat : Manifest.owners.lookup (String.ofList ['n', 'r', 'e', 't', 't', 'a', 'P', '.', 'e', 'r'].reverse) = some Manifest.sig_re_Pattern := by kernel_rfl
theorem owner_mat : Manifest.owners.lookup (String.ofList ['h', 'c', 't', 'a', 'M', '.', 'e', 'r'].reverse) = some Manifest.sig_re_Match := by kernel_rfl
theorem args_sub (a b c : Value) : argsOk "re.Pattern.sub" ⟨[a, b, c], []⟩ := by
  unfold argsOk; rw [signature?_of (id := "re.Pattern.sub") (n := ['b', 'u', 's']) (o := ['n', 'r', 'e', 't', 't', 'a', 'P', '.', 'e', 'r']) (by kernel_rfl) owner_pat]; kernel_rfl
theorem args_group (a b : Value) : argsOk "re.Match.group" ⟨[a, b], []⟩ := by
  unfold argsOk; rw [signature?_of (id := "re.Match.group") (n := ['p', 'u', 'o', 'r', 'g']) (o := ['h', 'c', 't', 'a', 'M', '.', 'e', 'r']) (by kernel_rfl) owner_mat]; kernel_rfl
theorem look_call : typeLookup (.type "function") "__call__" = pure (some (.builtin "function.__call__")) := by
  rw [typeLookup_type, builtinLookup_eq_fast]; kernel_rfl
theorem plain_loop : plainId "re.Pattern.sub.loop" = true := by decide +kernel
open PySem.Builtin.Re
section
variable {M : Model} {A : Around} {E : Value → Shared → Prop} {s : Shared}
noncomputable def drive : Nat → Sre.M → Sre.M
  | 0, m => m.runFor reTurnSteps
  | k + 1, m => if (m.runFor reTurnSteps).outcome.isSome then m.runFor reTurnSteps else drive k (m.runFor reTurnSteps)
theorem reDrive_run {Q : Sre.M → Shared → Prop} : ∀ (k n : Nat) (m : Sre.M), (drive k m).outcome.isSome = true → Q (drive k m) s → wpAny M A (reDrive (n + k + 1) m) Q E s
  | 0, n, m, ho, hq => by
    unfold reDrive
    simp only [drive] at ho hq
    rw [if_pos ho]
    exact wpAny_pure hq
  | k + 1, n, m, ho, hq => by
    rw [show n + (k + 1) + 1 = (n + k + 1) + 1 by omega]
    unfold reDrive
    simp only [drive] at ho hq
    by_cases h : (m.runFor reTurnSteps).outcome.isSome = true
    · rw [if_pos h] at ho hq ⊢
      exact wpAny_pure hq
    · rw [if_neg h] at ho hq ⊢
      exact wpAny_bind (wpAny_rule (reDrive_run k n _ ho hq))
theorem rules_run {Q : PUnit → Shared → Prop} {m : Sre.M} (hq : Q PUnit.unit s) : ∀ (l : List Nat), wpAny M A (forIn l PUnit.unit fun i r => do
      if m.seen.has i then do rule (Sre.names.getD i ""); pure (ForInStep.yield PUnit.unit)
      else pure (ForInStep.yield PUnit.unit)) Q E s
  | [] => by
    simp only [List.forIn_nil]
    exact wpAny_pure hq
  | i :: l => by
    simp only [List.forIn_cons]
    refine wpAny_bind ?_
    split
    · exact wpAny_bind (wpAny_rule (wpAny_pure (rules_run hq l)))
    · exact wpAny_pure (rules_run hq l)
theorem reRunToEnd_run {Q : Option Sre.M → Shared → Prop} {m : Sre.M} {k : Nat} {r : Option Sre.M} (hk : k < 100) (hm : (drive k m).outcome = some .matched ∧ r = some (drive k m) ∨ (drive k m).outcome = some .failed ∧ r = none) (hq : Q r s) :
    wpAny M A (reRunToEnd m) Q E s := by
  unfold reRunToEnd
  refine wpAny_bind ?_
  have e : (2 ^ 64 : Nat) = (2 ^ 64 - k - 1) + k + 1 := by omega
  rw [e]
  refine reDrive_run k _ m (by rcases hm with ⟨h, _⟩ | ⟨h, _⟩ <;> rw [h] <;> rfl) ?_
  refine wpAny_bind ?_
  refine rules_run ?_ _
  rcases hm with ⟨h1, h2⟩ | ⟨h1, h2⟩ <;> rw [h1, ← h2] <;> exact wpAny_pure hq
end
noncomputable def srch (t : List Nat) (start : Nat) (must : Bool) : Sre.M := Sre.forSearch reCode.toArray t.toArray 1 start t.length must
noncomputable def isFail : Option Sre.Outcome → Bool | some .failed => true | _ => false
noncomputable def isHit : Option Sre.Outcome → Bool | some .matched => true | _ => false
noncomputable def missAt (t : List Nat) (start : Nat) (must : Bool) : Bool := isFail (drive 5 (srch t start must)).outcome
noncomputable def hitAt (t : List Nat) (start : Nat) (must : Bool) (b e : Nat) : Bool := match drive 5 (srch t start must) with
  | m => isHit m.outcome && m.start == b && m.handed == e && m.lastmark == 1 && m.lastindex == 1 && m.marks.toList == [some b, some e]
noncomputable def piece (t : List Nat) (b e : Nat) : List Nat := (t.take e).drop b
noncomputable def planOk (t : List Nat) : List (Nat × Nat) → Nat → Bool → Bool
  | [], start, must => missAt t start must
  | (b, e) :: r, start, must => hitAt t start must b e && decide (start ≤ b) && decide (b < e) && decide (e ≤ t.length) && planOk t r e false
noncomputable def planOut (t : List Nat) : List (Nat × Nat) → Nat → List (List Nat)
  | [], done => if done < t.length then [piece t done t.length] else []
  | (b, e) :: r, done => (if done < b then [piece t done b] else []) ++ ((92 :: piece t b e) :: planOut t r e)
noncomputable def subOk (t : List Nat) (plan : List (Nat × Nat)) : Bool := planOk t plan 0 false && decide (1 ≤ t.length) && decide (t.length ≤ 100) && decide (plan.length ≤ 50)
noncomputable def subX (f : Ex) : Ex := fun vars σ Q E => f vars σ (fun v σ => ∃ t plan, v = .str t ∧ subOk t plan = true ∧ ∀ ν, Q (.str (planOut t plan 0).flatten) (σ ++ ν)) E
end
end Mine

namespace Mine
section
open PySem.Builtin.Re
section
variable {M : Model} {A : Around} {E : Value → Shared → Prop} {s : Shared}
theorem PatOk.keeps {h h' : Heap} {a : Addr} (x : PatOk h a) (k : ∀ b o, h.get? b = some o → h'.get? b = some o) : PatOk h' a :=
  let ⟨v0, v1, t2, t6, v3, v4, ct, e1, e2⟩ := x; ⟨v0, v1, t2, t6, v3, v4, ct, k _ _ e1, k _ _ e2⟩
theorem textOf_run {t : List Nat} {tk : Tok} {Q : Array Nat × Nat → Shared → Prop} (h : Q (t.toArray, 0) s) : wpAny M A (reTextOf (.str ⟨t.toArray⟩ tk)) Q E s := by
  unfold reTextOf
  exact wpAny_bind (wpAny_pure (wpAny_pure h))
noncomputable def tgt (pa : Addr) (t : List Nat) (tk : Tok) : ReTarget := { pattern := .ref pa, string := .str ⟨t.toArray⟩ tk, code := reCode.toArray, text := t.toArray, kind := 0, groups := 1, pos := 0, lim := t.length }
theorem raw_codes : ((reCode.map fun n : Nat => Value.int n 0).toArray.map reRawOf).map (fun x : Int => x.toNat) = reCode.toArray := by decide +kernel
theorem whole_run {pa : Addr} {t : List Nat} {tk : Tok} {Q : ReTarget → Shared → Prop} (hp : PatOk s.heap pa) (h : Q (tgt pa t tk) s) : wpAny M A (reWholeTarget (.ref pa) (.str ⟨t.toArray⟩ tk)) Q E s := by
  obtain ⟨v0, v1, t2, t6, v3, v4, ct, e1, e2⟩ := hp
  unfold reWholeTarget
  refine wpAny_bind (wpAny_fieldsOf e1 rfl (wpAny_bind (textOf_run ?_)))
  dsimp only
  have g6 : (#[v0, v1, Value.int 1 t2, v3, v4, Value.ref ct, Value.int 0 t6]).getD 6 Value.none = .int 0 t6 := rfl
  have g5 : (#[v0, v1, Value.int 1 t2, v3, v4, Value.ref ct, Value.int 0 t6]).getD 5 Value.none = .ref ct := rfl
  have g2 : (#[v0, v1, Value.int 1 t2, v3, v4, Value.ref ct, Value.int 0 t6]).getD 2 Value.none = .int 1 t2 := rfl
  rw [g6, g5, g2]
  rw [if_neg (show ¬ ((reRawNat (Value.int 0 t6) == 0 && 0 == 1) = true) by show ¬ ((Int.toNat 0 == 0 && 0 == 1) = true); decide)]
  rw [if_neg (show ¬ ((reRawNat (Value.int 0 t6) == 1 && 0 == 0) = true) by show ¬ ((Int.toNat 0 == 1 && 0 == 0) = true); decide)]
  refine wpAny_bind (show wpAny M A (reNoCollectionInside _ 0) _ _ _ from ?_)
  unfold reNoCollectionInside
  rw [if_neg (by decide)]
  refine wpAny_pure ?_
  refine wpAny_bind (show wpAny M A (reRawItems (.ref ct)) _ _ _ from ?_)
  unfold reRawItems
  refine wpAny_bind (wpAny_seqItems e2 rfl (wpAny_pure (wpAny_pure ?_)))
  have : tgt pa t tk = { pattern := Value.ref pa, string := Value.str { cps := t.toArray } tk, code := Array.map (fun x : Int => x.toNat) (Array.map reRawOf ((some (List.map (fun n : Nat => Value.int n 0) reCode).toArray).getD #[])), text := t.toArray, kind := 0, groups := reRawNat (Value.int 1 t2), pos := 0, lim := t.toArray.size } := by
    show tgt pa t tk = { pattern := _, string := _, code := Array.map (fun x : Int => x.toNat) (Array.map reRawOf (List.map (fun n : Nat => Value.int n 0) reCode).toArray), text := _, kind := _, groups := Int.toNat 1, pos := _, lim := _ }
    rw [raw_codes]; rfl
  rw [this] at h
  exact h
theorem next_miss {pa : Addr} {t : List Nat} {tk : Tok} {start : Nat} {must : Bool} {Q : Option Sre.M → Shared → Prop} (hm : missAt t start must = true) (h : Q none s) : wpAny M A (reNextFound (tgt pa t tk) start must) Q E s := by
  unfold missAt at hm
  refine reRunToEnd_run (k := 5) (by decide) (.inr ⟨?_, rfl⟩) h
  show (drive 5 (srch t start must)).outcome = _
  cases hq : (drive 5 (srch t start must)).outcome with
  | none => rw [hq] at hm; cases hm
  | some o => rw [hq] at hm; cases o with
    | failed => rfl
    | matched => cases hm
    | stuck _ => cases hm
theorem next_hit {pa : Addr} {t : List Nat} {tk : Tok} {start b e : Nat} {must : Bool} {Q : Option Sre.M → Shared → Prop} (hm : hitAt t start must b e = true)
    (h : ∀ m : Sre.M, m.start = b → m.handed = e → m.lastmark = 1 → m.lastindex = 1 → m.marks = #[some b, some e] → Q (some m) s) : wpAny M A (reNextFound (tgt pa t tk) start must) Q E s := by
  unfold hitAt at hm
  simp only [Bool.and_eq_true, beq_iff_eq] at hm
  obtain ⟨⟨⟨⟨⟨h1, h2⟩, h3⟩, h4⟩, h5⟩, h6⟩ := hm
  refine reRunToEnd_run (k := 5) (by decide) (.inl ⟨?_, rfl⟩) (h (drive 5 (srch t start must)) h2 h3 h4 h5 (Array.toList_inj.mp h6))
  show (drive 5 (srch t start must)).outcome = _
  cases hq : (drive 5 (srch t start must)).outcome with
  | none => rw [hq] at h1; cases h1
  | some o => rw [hq] at h1; cases o with
    | matched => rfl
    | failed => cases h1
    | stuck _ => cases h1
theorem rslice_run {t : List Nat} {b e : Nat} {Q : Value → Shared → Prop} (hz : t.length ≤ 1000) (h : Q (.str ⟨(piece t b e).toArray⟩ s.toks) { s with toks := s.toks + 1 }) : wpAny M A (reSlice t.toArray 0 b e) Q E s := by
  unfold reSlice
  rw [if_pos (by decide)]
  have e1 : t.toArray.extract b e = (piece t b e).toArray := by
    unfold piece
    rw [List.extract_toArray, List.extract_eq_drop_take']
  rw [e1]
  refine wpAny_mkStr h ?_
  rw [Str.len_mk]
  unfold piece
  rw [List.length_drop, List.length_take]
  show _ ≤ 2 ^ 24
  omega
theorem match_run {pa : Addr} {t : List Nat} {tk : Tok} {b e : Nat} {m : Sre.M} {Q : Value → Shared → Prop} (h1 : m.start = b) (h2 : m.handed = e) (h3 : m.lastmark = 1) (h4 : m.lastindex = 1) (h5 : m.marks = #[some b, some e]) (hbe : b ≤ e)
    (h : ∀ o1 o2, o1 = ({ cls := .type "tuple", data := .seq #[rawInt b, rawInt e, rawInt b, rawInt e] } : Obj) → o2 = ({ cls := .type "re.Match", data := .fields #[.str ⟨t.toArray⟩ tk, .ref pa, rawInt 0, rawInt t.length, rawInt 1, .ref s.heap.objs.size] } : Obj) →
      Q (.ref (s.heap.objs.size + 1)) { s with heap := (s.heap.push o1).push o2 }) : wpAny M A (reNewMatch (.ref pa) (.str ⟨t.toArray⟩ tk) 1 0 t.length m) Q E s := by
  subst h1 h2
  unfold reNewMatch
  rw [h3, h4, h5]
  simp only [show List.range 1 = [0] from rfl, List.any_cons, List.any_nil, List.flatMap_cons, List.flatMap_nil, List.append_nil]
  show wpAny M A (if ((decide (((2 * 0 + 1 : Nat) : Int) ≤ 1) && decide (m.handed < m.start)) || false) = true then _ else _) Q E s
  rw [if_neg (show ¬ ((decide (((2 * 0 + 1 : Nat) : Int) ≤ 1) && decide (m.handed < m.start) || false) = true) by simp; omega)]
  show wpAny M A (do
    let p ← newTuple [rawInt m.start, rawInt m.handed, rawInt m.start, rawInt m.handed]
    newFields "re.Match" [Value.str { cps := t.toArray } tk, Value.ref pa, rawInt 0, rawInt t.length, rawInt 1, p]) Q E s
  refine wpAny_bind (wpAny_newTuple ?_)
  unfold newFields
  refine wpAny_newObj_type ?_
  have := h _ _ rfl rfl
  simpa [Heap.size_push] using this
end
end
end Mine

namespace Mine
section
open PySem.Builtin.Re
noncomputable def MatchAt (h : Heap) (ma : Addr) (t : List Nat) (tk : Tok) (b e : Nat) : Prop := ∃ pa pt, h.get? ma = some { cls := .type "re.Match", data := .fields #[.str ⟨t.toArray⟩ tk, .ref pa, rawInt 0, rawInt t.length, rawInt 1, .ref pt] } ∧
  h.get? pt = some { cls := .type "tuple", data := .seq #[rawInt b, rawInt e, rawInt b, rawInt e] }
theorem MatchAt.keeps {h h' : Heap} {ma t tk b e} (x : MatchAt h ma t tk b e) (k : ∀ b o, h.get? b = some o → h'.get? b = some o) : MatchAt h' ma t tk b e :=
  let ⟨pa, pt, e1, e2⟩ := x; ⟨pa, pt, k _ _ e1, k _ _ e2⟩
section
variable {M : Model} {A : Around} {E : Value → Shared → Prop} {s : Shared}
theorem found_run {ma : Addr} {t : List Nat} {tk : Tok} {b e : Nat} {Q : ReFound → Shared → Prop} (hm : MatchAt s.heap ma t tk b e) (h : ∀ pa pt, Q { fields := #[.str ⟨t.toArray⟩ tk, .ref pa, rawInt 0, rawInt t.length, rawInt 1, .ref pt], spans := #[(b : Int), e, b, e] } s) :
    wpAny M A (reFound (.ref ma)) Q E s := by
  obtain ⟨pa, pt, e1, e2⟩ := hm
  unfold reFound
  refine wpAny_bind (wpAny_fieldsOf e1 rfl ?_)
  refine wpAny_bind (show wpAny M A (reRawItems (.ref pt)) _ _ _ from ?_)
  unfold reRawItems
  refine wpAny_bind (wpAny_seqItems e2 rfl (wpAny_pure (wpAny_pure ?_)))
  have e : Array.map reRawOf ((some #[rawInt b, rawInt e, rawInt b, rawInt e]).getD #[]) = #[(b : Int), e, b, e] := by simp [reRawOf, rawInt]
  rw [e]
  exact h pa pt
theorem group_body {ma : Addr} {t : List Nat} {tk tk1 : Tok} {b e : Nat} {Q : Fin → Shared → Prop} (hm : MatchAt s.heap ma t tk b e) (hz : t.length ≤ 1000)
    (h : Q (.done (.ret (.str ⟨(piece t b e).toArray⟩ s.toks))) { s with toks := s.toks + 1 }) : wpAny M A (Builtin.«re.Match.group» ⟨[.ref ma, .int 1 tk1], []⟩) Q E s := by
  unfold Builtin.«re.Match.group»
  refine wpAny_bind (show wpAny M A (noKeywords _ _) _ _ _ from wpAny_pure ?_)
  show wpAny M A (do
    let x ← reFound (.ref ma)
    let g ← reGroupNumber x (.int 1 tk1)
    ret (← reGroupText x g .none)) Q E s
  refine wpAny_bind (found_run hm fun pa pt => ?_)
  unfold reGroupNumber
  refine wpAny_bind ?_
  refine wpAny_bind (show wpAny M A (pure (some (1 : Int))) _ _ _ from wpAny_pure ?_)
  rw [if_pos (by rfl)]
  unfold asIndex
  refine wpAny_bind ?_
  refine wpAny_bind (show wpAny M A (pure (some (1 : Int))) _ _ _ from wpAny_pure ?_)
  refine wpAny_pure ?_
  dsimp only
  rw [show (#[(b : Int), e, b, e]).size = 4 from rfl]
  rw [if_neg (by decide)]
  refine wpAny_pure ?_
  unfold reGroupText
  show wpAny M A (do
    let v ← (if (decide ((b : Int) < 0) || decide ((e : Int) < 0)) = true then pure Value.none else do
      let (text, kind) ← reTextOf (.str ⟨t.toArray⟩ tk)
      reSlice text kind (b : Int).toNat (e : Int).toNat)
    ret v) Q E s
  rw [if_neg (by simp)]
  refine wpAny_bind (wpAny_bind (textOf_run ?_))
  exact rslice_run hz (wpAny_pure h)
end
inductive LamShape : Arguments → Expr → Prop
  | mk (n1 n2 n3 : Nat) (q0 q1 q2 q3 q4 q5 q6 q7 q8 : Pos) (h : (q3.endLine == q5.line) = true) : LamShape { posonlyargs := [], args := [{ arg := Str.ofString "_m", annotation := none, pos := q0 }], vararg := none, kwonlyargs := [], kw_defaults := [], kwarg := none, defaults := [] }
      (.BinOp (.Constant (.str ⟨#[92]⟩) n1 q1) .Add (.BoolOp .Or [.Call (.Attribute (.Name (Str.ofString "_m") q2) (Str.ofString "group") q3) [.Constant (.int 1) n2 q4] [] q5, .Constant (.str ⟨#[]⟩) n3 q6] q7) q8)
structure IsLam (params : Arguments) (body : Expr) (scope : Scope) : Prop where
  shape : LamShape params body
  names : scope.names = [(Str.ofString "_m", .local)]
  kind : scope.kind = .function
  co : scope.isCoroutine = false
  gen : scope.isGenerator = false
inductive LamAt (h : Heap) (f : Addr) : Prop
  | mk (params : Arguments) (body : Expr) (scope : Scope) (pm : Value) (c' : Addr) (ctv : Value) (oc : Obj) (vs : Array Value) (tq : Tok) (lam : IsLam params body scope) (at_ : h.get? f = some (lamObj (Str.ofString "<lambda>") lamQ params body scope [] pm c' ctv)) (code : h.get? c' = some oc) (cls : oc.cls = .type "code") (data : oc.data = .fields vs) (qual : vs[1]? = some (.str lamQ tq))
section
variable {prog : Program} {w : World} {A : Around} {s : Shared}
theorem lam_run {f ma : Addr} {t : List Nat} {tk : Tok} {b e : Nat} {R : Result → Shared → Prop} (hf : LamAt s.heap f) (hm : MatchAt s.heap ma t tk b e) (hz : t.length ≤ 1000) (hbe : b < e) (het : e ≤ t.length) (hlim : s.heap.NoLimit) (hroom : A.depth < 900)
    (h : ∀ h' tk' k, (∀ a o, s.heap.get? a = some o → h'.get? a = some o) → s.toks ≤ k → R (.ok (.ret (.str ⟨(92 :: piece t b e).toArray⟩ tk'))) { s with heap := h', toks := k }) :
    codeAny (model prog w) A (.call (.ref f) ⟨[.ref ma], []⟩) R s := by
  obtain ⟨params, body, scope, pm, c', ctv, oc, vs, tq, hl, e1, e2, e3, e4, e5⟩ := hf
  obtain ⟨k0, k1, k2, k3, k4⟩ := hl
  obtain ⟨n1, n2, n3, q0, q1, q2, q3, q4, q5, q6, q7, q8, k5⟩ := k0
  refine lamCall (by show A.depth < 1000; omega) e1 rfl k3 k4 rfl rfl e2 e4 e5 ?_
  show wpAny _ A.in1 (pure [(Str.ofString "_m", Value.ref ma)]) _ _ _
  refine wpAny_pure (wpAny_newFunctionEnv (by rw [k1]; decide) (by intro x hx; rw [List.mem_singleton.mp hx, k1]; show List.lookup (Str.ofString "_m") [(Str.ofString "_m", NameKind.local)] = _; decide +kernel) (fun h₁ hns hsb => ⟨hlim.fresh _ hsb, ?_⟩) k2)
  have hk₁ : ∀ b o, s.heap.get? b = some o → h₁.get? b = some o := fun b o e => hsb.extBut b o (Nat.ne_of_lt (Heap.lt_size e)) (Heap.get?_push_of_some _ e)
  refine lamBody ?_
  refine wpAny_BinOp (Calls.Constant_str ?_)
  refine BoolOp_or ?_
  refine Call_method1 rfl rfl k5 ?_
  refine wpAny_Name (wpAny_loadName_local k2 ?_ hns (v := .ref ma) ?_ ?_) ?_
  · show List.lookup (Str.ofString "_m") scope.names = some .local
    rw [k1]; decide +kernel
  · show List.lookup (Str.ofString "_m") [(Str.ofString "_m", Value.ref ma)] = some (.ref ma)
    rw [List.lookup_cons, beq_self_eq_true]
  · have hm1 := hm.keeps hk₁
    have hT : (Shared.TypeIs { s with heap := h₁, toks := s.toks + 1 + 1 } (.ref ma) "re.Match") := by
      obtain ⟨pa, pt, q1, q2⟩ := hm1
      exact ⟨_, q1, rfl⟩
    refine ⟨"re.Match", "re.Match.group", plainAttrs_mat, slot_group, type_group, hT, fun a ha => ?_, ?_⟩
    · cases ha
      obtain ⟨pa, pt, q1, q2⟩ := hm1
      exact ⟨_, q1, rfl⟩
    refine Calls.callWith_builtin rfl (Calls.evalArgs_plain (Calls.spliced_cons (wpAny_Constant_int (Calls.spliced_nil ?_))))
    show wpAny _ _ (call (.builtin "re.Match.group") [.ref ma, .int 1 _]) _ _ _
    refine wpAny_call (codeAny_call_builtin slot_group.plain entry_group (slot_group.check _ _ _ _ _ _ _ _ ?_ (args_group _ _) (group_body hm1 hz ?_)))
    · exact hT
    have hpl : (piece t b e).length = e - b := by unfold piece; rw [List.length_drop, List.length_take]; omega
    dsimp only
    refine P.truthy_str (by rw [Str.len_mk]; omega) ?_
    rw [if_pos (by rw [Str.len_mk, hpl]; simp; omega)]
    refine P.add_str ?_
    rw [if_neg (by decide), if_neg (by simp [Str.length]; intro q; rw [q] at hpl; simp at hpl; omega)]
    have ea : ((⟨#[92]⟩ : Str) ++ (⟨(piece t b e).toArray⟩ : Str)) = ⟨(92 :: piece t b e).toArray⟩ := by
      apply Str.ext'
      show #[92] ++ (piece t b e).toArray = _
      simp
    rw [ea]
    refine ⟨?_, ?_⟩
    · rw [Str.len_mk, List.length_cons, hpl]; show _ ≤ 2 ^ 24; omega
    · exact h h₁ _ _ hk₁ (by dsimp only; omega)
  · decide +kernel
end
end
end Mine

namespace Mine
section
open PySem.Builtin.Re
noncomputable def loopArgs (pa : Addr) (t : List Nat) (tk : Tok) (f la : Addr) (n done start : Nat) (must : Bool) : Args := ⟨[.ref pa, .str ⟨t.toArray⟩ tk, .ref f, rawInt 1, rawInt 0, rawInt n, rawInt done, rawInt start, .bool must, .ref la, .bool false], []⟩
theorem set_same' {α : Type} {xs : List α} {i : Nat} {a : α} (h : xs[i]? = some a) : xs.set i a = xs := by
  obtain ⟨hi, rfl⟩ := List.getElem?_eq_some_iff.mp h
  exact List.set_getElem_self hi
theorem push_step {C : Ct} {frs μ σ s} (I : Inv C frs μ σ s) {i : Nat} {la : Addr} {acc : List (List Nat)} (ha : μ[i]? = some la) (hc : σ[i]? = some (.list (vS acc))) (x : List Nat) (tk : Tok) {A : Around} {Q : Unit → Shared → Prop} {E : Value → Shared → Prop} (hz : acc.length ≤ 1000)
    (h : ∀ s', Le (fa frs) [] μ s.heap μ s'.heap → Inv C frs μ (σ.set i (.list (vS (acc ++ [x])))) s' → s.toks ≤ s'.toks → Q () s') : wpAny (Md C) A (updateSeq la (·.push (.str ⟨x.toArray⟩ tk))) Q E s := by
  obtain ⟨items, n, hl, hv⟩ := I.isL ha hc
  have hlen : items.length = acc.length := by rw [hv.length]; simp [vS]
  refine wpAny_updateSeq hl rfl ?_ (by rw [List.size_toArray, hlen]; show _ ≤ 2 ^ 24; omega) (by rw [Array.size_push, List.size_toArray, hlen]; show _ ≤ 2 ^ 24 + 1; omega)
  have hl' := hl.update (·.push (.str ⟨x.toArray⟩ tk))
  have e : items.toArray.push (Value.str ⟨x.toArray⟩ tk) = (items ++ [Value.str ⟨x.toArray⟩ tk]).toArray := by simp
  rw [e] at hl'
  obtain ⟨I', l⟩ := I.upd (s' := { s with heap := s.heap.update la (Obj.mapSeq (·.push (.str ⟨x.toArray⟩ tk))) }) (vs' := vS (acc ++ [x])) ha hc (fun b hb => Heap.get?_update_other _ _ (Ne.symm hb)) hl' (by rw [show vS (acc ++ [x]) = vS acc ++ [.str x] by simp [vS]]; exact hv.append (.cons (.str x tk) .nil)) rfl rfl (Nat.le_refl _)
  exact h _ l I' (Nat.le_refl _)
theorem LamAt.mono {C : Ct} {frs μ σ s μ' h' f} (x : LamAt s.heap f) (I : Inv C frs μ σ s) (l : Le (fa frs) [] μ s.heap μ' h') : LamAt h' f := by
  obtain ⟨params, body, scope, pm, c', ctv, oc, vs, tq, hl, e1, e2, e3, e4, e5⟩ := x
  refine ⟨params, body, scope, pm, c', ctv, oc, vs, tq, hl, ?_, ?_, e3, e4, e5⟩
  · exact (l.keep _ _ e1 (I.neT e1 (.inl (by simp))) (I.notMu e1 (by simp) (by simp)) (by simp)).1 (I.notFa e1 (by simp))
  · exact (l.keep _ _ e2 (I.neT e2 (.inl (by simp [e3]))) (I.notMuD e2 (by simp [e4]) (by simp [e4])) (by simp)).1 (I.notFa e2 (by simp [e4]))
theorem AOk.in1 {C A frs k} (h : AOk C A frs (k + 1) .pl) : AOk C A.in1 frs k .pl := ⟨h.frames, by have := h.depth; show A.depth + k < 900; omega, by have := h.units; show A.units + 1 + 4 * k < 9000; omega, h.han, fun q => nomatch q⟩
theorem join_step {C : Ct} {frs μ σ s} (I : Inv C frs μ σ s) {i : Nat} {la : Addr} {acc : List (List Nat)} (ha : μ[i]? = some la) (hc : σ[i]? = some (.list (vS acc))) {A : Around} {Q : Value → Shared → Prop} {E : Value → Shared → Prop} {tk0 : Tok} (hz : acc.flatten.length ≤ 100000)
    (h : ∀ k tk', 0 < k → Q (.str ⟨acc.flatten.toArray⟩ tk') { s with toks := k }) : wpAny (Md C) A (call (.builtin "str.join") [.str ⟨[].toArray⟩ tk0, .ref la]) Q E s := by
  obtain ⟨items, n, hl, hv⟩ := I.isL ha hc
  obtain ⟨l, q1, q2⟩ := strVals hv
  refine wpAny_with_toks (n := 1) I.tk ?_
  refine SC.join (l := l) (texts := acc.map fun l => ⟨l.toArray⟩) (by rw [← q1]; exact hl.isList) q2 ?_ (fun t' kk ht => ?_)
  · unfold JoinOk
    rw [← Array.foldl_toList, List.toList_toArray, sum_fold]
    simp only [Builtin.Str.tooLong, Nat.zero_add, Bool.not_eq_true', decide_eq_false_iff_not]
    show ¬ _ > 2 ^ 24
    omega
  · have e : Txt.join (⟨[].toArray⟩ : Str) (acc.map fun l => ⟨l.toArray⟩) = ⟨acc.flatten.toArray⟩ := by
      unfold Txt.join
      rw [StrLaws.glued_eq_join, join_flat]
    rw [e]
    exact h _ _ ht
theorem tail_run {C : Ct} {frs μ σ s} (I : Inv C frs μ σ s) {i : Nat} {la : Addr} {acc : List (List Nat)} (ha : μ[i]? = some la) (hc : σ[i]? = some (.list (vS acc))) (hne : acc ≠ []) {A : Around} {Q : Fin → Shared → Prop} {E : Value → Shared → Prop} {t : List Nat} (ht : t.length ≤ 1000) (hz : acc.flatten.length ≤ 100000) {n : Int}
    (h : ∀ k tk', 0 < k → Q (.done (.ret (.str ⟨acc.flatten.toArray⟩ tk'))) { s with toks := k }) :
    wpAny (Md C) A (do
      let joiner ← reSlice t.toArray 0 0 0
      let __do_lift ← seqItems? (Value.ref la)
      if (__do_lift.getD #[]).isEmpty = true then do
          let text ← pure joiner
          if false = true then do
              let __do_lift ←
                holding [text] do
                    let __do_lift ← mkInt n
                    newTuple [text, __do_lift]
              ret __do_lift
            else ret text
        else do
          let text ← call (Value.builtin (if ((0 : Nat) == 0) = true then "str.join" else "bytes.join")) [joiner, Value.ref la]
          if false = true then do
              let __do_lift ←
                holding [text] do
                    let __do_lift ← mkInt n
                    newTuple [text, __do_lift]
              ret __do_lift
            else ret text) Q E s := by
  obtain ⟨items, m, hl, hv⟩ := I.isL ha hc
  have hlen : items.length = acc.length := by rw [hv.length]; simp [vS]
  refine wpAny_bind (rslice_run ht ?_)
  have e0 : piece t 0 0 = [] := by simp [piece]
  rw [e0]
  refine wpAny_bind (wpAny_seqItems hl rfl ?_)
  rw [if_neg (by
    show ¬ (items.toArray.isEmpty = true)
    cases items with
    | nil => cases acc with
      | nil => exact absurd rfl hne
      | cons a r => simp at hlen
    | cons a r => simp)]
  refine wpAny_bind (show wpAny (Md C) A (call (.builtin "str.join") [_, .ref la]) _ _ _ from ?_)
  refine join_step (I.toks _) ha hc hz (fun k tk' hk => ?_)
  rw [if_neg (by decide)]
  exact wpAny_pure (h k tk' hk)
theorem piece_le {t : List Nat} {n : Nat} (h : t.length ≤ n) (a b : Nat) : (piece t a b).length ≤ n := by unfold piece; rw [List.length_drop, List.length_take]; omega
noncomputable abbrev loopR (C : Ct) (A : Around) (R : Result → Shared → Prop) (fin : Fin) (s' : Shared) : Prop := match fin with
  | Fin.done f => R (Except.ok f) s'
  | Fin.again c' => c'.quiet = true ∧ codeAny (model C.prog C.w) A c' R s'
theorem loop_enter {C : Ct} {A : Around} {args : Args} {R : Result → Shared → Prop} {s : Shared} (h : wpAny (Md C) A.in1 (Builtin.«re.Pattern.sub.loop» args) (loopR C A R) (fun e s' => R (Except.error e) s') s) : codeAny (Md C) A (.builtin "re.Pattern.sub.loop" args) R s := by
  refine codeAny_builtin entry_loop ?_
  rw [Around.under_plainId plain_loop]
  exact h
theorem found_step {C : Ct} (hC : COk C) {A frs k} (hA : AOk C A frs (k + 1) .pl) {pa f la : Addr} {t : List Nat} {tk : Tok} {i b e : Nat} {m : Sre.M} (m1 : m.start = b) (m2 : m.handed = e) (m3 : m.lastmark = 1) (m4 : m.lastindex = 1) (m5 : m.marks = #[some b, some e]) (hz : t.length ≤ 100) (p3 : b < e) (p4 : e ≤ t.length)
    {c : Code} (hq : c.quiet = true) {acc : List (List Nat)} {μ σ s} (I : Inv C frs μ σ s) (ha : μ[i]? = some la) (hc : σ[i]? = some (.list (vS acc))) (hL : LamAt s.heap f) (hl : acc.length ≤ 1000) {R : Result → Shared → Prop}
    (h : ∀ s', Le (fa frs) [] μ s.heap μ s'.heap → Inv C frs μ (σ.set i (.list (vS (acc ++ [92 :: piece t b e])))) s' → codeAny (model C.prog C.w) A c R s') :
    wpAny (Md C) A.in1 (do
      let found ← reNewMatch (Value.ref pa) (Value.str ⟨t.toArray⟩ tk) 1 0 t.length m
      let item ← holding [found] (call (Value.ref f) [found])
      if (item != Value.none) = true then do
          updateSeq la fun x => x.push item
          again c
        else again c) (loopR C A R) (fun e s' => R (Except.error e) s') s := by
  refine wpAny_bind (match_run m1 m2 m3 m4 m5 (Nat.le_of_lt p3) (fun o1 o2 q1 q2 => ?_))
  have kp2 : ∀ a o, s.heap.get? a = some o → ((s.heap.push o1).push o2).get? a = some o := fun a o h => Heap.get?_push_of_some _ (Heap.get?_push_of_some _ h)
  have I2 : Inv C frs μ σ { s with heap := (s.heap.push o1).push o2 } := I.keeps kp2
  have hM : MatchAt ((s.heap.push o1).push o2) (s.heap.objs.size + 1) t tk b e := by
    rw [q1, q2, ← Heap.size_push s.heap o1, q1]
    exact ⟨pa, s.heap.objs.size, Heap.get?_push_size _ rfl, Heap.get?_push_of_some _ (Heap.get?_push_size _ rfl)⟩
  refine wpAny_bind (wpAny_holding (wpAny_call (lam_run (hL.mono I (.of_keeps kp2)) hM (Nat.le_trans hz (by decide)) p3 p4 (hC.nolimit.keeps I2.base) (Nat.lt_of_le_of_lt (Nat.le_add_right _ _) hA.depth) (fun h' tk' k' kp ht => ?_))))
  have I3 : Inv C frs μ σ { s with heap := h', toks := k' } := I2.keeps kp rfl rfl ht
  exact show wpAny (Md C) A.in1 (do updateSeq la fun x => x.push (Value.str ⟨(92 :: piece t b e).toArray⟩ tk'); again c) (loopR C A R) (fun e s' => R (Except.error e) s') _ from
    wpAny_bind (push_step I3 ha hc _ _ hl (fun s4 l4 I4 ht4 => wpAny_pure ⟨hq, h s4 ((Le.of_keeps kp2).trans ((Le.of_keeps (h := (s.heap.push o1).push o2) kp).trans l4)) I4⟩))
theorem loop_run {C : Ct} (hC : COk C) {A frs k} (hA : AOk C A frs (k + 1) .pl) {pa f la : Addr} {t : List Nat} {tk : Tok} {i : Nat} (hp : PatOk C.base pa) (hz : t.length ≤ 100) {R : Result → Shared → Prop} (plan : List (Nat × Nat)) :
    ∀ (n done : Nat) (must : Bool) (acc : List (List Nat)) (μ : List Addr) (σ : Sto) (s : Shared), planOk t plan done must = true → Inv C frs μ σ s → μ[i]? = some la → σ[i]? = some (.list (vS acc)) → LamAt s.heap f → acc.length + 2 * plan.length ≤ 500 → acc.flatten.length + 300 * plan.length ≤ 50000 → 1 ≤ acc.length ∨ done < t.length →
      (∀ μ' σ' s' tk', Le (fa frs) [] μ s.heap μ' s'.heap → Inv C frs μ' σ' s' → (∃ c ν, σ' = (σ.set i c) ++ ν) → R (.ok (.ret (.str ⟨((acc ++ planOut t plan done).flatten).toArray⟩ tk'))) s') →
      codeAny (Md C) A (.builtin "re.Pattern.sub.loop" (loopArgs pa t tk f la n done done must)) R s := by
  induction plan with
  | nil =>
    intro n done must acc μ σ s hpl I ha hc hL hb1 hb2 hne hR
    refine loop_enter (wpAny_bind (show wpAny (Md C) A.in1 (reWholeTarget (.ref pa) (.str ⟨t.toArray⟩ tk)) _ _ _ from whole_run (hp.keeps I.base) (wpAny_ite_false (c := ((1 : Int) == 0) = true) rfl (wpAny_bind (wpAny_ite_false (c := ((0 : Int) != 0 && decide ((n : Int) ≥ 0)) = true) rfl ?_)))))
    refine next_miss hpl ?_
    have hpo : planOut t [] done = if done < t.length then [piece t done t.length] else [] := rfl
    by_cases hd' : done < t.length
    · refine wpAny_ite_true (c := ((done : Int)).toNat < (tgt pa t tk).lim) (decide_eq_true hd') (wpAny_bind (show wpAny (Md C) A.in1 (reSlice t.toArray 0 done t.length) _ _ _ from rslice_run (by omega) (wpAny_bind (push_step (I.toks _) ha hc _ _ (by omega) (fun s' l I' ht => ?_)))))
      have hpz := piece_le hz done t.length
      have hlt := (List.getElem?_eq_some_iff.mp hc).1
      refine tail_run I' ha (by rw [List.getElem?_set_self hlt]) (by simp) (by omega) (by rw [List.flatten_append, List.length_append]; simp only [List.flatten_cons, List.flatten_nil, List.append_nil]; omega) (fun k tk' hk => ?_)
      rw [hpo, if_pos hd'] at hR
      exact hR _ _ _ _ l (I'.anyToks _ hk) ⟨_, [], (List.append_nil _).symm⟩
    · refine wpAny_ite_false (c := ((done : Int)).toNat < (tgt pa t tk).lim) (decide_eq_false hd') (tail_run I ha hc (by rintro rfl; simp at hne; omega) (by omega) (by omega) (fun k tk' hk => ?_))
      rw [hpo, if_neg hd', List.append_nil] at hR
      refine hR _ _ _ _ .refl (I.anyToks _ hk) ⟨.list (vS acc), [], by rw [List.append_nil]; exact (set_same' hc).symm⟩
  | cons be plan ih =>
    intro n done must acc μ σ s hpl I ha hc hL hb1 hb2 hne hR
    obtain ⟨b, e⟩ := be
    unfold planOk at hpl
    simp only [Bool.and_eq_true, decide_eq_true_eq] at hpl
    obtain ⟨⟨⟨⟨p1, p2⟩, p3⟩, p4⟩, p5⟩ := hpl
    simp only [List.length_cons] at hb1 hb2
    refine loop_enter (wpAny_bind (show wpAny (Md C) A.in1 (reWholeTarget (.ref pa) (.str ⟨t.toArray⟩ tk)) _ _ _ from whole_run (hp.keeps I.base) (wpAny_ite_false (c := ((1 : Int) == 0) = true) rfl (wpAny_bind (wpAny_ite_false (c := ((0 : Int) != 0 && decide ((n : Int) ≥ 0)) = true) rfl ?_)))))
    refine next_hit p1 (fun m m1 m2 m3 m4 m5 => ?_)
    have hpz := piece_le hz b e
    have back : ∀ (acc' : List (List Nat)) (σ' : Sto) (s' s4 : Shared), Le (fa frs) [] μ s.heap μ s'.heap → σ'[i]? = some (.list (vS acc')) → (∃ c, σ' = σ.set i c) → acc'.length ≤ acc.length + 1 → acc'.flatten.length ≤ acc.flatten.length + 100 →
        acc' ++ (92 :: piece t b e) :: planOut t plan e = acc ++ planOut t ((b, e) :: plan) done → Le (fa frs) [] μ s'.heap μ s4.heap → Inv C frs μ (σ'.set i (.list (vS (acc' ++ [92 :: piece t b e])))) s4 →
        codeAny (model C.prog C.w) A (.builtin "re.Pattern.sub.loop" ⟨[Value.ref pa, Value.str ⟨t.toArray⟩ tk, Value.ref f, Value.int 1 0, Value.int 0 0, Value.int (n + 1) 0, Value.int m.handed 0, Value.int m.handed 0, Value.bool (m.handed == m.start), Value.ref la, Value.bool false], []⟩) R s4 := by
      intro acc' σ' s' s4 l hc' hσ g1 g2 heq l4 I4
      rw [m1, m2, show (e == b) = false by rw [beq_eq_false_iff_ne]; omega]
      refine ih (n + 1) e false (acc' ++ [92 :: piece t b e]) μ _ s4 p5 I4 ha (List.getElem?_set_self (List.getElem?_eq_some_iff.mp hc').1) (hL.mono I (l.trans l4)) ?_ ?_ (.inl (by simp)) ?_
      · rw [List.length_append, List.length_singleton]; omega
      · rw [List.flatten_append, List.length_append, List.flatten_singleton, List.length_cons]; omega
      · intro μ' σ5 s5 tk5 l6 I6 hσ5
        rw [List.append_assoc, List.singleton_append, heq]
        obtain ⟨c, rfl⟩ := hσ
        exact hR μ' σ5 s5 tk5 ((l.trans l4).trans l6) I6 (by obtain ⟨c2, ν2, rfl⟩ := hσ5; exact ⟨c2, ν2, by rw [List.set_set, List.set_set]⟩)
    by_cases hd' : done < b
    · have hpz2 := piece_le hz done m.start
      refine wpAny_ite_true (c := ((done : Int)).toNat < m.start) (decide_eq_true (by rw [m1]; exact hd')) (wpAny_bind (show wpAny (Md C) A.in1 (reSlice t.toArray 0 done m.start) _ _ _ from rslice_run (by omega) (wpAny_bind (push_step (I.toks _) ha hc _ _ (by omega) (fun s' l I' ht => wpAny_ite_false rfl ?_)))))
      have hc' : (σ.set i (Cell.list (vS (acc ++ [piece t done m.start]))))[i]? = _ := List.getElem?_set_self (List.getElem?_eq_some_iff.mp hc).1
      refine found_step hC hA m1 m2 m3 m4 m5 hz p3 p4 (plainId_quiet plain_loop _) I' ha hc' (hL.mono I l) (by rw [List.length_append, List.length_singleton]; omega) (back _ _ s' · l hc' ⟨_, rfl⟩ ?_ ?_ ?_)
      · rw [List.length_append, List.length_singleton]; exact Nat.le_refl _
      · rw [List.flatten_append, List.length_append, List.flatten_singleton]; omega
      · rw [planOut, if_pos hd', m1, List.append_assoc]
    · refine wpAny_ite_false (c := ((done : Int)).toNat < m.start) (decide_eq_false (by rw [m1]; exact hd')) (wpAny_ite_false rfl ?_)
      exact found_step hC hA m1 m2 m3 m4 m5 hz p3 p4 (plainId_quiet plain_loop _) I ha hc hL (by omega) (back acc σ s · .refl hc ⟨_, (set_same' hc).symm⟩ (Nat.le_succ _) (Nat.le_add_right _ _) (by rw [planOut, if_neg hd', List.nil_append]))
end
end Mine

namespace Mine
section
open PySem.Builtin.Re
theorem closure_nil {scope : Scope} {env : Env} (h : scope.names = [(Str.ofString "_m", .local)]) : closureFor scope env = pure [] := by
  unfold closureFor
  rw [h]
  rfl
theorem tab_step {C : Ct} (hC : COk C) {frs μ σ s} (I : Inv C frs μ σ s) {h' : Heap} {ps : Array Value} (hx : Heap.ExtBut tabA s.heap h') (hp : h'.get? tabA = some (tabO ps)) (ht : TabOk h' ps) :
    Le (fa frs) [] μ s.heap μ h' ∧ Inv C frs μ σ { s with heap := h' } := by
  have l : Le (fa frs) [] μ s.heap μ h' := ⟨⟨[], by simp, fun _ e => nomatch e⟩, fun b o e hb _ _ => ⟨fun _ => hx b o hb e, o.slots, hx b o hb e⟩, fun b o e => by
    by_cases q : b = tabA
    · subst q; exact ⟨_, hp⟩
    · exact ⟨o, hx b o q e⟩, fun _ _ _ => ⟨ps, hp, ht⟩⟩
  refine ⟨l, I.step (s' := { s with heap := h' }) .nil l (fun a ha => ?_) (fun env he => ?_) rfl rfl (Nat.le_refl _)⟩
  · rcases I.mem ha with ⟨_, _, e⟩ | e
    · exact (hx _ _ (I.neT e (.inl (by simp))) e).trans e.symm
    · exact (hx _ _ (I.neT e (.inl (by simp [objO]))) e).trans e.symm
  · obtain ⟨L, o, es, n, e1, e2, e3, e4, e5⟩ := I.fr env he
    exact ⟨L, o, es, n, e1, e2, hx _ _ (I.neT e3 (.inr (by simp [e4]))) e3, e4, e5⟩
theorem mkLam_run {C : Ct} (hC : COk C) {A frs μ σ s} (I : Inv C frs μ σ s) {env : Env} {params : Arguments} {body : Expr} {scope : Scope} {Q : Value → Shared → Prop} {E : Value → Shared → Prop} (hl : IsLam params body scope)
    (hge : env.globals = mainGlobals) (hcode : env.code = .ref codeA)
    (h : ∀ f s', Le (fa frs) [] μ s.heap μ s'.heap → Inv C frs μ σ s' → LamAt s'.heap f → Q (.ref f) s') :
    wpAny (Md C) A (makeFunction (Str.ofString "<lambda>") lamQ params (.expr body) scope env [] [] [] lamPos lamPos.line) Q E s := by
  refine wpAny_with_toks (n := s.toks) (Nat.le_refl _) ?_
  rw [makeFunction_eq]
  simp only [List.zip_nil_right, List.filterMap_nil, List.isEmpty_nil, if_true, pure_bind]
  unfold makeTail
  rw [closure_nil hl.names, hge]
  refine wpAny_bind (wpAny_pure ?_)
  simp only [List.isEmpty_nil, if_true]
  refine wpAny_bind (wpAny_pure ?_)
  have hg := hC.g.keeps I.base
  have hcd := hC.code.keeps I.base
  have hgP : mainGlobals ≠ tabA := by decide
  refine hide fun H out => ?_
  obtain ⟨bm, ob, b1, b2, b3, b4, b5, b6, b7, b8⟩ := hC.bmain
  obtain ⟨ps, hP, hok⟩ := I.tab
  rcases hok with rfl | ⟨c', oc, vs, t, rfl, e1, e2, e3, e4⟩
  · refine out (wpAny_bind (wpAny_functionCodeX hcode (hcd.code hP trivial) (hcd.tab hP) rfl fun c' h' tk hx hge' hlt _ hrec htb hnew => hide fun H out => ?_))
    obtain ⟨P', _, _, ⟨⟨oc, vs, q1, q2, q3, q4⟩, _⟩⟩ := hnew
    obtain ⟨c₂, oc₂, vs₂, t, w1, w2, w3, w4⟩ := hrec
    cases w1
    rw [q1] at w2; cases w2
    rw [q3] at w3; cases w3
    refine out (wpAny_bind (wpAny_builtinsFor (hg.extBut hx hgP) b1 b2 (hx _ _ b4 (I.base _ _ b5)) b6 b7 b8 (wpAny_bind (wpAny_nsGet (hg.extBut hx hgP) (wpAny_bind (wpAny_pure (wpAny_newObj_type (fun ht => ?_) (by size_fits))))))))
    obtain ⟨l, I'⟩ := tab_step hC I hx htb.2 (.inr ⟨c', oc, vs, t, rfl, q1, q2, q3, w4⟩)
    have kp := push_keeps h' (lamObj (Str.ofString "<lambda>") lamQ params body scope [] ((C.mg "__name__").getD .none) c' .none)
    have I2 : Inv C frs μ σ { s with heap := h'.push (lamObj (Str.ofString "<lambda>") lamQ params body scope [] ((C.mg "__name__").getD .none) c' .none) } := I'.keeps kp
    exact h h'.objs.size _ (l.trans (.of_keeps kp)) (I2.toks tk ht) ⟨params, body, scope, _, c', .none, oc, vs, t, hl, Heap.get?_push_size _ rfl, kp _ _ q1, q2, q3, w4⟩
  · refine out (wpAny_bind (wpAny_functionCode_hit hcode (hcd.code hP (show TriplesOk [rawInt lamPos.line, rawInt lamPos.col, .ref c'] from trivial)) (show codeAmong lamPos [rawInt lamPos.line, rawInt lamPos.col, .ref c'] = some (.ref c') from rfl) (wpAny_bind (wpAny_builtinsFor hg b1 b2 (I.base _ _ b5) b6 b7 b8 (wpAny_bind (wpAny_nsGet hg (wpAny_bind (wpAny_pure (wpAny_newObj_type (fun ht => ?_) (by size_fits))))))))))
    have kp := push_keeps s.heap (lamObj (Str.ofString "<lambda>") lamQ params body scope [] ((C.mg "__name__").getD .none) c' .none)
    have I2 : Inv C frs μ σ { s with heap := s.heap.push (lamObj (Str.ofString "<lambda>") lamQ params body scope [] ((C.mg "__name__").getD .none) c' .none) } := I.keeps kp
    exact h s.heap.objs.size _ (.of_keeps kp) I2 ⟨params, body, scope, _, c', .none, oc, vs, t, hl, Heap.get?_push_size _ rfl, kp _ _ e1, e2, e3, e4⟩
theorem new_get' (σ : Sto) (c : Cell) : (σ ++ [c])[σ.length]? = some c := by simp
theorem named_sub (id f : String) (a b : Value) : reNamed id f ["repl", "string", "count"] 2 [a, b] [] = pure [some a, some b, none] := rfl
theorem sub_ba : isSubtype (.type "str") (.type "bytearray") = pure false := by rw [isSubtype_type]; kernel_rfl
section
variable {M : Model} {A : Around} {s : Shared}
theorem sub_body {pa f : Addr} {t : List Nat} {tk : Tok} {Q : Fin → Shared → Prop} {E : Value → Shared → Prop} (hp : PatOk s.heap pa) (hL : LamAt s.heap f)
    (h : ∀ la s', la = s.heap.objs.size → s' = { s with heap := s.heap.push { cls := .type "list", data := .seq #[] } } → True → Q (.again (.builtin "re.Pattern.sub.loop" (loopArgs pa t tk f la 0 0 0 false))) s') :
    wpAny M A (Builtin.«re.Pattern.sub» ⟨[.ref pa, .ref f, .str ⟨t.toArray⟩ tk], []⟩) Q E s := by
  have hf : s.TypeIs (.ref f) "function" := by
    obtain ⟨_, _, _, _, _, _, _, _, _, _, e1, _⟩ := hL
    exact ⟨_, e1, rfl⟩
  unfold Builtin.«re.Pattern.sub» reSubstitute
  dsimp only
  rw [named_sub]
  refine wpAny_bind (wpAny_pure ?_)
  dsimp only
  refine wpAny_bind (wpAny_pure ?_)
  refine wpAny_bind (wpAny_specialOf hf look_call ?_)
  dsimp only [Option.isSome]
  rw [if_pos rfl]
  refine wpAny_bind (wpAny_pure ?_)
  rw [if_pos rfl]
  refine wpAny_bind (wpAny_pure ?_)
  refine wpAny_bind (wpAny_holding (whole_run hp ?_))
  dsimp only
  rw [if_pos (by rfl)]
  refine wpAny_bind ?_
  unfold reNotHeld
  refine wpAny_bind (wpAny_isInstance (typeIs_str _ _ _) sub_ba ?_)
  rw [if_neg (by decide)]
  refine wpAny_pure ?_
  refine wpAny_bind (wpAny_newList ?_)
  exact wpAny_pure (h _ _ rfl rfl trivial)
end
noncomputable def trOnly (sc : Scope) : Bool := (recsOf PySem.Challenge.pw_in0164_01).all fun d => !(d.scope.names.map (·.1) == sc.names.map (·.1)) || d.name == Str.ofString "_translate"
theorem env_tr {C : Ct} (hC : COk C) {env : Env} {sc : Scope} (h : EnvFn C env) (hs : env.scope = sc) (ht : trOnly sc = true) : env.code = .ref codeA ∧ env.qual = Str.ofString "_translate" ++ ".<locals>." := by
  obtain ⟨d, a, o, pm, code, doc, h1, h2, h3, h4, h5, h6, h7⟩ := h
  have := List.all_eq_true.mp ht d h1
  rw [← hs, h5] at this
  simp only [beq_self_eq_true, Bool.not_true, Bool.false_or] at this
  have hn : d.name = Str.ofString "_translate" := eq_of_beq this
  rw [hn] at h2 h4 h7
  exact ⟨h6.trans (hC.codeOf a o pm code doc _ _ _ h2 h3 h4), h7⟩
variable {k : Nat} {sc : Scope}
theorem lamQ_eq : (Str.ofString "_translate" ++ ".<locals>.") ++ "<lambda>" = lamQ := by decide +kernel
theorem s_asnSub {x : String} {e body : Expr} {params : Arguments} {lsc : Scope} {np ap pos p apos : Pos} {fe : Ex} (he : SoundE (k + 1) .pl sc e fe) (hx : stK sc x = true) (htr : trOnly sc = true) (hgl : gl sc "_twin_re_1" = true := by decide +kernel)
    (hlam : IsLam params body lsc := by exact ⟨⟨_, _, _, _, _, _, _, _, _, _, _, _, rfl⟩, rfl, rfl, rfl, rfl⟩)
    (hnd : ∀ env, defaultsOf params env = ([], []) := by intro _; rfl)
    (hbase : ∀ env, attributeBase (.Name (Str.ofString "_twin_re_1") np) (Str.ofString "sub") env (eval (.Name (Str.ofString "_twin_re_1") np) env) = eval (.Name (Str.ofString "_twin_re_1") np) env := by intro; rfl)
    (hst : ∀ env, starEach [.Lambda params body lsc lamPos, e] env = [(false, eval (.Lambda params body lsc lamPos) env), (false, eval e env)] := by intro; rfl) (hline : (ap.endLine == pos.line) = true := by rfl)
    (hs : ∀ env, env.scope = sc → swapsWith (.Call (.Attribute (.Name (Str.ofString "_twin_re_1") np) (Str.ofString "sub") ap) [.Lambda params body lsc lamPos, e] [] pos) (some (.Name (Str.ofString x) p)) apos.line env = pure false := by intro _ _; rfl) :
    SoundS (k + 1) .pl sc (.Assign [.Name (Str.ofString x) p] (.Call (.Attribute (.Name (Str.ofString "_twin_re_1") np) (Str.ofString "sub") ap) [.Lambda params body lsc lamPos, e] [] pos) apos) (asn x (subX fe)) := .mk fun C hC A frs hA env μ st s F Q E PQ PE hf hQ hE => by
  obtain ⟨pa, hpm, hp⟩ := hC.pat
  obtain ⟨outer, hfo⟩ := F.O.top
  have hfn : EnvFn C env := by
    obtain ⟨_, _, _, _, _, _, _, _, _, h⟩ := F.I.fr env (by rw [hfo]; exact .head _)
    exact h
  obtain ⟨hcode, hqual⟩ := env_tr hC hfn F.R.hsc htr
  refine wpAny_Assign_Name (Call_method2 (hbase env) (hst env) hline (name_glob hC F.I F.R hgl hpm ?_)) (hs env F.R.hsc)
  have hp1 := hp.keeps F.I.base
  have hT : ∀ s' : Shared, PatOk s'.heap pa → s'.TypeIs (.ref pa) "re.Pattern" := fun s' h => by
    obtain ⟨_, _, _, _, _, _, _, e1, _⟩ := h
    exact ⟨_, e1, rfl⟩
  refine ⟨"re.Pattern", "re.Pattern.sub", plainAttrs_pat, slot_sub, type_sub, hT s hp1, fun a ha => ?_, ?_⟩
  · cases ha
    obtain ⟨_, _, _, _, _, _, _, e1, _⟩ := hp1
    exact ⟨_, e1, rfl⟩
  refine Calls.callWith_builtin rfl (Calls.evalArgs_plain (Calls.spliced_cons (lamEval (hnd env) ?_)))
  rw [hqual, lamQ_eq]
  refine mkLam_run hC F.I hlam F.R.glob hcode (fun f s1 l1 I1 hL1 => ?_)
  have F1 := F.step l1 I1
  refine Calls.spliced_cons (he.run C hC A frs hA env st.vars μ st.sto s1 F1.R I1 _ _ _ _ hf (fun U u σ2 μ2 s2 l2 I2 r2 hf2 => ?_) (fun x e σ' μ' s' l' I' y hx => (hE.ex F) x e σ' μ' s' (l1.trans l') I' (y.older l1) hx))
  obtain ⟨t, plan, rfl, hok, hq⟩ := hf2
  cases r2 with | str _ tk => ?_
  refine Calls.spliced_nil ?_
  have hok0 := hok
  unfold subOk at hok
  simp only [Bool.and_eq_true, decide_eq_true_eq] at hok
  obtain ⟨⟨⟨o1, o2⟩, o3⟩, o4⟩ := hok
  have l3 := l1.trans l2
  have F2 := F.step l3 I2
  have hL2 : LamAt s2.heap f := hL1.mono I1 l2
  have hp2 := hp.keeps I2.base
  show wpAny _ A (call (.builtin "re.Pattern.sub") [.ref pa, .ref f, .str ⟨t.toArray⟩ tk]) _ _ _
  refine wpAny_call (codeAny_call_builtin slot_sub.plain entry_sub (slot_sub.check _ _ _ _ _ _ _ _ (hT s2 hp2) (args_sub _ _ _) ?_))
  refine sub_body hp2 hL2 (fun la s3 q1 q2 q3 => ⟨plainId_quiet plain_loop _, ?_⟩)
  subst q1
  have ha := I2.alloc (s' := s3) (a := s2.heap.objs.size) (c := .list (vS [])) (by rw [q2]; exact push_keeps _ _) (fresh_size _) (.list (items := []) (n := 0) (by rw [q2]; exact Heap.get?_push_size _ rfl) .nil) (by rw [q2]) (by rw [q2]) (by rw [q2]; exact Nat.le_refl _)
  obtain ⟨I3, l4⟩ := ha
  have hL3 : LamAt s3.heap f := hL2.mono I2 (.of_keeps (by rw [q2]; exact push_keeps _ _))
  refine loop_run hC hA hp o3 plan 0 0 false [] _ _ s3 o1 I3 (by rw [← I2.len, List.getElem?_append_right (Nat.le_refl _), Nat.sub_self]; rfl) (new_get' σ2 _) hL3 (by simp; omega) (by simp; omega) (.inr (by omega)) (fun μ5 σ5 s5 tk5 l5 I5 hσ => ?_)
  obtain ⟨c, ν, rfl⟩ := hσ
  have e5 : (σ2 ++ [Cell.list (vS [])]).set σ2.length c ++ ν = σ2 ++ ([c] ++ ν) := by
    rw [List.set_append_right _ _ (Nat.le_refl _), Nat.sub_self]; simp
  rw [e5] at I5
  have l6 := l3.trans (l4.trans l5)
  have hq' := hq ([c] ++ ν)
  rw [List.nil_append]
  exact store_run (F.step l6 I5) hx (.v (.str _ tk5)) fun s7 l7 F7 => hQ _ _ _ _ _ (l6.ex.trans l7) F7 .next hq'
end
end Mine

namespace Mine
section
theorem sub_key : isSubtype (.type "KeyError") (.type "LookupError") = pure true := by rw [isSubtype_type]; kernel_rfl
section
variable {prog : Program} {w : World} {A : Around} {s : Shared}
theorem tab_hit {d : Addr} {f : Int → Option Value} {c : Nat} {x : Str} {t : Tok} {Q : Builtin.Str.Mapped → Shared → Prop} {E : Value → Shared → Prop} (hm : s.heap.IntMap d f) (hv : f c = some (.str x t)) (h : ∀ k, s.toks ≤ k → Q (.text x) { s with toks := k }) :
    wpAny (model prog w) A (Builtin.Str.tableLookup (.ref d) c) Q E s := by
  unfold Builtin.Str.tableLookup
  refine wpAny_bind (wpAny_attempt (wpAny_bind (wpAny_mkInt (wpAny_getItem_intMap hm hv ?_))))
  dsimp only
  refine wpAny_bind (show wpAny _ _ (pure none) _ _ _ from wpAny_pure ?_)
  dsimp only
  refine wpAny_bind (show wpAny _ _ (pure (some x)) _ _ _ from wpAny_pure ?_)
  exact wpAny_pure (h _ (by omega))
theorem tab_miss {d : Addr} {f : Int → Option Value} {c : Nat} {Q : Builtin.Str.Mapped → Shared → Prop} {E : Value → Shared → Prop} (hm : s.heap.IntMap d f) (hnd : ∀ o, s.heap.get? d = some o → o.dict = none ∧ o.slots = #[]) (hd : (d == sysModules) = false) (hh : A.handled = none) (hv : f c = none)
    (h : ∀ h' k, (∀ b o, s.heap.get? b = some o → h'.get? b = some o) → s.toks ≤ k → Q .keep { s with heap := h', toks := k }) :
    wpAny (model prog w) A (Builtin.Str.tableLookup (.ref d) c) Q E s := by
  unfold Builtin.Str.tableLookup
  refine wpAny_bind (wpAny_attempt (wpAny_bind (wpAny_mkInt (wpAny_getItem_missing_of (knd := intKind prog w) (k := (c : Int)) (by simp [intKind, Value.isInt]) hd hh (hm.mapOf hnd) hv fun h' e hx => ?_))))
  dsimp only
  obtain ⟨ob, t, q1, q2, q3⟩ := hx.there
  refine wpAny_bind (wpAny_isInstance (T := "KeyError") ⟨ob, q1, q2⟩ sub_key ?_)
  rw [if_pos rfl]
  exact wpAny_bind (wpAny_rule (wpAny_pure (h _ _ hx.keeps (by omega))))
theorem translate_body {d : Addr} {f : Int → Option Value} {c : Nat} {tk : Tok} {Q : Fin → Shared → Prop} {E : Value → Shared → Prop} (hm : s.heap.IntMap d f) (hnd : ∀ o, s.heap.get? d = some o → o.dict = none ∧ o.slots = #[]) (hd : (d == sysModules) = false) (hh : A.handled = none) (hc : c < 128)
    (hv : if c ∈ spec24 then ∃ t, f c = some (.str ⟨#[92, c]⟩ t) else f c = none)
    (h : ∀ h' k tk', (∀ b o, s.heap.get? b = some o → h'.get? b = some o) → s.toks ≤ k → Q (.done (.ret (.str ⟨(if c ∈ spec24 then [92, c] else [c]).toArray⟩ tk'))) { s with heap := h', toks := k }) :
    wpAny (model prog w) A (Builtin.«str.translate» ⟨[.str ⟨[c].toArray⟩ tk, .ref d], []⟩) Q E s := by
  unfold Builtin.«str.translate»
  refine wpAny_bind (show wpAny _ _ (Builtin.Str.strOneArg _ _) _ _ _ from ?_)
  unfold Builtin.Str.strOneArg
  refine wpAny_bind (show wpAny _ _ (pure (Value.str ⟨[c].toArray⟩ tk, Value.ref d)) _ _ _ from wpAny_pure ?_)
  dsimp only
  refine wpAny_bind (show wpAny _ _ (pure (⟨[c].toArray⟩ : Str)) _ _ _ from wpAny_pure (wpAny_pure ?_))
  dsimp only
  rw [if_neg (show ¬ (((⟨#[c]⟩ : Str).length == 0) = true) by show ¬ ((1 == 0) = true); decide)]
  have fe : ∀ {β : Type} (b : β) (g : Nat → β → Sem (ForInStep β)), forIn #[c] b g = (g c b >>= fun r => match r with | .done b => pure b | .yield b => pure b) := by
    intro β b g
    rw [show (#[c] : Array Nat) = [c].toArray from rfl, List.forIn_toArray, List.forIn_cons]
    rfl
  rw [fe]
  refine wpAny_bind (wpAny_bind ?_)
  rw [if_neg (show ¬ (Builtin.Str.tooLong 0 = true) by decide)]
  rw [if_pos (show (#[c].all fun x => decide (x < 128)) = true by simp [hc])]
  dsimp only [List.lookup]
  by_cases hs : c ∈ spec24
  · rw [if_pos hs] at hv h
    obtain ⟨t0, hv⟩ := hv
    refine wpAny_bind (tab_hit hm hv (fun k hk => ?_))
    dsimp only
    rw [if_neg (show ¬ (((⟨#[92, c]⟩ : Str).length == 1 && (#[92, c]).all fun x => decide (x < 128)) = true) by simp [Str.length])]
    dsimp only
    refine wpAny_bind (wpAny_pure ?_)
    dsimp only
    refine wpAny_bind (wpAny_rule ?_)
    rw [if_neg (by decide)]
    refine wpAny_bind (tab_hit (s := { s with toks := k }) hm hv (fun k2 hk2 => ?_))
    dsimp only at hk2 ⊢
    refine wpAny_pure (wpAny_pure ?_)
    dsimp only
    rw [if_neg (show ¬ (Builtin.Str.tooLong (0 + (⟨#[92, c]⟩ : Str).length) = true) by show ¬ (Builtin.Str.tooLong 2 = true); decide)]
    show wpAny _ _ (do ret (← mkStr ⟨#[92, c]⟩)) _ _ _
    refine wpAny_bind (wpAny_mkStr (wpAny_pure ?_) (by show 2 ≤ 2 ^ 24; decide))
    exact h s.heap _ _ (fun _ _ e => e) (by show s.toks ≤ k2 + 1; omega)
  · rw [if_neg hs] at hv h
    refine wpAny_bind (tab_miss hm hnd hd hh hv (fun h' k kp hk => ?_))
    dsimp only
    refine wpAny_bind (wpAny_pure ?_)
    dsimp only
    refine wpAny_pure (wpAny_pure ?_)
    dsimp only
    rw [if_neg (show ¬ (Builtin.Str.tooLong (0 + 1) = true) by decide)]
    show wpAny _ _ (do ret (← mkStr ⟨#[c]⟩)) _ _ _
    refine wpAny_bind (wpAny_mkStr (wpAny_pure ?_) (by show 1 ≤ 2 ^ 24; decide))
    exact h h' _ _ kp (by show s.toks ≤ k + 1; omega)
end
variable {k : Nat} {sc : Scope}
noncomputable def isStrX (f : Ex) : Ex := fun vars σ Q E => f vars σ (fun v σ => (∃ s, v = .str s) ∧ Q (.bool true) σ) E
theorem s_isStr {e : Expr} {p np pos : Pos} {f : Ex} (he : SoundE k .pl sc e f) (hx : gl sc "isinstance" = true) (hy : gl sc "str" = true)
    (hs : ∀ env, starEach [e, .Name (Str.ofString "str") np] env = [(false, eval e env), (false, eval (.Name (Str.ofString "str") np) env)] := by intro; rfl) :
    SoundE k .pl sc (.Call (.Name (Str.ofString "isinstance") p) [e, .Name (Str.ofString "str") np] [] pos) (isStrX f) := .mk fun C hC A frs hA env vars μ σ s R I Q E PQ PE hf hQ hE => by
  refine Call_Name2 (name_blt hC I R hx (b_isinstance C hC).1 (b_isinstance C hC).2 ?_) (hs env)
  refine Calls.callWith_builtin rfl (Calls.evalArgs_plain (Calls.spliced_cons (he.run C hC A frs hA env vars μ σ s R I _ _ _ _ hf (fun U u σ' μ' s' l I' r hq => ?_) hE)))
  obtain ⟨⟨x, rfl⟩, hq⟩ := hq
  cases r with | str _ t => ?_
  refine Calls.spliced_cons (name_blt hC I' (R.mono I l) hy (b_str C hC).1 (b_str C hC).2 (Calls.spliced_nil ?_))
  exact IsiPair.str_str (hQ _ _ _ _ _ l I' (.bool true) hq)
noncomputable def trX (f : Ex) : Ex := fun vars σ Q E => f vars σ (fun v σ => ∃ c : Nat, v = .str [c] ∧ c < 128 ∧ Q (.str (if c ∈ spec24 then [92, c] else [c])) σ) E
theorem s_translate {o : Expr} {np apos pos : Pos} {f : Ex} (ho : SoundE k .pl sc o f) (hx : gl sc "_special_chars_map" = true)
    (hbase : ∀ env, attributeBase o (Str.ofString "translate") env (eval o env) = eval o env := by intro; rfl)
    (hs : ∀ env, starEach [.Name (Str.ofString "_special_chars_map") np] env = [(false, eval (.Name (Str.ofString "_special_chars_map") np) env)] := by intro; rfl) (hline : (apos.endLine == pos.line) = true := by rfl) :
    SoundE k .pl sc (.Call (.Attribute o (Str.ofString "translate") apos) [.Name (Str.ofString "_special_chars_map") np] [] pos) (trX f) := .mk fun C hC A frs hA env vars μ σ s R I Q E PQ PE hf hQ hE => by
  obtain ⟨d, g, hmg, hm, hsm, hnd, hv⟩ := hC.map
  refine Call_method1 (hbase env) (hs env) hline (ho.run C hC A frs hA env vars μ σ s R I _ _ _ _ hf (fun V v σ' μ' s' l I' r hq => ?_) hE)
  obtain ⟨c, rfl, hc, hq⟩ := hq
  cases r with | str _ t => ?_
  refine ⟨"str", _, F.plainAttrs_str, F.slot_str_translate, F.type_str_translate, typeIs_str _ _ _, (fun _ e => nomatch e), ?_⟩
  refine Calls.callWith_builtin rfl (Calls.evalArgs_plain (Calls.spliced_cons (name_glob hC I' (R.mono I l) hx hmg (Calls.spliced_nil ?_))))
  show wpAny _ _ (call (.builtin "str.translate") [.str ⟨[c].toArray⟩ t, .ref d]) _ _ _
  have hm' : s'.heap.IntMap d g := let ⟨o, es, ep, e1, r⟩ := hm; ⟨o, es, ep, I'.base _ _ e1, r⟩
  have hnd' : ∀ o, s'.heap.get? d = some o → o.dict = none ∧ o.slots = #[] := fun o h => by
    obtain ⟨o', _, _, e1, _⟩ := hm
    rw [I'.base _ _ e1] at h; cases h
    exact hnd _ e1
  refine wpAny_call (codeAny_call_builtin F.slot_str_translate.plain F.entry_str_translate (F.slot_str_translate.check _ _ _ _ _ _ _ _ (typeIs_str _ _ _) (F.args_str_translate_2 _ _) ?_))
  refine translate_body hm' hnd' hsm (hA.han rfl) hc (hv c hc) (fun h' k' tk' kp hk => ?_)
  · exact hQ _ _ _ _ { s' with heap := h', toks := k' } (l.trans (.of_keeps kp)) (I'.keeps kp rfl rfl hk) (.str _ _) hq
end
end Mine

namespace Mine
section
noncomputable abbrev r_parse257 : DefRec := recAt 4
noncomputable def f_parse257_t1 : Tx := (tcmp oLt (var "i") (var "n"))
noncomputable def f_parse257_b2 : Sx := (seq (asn "c" (op2 oIdx (var "resp") (var "i"))) (seq (asn "i" (op2 oAdd (var "i") (cint 1))) (seq (ifS (tcmp (oEqNe false) (var "c") (cstr [34])) (seq (ifS (tor (tcmp oGe (var "i") (var "n")) (tor (tcmp (oEqNe true) (op2 oIdx (var "resp") (var "i")) (cstr [34])) (tlit false))) brk skip) (asn "i" (op2 oAdd (var "i") (cint 1)))) skip) (asn "dirname" (op2 oAdd (var "dirname") (var "c"))))))
noncomputable def f_parse257 : Sx := (seq (ifS (tcmp (oEqNe true) (slice (var "resp") cnone (cint 3)) (cstr [50, 53, 55])) (raiseErr (xcons (var "resp") xnil)) skip) (seq (ifS (tcmp (oEqNe true) (slice (var "resp") (cint 3) (cint 5)) (cstr [32, 34])) (retS (cstr [])) skip) (seq (asn "dirname" (cstr [])) (seq (asn "i" (cint 5)) (seq (asn "n" (op1 oLen (var "resp"))) (seq (whileS f_parse257_t1 f_parse257_b2) (retS (var "dirname"))))))))
theorem f_parse257_run (st : St) (Q : Fl → St → Prop) (E : X → St → Prop) : f_parse257 st Q E = (seq (ifS (tcmp (oEqNe true) (slice (var "resp") cnone (cint 3)) (cstr [50, 53, 55])) (raiseErr (xcons (var "resp") xnil)) skip) (seq (ifS (tcmp (oEqNe true) (slice (var "resp") (cint 3) (cint 5)) (cstr [32, 34])) (retS (cstr [])) skip) (seq (asn "dirname" (cstr [])) (seq (asn "i" (cint 5)) (seq (asn "n" (op1 oLen (var "resp"))) (seq (whileS f_parse257_t1 f_parse257_b2) (retS (var "dirname")))))))) st Q E := rfl
theorem sd_parse257 : SoundSs 0 .pl r_parse257.scope r_parse257.body f_parse257 := by
  refine ss_cons ?_ ?_
  refine s_if ?_ ?_ ?_
  refine t_cmp o_ne ?_ ?_
  refine s_slice ?_ ?_ ?_
  exact s_var (by decide +kernel) (by decide +kernel)
  exact p_none
  refine p_some ?_
  exact s_int
  exact s_str (by decide +kernel)
  refine ss_one ?_
  refine s_raise ?_ (by decide +kernel)
  refine e_cons ?_ ?_
  exact s_var (by decide +kernel) (by decide +kernel)
  exact e_nil
  exact ss_nil
  refine ss_cons ?_ ?_
  refine s_if ?_ ?_ ?_
  refine t_cmp o_ne ?_ ?_
  refine s_slice ?_ ?_ ?_
  exact s_var (by decide +kernel) (by decide +kernel)
  refine p_some ?_
  exact s_int
  refine p_some ?_
  exact s_int
  exact s_str (by decide +kernel)
  refine ss_one ?_
  refine s_ret ?_
  exact s_str (by decide +kernel)
  exact ss_nil
  refine ss_cons ?_ ?_
  refine s_asn ?_ (by decide +kernel)
  exact s_str (by decide +kernel)
  refine ss_cons ?_ ?_
  refine s_asn ?_ (by decide +kernel)
  exact s_int
  refine ss_cons ?_ ?_
  refine s_asn ?_ (by decide +kernel)
  refine s_blt1 b_len (by decide +kernel) o_len ?_
  exact s_var (by decide +kernel) (by decide +kernel)
  refine ss_cons ?_ ?_
  refine s_while ?_ ?_
  refine t_cmp o_lt ?_ ?_
  exact s_var (by decide +kernel) (by decide +kernel)
  exact s_var (by decide +kernel) (by decide +kernel)
  refine ss_cons ?_ ?_
  refine s_asn ?_ (by decide +kernel)
  refine s_idx ?_ ?_
  exact s_var (by decide +kernel) (by decide +kernel)
  exact s_var (by decide +kernel) (by decide +kernel)
  refine ss_cons ?_ ?_
  refine s_asn ?_ (by decide +kernel)
  refine s_bin o_add ?_ ?_
  exact s_var (by decide +kernel) (by decide +kernel)
  exact s_int
  refine ss_cons ?_ ?_
  refine s_if ?_ ?_ ?_
  refine t_cmp o_eq ?_ ?_
  exact s_var (by decide +kernel) (by decide +kernel)
  exact s_str (by decide +kernel)
  refine ss_cons ?_ ?_
  refine s_if ?_ ?_ ?_
  refine t_bop ?_
  refine a_or ?_ ?_
  refine t_cmp o_ge ?_ ?_
  exact s_var (by decide +kernel) (by decide +kernel)
  exact s_var (by decide +kernel) (by decide +kernel)
  refine a_or ?_ ?_
  refine t_cmp o_ne ?_ ?_
  refine s_idx ?_ ?_
  exact s_var (by decide +kernel) (by decide +kernel)
  exact s_var (by decide +kernel) (by decide +kernel)
  exact s_str (by decide +kernel)
  exact a_or_nil
  refine ss_one ?_
  exact s_brk
  exact ss_nil
  refine ss_one ?_
  refine s_asn ?_ (by decide +kernel)
  refine s_bin o_add ?_ ?_
  exact s_var (by decide +kernel) (by decide +kernel)
  exact s_int
  exact ss_nil
  refine ss_one ?_
  refine s_asn ?_ (by decide +kernel)
  refine s_bin o_add ?_ ?_
  exact s_var (by decide +kernel) (by decide +kernel)
  exact s_var (by decide +kernel) (by decide +kernel)
  refine ss_one ?_
  refine s_ret ?_
  exact s_var (by decide +kernel) (by decide +kernel)
noncomputable def walk257 : S → S
  | [] => []
  | c :: r => if c = 34 then (match r with
    | d :: r' => if d = 34 then 34 :: walk257 r' else []
    | [] => []) else c :: walk257 r
noncomputable def parse257 (s : S) : Option S := if s.take 3 ≠ [50, 53, 55] then none else if (s.drop 3).take 2 ≠ [32, 34] then some [] else some (walk257 (s.drop 5))
noncomputable def p_parse257 : Spec' := fun Vs σ Q E => ∃ s, Vs = [.str s] ∧ s.length ≤ 1000 ∧ match parse257 s with
  | some r => Q (.str r) σ
  | none => E .err σ
theorem walk257_other {c : Nat} {r : S} (h : ¬ c = 34) : walk257 (c :: r) = c :: walk257 r := by cases r <;> simp [walk257, h]
noncomputable abbrev KW : List String := ["n", "i", "dirname", "resp"]
theorem get_drop {s : S} {k c : Nat} {r : S} (h : s.drop k = c :: r) : s[k]? = some c ∧ k < s.length ∧ s.drop (k + 1) = r := by
  have e := congrArg List.head? h
  rw [List.head?_drop] at e
  exact ⟨e, (List.getElem?_eq_some_iff.mp e).1, by rw [← List.drop_drop, h]; rfl⟩
theorem w257 {s : S} (hs : s.length ≤ 1000) {σ : Sto} {Q : Fl → St → Prop} {E : X → St → Prop} {R : S} (hq : ∀ vars', vars' "dirname" = some (.v (.str R)) → Q .next ⟨vars', σ⟩) (n : Nat) :
    ∀ (k : Nat) (rest dir : S) (vars : Vars), s.drop k = rest → rest.length < n → dir.length ≤ k → k ≤ s.length → Has vars KW [.v (.int s.length), .v (.int k), .v (.str dir), .v (.str s)] → R = dir ++ walk257 rest → loopN f_parse257_t1 f_parse257_b2 n ⟨vars, σ⟩ Q E := by
  induction n with
  | zero => intro _ rest _ _ _ h; exact absurd h (Nat.not_lt_zero _)
  | succ n ih =>
    intro k rest dir vars hd hn hdl hk v hR
    have tl := TV.lt (σ := σ) (EV.vr v 1 rfl rfl) (EV.vr v 0 rfl rfl)
    cases rest with
    | nil =>
      have hkl : k = s.length := Nat.le_antisymm hk (List.drop_eq_nil_iff.mp hd)
      refine loop_go (tl.to (decide_eq_false (by omega))) (fun h => by cases h) (fun _ => hq vars ?_)
      rw [hR, show walk257 [] = [] from rfl, List.append_nil]
      exact v.v 2 rfl rfl
    | cons c r =>
      obtain ⟨hc, hkl, hd'⟩ := get_drop hd
      simp only [List.length_cons] at hn
      refine loop_go (tl.to (decide_eq_true (by omega))) (fun _ => ?_) (fun h => by cases h)
      refine seq_run (asnN v (EV.idx (EV.vr v 3 rfl rfl) (EV.vr v 1 rfl rfl) (by omega) hc) (by decide) fun vars1 v1 => ?_)
      refine seq_run (asnH v1 2 ((EV.add (EV.vr v1 2 rfl rfl) EV.int).to (w := .int ((k + 1 : Nat) : Int)) rfl) rfl (by decide) fun vars2 v2 => ?_)
      refine seq_run (ifS_run (TV.eqS (EV.vr v2 0 rfl rfl) EV.str) (fun h34 => ?_) (fun h34 => skipS ?_))
      · have h34 : c = 34 := (List.cons.inj (of_decide_eq_true h34)).1
        subst h34
        have tg := TV.ge (σ := σ) (EV.vr v2 2 rfl rfl) (EV.vr v2 1 rfl rfl)
        cases r with
        | nil =>
          have hkl2 : s.length ≤ k + 1 := List.drop_eq_nil_iff.mp hd'
          refine seq_run (ifS_true ((tg.to (decide_eq_true (by omega))).orT) (hq vars2 ?_))
          rw [hR, show walk257 [34] = [] from rfl, List.append_nil]
          exact v2.v 3 rfl rfl
        | cons d r' =>
          obtain ⟨hc2, hkl2, hd2⟩ := get_drop hd'
          have t2 := TV.neS (EV.idx (σ := σ) (EV.vr v2 4 rfl rfl) (EV.vr v2 2 rfl rfl) (by omega) hc2) (EV.str (l := [34]))
          by_cases h2 : d = 34
          · subst h2
            refine seq_run (ifS_false ((tg.to (decide_eq_false (by omega))).orF ((t2.to rfl).orF TV.lit)) (skipS ?_))
            refine asnH v2 2 ((EV.add (EV.vr v2 2 rfl rfl) EV.int).to (w := .int ((k + 2 : Nat) : Int)) rfl) rfl (by decide) fun vars3 v3 => ?_
            refine asnH v3 3 (EV.app (EV.vr v3 3 rfl rfl) (EV.vr v3 0 rfl rfl) (by simp only [List.length_cons, List.length_nil]; omega)) rfl (by decide) fun vars4 v4 => ?_
            exact ih (k + 2) r' (dir ++ [34]) vars4 hd2 (by simp only [List.length_cons] at hn; omega) (by rw [List.length_append, List.length_singleton]; omega) hkl2 v4.tl (by rw [hR, List.append_assoc]; rfl)
          · refine seq_run (ifS_true ((tg.to (decide_eq_false (by omega))).orF ((t2.to (by simp [h2])).orT)) (hq vars2 ?_))
            rw [hR, show walk257 (34 :: d :: r') = [] by simp [walk257, h2], List.append_nil]
            exact v2.v 3 rfl rfl
      · have h34 : c ≠ 34 := fun q => by rw [q] at h34; simp at h34
        refine asnH v2 3 (EV.app (EV.vr v2 3 rfl rfl) (EV.vr v2 0 rfl rfl) (by simp only [List.length_cons, List.length_nil]; omega)) rfl (by decide) fun vars3 v3 => ?_
        exact ih (k + 1) r (dir ++ [c]) vars3 hd' (by omega) (by rw [List.length_append, List.length_singleton]; omega) hkl v3.tl (by rw [hR, walk257_other h34, List.append_assoc]; rfl)
theorem slc_take (s : S) (n : Nat) (h : n ≤ s.length ∨ True) : slc s none (some (n : Int)) = s.take n := by
  show s.take (clipAt s.length n) = _
  rw [clipAt_nat, ← List.take_take, List.take_length]
theorem clip_nat (len n : Nat) : clipAt len (n : Int) = min n len := clipAt_nat len n
theorem slc_mid (s : S) (a b : Nat) (h : a ≤ b) : slc s (some (a : Int)) (some (b : Int)) = (s.drop a).take (b - a) := by
  unfold slc
  simp only [Option.elim, clip_nat]
  by_cases ha : a ≤ s.length
  · rw [Nat.min_eq_left ha]
    by_cases hb : b ≤ s.length
    · rw [Nat.min_eq_left hb]
    · rw [Nat.min_eq_right (by omega), List.take_of_length_le (by simp), List.take_of_length_le (by simp; omega)]
  · have e1 : min a s.length = s.length := by omega
    have e2 : min b s.length = s.length := by omega
    rw [e1, e2, List.drop_of_length_le (Nat.le_refl _), List.drop_of_length_le (show s.length ≤ a by omega)]; simp
theorem i_parse257 {Vs σ Q E} (h : p_parse257 Vs σ Q E) : Vs.length = 1 ∧ f_parse257 ⟨bindV ["resp"] Vs, σ⟩ (fun fl st => match fl with | .ret v => Q v st.sto | .next => Q .none st.sto | _ => False) (fun x st => E x st.sto) := by
  obtain ⟨s, rfl, hs, hq⟩ := h
  refine ⟨rfl, ?_⟩
  have p9 : (10 : Int) ^ 9 = 1000000000 := by decide
  have z : lim = 1000000 := rfl
  have e1 := slc_take s 3 (.inr trivial)
  have e2 := slc_mid s 3 5 (by decide)
  have hb : bindV ["resp"] [V.str s] "resp" = some (.v (.str s)) := rfl
  simp only [f_parse257_run, seq, asn, ifS, retS, skip, raiseErr, tcmp, op1, op2, var, cint, cstr, cnone, xnil, xcons, upd, String.reduceEq, ↓reduceIte, Option.some.injEq, Wv.v.injEq, V.bool.injEq, exists_eq_left', oEqNe, oLen, Bool.bne_true, slice, oSlice, asPart, raiseErr, hb]
  refine ⟨none, some 3, rfl, rfl, by omega, ?_⟩
  rw [show ((3 : Int)) = ((3 : Nat) : Int) from rfl, e1]
  unfold parse257 at hq
  by_cases h3 : s.take 3 = [50, 53, 55]
  · rw [if_neg (by simp [h3])] at hq
    rw [if_neg (by simp [h3])]
    refine ⟨some 3, some 5, rfl, rfl, by omega, ?_⟩
    rw [show ((3 : Int)) = ((3 : Nat) : Int) from rfl, show ((5 : Int)) = ((5 : Nat) : Int) from rfl, e2]
    by_cases h4 : (s.drop 3).take 2 = [32, 34]
    · rw [if_neg (by simp [h4])] at hq
      rw [if_neg (by simp [h4])]
      have l1 : 3 ≤ s.length := by have := congrArg List.length h3; simp at this; omega
      have l2 : 5 ≤ s.length := by have := congrArg List.length h4; simp at this; omega
      refine ⟨by omega, s.length + 1, w257 hs (R := walk257 (s.drop 5)) (fun vars' hv => ⟨_, hv, hq⟩) _ 5 (s.drop 5) [] _ rfl (by simp; omega) (by simp) l2 ?_ rfl⟩
      exact (((Has.one (x := "resp") (v := .str s)).new (x := "dirname") (w := .v (.str [])) (by decide)).new (x := "i") (w := .v (.int 5)) (by decide)).new (x := "n") (w := .v (.int s.length)) (by decide)
    · rw [if_pos h4] at hq
      rw [if_pos (by simpa using h4)]
      exact hq
  · rw [if_pos h3] at hq
    rw [if_pos (by simpa using h3)]
    exact ⟨by show 1 ≤ 1000000; decide, hq⟩
theorem len1 {vs : List Value} (h : vs.length = 1) : ∃ a, vs = [a] := List.length_eq_one_iff.mp h
theorem len2 {vs : List Value} (h : vs.length = 2) : ∃ a b, vs = [a, b] := by
  cases vs with
  | nil => cases h
  | cons a r => obtain ⟨b, rfl⟩ := len1 (Nat.succ.inj h); exact ⟨a, b, rfl⟩
theorem len3 {vs : List Value} (h : vs.length = 3) : ∃ a b c, vs = [a, b, c] := by
  cases vs with
  | nil => cases h
  | cons a r => obtain ⟨b, c, rfl⟩ := len2 (Nat.succ.inj h); exact ⟨a, b, c, rfl⟩
theorem c_parse257 : Contract 0 "parse257" p_parse257 := contract_of (d := r_parse257) (ps := ["resp"]) (by kernel_rfl) sd_parse257 (by decide +kernel) (fun pm code doc vs h => by obtain ⟨a, rfl⟩ := len1 h; rfl) fun _ _ _ _ => i_parse257
end
end Mine

namespace Mine
section
noncomputable abbrev fin1 (Q : V → Sto → Prop) : Fl → St → Prop := fun fl st => match fl with
  | .ret v => Q v st.sto
  | .next => Q .none st.sto
  | _ => False
noncomputable abbrev fin2 (E : X → Sto → Prop) : X → St → Prop := fun x st => E x st.sto
noncomputable abbrev r_law_refused : DefRec := recAt 31
noncomputable def f_law_refused : Sx := (seq (tryX .err (exprS (callF p_parse257 (xcons (var "reply") xnil))) (retS (cbool true))) (retS (cbool false)))
theorem f_law_refused_run (st : St) (Q : Fl → St → Prop) (E : X → St → Prop) : f_law_refused st Q E = (seq (tryX .err (exprS (callF p_parse257 (xcons (var "reply") xnil))) (retS (cbool true))) (retS (cbool false))) st Q E := rfl
theorem sd_law_refused : SoundSs 1 .pl r_law_refused.scope r_law_refused.body f_law_refused := by
  refine ss_cons ?_ ?_
  refine s_tryErr ?_ ?_ (by decide +kernel)
  refine ss_one ?_
  refine s_expr ?_
  refine s_call c_parse257 (by decide) (by decide +kernel) ?_
  refine e_cons ?_ ?_
  exact s_var (by decide +kernel) (by decide +kernel)
  exact e_nil
  refine ss_one ?_
  refine s_ret ?_
  exact s_bool
  refine ss_one ?_
  refine s_ret ?_
  exact s_bool
noncomputable def p_law_refused : Spec' := fun Vs σ Q E => ∃ s, Vs = [.str s] ∧ s.length ≤ 1000 ∧ Q (.bool (parse257 s).isNone) σ
theorem i_law_refused {Vs σ Q E} (h : p_law_refused Vs σ Q E) : Vs.length = 1 ∧ f_law_refused ⟨bindV ["reply"] Vs, σ⟩ (fin1 Q) (fin2 E) := by
  obtain ⟨s, rfl, hs, hq⟩ := h
  refine ⟨rfl, ?_⟩
  have hb : bindV ["reply"] [V.str s] "reply" = some (.v (.str s)) := rfl
  simp only [f_law_refused_run, seq, exprS, retS, var, cbool, xnil, xcons, callF, Option.some.injEq, Wv.v.injEq, exists_eq_left', tryX, hb]
  refine ⟨s, rfl, hs, ?_⟩
  cases h : parse257 s with
  | none => rw [h] at hq; exact ⟨.inl rfl, hq⟩
  | some r => rw [h] at hq; exact hq
theorem c_law_refused : Contract 1 "_law_refused" p_law_refused := contract_of (d := r_law_refused) (ps := ["reply"]) (by kernel_rfl) sd_law_refused (by decide +kernel) (fun pm code doc vs h => by obtain ⟨a, rfl⟩ := len1 h; rfl) fun _ _ _ _ => i_law_refused
noncomputable abbrev r_law_lies_at : DefRec := recAt 27
noncomputable def f_law_lies_at_b1 : Sx := (ifS (tcmp (oEqNe false) (op2 (oIn false) (op2 oIdx (var "name") (op2 oAdd (var "place") (var "k"))) (op2 oIdx (op2 oIdx (var "piece") (var "k")) (cint 1))) (op2 oIdx (op2 oIdx (var "piece") (var "k")) (cint 0))) (retS (cbool false)) skip)
noncomputable def f_law_lies_at : Sx := (seq (ifS (tcmp oGt (op2 oAdd (var "place") (op1 oLen (var "piece"))) (op1 oLen (var "name"))) (retS (cbool false)) skip) (seq (forS "k" (rng1 (op1 oLen (var "piece"))) f_law_lies_at_b1) (retS (cbool true))))
theorem sd_law_lies_at : SoundSs 0 .pl r_law_lies_at.scope r_law_lies_at.body f_law_lies_at := by
  refine ss_cons ?_ ?_
  refine s_if ?_ ?_ ?_
  refine t_cmp o_gt ?_ ?_
  refine s_bin o_add ?_ ?_
  exact s_var (by decide +kernel) (by decide +kernel)
  refine s_blt1 b_len (by decide +kernel) o_len ?_
  exact s_var (by decide +kernel) (by decide +kernel)
  refine s_blt1 b_len (by decide +kernel) o_len ?_
  exact s_var (by decide +kernel) (by decide +kernel)
  refine ss_one ?_
  refine s_ret ?_
  exact s_bool
  exact ss_nil
  refine ss_cons ?_ ?_
  refine s_for ?_ ?_ (by decide +kernel)
  refine i_rng1 b_range (by decide +kernel) ?_
  refine s_blt1 b_len (by decide +kernel) o_len ?_
  exact s_var (by decide +kernel) (by decide +kernel)
  refine ss_one ?_
  refine s_if ?_ ?_ ?_
  refine t_cmp o_eq ?_ ?_
  refine s_cmp o_in ?_ ?_
  refine s_idx ?_ ?_
  exact s_var (by decide +kernel) (by decide +kernel)
  refine s_bin o_add ?_ ?_
  exact s_var (by decide +kernel) (by decide +kernel)
  exact s_var (by decide +kernel) (by decide +kernel)
  refine s_idx ?_ ?_
  refine s_idx ?_ ?_
  exact s_var (by decide +kernel) (by decide +kernel)
  exact s_var (by decide +kernel) (by decide +kernel)
  exact s_int
  refine s_idx ?_ ?_
  refine s_idx ?_ ?_
  exact s_var (by decide +kernel) (by decide +kernel)
  exact s_var (by decide +kernel) (by decide +kernel)
  exact s_int
  refine ss_one ?_
  refine s_ret ?_
  exact s_bool
  exact ss_nil
  refine ss_one ?_
  refine s_ret ?_
  exact s_bool
noncomputable abbrev Piece := List (Bool × S)
noncomputable def lies : Piece → S → Bool
  | [], _ => true
  | p :: r, c :: t => (decide (c ∈ p.2) != p.1) && lies r t
  | _ :: _, [] => false
noncomputable def liesAt (ps : Piece) (name : S) (place : Nat) : Bool := decide (place + ps.length ≤ name.length) && lies ps (name.drop place)
noncomputable def p_law_lies_at : Spec' := fun Vs σ Q E => ∃ i ps name place, Vs = [.lst i, .str name, .int (place : Nat)] ∧ σ[i]? = some (.list (vP ps)) ∧ ps.length ≤ 1000 ∧ name.length ≤ 1000 ∧ place ≤ 1000 ∧ Q (.bool (liesAt ps name place)) σ
theorem range_ints (n : Nat) (a : Int) : (It.rng a n).items = (List.range' 0 n).map fun i => V.int (a + (i : Nat)) := by
  show (List.range n).map _ = _
  rw [List.range_eq_range']
theorem vP_at {ps : Piece} {k : Nat} {p : Bool × S} (h : ps[k]? = some p) : (vP ps)[k]? = some (.tup [.bool p.1, .str p.2]) := by
  unfold vP; rw [List.getElem?_map, h]; rfl
theorem for_rng {x : String} {f : Ex} {b : Sx} {vars : Vars} {σ : Sto} {n : Nat} {Q : Fl → St → Prop} {E} (e : EV f vars σ (.int n)) (hn : n < 1000000) (k : forC (It.rng 0 n).chk x b ((List.range' 0 n).map fun i : Nat => V.int (0 + (i : Nat))) ⟨vars, σ⟩ Q E) : forS x (rng1 f) b ⟨vars, σ⟩ Q E := e _ _ ⟨_, rfl, nat_pos9 hn, by
  rw [Int.toNat_natCast]
  show forC _ x b (It.rng 0 n).items _ _ _
  rw [range_ints]; exact k⟩
theorem TV.eqB {f g : Ex} {vars : Vars} {σ : Sto} {a b : Bool} (h : EV f vars σ (.bool a)) (k : EV g vars σ (.bool b)) : TV (tcmp (oEqNe false) f g) vars σ (a == b) := fun Q E q => h _ _ (k _ _ ⟨_, rfl, by rw [Bool.bne_false]; exact q⟩)
noncomputable abbrev KA : List String := ["piece", "name", "place"]
theorem lies_loop {i : Nat} {ps : Piece} {name : S} {place : Nat} {E : X → St → Prop} {chk : Sto → Prop} (hchk : ∀ σ, chk σ) {σ : Sto} (hc : σ[i]? = some (.list (vP ps))) (hp : ps.length ≤ 1000) (hn : name.length ≤ 1000) (hle : place + ps.length ≤ name.length) {Q' : Fl → St → Prop} {R : Bool}
    (hq : R = true → ∀ vars', Q' .next ⟨vars', σ⟩) (hr : R = false → ∀ vars', Q' (.ret (.bool false)) ⟨vars', σ⟩) (m : Nat) :
    ∀ (k : Nat) (vars : Vars), k + m = ps.length → Has vars KA [.v (.lst i), .v (.str name), .v (.int place)] → R = lies (ps.drop k) (name.drop (place + k)) →
      forC chk "k" f_law_lies_at_b1 ((List.range' k m).map fun j : Nat => V.int (0 + (j : Nat))) ⟨vars, σ⟩ Q' E := by
  induction m with
  | zero =>
    intro k vars hk v hR
    rw [List.drop_eq_nil_iff.mpr (show ps.length ≤ k by omega)] at hR
    exact forC_nil (hchk _) (hq hR _)
  | succ m ih =>
    intro k vars hk v hR
    have hkl : k < ps.length := by omega
    have hnl : place + k < name.length := by omega
    have hpk : ps[k]? = some ps[k] := List.getElem?_eq_getElem hkl
    have hnk : name[place + k]? = some name[place + k] := List.getElem?_eq_getElem hnl
    rw [List.drop_eq_getElem_cons hkl, List.drop_eq_getElem_cons hnl] at hR
    rw [List.range'_succ, List.map_cons]
    refine forC_cons (hchk _) ?_
    have v1 := v.new (x := "k") (w := .v (.int (0 + (k : Int)))) (by decide)
    generalize upd vars "k" (.v (.int (0 + (k : Int)))) = vars1 at v1
    have ek : EV (var "k") vars1 σ (.int (k : Nat)) := (EV.vr v1 0 rfl rfl).to (by rw [Int.zero_add])
    have ec := EV.idx (σ := σ) (EV.vr v1 2 rfl rfl) ((EV.add (EV.vr v1 3 rfl rfl) ek).to (w := .int ((place + k : Nat) : Int)) rfl) (by omega) hnk
    have ep := EV.idxL (EV.vr v1 1 rfl rfl) ek hc (by omega) (vP_at hpk)
    have t := TV.eqB (EV.inS ec (EV.idxT ep (EV.int (i := (1 : Nat))) (by decide) (v := .str ps[k].2) rfl)) (EV.idxT ep (EV.int (i := (0 : Nat))) (by decide) (v := .bool ps[k].1) rfl)
    have e : lies (ps[k] :: ps.drop (k + 1)) (name[place + k] :: name.drop (place + k + 1)) = ((decide (name[place + k] ∈ ps[k].2) != ps[k].1) && lies (ps.drop (k + 1)) (name.drop (place + k + 1))) := rfl
    rw [e] at hR
    refine ifS_run t (fun h => ?_) (fun h => skipS ?_)
    · refine ret_run EV.bool (hr ?_ _)
      rw [hR, bne, h]; rfl
    · exact ih (k + 1) vars1 (by omega) v1.tl (by rw [hR, bne, h]; rfl)
theorem i_law_lies_at {Vs σ Q E} (h : p_law_lies_at Vs σ Q E) : Vs.length = 3 ∧ f_law_lies_at ⟨bindV ["piece", "name", "place"] Vs, σ⟩ (fin1 Q) (fin2 E) := by
  obtain ⟨i, ps, name, place, rfl, hc, hp, hn, hpl, hq⟩ := h
  refine ⟨rfl, ?_⟩
  have v := Has.bind (ps := ["piece", "name", "place"]) (Vs := [.lst i, .str name, .int place]) (by decide)
  have hl : (vP ps).length = ps.length := List.length_map _
  have el := (EV.lenL (σ := σ) (EV.vr v 0 rfl rfl) hc (by omega)).to (w := .int ps.length) (by rw [hl])
  refine seq_run (ifS_run (TV.gt (EV.add (EV.vr v 2 rfl rfl) el) (EV.len (EV.vr v 1 rfl rfl) (by omega))) (fun h => ?_) (fun h => skipS ?_))
  · have h := of_decide_eq_true h
    refine ret_run EV.bool ?_
    have hlie : liesAt ps name place = false := by unfold liesAt; rw [decide_eq_false (by omega), Bool.false_and]
    rw [hlie] at hq
    exact hq
  · have h := of_decide_eq_false h
    have hle : place + ps.length ≤ name.length := by omega
    have hlie : liesAt ps name place = lies ps (name.drop place) := by unfold liesAt; rw [decide_eq_true hle, Bool.true_and]
    rw [hlie] at hq
    refine seq_run (for_rng el (by omega) (lies_loop (R := lies ps (name.drop place)) (fun _ => trivial) hc hp hn hle (fun e vars' => ?_) (fun e vars' => ?_) ps.length 0 _ (by omega) v rfl))
    · rw [e] at hq; exact ret_run EV.bool hq
    · rw [e] at hq; exact hq
theorem c_law_lies_at : Contract 0 "_law_lies_at" p_law_lies_at := contract_of (d := r_law_lies_at) (ps := ["piece", "name", "place"]) (by kernel_rfl) sd_law_lies_at (by decide +kernel) (fun pm code doc vs h => by obtain ⟨a, b, c, rfl⟩ := len3 h; rfl) fun _ _ _ _ => i_law_lies_at
end
end Mine

namespace Mine
section
noncomputable abbrev r_law_takes : DefRec := recAt 28
noncomputable def f_law_takes_t1 : Tx := (tand (tcmp oLe (op2 oAdd (var "place") (op1 oLen (var "piece"))) (op1 oLen (var "name"))) (tand (tnot (tval (callF p_law_lies_at (xcons (var "piece") (xcons (var "name") (xcons (var "place") xnil)))))) (tlit true)))
noncomputable def f_law_takes_b2 : Sx := (aug oIadd "place" (cint 1))
noncomputable def f_law_takes_b3 : Sx := (seq (whileS f_law_takes_t1 f_law_takes_b2) (seq (ifS (tcmp oGt (op2 oAdd (var "place") (op1 oLen (var "piece"))) (op1 oLen (var "name"))) (retS (cbool false)) skip) (aug oIadd "place" (op1 oLen (var "piece")))))
noncomputable def f_law_takes : Sx := (seq (ifS (tnot (tval (callF p_law_lies_at (xcons (op2 oIdx (var "pieces") (cint 0)) (xcons (var "name") (xcons (cint 0) xnil)))))) (retS (cbool false)) skip) (seq (asn "place" (op1 oLen (op2 oIdx (var "pieces") (cint 0)))) (seq (ifS (tcmp (oEqNe false) (op1 oLen (var "pieces")) (cint 1)) (retS (op2 (oEqNe false) (var "place") (op1 oLen (var "name")))) skip) (seq (forS "piece" (ofLst (slice (var "pieces") (cint 1) (op1 oNeg (cint 1)))) f_law_takes_b3) (seq (asn "end" (op2 oSub (op1 oLen (var "name")) (op1 oLen (op2 oIdx (var "pieces") (op1 oNeg (cint 1)))))) (retS (andx (op2 oLe (var "place") (var "end")) (callF p_law_lies_at (xcons (op2 oIdx (var "pieces") (op1 oNeg (cint 1))) (xcons (var "name") (xcons (var "end") xnil)))))))))))
theorem sd_law_takes : SoundSs 1 .pl r_law_takes.scope r_law_takes.body f_law_takes := by
  refine ss_cons ?_ ?_
  refine s_if ?_ ?_ ?_
  refine t_not ?_
  refine t_val ?_
  refine s_call c_law_lies_at (by decide) (by decide +kernel) ?_
  refine e_cons ?_ ?_
  refine s_idx ?_ ?_
  exact s_var (by decide +kernel) (by decide +kernel)
  exact s_int
  refine e_cons ?_ ?_
  exact s_var (by decide +kernel) (by decide +kernel)
  refine e_cons ?_ ?_
  exact s_int
  exact e_nil
  refine ss_one ?_
  refine s_ret ?_
  exact s_bool
  exact ss_nil
  refine ss_cons ?_ ?_
  refine s_asn ?_ (by decide +kernel)
  refine s_blt1 b_len (by decide +kernel) o_len ?_
  refine s_idx ?_ ?_
  exact s_var (by decide +kernel) (by decide +kernel)
  exact s_int
  refine ss_cons ?_ ?_
  refine s_if ?_ ?_ ?_
  refine t_cmp o_eq ?_ ?_
  refine s_blt1 b_len (by decide +kernel) o_len ?_
  exact s_var (by decide +kernel) (by decide +kernel)
  exact s_int
  refine ss_one ?_
  refine s_ret ?_
  refine s_cmp o_eq ?_ ?_
  exact s_var (by decide +kernel) (by decide +kernel)
  refine s_blt1 b_len (by decide +kernel) o_len ?_
  exact s_var (by decide +kernel) (by decide +kernel)
  exact ss_nil
  refine ss_cons ?_ ?_
  refine s_for ?_ ?_ (by decide +kernel)
  refine i_lst ?_
  refine s_slice ?_ ?_ ?_
  exact s_var (by decide +kernel) (by decide +kernel)
  refine p_some ?_
  exact s_int
  refine p_some ?_
  refine s_neg ?_
  exact s_int
  refine ss_cons ?_ ?_
  refine s_while ?_ ?_
  refine t_bop ?_
  refine a_and ?_ ?_
  refine t_cmp o_le ?_ ?_
  refine s_bin o_add ?_ ?_
  exact s_var (by decide +kernel) (by decide +kernel)
  refine s_blt1 b_len (by decide +kernel) o_len ?_
  exact s_var (by decide +kernel) (by decide +kernel)
  refine s_blt1 b_len (by decide +kernel) o_len ?_
  exact s_var (by decide +kernel) (by decide +kernel)
  refine a_and ?_ ?_
  refine t_not ?_
  refine t_val ?_
  refine s_call c_law_lies_at (by decide) (by decide +kernel) ?_
  refine e_cons ?_ ?_
  exact s_var (by decide +kernel) (by decide +kernel)
  refine e_cons ?_ ?_
  exact s_var (by decide +kernel) (by decide +kernel)
  refine e_cons ?_ ?_
  exact s_var (by decide +kernel) (by decide +kernel)
  exact e_nil
  exact a_and_nil
  refine ss_one ?_
  refine s_aug o_iadd ?_ (by decide +kernel) (by decide +kernel)
  exact s_int
  refine ss_cons ?_ ?_
  refine s_if ?_ ?_ ?_
  refine t_cmp o_gt ?_ ?_
  refine s_bin o_add ?_ ?_
  exact s_var (by decide +kernel) (by decide +kernel)
  refine s_blt1 b_len (by decide +kernel) o_len ?_
  exact s_var (by decide +kernel) (by decide +kernel)
  refine s_blt1 b_len (by decide +kernel) o_len ?_
  exact s_var (by decide +kernel) (by decide +kernel)
  refine ss_one ?_
  refine s_ret ?_
  exact s_bool
  exact ss_nil
  refine ss_one ?_
  refine s_aug o_iadd ?_ (by decide +kernel) (by decide +kernel)
  refine s_blt1 b_len (by decide +kernel) o_len ?_
  exact s_var (by decide +kernel) (by decide +kernel)
  refine ss_cons ?_ ?_
  refine s_asn ?_ (by decide +kernel)
  refine s_bin o_sub ?_ ?_
  refine s_blt1 b_len (by decide +kernel) o_len ?_
  exact s_var (by decide +kernel) (by decide +kernel)
  refine s_blt1 b_len (by decide +kernel) o_len ?_
  refine s_idx ?_ ?_
  exact s_var (by decide +kernel) (by decide +kernel)
  refine s_neg ?_
  exact s_int
  refine ss_one ?_
  refine s_ret ?_
  refine s_and ?_ ?_
  refine s_cmp o_le ?_ ?_
  exact s_var (by decide +kernel) (by decide +kernel)
  exact s_var (by decide +kernel) (by decide +kernel)
  refine s_call c_law_lies_at (by decide) (by decide +kernel) ?_
  refine e_cons ?_ ?_
  refine s_idx ?_ ?_
  exact s_var (by decide +kernel) (by decide +kernel)
  refine s_neg ?_
  exact s_int
  refine e_cons ?_ ?_
  exact s_var (by decide +kernel) (by decide +kernel)
  refine e_cons ?_ ?_
  exact s_var (by decide +kernel) (by decide +kernel)
  exact e_nil
inductive PAt (σ : Sto) : List Nat → List Piece → Prop
  | nil : PAt σ [] []
  | cons {j ps js pss} : σ[j]? = some (.list (vP ps)) → ps.length ≤ 1000 → PAt σ js pss → PAt σ (j :: js) (ps :: pss)
theorem PAt.ext {σ ν js pss} (x : PAt σ js pss) : PAt (σ ++ ν) js pss := by
  induction x with
  | nil => exact .nil
  | cons h1 h2 _ ih => exact .cons (ext_get h1) h2 ih
theorem PAt.length {σ js pss} (x : PAt σ js pss) : js.length = pss.length := by
  induction x with
  | nil => rfl
  | cons _ _ _ ih => simp [ih]
theorem PAt.app {σ js pss js' pss'} (x : PAt σ js pss) (y : PAt σ js' pss') : PAt σ (js ++ js') (pss ++ pss') := by
  induction x with
  | nil => exact y
  | cons h1 h2 _ ih => exact .cons h1 h2 ih
noncomputable def findF (p : Piece) (name : S) : Nat → Nat → Option Nat
  | 0, _ => none
  | f + 1, place => if liesAt p name place then some place else findF p name f (place + 1)
noncomputable def takesMid : List Piece → S → Nat → Option Nat
  | [], _, place => some place
  | p :: r, name, place => match findF p name (name.length + 1 - place) place with
    | none => none
    | some q => takesMid r name (q + p.length)
noncomputable def takes (first : Piece) (rest : Option (List Piece × Piece)) (name : S) : Bool := liesAt first name 0 && match rest with
  | none => decide (first.length = name.length)
  | some (mid, last) => match takesMid mid name first.length with
    | none => false
    | some place => decide (place + last.length ≤ name.length) && liesAt last name (name.length - last.length)
inductive Pcs (σ : Sto) (i : Nat) : Piece → Option (List Piece × Piece) → Prop
  | one {j p} : σ[i]? = some (.list [.lst j]) → σ[j]? = some (.list (vP p)) → p.length ≤ 1000 → Pcs σ i p none
  | more {j p js mid jl last} : σ[i]? = some (.list (.lst j :: (js.map V.lst ++ [.lst jl]))) → σ[j]? = some (.list (vP p)) → p.length ≤ 1000 → PAt σ js mid → σ[jl]? = some (.list (vP last)) → last.length ≤ 1000 → js.length ≤ 1000 → Pcs σ i p (some (mid, last))
noncomputable def p_law_takes : Spec' := fun Vs σ Q E => ∃ i p rest name, Vs = [.lst i, .str name] ∧ Pcs σ i p rest ∧ name.length ≤ 1000 ∧ ∀ ν, Q (.bool (takes p rest name)) (σ ++ ν)
theorem liesAt_le {p : Piece} {name : S} {q : Nat} (h : liesAt p name q = true) : q + p.length ≤ name.length := by
  unfold liesAt at h; rw [Bool.and_eq_true] at h; exact of_decide_eq_true h.1
theorem findF_le {p : Piece} {name : S} : ∀ {f place q}, findF p name f place = some q → place ≤ q ∧ liesAt p name q = true
  | 0, _, _, h => by cases h
  | f + 1, place, q, h => by
    unfold findF at h
    split at h
    · cases h; exact ⟨Nat.le_refl _, by assumption⟩
    · obtain ⟨h1, h2⟩ := findF_le h; exact ⟨by omega, h2⟩
noncomputable abbrev KL : List String := ["piece", "place", "pieces", "name"]
noncomputable abbrev WL (j place i : Nat) (name : S) : List Wv := [.v (.lst j), .v (.int place), .v (.lst i), .v (.str name)]
theorem vP_len (p : Piece) : (vP p).length = p.length := List.length_map _
theorem EV.lenP {f : Ex} {vars : Vars} {σ : Sto} {j : Nat} {p : Piece} (e : EV f vars σ (.lst j)) (hc : σ[j]? = some (.list (vP p))) (hp : p.length ≤ 1000) : EV (op1 oLen f) vars σ (.int p.length) := (EV.lenL e hc (by rw [vP_len]; omega)).to (by rw [vP_len])
theorem EV.lies {f g h : Ex} {vars : Vars} {σ : Sto} {j place : Nat} {p : Piece} {name : S} (e1 : EV f vars σ (.lst j)) (e2 : EV g vars σ (.str name)) (e3 : EV h vars σ (.int place)) (hc : σ[j]? = some (.list (vP p))) (hp : p.length ≤ 1000) (hn : name.length ≤ 1000) (hpl : place ≤ 1000) :
    EV (callF p_law_lies_at (xcons f (xcons g (xcons h xnil)))) vars σ (.bool (liesAt p name place)) := EV.call3 e1 e2 e3 fun Q E q => ⟨j, p, name, place, rfl, hc, hp, hn, hpl, q⟩
theorem findF_out {p : Piece} {name : S} : ∀ (f place : Nat), ¬ place + p.length ≤ name.length → findF p name f place = none := by
  intro f
  induction f with
  | zero => intro _ _; rfl
  | succ f ih =>
    intro place h
    have hli : liesAt p name place = false := by unfold liesAt; rw [decide_eq_false h, Bool.false_and]
    unfold findF; rw [hli]; exact ih _ (by omega)
section
variable {i j : Nat} {p : Piece} {name : S} {E : X → St → Prop} {Q' : Fl → St → Prop} {σ : Sto}
theorem find_loop (hp : p.length ≤ 1000) (hn : name.length ≤ 1000) (hc : σ[j]? = some (.list (vP p))) {R : Option Nat}
    (hq : ∀ vars' q, Has vars' KL (WL j q i name) → (R = some q ∨ (R = none ∧ name.length < q + p.length)) → q ≤ name.length + 1 → Q' .next ⟨vars', σ⟩) (n : Nat) :
    ∀ (place f : Nat) (vars : Vars), f = name.length + 1 - place → f < n → place ≤ name.length + 1 → Has vars KL (WL j place i name) → R = findF p name f place → loopN f_law_takes_t1 f_law_takes_b2 n ⟨vars, σ⟩ Q' E := by
  induction n with
  | zero => intro _ _ _ _ h; exact absurd h (Nat.not_lt_zero _)
  | succ n ih =>
    intro place f vars hf hfn hpl v hR
    have t1 := TV.le (σ := σ) (EV.add (EV.vr v 1 rfl rfl) (EV.lenP (EV.vr v 0 rfl rfl) hc hp)) (EV.len (EV.vr v 3 rfl rfl) (by omega))
    by_cases hle : place + p.length ≤ name.length
    · obtain ⟨f', rfl⟩ : ∃ f', f = f' + 1 := ⟨f - 1, by omega⟩
      unfold findF at hR
      refine loop_go ((t1.to (decide_eq_true (by omega))).andT ((TV.val (EV.lies (EV.vr v 0 rfl rfl) (EV.vr v 3 rfl rfl) (EV.vr v 1 rfl rfl) hc hp hn (by omega))).not.and (TV.lit (c := true)))) (fun h => ?_) (fun h => ?_)
      · have hli : liesAt p name place = false := by simpa using h
        rw [hli] at hR
        exact augH v 1 rfl rfl (by decide) fun vars' v' => ih (place + 1) f' vars' (by omega) (by omega) (by omega) v' hR
      · have hli : liesAt p name place = true := by simpa using h
        rw [hli] at hR
        exact hq vars place v (.inl hR) hpl
    · refine loop_go ((t1.to (decide_eq_false (by omega))).andF) (fun h => by cases h) (fun _ => hq vars place v (.inr ⟨?_, by omega⟩) hpl)
      rw [hR]; exact findF_out _ _ hle
noncomputable abbrev KM : List String := ["place", "pieces", "name"]
theorem mid_loop {l : Nat} {all : List V} (hn : name.length ≤ 1000) (hall : σ[l]? = some (.list all)) {R : Option Nat}
    (hq : ∀ vars' q, Has vars' KM [.v (.int (q : Nat)), .v (.lst i), .v (.str name)] → R = some q → q ≤ name.length → Q' .next ⟨vars', σ⟩) (hr : R = none → ∀ vars', Q' (.ret (.bool false)) ⟨vars', σ⟩) {js : List Nat} {pss : List Piece} (x : PAt σ js pss) :
    ∀ (place : Nat) (vars : Vars), place ≤ name.length → Has vars KM [.v (.int place), .v (.lst i), .v (.str name)] → R = takesMid pss name place → forC (It.lst l all).chk "piece" f_law_takes_b3 (js.map V.lst) ⟨vars, σ⟩ Q' E := by
  induction x with
  | nil => intro place vars hpl v hR; exact forC_nil hall (hq vars place v hR hpl)
  | @cons j p js pss hc hp rest ih =>
    intro place vars hpl v hR
    rw [List.map_cons]
    unfold takesMid at hR
    refine forC_cons hall (seq_run ⟨name.length + 3, find_loop (i := i) hp hn hc (fun vars' q w k3 k4 => ?_) (name.length + 3) place (name.length + 1 - place) _ rfl (by omega) (by omega) (v.new (by decide)) rfl⟩)
    have t := TV.gt (σ := σ) (EV.add (EV.vr w 1 rfl rfl) (EV.lenP (EV.vr w 0 rfl rfl) hc hp)) (EV.len (EV.vr w 3 rfl rfl) (by omega))
    rcases k3 with k3 | ⟨k3, k5⟩
    · have hle := liesAt_le (findF_le k3).2
      rw [k3] at hR
      refine seq_run (ifS_false (t.to (decide_eq_false (by omega))) (skipS ?_))
      refine augI w 1 rfl rfl (EV.lenP (EV.vr w 0 rfl rfl) hc hp) (by decide) fun vars2 w2 => ?_
      exact ih (q + p.length) vars2 (by omega) w2.tl hR
    · rw [k3] at hR
      exact seq_run (ifS_true (t.to (decide_eq_true (by omega))) (ret_run EV.bool (hr hR _)))
end
theorem slc_inner {α : Type} (a b : α) (xs : List α) : slc (a :: (xs ++ [b])) (some 1) (some (-1)) = xs := by
  show ((a :: (xs ++ [b])).drop (clipAt (xs ++ [b]).length.succ ((1 : Nat) : Int))).take (clipAt (xs ++ [b]).length.succ (-((1 : Nat) : Int)) - clipAt (xs ++ [b]).length.succ ((1 : Nat) : Int)) = xs
  rw [clipAt_nat, clipAt_neg _ 1 (by decide), List.length_append, List.length_singleton, Nat.min_eq_left (Nat.succ_le_succ (Nat.zero_le _))]
  exact List.take_left' rfl
theorem EV.eqIv {f g : Ex} {vars : Vars} {σ : Sto} {a b : Nat} (h : EV f vars σ (.int a)) (k : EV g vars σ (.int b)) : EV (op2 (oEqNe false) f g) vars σ (.bool (decide (a = b))) := fun Q E q => h _ _ (k _ _ (show Q (.bool (decide _ != false)) σ by rw [Bool.bne_false, decide_eq_decide.mpr (Int.ofNat_inj (m := a) (n := b))]; exact q))
theorem slice_new {f g h : Ex} {vars : Vars} {σ : Sto} {l : Nat} {xs : List V} {a b : Int} (e1 : EV f vars σ (.lst l)) (e2 : EV g vars σ (.int a)) (e3 : EV h vars σ (.int b)) (hl : σ[l]? = some (.list xs)) (hz : xs.length ≤ 1000000) {Q : V → Sto → Prop} {E : X → Sto → Prop} (k : ∀ ν l', (σ ++ ν)[l']? = some (.list (Mine.slc xs (some a) (some b))) → Q (.lst l') (σ ++ ν)) : Mine.slice f g h vars σ Q E :=
  e1 _ _ (e2 _ _ (e3 _ _ ⟨_, _, rfl, rfl, xs, hl, hz, k _ _ (new_get _ _)⟩))
set_option tactic.hygienic true in
theorem i_law_takes {Vs σ Q E} (h : p_law_takes Vs σ Q E) : Vs.length = 2 ∧ f_law_takes ⟨bindV ["pieces", "name"] Vs, σ⟩ (fin1 Q) (fin2 E) := by
  obtain ⟨i, p, rest, name, rfl, hp, hn, hq⟩ := h
  refine ⟨rfl, ?_⟩
  have v := Has.two (x := "pieces") (y := "name") (a := .lst i) (b := .str name) (by decide)
  obtain ⟨j, vs, hc, hj, hpl, hz⟩ : ∃ j vs, σ[i]? = some (.list (.lst j :: vs)) ∧ σ[j]? = some (.list (vP p)) ∧ p.length ≤ 1000 ∧ vs.length ≤ 2000 := by
    cases hp with
    | one hc hj hpl => exact ⟨_, [], hc, hj, hpl, by simp⟩
    | more hc hj hpl hm hjl hll hjs => exact ⟨_, _, hc, hj, hpl, by simp; omega⟩
  have e0 : ∀ {vars K W} (w : Has vars K W) (k : Nat), K[k]? = some "pieces" → W[k]? = some (.v (.lst i)) → EV (op2 oIdx (var "pieces") (cint 0)) vars σ (.lst j) := fun w k a b => EV.idxL (i := 0) (EV.vr w k a b) EV.int hc (by decide) rfl
  have q0 : ∀ b, takes p rest name = b → Q (.bool b) σ := fun b e => by
    have := hq []
    rw [List.append_nil, e] at this
    exact this
  refine seq_run (ifS_run (TV.val (EV.lies (place := 0) (e0 v 0 rfl rfl) (EV.vr v 1 rfl rfl) EV.int hj hpl hn (by decide))).not (fun h => ?_) (fun h => ?_))
  · have hli : liesAt p name 0 = false := by simpa using h
    exact ret_run EV.bool (q0 _ (by unfold takes; rw [hli]; rfl))
  have hli : liesAt p name 0 = true := by simpa using h
  refine seq_run (asnN v (EV.lenP (e0 v 0 rfl rfl) hj hpl) (by decide) fun vars1 v1 => ?_)
  have tn := TV.eqI (σ := σ) (EV.lenL (EV.vr v1 1 rfl rfl) hc (by simp only [List.length_cons]; omega)) (EV.int (i := 1))
  cases hp with
  | one hc' hj' hpl' =>
    rw [hc'] at hc
    cases hc
    refine seq_run (ifS_true (tn.to (by simp)) (ret_run (EV.eqIv (EV.vr v1 0 rfl rfl) (EV.len (EV.vr v1 2 rfl rfl) (by omega))) (q0 _ ?_)))
    unfold takes; rw [hli]; rfl
  | more hc' hj' hpl' hm hjl hll hjs =>
    rename_i js mid jl last
    rw [hc'] at hc
    cases hc
    have hpn := liesAt_le hli
    refine seq_run (ifS_false (tn.to (decide_eq_false (by simp; omega))) ?_)
    refine seq_run (for_lst (xs := js.map V.lst) (fun Q' E' k => slice_new (EV.vr v1 1 rfl rfl) EV.int (EV.neg EV.int) hc' (by simp; omega) (by rw [slc_inner]; exact k)) fun ν l hl => ?_)
    have et : takes p (some (mid, last)) name = match takesMid mid name p.length with
      | none => false
      | some place => decide (place + last.length ≤ name.length) && liesAt last name (name.length - last.length) := by unfold takes; rw [hli]; rfl
    have hq1 := hq ν
    rw [et] at hq1
    refine mid_loop (i := i) hn hl (R := takesMid mid name p.length) (fun vars' q w k3 k4 => ?_) (fun k3 vars' => ?_) hm.ext p.length _ (by omega) v1 rfl
    · rw [k3] at hq1
      have el : EV (op2 oIdx (var "pieces") (op1 oNeg (cint 1))) vars' (σ ++ ν) (.lst jl) := EV.last (xs := .lst j :: js.map V.lst) (EV.vr w 1 rfl rfl) (ext_get hc')
      refine seq_run (asnN w (EV.sub (EV.len (EV.vr w 2 rfl rfl) (by omega)) (EV.lenP el (ext_get hjl) hll)) (by decide) fun vars2 w2 => ?_)
      have el2 : EV (op2 oIdx (var "pieces") (op1 oNeg (cint 1))) vars2 (σ ++ ν) (.lst jl) := EV.last (xs := .lst j :: js.map V.lst) (EV.vr w2 2 rfl rfl) (ext_get hc')
      have tl := EV.leI (σ := σ ++ ν) (EV.vr w2 1 rfl rfl) (EV.vr w2 0 rfl rfl)
      dsimp only at hq1
      by_cases hle : q + last.length ≤ name.length
      · rw [decide_eq_true hle, Bool.true_and] at hq1
        exact ret_run (EV.andxT tl (decide_eq_true (by omega)) (EV.lies el2 (EV.vr w2 3 rfl rfl) ((EV.vr w2 0 rfl rfl).to (w := .int ((name.length - last.length : Nat) : Int)) (by congr 1; omega)) (ext_get hjl) hll hn (by omega))) hq1
      · rw [decide_eq_false hle, Bool.false_and] at hq1
        exact ret_run (EV.andxF tl (decide_eq_false (by omega))) hq1
    · rw [k3] at hq1; exact hq1
theorem c_law_takes : Contract 1 "_law_takes" p_law_takes := contract_of (d := r_law_takes) (ps := ["pieces", "name"]) (by kernel_rfl) sd_law_takes (by decide +kernel) (fun pm code doc vs h => by obtain ⟨a, b, rfl⟩ := len2 h; rfl) fun _ _ _ _ => i_law_takes
end
end Mine

namespace Mine
section
noncomputable abbrev r_law_set : DefRec := recAt 25
noncomputable def f_law_set_t1 : Tx := (tand (tcmp oLt (var "at") (op1 oLen (var "inside"))) (tand (tcmp (oEqNe true) (op2 oIdx (var "inside") (var "at")) (cstr [93])) (tlit true)))
noncomputable def f_law_set_b2 : Sx := (seq (ifS (tcmp (oEqNe false) (op2 oIdx (var "inside") (var "at")) (cstr [92])) (aug oIadd "at" (cint 1)) (ifS (tor (tcmp (oIn false) (op2 oIdx (var "inside") (var "at")) (cstr [45, 38, 126, 124])) (tor (tand (tcmp (oIn false) (op2 oIdx (var "inside") (var "at")) (cstr [94, 91])) (tand (tcmp (oEqNe false) (var "signs") (cstr [])) (tand (tnot (tval (var "bars"))) (tlit true)))) (tlit false))) (retS cnone) skip)) (seq (aug oIadd "signs" (slice (var "inside") (var "at") (op2 oAdd (var "at") (cint 1)))) (aug oIadd "at" (cint 1))))
noncomputable def f_law_set : Sx := (seq (asn "bars" (op2 (oEqNe false) (slice (var "inside") (var "at") (op2 oAdd (var "at") (cint 1))) (cstr [94]))) (seq (ifS (tval (var "bars")) (aug oIadd "at" (cint 1)) skip) (seq (asn "signs" (cstr [])) (seq (whileS f_law_set_t1 f_law_set_b2) (seq (ifS (tor (tcmp (oEqNe false) (var "signs") (cstr [])) (tor (tcmp (oEqNe false) (var "at") (op1 oLen (var "inside"))) (tlit false))) (retS cnone) skip) (retS (tup (xcons (var "bars") (xcons (var "signs") (xcons (op2 oAdd (var "at") (cint 1)) xnil))))))))))
theorem sd_law_set : SoundSs 0 .pl r_law_set.scope r_law_set.body f_law_set := by
  refine ss_cons ?_ ?_
  refine s_asn ?_ (by decide +kernel)
  refine s_cmp o_eq ?_ ?_
  refine s_slice ?_ ?_ ?_
  exact s_var (by decide +kernel) (by decide +kernel)
  refine p_some ?_
  exact s_var (by decide +kernel) (by decide +kernel)
  refine p_some ?_
  refine s_bin o_add ?_ ?_
  exact s_var (by decide +kernel) (by decide +kernel)
  exact s_int
  exact s_str (by decide +kernel)
  refine ss_cons ?_ ?_
  refine s_if ?_ ?_ ?_
  refine t_val ?_
  exact s_var (by decide +kernel) (by decide +kernel)
  refine ss_one ?_
  refine s_aug o_iadd ?_ (by decide +kernel) (by decide +kernel)
  exact s_int
  exact ss_nil
  refine ss_cons ?_ ?_
  refine s_asn ?_ (by decide +kernel)
  exact s_str (by decide +kernel)
  refine ss_cons ?_ ?_
  refine s_while ?_ ?_
  refine t_bop ?_
  refine a_and ?_ ?_
  refine t_cmp o_lt ?_ ?_
  exact s_var (by decide +kernel) (by decide +kernel)
  refine s_blt1 b_len (by decide +kernel) o_len ?_
  exact s_var (by decide +kernel) (by decide +kernel)
  refine a_and ?_ ?_
  refine t_cmp o_ne ?_ ?_
  refine s_idx ?_ ?_
  exact s_var (by decide +kernel) (by decide +kernel)
  exact s_var (by decide +kernel) (by decide +kernel)
  exact s_str (by decide +kernel)
  exact a_and_nil
  refine ss_cons ?_ ?_
  refine s_if ?_ ?_ ?_
  refine t_cmp o_eq ?_ ?_
  refine s_idx ?_ ?_
  exact s_var (by decide +kernel) (by decide +kernel)
  exact s_var (by decide +kernel) (by decide +kernel)
  exact s_str (by decide +kernel)
  refine ss_one ?_
  refine s_aug o_iadd ?_ (by decide +kernel) (by decide +kernel)
  exact s_int
  refine ss_one ?_
  refine s_if ?_ ?_ ?_
  refine t_bop ?_
  refine a_or ?_ ?_
  refine t_cmp o_in ?_ ?_
  refine s_idx ?_ ?_
  exact s_var (by decide +kernel) (by decide +kernel)
  exact s_var (by decide +kernel) (by decide +kernel)
  exact s_str (by decide +kernel)
  refine a_or ?_ ?_
  refine t_bop ?_
  refine a_and ?_ ?_
  refine t_cmp o_in ?_ ?_
  refine s_idx ?_ ?_
  exact s_var (by decide +kernel) (by decide +kernel)
  exact s_var (by decide +kernel) (by decide +kernel)
  exact s_str (by decide +kernel)
  refine a_and ?_ ?_
  refine t_cmp o_eq ?_ ?_
  exact s_var (by decide +kernel) (by decide +kernel)
  exact s_str (by decide +kernel)
  refine a_and ?_ ?_
  refine t_not ?_
  refine t_val ?_
  exact s_var (by decide +kernel) (by decide +kernel)
  exact a_and_nil
  exact a_or_nil
  refine ss_one ?_
  refine s_ret ?_
  exact s_none
  exact ss_nil
  refine ss_cons ?_ ?_
  refine s_aug o_iadd ?_ (by decide +kernel) (by decide +kernel)
  refine s_slice ?_ ?_ ?_
  exact s_var (by decide +kernel) (by decide +kernel)
  refine p_some ?_
  exact s_var (by decide +kernel) (by decide +kernel)
  refine p_some ?_
  refine s_bin o_add ?_ ?_
  exact s_var (by decide +kernel) (by decide +kernel)
  exact s_int
  refine ss_one ?_
  refine s_aug o_iadd ?_ (by decide +kernel) (by decide +kernel)
  exact s_int
  refine ss_cons ?_ ?_
  refine s_if ?_ ?_ ?_
  refine t_bop ?_
  refine a_or ?_ ?_
  refine t_cmp o_eq ?_ ?_
  exact s_var (by decide +kernel) (by decide +kernel)
  exact s_str (by decide +kernel)
  refine a_or ?_ ?_
  refine t_cmp o_eq ?_ ?_
  exact s_var (by decide +kernel) (by decide +kernel)
  refine s_blt1 b_len (by decide +kernel) o_len ?_
  exact s_var (by decide +kernel) (by decide +kernel)
  exact a_or_nil
  refine ss_one ?_
  refine s_ret ?_
  exact s_none
  exact ss_nil
  refine ss_one ?_
  refine s_ret ?_
  refine s_tup ?_
  refine e_cons ?_ ?_
  exact s_var (by decide +kernel) (by decide +kernel)
  refine e_cons ?_ ?_
  exact s_var (by decide +kernel) (by decide +kernel)
  refine e_cons ?_ ?_
  refine s_bin o_add ?_ ?_
  exact s_var (by decide +kernel) (by decide +kernel)
  exact s_int
  exact e_nil
noncomputable def scanSet (bars : Bool) : S → S → Nat → Option (Option (S × Nat))
  | [], _, _ => some none
  | c :: r, signs, k => if c = 93 then some (if signs = [] then none else some (signs, k)) else
    if c = 92 then (match r with
      | [] => none
      | d :: r' => scanSet bars r' (signs ++ [d]) (k + 2))
    else if c ∈ [45, 38, 126, 124] then some none
    else if c ∈ [94, 91] ∧ signs = [] ∧ bars = false then some none
    else scanSet bars r (signs ++ [c]) (k + 1)
noncomputable def barsAt (rest : S) : Bool := decide (rest.take 1 = [94])
noncomputable def setAt (inside : S) (at' : Nat) : Option (Option (S × Nat)) := scanSet (barsAt (inside.drop at')) (inside.drop (if barsAt (inside.drop at') then at' + 1 else at')) [] (if barsAt (inside.drop at') then at' + 1 else at')
noncomputable def setRes (bars : Bool) : Option (S × Nat) → V
  | none => .none
  | some (signs, k) => .tup [.bool bars, .str signs, .int ((k : Nat) + 1)]
noncomputable def p_law_set : Spec' := fun Vs σ Q E => ∃ inside at' r, Vs = [.str inside, .int (at' : Nat)] ∧ at' ≤ inside.length ∧ inside.length ≤ 1000 ∧ setAt inside at' = some r ∧
  Q (setRes (barsAt (inside.drop at')) r) σ
theorem atI_drop {s : S} {k : Nat} {c : Nat} {r : S} (h : s.drop k = c :: r) : atI s (k : Int) = some c ∧ k < s.length ∧ s.drop (k + 1) = r := by
  have hl : k < s.length := by
    rcases Nat.lt_or_ge k s.length with q | q
    · exact q
    · rw [List.drop_of_length_le q] at h; cases h
  have e := List.drop_eq_getElem_cons hl
  rw [h] at e
  simp only [List.cons.injEq] at e
  refine ⟨?_, hl, e.2.symm⟩
  rw [atI_nat, List.getElem?_eq_getElem hl, e.1]
theorem slc_one {s : S} {k : Nat} {c : Nat} {r : S} (h : s.drop k = c :: r) : slc s (some (k : Int)) (some ((k : Int) + 1)) = [c] := by
  rw [show ((k : Int) + 1) = ((k + 1 : Nat) : Int) by omega, slc_mid s k (k + 1) (by omega), h]; simp
noncomputable abbrev KS : List String := ["signs", "bars", "inside", "at"]
noncomputable abbrev WS (signs : S) (bars : Bool) (inside : S) (k : Nat) : List Wv := [.v (.str signs), .v (.bool bars), .v (.str inside), .v (.int k)]
section
variable {inside : S} {bars : Bool} {σ : Sto} {vars : Vars} {Q : Fl → St → Prop} {E : X → St → Prop}
theorem EV.one {f g h : Ex} {k c : Nat} {t : S} (hn : inside.length ≤ 1000) (e1 : EV f vars σ (.str inside)) (e2 : EV g vars σ (.int k)) (e3 : EV h vars σ (.int ((k : Int) + 1))) (hd : inside.drop k = c :: t) : EV (slice f g h) vars σ (.str [c]) :=
  (EV.slc e1 e2 e3 (by omega)).to (by rw [slc_one hd])
theorem set_tail {k c : Nat} {signs t : S} (hn : inside.length ≤ 1000) (hd : inside.drop k = c :: t) (hs : signs.length ≤ k) (v : Has vars KS (WS signs bars inside k)) (go : ∀ vars', Has vars' KS (WS (signs ++ [c]) bars inside (k + 1)) → Q .next ⟨vars', σ⟩) :
    seq (aug oIadd "signs" (slice (var "inside") (var "at") (op2 oAdd (var "at") (cint 1)))) (aug oIadd "at" (cint 1)) ⟨vars, σ⟩ Q E := by
  have hl := (atI_drop hd).2.1
  refine seq_run (augS v 0 rfl rfl (EV.one hn (EV.vr v 2 rfl rfl) (EV.vr v 3 rfl rfl) (EV.add (EV.vr v 3 rfl rfl) EV.int) hd) (by simp only [List.length_cons, List.length_nil]; omega) (by decide) fun _ v1 => ?_)
  exact augH v1 3 rfl rfl (by decide) fun vars2 v2 => go vars2 v2
theorem set_turn {k c : Nat} {signs t : S} {r : Option (S × Nat)} (hn : inside.length ≤ 1000) (hd : inside.drop k = c :: t) (hs : signs.length ≤ k) (h93 : c ≠ 93) (v : Has vars KS (WS signs bars inside k)) (hr : scanSet bars (c :: t) signs k = some r)
    (go : ∀ vars' k' signs' t', Has vars' KS (WS signs' bars inside k') → inside.drop k' = t' → t'.length ≤ t.length → k' ≤ inside.length → signs'.length ≤ k' → scanSet bars t' signs' k' = some r → Q .next ⟨vars', σ⟩)
    (out : r = none → ∀ vars', Q (.ret .none) ⟨vars', σ⟩) : f_law_set_b2 ⟨vars, σ⟩ Q E := by
  obtain ⟨ha, hl, hdr⟩ := atI_drop hd
  rw [atI_nat] at ha
  have ei : EV (op2 oIdx (var "inside") (var "at")) vars σ (.str [c]) := EV.idx (EV.vr v 2 rfl rfl) (EV.vr v 3 rfl rfl) (by omega) ha
  unfold scanSet at hr
  rw [if_neg h93] at hr
  have t92 : TV (tcmp (oEqNe false) (op2 oIdx (var "inside") (var "at")) (cstr [92])) vars σ (decide (c = 92)) := (TV.eqS ei EV.str).to (decide_eq_decide.mpr ⟨fun h => (List.cons.inj h).1, fun h => by rw [h]⟩)
  refine seq_run (ifS_run t92 (fun hc => ?_) (fun hc => ?_))
  · rw [if_pos (of_decide_eq_true hc)] at hr
    cases t with
    | nil => cases hr
    | cons d t' =>
      obtain ⟨_, hl', hdr'⟩ := atI_drop hdr
      refine augH v 3 rfl rfl (by decide) fun vars1 v1 => set_tail hn hdr (by omega) v1 fun vars2 v2 => go vars2 (k + 2) _ t' v2 hdr' (Nat.le_succ _) hl' (by rw [List.length_append, List.length_singleton]; omega) hr
  · rw [if_neg (of_decide_eq_false hc)] at hr
    have t2 := (TV.inS ei (EV.str (l := [45, 38, 126, 124]))).or (((TV.inS ei (EV.str (l := [94, 91]))).and ((TV.eqS (EV.vr v 0 rfl rfl) (EV.str (l := []))).and ((TV.vr v 1 rfl rfl).not.and (TV.lit (c := true))))).or (TV.lit (c := false)))
    have hr2 : (if c ∈ [45, 38, 126, 124] ∨ (c ∈ [94, 91] ∧ signs = [] ∧ bars = false) then some none else scanSet bars t (signs ++ [c]) (k + 1)) = some r := by
      by_cases h1 : c ∈ [45, 38, 126, 124]
      · rw [if_pos h1] at hr; rw [if_pos (.inl h1)]; exact hr
      · rw [if_neg h1] at hr
        by_cases h2 : c ∈ [94, 91] ∧ signs = [] ∧ bars = false
        · rw [if_pos h2] at hr; rw [if_pos (.inr h2)]; exact hr
        · rw [if_neg h2] at hr; rw [if_neg (fun q => q.elim h1 h2)]; exact hr
    refine ifS_run t2 (fun hc2 => ?_) (fun hc2 => ?_)
    · rw [if_pos (by cases bars <;> simpa using hc2)] at hr2
      cases hr2
      exact ret_run EV.none (out rfl vars)
    · rw [if_neg (by cases bars <;> simpa using hc2)] at hr2
      exact set_tail hn hd hs v fun vars2 v2 => go vars2 (k + 1) _ t v2 hdr (Nat.le_refl _) hl (by rw [List.length_append, List.length_singleton]; omega) hr2
theorem set_loop (hn : inside.length ≤ 1000) {r : Option (S × Nat)} (hq1 : r = none → ∀ vars', Q (.ret .none) ⟨vars', σ⟩)
    (hq2 : ∀ vars' k' signs', Has vars' KS (WS signs' bars inside k') → k' ≤ inside.length → r = (if signs' = [] ∨ k' = inside.length then none else some (signs', k')) → Q .next ⟨vars', σ⟩) (n : Nat) :
    ∀ (k : Nat) (rest signs : S) (vars : Vars), inside.drop k = rest → k ≤ inside.length → rest.length < n → signs.length ≤ k → Has vars KS (WS signs bars inside k) → scanSet bars rest signs k = some r → loopN f_law_set_t1 f_law_set_b2 n ⟨vars, σ⟩ Q E := by
  induction n with
  | zero => intro k rest _ _ _ _ h; exact absurd h (Nat.not_lt_zero _)
  | succ n ih =>
    intro k rest signs vars hd hk hn' hs v hr
    have tl := TV.lt (σ := σ) (EV.vr v 3 rfl rfl) (EV.len (EV.vr v 2 rfl rfl) (by omega))
    cases rest with
    | nil =>
      have hkl : k = inside.length := Nat.le_antisymm hk (List.drop_eq_nil_iff.mp hd)
      refine loop_go ((tl.to (decide_eq_false (by omega))).andF) (fun h => by cases h) (fun _ => hq2 vars k signs v hk ?_)
      cases hr
      rw [if_pos (.inr hkl)]
    | cons c t =>
      obtain ⟨ha, hl, hdr⟩ := atI_drop hd
      rw [atI_nat] at ha
      have t1 := (tl.to (decide_eq_true (by omega))).andT ((TV.neS (EV.idx (EV.vr v 2 rfl rfl) (EV.vr v 3 rfl rfl) (by omega) ha) (EV.str (l := [93]))).and (TV.lit (c := true)))
      refine loop_go t1 (fun h => ?_) (fun h => ?_)
      · have h93 : c ≠ 93 := fun q => by rw [q] at h; simp at h
        exact set_turn hn hd hs h93 v hr (fun vars' k' signs' t' v' a b c d e => ih k' t' signs' vars' a c (by simp only [List.length_cons] at hn'; omega) d v' e) (fun e vars' => hq1 e vars')
      · have h93 : c = 93 := by simpa using h
        refine hq2 vars k signs v hk ?_
        subst h93
        unfold scanSet at hr
        rw [if_pos rfl] at hr
        by_cases hs0 : signs = []
        · rw [if_pos hs0] at hr; cases hr; rw [if_pos (.inl hs0)]
        · rw [if_neg hs0] at hr; cases hr; rw [if_neg (by rintro (q | q); exact hs0 q; omega)]
end
theorem bars_at {inside : S} {k : Nat} : decide (slc inside (some (k : Int)) (some ((k : Int) + 1)) = [94]) = barsAt (inside.drop k) := by
  rw [show ((k : Int) + 1) = ((k + 1 : Nat) : Int) by omega, slc_mid inside k (k + 1) (by omega)]
  unfold barsAt
  rw [show k + 1 - k = 1 by omega]
noncomputable def f_law_set_end : Sx := seq (asn "signs" (cstr [])) (seq (whileS f_law_set_t1 f_law_set_b2) (seq (ifS (tor (tcmp (oEqNe false) (var "signs") (cstr [])) (tor (tcmp (oEqNe false) (var "at") (op1 oLen (var "inside"))) (tlit false))) (retS cnone) skip) (retS (tup (xcons (var "bars") (xcons (var "signs") (xcons (op2 oAdd (var "at") (cint 1)) xnil)))))))
theorem set_end {inside : S} {bars : Bool} {σ : Sto} {vars : Vars} {k : Nat} {Q : V → Sto → Prop} {E : X → Sto → Prop} {r : Option (S × Nat)} (hn : inside.length ≤ 1000) (hk : k ≤ inside.length) (v : Has vars ["bars", "inside", "at"] [.v (.bool bars), .v (.str inside), .v (.int k)]) (hr : scanSet bars (inside.drop k) [] k = some r)
    (hQ : Q (setRes bars r) σ) : f_law_set_end ⟨vars, σ⟩ (fin1 Q) (fin2 E) := by
  refine seq_run (asnN v EV.str (by decide) fun vars1 v1 => ?_)
  refine seq_run ⟨inside.length + 1, set_loop hn (r := r) (fun e vars' => ?_) (fun vars' k' signs' w hk' hr' => ?_) (inside.length + 1) k _ [] vars1 rfl hk (by rw [List.length_drop]; omega) (Nat.zero_le _) v1 hr⟩
  · rw [e] at hQ; exact hQ
  · have t := (TV.eqS (σ := σ) (EV.vr w 0 rfl rfl) (EV.str (l := []))).or ((TV.eqI (EV.vr w 3 rfl rfl) (EV.len (EV.vr w 2 rfl rfl) (by omega))).or (TV.lit (c := false)))
    refine seq_run (ifS_run t (fun h => ?_) (fun h => ?_))
    · rw [if_pos (by simp at h; omega)] at hr'
      rw [hr'] at hQ
      exact ret_run EV.none hQ
    · rw [if_neg (by simp at h; intro q; omega)] at hr'
      rw [hr'] at hQ
      exact ret_run (EV.three (EV.vr w 1 rfl rfl) (EV.vr w 0 rfl rfl) (EV.add (EV.vr w 3 rfl rfl) EV.int)) hQ
theorem i_law_set {Vs : List V} {σ : Sto} {Q : V → Sto → Prop} {E : X → Sto → Prop} (h : p_law_set Vs σ Q E) : Vs.length = 2 ∧ f_law_set ⟨bindV ["inside", "at"] Vs, σ⟩ (fin1 Q) (fin2 E) := by
  obtain ⟨inside, k, r, rfl, hat, hn, hr, hQ⟩ := h
  refine ⟨rfl, ?_⟩
  have v := Has.two (x := "inside") (y := "at") (a := .str inside) (b := .int k) (by decide)
  have eb : EV (op2 (oEqNe false) (slice (var "inside") (var "at") (op2 oAdd (var "at") (cint 1))) (cstr [94])) (bindV ["inside", "at"] [.str inside, .int k]) σ (.bool (barsAt (inside.drop k))) := fun Q E q =>
    EV.slc (EV.vr v 0 rfl rfl) (EV.vr v 1 rfl rfl) (EV.add (EV.vr v 1 rfl rfl) EV.int) (by omega) _ _ (show Q (.bool (decide _ != false)) σ by rw [Bool.bne_false, bars_at]; exact q)
  refine seq_run (asnN v eb (by decide) fun vars1 v1 => ?_)
  unfold setAt at hr
  refine seq_run (ifS_run (TV.vr v1 0 rfl rfl) (fun hb => ?_) (fun hb => ?_))
  · rw [if_pos hb] at hr
    have h1 : k + 1 ≤ inside.length := by
      unfold barsAt at hb
      have := congrArg List.length (of_decide_eq_true hb)
      simp at this
      omega
    exact augH v1 2 rfl rfl (by decide) fun vars2 v2 => set_end hn h1 v2 hr hQ
  · rw [if_neg (by rw [hb]; decide)] at hr
    exact set_end hn hat v1 hr hQ
theorem c_law_set : Contract 0 "_law_set" p_law_set := contract_of (d := r_law_set) (ps := ["inside", "at"]) (by kernel_rfl) sd_law_set (by decide +kernel) (fun pm code doc vs h => by obtain ⟨a, b, rfl⟩ := len2 h; rfl) fun _ _ _ _ => i_law_set
end
end Mine

namespace Mine
section
theorem join_at {σ ν : Sto} {xs : List S} {Q E} (hl : xs.flatten.length ≤ 1000000) (h : Q (.str xs.flatten) (σ ++ .list (vS xs) :: ν)) : oJoin (.str []) (.lst σ.length) (σ ++ .list (vS xs) :: ν) Q E := ⟨xs, at_get _ _ _, hl, h⟩
theorem rep1 (n : Nat) (c : Nat) : (List.replicate n [c]).flatten = List.replicate n c := by
  induction n with
  | zero => rfl
  | succ n ih => simp [List.replicate_succ, ih]
noncomputable abbrev r_law_named : DefRec := recAt 21
noncomputable def f_law_named_b1 : Sx := (ifS (tcmp (oEqNe false) (var "one") (cstr [34])) (aug oIadd "run" (cint 1)) (seq (exprS (lm1 oAppend (var "signs") (op2 oMul (cstr [34]) (op2 oDiv (var "run") (cint 2))))) (seq (ifS (tcmp (oEqNe false) (op2 oMod (var "run") (cint 2)) (cint 1)) (retS (sm1 oJoin (cstr []) (var "signs"))) skip) (seq (exprS (lm1 oAppend (var "signs") (var "one"))) (asn "run" (cint 0))))))
noncomputable def f_law_named : Sx := (seq (asn "signs" (lst xnil)) (seq (asn "run" (cint 0)) (seq (forS "one" (ofLst (op2 oAdd (op1 oList (var "text")) (lst (xcons (cstr []) xnil)))) f_law_named_b1) (retS (sm1 oJoin (cstr []) (var "signs"))))))
theorem f_law_named_run (st : St) (Q : Fl → St → Prop) (E : X → St → Prop) : f_law_named st Q E = (seq (asn "signs" (lst xnil)) (seq (asn "run" (cint 0)) (seq (forS "one" (ofLst (op2 oAdd (op1 oList (var "text")) (lst (xcons (cstr []) xnil)))) f_law_named_b1) (retS (sm1 oJoin (cstr []) (var "signs")))))) st Q E := rfl
theorem sd_law_named : SoundSs 0 .pl r_law_named.scope r_law_named.body f_law_named := by
  refine ss_cons ?_ ?_
  refine s_asn ?_ (by decide +kernel)
  refine s_lst ?_
  exact e_nil
  refine ss_cons ?_ ?_
  refine s_asn ?_ (by decide +kernel)
  exact s_int
  refine ss_cons ?_ ?_
  refine s_for ?_ ?_ (by decide +kernel)
  refine i_lst ?_
  refine s_bin o_add ?_ ?_
  refine s_typ1 b_list (by decide +kernel) o_list ?_
  exact s_var (by decide +kernel) (by decide +kernel)
  refine s_lst ?_
  refine e_cons ?_ ?_
  exact s_str (by decide +kernel)
  exact e_nil
  refine ss_one ?_
  refine s_if ?_ ?_ ?_
  refine t_cmp o_eq ?_ ?_
  exact s_var (by decide +kernel) (by decide +kernel)
  exact s_str (by decide +kernel)
  refine ss_one ?_
  refine s_aug o_iadd ?_ (by decide +kernel) (by decide +kernel)
  exact s_int
  refine ss_cons ?_ ?_
  refine s_expr ?_
  refine s_append ?_ ?_
  exact s_var (by decide +kernel) (by decide +kernel)
  refine s_bin o_mul ?_ ?_
  exact s_str (by decide +kernel)
  refine s_bin o_div ?_ ?_
  exact s_var (by decide +kernel) (by decide +kernel)
  exact s_int
  refine ss_cons ?_ ?_
  refine s_if ?_ ?_ ?_
  refine t_cmp o_eq ?_ ?_
  refine s_bin o_mod ?_ ?_
  exact s_var (by decide +kernel) (by decide +kernel)
  exact s_int
  exact s_int
  refine ss_one ?_
  refine s_ret ?_
  refine s_join ?_ ?_
  exact s_str (by decide +kernel)
  exact s_var (by decide +kernel) (by decide +kernel)
  exact ss_nil
  refine ss_cons ?_ ?_
  refine s_expr ?_
  refine s_append ?_ ?_
  exact s_var (by decide +kernel) (by decide +kernel)
  exact s_var (by decide +kernel) (by decide +kernel)
  refine ss_one ?_
  refine s_asn ?_ (by decide +kernel)
  exact s_int
  refine ss_one ?_
  refine s_ret ?_
  refine s_join ?_ ?_
  exact s_str (by decide +kernel)
  exact s_var (by decide +kernel) (by decide +kernel)
noncomputable def namedL : List S → Nat → List S → S
  | [], _, signs => signs.flatten
  | one :: r, run, signs => if one = [34] then namedL r (run + 1) signs
    else if run % 2 = 1 then (signs ++ [List.replicate (run / 2) 34]).flatten
    else namedL r 0 (signs ++ [List.replicate (run / 2) 34] ++ [one])
noncomputable def named (text : S) : S := namedL (text.map (fun c => [c]) ++ [[]]) 0 []
noncomputable def p_law_named : Spec' := fun Vs σ Q E => ∃ text, Vs = [.str text] ∧ text.length ≤ 100 ∧ ∀ ν, Q (.str (named text)) (σ ++ ν)
theorem app_S {f g : Ex} {vars : Vars} {σ ν : Sto} {xs : List S} {x : S} {Q : Fl → St → Prop} {E} (e : EV f vars (σ ++ Cell.list (vS xs) :: ν) (.lst σ.length)) (c : EV g vars (σ ++ Cell.list (vS xs) :: ν) (.str x)) (hz : xs.length < 1000000) (k : Q .next ⟨vars, σ ++ Cell.list (vS (xs ++ [x])) :: ν⟩) : exprS (lm1 oAppend f g) ⟨vars, σ ++ Cell.list (vS xs) :: ν⟩ Q E :=
  app_own e c (by rw [vS_len]; exact hz) (by rw [show (vS xs ++ [V.str x] : List V) = vS (xs ++ [x]) from (vS_app xs [x]).symm]; exact k)
theorem EV.rep {f : Ex} {vars : Vars} {σ : Sto} {k : Nat} (e : EV f vars σ (.int k)) (hk : k < 1000) : EV (op2 oMul (cstr [34]) f) vars σ (.str (List.replicate k 34)) := fun Q E q => e _ _ ⟨⟨by omega, by omega, by decide⟩, by
  rw [Int.toNat_natCast, rep1]; exact q⟩
theorem named_loop {σ ν : Sto} {x : S} {chk : Sto → Prop} (hchk : ∀ c, chk (σ ++ c :: ν)) {E : X → St → Prop} {Q' : Fl → St → Prop} {R : S} (hr : ∀ ν vars', Q' (.ret (.str R)) ⟨vars', σ ++ ν⟩)
    (hn : ∀ vars' signs', vars' "signs" = some (.v (.lst σ.length)) → R = signs'.flatten → signs'.flatten.length ≤ 1000 → Q' .next ⟨vars', σ ++ .list (vS signs') :: ν⟩) (ones : List S) :
    ∀ (run : Nat) (signs : List S) (vars : Vars), signs.flatten.length + run + ones.length ≤ 1000 → signs.length + 2 * ones.length ≤ 1000 → (∀ o ∈ ones, o.length ≤ 1) → Has vars ["run", "signs", "text"] [.v (.int run), .v (.lst σ.length), .v (.str x)] → R = namedL ones run signs →
      forC chk "one" f_law_named_b1 (vS ones) ⟨vars, σ ++ Cell.list (vS signs) :: ν⟩ Q' E := by
  induction ones with
  | nil => intro run signs vars hl hl2 ho v hR; exact forC_nil (hchk _) (hn vars signs (v.v 1 rfl rfl) hR (by omega))
  | cons one r ih =>
    intro run signs vars hl hl2 ho v hR
    have lo := ho one (.head _)
    simp only [List.length_cons] at hl hl2
    unfold namedL at hR
    refine forC_cons (hchk _) ?_
    have v1 := v.new (x := "one") (w := .v (.str one)) (by decide)
    generalize upd vars "one" (.v (.str one)) = vars1 at v1
    refine ifS_run (TV.eqS (EV.vr v1 0 rfl rfl) EV.str) (fun h => ?_) (fun h => ?_)
    · rw [if_pos (of_decide_eq_true h)] at hR
      exact augH v1 1 rfl rfl (by decide) fun vars2 v2 => ih (run + 1) signs vars2 (by omega) (by omega) (fun o h => ho o (.tail _ h)) v2.tl hR
    · rw [if_neg (of_decide_eq_false h)] at hR
      have fl2 : (signs ++ [List.replicate (run / 2) 34]).flatten.length = signs.flatten.length + run / 2 := by simp
      have fl3 : (signs ++ [List.replicate (run / 2) 34] ++ [one]).flatten.length = signs.flatten.length + run / 2 + one.length := by simp; omega
      refine seq_run (app_S (EV.vr v1 2 rfl rfl) (EV.rep (k := run / 2) (EV.div (EV.vr v1 1 rfl rfl) EV.int (by decide) (by decide)) (by omega)) (by omega) ?_)
      refine seq_run (ifS_run (TV.eqI (EV.mod (EV.vr v1 1 rfl rfl) EV.int (by decide)) EV.int) (fun h1 => ?_) (fun h1 => skipS ?_))
      · rw [if_pos (by have := of_decide_eq_true h1; omega)] at hR
        exact ret_run (EV.join (EV.vr v1 2 rfl rfl) (at_get _ _ _) (by omega)) (by rw [← hR]; exact hr _ _)
      · rw [if_neg (by have := of_decide_eq_false h1; omega)] at hR
        refine seq_run (app_S (EV.vr v1 2 rfl rfl) (EV.vr v1 0 rfl rfl) (by rw [List.length_append, List.length_singleton]; omega) ?_)
        exact asnH v1 1 (EV.int (i := (0 : Nat))) rfl (by decide) fun vars2 v2 => ih 0 _ vars2 (by omega) (by simp; omega) (fun o h => ho o (.tail _ h)) v2.tl hR
theorem i_law_named {Vs : List V} {σ : Sto} {Q : V → Sto → Prop} {E : X → Sto → Prop} (h : p_law_named Vs σ Q E) : Vs.length = 1 ∧ f_law_named ⟨bindV ["text"] Vs, σ⟩ (fin1 Q) (fin2 E) := by
  obtain ⟨text, rfl, hl, hQ⟩ := h
  refine ⟨rfl, ?_⟩
  have z : lim = 1000000 := rfl
  have b1 : bindV ["text"] [V.str text] "text" = some (.v (.str text)) := rfl
  simp only [f_law_named_run, seq, asn, retS, op1, op2, var, cint, cstr, lst, xnil, xcons, sm1, upd, String.reduceEq, ↓reduceIte, Option.some.injEq, Wv.v.injEq, V.lst.injEq, exists_eq_left', oAdd, b1, oList, forS, ofLst]
  refine ⟨by decide, by omega, by decide, _, _, ext_get (new_get _ _), new_get _ _, ?_, _, _, rfl, new_get _ _, ?_⟩
  · rw [vS_len]; simp; omega
  · rw [It.items, show (vS (text.map (fun c => [c])) ++ [V.str []] : List V) = vS (text.map (fun c => [c]) ++ [[]]) by rw [vS_app]; rfl, show ∀ a b c d : Cell, σ ++ [a] ++ [b] ++ [c] ++ [d] = σ ++ a :: [b, c, d] by intro a b c d; simp]
    refine named_loop (x := text) (R := named text) (fun c => by show _ = _; simp [vS]) (fun ν vars' => hQ _) (fun vars' signs' w1 w2 w3 => ?_) _ 0 [] _ (by simp; omega) (by simp; omega) ?_ (((Has.one (x := "text") (v := .str text)).new (x := "signs") (w := .v (.lst σ.length)) (by decide)).new (x := "run") (w := .v (.int 0)) (by decide)) rfl
    rotate_left
    · intro o h
      simp only [List.mem_append, List.mem_map, List.mem_singleton] at h
      rcases h with ⟨c, _, rfl⟩ | rfl
      · simp
      · simp
    · refine ⟨⟨_, rfl⟩, _, w1, join_at (by omega) ?_⟩
      rw [show named text = signs'.flatten from w2] at hQ
      exact hQ _
theorem c_law_named : Contract 0 "_law_named" p_law_named := contract_of (d := r_law_named) (ps := ["text"]) (by kernel_rfl) sd_law_named (by decide +kernel) (fun pm code doc vs h => by obtain ⟨a, rfl⟩ := len1 h; rfl) fun _ _ _ _ => i_law_named
noncomputable abbrev r_law_more : DefRec := recAt 30
noncomputable def f_law_more_b1 : Sx := (ifS (tcmp oLt (lm1 oCount (var "more") (var "name")) (op2 oSub (lm1 oCount (var "ones") (var "name")) (lm1 oCount (var "others") (var "name")))) (exprS (lm1 oAppend (var "more") (var "name"))) skip)
noncomputable def f_law_more : Sx := (seq (asn "more" (lst xnil)) (seq (forS "name" (ofLst (var "ones")) f_law_more_b1) (retS (var "more"))))
theorem sd_law_more : SoundSs 0 .pl r_law_more.scope r_law_more.body f_law_more := by
  refine ss_cons ?_ ?_
  refine s_asn ?_ (by decide +kernel)
  refine s_lst ?_
  exact e_nil
  refine ss_cons ?_ ?_
  refine s_for ?_ ?_ (by decide +kernel)
  refine i_lst ?_
  exact s_var (by decide +kernel) (by decide +kernel)
  refine ss_one ?_
  refine s_if ?_ ?_ ?_
  refine t_cmp o_lt ?_ ?_
  refine s_count ?_ ?_
  exact s_var (by decide +kernel) (by decide +kernel)
  exact s_var (by decide +kernel) (by decide +kernel)
  refine s_bin o_sub ?_ ?_
  refine s_count ?_ ?_
  exact s_var (by decide +kernel) (by decide +kernel)
  exact s_var (by decide +kernel) (by decide +kernel)
  refine s_count ?_ ?_
  exact s_var (by decide +kernel) (by decide +kernel)
  exact s_var (by decide +kernel) (by decide +kernel)
  refine ss_one ?_
  refine s_expr ?_
  refine s_append ?_ ?_
  exact s_var (by decide +kernel) (by decide +kernel)
  exact s_var (by decide +kernel) (by decide +kernel)
  exact ss_nil
  refine ss_one ?_
  refine s_ret ?_
  exact s_var (by decide +kernel) (by decide +kernel)
noncomputable def moreL (ones others : List S) : List S → List S → List S
  | [], more => more
  | n :: r, more => if (more.count n : Int) < (ones.count n : Int) - (others.count n : Int) then moreL ones others r (more ++ [n]) else moreL ones others r more
noncomputable def p_law_more : Spec' := fun Vs σ Q E => ∃ i j ones others, Vs = [.lst i, .lst j] ∧ σ[i]? = some (.list (vS ones)) ∧ σ[j]? = some (.list (vS others)) ∧ ones.length ≤ 1000 ∧ Q (.lst σ.length) (σ ++ [.list (vS (moreL ones others ones []))])
theorem EV.count {f g : Ex} {vars : Vars} {σ : Sto} {l : Nat} {xs : List S} {x : S} (e1 : EV f vars σ (.lst l)) (e2 : EV g vars σ (.str x)) (hl : σ[l]? = some (.list (vS xs))) : EV (lm1 oCount f g) vars σ (.int (xs.count x : Nat)) := fun Q E q => e1 _ _ ⟨is_lst hl, e2 _ _ ⟨xs, hl, q⟩⟩
theorem more_loop {σ : Sto} {i j : Nat} {ones others : List S} {chk : Sto → Prop} (hchk : ∀ c, chk (σ ++ [c])) (hi : σ[i]? = some (.list (vS ones))) (hj : σ[j]? = some (.list (vS others))) {E : X → St → Prop} {Q' : Fl → St → Prop} {R : List S}
    (hn : ∀ vars', Has vars' ["more", "ones", "others"] [.v (.lst σ.length), .v (.lst i), .v (.lst j)] → Q' .next ⟨vars', σ ++ [.list (vS R)]⟩) (rest : List S) :
    ∀ (more : List S) (vars : Vars), more.length + rest.length ≤ 1000 → Has vars ["more", "ones", "others"] [.v (.lst σ.length), .v (.lst i), .v (.lst j)] → R = moreL ones others rest more →
      forC chk "name" f_law_more_b1 (vS rest) ⟨vars, σ ++ [.list (vS more)]⟩ Q' E := by
  induction rest with
  | nil => intro more vars hl v hR; subst hR; exact forC_nil (hchk _) (hn vars v)
  | cons n r ih =>
    intro more vars hl v hR
    simp only [List.length_cons] at hl
    unfold moreL at hR
    refine forC_cons (hchk _) ?_
    have v1 := v.new (x := "name") (w := .v (.str n)) (by decide)
    generalize upd vars "name" (.v (.str n)) = vars1 at v1
    have en : EV (var "name") vars1 (σ ++ [Cell.list (vS more)]) (.str n) := EV.vr v1 0 rfl rfl
    refine ifS_run (TV.lt (EV.count (EV.vr v1 1 rfl rfl) en (at_get _ _ _)) (EV.sub (EV.count (EV.vr v1 2 rfl rfl) en (ext_get hi)) (EV.count (EV.vr v1 3 rfl rfl) en (ext_get hj)))) (fun h => ?_) (fun h => skipS ?_)
    · rw [if_pos (of_decide_eq_true h)] at hR
      exact app_S (EV.vr v1 1 rfl rfl) en (by omega) (ih (more ++ [n]) vars1 (by rw [List.length_append, List.length_singleton]; omega) v1.tl hR)
    · rw [if_neg (of_decide_eq_false h)] at hR
      exact ih more vars1 (by omega) v1.tl hR
theorem i_law_more {Vs : List V} {σ : Sto} {Q : V → Sto → Prop} {E : X → Sto → Prop} (h : p_law_more Vs σ Q E) : Vs.length = 2 ∧ f_law_more ⟨bindV ["ones", "others"] Vs, σ⟩ (fin1 Q) (fin2 E) := by
  obtain ⟨i, j, ones, others, rfl, hi, hj, hl, hQ⟩ := h
  refine ⟨rfl, ?_⟩
  have v := Has.two (x := "ones") (y := "others") (a := .lst i) (b := .lst j) (by decide)
  refine seq_run (asn_new v (by decide) fun vars1 v1 => ?_)
  refine seq_run (for_var (EV.vr v1 1 rfl rfl) (ext_get hi) ?_)
  exact more_loop (fun c => ext_get hi) hi hj (R := moreL ones others ones []) (fun vars' w => ret_run (EV.vr w 0 rfl rfl) hQ) ones [] _ (by simp; omega) v1 rfl
theorem c_law_more : Contract 0 "_law_more" p_law_more := contract_of (d := r_law_more) (ps := ["ones", "others"]) (by kernel_rfl) sd_law_more (by decide +kernel) (fun pm code doc vs h => by obtain ⟨a, b, rfl⟩ := len2 h; rfl) fun _ _ _ _ => i_law_more
theorem lt_of_top {m n : S} {others : List S} (hm : m ∈ others) (ht : ∀ x ∈ others, ¬ m < x) : decide (m < n) = others.all fun x => decide (x < n) := by
  by_cases h : m < n
  · rw [decide_eq_true h]
    symm
    rw [List.all_eq_true]
    intro x hx
    simp only [decide_eq_true_eq]
    exact List.lt_of_le_of_lt (List.not_lt.mp (ht x hx)) h
  · rw [decide_eq_false h]
    symm
    rw [List.all_eq_false]
    exact ⟨m, hm, by simpa using h⟩
noncomputable abbrev r_law_alone : DefRec := recAt 29
noncomputable def f_law_alone_b1 : Sx := (ifS (tand (tcmp (oIn true) (var "name") (var "others")) (tand (tor (tcmp (oIn true) (var "name") (var "alone")) (tor (tcmp (oEqNe false) (var "others") (lst xnil)) (tor (tcmp oGt (var "name") (op1 oMax (var "others"))) (tlit false)))) (tlit true))) (exprS (lm1 oAppend (var "alone") (var "name"))) skip)
noncomputable def f_law_alone : Sx := (seq (asn "alone" (lst xnil)) (seq (forS "name" (ofLst (var "ones")) f_law_alone_b1) (retS (var "alone"))))
theorem sd_law_alone : SoundSs 0 .pl r_law_alone.scope r_law_alone.body f_law_alone := by
  refine ss_cons ?_ ?_
  refine s_asn ?_ (by decide +kernel)
  refine s_lst ?_
  exact e_nil
  refine ss_cons ?_ ?_
  refine s_for ?_ ?_ (by decide +kernel)
  refine i_lst ?_
  exact s_var (by decide +kernel) (by decide +kernel)
  refine ss_one ?_
  refine s_if ?_ ?_ ?_
  refine t_bop ?_
  refine a_and ?_ ?_
  refine t_cmp o_notIn ?_ ?_
  exact s_var (by decide +kernel) (by decide +kernel)
  exact s_var (by decide +kernel) (by decide +kernel)
  refine a_and ?_ ?_
  refine t_bop ?_
  refine a_or ?_ ?_
  refine t_cmp o_notIn ?_ ?_
  exact s_var (by decide +kernel) (by decide +kernel)
  exact s_var (by decide +kernel) (by decide +kernel)
  refine a_or ?_ ?_
  refine t_cmp o_eq ?_ ?_
  exact s_var (by decide +kernel) (by decide +kernel)
  refine s_lst ?_
  exact e_nil
  refine a_or ?_ ?_
  refine t_cmp o_gt ?_ ?_
  exact s_var (by decide +kernel) (by decide +kernel)
  refine s_blt1 b_max (by decide +kernel) o_max ?_
  exact s_var (by decide +kernel) (by decide +kernel)
  exact a_or_nil
  exact a_and_nil
  refine ss_one ?_
  refine s_expr ?_
  refine s_append ?_ ?_
  exact s_var (by decide +kernel) (by decide +kernel)
  exact s_var (by decide +kernel) (by decide +kernel)
  exact ss_nil
  refine ss_one ?_
  refine s_ret ?_
  exact s_var (by decide +kernel) (by decide +kernel)
noncomputable def aloneIf (others : List S) (alone : List S) (n : S) : Bool := !decide (n ∈ others) && (!decide (n ∈ alone) || decide (others = []) || others.all fun x => decide (x < n))
noncomputable def aloneL (others : List S) : List S → List S → List S
  | [], alone => alone
  | n :: r, alone => if aloneIf others alone n then aloneL others r (alone ++ [n]) else aloneL others r alone
noncomputable def p_law_alone : Spec' := fun Vs σ Q E => ∃ i j ones others, Vs = [.lst i, .lst j] ∧ σ[i]? = some (.list (vS ones)) ∧ σ[j]? = some (.list (vS others)) ∧ ones.length ≤ 1000 ∧ asc others ∧ ∀ ν, Q (.lst σ.length) (σ ++ .list (vS (aloneL others ones [])) :: ν)
theorem TV.notInL {f g : Ex} {vars : Vars} {σ : Sto} {n : S} {l : Nat} {xs : List S} (e1 : EV f vars σ (.str n)) (e2 : EV g vars σ (.lst l)) (hl : σ[l]? = some (.list (vS xs))) : TV (tcmp (oIn true) f g) vars σ (!decide (n ∈ xs)) := fun Q E q => e1 _ _ (e2 _ _ ⟨xs, hl, _, rfl, by rw [Bool.bne_true]; exact q⟩)
theorem alone_te {f g : Ex} {vars : Vars} {σ : Sto} {n : S} {l : Nat} {others : List S} (e1 : ∀ ν, EV f vars (σ ++ ν) (.str n)) (e2 : ∀ ν, EV g vars (σ ++ ν) (.lst l)) (hl : σ[l]? = some (.list (vS others))) (ha : asc others) :
    TE (tor (tcmp (oEqNe false) g (Mine.lst xnil)) (tor (tcmp oGt f (op1 oMax g)) (tlit false))) vars σ (decide (others = []) || others.all fun x => decide (x < n)) := fun Q E q => by
  have e0 := e2 []
  rw [List.append_nil] at e0
  refine e0 _ _ (show _ ≤ 1000000 ∧ _ from ⟨by show 0 ≤ 1000000; decide, _, _, _, _, .sl (ext_get hl) ha, .sl (xs := []) (new_get _ _) (by intro l h; cases h), _, rfl, ?_⟩)
  rw [eqv_S, Bool.bne_false]
  by_cases h6 : others = []
  · rw [decide_eq_true h6]
    dsimp only
    rw [if_pos rfl]
    have := q [Cell.list []]
    rw [decide_eq_true h6, Bool.true_or] at this
    exact this
  · rw [decide_eq_false h6]
    dsimp only
    rw [if_neg (by decide)]
    refine e1 _ _ _ (e2 _ _ _ ⟨_, ext_get hl, h6, fun m hm ht => ⟨_, rfl, ?_⟩⟩)
    show if decide (m < n) = true then _ else _
    rw [lt_of_top hm ht]
    have := q [Cell.list []]
    rw [decide_eq_false h6, Bool.false_or] at this
    cases hb : others.all fun x => decide (x < n) with
    | true => rw [hb] at this; rw [if_pos rfl]; exact this
    | false => rw [hb] at this; rw [if_neg (by decide)]; exact this
theorem alone_loop {σ : Sto} {i j : Nat} {ones others : List S} {chk : Sto → Prop} (hchk : ∀ c ν, chk (σ ++ c :: ν)) (hi : σ[i]? = some (.list (vS ones))) (hj : σ[j]? = some (.list (vS others))) (ha : asc others) {E : X → St → Prop} {Q' : Fl → St → Prop} {R : List S}
    (hn : ∀ vars' ν, Has vars' ["alone", "ones", "others"] [.v (.lst σ.length), .v (.lst i), .v (.lst j)] → Q' .next ⟨vars', σ ++ Cell.list (vS R) :: ν⟩) (rest : List S) :
    ∀ (alone : List S) (ν : Sto) (vars : Vars), alone.length + rest.length ≤ 1000 → Has vars ["alone", "ones", "others"] [.v (.lst σ.length), .v (.lst i), .v (.lst j)] → R = aloneL others rest alone →
      forC chk "name" f_law_alone_b1 (vS rest) ⟨vars, σ ++ Cell.list (vS alone) :: ν⟩ Q' E := by
  induction rest with
  | nil => intro alone ν vars hl v hR; subst hR; exact forC_nil (hchk _ _) (hn vars ν v)
  | cons n r ih =>
    intro alone ν vars hl v hR
    simp only [List.length_cons] at hl
    unfold aloneL at hR
    refine forC_cons (hchk _ _) ?_
    have v1 := v.new (x := "name") (w := .v (.str n)) (by decide)
    generalize upd vars "name" (.v (.str n)) = vars1 at v1
    have en : ∀ σ', EV (var "name") vars1 σ' (.str n) := fun σ' => EV.vr v1 0 rfl rfl
    have eo : ∀ σ', EV (var "others") vars1 σ' (.lst j) := fun σ' => EV.vr v1 3 rfl rfl
    have put : ∀ ν', aloneIf others alone n = true → exprS (lm1 oAppend (var "alone") (var "name")) ⟨vars1, σ ++ Cell.list (vS alone) :: ν'⟩ (fun fl st' => match fl with
      | .next => forC chk "name" f_law_alone_b1 (vS r) st' Q' E
      | .cont => forC chk "name" f_law_alone_b1 (vS r) st' Q' E
      | .brk => Q' .next st'
      | .ret w => Q' (.ret w) st') E := fun ν' h => app_S (EV.vr v1 1 rfl rfl) (en _) (by omega) (ih (alone ++ [n]) ν' vars1 (by rw [List.length_append, List.length_singleton]; omega) v1.tl (by rw [h, if_pos rfl] at hR; exact hR))
    have non : ∀ ν', aloneIf others alone n = false → forC chk "name" f_law_alone_b1 (vS r) ⟨vars1, σ ++ Cell.list (vS alone) :: ν'⟩ Q' E := fun ν' h => ih alone ν' vars1 (by omega) v1.tl (by rw [h, if_neg (by decide)] at hR; exact hR)
    have t1 := TV.notInL (en (σ ++ Cell.list (vS alone) :: ν)) (eo _) (ext_get hj)
    have t2 := TV.notInL (en (σ ++ Cell.list (vS alone) :: ν)) (EV.vr v1 1 rfl rfl) (at_get _ _ _)
    by_cases h4 : n ∈ others
    · exact ifS_false ((t1.to (by rw [decide_eq_true h4, Bool.not_true])).andF) (skipS (non ν (by unfold aloneIf; rw [decide_eq_true h4]; rfl)))
    by_cases h5 : n ∈ alone
    · refine t1 _ _ ?_
      rw [decide_eq_false h4, Bool.not_false, if_pos rfl]
      refine t2 _ _ ?_
      rw [decide_eq_true h5, Bool.not_true, if_neg (by decide)]
      refine alone_te (fun ν => en _) (fun ν => eo _) (ext_get hj) ha _ _ fun ν' => ?_
      have he : aloneIf others alone n = (decide (others = []) || others.all fun x => decide (x < n)) := by unfold aloneIf; rw [decide_eq_false h4, decide_eq_true h5]; simp
      rw [← he, app2]
      cases hb : aloneIf others alone n with
      | true => dsimp only; rw [if_pos rfl]; unfold tlit; dsimp only; rw [if_pos rfl]; exact put _ hb
      | false => dsimp only; rw [if_neg (by decide), if_neg (by decide)]; exact skipS (non _ hb)
    · refine ifS_true ((t1.to (by rw [decide_eq_false h4, Bool.not_false])).andT (((t2.to (by rw [decide_eq_false h5, Bool.not_false])).orT).andT TV.lit)) (put ν ?_)
      unfold aloneIf; rw [decide_eq_false h4, decide_eq_false h5]; rfl
theorem i_law_alone {Vs : List V} {σ : Sto} {Q : V → Sto → Prop} {E : X → Sto → Prop} (h : p_law_alone Vs σ Q E) : Vs.length = 2 ∧ f_law_alone ⟨bindV ["ones", "others"] Vs, σ⟩ (fin1 Q) (fin2 E) := by
  obtain ⟨i, j, ones, others, rfl, hi, hj, hl, ha, hQ⟩ := h
  refine ⟨rfl, ?_⟩
  have v := Has.two (x := "ones") (y := "others") (a := .lst i) (b := .lst j) (by decide)
  refine seq_run (asn_new v (by decide) fun vars1 v1 => ?_)
  refine seq_run (for_var (EV.vr v1 1 rfl rfl) (ext_get hi) ?_)
  exact alone_loop (fun c ν => ext_get hi) hi hj ha (R := aloneL others ones []) (fun vars' ν w => ret_run (EV.vr w 0 rfl rfl) (hQ _)) ones [] [] _ (by simp; omega) v1 rfl
theorem c_law_alone : Contract 0 "_law_alone" p_law_alone := contract_of (d := r_law_alone) (ps := ["ones", "others"]) (by kernel_rfl) sd_law_alone (by decide +kernel) (fun pm code doc vs h => by obtain ⟨a, b, rfl⟩ := len2 h; rfl) fun _ _ _ _ => i_law_alone
end
end Mine

namespace Mine
section
structure Item where
  txt : S
  neg : Bool
  acc : Option S
noncomputable def vIt (it : Item) : V := .tup [.str it.txt, .bool it.neg, match it.acc with | none => .none | some s => .str s]
noncomputable def vIts (its : List Item) : List V := its.map vIt
noncomputable def isStar (its : List Item) (p : Nat) : Bool := match its[p]? with
  | some it => it.acc.isNone
  | none => false
noncomputable def vN (xs : List Nat) : List V := xs.map fun n : Nat => V.int n
theorem vN_vI (xs : List Nat) : vN xs = vI (xs.map fun n : Nat => (n : Int)) := by simp [vN, vI]
theorem mem_cast (p : Nat) (xs : List Nat) : decide ((p : Int) ∈ xs.map fun n : Nat => (n : Int)) = decide (p ∈ xs) := by
  by_cases h : p ∈ xs
  · rw [decide_eq_true h, decide_eq_true (List.mem_map_of_mem h)]
  · rw [decide_eq_false h, decide_eq_false]
    intro q
    obtain ⟨m, hm, e⟩ := List.mem_map.mp q
    have : m = p := by omega
    exact h (this ▸ hm)
noncomputable abbrev r_law_opened : DefRec := recAt 23
noncomputable def f_law_opened_t1 : Tx := (tcmp (oIn true) (var "place") (var "found"))
noncomputable def f_law_opened_b2 : Sx := (seq (exprS (lm1 oAppend (var "found") (var "place"))) (ifS (tand (tcmp oLt (var "place") (op1 oLen (var "items"))) (tand (tcmp (oIs false) (op2 oIdx (op2 oIdx (var "items") (var "place")) (cint 2)) cnone) (tlit true))) (aug oIadd "place" (cint 1)) skip))
noncomputable def f_law_opened_b3 : Sx := (whileS f_law_opened_t1 f_law_opened_b2)
noncomputable def f_law_opened : Sx := (seq (asn "found" (lst xnil)) (seq (forS "place" (ofLst (var "places")) f_law_opened_b3) (retS (var "found"))))
theorem sd_law_opened : SoundSs 0 .pl r_law_opened.scope r_law_opened.body f_law_opened := by
  refine ss_cons ?_ ?_
  refine s_asn ?_ (by decide +kernel)
  refine s_lst ?_
  exact e_nil
  refine ss_cons ?_ ?_
  refine s_for ?_ ?_ (by decide +kernel)
  refine i_lst ?_
  exact s_var (by decide +kernel) (by decide +kernel)
  refine ss_one ?_
  refine s_while ?_ ?_
  refine t_cmp o_notIn ?_ ?_
  exact s_var (by decide +kernel) (by decide +kernel)
  exact s_var (by decide +kernel) (by decide +kernel)
  refine ss_cons ?_ ?_
  refine s_expr ?_
  refine s_append ?_ ?_
  exact s_var (by decide +kernel) (by decide +kernel)
  exact s_var (by decide +kernel) (by decide +kernel)
  refine ss_one ?_
  refine s_if ?_ ?_ ?_
  refine t_bop ?_
  refine a_and ?_ ?_
  refine t_cmp o_lt ?_ ?_
  exact s_var (by decide +kernel) (by decide +kernel)
  refine s_blt1 b_len (by decide +kernel) o_len ?_
  exact s_var (by decide +kernel) (by decide +kernel)
  refine a_and ?_ ?_
  refine t_cmp o_is ?_ ?_
  refine s_idx ?_ ?_
  refine s_idx ?_ ?_
  exact s_var (by decide +kernel) (by decide +kernel)
  exact s_var (by decide +kernel) (by decide +kernel)
  exact s_int
  exact s_none
  exact a_and_nil
  refine ss_one ?_
  refine s_aug o_iadd ?_ (by decide +kernel) (by decide +kernel)
  exact s_int
  exact ss_nil
  refine ss_one ?_
  refine s_ret ?_
  exact s_var (by decide +kernel) (by decide +kernel)
noncomputable def openOne (its : List Item) : Nat → Nat → List Nat → List Nat
  | 0, _, f => f
  | n + 1, p, f => if p ∈ f then f else if isStar its p then openOne its n (p + 1) (f ++ [p]) else f ++ [p]
noncomputable def opened (its : List Item) (ps : List Nat) (f : List Nat) : List Nat := ps.foldl (fun f p => openOne its (its.length + 1 - p) p f) f
noncomputable def p_law_opened : Spec' := fun Vs σ Q E => ∃ i j its ps, Vs = [.lst i, .lst j] ∧ σ[i]? = some (.list (vIts its)) ∧ σ[j]? = some (.list (vN ps)) ∧ its.length ≤ 1000 ∧ ps.length ≤ 100 ∧ (∀ p ∈ ps, p ≤ its.length) ∧
  Q (.lst σ.length) (σ ++ [.list (vN (opened its ps []))])
theorem vN_app (xs ys : List Nat) : vN (xs ++ ys) = vN xs ++ vN ys := by simp [vN]
theorem vN_len (xs : List Nat) : (vN xs).length = xs.length := by simp [vN]
theorem vIts_len (xs : List Item) : (vIts xs).length = xs.length := by simp [vIts]
noncomputable def accV (it : Item) : V := match it.acc with | none => .none | some s => .str s
theorem acc_isV (it : Item) : isV (accV it) .none = some it.acc.isNone := by unfold accV; cases it.acc <;> rfl
theorem isStar_none {its : List Item} {p : Nat} (h : its[p]? = none) : isStar its p = false := by unfold isStar; rw [h]
theorem isStar_some {its : List Item} {p : Nat} {it : Item} (h : its[p]? = some it) : isStar its p = it.acc.isNone := by unfold isStar; rw [h]
theorem TV.notInN {f g : Ex} {vars : Vars} {σ : Sto} {p l : Nat} {xs : List Nat} (e1 : EV f vars σ (.int p)) (e2 : EV g vars σ (.lst l)) (hl : σ[l]? = some (.list (vN xs))) : TV (tcmp (oIn true) f g) vars σ (!decide (p ∈ xs)) := fun Q E q =>
  e1 _ _ (e2 _ _ ⟨_, by rw [← vN_vI]; exact hl, _, rfl, by rw [mem_cast, Bool.bne_true]; exact q⟩)
theorem EV.lenIt {f : Ex} {vars : Vars} {σ : Sto} {i : Nat} {its : List Item} (e : EV f vars σ (.lst i)) (hi : σ[i]? = some (.list (vIts its))) (hl : its.length ≤ 1000) : EV (op1 oLen f) vars σ (.int its.length) := (EV.lenL e hi (by rw [vIts_len]; omega)).to (by rw [vIts_len])
theorem EV.item {f g : Ex} {vars : Vars} {σ : Sto} {i p : Nat} {its : List Item} {it : Item} (e : EV f vars σ (.lst i)) (k : EV g vars σ (.int p)) (hi : σ[i]? = some (.list (vIts its))) (hl : its.length ≤ 1000) (hs : its[p]? = some it) : EV (op2 oIdx f g) vars σ (.tup [.str it.txt, .bool it.neg, accV it]) :=
  EV.idxL e k hi (by have := (List.getElem?_eq_some_iff.mp hs).1; omega) (by unfold vIts; rw [List.getElem?_map, hs]; rfl)
theorem app_N {f g : Ex} {vars : Vars} {σ ν : Sto} {xs : List Nat} {p : Nat} {Q : Fl → St → Prop} {E} (e : EV f vars (σ ++ Cell.list (vN xs) :: ν) (.lst σ.length)) (c : EV g vars (σ ++ Cell.list (vN xs) :: ν) (.int p)) (hz : xs.length < 1000000) (k : Q .next ⟨vars, σ ++ Cell.list (vN (xs ++ [p])) :: ν⟩) : exprS (lm1 oAppend f g) ⟨vars, σ ++ Cell.list (vN xs) :: ν⟩ Q E :=
  app_own e c (by rw [vN_len]; exact hz) (by rw [show (vN xs ++ [V.int p] : List V) = vN (xs ++ [p]) from (vN_app xs [p]).symm]; exact k)
noncomputable abbrev KO : List String := ["place", "found", "items", "places"]
section
variable {σ : Sto} {i j : Nat} {its : List Item} {E : X → St → Prop} {Q' : Fl → St → Prop}
theorem opened_stop {n p : Nat} {found : List Nat} {vars : Vars} (v : Has vars KO [.v (.int p), .v (.lst σ.length), .v (.lst i), .v (.lst j)]) (hm : p ∈ found) (k : Q' .next ⟨vars, σ ++ [.list (vN found)]⟩) : loopN f_law_opened_t1 f_law_opened_b2 (n + 1) ⟨vars, σ ++ [.list (vN found)]⟩ Q' E :=
  loop_go ((TV.notInN (EV.vr v 0 rfl rfl) (EV.vr v 1 rfl rfl) (at_get _ _ _)).to (by rw [decide_eq_true hm, Bool.not_true])) (fun h => by cases h) (fun _ => k)
theorem opened_loop (hi : σ[i]? = some (.list (vIts its))) (hl : its.length ≤ 1000) {R : List Nat} (hq : ∀ vars' p', Has vars' KO [.v (.int (p' : Nat)), .v (.lst σ.length), .v (.lst i), .v (.lst j)] → Q' .next ⟨vars', σ ++ [.list (vN R)]⟩) (n : Nat) :
    ∀ (p : Nat) (found : List Nat) (vars : Vars), p + n = its.length → found.length + n < 1000000 → Has vars KO [.v (.int p), .v (.lst σ.length), .v (.lst i), .v (.lst j)] → R = openOne its (n + 1) p found →
      loopN f_law_opened_t1 f_law_opened_b2 (n + 2) ⟨vars, σ ++ [.list (vN found)]⟩ Q' E := by
  induction n with
  | zero =>
    intro p found vars hp hz v hR
    unfold openOne at hR
    by_cases hm : p ∈ found
    · rw [if_pos hm] at hR; subst hR; exact opened_stop v hm (hq vars p v)
    · have hs : its[p]? = none := List.getElem?_eq_none_iff.mpr (by omega)
      rw [if_neg hm, isStar_none hs, if_neg (by decide)] at hR
      subst hR
      refine loop_go (TV.notInN (EV.vr v 0 rfl rfl) (EV.vr v 1 rfl rfl) (at_get _ _ _)) (fun _ => ?_) (fun h => absurd h (by rw [decide_eq_false hm]; decide))
      refine seq_run (app_N (EV.vr v 1 rfl rfl) (EV.vr v 0 rfl rfl) (by omega) (ifS_false (((TV.lt (EV.vr v 0 rfl rfl) (EV.lenIt (EV.vr v 2 rfl rfl) (ext_get hi) hl)).to (decide_eq_false (by omega))).andF) (skipS ?_)))
      exact opened_stop v (by simp) (hq vars p v)
  | succ n ih =>
    intro p found vars hp hz v hR
    unfold openOne at hR
    by_cases hm : p ∈ found
    · rw [if_pos hm] at hR; subst hR; exact opened_stop v hm (hq vars p v)
    · obtain ⟨it, hs⟩ : ∃ it, its[p]? = some it := ⟨_, List.getElem?_eq_getElem (by omega)⟩
      rw [if_neg hm, isStar_some hs] at hR
      refine loop_go (TV.notInN (EV.vr v 0 rfl rfl) (EV.vr v 1 rfl rfl) (at_get _ _ _)) (fun _ => ?_) (fun h => absurd h (by rw [decide_eq_false hm]; decide))
      refine seq_run (app_N (EV.vr v 1 rfl rfl) (EV.vr v 0 rfl rfl) (by omega) (ifS_run (((TV.lt (EV.vr v 0 rfl rfl) (EV.lenIt (EV.vr v 2 rfl rfl) (ext_get hi) hl)).to (decide_eq_true (by omega))).andT ((TV.isNoneV (EV.idxT (EV.item (EV.vr v 2 rfl rfl) (EV.vr v 0 rfl rfl) (ext_get hi) hl hs) (EV.int (i := (2 : Nat))) (by decide) rfl) (acc_isV it)).and (TV.lit (c := true)))) (fun h => ?_) (fun h => skipS ?_)))
      · rw [Bool.and_true] at h
        rw [h, if_pos rfl] at hR
        exact augH v 0 rfl rfl (by decide) fun vars' v' => ih (p + 1) (found ++ [p]) vars' (by omega) (by rw [List.length_append, List.length_singleton]; omega) v' hR
      · rw [Bool.and_true] at h
        rw [h, if_neg (by decide)] at hR
        subst hR
        exact opened_stop v (by simp) (hq vars p v)
end
theorem openOne_len (its : List Item) : ∀ n p f, (openOne its n p f).length ≤ f.length + n
  | 0, p, f => Nat.le_refl _
  | n + 1, p, f => by
    unfold openOne
    split
    · omega
    · split
      · have := openOne_len its n (p + 1) (f ++ [p]); simp at this; omega
      · simp
theorem openedF_loop {σ : Sto} {i j : Nat} {its : List Item} (hi : σ[i]? = some (.list (vIts its))) (hl : its.length ≤ 1000) {E : X → St → Prop} {Q' : Fl → St → Prop} {chk : Sto → Prop} (hchk : ∀ c, chk (σ ++ [c])) {R : List Nat}
    (hq : ∀ vars', Has vars' ["found", "items", "places"] [.v (.lst σ.length), .v (.lst i), .v (.lst j)] → Q' .next ⟨vars', σ ++ [.list (vN R)]⟩) (ps : List Nat) :
    ∀ (found : List Nat) (vars : Vars), found.length + ps.length * 1001 ≤ 900000 → (∀ p ∈ ps, p ≤ its.length) → Has vars ["found", "items", "places"] [.v (.lst σ.length), .v (.lst i), .v (.lst j)] → R = opened its ps found →
      forC chk "place" f_law_opened_b3 (vN ps) ⟨vars, σ ++ [.list (vN found)]⟩ Q' E := by
  induction ps with
  | nil => intro found vars hf hp v hR; subst hR; exact forC_nil (hchk _) (hq vars v)
  | cons p r ih =>
    intro found vars hf hp v hR
    simp only [List.length_cons] at hf
    have hpl := hp p (.head _)
    have hol := openOne_len its (its.length + 1 - p) p found
    refine forC_cons (hchk _) ⟨_, opened_loop (j := j) hi hl (R := openOne its (its.length + 1 - p) p found) (fun vars' p' v' => ?_) (its.length - p) p found _ (by omega) (by omega) (v.new (by decide)) (by rw [show its.length - p + 1 = its.length + 1 - p by omega])⟩
    exact ih _ vars' (by omega) (fun x hx => hp x (.tail _ hx)) v'.tl hR
theorem i_law_opened {Vs : List V} {σ : Sto} {Q : V → Sto → Prop} {E : X → Sto → Prop} (h : p_law_opened Vs σ Q E) : Vs.length = 2 ∧ f_law_opened ⟨bindV ["items", "places"] Vs, σ⟩ (fin1 Q) (fin2 E) := by
  obtain ⟨i, j, its, ps, rfl, hi, hj, hl, hl2, hp, hQ⟩ := h
  refine ⟨rfl, ?_⟩
  have v := Has.two (x := "items") (y := "places") (a := .lst i) (b := .lst j) (by decide)
  refine seq_run (asn_new v (by decide) fun vars1 v1 => ?_)
  refine seq_run (for_var (EV.vr v1 2 rfl rfl) (ext_get hj) ?_)
  exact openedF_loop hi hl (fun c => ext_get hj) (R := opened its ps []) (fun vars' w => ret_run (EV.vr w 0 rfl rfl) hQ) ps [] _ (by simp; omega) hp v1 rfl
theorem c_law_opened : Contract 0 "_law_opened" p_law_opened := contract_of (d := r_law_opened) (ps := ["items", "places"]) (by kernel_rfl) sd_law_opened (by decide +kernel) (fun pm code doc vs h => by obtain ⟨a, b, rfl⟩ := len2 h; rfl) fun _ _ _ _ => i_law_opened
noncomputable abbrev r_law_on : DefRec := recAt 22
noncomputable def f_law_on_b1 : Sx := (ifS (tcmp oLt (var "place") (op1 oLen (var "items"))) (ifS (tcmp (oIs false) (op2 oIdx (op2 oIdx (var "items") (var "place")) (cint 2)) cnone) (exprS (lm1 oAppend (var "then") (var "place"))) (ifS (tcmp (oEqNe true) (op2 (oIn false) (var "sign") (op2 oIdx (op2 oIdx (var "items") (var "place")) (cint 2))) (op2 oIdx (op2 oIdx (var "items") (var "place")) (cint 1))) (exprS (lm1 oAppend (var "then") (op2 oAdd (var "place") (cint 1)))) skip)) skip)
noncomputable def f_law_on : Sx := (seq (asn "then" (lst xnil)) (seq (forS "place" (ofLst (var "places")) f_law_on_b1) (retS (callF p_law_opened (xcons (var "items") (xcons (var "then") xnil))))))
theorem sd_law_on : SoundSs 1 .pl r_law_on.scope r_law_on.body f_law_on := by
  refine ss_cons ?_ ?_
  refine s_asn ?_ (by decide +kernel)
  refine s_lst ?_
  exact e_nil
  refine ss_cons ?_ ?_
  refine s_for ?_ ?_ (by decide +kernel)
  refine i_lst ?_
  exact s_var (by decide +kernel) (by decide +kernel)
  refine ss_one ?_
  refine s_if ?_ ?_ ?_
  refine t_cmp o_lt ?_ ?_
  exact s_var (by decide +kernel) (by decide +kernel)
  refine s_blt1 b_len (by decide +kernel) o_len ?_
  exact s_var (by decide +kernel) (by decide +kernel)
  refine ss_one ?_
  refine s_if ?_ ?_ ?_
  refine t_cmp o_is ?_ ?_
  refine s_idx ?_ ?_
  refine s_idx ?_ ?_
  exact s_var (by decide +kernel) (by decide +kernel)
  exact s_var (by decide +kernel) (by decide +kernel)
  exact s_int
  exact s_none
  refine ss_one ?_
  refine s_expr ?_
  refine s_append ?_ ?_
  exact s_var (by decide +kernel) (by decide +kernel)
  exact s_var (by decide +kernel) (by decide +kernel)
  refine ss_one ?_
  refine s_if ?_ ?_ ?_
  refine t_cmp o_ne ?_ ?_
  refine s_cmp o_in ?_ ?_
  exact s_var (by decide +kernel) (by decide +kernel)
  refine s_idx ?_ ?_
  refine s_idx ?_ ?_
  exact s_var (by decide +kernel) (by decide +kernel)
  exact s_var (by decide +kernel) (by decide +kernel)
  exact s_int
  refine s_idx ?_ ?_
  refine s_idx ?_ ?_
  exact s_var (by decide +kernel) (by decide +kernel)
  exact s_var (by decide +kernel) (by decide +kernel)
  exact s_int
  refine ss_one ?_
  refine s_expr ?_
  refine s_append ?_ ?_
  exact s_var (by decide +kernel) (by decide +kernel)
  refine s_bin o_add ?_ ?_
  exact s_var (by decide +kernel) (by decide +kernel)
  exact s_int
  exact ss_nil
  exact ss_nil
  refine ss_one ?_
  refine s_ret ?_
  refine s_call c_law_opened (by decide) (by decide +kernel) ?_
  refine e_cons ?_ ?_
  exact s_var (by decide +kernel) (by decide +kernel)
  refine e_cons ?_ ?_
  exact s_var (by decide +kernel) (by decide +kernel)
  exact e_nil
noncomputable def onStep (its : List Item) (c : Nat) (p : Nat) : List Nat := match its[p]? with
  | none => []
  | some it => match it.acc with
    | none => [p]
    | some a => if decide (c ∈ a) != it.neg then [p + 1] else []
noncomputable def onL (its : List Item) (c : Nat) (ps : List Nat) : List Nat := opened its (ps.flatMap (onStep its c)) []
noncomputable def p_law_on : Spec' := fun Vs σ Q E => ∃ i j its ps c, Vs = [.lst i, .lst j, .str [c]] ∧ σ[i]? = some (.list (vIts its)) ∧ σ[j]? = some (.list (vN ps)) ∧ its.length ≤ 1000 ∧ ps.length ≤ 100 ∧
  ∀ ν l, σ.length ≤ l → (σ ++ ν)[l]? = some (.list (vN (onL its c ps))) → Q (.lst l) (σ ++ ν)
theorem onStep_len (its : List Item) (c p : Nat) : (onStep its c p).length ≤ 1 := by
  unfold onStep
  split
  · simp
  · split
    · simp
    · split <;> simp
theorem onStep_le (its : List Item) (c p : Nat) : ∀ q ∈ onStep its c p, q ≤ its.length := by
  unfold onStep
  cases h : its[p]? with
  | none => simp
  | some it =>
    have := (List.getElem?_eq_some_iff.mp h).1
    dsimp only
    split
    · simp; omega
    · split <;> simp; omega
theorem call2_at {p : Spec'} {f g : Ex} {vars : Vars} {σ : Sto} {v w : V} {Q : V → Sto → Prop} {E : X → Sto → Prop} (h : EV f vars σ v) (h2 : EV g vars σ w) (k : p [v, w] σ Q E) : callF p (xcons f (xcons g xnil)) vars σ Q E := h _ _ (h2 _ _ k)
noncomputable abbrev KN : List String := ["then", "items", "places", "sign"]
theorem on_loop {σ : Sto} {i j : Nat} {c : Nat} {its : List Item} (hi : σ[i]? = some (.list (vIts its))) (hl : its.length ≤ 1000) {E : X → St → Prop} {Q' : Fl → St → Prop} {chk : Sto → Prop} (hchk : ∀ c, chk (σ ++ [c])) {R : List Nat}
    (hq : ∀ vars', Has vars' KN [.v (.lst σ.length), .v (.lst i), .v (.lst j), .v (.str [c])] → Q' .next ⟨vars', σ ++ [.list (vN R)]⟩) (ps : List Nat) :
    ∀ (acc : List Nat) (vars : Vars), acc.length + ps.length ≤ 1000 → Has vars KN [.v (.lst σ.length), .v (.lst i), .v (.lst j), .v (.str [c])] → R = acc ++ ps.flatMap (onStep its c) → forC chk "place" f_law_on_b1 (vN ps) ⟨vars, σ ++ [.list (vN acc)]⟩ Q' E := by
  induction ps with
  | nil => intro acc vars hf v hR; rw [List.flatMap_nil, List.append_nil] at hR; subst hR; exact forC_nil (hchk _) (hq vars v)
  | cons p r ih =>
    intro acc vars hf v hR
    simp only [List.length_cons] at hf
    rw [List.flatMap_cons, ← List.append_assoc] at hR
    refine forC_cons (hchk _) ?_
    have v1 := v.new (x := "place") (w := .v (.int p)) (by decide)
    generalize upd vars "place" (.v (.int p)) = vars1 at v1
    have tl := TV.lt (σ := σ ++ [Cell.list (vN acc)]) (EV.vr v1 0 rfl rfl) (EV.lenIt (EV.vr v1 2 rfl rfl) (ext_get hi) hl)
    cases hs : its[p]? with
    | none =>
      have hlt : its.length ≤ p := List.getElem?_eq_none_iff.mp hs
      have hst : onStep its c p = [] := by unfold onStep; rw [hs]
      rw [hst, List.append_nil] at hR
      exact ifS_false (tl.to (decide_eq_false (by omega))) (skipS (ih acc vars1 (by omega) v1.tl hR))
    | some it =>
      have hlt : p < its.length := (List.getElem?_eq_some_iff.mp hs).1
      refine ifS_true (tl.to (decide_eq_true (by omega))) ?_
      have ei := EV.item (σ := σ ++ [Cell.list (vN acc)]) (EV.vr v1 2 rfl rfl) (EV.vr v1 0 rfl rfl) (ext_get hi) hl hs
      have e2 := EV.idxT ei (EV.int (i := (2 : Nat))) (by decide) (v := accV it) rfl
      have e1 := EV.idxT ei (EV.int (i := (1 : Nat))) (by decide) (v := .bool it.neg) rfl
      cases hc : it.acc with
      | none =>
        have hst : onStep its c p = [p] := by unfold onStep; rw [hs]; dsimp only; rw [hc]
        rw [hst] at hR
        exact ifS_true ((TV.isNoneV e2 (acc_isV it)).to (by rw [hc]; rfl)) (app_N (EV.vr v1 1 rfl rfl) (EV.vr v1 0 rfl rfl) (by omega) (ih (acc ++ [p]) vars1 (by rw [List.length_append, List.length_singleton]; omega) v1.tl hR))
      | some a =>
        have hst : onStep its c p = if decide (c ∈ a) != it.neg then [p + 1] else [] := by unfold onStep; rw [hs]; dsimp only; rw [hc]
        have ea : accV it = .str a := by unfold accV; rw [hc]
        rw [hst] at hR
        refine ifS_false ((TV.isNoneV e2 (acc_isV it)).to (by rw [hc]; rfl)) (ifS_run (TV.neB (EV.inS (EV.vr v1 4 rfl rfl) (e2.to ea)) e1) (fun hb => ?_) (fun hb => ?_))
        · rw [hb, if_pos rfl] at hR
          exact app_N (p := p + 1) (EV.vr v1 1 rfl rfl) (EV.add (EV.vr v1 0 rfl rfl) EV.int) (by omega) (ih (acc ++ [p + 1]) vars1 (by rw [List.length_append, List.length_singleton]; omega) v1.tl hR)
        · rw [hb, if_neg (by decide), List.append_nil] at hR
          exact skipS (ih acc vars1 (by omega) v1.tl hR)
theorem i_law_on {Vs : List V} {σ : Sto} {Q : V → Sto → Prop} {E : X → Sto → Prop} (h : p_law_on Vs σ Q E) : Vs.length = 3 ∧ f_law_on ⟨bindV ["items", "places", "sign"] Vs, σ⟩ (fin1 Q) (fin2 E) := by
  obtain ⟨i, j, its, ps, c, rfl, hi, hj, hl, hl2, hQ⟩ := h
  refine ⟨rfl, ?_⟩
  have v := Has.bind (ps := ["items", "places", "sign"]) (Vs := [.lst i, .lst j, .str [c]]) (by decide)
  have hfl : (ps.flatMap (onStep its c)).length ≤ ps.length := by
    rw [List.length_flatMap]
    clear hj hl2 hQ v
    induction ps with
    | nil => simp
    | cons a r ih => simp only [List.map_cons, List.sum_cons, List.length_cons]; have := onStep_len its c a; omega
  refine seq_run (asn_new v (by decide) fun vars1 v1 => ?_)
  refine seq_run (for_var (EV.vr v1 2 rfl rfl) (ext_get hj) ?_)
  refine on_loop (i := i) (j := j) (c := c) hi hl (fun c => ext_get hj) (R := ps.flatMap (onStep its c)) (fun vars' w => ?_) ps [] _ (by simp; omega) v1 rfl
  refine call2_at (EV.vr w 1 rfl rfl) (EV.vr w 0 rfl rfl) ?_
  refine ⟨i, σ.length, its, ps.flatMap (onStep its c), rfl, ext_get hi, new_get _ _, hl, by omega, ?_, ?_⟩
  · intro q hq
    obtain ⟨p, _, hp⟩ := List.mem_flatMap.mp hq
    exact onStep_le its c p q hp
  · rw [List.append_assoc]
    exact hQ _ _ (by simp) (by rw [← List.append_assoc]; exact new_get _ _)
theorem c_law_on : Contract 1 "_law_on" p_law_on := contract_of (d := r_law_on) (ps := ["items", "places", "sign"]) (by kernel_rfl) sd_law_on (by decide +kernel) (fun pm code doc vs h => by obtain ⟨a, b, c, rfl⟩ := len3 h; rfl) fun _ _ _ _ => i_law_on
end
end Mine

namespace Mine
section
theorem pigeon : ∀ (n : Nat) (l : List Nat), l.Nodup → (∀ x ∈ l, x < n) → l.length ≤ n
  | 0, [], _, _ => Nat.le_refl _
  | 0, a :: _, _, h => absurd (h a (by simp)) (Nat.not_lt_zero _)
  | n + 1, l, hd, h => by
    have h1 : (l.erase n).length ≤ n := pigeon n (l.erase n) (hd.erase n) fun x hx => by
      have h2 := (List.Nodup.mem_erase_iff hd).mp hx
      have h3 := h x h2.2
      have h4 := h2.1
      omega
    have := @List.length_erase _ _ _ n l
    split at this <;> omega
theorem openOne_ok (its : List Item) : ∀ n p f, p ≤ its.length → f.Nodup → (∀ x ∈ f, x ≤ its.length) → (openOne its n p f).Nodup ∧ ∀ x ∈ openOne its n p f, x ≤ its.length
  | 0, p, f, _, h1, h2 => ⟨h1, h2⟩
  | n + 1, p, f, hp, h1, h2 => by
    unfold openOne
    split
    · exact ⟨h1, h2⟩
    · rename_i hm
      have h3 : (f ++ [p]).Nodup := by
        rw [List.nodup_append]
        exact ⟨h1, by simp, by intro a ha b hb; simp at hb; subst hb; intro e; exact hm (e ▸ ha)⟩
      have h4 : ∀ x ∈ f ++ [p], x ≤ its.length := by
        intro x hx
        rcases List.mem_append.mp hx with q | q
        · exact h2 x q
        · simp at q; omega
      split
      · rename_i hs
        have : p < its.length := by
          unfold isStar at hs
          cases q : its[p]? with
          | none => rw [q] at hs; cases hs
          | some it => exact (List.getElem?_eq_some_iff.mp q).1
        exact openOne_ok its n (p + 1) (f ++ [p]) this h3 h4
      · exact ⟨h3, h4⟩
theorem opened_ok (its : List Item) : ∀ (ps f : List Nat), (∀ p ∈ ps, p ≤ its.length) → f.Nodup → (∀ x ∈ f, x ≤ its.length) → (opened its ps f).Nodup ∧ ∀ x ∈ opened its ps f, x ≤ its.length
  | [], f, _, h1, h2 => ⟨h1, h2⟩
  | p :: r, f, hp, h1, h2 => by
    have := openOne_ok its (its.length + 1 - p) p f (hp p (by simp)) h1 h2
    exact opened_ok its r _ (fun q hq => hp q (by simp [hq])) this.1 this.2
theorem opened_few (its : List Item) (ps : List Nat) (hp : ∀ p ∈ ps, p ≤ its.length) : (opened its ps []).length ≤ its.length + 1 := by
  obtain ⟨h1, h2⟩ := opened_ok its ps [] hp (by simp) (by simp)
  exact pigeon _ _ h1 fun x hx => by have := h2 x hx; omega
theorem on_few (its : List Item) (c : Nat) (ps : List Nat) : (onL its c ps).length ≤ its.length + 1 := by
  refine opened_few its _ fun q hq => ?_
  obtain ⟨p, _, hp⟩ := List.mem_flatMap.mp hq
  exact onStep_le its c p q hp
noncomputable abbrev r_law_told : DefRec := recAt 24
noncomputable def f_law_told_b1 : Sx := (seq (asnP "places" "state" (op2 oIdx (var "walks") (op2 oDiv (op2 oSub (var "k") (cint 1)) (cint 2)))) (seq (asn "sign" (op2 oIdx (op2 oIdx (var "texts") (var "k")) (op1 oNeg (cint 1)))) (ifS (tand (tcmp (oEqNe false) (var "state") (cstr [114, 101, 97, 100, 115])) (tand (tcmp (oEqNe false) (var "sign") (cstr [34])) (tlit true))) (exprS (lm1 oAppend (var "walks") (tup (xcons (var "places") (xcons (cstr [119, 97, 105, 116, 115]) xnil))))) (ifS (tor (tcmp (oEqNe false) (var "state") (cstr [114, 101, 97, 100, 115])) (tor (tand (tcmp (oEqNe false) (var "state") (cstr [119, 97, 105, 116, 115])) (tand (tcmp (oEqNe false) (var "sign") (cstr [34])) (tlit true))) (tlit false))) (exprS (lm1 oAppend (var "walks") (tup (xcons (callF p_law_on (xcons (var "items") (xcons (var "places") (xcons (var "sign") xnil)))) (xcons (cstr [114, 101, 97, 100, 115]) xnil))))) (exprS (lm1 oAppend (var "walks") (tup (xcons (var "places") (xcons (cstr [111, 118, 101, 114]) xnil)))))))))
noncomputable def f_law_told : Sx := (seq (asn "walks" (lst (xcons (tup (xcons (callF p_law_opened (xcons (var "items") (xcons (lst (xcons (cint 0) xnil)) xnil))) (xcons (cstr [114, 101, 97, 100, 115]) xnil))) xnil))) (seq (forS "k" (rng2 (cint 1) (op1 oLen (var "texts"))) f_law_told_b1) (retS (comp ["items"] (ofLst (var "walks")) (.two "places" "state") (tlit true) (fun j => emitG j (op2 (oIn false) (op1 oLen (var "items")) (var "places")))))))
theorem f_law_told_run (st : St) (Q : Fl → St → Prop) (E : X → St → Prop) : f_law_told st Q E = (seq (asn "walks" (lst (xcons (tup (xcons (callF p_law_opened (xcons (var "items") (xcons (lst (xcons (cint 0) xnil)) xnil))) (xcons (cstr [114, 101, 97, 100, 115]) xnil))) xnil))) (seq (forS "k" (rng2 (cint 1) (op1 oLen (var "texts"))) f_law_told_b1) (retS (comp ["items"] (ofLst (var "walks")) (.two "places" "state") (tlit true) (fun j => emitG j (op2 (oIn false) (op1 oLen (var "items")) (var "places"))))))) st Q E := rfl
theorem sd_law_told : SoundSs 2 .pl r_law_told.scope r_law_told.body f_law_told := by
  refine ss_cons ?_ ?_
  refine s_asn ?_ (by decide +kernel)
  refine s_lst ?_
  refine e_cons ?_ ?_
  refine s_tup ?_
  refine e_cons ?_ ?_
  refine s_call c_law_opened (by decide) (by decide +kernel) ?_
  refine e_cons ?_ ?_
  exact s_var (by decide +kernel) (by decide +kernel)
  refine e_cons ?_ ?_
  refine s_lst ?_
  refine e_cons ?_ ?_
  exact s_int
  exact e_nil
  exact e_nil
  refine e_cons ?_ ?_
  exact s_str (by decide +kernel)
  exact e_nil
  exact e_nil
  refine ss_cons ?_ ?_
  refine s_for ?_ ?_ (by decide +kernel)
  refine i_rng2 b_range (by decide +kernel) ?_ ?_
  exact s_int
  refine s_blt1 b_len (by decide +kernel) o_len ?_
  exact s_var (by decide +kernel) (by decide +kernel)
  refine ss_cons ?_ ?_
  refine s_asnP ?_ (by decide +kernel) (by decide +kernel)
  refine s_idx ?_ ?_
  exact s_var (by decide +kernel) (by decide +kernel)
  refine s_bin o_div ?_ ?_
  refine s_bin o_sub ?_ ?_
  exact s_var (by decide +kernel) (by decide +kernel)
  exact s_int
  exact s_int
  refine ss_cons ?_ ?_
  refine s_asn ?_ (by decide +kernel)
  refine s_idx ?_ ?_
  refine s_idx ?_ ?_
  exact s_var (by decide +kernel) (by decide +kernel)
  exact s_var (by decide +kernel) (by decide +kernel)
  refine s_neg ?_
  exact s_int
  refine ss_one ?_
  refine s_if ?_ ?_ ?_
  refine t_bop ?_
  refine a_and ?_ ?_
  refine t_cmp o_eq ?_ ?_
  exact s_var (by decide +kernel) (by decide +kernel)
  exact s_str (by decide +kernel)
  refine a_and ?_ ?_
  refine t_cmp o_eq ?_ ?_
  exact s_var (by decide +kernel) (by decide +kernel)
  exact s_str (by decide +kernel)
  exact a_and_nil
  refine ss_one ?_
  refine s_expr ?_
  refine s_append ?_ ?_
  exact s_var (by decide +kernel) (by decide +kernel)
  refine s_tup ?_
  refine e_cons ?_ ?_
  exact s_var (by decide +kernel) (by decide +kernel)
  refine e_cons ?_ ?_
  exact s_str (by decide +kernel)
  exact e_nil
  refine ss_one ?_
  refine s_if ?_ ?_ ?_
  refine t_bop ?_
  refine a_or ?_ ?_
  refine t_cmp o_eq ?_ ?_
  exact s_var (by decide +kernel) (by decide +kernel)
  exact s_str (by decide +kernel)
  refine a_or ?_ ?_
  refine t_bop ?_
  refine a_and ?_ ?_
  refine t_cmp o_eq ?_ ?_
  exact s_var (by decide +kernel) (by decide +kernel)
  exact s_str (by decide +kernel)
  refine a_and ?_ ?_
  refine t_cmp o_eq ?_ ?_
  exact s_var (by decide +kernel) (by decide +kernel)
  exact s_str (by decide +kernel)
  exact a_and_nil
  exact a_or_nil
  refine ss_one ?_
  refine s_expr ?_
  refine s_append ?_ ?_
  exact s_var (by decide +kernel) (by decide +kernel)
  refine s_tup ?_
  refine e_cons ?_ ?_
  refine s_call c_law_on (by decide) (by decide +kernel) ?_
  refine e_cons ?_ ?_
  exact s_var (by decide +kernel) (by decide +kernel)
  refine e_cons ?_ ?_
  exact s_var (by decide +kernel) (by decide +kernel)
  refine e_cons ?_ ?_
  exact s_var (by decide +kernel) (by decide +kernel)
  exact e_nil
  refine e_cons ?_ ?_
  exact s_str (by decide +kernel)
  exact e_nil
  refine ss_one ?_
  refine s_expr ?_
  refine s_append ?_ ?_
  exact s_var (by decide +kernel) (by decide +kernel)
  refine s_tup ?_
  refine e_cons ?_ ?_
  exact s_var (by decide +kernel) (by decide +kernel)
  refine e_cons ?_ ?_
  exact s_str (by decide +kernel)
  exact e_nil
  refine ss_one ?_
  refine s_ret ?_
  refine s_comp ?_ .two (by decide +kernel) (by decide +kernel) .nil ?_
  refine i_lst ?_
  exact s_var (by decide +kernel) (by decide +kernel)
  refine body_one ?_
  refine s_cmp o_in ?_ ?_
  refine s_blt1 b_len (by decide +kernel) o_len ?_
  exact s_var (by decide +kernel) (by decide +kernel)
  exact s_var (by decide +kernel) (by decide +kernel)
noncomputable abbrev sReads : S := [114, 101, 97, 100, 115]
noncomputable abbrev sWaits : S := [119, 97, 105, 116, 115]
noncomputable abbrev sOver : S := [111, 118, 101, 114]
noncomputable abbrev Walk := List Nat × S
noncomputable def walkStep (its : List Item) (w : Walk) (c : Nat) : Walk :=
  if w.2 = sReads ∧ c = 34 then (w.1, sWaits) else if w.2 = sReads ∨ (w.2 = sWaits ∧ c = 34) then (onL its c w.1, sReads) else (w.1, sOver)
noncomputable def walksL (its : List Item) : List S → List Walk → List Walk
  | [], ws => ws
  | t :: r, ws => walksL its r (ws ++ [walkStep its (ws[(ws.length - 1) / 2]?.getD ([], [])) (t.getLast?.getD 0)])
noncomputable def toldL (its : List Item) (texts : List S) : List Bool := (walksL its (texts.drop 1) [(opened its [0] [], sReads)]).map fun w => decide (its.length ∈ w.1)
noncomputable def p_law_told : Spec' := fun Vs σ Q E => ∃ i j its texts, Vs = [.lst i, .lst j] ∧ σ[i]? = some (.list (vIts its)) ∧ σ[j]? = some (.list (vS texts)) ∧ its.length ≤ 60 ∧ 1 ≤ texts.length ∧ texts.length ≤ 100 ∧ (∀ t ∈ texts.drop 1, t ≠ []) ∧
  ∀ ν l, (σ ++ ν)[l]? = some (.list (vB (toldL its texts))) → Q (.lst l) (σ ++ ν)
noncomputable abbrev Tr := Nat × Walk
noncomputable def vTr (tr : List Tr) : List V := tr.map fun t => .tup [.lst t.1, .str t.2.2]
theorem vTr_len (tr : List Tr) : (vTr tr).length = tr.length := List.length_map _
theorem EV.two_on {f g s : Ex} {vars : Vars} {σ : Sto} {i j c : Nat} {its : List Item} {ps : List Nat} {m : S} (h1 : EV f vars σ (.lst i)) (h2 : EV g vars σ (.lst j)) (h3 : EV s vars σ (.str [c])) (hi : σ[i]? = some (.list (vIts its))) (hj : σ[j]? = some (.list (vN ps))) (hl : its.length ≤ 1000) (hp : ps.length ≤ 100)
    {Q : V → Sto → Prop} {E : X → Sto → Prop} (k : ∀ ν l, σ.length ≤ l → (σ ++ ν)[l]? = some (.list (vN (onL its c ps))) → Q (.tup [.lst l, .str m]) (σ ++ ν)) : tup (xcons (callF p_law_on (xcons f (xcons g (xcons s xnil)))) (xcons (cstr m) xnil)) vars σ Q E :=
  h1 _ _ (h2 _ _ (h3 _ _ ⟨i, j, its, ps, c, rfl, hi, hj, hl, hp, fun ν l a b => ⟨by show 2 ≤ 1000000; decide, k ν l a b⟩⟩))
noncomputable abbrev KT : List String := ["walks", "items", "texts"]
section
variable {σ : Sto} {i j : Nat} {its : List Item} {texts : List S}
theorem told_turn (hi : σ[i]? = some (.list (vIts its))) (hj : σ[j]? = some (.list (vS texts))) (hl : its.length ≤ 60) {k : Nat} {tr : List Tr} {ν : Sto} {vars : Vars} {t : S} {r : List S} {c : Nat} (hk : tr.length = k + 1) (hkl : k < 1000) (hd : texts.drop (k + 1) = t :: r) (hc : t.getLast? = some c) {w : Nat} {ps : List Nat} {m : S} (htr : tr[k / 2]? = some (w, ps, m)) (hsm : ps.length ≤ 100)
    (hat : ∀ c, (σ ++ c :: ν)[w]? = some (.list (vN ps))) (v : Has vars KT [.v (.lst σ.length), .v (.lst i), .v (.lst j)]) {Q : Fl → St → Prop} {E : X → St → Prop}
    (go : ∀ vars' ν' a' (u : Walk), Has vars' KT [.v (.lst σ.length), .v (.lst i), .v (.lst j)] → u = walkStep its (ps, m) c → u.1.length ≤ 100 → (∀ c, (σ ++ c :: (ν ++ ν'))[a']? = some (.list (vN u.1))) → Q .next ⟨vars', σ ++ Cell.list (vTr (tr ++ [(a', u)])) :: (ν ++ ν')⟩) :
    f_law_told_b1 ⟨upd vars "k" (.v (.int (1 + (k : Int)))), σ ++ Cell.list (vTr tr) :: ν⟩ Q E := by
  have v1 := v.new (x := "k") (w := .v (.int (1 + (k : Int)))) (by decide)
  have eT : ∀ a' u, (vTr tr ++ [V.tup [.lst a', .str u.2]] : List V) = vTr (tr ++ [(a', u)]) := fun a' u => (List.map_append (l₂ := [(a', u)])).symm
  have hz : (vTr tr).length < 1000000 := by rw [vTr_len]; omega
  have g3 : (vTr tr)[k / 2]? = some (.tup [.lst w, .str m]) := by unfold vTr; rw [List.getElem?_map, htr]; rfl
  have ei := EV.idxL (EV.vr v1 1 rfl rfl) ((EV.div (EV.sub (EV.vr v1 0 rfl rfl) (EV.int (i := 1))) (EV.int (i := 2)) (by decide) (by decide)).to (w := .int ((k / 2 : Nat) : Int)) (by congr 1; omega)) (at_get σ (Cell.list (vTr tr)) ν) (by omega) g3
  refine seq_run (asnP_run v1 ei (by decide) (by decide) fun vars2 v2 => ?_)
  have es := EV.lastS (EV.idxX (ex := .idx) (EV.vr v2 5 rfl rfl) ((EV.vr v2 2 rfl rfl).to (w := .int ((k + 1 : Nat) : Int)) (by congr 1; omega)) (ext_get (ν := Cell.list (vTr tr) :: ν) hj) (by omega) hd) hc
  refine seq_run (asnN v2 es (by decide) fun vars3 v3 => ?_)
  have vb := v3.tl.tl.tl.tl
  have eg : EV (var "sign") vars3 (σ ++ Cell.list (vTr tr) :: ν) (.str [c]) := EV.vr v3 0 rfl rfl
  have em : EV (var "state") vars3 (σ ++ Cell.list (vTr tr) :: ν) (.str m) := EV.vr v3 1 rfl rfl
  have ep : EV (var "places") vars3 (σ ++ Cell.list (vTr tr) :: ν) (.lst w) := EV.vr v3 2 rfl rfl
  have ew : EV (var "walks") vars3 (σ ++ Cell.list (vTr tr) :: ν) (.lst σ.length) := EV.vr v3 4 rfl rfl
  have tr1 := TV.eqS em (EV.str (l := sReads))
  have tr2 : TV (tcmp (oEqNe false) (var "sign") (cstr [34])) vars3 (σ ++ Cell.list (vTr tr) :: ν) (decide (c = 34)) := (TV.eqS eg EV.str).to (decide_eq_decide.mpr ⟨fun h => (List.cons.inj h).1, fun h => by rw [h]⟩)
  have tr3 := TV.eqS em (EV.str (l := sWaits))
  have stay : ∀ m', (ps, m') = walkStep its (ps, m) c → Q .next ⟨vars3, σ ++ Cell.list (vTr tr ++ [V.tup [.lst w, .str m']]) :: ν⟩ := fun m' he => by
    have := go vars3 [] w (ps, m') vb he hsm (fun c => by rw [List.append_nil]; exact hat c)
    rw [List.append_nil] at this
    rw [eT w (ps, m')]; exact this
  have on : (onL its c ps, sReads) = walkStep its (ps, m) c → exprS (lm1 oAppend (var "walks") (tup (xcons (callF p_law_on (xcons (var "items") (xcons (var "places") (xcons (var "sign") xnil)))) (xcons (cstr sReads) xnil)))) ⟨vars3, σ ++ Cell.list (vTr tr) :: ν⟩ Q E := fun he =>
    app_gen ew (EV.two_on (EV.vr v3 5 rfl rfl) ep eg (ext_get hi) (hat _) (by omega) hsm fun μ l hll hl' => by
      rw [app2]
      rw [app2] at hl'
      refine ⟨_, at_get _ _ _, hz, ?_⟩
      rw [at_set, eT l (onL its c ps, sReads)]
      exact go vars3 μ l _ vb he (by have := on_few its c ps; show (onL its c ps).length ≤ 100; omega) (fun d => at_other d (by rw [List.length_append, List.length_cons] at hll; omega) hl'))
  by_cases hs1 : m = sReads
  · by_cases hc1 : c = 34
    · refine ifS_true ((tr1.to (decide_eq_true hs1)).andT ((tr2.to (decide_eq_true hc1)).andT TV.lit)) (app_own ew (EV.two ep EV.str) hz (stay sWaits ?_))
      unfold walkStep; rw [if_pos ⟨hs1, hc1⟩]
    · refine ifS_false ((tr1.to (decide_eq_true hs1)).andT ((tr2.to (decide_eq_false hc1)).andF)) (ifS_true ((tr1.to (decide_eq_true hs1)).orT) (on ?_))
      unfold walkStep; rw [if_neg (fun q => hc1 q.2), if_pos (.inl hs1)]
  · refine ifS_false ((tr1.to (decide_eq_false hs1)).andF) ?_
    by_cases h2 : m = sWaits ∧ c = 34
    · refine ifS_true ((tr1.to (decide_eq_false hs1)).orF (((tr3.to (decide_eq_true h2.1)).andT ((tr2.to (decide_eq_true h2.2)).andT TV.lit)).orT)) (on ?_)
      unfold walkStep; rw [if_neg (fun q => hs1 q.1), if_pos (.inr h2)]
    · refine ifS_false ((tr1.to (decide_eq_false hs1)).orF ((?_ : TV (tand _ _) _ _ false).orF TV.lit)) (app_own ew (EV.two ep EV.str) hz (stay sOver ?_))
      · by_cases hs2 : m = sWaits
        · exact (tr3.to (decide_eq_true hs2)).andT ((tr2.to (decide_eq_false fun q => h2 ⟨hs2, q⟩)).andF)
        · exact (tr3.to (decide_eq_false hs2)).andF
      · unfold walkStep; rw [if_neg (fun q => hs1 q.1), if_neg (by rintro (q | q); exact hs1 q; exact h2 q)]
theorem told_loop (hi : σ[i]? = some (.list (vIts its))) (hj : σ[j]? = some (.list (vS texts))) (hl : its.length ≤ 60) (ht : texts.length ≤ 100) {E : X → St → Prop} {Q' : Fl → St → Prop} {chk : Sto → Prop} (hchk : ∀ σ, chk σ) {R : List Walk}
    (hq : ∀ vars' tr' ν', Has vars' KT [.v (.lst σ.length), .v (.lst i), .v (.lst j)] → (∀ t ∈ tr', ∀ c, (σ ++ c :: ν')[t.1]? = some (.list (vN t.2.1))) → R = tr'.map (·.2) → tr'.length ≤ 100 → Q' .next ⟨vars', σ ++ .list (vTr tr') :: ν'⟩) (rest : List S) :
    ∀ (k : Nat) (tr : List Tr) (ν : Sto) (vars : Vars), tr.length = k + 1 → texts.drop (k + 1) = rest → (∀ t ∈ rest, t ≠ []) → (∀ t ∈ tr, t.2.1.length ≤ 100) → k + 1 ≤ texts.length → (∀ t ∈ tr, ∀ c, (σ ++ c :: ν)[t.1]? = some (.list (vN t.2.1))) →
      Has vars KT [.v (.lst σ.length), .v (.lst i), .v (.lst j)] → R = walksL its rest (tr.map (·.2)) →
      forC chk "k" f_law_told_b1 ((List.range' k rest.length).map fun j : Nat => V.int (1 + (j : Nat))) ⟨vars, σ ++ .list (vTr tr) :: ν⟩ Q' E := by
  induction rest with
  | nil => intro k tr ν vars hk hd hne hsm hkt hat v hR; exact forC_nil (hchk _) (hq vars tr ν v hat hR (by omega))
  | cons t r ih =>
    intro k tr ν vars hk hd hne hsm hkt hat v hR
    rw [List.length_cons, List.range'_succ, List.map_cons]
    refine forC_cons (hchk _) ?_
    obtain ⟨hd', hkl⟩ := drop_next hd
    obtain ⟨c, hc⟩ : ∃ c, t.getLast? = some c := by
      cases q : t.getLast? with
      | none => exact absurd (List.getLast?_eq_none_iff.mp q) (hne t (.head _))
      | some c => exact ⟨c, rfl⟩
    have hk2 : k / 2 < tr.length := by omega
    have hmem : tr[k / 2] ∈ tr := List.getElem_mem hk2
    have hw : ((tr.map (·.2))[((tr.map (·.2)).length - 1) / 2]?.getD ([], [])) = tr[k / 2].2 := by
      rw [List.length_map, hk, Nat.add_sub_cancel, List.getElem?_map, List.getElem?_eq_getElem hk2]; rfl
    unfold walksL at hR
    rw [hw, hc, Option.getD_some] at hR
    refine told_turn hi hj hl hk (by omega) hd hc (w := tr[k / 2].1) (ps := tr[k / 2].2.1) (m := tr[k / 2].2.2) (List.getElem?_eq_getElem hk2) (hsm _ hmem) (hat _ hmem) v (fun vars' ν' a' u v' hu hl1 hat' => ?_)
    refine ih (k + 1) (tr ++ [(a', u)]) (ν ++ ν') vars' (by rw [List.length_append, hk]; rfl) hd' (fun t ht => hne t (.tail _ ht)) (fun t ht => ?_) hkl (fun t ht d => ?_) v' (by rw [List.map_append, hu]; exact hR)
    · rcases List.mem_append.mp ht with q | q
      · exact hsm t q
      · rw [List.mem_singleton.mp q]; exact hl1
    · rcases List.mem_append.mp ht with q | q
      · rw [← app2]; exact ext_get (hat t q d)
      · rw [List.mem_singleton.mp q]; exact hat' d
end
theorem vB_app (xs ys : List Bool) : vB (xs ++ ys) = vB xs ++ vB ys := by simp [vB]
theorem vB_len (xs : List Bool) : (vB xs).length = xs.length := by simp [vB]
theorem told_comp {τ : Sto} {i : Nat} {its : List Item} (hi : τ[i]? = some (.list (vIts its))) (hl : its.length ≤ 60) {chk : Sto → Prop} (hchk : ∀ c, chk (τ ++ [c])) {K : Vars → Sto → Prop} :
    ∀ (rest : List Tr) (acc : List Bool) (vars : Vars), acc.length + rest.length ≤ 1000 → vars "items" = some (.v (.lst i)) → (∀ t ∈ rest, τ[t.1]? = some (.list (vN t.2.1))) →
      (∀ vars', K vars' (τ ++ [.list (vB (acc ++ rest.map fun t => decide (its.length ∈ t.2.1)))])) →
      compC chk (.two "places" "state") (tlit true) (emitG τ.length (op2 (oIn false) (op1 oLen (var "items")) (var "places"))) (vTr rest) vars (τ ++ [.list (vB acc)]) K
  | [], acc, vars, hf, h1, ht, hq => ⟨hchk _, by simpa using hq vars⟩
  | t :: r, acc, vars, hf, h1, ht, hq => by
    show compC _ _ _ _ (V.tup [.lst t.1, .str t.2.2] :: vTr r) _ _ _
    unfold compC
    simp only [List.length_cons] at hf
    have z : lim = 1000000 := rfl
    refine ⟨hchk _, _, _, .inl rfl, ?_⟩
    simp only [tlit, op1, op2, var, upd, String.reduceEq, ↓reduceIte, Option.some.injEq, Wv.v.injEq, exists_eq_left', oLen, Bool.bne_false, emitG, h1, oIn, innerG]
    refine ⟨_, ext_get hi, by rw [vIts_len]; omega, _, by rw [← vN_vI]; exact ext_get (ht t (by simp)), ?_⟩
    rw [vIts_len, mem_cast]
    refine ⟨_, new_get _ _, by rw [vB_len]; omega, ?_⟩
    rw [at_set]
    have eB : (vB acc ++ [V.bool (decide (its.length ∈ t.2.1))] : List V) = vB (acc ++ [decide (its.length ∈ t.2.1)]) := by rw [vB_app]; rfl
    rw [eB]
    exact told_comp hi hl hchk r _ _ (by simp; omega) (by simp [upd, h1]) (fun t h => ht t (by simp [h])) (fun vars' => by simpa using hq vars')
theorem i_law_told {Vs : List V} {σ : Sto} {Q : V → Sto → Prop} {E : X → Sto → Prop} (h : p_law_told Vs σ Q E) : Vs.length = 2 ∧ f_law_told ⟨bindV ["items", "texts"] Vs, σ⟩ (fin1 Q) (fin2 E) := by
  obtain ⟨i, j, its, texts, rfl, hi, hj, hl, ht1, ht2, hne, hQ⟩ := h
  refine ⟨rfl, ?_⟩
  have z : lim = 1000000 := rfl
  have b1 : bindV ["items", "texts"] [V.lst i, V.lst j] "items" = some (.v (.lst i)) := rfl
  have b2 : bindV ["items", "texts"] [V.lst i, V.lst j] "texts" = some (.v (.lst j)) := rfl
  simp only [f_law_told_run, seq, asn, retS, op1, var, cint, cstr, lst, tup, xnil, xcons, callF, upd, String.reduceEq, ↓reduceIte, Option.some.injEq, Wv.v.injEq, V.int.injEq, exists_eq_left', oLen, b1, b2, forS, rng2]
  refine ⟨by decide, i, σ.length, its, [0], rfl, ext_get hi, new_get _ _, by omega, by decide, by simp, ?_⟩
  refine ⟨by show 2 ≤ lim; omega, by show 1 ≤ lim; omega, _, ext_get (ext_get (ext_get hj)), by rw [vS_len]; omega, ?_⟩
  refine ⟨_, _, rfl, rfl, by decide, by rw [vS_len]; exact nat_pos9 (by omega), ?_⟩
  rw [range_ints, show (((vS texts).length : Int) - 1).toNat = (texts.drop 1).length by rw [vS_len, List.length_drop]; omega]
  have ho := opened_few its [0] (by simp)
  refine told_loop (σ := σ ++ [Cell.list [V.int 0]] ++ [Cell.list (vN (opened its [0] []))]) (ext_get (ext_get hi)) (ext_get (ext_get hj)) hl ht2 (fun _ => trivial) (R := walksL its (texts.drop 1) [(opened its [0] [], sReads)]) (fun vars' tr' ν' v w3 w4 w5 => ?_) (texts.drop 1) 0 [((σ ++ [Cell.list [V.int 0]]).length, (opened its [0] [], sReads))] [] _ rfl rfl hne (by intro t ht; rw [List.mem_singleton.mp ht]; dsimp only; omega) (by omega) ?_ ⟨fun i y w a b => by
    match i with
    | 0 => cases a; cases b; simp [upd]
    | 1 => cases a; cases b; simp [upd, b1]
    | 2 => cases a; cases b; simp [upd, b2]
    | i + 3 => cases a⟩ rfl
  rotate_left
  · intro t ht c
    rw [List.mem_singleton.mp ht]
    exact ext_get (new_get _ _)
  · have w1 : vars' "items" = some (.v (.lst i)) := v.v 1 rfl rfl
    have w2 := v.v 0 rfl rfl
    simp only [var, comp, ofLst]
    refine ⟨by intro n hn; rw [List.mem_singleton.mp hn]; exact ⟨_, w1⟩, _, w2, _, _, rfl, at_get _ _ _, ?_⟩
    refine told_comp (τ := σ ++ [Cell.list [V.int 0]] ++ [Cell.list (vN (opened its [0] []))] ++ Cell.list (vTr tr') :: ν') (ext_get (ext_get (ext_get hi))) hl (fun c => ext_get (at_get _ _ _)) tr' [] _ (by simp; omega) (by simp [cv, w1]) (fun t ht => w3 t ht _) (fun vars' => ?_)
    have e : ((tr'.map fun t => decide (its.length ∈ t.2.1)) : List Bool) = toldL its texts := by
      unfold toldL
      rw [show walksL its (texts.drop 1) [(opened its [0] [], sReads)] = tr'.map (·.2) from w4, List.map_map]
      rfl
    rw [List.nil_append, e, List.append_assoc, List.append_assoc, List.append_assoc]
    refine hQ _ _ ?_
    rw [← List.append_assoc, ← List.append_assoc, ← List.append_assoc]
    exact new_get _ _
theorem c_law_told : Contract 2 "_law_told" p_law_told := contract_of (d := r_law_told) (ps := ["items", "texts"]) (by kernel_rfl) sd_law_told (by decide +kernel) (fun pm code doc vs h => by obtain ⟨a, b, rfl⟩ := len2 h; rfl) fun _ _ _ _ => i_law_told
end
end Mine

namespace Mine
section
noncomputable abbrev r_law_texts : DefRec := recAt 20
noncomputable def f_law_texts_b1 : Sx := (seq (asn "last" (comp ["sign"] (ofLst (var "last")) (.one "text") (tlit true) (fun j => innerG (ofLst (lst (xcons (cstr [34]) (xcons (var "sign") xnil)))) (.one "one") (tlit true) (emitG j (op2 oAdd (var "text") (var "one")))))) (exprS (lm1 oExtend (var "texts") (var "last"))))
theorem f_law_texts_b1_run (st : St) (Q : Fl → St → Prop) (E : X → St → Prop) : f_law_texts_b1 st Q E = (seq (asn "last" (comp ["sign"] (ofLst (var "last")) (.one "text") (tlit true) (fun j => innerG (ofLst (lst (xcons (cstr [34]) (xcons (var "sign") xnil)))) (.one "one") (tlit true) (emitG j (op2 oAdd (var "text") (var "one")))))) (exprS (lm1 oExtend (var "texts") (var "last")))) st Q E := rfl
noncomputable def f_law_texts : Sx := (seq (asn "texts" (lst (xcons (cstr []) xnil))) (seq (asn "last" (lst (xcons (cstr []) xnil))) (seq (forS "size" (rng1 (cint 4)) f_law_texts_b1) (retS (var "texts")))))
theorem f_law_texts_run (st : St) (Q : Fl → St → Prop) (E : X → St → Prop) : f_law_texts st Q E = (seq (asn "texts" (lst (xcons (cstr []) xnil))) (seq (asn "last" (lst (xcons (cstr []) xnil))) (seq (forS "size" (rng1 (cint 4)) f_law_texts_b1) (retS (var "texts"))))) st Q E := rfl
theorem sd_law_texts : SoundSs 0 .pl r_law_texts.scope r_law_texts.body f_law_texts := by
  refine ss_cons ?_ ?_
  refine s_asn ?_ (by decide +kernel)
  refine s_lst ?_
  refine e_cons ?_ ?_
  exact s_str (by decide +kernel)
  exact e_nil
  refine ss_cons ?_ ?_
  refine s_asn ?_ (by decide +kernel)
  refine s_lst ?_
  refine e_cons ?_ ?_
  exact s_str (by decide +kernel)
  exact e_nil
  refine ss_cons ?_ ?_
  refine s_for ?_ ?_ (by decide +kernel)
  refine i_rng1 b_range (by decide +kernel) ?_
  exact s_int
  refine ss_cons ?_ ?_
  refine s_asnC (by decide +kernel) ?_ .one (by decide +kernel) (by decide +kernel) .nil ?_
  refine i_lst ?_
  exact s_var (by decide +kernel) (by decide +kernel)
  refine body_two ?_ ?_ .one (by decide +kernel) .nil
  refine s_bin o_add ?_ ?_
  exact s_var (by decide +kernel) (by decide +kernel)
  exact s_var (by decide +kernel) (by decide +kernel)
  refine i_lst ?_
  refine s_lst ?_
  refine e_cons ?_ ?_
  exact s_str (by decide +kernel)
  refine e_cons ?_ ?_
  exact s_var (by decide +kernel) (by decide +kernel)
  exact e_nil
  refine ss_one ?_
  refine s_expr ?_
  refine s_extend ?_ ?_
  exact s_var (by decide +kernel) (by decide +kernel)
  exact s_var (by decide +kernel) (by decide +kernel)
  refine ss_one ?_
  refine s_ret ?_
  exact s_var (by decide +kernel) (by decide +kernel)
noncomputable def grow (sign : S) (last : List S) : List S := last.flatMap fun t => [t ++ [34], t ++ sign]
noncomputable def textsGo (sign : S) : Nat → List S → List S → List S
  | 0, _, texts => texts
  | n + 1, last, texts => textsGo sign n (grow sign last) (texts ++ grow sign last)
noncomputable def textsL (sign : S) : List S := textsGo sign 4 [[]] [[]]
noncomputable def p_law_texts : Spec' := fun Vs σ Q E => ∃ sign, Vs = [.str sign] ∧ sign.length ≤ 1 ∧ ∀ ν l, (σ ++ ν)[l]? = some (.list (vS (textsL sign))) → Q (.lst l) (σ ++ ν)
theorem texts_comp {τ : Sto} {sign : S} (hs : sign.length ≤ 1) {chk : Sto → Prop} (hchk : ∀ c ν, chk (τ ++ c :: ν)) {K : Vars → Sto → Prop} :
    ∀ (rest acc : List S) (ν : Sto) (vars : Vars), acc.length + 2 * rest.length ≤ 1000 → (∀ t ∈ rest, t.length ≤ 100) → vars "sign" = some (.v (.str sign)) →
      (∀ vars' ν', K vars' (τ ++ .list (vS (acc ++ grow sign rest)) :: ν')) →
      compC chk (.one "text") (tlit true) (innerG (ofLst (lst (xcons (cstr [34]) (xcons (var "sign") xnil)))) (.one "one") (tlit true) (emitG τ.length (op2 oAdd (var "text") (var "one")))) (vS rest) vars (τ ++ .list (vS acc) :: ν) K
  | [], acc, ν, vars, hf, ht, h1, hq => ⟨hchk _ _, by simpa [grow] using hq vars ν⟩
  | t :: r, acc, ν, vars, hf, ht, h1, hq => by
    show compC _ _ _ _ (V.str t :: vS r) _ _ _
    unfold compC
    simp only [List.length_cons] at hf
    have z : lim = 1000000 := rfl
    have htl := ht t (by simp)
    refine ⟨hchk _ _, ?_⟩
    simp only [tlit, var, cstr, lst, xnil, xcons, upd, String.reduceEq, ↓reduceIte, Option.some.injEq, Wv.v.injEq, V.lst.injEq, exists_eq_left', Tg.bind, emitG, h1, innerG, ofLst, It.items, compC, It.chk]
    refine ⟨by show 2 ≤ lim; omega, _, _, rfl, new_get _ _, ?_⟩
    have h1' : (upd vars "text" (.v (.str t))) "sign" = some (.v (.str sign)) := by simp [upd, h1]
    have gx := @at_get
    unfold compC
    refine ⟨new_get _ _, ?_⟩
    simp only [tlit, op2, var, upd, String.reduceEq, ↓reduceIte, Option.some.injEq, Wv.v.injEq, exists_eq_left', oAdd, Tg.bind, emitG, h1, It.items, It.chk]
    refine ⟨by simp only [List.length_cons, List.length_nil]; omega, vS acc, ext_get (at_get _ _ _), by rw [vS_len]; omega, ?_⟩
    rw [app2, at_set, show (vS acc ++ [V.str (t ++ [34])] : List V) = vS (acc ++ [t ++ [34]]) by rw [vS_app]; rfl]
    unfold compC
    refine ⟨?_, ?_⟩
    · rw [← app2]
      show _ = _
      rw [show (τ ++ Cell.list (vS acc) :: ν).length = (τ ++ Cell.list (vS (acc ++ [t ++ [34]])) :: ν).length by simp]
      exact new_get _ _
    simp only [tlit, op2, var, upd, String.reduceEq, ↓reduceIte, Option.some.injEq, Wv.v.injEq, exists_eq_left', oAdd, Tg.bind, emitG, h1, It.items, It.chk]
    refine ⟨by omega, vS (acc ++ [t ++ [34]]), at_get _ _ _, by rw [vS_len]; simp; omega, ?_⟩
    rw [at_set, show (vS (acc ++ [t ++ [34]]) ++ [V.str (t ++ sign)] : List V) = vS (acc ++ [t ++ [34]] ++ [t ++ sign]) by rw [vS_app (acc ++ _)]; rfl]
    unfold compC
    refine ⟨?_, ?_⟩
    · rw [← app2]
      show _ = _
      rw [show (τ ++ Cell.list (vS acc) :: ν).length = (τ ++ Cell.list (vS (acc ++ [t ++ [34]] ++ [t ++ sign])) :: ν).length by simp]
      exact new_get _ _
    refine texts_comp hs hchk r _ _ _ (by simp; omega) (fun t h => ht t (by simp [h])) (by simp [upd, h1]) (fun vars' ν' => ?_)
    have e : acc ++ [t ++ [34]] ++ [t ++ sign] ++ grow sign r = acc ++ grow sign (t :: r) := by simp [grow]
    rw [e]
    exact hq _ _
theorem grow_len (sign : S) (last : List S) : (grow sign last).length = 2 * last.length := by
  unfold grow
  induction last with
  | nil => rfl
  | cons a r ih => simp only [List.flatMap_cons, List.length_append, ih, List.length_cons, List.length_nil]; omega
theorem grow_mem {sign : S} {last : List S} {m : Nat} (hs : sign.length ≤ 1) (h : ∀ t ∈ last, t.length ≤ m) : ∀ t ∈ grow sign last, t.length ≤ m + 1 := by
  intro t ht
  obtain ⟨u, hu, hm⟩ := List.mem_flatMap.mp ht
  have := h u hu
  simp only [List.mem_cons, List.not_mem_nil, or_false] at hm
  rcases hm with rfl | rfl
  · simp; omega
  · simp; omega
theorem texts_loop {σ : Sto} {sign : S} (hs : sign.length ≤ 1) {chk : Sto → Prop} (hchk : ∀ σ, chk σ) {E : X → St → Prop} {Q' : Fl → St → Prop} :
    ∀ (items : List V) (last texts : List S) (a m : Nat) (ν : Sto) (vars : Vars), last.length * 2 ^ items.length ≤ 64 → texts.length + items.length * 64 ≤ 1000 → m + items.length ≤ 50 → (∀ t ∈ last, t.length ≤ m) →
      vars "sign" = some (.v (.str sign)) → vars "texts" = some (.v (.lst σ.length)) → vars "last" = some (.v (.lst a)) → (∀ c, (σ ++ c :: ν)[a]? = some (.list (vS last))) →
      (∀ vars' ν', vars' "texts" = some (.v (.lst σ.length)) → Q' .next ⟨vars', σ ++ .list (vS (textsGo sign items.length last texts)) :: ν'⟩) →
      forC chk "size" f_law_texts_b1 items ⟨vars, σ ++ .list (vS texts) :: ν⟩ Q' E
  | [], last, texts, a, m, ν, vars, hl, ht, hm, hlt, h1, h2, h3, hc, hq => ⟨hchk _, hq vars ν h2⟩
  | x :: r, last, texts, a, m, ν, vars, hl, ht, hm, hlt, h1, h2, h3, hc, hq => by
    unfold forC
    refine ⟨hchk _, ?_⟩
    simp only [List.length_cons, Nat.pow_succ] at hl ht hm
    have z : lim = 1000000 := rfl
    have hp : 1 ≤ 2 ^ r.length := Nat.one_le_two_pow
    have hl1 : last.length * 2 ≤ 64 := by
      have : last.length * 2 * 1 ≤ last.length * 2 * 2 ^ r.length := Nat.mul_le_mul_left _ hp
      rw [Nat.mul_one] at this
      have e : last.length * 2 * 2 ^ r.length = last.length * (2 ^ r.length * 2) := by rw [Nat.mul_assoc, Nat.mul_comm 2]
      omega
    have hpw : 2 * last.length * 2 ^ r.length = last.length * (2 ^ r.length * 2) := by rw [Nat.mul_comm 2, Nat.mul_assoc, Nat.mul_comm 2]
    simp only [f_law_texts_b1_run, seq, asn, exprS, var, lm1, upd, String.reduceEq, ↓reduceIte, Option.some.injEq, Wv.v.injEq, V.lst.injEq, exists_eq_left', comp, ofLst, h1, h2, h3]
    refine ⟨by intro n hn; rw [List.mem_singleton.mp hn]; exact ⟨.v (.str sign), by simp [upd, h1]⟩, _, _, rfl, hc _, ?_⟩
    refine texts_comp (τ := σ ++ .list (vS texts) :: ν) hs (fun c μ => ext_get (hc _)) last [] [] _ (by simp; omega) (fun t h => by have := hlt t h; omega) (by simp [cv, upd, h1]) (fun vars' ν' => ?_)
    rw [List.nil_append]
    simp only [h1, h2, h3, oExtend]
    have gl := grow_len sign last
    refine ⟨is_lst (ext_get (at_get _ _ _)), vS texts, vS (grow sign last), ext_get (at_get _ _ _), at_get _ _ _, by rw [vS_len, vS_len, gl]; omega, ?_⟩
    rw [app2, at_set, ← vS_app]
    refine texts_loop hs hchk r (grow sign last) (texts ++ grow sign last) (σ ++ Cell.list (vS texts) :: ν).length (m + 1) (ν ++ .list (vS (grow sign last)) :: ν') _ (by rw [gl, hpw]; exact hl) (by rw [List.length_append, gl]; omega) (by omega) (grow_mem hs hlt) (by simp [upd, h1]) (by simp [upd, h2]) (by simp [upd]) (fun c => ?_) hq
    rw [← app2]
    rw [show (σ ++ Cell.list (vS texts) :: ν).length = (σ ++ c :: ν).length by simp]
    exact at_get _ _ _
theorem i_law_texts {Vs : List V} {σ : Sto} {Q : V → Sto → Prop} {E : X → Sto → Prop} (h : p_law_texts Vs σ Q E) : Vs.length = 1 ∧ f_law_texts ⟨bindV ["sign"] Vs, σ⟩ (fin1 Q) (fin2 E) := by
  obtain ⟨sign, rfl, hs, hQ⟩ := h
  refine ⟨rfl, ?_⟩
  have z : lim = 1000000 := rfl
  have b1 : bindV ["sign"] [V.str sign] "sign" = some (.v (.str sign)) := rfl
  simp only [f_law_texts_run, seq, asn, retS, var, cint, cstr, lst, xnil, xcons, V.int.injEq, exists_eq_left', b1, forS, rng1]
  refine ⟨by decide, by decide, by decide, ?_⟩
  rw [show ∀ a b : Cell, σ ++ [a] ++ [b] = σ ++ a :: [b] by intro a b; simp]
  refine texts_loop hs (fun _ => trivial) [.int 0, .int 1, .int 2, .int 3] [[]] [[]] (σ ++ [Cell.list [V.str []]]).length 0 _ _ (by decide) (by decide) (by decide) (by simp) (by simp [upd, b1]) (by simp [upd]) (by simp [upd]) (fun c => by rw [show σ ++ c :: [Cell.list [V.str []]] = (σ ++ [c]) ++ [Cell.list [V.str []]] by simp, show (σ ++ [Cell.list [V.str []]]).length = (σ ++ [c]).length by simp]; exact new_get _ _) (fun vars' ν' w => ⟨_, w, hQ _ _ (at_get _ _ _)⟩)
theorem c_law_texts : Contract 0 "_law_texts" p_law_texts := contract_of (d := r_law_texts) (ps := ["sign"]) (by kernel_rfl) sd_law_texts (by decide +kernel) (fun pm code doc vs h => by obtain ⟨a, rfl⟩ := len1 h; rfl) fun _ _ _ _ => i_law_texts
end
end Mine

namespace Mine
section
noncomputable abbrev r_law_numbers : DefRec := recAt 18
noncomputable def f_law_numbers_b1 : Sx := (setIdx (var "fixed") (var "k") (op1 oSum (comp [] (ofLst (slice3 (var "script") (var "k") (cint 63) (cint 13))) (.one "x") (tlit true) (fun j => emitG j (op2 oMod (var "x") (op2 oPow (cint 10) (cint 6)))))))
theorem f_law_numbers_b1_run (st : St) (Q : Fl → St → Prop) (E : X → St → Prop) : f_law_numbers_b1 st Q E = (setIdx (var "fixed") (var "k") (op1 oSum (comp [] (ofLst (slice3 (var "script") (var "k") (cint 63) (cint 13))) (.one "x") (tlit true) (fun j => emitG j (op2 oMod (var "x") (op2 oPow (cint 10) (cint 6))))))) st Q E := rfl
noncomputable def f_law_numbers : Sx := (seq (asn "fixed" (lst (xcons (cint 0) (xcons (cint 0) (xcons (cint 2) (xcons (cint 7) (xcons (cint 7) (xcons (cint 7) (xcons (cint 7) (xcons (cint 3) (xcons (cint 0) (xcons (cint 7) (xcons (cint 7) (xcons (cint 7) (xcons (cint 7) xnil))))))))))))))) (seq (forS "k" (rng1 (op2 oMin (op1 oLen (var "script")) (cint 13))) f_law_numbers_b1) (retS (var "fixed"))))
theorem f_law_numbers_run (st : St) (Q : Fl → St → Prop) (E : X → St → Prop) : f_law_numbers st Q E = (seq (asn "fixed" (lst (xcons (cint 0) (xcons (cint 0) (xcons (cint 2) (xcons (cint 7) (xcons (cint 7) (xcons (cint 7) (xcons (cint 7) (xcons (cint 3) (xcons (cint 0) (xcons (cint 7) (xcons (cint 7) (xcons (cint 7) (xcons (cint 7) xnil))))))))))))))) (seq (forS "k" (rng1 (op2 oMin (op1 oLen (var "script")) (cint 13))) f_law_numbers_b1) (retS (var "fixed")))) st Q E := rfl
theorem sd_law_numbers : SoundSs 0 .pl r_law_numbers.scope r_law_numbers.body f_law_numbers := by
  refine ss_cons ?_ ?_
  refine s_asn ?_ (by decide +kernel)
  refine s_lst ?_
  refine e_cons ?_ ?_
  exact s_int
  refine e_cons ?_ ?_
  exact s_int
  refine e_cons ?_ ?_
  exact s_int
  refine e_cons ?_ ?_
  exact s_int
  refine e_cons ?_ ?_
  exact s_int
  refine e_cons ?_ ?_
  exact s_int
  refine e_cons ?_ ?_
  exact s_int
  refine e_cons ?_ ?_
  exact s_int
  refine e_cons ?_ ?_
  exact s_int
  refine e_cons ?_ ?_
  exact s_int
  refine e_cons ?_ ?_
  exact s_int
  refine e_cons ?_ ?_
  exact s_int
  refine e_cons ?_ ?_
  exact s_int
  exact e_nil
  refine ss_cons ?_ ?_
  refine s_for ?_ ?_ (by decide +kernel)
  refine i_rng1 b_range (by decide +kernel) ?_
  refine s_blt2 b_min (by decide +kernel) o_min ?_ ?_
  refine s_blt1 b_len (by decide +kernel) o_len ?_
  exact s_var (by decide +kernel) (by decide +kernel)
  exact s_int
  refine ss_one ?_
  refine s_setIdx ?_ ?_ ?_
  exact s_var (by decide +kernel) (by decide +kernel)
  exact s_var (by decide +kernel) (by decide +kernel)
  refine s_blt1 b_sum (by decide +kernel) o_sum ?_
  refine s_comp ?_ .one (by decide +kernel) (by decide +kernel) .nil ?_
  refine i_lst ?_
  refine s_slice3 ?_ ?_ ?_ ?_
  exact s_var (by decide +kernel) (by decide +kernel)
  refine p_some ?_
  exact s_var (by decide +kernel) (by decide +kernel)
  refine p_some ?_
  exact s_int
  refine p_some ?_
  exact s_int
  refine body_one ?_
  refine s_bin o_mod ?_ ?_
  exact s_var (by decide +kernel) (by decide +kernel)
  refine s_bin o_pow ?_ ?_
  exact s_int
  exact s_int
  refine ss_one ?_
  refine s_ret ?_
  exact s_var (by decide +kernel) (by decide +kernel)
noncomputable def p_law_numbers : Spec' := fun Vs σ Q E => ∃ xs, Vs = [.rol xs] ∧ xs.length ≤ 63 ∧ ∀ ν l ns, ns.length = 13 → (∀ n ∈ ns, 0 ≤ n) → (σ ++ ν)[l]? = some (.list (vI ns)) → Q (.lst l) (σ ++ ν)
theorem vI_len (xs : List Int) : (vI xs).length = xs.length := by simp [vI]
theorem vI_app (xs ys : List Int) : vI (xs ++ ys) = vI xs ++ vI ys := by simp [vI]
theorem numbers_comp {τ : Sto} {chk : Sto → Prop} (hchk : ∀ c, chk (τ ++ [c])) {K : Vars → Sto → Prop} :
    ∀ (rest acc : List Int) (vars : Vars), acc.length + rest.length ≤ 1000 →
      (∀ vars', K vars' (τ ++ [.list (vI (acc ++ rest.map fun x => x % 1000000))])) →
      compC chk (.one "x") (tlit true) (emitG τ.length (op2 oMod (var "x") (op2 oPow (cint 10) (cint 6)))) (vI rest) vars (τ ++ [.list (vI acc)]) K
  | [], acc, vars, hf, hq => ⟨hchk _, by simpa using hq vars⟩
  | x :: r, acc, vars, hf, hq => by
    show compC _ _ _ _ (V.int x :: vI r) _ _ _
    unfold compC
    simp only [List.length_cons] at hf
    have z : lim = 1000000 := rfl
    refine ⟨hchk _, ?_⟩
    simp only [tlit, op2, var, cint, upd, ↓reduceIte, Option.some.injEq, Wv.v.injEq, exists_eq_left', Tg.bind, emitG, oMod, oPow]
    refine ⟨by decide, by decide, _, new_get _ _, by rw [vI_len]; omega, ?_⟩
    rw [at_set, show ((10 : Int) ^ (6 : Int).toNat) = 1000000 by decide, show (vI acc ++ [V.int (x % 1000000)] : List V) = vI (acc ++ [x % 1000000]) by rw [vI_app]; rfl]
    exact numbers_comp hchk r _ _ (by simp; omega) (fun vars' => by simpa using hq vars')
theorem sum_nonneg : ∀ (l : List Int), (∀ x ∈ l, 0 ≤ x) → 0 ≤ l.sum
  | [], _ => by simp
  | a :: r, h => by
    have := sum_nonneg r fun x hx => h x (by simp [hx])
    have := h a (by simp)
    simp only [List.sum_cons]; omega
theorem pick_len {α : Type} (xs : List α) (lo hi st : Option Int) : (pick xs lo hi st).length ≤ xs.length := by
  unfold pick
  refine Nat.le_trans (List.length_filterMap_le _ _) (sliceRange_length_le _ _ _ _ (fun hc => ?_) fun hc => ?_)
  · simp only [sliceBounds] at hc ⊢
    simp only [hc, if_true]
    constructor
    · cases lo with
      | none => exact Int.le_refl 0
      | some i => exact Int.le_max_left _ _
    · cases hi with
      | none => exact Int.le_refl _
      | some i => exact Int.max_le.mpr ⟨Int.natCast_nonneg _, Int.min_le_right _ _⟩
  · simp only [sliceBounds] at hc ⊢
    simp only [hc, if_false]
    constructor
    · cases lo with
      | none => exact Int.le_refl _
      | some i => exact Int.max_le.mpr ⟨Int.sub_le_sub_right (Int.natCast_nonneg _) 1, Int.min_le_right _ _⟩
    · cases hi with
      | none => exact Int.le_refl _
      | some i => exact Int.le_max_left _ _
theorem numbers_loop {σ : Sto} {xs : List Int} (hx : xs.length ≤ 63) {chk : Sto → Prop} (hchk : ∀ σ, chk σ) {E : X → St → Prop} {Q' : Fl → St → Prop} :
    ∀ (m k : Nat) (ns : List Int) (ν : Sto) (vars : Vars), k + m ≤ 13 → ns.length = 13 → (∀ n ∈ ns, 0 ≤ n) →
      vars "script" = some (.v (.rol xs)) → vars "fixed" = some (.v (.lst σ.length)) →
      (∀ vars' ν' ns', vars' "fixed" = some (.v (.lst σ.length)) → ns'.length = 13 → (∀ n ∈ ns', 0 ≤ n) → Q' .next ⟨vars', σ ++ .list (vI ns') :: ν'⟩) →
      forC chk "k" f_law_numbers_b1 ((List.range' k m).map fun j : Nat => V.int (0 + (j : Nat))) ⟨vars, σ ++ .list (vI ns) :: ν⟩ Q' E
  | 0, k, ns, ν, vars, hk, hn, hp, h1, h2, hq => ⟨hchk _, hq vars ν ns h2 hn hp⟩
  | m + 1, k, ns, ν, vars, hk, hn, hp, h1, h2, hq => by
    rw [List.range'_succ, List.map_cons]
    unfold forC
    refine ⟨hchk _, ?_⟩
    have z : lim = 1000000 := rfl
    simp only [f_law_numbers_b1_run, op1, var, cint, upd, String.reduceEq, ↓reduceIte, Option.some.injEq, Wv.v.injEq, V.int.injEq, V.lst.injEq, exists_eq_left', h1, h2, setIdx, slice3, oSlice3, comp, ofLst, asPart]
    have pl := pick_len xs (some (0 + (k : Int))) (some 63) (some 13)
    refine ⟨fun n hn => by simp at hn, _, _, _, rfl, rfl, rfl, by decide, by omega, _, _, rfl, new_get _ _, ?_⟩
    refine numbers_comp (τ := σ ++ .list (vI ns) :: ν ++ [.list (vI (pick xs (some (0 + (k : Int))) (some 63) (some 13)))]) ?_ (pick xs (some (0 + (k : Int))) (some 63) (some 13)) [] _ (by rw [List.length_nil]; omega) (fun vars' => ?_)
    · exact fun c => ext_get (new_get _ _)
    rw [List.nil_append]
    have hall : ∀ x ∈ (pick xs (some (0 + (k : Int))) (some 63) (some 13)).map (fun x => x % 1000000), 0 ≤ x ∧ x ≤ 1000000 := by
      intro x hx
      obtain ⟨y, _, rfl⟩ := List.mem_map.mp hx
      omega
    refine ⟨_, new_get _ _, hall, by rw [List.length_map]; omega, _, _, _, rfl, rfl, ext_get (ext_get (at_get _ _ _)), by omega, by rw [vI_len]; omega, by rw [vI_len]; omega, ?_⟩
    have h0 := sum_nonneg _ fun x hx => (hall x hx).1
    rw [app2, app2, at_set]
    have es : ∀ s : Int, (vI ns).set (0 + (k : Int)).toNat (V.int s) = vI (ns.set k s) := fun s => by
      rw [show (0 + (k : Int)).toNat = k by omega]; simp [vI, List.map_set]
    rw [es]
    refine numbers_loop hx hchk m (k + 1) _ _ _ (by omega) (by simp [hn]) (fun n h => ?_) (by simp [upd, h1]) (by simp [upd, h2]) hq
    rcases List.mem_or_eq_of_mem_set h with q | q
    · exact hp n q
    · rw [q]; exact h0
theorem i_law_numbers {Vs : List V} {σ : Sto} {Q : V → Sto → Prop} {E : X → Sto → Prop} (h : p_law_numbers Vs σ Q E) : Vs.length = 1 ∧ f_law_numbers ⟨bindV ["script"] Vs, σ⟩ (fin1 Q) (fin2 E) := by
  obtain ⟨xs, rfl, hx, hQ⟩ := h
  refine ⟨rfl, ?_⟩
  have z : lim = 1000000 := rfl
  have b1 : bindV ["script"] [V.rol xs] "script" = some (.v (.rol xs)) := rfl
  simp only [f_law_numbers_run, seq, asn, retS, op1, op2, var, cint, lst, xnil, xcons, upd, String.reduceEq, ↓reduceIte, Option.some.injEq, Wv.v.injEq, V.int.injEq, exists_eq_left', oLen, b1, forS, rng1, oMin]
  refine ⟨by decide, by omega, ?_⟩
  have hm : (min (xs.length : Int) 13) = ((min xs.length 13 : Nat) : Int) := by omega
  rw [hm]
  refine ⟨nat_pos9 (by omega), ?_⟩
  rw [range_ints]
  refine numbers_loop hx (fun _ => trivial) _ 0 [0, 0, 2, 7, 7, 7, 7, 3, 0, 7, 7, 7, 7] [] _ (by omega) rfl (by decide) (by simp [upd, b1]) (by simp [upd]) (fun vars' ν' ns' w1 w2 w3 => ⟨_, w1, hQ _ _ ns' w2 w3 (at_get _ _ _)⟩)
theorem c_law_numbers : Contract 0 "_law_numbers" p_law_numbers := contract_of (d := r_law_numbers) (ps := ["script"]) (by kernel_rfl) sd_law_numbers (by decide +kernel) (fun pm code doc vs h => by obtain ⟨a, rfl⟩ := len1 h; rfl) fun _ _ _ _ => i_law_numbers
noncomputable abbrev r_law_items : DefRec := recAt 19
noncomputable def f_law_items_b1 : Sx := (seq (asn "kind" (op2 oMod (var "number") (cint 9))) (ifS (tcmp (oIn false) (var "kind") (lst (xcons (cint 0) (xcons (cint 8) xnil)))) (exprS (lm1 oAppend (var "items") (tup (xcons (cstr [42]) (xcons (cbool false) (xcons cnone xnil)))))) (ifS (tcmp (oEqNe false) (var "kind") (cint 1)) (exprS (lm1 oAppend (var "items") (tup (xcons (cstr [63]) (xcons (cbool true) (xcons (cstr []) xnil)))))) (ifS (tcmp (oEqNe false) (var "kind") (cint 2)) (exprS (lm1 oAppend (var "items") (tup (xcons (cstr [34]) (xcons (cbool false) (xcons (cstr [34]) xnil)))))) (ifS (tcmp (oEqNe false) (var "kind") (cint 3)) (exprS (lm1 oAppend (var "items") (tup (xcons (ifx (tcmp (oIn false) (var "sign") (cstr [42, 63, 91])) (op2 oAdd (op2 oAdd (cstr [91]) (var "sign")) (cstr [93])) (var "sign")) (xcons (cbool false) (xcons (var "sign") xnil)))))) (ifS (tcmp (oEqNe false) (var "kind") (cint 4)) (exprS (lm1 oAppend (var "items") (tup (xcons (op2 oAdd (op2 oAdd (cstr [91, 33]) (var "sign")) (cstr [93])) (xcons (cbool true) (xcons (var "sign") xnil)))))) (ifS (tcmp (oEqNe false) (var "kind") (cint 5)) (exprS (lm1 oAppend (var "items") (tup (xcons (cstr [91, 33, 34, 93]) (xcons (cbool true) (xcons (cstr [34]) xnil)))))) (ifS (tcmp (oEqNe false) (var "kind") (cint 6)) (exprS (lm1 oAppend (var "items") (tup (xcons (op2 oAdd (op2 oAdd (cstr [91]) (var "sign")) (cstr [34, 93])) (xcons (cbool false) (xcons (op2 oAdd (var "sign") (cstr [34])) xnil)))))) skip))))))))
noncomputable def f_law_items : Sx := (seq (asn "items" (lst xnil)) (seq (forS "number" (ofLst (var "numbers")) f_law_items_b1) (retS (var "items"))))
theorem sd_law_items : SoundSs 0 .pl r_law_items.scope r_law_items.body f_law_items := by
  refine ss_cons ?_ ?_
  refine s_asn ?_ (by decide +kernel)
  refine s_lst ?_
  exact e_nil
  refine ss_cons ?_ ?_
  refine s_for ?_ ?_ (by decide +kernel)
  refine i_lst ?_
  exact s_var (by decide +kernel) (by decide +kernel)
  refine ss_cons ?_ ?_
  refine s_asn ?_ (by decide +kernel)
  refine s_bin o_mod ?_ ?_
  exact s_var (by decide +kernel) (by decide +kernel)
  exact s_int
  refine ss_one ?_
  refine s_if ?_ ?_ ?_
  refine t_cmp o_in ?_ ?_
  exact s_var (by decide +kernel) (by decide +kernel)
  refine s_lst ?_
  refine e_cons ?_ ?_
  exact s_int
  refine e_cons ?_ ?_
  exact s_int
  exact e_nil
  refine ss_one ?_
  refine s_expr ?_
  refine s_append ?_ ?_
  exact s_var (by decide +kernel) (by decide +kernel)
  refine s_tup ?_
  refine e_cons ?_ ?_
  exact s_str (by decide +kernel)
  refine e_cons ?_ ?_
  exact s_bool
  refine e_cons ?_ ?_
  exact s_none
  exact e_nil
  refine ss_one ?_
  refine s_if ?_ ?_ ?_
  refine t_cmp o_eq ?_ ?_
  exact s_var (by decide +kernel) (by decide +kernel)
  exact s_int
  refine ss_one ?_
  refine s_expr ?_
  refine s_append ?_ ?_
  exact s_var (by decide +kernel) (by decide +kernel)
  refine s_tup ?_
  refine e_cons ?_ ?_
  exact s_str (by decide +kernel)
  refine e_cons ?_ ?_
  exact s_bool
  refine e_cons ?_ ?_
  exact s_str (by decide +kernel)
  exact e_nil
  refine ss_one ?_
  refine s_if ?_ ?_ ?_
  refine t_cmp o_eq ?_ ?_
  exact s_var (by decide +kernel) (by decide +kernel)
  exact s_int
  refine ss_one ?_
  refine s_expr ?_
  refine s_append ?_ ?_
  exact s_var (by decide +kernel) (by decide +kernel)
  refine s_tup ?_
  refine e_cons ?_ ?_
  exact s_str (by decide +kernel)
  refine e_cons ?_ ?_
  exact s_bool
  refine e_cons ?_ ?_
  exact s_str (by decide +kernel)
  exact e_nil
  refine ss_one ?_
  refine s_if ?_ ?_ ?_
  refine t_cmp o_eq ?_ ?_
  exact s_var (by decide +kernel) (by decide +kernel)
  exact s_int
  refine ss_one ?_
  refine s_expr ?_
  refine s_append ?_ ?_
  exact s_var (by decide +kernel) (by decide +kernel)
  refine s_tup ?_
  refine e_cons ?_ ?_
  refine s_ifx ?_ ?_ ?_
  refine t_cmp o_in ?_ ?_
  exact s_var (by decide +kernel) (by decide +kernel)
  exact s_str (by decide +kernel)
  refine s_bin o_add ?_ ?_
  refine s_bin o_add ?_ ?_
  exact s_str (by decide +kernel)
  exact s_var (by decide +kernel) (by decide +kernel)
  exact s_str (by decide +kernel)
  exact s_var (by decide +kernel) (by decide +kernel)
  refine e_cons ?_ ?_
  exact s_bool
  refine e_cons ?_ ?_
  exact s_var (by decide +kernel) (by decide +kernel)
  exact e_nil
  refine ss_one ?_
  refine s_if ?_ ?_ ?_
  refine t_cmp o_eq ?_ ?_
  exact s_var (by decide +kernel) (by decide +kernel)
  exact s_int
  refine ss_one ?_
  refine s_expr ?_
  refine s_append ?_ ?_
  exact s_var (by decide +kernel) (by decide +kernel)
  refine s_tup ?_
  refine e_cons ?_ ?_
  refine s_bin o_add ?_ ?_
  refine s_bin o_add ?_ ?_
  exact s_str (by decide +kernel)
  exact s_var (by decide +kernel) (by decide +kernel)
  exact s_str (by decide +kernel)
  refine e_cons ?_ ?_
  exact s_bool
  refine e_cons ?_ ?_
  exact s_var (by decide +kernel) (by decide +kernel)
  exact e_nil
  refine ss_one ?_
  refine s_if ?_ ?_ ?_
  refine t_cmp o_eq ?_ ?_
  exact s_var (by decide +kernel) (by decide +kernel)
  exact s_int
  refine ss_one ?_
  refine s_expr ?_
  refine s_append ?_ ?_
  exact s_var (by decide +kernel) (by decide +kernel)
  refine s_tup ?_
  refine e_cons ?_ ?_
  exact s_str (by decide +kernel)
  refine e_cons ?_ ?_
  exact s_bool
  refine e_cons ?_ ?_
  exact s_str (by decide +kernel)
  exact e_nil
  refine ss_one ?_
  refine s_if ?_ ?_ ?_
  refine t_cmp o_eq ?_ ?_
  exact s_var (by decide +kernel) (by decide +kernel)
  exact s_int
  refine ss_one ?_
  refine s_expr ?_
  refine s_append ?_ ?_
  exact s_var (by decide +kernel) (by decide +kernel)
  refine s_tup ?_
  refine e_cons ?_ ?_
  refine s_bin o_add ?_ ?_
  refine s_bin o_add ?_ ?_
  exact s_str (by decide +kernel)
  exact s_var (by decide +kernel) (by decide +kernel)
  exact s_str (by decide +kernel)
  refine e_cons ?_ ?_
  exact s_bool
  refine e_cons ?_ ?_
  refine s_bin o_add ?_ ?_
  exact s_var (by decide +kernel) (by decide +kernel)
  exact s_str (by decide +kernel)
  exact e_nil
  exact ss_nil
  refine ss_one ?_
  refine s_ret ?_
  exact s_var (by decide +kernel) (by decide +kernel)
noncomputable def itemOf (sign : S) (n : Int) : List Item :=
  if n % 9 = 0 ∨ n % 9 = 8 then [⟨[42], false, none⟩]
  else if n % 9 = 1 then [⟨[63], true, some []⟩]
  else if n % 9 = 2 then [⟨[34], false, some [34]⟩]
  else if n % 9 = 3 then [⟨if (sign = [42] ∨ sign = [63] ∨ sign = [91]) then [91] ++ sign ++ [93] else sign, false, some sign⟩]
  else if n % 9 = 4 then [⟨[91, 33] ++ sign ++ [93], true, some sign⟩]
  else if n % 9 = 5 then [⟨[91, 33, 34, 93], true, some [34]⟩]
  else if n % 9 = 6 then [⟨[91] ++ sign ++ [34, 93], false, some (sign ++ [34])⟩]
  else []
noncomputable def itemsL (sign : S) (ns : List Int) : List Item := ns.flatMap (itemOf sign)
noncomputable def p_law_items : Spec' := fun Vs σ Q E => ∃ i ns c, Vs = [.lst i, .str [c]] ∧ σ[i]? = some (.list (vI ns)) ∧ ns.length ≤ 100 ∧ ∀ ν l, σ.length ≤ l → (σ ++ ν)[l]? = some (.list (vIts (itemsL [c] ns))) → Q (.lst l) (σ ++ ν)
noncomputable abbrev KI : List String := ["items", "numbers", "sign"]
theorem TE.in08 {f : Ex} {vars : Vars} {σ : Sto} {n : Int} (e : EV f vars σ (.int n)) : TE (tcmp (oIn false) f (Mine.lst (xcons (cint 0) (xcons (cint 8) xnil)))) vars σ (decide (n = 0 ∨ n = 8)) := fun Q E q =>
  e _ _ (show _ ≤ 1000000 ∧ _ from ⟨by show 2 ≤ 1000000; decide, [0, 8], new_get _ _, _, rfl, by
    rw [Bool.bne_false, show decide (n ∈ ([0, 8] : List Int)) = decide (n = 0 ∨ n = 8) from decide_eq_decide.mpr (by simp)]
    exact q _⟩)
theorem ifS_runE {t : Tx} {a b : Sx} {vars : Vars} {σ : Sto} {c : Bool} {Q : Fl → St → Prop} {E} (h : TE t vars σ c) (k1 : c = true → ∀ ν, a ⟨vars, σ ++ ν⟩ Q E) (k2 : c = false → ∀ ν, b ⟨vars, σ ++ ν⟩ Q E) : ifS t a b ⟨vars, σ⟩ Q E := h _ _ fun ν => by
  cases c with
  | true => rw [if_pos rfl]; exact k1 rfl ν
  | false => rw [if_neg (by decide)]; exact k2 rfl ν
theorem EV.ifx {t : Tx} {a b : Ex} {vars : Vars} {σ : Sto} {c : Bool} {v : V} (h : TV t vars σ c) (k1 : c = true → EV a vars σ v) (k2 : c = false → EV b vars σ v) : EV (Mine.ifx t a b) vars σ v := fun Q E q => h _ _ (by
  cases c with
  | true => rw [if_pos rfl]; exact k1 rfl _ _ q
  | false => rw [if_neg (by decide)]; exact k2 rfl _ _ q)
section
variable {σ : Sto} {i : Nat} {c : Nat} {E : X → St → Prop}
theorem items_turn {Q : Fl → St → Prop} {n : Int} {its : List Item} {ν : Sto} {vars : Vars} (hz : its.length ≤ 1000) (v : Has vars KI [.v (.lst σ.length), .v (.lst i), .v (.str [c])])
    (go : ∀ vars' ν', Has vars' KI [.v (.lst σ.length), .v (.lst i), .v (.str [c])] → Q .next ⟨vars', σ ++ Cell.list (vIts (its ++ itemOf [c] n)) :: ν'⟩) : f_law_items_b1 ⟨upd vars "number" (.v (.int n)), σ ++ Cell.list (vIts its) :: ν⟩ Q E := by
  have v1 := v.new (x := "number") (w := .v (.int n)) (by decide)
  refine seq_run (asnN v1 (EV.mod (EV.vr v1 0 rfl rfl) EV.int (by decide)) (by decide) fun vars2 v2 => ?_)
  have put : ∀ (it : Item) (f : Ex) ν', itemOf [c] n = [it] → EV f vars2 (σ ++ Cell.list (vIts its) :: ν') (.tup [.str it.txt, .bool it.neg, accV it]) → exprS (lm1 oAppend (var "items") f) ⟨vars2, σ ++ Cell.list (vIts its) :: ν'⟩ Q E := fun it f ν' hit e =>
    app_own (EV.vr v2 2 rfl rfl) e (by rw [vIts_len]; omega) (by
      have := go vars2 ν' v2.tl.tl
      rw [hit] at this
      rw [show (vIts its ++ [V.tup [.str it.txt, .bool it.neg, accV it]] : List V) = vIts (its ++ [it]) from (List.map_append (l₂ := [it])).symm]
      exact this)
  have es : ∀ σ', EV (var "sign") vars2 σ' (.str [c]) := fun σ' => EV.vr v2 4 rfl rfl
  have tk : ∀ σ' (k : Int), TV (tcmp (oEqNe false) (var "kind") (cint k)) vars2 σ' (decide (n % 9 = k)) := fun σ' k => TV.eqI (EV.vr v2 0 rfl rfl) EV.int
  refine ifS_runE (TE.in08 (EV.vr v2 0 rfl rfl)) (fun h ν' => ?_) (fun h0 ν' => ?_)
  · rw [app2]
    exact put ⟨[42], false, none⟩ _ _ (by unfold itemOf; rw [if_pos (of_decide_eq_true h)]) (EV.three EV.str EV.bool EV.none)
  rw [app2]
  have u := itemOf.eq_1 [c] n
  rw [if_neg (of_decide_eq_false h0)] at u
  refine ifS_run (tk _ 1) (fun h => put ⟨[63], true, some []⟩ _ _ (by rw [u, if_pos (of_decide_eq_true h)]) (EV.three EV.str EV.bool EV.str)) (fun h1 => ?_)
  rw [if_neg (of_decide_eq_false h1)] at u
  refine ifS_run (tk _ 2) (fun h => put ⟨[34], false, some [34]⟩ _ _ (by rw [u, if_pos (of_decide_eq_true h)]) (EV.three EV.str EV.bool EV.str)) (fun h2 => ?_)
  rw [if_neg (of_decide_eq_false h2)] at u
  refine ifS_run (tk _ 3) (fun h => put ⟨if ([c] = [42] ∨ [c] = [63] ∨ [c] = [91]) then [91] ++ [c] ++ [93] else [c], false, some [c]⟩ _ _ (by rw [u, if_pos (of_decide_eq_true h)]) (EV.three (EV.ifx (TV.inS (es _) EV.str) (fun hc => ?_) (fun hc => ?_)) EV.bool (es _))) (fun h3 => ?_)
  · rw [if_pos (by simpa using hc)]
    exact EV.app (EV.app EV.str (es _) (by show 2 ≤ 1000000; decide)) EV.str (by show 3 ≤ 1000000; decide)
  · rw [if_neg (by simpa using hc)]
    exact es _
  rw [if_neg (of_decide_eq_false h3)] at u
  refine ifS_run (tk _ 4) (fun h => put ⟨[91, 33] ++ [c] ++ [93], true, some [c]⟩ _ _ (by rw [u, if_pos (of_decide_eq_true h)]) (EV.three (EV.app (EV.app EV.str (es _) (by show 3 ≤ 1000000; decide)) EV.str (by show 4 ≤ 1000000; decide)) EV.bool (es _))) (fun h4 => ?_)
  rw [if_neg (of_decide_eq_false h4)] at u
  refine ifS_run (tk _ 5) (fun h => put ⟨[91, 33, 34, 93], true, some [34]⟩ _ _ (by rw [u, if_pos (of_decide_eq_true h)]) (EV.three EV.str EV.bool EV.str)) (fun h5 => ?_)
  rw [if_neg (of_decide_eq_false h5)] at u
  refine ifS_run (tk _ 6) (fun h => put ⟨[91] ++ [c] ++ [34, 93], false, some ([c] ++ [34])⟩ _ _ (by rw [u, if_pos (of_decide_eq_true h)]) (EV.three (EV.app (EV.app EV.str (es _) (by show 2 ≤ 1000000; decide)) EV.str (by show 4 ≤ 1000000; decide)) EV.bool (EV.app (es _) EV.str (by show 2 ≤ 1000000; decide)))) (fun h6 => ?_)
  rw [if_neg (of_decide_eq_false h6)] at u
  refine skipS ?_
  have := go vars2 (ν ++ ν') v2.tl.tl
  rw [u, List.append_nil] at this
  exact this
theorem items_loop {chk : Sto → Prop} (hchk : ∀ c ν, chk (σ ++ c :: ν)) {Q' : Fl → St → Prop} {R : List Item}
    (hq : ∀ vars' ν', Has vars' KI [.v (.lst σ.length), .v (.lst i), .v (.str [c])] → Q' .next ⟨vars', σ ++ Cell.list (vIts R) :: ν'⟩) (ns : List Int) :
    ∀ (its : List Item) (ν : Sto) (vars : Vars), its.length + ns.length ≤ 1000 → Has vars KI [.v (.lst σ.length), .v (.lst i), .v (.str [c])] → R = its ++ itemsL [c] ns → forC chk "number" f_law_items_b1 (vI ns) ⟨vars, σ ++ Cell.list (vIts its) :: ν⟩ Q' E := by
  induction ns with
  | nil =>
    intro its ν vars hl v hR
    rw [show itemsL [c] [] = [] from rfl, List.append_nil] at hR
    subst hR
    exact forC_nil (hchk _ _) (hq vars ν v)
  | cons n r ih =>
    intro its ν vars hl v hR
    simp only [List.length_cons] at hl
    refine forC_cons (hchk _ _) (items_turn (by omega) v fun vars' ν' v' => ?_)
    have hone : (itemOf [c] n).length ≤ 1 := by unfold itemOf; (repeat' split) <;> simp
    exact ih (its ++ itemOf [c] n) ν' vars' (by rw [List.length_append]; omega) v' (by rw [hR, List.append_assoc]; rfl)
end
theorem i_law_items {Vs : List V} {σ : Sto} {Q : V → Sto → Prop} {E : X → Sto → Prop} (h : p_law_items Vs σ Q E) : Vs.length = 2 ∧ f_law_items ⟨bindV ["numbers", "sign"] Vs, σ⟩ (fin1 Q) (fin2 E) := by
  obtain ⟨i, ns, c, rfl, hi, hl, hQ⟩ := h
  refine ⟨rfl, ?_⟩
  have v := Has.two (x := "numbers") (y := "sign") (a := .lst i) (b := .str [c]) (by decide)
  refine seq_run (asn_new v (by decide) fun vars1 v1 => ?_)
  refine seq_run (for_var (EV.vr v1 1 rfl rfl) (ext_get hi) ?_)
  exact items_loop (i := i) (c := c) (fun c ν => ext_get hi) (R := itemsL [c] ns) (fun vars' ν' w => ret_run (EV.vr w 0 rfl rfl) (hQ _ _ (Nat.le_refl _) (at_get _ _ _))) ns [] [] _ (by simp; omega) v1 rfl
theorem c_law_items : Contract 0 "_law_items" p_law_items := contract_of (d := r_law_items) (ps := ["numbers", "sign"]) (by kernel_rfl) sd_law_items (by decide +kernel) (fun pm code doc vs h => by obtain ⟨a, b, rfl⟩ := len2 h; rfl) fun _ _ _ _ => i_law_items
end
end Mine

namespace Mine
section
theorem slc_from {α : Type} (xs : List α) (k : Nat) (h : k ≤ xs.length) : slc xs (some (k : Int)) none = xs.drop k := by
  unfold slc
  simp only [Option.elim, clip_nat, Nat.min_eq_left h]
  rw [List.take_of_length_le (by simp)]
noncomputable abbrev r_sorted_list_difference : DefRec := recAt 15
noncomputable def f_sorted_list_difference_t1 : Tx := (tlit true)
noncomputable def f_sorted_list_difference_t2 : Tx := (tcmp (oEqNe false) (op2 oIdx (var "expected") (var "i")) (var "e"))
noncomputable def f_sorted_list_difference_b3 : Sx := (aug oIadd "i" (cint 1))
noncomputable def f_sorted_list_difference_t4 : Tx := (tcmp (oEqNe false) (op2 oIdx (var "actual") (var "j")) (var "a"))
noncomputable def f_sorted_list_difference_b5 : Sx := (aug oIadd "j" (cint 1))
noncomputable def f_sorted_list_difference_t6 : Tx := (tcmp (oEqNe false) (op2 oIdx (var "expected") (var "i")) (var "e"))
noncomputable def f_sorted_list_difference_b7 : Sx := (aug oIadd "i" (cint 1))
noncomputable def f_sorted_list_difference_t8 : Tx := (tcmp (oEqNe false) (op2 oIdx (var "actual") (var "j")) (var "a"))
noncomputable def f_sorted_list_difference_b9 : Sx := (aug oIadd "j" (cint 1))
noncomputable def f_sorted_list_difference_t10 : Tx := (tcmp (oEqNe false) (op2 (oIdxX .idxc) (var "actual") (var "j")) (var "a"))
noncomputable def f_sorted_list_difference_b11 : Sx := (aug oIadd "j" (cint 1))
noncomputable def f_sorted_list_difference_b12 : Sx := (tryX .idx (seq (asn "e" (op2 oIdx (var "expected") (var "i"))) (seq (asn "a" (op2 oIdx (var "actual") (var "j"))) (ifS (tcmp oLt (var "e") (var "a")) (seq (exprS (lm1 oAppend (var "missing") (var "e"))) (seq (aug oIadd "i" (cint 1)) (whileS f_sorted_list_difference_t2 f_sorted_list_difference_b3))) (ifS (tcmp oGt (var "e") (var "a")) (seq (exprS (lm1 oAppend (var "unexpected") (var "a"))) (seq (aug oIadd "j" (cint 1)) (whileS f_sorted_list_difference_t4 f_sorted_list_difference_b5))) (seq (aug oIadd "i" (cint 1)) (tryF (whileS f_sorted_list_difference_t6 f_sorted_list_difference_b7) (seq (aug oIadd "j" (cint 1)) (whileS f_sorted_list_difference_t8 f_sorted_list_difference_b9)) (seq (aug oIadd "j" (cint 1)) (whileS f_sorted_list_difference_t10 f_sorted_list_difference_b11)))))))) (seq (exprS (lm1 oExtend (var "missing") (slice (var "expected") (var "i") cnone))) (seq (exprS (lm1 oExtend (var "unexpected") (slice (var "actual") (var "j") cnone))) brk)))
noncomputable def f_sorted_list_difference : Sx := (seq (asn2 "i" "j" (cint 0)) (seq (asn "missing" (lst xnil)) (seq (asn "unexpected" (lst xnil)) (seq (whileS f_sorted_list_difference_t1 f_sorted_list_difference_b12) (retS (tup (xcons (var "missing") (xcons (var "unexpected") xnil))))))))
theorem f_sorted_list_difference_run (st : St) (Q : Fl → St → Prop) (E : X → St → Prop) : f_sorted_list_difference st Q E = (seq (asn2 "i" "j" (cint 0)) (seq (asn "missing" (lst xnil)) (seq (asn "unexpected" (lst xnil)) (seq (whileS f_sorted_list_difference_t1 f_sorted_list_difference_b12) (retS (tup (xcons (var "missing") (xcons (var "unexpected") xnil)))))))) st Q E := rfl
theorem sd_sorted_list_difference : SoundSs 0 .pl r_sorted_list_difference.scope r_sorted_list_difference.body f_sorted_list_difference := by
  refine ss_cons ?_ ?_
  refine s_asn2 ?_ (by decide +kernel) (by decide +kernel)
  exact s_int
  refine ss_cons ?_ ?_
  refine s_asn ?_ (by decide +kernel)
  refine s_lst ?_
  exact e_nil
  refine ss_cons ?_ ?_
  refine s_asn ?_ (by decide +kernel)
  refine s_lst ?_
  exact e_nil
  refine ss_cons ?_ ?_
  refine s_while ?_ ?_
  exact t_true
  refine ss_one ?_
  refine s_try (x₀ := .idx) (by decide) ?_ ?_ (by decide +kernel) b_IndexError
  refine ss_cons ?_ ?_
  refine s_asn ?_ (by decide +kernel)
  refine s_idx ?_ ?_
  exact s_var (by decide +kernel) (by decide +kernel)
  exact s_var (by decide +kernel) (by decide +kernel)
  refine ss_cons ?_ ?_
  refine s_asn ?_ (by decide +kernel)
  refine s_idx ?_ ?_
  exact s_var (by decide +kernel) (by decide +kernel)
  exact s_var (by decide +kernel) (by decide +kernel)
  refine ss_one ?_
  refine s_if ?_ ?_ ?_
  refine t_cmp o_lt ?_ ?_
  exact s_var (by decide +kernel) (by decide +kernel)
  exact s_var (by decide +kernel) (by decide +kernel)
  refine ss_cons ?_ ?_
  refine s_expr ?_
  refine s_append ?_ ?_
  exact s_var (by decide +kernel) (by decide +kernel)
  exact s_var (by decide +kernel) (by decide +kernel)
  refine ss_cons ?_ ?_
  refine s_aug o_iadd ?_ (by decide +kernel) (by decide +kernel)
  exact s_int
  refine ss_one ?_
  refine s_while ?_ ?_
  refine t_cmp o_eq ?_ ?_
  refine s_idx ?_ ?_
  exact s_var (by decide +kernel) (by decide +kernel)
  exact s_var (by decide +kernel) (by decide +kernel)
  exact s_var (by decide +kernel) (by decide +kernel)
  refine ss_one ?_
  refine s_aug o_iadd ?_ (by decide +kernel) (by decide +kernel)
  exact s_int
  refine ss_one ?_
  refine s_if ?_ ?_ ?_
  refine t_cmp o_gt ?_ ?_
  exact s_var (by decide +kernel) (by decide +kernel)
  exact s_var (by decide +kernel) (by decide +kernel)
  refine ss_cons ?_ ?_
  refine s_expr ?_
  refine s_append ?_ ?_
  exact s_var (by decide +kernel) (by decide +kernel)
  exact s_var (by decide +kernel) (by decide +kernel)
  refine ss_cons ?_ ?_
  refine s_aug o_iadd ?_ (by decide +kernel) (by decide +kernel)
  exact s_int
  refine ss_one ?_
  refine s_while ?_ ?_
  refine t_cmp o_eq ?_ ?_
  refine s_idx ?_ ?_
  exact s_var (by decide +kernel) (by decide +kernel)
  exact s_var (by decide +kernel) (by decide +kernel)
  exact s_var (by decide +kernel) (by decide +kernel)
  refine ss_one ?_
  refine s_aug o_iadd ?_ (by decide +kernel) (by decide +kernel)
  exact s_int
  refine ss_cons ?_ ?_
  refine s_aug o_iadd ?_ (by decide +kernel) (by decide +kernel)
  exact s_int
  refine ss_one ?_
  refine s_fin ?_ ?_ ?_
  refine ss_one ?_
  refine s_while ?_ ?_
  refine t_cmp o_eq ?_ ?_
  refine s_idx ?_ ?_
  exact s_var (by decide +kernel) (by decide +kernel)
  exact s_var (by decide +kernel) (by decide +kernel)
  exact s_var (by decide +kernel) (by decide +kernel)
  refine ss_one ?_
  refine s_aug o_iadd ?_ (by decide +kernel) (by decide +kernel)
  exact s_int
  refine ss_cons ?_ ?_
  refine s_aug o_iadd ?_ (by decide +kernel) (by decide +kernel)
  exact s_int
  refine ss_one ?_
  refine s_while ?_ ?_
  refine t_cmp o_eq ?_ ?_
  refine s_idx ?_ ?_
  exact s_var (by decide +kernel) (by decide +kernel)
  exact s_var (by decide +kernel) (by decide +kernel)
  exact s_var (by decide +kernel) (by decide +kernel)
  refine ss_one ?_
  refine s_aug o_iadd ?_ (by decide +kernel) (by decide +kernel)
  exact s_int
  refine ss_cons ?_ ?_
  refine s_aug o_iadd ?_ (by decide +kernel) (by decide +kernel)
  exact s_int
  refine ss_one ?_
  refine s_while ?_ ?_
  refine t_cmp o_eq ?_ ?_
  refine s_idx ?_ ?_
  exact s_var (by decide +kernel) (by decide +kernel)
  exact s_var (by decide +kernel) (by decide +kernel)
  exact s_var (by decide +kernel) (by decide +kernel)
  refine ss_one ?_
  refine s_aug o_iadd ?_ (by decide +kernel) (by decide +kernel)
  exact s_int
  refine ss_cons ?_ ?_
  refine s_expr ?_
  refine s_extend ?_ ?_
  exact s_var (by decide +kernel) (by decide +kernel)
  refine s_slice ?_ ?_ ?_
  exact s_var (by decide +kernel) (by decide +kernel)
  refine p_some ?_
  exact s_var (by decide +kernel) (by decide +kernel)
  exact p_none
  refine ss_cons ?_ ?_
  refine s_expr ?_
  refine s_extend ?_ ?_
  exact s_var (by decide +kernel) (by decide +kernel)
  refine s_slice ?_ ?_ ?_
  exact s_var (by decide +kernel) (by decide +kernel)
  refine p_some ?_
  exact s_var (by decide +kernel) (by decide +kernel)
  exact p_none
  refine ss_one ?_
  exact s_brk
  refine ss_one ?_
  refine s_ret ?_
  refine s_tup ?_
  refine e_cons ?_ ?_
  exact s_var (by decide +kernel) (by decide +kernel)
  refine e_cons ?_ ?_
  exact s_var (by decide +kernel) (by decide +kernel)
  exact e_nil
noncomputable def sldL : Nat → List S → List S → List S → List S → List S × List S
  | 0, xs, ys, m, u => (m ++ xs, u ++ ys)
  | n + 1, [], ys, m, u => (m ++ [], u ++ ys)
  | n + 1, x :: xs, [], m, u => (m ++ x :: xs, u ++ [])
  | n + 1, x :: xs, y :: ys, m, u =>
    if x < y then sldL n (xs.dropWhile fun z => decide (z = x)) (y :: ys) (m ++ [x]) u
    else if y < x then sldL n (x :: xs) (ys.dropWhile fun z => decide (z = y)) m (u ++ [y])
    else sldL n (xs.dropWhile fun z => decide (z = x)) (ys.dropWhile fun z => decide (z = y)) m u
theorem sldL_nil (n : Nat) (ys m u) : sldL n [] ys m u = (m, u ++ ys) := by cases n <;> simp [sldL]
theorem sldL_nil2 (n : Nat) (xs m u) : sldL n xs [] m u = (m ++ xs, u) := by cases n <;> cases xs <;> simp [sldL]
noncomputable def sld (xs ys : List S) : List S × List S := sldL (xs.length + ys.length) xs ys [] []
structure DV (vars : Vars) (l m i j s : Nat) : Prop where
  v1 : vars "expected" = some (.v (.lst l))
  v2 : vars "actual" = some (.v (.lst m))
  v3 : vars "i" = some (.v (.int i))
  v4 : vars "j" = some (.v (.int j))
  v5 : vars "missing" = some (.v (.lst s))
  v6 : vars "unexpected" = some (.v (.lst (s + 1)))
theorem updN {vars : Vars} {x y : String} {w : Wv} (h : y ≠ x) : upd vars x w y = vars y := if_neg h
theorem updE {vars : Vars} {x : String} {w : Wv} : upd vars x w x = some w := if_pos rfl
theorem DV.but {vars vars' l m i j s} (v : DV vars l m i j s) (h : ∀ y, y ≠ "e" → y ≠ "a" → vars' y = vars y) : DV vars' l m i j s :=
  ⟨(h _ (by decide) (by decide)).trans v.v1, (h _ (by decide) (by decide)).trans v.v2, (h _ (by decide) (by decide)).trans v.v3, (h _ (by decide) (by decide)).trans v.v4, (h _ (by decide) (by decide)).trans v.v5, (h _ (by decide) (by decide)).trans v.v6⟩
theorem DV.setI {vars vars' l m i j s} {i' : Nat} (v : DV vars l m i j s) (h : ∀ y, y ≠ "i" → vars' y = vars y) (e : vars' "i" = some (.v (.int i'))) : DV vars' l m i' j s :=
  ⟨(h _ (by decide)).trans v.v1, (h _ (by decide)).trans v.v2, e, (h _ (by decide)).trans v.v4, (h _ (by decide)).trans v.v5, (h _ (by decide)).trans v.v6⟩
theorem DV.setJ {vars vars' l m i j s} {j' : Nat} (v : DV vars l m i j s) (h : ∀ y, y ≠ "j" → vars' y = vars y) (e : vars' "j" = some (.v (.int j'))) : DV vars' l m i j' s :=
  ⟨(h _ (by decide)).trans v.v1, (h _ (by decide)).trans v.v2, (h _ (by decide)).trans v.v3, e, (h _ (by decide)).trans v.v5, (h _ (by decide)).trans v.v6⟩
theorem aug1 {x : String} {vars : Vars} {σ : Sto} {k : Nat} (h : vars x = some (.v (.int k))) {Q : Fl → St → Prop} {E} (q : Q .next ⟨upd vars x (.v (.int (k + 1 : Nat))), σ⟩) : aug oIadd x (cint 1) ⟨vars, σ⟩ Q E := ⟨_, h, q⟩
theorem idx_out {ex : X} {f g : Ex} {vars : Vars} {σ : Sto} {l : Nat} {vs : List V} {i : Nat} (h : EV f vars σ (.lst l)) (k : EV g vars σ (.int i)) (hl : σ[l]? = some (.list vs)) (hi : i < 1000000) (hc : vs.length ≤ i) {Q : V → Sto → Prop} {E : X → Sto → Prop} (q : E ex σ) : op2 (oIdxX ex) f g vars σ Q E :=
  h _ _ (k _ _ ⟨nat_pos9 hi, vs, hl, by rw [atI_nat, List.getElem?_eq_none_iff.mpr hc]; exact q⟩)
theorem skip_loop {L I Ev : String} (hLI : L ≠ I) (hEI : Ev ≠ I) {ex : X} {l : Nat} {xs : List S} {σ : Sto} {x : S} (hx : xs.length ≤ 1000) (hc : σ[l]? = some (.list (vS xs))) {E : X → St → Prop} {Q' : Fl → St → Prop} (n : Nat) :
    ∀ (i : Nat) (rest : List S) (vars : Vars), rest.length < n → xs.drop i = rest → i ≤ xs.length →
      vars L = some (.v (.lst l)) → vars I = some (.v (.int i)) → vars Ev = some (.v (.str x)) →
      (∀ vars' i', (∀ y, y ≠ I → vars' y = vars y) → vars' I = some (.v (.int (i' : Nat))) → i' ≤ xs.length → xs.drop i' = rest.dropWhile (fun z => decide (z = x)) → Q' .next ⟨vars', σ⟩) →
      (∀ vars', (∀ y, y ≠ I → vars' y = vars y) → vars' I = some (.v (.int xs.length)) → rest.dropWhile (fun z => decide (z = x)) = [] → E ex ⟨vars', σ⟩) →
      loopN (tcmp (oEqNe false) (op2 (oIdxX ex) (var L) (var I)) (var Ev)) (aug oIadd I (cint 1)) n ⟨vars, σ⟩ Q' E := by
  induction n with
  | zero => intro _ rest _ h; exact absurd h (Nat.not_lt_zero _)
  | succ n ih =>
    intro i rest vars hn hd hi h1 h2 h3 hq he
    have eL : EV (var L) vars σ (.lst l) := EV.var h1
    have eI : EV (var I) vars σ (.int i) := EV.var h2
    cases rest with
    | nil =>
      have hlen : xs.length = i := by have := congrArg List.length hd; simp at this; omega
      refine idx_out eL eI hc (by omega) (by rw [vS_len]; omega) ?_
      exact he vars (fun _ _ => rfl) (by rw [hlen]; exact h2) rfl
    | cons z r =>
      obtain ⟨hd', hi'⟩ := drop_next hd
      refine TV.eqS (EV.idxX eL eI hc (by omega) hd) (EV.var h3) _ _ ?_
      by_cases hzx : z = x
      · have ed : (z :: r).dropWhile (fun z => decide (z = x)) = r.dropWhile (fun z => decide (z = x)) := List.dropWhile_cons_of_pos (decide_eq_true hzx)
        rw [ed] at hq he
        rw [decide_eq_true hzx, if_pos rfl]
        refine aug1 h2 ?_
        exact ih (i + 1) r _ (Nat.lt_of_succ_lt_succ hn) hd' hi' ((updN hLI).trans h1) updE ((updN hEI).trans h3) (fun vars' i' w => hq vars' i' fun y hy => (w y hy).trans (updN hy)) (fun vars' w => he vars' fun y hy => (w y hy).trans (updN hy))
      · have ed : (z :: r).dropWhile (fun z => decide (z = x)) = z :: r := List.dropWhile_cons_of_neg (by rw [decide_eq_false hzx]; decide)
        rw [ed] at hq
        rw [decide_eq_false hzx, if_neg (by decide)]
        exact hq vars i (fun _ _ => rfl) h2 hi hd
theorem dropWhile_len {α : Type} (p : α → Bool) (l : List α) : (l.dropWhile p).length ≤ l.length := (List.dropWhile_sublist p).length_le
noncomputable def sldHand : Sx := (seq (exprS (lm1 oExtend (var "missing") (slice (var "expected") (var "i") cnone))) (seq (exprS (lm1 oExtend (var "unexpected") (slice (var "actual") (var "j") cnone))) brk))
noncomputable def sldBody : Sx := (seq (asn "e" (op2 oIdx (var "expected") (var "i"))) (seq (asn "a" (op2 oIdx (var "actual") (var "j"))) (ifS (tcmp oLt (var "e") (var "a")) (seq (exprS (lm1 oAppend (var "missing") (var "e"))) (seq (aug oIadd "i" (cint 1)) (whileS f_sorted_list_difference_t2 f_sorted_list_difference_b3))) (ifS (tcmp oGt (var "e") (var "a")) (seq (exprS (lm1 oAppend (var "unexpected") (var "a"))) (seq (aug oIadd "j" (cint 1)) (whileS f_sorted_list_difference_t4 f_sorted_list_difference_b5))) (seq (aug oIadd "i" (cint 1)) (tryF (whileS f_sorted_list_difference_t6 f_sorted_list_difference_b7) (seq (aug oIadd "j" (cint 1)) (whileS f_sorted_list_difference_t8 f_sorted_list_difference_b9)) (seq (aug oIadd "j" (cint 1)) (whileS f_sorted_list_difference_t10 f_sorted_list_difference_b11))))))))
theorem sld_b12 : f_sorted_list_difference_b12 = tryX .idx sldBody sldHand := rfl
theorem ext_tail {x L I : String} {σ : Sto} {a l i : Nat} {vs : List V} {xs : List S} {vars : Vars} (ha : vars x = some (.v (.lst a))) (h1 : vars L = some (.v (.lst l))) (h2 : vars I = some (.v (.int i))) (hv : σ[a]? = some (.list vs)) (hl : σ[l]? = some (.list (vS xs))) (hx : xs.length ≤ 1000) (hi : i ≤ xs.length) (hz : vs.length ≤ 3000)
    {Q : Fl → St → Prop} {E} (q : Q .next ⟨vars, (σ ++ [Cell.list (vS (xs.drop i))]).set a (.list (vs ++ vS (xs.drop i)))⟩) : exprS (lm1 oExtend (var x) (slice (var L) (var I) cnone)) ⟨vars, σ⟩ Q E := by
  have z : lim = 1000000 := rfl
  have e : slc (vS xs) (some (i : Int)) none = vS (xs.drop i) := by rw [slc_from _ _ (by rw [vS_len]; exact hi)]; simp [vS, List.map_drop]
  refine ⟨_, ha, is_lst hv, _, h1, _, h2, ?_⟩
  refine ⟨_, _, rfl, rfl, _, hl, by rw [vS_len]; omega, ?_⟩
  rw [e]
  exact ⟨_, _, ext_get hv, new_get _ _, by rw [vS_len, List.length_drop]; omega, q⟩
theorem hand_ok {σ : Sto} {l m : Nat} {xs ys : List S} (hl : σ[l]? = some (.list (vS xs))) (hm : σ[m]? = some (.list (vS ys))) (hx : xs.length ≤ 1000) (hy : ys.length ≤ 1000) {Q' : Fl → St → Prop} {E : X → St → Prop} {i j : Nat} {miss unex : List S} {ν : Sto} {vars : Vars} (hi : i ≤ xs.length) (hj : j ≤ ys.length) (hml : miss.length ≤ 3000) (hul : unex.length ≤ 3000)
    (v : DV vars l m i j σ.length) (hq : ∀ ν', Q' .brk ⟨vars, σ ++ .list (vS (miss ++ xs.drop i)) :: .list (vS (unex ++ ys.drop j)) :: ν'⟩) : sldHand ⟨vars, σ ++ .list (vS miss) :: .list (vS unex) :: ν⟩ Q' E := by
  unfold sldHand
  refine seq_run (ext_tail v.v5 v.v1 v.v3 (at_get _ _ _) (ext_get hl) hx hi (by rw [vS_len]; exact hml) ?_)
  rw [app2, at_set]
  refine seq_run ?_
  refine ext_tail v.v6 v.v2 v.v4 (at_get1 _ _ _ _) (ext_get hm) hy hj (by rw [vS_len]; exact hul) ?_
  rw [app2, List.cons_append, at_set1, ← vS_app, ← vS_app]
  exact hq _
theorem skipI {ex : X} {l m i j s : Nat} {xs : List S} {σ : Sto} {x : S} {vars : Vars} (v : DV vars l m i j s) (he : vars "e" = some (.v (.str x))) (hx : xs.length ≤ 1000) (hc : σ[l]? = some (.list (vS xs))) {xr : List S} (hd : xs.drop i = x :: xr) {E : X → St → Prop} {Q' : Fl → St → Prop}
    (hq : ∀ vars' i', DV vars' l m i' j s → vars' "a" = vars "a" → i' ≤ xs.length → xs.drop i' = xr.dropWhile (fun z => decide (z = x)) → Q' .next ⟨vars', σ⟩)
    (hE : ∀ vars', DV vars' l m xs.length j s → vars' "a" = vars "a" → xr.dropWhile (fun z => decide (z = x)) = [] → E ex ⟨vars', σ⟩) :
    whileS (tcmp (oEqNe false) (op2 (oIdxX ex) (var "expected") (var "i")) (var "e")) (aug oIadd "i" (cint 1)) ⟨upd vars "i" (.v (.int (i + 1 : Nat))), σ⟩ Q' E := by
  obtain ⟨hd', hi'⟩ := drop_next hd
  refine ⟨xr.length + 1, ?_⟩
  have w := v.setI (vars' := upd vars "i" (.v (.int (i + 1 : Nat)))) (fun y hy => updN hy) updE
  refine skip_loop (by decide) (by decide) hx hc _ (i + 1) xr _ (Nat.lt_succ_self _) hd' hi' w.v1 w.v3 ((updN (by decide)).trans he) (fun vars' i' k1 k2 k3 k4 => ?_) (fun vars' k1 k2 k3 => ?_)
  · exact hq vars' i' (w.setI k1 k2) ((k1 _ (by decide)).trans (updN (by decide))) k3 k4
  · exact hE vars' (w.setI k1 k2) ((k1 _ (by decide)).trans (updN (by decide))) k3
theorem skipJ {ex : X} {l m i j s : Nat} {ys : List S} {σ : Sto} {y : S} {vars : Vars} (v : DV vars l m i j s) (he : vars "a" = some (.v (.str y))) (hy : ys.length ≤ 1000) (hc : σ[m]? = some (.list (vS ys))) {yr : List S} (hd : ys.drop j = y :: yr) {E : X → St → Prop} {Q' : Fl → St → Prop}
    (hq : ∀ vars' j', DV vars' l m i j' s → j' ≤ ys.length → ys.drop j' = yr.dropWhile (fun z => decide (z = y)) → Q' .next ⟨vars', σ⟩)
    (hE : ∀ vars', DV vars' l m i ys.length s → yr.dropWhile (fun z => decide (z = y)) = [] → E ex ⟨vars', σ⟩) :
    whileS (tcmp (oEqNe false) (op2 (oIdxX ex) (var "actual") (var "j")) (var "a")) (aug oIadd "j" (cint 1)) ⟨upd vars "j" (.v (.int (j + 1 : Nat))), σ⟩ Q' E := by
  obtain ⟨hd', hi'⟩ := drop_next hd
  refine ⟨yr.length + 1, ?_⟩
  have w := v.setJ (vars' := upd vars "j" (.v (.int (j + 1 : Nat)))) (fun y hy => updN hy) updE
  refine skip_loop (by decide) (by decide) hy hc _ (j + 1) yr _ (Nat.lt_succ_self _) hd' hi' w.v2 w.v4 ((updN (by decide)).trans he) (fun vars' i' k1 k2 k3 k4 => ?_) (fun vars' k1 k2 k3 => ?_)
  · exact hq vars' i' (w.setJ k1 k2) k3 k4
  · exact hE vars' (w.setJ k1 k2) k3
structure SldK (σ : Sto) (l m : Nat) (xs ys : List S) (n : Nat) (R : List S × List S) (N : St → Prop) (B : St → Prop) : Prop where
  go : ∀ i j miss unex ν vars k, n = k + 1 → DV vars l m i j σ.length → i ≤ xs.length → j ≤ ys.length → (xs.drop i).length + (ys.drop j).length ≤ k → miss.length + (xs.drop i).length ≤ 2000 → unex.length + (ys.drop j).length ≤ 2000 →
    R = sldL k (xs.drop i) (ys.drop j) miss unex → N ⟨vars, σ ++ .list (vS miss) :: .list (vS unex) :: ν⟩
  out : ∀ i j miss unex ν vars, DV vars l m i j σ.length → i ≤ xs.length → j ≤ ys.length → miss.length ≤ 3000 → unex.length ≤ 3000 → R = (miss ++ xs.drop i, unex ++ ys.drop j) → B ⟨vars, σ ++ .list (vS miss) :: .list (vS unex) :: ν⟩
theorem TV.ltS {f g : Ex} {vars σ} {a b : S} (h : EV f vars σ (.str a)) (k : EV g vars σ (.str b)) : TV (tcmp oLt f g) vars σ (decide (a < b)) := fun Q E q => h _ _ (k _ _ ⟨_, rfl, q⟩)
theorem TV.gtS {f g : Ex} {vars σ} {a b : S} (h : EV f vars σ (.str a)) (k : EV g vars σ (.str b)) : TV (tcmp oGt f g) vars σ (decide (b < a)) := fun Q E q => h _ _ (k _ _ ⟨_, rfl, q⟩)
theorem sld_turn {σ : Sto} {l m : Nat} {xs ys : List S} (hl : σ[l]? = some (.list (vS xs))) (hm : σ[m]? = some (.list (vS ys))) (hx : xs.length ≤ 1000) (hy : ys.length ≤ 1000) {n i j : Nat} {miss unex : List S} {ν : Sto} {vars : Vars} {Q : Fl → St → Prop} {E : X → St → Prop}
    (v : DV vars l m i j σ.length) (hi : i ≤ xs.length) (hj : j ≤ ys.length) (hn : (xs.drop i).length + (ys.drop j).length ≤ n) (hml : miss.length + (xs.drop i).length ≤ 2000) (hul : unex.length + (ys.drop j).length ≤ 2000)
    (K : SldK σ l m xs ys n (sldL n (xs.drop i) (ys.drop j) miss unex) (Q .next) (fun st => E .idx st ∧ E .idxc st)) : sldBody ⟨vars, σ ++ .list (vS miss) :: .list (vS unex) :: ν⟩ Q E := by
  have z : lim = 1000000 := rfl
  have gl := ext_get (ν := .list (vS miss) :: .list (vS unex) :: ν) hl
  have gm := ext_get (ν := .list (vS miss) :: .list (vS unex) :: ν) hm
  generalize hxr : xs.drop i = xr at hn hml K
  generalize hyr : ys.drop j = yr at hn hul K
  cases xr with
  | nil =>
    refine idx_out (EV.var v.v1) (EV.var v.v3) gl (by omega) (by rw [vS_len]; exact List.drop_eq_nil_iff.mp hxr) ?_
    exact (K.out i j miss unex ν vars v hi hj (by omega) (by omega) (by rw [sldL_nil, hxr, hyr, List.append_nil])).1
  | cons x xt =>
  refine EV.idxX (EV.var v.v1) (EV.var v.v3) gl (by omega) hxr _ _ ?_
  have v1 := v.but (vars' := upd vars "e" (.v (.str x))) fun y h _ => updN h
  cases yr with
  | nil =>
    refine idx_out (EV.var v1.v2) (EV.var v1.v4) gm (by omega) (by rw [vS_len]; exact List.drop_eq_nil_iff.mp hyr) ?_
    exact (K.out i j miss unex ν _ v1 hi hj (by omega) (by omega) (by rw [sldL_nil2, hxr, hyr, List.append_nil])).1
  | cons y yt =>
  refine EV.idxX (EV.var v1.v2) (EV.var v1.v4) gm (by omega) hyr _ _ ?_
  have v2 := v1.but (vars' := upd (upd vars "e" (.v (.str x))) "a" (.v (.str y))) fun y _ h => updN h
  have ve : upd (upd vars "e" (.v (.str x))) "a" (.v (.str y)) "e" = some (.v (.str x)) := (updN (by decide)).trans updE
  have va : upd (upd vars "e" (.v (.str x))) "a" (.v (.str y)) "a" = some (.v (.str y)) := updE
  generalize upd (upd vars "e" (.v (.str x))) "a" (.v (.str y)) = vars2 at v2 ve va
  simp only [List.length_cons] at hn hml hul
  obtain ⟨n, rfl⟩ : ∃ k, n = k + 1 := ⟨n - 1, by omega⟩
  have dx := dropWhile_len (fun z => decide (z = x)) xt
  have dy := dropWhile_len (fun z => decide (z = y)) yt
  have dz : ∀ zs : List S, zs.drop zs.length = [] := fun zs => List.drop_length
  obtain ⟨go, out⟩ := K
  have eR : sldL (n + 1) (x :: xt) (y :: yt) miss unex = if x < y then sldL n (xt.dropWhile fun z => decide (z = x)) (y :: yt) (miss ++ [x]) unex
    else if y < x then sldL n (x :: xt) (yt.dropWhile fun z => decide (z = y)) miss (unex ++ [y])
    else sldL n (xt.dropWhile fun z => decide (z = x)) (yt.dropWhile fun z => decide (z = y)) miss unex := rfl
  rw [eR] at go out
  by_cases hxy : x < y
  · rw [if_pos hxy] at go out
    refine ifS_true ((TV.ltS (EV.var ve) (EV.var va)).to (decide_eq_true hxy)) ?_
    refine ⟨_, v2.v5, is_at, _, ve, app_str (by omega) ?_⟩
    refine aug1 v2.v3 ?_
    refine skipI v2 ve hx (ext_get hl) hxr (fun vars' i' w1 w2 w3 w4 => go _ _ _ _ _ _ n rfl w1 w3 hj ?_ ?_ ?_ ?_) (fun vars' w1 w2 w3 => (out _ _ _ _ _ _ w1 (Nat.le_refl _) hj ?_ ?_ ?_).1)
    · rw [w4, hyr, List.length_cons]; omega
    · rw [w4, List.length_append, List.length_singleton]; omega
    · rw [hyr, List.length_cons]; omega
    · rw [w4, hyr]
    · rw [List.length_append, List.length_singleton]; omega
    · omega
    · rw [w3, sldL_nil, dz, hyr, List.append_nil]
  · rw [if_neg hxy] at go out
    refine ifS_false ((TV.ltS (EV.var ve) (EV.var va)).to (decide_eq_false hxy)) ?_
    by_cases hyx : y < x
    · rw [if_pos hyx] at go out
      refine ifS_true ((TV.gtS (EV.var ve) (EV.var va)).to (decide_eq_true hyx)) ?_
      refine ⟨_, v2.v6, is_lst (at_get1 _ _ _ _), _, va, vS unex, at_get1 _ _ _ _, by rw [vS_len]; omega, ?_⟩
      rw [at_set1, show (vS unex ++ [V.str y] : List V) = vS (unex ++ [y]) from (vS_app _ [y]).symm]
      refine aug1 v2.v4 ?_
      refine skipJ v2 va hy (ext_get hm) hyr (fun vars' j' w1 w3 w4 => go _ _ _ _ _ _ n rfl w1 hi w3 ?_ ?_ ?_ ?_) (fun vars' w1 w3 => (out _ _ _ _ _ _ w1 hi (Nat.le_refl _) ?_ ?_ ?_).1)
      · rw [w4, hxr, List.length_cons]; omega
      · rw [hxr, List.length_cons]; omega
      · rw [w4, List.length_append, List.length_singleton]; omega
      · rw [w4, hxr]
      · omega
      · rw [List.length_append, List.length_singleton]; omega
      · rw [w3, sldL_nil2, dz, hxr, List.append_nil]
    · rw [if_neg hyx] at go out
      refine ifS_false ((TV.gtS (EV.var ve) (EV.var va)).to (decide_eq_false hyx)) ?_
      refine aug1 v2.v3 ?_
      refine skipI (ex := .idx) v2 ve hx gl hxr (Q' := fun fl st => (seq (aug oIadd "j" (cint 1)) (whileS f_sorted_list_difference_t8 f_sorted_list_difference_b9)) st (fun fl' st' => fl' = .next ∧ Q fl st') E)
        (E := fun x st => x ≠ .idxc ∧ (seq (aug oIadd "j" (cint 1)) (whileS f_sorted_list_difference_t10 f_sorted_list_difference_b11)) st (fun fl' st' => fl' = .next ∧ E x st') E) (fun vars' i' w1 w2 w3 w4 => ?_) (fun vars' w1 w2 w3 => ⟨by decide, ?_⟩)
      · refine aug1 w1.v4 ?_
        refine skipJ (ex := .idx) w1 (w2.trans va) hy gm hyr (fun vars3 j' u1 u3 u4 => ⟨rfl, go _ _ _ _ _ _ n rfl u1 w3 u3 ?_ ?_ ?_ ?_⟩) (fun vars3 u1 u3 => (out _ _ _ _ _ _ u1 w3 (Nat.le_refl _) ?_ ?_ ?_).1)
        · rw [w4, u4]; omega
        · rw [w4]; omega
        · rw [u4]; omega
        · rw [w4, u4]
        · omega
        · omega
        · rw [u3, sldL_nil2, dz, w4, List.append_nil]
      · refine aug1 w1.v4 ?_
        refine skipJ (ex := .idxc) w1 (w2.trans va) hy gm hyr (fun vars3 j' u1 u3 u4 => ⟨rfl, (out _ _ _ _ _ _ u1 (Nat.le_refl _) u3 ?_ ?_ ?_).1⟩) (fun vars3 u1 u3 => (out _ _ _ _ _ _ u1 (Nat.le_refl _) (Nat.le_refl _) ?_ ?_ ?_).2)
        · omega
        · omega
        · rw [w3, sldL_nil, dz, u4, List.append_nil]
        · omega
        · omega
        · rw [w3, u3, sldL_nil, dz, dz, List.append_nil, List.append_nil]
theorem sld_loop {σ : Sto} {l m : Nat} {xs ys : List S} (hl : σ[l]? = some (.list (vS xs))) (hm : σ[m]? = some (.list (vS ys))) (hx : xs.length ≤ 1000) (hy : ys.length ≤ 1000) {E : X → St → Prop} {Q' : Fl → St → Prop} {R : List S × List S}
    (hq : ∀ vars' ν', vars' "missing" = some (.v (.lst σ.length)) → vars' "unexpected" = some (.v (.lst (σ.length + 1))) → Q' .next ⟨vars', σ ++ .list (vS R.1) :: .list (vS R.2) :: ν'⟩) (n : Nat) :
    ∀ (i j : Nat) (miss unex : List S) (ν : Sto) (vars : Vars), DV vars l m i j σ.length → i ≤ xs.length → j ≤ ys.length → (xs.drop i).length + (ys.drop j).length ≤ n → miss.length + (xs.drop i).length ≤ 2000 → unex.length + (ys.drop j).length ≤ 2000 → R = sldL n (xs.drop i) (ys.drop j) miss unex →
      loopN f_sorted_list_difference_t1 (tryX .idx sldBody sldHand) (n + 1) ⟨vars, σ ++ .list (vS miss) :: .list (vS unex) :: ν⟩ Q' E := by
  have out : ∀ (ex : X) n, catches .idx ex → ∀ i j miss unex ν vars, DV vars l m i j σ.length → i ≤ xs.length → j ≤ ys.length → miss.length ≤ 3000 → unex.length ≤ 3000 → R = (miss ++ xs.drop i, unex ++ ys.drop j) →
      (catches .idx ex ∧ sldHand ⟨vars, σ ++ .list (vS miss) :: .list (vS unex) :: ν⟩ (fun fl st' => match fl with
          | .next => loopN f_sorted_list_difference_t1 (tryX .idx sldBody sldHand) n st' Q' E
          | .cont => loopN f_sorted_list_difference_t1 (tryX .idx sldBody sldHand) n st' Q' E
          | .brk => Q' .next st'
          | .ret v => Q' (.ret v) st') (fun _ _ => False)) := by
    intro ex n hc i j miss unex ν vars v hi hj h1 h2 hr
    refine ⟨hc, hand_ok hl hm hx hy hi hj h1 h2 v fun ν2 => ?_⟩
    have := hq vars ν2 v.v5 v.v6
    rw [hr] at this
    exact this
  induction n with
  | zero =>
    intro i j miss unex ν vars v hi hj hn h1 h2 hr
    refine sld_turn (n := 0) hl hm hx hy v hi hj hn h1 h2 ⟨fun _ _ _ _ _ _ k hk => absurd hk (by omega), fun i j miss unex ν vars v hi hj h1 h2 h3 => ⟨out .idx 0 (.inl rfl) i j miss unex ν vars v hi hj h1 h2 (hr.trans h3), out .idxc 0 (.inr ⟨rfl, rfl⟩) i j miss unex ν vars v hi hj h1 h2 (hr.trans h3)⟩⟩
  | succ n ih =>
    intro i j miss unex ν vars v hi hj hn h1 h2 hr
    refine sld_turn (n := n + 1) hl hm hx hy v hi hj hn h1 h2 ⟨fun i j miss unex ν vars k hk v hi hj a b c e => ?_, fun i j miss unex ν vars v hi hj h1 h2 h3 => ⟨out .idx _ (.inl rfl) i j miss unex ν vars v hi hj h1 h2 (hr.trans h3), out .idxc _ (.inr ⟨rfl, rfl⟩) i j miss unex ν vars v hi hj h1 h2 (hr.trans h3)⟩⟩
    obtain rfl : n = k := Nat.succ.inj hk
    exact ih i j miss unex ν vars v hi hj a b c (hr.trans e)
noncomputable def p_sorted_list_difference : Spec' := fun Vs σ Q E => ∃ l m xs ys, Vs = [.lst l, .lst m] ∧ σ[l]? = some (.list (vS xs)) ∧ σ[m]? = some (.list (vS ys)) ∧ xs.length ≤ 1000 ∧ ys.length ≤ 1000 ∧
  ∀ ν a b, (σ ++ ν)[a]? = some (.list (vS (sld xs ys).1)) → (σ ++ ν)[b]? = some (.list (vS (sld xs ys).2)) → Q (.tup [.lst a, .lst b]) (σ ++ ν)
theorem i_sorted_list_difference {Vs : List V} {σ : Sto} {Q : V → Sto → Prop} {E : X → Sto → Prop} (h : p_sorted_list_difference Vs σ Q E) : Vs.length = 2 ∧ f_sorted_list_difference ⟨bindV ["expected", "actual"] Vs, σ⟩ (fin1 Q) (fin2 E) := by
  obtain ⟨l, m, xs, ys, rfl, hl, hm, hx, hy, hQ⟩ := h
  refine ⟨rfl, ?_⟩
  have z : lim = 1000000 := rfl
  have b1 : bindV ["expected", "actual"] [V.lst l, V.lst m] "expected" = some (.v (.lst l)) := rfl
  have b2 : bindV ["expected", "actual"] [V.lst l, V.lst m] "actual" = some (.v (.lst m)) := rfl
  simp only [f_sorted_list_difference_run, seq, asn, asn2, retS, var, cint, lst, tup, xnil, xcons, b1, b2, sld_b12, whileS]
  refine ⟨by decide, by decide, xs.length + ys.length + 1, ?_⟩
  rw [show ∀ a b : Cell, σ ++ [a] ++ [b] = σ ++ a :: b :: [] by intro a b; simp, show ∀ a : Cell, (σ ++ [a]).length = σ.length + 1 by intro a; simp]
  refine sld_loop hl hm hx hy (R := sld xs ys) (fun vars' ν' w1 w2 => ?_) (xs.length + ys.length) 0 0 [] [] [] _ ⟨by simp [upd, b1], by simp [upd, b2], by simp [upd], by simp [upd], by simp [upd], by simp [upd]⟩ (by omega) (by omega) (by simp) (by simp; omega) (by simp; omega) rfl
  simp only [Option.some.injEq, Wv.v.injEq, exists_eq_left', w1, w2]
  exact ⟨by show 2 ≤ 1000000; decide, hQ _ _ _ (at_get _ _ _) (at_get1 _ _ _ _)⟩
theorem c_sorted_list_difference : Contract 0 "sorted_list_difference" p_sorted_list_difference := contract_of (d := r_sorted_list_difference) (ps := ["expected", "actual"]) (by kernel_rfl) sd_sorted_list_difference (by decide +kernel) (fun pm code doc vs h => by obtain ⟨a, b, rfl⟩ := len2 h; rfl) fun _ _ _ _ => i_sorted_list_difference
noncomputable abbrev r_unorderable_list_difference : DefRec := recAt 16
noncomputable def f_unorderable_list_difference_t1 : Tx := (tval (var "expected"))
theorem f_unorderable_list_difference_t1_run (vs : Vars) (σ : Sto) (Q : Bool → Sto → Prop) (E : X → Sto → Prop) : f_unorderable_list_difference_t1 vs σ Q E = (tval (var "expected")) vs σ Q E := rfl
noncomputable def f_unorderable_list_difference_b2 : Sx := (seq (asn "item" (lm0 oPop (var "expected"))) (tryX .val (exprS (lm1 oRemove (var "actual") (var "item"))) (exprS (lm1 oAppend (var "missing") (var "item")))))
theorem f_unorderable_list_difference_b2_run (st : St) (Q : Fl → St → Prop) (E : X → St → Prop) : f_unorderable_list_difference_b2 st Q E = (seq (asn "item" (lm0 oPop (var "expected"))) (tryX .val (exprS (lm1 oRemove (var "actual") (var "item"))) (exprS (lm1 oAppend (var "missing") (var "item"))))) st Q E := rfl
noncomputable def f_unorderable_list_difference : Sx := (seq (asn "missing" (lst xnil)) (seq (whileS f_unorderable_list_difference_t1 f_unorderable_list_difference_b2) (retS (tup (xcons (var "missing") (xcons (var "actual") xnil))))))
theorem f_unorderable_list_difference_run (st : St) (Q : Fl → St → Prop) (E : X → St → Prop) : f_unorderable_list_difference st Q E = (seq (asn "missing" (lst xnil)) (seq (whileS f_unorderable_list_difference_t1 f_unorderable_list_difference_b2) (retS (tup (xcons (var "missing") (xcons (var "actual") xnil)))))) st Q E := rfl
theorem sd_unorderable_list_difference : SoundSs 0 .pl r_unorderable_list_difference.scope r_unorderable_list_difference.body f_unorderable_list_difference := by
  refine ss_cons ?_ ?_
  refine s_asn ?_ (by decide +kernel)
  refine s_lst ?_
  exact e_nil
  refine ss_cons ?_ ?_
  refine s_while ?_ ?_
  refine t_val ?_
  exact s_var (by decide +kernel) (by decide +kernel)
  refine ss_cons ?_ ?_
  refine s_asn ?_ (by decide +kernel)
  refine s_pop ?_
  exact s_var (by decide +kernel) (by decide +kernel)
  refine ss_one ?_
  refine s_try (x₀ := .val) (by decide) ?_ ?_ (by decide +kernel) b_ValueError
  refine ss_one ?_
  refine s_expr ?_
  refine s_remove ?_ ?_
  exact s_var (by decide +kernel) (by decide +kernel)
  exact s_var (by decide +kernel) (by decide +kernel)
  refine ss_one ?_
  refine s_expr ?_
  refine s_append ?_ ?_
  exact s_var (by decide +kernel) (by decide +kernel)
  exact s_var (by decide +kernel) (by decide +kernel)
  refine ss_one ?_
  refine s_ret ?_
  refine s_tup ?_
  refine e_cons ?_ ?_
  exact s_var (by decide +kernel) (by decide +kernel)
  refine e_cons ?_ ?_
  exact s_var (by decide +kernel) (by decide +kernel)
  exact e_nil
noncomputable def uldL : List S → List S → List S → List S × List S
  | [], ys, m => (m, ys)
  | x :: r, ys, m => if x ∈ ys then uldL r (ys.erase x) m else uldL r ys (m ++ [x])
noncomputable def p_unorderable_list_difference : Spec' := fun Vs σ Q E => ∃ l m xs ys, Vs = [.lst l, .lst m] ∧ l ≠ m ∧ σ[l]? = some (.list (vS xs)) ∧ σ[m]? = some (.list (vS ys)) ∧ xs.length ≤ 1000 ∧ ys.length ≤ 1000 ∧
  Q (.tup [.lst σ.length, .lst m]) ((σ.set l (.list [])).set m (.list (vS (uldL xs.reverse ys []).2)) ++ [.list (vS (uldL xs.reverse ys []).1)])
theorem uld_loop {l m : Nat} (hlm : l ≠ m) {E : X → St → Prop} {Q' : Fl → St → Prop} :
    ∀ (rs ys miss : List S) (σ : Sto) (vars : Vars), σ[l]? = some (.list (vS rs.reverse)) → σ[m]? = some (.list (vS ys)) → rs.length ≤ 1000 → ys.length ≤ 1000 → miss.length + rs.length ≤ 1000 →
      vars "expected" = some (.v (.lst l)) → vars "actual" = some (.v (.lst m)) → vars "missing" = some (.v (.lst σ.length)) →
      (∀ vars', vars' "actual" = some (.v (.lst m)) → vars' "missing" = some (.v (.lst σ.length)) → Q' .next ⟨vars', (σ.set l (.list [])).set m (.list (vS (uldL rs ys miss).2)) ++ [.list (vS (uldL rs ys miss).1)]⟩) →
      loopN f_unorderable_list_difference_t1 f_unorderable_list_difference_b2 (rs.length + 1) ⟨vars, σ ++ [.list (vS miss)]⟩ Q' E
  | [], ys, miss, σ, vars, hl, hm, hr, hy, hmi, h1, h2, h3, hq => by
    unfold loopN
    simp only [f_unorderable_list_difference_t1_run, tval, var, Option.some.injEq, Wv.v.injEq, exists_eq_left', truthV, h1, h2, h3]
    refine ⟨_, ext_get hl, ?_⟩
    have e1 : σ.set l (.list []) = σ := by
      apply List.ext_getElem?
      intro k
      rw [List.getElem?_set]
      split
      · rename_i e; subst e
        have := (List.getElem?_eq_some_iff.mp hl).1
        rw [if_pos this, hl]; rfl
      · rfl
    have e2 : σ.set m (.list (vS ys)) = σ := by
      apply List.ext_getElem?
      intro k
      rw [List.getElem?_set]
      split
      · rename_i e; subst e
        have := (List.getElem?_eq_some_iff.mp hm).1
        rw [if_pos this, hm]
      · rfl
    have := hq vars h2 h3
    rw [e1] at this
    simp only [uldL] at this
    rw [e2] at this
    exact ⟨by show 0 ≤ 1000000; decide, by rw [if_neg (by simp [vS])]; exact this⟩
  | x :: r, ys, miss, σ, vars, hl, hm, hr, hy, hmi, h1, h2, h3, hq => by
    unfold loopN
    have z : lim = 1000000 := rfl
    simp only [List.length_cons] at hr hmi
    have hlm' := Ne.symm hlm
    have ll := (List.getElem?_eq_some_iff.mp hl).1
    have lm := (List.getElem?_eq_some_iff.mp hm).1
    simp only [f_unorderable_list_difference_t1_run, tval, var, Option.some.injEq, Wv.v.injEq, exists_eq_left', truthV, h1, h2, h3]
    refine ⟨_, ext_get hl, by rw [vS_len]; simp; omega, ?_⟩
    have ev : vS (x :: r).reverse = vS r.reverse ++ [V.str x] := by rw [List.reverse_cons, vS_app]; rfl
    rw [if_pos (by rw [ev]; simp)]
    simp only [f_unorderable_list_difference_b2_run, seq, asn, exprS, var, lm0, lm1, upd, String.reduceEq, ↓reduceIte, Option.some.injEq, Wv.v.injEq, exists_eq_left', h1, h2, h3, tryX, oPop]
    refine ⟨is_lst (ext_get hl), vS r.reverse, .str x, by rw [← ev]; exact ext_get hl, by rw [vS_len]; simp; omega, ?_⟩
    have es : (σ ++ [Cell.list (vS miss)]).set l (.list (vS r.reverse)) = σ.set l (.list (vS r.reverse)) ++ [Cell.list (vS miss)] := by rw [List.set_append_left _ _ ll]
    have hm1 : (σ.set l (.list (vS r.reverse)))[m]? = some (.list (vS ys)) := by rw [List.getElem?_set_ne hlm]; exact hm
    have hl1 : (σ.set l (.list (vS r.reverse)))[l]? = some (.list (vS r.reverse)) := by rw [List.getElem?_set_self ll]
    have len1 : (σ.set l (.list (vS r.reverse))).length = σ.length := by simp
    simp only [h1, h2, h3, oRemove, exE, upd, String.reduceEq, ↓reduceIte, Option.some.injEq, Wv.v.injEq, exists_eq_left']
    rw [es]
    refine ⟨is_lst (ext_get hm1), ys, ext_get hm1, by omega, ?_⟩
    by_cases hxy : x ∈ ys
    · rw [if_pos hxy]
      have es2 : (σ.set l (.list (vS r.reverse)) ++ [Cell.list (vS miss)]).set m (.list (vS (ys.erase x))) = (σ.set l (.list (vS r.reverse))).set m (.list (vS (ys.erase x))) ++ [Cell.list (vS miss)] := by rw [List.set_append_left _ _ (by rw [len1]; exact lm)]
      rw [es2]
      refine uld_loop hlm r (ys.erase x) miss _ _ (by rw [List.getElem?_set_ne hlm']; exact hl1) (by rw [List.getElem?_set_self (by rw [len1]; exact lm)]) (by omega) (by have := List.length_erase_le (a := x) (l := ys); omega) (by omega) (by simp [upd, h1]) (by simp [upd, h2]) (by simp [upd, h3]) (fun vars' w1 w2 => ?_)
      have := hq vars' w1 (by rw [w2]; simp)
      unfold uldL at this
      rw [if_pos hxy] at this
      rw [List.set_comm _ _ hlm', List.set_set, List.set_set]
      exact this
    · rw [if_neg hxy]
      refine ⟨.inl rfl, ?_⟩
      rw [← len1]
      refine ⟨is_at, app_str (by omega) ?_⟩
      refine uld_loop hlm r ys (miss ++ [x]) _ _ hl1 hm1 (by omega) hy (by simp; omega) (by simp [upd, h1]) (by simp [upd, h2]) (by simp [upd, h3]) (fun vars' w1 w2 => ?_)
      have := hq vars' w1 (by rw [w2]; simp)
      unfold uldL at this
      rw [if_neg hxy] at this
      rw [List.set_set]
      exact this
theorem i_unorderable_list_difference {Vs : List V} {σ : Sto} {Q : V → Sto → Prop} {E : X → Sto → Prop} (h : p_unorderable_list_difference Vs σ Q E) : Vs.length = 2 ∧ f_unorderable_list_difference ⟨bindV ["expected", "actual"] Vs, σ⟩ (fin1 Q) (fin2 E) := by
  obtain ⟨l, m, xs, ys, rfl, hlm, hl, hm, hx, hy, hQ⟩ := h
  refine ⟨rfl, ?_⟩
  have b1 : bindV ["expected", "actual"] [V.lst l, V.lst m] "expected" = some (.v (.lst l)) := rfl
  have b2 : bindV ["expected", "actual"] [V.lst l, V.lst m] "actual" = some (.v (.lst m)) := rfl
  simp only [f_unorderable_list_difference_run, seq, asn, retS, var, lst, tup, xnil, xcons, b1, b2, whileS]
  refine ⟨by decide, xs.reverse.length + 1, ?_⟩
  refine uld_loop hlm xs.reverse ys [] σ _ (by rw [List.reverse_reverse]; exact hl) hm (by simpa using hx) hy (by simpa using hx) (by simp [upd, b1]) (by simp [upd, b2]) (by simp [upd]) (fun vars' w1 w2 => ?_)
  simp only [Option.some.injEq, Wv.v.injEq, exists_eq_left', w1, w2]
  exact ⟨by show 2 ≤ 1000000; decide, hQ⟩
theorem c_unorderable_list_difference : Contract 0 "unorderable_list_difference" p_unorderable_list_difference := contract_of (d := r_unorderable_list_difference) (ps := ["expected", "actual"]) (by kernel_rfl) sd_unorderable_list_difference (by decide +kernel) (fun pm code doc vs h => by obtain ⟨a, b, rfl⟩ := len2 h; rfl) fun _ _ _ _ => i_unorderable_list_difference
end
end Mine

namespace Mine
section
theorem slc_drop (s : S) (i j : Nat) (h : i ≤ s.length) : slc s (some (i : Int)) (some ((i : Int) + (j : Nat))) = (s.drop i).take j := by
  rw [show ((i : Int) + (j : Nat)) = ((i + j : Nat) : Int) by omega, slc_mid s i (i + j) (by omega), show i + j - i = j by omega]
noncomputable abbrev r_law_pieces : DefRec := recAt 26
noncomputable def f_law_pieces_t1 : Tx := (tcmp oLt (var "at") (op1 oLen (var "inside")))
noncomputable def f_law_pieces_b2 : Sx := (seq (asn "sign" (op2 oIdx (var "inside") (var "at"))) (ifS (tand (tcmp (oEqNe false) (slice (var "inside") (var "at") (op2 oAdd (var "at") (cint 6))) (cstr [40, 63, 62, 46, 42, 63])) (tand (tnot (tval (var "held"))) (tand (tnot (tval (var "last"))) (tlit true)))) (seq (exprS (lm1 oAppend (var "pieces") (lst xnil))) (seq (asn "held" (cbool true)) (seq (asn "shut" (cbool false)) (aug oIadd "at" (cint 6))))) (ifS (tand (tcmp (oEqNe false) (slice (var "inside") (var "at") (op2 oAdd (var "at") (cint 2))) (cstr [46, 42])) (tand (tnot (tval (var "held"))) (tand (tnot (tval (var "last"))) (tlit true)))) (seq (exprS (lm1 oAppend (var "pieces") (lst xnil))) (seq (asn "last" (cbool true)) (seq (asn "shut" (cbool false)) (aug oIadd "at" (cint 2))))) (ifS (tval (var "shut")) (retS cnone) (ifS (tand (tcmp (oEqNe false) (var "sign") (cstr [41])) (tand (tval (var "held")) (tand (tcmp (oEqNe true) (op2 oIdx (var "pieces") (op1 oNeg (cint 1))) (lst xnil)) (tlit true)))) (seq (asn "held" (cbool false)) (seq (asn "shut" (cbool true)) (aug oIadd "at" (cint 1)))) (ifS (tcmp (oEqNe false) (var "sign") (cstr [46])) (seq (exprS (lm1 oAppend (op2 oIdx (var "pieces") (op1 oNeg (cint 1))) (tup (xcons (cbool true) (xcons (cstr []) xnil))))) (aug oIadd "at" (cint 1))) (ifS (tcmp (oEqNe false) (var "sign") (cstr [91])) (seq (asn "found" (callF p_law_set (xcons (var "inside") (xcons (op2 oAdd (var "at") (cint 1)) xnil)))) (seq (ifS (tcmp (oIs false) (var "found") cnone) (retS cnone) skip) (seq (exprS (lm1 oAppend (op2 oIdx (var "pieces") (op1 oNeg (cint 1))) (tup (xcons (op2 oIdx (var "found") (cint 0)) (xcons (op2 oIdx (var "found") (cint 1)) xnil))))) (asn "at" (op2 oIdx (var "found") (cint 2)))))) (ifS (tand (tcmp (oEqNe false) (var "sign") (cstr [92])) (tand (tcmp oLt (op2 oAdd (var "at") (cint 1)) (op1 oLen (var "inside"))) (tand (tcmp (oIn false) (op2 oIdx (var "inside") (op2 oAdd (var "at") (cint 1))) (var "special")) (tlit true)))) (seq (exprS (lm1 oAppend (op2 oIdx (var "pieces") (op1 oNeg (cint 1))) (tup (xcons (cbool false) (xcons (op2 oIdx (var "inside") (op2 oAdd (var "at") (cint 1))) xnil))))) (aug oIadd "at" (cint 2))) (ifS (tcmp (oIn false) (var "sign") (var "special")) (retS cnone) (seq (exprS (lm1 oAppend (op2 oIdx (var "pieces") (op1 oNeg (cint 1))) (tup (xcons (cbool false) (xcons (var "sign") xnil))))) (aug oIadd "at" (cint 1))))))))))))
noncomputable def f_law_pieces : Sx := (seq (asn "special" (cstr [40, 41, 91, 93, 123, 125, 63, 42, 43, 45, 124, 94, 36, 92, 46, 38, 126, 35, 32, 9, 10, 13, 11, 12])) (seq (ifS (tor (tcmp oLt (op1 oLen (var "text")) (cint 7)) (tor (tcmp (oEqNe true) (slice (var "text") cnone (cint 4)) (cstr [40, 63, 115, 58])) (tor (tcmp (oEqNe true) (slice (var "text") (op1 oNeg (cint 3)) cnone) (cstr [41, 92, 90])) (tlit false)))) (retS cnone) skip) (seq (asn "inside" (slice (var "text") (cint 4) (op1 oNeg (cint 3)))) (seq (asn "pieces" (lst (xcons (lst xnil) xnil))) (seq (asn "held" (cbool false)) (seq (asn "shut" (cbool false)) (seq (asn "last" (cbool false)) (seq (asn "at" (cint 0)) (seq (whileS f_law_pieces_t1 f_law_pieces_b2) (seq (ifS (tor (tval (var "held")) (tor (tval (var "shut")) (tlit false))) (retS cnone) skip) (retS (var "pieces"))))))))))))
theorem sd_law_pieces : SoundSs 1 .pl r_law_pieces.scope r_law_pieces.body f_law_pieces := by
  refine ss_cons ?_ ?_
  refine s_asn ?_ (by decide +kernel)
  exact s_str (by decide +kernel)
  refine ss_cons ?_ ?_
  refine s_if ?_ ?_ ?_
  refine t_bop ?_
  refine a_or ?_ ?_
  refine t_cmp o_lt ?_ ?_
  refine s_blt1 b_len (by decide +kernel) o_len ?_
  exact s_var (by decide +kernel) (by decide +kernel)
  exact s_int
  refine a_or ?_ ?_
  refine t_cmp o_ne ?_ ?_
  refine s_slice ?_ ?_ ?_
  exact s_var (by decide +kernel) (by decide +kernel)
  exact p_none
  refine p_some ?_
  exact s_int
  exact s_str (by decide +kernel)
  refine a_or ?_ ?_
  refine t_cmp o_ne ?_ ?_
  refine s_slice ?_ ?_ ?_
  exact s_var (by decide +kernel) (by decide +kernel)
  refine p_some ?_
  refine s_neg ?_
  exact s_int
  exact p_none
  exact s_str (by decide +kernel)
  exact a_or_nil
  refine ss_one ?_
  refine s_ret ?_
  exact s_none
  exact ss_nil
  refine ss_cons ?_ ?_
  refine s_asn ?_ (by decide +kernel)
  refine s_slice ?_ ?_ ?_
  exact s_var (by decide +kernel) (by decide +kernel)
  refine p_some ?_
  exact s_int
  refine p_some ?_
  refine s_neg ?_
  exact s_int
  refine ss_cons ?_ ?_
  refine s_asn ?_ (by decide +kernel)
  refine s_lst ?_
  refine e_cons ?_ ?_
  refine s_lst ?_
  exact e_nil
  exact e_nil
  refine ss_cons ?_ ?_
  refine s_asn ?_ (by decide +kernel)
  exact s_bool
  refine ss_cons ?_ ?_
  refine s_asn ?_ (by decide +kernel)
  exact s_bool
  refine ss_cons ?_ ?_
  refine s_asn ?_ (by decide +kernel)
  exact s_bool
  refine ss_cons ?_ ?_
  refine s_asn ?_ (by decide +kernel)
  exact s_int
  refine ss_cons ?_ ?_
  refine s_while ?_ ?_
  refine t_cmp o_lt ?_ ?_
  exact s_var (by decide +kernel) (by decide +kernel)
  refine s_blt1 b_len (by decide +kernel) o_len ?_
  exact s_var (by decide +kernel) (by decide +kernel)
  refine ss_cons ?_ ?_
  refine s_asn ?_ (by decide +kernel)
  refine s_idx ?_ ?_
  exact s_var (by decide +kernel) (by decide +kernel)
  exact s_var (by decide +kernel) (by decide +kernel)
  refine ss_one ?_
  refine s_if ?_ ?_ ?_
  refine t_bop ?_
  refine a_and ?_ ?_
  refine t_cmp o_eq ?_ ?_
  refine s_slice ?_ ?_ ?_
  exact s_var (by decide +kernel) (by decide +kernel)
  refine p_some ?_
  exact s_var (by decide +kernel) (by decide +kernel)
  refine p_some ?_
  refine s_bin o_add ?_ ?_
  exact s_var (by decide +kernel) (by decide +kernel)
  exact s_int
  exact s_str (by decide +kernel)
  refine a_and ?_ ?_
  refine t_not ?_
  refine t_val ?_
  exact s_var (by decide +kernel) (by decide +kernel)
  refine a_and ?_ ?_
  refine t_not ?_
  refine t_val ?_
  exact s_var (by decide +kernel) (by decide +kernel)
  exact a_and_nil
  refine ss_cons ?_ ?_
  refine s_expr ?_
  refine s_append ?_ ?_
  exact s_var (by decide +kernel) (by decide +kernel)
  refine s_lst ?_
  exact e_nil
  refine ss_cons ?_ ?_
  refine s_asn ?_ (by decide +kernel)
  exact s_bool
  refine ss_cons ?_ ?_
  refine s_asn ?_ (by decide +kernel)
  exact s_bool
  refine ss_one ?_
  refine s_aug o_iadd ?_ (by decide +kernel) (by decide +kernel)
  exact s_int
  refine ss_one ?_
  refine s_if ?_ ?_ ?_
  refine t_bop ?_
  refine a_and ?_ ?_
  refine t_cmp o_eq ?_ ?_
  refine s_slice ?_ ?_ ?_
  exact s_var (by decide +kernel) (by decide +kernel)
  refine p_some ?_
  exact s_var (by decide +kernel) (by decide +kernel)
  refine p_some ?_
  refine s_bin o_add ?_ ?_
  exact s_var (by decide +kernel) (by decide +kernel)
  exact s_int
  exact s_str (by decide +kernel)
  refine a_and ?_ ?_
  refine t_not ?_
  refine t_val ?_
  exact s_var (by decide +kernel) (by decide +kernel)
  refine a_and ?_ ?_
  refine t_not ?_
  refine t_val ?_
  exact s_var (by decide +kernel) (by decide +kernel)
  exact a_and_nil
  refine ss_cons ?_ ?_
  refine s_expr ?_
  refine s_append ?_ ?_
  exact s_var (by decide +kernel) (by decide +kernel)
  refine s_lst ?_
  exact e_nil
  refine ss_cons ?_ ?_
  refine s_asn ?_ (by decide +kernel)
  exact s_bool
  refine ss_cons ?_ ?_
  refine s_asn ?_ (by decide +kernel)
  exact s_bool
  refine ss_one ?_
  refine s_aug o_iadd ?_ (by decide +kernel) (by decide +kernel)
  exact s_int
  refine ss_one ?_
  refine s_if ?_ ?_ ?_
  refine t_val ?_
  exact s_var (by decide +kernel) (by decide +kernel)
  refine ss_one ?_
  refine s_ret ?_
  exact s_none
  refine ss_one ?_
  refine s_if ?_ ?_ ?_
  refine t_bop ?_
  refine a_and ?_ ?_
  refine t_cmp o_eq ?_ ?_
  exact s_var (by decide +kernel) (by decide +kernel)
  exact s_str (by decide +kernel)
  refine a_and ?_ ?_
  refine t_val ?_
  exact s_var (by decide +kernel) (by decide +kernel)
  refine a_and ?_ ?_
  refine t_cmp o_ne ?_ ?_
  refine s_idx ?_ ?_
  exact s_var (by decide +kernel) (by decide +kernel)
  refine s_neg ?_
  exact s_int
  refine s_lst ?_
  exact e_nil
  exact a_and_nil
  refine ss_cons ?_ ?_
  refine s_asn ?_ (by decide +kernel)
  exact s_bool
  refine ss_cons ?_ ?_
  refine s_asn ?_ (by decide +kernel)
  exact s_bool
  refine ss_one ?_
  refine s_aug o_iadd ?_ (by decide +kernel) (by decide +kernel)
  exact s_int
  refine ss_one ?_
  refine s_if ?_ ?_ ?_
  refine t_cmp o_eq ?_ ?_
  exact s_var (by decide +kernel) (by decide +kernel)
  exact s_str (by decide +kernel)
  refine ss_cons ?_ ?_
  refine s_expr ?_
  refine s_append ?_ ?_
  refine s_idx ?_ ?_
  exact s_var (by decide +kernel) (by decide +kernel)
  refine s_neg ?_
  exact s_int
  refine s_tup ?_
  refine e_cons ?_ ?_
  exact s_bool
  refine e_cons ?_ ?_
  exact s_str (by decide +kernel)
  exact e_nil
  refine ss_one ?_
  refine s_aug o_iadd ?_ (by decide +kernel) (by decide +kernel)
  exact s_int
  refine ss_one ?_
  refine s_if ?_ ?_ ?_
  refine t_cmp o_eq ?_ ?_
  exact s_var (by decide +kernel) (by decide +kernel)
  exact s_str (by decide +kernel)
  refine ss_cons ?_ ?_
  refine s_asn ?_ (by decide +kernel)
  refine s_call c_law_set (by decide) (by decide +kernel) ?_
  refine e_cons ?_ ?_
  exact s_var (by decide +kernel) (by decide +kernel)
  refine e_cons ?_ ?_
  refine s_bin o_add ?_ ?_
  exact s_var (by decide +kernel) (by decide +kernel)
  exact s_int
  exact e_nil
  refine ss_cons ?_ ?_
  refine s_if ?_ ?_ ?_
  refine t_cmp o_is ?_ ?_
  exact s_var (by decide +kernel) (by decide +kernel)
  exact s_none
  refine ss_one ?_
  refine s_ret ?_
  exact s_none
  exact ss_nil
  refine ss_cons ?_ ?_
  refine s_expr ?_
  refine s_append ?_ ?_
  refine s_idx ?_ ?_
  exact s_var (by decide +kernel) (by decide +kernel)
  refine s_neg ?_
  exact s_int
  refine s_tup ?_
  refine e_cons ?_ ?_
  refine s_idx ?_ ?_
  exact s_var (by decide +kernel) (by decide +kernel)
  exact s_int
  refine e_cons ?_ ?_
  refine s_idx ?_ ?_
  exact s_var (by decide +kernel) (by decide +kernel)
  exact s_int
  exact e_nil
  refine ss_one ?_
  refine s_asn ?_ (by decide +kernel)
  refine s_idx ?_ ?_
  exact s_var (by decide +kernel) (by decide +kernel)
  exact s_int
  refine ss_one ?_
  refine s_if ?_ ?_ ?_
  refine t_bop ?_
  refine a_and ?_ ?_
  refine t_cmp o_eq ?_ ?_
  exact s_var (by decide +kernel) (by decide +kernel)
  exact s_str (by decide +kernel)
  refine a_and ?_ ?_
  refine t_cmp o_lt ?_ ?_
  refine s_bin o_add ?_ ?_
  exact s_var (by decide +kernel) (by decide +kernel)
  exact s_int
  refine s_blt1 b_len (by decide +kernel) o_len ?_
  exact s_var (by decide +kernel) (by decide +kernel)
  refine a_and ?_ ?_
  refine t_cmp o_in ?_ ?_
  refine s_idx ?_ ?_
  exact s_var (by decide +kernel) (by decide +kernel)
  refine s_bin o_add ?_ ?_
  exact s_var (by decide +kernel) (by decide +kernel)
  exact s_int
  exact s_var (by decide +kernel) (by decide +kernel)
  exact a_and_nil
  refine ss_cons ?_ ?_
  refine s_expr ?_
  refine s_append ?_ ?_
  refine s_idx ?_ ?_
  exact s_var (by decide +kernel) (by decide +kernel)
  refine s_neg ?_
  exact s_int
  refine s_tup ?_
  refine e_cons ?_ ?_
  exact s_bool
  refine e_cons ?_ ?_
  refine s_idx ?_ ?_
  exact s_var (by decide +kernel) (by decide +kernel)
  refine s_bin o_add ?_ ?_
  exact s_var (by decide +kernel) (by decide +kernel)
  exact s_int
  exact e_nil
  refine ss_one ?_
  refine s_aug o_iadd ?_ (by decide +kernel) (by decide +kernel)
  exact s_int
  refine ss_one ?_
  refine s_if ?_ ?_ ?_
  refine t_cmp o_in ?_ ?_
  exact s_var (by decide +kernel) (by decide +kernel)
  exact s_var (by decide +kernel) (by decide +kernel)
  refine ss_one ?_
  refine s_ret ?_
  exact s_none
  refine ss_cons ?_ ?_
  refine s_expr ?_
  refine s_append ?_ ?_
  refine s_idx ?_ ?_
  exact s_var (by decide +kernel) (by decide +kernel)
  refine s_neg ?_
  exact s_int
  refine s_tup ?_
  refine e_cons ?_ ?_
  exact s_bool
  refine e_cons ?_ ?_
  exact s_var (by decide +kernel) (by decide +kernel)
  exact e_nil
  refine ss_one ?_
  refine s_aug o_iadd ?_ (by decide +kernel) (by decide +kernel)
  exact s_int
  refine ss_cons ?_ ?_
  refine s_if ?_ ?_ ?_
  refine t_bop ?_
  refine a_or ?_ ?_
  refine t_val ?_
  exact s_var (by decide +kernel) (by decide +kernel)
  refine a_or ?_ ?_
  refine t_val ?_
  exact s_var (by decide +kernel) (by decide +kernel)
  exact a_or_nil
  refine ss_one ?_
  refine s_ret ?_
  exact s_none
  exact ss_nil
  refine ss_one ?_
  refine s_ret ?_
  exact s_var (by decide +kernel) (by decide +kernel)
noncomputable abbrev special : S := [40, 41, 91, 93, 123, 125, 63, 42, 43, 45, 124, 94, 36, 92, 46, 38, 126, 35, 32, 9, 10, 13, 11, 12]
structure PS where
  pos : Nat
  ps0 : List Piece
  p : Piece
  h : Bool
  s : Bool
  l : Bool
noncomputable def pesc (q : PS) : S → Option PS
  | d :: _ => if d ∈ special then some ⟨q.pos + 2, q.ps0, q.p ++ [(false, [d])], q.h, q.s, q.l⟩ else none
  | [] => none
noncomputable def pch2 (q : PS) (c : Nat) (r : S) : Option PS := if c = 92 then pesc q r else if c ∈ special then none else some ⟨q.pos + 1, q.ps0, q.p ++ [(false, [c])], q.h, q.s, q.l⟩
noncomputable def pset (q : PS) (r : S) : Option (Option (S × Nat)) → Option PS
  | some (some (signs, k)) => some ⟨k + 1, q.ps0, q.p ++ [(barsAt r, signs)], q.h, q.s, q.l⟩
  | _ => none
noncomputable def pch (inside : S) (q : PS) (c : Nat) (r : S) : Option PS :=
  if c = 46 then some ⟨q.pos + 1, q.ps0, q.p ++ [(true, [])], q.h, q.s, q.l⟩ else if c = 91 then pset q r (setAt inside (q.pos + 1)) else pch2 q c r
noncomputable def pst (inside : S) (q : PS) (c : Nat) (r : S) : Option PS := if q.s = true then none else if c = 41 ∧ q.h = true ∧ q.p ≠ [] then some ⟨q.pos + 1, q.ps0, q.p, false, true, q.l⟩ else pch inside q c r
noncomputable def pstep (inside : S) (q : PS) : Option PS := match inside.drop q.pos with
  | [] => none
  | c :: r =>
    if (inside.drop q.pos).take 6 = [40, 63, 62, 46, 42, 63] ∧ q.h = false ∧ q.l = false then some ⟨q.pos + 6, q.ps0 ++ [q.p], [], true, false, q.l⟩
    else if (inside.drop q.pos).take 2 = [46, 42] ∧ q.h = false ∧ q.l = false then some ⟨q.pos + 2, q.ps0 ++ [q.p], [], q.h, false, true⟩
    else pst inside q c r
theorem some_none {α : Type} {a : α} {P : Prop} (h : none = some a) : P := absurd h.symm (Option.some_ne_none a)
theorem pch2_cases {q q1 : PS} {c r} (h : pch2 q c r = some q1) : (c = 92 ∧ ∃ d r', r = d :: r' ∧ d ∈ special ∧ q1 = ⟨q.pos + 2, q.ps0, q.p ++ [(false, [d])], q.h, q.s, q.l⟩) ∨ (c ≠ 92 ∧ ¬ c ∈ special ∧ q1 = ⟨q.pos + 1, q.ps0, q.p ++ [(false, [c])], q.h, q.s, q.l⟩) := by
  unfold pch2 at h
  by_cases h1 : c = 92
  · rw [if_pos h1] at h
    cases r with
    | nil => exact some_none h
    | cons d r' =>
      by_cases h2 : d ∈ special
      · exact .inl ⟨h1, d, r', rfl, h2, (Option.some.inj ((if_pos h2).symm.trans h)).symm⟩
      · exact some_none ((if_neg h2).symm.trans h)
  · rw [if_neg h1] at h
    by_cases h2 : c ∈ special
    · rw [if_pos h2] at h
      exact some_none h
    · rw [if_neg h2] at h
      exact .inr ⟨h1, h2, (Option.some.inj h).symm⟩
theorem pch_cases {inside} {q q1 : PS} {c r} (h : pch inside q c r = some q1) : (c = 46 ∧ q1 = ⟨q.pos + 1, q.ps0, q.p ++ [(true, [])], q.h, q.s, q.l⟩) ∨
    c ≠ 46 ∧ ((c = 91 ∧ ∃ signs m, setAt inside (q.pos + 1) = some (some (signs, m)) ∧ q1 = ⟨m + 1, q.ps0, q.p ++ [(barsAt r, signs)], q.h, q.s, q.l⟩) ∨ c ≠ 91 ∧ pch2 q c r = some q1) := by
  unfold pch at h
  by_cases h1 : c = 46
  · rw [if_pos h1] at h
    exact .inl ⟨h1, (Option.some.inj h).symm⟩
  · rw [if_neg h1] at h
    refine .inr ⟨h1, ?_⟩
    by_cases h2 : c = 91
    · rw [if_pos h2] at h
      refine .inl ⟨h2, ?_⟩
      cases hs : setAt inside (q.pos + 1) with
      | none => rw [hs] at h; exact some_none h
      | some o => cases o with
        | none => rw [hs] at h; exact some_none h
        | some o => rw [hs] at h; exact ⟨o.1, o.2, rfl, (Option.some.inj h).symm⟩
    · rw [if_neg h2] at h
      exact .inr ⟨h2, h⟩
theorem pst_cases {inside} {q q1 : PS} {c r} (h : pst inside q c r = some q1) : ¬ q.s = true ∧ (((c = 41 ∧ q.h = true ∧ q.p ≠ []) ∧ q1 = ⟨q.pos + 1, q.ps0, q.p, false, true, q.l⟩) ∨ ¬ (c = 41 ∧ q.h = true ∧ q.p ≠ []) ∧ pch inside q c r = some q1) := by
  unfold pst at h
  by_cases h1 : q.s = true
  · rw [if_pos h1] at h
    exact some_none h
  · rw [if_neg h1] at h
    refine ⟨h1, ?_⟩
    by_cases h2 : c = 41 ∧ q.h = true ∧ q.p ≠ []
    · rw [if_pos h2] at h
      exact .inl ⟨h2, (Option.some.inj h).symm⟩
    · rw [if_neg h2] at h
      exact .inr ⟨h2, h⟩
theorem pch_ne {inside} {q q1 : PS} {c r} (h : pch inside q c r = some q1) : c ≠ 41 := fun e => by
  rw [e] at h
  unfold pch pch2 at h
  rw [if_neg (by decide), if_neg (by decide), if_neg (by decide), if_pos (by decide)] at h
  exact some_none h
theorem pstep_cons {inside} {q : PS} {c r} (h : inside.drop q.pos = c :: r) (h1 : ¬ ((c :: r).take 6 = [40, 63, 62, 46, 42, 63] ∧ q.h = false ∧ q.l = false)) (h2 : ¬ ((c :: r).take 2 = [46, 42] ∧ q.h = false ∧ q.l = false)) : pstep inside q = pst inside q c r := by
  unfold pstep
  rw [h]
  exact (if_neg h1).trans (if_neg h2)
noncomputable def prun (inside : S) : Nat → PS → Option PS
  | 0, _ => none
  | n + 1, q => if q.pos < inside.length then (pstep inside q).bind (prun inside n) else some q
structure PSt (σ σ' : Sto) (L : Nat) (js : List Nat) (j : Nat) (ps0 : List Piece) (p : Piece) : Prop where
  low : ∃ ν, σ' = σ ++ ν
  hL : σ.length ≤ L
  hj : ∀ x ∈ js ++ [j], σ.length ≤ x ∧ x ≠ L
  nd : (js ++ [j]).Nodup
  outer : σ'[L]? = some (.list ((js ++ [j]).map V.lst))
  inner : PAt σ' js ps0
  last : σ'[j]? = some (.list (vP p))
theorem set_low {σ σ' : Sto} {i : Nat} {c : Cell} (h : ∃ ν, σ' = σ ++ ν) (hi : σ.length ≤ i) : ∃ ν, σ'.set i c = σ ++ ν := by
  obtain ⟨ν, rfl⟩ := h
  exact ⟨ν.set (i - σ.length) c, List.set_append_right _ _ hi⟩
theorem PAt.set {σ' : Sto} {js : List Nat} {pss : List Piece} (x : PAt σ' js pss) {i : Nat} {c : Cell} (h : i ∉ js) : PAt (σ'.set i c) js pss := by
  induction x with
  | nil => exact .nil
  | cons h1 h2 _ ih =>
    simp only [List.mem_cons, not_or] at h
    exact .cons (by rw [List.getElem?_set_ne h.1]; exact h1) h2 (ih h.2)
theorem PAt.snoc {σ' : Sto} {js : List Nat} {pss : List Piece} (x : PAt σ' js pss) {j : Nat} {p : Piece} (h : σ'[j]? = some (.list (vP p))) (hp : p.length ≤ 1000) : PAt σ' (js ++ [j]) (pss ++ [p]) := by
  induction x with
  | nil => exact .cons h hp .nil
  | cons h1 h2 _ ih => exact .cons h1 h2 ih
theorem PSt.app {σ σ' L js j ps0 p} (x : PSt σ σ' L js j ps0 p) (p' : Piece) : PSt σ (σ'.set j (.list (vP p'))) L js j ps0 p' := by
  have hjl := x.hj j (by simp)
  have hlt := (List.getElem?_eq_some_iff.mp x.last).1
  have hnm : j ∉ js := by
    have := x.nd
    rw [List.nodup_append] at this
    intro h
    exact this.2.2 j h j (by simp) rfl
  exact ⟨set_low x.low hjl.1, x.hL, x.hj, x.nd, by rw [List.getElem?_set_ne hjl.2]; exact x.outer, x.inner.set hnm, by rw [List.getElem?_set_self hlt]⟩
theorem PSt.new {σ σ' L js j ps0 p} (x : PSt σ σ' L js j ps0 p) (hp : p.length ≤ 1000) : PSt σ ((σ' ++ [Cell.list []]).set L (.list ((js ++ [j]).map V.lst ++ [V.lst σ'.length]))) L (js ++ [j]) σ'.length (ps0 ++ [p]) [] := by
  have hlt := (List.getElem?_eq_some_iff.mp x.outer).1
  have hσ : σ.length ≤ σ'.length := by obtain ⟨ν, rfl⟩ := x.low; simp
  have hin : ∀ y ∈ js ++ [j], y < σ'.length := by
    intro y hy
    rcases List.mem_append.mp hy with q | q
    · have : ∀ {js ps}, PAt σ' js ps → ∀ y ∈ js, y < σ'.length := by
        intro js ps z
        induction z with
        | nil => intro y h; cases h
        | cons h1 _ _ ih =>
          intro y h
          rcases List.mem_cons.mp h with rfl | h
          · exact (List.getElem?_eq_some_iff.mp h1).1
          · exact ih y h
      exact this x.inner y q
    · rw [List.mem_singleton.mp q]; exact (List.getElem?_eq_some_iff.mp x.last).1
  refine ⟨set_low ?_ x.hL, x.hL, ?_, ?_, ?_, ?_, ?_⟩
  · obtain ⟨ν, rfl⟩ := x.low
    exact ⟨ν ++ [.list []], by simp⟩
  · intro y hy
    rcases List.mem_append.mp hy with q | q
    · exact x.hj y q
    · rw [List.mem_singleton.mp q]; exact ⟨hσ, by omega⟩
  · rw [List.nodup_append]
    refine ⟨x.nd, by simp, ?_⟩
    intro a ha b hb e
    rw [List.mem_singleton.mp hb] at e
    have := hin a ha
    omega
  · rw [List.getElem?_set_self (by simp; omega)]; simp
  · refine PAt.set ((x.inner.ext).snoc (ext_get x.last) hp) fun h => ?_
    exact (x.hj L h).2 rfl
  · rw [List.getElem?_set_ne (by omega)]; exact new_get _ _
noncomputable abbrev KP : List String := ["at", "last", "shut", "held", "pieces", "inside", "special"]
noncomputable abbrev WP (inside : S) (L pos : Nat) (h s l : Bool) : List Wv := [.v (.int pos), .v (.bool l), .v (.bool s), .v (.bool h), .v (.lst L), .v (.str inside), .v (.str special)]
theorem PSt.lastEV {σ σ' : Sto} {L j : Nat} {js : List Nat} {ps0 : List Piece} {p : Piece} (x : PSt σ σ' L js j ps0 p) {vars : Vars} {f : Ex} (e : EV f vars σ' (.lst L)) : EV (op2 oIdx f (op1 oNeg (cint 1))) vars σ' (.lst j) := EV.last e (xs := js.map V.lst) (x.outer.trans (by rw [List.map_append]; rfl))
theorem put_run {σ σ' : Sto} {L j : Nat} {js : List Nat} {ps0 : List Piece} {p : Piece} (x : PSt σ σ' L js j ps0 p) {vars : Vars} {f : Ex} (e : EV f vars σ' (.lst L)) (hp : p.length ≤ 1000) {ft : Ex} {b : Bool} {w : S} (ht : EV ft vars σ' (.tup [.bool b, .str w])) {Q : Fl → St → Prop} {E}
    (hq : Q .next ⟨vars, σ'.set j (.list (vP (p ++ [(b, w)])))⟩) : exprS (lm1 oAppend (op2 oIdx f (op1 oNeg (cint 1))) ft) ⟨vars, σ'⟩ Q E :=
  lapp_run (x.lastEV e) ht x.last (by unfold vP; rw [List.length_map]; omega) (by rw [show (vP p ++ [V.tup [.bool b, .str w]] : List V) = vP (p ++ [(b, w)]) from (List.map_append (l₂ := [(b, w)])).symm]; exact hq)
theorem PSt.ext {σ σ' L js j ps0 p} (x : PSt σ σ' L js j ps0 p) (ν : Sto) : PSt σ (σ' ++ ν) L js j ps0 p :=
  ⟨by obtain ⟨μ, rfl⟩ := x.low; exact ⟨μ ++ ν, by simp⟩, x.hL, x.hj, x.nd, ext_get x.outer, x.inner.ext, ext_get x.last⟩
theorem scan_asc (bars : Bool) : ∀ (r signs : S) (k : Nat) (o : S) (m : Nat), scanSet bars r signs k = some (some (o, m)) → (∀ c ∈ r, c < 128) → (∀ c ∈ signs, c < 128) → ∀ c ∈ o, c < 128
  | [], signs, k, o, m, h, hr, hs => by cases h
  | c :: r, signs, k, o, m, h, hr, hs => by
    unfold scanSet at h
    split at h
    · split at h
      · cases h
      · cases h; exact hs
    · split at h
      · cases r with
        | nil => cases h
        | cons d r' =>
          dsimp only at h
          refine scan_asc bars r' _ _ o m h (fun c hc => hr c (by simp [hc])) ?_
          intro c hc
          rcases List.mem_append.mp hc with q | q
          · exact hs c q
          · rw [List.mem_singleton.mp q]; exact hr d (by simp)
      · split at h
        · cases h
        · split at h
          · cases h
          · refine scan_asc bars r _ _ o m h (fun c hc => hr c (by simp [hc])) ?_
            intro d hd
            rcases List.mem_append.mp hd with q | q
            · exact hs d q
            · rw [List.mem_singleton.mp q]; exact hr c (by simp)
theorem set_asc {inside : S} (h : ∀ c ∈ inside, c < 128) {k : Nat} {o : S} {m : Nat} (e : setAt inside k = some (some (o, m))) : ∀ c ∈ o, c < 128 := by
  unfold setAt at e
  exact scan_asc _ _ _ _ _ _ e (fun c hc => h c (List.mem_of_mem_drop hc)) (by simp)
theorem ascP_snoc {p : Piece} {b : Bool} {w : S} (h : ascP p) (hw : ∀ c ∈ w, c < 128) : ascP (p ++ [(b, w)]) := by
  intro e he c hc
  rcases List.mem_append.mp he with q | q
  · exact h e q c hc
  · rw [List.mem_singleton.mp q] at hc; exact hw c hc
noncomputable def PieceK (σ : Sto) (L : Nat) (inside : S) (n1 n2 : Nat) (q1 : PS) (K : St → Prop) : Prop := ∀ vars σ' js j, PSt σ σ' L js j q1.ps0 q1.p → Has vars KP (WP inside L q1.pos q1.h q1.s q1.l) → ascP q1.p → q1.p.length ≤ n1 → js.length ≤ n2 → K ⟨vars, σ'⟩
section
variable {σ σ' : Sto} {inside : S} {L j : Nat} {js : List Nat} {vars : Vars} {E : X → St → Prop} {Q : Fl → St → Prop}
theorem br_held {pos : Nat} {h s l : Bool} {ps0 p} (x : PSt σ σ' L js j ps0 p) (v : Has vars KP (WP inside L pos h s l)) (hp : p.length ≤ 999) (hj : js.length ≤ 999) (k : PieceK σ L inside (p.length + 1) (js.length + 1) ⟨pos + 6, ps0 ++ [p], [], true, false, l⟩ (Q .next)) :
    seq (exprS (lm1 oAppend (var "pieces") (lst xnil))) (seq (asn "held" (cbool true)) (seq (asn "shut" (cbool false)) (aug oIadd "at" (cint 6)))) ⟨vars, σ'⟩ Q E :=
  seq_run (app_new (EV.vr v 4 rfl rfl) x.outer (by rw [List.length_map, List.length_append, List.length_singleton]; omega) (seq_run (asnH v 3 EV.bool rfl (by decide) fun _ v1 => seq_run (asnH v1 2 EV.bool rfl (by decide) fun _ v2 => augH v2 0 rfl rfl (by decide) fun _ v3 =>
    k _ _ _ _ (x.new (by omega)) v3 (by intro e he; cases he) (Nat.zero_le _) (by rw [List.length_append, List.length_singleton]; omega)))))
theorem br_last {pos : Nat} {h s l : Bool} {ps0 p} (x : PSt σ σ' L js j ps0 p) (v : Has vars KP (WP inside L pos h s l)) (hp : p.length ≤ 999) (hj : js.length ≤ 999) (k : PieceK σ L inside (p.length + 1) (js.length + 1) ⟨pos + 2, ps0 ++ [p], [], h, false, true⟩ (Q .next)) :
    seq (exprS (lm1 oAppend (var "pieces") (lst xnil))) (seq (asn "last" (cbool true)) (seq (asn "shut" (cbool false)) (aug oIadd "at" (cint 2)))) ⟨vars, σ'⟩ Q E :=
  seq_run (app_new (EV.vr v 4 rfl rfl) x.outer (by rw [List.length_map, List.length_append, List.length_singleton]; omega) (seq_run (asnH v 1 EV.bool rfl (by decide) fun _ v1 => seq_run (asnH v1 2 EV.bool rfl (by decide) fun _ v2 => augH v2 0 rfl rfl (by decide) fun _ v3 =>
    k _ _ _ _ (x.new (by omega)) v3 (by intro e he; cases he) (Nat.zero_le _) (by rw [List.length_append, List.length_singleton]; omega)))))
theorem br_shut {pos : Nat} {h s l : Bool} {ps0 p} (x : PSt σ σ' L js j ps0 p) (v : Has vars KP (WP inside L pos h s l)) (hA : ascP p) (k : PieceK σ L inside (p.length + 1) (js.length + 1) ⟨pos + 1, ps0, p, false, true, l⟩ (Q .next)) :
    ∀ ν, seq (asn "held" (cbool false)) (seq (asn "shut" (cbool true)) (aug oIadd "at" (cint 1))) ⟨vars, σ' ++ ν⟩ Q E := fun ν =>
  seq_run (asnH v 3 EV.bool rfl (by decide) fun _ v1 => seq_run (asnH v1 2 EV.bool rfl (by decide) fun _ v2 => augH v2 0 rfl rfl (by decide) fun _ v3 => k _ _ _ _ (x.ext ν) v3 hA (Nat.le_succ _) (Nat.le_succ _)))
theorem br_put {pos m : Nat} {h s l : Bool} {ps0 p} {ft : Ex} {b : Bool} {w : S} (x : PSt σ σ' L js j ps0 p) (v : Has vars KP (WP inside L pos h s l)) (hA : ascP p) (hp : p.length ≤ 999) (ht : EV ft vars σ' (.tup [.bool b, .str w])) (hw : ∀ c ∈ w, c < 128)
    (k : PieceK σ L inside (p.length + 1) (js.length + 1) ⟨pos + m, ps0, p ++ [(b, w)], h, s, l⟩ (Q .next)) :
    seq (exprS (lm1 oAppend (op2 oIdx (var "pieces") (op1 oNeg (cint 1))) ft)) (aug oIadd "at" (cint m)) ⟨vars, σ'⟩ Q E :=
  seq_run (put_run x (EV.vr v 4 rfl rfl) (by omega) ht (augH v 0 rfl rfl (by decide) fun _ v3 => k _ _ _ _ (x.app _) v3 (ascP_snoc hA hw) (by rw [List.length_append, List.length_singleton]; omega) (Nat.le_succ _)))
theorem TV.isNoneT {f : Ex} {vars : Vars} {σ : Sto} {l} (h : EV f vars σ (.tup l)) : TV (tcmp (oIs false) f cnone) vars σ false := fun Q E q => h _ _ ⟨false, rfl, (fun _ _ h => by cases h), (fun _ _ h => by cases h), _, rfl, q⟩
theorem br_set {pos m : Nat} {h s l : Bool} {ps0 p} {signs : S} (hn : inside.length ≤ 1000) (hb : pos < inside.length) (x : PSt σ σ' L js j ps0 p) (v : Has vars KP (WP inside L pos h s l)) (hA : ascP p) (hp : p.length ≤ 999) (hset : setAt inside (pos + 1) = some (some (signs, m))) (hw : ∀ c ∈ signs, c < 128)
    (k : PieceK σ L inside (p.length + 1) (js.length + 1) ⟨m + 1, ps0, p ++ [(barsAt (inside.drop (pos + 1)), signs)], h, s, l⟩ (Q .next)) :
    seq (asn "found" (callF p_law_set (xcons (var "inside") (xcons (op2 oAdd (var "at") (cint 1)) xnil)))) (seq (ifS (tcmp (oIs false) (var "found") cnone) (retS cnone) skip) (seq (exprS (lm1 oAppend (op2 oIdx (var "pieces") (op1 oNeg (cint 1))) (tup (xcons (op2 oIdx (var "found") (cint 0)) (xcons (op2 oIdx (var "found") (cint 1)) xnil))))) (asn "at" (op2 oIdx (var "found") (cint 2))))) ⟨vars, σ'⟩ Q E := by
  have e : EV (callF p_law_set (xcons (var "inside") (xcons (op2 oAdd (var "at") (cint 1)) xnil))) vars σ' (.tup [.bool (barsAt (inside.drop (pos + 1))), .str signs, .int ((m + 1 : Nat) : Int)]) := 
    EV.call2 (EV.vr v 5 rfl rfl) (EV.add (EV.vr v 0 rfl rfl) EV.int) fun Q E q => ⟨inside, pos + 1, _, rfl, by omega, hn, hset, q⟩
  refine seq_run (asnN v e (by decide) fun vars1 v1 => ?_)
  have ef := fun σ => EV.vr (σ := σ) v1 0 rfl rfl
  refine seq_run (ifS_false (TV.isNoneT (ef _)) ?_)
  refine seq_run (put_run x (EV.vr v1 5 rfl rfl) (by omega) (EV.two (EV.idxT (ef _) (EV.int (i := (0 : Nat))) (by decide) rfl) (EV.idxT (ef _) (EV.int (i := (1 : Nat))) (by decide) rfl)) ?_)
  refine asnH v1 1 (EV.idxT (ef _) (EV.int (i := (2 : Nat))) (by decide) rfl) rfl (by decide) fun vars2 v2 => ?_
  exact k _ _ _ _ (x.app _) ⟨fun i y w a b => v2.hold (i + 1) y w a b⟩ (ascP_snoc hA hw) (by rw [List.length_append, List.length_singleton]; omega) (Nat.le_succ _)
theorem both_off {P : Prop} [Decidable P] {h l : Bool} (hno : ¬ (P ∧ h = false ∧ l = false)) : (decide P && (!h && (!l && true))) = false := by
  cases h <;> cases l <;> simp_all
theorem TV.neL {f : Ex} {vars : Vars} {σ : Sto} {j : Nat} {p : Piece} (e : EV f vars σ (.lst j)) (hl : σ[j]? = some (.list (vP p))) (hA : ascP p) : ∀ Q E, Q (!p.isEmpty) (σ ++ [Cell.list []]) → tcmp (oEqNe true) f (Mine.lst xnil) vars σ Q E := fun Q E q =>
  e _ _ (show _ ≤ 1000000 ∧ _ from ⟨by show 0 ≤ 1000000; decide, _, _, _, _, .pl (ext_get hl) hA, .sl (xs := []) (new_get _ _) (by intro l h; cases h), by
    rw [eqv_P_nil]
    cases p with
    | nil => exact ⟨_, rfl, q⟩
    | cons a b => exact ⟨_, rfl, q⟩⟩)
theorem pieces_turn {q q1 : PS} (hn : inside.length ≤ 1000) (hasc : ∀ c ∈ inside, c < 128) (hs : pstep inside q = some q1) (hlt : q.pos < inside.length) (x : PSt σ σ' L js j q.ps0 q.p) (v0 : Has vars KP (WP inside L q.pos q.h q.s q.l)) (hA : ascP q.p) (hp : q.p.length ≤ 999) (hj : js.length ≤ 999)
    (k : PieceK σ L inside (q.p.length + 1) (js.length + 1) q1 (Q .next)) : f_law_pieces_b2 ⟨vars, σ'⟩ Q E := by
  obtain ⟨c, r, hcr⟩ : ∃ c r, inside.drop q.pos = c :: r := ⟨_, _, List.drop_eq_getElem_cons hlt⟩
  obtain ⟨ha, _, hdr⟩ := atI_drop hcr
  rw [atI_nat] at ha
  have hpos : q.pos ≤ inside.length := Nat.le_of_lt hlt
  refine seq_run (asnN v0 (EV.idx (EV.vr v0 5 rfl rfl) (EV.vr v0 0 rfl rfl) (by omega) ha) (by decide) fun vars1 v1 => ?_)
  have v : Has vars1 KP (WP inside L q.pos q.h q.s q.l) := ⟨fun i y w a b => v1.hold (i + 1) y w a b⟩
  have ag : EV (var "sign") vars1 σ' (.str [c]) := EV.vr v1 0 rfl rfl
  clear v1 v0
  have a1 : EV (var "inside") vars1 σ' (.str inside) := EV.vr v 5 rfl rfl
  have a2 : EV (var "at") vars1 σ' (.int q.pos) := EV.vr v 0 rfl rfl
  have ah : TV (tval (var "held")) vars1 σ' q.h := TV.vr v 3 rfl rfl
  have al : TV (tval (var "last")) vars1 σ' q.l := TV.vr v 1 rfl rfl
  have c1 := (TV.eqS (EV.slc a1 a2 (EV.add a2 (EV.int (i := 6))) (by omega)) (EV.str (l := [40, 63, 62, 46, 42, 63]))).and (ah.not.and (al.not.and (TV.lit (c := true))))
  have c2 := (TV.eqS (EV.slc a1 a2 (EV.add a2 (EV.int (i := 2))) (by omega)) (EV.str (l := [46, 42]))).and (ah.not.and (al.not.and (TV.lit (c := true))))
  have e6 : slc inside (some (q.pos : Int)) (some ((q.pos : Int) + 6)) = (inside.drop q.pos).take 6 := slc_drop inside q.pos 6 hpos
  have e2 : slc inside (some (q.pos : Int)) (some ((q.pos : Int) + 2)) = (inside.drop q.pos).take 2 := slc_drop inside q.pos 2 hpos
  rw [e6, hcr] at c1
  rw [e2, hcr] at c2
  unfold pstep at hs
  rw [hcr] at hs
  dsimp only at hs
  by_cases k1 : (c :: r).take 6 = [40, 63, 62, 46, 42, 63] ∧ q.h = false ∧ q.l = false
  · rw [if_pos k1] at hs
    rw [← Option.some.inj hs] at k
    exact ifS_true (c1.to (by rw [k1.2.1, k1.2.2, decide_eq_true k1.1]; rfl)) (br_held x v hp hj k)
  rw [if_neg k1] at hs
  refine ifS_false (c1.to (both_off k1)) ?_
  by_cases k2 : (c :: r).take 2 = [46, 42] ∧ q.h = false ∧ q.l = false
  · rw [if_pos k2] at hs
    rw [← Option.some.inj hs] at k
    exact ifS_true (c2.to (by rw [k2.2.1, k2.2.2, decide_eq_true k2.1]; rfl)) (br_last x v hp hj k)
  rw [if_neg k2] at hs
  refine ifS_false (c2.to (both_off k2)) ?_
  clear c1 c2
  have k4 := pst_cases hs
  refine ifS_false ((TV.vr v 2 rfl rfl).to (Bool.eq_false_iff.mpr k4.1)) ?_
  have cp : ∀ m : Nat, TV (tcmp (oEqNe false) (var "sign") (cstr [m])) vars1 σ' (decide (c = m)) := fun m => (TV.eqS ag EV.str).to (decide_eq_decide.mpr ⟨fun h => (List.cons.inj h).1, fun h => by rw [h]⟩)
  refine k4.2.elim (fun k4 => ?_) fun k4 => ifS_false ?_ ?_
  · rw [k4.2] at k
    refine ((cp 41).to (decide_eq_true k4.1.1)) _ _ ?_
    rw [if_pos rfl]
    refine (ah.to k4.1.2.1) _ _ ?_
    rw [if_pos rfl]
    refine TV.neL (x.lastEV (EV.vr v 4 rfl rfl)) x.last hA _ _ ?_
    rw [show (!q.p.isEmpty) = true by rw [List.isEmpty_eq_false_iff.mpr k4.1.2.2]; rfl, if_pos rfl]
    exact br_shut x v hA k _
  · exact ((cp 41).to (decide_eq_false (pch_ne k4.2))).andF
  refine (pch_cases k4.2).elim (fun k5 => ?_) fun k5 => ifS_false ((cp 46).to (decide_eq_false k5.1)) (k5.2.elim (fun k6 => ?_) fun k6 => ifS_false ((cp 91).to (decide_eq_false k6.1)) ?_)
  · rw [k5.2] at k
    exact ifS_true ((cp 46).to (decide_eq_true k5.1)) (br_put x v hA hp (EV.two EV.bool EV.str) (by intro e he; cases he) k)
  · refine ifS_true ((cp 91).to (decide_eq_true k6.1)) ?_
    obtain ⟨signs, m, hset, e⟩ := k6.2
    rw [e, ← hdr] at k
    exact br_set hn hlt x v hA hp hset (set_asc hasc hset) k
  have a3 : EV (op2 oAdd (var "at") (cint 1)) vars1 σ' (.int ((q.pos + 1 : Nat) : Int)) := EV.add a2 EV.int
  refine (pch2_cases k6.2).elim (fun k7 => ?_) fun k7 => ?_
  · obtain ⟨k7, d, r', hr, kd, e⟩ := k7
    rw [hr] at hdr
    rw [e] at k
    obtain ⟨hb, hb2, _⟩ := atI_drop hdr
    rw [atI_nat] at hb
    refine ifS_true (((cp 92).to (decide_eq_true k7)).andT (((TV.lt a3 (EV.len a1 (by omega))).to (decide_eq_true (by omega))).andT (((TV.inS (EV.idx a1 a3 (by omega) hb) (EV.vr v 6 rfl rfl)).to (decide_eq_true kd)).andT TV.lit))) ?_
    exact br_put x v hA hp (EV.two EV.bool (EV.idx a1 a3 (by omega) hb)) (by intro e he; rw [List.mem_singleton.mp he]; exact hasc d (List.mem_of_getElem? hb)) k
  · rw [k7.2.2] at k
    exact ifS_false (((cp 92).to (decide_eq_false k7.1)).andF) (ifS_false ((TV.inS ag (EV.vr v 6 rfl rfl)).to (decide_eq_false k7.2.1)) (br_put x v hA hp (EV.two EV.bool ag) (by intro e he; rw [List.mem_singleton.mp he]; exact hasc c (List.mem_of_getElem? ha)) k))
end
theorem pieces_loop {σ : Sto} {inside : S} {L : Nat} (hn : inside.length ≤ 1000) (hasc : ∀ c ∈ inside, c < 128) {E : X → St → Prop} {Q' : Fl → St → Prop} {q' : PS} (k : PieceK σ L inside 1000 1000 q' (Q' .next)) (n : Nat) :
    ∀ (q : PS) (js : List Nat) (j : Nat) (σ' : Sto) (vars : Vars), prun inside n q = some q' → PSt σ σ' L js j q.ps0 q.p → Has vars KP (WP inside L q.pos q.h q.s q.l) → ascP q.p → q.p.length + n ≤ 1000 → js.length + n ≤ 1000 →
      loopN f_law_pieces_t1 f_law_pieces_b2 n ⟨vars, σ'⟩ Q' E := by
  induction n with
  | zero => exact fun q js j σ' vars hr => absurd hr.symm (Option.some_ne_none _)
  | succ n ih =>
    intro q js j σ' vars hr x v hA hp hj
    unfold prun at hr
    refine loop_go (TV.lt (EV.vr v 0 rfl rfl) (EV.len (EV.vr v 5 rfl rfl) (by omega))) (fun hc => ?_) (fun hc => ?_)
    · have hlt : q.pos < inside.length := Int.ofNat_lt.mp (of_decide_eq_true hc)
      rw [if_pos hlt] at hr
      obtain ⟨q1, hs, hr⟩ := Option.bind_eq_some_iff.mp hr
      exact pieces_turn hn hasc hs hlt x v hA (by omega) (by omega) fun vars1 σ1 js1 j1 y1 y2 y3 y4 y5 => ih q1 js1 j1 σ1 vars1 hr y1 y2 y3 (by omega) (by omega)
    · have hlt : ¬ q.pos < inside.length := fun h => of_decide_eq_false hc (Int.ofNat_lt.mpr h)
      rw [if_neg hlt] at hr
      rw [Option.some.inj hr] at x v hA hp
      exact k _ _ _ _ x v hA (by omega) (by omega)
noncomputable abbrev hdT : S := [40, 63, 115, 58]
noncomputable abbrev tlT : S := [41, 92, 90]
noncomputable def p_law_pieces : Spec' := fun Vs σ Q E => ∃ inside q', Vs = [.str (hdT ++ inside ++ tlT)] ∧ inside.length ≤ 900 ∧ (∀ c ∈ inside, c < 128) ∧
  prun inside (inside.length + 1) ⟨0, [], [], false, false, false⟩ = some q' ∧ q'.h = false ∧ q'.s = false ∧
  ∀ ν i, (q'.ps0 = [] → Pcs (σ ++ ν) i q'.p none) → (∀ p0 mid, q'.ps0 = p0 :: mid → Pcs (σ ++ ν) i p0 (some (mid, q'.p))) → Q (.lst i) (σ ++ ν)
theorem hd_slc (a b : S) : slc (hdT ++ a ++ b) none (some 4) = hdT := by
  have := slc_take (hdT ++ a ++ b) 4 (.inr trivial)
  rw [show ((4 : Nat) : Int) = 4 from rfl] at this
  rw [this, List.append_assoc, List.take_left' (by rfl)]
theorem clip_neg3 (n : Nat) (h : 3 ≤ n) : clipAt n (-3) = n - 3 := clipAt_neg n 3 (by decide)
theorem tl_slc (a : S) : slc (a ++ tlT) (some (-3)) none = tlT := by
  have hl : (a ++ tlT).length = a.length + 3 := by simp
  unfold slc
  simp only [Option.elim]
  rw [clip_neg3 _ (by omega), hl, show a.length + 3 - 3 = a.length by omega, List.drop_left' rfl, show a.length + 3 - a.length = 3 by omega]
  rfl
theorem in_slc (a : S) : slc (hdT ++ a ++ tlT) (some 4) (some (-3)) = a := by
  have hl : (hdT ++ a ++ tlT).length = a.length + 7 := by simp
  unfold slc
  simp only [Option.elim]
  rw [clip_neg3 _ (by omega), hl, show (4 : Int) = ((4 : Nat) : Int) from rfl, clip_nat, Nat.min_eq_left (by omega), List.append_assoc, List.drop_left' (by rfl), List.take_left' (by omega)]
theorem i_law_pieces {Vs : List V} {σ : Sto} {Q : V → Sto → Prop} {E : X → Sto → Prop} (h : p_law_pieces Vs σ Q E) : Vs.length = 1 ∧ f_law_pieces ⟨bindV ["text"] Vs, σ⟩ (fin1 Q) (fin2 E) := by
  obtain ⟨inside, q', rfl, hn, hasc, hr, hh, hs, hQ⟩ := h
  refine ⟨rfl, ?_⟩
  have v0 := Has.one (x := "text") (v := .str (hdT ++ inside ++ tlT))
  generalize bindV ["text"] [V.str (hdT ++ inside ++ tlT)] = vars at v0
  have hl : (hdT ++ inside ++ tlT).length = inside.length + 7 := by simp
  refine seq_run (asnN v0 EV.str (by decide) fun vars1 v1 => ?_)
  have a1 : EV (var "text") vars1 σ (.str (hdT ++ inside ++ tlT)) := EV.vr v1 1 rfl rfl
  refine seq_run (ifS_false ?_ ?_)
  · refine TV.orF ((TV.lt (EV.len a1 (by omega)) EV.int).to (by rw [hl]; exact decide_eq_false (by omega))) ?_
    have t1 := TV.neS (EV.slcG a1 EV.none (EV.int (i := 4)) rfl rfl (by omega)) (EV.str (l := [40, 63, 115, 58]))
    have t2 := TV.neS (EV.slcG a1 (EV.neg (EV.int (i := 3))) EV.none rfl rfl (by omega)) (EV.str (l := [41, 92, 90]))
    rw [hd_slc] at t1
    rw [show (-(3 : Int)) = -3 from rfl, tl_slc] at t2
    exact TV.orF (t1.to (by simp)) (TV.orF (t2.to (by simp)) TV.lit)
  have t3 := EV.slcG a1 (EV.int (i := 4)) (EV.neg (EV.int (i := 3))) rfl rfl (by omega)
  rw [show (-(3 : Int)) = -3 from rfl, in_slc] at t3
  refine seq_run (asnN v1 t3 (by decide) fun vars2 v2 => ?_)
  have ep : asn "pieces" (lst (xcons (lst xnil) xnil)) ⟨vars2, σ⟩ = fun Q E => 0 ≤ lim ∧ (1 ≤ lim ∧ Q .next ⟨upd vars2 "pieces" (.v (.lst (σ.length + 1))), σ ++ [.list []] ++ [.list [.lst σ.length]]⟩) := by
    funext Q E
    show (_ ∧ _ ∧ _) = _
    rw [List.length_append]
    rfl
  refine seq_run ?_
  rw [ep]
  refine ⟨by decide, by decide, ?_⟩
  have v3 := v2.new (x := "pieces") (w := .v (.lst (σ.length + 1))) (by decide)
  generalize upd vars2 "pieces" (.v (.lst (σ.length + 1))) = vars3 at v3
  refine seq_run (asnN v3 EV.bool (by decide) fun vars4 v4 => ?_)
  refine seq_run (asnN v4 EV.bool (by decide) fun vars5 v5 => ?_)
  refine seq_run (asnN v5 EV.bool (by decide) fun vars6 v6 => ?_)
  refine seq_run (asnN v6 EV.int (by decide) fun vars7 v7 => ?_)
  refine seq_run ⟨inside.length + 1, pieces_loop (σ := σ) (L := σ.length + 1) (by omega) hasc (fun vars' σ'' js' j' x v _ h2 h1 => ?_) _ _ [] σ.length _ _ hr ⟨⟨[.list [], .list [.lst σ.length]], by simp⟩, by omega, by simp, by simp, by simp, .nil, by simp [vP]⟩ (Has.pre (K := KP) (K2 := ["text"]) (W := WP inside (σ.length + 1) 0 false false false) (W2 := [.v (.str (hdT ++ inside ++ tlT))]) v7 rfl) (by intro e he; cases he) (by simp; omega) (by simp; omega)⟩
  · rw [hh, hs] at v
    refine seq_run (ifS_false (TV.orF (TV.vr v 3 rfl rfl) (TV.orF (TV.vr v 2 rfl rfl) TV.lit)) ?_)
    refine ret_run (EV.vr v 4 rfl rfl) ?_
    obtain ⟨ν, rfl⟩ := x.low
    refine hQ ν (σ.length + 1) (fun e => ?_) (fun p0 mid e => ?_)
    · have hi := x.inner
      rw [e] at hi
      cases hi
      exact .one (by simpa using x.outer) x.last h2
    · have hi := x.inner
      rw [e] at hi
      cases hi with
      | cons k1 k2 k3 => exact .more (by simpa using x.outer) k1 k2 k3 x.last h2 (by simp at h1; omega)
theorem c_law_pieces : Contract 1 "_law_pieces" p_law_pieces := contract_of (d := r_law_pieces) (ps := ["text"]) (by kernel_rfl) sd_law_pieces (by decide +kernel) (fun pm code doc vs h => by obtain ⟨a, rfl⟩ := len1 h; rfl) fun _ _ _ _ => i_law_pieces
end
end Mine

namespace Mine
section
noncomputable abbrev r_join_translated_parts : DefRec := recAt 13
noncomputable def f_join_translated_parts_t1 : Tx := (tand (tcmp oLt (var "i") (var "n")) (tand (tcmp (oIs true) (op2 oIdx (var "inp") (var "i")) (var "STAR")) (tlit true)))
noncomputable def f_join_translated_parts_b2 : Sx := (seq (exprS (appF "add" (op2 oIdx (var "inp") (var "i")))) (aug oIadd "i" (cint 1)))
theorem f_join_translated_parts_b2_run (st : St) (Q : Fl → St → Prop) (E : X → St → Prop) : f_join_translated_parts_b2 st Q E = (seq (exprS (appF "add" (op2 oIdx (var "inp") (var "i")))) (aug oIadd "i" (cint 1))) st Q E := rfl
noncomputable def f_join_translated_parts_t3 : Tx := (tcmp oLt (var "i") (var "n"))
noncomputable def f_join_translated_parts_t4 : Tx := (tand (tcmp oLt (var "i") (var "n")) (tand (tcmp (oIs true) (op2 oIdx (var "inp") (var "i")) (var "STAR")) (tlit true)))
noncomputable def f_join_translated_parts_b5 : Sx := (seq (exprS (lm1 oAppend (var "fixed") (op2 oIdx (var "inp") (var "i")))) (aug oIadd "i" (cint 1)))
theorem f_join_translated_parts_b5_run (st : St) (Q : Fl → St → Prop) (E : X → St → Prop) : f_join_translated_parts_b5 st Q E = (seq (exprS (lm1 oAppend (var "fixed") (op2 oIdx (var "inp") (var "i")))) (aug oIadd "i" (cint 1))) st Q E := rfl
noncomputable def f_join_translated_parts_b6 : Sx := (seq (asrt (tcmp (oIs false) (op2 oIdx (var "inp") (var "i")) (var "STAR"))) (seq (aug oIadd "i" (cint 1)) (seq (ifS (tcmp (oEqNe false) (var "i") (var "n")) (seq (exprS (appF "add" (cstr [46, 42]))) brk) skip) (seq (asrt (tcmp (oIs true) (op2 oIdx (var "inp") (var "i")) (var "STAR"))) (seq (asn "fixed" (lst xnil)) (seq (whileS f_join_translated_parts_t4 f_join_translated_parts_b5) (seq (asn "fixed" (sm1 oJoin (cstr []) (var "fixed"))) (ifS (tcmp (oEqNe false) (var "i") (var "n")) (seq (exprS (appF "add" (cstr [46, 42]))) (exprS (appF "add" (var "fixed")))) (exprS (appF "add" (fstr [40, 63, 62, 46, 42, 63] (var "fixed") [41])))))))))))
theorem f_join_translated_parts_b6_run (st : St) (Q : Fl → St → Prop) (E : X → St → Prop) : f_join_translated_parts_b6 st Q E = (seq (asrt (tcmp (oIs false) (op2 oIdx (var "inp") (var "i")) (var "STAR"))) (seq (aug oIadd "i" (cint 1)) (seq (ifS (tcmp (oEqNe false) (var "i") (var "n")) (seq (exprS (appF "add" (cstr [46, 42]))) brk) skip) (seq (asrt (tcmp (oIs true) (op2 oIdx (var "inp") (var "i")) (var "STAR"))) (seq (asn "fixed" (lst xnil)) (seq (whileS f_join_translated_parts_t4 f_join_translated_parts_b5) (seq (asn "fixed" (sm1 oJoin (cstr []) (var "fixed"))) (ifS (tcmp (oEqNe false) (var "i") (var "n")) (seq (exprS (appF "add" (cstr [46, 42]))) (exprS (appF "add" (var "fixed")))) (exprS (appF "add" (fstr [40, 63, 62, 46, 42, 63] (var "fixed") [41]))))))))))) st Q E := rfl
noncomputable def f_join_translated_parts : Sx := (seq (asn "res" (lst xnil)) (seq (asnApp "add" "res") (seq (asnSw "i" "n" (tup (xcons (cint 0) (xcons (op1 oLen (var "inp")) xnil)))) (seq (whileS f_join_translated_parts_t1 f_join_translated_parts_b2) (seq (whileS f_join_translated_parts_t3 f_join_translated_parts_b6) (seq (asrt (tcmp (oEqNe false) (var "i") (var "n"))) (seq (asn "res" (sm1 oJoin (cstr []) (var "res"))) (retS (fstr [40, 63, 115, 58] (var "res") [41, 92, 90])))))))))
theorem f_join_translated_parts_run (st : St) (Q : Fl → St → Prop) (E : X → St → Prop) : f_join_translated_parts st Q E = (seq (asn "res" (lst xnil)) (seq (asnApp "add" "res") (seq (asnSw "i" "n" (tup (xcons (cint 0) (xcons (op1 oLen (var "inp")) xnil)))) (seq (whileS f_join_translated_parts_t1 f_join_translated_parts_b2) (seq (whileS f_join_translated_parts_t3 f_join_translated_parts_b6) (seq (asrt (tcmp (oEqNe false) (var "i") (var "n"))) (seq (asn "res" (sm1 oJoin (cstr []) (var "res"))) (retS (fstr [40, 63, 115, 58] (var "res") [41, 92, 90]))))))))) st Q E := rfl
theorem sd_join_translated_parts : SoundSs 0 .pl r_join_translated_parts.scope r_join_translated_parts.body f_join_translated_parts := by
  refine ss_cons ?_ ?_
  refine s_asn ?_ (by decide +kernel)
  refine s_lst ?_
  exact e_nil
  refine ss_cons ?_ ?_
  exact s_asnApp (by decide +kernel) (by decide +kernel) (by decide +kernel)
  refine ss_cons ?_ ?_
  refine s_asnSw ?_ (by decide +kernel) (by decide +kernel)
  refine s_tup ?_
  refine e_cons ?_ ?_
  exact s_int
  refine e_cons ?_ ?_
  refine s_blt1 b_len (by decide +kernel) o_len ?_
  exact s_var (by decide +kernel) (by decide +kernel)
  exact e_nil
  refine ss_cons ?_ ?_
  refine s_while ?_ ?_
  refine t_bop ?_
  refine a_and ?_ ?_
  refine t_cmp o_lt ?_ ?_
  exact s_var (by decide +kernel) (by decide +kernel)
  exact s_var (by decide +kernel) (by decide +kernel)
  refine a_and ?_ ?_
  refine t_cmp o_isNot ?_ ?_
  refine s_idx ?_ ?_
  exact s_var (by decide +kernel) (by decide +kernel)
  exact s_var (by decide +kernel) (by decide +kernel)
  exact s_var (by decide +kernel) (by decide +kernel)
  exact a_and_nil
  refine ss_cons ?_ ?_
  refine s_expr ?_
  refine s_app ?_ (by decide +kernel) (by decide +kernel)
  refine s_idx ?_ ?_
  exact s_var (by decide +kernel) (by decide +kernel)
  exact s_var (by decide +kernel) (by decide +kernel)
  refine ss_one ?_
  refine s_aug o_iadd ?_ (by decide +kernel) (by decide +kernel)
  exact s_int
  refine ss_cons ?_ ?_
  refine s_while ?_ ?_
  refine t_cmp o_lt ?_ ?_
  exact s_var (by decide +kernel) (by decide +kernel)
  exact s_var (by decide +kernel) (by decide +kernel)
  refine ss_cons ?_ ?_
  refine s_asrt ?_
  refine t_cmp o_is ?_ ?_
  refine s_idx ?_ ?_
  exact s_var (by decide +kernel) (by decide +kernel)
  exact s_var (by decide +kernel) (by decide +kernel)
  exact s_var (by decide +kernel) (by decide +kernel)
  refine ss_cons ?_ ?_
  refine s_aug o_iadd ?_ (by decide +kernel) (by decide +kernel)
  exact s_int
  refine ss_cons ?_ ?_
  refine s_if ?_ ?_ ?_
  refine t_cmp o_eq ?_ ?_
  exact s_var (by decide +kernel) (by decide +kernel)
  exact s_var (by decide +kernel) (by decide +kernel)
  refine ss_cons ?_ ?_
  refine s_expr ?_
  refine s_app ?_ (by decide +kernel) (by decide +kernel)
  exact s_str (by decide +kernel)
  refine ss_one ?_
  exact s_brk
  exact ss_nil
  refine ss_cons ?_ ?_
  refine s_asrt ?_
  refine t_cmp o_isNot ?_ ?_
  refine s_idx ?_ ?_
  exact s_var (by decide +kernel) (by decide +kernel)
  exact s_var (by decide +kernel) (by decide +kernel)
  exact s_var (by decide +kernel) (by decide +kernel)
  refine ss_cons ?_ ?_
  refine s_asn ?_ (by decide +kernel)
  refine s_lst ?_
  exact e_nil
  refine ss_cons ?_ ?_
  refine s_while ?_ ?_
  refine t_bop ?_
  refine a_and ?_ ?_
  refine t_cmp o_lt ?_ ?_
  exact s_var (by decide +kernel) (by decide +kernel)
  exact s_var (by decide +kernel) (by decide +kernel)
  refine a_and ?_ ?_
  refine t_cmp o_isNot ?_ ?_
  refine s_idx ?_ ?_
  exact s_var (by decide +kernel) (by decide +kernel)
  exact s_var (by decide +kernel) (by decide +kernel)
  exact s_var (by decide +kernel) (by decide +kernel)
  exact a_and_nil
  refine ss_cons ?_ ?_
  refine s_expr ?_
  refine s_append ?_ ?_
  exact s_var (by decide +kernel) (by decide +kernel)
  refine s_idx ?_ ?_
  exact s_var (by decide +kernel) (by decide +kernel)
  exact s_var (by decide +kernel) (by decide +kernel)
  refine ss_one ?_
  refine s_aug o_iadd ?_ (by decide +kernel) (by decide +kernel)
  exact s_int
  refine ss_cons ?_ ?_
  refine s_asn ?_ (by decide +kernel)
  refine s_join ?_ ?_
  exact s_str (by decide +kernel)
  exact s_var (by decide +kernel) (by decide +kernel)
  refine ss_one ?_
  refine s_if ?_ ?_ ?_
  refine t_cmp o_eq ?_ ?_
  exact s_var (by decide +kernel) (by decide +kernel)
  exact s_var (by decide +kernel) (by decide +kernel)
  refine ss_cons ?_ ?_
  refine s_expr ?_
  refine s_app ?_ (by decide +kernel) (by decide +kernel)
  exact s_str (by decide +kernel)
  refine ss_one ?_
  refine s_expr ?_
  refine s_app ?_ (by decide +kernel) (by decide +kernel)
  exact s_var (by decide +kernel) (by decide +kernel)
  refine ss_one ?_
  refine s_expr ?_
  refine s_app ?_ (by decide +kernel) (by decide +kernel)
  refine s_fstr ?_ (by decide +kernel) (by decide +kernel) (by decide +kernel)
  exact s_var (by decide +kernel) (by decide +kernel)
  refine ss_cons ?_ ?_
  refine s_asrt ?_
  refine t_cmp o_eq ?_ ?_
  exact s_var (by decide +kernel) (by decide +kernel)
  exact s_var (by decide +kernel) (by decide +kernel)
  refine ss_cons ?_ ?_
  refine s_asn ?_ (by decide +kernel)
  refine s_join ?_ ?_
  exact s_str (by decide +kernel)
  exact s_var (by decide +kernel) (by decide +kernel)
  refine ss_one ?_
  refine s_ret ?_
  refine s_fstr ?_ (by decide +kernel) (by decide +kernel) (by decide +kernel)
  exact s_var (by decide +kernel) (by decide +kernel)
theorem f_join_translated_parts_t3_run' : f_join_translated_parts_t3 = tcmp oLt (var "i") (var "n") := rfl
theorem app_run {x : String} {f : Ex} {vars : Vars} {σ : Sto} {i : Nat} {vs : List V} {v : V} {Q : Fl → St → Prop} {E} (hx : vars x = some (.app i)) (hf : EV f vars σ v) (hc : σ[i]? = some (.list vs)) (hl : vs.length < 1000000) (hq : Q .next ⟨vars, σ.set i (.list (vs ++ [v]))⟩) : exprS (appF x f) ⟨vars, σ⟩ Q E := ⟨i, hx, hf _ _ ⟨vs, hc, hl, hq⟩⟩
theorem inc_run {x : String} {vars : Vars} {σ : Sto} {k : Nat} {Q : Fl → St → Prop} {E} (h : vars x = some (.v (.int k))) (hq : Q .next ⟨upd vars x (.v (.int (k + 1 : Nat))), σ⟩) : aug oIadd x (cint 1) ⟨vars, σ⟩ Q E := ⟨_, h, hq⟩
theorem upd_ne {vars : Vars} {x y : String} {w : Wv} (h : y ≠ x) : upd vars x w y = vars y := by simp [upd, h]
theorem upd_eq {vars : Vars} {x : String} {w : Wv} : upd vars x w x = some w := by simp [upd]
theorem loop_true {t : Tx} {b : Sx} {n : Nat} {st : St} {Q : Fl → St → Prop} {E} (h : TV t st.vars st.sto true) (k : b st (fun fl st' => match fl with
      | .next => loopN t b n st' Q E
      | .cont => loopN t b n st' Q E
      | .brk => Q .next st'
      | .ret v => Q (.ret v) st') E) : loopN t b (n + 1) st Q E := h _ _ (by rw [if_pos rfl]; exact k)
theorem loop_false {t : Tx} {b : Sx} {n : Nat} {st : St} {Q : Fl → St → Prop} {E} (h : TV t st.vars st.sto false) (k : Q .next st) : loopN t b (n + 1) st Q E := h _ _ (by rw [if_neg (by decide)]; exact k)
noncomputable def vO (o : Nat) : Option S → V | none => .ob o | some s => .str s
noncomputable def vOs (o : Nat) (ps : List (Option S)) : List V := ps.map (vO o)
noncomputable def restP : List (List S) → List (Option S)
  | [] => []
  | f :: r => none :: (f.map some ++ restP r)
noncomputable def midsOk : List (List S) → Prop
  | [] => True
  | [_] => True
  | f :: g :: r => f ≠ [] ∧ midsOk (g :: r)
noncomputable def joinL : List (List S) → List S
  | [] => []
  | [f] => if f = [] then [[46, 42]] else [[46, 42], f.flatten]
  | f :: g :: r => ([40, 63, 62, 46, 42, 63] ++ f.flatten ++ [41]) :: joinL (g :: r)
theorem restP_head (r : List (List S)) : restP r = [] ∨ ∃ t, restP r = none :: t := by
  cases r with
  | nil => exact .inl rfl
  | cons f r => exact .inr ⟨_, rfl⟩
theorem drop_get {α : Type} {xs : List α} {k : Nat} {a : α} {r : List α} (h : xs.drop k = a :: r) : xs[k]? = some a ∧ k < xs.length ∧ xs.drop (k + 1) = r := by
  have h1 : xs[k]? = (xs.drop k)[0]? := by rw [List.getElem?_drop]; simp
  rw [h] at h1
  refine ⟨h1, (List.getElem?_eq_some_iff.mp h1).1, ?_⟩
  rw [← List.drop_drop, h]; rfl
theorem drop_nil {α : Type} {xs : List α} {k : Nat} (h : xs.drop k = []) : xs.length ≤ k := by
  have := congrArg List.length h; simp at this; omega
structure JV (vars : Vars) (l o n k : Nat) (res : Nat) : Prop where
  v1 : vars "inp" = some (.v (.lst l))
  v2 : vars "STAR" = some (.v (.ob o))
  v3 : vars "n" = some (.v (.int n))
  v4 : vars "i" = some (.v (.int k))
  v5 : vars "add" = some (.app res)
  v6 : vars "res" = some (.v (.lst res))
theorem JV.inc {vars l o n k res} (v : JV vars l o n k res) : JV (upd vars "i" (.v (.int (k + 1 : Nat)))) l o n (k + 1) res :=
  ⟨by simp [upd, v.v1], by simp [upd, v.v2], by simp [upd, v.v3], by simp [upd], by simp [upd, v.v5], by simp [upd, v.v6]⟩
theorem JV.fix {vars l o n k res} (v : JV vars l o n k res) (w : Wv) : JV (upd vars "fixed" w) l o n k res :=
  ⟨by simp [upd, v.v1], by simp [upd, v.v2], by simp [upd, v.v3], by simp [upd, v.v4], by simp [upd, v.v5], by simp [upd, v.v6]⟩
theorem not_star {vars : Vars} {σ : Sto} {l o k res : Nat} {ps : List (Option S)} (v : JV vars l o ps.length k res) (hl : σ[l]? = some (.list (vOs o ps))) (ho : σ[o]? = some .obj) (hn : ps.length ≤ 1000) :
    TV (tand (tcmp oLt (var "i") (var "n")) (tand (tcmp (oIs true) (op2 oIdx (var "inp") (var "i")) (var "STAR")) (tlit true))) vars σ (match ps.drop k with | some _ :: _ => true | _ => false) := by
  have tl := TV.lt (EV.var (σ := σ) v.v4) (EV.var v.v3)
  cases hd : ps.drop k with
  | nil =>
    have := drop_nil hd
    exact TV.andF (tl.to (by simp only [decide_eq_false_iff_not]; omega))
  | cons p r =>
    obtain ⟨h1, h2, h3⟩ := drop_get hd
    have hg : (vOs o ps)[k]? = some (vO o p) := by rw [vOs, List.getElem?_map, h1]; rfl
    have ev := EV.idxL (EV.var v.v1) (EV.var v.v4) hl (by omega) hg
    refine TV.andT (tl.to (by simp only [decide_eq_true_eq]; omega)) ?_
    cases p with
    | none => exact TV.andF (TV.isOb ev (EV.var v.v2) ho)
    | some s => exact TV.andT (TV.isStr ev (EV.var v.v2)) TV.lit
theorem set_same {α : Type} {xs : List α} {i : Nat} {a : α} (h : xs[i]? = some a) : xs.set i a = xs := by
  obtain ⟨hi, rfl⟩ := List.getElem?_eq_some_iff.mp h
  exact List.set_getElem_self hi
theorem join_l1 {l o : Nat} {ps : List (Option S)} (hn : ps.length ≤ 1000) {E : X → St → Prop} {Q' : Fl → St → Prop} {res : Nat} :
    ∀ (fs acc : List S) (k : Nat) (rem : List (Option S)) (σ : Sto) (vars : Vars), σ[l]? = some (.list (vOs o ps)) → σ[o]? = some .obj → l ≠ res → o ≠ res → σ[res]? = some (.list (vS acc)) → acc.length + fs.length ≤ 1000 →
      ps.drop k = fs.map some ++ rem → (rem = [] ∨ ∃ t, rem = none :: t) → JV vars l o ps.length k res →
      (∀ vars', JV vars' l o ps.length (k + fs.length) res → Q' .next ⟨vars', σ.set res (.list (vS (acc ++ fs)))⟩) →
      loopN f_join_translated_parts_t1 f_join_translated_parts_b2 (fs.length + 1) ⟨vars, σ⟩ Q' E
  | [], acc, k, rem, σ, vars, hl, ho, n1, n2, hr, ha, hd, hrem, v, hq => by
    refine loop_false ((not_star v hl ho hn).to ?_) ?_
    · rw [hd]; rcases hrem with rfl | ⟨t, rfl⟩ <;> rfl
    · have e : σ.set res (.list (vS (acc ++ []))) = σ := by
        rw [List.append_nil]
        exact set_same hr
      have := hq vars (by simpa using v)
      rwa [e] at this
  | s :: fs, acc, k, rem, σ, vars, hl, ho, n1, n2, hr, ha, hd, hrem, v, hq => by
    simp only [List.length_cons] at ha
    refine loop_true ((not_star v hl ho hn).to ?_) ?_
    · rw [hd]; rfl
    obtain ⟨h1, h2, h3⟩ := drop_get (show ps.drop k = some s :: (fs.map some ++ rem) from hd)
    have hg : (vOs o ps)[k]? = some (.str s) := by rw [vOs, List.getElem?_map, h1]; rfl
    have ev := EV.idxL (EV.var v.v1) (EV.var v.v4) hl (by omega) hg
    have hlt := (List.getElem?_eq_some_iff.mp hr).1
    rw [f_join_translated_parts_b2_run]
    refine seq_run (app_run v.v5 ev hr (by rw [vS_len]; omega) ?_)
    refine inc_run v.v4 ?_
    rw [show (vS acc ++ [V.str s] : List V) = vS (acc ++ [s]) by rw [vS_app]; rfl]
    refine join_l1 hn fs (acc ++ [s]) (k + 1) rem _ _ (by rw [List.getElem?_set_ne (Ne.symm n1)]; exact hl) (by rw [List.getElem?_set_ne (Ne.symm n2)]; exact ho) n1 n2 (by rw [List.getElem?_set_self hlt]) (by simp; omega) h3 hrem v.inc (fun vars' v' => ?_)
    rw [List.set_set, List.append_assoc, List.singleton_append]
    refine hq vars' ?_
    rw [List.length_cons, show k + (fs.length + 1) = k + 1 + fs.length by omega]; exact v'
theorem join_l2 {l o : Nat} {ps : List (Option S)} (hn : ps.length ≤ 1000) {E : X → St → Prop} {Q' : Fl → St → Prop} {res fx : Nat} :
    ∀ (fs acc : List S) (k : Nat) (rem : List (Option S)) (σ : Sto) (vars : Vars), σ[l]? = some (.list (vOs o ps)) → σ[o]? = some .obj → l ≠ fx → o ≠ fx → σ[fx]? = some (.list (vS acc)) → acc.length + fs.length ≤ 1000 →
      ps.drop k = fs.map some ++ rem → (rem = [] ∨ ∃ t, rem = none :: t) → JV vars l o ps.length k res → vars "fixed" = some (.v (.lst fx)) →
      (∀ vars', JV vars' l o ps.length (k + fs.length) res → vars' "fixed" = some (.v (.lst fx)) → Q' .next ⟨vars', σ.set fx (.list (vS (acc ++ fs)))⟩) →
      loopN f_join_translated_parts_t4 f_join_translated_parts_b5 (fs.length + 1) ⟨vars, σ⟩ Q' E
  | [], acc, k, rem, σ, vars, hl, ho, n1, n2, hr, ha, hd, hrem, v, hf, hq => by
    refine loop_false ((not_star v hl ho hn).to ?_) ?_
    · rw [hd]; rcases hrem with rfl | ⟨t, rfl⟩ <;> rfl
    · have e : σ.set fx (.list (vS (acc ++ []))) = σ := by
        rw [List.append_nil]
        exact set_same hr
      have := hq vars (by simpa using v) hf
      rwa [e] at this
  | s :: fs, acc, k, rem, σ, vars, hl, ho, n1, n2, hr, ha, hd, hrem, v, hf, hq => by
    simp only [List.length_cons] at ha
    refine loop_true ((not_star v hl ho hn).to ?_) ?_
    · rw [hd]; rfl
    obtain ⟨h1, h2, h3⟩ := drop_get (show ps.drop k = some s :: (fs.map some ++ rem) from hd)
    have hg : (vOs o ps)[k]? = some (.str s) := by rw [vOs, List.getElem?_map, h1]; rfl
    have ev := EV.idxL (EV.var v.v1) (EV.var v.v4) hl (by omega) hg
    have hlt := (List.getElem?_eq_some_iff.mp hr).1
    rw [f_join_translated_parts_b5_run]
    refine seq_run ⟨_, hf, is_lst hr, ev _ _ ⟨_, hr, by rw [vS_len]; show _ < 1000000; omega, ?_⟩⟩
    refine inc_run v.v4 ?_
    rw [show (vS acc ++ [V.str s] : List V) = vS (acc ++ [s]) by rw [vS_app]; rfl]
    refine join_l2 hn fs (acc ++ [s]) (k + 1) rem _ _ (by rw [List.getElem?_set_ne (Ne.symm n1)]; exact hl) (by rw [List.getElem?_set_ne (Ne.symm n2)]; exact ho) n1 n2 (by rw [List.getElem?_set_self hlt]) (by simp; omega) h3 hrem v.inc (by simp [upd, hf]) (fun vars' v' hf' => ?_)
    rw [List.set_set, List.append_assoc, List.singleton_append]
    refine hq vars' ?_ hf'
    rw [List.length_cons, show k + (fs.length + 1) = k + 1 + fs.length by omega]; exact v'
theorem asrt_run {t : Tx} {st : St} {Q : Fl → St → Prop} {E} (h : TV t st.vars st.sto true) (k : Q .next st) : asrt t st Q E := h _ _ ⟨rfl, k⟩
theorem skip_run {st : St} {Q : Fl → St → Prop} {E} (k : Q .next st) : skip st Q E := k
theorem join_l3 {l o : Nat} {ps : List (Option S)} (hn : ps.length ≤ 1000) {E : X → St → Prop} {Q' : Fl → St → Prop} {σ : Sto} (hl : σ[l]? = some (.list (vOs o ps))) (ho : σ[o]? = some .obj) :
    ∀ (rest : List (List S)) (acc : List S) (k : Nat) (ν : Sto) (vars : Vars), ps.drop k = restP rest → k ≤ ps.length → midsOk rest → (joinL rest).flatten.length ≤ 900 → acc.length + 2 * rest.length ≤ 3000 → JV vars l o ps.length k σ.length →
      (∀ vars' ν', JV vars' l o ps.length ps.length σ.length → Q' .next ⟨vars', σ ++ .list (vS (acc ++ joinL rest)) :: ν'⟩) →
      loopN f_join_translated_parts_t3 f_join_translated_parts_b6 (rest.length + 1) ⟨vars, σ ++ .list (vS acc) :: ν⟩ Q' E
  | [], acc, k, ν, vars, hd, hk, hm, hw, ha, v, hq => by
    have := drop_nil hd
    have e : k = ps.length := by omega
    subst e
    refine loop_false ?_ ?_
    · rw [f_join_translated_parts_t3_run'] 
      exact (TV.lt (EV.var v.v4) (EV.var v.v3)).to (by simp)
    · simpa [joinL] using hq vars ν v
  | f :: r, acc, k, ν, vars, hd, hk, hm, hw, ha, v, hq => by
    simp only [List.length_cons] at ha
    obtain ⟨h1, h2, h3⟩ := drop_get (show ps.drop k = none :: (f.map some ++ restP r) from hd)
    have hl1 : (σ ++ Cell.list (vS acc) :: ν)[l]? = some (.list (vOs o ps)) := ext_get hl
    have ho1 : (σ ++ Cell.list (vS acc) :: ν)[o]? = some .obj := ext_get ho
    have hg : (vOs o ps)[k]? = some (.ob o) := by rw [vOs, List.getElem?_map, h1]; rfl
    have nl : l ≠ σ.length := by have := (List.getElem?_eq_some_iff.mp hl).1; omega
    have no : o ≠ σ.length := by have := (List.getElem?_eq_some_iff.mp ho).1; omega
    have ev := EV.idxL (EV.var v.v1) (EV.var v.v4) hl1 (by omega) hg
    refine loop_true ?_ ?_
    · rw [f_join_translated_parts_t3_run']
      exact (TV.lt (EV.var v.v4) (EV.var v.v3)).to (by simp only [decide_eq_true_eq]; omega)
    rw [f_join_translated_parts_b6_run]
    refine seq_run (asrt_run (TV.isOb ev (EV.var v.v2) ho1) ?_)
    refine seq_run (inc_run v.v4 ?_)
    have v1 := v.inc
    generalize upd vars "i" (.v (.int (k + 1 : Nat))) = vars1 at v1
    have te := TV.eqI (EV.var (σ := σ ++ Cell.list (vS acc) :: ν) v1.v4) (EV.var v1.v3)
    cases f with
    | nil =>
      cases r with
      | cons g r => exact absurd rfl hm.1
      | nil =>
        have hk1 := drop_nil (show ps.drop (k + 1) = [] from h3)
        have e : k + 1 = ps.length := by omega
        refine seq_run (ifS_true (te.to (by simp only [decide_eq_true_eq]; omega)) ?_)
        refine seq_run (app_run v1.v5 EV.str (at_get _ _ _) (by rw [vS_len]; omega) ?_)
        rw [at_set, show (vS acc ++ [V.str [46, 42]] : List V) = vS (acc ++ [[46, 42]]) by rw [vS_app]; rfl]
        exact hq _ _ (e ▸ v1)
    | cons s f' =>
    obtain ⟨k1, k2, k3⟩ := drop_get (show ps.drop (k + 1) = some s :: (f'.map some ++ restP r) from h3)
    have hg1 : (vOs o ps)[k + 1]? = some (.str s) := by rw [vOs, List.getElem?_map, k1]; rfl
    have ev1 := EV.idxL (EV.var v1.v1) (EV.var v1.v4) hl1 (by omega) hg1
    refine seq_run (ifS_false (te.to (by simp only [decide_eq_false_iff_not]; omega)) (skip_run ?_))
    refine seq_run (asrt_run (TV.isStr ev1 (EV.var v1.v2)) ?_)
    refine seq_run ⟨by decide, ?_⟩
    have hlen := congrArg List.length h3
    simp only [List.length_drop, List.length_append, List.length_map] at hlen
    refine seq_run ⟨(s :: f').length + 1, ?_⟩
    refine join_l2 hn (s :: f') [] (k + 1) (restP r) _ _ (ext_get hl1) (ext_get ho1) (by simp; have := (List.getElem?_eq_some_iff.mp hl).1; omega) (by simp; have := (List.getElem?_eq_some_iff.mp ho).1; omega) (new_get _ _) (by simp only [List.length_nil]; omega) h3 (restP_head r) (v1.fix _) (by simp [upd]) (fun vars2 v2 hf2 => ?_)
    rw [List.set_append_right _ _ (Nat.le_refl _), Nat.sub_self, List.nil_append]
    simp only [List.set_cons_zero]
    rw [app2]
    have hlq := List.getElem?_eq_some_iff.mp hl
    have w1 : (s :: f').flatten.length ≤ 900 ∧ (joinL r).flatten.length ≤ 900 := by
      cases r with
      | nil => rw [joinL, if_neg (by simp)] at hw; simp [joinL] at hw ⊢; omega
      | cons g r => rw [joinL] at hw; simp at hw ⊢; omega
    have mr : midsOk r := by
      cases r with
      | nil => trivial
      | cons g r => exact hm.2
    refine seq_run (asn_run (EV.join (EV.var hf2) (by rw [← app2]; exact new_get _ _) (by omega)) ?_)
    have v3 := v2.fix (.v (.str (s :: f').flatten))
    have f3 : (upd vars2 "fixed" (.v (.str (s :: f').flatten))) "fixed" = some (.v (.str (s :: f').flatten)) := upd_eq
    generalize upd vars2 "fixed" (.v (.str (s :: f').flatten)) = vars3 at v3 f3
    have te3 := TV.eqI (EV.var (σ := σ ++ Cell.list (vS acc) :: (ν ++ [Cell.list (vS (s :: f'))])) v3.v4) (EV.var v3.v3)
    have h4 : ps.drop (k + 1 + (s :: f').length) = restP r := by
      rw [← List.drop_drop, h3, List.drop_left' (by simp)]
    cases r with
    | nil =>
      have e4 := drop_nil (show ps.drop (k + 1 + (s :: f').length) = [] from h4)
      simp only [restP, List.length_nil] at hlen
      refine ifS_true (te3.to (by simp only [decide_eq_true_eq]; omega)) ?_
      refine seq_run (app_run v3.v5 EV.str (at_get _ _ _) (by rw [vS_len]; omega) ?_)
      rw [at_set]
      refine app_run v3.v5 (EV.var f3) (at_get _ _ _) (by rw [List.length_append, vS_len]; simp; omega) ?_
      rw [at_set, show (vS acc ++ [V.str [46, 42]] ++ [V.str (s :: f').flatten] : List V) = vS (acc ++ [[46, 42]] ++ [(s :: f').flatten]) by rw [vS_app, vS_app]; rfl]
      refine join_l3 hn hl ho [] _ _ _ _ h4 (by omega) mr w1.2 (by simp; omega) v3 (fun vars' ν' v' => ?_)
      have := hq vars' ν' v'
      rw [joinL, if_neg (by simp)] at this
      simpa [joinL] using this
    | cons g r =>
      obtain ⟨j1, j2, j3⟩ := drop_get (show ps.drop (k + 1 + (s :: f').length) = none :: (g.map some ++ restP r) from h4)
      refine ifS_false (te3.to (by simp only [decide_eq_false_iff_not]; omega)) ?_
      refine app_run v3.v5 (EV.fstr (EV.var f3) (by simp only [List.length_cons, List.length_nil]; omega)) (at_get _ _ _) (by rw [vS_len]; omega) ?_
      rw [at_set, show (vS acc ++ [V.str ([40, 63, 62, 46, 42, 63] ++ (s :: f').flatten ++ [41])] : List V) = vS (acc ++ [[40, 63, 62, 46, 42, 63] ++ (s :: f').flatten ++ [41]]) by rw [vS_app]; rfl]
      refine join_l3 hn hl ho (g :: r) _ _ _ _ h4 (by omega) mr w1.2 (by simp only [List.length_append, List.length_cons, List.length_nil] at ha ⊢; omega) v3 (fun vars' ν' v' => ?_)
      have := hq vars' ν' v'
      rw [joinL] at this
      simpa using this
noncomputable def p_join_translated_parts : Spec' := fun Vs σ Q E => ∃ l o first rest, Vs = [.lst l, .ob o] ∧ σ[l]? = some (.list (vOs o (first.map some ++ restP rest))) ∧ σ[o]? = some .obj ∧ midsOk rest ∧ (first.map some ++ restP rest).length ≤ 1000 ∧
  (first ++ joinL rest).flatten.length ≤ 900 ∧ ∀ ν, Q (.str (hdT ++ (first ++ joinL rest).flatten ++ tlT)) (σ ++ ν)
theorem restP_len (r : List (List S)) : r.length ≤ (restP r).length := by
  induction r with
  | nil => simp
  | cons f r ih => simp [restP]; omega
theorem i_join_translated_parts {Vs : List V} {σ : Sto} {Q : V → Sto → Prop} {E : X → Sto → Prop} (h : p_join_translated_parts Vs σ Q E) : Vs.length = 2 ∧ f_join_translated_parts ⟨bindV ["inp", "STAR"] Vs, σ⟩ (fin1 Q) (fin2 E) := by
  obtain ⟨l, o, first, rest, rfl, hl, ho, hm, hn, hw, hQ⟩ := h
  refine ⟨rfl, ?_⟩
  have z : lim = 1000000 := rfl
  have b1 : bindV ["inp", "STAR"] [V.lst l, V.ob o] "inp" = some (.v (.lst l)) := rfl
  have b2 : bindV ["inp", "STAR"] [V.lst l, V.ob o] "STAR" = some (.v (.ob o)) := rfl
  have hl1 := (List.getElem?_eq_some_iff.mp hl).1
  have ho1 := (List.getElem?_eq_some_iff.mp ho).1
  have hrl := restP_len rest
  have hn' := hn
  simp only [List.length_append, List.length_map] at hn'
  have hlen : (vOs o (first.map some ++ restP rest)).length = (first.map some ++ restP rest).length := by simp [vOs]
  rw [f_join_translated_parts_run]
  refine seq_run ?_
  refine ⟨by decide, seq_run ⟨σ.length, [], by simp [upd], new_get _ _, ?_⟩⟩
  have hl2 : (σ ++ [Cell.list []])[l]? = some (.list (vOs o (first.map some ++ restP rest))) := ext_get hl
  have ho2 : (σ ++ [Cell.list []])[o]? = some .obj := ext_get ho
  simp only [seq, asn, asnSw, retS, asrt, tcmp, op1, op2, var, cint, cstr, tup, xnil, xcons, sm1, upd, String.reduceEq, ↓reduceIte, Option.some.injEq, Wv.v.injEq, exists_eq_left', oEqNe, oLen, Bool.bne_false, b1, asnSw]
  refine ⟨_, hl2, by rw [hlen]; omega, by show 2 ≤ 1000000; decide, _, _, .inl rfl, ?_⟩
  rw [hlen]
  refine ⟨first.length + 1, ?_⟩
  refine join_l1 (res := σ.length) hn first [] 0 (restP rest) _ _ hl2 ho2 (by omega) (by omega) (new_get _ _) (by simp only [List.length_nil]; omega) rfl (restP_head rest) ⟨by simp [upd, b1], by simp [upd, b2], by simp [upd], by simp [upd], by simp [upd], by simp [upd]⟩ (fun vars1 v1 => ?_)
  rw [List.set_append_right _ _ (Nat.le_refl _), Nat.sub_self, List.nil_append]
  simp only [List.set_cons_zero]
  refine ⟨rest.length + 1, ?_⟩
  rw [List.flatten_append, List.length_append] at hw
  refine join_l3 hn hl ho rest first _ [] _ (by rw [Nat.zero_add, List.drop_left' (by simp)]) (by simp) hm (by omega) (by omega) v1 (fun vars2 ν' v2 => ?_)
  simp only [var, upd, ↓reduceIte, Option.some.injEq, Wv.v.injEq, V.bool.injEq, exists_eq_left', v2.v3, v2.v4, v2.v6, fstr]
  refine ⟨by simp, ⟨_, rfl⟩, _, at_get _ _ _, by rw [List.flatten_append, List.length_append]; omega, _, rfl, by rw [List.flatten_append]; simp only [List.length_append, List.length_cons, List.length_nil]; omega, hQ _⟩
theorem c_join_translated_parts : Contract 0 "_join_translated_parts" p_join_translated_parts := contract_of (d := r_join_translated_parts) (ps := ["inp", "STAR"]) (by kernel_rfl) sd_join_translated_parts (by decide +kernel) (fun pm code doc vs h => by obtain ⟨a, b, rfl⟩ := len2 h; rfl) fun _ _ _ _ => i_join_translated_parts
end
end Mine

namespace Mine
section
noncomputable def escS (c : Nat) : S := if c ∈ spec24 then [92, c] else [c]
noncomputable def p_escape : Spec' := fun Vs σ Q E => ∃ c : Nat, Vs = [.str [c]] ∧ c < 128 ∧ Q (.str (escS c)) σ
noncomputable abbrev r_tr_parts : DefRec := recAt 12
noncomputable def f_tr_parts_t1 : Tx := (tcmp oLt (var "i") (var "n"))
noncomputable def f_tr_parts_t2 : Tx := (tand (tcmp oLt (var "j") (var "n")) (tand (tcmp (oEqNe true) (op2 oIdx (var "pat") (var "j")) (cstr [93])) (tlit true)))
noncomputable def f_tr_parts_b3 : Sx := (asn "j" (op2 oAdd (var "j") (cint 1)))
theorem f_tr_parts_b3_run (st : St) (Q : Fl → St → Prop) (E : X → St → Prop) : f_tr_parts_b3 st Q E = (asn "j" (op2 oAdd (var "j") (cint 1))) st Q E := rfl
noncomputable def f_tr_parts_b4 : Sx := (seq (asn "c" (op2 oIdx (var "pat") (var "i"))) (seq (asn "i" (op2 oAdd (var "i") (cint 1))) (ifS (tcmp (oEqNe false) (var "c") (cstr [42])) (ifS (tor (tnot (tval (var "res"))) (tor (tcmp (oIs true) (op2 oIdx (var "res") (op1 oNeg (cint 1))) (var "STAR")) (tlit false))) (exprS (appF "add" (var "STAR"))) skip) (ifS (tcmp (oEqNe false) (var "c") (cstr [63])) (exprS (appF "add" (var "QUESTION_MARK"))) (ifS (tcmp (oEqNe false) (var "c") (cstr [91])) (seq (asn "j" (var "i")) (seq (ifS (tand (tcmp oLt (var "j") (var "n")) (tand (tcmp (oEqNe false) (op2 oIdx (var "pat") (var "j")) (cstr [33])) (tlit true))) (asn "j" (op2 oAdd (var "j") (cint 1))) skip) (seq (ifS (tand (tcmp oLt (var "j") (var "n")) (tand (tcmp (oEqNe false) (op2 oIdx (var "pat") (var "j")) (cstr [93])) (tlit true))) (asn "j" (op2 oAdd (var "j") (cint 1))) skip) (seq (whileS f_tr_parts_t2 f_tr_parts_b3) (ifS (tcmp oGe (var "j") (var "n")) (exprS (appF "add" (cstr [92, 91]))) (seq (asn "stuff" (slice (var "pat") (var "i") (var "j"))) (seq (ifS (tcmp (oIn true) (cstr [45]) (var "stuff")) (asn "stuff" (dblX 92 (var "stuff"))) dead) (seq (asn "stuff" (subX (var "stuff"))) (seq (asn "i" (op2 oAdd (var "j") (cint 1))) (ifS (tnot (tval (var "stuff"))) (exprS (appF "add" (cstr [40, 63, 33, 41]))) (ifS (tcmp (oEqNe false) (var "stuff") (cstr [33])) (exprS (appF "add" (cstr [46]))) (seq (ifS (tcmp (oEqNe false) (op2 oIdx (var "stuff") (cint 0)) (cstr [33])) (asn "stuff" (op2 oAdd (cstr [94]) (slice (var "stuff") (cint 1) cnone))) (ifS (tcmp (oIn false) (op2 oIdx (var "stuff") (cint 0)) (tup (xcons (cstr [94]) (xcons (cstr [91]) xnil)))) (asn "stuff" (op2 oAdd (cstr [92]) (var "stuff"))) skip)) (exprS (appF "add" (fstr [91] (var "stuff") [93]))))))))))))))) (exprS (appF "add" (callF p_escape (xcons (var "c") xnil)))))))))
noncomputable def f_tr_parts : Sx := (seq (asn "res" (lst xnil)) (seq (asnApp "add" "res") (seq (asnSw "i" "n" (tup (xcons (cint 0) (xcons (op1 oLen (var "pat")) xnil)))) (seq (whileS f_tr_parts_t1 f_tr_parts_b4) (seq (asrt (tcmp (oEqNe false) (var "i") (var "n"))) (retS (var "res")))))))
theorem f_tr_parts_run (st : St) (Q : Fl → St → Prop) (E : X → St → Prop) : f_tr_parts st Q E = (seq (asn "res" (lst xnil)) (seq (asnApp "add" "res") (seq (asnSw "i" "n" (tup (xcons (cint 0) (xcons (op1 oLen (var "pat")) xnil)))) (seq (whileS f_tr_parts_t1 f_tr_parts_b4) (seq (asrt (tcmp (oEqNe false) (var "i") (var "n"))) (retS (var "res"))))))) st Q E := rfl
noncomputable def f_tr_set2 : Sx := (ifS (tcmp oGe (var "j") (var "n")) (exprS (appF "add" (cstr [92, 91]))) (seq (asn "stuff" (slice (var "pat") (var "i") (var "j"))) (seq (ifS (tcmp (oIn true) (cstr [45]) (var "stuff")) (asn "stuff" (dblX 92 (var "stuff"))) dead) (seq (asn "stuff" (subX (var "stuff"))) (seq (asn "i" (op2 oAdd (var "j") (cint 1))) (ifS (tnot (tval (var "stuff"))) (exprS (appF "add" (cstr [40, 63, 33, 41]))) (ifS (tcmp (oEqNe false) (var "stuff") (cstr [33])) (exprS (appF "add" (cstr [46]))) (seq (ifS (tcmp (oEqNe false) (op2 oIdx (var "stuff") (cint 0)) (cstr [33])) (asn "stuff" (op2 oAdd (cstr [94]) (slice (var "stuff") (cint 1) cnone))) (ifS (tcmp (oIn false) (op2 oIdx (var "stuff") (cint 0)) (tup (xcons (cstr [94]) (xcons (cstr [91]) xnil)))) (asn "stuff" (op2 oAdd (cstr [92]) (var "stuff"))) skip)) (exprS (appF "add" (fstr [91] (var "stuff") [93])))))))))))
noncomputable def f_tr_set : Sx := (seq (asn "j" (var "i")) (seq (ifS (tand (tcmp oLt (var "j") (var "n")) (tand (tcmp (oEqNe false) (op2 oIdx (var "pat") (var "j")) (cstr [33])) (tlit true))) (asn "j" (op2 oAdd (var "j") (cint 1))) skip) (seq (ifS (tand (tcmp oLt (var "j") (var "n")) (tand (tcmp (oEqNe false) (op2 oIdx (var "pat") (var "j")) (cstr [93])) (tlit true))) (asn "j" (op2 oAdd (var "j") (cint 1))) skip) (seq (whileS f_tr_parts_t2 f_tr_parts_b3) f_tr_set2))))
theorem f_tr_b4_eq (st : St) (Q : Fl → St → Prop) (E : X → St → Prop) : f_tr_parts_b4 st Q E = (seq (asn "c" (op2 oIdx (var "pat") (var "i"))) (seq (asn "i" (op2 oAdd (var "i") (cint 1))) (ifS (tcmp (oEqNe false) (var "c") (cstr [42])) (ifS (tor (tnot (tval (var "res"))) (tor (tcmp (oIs true) (op2 oIdx (var "res") (op1 oNeg (cint 1))) (var "STAR")) (tlit false))) (exprS (appF "add" (var "STAR"))) skip) (ifS (tcmp (oEqNe false) (var "c") (cstr [63])) (exprS (appF "add" (var "QUESTION_MARK"))) (ifS (tcmp (oEqNe false) (var "c") (cstr [91])) f_tr_set (exprS (appF "add" (callF p_escape (xcons (var "c") xnil))))))))) st Q E := rfl
inductive At where
  | star | q | ch (c : Nat) | set (x : S) (plan : List (Nat × Nat))
noncomputable def atTxt : At → S
  | .star => [42]
  | .q => [63]
  | .ch c => [c]
  | .set x _ => 91 :: (x ++ [93])
noncomputable def fixS : S → S
  | [] => []
  | c :: r => if c = 33 then 94 :: r else if c = 94 ∨ c = 91 then 92 :: c :: r else c :: r
noncomputable def setS (x : S) (plan : List (Nat × Nat)) : S := fixS (planOut (StrLaws.dbl 92 x) plan 0).flatten
noncomputable def atOk : At → Bool
  | .star => true
  | .q => true
  | .ch c => decide (c < 128) && !(c == 42) && !(c == 63) && !(c == 91)
  | .set x plan => !x.isEmpty && !(x == [33]) && !x.contains 93 && !x.contains 45 && subOk (StrLaws.dbl 92 x) plan && !(planOut (StrLaws.dbl 92 x) plan 0).flatten.isEmpty && !((planOut (StrLaws.dbl 92 x) plan 0).flatten == [33]) && decide ((planOut (StrLaws.dbl 92 x) plan 0).flatten.length ≤ 100) && decide (x.length ≤ 20)
noncomputable def addPart (res : List (Option S)) : At → List (Option S)
  | .star => if res.getLast? = some none then res else res ++ [none]
  | .q => res ++ [some [46]]
  | .ch c => res ++ [some (escS c)]
  | .set x plan => res ++ [some ([91] ++ setS x plan ++ [93])]
noncomputable def p_tr_parts : Spec' := fun Vs σ Q E => ∃ (ats : List At) (o : Nat), Vs = [.str (ats.flatMap atTxt), .ob o, .str [46]] ∧ σ[o]? = some .obj ∧ ats.all atOk = true ∧ ats.length ≤ 20 ∧ (ats.flatMap atTxt).length ≤ 500 ∧
  ∀ ν l, (σ ++ ν)[l]? = some (.list (vOs o (ats.foldl addPart []))) → Q (.lst l) (σ ++ ν)
structure TVs (vars : Vars) (text : S) (o n k res : Nat) : Prop where
  v1 : vars "pat" = some (.v (.str text))
  v2 : vars "STAR" = some (.v (.ob o))
  v3 : vars "n" = some (.v (.int n))
  v4 : vars "i" = some (.v (.int k))
  v5 : vars "add" = some (.app res)
  v6 : vars "res" = some (.v (.lst res))
  v7 : vars "QUESTION_MARK" = some (.v (.str [46]))
theorem TVs.i {vars text o n k res} (v : TVs vars text o n k res) (k' : Nat) : TVs (upd vars "i" (.v (.int k'))) text o n k' res :=
  ⟨by simp [upd, v.v1], by simp [upd, v.v2], by simp [upd, v.v3], by simp [upd], by simp [upd, v.v5], by simp [upd, v.v6], by simp [upd, v.v7]⟩
theorem TVs.o {vars text o n k res} (v : TVs vars text o n k res) {x : String} {w : Wv} (h : x = "c" ∨ x = "j" ∨ x = "stuff") : TVs (upd vars x w) text o n k res := by
  rcases h with rfl | rfl | rfl <;> exact ⟨by simp [upd, v.v1], by simp [upd, v.v2], by simp [upd, v.v3], by simp [upd, v.v4], by simp [upd, v.v5], by simp [upd, v.v6], by simp [upd, v.v7]⟩
theorem TVs.same {vars vars' text o n k res} (v : TVs vars text o n k res) (h : ∀ y, y ≠ "j" → vars' y = vars y) : TVs vars' text o n k res :=
  ⟨by rw [h _ (by decide)]; exact v.v1, by rw [h _ (by decide)]; exact v.v2, by rw [h _ (by decide)]; exact v.v3, by rw [h _ (by decide)]; exact v.v4, by rw [h _ (by decide)]; exact v.v5, by rw [h _ (by decide)]; exact v.v6, by rw [h _ (by decide)]; exact v.v7⟩
theorem j_loop {text : S} {n : Nat} (hn : text.length = n) (hz : n ≤ 1000) {E : X → St → Prop} {Q' : Fl → St → Prop} {σ : Sto} {r : S} :
    ∀ (y : S) (j : Nat) (vars : Vars), text.drop j = y ++ 93 :: r → 93 ∉ y → vars "pat" = some (.v (.str text)) → vars "n" = some (.v (.int n)) → vars "j" = some (.v (.int j)) →
      (∀ vars', (∀ x, x ≠ "j" → vars' x = vars x) → vars' "j" = some (.v (.int (j + y.length : Nat))) → Q' .next ⟨vars', σ⟩) →
      loopN f_tr_parts_t2 f_tr_parts_b3 (y.length + 1) ⟨vars, σ⟩ Q' E
  | [], j, vars, hd, hm, h1, h2, h3, hq => by
    obtain ⟨g1, g2, g3⟩ := drop_get (show text.drop j = 93 :: r from hd)
    refine loop_false ?_ (hq _ (fun _ _ => rfl) h3)
    refine TV.andT ((TV.lt (EV.var h3) (EV.var h2)).to (by simp only [decide_eq_true_eq]; omega)) ?_
    exact TV.andF ((TV.neS (EV.idx (EV.var h1) (EV.var h3) (by omega) g1) EV.str).to (by simp))
  | c :: y, j, vars, hd, hm, h1, h2, h3, hq => by
    obtain ⟨g1, g2, g3⟩ := drop_get (show text.drop j = c :: (y ++ 93 :: r) from hd)
    simp only [List.mem_cons, not_or] at hm
    refine loop_true ?_ ?_
    · refine TV.andT ((TV.lt (EV.var h3) (EV.var h2)).to (by simp only [decide_eq_true_eq]; omega)) ?_
      refine TV.andT ((TV.neS (EV.idx (EV.var h1) (EV.var h3) (by omega) g1) EV.str).to ?_) TV.lit
      have := hm.1
      simp; omega
    rw [f_tr_parts_b3_run]
    have a3 := EV.add (EV.var (σ := σ) h3) (EV.int (i := 1))
    rw [show ((j : Int) + 1) = ((j + 1 : Nat) : Int) by omega] at a3
    refine asn_run a3 ?_
    refine j_loop hn hz y (j + 1) _ g3 hm.2 (by simp [upd, h1]) (by simp [upd, h2]) (by simp [upd]) (fun vars' w1 w2 => ?_)
    refine hq vars' (fun x hx => by rw [w1 x hx]; simp [upd, hx]) ?_
    rw [w2, List.length_cons, show j + (y.length + 1) = j + 1 + y.length by omega]
theorem vOs_app (o : Nat) (a b : List (Option S)) : vOs o (a ++ b) = vOs o a ++ vOs o b := by simp [vOs]
theorem vOs_len (o : Nat) (a : List (Option S)) : (vOs o a).length = a.length := by simp [vOs]
theorem slc_between (text x r : S) (k : Nat) (h : text.drop k = x ++ r) : slc text (some (k : Int)) (some ((k + x.length : Nat) : Int)) = x := by
  rw [slc_mid text k (k + x.length) (by omega), h, show k + x.length - k = x.length by omega, List.take_left' rfl]
theorem set2_run {text : S} {o n : Nat} (hn : text.length = n) (hz : n ≤ 1000) {E : X → St → Prop} {Q' : Fl → St → Prop} {σ : Sto} {x r : S} {plan : List (Nat × Nat)} (hok : atOk (.set x plan) = true)
    {k : Nat} {res : List (Option S)} (hr : res.length ≤ 100) {ν : Sto} {vars : Vars} (hd : text.drop k = x ++ 93 :: r) (v : TVs vars text o n k σ.length) (hj : vars "j" = some (.v (.int (k + x.length : Nat))))
    (hq : ∀ vars' ν', TVs vars' text o n (k + x.length + 1) σ.length → Q' .next ⟨vars', σ ++ .list (vOs o (addPart res (.set x plan))) :: ν'⟩) :
    (f_tr_set2 : Sx) ⟨vars, σ ++ .list (vOs o res) :: ν⟩ Q' E := by
  unfold atOk at hok
  simp only [Bool.and_eq_true, Bool.not_eq_true', decide_eq_true_eq, List.contains_eq_mem, decide_eq_false_iff_not] at hok
  obtain ⟨⟨⟨⟨⟨⟨⟨⟨k1, k2⟩, k3⟩, k4⟩, k5⟩, k6⟩, k7⟩, k8⟩, k9⟩ := hok
  have hlen := congrArg List.length hd
  simp only [List.length_drop, List.length_append, List.length_cons] at hlen
  unfold f_tr_set2
  refine ifS_false ((TV.ge (EV.var hj) (EV.var v.v3)).to (by simp only [decide_eq_false_iff_not]; omega)) ?_
  have e := EV.slc (EV.var (σ := σ ++ .list (vOs o res) :: ν) v.v1) (EV.var v.v4) (EV.var hj) (by omega)
  rw [slc_between text x (93 :: r) k hd] at e
  refine seq_run (asn_run e ?_)
  have v1 := v.o (x := "stuff") (w := .v (.str x)) (by simp)
  have s1 : (upd vars "stuff" (.v (.str x))) "stuff" = some (.v (.str x)) := upd_eq
  have j1 : (upd vars "stuff" (.v (.str x))) "j" = some (.v (.int (k + x.length : Nat))) := by rw [upd_ne (by decide)]; exact hj
  generalize upd vars "stuff" (.v (.str x)) = vars1 at v1 s1 j1
  refine seq_run (ifS_true ((TV.notInS (EV.str (l := [45])) (EV.var s1)).to (by simp [k4])) (asn_run (EV.dbl (EV.var s1) (by omega)) ?_))
  have v2 := v1.o (x := "stuff") (w := .v (.str (StrLaws.dbl 92 x))) (by simp)
  have s2 : (upd vars1 "stuff" (.v (.str (StrLaws.dbl 92 x)))) "stuff" = some (.v (.str (StrLaws.dbl 92 x))) := upd_eq
  have j2 : (upd vars1 "stuff" (.v (.str (StrLaws.dbl 92 x)))) "j" = some (.v (.int (k + x.length : Nat))) := by rw [upd_ne (by decide)]; exact j1
  generalize upd vars1 "stuff" (.v (.str (StrLaws.dbl 92 x))) = vars2 at v2 s2 j2
  refine seq_run ⟨_, s2, _, plan, rfl, k5, fun ν' => ?_⟩
  rw [app2]
  generalize hy : (planOut (StrLaws.dbl 92 x) plan 0).flatten = y at k6 k7 k8
  have v3 := v2.o (x := "stuff") (w := .v (.str y)) (by simp)
  have s3 : (upd vars2 "stuff" (.v (.str y))) "stuff" = some (.v (.str y)) := upd_eq
  have j3 : (upd vars2 "stuff" (.v (.str y))) "j" = some (.v (.int (k + x.length : Nat))) := by rw [upd_ne (by decide)]; exact j2
  show seq _ _ ⟨upd vars2 "stuff" (.v (.str y)), _⟩ _ _
  generalize upd vars2 "stuff" (.v (.str y)) = vars3 at v3 s3 j3
  have a3 := EV.add (EV.var (σ := σ ++ .list (vOs o res) :: (ν ++ ν')) j3) (EV.int (i := 1))
  rw [show (((k + x.length : Nat) : Int) + 1) = ((k + x.length + 1 : Nat) : Int) by omega] at a3
  refine seq_run (asn_run a3 ?_)
  have v4 := v3.i (k + x.length + 1)
  have s4 : (upd vars3 "i" (.v (.int (k + x.length + 1 : Nat)))) "stuff" = some (.v (.str y)) := by rw [upd_ne (by decide)]; exact s3
  generalize upd vars3 "i" (.v (.int (k + x.length + 1 : Nat))) = vars4 at v4 s4
  refine ifS_false ((TV.not (TV.str (EV.var s4) (by omega))).to (by rw [k6]; rfl)) ?_
  refine ifS_false ((TV.eqS (EV.var s4) EV.str).to (by simpa using k7)) ?_
  have fin : ∀ (z : S) (vars5 : Vars), z = fixS y → z.length ≤ 200 → TVs vars5 text o n (k + x.length + 1) σ.length → vars5 "stuff" = some (.v (.str z)) →
      exprS (appF "add" (fstr [91] (var "stuff") [93])) ⟨vars5, σ ++ .list (vOs o res) :: (ν ++ ν')⟩ Q' E := by
    intro z vars5 hz1 hz2 v5 s5
    refine app_run v5.v5 (EV.fstr (EV.var s5) (by simp only [List.length_cons, List.length_nil]; omega)) (at_get _ _ _) (by rw [vOs_len]; omega) ?_
    rw [at_set]
    have := hq vars5 (ν ++ ν') v5
    rw [addPart, vOs_app] at this
    rw [hz1]
    unfold setS at this
    rw [hy] at this
    exact this
  cases y with
  | nil => simp at k6
  | cons c y' =>
  have i0 := EV.idx (EV.var (σ := σ ++ .list (vOs o res) :: (ν ++ ν')) s4) (EV.int (i := ((0 : Nat) : Int))) (by omega) (show (c :: y')[0]? = some c from rfl)
  simp only [List.length_cons] at k8
  by_cases h33 : c = 33
  · refine seq_run (ifS_true ((TV.eqS i0 EV.str).to (by simpa using h33)) ?_)
    have sl := EV.slcG (EV.var (σ := σ ++ .list (vOs o res) :: (ν ++ ν')) s4) (EV.int (i := ((1 : Nat) : Int))) EV.none rfl rfl (by simp only [List.length_cons]; omega)
    have e1 : slc (c :: y') (some ((1 : Nat) : Int)) none = y' := by
      unfold slc
      simp only [Option.elim, clip_nat]
      rw [Nat.min_eq_left (by simp)]
      simp
    rw [e1] at sl
    refine asn_run (EV.app (EV.str (l := [94])) sl (by simp only [List.length_cons, List.length_nil]; omega)) ?_
    exact fin _ _ (by simp [fixS, h33]) (by simp; omega) (v4.o (by simp)) upd_eq
  · refine seq_run (ifS_false ((TV.eqS i0 EV.str).to (by simpa using h33)) ?_)
    by_cases h94 : c = 94 ∨ c = 91
    · refine ifS_true ((TV.inT i0 (xs := [[94], [91]]) (EV.two EV.str EV.str)).to (by simpa using h94)) ?_
      refine asn_run (EV.app (EV.str (l := [92])) (EV.var s4) (by simp only [List.length_cons, List.length_nil]; omega)) ?_
      exact fin _ _ (by simp [fixS, h33, h94]) (by simp; omega) (v4.o (by simp)) upd_eq
    · refine ifS_false ((TV.inT i0 (xs := [[94], [91]]) (EV.two EV.str EV.str)).to (by simpa using h94)) (skip_run ?_)
      exact fin _ _ (by simp [fixS, h33, h94]) (by simp; omega) v4 s4
theorem set_run {text : S} {o n : Nat} (hn : text.length = n) (hz : n ≤ 1000) {E : X → St → Prop} {Q' : Fl → St → Prop} {σ : Sto} {x r : S} {plan : List (Nat × Nat)} (hok : atOk (.set x plan) = true)
    {k : Nat} {res : List (Option S)} (hr : res.length ≤ 100) {ν : Sto} {vars : Vars} (hd : text.drop k = x ++ 93 :: r) (v : TVs vars text o n k σ.length)
    (hq : ∀ vars' ν', TVs vars' text o n (k + x.length + 1) σ.length → Q' .next ⟨vars', σ ++ .list (vOs o (addPart res (.set x plan))) :: ν'⟩) :
    (f_tr_set : Sx) ⟨vars, σ ++ .list (vOs o res) :: ν⟩ Q' E := by
  have hok0 := hok
  unfold atOk at hok
  simp only [Bool.and_eq_true, Bool.not_eq_true', decide_eq_true_eq, List.contains_eq_mem, decide_eq_false_iff_not] at hok
  obtain ⟨⟨⟨⟨⟨⟨⟨⟨k1, k2⟩, k3⟩, k4⟩, k5⟩, k6⟩, k7⟩, k8⟩, k9⟩ := hok
  have hlen := congrArg List.length hd
  simp only [List.length_drop, List.length_append, List.length_cons] at hlen
  cases x with
  | nil => simp at k1
  | cons c0 x' =>
  simp only [List.length_cons] at hlen k9
  obtain ⟨g1, g2, g3⟩ := drop_get (show text.drop k = c0 :: (x' ++ 93 :: r) from hd)
  simp only [List.mem_cons, not_or] at k3
  unfold f_tr_set
  have w := v.o (x := "j") (w := .v (.int k)) (by simp)
  refine seq_run (asn_run (EV.var v.v4) ?_)
  have wj : (upd vars "j" (.v (.int k))) "j" = some (.v (.int k)) := upd_eq
  generalize upd vars "j" (.v (.int k)) = vars1 at w wj
  have after : ∀ (y : S) (j : Nat) (vars2 : Vars) (Q2 : Fl → St → Prop), text.drop j = y ++ 93 :: r → 93 ∉ y → j + y.length = k + (x'.length + 1) → TVs vars2 text o n k σ.length → vars2 "j" = some (.v (.int j)) →
      (∀ vars3, TVs vars3 text o n k σ.length → vars3 "j" = some (.v (.int (k + (x'.length + 1) : Nat))) → Q2 .next ⟨vars3, σ ++ .list (vOs o res) :: ν⟩) →
      whileS f_tr_parts_t2 f_tr_parts_b3 ⟨vars2, σ ++ .list (vOs o res) :: ν⟩ Q2 E := fun y j vars2 Q2 q1 q2 q3 q4 q5 q6 =>
    ⟨y.length + 1, j_loop hn hz y j vars2 q1 q2 q4.v1 q4.v3 q5 (fun vars3 z1 z2 => q6 vars3 (q4.same z1) (by rw [z2, q3]))⟩
  have rest : ∀ vars3, TVs vars3 text o n k σ.length → vars3 "j" = some (.v (.int (k + (x'.length + 1) : Nat))) → f_tr_set2 ⟨vars3, σ ++ .list (vOs o res) :: ν⟩ Q' E := by
    intro vars3 q4 q5
    exact set2_run hn hz hok0 hr hd q4 q5 hq
  by_cases h33 : c0 = 33
  · subst h33
    cases x' with
    | nil => simp at k2
    | cons c1 x'' =>
    obtain ⟨m1, m2, m3⟩ := drop_get (show text.drop (k + 1) = c1 :: (x'' ++ 93 :: r) from g3)
    have hc1 : c1 ≠ 93 := fun q => by subst q; simp at k3
    refine seq_run (ifS_true (TV.andT ((TV.lt (EV.var wj) (EV.var w.v3)).to (by simp only [decide_eq_true_eq]; omega)) (TV.andT ((TV.eqS (EV.idx (EV.var w.v1) (EV.var wj) (by omega) g1) EV.str).to (by simp)) TV.lit)) ?_)
    have a3 := EV.add (EV.var (σ := σ ++ .list (vOs o res) :: ν) wj) (EV.int (i := 1))
    rw [show ((k : Int) + 1) = ((k + 1 : Nat) : Int) by omega] at a3
    refine asn_run a3 ?_
    have w2 := w.o (x := "j") (w := .v (.int (k + 1 : Nat))) (by simp)
    have wj2 : (upd vars1 "j" (.v (.int (k + 1 : Nat)))) "j" = some (.v (.int (k + 1 : Nat))) := upd_eq
    generalize upd vars1 "j" (.v (.int (k + 1 : Nat))) = vars2 at w2 wj2
    refine seq_run (ifS_false (TV.andT ((TV.lt (EV.var wj2) (EV.var w2.v3)).to (by simp only [decide_eq_true_eq]; omega)) (TV.andF ((TV.eqS (EV.idx (EV.var w2.v1) (EV.var wj2) (by omega) m1) EV.str).to (by simpa using hc1)))) (skip_run ?_))
    exact seq_run (after (c1 :: x'') (k + 1) vars2 _ g3 (by simpa using k3.2) (by simp only [List.length_cons]; omega) w2 wj2 rest)
  · refine seq_run (ifS_false (TV.andT ((TV.lt (EV.var wj) (EV.var w.v3)).to (by simp only [decide_eq_true_eq]; omega)) (TV.andF ((TV.eqS (EV.idx (EV.var w.v1) (EV.var wj) (by omega) g1) EV.str).to (by simpa using h33)))) (skip_run ?_))
    have hc0 : c0 ≠ 93 := fun q => k3.1 q.symm
    refine seq_run (ifS_false (TV.andT ((TV.lt (EV.var wj) (EV.var w.v3)).to (by simp only [decide_eq_true_eq]; omega)) (TV.andF ((TV.eqS (EV.idx (EV.var w.v1) (EV.var wj) (by omega) g1) EV.str).to (by simpa using hc0)))) (skip_run ?_))
    exact seq_run (after (c0 :: x') k vars1 _ hd (by simpa using k3) (by simp only [List.length_cons]) w wj rest)
theorem nil_or_snoc {α : Type} (xs : List α) : xs = [] ∨ ∃ init a, xs = init ++ [a] := by
  cases h : xs.reverse with
  | nil => left; simpa using h
  | cons a r => right; exact ⟨r.reverse, a, by rw [← List.reverse_reverse xs, h, List.reverse_cons]⟩
theorem TVs.at {vars text o n k k' res} (v : TVs vars text o n k res) (h : k = k') : TVs vars text o n k' res := h ▸ v
theorem atom_run {text : S} {o n : Nat} (hn : text.length = n) (hz : n ≤ 1000) {E : X → St → Prop} {Q' : Fl → St → Prop} {σ : Sto} (ho : σ[o]? = some .obj) {a : At} {r : S} (hok : atOk a = true)
    {k : Nat} {res : List (Option S)} (hr : res.length ≤ 100) {ν : Sto} {vars : Vars} (hd : text.drop k = atTxt a ++ r) (v : TVs vars text o n k σ.length)
    (hq : ∀ vars' ν', TVs vars' text o n (k + (atTxt a).length) σ.length → Q' .next ⟨vars', σ ++ .list (vOs o (addPart res a)) :: ν'⟩) :
    f_tr_parts_b4 ⟨vars, σ ++ .list (vOs o res) :: ν⟩ Q' E := by
  rw [f_tr_b4_eq]
  have no : o ≠ σ.length := by have := (List.getElem?_eq_some_iff.mp ho).1; omega
  have ho1 : ∀ c μ, (σ ++ c :: μ)[o]? = some .obj := fun c μ => ext_get ho
  obtain ⟨c, y, hcy⟩ : ∃ c y, atTxt a = c :: y := by cases a <;> exact ⟨_, _, rfl⟩
  rw [hcy] at hd hq
  obtain ⟨g1, g2, g3⟩ := drop_get (show text.drop k = c :: (y ++ r) from hd)
  refine seq_run (asn_run (EV.idx (EV.var v.v1) (EV.var v.v4) (by omega) g1) ?_)
  have v1 := v.o (x := "c") (w := .v (.str [c])) (by simp)
  have c1 : (upd vars "c" (.v (.str [c]))) "c" = some (.v (.str [c])) := upd_eq
  generalize upd vars "c" (.v (.str [c])) = vars1 at v1 c1
  have a3 := EV.add (EV.var (σ := σ ++ .list (vOs o res) :: ν) v1.v4) (EV.int (i := 1))
  rw [show ((k : Int) + 1) = ((k + 1 : Nat) : Int) by omega] at a3
  refine seq_run (asn_run a3 ?_)
  have v2 := v1.i (k + 1)
  have c2 : (upd vars1 "i" (.v (.int (k + 1 : Nat)))) "c" = some (.v (.str [c])) := by rw [upd_ne (by decide)]; exact c1
  generalize upd vars1 "i" (.v (.int (k + 1 : Nat))) = vars2 at v2 c2
  have cp : ∀ m : S, TV (tcmp (oEqNe false) (var "c") (cstr m)) vars2 (σ ++ .list (vOs o res) :: ν) (decide ([c] = m)) := fun m => TV.eqS (EV.var c2) EV.str
  have hres : (vOs o res).length < 1000000 := by rw [vOs_len]; omega
  cases a with
  | star =>
    cases hcy
    refine ifS_true ((cp [42]).to (by simp)) ?_
    have hlst := TV.lst (EV.var (σ := σ ++ .list (vOs o res) :: ν) v2.v6) (at_get _ _ _) (by omega)
    have put : ∀ (hl : res.getLast? ≠ some none), exprS (appF "add" (var "STAR")) ⟨vars2, σ ++ .list (vOs o res) :: ν⟩ Q' E := fun hl => by
      refine app_run v2.v5 (EV.var v2.v2) (at_get _ _ _) hres ?_
      rw [at_set]
      have := hq vars2 ν v2
      rw [addPart, if_neg hl, vOs_app] at this
      exact this
    rcases nil_or_snoc res with rfl | ⟨init, p, rfl⟩
    · exact ifS_true (TV.orT (TV.not hlst)) (put (by simp))
    · have hlast := EV.last (EV.var (σ := σ ++ .list (vOs o (init ++ [p])) :: ν) v2.v6) (show _ = some (Cell.list (vOs o init ++ [vO o p])) by rw [at_get, vOs_app]; rfl)
      have hne : (!(vOs o (init ++ [p])).isEmpty) = true := by rw [vOs_app]; simp [vOs]
      cases p with
      | none =>
        refine ifS_false (TV.orF ((TV.not hlst).to (by rw [hne]; rfl)) (TV.orF (TV.isOb hlast (EV.var v2.v2) (ho1 _ _)) TV.lit)) (skip_run ?_)
        have := hq vars2 ν v2
        rw [addPart, if_pos (by simp)] at this
        exact this
      | some s =>
        refine ifS_true (TV.orF ((TV.not hlst).to (by rw [hne]; rfl)) (TV.orT (TV.isStr hlast (EV.var v2.v2)))) (put (by simp))
  | q =>
    cases hcy
    refine ifS_false ((cp [42]).to (by simp)) ?_
    refine ifS_true ((cp [63]).to (by simp)) ?_
    refine app_run v2.v5 (EV.var v2.v7) (at_get _ _ _) hres ?_
    rw [at_set]
    have := hq vars2 ν v2
    rw [addPart, vOs_app] at this
    exact this
  | ch d =>
    cases hcy
    unfold atOk at hok
    simp only [Bool.and_eq_true, Bool.not_eq_true', decide_eq_true_eq, beq_eq_false_iff_ne] at hok
    obtain ⟨⟨⟨k1, k2⟩, k3⟩, k4⟩ := hok
    refine ifS_false ((cp [42]).to (by simpa using k2)) ?_
    refine ifS_false ((cp [63]).to (by simpa using k3)) ?_
    refine ifS_false ((cp [91]).to (by simpa using k4)) ?_
    refine app_run v2.v5 (EV.call1 (EV.var c2) (r := .str (escS c)) (fun Q E q => ⟨c, rfl, k1, q⟩)) (at_get _ _ _) hres ?_
    rw [at_set]
    have := hq vars2 ν v2
    rw [addPart, vOs_app] at this
    exact this
  | set x plan =>
    cases hcy
    refine ifS_false ((cp [42]).to (by simp)) ?_
    refine ifS_false ((cp [63]).to (by simp)) ?_
    refine ifS_true ((cp [91]).to (by simp)) ?_
    refine set_run hn hz hok hr (r := r) (by rw [g3, List.append_assoc]; rfl) v2 (fun vars' ν' v' => ?_)
    refine hq vars' ν' (v'.at ?_)
    simp only [List.length_cons, List.length_append, List.length_nil]; omega
theorem addPart_len (res : List (Option S)) (a : At) : (addPart res a).length ≤ res.length + 1 := by
  cases a <;> simp only [addPart] <;> first | (split <;> simp) | simp
theorem parts_loop {text : S} {o n : Nat} (hn : text.length = n) (hz : n ≤ 1000) {E : X → St → Prop} {Q' : Fl → St → Prop} {σ : Sto} (ho : σ[o]? = some .obj) :
    ∀ (ats : List At) (k : Nat) (res : List (Option S)) (ν : Sto) (vars : Vars), ats.all atOk = true → text.drop k = ats.flatMap atTxt → k ≤ n → res.length + ats.length ≤ 100 → TVs vars text o n k σ.length →
      (∀ vars' ν', TVs vars' text o n n σ.length → Q' .next ⟨vars', σ ++ .list (vOs o (ats.foldl addPart res)) :: ν'⟩) →
      loopN f_tr_parts_t1 f_tr_parts_b4 (ats.length + 1) ⟨vars, σ ++ .list (vOs o res) :: ν⟩ Q' E
  | [], k, res, ν, vars, hok, hd, hk, hr, v, hq => by
    have := drop_nil (show text.drop k = [] from hd)
    have e : k = n := by omega
    subst e
    refine loop_false ?_ (hq _ _ v)
    show TV (tcmp oLt (var "i") (var "n")) _ _ _
    exact (TV.lt (EV.var v.v4) (EV.var v.v3)).to (by simp)
  | a :: ats, k, res, ν, vars, hok, hd, hk, hr, v, hq => by
    rw [List.all_cons, Bool.and_eq_true] at hok
    simp only [List.length_cons] at hr
    rw [List.flatMap_cons] at hd
    have hlen := congrArg List.length hd
    simp only [List.length_drop, List.length_append] at hlen
    have hpos : 1 ≤ (atTxt a).length := by cases a <;> simp [atTxt]
    refine loop_true ?_ ?_
    · show TV (tcmp oLt (var "i") (var "n")) _ _ _
      exact (TV.lt (EV.var v.v4) (EV.var v.v3)).to (by simp only [decide_eq_true_eq]; omega)
    refine atom_run hn hz ho hok.1 (by omega) hd v (fun vars' ν' v' => ?_)
    have := addPart_len res a
    exact parts_loop hn hz ho ats _ _ ν' vars' hok.2 (by rw [← List.drop_drop, hd, List.drop_left' rfl]) (by omega) (by omega) v' hq
theorem i_tr_parts {Vs : List V} {σ : Sto} {Q : V → Sto → Prop} {E : X → Sto → Prop} (h : p_tr_parts Vs σ Q E) : Vs.length = 3 ∧ f_tr_parts ⟨bindV ["pat", "STAR", "QUESTION_MARK"] Vs, σ⟩ (fin1 Q) (fin2 E) := by
  obtain ⟨ats, o, rfl, ho, hok, hn, hz, hQ⟩ := h
  refine ⟨rfl, ?_⟩
  have z : lim = 1000000 := rfl
  have b1 : bindV ["pat", "STAR", "QUESTION_MARK"] [V.str (ats.flatMap atTxt), V.ob o, V.str [46]] "pat" = some (.v (.str (ats.flatMap atTxt))) := rfl
  have b2 : bindV ["pat", "STAR", "QUESTION_MARK"] [V.str (ats.flatMap atTxt), V.ob o, V.str [46]] "STAR" = some (.v (.ob o)) := rfl
  have b3 : bindV ["pat", "STAR", "QUESTION_MARK"] [V.str (ats.flatMap atTxt), V.ob o, V.str [46]] "QUESTION_MARK" = some (.v (.str [46])) := rfl
  generalize bindV ["pat", "STAR", "QUESTION_MARK"] [V.str (ats.flatMap atTxt), V.ob o, V.str [46]] = vars at b1 b2 b3
  rw [f_tr_parts_run]
  refine seq_run ?_
  refine ⟨by decide, seq_run ⟨σ.length, [], by simp [upd], new_get _ _, ?_⟩⟩
  simp only [seq, asnSw, retS, asrt, tcmp, op1, op2, var, cint, tup, xnil, xcons, upd, String.reduceEq, ↓reduceIte, Option.some.injEq, Wv.v.injEq, exists_eq_left', oEqNe, oLen, Bool.bne_false, b1, asnSw]
  refine ⟨by omega, by show 2 ≤ 1000000; decide, _, _, .inl rfl, ?_⟩
  refine ⟨ats.length + 1, ?_⟩
  refine parts_loop (text := ats.flatMap atTxt) rfl (by omega) ho ats 0 [] [] _ hok (by simp) (by omega) (by simp; omega) ⟨by simp [upd, b1], by simp [upd, b2], by simp [upd], by simp [upd], by simp [upd], by simp [upd], by simp [upd, b3]⟩ (fun vars' ν' v' => ?_)
  simp only [Option.some.injEq, Wv.v.injEq, V.bool.injEq, exists_eq_left', v'.v3, v'.v4, v'.v6]
  exact ⟨by simp, hQ _ _ (at_get _ _ _)⟩
end
end Mine

namespace Mine
section
noncomputable abbrev r_translate : DefRec := recAt 7
noncomputable def f_translate : Sx := (seq (asn "STAR" newObjX) (seq (asn "parts" (callF p_tr_parts (xcons (var "pat") (xcons (var "STAR") (xcons (cstr [46]) xnil))))) (retS (callF p_join_translated_parts (xcons (var "parts") (xcons (var "STAR") xnil))))))
theorem f_translate_run (st : St) (Q : Fl → St → Prop) (E : X → St → Prop) : f_translate st Q E = (seq (asn "STAR" newObjX) (seq (asn "parts" (callF p_tr_parts (xcons (var "pat") (xcons (var "STAR") (xcons (cstr [46]) xnil))))) (retS (callF p_join_translated_parts (xcons (var "parts") (xcons (var "STAR") xnil)))))) st Q E := rfl
theorem foldl_len (ats : List At) : ∀ res, (ats.foldl addPart res).length ≤ res.length + ats.length := by
  induction ats with
  | nil => intro res; simp
  | cons a r ih => intro res; have h1 := ih (addPart res a); have h2 := addPart_len res a; simp only [List.foldl_cons, List.length_cons]; omega
noncomputable def p_translate : Spec' := fun Vs σ Q E => ∃ (ats : List At) (first : List S) (rest : List (List S)), Vs = [.str (ats.flatMap atTxt)] ∧ ats.all atOk = true ∧ ats.length ≤ 20 ∧ (ats.flatMap atTxt).length ≤ 500 ∧
  ats.foldl addPart [] = first.map some ++ restP rest ∧ midsOk rest ∧ (first ++ joinL rest).flatten.length ≤ 900 ∧ ∀ ν, Q (.str (hdT ++ (first ++ joinL rest).flatten ++ tlT)) (σ ++ ν)
theorem i_translate {Vs : List V} {σ : Sto} {Q : V → Sto → Prop} {E : X → Sto → Prop} (h : p_translate Vs σ Q E) : Vs.length = 1 ∧ f_translate ⟨bindV ["pat"] Vs, σ⟩ (fin1 Q) (fin2 E) := by
  obtain ⟨ats, first, rest, rfl, hok, hn, hz, he, hm, hw, hQ⟩ := h
  refine ⟨rfl, ?_⟩
  have b1 : bindV ["pat"] [V.str (ats.flatMap atTxt)] "pat" = some (.v (.str (ats.flatMap atTxt))) := rfl
  simp only [f_translate_run, seq, asn, retS, var, cstr, xnil, xcons, callF, upd, String.reduceEq, ↓reduceIte, Option.some.injEq, Wv.v.injEq, exists_eq_left', b1, newObjX]
  refine ⟨ats, σ.length, rfl, new_get _ _, hok, hn, hz, fun ν l hl => ?_⟩
  simp only [seq, asn, asn2, asnP, asnSw, aug, exprS, ifS, retS, brk, skip, asrt, raiseErr, asnApp, appF, tcmp, tval, tnot, tand, tor, tlit, op1, op2, ifx, andx, var, cint, cstr, cbool, cnone, lst, tup, xnil, xcons, callF, lm0, lm1, sm1, exE, upd, String.reduceEq, reduceCtorEq, ↓reduceIte, Bool.false_eq_true, Option.some.injEq, Wv.v.injEq, V.int.injEq, V.str.injEq, V.bool.injEq, V.lst.injEq, Cell.list.injEq, exists_eq_left', exists_eq_left, oAdd, oSub, oEqNe, oOrd, oIdxX, truthV, oLen, bne_self_eq_false, Bool.bne_false, Bool.bne_true, Bool.not_true, Bool.not_false, true_and, and_true]
  have hl' : ((σ ++ [Cell.obj]) ++ ν)[l]? = some (.list (vOs σ.length (first.map some ++ restP rest))) := by rw [← he]; exact hl
  have hlen : (first.map some ++ restP rest).length ≤ 1000 := by rw [← he]; have := foldl_len ats []; simp only [List.length_nil] at this; omega
  refine ⟨l, σ.length, first, rest, rfl, hl', ext_get (new_get _ _), hm, hlen, hw, fun μ => ?_⟩
  have := hQ ([Cell.obj] ++ ν ++ μ)
  simpa using this
end
end Mine

namespace Mine
section
noncomputable abbrev r_escape : DefRec := recAt 10
noncomputable def f_escape : Sx := ifS (tval (isStrX (var "pattern"))) (retS (trX (var "pattern"))) dead
theorem sd_escape : SoundSs 0 .pl r_escape.scope r_escape.body f_escape := by
  refine ss_one ?_
  refine s_if ?_ ?_ ?_
  · exact t_val (s_isStr (s_var (by decide +kernel) (by decide +kernel)) (by decide +kernel) (by decide +kernel))
  · exact ss_one (s_ret (s_translate (s_var (by decide +kernel) (by decide +kernel)) (by decide +kernel)))
  · exact ss_dead
theorem i_escape {Vs : List V} {σ : Sto} {Q : V → Sto → Prop} {E : X → Sto → Prop} (h : p_escape Vs σ Q E) : Vs.length = 1 ∧ f_escape ⟨bindV ["pattern"] Vs, σ⟩ (fin1 Q) (fin2 E) := by
  obtain ⟨c, rfl, hc, hq⟩ := h
  refine ⟨rfl, ?_⟩
  have b1 : bindV ["pattern"] [V.str [c]] "pattern" = some (.v (.str [c])) := rfl
  have tv : TV (tval (isStrX (var "pattern"))) (bindV ["pattern"] [V.str [c]]) σ true := fun Q E q => ⟨_, b1, ⟨_, rfl⟩, q⟩
  exact ifS_true tv (show retS _ _ _ _ from ⟨_, b1, c, rfl, hc, hq⟩)
theorem c_escape : Contract 0 "escape" p_escape := contract_of (d := r_escape) (ps := ["pattern"]) (by kernel_rfl) sd_escape (by decide +kernel) (fun pm code doc vs h => by obtain ⟨a, rfl⟩ := len1 h; rfl) fun _ _ _ _ => i_escape
theorem sd_tr_parts : SoundSs 1 .pl r_tr_parts.scope r_tr_parts.body f_tr_parts := by
  refine ss_cons ?_ ?_
  refine s_asn ?_ (by decide +kernel)
  refine s_lst ?_
  exact e_nil
  refine ss_cons ?_ ?_
  exact s_asnApp (by decide +kernel) (by decide +kernel) (by decide +kernel)
  refine ss_cons ?_ ?_
  refine s_asnSw ?_ (by decide +kernel) (by decide +kernel)
  refine s_tup ?_
  refine e_cons ?_ ?_
  exact s_int
  refine e_cons ?_ ?_
  refine s_blt1 b_len (by decide +kernel) o_len ?_
  exact s_var (by decide +kernel) (by decide +kernel)
  exact e_nil
  refine ss_cons ?_ ?_
  refine s_while ?_ ?_
  refine t_cmp o_lt ?_ ?_
  exact s_var (by decide +kernel) (by decide +kernel)
  exact s_var (by decide +kernel) (by decide +kernel)
  refine ss_cons ?_ ?_
  refine s_asn ?_ (by decide +kernel)
  refine s_idx ?_ ?_
  exact s_var (by decide +kernel) (by decide +kernel)
  exact s_var (by decide +kernel) (by decide +kernel)
  refine ss_cons ?_ ?_
  refine s_asn ?_ (by decide +kernel)
  refine s_bin o_add ?_ ?_
  exact s_var (by decide +kernel) (by decide +kernel)
  exact s_int
  refine ss_one ?_
  refine s_if ?_ ?_ ?_
  refine t_cmp o_eq ?_ ?_
  exact s_var (by decide +kernel) (by decide +kernel)
  exact s_str (by decide +kernel)
  refine ss_one ?_
  refine s_if ?_ ?_ ?_
  refine t_bop ?_
  refine a_or ?_ ?_
  refine t_not ?_
  refine t_val ?_
  exact s_var (by decide +kernel) (by decide +kernel)
  refine a_or ?_ ?_
  refine t_cmp o_isNot ?_ ?_
  refine s_idx ?_ ?_
  exact s_var (by decide +kernel) (by decide +kernel)
  refine s_neg ?_
  exact s_int
  exact s_var (by decide +kernel) (by decide +kernel)
  exact a_or_nil
  refine ss_one ?_
  refine s_expr ?_
  refine s_app ?_ (by decide +kernel) (by decide +kernel)
  exact s_var (by decide +kernel) (by decide +kernel)
  exact ss_nil
  refine ss_one ?_
  refine s_if ?_ ?_ ?_
  refine t_cmp o_eq ?_ ?_
  exact s_var (by decide +kernel) (by decide +kernel)
  exact s_str (by decide +kernel)
  refine ss_one ?_
  refine s_expr ?_
  refine s_app ?_ (by decide +kernel) (by decide +kernel)
  exact s_var (by decide +kernel) (by decide +kernel)
  refine ss_one ?_
  refine s_if ?_ ?_ ?_
  refine t_cmp o_eq ?_ ?_
  exact s_var (by decide +kernel) (by decide +kernel)
  exact s_str (by decide +kernel)
  refine ss_cons ?_ ?_
  refine s_asn ?_ (by decide +kernel)
  exact s_var (by decide +kernel) (by decide +kernel)
  refine ss_cons ?_ ?_
  refine s_if ?_ ?_ ?_
  refine t_bop ?_
  refine a_and ?_ ?_
  refine t_cmp o_lt ?_ ?_
  exact s_var (by decide +kernel) (by decide +kernel)
  exact s_var (by decide +kernel) (by decide +kernel)
  refine a_and ?_ ?_
  refine t_cmp o_eq ?_ ?_
  refine s_idx ?_ ?_
  exact s_var (by decide +kernel) (by decide +kernel)
  exact s_var (by decide +kernel) (by decide +kernel)
  exact s_str (by decide +kernel)
  exact a_and_nil
  refine ss_one ?_
  refine s_asn ?_ (by decide +kernel)
  refine s_bin o_add ?_ ?_
  exact s_var (by decide +kernel) (by decide +kernel)
  exact s_int
  exact ss_nil
  refine ss_cons ?_ ?_
  refine s_if ?_ ?_ ?_
  refine t_bop ?_
  refine a_and ?_ ?_
  refine t_cmp o_lt ?_ ?_
  exact s_var (by decide +kernel) (by decide +kernel)
  exact s_var (by decide +kernel) (by decide +kernel)
  refine a_and ?_ ?_
  refine t_cmp o_eq ?_ ?_
  refine s_idx ?_ ?_
  exact s_var (by decide +kernel) (by decide +kernel)
  exact s_var (by decide +kernel) (by decide +kernel)
  exact s_str (by decide +kernel)
  exact a_and_nil
  refine ss_one ?_
  refine s_asn ?_ (by decide +kernel)
  refine s_bin o_add ?_ ?_
  exact s_var (by decide +kernel) (by decide +kernel)
  exact s_int
  exact ss_nil
  refine ss_cons ?_ ?_
  refine s_while ?_ ?_
  refine t_bop ?_
  refine a_and ?_ ?_
  refine t_cmp o_lt ?_ ?_
  exact s_var (by decide +kernel) (by decide +kernel)
  exact s_var (by decide +kernel) (by decide +kernel)
  refine a_and ?_ ?_
  refine t_cmp o_ne ?_ ?_
  refine s_idx ?_ ?_
  exact s_var (by decide +kernel) (by decide +kernel)
  exact s_var (by decide +kernel) (by decide +kernel)
  exact s_str (by decide +kernel)
  exact a_and_nil
  refine ss_one ?_
  refine s_asn ?_ (by decide +kernel)
  refine s_bin o_add ?_ ?_
  exact s_var (by decide +kernel) (by decide +kernel)
  exact s_int
  refine ss_one ?_
  refine s_if ?_ ?_ ?_
  refine t_cmp o_ge ?_ ?_
  exact s_var (by decide +kernel) (by decide +kernel)
  exact s_var (by decide +kernel) (by decide +kernel)
  refine ss_one ?_
  refine s_expr ?_
  refine s_app ?_ (by decide +kernel) (by decide +kernel)
  exact s_str (by decide +kernel)
  refine ss_cons ?_ ?_
  refine s_asn ?_ (by decide +kernel)
  refine s_slice ?_ ?_ ?_
  exact s_var (by decide +kernel) (by decide +kernel)
  refine p_some ?_
  exact s_var (by decide +kernel) (by decide +kernel)
  refine p_some ?_
  exact s_var (by decide +kernel) (by decide +kernel)
  refine ss_cons ?_ ?_
  refine s_if ?_ ?_ ?_
  refine t_cmp o_notIn ?_ ?_
  exact s_str (by decide +kernel)
  exact s_var (by decide +kernel) (by decide +kernel)
  refine ss_one ?_
  refine s_asn ?_ (by decide +kernel)
  refine s_dbl ?_ (by decide +kernel) (by decide +kernel)
  exact s_var (by decide +kernel) (by decide +kernel)
  exact ss_dead
  refine ss_cons ?_ ?_
  refine s_asnSub ?_ (by decide +kernel) (by decide +kernel)
  exact s_var (by decide +kernel) (by decide +kernel)
  refine ss_cons ?_ ?_
  refine s_asn ?_ (by decide +kernel)
  refine s_bin o_add ?_ ?_
  exact s_var (by decide +kernel) (by decide +kernel)
  exact s_int
  refine ss_one ?_
  refine s_if ?_ ?_ ?_
  refine t_not ?_
  refine t_val ?_
  exact s_var (by decide +kernel) (by decide +kernel)
  refine ss_one ?_
  refine s_expr ?_
  refine s_app ?_ (by decide +kernel) (by decide +kernel)
  exact s_str (by decide +kernel)
  refine ss_one ?_
  refine s_if ?_ ?_ ?_
  refine t_cmp o_eq ?_ ?_
  exact s_var (by decide +kernel) (by decide +kernel)
  exact s_str (by decide +kernel)
  refine ss_one ?_
  refine s_expr ?_
  refine s_app ?_ (by decide +kernel) (by decide +kernel)
  exact s_str (by decide +kernel)
  refine ss_cons ?_ ?_
  refine s_if ?_ ?_ ?_
  refine t_cmp o_eq ?_ ?_
  refine s_idx ?_ ?_
  exact s_var (by decide +kernel) (by decide +kernel)
  exact s_int
  exact s_str (by decide +kernel)
  refine ss_one ?_
  refine s_asn ?_ (by decide +kernel)
  refine s_bin o_add ?_ ?_
  exact s_str (by decide +kernel)
  refine s_slice ?_ ?_ ?_
  exact s_var (by decide +kernel) (by decide +kernel)
  refine p_some ?_
  exact s_int
  exact p_none
  refine ss_one ?_
  refine s_if ?_ ?_ ?_
  refine t_cmp o_in ?_ ?_
  refine s_idx ?_ ?_
  exact s_var (by decide +kernel) (by decide +kernel)
  exact s_int
  refine s_tup ?_
  refine e_cons ?_ ?_
  exact s_str (by decide +kernel)
  refine e_cons ?_ ?_
  exact s_str (by decide +kernel)
  exact e_nil
  refine ss_one ?_
  refine s_asn ?_ (by decide +kernel)
  refine s_bin o_add ?_ ?_
  exact s_str (by decide +kernel)
  exact s_var (by decide +kernel) (by decide +kernel)
  exact ss_nil
  refine ss_one ?_
  refine s_expr ?_
  refine s_app ?_ (by decide +kernel) (by decide +kernel)
  refine s_fstr ?_ (by decide +kernel) (by decide +kernel) (by decide +kernel)
  exact s_var (by decide +kernel) (by decide +kernel)
  refine ss_one ?_
  refine s_expr ?_
  refine s_app ?_ (by decide +kernel) (by decide +kernel)
  refine s_call c_escape (by decide) (by decide +kernel) ?_
  refine e_cons ?_ ?_
  exact s_var (by decide +kernel) (by decide +kernel)
  exact e_nil
  refine ss_cons ?_ ?_
  refine s_asrt ?_
  refine t_cmp o_eq ?_ ?_
  exact s_var (by decide +kernel) (by decide +kernel)
  exact s_var (by decide +kernel) (by decide +kernel)
  refine ss_one ?_
  refine s_ret ?_
  exact s_var (by decide +kernel) (by decide +kernel)
theorem c_tr_parts : Contract 1 "_translate" p_tr_parts := contract_of (d := r_tr_parts) (ps := ["pat", "STAR", "QUESTION_MARK"]) (by kernel_rfl) sd_tr_parts (by decide +kernel) (fun pm code doc vs h => by obtain ⟨a, b, c, rfl⟩ := len3 h; rfl) fun _ _ _ _ => i_tr_parts
theorem sd_translate : SoundSs 2 .pl r_translate.scope r_translate.body f_translate := by
  refine ss_cons ?_ ?_
  refine s_asn ?_ (by decide +kernel)
  exact s_object b_object (by decide +kernel)
  refine ss_cons ?_ ?_
  refine s_asn ?_ (by decide +kernel)
  refine s_call c_tr_parts (by decide) (by decide +kernel) ?_
  refine e_cons ?_ ?_
  exact s_var (by decide +kernel) (by decide +kernel)
  refine e_cons ?_ ?_
  exact s_var (by decide +kernel) (by decide +kernel)
  refine e_cons ?_ ?_
  exact s_str (by decide +kernel)
  exact e_nil
  refine ss_one ?_
  refine s_ret ?_
  refine s_call c_join_translated_parts (by decide) (by decide +kernel) ?_
  refine e_cons ?_ ?_
  exact s_var (by decide +kernel) (by decide +kernel)
  refine e_cons ?_ ?_
  exact s_var (by decide +kernel) (by decide +kernel)
  exact e_nil
theorem c_translate : Contract 2 "translate" p_translate := contract_of (d := r_translate) (ps := ["pat"]) (by kernel_rfl) sd_translate (by decide +kernel) (fun pm code doc vs h => by obtain ⟨a, rfl⟩ := len1 h; rfl) fun _ _ _ _ => i_translate
end
end Mine

namespace Mine
section
theorem IE.rng {f : Ex} {vars σ} {n : Nat} (hn : n < 1000000) (h : EV f vars σ (.int n)) : IE (rng1 f) vars σ ((List.range n).map fun i : Nat => V.int i) := fun Q E q => h _ _ ⟨n, rfl, nat_pos9 hn, by
  have := q [] (.rng 0 n) (by simp [It.items]) (fun _ => trivial)
  rw [List.append_nil] at this
  simpa using this⟩
theorem comp_fm {chk : Sto → Prop} {x : String} {e : Ex} {t : Tx} {g : V → V} {h : V → Bool} {σ τ : Sto} {K : Vars → Sto → Prop} (P : Vars → Prop) (hP : ∀ vars v, P vars → P (upd vars x (.v v))) (hτ : ∃ μ, τ = σ ++ μ) (hchk : ∀ μ, chk (τ ++ μ)) (D : V → Prop)
    (ht : ∀ v vars σ', D v → P vars → vars x = some (.v v) → (∃ μ, σ' = σ ++ μ) → TE t vars σ' (h v))
    (he : ∀ v vars σ', D v → h v = true → P vars → vars x = some (.v v) → (∃ μ, σ' = σ ++ μ) → EE e vars σ' (g v)) :
    ∀ (rest acc : List V) (ν : Sto) (vars : Vars), (∀ v ∈ rest, D v) → acc.length + rest.length ≤ 1000 → P vars → (∀ vars' ν', K vars' (τ ++ .list (acc ++ (rest.filter h).map g) :: ν')) →
      compC chk (.one x) t (emitG τ.length e) rest vars (τ ++ .list acc :: ν) K
  | [], acc, ν, vars, hD, hz, hv, hK => ⟨hchk _, by simpa using hK vars ν⟩
  | v :: r, acc, ν, vars, hD, hz, hv, hK => by
    simp only [List.length_cons] at hz
    have hv' := hP vars v hv
    have hx : (upd vars x (.v v)) x = some (.v v) := upd_eq
    obtain ⟨μ, rfl⟩ := hτ
    refine ⟨hchk _, ?_⟩
    show t (upd vars x (.v v)) _ _ _
    refine ht v _ _ (hD v (.head _)) hv' hx ⟨μ ++ .list acc :: ν, by simp⟩ _ _ (fun ν1 => ?_)
    cases hh : h v with
    | true =>
      rw [if_pos rfl]
      refine he v _ _ (hD v (.head _)) hh hv' hx ⟨μ ++ .list acc :: ν ++ ν1, by simp⟩ _ _ (fun ν2 => ?_)
      rw [app2, app2]
      refine ⟨acc, at_get _ _ _, by show _ < 1000000; omega, ?_⟩
      rw [at_set]
      refine comp_fm P hP ⟨μ, rfl⟩ hchk D ht he r (acc ++ [g v]) _ _ (fun w hw => hD w (.tail _ hw)) (by simp; omega) hv' (fun vars' ν' => ?_)
      have := hK vars' ν'
      rw [List.filter_cons_of_pos hh, List.map_cons] at this
      simpa using this
    | false =>
      rw [if_neg (by decide), app2]
      refine comp_fm P hP ⟨μ, rfl⟩ hchk D ht he r acc _ _ (fun w hw => hD w (.tail _ hw)) (by omega) hv' (fun vars' ν' => ?_)
      have := hK vars' ν'
      rw [List.filter_cons_of_neg (by rw [hh]; decide)] at this
      exact this
theorem EL.comp {frees : List String} {fi : Itx} {x : String} {t : Tx} {e : Ex} {g : V → V} {h : V → Bool} {vars : Vars} {σ : Sto} {all : List V} (P : Vars → Prop) (hP : ∀ vars v, P vars → P (upd vars x (.v v))) (D : V → Prop) (hfr : ∀ n ∈ frees, ∃ w, vars n = some w)
    (hi : IE fi vars σ all) (hz : all.length ≤ 1000) (hD : ∀ v ∈ all, D v) (hP0 : P (cv frees vars))
    (ht : ∀ v vars σ', D v → P vars → vars x = some (.v v) → (∃ μ, σ' = σ ++ μ) → TE t vars σ' (h v))
    (he : ∀ v vars σ', D v → h v = true → P vars → vars x = some (.v v) → (∃ μ, σ' = σ ++ μ) → EE e vars σ' (g v)) :
    EL (comp frees fi (.one x) t (fun j => emitG j e)) vars σ ((all.filter h).map g) := fun Q E q => ⟨hfr, hi _ _ fun ν d hd hc => by
  rw [hd]
  refine comp_fm P hP ⟨ν, rfl⟩ hc D ht he all [] [] _ hD (by simpa using hz) hP0 (fun vars' ν' => ?_)
  rw [List.nil_append]
  have := q (ν ++ .list ((all.filter h).map g) :: ν') (σ ++ ν).length (by rw [← List.append_assoc]; exact at_get _ _ _)
  rw [← List.append_assoc] at this
  exact this⟩
theorem filter_true {α : Type} (xs : List α) : xs.filter (fun _ => true) = xs := by simp
end
end Mine

namespace Mine
section
noncomputable abbrev r_law : DefRec := recAt 32
noncomputable def f_law_b1 : Sx := (seq (asn "pieces" (callF p_law_pieces (xcons (callF p_translate (xcons (sm1 oJoin (cstr []) (comp [] (ofLst (var "items")) (.one "item") (tlit true) (fun j => emitG j (op2 oIdx (var "item") (cint 0))))) xnil)) xnil))) (seq (ifS (tcmp (oIs false) (var "pieces") cnone) (retS (cbool false)) skip) (seq (asn "taken" (comp ["pieces"] (ofLst (var "names")) (.one "name") (tlit true) (fun j => emitG j (callF p_law_takes (xcons (var "pieces") (xcons (var "name") xnil)))))) (seq (ifS (tcmp (oEqNe true) (var "taken") (callF p_law_told (xcons (var "items") (xcons (var "texts") xnil)))) (retS (cbool false)) skip) (exprS (lm1 oAppend (var "lists") (op1 oSorted (comp ["names", "taken"] (rng1 (cint 31)) (.one "k") (tval (op2 oIdx (var "taken") (var "k"))) (fun j => emitG j (op2 oIdx (var "names") (var "k")))))))))))
theorem f_law_b1_run (st : St) (Q : Fl → St → Prop) (E : X → St → Prop) : f_law_b1 st Q E = (seq (asn "pieces" (callF p_law_pieces (xcons (callF p_translate (xcons (sm1 oJoin (cstr []) (comp [] (ofLst (var "items")) (.one "item") (tlit true) (fun j => emitG j (op2 oIdx (var "item") (cint 0))))) xnil)) xnil))) (seq (ifS (tcmp (oIs false) (var "pieces") cnone) (retS (cbool false)) skip) (seq (asn "taken" (comp ["pieces"] (ofLst (var "names")) (.one "name") (tlit true) (fun j => emitG j (callF p_law_takes (xcons (var "pieces") (xcons (var "name") xnil)))))) (seq (ifS (tcmp (oEqNe true) (var "taken") (callF p_law_told (xcons (var "items") (xcons (var "texts") xnil)))) (retS (cbool false)) skip) (exprS (lm1 oAppend (var "lists") (op1 oSorted (comp ["names", "taken"] (rng1 (cint 31)) (.one "k") (tval (op2 oIdx (var "taken") (var "k"))) (fun j => emitG j (op2 oIdx (var "names") (var "k"))))))))))) st Q E := rfl
noncomputable def f_law : Sx := (seq (asn "numbers" (callF p_law_numbers (xcons (var "script") xnil))) (seq (asn "sign" (op2 oIdx (cstr [97, 42, 63, 91, 94, 92, 38, 32, 10, 40, 46, 126]) (op2 oMod (op2 oIdx (var "numbers") (cint 0)) (cint 12)))) (seq (asn "texts" (callF p_law_texts (xcons (var "sign") xnil))) (seq (asn "names" (comp [] (ofLst (var "texts")) (.one "text") (tlit true) (fun j => emitG j (callF p_parse257 (xcons (op2 oAdd (cstr [50, 53, 55, 32, 34]) (var "text")) xnil))))) (seq (ifS (tcmp (oEqNe true) (var "names") (comp [] (ofLst (var "texts")) (.one "text") (tlit true) (fun j => emitG j (callF p_law_named (xcons (var "text") xnil))))) (retS (cbool false)) skip) (seq (asn "lists" (lst xnil)) (seq (forS "items" (ofLst (lst (xcons (callF p_law_items (xcons (slice (var "numbers") (cint 1) (cint 7)) (xcons (var "sign") xnil))) (xcons (callF p_law_items (xcons (slice (var "numbers") (cint 7) cnone) (xcons (var "sign") xnil))) xnil)))) f_law_b1) (seq (asnP "had" "has" (var "lists")) (seq (ifS (tcmp (oEqNe true) (callF p_sorted_list_difference (xcons (var "had") (xcons (var "has") xnil))) (tup (xcons (callF p_law_alone (xcons (var "had") (xcons (var "has") xnil))) (xcons (callF p_law_alone (xcons (var "has") (xcons (var "had") xnil))) xnil)))) (retS (cbool false)) skip) (seq (asn "gone" (op1 oList (var "had"))) (seq (asn "kept" (op1 oList (var "has"))) (seq (asnP "missing" "left" (callF p_unorderable_list_difference (xcons (var "gone") (xcons (var "kept") xnil)))) (seq (ifS (tor (tcmp (oEqNe true) (var "gone") (lst xnil)) (tor (tcmp (oIs true) (var "left") (var "kept")) (tor (tcmp (oEqNe true) (var "left") (callF p_law_more (xcons (var "has") (xcons (var "had") xnil)))) (tor (tcmp (oEqNe true) (var "missing") (slice3 (callF p_law_more (xcons (var "had") (xcons (var "has") xnil))) cnone cnone (op1 oNeg (cint 1)))) (tlit false))))) (retS (cbool false)) skip) (seq (ifS (tcmp (oEqNe true) (comp ["texts"] (ofLst (lst (xcons (cstr []) (xcons (cstr [50, 53]) (xcons (cstr [50, 53, 54, 32, 34]) (xcons (cstr [32, 50, 53, 55, 32, 34]) xnil)))))) (.one "head") (tnot (tval (callF p_law_refused (xcons (op2 oAdd (var "head") (op2 oIdx (var "texts") (op1 oNeg (cint 1)))) xnil)))) (fun j => emitG j (var "head"))) (lst xnil)) (retS (cbool false)) skip) (retS (op2 (oEqNe false) (comp ["texts"] (ofLst (lst (xcons (cstr [50, 53, 55]) (xcons (cstr [50, 53, 55, 32]) (xcons (cstr [50, 53, 55, 45, 34]) (xcons (cstr [50, 53, 55, 34]) (xcons (cstr [50, 53, 55, 32, 32, 34]) xnil))))))) (.one "head") (tlit true) (fun j => emitG j (callF p_parse257 (xcons (op2 oAdd (var "head") (op2 oIdx (var "texts") (op1 oNeg (cint 1)))) xnil)))) (op2 oMul (lst (xcons (cstr []) xnil)) (cint 5))))))))))))))))))
theorem Pcs.ext {σ ν i p r} (x : Pcs σ i p r) : Pcs (σ ++ ν) i p r := by
  cases x with
  | one a b c => exact .one (ext_get a) (ext_get b) c
  | more a b c d e f g => exact .more (ext_get a) (ext_get b) c d.ext (ext_get e) f g
noncomputable def selN (names : List S) (tk : List Bool) : List S := ((List.range 31).filter fun k => tk[k]?.getD false).map fun k => names[k]?.getD []
noncomputable def TurnOk (its : List Item) (texts names : List S) : Prop := ∃ (ats : List At) (first : List S) (rest : List (List S)) (q' : PS) (p : Piece) (rst : Option (List Piece × Piece)),
  (its.map (·.txt)).flatten = ats.flatMap atTxt ∧ ats.all atOk = true ∧ ats.length ≤ 20 ∧ (ats.flatMap atTxt).length ≤ 500 ∧ ats.foldl addPart [] = first.map some ++ restP rest ∧ midsOk rest ∧ (first ++ joinL rest).flatten.length ≤ 900 ∧ (∀ c ∈ (first ++ joinL rest).flatten, c < 128) ∧
  prun (first ++ joinL rest).flatten ((first ++ joinL rest).flatten.length + 1) ⟨0, [], [], false, false, false⟩ = some q' ∧ q'.h = false ∧ q'.s = false ∧ (q'.ps0 = [] → p = q'.p ∧ rst = none) ∧ (∀ p0 mid, q'.ps0 = p0 :: mid → p = p0 ∧ rst = some (mid, q'.p)) ∧ names.map (takes p rst) = toldL its texts
structure LV (vars : Vars) (n t L : Nat) : Prop where
  v1 : vars "names" = some (.v (.lst n))
  v2 : vars "texts" = some (.v (.lst t))
  v3 : vars "lists" = some (.v (.lst L))
theorem law_turn {σ : Sto} {i n t L : Nat} {its : List Item} {texts names : List S} {acc : List V} {vars : Vars} {E : X → St → Prop} {Q' : Fl → St → Prop} (hok : TurnOk its texts names) (h31 : names.length = 31) (hnl : ∀ s ∈ names, s.length ≤ 1000) (hi : σ[i]? = some (.list (vIts its))) (hn : σ[n]? = some (.list (vS names))) (ht : σ[t]? = some (.list (vS texts))) (hL : σ[L]? = some (.list acc)) (hacc : acc.length ≤ 10)
    (hil : its.length ≤ 60) (htl : 1 ≤ texts.length ∧ texts.length ≤ 100) (htn : ∀ t ∈ texts.drop 1, t ≠ []) (hiv : vars "items" = some (.v (.lst i))) (v : LV vars n t L)
    (hq : ∀ vars' ν k ys, LV vars' n t L → (∀ c, (σ.set L c ++ ν)[k]? = some (.list (vS ys))) → ys.Perm (selN names (toldL its texts)) → (ys.Pairwise fun a b => ¬ b < a) → (∀ y, y ≠ "pieces" → y ≠ "taken" → vars' y = vars y) → Q' .next ⟨vars', σ.set L (.list (acc ++ [.lst k])) ++ ν⟩) :
    f_law_b1 ⟨vars, σ⟩ Q' E := by
  obtain ⟨ats, first, rest, q', p, rst, a1, a2, a3, a4, a5, a6, a7, a8, a9, a10, a11, a12, a13, a14⟩ := hok
  rw [f_law_b1_run]
  have e1 : EL (comp [] (ofLst (var "items")) (.one "item") (tlit true) (fun j => emitG j (op2 oIdx (var "item") (cint 0)))) vars σ (vS (its.map (·.txt))) := by
    have := EL.comp (frees := []) (x := "item") (t := tlit true) (e := op2 oIdx (var "item") (cint 0)) (g := fun v => match v with | .tup (a :: _) => a | _ => .none) (h := fun _ => true) (fun _ => True) (fun _ _ _ => trivial) (fun v => ∃ it, v = vIt it) (fun _ h => nomatch h) (EL.var hiv hi).ie (by rw [vIts_len]; omega)
      (fun v hv => by obtain ⟨it, _, rfl⟩ := List.mem_map.mp hv; exact ⟨it, rfl⟩) trivial (fun v vars' σ' _ _ _ _ => TV.lit.te) (fun v vars' σ' hv _ _ hx _ => by
        obtain ⟨it, rfl⟩ := hv
        exact EV.ee fun Q E q => ⟨_, hx, by decide, _, rfl, q⟩)
    rw [filter_true] at this
    have e : (vIts its).map (fun v => match v with | .tup (a :: _) => a | _ => V.none) = vS (its.map (·.txt)) := by simp [vIts, vS, vIt]
    rw [e] at this
    exact this
  have e2 := EE.call1 (p := p_translate) (r := .str (hdT ++ (first ++ joinL rest).flatten ++ tlT)) (EE.join e1 (by rw [a1]; omega)) (fun σ' Q E _ hq => ⟨ats, first, rest, by rw [a1], a2, a3, a4, a5, a6, a7, hq⟩)
  refine seq_run (e2 _ _ (fun ν1 => ?_))
  refine ⟨_, q', rfl, a7, a8, a9, a10, a11, fun ν2 pi h1 h2 => ?_⟩
  have hP : Pcs ((σ ++ ν1) ++ ν2) pi p rst := by
    cases hps : q'.ps0 with
    | nil => obtain ⟨rfl, rfl⟩ := a12 hps; exact h1 hps
    | cons p0 mid => obtain ⟨rfl, rfl⟩ := a13 p0 mid hps; exact h2 _ mid hps
  have hi2 : ((σ ++ ν1) ++ ν2)[i]? = some (.list (vIts its)) := ext_get (ext_get hi)
  have hn2 : ((σ ++ ν1) ++ ν2)[n]? = some (.list (vS names)) := ext_get (ext_get hn)
  have ht2 : ((σ ++ ν1) ++ ν2)[t]? = some (.list (vS texts)) := ext_get (ext_get ht)
  have hL2 : ((σ ++ ν1) ++ ν2)[L]? = some (.list acc) := ext_get (ext_get hL)
  have hst : ∃ μ, (σ ++ ν1) ++ ν2 = σ ++ μ := ⟨ν1 ++ ν2, by simp⟩
  generalize (σ ++ ν1) ++ ν2 = σ2 at hP hi2 hn2 ht2 hL2 hst
  have w1 : LV (upd vars "pieces" (.v (.lst pi))) n t L := ⟨by simp [upd, v.v1], by simp [upd, v.v2], by simp [upd, v.v3]⟩
  have w2 : (upd vars "pieces" (.v (.lst pi))) "pieces" = some (.v (.lst pi)) := upd_eq
  have w3 : (upd vars "pieces" (.v (.lst pi))) "items" = some (.v (.lst i)) := by rw [upd_ne (by decide)]; exact hiv
  have w4 : ∀ y, y ≠ "pieces" → y ≠ "taken" → (upd vars "pieces" (.v (.lst pi))) y = vars y := fun y hy _ => upd_ne hy
  show seq _ _ ⟨upd vars "pieces" (.v (.lst pi)), σ2⟩ _ _
  generalize upd vars "pieces" (.v (.lst pi)) = vars1 at w1 w2 w3 w4
  refine seq_run (ifS_false (TV.isNone (EV.var w2)) (skip_run ?_))
  have e3 : EL (comp ["pieces"] (ofLst (var "names")) (.one "name") (tlit true) (fun j => emitG j (callF p_law_takes (xcons (var "pieces") (xcons (var "name") xnil))))) vars1 σ2 (vB (toldL its texts)) := by
    have := EL.comp (frees := ["pieces"]) (x := "name") (t := tlit true) (e := callF p_law_takes (xcons (var "pieces") (xcons (var "name") xnil))) (g := fun v => match v with | .str s => .bool (takes p rst s) | _ => .none) (h := fun _ => true) (fun vs => vs "pieces" = some (.v (.lst pi))) (fun vs v h => by rw [upd_ne (by decide)]; exact h) (fun v => ∃ s, v = .str s ∧ s.length ≤ 1000)
      (fun y hy => by rw [List.mem_singleton.mp hy]; exact ⟨_, w2⟩) (EL.var w1.v1 hn2).ie (by rw [vS_len]; omega) (fun v hv => by obtain ⟨s, hs, rfl⟩ := List.mem_map.mp hv; exact ⟨s, rfl, hnl s hs⟩) (by simp [cv, w2]) (fun v vars' σ' _ _ _ _ => TV.lit.te) (fun v vars' σ' hv _ hpi hx hσ => by
        obtain ⟨s, rfl, hs⟩ := hv
        obtain ⟨μ, rfl⟩ := hσ
        exact fun Q E q => ⟨_, hpi, _, hx, pi, p, rst, s, rfl, hP.ext, hs, q⟩)
    rw [filter_true] at this
    have e : (vS names).map (fun v => match v with | .str s => V.bool (takes p rst s) | _ => V.none) = vB (toldL its texts) := by rw [← a14]; simp [vS, vB]
    rw [e] at this
    exact this
  refine seq_run (asnL e3 (fun ν3 tk htk => ?_))
  have hn3 : (σ2 ++ ν3)[n]? = some (.list (vS names)) := ext_get hn2
  have hi3 : (σ2 ++ ν3)[i]? = some (.list (vIts its)) := ext_get hi2
  have ht3 : (σ2 ++ ν3)[t]? = some (.list (vS texts)) := ext_get ht2
  have hL3 : (σ2 ++ ν3)[L]? = some (.list acc) := ext_get hL2
  have hst3 : ∃ μ, σ2 ++ ν3 = σ ++ μ := by obtain ⟨μ, rfl⟩ := hst; exact ⟨μ ++ ν3, by simp⟩
  generalize σ2 ++ ν3 = σ3 at htk hn3 hi3 ht3 hL3 hst3
  have x1 : LV (upd vars1 "taken" (.v (.lst tk))) n t L := ⟨by simp [upd, w1.v1], by simp [upd, w1.v2], by simp [upd, w1.v3]⟩
  have x2 : (upd vars1 "taken" (.v (.lst tk))) "taken" = some (.v (.lst tk)) := upd_eq
  have x3 : (upd vars1 "taken" (.v (.lst tk))) "items" = some (.v (.lst i)) := by rw [upd_ne (by decide)]; exact w3
  have x4 : ∀ y, y ≠ "pieces" → y ≠ "taken" → (upd vars1 "taken" (.v (.lst tk))) y = vars y := fun y hy hy2 => by rw [upd_ne hy2]; exact w4 y hy hy2
  show seq _ _ ⟨upd vars1 "taken" (.v (.lst tk)), σ3⟩ _ _
  generalize upd vars1 "taken" (.v (.lst tk)) = vars2 at x1 x2 x3 x4
  have e4 : TE (tcmp (oEqNe true) (var "taken") (callF p_law_told (xcons (var "items") (xcons (var "texts") xnil)))) vars2 σ3 false := fun Q E q =>
    ⟨_, x2, _, x3, _, x1.v2, i, t, its, texts, rfl, hi3, ht3, hil, htl.1, htl.2, htn, fun ν l hl => ⟨pdB (toldL its texts), pdB (toldL its texts), 1, 1, .bl (ext_get htk), .bl hl, _, rfl, by rw [eqv_B]; simpa using q ν⟩⟩
  refine seq_run (ifS_falseE e4 (fun ν4 => skip_run ?_))
  have htk4 : (σ3 ++ ν4)[tk]? = some (.list (vB (toldL its texts))) := ext_get htk
  have hn4 : (σ3 ++ ν4)[n]? = some (.list (vS names)) := ext_get hn3
  have hL4 : (σ3 ++ ν4)[L]? = some (.list acc) := ext_get hL3
  have hst4 : ∃ μ, σ3 ++ ν4 = σ ++ μ := by obtain ⟨μ, rfl⟩ := hst3; exact ⟨μ ++ ν4, by simp⟩
  generalize σ3 ++ ν4 = σ4 at htk4 hn4 hL4 hst4
  have htl31 : (toldL its texts).length = 31 := by rw [← a14, List.length_map, h31]
  have e5 : EL (comp ["names", "taken"] (rng1 (cint 31)) (.one "k") (tval (op2 oIdx (var "taken") (var "k"))) (fun j => emitG j (op2 oIdx (var "names") (var "k")))) vars2 σ4 (vS (selN names (toldL its texts))) := by
    have := EL.comp (frees := ["names", "taken"]) (fi := rng1 (cint 31)) (x := "k") (t := tval (op2 oIdx (var "taken") (var "k"))) (e := op2 oIdx (var "names") (var "k")) (g := fun v => match v with | .int k => .str (names[k.toNat]?.getD []) | _ => .none) (h := fun v => match v with | .int k => (toldL its texts)[k.toNat]?.getD false | _ => false) (σ := σ4) (vars := vars2)
      (fun vs => vs "names" = some (.v (.lst n)) ∧ vs "taken" = some (.v (.lst tk))) (fun vs v h => ⟨by rw [upd_ne (by decide)]; exact h.1, by rw [upd_ne (by decide)]; exact h.2⟩) (fun v => ∃ k : Nat, k < 31 ∧ v = .int k)
      (fun y hy => by simp only [List.mem_cons, List.not_mem_nil, or_false] at hy; rcases hy with rfl | rfl <;> first | exact ⟨_, x1.v1⟩ | exact ⟨_, x2⟩) (IE.rng (n := 31) (by omega) EV.int) (by simp) (fun v hv => by obtain ⟨k, hk, rfl⟩ := List.mem_map.mp hv; exact ⟨k, List.mem_range.mp hk, rfl⟩) ⟨by simp [cv, x1.v1], by simp [cv, x2]⟩
      (fun v vars' σ' hv hpi hx hσ => by
        obtain ⟨k, hk, rfl⟩ := hv
        obtain ⟨μ, rfl⟩ := hσ
        have hg : (toldL its texts)[k]? = some ((toldL its texts)[k]?.getD false) := by rw [List.getElem?_eq_getElem (by omega)]; rfl
        exact (TV.boolE (EV.idxB (EV.var hpi.2) (EV.var hx) (ext_get htk4) (by omega) hg)).te)
      (fun v vars' σ' hv _ hpi hx hσ => by
        obtain ⟨k, hk, rfl⟩ := hv
        obtain ⟨μ, rfl⟩ := hσ
        have hg : names[k]? = some (names[k]?.getD []) := by rw [List.getElem?_eq_getElem (by omega)]; rfl
        exact (EV.idxS (EV.var hpi.1) (EV.var hx) (ext_get hn4) (by omega) hg).ee)
    have e : (((List.range 31).map fun i : Nat => V.int i).filter (fun v => match v with | .int k => (toldL its texts)[k.toNat]?.getD false | _ => false)).map (fun v => match v with | .int k => V.str (names[k.toNat]?.getD []) | _ => V.none) = vS (selN names (toldL its texts)) := by
      rw [List.filter_map, List.map_map]
      simp only [selN, vS, List.map_map]
      rfl
    rw [e] at this
    exact this
  have hsl : (selN names (toldL its texts)).length < 64 := by
    unfold selN
    rw [List.length_map]
    exact Nat.lt_of_le_of_lt (List.length_filter_le _ _) (by simp)
  refine ⟨_, x1.v3, is_lst hL4, e5 _ _ (fun ν5 l hl => ⟨_, hl, hsl, fun ys hp hs => ⟨acc, ext_get (ext_get hL4), by show _ < 1000000; omega, ?_⟩⟩)⟩
  obtain ⟨μ, rfl⟩ := hst4
  have hLt := (List.getElem?_eq_some_iff.mp hL).1
  have e6 : ∀ c, ((((σ ++ μ) ++ ν5) ++ [Cell.list (vS ys)]).set L c) = σ.set L c ++ ((μ ++ ν5) ++ [Cell.list (vS ys)]) := fun c => by
    rw [List.append_assoc, List.append_assoc, List.append_assoc, List.set_append_left _ _ hLt]
  rw [e6]
  refine hq vars2 ((μ ++ ν5) ++ [Cell.list (vS ys)]) ((σ ++ μ) ++ ν5).length ys x1 (fun c => ?_) hp hs x4
  rw [← List.append_assoc]
  have : ((σ ++ μ) ++ ν5).length = (σ.set L c ++ (μ ++ ν5)).length := by simp
  rw [this]
  exact new_get _ _
end
end Mine

namespace Mine
section
noncomputable abbrev signsL : S := [97, 42, 63, 91, 94, 92, 38, 32, 10, 40, 46, 126]
structure PlainLaw : Prop where
  named : ∀ c ∈ signsL, (textsL [c]).map named = (textsL [c]).map walk257
  turn : ∀ c ∈ signsL, ∀ ns : List Int, ns.length ≤ 6 → TurnOk (itemsL [c] ns) (textsL [c]) ((textsL [c]).map walk257)
  diff : ∀ had has : List S, (had.Pairwise fun a b => ¬ b < a) → (has.Pairwise fun a b => ¬ b < a) → sld had has = (aloneL has had [], aloneL had has [])
  left : ∀ had has : List S, (had.Pairwise fun a b => ¬ b < a) → (has.Pairwise fun a b => ¬ b < a) → uldL had.reverse has [] = ((moreL had has had []).reverse, moreL has had has [])
theorem el_items {f : Ex} {vars : Vars} {σ : Sto} {ns : List Int} {c : Nat} (hf : EL f vars σ (vI ns)) (hg : vars "sign" = some (.v (.str [c]))) (hn : ns.length ≤ 100) : ELN (callF p_law_items (xcons f (xcons (var "sign") xnil))) vars σ (vIts (itemsL [c] ns)) := fun Q E q => hf _ _ fun ν l hl =>
  ⟨_, hg, l, ns, c, rfl, hl, hn, fun μ k hk1 hk => by rw [List.append_assoc] at hk ⊢; exact q _ _ (by rw [List.length_append] at hk1; omega) hk⟩
theorem el_slice {x : String} {f g : Ex} {vars : Vars} {σ : Sto} {l : Nat} {vs : List V} {y z : V} {lo hi : Option Int} (hx : vars x = some (.v (.lst l))) (hl : σ[l]? = some (.list vs)) (hf : EV f vars σ y) (hg : EV g vars σ z) (e1 : asPart y = some lo) (e2 : asPart z = some hi) (hz : vs.length ≤ 1000000) : EL (slice (var x) f g) vars σ (slc vs lo hi) := fun Q E q =>
  ⟨_, hx, hf _ _ (hg _ _ ⟨lo, hi, e1, e2, vs, hl, hz, q _ _ (new_get _ _)⟩)⟩
theorem vI_slc (ns : List Int) (lo hi : Option Int) : slc (vI ns) lo hi = vI (slc ns lo hi) := by
  unfold slc vI; simp [List.map_drop, List.map_take]
structure LS (vars : Vars) (τ : Sto) (nu n t : Nat) (ns : List Int) (c : Nat) : Prop where
  v1 : vars "numbers" = some (.v (.lst nu))
  v2 : vars "sign" = some (.v (.str [c]))
  v3 : vars "texts" = some (.v (.lst t))
  v4 : vars "names" = some (.v (.lst n))
  s1 : τ[nu]? = some (.list (vI ns))
  s3 : τ[t]? = some (.list (vS (textsL [c])))
  s4 : τ[n]? = some (.list (vS ((textsL [c]).map walk257)))
theorem LS.ext {vars τ nu n t ns c} (x : LS vars τ nu n t ns c) (ν : Sto) : LS vars (τ ++ ν) nu n t ns c := ⟨x.v1, x.v2, x.v3, x.v4, ext_get x.s1, ext_get x.s3, ext_get x.s4⟩
theorem LS.upd {vars τ nu n t ns c} (x : LS vars τ nu n t ns c) {y : String} {w : Wv} (h : y ≠ "numbers" ∧ y ≠ "sign" ∧ y ≠ "texts" ∧ y ≠ "names") : LS (upd vars y w) τ nu n t ns c :=
  ⟨by rw [upd_ne (Ne.symm h.1)]; exact x.v1, by rw [upd_ne (Ne.symm h.2.1)]; exact x.v2, by rw [upd_ne (Ne.symm h.2.2.1)]; exact x.v3, by rw [upd_ne (Ne.symm h.2.2.2)]; exact x.v4, x.s1, x.s3, x.s4⟩
theorem textsL_facts : ∀ c ∈ signsL, (textsL [c]).length = 31 ∧ (∀ t ∈ textsL [c], t.length ≤ 4 ∧ ∀ x ∈ t, x < 128) ∧ (∀ t ∈ (textsL [c]).drop 1, t ≠ []) ∧ (∀ t ∈ textsL [c], (walk257 t).length ≤ 4 ∧ ∀ x ∈ walk257 t, x < 128) := by decide +kernel
theorem law_head (H : PlainLaw) {σ : Sto} {xs : List Int} (hxs : xs.length ≤ 63) {vars : Vars} (hv : vars "script" = some (.v (.rol xs))) {Q : Fl → St → Prop} {E : X → St → Prop} {rest : Sx}
    (hq : ∀ vars' ν nu n t ns c, LS vars' (σ ++ ν) nu n t ns c → c ∈ signsL → ns.length = 13 → rest ⟨vars', σ ++ ν⟩ Q E) :
    seq (asn "numbers" (callF p_law_numbers (xcons (var "script") xnil))) (seq (asn "sign" (op2 oIdx (cstr [97, 42, 63, 91, 94, 92, 38, 32, 10, 40, 46, 126]) (op2 oMod (op2 oIdx (var "numbers") (cint 0)) (cint 12)))) (seq (asn "texts" (callF p_law_texts (xcons (var "sign") xnil))) (seq (asn "names" (comp [] (ofLst (var "texts")) (.one "text") (tlit true) (fun j => emitG j (callF p_parse257 (xcons (op2 oAdd (cstr [50, 53, 55, 32, 34]) (var "text")) xnil))))) (seq (ifS (tcmp (oEqNe true) (var "names") (comp [] (ofLst (var "texts")) (.one "text") (tlit true) (fun j => emitG j (callF p_law_named (xcons (var "text") xnil))))) (retS (cbool false)) skip) rest)))) ⟨vars, σ⟩ Q E := by
  refine seq_run ⟨_, hv, xs, rfl, hxs, fun ν nu ns h13 hpos hnu => ?_⟩
  obtain ⟨n0, ns', rfl⟩ : ∃ n0 ns', ns = n0 :: ns' := by match ns, h13 with | a :: b, _ => exact ⟨a, b, rfl⟩
  have h0 : (0 : Int) ≤ n0 := hpos n0 (.head _)
  have hm : (n0 % 12).toNat < 12 := by omega
  obtain ⟨c, hc⟩ : ∃ c, signsL[(n0 % 12).toNat]? = some c := ⟨_, List.getElem?_eq_getElem (by simpa using hm)⟩
  have hcm : c ∈ signsL := List.mem_of_getElem? hc
  obtain ⟨f1, f2, f3, f4⟩ := textsL_facts c hcm
  show seq _ _ ⟨upd vars "numbers" (.v (.lst nu)), σ ++ ν⟩ _ _
  have u1 : (upd vars "numbers" (.v (.lst nu))) "numbers" = some (.v (.lst nu)) := upd_eq
  generalize upd vars "numbers" (.v (.lst nu)) = vars1 at u1
  have hnu : (σ ++ ν)[nu]? = some (.list (vI (n0 :: ns'))) := hnu
  have hst : ∃ μ, σ ++ ν = σ ++ μ := ⟨ν, rfl⟩
  generalize σ ++ ν = σ1 at hnu hst
  have em := EV.mod (EV.idxL (EV.var u1) (EV.int (i := ((0 : Nat) : Int))) hnu (by omega) (show (vI (n0 :: ns'))[0]? = some (.int n0) from rfl)) (EV.int (i := 12)) (by decide)
  rw [show n0 % 12 = (((n0 % 12).toNat : Nat) : Int) by omega] at em
  refine seq_run (asn_run (EV.idx (s := signsL) EV.str em (by omega) hc) ?_)
  have u2 : (upd vars1 "sign" (.v (.str [c]))) "sign" = some (.v (.str [c])) := upd_eq
  have u3 : (upd vars1 "sign" (.v (.str [c]))) "numbers" = some (.v (.lst nu)) := by rw [upd_ne (by decide)]; exact u1
  generalize upd vars1 "sign" (.v (.str [c])) = vars2 at u2 u3
  refine seq_run ⟨_, u2, [c], rfl, by simp, fun ν2 t ht => ?_⟩
  show seq _ _ ⟨upd vars2 "texts" (.v (.lst t)), σ1 ++ ν2⟩ _ _
  have w1 : (upd vars2 "texts" (.v (.lst t))) "texts" = some (.v (.lst t)) := upd_eq
  have w2 : (upd vars2 "texts" (.v (.lst t))) "sign" = some (.v (.str [c])) := by rw [upd_ne (by decide)]; exact u2
  have w3 : (upd vars2 "texts" (.v (.lst t))) "numbers" = some (.v (.lst nu)) := by rw [upd_ne (by decide)]; exact u3
  generalize upd vars2 "texts" (.v (.lst t)) = vars3 at w1 w2 w3
  have hnu2 : (σ1 ++ ν2)[nu]? = some (.list (vI (n0 :: ns'))) := ext_get hnu
  have ht : (σ1 ++ ν2)[t]? = some (.list (vS (textsL [c]))) := ht
  have hst2 : ∃ μ, σ1 ++ ν2 = σ ++ μ := by obtain ⟨μ, rfl⟩ := hst; exact ⟨μ ++ ν2, by simp⟩
  generalize σ1 ++ ν2 = σ2 at hnu2 ht hst2
  have smap : ∀ {ts : List S} {fs : S → S}, (vS ts).map (fun v => match v with | .str s => V.str (fs s) | _ => V.none) = vS (ts.map fs) := fun {ts fs} => by simp [vS]
  have e1 : EL (comp [] (ofLst (var "texts")) (.one "text") (tlit true) (fun j => emitG j (callF p_parse257 (xcons (op2 oAdd (cstr [50, 53, 55, 32, 34]) (var "text")) xnil)))) vars3 σ2 (vS ((textsL [c]).map walk257)) := by
    have := EL.comp (frees := []) (x := "text") (t := tlit true) (e := callF p_parse257 (xcons (op2 oAdd (cstr [50, 53, 55, 32, 34]) (var "text")) xnil)) (g := fun v => match v with | .str s => V.str (walk257 s) | _ => V.none) (h := fun _ => true) (fun _ => True) (fun _ _ _ => trivial) (fun v => ∃ s, v = .str s ∧ s.length ≤ 4) (fun _ h => nomatch h) (EL.var w1 ht).ie (by rw [vS_len]; omega)
      (fun v hv => by obtain ⟨s, hs, rfl⟩ := List.mem_map.mp hv; exact ⟨s, rfl, (f2 s hs).1⟩) trivial (fun v vars' σ' _ _ _ _ => TV.lit.te) (fun v vars' σ' hv _ _ hx _ => by
        obtain ⟨s, rfl, hs⟩ := hv
        refine EE.call1 (EV.app EV.str (EV.var hx) (by simp only [List.length_cons, List.length_nil]; omega)).ee (fun σ3 Q E _ hq => ⟨_, rfl, by simp; omega, ?_⟩)
        have e : parse257 ([50, 53, 55, 32, 34] ++ s) = some (walk257 s) := by simp [parse257]
        rw [e]
        have := hq []
        rwa [List.append_nil] at this)
    rw [filter_true, smap] at this
    exact this
  refine seq_run (asnL e1 (fun ν3 n hn => ?_))
  have x1 : LS (upd vars3 "names" (.v (.lst n))) (σ2 ++ ν3) nu n t (n0 :: ns') c := ⟨by simp [upd, w3], by simp [upd, w2], by simp [upd, w1], by simp [upd], ext_get hnu2, ext_get ht, hn⟩
  have hst3 : ∃ μ, σ2 ++ ν3 = σ ++ μ := by obtain ⟨μ, rfl⟩ := hst2; exact ⟨μ ++ ν3, by simp⟩
  show seq _ _ ⟨upd vars3 "names" (.v (.lst n)), σ2 ++ ν3⟩ _ _
  generalize upd vars3 "names" (.v (.lst n)) = vars4 at x1
  generalize σ2 ++ ν3 = σ3 at x1 hst3
  have e2 : EL (comp [] (ofLst (var "texts")) (.one "text") (tlit true) (fun j => emitG j (callF p_law_named (xcons (var "text") xnil)))) vars4 σ3 (vS ((textsL [c]).map walk257)) := by
    have := EL.comp (frees := []) (x := "text") (t := tlit true) (e := callF p_law_named (xcons (var "text") xnil)) (g := fun v => match v with | .str s => V.str (Mine.named s) | _ => V.none) (h := fun _ => true) (fun _ => True) (fun _ _ _ => trivial) (fun v => ∃ s, v = .str s ∧ s.length ≤ 4) (fun _ h => nomatch h) (EL.var x1.v3 x1.s3).ie (by rw [vS_len]; omega)
      (fun v hv => by obtain ⟨s, hs, rfl⟩ := List.mem_map.mp hv; exact ⟨s, rfl, (f2 s hs).1⟩) trivial (fun v vars' σ' _ _ _ _ => TV.lit.te) (fun v vars' σ' hv _ _ hx _ => by
        obtain ⟨s, rfl, hs⟩ := hv
        exact EE.call1 (EV.var hx).ee (fun σ4 Q E _ hq => ⟨s, rfl, by omega, hq⟩))
    rw [filter_true, smap, H.named c hcm] at this
    exact this
  have ha : asc ((textsL [c]).map walk257) := fun s hs => by obtain ⟨u, hu, rfl⟩ := List.mem_map.mp hs; exact (f4 u hu).2
  have e3 : TE (tcmp (oEqNe true) (var "names") (comp [] (ofLst (var "texts")) (.one "text") (tlit true) (fun j => emitG j (callF p_law_named (xcons (var "text") xnil))))) vars4 σ3 false := fun Q E q =>
    ⟨_, x1.v4, e2 _ _ (fun ν l hl => ⟨_, _, 1, 1, .sl (ext_get x1.s4) ha, .sl hl ha, _, rfl, by rw [eqv_S]; simpa using q ν⟩)⟩
  refine seq_run (ifS_falseE e3 (fun ν4 => skip_run ?_))
  obtain ⟨μ, rfl⟩ := hst3
  have := hq vars4 (μ ++ ν4) nu n t (n0 :: ns') c (by rw [← List.append_assoc]; exact x1.ext ν4) hcm h13
  rw [← List.append_assoc] at this
  exact this
theorem LS.fin {vars τ nu n t ns c} (x : LS vars τ nu n t ns c) : nu < τ.length ∧ n < τ.length ∧ t < τ.length := ⟨(List.getElem?_eq_some_iff.mp x.s1).1, (List.getElem?_eq_some_iff.mp x.s4).1, (List.getElem?_eq_some_iff.mp x.s3).1⟩
theorem LS.vars {vars vars' τ nu n t ns c} (x : LS vars τ nu n t ns c) (h : ∀ y, y ≠ "pieces" → y ≠ "taken" → vars' y = vars y) : LS vars' τ nu n t ns c :=
  ⟨by rw [h _ (by decide) (by decide)]; exact x.v1, by rw [h _ (by decide) (by decide)]; exact x.v2, by rw [h _ (by decide) (by decide)]; exact x.v3, by rw [h _ (by decide) (by decide)]; exact x.v4, x.s1, x.s3, x.s4⟩
theorem law_turn2 (H : PlainLaw) {τ : Sto} {nu n t : Nat} {ns ms : List Int} {c : Nat} (hc : c ∈ signsL) (hms : ms.length ≤ 6) {vars : Vars} (x : LS vars τ nu n t ns c) (hL : vars "lists" = some (.v (.lst τ.length))) {i : Nat} {acc : List V} (hacc : acc.length ≤ 10) {μ : Sto} (hi : (τ ++ .list acc :: μ)[i]? = some (.list (vIts (itemsL [c] ms)))) {E : X → St → Prop} {Q' : Fl → St → Prop}
    (hq : ∀ vars' ν k ys, LS vars' τ nu n t ns c → vars' "lists" = some (.v (.lst τ.length)) → (∀ d, (τ ++ d :: (μ ++ ν))[k]? = some (.list (vS ys))) → (ys.Pairwise fun a b => ¬ b < a) → asc ys → ys.length ≤ 31 → Q' .next ⟨vars', τ ++ .list (acc ++ [.lst k]) :: (μ ++ ν)⟩) :
    f_law_b1 ⟨upd vars "items" (.v (.lst i)), τ ++ .list acc :: μ⟩ Q' E := by
  obtain ⟨f1, f2, f3, f4⟩ := textsL_facts c hc
  have hil : (itemsL [c] ms).length ≤ 60 := by
    have : ∀ ms : List Int, (itemsL [c] ms).length ≤ ms.length := by
      intro ms
      induction ms with
      | nil => simp [itemsL]
      | cons m r ih =>
        have e : itemsL [c] (m :: r) = itemOf [c] m ++ itemsL [c] r := by simp [itemsL]
        rw [e, List.length_append, List.length_cons]
        have : (itemOf [c] m).length ≤ 1 := by unfold itemOf; split; simp; split; simp; split; simp; split; simp; split; simp; split; simp; split; simp; simp
        omega
    have := this ms
    omega
  have x' := x.upd (y := "items") (w := .v (.lst i)) ⟨by decide, by decide, by decide, by decide⟩
  refine law_turn (H.turn c hc ms hms) (by rw [List.length_map, f1]) (fun s hs => by obtain ⟨u, hu, rfl⟩ := List.mem_map.mp hs; have := (f4 u hu).1; omega) hi (ext_get x.s4) (ext_get x.s3) (at_get _ _ _) hacc hil (by omega) f3 upd_eq ⟨x'.v4, x'.v3, by rw [upd_ne (by decide)]; exact hL⟩ (fun vars' ν k ys v hk hp hs hv => ?_)
  rw [at_set, app2]
  have hmem : ∀ s ∈ ys, ∃ u ∈ textsL [c], s = walk257 u := fun s hs => by
    have := hp.mem_iff.mp hs
    unfold selN at this
    obtain ⟨k, hk, rfl⟩ := List.mem_map.mp this
    have hk31 : k < 31 := List.mem_range.mp (List.mem_filter.mp hk).1
    have : k < ((textsL [c]).map walk257).length := by rw [List.length_map, f1]; exact hk31
    rw [List.getElem?_eq_getElem this]
    simp only [Option.getD_some, List.getElem_map]
    exact ⟨_, List.getElem_mem _, rfl⟩
  refine hq vars' ν k ys (x'.vars hv) v.v3 (fun d => ?_) hs (fun s hs => ?_) ?_
  · have := hk d
    rw [at_set, app2] at this
    exact this
  · obtain ⟨u, hu, rfl⟩ := hmem s hs
    exact (f4 u hu).2
  · rw [hp.length_eq]
    unfold selN
    rw [List.length_map]
    exact Nat.le_trans (List.length_filter_le _ _) (by simp)
end
end Mine

namespace Mine
section
noncomputable abbrev heads1 : List S := [[], [50, 53], [50, 53, 54, 32, 34], [32, 50, 53, 55, 32, 34]]
noncomputable abbrev heads2 : List S := [[50, 53, 55], [50, 53, 55, 32], [50, 53, 55, 45, 34], [50, 53, 55, 34], [50, 53, 55, 32, 32, 34]]
noncomputable def lastT (c : Nat) : S := (textsL [c]).getLast?.getD []
theorem heads_facts : ∀ c ∈ signsL, (textsL [c]).getLast? = some (lastT c) ∧ (lastT c).length ≤ 4 ∧ (∀ h ∈ heads1, parse257 (h ++ lastT c) = none) ∧ ∀ h ∈ heads2, parse257 (h ++ lastT c) = some [] := by decide +kernel
theorem aloneL_mem {others : List S} : ∀ (ones alone : List S), ∀ s ∈ aloneL others ones alone, s ∈ ones ∨ s ∈ alone
  | [], alone, s, h => .inr h
  | n :: r, alone, s, h => by
    unfold aloneL at h
    split at h
    · rcases aloneL_mem r _ s h with q | q
      · exact .inl (.tail _ q)
      · rcases List.mem_append.mp q with q | q
        · exact .inr q
        · rw [List.mem_singleton.mp q]; exact .inl (.head _)
    · rcases aloneL_mem r _ s h with q | q
      · exact .inl (.tail _ q)
      · exact .inr q
theorem moreL_mem {ones others : List S} : ∀ (rest more : List S), ∀ s ∈ moreL ones others rest more, s ∈ rest ∨ s ∈ more
  | [], more, s, h => .inr h
  | n :: r, more, s, h => by
    unfold moreL at h
    split at h
    · rcases moreL_mem r _ s h with q | q
      · exact .inl (.tail _ q)
      · rcases List.mem_append.mp q with q | q
        · exact .inr q
        · rw [List.mem_singleton.mp q]; exact .inl (.head _)
    · rcases moreL_mem r _ s h with q | q
      · exact .inl (.tail _ q)
      · exact .inr q
theorem moreL_len {ones others : List S} : ∀ (rest more : List S), (moreL ones others rest more).length ≤ rest.length + more.length
  | [], more => by simp [moreL]
  | n :: r, more => by
    unfold moreL
    split
    · have := moreL_len (ones := ones) (others := others) r (more ++ [n]); simp at this ⊢; omega
    · have := moreL_len (ones := ones) (others := others) r more; simp; omega
theorem range_get {α : Type} : ∀ ys : List α, (List.range ys.length).filterMap (fun k => ys[k]?) = ys
  | [] => rfl
  | a :: r => by
    rw [List.length_cons, List.range_succ_eq_map, List.filterMap_cons, List.filterMap_map]
    show a :: List.filterMap (fun k => r[k]?) (List.range r.length) = a :: r
    rw [range_get r]
theorem fm_congr {α β : Type} {f g : α → Option β} : ∀ l : List α, (∀ k ∈ l, f k = g k) → l.filterMap f = l.filterMap g
  | [], _ => rfl
  | a :: r, h => by rw [List.filterMap_cons, List.filterMap_cons, h a (.head _), fm_congr r fun k hk => h k (.tail _ hk)]
theorem pick_rev {α : Type} (xs : List α) : pick xs none none (some (-1)) = xs.reverse := by
  unfold pick sliceBounds sliceRange
  simp
  have e : (if -1 < (xs.length : Int) - 1 then (xs.length : Int) else 0).toNat = xs.length := by split <;> omega
  rw [e]
  have h := range_get xs.reverse
  rw [List.length_reverse] at h
  rw [← h]
  refine fm_congr _ fun k hk => ?_
  have hk := List.mem_range.mp hk
  show xs[((xs.length : Int) - 1 + -(k : Int)).toNat]? = _
  rw [List.getElem?_reverse hk]
  congr 1
  omega
noncomputable abbrev tDiff : Tx := tcmp (oEqNe true) (callF p_sorted_list_difference (xcons (var "had") (xcons (var "has") xnil))) (tup (xcons (callF p_law_alone (xcons (var "had") (xcons (var "has") xnil))) (xcons (callF p_law_alone (xcons (var "has") (xcons (var "had") xnil))) xnil)))
theorem te_diff (H : PlainLaw) {vars : Vars} {σ : Sto} {a b : Nat} {had has : List S} (h1 : vars "had" = some (.v (.lst a))) (h2 : vars "has" = some (.v (.lst b))) (g1 : σ[a]? = some (.list (vS had))) (g2 : σ[b]? = some (.list (vS has))) (s1 : had.Pairwise fun a b => ¬ b < a) (s2 : has.Pairwise fun a b => ¬ b < a) (a1 : asc had) (a2 : asc has) (l1 : had.length ≤ 31) (l2 : has.length ≤ 31) :
    TE tDiff vars σ false := fun Q E q => by
  have e := H.diff had has s1 s2
  have c1 : asc (aloneL has had []) := fun s hs => by rcases aloneL_mem _ _ s hs with h | h; exact a1 s h; cases h
  have c2 : asc (aloneL had has []) := fun s hs => by rcases aloneL_mem _ _ s hs with h | h; exact a2 s h; cases h
  refine ⟨_, h1, _, h2, a, b, had, has, rfl, g1, g2, by omega, by omega, fun ν k m hk hm => ?_⟩
  rw [e] at hk hm
  refine ⟨_, h1, _, h2, a, b, had, has, rfl, ext_get g1, ext_get g2, by omega, a2, fun ν2 => ?_⟩
  refine ⟨_, h2, _, h1, b, a, has, had, rfl, ext_get (ext_get g2), ext_get (ext_get g1), by omega, a1, fun ν3 => ?_⟩
  refine ⟨by show 2 ≤ 1000000; decide, ?_⟩
  refine ⟨_, _, 2, 2, .two (.sl (ext_get (ext_get hk)) c1) (.sl (ext_get (ext_get hm)) c2), .two (.sl (ext_get (at_get _ _ _)) c1) (.sl (at_get _ _ _) c2), _, rfl, ?_⟩
  rw [eqv_two, eqv_S, eqv_S]
  have := q (ν ++ (Cell.list (vS (aloneL has had [])) :: ν2) ++ (Cell.list (vS (aloneL had has [])) :: ν3))
  simpa using this
theorem TE.orF {a b : Tx} {vars : Vars} {σ : Sto} {c : Bool} (h : TE a vars σ false) (k : ∀ ν, TE b vars (σ ++ ν) c) : TE (tor a b) vars σ c := fun Q E q => h _ _ fun ν => by
  rw [if_neg (by decide)]
  exact k ν _ _ fun μ => by rw [List.append_assoc]; exact q _
theorem te_nil {x : String} {vars : Vars} {σ : Sto} {l : Nat} (h : vars x = some (.v (.lst l))) (hl : σ[l]? = some (.list [])) : TE (tcmp (oEqNe true) (var x) (lst xnil)) vars σ false := fun Q E q =>
  ⟨_, h, by decide, pdS [], pdS [], 1, 1, .sl (xs := []) (ext_get hl) (by intro _ h; cases h), .sl (xs := []) (new_get _ _) (by intro _ h; cases h), _, rfl, by rw [eqv_S]; simpa using q _⟩
theorem te_same {x y : String} {vars : Vars} {σ : Sto} {l : Nat} {xs : List V} (h : vars x = some (.v (.lst l))) (k : vars y = some (.v (.lst l))) (hl : σ[l]? = some (.list xs)) : TE (tcmp (oIs true) (var x) (var y)) vars σ false := fun Q E q =>
  ⟨_, h, _, k, true, by simp [isV], (fun _ _ h => by cases h), (fun i j h1 h2 => by cases h1; cases h2; exact ⟨⟨_, hl⟩, ⟨_, hl⟩⟩), _, rfl, by have := q []; rw [List.append_nil] at this; simpa using this⟩
noncomputable abbrev tLeft : Tx := (tor (tcmp (oEqNe true) (var "gone") (lst xnil)) (tor (tcmp (oIs true) (var "left") (var "kept")) (tor (tcmp (oEqNe true) (var "left") (callF p_law_more (xcons (var "has") (xcons (var "had") xnil)))) (tor (tcmp (oEqNe true) (var "missing") (slice3 (callF p_law_more (xcons (var "had") (xcons (var "has") xnil))) cnone cnone (op1 oNeg (cint 1)))) (tlit false)))))
theorem te_left {vars : Vars} {σ : Sto} {a b g k m : Nat} {had has : List S} (h1 : vars "had" = some (.v (.lst a))) (h2 : vars "has" = some (.v (.lst b))) (h3 : vars "gone" = some (.v (.lst g))) (h4 : vars "kept" = some (.v (.lst k))) (h5 : vars "left" = some (.v (.lst k))) (h6 : vars "missing" = some (.v (.lst m))) (g1 : σ[a]? = some (.list (vS had))) (g2 : σ[b]? = some (.list (vS has))) (g3 : σ[g]? = some (.list [])) (g4 : σ[k]? = some (.list (vS (moreL has had has [])))) (g5 : σ[m]? = some (.list (vS (moreL had has had []).reverse))) (a1 : asc had) (a2 : asc has) (l1 : had.length ≤ 31) (l2 : has.length ≤ 31) :
    TE tLeft vars σ false := by
  have c1 : asc (moreL has had has []) := fun s hs => by rcases moreL_mem _ _ s hs with h | h; exact a2 s h; cases h
  have c2 : asc (moreL had has had []).reverse := fun s hs => by rcases moreL_mem _ _ s (List.mem_reverse.mp hs) with h | h; exact a1 s h; cases h
  refine TE.orF (te_nil h3 g3) (fun ν => TE.orF (te_same h5 h4 (ext_get g4)) (fun ν2 => TE.orF ?_ (fun ν3 => TE.orF ?_ (fun ν4 => TV.lit.te))))
  · intro Q E q
    refine ⟨_, h5, _, h2, _, h1, b, a, has, had, rfl, ext_get (ext_get g2), ext_get (ext_get g1), by omega, ?_⟩
    refine ⟨_, _, 1, 1, .sl (ext_get (ext_get (ext_get g4))) c1, .sl (new_get _ _) c1, _, rfl, ?_⟩
    rw [eqv_S]
    simpa using q _
  · intro Q E q
    refine ⟨_, h6, _, h1, _, h2, a, b, had, has, rfl, ext_get (ext_get (ext_get g1)), ext_get (ext_get (ext_get g2)), by omega, ?_⟩
    have hl := moreL_len (ones := had) (others := has) had []
    refine ⟨none, none, some (-1), rfl, rfl, rfl, by decide, _, new_get _ _, by rw [vS_len]; show _ ≤ 1000000; simp at hl; omega, ?_⟩
    rw [pick_rev, show (vS (moreL had has had [])).reverse = vS (moreL had has had []).reverse by simp [vS]]
    refine ⟨_, _, 1, 1, .sl (ext_get (ext_get (ext_get (ext_get (ext_get g5))))) c2, .sl (new_get _ _) c2, _, rfl, ?_⟩
    rw [eqv_S]
    have := q ([Cell.list (vS (moreL had has had []))] ++ [Cell.list (vS (moreL had has had []).reverse)])
    simpa using this
noncomputable abbrev lastX : Ex := op2 oAdd (var "head") (op2 oIdx (var "texts") (op1 oNeg (cint 1)))
theorem ev_last {vars : Vars} {σ : Sto} {t c : Nat} {h : S} (hc : c ∈ signsL) (ht : vars "texts" = some (.v (.lst t))) (hg : σ[t]? = some (.list (vS (textsL [c])))) (hx : vars "head" = some (.v (.str h))) (hl : h.length ≤ 10) : EV lastX vars σ (.str (h ++ lastT c)) := by
  obtain ⟨f1, f2, _⟩ := heads_facts c hc
  obtain ⟨ys, hy⟩ := List.getLast?_eq_some_iff.mp f1
  refine EV.app (EV.var hx) (EV.last (xs := vS ys) (EV.var ht) ?_) (by omega)
  rw [hg, hy, vS_app]; rfl
noncomputable abbrev tHeads : Tx := tcmp (oEqNe true) (comp ["texts"] (ofLst (lst (xcons (cstr []) (xcons (cstr [50, 53]) (xcons (cstr [50, 53, 54, 32, 34]) (xcons (cstr [32, 50, 53, 55, 32, 34]) xnil)))))) (.one "head") (tnot (tval (callF p_law_refused (xcons lastX xnil)))) (fun j => emitG j (var "head"))) (lst xnil)
theorem tcmp_l {o : Op2} {a b : Ex} {vars σ Q E} (h : a vars σ (fun x σ => b vars σ (fun y σ => o x y σ (fun v σ => ∃ c, v = .bool c ∧ Q c σ) E) E) E) : tcmp o a b vars σ Q E := h
theorem op2_l {o : Op2} {a b : Ex} {vars σ Q E} (h : a vars σ (fun x σ => b vars σ (fun y σ => o x y σ Q E) E) E) : op2 o a b vars σ Q E := h
theorem hl1 : ∀ s ∈ heads1, s.length ≤ 10 := by decide
theorem hl2 : ∀ s ∈ heads2, s.length ≤ 10 := by decide
theorem asc5 : asc [[], [], [], [], []] := by
  intro l hl
  have : l = [] := by simpa using hl
  subst this
  intro c hc
  cases hc
theorem te_heads {vars : Vars} {σ : Sto} {t c : Nat} (hc : c ∈ signsL) (ht : vars "texts" = some (.v (.lst t))) (hg : σ[t]? = some (.list (vS (textsL [c])))) : TE tHeads vars σ false := by
  obtain ⟨f1, f2, f3, f4⟩ := heads_facts c hc
  have e0 : EL (lst (xcons (cstr []) (xcons (cstr [50, 53]) (xcons (cstr [50, 53, 54, 32, 34]) (xcons (cstr [32, 50, 53, 55, 32, 34]) xnil))))) vars σ (vS heads1) := fun Q E q => ⟨by show 4 ≤ 1000000; decide, q _ _ (new_get _ _)⟩
  have e1 := EL.comp (frees := ["texts"]) (x := "head") (t := tnot (tval (callF p_law_refused (xcons lastX xnil)))) (e := var "head") (g := fun v => v) (h := fun _ => false) (fun vs => vs "texts" = some (.v (.lst t))) (fun vs v h => by rw [upd_ne (by decide)]; exact h) (fun v => ∃ s ∈ heads1, v = .str s)
    (fun y hy => by rw [List.mem_singleton.mp hy]; exact ⟨_, ht⟩) e0.ie (by simp [vS]) (fun v hv => by obtain ⟨s, hs, rfl⟩ := List.mem_map.mp hv; exact ⟨s, hs, rfl⟩) (by simp [cv, ht])
    (fun v vars' σ' hv hpi hx hσ => by
      obtain ⟨s, hs, rfl⟩ := hv
      obtain ⟨μ, rfl⟩ := hσ
      have hsl := hl1 s hs
      have ev := EV.call1 (p := p_law_refused) (σ := σ ++ μ) (r := .bool true) (ev_last hc hpi (ext_get hg) hx hsl) (fun Q E q => ⟨_, rfl, by rw [List.length_append]; omega, by rw [f3 s hs]; exact q⟩)
      exact (TV.not (TV.boolE ev)).te)
    (fun v vars' σ' _ h _ _ _ => by cases h)
  have e2 : EL (comp ["texts"] (ofLst (lst (xcons (cstr []) (xcons (cstr [50, 53]) (xcons (cstr [50, 53, 54, 32, 34]) (xcons (cstr [32, 50, 53, 55, 32, 34]) xnil)))))) (.one "head") (tnot (tval (callF p_law_refused (xcons lastX xnil)))) (fun j => emitG j (var "head"))) vars σ [] := by
    exact e1
  clear e1
  intro Q E q
  refine tcmp_l (e2 _ _ fun ν l hl => ⟨by decide, pdS [], pdS [], 1, 1, .sl (xs := []) (ext_get hl) (by intro _ h; cases h), .sl (xs := []) (new_get _ _) (by intro _ h; cases h), _, rfl, ?_⟩)
  rw [eqv_S, List.append_assoc]
  simpa using q _
noncomputable abbrev xFin : Ex := op2 (oEqNe false) (comp ["texts"] (ofLst (lst (xcons (cstr [50, 53, 55]) (xcons (cstr [50, 53, 55, 32]) (xcons (cstr [50, 53, 55, 45, 34]) (xcons (cstr [50, 53, 55, 34]) (xcons (cstr [50, 53, 55, 32, 32, 34]) xnil))))))) (.one "head") (tlit true) (fun j => emitG j (callF p_parse257 (xcons lastX xnil)))) (op2 oMul (lst (xcons (cstr []) xnil)) (cint 5))
theorem ee_fin {vars : Vars} {σ : Sto} {t c : Nat} (hc : c ∈ signsL) (ht : vars "texts" = some (.v (.lst t))) (hg : σ[t]? = some (.list (vS (textsL [c])))) : EE xFin vars σ (.bool true) := by
  obtain ⟨f1, f2, f3, f4⟩ := heads_facts c hc
  have e0 : EL (lst (xcons (cstr [50, 53, 55]) (xcons (cstr [50, 53, 55, 32]) (xcons (cstr [50, 53, 55, 45, 34]) (xcons (cstr [50, 53, 55, 34]) (xcons (cstr [50, 53, 55, 32, 32, 34]) xnil)))))) vars σ (vS heads2) := fun Q E q => ⟨by show 5 ≤ 1000000; decide, q _ _ (new_get _ _)⟩
  have e1 := EL.comp (frees := ["texts"]) (x := "head") (t := tlit true) (e := callF p_parse257 (xcons lastX xnil)) (g := fun _ => .str []) (h := fun _ => true) (fun vs => vs "texts" = some (.v (.lst t))) (fun vs v h => by rw [upd_ne (by decide)]; exact h) (fun v => ∃ s ∈ heads2, v = .str s)
    (fun y hy => by rw [List.mem_singleton.mp hy]; exact ⟨_, ht⟩) e0.ie (by simp [vS]) (fun v hv => by obtain ⟨s, hs, rfl⟩ := List.mem_map.mp hv; exact ⟨s, hs, rfl⟩) (by simp [cv, ht]) (fun v vars' σ' _ _ _ _ => TV.lit.te)
    (fun v vars' σ' hv _ hpi hx hσ => by
      obtain ⟨s, hs, rfl⟩ := hv
      obtain ⟨μ, rfl⟩ := hσ
      have hsl := hl2 s hs
      exact (EV.call1 (p := p_parse257) (r := .str []) (ev_last hc hpi (ext_get hg) hx hsl) (fun Q E q => ⟨_, rfl, by rw [List.length_append]; omega, by rw [f4 s hs]; exact q⟩)).ee)
  intro Q E q
  refine op2_l (e1 _ _ fun ν l hl => ⟨by decide, _, new_get _ _, ⟨by decide, by decide, by decide, by decide⟩, pdS [[], [], [], [], []], pdS [[], [], [], [], []], 1, 1, .sl (ext_get (ext_get hl)) asc5, .sl (new_get _ _) asc5, ?_⟩)
  rw [eqv_S, List.append_assoc, List.append_assoc]
  simpa using q _
end
end Mine

namespace Mine
section
noncomputable abbrev itLists : Itx := ofLst (lst (xcons (callF p_law_items (xcons (slice (var "numbers") (cint 1) (cint 7)) (xcons (var "sign") xnil))) (xcons (callF p_law_items (xcons (slice (var "numbers") (cint 7) cnone) (xcons (var "sign") xnil))) xnil)))
theorem law_tail (H : PlainLaw) {τ : Sto} {nu n t : Nat} {ns : List Int} {c : Nat} (hc : c ∈ signsL) (h13 : ns.length = 13) {vars : Vars} (x : LS vars τ nu n t ns c) {E : X → St → Prop} {Q' : Fl → St → Prop} (hq : ∀ vars' ν, Q' (.ret (.bool true)) ⟨vars', τ ++ ν⟩) :
    seq (asn "lists" (lst xnil)) (seq (forS "items" itLists f_law_b1) (seq (asnP "had" "has" (var "lists")) (seq (ifS tDiff (retS (cbool false)) skip) (seq (asn "gone" (op1 oList (var "had"))) (seq (asn "kept" (op1 oList (var "has"))) (seq (asnP "missing" "left" (callF p_unorderable_list_difference (xcons (var "gone") (xcons (var "kept") xnil)))) (seq (ifS tLeft (retS (cbool false)) skip) (seq (ifS tHeads (retS (cbool false)) skip) (retS xFin))))))))) ⟨vars, τ⟩ Q' E := by
  refine seq_run ⟨by decide, ?_⟩
  have x0 := x.upd (y := "lists") (w := .v (.lst τ.length)) ⟨by decide, by decide, by decide, by decide⟩
  have hL : (upd vars "lists" (.v (.lst τ.length))) "lists" = some (.v (.lst τ.length)) := upd_eq
  show seq _ _ ⟨upd vars "lists" (.v (.lst τ.length)), τ ++ .list [] :: []⟩ _ _
  generalize upd vars "lists" (.v (.lst τ.length)) = vars1 at x0 hL
  have hnl : (vI ns).length = 13 := by simp [vI, h13]
  have iA : ∀ σ', (∃ μ, σ' = τ ++ μ) → ELN (callF p_law_items (xcons (slice (var "numbers") (cint 1) (cint 7)) (xcons (var "sign") xnil))) vars1 σ' (vIts (itemsL [c] (slc ns (some 1) (some 7)))) := fun σ' h => by
    obtain ⟨μ, rfl⟩ := h
    refine el_items ?_ x0.v2 (Nat.le_trans (slc_length_le _ _ _) (by omega))
    rw [← vI_slc]
    exact el_slice x0.v1 (ext_get x0.s1) EV.int EV.int rfl rfl (by omega)
  have iB : ∀ σ', (∃ μ, σ' = τ ++ μ) → ELN (callF p_law_items (xcons (slice (var "numbers") (cint 7) cnone) (xcons (var "sign") xnil))) vars1 σ' (vIts (itemsL [c] (slc ns (some 7) none))) := fun σ' h => by
    obtain ⟨μ, rfl⟩ := h
    refine el_items ?_ x0.v2 (Nat.le_trans (slc_length_le _ _ _) (by omega))
    rw [← vI_slc]
    exact el_slice x0.v1 (ext_get x0.s1) EV.int EV.none rfl rfl (by omega)
  have m1 : (slc ns (some 1) (some 7)).length ≤ 6 := by
    unfold slc
    simp only [Option.elim]
    rw [show (1 : Int) = ((1 : Nat) : Int) from rfl, show (7 : Int) = ((7 : Nat) : Int) from rfl, clip_nat, clip_nat, List.length_take, List.length_drop]; omega
  have m2 : (slc ns (some 7) none).length ≤ 6 := by
    unfold slc
    simp only [Option.elim]
    rw [show (7 : Int) = ((7 : Nat) : Int) from rfl, clip_nat, List.length_take, List.length_drop]; omega
  refine seq_run (iA _ ⟨_, rfl⟩ _ _ fun ν1 i1 b1 g1 => iB _ ⟨.list [] :: [] ++ ν1, by simp⟩ _ _ fun ν2 i2 b2 g2 => ⟨by show 2 ≤ 1000000; decide, _, _, rfl, new_get _ _, ?_⟩)
  have g1' : ∀ d ν, (τ ++ d :: (ν1 ++ ν))[i1]? = some (.list (vIts (itemsL [c] (slc ns (some 1) (some 7))))) := fun d ν => by
    rw [← app2]; refine ext_get ?_
    rw [app2, List.nil_append] at g1
    exact at_other d (by simp at b1; omega) g1
  have g2' : ∀ d ν, (τ ++ d :: (ν1 ++ ν2 ++ ν))[i2]? = some (.list (vIts (itemsL [c] (slc ns (some 7) none)))) := fun d ν => by
    rw [← app2]; refine ext_get ?_
    rw [app2, app2, List.nil_append] at g2
    exact at_other d (by simp at b2; omega) g2
  rw [app2, app2, app2, List.nil_append]
  generalize hμ : ν1 ++ ν2 ++ [Cell.list [V.lst i1, V.lst i2]] = μ
  have g3 : ∀ d ν, (τ ++ d :: (μ ++ ν))[(τ ++ Cell.list [] :: (ν1 ++ ν2)).length]? = some (.list [.lst i1, .lst i2]) := fun d ν => by
    subst hμ
    rw [← app2]; refine ext_get ?_
    rw [← app2]
    rw [show (τ ++ Cell.list [] :: (ν1 ++ ν2)).length = (τ ++ d :: (ν1 ++ ν2)).length by simp]
    exact new_get _ _
  have k1 : ∀ d ν, (τ ++ d :: (μ ++ ν))[i1]? = some (.list (vIts (itemsL [c] (slc ns (some 1) (some 7))))) := fun d ν => by
    subst hμ; rw [List.append_assoc, List.append_assoc]; exact g1' d _
  have k2 : ∀ d ν, (τ ++ d :: (μ ++ ν))[i2]? = some (.list (vIts (itemsL [c] (slc ns (some 7) none)))) := fun d ν => by
    subst hμ; rw [List.append_assoc]; exact g2' d _
  have nil : ∀ d, τ ++ d :: μ = τ ++ d :: (μ ++ []) := fun d => by rw [List.append_nil]
  refine ⟨by rw [nil]; exact g3 _ _, ?_⟩
  refine law_turn2 H hc m1 x0 hL (by show 0 ≤ 10; decide) (by rw [nil]; exact k1 _ _) (fun vars2 ν3 p1 ys1 x2 hL2 r1 s1 a1 z1 => ?_)
  rw [List.nil_append]
  refine ⟨g3 _ _, ?_⟩
  refine law_turn2 H hc m2 x2 hL2 (by show 1 ≤ 10; decide) (k2 _ _) (fun vars3 ν4 p2 ys2 x3 hL3 r2 s2 a2 z2 => ?_)
  show _ ∧ seq _ _ _ _ _
  refine ⟨by rw [List.append_assoc]; exact g3 _ _, ?_⟩
  refine seq_run ⟨_, hL3, _, _, .inr ⟨_, rfl, at_get _ _ _⟩, ?_⟩
  have x4 : LS (upd (upd vars3 "had" (.v (.lst p1))) "has" (.v (.lst p2))) τ nu n t ns c := (x3.upd ⟨by decide, by decide, by decide, by decide⟩).upd ⟨by decide, by decide, by decide, by decide⟩
  have h1 : (upd (upd vars3 "had" (.v (.lst p1))) "has" (.v (.lst p2))) "had" = some (.v (.lst p1)) := by simp [upd]
  have h2 : (upd (upd vars3 "had" (.v (.lst p1))) "has" (.v (.lst p2))) "has" = some (.v (.lst p2)) := by simp [upd]
  show seq _ _ ⟨upd (upd vars3 "had" (.v (.lst p1))) "has" (.v (.lst p2)), _⟩ _ _
  generalize upd (upd vars3 "had" (.v (.lst p1))) "has" (.v (.lst p2)) = vars4 at x4 h1 h2
  have q1 : (τ ++ Cell.list ([V.lst p1] ++ [V.lst p2]) :: (μ ++ ν3 ++ ν4))[p1]? = some (.list (vS ys1)) := by rw [← app2]; exact ext_get (r1 _)
  have q2 : (τ ++ Cell.list ([V.lst p1] ++ [V.lst p2]) :: (μ ++ ν3 ++ ν4))[p2]? = some (.list (vS ys2)) := r2 _
  have hst : ∃ ν, τ ++ Cell.list ([V.lst p1] ++ [V.lst p2]) :: (μ ++ ν3 ++ ν4) = τ ++ ν := ⟨_, rfl⟩
  generalize τ ++ Cell.list ([V.lst p1] ++ [V.lst p2]) :: (μ ++ ν3 ++ ν4) = σ4 at q1 q2 hst
  refine seq_run (ifS_falseE (te_diff H h1 h2 q1 q2 s1 s2 a1 a2 z1 z2) (fun ν5 => skip_run ?_))
  have q3 : (σ4 ++ ν5)[p1]? = some (.list (vS ys1)) := ext_get q1
  have q4 : (σ4 ++ ν5)[p2]? = some (.list (vS ys2)) := ext_get q2
  have hst5 : ∃ ν, σ4 ++ ν5 = τ ++ ν := by obtain ⟨ν, rfl⟩ := hst; exact ⟨ν ++ ν5, by simp⟩
  generalize σ4 ++ ν5 = σ5 at q3 q4 hst5
  refine seq_run ⟨_, h1, _, q3, by rw [vS_len]; show _ ≤ 1000000; omega, ?_⟩
  have y1 := x4.upd (y := "gone") (w := .v (.lst σ5.length)) ⟨by decide, by decide, by decide, by decide⟩
  have h3 : (upd vars4 "gone" (.v (.lst σ5.length))) "gone" = some (.v (.lst σ5.length)) := upd_eq
  have h4 : (upd vars4 "gone" (.v (.lst σ5.length))) "had" = some (.v (.lst p1)) := by rw [upd_ne (by decide)]; exact h1
  have h5 : (upd vars4 "gone" (.v (.lst σ5.length))) "has" = some (.v (.lst p2)) := by rw [upd_ne (by decide)]; exact h2
  show seq _ _ ⟨upd vars4 "gone" (.v (.lst σ5.length)), _⟩ _ _
  generalize upd vars4 "gone" (.v (.lst σ5.length)) = vars5 at y1 h3 h4 h5
  refine seq_run ⟨_, h5, _, ext_get q4, by rw [vS_len]; show _ ≤ 1000000; omega, ?_⟩
  have y2 := y1.upd (y := "kept") (w := .v (.lst (σ5 ++ [Cell.list (vS ys1)]).length)) ⟨by decide, by decide, by decide, by decide⟩
  have i1' : (upd vars5 "kept" (.v (.lst (σ5 ++ [Cell.list (vS ys1)]).length))) "kept" = some (.v (.lst (σ5 ++ [Cell.list (vS ys1)]).length)) := upd_eq
  have i2' : (upd vars5 "kept" (.v (.lst (σ5 ++ [Cell.list (vS ys1)]).length))) "gone" = some (.v (.lst σ5.length)) := by rw [upd_ne (by decide)]; exact h3
  have i3' : (upd vars5 "kept" (.v (.lst (σ5 ++ [Cell.list (vS ys1)]).length))) "had" = some (.v (.lst p1)) := by rw [upd_ne (by decide)]; exact h4
  have i4' : (upd vars5 "kept" (.v (.lst (σ5 ++ [Cell.list (vS ys1)]).length))) "has" = some (.v (.lst p2)) := by rw [upd_ne (by decide)]; exact h5
  show seq _ _ ⟨upd vars5 "kept" (.v (.lst (σ5 ++ [Cell.list (vS ys1)]).length)), _⟩ _ _
  generalize upd vars5 "kept" (.v (.lst (σ5 ++ [Cell.list (vS ys1)]).length)) = vars6 at y2 i1' i2' i3' i4'
  refine seq_run ⟨_, i2', _, i1', σ5.length, (σ5 ++ [Cell.list (vS ys1)]).length, ys1, ys2, rfl, by simp, ext_get (new_get _ _), new_get _ _, by omega, by omega, _, _, .inl rfl, ?_⟩
  rw [H.left ys1 ys2 s1 s2]
  have est : ((σ5 ++ [Cell.list (vS ys1)] ++ [Cell.list (vS ys2)]).set σ5.length (.list [])).set (σ5 ++ [Cell.list (vS ys1)]).length (.list (vS (moreL ys2 ys1 ys2 []))) = σ5 ++ [Cell.list []] ++ [Cell.list (vS (moreL ys2 ys1 ys2 []))] := by
    rw [List.append_assoc, List.set_append_right _ _ (Nat.le_refl _), Nat.sub_self]
    simp
  have elen : (σ5 ++ [Cell.list (vS ys1)] ++ [Cell.list (vS ys2)]).length = (σ5 ++ [Cell.list []] ++ [Cell.list (vS (moreL ys2 ys1 ys2 []))]).length := by simp
  have elen2 : (σ5 ++ [Cell.list (vS ys1)]).length = (σ5 ++ [Cell.list []]).length := by simp
  dsimp only
  rw [est, elen, elen2]
  rw [elen2] at i1'
  have y3 := (y2.upd (y := "missing") (w := .v (.lst (σ5 ++ [Cell.list []] ++ [Cell.list (vS (moreL ys2 ys1 ys2 []))]).length)) ⟨by decide, by decide, by decide, by decide⟩).upd (y := "left") (w := .v (.lst (σ5 ++ [Cell.list []]).length)) ⟨by decide, by decide, by decide, by decide⟩
  have j1 : (upd (upd vars6 "missing" (.v (.lst (σ5 ++ [Cell.list []] ++ [Cell.list (vS (moreL ys2 ys1 ys2 []))]).length))) "left" (.v (.lst (σ5 ++ [Cell.list []]).length))) "missing" = some (.v (.lst (σ5 ++ [Cell.list []] ++ [Cell.list (vS (moreL ys2 ys1 ys2 []))]).length)) := by rw [upd_ne (by decide)]; exact upd_eq
  have j2 : (upd (upd vars6 "missing" (.v (.lst (σ5 ++ [Cell.list []] ++ [Cell.list (vS (moreL ys2 ys1 ys2 []))]).length))) "left" (.v (.lst (σ5 ++ [Cell.list []]).length))) "left" = some (.v (.lst (σ5 ++ [Cell.list []]).length)) := upd_eq
  have jj : ∀ y, y ≠ "missing" → y ≠ "left" → (upd (upd vars6 "missing" (.v (.lst (σ5 ++ [Cell.list []] ++ [Cell.list (vS (moreL ys2 ys1 ys2 []))]).length))) "left" (.v (.lst (σ5 ++ [Cell.list []]).length))) y = vars6 y := fun y h h' => by rw [upd_ne h', upd_ne h]
  generalize upd (upd vars6 "missing" (.v (.lst (σ5 ++ [Cell.list []] ++ [Cell.list (vS (moreL ys2 ys1 ys2 []))]).length))) "left" (.v (.lst (σ5 ++ [Cell.list []]).length)) = vars7 at y3 j1 j2 jj
  obtain ⟨νF, rfl⟩ := hst5
  refine seq_run (ifS_falseE (te_left (a := p1) (b := p2) (g := (τ ++ νF).length) (k := (τ ++ νF ++ [Cell.list []]).length) (m := (τ ++ νF ++ [Cell.list []] ++ [Cell.list (vS (moreL ys2 ys1 ys2 []))]).length) ((jj _ (by decide) (by decide)).trans i3') ((jj _ (by decide) (by decide)).trans i4') ((jj _ (by decide) (by decide)).trans i2') ((jj _ (by decide) (by decide)).trans i1') j2 j1 (ext_get (ext_get (ext_get q3))) (ext_get (ext_get (ext_get q4))) (ext_get (ext_get (new_get _ _))) (ext_get (new_get _ _)) (new_get _ _) a1 a2 z1 z2) (fun ν6 => skip_run ?_))
  have ht : ∀ ν, (τ ++ ν)[t]? = some (.list (vS (textsL [c]))) := fun ν => ext_get y3.s3
  have e9 : ∀ ν, τ ++ νF ++ [Cell.list []] ++ [Cell.list (vS (moreL ys2 ys1 ys2 []))] ++ [Cell.list (vS (moreL ys1 ys2 ys1 []).reverse)] ++ ν = τ ++ (νF ++ [Cell.list []] ++ [Cell.list (vS (moreL ys2 ys1 ys2 []))] ++ [Cell.list (vS (moreL ys1 ys2 ys1 []).reverse)] ++ ν) := fun ν => by simp
  rw [e9]
  refine seq_run (ifS_falseE (te_heads hc y3.v3 (ht _)) (fun ν7 => skip_run ?_))
  rw [List.append_assoc]
  have e10 : ∀ a b : Sto, (τ ++ a) ++ b = τ ++ (a ++ b) := fun a b => List.append_assoc _ _ _
  refine ee_fin hc y3.v3 (ht _) _ _ fun ν8 => ?_
  rw [e10]
  exact hq _ _
theorem sd_law : SoundSs 3 .pl r_law.scope r_law.body f_law := by
  refine ss_cons ?_ ?_
  refine s_asn ?_ (by decide +kernel)
  refine s_call c_law_numbers (by decide) (by decide +kernel) ?_
  refine e_cons ?_ ?_
  exact s_var (by decide +kernel) (by decide +kernel)
  exact e_nil
  refine ss_cons ?_ ?_
  refine s_asn ?_ (by decide +kernel)
  refine s_idx ?_ ?_
  exact s_str (by decide +kernel)
  refine s_bin o_mod ?_ ?_
  refine s_idx ?_ ?_
  exact s_var (by decide +kernel) (by decide +kernel)
  exact s_int
  exact s_int
  refine ss_cons ?_ ?_
  refine s_asn ?_ (by decide +kernel)
  refine s_call c_law_texts (by decide) (by decide +kernel) ?_
  refine e_cons ?_ ?_
  exact s_var (by decide +kernel) (by decide +kernel)
  exact e_nil
  refine ss_cons ?_ ?_
  refine s_asn ?_ (by decide +kernel) (by intro env h; cases env; cases h; rfl)
  refine s_comp ?_ .one (by decide +kernel) (by decide +kernel) .nil ?_
  refine i_lst ?_
  exact s_var (by decide +kernel) (by decide +kernel)
  refine body_one ?_
  refine s_call c_parse257 (by decide) (by decide +kernel) ?_
  refine e_cons ?_ ?_
  refine s_bin o_add ?_ ?_
  exact s_str (by decide +kernel)
  exact s_var (by decide +kernel) (by decide +kernel)
  exact e_nil
  refine ss_cons ?_ ?_
  refine s_if ?_ ?_ ?_
  refine t_cmp o_ne ?_ ?_
  exact s_var (by decide +kernel) (by decide +kernel)
  refine s_comp ?_ .one (by decide +kernel) (by decide +kernel) .nil ?_
  refine i_lst ?_
  exact s_var (by decide +kernel) (by decide +kernel)
  refine body_one ?_
  refine s_call c_law_named (by decide) (by decide +kernel) ?_
  refine e_cons ?_ ?_
  exact s_var (by decide +kernel) (by decide +kernel)
  exact e_nil
  refine ss_one ?_
  refine s_ret ?_
  exact s_bool
  exact ss_nil
  refine ss_cons ?_ ?_
  refine s_asn ?_ (by decide +kernel)
  refine s_lst ?_
  exact e_nil
  refine ss_cons ?_ ?_
  refine s_for ?_ ?_ (by decide +kernel)
  refine i_lst ?_
  refine s_lst ?_
  refine e_cons ?_ ?_
  refine s_call c_law_items (by decide) (by decide +kernel) ?_
  refine e_cons ?_ ?_
  refine s_slice ?_ ?_ ?_
  exact s_var (by decide +kernel) (by decide +kernel)
  refine p_some ?_
  exact s_int
  refine p_some ?_
  exact s_int
  refine e_cons ?_ ?_
  exact s_var (by decide +kernel) (by decide +kernel)
  exact e_nil
  refine e_cons ?_ ?_
  refine s_call c_law_items (by decide) (by decide +kernel) ?_
  refine e_cons ?_ ?_
  refine s_slice ?_ ?_ ?_
  exact s_var (by decide +kernel) (by decide +kernel)
  refine p_some ?_
  exact s_int
  exact p_none
  refine e_cons ?_ ?_
  exact s_var (by decide +kernel) (by decide +kernel)
  exact e_nil
  exact e_nil
  refine ss_cons ?_ ?_
  refine s_asn ?_ (by decide +kernel)
  refine s_call c_law_pieces (by decide) (by decide +kernel) ?_
  refine e_cons ?_ ?_
  refine s_call c_translate (by decide) (by decide +kernel) ?_
  refine e_cons ?_ ?_
  refine s_join ?_ ?_
  exact s_str (by decide +kernel)
  refine s_comp ?_ .one (by decide +kernel) (by decide +kernel) .nil ?_
  refine i_lst ?_
  exact s_var (by decide +kernel) (by decide +kernel)
  refine body_one ?_
  refine s_idx ?_ ?_
  exact s_var (by decide +kernel) (by decide +kernel)
  exact s_int
  exact e_nil
  exact e_nil
  refine ss_cons ?_ ?_
  refine s_if ?_ ?_ ?_
  refine t_cmp o_is ?_ ?_
  exact s_var (by decide +kernel) (by decide +kernel)
  exact s_none
  refine ss_one ?_
  refine s_ret ?_
  exact s_bool
  exact ss_nil
  refine ss_cons ?_ ?_
  refine s_asn ?_ (by decide +kernel) (by intro env h; cases env; cases h; rfl)
  refine s_comp ?_ .one (by decide +kernel) (by decide +kernel) .nil ?_
  refine i_lst ?_
  exact s_var (by decide +kernel) (by decide +kernel)
  refine body_one ?_
  refine s_call c_law_takes (by decide) (by decide +kernel) ?_
  refine e_cons ?_ ?_
  exact s_var (by decide +kernel) (by decide +kernel)
  refine e_cons ?_ ?_
  exact s_var (by decide +kernel) (by decide +kernel)
  exact e_nil
  refine ss_cons ?_ ?_
  refine s_if ?_ ?_ ?_
  refine t_cmp o_ne ?_ ?_
  exact s_var (by decide +kernel) (by decide +kernel)
  refine s_call c_law_told (by decide) (by decide +kernel) ?_
  refine e_cons ?_ ?_
  exact s_var (by decide +kernel) (by decide +kernel)
  refine e_cons ?_ ?_
  exact s_var (by decide +kernel) (by decide +kernel)
  exact e_nil
  refine ss_one ?_
  refine s_ret ?_
  exact s_bool
  exact ss_nil
  refine ss_one ?_
  refine s_expr ?_
  refine s_append ?_ ?_
  exact s_var (by decide +kernel) (by decide +kernel)
  refine s_blt1 b_sorted (by decide +kernel) o_sorted ?_
  refine s_comp ?_ .one (by decide +kernel) (by decide +kernel) ?_ ?_
  refine i_rng1 b_range (by decide +kernel) ?_
  exact s_int
  refine .one ?_
  refine t_val ?_
  refine s_idx ?_ ?_
  exact s_var (by decide +kernel) (by decide +kernel)
  exact s_var (by decide +kernel) (by decide +kernel)
  refine body_one ?_
  refine s_idx ?_ ?_
  exact s_var (by decide +kernel) (by decide +kernel)
  exact s_var (by decide +kernel) (by decide +kernel)
  refine ss_cons ?_ ?_
  refine s_asnP ?_ (by decide +kernel) (by decide +kernel)
  exact s_var (by decide +kernel) (by decide +kernel)
  refine ss_cons ?_ ?_
  refine s_if ?_ ?_ ?_
  refine t_cmp o_ne ?_ ?_
  refine s_call c_sorted_list_difference (by decide) (by decide +kernel) ?_
  refine e_cons ?_ ?_
  exact s_var (by decide +kernel) (by decide +kernel)
  refine e_cons ?_ ?_
  exact s_var (by decide +kernel) (by decide +kernel)
  exact e_nil
  refine s_tup ?_
  refine e_cons ?_ ?_
  refine s_call c_law_alone (by decide) (by decide +kernel) ?_
  refine e_cons ?_ ?_
  exact s_var (by decide +kernel) (by decide +kernel)
  refine e_cons ?_ ?_
  exact s_var (by decide +kernel) (by decide +kernel)
  exact e_nil
  refine e_cons ?_ ?_
  refine s_call c_law_alone (by decide) (by decide +kernel) ?_
  refine e_cons ?_ ?_
  exact s_var (by decide +kernel) (by decide +kernel)
  refine e_cons ?_ ?_
  exact s_var (by decide +kernel) (by decide +kernel)
  exact e_nil
  exact e_nil
  refine ss_one ?_
  refine s_ret ?_
  exact s_bool
  exact ss_nil
  refine ss_cons ?_ ?_
  refine s_asn ?_ (by decide +kernel)
  refine s_typ1 b_list (by decide +kernel) o_list ?_
  exact s_var (by decide +kernel) (by decide +kernel)
  refine ss_cons ?_ ?_
  refine s_asn ?_ (by decide +kernel)
  refine s_typ1 b_list (by decide +kernel) o_list ?_
  exact s_var (by decide +kernel) (by decide +kernel)
  refine ss_cons ?_ ?_
  refine s_asnP ?_ (by decide +kernel) (by decide +kernel)
  refine s_call c_unorderable_list_difference (by decide) (by decide +kernel) ?_
  refine e_cons ?_ ?_
  exact s_var (by decide +kernel) (by decide +kernel)
  refine e_cons ?_ ?_
  exact s_var (by decide +kernel) (by decide +kernel)
  exact e_nil
  refine ss_cons ?_ ?_
  refine s_if ?_ ?_ ?_
  refine t_bop ?_
  refine a_or ?_ ?_
  refine t_cmp o_ne ?_ ?_
  exact s_var (by decide +kernel) (by decide +kernel)
  refine s_lst ?_
  exact e_nil
  refine a_or ?_ ?_
  refine t_cmp o_isNot ?_ ?_
  exact s_var (by decide +kernel) (by decide +kernel)
  exact s_var (by decide +kernel) (by decide +kernel)
  refine a_or ?_ ?_
  refine t_cmp o_ne ?_ ?_
  exact s_var (by decide +kernel) (by decide +kernel)
  refine s_call c_law_more (by decide) (by decide +kernel) ?_
  refine e_cons ?_ ?_
  exact s_var (by decide +kernel) (by decide +kernel)
  refine e_cons ?_ ?_
  exact s_var (by decide +kernel) (by decide +kernel)
  exact e_nil
  refine a_or ?_ ?_
  refine t_cmp o_ne ?_ ?_
  exact s_var (by decide +kernel) (by decide +kernel)
  refine s_slice3 ?_ ?_ ?_ ?_
  refine s_call c_law_more (by decide) (by decide +kernel) ?_
  refine e_cons ?_ ?_
  exact s_var (by decide +kernel) (by decide +kernel)
  refine e_cons ?_ ?_
  exact s_var (by decide +kernel) (by decide +kernel)
  exact e_nil
  exact p_none
  exact p_none
  refine p_some ?_
  refine s_neg ?_
  exact s_int
  exact a_or_nil
  refine ss_one ?_
  refine s_ret ?_
  exact s_bool
  exact ss_nil
  refine ss_cons ?_ ?_
  refine s_if ?_ ?_ ?_
  refine t_cmp o_ne ?_ ?_
  refine s_comp ?_ .one (by decide +kernel) (by decide +kernel) ?_ ?_
  refine i_lst ?_
  refine s_lst ?_
  refine e_cons ?_ ?_
  exact s_str (by decide +kernel)
  refine e_cons ?_ ?_
  exact s_str (by decide +kernel)
  refine e_cons ?_ ?_
  exact s_str (by decide +kernel)
  refine e_cons ?_ ?_
  exact s_str (by decide +kernel)
  exact e_nil
  refine .one ?_
  refine t_not ?_
  refine t_val ?_
  refine s_call c_law_refused (by decide) (by decide +kernel) ?_
  refine e_cons ?_ ?_
  refine s_bin o_add ?_ ?_
  exact s_var (by decide +kernel) (by decide +kernel)
  refine s_idx ?_ ?_
  exact s_var (by decide +kernel) (by decide +kernel)
  refine s_neg ?_
  exact s_int
  exact e_nil
  refine body_one ?_
  exact s_var (by decide +kernel) (by decide +kernel)
  refine s_lst ?_
  exact e_nil
  refine ss_one ?_
  refine s_ret ?_
  exact s_bool
  exact ss_nil
  refine ss_one ?_
  refine s_ret ?_
  refine s_cmp o_eq ?_ ?_
  refine s_comp ?_ .one (by decide +kernel) (by decide +kernel) .nil ?_
  refine i_lst ?_
  refine s_lst ?_
  refine e_cons ?_ ?_
  exact s_str (by decide +kernel)
  refine e_cons ?_ ?_
  exact s_str (by decide +kernel)
  refine e_cons ?_ ?_
  exact s_str (by decide +kernel)
  refine e_cons ?_ ?_
  exact s_str (by decide +kernel)
  refine e_cons ?_ ?_
  exact s_str (by decide +kernel)
  exact e_nil
  refine body_one ?_
  refine s_call c_parse257 (by decide) (by decide +kernel) ?_
  refine e_cons ?_ ?_
  refine s_bin o_add ?_ ?_
  exact s_var (by decide +kernel) (by decide +kernel)
  refine s_idx ?_ ?_
  exact s_var (by decide +kernel) (by decide +kernel)
  refine s_neg ?_
  exact s_int
  exact e_nil
  refine s_bin o_mul ?_ ?_
  refine s_lst ?_
  refine e_cons ?_ ?_
  exact s_str (by decide +kernel)
  exact e_nil
  exact s_int
noncomputable def p_law : Spec' := fun Vs σ Q E => ∃ xs, Vs = [.rol xs] ∧ xs.length ≤ 63 ∧ ∀ ν, Q (.bool true) (σ ++ ν)
theorem i_law (H : PlainLaw) {Vs : List V} {σ : Sto} {Q : V → Sto → Prop} {E : X → Sto → Prop} (h : p_law Vs σ Q E) : Vs.length = 1 ∧ f_law ⟨bindV ["script"] Vs, σ⟩ (fin1 Q) (fin2 E) := by
  obtain ⟨xs, rfl, hx, hq⟩ := h
  refine ⟨rfl, ?_⟩
  have b1 : bindV ["script"] [V.rol xs] "script" = some (.v (.rol xs)) := rfl
  refine law_head H hx b1 (fun vars' ν nu n t ns c x hc h13 => ?_)
  exact law_tail H hc h13 x (fun vars2 ν2 => by show Q (.bool true) _; rw [List.append_assoc]; exact hq _)
end
end Mine

namespace Mine
section
noncomputable def hitE (e : Bool × S) (c : Nat) : Bool := decide (c ∈ e.2) != e.1
noncomputable abbrev Pat := List (Option (Bool × S))
noncomputable def anyTail (k : S → Bool) : S → Bool
  | [] => k []
  | c :: t => k (c :: t) || anyTail k t
noncomputable def glob : Pat → S → Bool
  | [] => fun s => s.isEmpty
  | none :: r => anyTail (glob r)
  | some e :: r => fun s => match s with | [] => false | c :: t => hitE e c && glob r t
noncomputable def patOf (its : List Item) : Pat := its.map fun it => it.acc.map fun a => (it.neg, a)
theorem anyTail_iff {k : S → Bool} : ∀ {s : S}, anyTail k s = true ↔ ∃ u v, s = u ++ v ∧ k v = true
  | [] => ⟨fun h => ⟨[], [], rfl, h⟩, fun ⟨u, v, h1, h2⟩ => by
      have := List.append_eq_nil_iff.mp h1.symm
      rw [this.2] at h2; exact h2⟩
  | c :: t => by
    rw [anyTail, Bool.or_eq_true, anyTail_iff]
    constructor
    · rintro (h | ⟨u, v, h1, h2⟩)
      · exact ⟨[], _, rfl, h⟩
      · exact ⟨c :: u, v, by rw [h1]; rfl, h2⟩
    · rintro ⟨u, v, h1, h2⟩
      cases u with
      | nil => left; rw [List.nil_append] at h1; rw [h1]; exact h2
      | cons d u => right; simp only [List.cons_append, List.cons.injEq] at h1; exact ⟨u, v, h1.2, h2⟩
theorem anyTail_self {k : S → Bool} {s : S} (h : k s = true) : anyTail k s = true := anyTail_iff.mpr ⟨[], s, rfl, h⟩
theorem anyTail_cons {k : S → Bool} {s : S} {c : Nat} (h : anyTail k s = true) : anyTail k (c :: s) = true := by rw [anyTail, h, Bool.or_true]
noncomputable def Closed (its : List Item) (f : List Nat) : Prop := ∀ q ∈ f, isStar its q = true → q + 1 ∈ f
noncomputable def Stars (its : List Item) (p q : Nat) : Prop := p ≤ q ∧ ∀ i, p ≤ i → i < q → isStar its i = true
theorem star_lt {its : List Item} {p : Nat} (h : isStar its p = true) : p < its.length := by
  unfold isStar at h
  cases hp : its[p]? with
  | none => rw [hp] at h; cases h
  | some it => exact (List.getElem?_eq_some_iff.mp hp).1
theorem openOne_spec {its : List Item} : ∀ (n p : Nat) (f : List Nat), p ≤ its.length → n = its.length + 1 - p → (∀ q ∈ f, isStar its q = true → q + 1 ∈ f ∨ q + 1 = p) →
    (∀ q ∈ f, q ∈ openOne its n p f) ∧ p ∈ openOne its n p f ∧ (∀ q ∈ openOne its n p f, q ∈ f ∨ Stars its p q) ∧ Closed its (openOne its n p f)
  | 0, p, f, hp, hn, hc => by omega
  | n + 1, p, f, hp, hn, hc => by
    unfold openOne
    by_cases hm : p ∈ f
    · rw [if_pos hm]
      refine ⟨fun _ h => h, hm, fun _ h => .inl h, fun q hq hs => ?_⟩
      rcases hc q hq hs with h | h
      · exact h
      · rw [h]; exact hm
    · rw [if_neg hm]
      by_cases hs : isStar its p = true
      · rw [if_pos hs]
        have hlt := star_lt hs
        obtain ⟨h1, h2, h3, h4⟩ := openOne_spec (its := its) n (p + 1) (f ++ [p]) (by omega) (by omega) (fun q hq hq2 => by
          rcases List.mem_append.mp hq with h | h
          · rcases hc q h hq2 with h | h
            · exact .inl (List.mem_append_left _ h)
            · exact .inl (by rw [h]; simp)
          · rw [List.mem_singleton.mp h]; exact .inr rfl)
        refine ⟨fun q hq => h1 q (List.mem_append_left _ hq), h1 p (by simp), fun q hq => ?_, h4⟩
        rcases h3 q hq with h | ⟨h, g⟩
        · rcases List.mem_append.mp h with h | h
          · exact .inl h
          · rw [List.mem_singleton.mp h]; exact .inr ⟨Nat.le_refl _, fun i h1 h2 => by omega⟩
        · refine .inr ⟨by omega, fun i h1 h2 => ?_⟩
          by_cases e : i = p
          · rw [e]; exact hs
          · exact g i (by omega) h2
      · rw [if_neg hs]
        refine ⟨fun q hq => List.mem_append_left _ hq, by simp, fun q hq => ?_, fun q hq hq2 => ?_⟩
        · rcases List.mem_append.mp hq with h | h
          · exact .inl h
          · rw [List.mem_singleton.mp h]; exact .inr ⟨Nat.le_refl _, fun i h1 h2 => by omega⟩
        · rcases List.mem_append.mp hq with h | h
          · rcases hc q h hq2 with h | h
            · exact List.mem_append_left _ h
            · rw [h]; simp
          · rw [List.mem_singleton.mp h] at hq2; exact absurd hq2 hs
theorem opened_spec {its : List Item} : ∀ (ps f : List Nat), (∀ p ∈ ps, p ≤ its.length) → Closed its f →
    (∀ q ∈ f, q ∈ opened its ps f) ∧ (∀ p ∈ ps, p ∈ opened its ps f) ∧ (∀ q ∈ opened its ps f, q ∈ f ∨ ∃ p ∈ ps, Stars its p q) ∧ Closed its (opened its ps f)
  | [], f, hp, hc => ⟨fun _ h => h, (by intro _ h; cases h), fun _ h => Or.inl h, hc⟩
  | p :: r, f, hp, hc => by
    obtain ⟨a1, a2, a3, a4⟩ := openOne_spec (its := its) (its.length + 1 - p) p f (hp p (.head _)) rfl (fun q hq hs => .inl (hc q hq hs))
    obtain ⟨b1, b2, b3, b4⟩ := opened_spec r (openOne its (its.length + 1 - p) p f) (fun q hq => hp q (.tail _ hq)) a4
    have e : opened its (p :: r) f = opened its r (openOne its (its.length + 1 - p) p f) := rfl
    rw [e]
    refine ⟨fun q hq => b1 q (a1 q hq), fun q hq => ?_, fun q hq => ?_, b4⟩
    · rcases List.mem_cons.mp hq with h | h
      · rw [h]; exact b1 p a2
      · exact b2 q h
    · rcases b3 q hq with h | ⟨x, hx, h⟩
      · rcases a3 q h with h | h
        · exact .inl h
        · exact .inr ⟨p, .head _, h⟩
      · exact .inr ⟨x, .tail _ hx, h⟩
theorem drop_star {its : List Item} {p : Nat} (h : isStar its p = true) : (patOf its).drop p = none :: (patOf its).drop (p + 1) := by
  have hlt := star_lt h
  unfold isStar at h
  rw [List.getElem?_eq_getElem hlt] at h
  have hl : p < (patOf its).length := by simpa [patOf] using hlt
  rw [List.drop_eq_getElem_cons hl]
  congr 1
  simp only [patOf, List.getElem_map]
  cases ha : (its[p]).acc with
  | none => rfl
  | some a => simp [ha] at h
theorem drop_one {its : List Item} {p : Nat} {it : Item} {a : S} (h : its[p]? = some it) (ha : it.acc = some a) : (patOf its).drop p = some (it.neg, a) :: (patOf its).drop (p + 1) := by
  obtain ⟨hlt, e⟩ := List.getElem?_eq_some_iff.mp h
  have hl : p < (patOf its).length := by simpa [patOf] using hlt
  rw [List.drop_eq_getElem_cons hl]
  congr 1
  simp only [patOf, List.getElem_map, e, ha]
  rfl
theorem drop_end {its : List Item} {p : Nat} (h : its.length ≤ p) : (patOf its).drop p = [] := by
  rw [List.drop_eq_nil_iff]; simpa [patOf] using h
theorem stars_glob {its : List Item} {q : Nat} {s : S} : ∀ (n p : Nat), q = p + n → (∀ i, p ≤ i → i < q → isStar its i = true) → glob ((patOf its).drop q) s = true → glob ((patOf its).drop p) s = true
  | 0, p, e, _, h => by rw [e, Nat.add_zero] at h; exact h
  | n + 1, p, e, hs, h => by
    rw [drop_star (hs p (Nat.le_refl _) (by omega))]
    exact anyTail_self (stars_glob n (p + 1) (by omega) (fun i h1 h2 => hs i (by omega) h2) h)
noncomputable def Acc (its : List Item) (ps : List Nat) (s : S) : Prop := ∃ p ∈ ps, glob ((patOf its).drop p) s = true
theorem acc_opened {its : List Item} {ps : List Nat} {s : S} (hp : ∀ p ∈ ps, p ≤ its.length) : Acc its (opened its ps []) s ↔ Acc its ps s := by
  obtain ⟨_, h2, h3, _⟩ := opened_spec ps [] hp (by intro _ h; cases h)
  constructor
  · rintro ⟨q, hq, hg⟩
    rcases h3 q hq with h | ⟨p, hpm, hle, hs⟩
    · cases h
    · exact ⟨p, hpm, stars_glob (q - p) p (by omega) hs hg⟩
  · rintro ⟨p, hpm, hg⟩
    exact ⟨p, h2 p hpm, hg⟩
theorem opened_le {its : List Item} {ps : List Nat} (hp : ∀ p ∈ ps, p ≤ its.length) : ∀ q ∈ opened its ps [], q ≤ its.length := by
  obtain ⟨_, _, h3, _⟩ := opened_spec ps [] hp (by intro _ h; cases h)
  intro q hq
  rcases h3 q hq with h | ⟨p, hpm, hle, hs⟩
  · cases h
  · by_cases e : p = q
    · rw [← e]; exact hp p hpm
    · have := star_lt (hs (q - 1) (by omega) (by omega)); omega
theorem opened_closed {its : List Item} {ps : List Nat} (hp : ∀ p ∈ ps, p ≤ its.length) : Closed its (opened its ps []) := (opened_spec ps [] hp (by intro _ h; cases h)).2.2.2
theorem onStep_bound {its : List Item} {ps : List Nat} {c : Nat} (hp : ∀ p ∈ ps, p ≤ its.length) : ∀ q ∈ ps.flatMap (onStep its c), q ≤ its.length := by
  intro q hq
  obtain ⟨p, hpm, h⟩ := List.mem_flatMap.mp hq
  unfold onStep at h
  cases hi : its[p]? with
  | none => rw [hi] at h; cases h
  | some it =>
    have hlt := (List.getElem?_eq_some_iff.mp hi).1
    rw [hi] at h
    dsimp only at h
    cases ha : it.acc with
    | none => rw [ha] at h; dsimp only at h; rw [List.mem_singleton.mp h]; omega
    | some a =>
      rw [ha] at h; dsimp only at h
      split at h
      · rw [List.mem_singleton.mp h]; omega
      · cases h
theorem acc_step {its : List Item} {ps : List Nat} {c : Nat} {s : S} (hc : Closed its ps) (hp : ∀ p ∈ ps, p ≤ its.length) : Acc its ps (c :: s) ↔ Acc its (ps.flatMap (onStep its c)) s := by
  constructor
  · rintro ⟨p, hpm, hg⟩
    have : ∀ (n p : Nat), n = its.length - p → p ∈ ps → glob ((patOf its).drop p) (c :: s) = true → Acc its (ps.flatMap (onStep its c)) s := by
      intro n
      induction n with
      | zero =>
        intro p hn hpm hg
        have := hp p hpm
        rw [drop_end (by omega)] at hg
        cases hg
      | succ n ih =>
        intro p hn hpm hg
        have hlt : p < its.length := by omega
        have hi := List.getElem?_eq_getElem hlt
        cases ha : (its[p]).acc with
        | none =>
          have hs : isStar its p = true := by unfold isStar; rw [hi]; simp [ha]
          rw [drop_star hs] at hg
          change (glob _ (c :: s) || anyTail (glob _) s) = true at hg
          rw [Bool.or_eq_true] at hg
          rcases hg with hg | hg
          · exact ih (p + 1) (by omega) (hc p hpm hs) hg
          · refine ⟨p, List.mem_flatMap.mpr ⟨p, hpm, ?_⟩, by rw [drop_star hs]; exact hg⟩
            unfold onStep; rw [hi]; simp [ha]
        | some a =>
          rw [drop_one hi ha] at hg
          change (hitE _ c && glob _ s) = true at hg
          rw [Bool.and_eq_true] at hg
          refine ⟨p + 1, List.mem_flatMap.mpr ⟨p, hpm, ?_⟩, hg.2⟩
          unfold onStep; rw [hi]; simp only [ha]
          have h1 : (decide (c ∈ a) != (its[p]).neg) = true := hg.1
          rw [if_pos h1]; simp
    exact this _ p rfl hpm hg
  · rintro ⟨q, hq, hg⟩
    obtain ⟨p, hpm, h⟩ := List.mem_flatMap.mp hq
    unfold onStep at h
    cases hi : its[p]? with
    | none => rw [hi] at h; cases h
    | some it =>
      rw [hi] at h
      dsimp only at h
      refine ⟨p, hpm, ?_⟩
      cases ha : it.acc with
      | none =>
        rw [ha] at h; dsimp only at h
        rw [List.mem_singleton.mp h] at hg
        have hs : isStar its p = true := by unfold isStar; rw [hi]; simp [ha]
        rw [drop_star hs] at hg ⊢
        exact anyTail_cons hg
      | some a =>
        rw [ha] at h; dsimp only at h
        split at h
        · rename_i hh
          rw [List.mem_singleton.mp h] at hg
          rw [drop_one hi ha]
          show (hitE _ c && glob _ s) = true
          rw [Bool.and_eq_true]
          exact ⟨hh, hg⟩
        · cases h
theorem acc_end {its : List Item} {ps : List Nat} (hc : Closed its ps) (hp : ∀ p ∈ ps, p ≤ its.length) : Acc its ps [] ↔ its.length ∈ ps := by
  constructor
  · rintro ⟨p, hpm, hg⟩
    have : ∀ (n p : Nat), n = its.length - p → p ∈ ps → glob ((patOf its).drop p) [] = true → its.length ∈ ps := by
      intro n
      induction n with
      | zero => intro p hn hpm _; have := hp p hpm; rw [show its.length = p by omega]; exact hpm
      | succ n ih =>
        intro p hn hpm hg
        have hlt : p < its.length := by omega
        have hi := List.getElem?_eq_getElem hlt
        cases ha : (its[p]).acc with
        | none =>
          have hs : isStar its p = true := by unfold isStar; rw [hi]; simp [ha]
          rw [drop_star hs] at hg
          exact ih (p + 1) (by omega) (hc p hpm hs) hg
        | some a => rw [drop_one hi ha] at hg; cases hg
    exact this _ p rfl hpm hg
  · intro h
    exact ⟨_, h, by rw [drop_end (Nat.le_refl _)]; rfl⟩
end
end Mine

namespace Mine
section
noncomputable def runL (its : List Item) (s : S) (ps : List Nat) : List Nat := s.foldl (fun ps c => onL its c ps) ps
theorem onL_ok {its : List Item} {ps : List Nat} {c : Nat} (hp : ∀ p ∈ ps, p ≤ its.length) : (∀ p ∈ onL its c ps, p ≤ its.length) ∧ Closed its (onL its c ps) :=
  ⟨opened_le (onStep_bound hp), opened_closed (onStep_bound hp)⟩
theorem run_acc {its : List Item} : ∀ (s : S) (ps : List Nat), Closed its ps → (∀ p ∈ ps, p ≤ its.length) → (its.length ∈ runL its s ps ↔ Acc its ps s)
  | [], ps, hc, hp => (acc_end hc hp).symm
  | c :: s, ps, hc, hp => by
    have h := onL_ok (c := c) hp
    have e : runL its (c :: s) ps = runL its s (onL its c ps) := rfl
    rw [e, run_acc s _ h.2 h.1, acc_step hc hp]
    exact acc_opened (onStep_bound hp)
noncomputable def walkT (its : List Item) (text : S) : Walk := text.foldl (walkStep its) (opened its [0] [], sReads)
theorem ne1 : sWaits ≠ sReads := by decide
theorem ne2 : sOver ≠ sReads := by decide
theorem ne3 : sOver ≠ sWaits := by decide
theorem over_keep (its : List Item) : ∀ (text : S) (ps : List Nat), (text.foldl (walkStep its) (ps, sOver)).1 = ps
  | [], _ => rfl
  | c :: t, ps => by
    have e : walkStep its (ps, sOver) c = (ps, sOver) := by
      unfold walkStep
      rw [if_neg (by simp [ne2]), if_neg (by simp [ne2, ne3])]
    rw [List.foldl_cons, e, over_keep its t]
theorem walk_reads (its : List Item) : ∀ (n : Nat) (text : S) (ps : List Nat), text.length ≤ n → (text.foldl (walkStep its) (ps, sReads)).1 = runL its (walk257 text) ps
  | _, [], ps, _ => rfl
  | 0, c :: t, ps, h => by simp at h
  | n + 1, c :: t, ps, h => by
    simp only [List.length_cons] at h
    rw [List.foldl_cons]
    by_cases hc : c = 34
    · subst hc
      have e : walkStep its (ps, sReads) 34 = (ps, sWaits) := by unfold walkStep; rw [if_pos ⟨rfl, rfl⟩]
      rw [e]
      cases t with
      | nil => rfl
      | cons d t' =>
        rw [List.foldl_cons]
        by_cases hd : d = 34
        · subst hd
          have e2 : walkStep its (ps, sWaits) 34 = (onL its 34 ps, sReads) := by unfold walkStep; rw [if_neg (by simp [ne1]), if_pos (.inr ⟨rfl, rfl⟩)]
          rw [e2, walk_reads its n t' _ (by simp at h; omega)]
          simp [walk257, runL]
        · have e2 : walkStep its (ps, sWaits) d = (ps, sOver) := by unfold walkStep; rw [if_neg (by simp [ne1]), if_neg (by simp [ne1, hd])]
          rw [e2, over_keep]
          simp [walk257, hd, runL]
    · have e : walkStep its (ps, sReads) c = (onL its c ps, sReads) := by unfold walkStep; rw [if_neg (by simp [hc]), if_pos (.inl rfl)]
      rw [e, walk_reads its n t _ (by omega), walk257_other hc]
      rfl
theorem walkT_tells (its : List Item) (text : S) : decide (its.length ∈ (walkT its text).1) = glob (patOf its) (walk257 text) := by
  have h0 : ∀ p ∈ [0], p ≤ its.length := by intro p hp; rw [List.mem_singleton.mp hp]; exact Nat.zero_le _
  unfold walkT
  rw [walk_reads its text.length text _ (Nat.le_refl _), Bool.eq_iff_iff, decide_eq_true_iff, run_acc _ _ (opened_closed h0) (opened_le h0), acc_opened h0]
  constructor
  · rintro ⟨p, hp, h⟩
    rw [List.mem_singleton.mp hp] at h
    exact h
  · intro h
    exact ⟨0, by simp, h⟩
noncomputable def treeOk (texts : List S) : Bool := (List.range texts.length).all fun k => k == 0 || decide (texts[k]?.getD [] = (texts[(k - 1) / 2]?.getD []) ++ [(texts[k]?.getD []).getLast?.getD 0])
theorem walks_all (its : List Item) {texts : List S} (ht : treeOk texts = true) : ∀ (rest : List S) (ws : List Walk), 1 ≤ ws.length → texts.drop ws.length = rest → ws = (texts.take ws.length).map (walkT its) → walksL its rest ws = texts.map (walkT its)
  | [], ws, h1, hd, hw => by
    have := List.drop_eq_nil_iff.mp hd
    rw [List.take_of_length_le this] at hw
    exact hw
  | t :: r, ws, h1, hd, hw => by
    have hlt : ws.length < texts.length := by
      rcases Nat.lt_or_ge ws.length texts.length with h | h
      · exact h
      · rw [List.drop_eq_nil_iff.mpr h] at hd; cases hd
    have hg : texts[ws.length]? = some t := by
      have : (texts.drop ws.length)[0]? = some t := by rw [hd]; rfl
      rwa [List.getElem?_drop, Nat.add_zero] at this
    have hk := List.all_eq_true.mp ht ws.length (List.mem_range.mpr hlt)
    rw [Bool.or_eq_true, beq_iff_eq, decide_eq_true_eq] at hk
    rcases hk with hk | hk
    · omega
    · rw [hg] at hk
      simp only [Option.getD_some] at hk
      have hp : (ws.length - 1) / 2 < ws.length := by omega
      have hpt : (ws.length - 1) / 2 < texts.length := by omega
      have hpar : ws[(ws.length - 1) / 2]? = some (walkT its (texts[(ws.length - 1) / 2]?.getD [])) := by
        have h2 := congrArg (fun l => l[(ws.length - 1) / 2]?) hw
        refine h2.trans ?_
        show (List.map (walkT its) (List.take ws.length texts))[(ws.length - 1) / 2]? = _
        rw [List.getElem?_map, List.getElem?_take_of_lt hp, List.getElem?_eq_getElem hpt]
        rfl
      have hstep : walkStep its (ws[(ws.length - 1) / 2]?.getD ([], [])) (t.getLast?.getD 0) = walkT its t := by
        rw [hpar, Option.getD_some]
        conv => rhs; rw [hk]
        unfold walkT
        rw [List.foldl_append]
        rfl
      unfold walksL
      rw [hstep]
      refine walks_all its ht r (ws ++ [walkT its t]) (by simp) ?_ ?_
      · rw [List.length_append, List.length_singleton, ← List.drop_drop, hd]; rfl
      · rw [List.length_append, List.length_singleton, List.take_add_one, hg, Option.toList_some, List.map_append, ← hw]
        rfl
theorem told_glob (its : List Item) {texts : List S} (ht : treeOk texts = true) (h0 : texts[0]? = some []) : toldL its texts = texts.map fun t => glob (patOf its) (walk257 t) := by
  unfold toldL
  have hl : 1 ≤ texts.length := by have := (List.getElem?_eq_some_iff.mp h0).1; omega
  rw [walks_all its ht (texts.drop 1) [(opened its [0] [], sReads)] (by simp) rfl (by
    cases texts with
    | nil => simp at hl
    | cons a r => simp only [List.getElem?_cons_zero, Option.some.injEq] at h0; subst h0; rfl)]
  rw [List.map_map]
  refine List.map_congr_left fun t _ => ?_
  exact walkT_tells its t
end
end Mine

namespace Mine
section
theorem glob_seg {r : Pat} : ∀ (seg : Piece) (s : S), glob (seg.map some ++ r) s = true ↔ seg.length ≤ s.length ∧ lies seg s = true ∧ glob r (s.drop seg.length) = true
  | [], s => by simp [lies]
  | e :: seg, [] => by simp [glob]
  | e :: seg, c :: t => by
    show (hitE e c && glob (seg.map some ++ r) t) = true ↔ _
    rw [Bool.and_eq_true, glob_seg seg t]
    simp only [lies, Bool.and_eq_true, List.length_cons, List.drop_succ_cons]
    constructor
    · rintro ⟨h1, h2, h3, h4⟩; exact ⟨by omega, ⟨h1, h3⟩, h4⟩
    · rintro ⟨h2, ⟨h1, h3⟩, h4⟩; exact ⟨h1, by omega, h3, h4⟩
theorem liesAt_iff {p : Piece} {name : S} {q : Nat} : liesAt p name q = true ↔ q + p.length ≤ name.length ∧ lies p (name.drop q) = true := by
  unfold liesAt; rw [Bool.and_eq_true, decide_eq_true_eq]
theorem glob_segAt {r : Pat} {p : Piece} {name : S} {q : Nat} (hq : q ≤ name.length) : glob (p.map some ++ r) (name.drop q) = true ↔ liesAt p name q = true ∧ glob r (name.drop (q + p.length)) = true := by
  rw [glob_seg, liesAt_iff, List.length_drop, List.drop_drop]
  constructor
  · rintro ⟨h1, h2, h3⟩; exact ⟨⟨by omega, h2⟩, h3⟩
  · rintro ⟨⟨h1, h2⟩, h3⟩; exact ⟨by omega, h2, h3⟩
theorem anyTail_at {k : S → Bool} {name : S} {a : Nat} (ha : a ≤ name.length) : anyTail k (name.drop a) = true ↔ ∃ q, a ≤ q ∧ q ≤ name.length ∧ k (name.drop q) = true := by
  rw [anyTail_iff]
  constructor
  · rintro ⟨u, v, h1, h2⟩
    have hl := congrArg List.length h1
    rw [List.length_drop, List.length_append] at hl
    refine ⟨a + u.length, by omega, by omega, ?_⟩
    rw [← List.drop_drop, h1, List.drop_left' rfl]
    exact h2
  · rintro ⟨q, h1, h2, h3⟩
    refine ⟨(name.drop a).take (q - a), name.drop q, ?_, h3⟩
    have : name.drop q = (name.drop a).drop (q - a) := by rw [List.drop_drop]; congr 1; omega
    rw [this, List.take_append_drop]
noncomputable def starSegs (rest : List Piece) : Pat := rest.flatMap fun f => none :: f.map some
theorem glob_star_down {X : Pat} {name : S} {a b : Nat} (hab : b ≤ a) (ha : a ≤ name.length) (h : glob (none :: X) (name.drop a) = true) : glob (none :: X) (name.drop b) = true := by
  obtain ⟨q, h1, h2, h3⟩ := (anyTail_at ha).mp h
  exact (anyTail_at (by omega)).mpr ⟨q, by omega, h2, h3⟩
theorem findF_spec {p : Piece} {name : S} : ∀ (f place : Nat), match findF p name f place with
    | some q => place ≤ q ∧ liesAt p name q = true ∧ ∀ q', place ≤ q' → q' < q → liesAt p name q' = false
    | none => ∀ q', place ≤ q' → q' < place + f → liesAt p name q' = false
  | 0, place => by simp only [findF]; intro q' h1 h2; omega
  | f + 1, place => by
    unfold findF
    by_cases h : liesAt p name place = true
    · rw [if_pos h]
      exact ⟨Nat.le_refl _, h, fun q' h1 h2 => by omega⟩
    · rw [if_neg h]
      have ih := findF_spec (p := p) (name := name) f (place + 1)
      have h' : liesAt p name place = false := by simpa using h
      cases hf : findF p name f (place + 1) with
      | some q =>
        rw [hf] at ih
        obtain ⟨h1, h2, h3⟩ := ih
        refine ⟨by omega, h2, fun q' h4 h5 => ?_⟩
        by_cases e : q' = place
        · rw [e]; exact h'
        · exact h3 q' (by omega) h5
      | none =>
        rw [hf] at ih
        intro q' h4 h5
        by_cases e : q' = place
        · rw [e]; exact h'
        · exact ih q' (by omega) (by omega)
theorem last_iff {last : Piece} {name : S} {place : Nat} (hp : place ≤ name.length) : glob (none :: last.map some) (name.drop place) = true ↔ (decide (place + last.length ≤ name.length) && liesAt last name (name.length - last.length)) = true := by
  rw [Bool.and_eq_true, decide_eq_true_eq]
  refine (anyTail_at (k := glob (last.map some)) hp).trans ?_
  constructor
  · rintro ⟨q, h1, h2, h3⟩
    have h4 := (glob_segAt (r := []) (p := last) h2).mp (by rw [List.append_nil]; exact h3)
    have h5 := liesAt_iff.mp h4.1
    have h6 : (name.drop (q + last.length)).isEmpty = true := h4.2
    rw [List.isEmpty_iff, List.drop_eq_nil_iff] at h6
    have e : name.length - last.length = q := by omega
    rw [e]
    exact ⟨by omega, h4.1⟩
  · rintro ⟨h1, h2⟩
    refine ⟨name.length - last.length, by omega, by omega, ?_⟩
    have := (glob_segAt (r := []) (p := last) (name := name) (q := name.length - last.length) (by omega)).mpr ⟨h2, by
      show (name.drop _).isEmpty = true
      rw [List.isEmpty_iff, List.drop_eq_nil_iff]; omega⟩
    rwa [List.append_nil] at this
theorem mid_iff {last : Piece} {name : S} : ∀ (mid : List Piece) (place : Nat), place ≤ name.length → (glob (starSegs (mid ++ [last])) (name.drop place) = true ↔
    (match takesMid mid name place with | none => false | some place => decide (place + last.length ≤ name.length) && liesAt last name (name.length - last.length)) = true)
  | [], place, hp => by
    have e : starSegs ([] ++ [last]) = none :: last.map some := by simp [starSegs]
    rw [e]
    exact last_iff hp
  | p :: mid, place, hp => by
    have e : starSegs (p :: mid ++ [last]) = none :: (p.map some ++ starSegs (mid ++ [last])) := by simp [starSegs]
    rw [e]
    have hs := findF_spec (p := p) (name := name) (name.length + 1 - place) place
    have key : glob (none :: (p.map some ++ starSegs (mid ++ [last]))) (name.drop place) = true ↔ ∃ q, place ≤ q ∧ liesAt p name q = true ∧ glob (starSegs (mid ++ [last])) (name.drop (q + p.length)) = true := by
      refine (anyTail_at (k := glob (p.map some ++ starSegs (mid ++ [last]))) hp).trans ?_
      constructor
      · rintro ⟨q, h1, h2, h3⟩
        have := (glob_segAt h2).mp h3
        exact ⟨q, h1, this.1, this.2⟩
      · rintro ⟨q, h1, h2, h3⟩
        have hl := (liesAt_iff.mp h2).1
        exact ⟨q, h1, by omega, (glob_segAt (by omega)).mpr ⟨h2, h3⟩⟩
    rw [key]
    unfold takesMid
    cases hf : findF p name (name.length + 1 - place) place with
    | none =>
      rw [hf] at hs
      simp only [Bool.false_eq_true, iff_false, not_exists]
      rintro q ⟨h1, h2, h3⟩
      have hl := (liesAt_iff.mp h2).1
      rw [hs q h1 (by omega)] at h2
      cases h2
    | some q0 =>
      rw [hf] at hs
      obtain ⟨h1, h2, h3⟩ := hs
      have hl := (liesAt_iff.mp h2).1
      refine Iff.trans ?_ (mid_iff mid (q0 + p.length) hl)
      constructor
      · rintro ⟨q, k1, k2, k3⟩
        have hle : q0 ≤ q := by
          rcases Nat.lt_or_ge q q0 with h | h
          · rw [h3 q k1 h] at k2; cases k2
          · exact h
        have kl := (liesAt_iff.mp k2).1
        have e2 : ∃ X, starSegs (mid ++ [last]) = none :: X := by
          cases mid with
          | nil => exact ⟨_, by simp [starSegs]; rfl⟩
          | cons a b => exact ⟨_, by simp [starSegs]; rfl⟩
        obtain ⟨X, hX⟩ := e2
        rw [hX] at k3 ⊢
        exact glob_star_down (by omega) kl k3
      · intro h
        exact ⟨q0, h1, h2, h⟩
theorem takes_glob (first : Piece) (rest : List Piece) (name : S) (rst : Option (List Piece × Piece)) (hr : rst = match rest.getLast? with | none => none | some last => some (rest.dropLast, last)) : takes first rst name = glob (first.map some ++ starSegs rest) name := by
  subst hr
  have h0 := glob_segAt (r := starSegs rest) (p := first) (name := name) (q := 0) (Nat.zero_le _)
  rw [List.drop_zero, Nat.zero_add] at h0
  rw [Bool.eq_iff_iff, h0]
  unfold takes
  rw [Bool.and_eq_true]
  refine and_congr_right fun hl => ?_
  have hle := (liesAt_iff.mp hl).1
  rw [Nat.zero_add] at hle
  cases hg : rest.getLast? with
  | none =>
    rw [List.getLast?_eq_none_iff] at hg
    subst hg
    show decide (first.length = name.length) = true ↔ (name.drop first.length).isEmpty = true
    rw [decide_eq_true_eq, List.isEmpty_iff, List.drop_eq_nil_iff]
    omega
  | some last =>
    have e : rest = rest.dropLast ++ [last] := by
      obtain ⟨ys, hy⟩ := List.getLast?_eq_some_iff.mp hg
      rw [hy]; simp
    have := (mid_iff (last := last) (name := name) rest.dropLast first.length hle).symm
    rw [← e] at this
    exact this
end
end Mine

namespace Mine
section
noncomputable abbrev PE := S × (Bool × S)
noncomputable def scanOk (bars : Bool) : Nat → S → S → Option S
  | 0, _, _ => none
  | n + 1, [], signs => if signs = [] then none else some signs
  | n + 1, c :: r, signs => if c = 93 then none else if c = 92 then (match r with | [] => none | d :: r' => scanOk bars n r' (signs ++ [d]))
    else if c ∈ [45, 38, 126, 124] then none else if c ∈ [94, 91] ∧ signs = [] ∧ bars = false then none else scanOk bars n r (signs ++ [c])
theorem scan_of {bars : Bool} {rest : S} : ∀ (n : Nat) (y signs o : S) (k : Nat), scanOk bars n y signs = some o → scanSet bars (y ++ 93 :: rest) signs k = some (some (o, k + y.length))
  | 0, y, signs, o, k, h => by cases h
  | n + 1, [], signs, o, k, h => by
    unfold scanOk at h
    show scanSet bars (93 :: rest) signs k = _
    unfold scanSet
    rw [if_pos rfl]
    split at h
    · cases h
    · rename_i hs
      cases h
      rw [if_neg hs]; rfl
  | n + 1, c :: r, signs, o, k, h => by
    unfold scanOk at h
    show scanSet bars (c :: (r ++ 93 :: rest)) signs k = _
    unfold scanSet
    split at h
    · cases h
    · rename_i h93
      rw [if_neg h93]
      split at h
      · rename_i h92
        rw [if_pos h92]
        cases r with
        | nil => cases h
        | cons d r' =>
          dsimp only at h
          show scanSet bars (r' ++ 93 :: rest) (signs ++ [d]) (k + 2) = _
          rw [scan_of n r' _ o _ h]
          simp only [List.length_cons]; congr 3; omega
      · rename_i h92
        rw [if_neg h92]
        split at h
        · cases h
        · rename_i h3
          rw [if_neg h3]
          split at h
          · cases h
          · rename_i h4
            rw [if_neg h4, scan_of n r _ o _ h]
            simp only [List.length_cons]; congr 3; omega
noncomputable def setOkE (y : S) (e : Bool × S) : Bool := e.1 == barsAt y && decide (scanOk e.1 10 (if e.1 then y.drop 1 else y) [] = some e.2)
noncomputable def partOk (pe : PE) : Bool := match pe.1 with
  | [] => false
  | [c] => if c = 46 then decide (pe.2 = (true, [])) else !decide (c ∈ special) && decide (pe.2 = (false, [c]))
  | c :: d :: r => if c = 92 then decide (r = []) && decide (d ∈ special) && decide (pe.2 = (false, [d]))
    else decide (c = 91) && decide ((d :: r).getLast? = some 93) && setOkE (d :: r).dropLast pe.2
structure PSok (q : PS) : Prop where
  s : q.s = false
theorem special_facts : (40 ∈ special) ∧ (41 ∈ special) ∧ (46 ∈ special) ∧ (91 ∈ special) ∧ (92 ∈ special) := by decide
theorem part1 {c : Nat} {e : Bool × S} (h : partOk ([c], e) = true) : (c = 46 ∧ e = (true, [])) ∨ (c ≠ 46 ∧ ¬ c ∈ special ∧ e = (false, [c])) := by
  replace h : (if c = 46 then decide (e = (true, [])) else !decide (c ∈ special) && decide (e = (false, [c]))) = true := h
  by_cases h1 : c = 46
  · rw [if_pos h1] at h
    exact .inl ⟨h1, of_decide_eq_true h⟩
  · rw [if_neg h1, Bool.and_eq_true, Bool.not_eq_true', decide_eq_false_iff_not] at h
    exact .inr ⟨h1, h.1, of_decide_eq_true h.2⟩
theorem part2 {c d : Nat} {r : S} {e : Bool × S} (h : partOk (c :: d :: r, e) = true) : (c = 92 ∧ r = [] ∧ d ∈ special ∧ e = (false, [d])) ∨ (c = 91 ∧ ∃ y, d :: r = y ++ [93] ∧ setOkE y e = true) := by
  replace h : (if c = 92 then decide (r = []) && decide (d ∈ special) && decide (e = (false, [d])) else decide (c = 91) && decide ((d :: r).getLast? = some 93) && setOkE (d :: r).dropLast e) = true := h
  by_cases h1 : c = 92
  · rw [if_pos h1, Bool.and_eq_true, Bool.and_eq_true] at h
    exact .inl ⟨h1, of_decide_eq_true h.1.1, of_decide_eq_true h.1.2, of_decide_eq_true h.2⟩
  · rw [if_neg h1, Bool.and_eq_true, Bool.and_eq_true] at h
    obtain ⟨y, hy⟩ := List.getLast?_eq_some_iff.mp (of_decide_eq_true h.1.2)
    rw [hy, List.dropLast_concat] at h
    exact .inr ⟨of_decide_eq_true h.1.1, y, hy, h.2⟩
theorem pstep_ch {inside} {q : PS} {c : Nat} {r : S} (h : inside.drop q.pos = c :: r) (h1 : c ≠ 40) (h2 : c = 46 → r.head? ≠ some 42) (hs : q.s = false) (h3 : c ≠ 41) : pstep inside q = pch inside q c r := by
  rw [pstep_cons h (fun k => h1 (List.cons.inj k.1).1) (fun k => ?_)]
  · exact (if_neg (by rw [hs]; decide)).trans (if_neg fun k => h3 k.1)
  · obtain ⟨e1, e2⟩ := List.cons.inj k.1
    refine h2 e1 ?_
    cases r with
    | nil => cases e2
    | cons a b => rw [List.head?_cons, (List.cons.inj e2).1]
theorem set_of {y : S} {e : Bool × S} {n : Nat} {inside r : S} (h : setOkE y e = true) (hd : inside.drop n = y ++ 93 :: r) : setAt inside n = some (some (e.2, n + y.length)) ∧ barsAt (inside.drop n) = e.1 := by
  unfold setOkE at h
  rw [Bool.and_eq_true, beq_iff_eq, decide_eq_true_eq] at h
  obtain ⟨h4, h5⟩ := h
  have hb : barsAt (inside.drop n) = barsAt y := by
    rw [hd]
    unfold barsAt
    cases y with
    | nil => simp
    | cons a b => simp
  refine ⟨?_, hb.trans h4.symm⟩
  unfold setAt
  rw [hb, ← h4]
  cases hbb : e.1 with
  | false =>
    rw [hbb] at h5
    simp only [Bool.false_eq_true, if_false] at h5 ⊢
    rw [hd]
    exact scan_of 10 y [] _ _ h5
  | true =>
    rw [hbb] at h5 h4
    simp only [if_true] at h5 ⊢
    cases y with
    | nil => simp [barsAt] at h4
    | cons a b =>
      rw [show inside.drop (n + 1) = b ++ 93 :: r by rw [← List.drop_drop, hd]; rfl, scan_of 10 b [] _ _ h5, List.length_cons, Nat.add_assoc, Nat.add_comm 1]
theorem part_step {pe : PE} (hok : partOk pe = true) {inside r : S} {q : PS} (hd : inside.drop q.pos = pe.1 ++ r) (hr : r.head? ≠ some 42) (hs : q.s = false) : pstep inside q = some ⟨q.pos + pe.1.length, q.ps0, q.p ++ [pe.2], q.h, q.s, q.l⟩ := by
  obtain ⟨f1, f2, f3, f4, f5⟩ := special_facts
  obtain ⟨x, e⟩ := pe
  cases x with
  | nil => cases hok
  | cons c t =>
    cases t with
    | nil =>
      have hd : inside.drop q.pos = c :: r := hd
      rcases part1 hok with ⟨rfl, rfl⟩ | ⟨h1, h2, rfl⟩
      · exact (pstep_ch hd (by decide) (fun _ => hr) hs (by decide)).trans (if_pos rfl)
      · rw [pstep_ch hd (show c ≠ 40 from fun q => h2 (q ▸ f1)) (fun q => absurd q h1) hs (show c ≠ 41 from fun q => h2 (q ▸ f2))]
        exact (if_neg h1).trans ((if_neg (show ¬ c = 91 from fun q => h2 (q ▸ f4))).trans ((if_neg (show ¬ c = 92 from fun q => h2 (q ▸ f5))).trans (if_neg h2)))
    | cons d t =>
      have hd : inside.drop q.pos = c :: d :: (t ++ r) := hd
      rcases part2 hok with ⟨rfl, rfl, h1, rfl⟩ | ⟨rfl, y, hy, h1⟩
      · rw [pstep_ch hd (by decide) (fun q => absurd q (by decide)) hs (by decide)]
        exact (if_neg (by decide)).trans ((if_neg (by decide)).trans ((if_pos rfl).trans (if_pos h1)))
      · rw [pstep_ch hd (by decide) (fun q => absurd q (by decide)) hs (by decide)]
        have hdr : inside.drop (q.pos + 1) = d :: (t ++ r) := by rw [← List.drop_drop, hd]; rfl
        obtain ⟨e1, e2⟩ := set_of (r := r) h1 (hdr.trans (by rw [← List.cons_append, hy, List.append_assoc]; rfl))
        refine (if_neg (by decide)).trans ((if_pos rfl).trans ?_)
        rw [e1, ← hdr]
        unfold pset
        dsimp only
        rw [e2, List.length_cons, hy, List.length_append, List.length_singleton, ← Nat.add_assoc, ← Nat.add_assoc, Nat.add_right_comm q.pos]
inductive Steps (inside : S) : PS → PS → Prop
  | refl (q) : Steps inside q q
  | step {q q1 q'} : pstep inside q = some q1 → q.pos < q1.pos → q.pos < inside.length → Steps inside q1 q' → Steps inside q q'
theorem Steps.trans {inside q q1 q2} (x : Steps inside q q1) (y : Steps inside q1 q2) : Steps inside q q2 := by
  induction x with
  | refl => exact y
  | step a b c _ ih => exact .step a b c (ih y)
theorem Steps.le {inside q q1} (x : Steps inside q q1) : q.pos ≤ q1.pos := by
  induction x with
  | refl => exact Nat.le_refl _
  | step a b c _ ih => omega
theorem Steps.run {inside q q'} (x : Steps inside q q') (he : inside.length ≤ q'.pos) : ∀ n, q'.pos - q.pos < n → prun inside n q = some q' := by
  induction x with
  | refl q =>
    intro n hn
    obtain ⟨m, rfl⟩ : ∃ m, n = m + 1 := ⟨n - 1, by omega⟩
    unfold prun
    rw [if_neg (by omega)]
  | @step q q1 q' a b c y ih =>
    intro n hn
    obtain ⟨m, rfl⟩ : ∃ m, n = m + 1 := ⟨n - 1, by omega⟩
    unfold prun
    rw [if_pos c, a, Option.bind_some]
    have := y.le
    exact ih he m (by omega)
noncomputable def txtOf (f : List PE) : S := (f.map (·.1)).flatten
theorem part_pos {pe : PE} (h : partOk pe = true) : 1 ≤ pe.1.length := by
  unfold partOk at h
  cases hp : pe.1 with
  | nil => rw [hp] at h; cases h
  | cons a b => simp
theorem part_head {pe : PE} (h : partOk pe = true) : pe.1.head? ≠ some 42 := by
  unfold partOk at h
  intro q
  cases hp : pe.1 with
  | nil => rw [hp] at h; cases h
  | cons a b =>
    rw [hp] at h q
    simp only [List.head?_cons, Option.some.injEq] at q
    subst q
    cases b with
    | nil => dsimp only at h; rw [if_neg (by decide)] at h; simp at h
    | cons d t => dsimp only at h; rw [if_neg (by decide)] at h; simp at h
theorem seg_steps {inside : S} : ∀ (f : List PE) (r : S) (q : PS), f.all partOk = true → inside.drop q.pos = txtOf f ++ r → r.head? ≠ some 42 → q.s = false → Steps inside q ⟨q.pos + (txtOf f).length, q.ps0, q.p ++ f.map (·.2), q.h, q.s, q.l⟩
  | [], r, q, _, _, _, _ => by
    have : (⟨q.pos + (txtOf []).length, q.ps0, q.p ++ ([] : List PE).map (·.2), q.h, q.s, q.l⟩ : PS) = q := by simp [txtOf]
    rw [this]; exact .refl q
  | pe :: f, r, q, hok, hd, hr, hs => by
    rw [List.all_cons, Bool.and_eq_true] at hok
    have e : txtOf (pe :: f) = pe.1 ++ txtOf f := by simp [txtOf]
    rw [e, List.append_assoc] at hd
    have hpos := part_pos hok.1
    have hlen := congrArg List.length hd
    rw [List.length_drop, List.length_append] at hlen
    have hh : (txtOf f ++ r).head? ≠ some 42 := by
      cases f with
      | nil => simpa [txtOf] using hr
      | cons p2 f2 =>
        rw [List.all_cons, Bool.and_eq_true] at hok
        have h1 := part_head hok.2.1
        have h2 := part_pos hok.2.1
        cases hp : p2.1 with
        | nil => rw [hp] at h2; simp at h2
        | cons a b =>
          rw [hp] at h1
          simpa [txtOf, hp] using h1
    refine .step (part_step hok.1 hd hh hs) (by dsimp only; omega) (by omega) ?_
    have := seg_steps f r ⟨q.pos + pe.1.length, q.ps0, q.p ++ [pe.2], q.h, q.s, q.l⟩ hok.2 (by dsimp only; rw [← List.drop_drop, hd, List.drop_left' rfl]) hr hs
    have e2 : (⟨q.pos + (txtOf (pe :: f)).length, q.ps0, q.p ++ (pe :: f).map (·.2), q.h, q.s, q.l⟩ : PS) = ⟨q.pos + pe.1.length + (txtOf f).length, q.ps0, q.p ++ [pe.2] ++ f.map (·.2), q.h, q.s, q.l⟩ := by
      rw [e, List.length_append, Nat.add_assoc]; simp
    rw [e2]
    exact this
end
end Mine

namespace Mine
section
noncomputable def segStep {α : Type} (g : List (List α) × List α) : Option α → List (List α) × List α
  | none => if g.1 ≠ [] ∧ g.2.isEmpty = true then g else (g.1 ++ [g.2], [])
  | some a => (g.1, g.2 ++ [a])
noncomputable def segG {α : Type} (ts : List (Option α)) : List (List α) × List α := ts.foldl segStep ([], [])
noncomputable def joinSeg {α : Type} : List (List α) → List (Option α)
  | [] => []
  | f :: r => f.map some ++ r.flatMap fun g => none :: g.map some
theorem restP_flat (r : List (List S)) : restP r = r.flatMap fun g => none :: g.map some := by
  induction r with
  | nil => rfl
  | cons f r ih => simp [restP, ih]
noncomputable def midNe {α : Type} (g : List (List α) × List α) : Prop := ∀ f ∈ g.1.drop 1, f ≠ []
theorem segStep_none {α : Type} (g : List (List α) × List α) : segStep g none = if g.1 ≠ [] ∧ g.2.isEmpty = true then g else (g.1 ++ [g.2], []) := rfl
theorem segStep_mid {α : Type} {g : List (List α) × List α} {t : Option α} (h : midNe g) : midNe (segStep g t) := by
  cases t with
  | some a => exact h
  | none =>
    rw [segStep_none]
    by_cases hn : g.1 ≠ [] ∧ g.2.isEmpty = true
    · rw [if_pos hn]; exact h
    · rw [if_neg hn]
      intro f hf
      change f ∈ (g.1 ++ [g.2]).drop 1 at hf
      obtain ⟨d, c⟩ := g
      dsimp only at hf hn
      cases d with
      | nil => simp at hf
      | cons a b =>
        simp only [List.cons_append, List.drop_succ_cons, List.drop_zero] at hf
        rcases List.mem_append.mp hf with q | q
        · exact h f (by simpa using q)
        · rw [List.mem_singleton.mp q]
          intro he
          exact hn ⟨by simp, by rw [he]; rfl⟩
theorem joinSeg_snoc {α : Type} (d : List (List α)) (c : List α) (a : α) : joinSeg (d ++ [c ++ [a]]) = joinSeg (d ++ [c]) ++ [some a] := by
  cases d with
  | nil => simp [joinSeg]
  | cons f r => simp [joinSeg]
theorem joinSeg_new {α : Type} (d : List (List α)) (c : List α) : joinSeg (d ++ [c] ++ [[]]) = joinSeg (d ++ [c]) ++ [none] := by
  cases d with
  | nil => simp [joinSeg]
  | cons f r => simp [joinSeg]
theorem joinSeg_last {α : Type} (d : List (List α)) (c : List α) : (joinSeg (d ++ [c])).getLast? = some none ↔ (d ≠ [] ∧ c = []) := by
  rcases nil_or_snoc c with rfl | ⟨c', a, rfl⟩
  · cases d with
    | nil => simp [joinSeg]
    | cons f r =>
      rcases nil_or_snoc (f :: r) with h | ⟨r', l, h⟩
      · cases h
      · rw [h, joinSeg_new]; simp
  · rw [joinSeg_snoc]; simp
theorem parts_segs {α : Type} (txt : α → S) : ∀ (tas : List (At × Option α)) (g : List (List α) × List α), (∀ p ∈ tas, match p.2 with | none => p.1 = .star | some a => ∀ res, addPart res p.1 = res ++ [some (txt a)]) →
    (tas.map (·.1)).foldl addPart ((joinSeg (g.1 ++ [g.2])).map fun o => o.map txt) = (joinSeg (((tas.map (·.2)).foldl segStep g).1 ++ [((tas.map (·.2)).foldl segStep g).2])).map fun o => o.map txt
  | [], g, _ => rfl
  | p :: tas, g, h => by
    rw [List.map_cons, List.foldl_cons, List.map_cons, List.foldl_cons]
    have hp := h p (.head _)
    have ih := parts_segs txt tas (segStep g p.2) (fun q hq => h q (.tail _ hq))
    rw [← ih]
    congr 1
    cases h2 : p.2 with
    | none =>
      rw [h2] at hp
      dsimp only at hp
      rw [hp]
      unfold addPart segStep
      have hl : ((joinSeg (g.1 ++ [g.2])).map fun o => o.map txt).getLast? = some none ↔ (g.1 ≠ [] ∧ g.2.isEmpty = true) := by
        rw [List.getLast?_map, List.isEmpty_iff, ← joinSeg_last]
        cases (joinSeg (g.1 ++ [g.2])).getLast? with
        | none => simp
        | some o => cases o <;> simp
      by_cases hc : g.1 ≠ [] ∧ g.2.isEmpty = true
      · rw [if_pos hc, if_pos (hl.mpr hc)]
      · rw [if_neg hc, if_neg (fun q => hc (hl.mp q)), joinSeg_new]
        simp
    | some a =>
      rw [h2] at hp
      dsimp only at hp
      rw [hp]
      show _ = (joinSeg (g.1 ++ [g.2 ++ [a]])).map _
      rw [joinSeg_snoc]
      simp
theorem glob_congr {A B : Pat} : ∀ (Y : Pat), (∀ s, glob A s = glob B s) → ∀ s, glob (Y ++ A) s = glob (Y ++ B) s
  | [], h, s => h s
  | none :: Y, h, s => by
    have e : glob (Y ++ A) = glob (Y ++ B) := funext fun t => glob_congr Y h t
    show anyTail (glob (Y ++ A)) s = anyTail (glob (Y ++ B)) s
    rw [e]
  | some e :: Y, h, s => by
    cases s with
    | nil => rfl
    | cons c t =>
      show (hitE e c && glob (Y ++ A) t) = (hitE e c && glob (Y ++ B) t)
      rw [glob_congr Y h t]
theorem glob_stars (A : Pat) (s : S) : glob (none :: none :: A) s = glob (none :: A) s := by
  rw [Bool.eq_iff_iff]
  constructor
  · intro h
    obtain ⟨u, v, h1, h2⟩ := anyTail_iff.mp h
    obtain ⟨u2, v2, h3, h4⟩ := anyTail_iff.mp h2
    exact anyTail_iff.mpr ⟨u ++ u2, v2, by rw [h1, h3, List.append_assoc], h4⟩
  · intro h
    exact anyTail_self h
theorem glob_segs : ∀ (ts : List (Option (Bool × S))) (g : List (List (Bool × S)) × List (Bool × S)) (s : S), glob (joinSeg ((ts.foldl segStep g).1 ++ [(ts.foldl segStep g).2])) s = glob (joinSeg (g.1 ++ [g.2]) ++ ts) s
  | [], g, s => by simp
  | t :: ts, g, s => by
    rw [List.foldl_cons, glob_segs ts]
    cases t with
    | some a =>
      show glob (joinSeg (g.1 ++ [g.2 ++ [a]]) ++ ts) s = _
      rw [joinSeg_snoc]; simp
    | none =>
      unfold segStep
      by_cases hc : g.1 ≠ [] ∧ g.2.isEmpty = true
      · rw [if_pos hc]
        rw [List.isEmpty_iff] at hc
        obtain ⟨ys, hy⟩ := List.getLast?_eq_some_iff.mp ((joinSeg_last g.1 g.2).mpr hc)
        rw [hy, List.append_assoc, List.append_assoc]
        refine glob_congr ys (fun s => ?_) s
        exact (glob_stars ts s).symm
      · rw [if_neg hc, joinSeg_new]; simp
noncomputable def grpT : List (List PE) → S
  | [] => []
  | [l] => [46, 42] ++ txtOf l
  | f :: g :: r => [40, 63, 62, 46, 42, 63] ++ txtOf f ++ [41] ++ grpT (g :: r)
theorem grpT_join : ∀ r : List (List PE), (joinL (r.map fun f => f.map (·.1))).flatten = grpT r
  | [] => rfl
  | [l] => by
    simp only [List.map_cons, List.map_nil, joinL, grpT, txtOf]
    split
    · rename_i h; rw [h]; simp
    · simp
  | f :: g :: r => by
    have ih := grpT_join (g :: r)
    simp only [List.map_cons] at ih
    simp only [List.map_cons, joinL, grpT, txtOf, List.flatten_cons]
    rw [ih]
theorem grpT_head (r : List (List PE)) : (grpT r).head? ≠ some 42 := by
  match r with
  | [] => simp [grpT]
  | [l] => simp [grpT]
  | f :: g :: r => simp [grpT]
theorem grp_last {inside l} {q : PS} (hok : l.all partOk = true) (hd : inside.drop q.pos = 46 :: 42 :: txtOf l) (hh : q.h = false) (hl : q.l = false) : Steps inside q ⟨q.pos + 2 + (txtOf l).length, q.ps0 ++ [q.p], [] ++ l.map (·.2), q.h, false, true⟩ := by
  have hlen := congrArg List.length hd
  rw [List.length_drop, List.length_cons] at hlen
  have s1 : pstep inside q = some ⟨q.pos + 2, q.ps0 ++ [q.p], [], q.h, false, true⟩ := by
    unfold pstep
    rw [hd]
    exact (if_neg fun h => by have := (List.cons.inj h.1).1; cases this).trans (if_pos ⟨rfl, hh, hl⟩)
  exact .step s1 (Nat.lt_add_of_pos_right (by decide)) (by omega) (seg_steps l [] ⟨q.pos + 2, q.ps0 ++ [q.p], [], q.h, false, true⟩ (inside := inside) hok (by dsimp only; rw [← List.drop_drop, hd, List.append_nil]; rfl) (by decide) rfl)
theorem grp_one {inside f rest} {q : PS} (hok : f.all partOk = true) (hf : f ≠ []) (hd : inside.drop q.pos = [40, 63, 62, 46, 42, 63] ++ (txtOf f ++ 41 :: rest)) (hh : q.h = false) (hl : q.l = false) :
    Steps inside q ⟨q.pos + 6 + (txtOf f).length + 1, q.ps0 ++ [q.p], [] ++ f.map (·.2), false, true, q.l⟩ ∧ inside.drop (q.pos + 6 + (txtOf f).length + 1) = rest := by
  have hlen : inside.length - q.pos = 6 + ((txtOf f).length + (rest.length + 1)) := by have := congrArg List.length hd; rw [List.length_drop, List.length_append, List.length_append] at this; exact this
  have s1 : pstep inside q = some ⟨q.pos + 6, q.ps0 ++ [q.p], [], true, false, q.l⟩ := by
    unfold pstep
    rw [hd]
    exact if_pos ⟨rfl, hh, hl⟩
  have d2 : inside.drop (q.pos + 6) = txtOf f ++ 41 :: rest := by rw [← List.drop_drop, hd]; rfl
  have d3 : inside.drop (q.pos + 6 + (txtOf f).length) = 41 :: rest := by rw [← List.drop_drop, d2, List.drop_left' rfl]
  have s3 : pstep inside ⟨q.pos + 6 + (txtOf f).length, q.ps0 ++ [q.p], [] ++ f.map (·.2), true, false, q.l⟩ = some ⟨q.pos + 6 + (txtOf f).length + 1, q.ps0 ++ [q.p], [] ++ f.map (·.2), false, true, q.l⟩ :=
    (pstep_cons d3 (fun h => Bool.noConfusion h.2.1) (fun h => Bool.noConfusion h.2.1)).trans ((if_neg Bool.false_ne_true).trans (if_pos ⟨rfl, rfl, fun h => hf (List.map_eq_nil_iff.mp h)⟩))
  refine ⟨.step s1 (Nat.lt_add_of_pos_right (by decide)) (by omega) ((seg_steps f (41 :: rest) ⟨q.pos + 6, q.ps0 ++ [q.p], [], true, false, q.l⟩ (inside := inside) hok d2 (by rw [List.head?_cons]; decide) rfl).trans (.step s3 (Nat.lt_succ_self _) (by dsimp only; omega) (.refl _))), ?_⟩
  rw [← List.drop_drop, d3]; rfl
theorem grp_steps {inside : S} (r : List (List PE)) : ∀ (q : PS), r.all (fun f => f.all partOk) = true → (∀ f ∈ r.dropLast, f ≠ []) → inside.drop q.pos = grpT r → q.h = false → q.l = false → (r = [] → q.s = q.s) →
    ∃ q', Steps inside q q' ∧ q'.pos = q.pos + (grpT r).length ∧ q'.h = false ∧ (r ≠ [] → q'.s = false) ∧ (r = [] → q' = q) ∧ (∀ l, r.getLast? = some l → q'.ps0 = q.ps0 ++ q.p :: r.dropLast.map (fun f => f.map (·.2)) ∧ q'.p = l.map (·.2)) := by
  induction r with
  | nil => exact fun q _ _ _ hh hl _ => ⟨q, .refl q, rfl, hh, fun h => absurd rfl h, fun _ => rfl, fun l h => absurd h.symm (Option.some_ne_none l)⟩
  | cons f r ih =>
    intro q hok hne hd hh hll _
    rw [List.all_cons, Bool.and_eq_true] at hok
    cases r with
    | nil =>
      refine ⟨_, grp_last hok.1 hd hh hll, by rw [grpT, List.length_append, Nat.add_assoc]; rfl, hh, fun _ => rfl, fun h => absurd h (List.cons_ne_nil _ _), fun l' h => ?_⟩
      rw [← Option.some.inj h]
      exact ⟨rfl, rfl⟩
    | cons g r =>
      obtain ⟨s1, hd1⟩ := grp_one (rest := grpT (g :: r)) hok.1 (hne f (.head _)) (by rw [hd, grpT, List.append_assoc, List.append_assoc]; rfl) hh hll
      obtain ⟨q', t1, t2, t3, t4, _, t6⟩ := ih ⟨q.pos + 6 + (txtOf f).length + 1, q.ps0 ++ [q.p], [] ++ f.map (·.2), false, true, q.l⟩ hok.2 (fun x hx => hne x (.tail _ hx)) hd1 rfl hll (fun _ => rfl)
      refine ⟨q', s1.trans t1, ?_, t3, fun _ => t4 (List.cons_ne_nil _ _), fun h => absurd h (List.cons_ne_nil _ _), fun l hl => ?_⟩
      · rw [t2, grpT, List.length_append, List.length_append, List.length_append, List.length_singleton]
        show _ = q.pos + (6 + _ + 1 + _)
        omega
      · obtain ⟨u1, u2⟩ := t6 l hl
        exact ⟨by rw [u1, List.append_assoc]; rfl, u2⟩
end
end Mine

namespace Mine
section
theorem seg_map {α β : Type} (f : α → β) : ∀ (ts : List (Option α)) (g : List (List α) × List α),
    (ts.map (Option.map f)).foldl segStep (g.1.map (List.map f), g.2.map f) = ((ts.foldl segStep g).1.map (List.map f), (ts.foldl segStep g).2.map f)
  | [], g => rfl
  | t :: ts, g => by
    rw [List.map_cons, List.foldl_cons, List.foldl_cons, ← seg_map f ts]
    congr 1
    cases t with
    | some a => show (_, _ ++ [f a]) = _; simp [segStep]
    | none =>
      show segStep _ none = _
      rw [segStep_none, segStep_none]
      have e : ((g.1.map (List.map f) ≠ [] ∧ (g.2.map f).isEmpty = true)) ↔ (g.1 ≠ [] ∧ g.2.isEmpty = true) := by simp
      by_cases hc : g.1 ≠ [] ∧ g.2.isEmpty = true
      · rw [if_pos hc, if_pos (e.mpr hc)]
      · rw [if_neg hc, if_neg (fun q => hc (e.mp q))]; simp
theorem seg_all {α : Type} {P : α → Prop} : ∀ (ts : List (Option α)) (g : List (List α) × List α), (∀ a, some a ∈ ts → P a) → (∀ f ∈ g.1 ++ [g.2], ∀ a ∈ f, P a) → midNe g →
    (∀ f ∈ (ts.foldl segStep g).1 ++ [(ts.foldl segStep g).2], ∀ a ∈ f, P a) ∧ midNe (ts.foldl segStep g)
  | [], g, _, h, m => ⟨h, m⟩
  | t :: ts, g, hp, h, m => by
    rw [List.foldl_cons]
    refine seg_all ts _ (fun a ha => hp a (.tail _ ha)) ?_ (segStep_mid m)
    cases t with
    | some a =>
      intro f hf b hb
      have hf : f ∈ g.1 ++ [g.2 ++ [a]] := hf
      rcases List.mem_append.mp hf with q | q
      · exact h f (List.mem_append_left _ q) b hb
      · rw [List.mem_singleton.mp q] at hb
        rcases List.mem_append.mp hb with u | u
        · exact h g.2 (by simp) b u
        · rw [List.mem_singleton.mp u]; exact hp a (.head _)
    | none =>
      rw [segStep_none]
      by_cases hc : g.1 ≠ [] ∧ g.2.isEmpty = true
      · rw [if_pos hc]; exact h
      · rw [if_neg hc]
        intro f hf b hb
        rcases List.mem_append.mp hf with q | q
        · exact h f q b hb
        · rw [List.mem_singleton.mp q] at hb; cases hb
noncomputable def okP (pe : PE) : Bool := partOk pe && decide (pe.1.length ≤ 10) && pe.1.all fun c => decide (c < 128)
theorem txt_bound : ∀ f : List PE, (∀ a ∈ f, okP a = true) → (txtOf f).length ≤ 10 * f.length ∧ ∀ c ∈ txtOf f, c < 128
  | [], _ => ⟨by simp [txtOf], fun c hc => by cases hc⟩
  | a :: f, h => by
    have ih := txt_bound f (fun b hb => h b (.tail _ hb))
    have ha := h a (.head _)
    unfold okP at ha
    rw [Bool.and_eq_true, Bool.and_eq_true, decide_eq_true_eq, List.all_eq_true] at ha
    have e : txtOf (a :: f) = a.1 ++ txtOf f := by simp [txtOf]
    rw [e]
    refine ⟨by rw [List.length_append, List.length_cons]; omega, fun c hc => ?_⟩
    rcases List.mem_append.mp hc with q | q
    · exact of_decide_eq_true (ha.2 c q)
    · exact ih.2 c q
theorem grp_bound : ∀ r : List (List PE), (∀ f ∈ r, ∀ a ∈ f, okP a = true) → (grpT r).length ≤ 10 * (r.flatMap fun g => none :: g.map some).length ∧ ∀ c ∈ grpT r, c < 128
  | [], _ => ⟨by simp [grpT], fun c hc => by cases hc⟩
  | [l], h => by
    have hl := txt_bound l (h l (.head _))
    refine ⟨by simp [grpT]; omega, fun c hc => ?_⟩
    rcases List.mem_append.mp hc with q | q
    · simp at q; omega
    · exact hl.2 c q
  | f :: g :: r, h => by
    have hl := txt_bound f (h f (.head _))
    have ih := grp_bound (g :: r) (fun x hx => h x (.tail _ hx))
    have e : grpT (f :: g :: r) = [40, 63, 62, 46, 42, 63] ++ txtOf f ++ [41] ++ grpT (g :: r) := rfl
    rw [e, List.flatMap_cons]
    refine ⟨?_, fun c hc => ?_⟩
    · simp only [List.length_append, List.length_cons, List.length_nil, List.length_map] at ih ⊢; omega
    · rcases List.mem_append.mp hc with q | q
      · rcases List.mem_append.mp q with u | u
        · rcases List.mem_append.mp u with w | w
          · simp at w; omega
          · exact hl.2 c w
        · simp at u; omega
      · exact ih.2 c q
noncomputable def partTxt : At → S
  | .star => []
  | .q => [46]
  | .ch c => escS c
  | .set x plan => [91] ++ setS x plan ++ [93]
noncomputable def mkTA (a : At) (e : Bool × S) : At × Option PE := (a, some (partTxt a, e))
noncomputable def planK (c b e : Nat) : List (Nat × Nat) := if c = 38 ∨ c = 126 then [(b, e)] else []
noncomputable def tasK (c : Nat) : Nat → List (At × Option PE)
  | 0 => [(.star, none)]
  | 1 => [mkTA .q (true, [])]
  | 2 => [mkTA (.ch 34) (false, [34])]
  | 3 => [mkTA (if c = 42 ∨ c = 63 ∨ c = 91 then .set [c] [] else .ch c) (false, [c])]
  | 4 => [mkTA (.set [33, c] (planK c 1 2)) (true, [c])]
  | 5 => [mkTA (.set [33, 34] []) (true, [34])]
  | 6 => [mkTA (.set [c, 34] (planK c 0 1)) (false, [c, 34])]
  | 7 => []
  | _ => [(.star, none)]
noncomputable def tasOk (c k : Nat) : Bool := decide (((itemOf [c] k).map (·.txt)).flatten = (tasK c k).flatMap fun p => atTxt p.1) && ((tasK c k).all fun p => atOk p.1) && decide (patOf (itemOf [c] k) = (tasK c k).map fun p => p.2.map (·.2)) && decide ((tasK c k).length ≤ 1) && decide (((tasK c k).flatMap fun p => atTxt p.1).length ≤ 10) &&
  (tasK c k).all fun p => match p.2 with | none => true | some a => okP a
theorem tas_ok : ∀ c ∈ signsL, ∀ k < 9, tasOk c k = true := by decide +kernel
theorem tasK_addPart (c k : Nat) : ∀ p ∈ tasK c k, match p.2 with | none => p.1 = .star | some a => ∀ res, addPart res p.1 = res ++ [some a.1] := by
  intro p hp
  unfold tasK at hp
  split at hp
  case h_4 =>
    rw [List.mem_singleton.mp hp]
    intro res
    dsimp only [mkTA]
    split <;> rfl
  case h_8 => cases hp
  all_goals
    rw [List.mem_singleton.mp hp]
    try (first | rfl | (intro res; rfl))
theorem itemOf_mod (s : S) (n : Int) : itemOf s n = itemOf s ((n % 9).toNat : Nat) := by
  have h : (((n % 9).toNat : Nat) : Int) = n % 9 := Int.toNat_of_nonneg (Int.emod_nonneg n (by decide))
  rw [h]
  unfold itemOf
  simp only [Int.emod_emod]
noncomputable def tasL (c : Nat) (ns : List Int) : List (At × Option PE) := ns.flatMap fun n => tasK c (n % 9).toNat
structure TasL (c : Nat) (ns : List Int) : Prop where
  txt : ((itemsL [c] ns).map (·.txt)).flatten = ((tasL c ns).map (·.1)).flatMap atTxt
  ok : ((tasL c ns).map (·.1)).all atOk = true
  pat : patOf (itemsL [c] ns) = ((tasL c ns).map (·.2)).map (Option.map (·.2))
  len : (tasL c ns).length ≤ ns.length
  tlen : (((tasL c ns).map (·.1)).flatMap atTxt).length ≤ 10 * ns.length
  part : ∀ a, some a ∈ (tasL c ns).map (·.2) → okP a = true
  add : ∀ p ∈ tasL c ns, match p.2 with | none => p.1 = .star | some a => ∀ res, addPart res p.1 = res ++ [some a.1]
theorem tasL_all {c : Nat} (hc : c ∈ signsL) : ∀ ns : List Int, TasL c ns
  | [] => ⟨rfl, rfl, rfl, Nat.le_refl _, by simp [tasL], fun a h => by simp [tasL] at h, fun p h => by simp [tasL] at h⟩
  | n :: r => by
    have ih := tasL_all hc r
    have hk : (n % 9).toNat < 9 := by have := Int.emod_lt_of_pos n (show (0 : Int) < 9 by decide); have := Int.emod_nonneg n (show (9 : Int) ≠ 0 by decide); omega
    have h := tas_ok c hc _ hk
    have hadd := tasK_addPart c (n % 9).toNat
    unfold tasOk at h
    simp only [Bool.and_eq_true, decide_eq_true_eq] at h
    obtain ⟨⟨⟨⟨⟨h1, h2⟩, h3⟩, h4⟩, h5⟩, h6⟩ := h
    have e1 : itemsL [c] (n :: r) = itemOf [c] ((n % 9).toNat : Nat) ++ itemsL [c] r := by rw [← itemOf_mod]; rfl
    have e2 : tasL c (n :: r) = tasK c (n % 9).toNat ++ tasL c r := rfl
    have e3 : ∀ l : List (At × Option PE), (l.map (·.1)).flatMap atTxt = l.flatMap fun p => atTxt p.1 := fun l => by rw [List.flatMap_map]
    refine ⟨?_, ?_, ?_, ?_, ?_, ?_, ?_⟩
    · rw [e1, e2, List.map_append, List.flatten_append, h1, ih.txt, List.map_append, List.flatMap_append, e3, e3]
    · rw [e2, List.map_append, List.all_append, ih.ok, Bool.and_true, List.all_map]; exact h2
    · rw [e1, e2]
      unfold patOf at h3 ⊢
      have := ih.pat
      unfold patOf at this
      rw [List.map_append, h3, this]
      simp
    · rw [e2, List.length_append, List.length_cons]; have := ih.len; omega
    · rw [e2, List.map_append, List.flatMap_append, List.length_append, e3 (tasK _ _), List.length_cons]; have := ih.tlen; omega
    · intro a ha
      rw [e2, List.map_append] at ha
      rcases List.mem_append.mp ha with q | q
      · obtain ⟨p, hp, hpa⟩ := List.mem_map.mp q
        have := List.all_eq_true.mp h6 p hp
        rw [hpa] at this
        exact this
      · exact ih.part a q
    · intro p hp
      rw [e2] at hp
      rcases List.mem_append.mp hp with q | q
      · exact hadd p q
      · exact ih.add p q
theorem texts_ok : ∀ c ∈ signsL, treeOk (textsL [c]) = true ∧ (textsL [c])[0]? = some [] := by decide +kernel
theorem mids_map : ∀ (R : List (List PE)), (∀ f ∈ R.dropLast, f ≠ []) → midsOk (R.map fun f => f.map (·.1))
  | [], _ => trivial
  | [_], _ => trivial
  | f :: g :: r, h => ⟨by have := h f (by simp); simpa using this, mids_map (g :: r) (fun x hx => h x (by simp only [List.dropLast_cons_cons]; exact .tail _ hx))⟩
theorem turn_ok (c : Nat) (hc : c ∈ signsL) (ns : List Int) (hn : ns.length ≤ 6) : TurnOk (itemsL [c] ns) (textsL [c]) ((textsL [c]).map walk257) := by
  have T := tasL_all hc ns
  obtain ⟨ht, h0⟩ := texts_ok c hc
  have hps := parts_segs (fun pe : PE => pe.1) (tasL c ns) ([], []) (fun p hp => by have := T.add p hp; revert this; cases p.2 <;> exact id)
  have hgs := fun s => glob_segs (patOf (itemsL [c] ns)) ([], []) s
  have hall := seg_all (P := fun a => okP a = true) ((tasL c ns).map (·.2)) ([], []) T.part (fun f hf a ha => by simp at hf; rw [hf] at ha; cases ha) (fun f hf => by simp at hf)
  have hmap := seg_map (fun pe : PE => pe.2) ((tasL c ns).map (·.2)) ([], [])
  rw [← T.pat] at hmap
  have hmap : (patOf (itemsL [c] ns)).foldl segStep ([], []) = _ := hmap
  rw [hmap] at hgs
  generalize ((tasL c ns).map (·.2)).foldl segStep ([], []) = g at hps hgs hall
  have hlen : (joinSeg (g.1 ++ [g.2])).length ≤ 6 := by
    have := foldl_len ((tasL c ns).map (·.1)) []
    have hl := T.len
    have e := congrArg List.length hps
    rw [List.length_map] at e
    have e0 : (joinSeg (([] : List (List PE)) ++ [[]])).map (fun o => o.map fun pe : PE => pe.1) = [] := rfl
    rw [e0] at e
    rw [List.length_map, List.length_nil] at this
    omega
  obtain ⟨F, R, hFR, hmid⟩ : ∃ F R, g.1 ++ [g.2] = F :: R ∧ ∀ f ∈ R.dropLast, f ≠ [] := by
    obtain ⟨d, cc⟩ := g
    cases d with
    | nil => exact ⟨cc, [], rfl, fun f hf => by simp at hf⟩
    | cons a b => exact ⟨a, b ++ [cc], rfl, fun f hf => hall.2 f (by simpa using hf)⟩
  have hgs' : ∀ s, glob ((F.map (·.2)).map some ++ starSegs (R.map fun f => f.map (·.2))) s = glob (patOf (itemsL [c] ns)) s := by
    intro s
    have := hgs s
    have e : (g.1.map (List.map fun pe : PE => pe.2) ++ [g.2.map fun pe : PE => pe.2]) = (g.1 ++ [g.2]).map (List.map fun pe : PE => pe.2) := by simp
    dsimp only at this
    rw [e, hFR] at this
    exact this
  rw [hFR] at hps hall hlen
  have hps : ((tasL c ns).map (·.1)).foldl addPart [] = (F.map (·.1)).map some ++ restP (R.map fun f => f.map (·.1)) := by
    rw [restP_flat, List.flatMap_map]
    have hps : ((tasL c ns).map (·.1)).foldl addPart [] = (joinSeg (F :: R)).map fun o => o.map fun pe : PE => pe.1 := hps
    rw [hps]
    simp only [joinSeg, List.map_append, List.map_map, List.map_flatMap, List.map_cons]
    rfl
  have hF := hall.1 F (.head _)
  have hR := fun f hf => hall.1 f (.tail F hf)
  have hw : (F.map (·.1) ++ joinL (R.map fun f => f.map (·.1))).flatten = txtOf F ++ grpT R := by rw [List.flatten_append, grpT_join]; rfl
  have b1 := txt_bound F hF
  have b2 := grp_bound R hR
  have hbl : (txtOf F ++ grpT R).length ≤ 60 := by
    simp only [joinSeg, List.length_append, List.length_map] at hlen
    rw [List.length_append]; omega
  have hbc : ∀ x ∈ txtOf F ++ grpT R, x < 128 := fun x hx => by
    rcases List.mem_append.mp hx with q | q
    · exact b1.2 x q
    · exact b2.2 x q
  have okp : ∀ a, okP a = true → partOk a = true := fun a h => by
    unfold okP at h
    rw [Bool.and_eq_true, Bool.and_eq_true] at h
    exact h.1.1
  have st1 := seg_steps F (grpT R) ⟨0, [], [], false, false, false⟩ (inside := txtOf F ++ grpT R) (List.all_eq_true.mpr fun a ha => okp a (hF a ha)) rfl (grpT_head R) rfl
  obtain ⟨q', st2, t2, t3, t4, t5, t6⟩ := grp_steps (inside := txtOf F ++ grpT R) R ⟨0 + (txtOf F).length, [], [] ++ F.map (·.2), false, false, false⟩ (List.all_eq_true.mpr fun f hf => List.all_eq_true.mpr fun a ha => okp a (hR f hf a ha)) hmid (by dsimp only; rw [Nat.zero_add, List.drop_left' rfl]) (Eq.refl false) (Eq.refl false) (fun _ => rfl)
  have st := st1.trans st2
  dsimp only at t2 t5 t6
  have hpos : q'.pos = (txtOf F ++ grpT R).length := by rw [t2, List.length_append]; omega
  have hrun := st.run (by omega) ((txtOf F ++ grpT R).length + 1) (by dsimp only; omega)
  refine ⟨(tasL c ns).map (·.1), F.map (·.1), R.map (fun f => f.map (·.1)), q', F.map (·.2), (match (R.map fun f => f.map (·.2)).getLast? with | none => none | some last => some ((R.map fun f => f.map (·.2)).dropLast, last)), T.txt, T.ok, ?_, ?_, hps, mids_map R hmid, ?_, ?_, ?_, t3, ?_, ?_, ?_, ?_⟩
  · rw [List.length_map]; have := T.len; omega
  · have := T.tlen; omega
  · rw [hw]; omega
  · rw [hw]; exact hbc
  · rw [hw]; exact hrun
  · by_cases hr : R = []
    · rw [t5 hr]
    · exact t4 hr
  · intro hp
    rcases nil_or_snoc R with hr | ⟨r', l, hr⟩
    · rw [t5 hr, hr]; exact ⟨by simp, rfl⟩
    · have := (t6 l (by rw [hr]; simp)).1
      rw [hp] at this
      simp at this
  · intro p0 mid hp
    rcases nil_or_snoc R with hr | ⟨r', l, hr⟩
    · rw [t5 hr] at hp; cases hp
    · obtain ⟨u1, u2⟩ := t6 l (by rw [hr]; simp)
      rw [u1] at hp
      simp only [List.nil_append, List.cons.injEq] at hp
      obtain ⟨rfl, rfl⟩ := hp
      rw [u2, hr]
      refine ⟨rfl, ?_⟩
      simp
  · rw [told_glob _ ht h0, List.map_map]
    refine List.map_congr_left fun t _ => ?_
    refine (takes_glob _ (R.map fun f => f.map (·.2)) _ _ ?_).trans (hgs' _)
    cases (R.map fun f => f.map (·.2)).getLast? <;> rfl
end
end Mine

namespace Mine
section
theorem S_irrefl (a : S) : ¬ a < a := List.lt_irrefl a
theorem S_trans {a b c : S} (h : a < b) (k : b < c) : a < c := List.lt_trans h k
theorem S_eq {a b : S} (h : ¬ a < b) (k : ¬ b < a) : a = b := List.le_antisymm (List.not_lt.mp k) (List.not_lt.mp h)
theorem S_lt_of {a b c : S} (h : a < b) (k : ¬ c < b) : a < c := by
  by_cases q : a < c
  · exact q
  · by_cases e : c < a
    · exact absurd (S_trans e h) k
    · rw [S_eq e q] at k; exact absurd h k
theorem alone_skip {others m : List S} {x : S} (hx : x ∈ others ∨ (x ∈ m ∧ ∃ y ∈ others, ¬ y < x)) : ∀ xs : List S, aloneL others xs m = aloneL others (xs.dropWhile fun z => decide (z = x)) m
  | [] => rfl
  | z :: r => by
    rw [List.dropWhile_cons]
    by_cases hz : z = x
    · subst hz
      rw [if_pos (by simp), ← alone_skip hx r]
      have : aloneIf others m z = false := by
        unfold aloneIf
        rcases hx with h | ⟨h, y, hy, hn⟩
        · simp [h]
        · have h1 : others ≠ [] := fun e => by rw [e] at hy; cases hy
          have h2 : (others.all fun x => decide (x < z)) = false := by
            rw [Bool.eq_false_iff]
            intro q
            exact hn (of_decide_eq_true (List.all_eq_true.mp q y hy))
          simp [h, h1, h2]
      rw [aloneL, this]; rfl
    · rw [if_neg (by simp [hz])]
theorem alone_end {others : List S} : ∀ (xs m : List S), (∀ x ∈ xs, ∀ y ∈ others, y < x) → aloneL others xs m = m ++ xs
  | [], m, h => by simp [aloneL]
  | x :: r, m, h => by
    have h1 : x ∉ others := fun q => S_irrefl x (h x (.head _) x q)
    have h2 : (others.all fun y => decide (y < x)) = true := List.all_eq_true.mpr fun y hy => decide_eq_true (h x (.head _) y hy)
    have : aloneIf others m x = true := by unfold aloneIf; simp [h1, h2]
    rw [aloneL, this, if_pos rfl, alone_end r _ (fun z hz => h z (.tail _ hz))]
    simp
noncomputable def Srt (xs : List S) : Prop := xs.Pairwise fun a b => ¬ b < a
theorem tw_mem {p : S → Bool} {z : S} : ∀ {xs : List S}, z ∈ xs.takeWhile p → p z = true
  | [], h => by cases h
  | a :: r, h => by
    rw [List.takeWhile_cons] at h
    by_cases q : p a = true
    · rw [if_pos q] at h
      rcases List.mem_cons.mp h with e | e
      · rw [e]; exact q
      · exact tw_mem e
    · rw [if_neg q] at h; cases h
theorem dw_len {xs : List S} {p : S → Bool} : (xs.dropWhile p).length ≤ xs.length := (List.dropWhile_sublist p).length_le
theorem dw_srt {xs : List S} {p : S → Bool} (h : Srt xs) : Srt (xs.dropWhile p) := h.sublist (List.dropWhile_sublist p)
theorem dw_mem {xs : List S} {p : S → Bool} {z : S} (h : z ∈ xs.dropWhile p) : z ∈ xs := (List.dropWhile_sublist p).subset h
theorem dw_gt {x : S} : ∀ {xs : List S}, Srt (x :: xs) → ∀ z ∈ xs.dropWhile (fun z => decide (z = x)), x < z
  | [], _, z, hz => by cases hz
  | y :: r, h, z, hz => by
    rw [List.dropWhile_cons] at hz
    have hc := List.pairwise_cons.mp h
    by_cases hy : y = x
    · rw [if_pos (by simp [hy])] at hz
      subst hy
      exact dw_gt hc.2 z hz
    · rw [if_neg (by simp [hy])] at hz
      have hxy : x < y := by
        by_cases q : x < y
        · exact q
        · exact absurd (S_eq (hc.1 y (.head _)) q) hy
      rcases List.mem_cons.mp hz with e | e
      · rw [e]; exact hxy
      · exact S_lt_of hxy ((List.pairwise_cons.mp hc.2).1 z e)
theorem srt_lt {x y : S} {ys : List S} (h : x < y) (hs : Srt (y :: ys)) : ∀ z ∈ y :: ys, x < z := fun z hz => by
  rcases List.mem_cons.mp hz with e | e
  · rw [e]; exact h
  · exact S_lt_of h ((List.pairwise_cons.mp hs).1 z e)
theorem sld_spec {had has : List S} : ∀ (n : Nat) (xs ys m u px py : List S), xs.length + ys.length ≤ n → had = px ++ xs → has = py ++ ys → Srt xs → Srt ys →
    (∀ p ∈ px ++ py ++ (m ++ u), ∀ z ∈ xs ++ ys, p < z) → sldL n xs ys m u = (aloneL has xs m, aloneL had ys u)
  | 0, xs, ys, m, u, px, py, hn, hx, hy, sx, sy, hp => by
    have h1 : xs = [] := List.length_eq_zero_iff.mp (by omega)
    have h2 : ys = [] := List.length_eq_zero_iff.mp (by omega)
    subst h1; subst h2
    simp [sldL, aloneL]
  | n + 1, [], ys, m, u, px, py, hn, hx, hy, sx, sy, hp => by
    rw [sldL_nil]
    have : aloneL had ys u = u ++ ys := alone_end ys u (fun z hz p hq => hp p (by rw [hx] at hq; simp at hq; simp [hq]) z (by simpa using hz))
    rw [this]; rfl
  | n + 1, x :: xs, [], m, u, px, py, hn, hx, hy, sx, sy, hp => by
    rw [sldL_nil2]
    have : aloneL has (x :: xs) m = m ++ (x :: xs) := alone_end _ m (fun z hz p hq => hp p (by rw [hy] at hq; simp at hq; simp [hq]) z (by simpa using hz))
    rw [this]; rfl
  | n + 1, x :: xs, y :: ys, m, u, px, py, hn, hx, hy, sx, sy, hp => by
    unfold sldL
    simp only [List.length_cons] at hn
    have lx : (xs.dropWhile fun z => decide (z = x)).length ≤ xs.length := dw_len
    have ly : (ys.dropWhile fun z => decide (z = y)).length ≤ ys.length := dw_len
    have ex : xs = (xs.takeWhile fun z => decide (z = x)) ++ xs.dropWhile fun z => decide (z = x) := List.takeWhile_append_dropWhile.symm
    have ey : ys = (ys.takeWhile fun z => decide (z = y)) ++ ys.dropWhile fun z => decide (z = y) := List.takeWhile_append_dropWhile.symm
    have tx : ∀ z ∈ xs.takeWhile (fun z => decide (z = x)), z = x := fun z hz => of_decide_eq_true (tw_mem hz)
    have ty : ∀ z ∈ ys.takeWhile (fun z => decide (z = y)), z = y := fun z hz => of_decide_eq_true (tw_mem hz)
    have ssx : Srt xs := (List.pairwise_cons.mp sx).2
    have ssy : Srt ys := (List.pairwise_cons.mp sy).2
    have gx := dw_gt sx
    have gy := dw_gt sy
    by_cases h1 : x < y
    · rw [if_pos h1]
      have ax := srt_lt h1 sy
      rw [sld_spec (had := had) (has := has) n _ _ _ _ (px ++ x :: xs.takeWhile fun z => decide (z = x)) py (by simp only [List.length_cons]; omega) (by rw [hx, List.append_assoc, List.cons_append, ← ex]) hy (dw_srt ssx) sy ?_]
      · have c1 : x ∉ has := fun q => by
          rw [hy] at q
          rcases List.mem_append.mp q with e | e
          · exact S_irrefl x (hp x (by simp [e]) x (by simp))
          · exact S_irrefl x (ax x e)
        have c2 : x ∉ m := fun q => S_irrefl x (hp x (by simp [q]) x (by simp))
        have : aloneIf has m x = true := by unfold aloneIf; simp [c1, c2]
        rw [show aloneL has (x :: xs) m = aloneL has xs (m ++ [x]) by rw [aloneL, this]; rfl]
        rw [alone_skip (x := x) (.inr ⟨by simp, y, by rw [hy]; simp, fun q => S_irrefl x (S_trans h1 q)⟩) xs]
      · intro p hq z hz
        have hz' : x < z := by
          rcases List.mem_append.mp hz with e | e
          · exact gx z e
          · exact ax z e
        have hz2 : z ∈ x :: xs ++ y :: ys := by
          rcases List.mem_append.mp hz with e | e
          · exact List.mem_append_left _ (.tail _ (dw_mem e))
          · exact List.mem_append_right _ e
        have : p = x ∨ p ∈ px ++ py ++ (m ++ u) := by
          simp only [List.mem_append, List.mem_cons, List.not_mem_nil, or_false] at hq ⊢
          rcases hq with ((a | b | c) | d) | ((e | f) | g)
          · simp [a]
          · exact .inl b
          · exact .inl (tx p c)
          · simp [d]
          · simp [e]
          · exact .inl f
          · simp [g]
        rcases this with e | e
        · rw [e]; exact hz'
        · exact hp p e z hz2
    · rw [if_neg h1]
      by_cases h2 : y < x
      · rw [if_pos h2]
        have ay := srt_lt h2 sx
        rw [sld_spec (had := had) (has := has) n _ _ _ _ px (py ++ y :: ys.takeWhile fun z => decide (z = y)) (by simp only [List.length_cons]; omega) hx (by rw [hy, List.append_assoc, List.cons_append, ← ey]) sx (dw_srt ssy) ?_]
        · have c1 : y ∉ had := fun q => by
            rw [hx] at q
            rcases List.mem_append.mp q with e | e
            · exact S_irrefl y (hp y (by simp [e]) y (by simp))
            · exact S_irrefl y (ay y e)
          have c2 : y ∉ u := fun q => S_irrefl y (hp y (by simp [q]) y (by simp))
          have : aloneIf had u y = true := by unfold aloneIf; simp [c1, c2]
          rw [show aloneL had (y :: ys) u = aloneL had ys (u ++ [y]) by rw [aloneL, this]; rfl]
          rw [alone_skip (x := y) (.inr ⟨by simp, x, by rw [hx]; simp, fun q => S_irrefl y (S_trans h2 q)⟩) ys]
        · intro p hq z hz
          have hz' : y < z := by
            rcases List.mem_append.mp hz with e | e
            · exact ay z e
            · exact gy z e
          have hz2 : z ∈ x :: xs ++ y :: ys := by
            rcases List.mem_append.mp hz with e | e
            · exact List.mem_append_left _ e
            · exact List.mem_append_right _ (.tail _ (dw_mem e))
          have : p = y ∨ p ∈ px ++ py ++ (m ++ u) := by
            simp only [List.mem_append, List.mem_cons, List.not_mem_nil, or_false] at hq ⊢
            rcases hq with (a | d | b | c) | (e | g | f)
            · simp [a]
            · simp [d]
            · exact .inl b
            · exact .inl (ty p c)
            · simp [e]
            · simp [g]
            · exact .inl f
          rcases this with e | e
          · rw [e]; exact hz'
          · exact hp p e z hz2
      · rw [if_neg h2]
        have hxy := S_eq h1 h2
        subst hxy
        have mh : x ∈ has := by rw [hy]; simp
        have md : x ∈ had := by rw [hx]; simp
        rw [sld_spec (had := had) (has := has) n _ _ _ _ (px ++ x :: xs.takeWhile fun z => decide (z = x)) (py ++ x :: ys.takeWhile fun z => decide (z = x)) (by omega) (by rw [hx, List.append_assoc, List.cons_append, ← ex]) (by rw [hy, List.append_assoc, List.cons_append, ← ey]) (dw_srt ssx) (dw_srt ssy) ?_]
        · rw [alone_skip (x := x) (.inl mh) (x :: xs), alone_skip (x := x) (.inl md) (x :: ys)]
          rw [List.dropWhile_cons, List.dropWhile_cons, if_pos (by simp)]
          rw [if_pos (by simp)]
        · intro p hq z hz
          have hz' : x < z := by
            rcases List.mem_append.mp hz with e | e
            · exact gx z e
            · exact gy z e
          have hz2 : z ∈ x :: xs ++ x :: ys := by
            rcases List.mem_append.mp hz with e | e
            · exact List.mem_append_left _ (.tail _ (dw_mem e))
            · exact List.mem_append_right _ (.tail _ (dw_mem e))
          have : p = x ∨ p ∈ px ++ py ++ (m ++ u) := by
            simp only [List.mem_append, List.mem_cons, List.not_mem_nil, or_false] at hq ⊢
            rcases hq with ((a | b | c) | d | b | c) | (e | g)
            · simp [a]
            · exact .inl b
            · exact .inl (tx p c)
            · simp [d]
            · exact .inl b
            · exact .inl (ty p c)
            · simp [e]
            · simp [g]
          rcases this with e | e
          · rw [e]; exact hz'
          · exact hp p e z hz2
theorem plain_diff (had has : List S) (h1 : Srt had) (h2 : Srt has) : sld had has = (aloneL has had [], aloneL had has []) :=
  sld_spec (had.length + has.length) had has [] [] [] [] (Nat.le_refl _) rfl rfl h1 h2 (by intro p hp; simp at hp)
theorem more_sub (ones others : List S) : ∀ (rest more : List S), ∃ t, moreL ones others rest more = more ++ t ∧ List.Sublist t rest
  | [], more => ⟨[], by simp [moreL], .slnil⟩
  | n :: r, more => by
    unfold moreL
    split
    · obtain ⟨t, h1, h2⟩ := more_sub ones others r (more ++ [n])
      exact ⟨n :: t, by rw [h1]; simp, h2.cons_cons n⟩
    · obtain ⟨t, h1, h2⟩ := more_sub ones others r more
      exact ⟨t, h1, h2.cons n⟩
theorem more_count (ones others : List S) (a : S) : ∀ (rest more : List S), more.count a ≤ ones.count a - others.count a → (moreL ones others rest more).count a = min (more.count a + rest.count a) (ones.count a - others.count a)
  | [], more, h => by simp only [moreL, List.count_nil]; omega
  | n :: r, more, h => by
    unfold moreL
    split
    · rename_i hc
      by_cases e : n = a
      · subst e
        have e1 : (more ++ [n]).count n = more.count n + 1 := by simp
        rw [more_count ones others n r (more ++ [n]) (by rw [e1]; omega), e1, List.count_cons_self]
        omega
      · have e1 : (more ++ [n]).count a = more.count a := by simp [List.count_append, List.count_cons, e]
        rw [more_count ones others a r (more ++ [n]) (by rw [e1]; omega), e1, List.count_cons_of_ne e]
    · rename_i hc
      rw [more_count ones others a r more h]
      by_cases e : n = a
      · subst e
        rw [List.count_cons_self]; omega
      · rw [List.count_cons_of_ne e]
theorem uld_sub : ∀ (rs ys m : List S), (∃ t, (uldL rs ys m).1 = m ++ t ∧ List.Sublist t rs) ∧ List.Sublist (uldL rs ys m).2 ys
  | [], ys, m => ⟨⟨[], by simp [uldL], .slnil⟩, .refl _⟩
  | x :: r, ys, m => by
    unfold uldL
    split
    · obtain ⟨⟨t, h1, h2⟩, h3⟩ := uld_sub r (ys.erase x) m
      exact ⟨⟨t, h1, h2.cons x⟩, h3.trans List.erase_sublist⟩
    · obtain ⟨⟨t, h1, h2⟩, h3⟩ := uld_sub r ys (m ++ [x])
      exact ⟨⟨x :: t, by rw [h1]; simp, h2.cons_cons x⟩, h3⟩
theorem uld_count (a : S) (rs : List S) : ∀ (ys m : List S), (uldL rs ys m).1.count a = m.count a + (rs.count a - ys.count a) ∧ (uldL rs ys m).2.count a = ys.count a - rs.count a := by
  induction rs with
  | nil => exact fun ys m => ⟨by rw [List.count_nil, Nat.zero_sub]; rfl, rfl⟩
  | cons x r ih =>
    intro ys m
    unfold uldL
    by_cases hx : x ∈ ys
    · rw [if_pos hx, (ih (ys.erase x) m).1, (ih (ys.erase x) m).2]
      by_cases e : x = a
      · rw [e] at hx ⊢
        obtain ⟨c, hc⟩ := Nat.exists_eq_succ_of_ne_zero (Nat.ne_of_gt (List.count_pos_iff.mpr hx))
        rw [List.count_erase_self, List.count_cons_self, hc, Nat.succ_sub_one, Nat.succ_sub_succ, Nat.succ_sub_succ]
        exact ⟨rfl, rfl⟩
      · rw [List.count_erase_of_ne (fun q => e q.symm), List.count_cons_of_ne e]; exact ⟨rfl, rfl⟩
    · rw [if_neg hx, (ih ys (m ++ [x])).1, (ih ys (m ++ [x])).2, List.count_append, List.count_singleton]
      by_cases e : x = a
      · have hp : ys.count a = 0 := List.count_eq_zero.mpr (e ▸ hx)
        rw [hp, e, List.count_cons_self, beq_self_eq_true, if_pos rfl, Nat.sub_zero, Nat.sub_zero, Nat.zero_sub, Nat.zero_sub, Nat.add_assoc, Nat.add_comm 1]
        exact ⟨rfl, rfl⟩
      · rw [List.count_cons_of_ne e, if_neg (by simpa using e)]; exact ⟨rfl, rfl⟩
theorem srt_eq {a b : List S} (h1 : Srt a) (h2 : Srt b) (hc : ∀ x, a.count x = b.count x) : a = b :=
  List.Perm.eq_of_pairwise (le := fun a b => ¬ b < a) (fun a b _ _ p q => S_eq q p) h1 h2 (List.perm_iff_count.mpr hc)
theorem more_srt {ones others : List S} (h : Srt ones) : Srt (moreL ones others ones []) := by
  obtain ⟨t, h1, h2⟩ := more_sub ones others ones []
  rw [h1]; exact h.sublist h2
theorem more_cnt (ones others : List S) (a : S) : (moreL ones others ones []).count a = ones.count a - others.count a := by
  rw [more_count ones others a ones [] (by simp)]
  simp only [List.count_nil]; omega
theorem plain_left (had has : List S) (h1 : Srt had) (h2 : Srt has) : uldL had.reverse has [] = ((moreL had has had []).reverse, moreL has had has []) := by
  obtain ⟨⟨t, u1, u2⟩, u3⟩ := uld_sub had.reverse has []
  refine Prod.ext ?_ ?_
  · show (uldL had.reverse has []).1 = _
    rw [← List.reverse_inj, List.reverse_reverse]
    refine srt_eq ?_ (more_srt h1) (fun x => ?_)
    · have : List.Sublist (uldL had.reverse has []).1.reverse had := by
        rw [u1, List.nil_append]
        have := u2.reverse
        rwa [List.reverse_reverse] at this
      exact h1.sublist this
    · rw [List.count_reverse, (uld_count x _ _ _).1, more_cnt, List.count_reverse, List.count_nil]; omega
  · exact srt_eq (h2.sublist u3) (more_srt h2) (fun x => by rw [(uld_count x _ _ _).2, more_cnt, List.count_reverse])
theorem plain_named : ∀ c ∈ signsL, (textsL [c]).map named = (textsL [c]).map walk257 := by decide +kernel
theorem plainLaw : PlainLaw := ⟨plain_named, fun c hc ns hn => turn_ok c hc ns hn, plain_diff, plain_left⟩
end
end Mine

namespace Mine
section
set_option tactic.hygienic true
noncomputable abbrev reCodeH : List Nat := [14, 14, 4, 1, 1, 9, 0, 64, 0, 1342177280, 0, 0, 0, 0, 0, 17, 0, 13, 11, 9, 0, 64, 0, 1342177280, 0, 0, 0, 0, 0, 17, 1, 1]
noncomputable abbrev spec24H : List Nat := [40, 41, 91, 93, 123, 125, 63, 42, 43, 45, 124, 94, 36, 92, 46, 38, 126, 35, 32, 9, 10, 13, 11, 12]
noncomputable def mapL : List Nat → Nat → List DictEntry
  | [], _ => []
  | c :: r, t => ⟨hashInt c, .int c t, .str ⟨#[92, c]⟩ (t + 4)⟩ :: mapL r (t + 6)
noncomputable abbrev sV (x : String) (t : Nat) : Value := .str (Str.ofString x) t
noncomputable def patO : Obj := { cls := .type "re.Pattern", data := .fields #[sV "([&~|])" 334, .int 32 369, .int 1 0, .none, .none, .ref 67, .int 0 0] }
noncomputable def codesO : Obj := { cls := .type "tuple", data := .seq (reCodeH.map fun n : Nat => Value.int n 0).toArray }
noncomputable def mapO : Obj := { cls := .type "dict", data := .dict (mapL spec24H 383).toArray 24 }
noncomputable def codeO : Obj := { cls := .type "code", data := .fields #[sV "_translate" 537, sV "_translate" 538, sV "/claim/cut.py" 539, .int 39 0, .int 3 0, .int 0 0, .int 0 0, .int 3 0, .ref 88, .bool true, .int 276 0, .ref 89, .none, .ref 90, .ref 91, .ref 92, .int 553 0, .int 39 0, sV "/claim/cut.py" 554] }
noncomputable def codeOf : Data → Value
  | .func fd => fd.code
  | _ => .none
structure HeadOk (h : Heap) : Prop where
  has : ∃ o, h.get? mainGlobals = some o
  g : ∀ mg, h.Ns mainGlobals mg → mg (Str.ofString "_twin_re_1") = some (.ref 68) ∧ mg (Str.ofString "_special_chars_map") = some (.ref 77) ∧ mg (Str.ofString "_translate") = some (.ref 94)
  pat : h.get? 68 = some patO
  codes : h.get? 67 = some codesO
  map : h.get? 77 = some mapO
  code : h.get? 93 = some codeO
  tab : h.get? 89 = some { cls := .none, data := .fields #[] }
  fn : ∃ o, h.get? 94 = some o ∧ codeOf o.data = .ref 93
theorem mapL_keys (cs : List Nat) : ∀ t, ∀ e ∈ mapL cs t, ∃ k t, e.key = .int k t ∧ e.hash = hashInt k := by
  induction cs with
  | nil => exact fun t e h => nomatch h
  | cons c r ih => exact fun t e h => (List.mem_cons.mp h).elim (fun q => ⟨c, t, q ▸ rfl, q ▸ rfl⟩) (ih _ e)
theorem mapL_find (c : Nat) (cs : List Nat) : ∀ t, if c ∈ cs then ∃ t', ((mapL cs t).find? fun e => Value.isInt (c : Int) e.key).map (·.val) = some (.str ⟨#[92, c]⟩ t') else ((mapL cs t).find? fun e => Value.isInt (c : Int) e.key).map (·.val) = none := by
  induction cs with
  | nil => exact fun t => rfl
  | cons a r ih =>
    intro t
    unfold mapL
    by_cases h : a = c
    · subst h
      rw [if_pos (.head _), List.find?_cons_of_pos (by simp [Value.isInt])]
      exact ⟨_, rfl⟩
    · rw [List.find?_cons_of_neg (by simp [Value.isInt]; omega)]
      have := ih (t + 6)
      simp only [List.mem_cons, Ne.symm h, false_or]
      exact this
theorem HeadOk.keeps {h h' : Heap} (x : HeadOk h) (k : ∀ b o, h.get? b = some o → h'.get? b = some o) : HeadOk h' := by
  obtain ⟨o, ho⟩ := x.has
  refine ⟨⟨o, k _ _ ho⟩, fun mg n => x.g mg ?_, k _ _ x.pat, k _ _ x.codes, k _ _ x.map, k _ _ x.code, k _ _ x.tab, x.fn.imp fun o e => ⟨k _ _ e.1, e.2⟩⟩
  obtain ⟨o', es, ep, e1, r⟩ := n
  exact ⟨o, es, ep, ho, (Option.some.inj ((k _ _ ho).symm.trans e1)) ▸ r⟩
noncomputable abbrev HA : Type := Option Value × Option Value × Option Value × Bool × Option Obj × Option Obj × Option Obj × Option Obj × Option Obj × Option Value
noncomputable def hookH : Hook := ⟨HA, fun s => (s.heap.nsMap mainGlobals (Str.ofString "_twin_re_1"), s.heap.nsMap mainGlobals (Str.ofString "_special_chars_map"), s.heap.nsMap mainGlobals (Str.ofString "_translate"), (s.heap.get? mainGlobals).isSome,
    s.heap.get? 68, s.heap.get? 67, s.heap.get? 77, s.heap.get? 93, s.heap.get? 89, (s.heap.get? 94).map fun o => codeOf o.data),
  fun _ => (some (.ref 68), some (.ref 77), some (.ref 94), true, some patO, some codesO, some mapO, some codeO, some { cls := .none, data := .fields #[] }, some (.ref 93)), fun _ h => HeadOk h,
  fun _ s e => ⟨Option.isSome_iff_exists.mp (congrArg (·.2.2.2.1) e), fun mg n => by rw [n.eq_nsMap]; exact ⟨congrArg (·.1) e, congrArg (·.2.1) e, congrArg (·.2.2.1) e⟩,
    congrArg (·.2.2.2.2.1) e, congrArg (·.2.2.2.2.2.1) e, congrArg (·.2.2.2.2.2.2.1) e, congrArg (·.2.2.2.2.2.2.2.1) e, congrArg (·.2.2.2.2.2.2.2.2.1) e, Option.map_eq_some_iff.mp (congrArg (·.2.2.2.2.2.2.2.2.2) e)⟩, fun _ _ _ x k => x.keeps k⟩
end
end Mine

namespace Mine
section
set_option tactic.hygienic true
noncomputable def hidden (h : Heap) : Heap := hideAll h [tabA]
theorem hid {h : Heap} (ht : h.get? tabA = some (tabO #[])) {a : Addr} {o : Obj} (e : h.get? a = some o) (ho : o ≠ tabO #[]) : (hidden h).get? a = some o :=
  hideAll_get _ e (by rw [List.mem_singleton]; rintro rfl; rw [ht] at e; cases e; exact ho rfl)
theorem unhid {h : Heap} {a : Addr} {o : Obj} (e : (hidden h).get? a = some o) : h.get? a = some o := of_hideAll _ e
theorem ne_dict {o : Obj} {es n} (h : o.data = .dict es n) : o ≠ tabO #[] := fun q => by rw [q] at h; cases h
theorem ne_func {o : Obj} {fd} (h : o.data = .func fd) : o ≠ tabO #[] := fun q => by rw [q] at h; cases h
theorem ne_cls {o : Obj} (h : o.cls ≠ .none) : o ≠ tabO #[] := fun q => by rw [q] at h; exact h rfl
theorem ne_fields {o : Obj} {vs : Array Value} {i : Nat} {v : Value} (h : o.data = .fields vs) (e : vs[i]? = some v) : o ≠ tabO #[] := fun q => by rw [q] at h; cases h; simp at e
theorem Ns_hid {h : Heap} (ht : h.get? tabA = some (tabO #[])) {a : Addr} {m} (n : h.Ns a m) : (hidden h).Ns a m := by
  obtain ⟨o, es, ep, e1, e2, r⟩ := n
  exact ⟨o, es, ep, hid ht e1 (ne_dict e2), e2, r⟩
theorem CodeRec_hid {h : Heap} (ht : h.get? tabA = some (tabO #[])) {cd q} (n : h.CodeRec cd q) : (hidden h).CodeRec cd q := by
  obtain ⟨c, o, vs, t, e0, e1, e2, e3⟩ := n
  exact ⟨c, o, vs, t, e0, hid ht e1 (ne_fields e2 e3), e2, e3⟩
theorem tail_hid {h : Heap} (ht : h.get? tabA = some (tabO #[])) {b l} (T : OwnTailQ h b l) : OwnTailQ (hidden h) b l := by
  induction T with
  | base => exact .base
  | own h1 h2 h3 T ih => exact .own (hid ht h1 (fun q => by cases q)) (Ns_hid ht h2) h3 ih
theorem own_hid {h : Heap} (ht : h.get? tabA = some (tabO #[])) {x C b n mg} (O : OwnClsQ x C b n mg h) : OwnClsQ x C b n mg (hidden h) := by
  obtain ⟨bm, N, nm, q, bs, hdct, sn, sub, ab, col, dd, k0, k1, k2, k3, k5, mN, h1, h2, h3, h4⟩ := O.obj
  exact ⟨O.bound, bm, N, nm, q, bs, hdct, sn, sub, ab, col, dd, k0, k1, k2, k3, k5, mN, hid ht h1 (fun q => by cases q), Ns_hid ht h2, h3, tail_hid ht h4⟩
noncomputable abbrev loose2 : List Str := [Str.ofString "_twin_re_1", Str.ofString "_special_chars_map"]
structure ViewOk (q : Program) : Prop where
  recs : recsOf q = recsOf PySem.Challenge.pw_in0164_01
  loose : looseW q loose2 = looseL
  own : ∃ o ∈ ownsOf q, o.name = Str.ofString "error_reply" ∧ o.bm = [.type "Exception", .type "BaseException", .type "object"] ∧ o.newId = "Exception.__new__"
  lits : litsOf q = []
  cls : ((clssOf q looseL).map (·.name)).all (fun n => clsL.contains n) = true
  defs : (recsOf PySem.Challenge.pw_in0164_01).map (·.name) = defL
theorem cok_of {q : Program} (V : ViewOk q) {mean mg mb} {h : Heap} {w : World} {os : OsState} (T : Top q (looseW q loose2) mean mg mb h) (H : HeadOk h) : COk ⟨PySem.Challenge.pw_in0164_01, w, hidden h, mg, mb, os, []⟩ := by
  have ht : h.get? tabA = some (tabO #[]) := H.tab
  obtain ⟨g1, g2, g3⟩ := H.g mg T.g
  refine ⟨Ns_hid ht T.g, Ns_hid ht T.b, ?_, hideAll_none _ (.head _), ⟨fun x hx => ?_, T.builtins⟩, fun d hd => ?_, ?_, ?_, ?_, ?_, ?_, ?_⟩
  · obtain ⟨mc, n1, n2⟩ := T.nolimit
    exact ⟨mc, Ns_hid ht n1, n2⟩
  · unfold bltOk at hx
    simp only [Bool.and_eq_true, Bool.not_eq_true', ← Bool.not_eq_true, List.contains_iff_mem] at hx
    obtain ⟨⟨⟨⟨x1, x2⟩, x3⟩, x4⟩, x5⟩ := hx
    refine T.free x x1 (by rw [V.loose]; exact x2) (by rw [V.recs, V.defs]; exact x3) (by rw [V.lits]; exact List.not_mem_nil) (fun hm => ?_)
    rw [V.loose] at hm
    exact x4 (List.contains_iff_mem.mp (List.all_eq_true.mp V.cls x hm))
  · obtain ⟨a, o, pm, code, doc, h1, h2, h3, h4⟩ := T.fn d (by rw [V.recs]; exact hd)
    exact ⟨a, o, pm, code, doc, h1, hid ht h2 (ne_func h3), h3, CodeRec_hid ht h4⟩
  · obtain ⟨o, ho, o1, o2, o3⟩ := V.own
    obtain ⟨Cx, O, _⟩ := T.own o ho
    rw [o1, o2, o3] at O
    exact ⟨Cx, own_hid ht O⟩
  · obtain ⟨bm, ob, b1, b2, b3, b4, b5, b6⟩ := T.bmain
    refine ⟨bm, ob, b1, b2, ?_, ?_, hid ht b3 (ne_cls (by rw [b4]; decide)), b4, b5, b6⟩
    · rintro rfl
      obtain ⟨o, es, ep, n1, n2, _⟩ := T.g
      rw [n1] at b3; cases b3
      rw [b6] at n2; cases n2
    · rintro rfl
      rw [ht] at b3; cases b3; cases b4
  · exact ⟨codeO, _, _, _, _, _, _, _, _, hid ht H.code (ne_cls nofun), rfl, rfl, rfl, rfl, rfl, rfl, rfl, rfl, by decide⟩
  · intro a o pm code doc p b sc e1 e2 e3
    obtain ⟨o', f1, f2⟩ := H.fn
    have e4 : a = 94 := Value.ref.inj (Option.some.inj (e1.symm.trans g3))
    rw [e4] at e2
    rw [← Option.some.inj ((unhid e2).symm.trans f1), e3] at f2
    exact f2
  · exact ⟨68, g1, _, _, _, _, _, _, 67, hid ht H.pat (ne_cls nofun), hid ht H.codes (ne_cls nofun)⟩
  · refine ⟨77, _, g2, ⟨_, _, _, hid ht H.map (ne_cls nofun), rfl, rfl, fun e he => mapL_keys _ _ e (List.mem_toArray.mp he), fun _ => rfl⟩, by decide, fun o ho => ?_, fun c _ => ?_⟩
    · rw [Option.some.inj ((unhid ho).symm.trans H.map)]
      exact ⟨rfl, rfl⟩
    · unfold findBy
      rw [← Array.find?_toList]
      exact mapL_find c _ _
end
end Mine

namespace Mine
section
set_option tactic.hygienic true
noncomputable def Entry : Prop := ∀ C, COk C → ∃ f, C.mg (Str.ofString "law") = some (.ref f) ∧ ∀ (A : Around) (_ : AOk C A [] 4 .pl) (s : Shared) (_ : Inv C [] [] [] s) (xs : List Int) (v : Value) (_ : VR C.base [] s.heap (.rol xs) v), xs.length ≤ 63 →
  ∀ PQ PE : Value → Shared → Prop, (∀ σ' μ' s', Inv C [] μ' σ' s' → PQ (.bool true) s') → ∀ t0, codeAny (Md C) A (.call (.ref f) ⟨[v], []⟩) (backR PQ PE) { s with toks := t0 }
theorem after_law {h : Heap} {w : World} {os : OsState} {mg mb : Str → Option Value} (H : HeadOk h) {μ σ} {s' : Shared} (I : Inv ⟨PySem.Challenge.pw_in0164_01, w, hidden h, mg, mb, os, []⟩ [] μ σ s') : OldK h s'.heap := by
  have ht : h.get? tabA = some (tabO #[]) := H.tab
  obtain ⟨ps, hp, _⟩ := I.tab
  have old : ∀ b o, h.get? b = some o → b ≠ tabA → s'.heap.get? b = some o := fun b o e hb => I.base b o (hideAll_get _ e (by rw [List.mem_singleton]; exact hb))
  refine ⟨fun b o e => ?_, fun b o e => ?_⟩
  · by_cases hb : b = tabA
    · subst hb
      rw [ht] at e
      cases e
      exact .inr (.inl ⟨⟨93, codeO, _, H.code, rfl, rfl, rfl⟩, rfl, #[], ps, rfl, by rw [Array.empty_append]; exact hp⟩)
    · exact .inl (old b o e hb)
  · by_cases hb : b = tabA
    · subst hb; exact ⟨_, hp⟩
    · exact ⟨o, old b o e hb⟩
theorem walk_law (N : Entry) {q : Program} (V : ViewOk q) {d : DefRec} (hdn : d.name = Str.ofString "law") : WalkO q loose2 (XL q []) hookH.says PySem.Challenge.rw_in0164_01.row.toRowW d [] (fun f vs => PySem.call f vs) := by
  intro w s₀ s₁ mg mb G Y fa o pm cd doc dV kV ho hd hcd hD hmg hg args vals as hpre hlay hrd hwl hlo
  have hC := cok_of (w := w) (os := s₁.os) V G.T Y
  have ht : s₁.heap.get? tabA = some (tabO #[]) := HeadOk.tab Y
  obtain ⟨f, hf, N⟩ := N _ hC
  have hff : f = fa := by
    rw [hdn] at hmg
    exact (Value.ref.inj (Option.some.inj (hmg.symm.trans hf))).symm
  subst hff
  wrow_args hpre hlay hrd hwl hlo
  rename_i xs _ _ _ _ _ as1 as2 la items as3 hL ra w1 r0 hI hr h63 _
  have hx : xs.length ≤ 63 := by
    have := h63
    omega
  have I : Inv ⟨PySem.Challenge.pw_in0164_01, w, hidden s₁.heap, mg, mb, s₁.os, []⟩ [] [] [] { s₁ with toks := s₁.toks + 1 } :=
    ⟨fun b o e => unhid e, (by intro a ha; cases ha), hideAll_none _ (.head _), ⟨#[], ht, .inl rfl⟩, rfl, .nil, (by intro i a c e; cases e), (by intro e he; cases he), hg, rfl, Nat.succ_pos _, (by intro a ha; cases ha)⟩
  have A : AOk ⟨PySem.Challenge.pw_in0164_01, w, hidden s₁.heap, mg, mb, s₁.os, []⟩ callerA [] 4 .pl := ⟨rfl, by decide, by decide, fun _ => rfl, fun h => by cases h⟩
  have R : VR (hidden s₁.heap) [] s₁.heap (.rol xs) (.ref la) := by
    refine .rol ?_ hI
    obtain ⟨o, e1, e2, e3⟩ := hL
    exact ⟨o, hid ht e1 (ne_cls (by rw [e2]; decide)), e2, e3⟩
  refine wpAny_call (N callerA A _ I xs _ R hx _ _ (fun σ' μ' s' I' => ?_) s₁.toks)
  refine ⟨.inl ⟨.bool true, .bool true, [], rfl, fun c => rfl, .bool true, ?_, ?_⟩, after_law Y I', I'.os, .of_eq I'.gens⟩
  · wrow_post
  · exact fun _ => ⟨.nil, fun a ha => by cases ha⟩
end
end Mine

namespace Mine
section
theorem entry : Entry := fun C hC => by
  obtain ⟨f, o, fd, h1, h2, h3, h⟩ := enter_of (k := 3) (d := r_law) (ps := ["script"]) (spec := p_law) (by kernel_rfl) sd_law (by decide +kernel) (fun pm code doc vs h => by obtain ⟨a, rfl⟩ := len1 h; rfl) (fun _ _ _ _ => i_law plainLaw) C hC
  exact ⟨f, h1, fun A hA s I xs v r hx PQ PE hq t0 => h A [] hA [] [] s I [.rol xs] [v] (.cons r .nil) (fun V _ => V = .bool true) (fun _ _ => False) PQ PE ⟨xs, rfl, hx, fun ν => rfl⟩
    (fun V v σ' μ' s' l I' r e => by subst e; cases r; exact hq _ _ _ I') (fun x e σ' μ' s' l I' y hf => hf.elim) t0 (.inr ⟨"script", rfl, by decide +kernel⟩)⟩
theorem view_ok {q : Program} (h1 : recsOf q = recsOf PySem.Challenge.pw_in0164_01) (h2 : looseW q loose2 = looseL)
    (h3 : ownsOf q = [⟨Str.ofString "Error", [], [.type "Exception", .type "BaseException", .type "object"], "Exception.__new__"⟩, ⟨Str.ofString "error_reply", [Str.ofString "Error"], [.type "Exception", .type "BaseException", .type "object"], "Exception.__new__"⟩])
    (h4 : litsOf q = []) (h5 : ((clssOf q looseL).map (·.name)).all (fun n => clsL.contains n) = true) : ViewOk q :=
  ⟨h1, h2, ⟨_, by rw [h3]; exact .tail _ (.head _), rfl, rfl, rfl⟩, h4, h5, by kernel_rfl⟩
end
end Mine
set_option maxHeartbeats 0
namespace Mine
theorem said : OpenLaw.wellSaid PySem.Challenge.rw_in0164_01 = true := by kernel_rfl
end Mine
theorem PySem.Challenge.cw_in0164_01_holds : PySem.Challenge.rw_in0164_01.Holds := by
  w_on
  refine PySem.W.holds_law Mine.said fun said => ?_
  o_head Mine.hookH
  case hw => w_witness2
  case hc => exact Mine.walk_law Mine.entry (Mine.view_ok (by kernel_rfl) (by kernel_rfl) (by kernel_rfl) (by kernel_rfl) (by kernel_rfl)) rfl
