import PyProof.Rows.All
import Wide.All
import OpenK.AllK
import Wide.FinOn
import PySem.Challenge.RW_in0306_01
set_option Elab.async false

section
open PySem PySem.W PyProof.Rows
namespace Mine
set_option maxRecDepth 100000 in
set_option maxHeartbeats 8000000 in
open_top hd for PySem.Challenge.rw_in0306_01
end Mine

end

section
open PySem PySem.W PyProof.Rows PySem.Calls
set_option maxRecDepth 100000
namespace Mine

abbrev PR : Program := PySem.Challenge.rw_in0306_01.row.prog
noncomputable abbrev KF (w : World) : Frag := hd.heap_39 w.params

def Sub (g h : Heap) : Prop := ∀ b o, g.get? b = some o → h.get? b = some o
theorem Sub.refl (g : Heap) : Sub g g := fun _ _ e => e
theorem Sub.trans {a b c : Heap} (x : Sub a b) (y : Sub b c) : Sub a c := fun i o e => y i o (x i o e)
theorem Sub.push (g : Heap) (o : Obj) : Sub g (g.push o) := fun _ _ e => Heap.get?_push_of_some _ e
theorem Sub.list {g h : Heap} (x : Sub g h) {l : Addr} {xs : Array Value} (e : g.IsList l xs) : h.IsList l xs := e.at fun o q => x _ o q

theorem krefl (s : Shared) : Keeps s s := ⟨s.heap, s.toks, rfl, fun _ _ e => e⟩
theorem ksub {s s' : Shared} (k : Keeps s s') : Sub s.heap s'.heap := by
  obtain ⟨h, t, rfl, e⟩ := k; exact e
theorem ktrans {s s' s'' : Shared} (x : Keeps s s') (y : Keeps s' s'') : Keeps s s'' := by
  obtain ⟨h, t, rfl, e⟩ := x
  obtain ⟨h', t', rfl, e'⟩ := y
  exact ⟨h', t', rfl, fun b o q => e' b o (e b o q)⟩
theorem ktok (s : Shared) (t : Nat) : Keeps s { s with toks := t } := ⟨s.heap, t, rfl, fun _ _ e => e⟩
theorem kpush (s : Shared) (o : Obj) : Keeps s { s with heap := s.heap.push o } := ⟨_, s.toks, rfl, fun _ _ e => Heap.get?_push_of_some _ e⟩
theorem kmk (s : Shared) {h : Heap} (t : Nat) (e : Sub s.heap h) : Keeps s { s with heap := h, toks := t } := ⟨h, t, rfl, e⟩

structure Wd (w : World) (h : Heap) : Prop where
  X : (KF w).In h
  T : ∃ p loose mg mb, TopRead p loose mg mb h
theorem Wd.sub {w : World} {h h' : Heap} (W : Wd w h) (k : Sub h h') : Wd w h' :=
  ⟨W.X.keeps k, let ⟨p, l, mg, mb, T⟩ := W.T; ⟨p, l, mg, mb, T.keeps k⟩⟩
theorem Wd.nolimit {w : World} {h : Heap} (W : Wd w h) : h.NoLimit := let ⟨_, _, _, _, T⟩ := W.T; T.nolimit

structure Rm (A : Around) (d : Nat) : Prop where
  hd : A.handled = none
  dp : A.depth + d < recursionLimit
  un : A.units + 20 * d < cLine
theorem Rm.le {A : Around} {d d' : Nat} (R : Rm A d) (h : d' ≤ d) : Rm A d' := ⟨R.hd, by have := R.dp; omega, by have := R.un; omega⟩
theorem Rm.in1 {A : Around} {d : Nat} (R : Rm A (d + 1)) : Rm A.in1 d := ⟨R.hd, by have := R.dp; show A.depth + d < _; omega, by have := R.un; show A.units + 1 + 20 * d < _; omega⟩
theorem Rm.deeper {A : Around} {d : Nat} {env : Env} (R : Rm A (d + 1)) : Rm (A.deeper env) d := ⟨R.hd, by have := R.dp; show A.depth + 1 + d < _; omega, by have := R.un; show A.units + 3 + 20 * d < _; omega⟩

structure Fx (w : World) (g : Heap) (env : Env) (m cm : Str → Option Value) (h : Heap) : Prop where
  ns : h.Ns env.locals m
  cell : ∀ n c, env.cells.lookup n = some c → h.IsCell c (cm n)
  keep : Sub g h
  W : Wd w g
  k : env.scope.kind = .function
  gl : env.globals = mainGlobals
  bu : env.builtins = builtinsNs

theorem Fx.keeps {w g env m cm} {s s' : Shared} (F : Fx w g env m cm s.heap) (K : Keeps s s') : Fx w g env m cm s'.heap :=
  ⟨F.ns.keeps (ksub K), fun n c e => (F.cell n c e).keeps (ksub K), F.keep.trans (ksub K), F.W, F.k, F.gl, F.bu⟩
theorem Fx.sub {w g env m cm} {h h' : Heap} (F : Fx w g env m cm h) (K : Sub h h') : Fx w g env m cm h' :=
  ⟨F.ns.keeps K, fun n c e => (F.cell n c e).keeps K, F.keep.trans K, F.W, F.k, F.gl, F.bu⟩
theorem Fx.wd {w g env m cm h} (F : Fx w g env m cm h) : Wd w h := F.W.sub F.keep
theorem Fx.list {w g env m cm h} (F : Fx w g env m cm h) {l : Addr} {xs : Array Value} (e : g.IsList l xs) : h.IsList l xs := F.keep.list e

section
variable {w : World} {A : Around} {E : Value → Shared → Prop} {s : Shared} {g : Heap} {env : Env} {m cm : Str → Option Value} {Q : Value → Shared → Prop} {x : Str} {pos : Pos} {v : Value} {M : Model}

theorem Fx.ldL {h' : Heap} (F : Fx w g env m cm h') (hv : m x = some v) (h : Q v s) (eh : s.heap = h' := by rfl) (hl : env.kindOf x = some .local := by rfl) (hd : (x == ("__debug__" : Str)) = false := by decide) :
    wpAny M A (eval (.Name x pos) env) Q E s := wpAny_Name (wpAny_loadName_local F.k hl (eh ▸ F.ns) hv h) hd
theorem Fx.ldC {h' : Heap} {c : Addr} (F : Fx w g env m cm h') (hc : env.cells.lookup x = some c) (hv : cm x = some v) (h : Q v s) (eh : s.heap = h' := by rfl) (hl : env.kindOf x = some .cell := by rfl) (hd : (x == ("__debug__" : Str)) = false := by decide) :
    wpAny M A (eval (.Name x pos) env) Q E s := wpAny_Name (wpAny_loadName_cell F.k hl hc (by rw [eh, ← hv]; exact F.cell x c hc) h) hd
theorem Fx.ldF {h' : Heap} {c : Addr} (F : Fx w g env m cm h') (hc : env.cells.lookup x = some c) (hv : cm x = some v) (h : Q v s) (eh : s.heap = h' := by rfl) (hl : env.kindOf x = some .free := by rfl) (hd : (x == ("__debug__" : Str)) = false := by decide)
    (hn : (x == ("__classdict__" : Str)) = false := by decide) :
    wpAny M A (eval (.Name x pos) env) Q E s := wpAny_Name (wpAny_loadName_free F.k hl hc (by rw [eh, ← hv]; exact F.cell x c hc) h hn) hd
theorem Fx.ldG {h' : Heap} (F : Fx w g env m cm h') (e : nsIn (KF w) mainGlobals x = some (some v)) (h : Q v s) (eh : s.heap = h' := by rfl) (hx : env.kindOf x = some .globalImplicit := by rfl) (hd : (x == ("__debug__" : Str)) = false := by decide) :
    wpAny M A (eval (.Name x pos) env) Q E s := by
  obtain ⟨p, l, mg, mb, T⟩ := F.wd.T
  rw [← eh] at T
  exact Name_function_global F.k hx (loadGlobal_global (by rw [F.gl]; exact T.g) (mg_of (eh ▸ F.wd.X) T.g e) h) hd
theorem Fx.ldB {h' : Heap} (F : Fx w g env m cm h') (e : nsIn (KF w) mainGlobals x = some none) (hv : bootBuiltins x = some v) (h : Q v s) (eh : s.heap = h' := by rfl) (hn : x ≠ "__name__" := by decide) (hx : env.kindOf x = some .globalImplicit := by rfl) (hd : (x == ("__debug__" : Str)) = false := by decide) :
    wpAny M A (eval (.Name x pos) env) Q E s := by
  obtain ⟨p, l, mg, mb, T⟩ := F.wd.T
  rw [← eh] at T
  exact Name_function_global F.k hx (loadGlobal_builtin (by rw [F.gl]; exact T.g) (mg_none_of (eh ▸ F.wd.X) T.g e) (by rw [F.bu]; exact T.b) ((T.builtins x hn).trans hv) h) hd
end

/- a function's own frame -/
structure Fm (w : World) (s₀ : Shared) (g : Heap) (env : Env) (m cm : Str → Option Value) (s : Shared) : Prop where
  toFx : Fx w g env m cm s.heap
  same : ∃ h tk, s = { s₀ with heap := h, toks := tk }
  low : Sub s₀.heap g
  Lg : g.get? env.locals = none
  Cg : ∀ p ∈ env.cells, g.get? p.2 = none
  LC : ∀ p ∈ env.cells, p.2 ≠ env.locals
  apart : env.cells.Pairwise fun x y => x.2 ≠ y.2
  cw : ∀ p ∈ env.cells, ∃ v, s.heap.IsCell p.2 v

section
variable {w : World} {A : Around} {E : Value → Shared → Prop} {s s₀ s' : Shared} {g : Heap} {env : Env} {m cm : Str → Option Value} {x : Str} {pos : Pos} {v : Value} {M : Model}

theorem Fm.keeps (F : Fm w s₀ g env m cm s) (K : Keeps s s') : Fm w s₀ g env m cm s' :=
  ⟨F.toFx.keeps K, by obtain ⟨h, t, rfl⟩ := F.same; obtain ⟨h', t', rfl, _⟩ := K; exact ⟨h', t', rfl⟩, F.low, F.Lg, F.Cg, F.LC, F.apart, fun p hp => let ⟨v, e⟩ := F.cw p hp; ⟨v, e.keeps (ksub K)⟩⟩
theorem Fm.done (F : Fm w s₀ g env m cm s) : Keeps s₀ s := by
  obtain ⟨h, t, rfl⟩ := F.same
  exact ⟨h, t, rfl, F.low.trans F.toFx.keep⟩

theorem Fm.stL {Q : Unit → Shared → Prop} (F : Fm w s₀ g env m cm s)
    (h : ∀ s', Fm w s₀ g env (fun y => if y = x then some v else m y) cm s' → Q () s') (hl : env.kindOf x = some .local := by rfl) : wpAny M A (storeName env x v) Q E s := by
  refine wpAny_storeName_local hl F.toFx.ns (fun h' hn' hs' => h _ ⟨⟨hn', fun n c e => (F.toFx.cell n c e).sameBut hs' (F.LC _ (mem_of_lookup e)), fun b o e => ?_, F.toFx.W, F.toFx.k, F.toFx.gl, F.toFx.bu⟩, ?_, F.low, F.Lg, F.Cg, F.LC, F.apart, fun p hp => let ⟨v, e⟩ := F.cw p hp; ⟨v, e.sameBut hs' (F.LC p hp)⟩⟩) (by rw [F.toFx.k]; rfl)
  · exact hs'.extBut b o (by rintro rfl; rw [F.Lg] at e; cases e) (F.toFx.keep b o e)
  · obtain ⟨h₁, t, rfl⟩ := F.same; exact ⟨h', _, rfl⟩
theorem Fm.stC {c : Addr} {Q : Unit → Shared → Prop} (F : Fm w s₀ g env m cm s) (hc : env.cells.lookup x = some c)
    (h : ∀ s', Fm w s₀ g env m (fun y => if y = x then some v else cm y) s' → Q () s') (hl : env.kindOf x = some .cell := by rfl) : wpAny M A (storeName env x v) Q E s := by
  refine wpAny_storeName_cell F.toFx.k hl hc (F.toFx.cell x c hc) fun h' hc' hs' => h _ ⟨⟨F.toFx.ns.sameBut hs' (Ne.symm (F.LC _ (mem_of_lookup hc))), fun n c' e => ?_, fun b o e => ?_, F.toFx.W, F.toFx.k, F.toFx.gl, F.toFx.bu⟩, ?_, F.low, F.Lg, F.Cg, F.LC, F.apart, fun p hp => ?_⟩
  · by_cases hk : n = x
    · subst hk; rw [hc] at e; cases e; simpa using hc'
    · simp only [hk, if_false]
      exact (F.toFx.cell n c' e).sameBut hs' fun q => hk (name_of_addr F.apart (mem_of_lookup e) (q ▸ mem_of_lookup hc))
  · exact hs'.extBut b o (by rintro rfl; have := F.Cg _ (mem_of_lookup hc); rw [this] at e; cases e) (F.toFx.keep b o e)
  · obtain ⟨h₁, t, rfl⟩ := F.same; exact ⟨h', _, rfl⟩
  · by_cases q : p.2 = c
    · exact ⟨_, q ▸ hc'⟩
    · obtain ⟨v, e⟩ := F.cw p hp; exact ⟨v, e.sameBut hs' q⟩

/-- the frozen heap goes on to all that stands now, the frame's own left out -/
theorem Fm.adv (F : Fm w s₀ g env m cm s) : ∃ g', Sub g g' ∧ Fm w s₀ g' env m cm s ∧ ∀ a o, s.heap.get? a = some o → (∀ es n, o.data ≠ .dict es n) → (∀ v, o.data ≠ .cell v) → g'.get? a = some o := by
  have st : Sub g (hideAll s.heap (env.locals :: env.cells.map (·.2))) := fun b o e => hideAll_get _ (F.toFx.keep b o e) fun q => by
    rcases List.mem_cons.mp q with rfl | q
    · rw [F.Lg] at e; cases e
    · obtain ⟨p, hp, rfl⟩ := List.mem_map.mp q; rw [F.Cg p hp] at e; cases e
  refine ⟨_, st, ⟨⟨F.toFx.ns, F.toFx.cell, fun _ _ e => of_hideAll _ e, F.toFx.W.sub st, F.toFx.k, F.toFx.gl, F.toFx.bu⟩, F.same, F.low.trans st, hideAll_none _ (.head _), fun p hp => hideAll_none _ (.tail _ (List.mem_map_of_mem hp)), F.LC, F.apart, F.cw⟩, fun a o e h1 h2 => hideAll_get _ e fun q => ?_⟩
  rcases List.mem_cons.mp q with rfl | q
  · obtain ⟨o', es, n, ho, hd, _⟩ := F.toFx.ns; rw [e] at ho; cases ho; exact h1 _ _ hd
  · obtain ⟨p, hp, rfl⟩ := List.mem_map.mp q
    obtain ⟨v, o', ho, hd⟩ := F.cw p hp; rw [e] at ho; cases ho; exact h2 _ hd
theorem list_of_adv {h g' : Heap} (k : ∀ a o, h.get? a = some o → (∀ es n, o.data ≠ .dict es n) → (∀ v, o.data ≠ .cell v) → g'.get? a = some o) {l : Addr} {xs : Array Value} (e : h.IsList l xs) : g'.IsList l xs := by
  obtain ⟨o, ho, hc, n, hd⟩ := e
  exact ⟨o, k l o ho (fun _ _ q => by rw [hd] at q; cases q) (fun _ q => by rw [hd] at q; cases q), hc, n, hd⟩
theorem tuple_of_adv {h g' : Heap} (k : ∀ a o, h.get? a = some o → (∀ es n, o.data ≠ .dict es n) → (∀ v, o.data ≠ .cell v) → g'.get? a = some o) {l : Addr} {xs : Array Value} (e : h.IsTuple l xs) : g'.IsTuple l xs := by
  obtain ⟨o, ho, hc, n, hd⟩ := e
  exact ⟨o, k l o ho (fun _ _ q => by rw [hd] at q; cases q) (fun _ q => by rw [hd] at q; cases q), hc, n, hd⟩
end
end Mine

end

section
open PySem PySem.W PyProof.Rows PySem.Calls
set_option maxRecDepth 100000
namespace Mine

theorem envOfC_eq (fd : FuncData) (L f : Addr) (hgl : fd.globals = mainGlobals) (hbu : fd.builtins = builtinsNs) : callEnvC fd L f = envOfC fd.qualname fd.scope L f fd.code := by
  unfold callEnvC newEnv envOfC
  rw [hgl, hbu]

theorem cellsFrom_names : ∀ (names : List (Str × NameKind)) (n k : Nat) (acc acc' : List (Str × Addr)), acc.map (·.1) = acc'.map (·.1) → (cellsFrom n names acc).map (·.1) = (cellsFrom k names acc').map (·.1)
  | [], _, _, _, _, e => e
  | (x, kd) :: r, n, k, acc, acc', e => by
    unfold cellsFrom
    by_cases h : (kd == .cell) = true
    · rw [if_pos h, if_pos h]; exact cellsFrom_names r _ _ _ _ (by simp only [List.map_cons, e])
    · rw [if_neg h, if_neg h]; exact cellsFrom_names r _ _ _ _ e
theorem lookup_of_nodup : ∀ {l : List (Str × Addr)}, (l.map (·.1)).Nodup → ∀ p ∈ l, l.lookup p.1 = some p.2
  | x :: r, hn, p, hp => by
    rw [List.map_cons, List.nodup_cons] at hn
    rcases List.mem_cons.mp hp with rfl | hp
    · rw [List.lookup_cons, beq_self_eq_true]
    · have : (p.1 == x.1) = false := by
        rw [beq_eq_false_iff_ne]; intro e; exact hn.1 (e ▸ List.mem_map_of_mem hp)
      rw [List.lookup_cons, this]
      exact lookup_of_nodup hn.2 p hp

section
variable {w : World} {A : Around} {E : Value → Shared → Prop} {s : Shared}

theorem callF {f : Addr} {oc : Value} {od : Option Addr} {osl : Array (Option Value)} {fd : FuncData} {body : List Stmt} {vals : List Value} {binds : List (Str × Value)} {d : Nat} {Q : Value → Shared → Prop}
    (W : Wd w s.heap) (R : Rm A (d + 1)) (e : (KF w).lookup f = some ⟨oc, od, .func fd, osl⟩)
    (hcd : codeIn (KF w) fd.code fd.qualname = true) (hbody : fd.body = .stmts body) (hbind : bindArgs fd ⟨vals, []⟩ = pure binds)
    (hkind : (binds.all fun y => fd.scope.names.lookup y.1 == some .local || fd.scope.names.lookup y.1 == some .cell) = true)
    (h : ∀ L s₁, L = s.heap.objs.size → Fm w s s.heap (envOfC fd.qualname fd.scope L f fd.code) (bindL (envOfC fd.qualname fd.scope L f fd.code).kindOf binds fun _ => none) (bindC (envOfC fd.qualname fd.scope L f fd.code).kindOf binds fun _ => none) s₁ →
      Rm (A.deeper (envOfC fd.qualname fd.scope L f fd.code)) d →
      wpAny (model PR w) (A.deeper (envOfC fd.qualname fd.scope L f fd.code)) (execs body (envOfC fd.qualname fd.scope L f fd.code)) (fun fl s' => Q (match fl with | .ret v => v | _ => .none) s') (fun _ _ => False) s₁)
    (hclo : fd.closure = [] := by rfl) (hgl : fd.globals = mainGlobals := by rfl) (hbu : fd.builtins = builtinsNs := by rfl)
    (hco : fd.scope.isCoroutine = false := by rfl) (hgen : fd.scope.isGenerator = false := by rfl) (hk : fd.scope.kind = .function := by rfl)
    (hnd : ((cellsFrom 0 fd.scope.names []).map (·.1)).Nodup := by decide) :
    wpAny (model PR w) A (call (.ref f) vals) Q E s := by
  refine wpAny_call (codeAny_call_cells (by have := R.dp; omega) (W.X _ _ e) rfl W.nolimit (codeRec_of W.X hcd) hbody hbind hclo (kindsX hkind _) (fun s₁ x => ?_) hco hgen hk)
  have hL : s.heap.get? s.heap.objs.size = none := Heap.get?_none_of_le (Nat.le_refl _)
  have he := envOfC_eq fd s.heap.objs.size f hgl hbu
  rw [he] at x ⊢
  refine wpAny_mono (h _ s₁ rfl ⟨⟨x.toInCall.ns, x.cell, x.toInCall.keep, W, hk, rfl, rfl⟩, x.toInCall.same, Sub.refl _, hL, fun p hp => ?_, fun p hp => ?_, x.apart, fun p hp => ⟨_, x.cell p.1 p.2 (lookup_of_nodup ?_ p hp)⟩⟩ R.deeper) (fun _ _ q => q) fun _ _ q => q.elim
  · exact Heap.get?_none_of_le (Nat.le_of_lt (x.above p.1 p.2 hp))
  · exact Nat.ne_of_gt (x.above p.1 p.2 hp)
  · show ((cellsFrom _ fd.scope.names []).map (·.1)).Nodup
    rw [cellsFrom_names _ _ 0 [] [] rfl]; exact hnd
end

section
variable {M : Model} {A : Around} {E : Value → Shared → Prop} {s : Shared} {env : Env}

theorem evArgs {f : Value} {pos : Pos} {args : List Expr} {Q : Args → Shared → Prop}
    (h : wpAny M A (spliced (backTo pos (starEach args env))) (fun vs s' => Q ⟨vs, []⟩ s') E s)
    (he : starEach args env = args.map (fun e => (false, eval e env)) := by rfl) : wpAny M A (evalArgs f true (backTo pos (starEach args env)) []) Q E s := by
  cases args with
  | nil =>
    unfold evalArgs
    show wpAny M A (spliced [] >>= _) Q E s
    refine wpAny_bind (wpAny_mono h (fun vs s' h' => ?_) fun _ _ x => x)
    refine wpAny_bind (wpAny_pure ?_)
    refine wpAny_holding ?_
    exact wpAny_bind (wpAny_pure (wpAny_bind (wpAny_pure (wpAny_pure h'))))
  | cons e rest => rw [he] at h ⊢; exact evalArgs_plain h

/-- a call by a name: the callee is a built-in or a type -/
theorem evCallM {x : Str} {np pos : Pos} {args : List Expr} {f : Value} {Q : Value → Shared → Prop}
    (hf : ∀ Q' : Value → Shared → Prop, Q' f s → wpAny M A (eval (.Name x np) env) Q' E s)
    (h : wpAny M A (spliced (backTo pos (starEach args env))) (fun vs s₁ => wpAny M A (call f vs) Q E s₁) E s)
    (hm : keeperOf f = pure .machine := by rfl)
    (he : starEach args env = args.map (fun e => (false, eval e env)) := by rfl)
    (hp : (backTo pos (starEach args env)).any (·.1) = false := by rfl) :
    wpAny M A (eval (.Call (.Name x np) args [] pos) env) Q E s := by
  refine wpAny_Call_ofName (hf _ ?_)
  refine callWith_of (P := fun _ => True) (by show ((backTo pos (starEach args env)).any (·.1) || false) = false; rw [hp]; rfl) (fun _ _ => ⟨.machine, .inr (.inl rfl), Looks.of_pure hm⟩) ?_
  exact evArgs (wpAny_mono h (fun vs s' q => ⟨trivial, by simpa using q⟩) fun _ _ q => q) he

/-- a call by a name: the callee is a def of the text's -/
theorem evCallF {K : Frag} {x : Str} {np pos : Pos} {args : List Expr} {a : Addr} {Q : Value → Shared → Prop} (hk : keepIn K (.ref a) = true)
    (hf : ∀ Q' : Value → Shared → Prop, Q' (.ref a) s → wpAny M A (eval (.Name x np) env) Q' E s)
    (h : wpAny M A (spliced (backTo pos (starEach args env))) (fun vs s₁ => K.In s₁.heap ∧ wpAny M A (call (.ref a) vs) Q E s₁) E s)
    (he : starEach args env = args.map (fun e => (false, eval e env)) := by rfl)
    (hp : (backTo pos (starEach args env)).any (·.1) = false := by rfl) :
    wpAny M A (eval (.Call (.Name x np) args [] pos) env) Q E s := by
  refine wpAny_Call_ofName (hf _ ?_)
  refine callWith_of (P := K.In) (by show ((backTo pos (starEach args env)).any (·.1) || false) = false; rw [hp]; rfl) (keeps_K hk) ?_
  exact evArgs (wpAny_mono h (fun vs s' q => ⟨q.1, by simpa using q.2⟩) fun _ _ q => q) he
end

section
variable {prog : Program} {w : World} {A : Around} {E : Value → Shared → Prop} {s : Shared} {env : Env}
/-- a method of a built-in type, called upon a value -/
theorem evMeth {o : Expr} {name : Str} {apos pos : Pos} {args : List Expr} {T id : String} {Q : Value → Shared → Prop}
    (pa : PlainAttrs T) (slot : Slot T name id) (hty : typeOf (.builtin id) = pure (.type "method_descriptor"))
    (h : wpAny (model prog w) A (eval o env) (fun ov s₁ => s₁.TypeIs ov T ∧ (∀ a, ov = .ref a → ∃ ob, s₁.heap.get? a = some ob ∧ ob.dict = none) ∧
      wpAny (model prog w) A (spliced (backTo pos (starEach args env))) (fun vs s₂ => wpAny (model prog w) A (call (.builtin id) (ov :: vs)) Q E s₂) E s₁) E s)
    (hbase : attributeBase o name env (eval o env) = eval o env := by rfl)
    (hfew : ((backTo pos (starEach args env)).all (fun x => !x.1) && (backToKw pos (keywordEach [] env)).all (fun x => x.1.isSome)
      && decide (args.length + ([] : List Keyword).length + (if ([] : List Keyword).isEmpty then 0 else 1) < 30)) = true := by rfl)
    (hline : (apos.endLine == pos.line) = true := by rfl)
    (he : starEach args env = args.map (fun e => (false, eval e env)) := by rfl)
    (hp : (backTo pos (starEach args env)).any (·.1) = false := by rfl) :
    wpAny (model prog w) A (eval (.Call (.Attribute o name apos) args [] pos) env) Q E s := by
  refine wpAny_Call_method hbase hfew hline pa slot hty (wpAny_mono h (fun ov s₁ q => ⟨q.1, q.2.1, ?_⟩) fun _ _ q => q)
  refine callWith_of (P := fun _ => True) (by show ((backTo pos (starEach args env)).any (·.1) || false) = false; rw [hp]; rfl) (fun _ _ => ⟨.machine, .inr (.inl rfl), Looks.of_pure rfl⟩) ?_
  exact evArgs (wpAny_mono q.2.2 (fun vs s' q => ⟨trivial, q⟩) fun _ _ q => q) he
/-- a method of a str -/
theorem evMethS {o : Expr} {name : Str} {apos pos : Pos} {args : List Expr} {id : String} {Q : Value → Shared → Prop}
    (slot : Slot "str" name id) (hty : typeOf (.builtin id) = pure (.type "method_descriptor"))
    (h : wpAny (model prog w) A (eval o env) (fun ov s₁ => ∃ x t, ov = .str x t ∧
      wpAny (model prog w) A (spliced (backTo pos (starEach args env))) (fun vs s₂ => wpAny (model prog w) A (call (.builtin id) (.str x t :: vs)) Q E s₂) E s₁) E s)
    (hbase : attributeBase o name env (eval o env) = eval o env := by rfl)
    (hfew : ((backTo pos (starEach args env)).all (fun x => !x.1) && (backToKw pos (keywordEach [] env)).all (fun x => x.1.isSome)
      && decide (args.length + ([] : List Keyword).length + (if ([] : List Keyword).isEmpty then 0 else 1) < 30)) = true := by rfl)
    (hline : (apos.endLine == pos.line) = true := by rfl)
    (he : starEach args env = args.map (fun e => (false, eval e env)) := by rfl)
    (hp : (backTo pos (starEach args env)).any (·.1) = false := by rfl) :
    wpAny (model prog w) A (eval (.Call (.Attribute o name apos) args [] pos) env) Q E s :=
  evMeth PySem.F.plainAttrs_str slot hty (wpAny_mono h (fun ov s₁ q => by
    obtain ⟨x, t, rfl, q⟩ := q
    exact ⟨typeIs_str _ _ _, fun _ e => (nomatch e), q⟩) fun _ _ q => q) hbase hfew hline he hp
end
end Mine

end

section
open PySem PySem.W PyProof.Rows PySem.Calls
set_option maxRecDepth 100000
namespace Mine
section
variable {w : World} {A : Around} {E : Value → Shared → Prop} {s : Shared}
set_option maxHeartbeats 1000000

theorem t115 (W : Wd w s.heap) (R : Rm A 2) {x : Str} {u : Tok} {Q : Value → Shared → Prop} (hQ : ∀ t s', Keeps s s' → Q (.str "/" t) s') :
    wpAny (model PR w) A (call (.ref 115) [.str x u]) Q E s := by
  refine callF (f := 115) W R rfl rfl rfl rfl rfl (fun L s₁ hL F R => ?_)
  dsimp only at F R ⊢
  refine wpAny_execs_cons (wpAny_If (isTrue_plain ?_))
  refine evCallM (fun Q' q => F.toFx.ldB rfl rfl q) ?_
  refine wpAny_items_cons (F.toFx.ldL (by rfl) ?_)
  refine wpAny_items_cons (F.toFx.ldB rfl rfl ?_)
  refine wpAny_items_nil ?_
  refine IsiPair.str_bytes (wpAny_truthy_bool ?_)
  show wpAny _ _ _ _ _ _
  refine wpAny_execs_cons (wpAny_Return_some (Constant_str ?_))
  exact hQ _ _ (F.keeps (ktok _ _)).done
end
end Mine

end

section
open PySem PySem.W PyProof.Rows PySem.Calls
set_option maxRecDepth 100000
namespace Mine
section
variable {prog : Program} {w : World} {A : Around} {E : Value → Shared → Prop} {s : Shared}
set_option maxHeartbeats 1000000

theorem meta_str : typeOf (.type "str") = pure (.type "type") := by kernel_rfl
theorem issub_nested_str {k : Int} {t : Tok} {Q : Fin → Shared → Prop} (hq : Q (.done (.ret (.bool true))) s) :
    wpAny (model prog w) A (Builtin.«issubclass.nested» ⟨[.type "str", .type "str", .int k t], []⟩) Q E s := by
  have hm : typeOf (.type "str") = pure (.type "type") := meta_str
  have hs := F.isi_self_str
  repeat (any_goals (first | assumption | wp_step))

theorem args_nested {a b c : Value} : argsOk "issubclass.nested" ⟨[a, b, c], []⟩ := by unfold argsOk; kernel_rfl
theorem issub_str {T : Addr} {Q : Value → Shared → Prop} (hT : s.heap.IsTuple T #[.type "str", .type "bytes"]) (hq : Q (.bool true) s) :
    wpAny (model prog w) A (call (.builtin "issubclass") [.type "str", .ref T]) Q E s := by
  refine call_function_any F.kind_issubclass F.plain_issubclass F.entry_issubclass (F.args_issubclass_2 _ _) ?_
  refine issubclass_outer ?_
  obtain ⟨o, ho, hc, n, hd⟩ := hT
  have hTy : s.TypeIs (.ref T) "tuple" := ⟨o, ho, hc⟩
  have h1 : isSubtype (.type "tuple") (.type "tuple") = pure true := F.isi_self_tuple
  repeat (any_goals (first | assumption | wp_step))
  rw [hd]
  refine wpAny_pure (wpAny_bind ?_)
  rw [← Array.forIn_toList]
  simp only [Option.getD_some, List.forIn_cons]
  refine wpAny_bind (wpAny_bind (call_function_entry (id := "issubclass.nested") (by decide +kernel) (by decide +kernel) F.entry_issubclass_nested args_nested (wpAny_of_in1 ?_)))
  refine issub_nested_str ⟨_, rfl, ?_⟩
  repeat (any_goals (first | assumption | wp_step))
end

section
variable {w : World} {A : Around} {E : Value → Shared → Prop} {s : Shared}
set_option maxHeartbeats 1000000

theorem t101 (W : Wd w s.heap) (R : Rm A 2) {x : Str} {u : Tok} {Q : Value → Shared → Prop} (hQ : ∀ s', Keeps s s' → Q (.str x u) s') :
    wpAny (model PR w) A (call (.ref 101) [.str x u]) Q E s := by
  refine callF (f := 101) W R rfl rfl rfl rfl rfl (fun L s₁ hL F R => ?_)
  dsimp only at F R ⊢
  refine wpAny_execs_cons (wpAny_Assign_Name ?_)
  refine evCallM (fun Q' q => F.toFx.ldB rfl rfl q) ?_
  refine wpAny_items_cons (F.toFx.ldL (by rfl) (wpAny_items_nil ?_))
  refine call_type_of (typeIs_str _ _ _) (by decide) ?_
  refine F.stL (fun s₂ F => ?_)
  dsimp only
  refine wpAny_execs_cons (wpAny_If (isTrue_plain ?_))
  refine evCallM (fun Q' q => F.toFx.ldB rfl rfl q) ?_
  refine wpAny_items_cons (F.toFx.ldL (by rfl) (wpAny_items_cons (wpAny_Tuple ?_)))
  refine wpAny_items_cons (F.toFx.ldB rfl rfl (wpAny_items_cons (F.toFx.ldB rfl rfl (wpAny_items_nil ⟨by decide, wpAny_items_nil ?_⟩))))
  refine issub_str ⟨_, Heap.get?_push_size _ rfl, rfl, _, rfl⟩ (wpAny_truthy_bool ?_)
  have F := F.keeps (kpush _ { cls := .type "tuple", data := .seq #[.type "str", .type "bytes"] })
  show wpAny _ _ _ _ _ _
  refine wpAny_execs_cons (wpAny_Return_some (F.toFx.ldL (by rfl) ?_))
  exact hQ _ F.done

theorem t122 (W : Wd w s.heap) (R : Rm A 4) {x : Str} {u : Tok} {Q : Value → Shared → Prop} (hQ : ∀ s', Keeps s s' → Q (.bool (Txt.startswith x "/")) s') :
    wpAny (model PR w) A (call (.ref 122) [.str x u]) Q E s := by
  refine callF (f := 122) W R rfl rfl rfl rfl rfl (fun L s₁ hL F R => ?_)
  dsimp only at F R ⊢
  refine wpAny_execs_cons (wpAny_Assign_Name ?_)
  refine evCallF (K := KF w) (by rfl) (fun Q' q => F.toFx.ldG rfl q) ?_
  refine wpAny_items_cons (F.toFx.ldL (by rfl) (wpAny_items_nil ⟨F.toFx.wd.X, ?_⟩))
  refine t101 F.toFx.wd (R.le (by omega)) (fun s₂ K => ?_)
  refine (F.keeps K).stL (fun s₃ F => ?_)
  refine wpAny_execs_cons (wpAny_Assign_Name ?_)
  refine evCallF (K := KF w) (by rfl) (fun Q' q => F.toFx.ldG rfl q) ?_
  refine wpAny_items_cons (F.toFx.ldL (by rfl) (wpAny_items_nil ⟨F.toFx.wd.X, ?_⟩))
  refine t115 F.toFx.wd (R.le (by omega)) (fun t s₄ K => ?_)
  refine (F.keeps K).stL (fun s₅ F => ?_)
  refine wpAny_execs_cons (wpAny_Return_some ?_)
  refine evMethS PySem.F.slot_str_startswith PySem.F.type_str_startswith ?_
  refine F.toFx.ldL (by rfl) ⟨_, _, rfl, ?_⟩
  refine wpAny_items_cons (F.toFx.ldL (by rfl) (wpAny_items_nil ?_))
  exact SC.startswith (hQ _ F.done)
end
end Mine

end

section
open PySem PySem.W PyProof.Rows PySem.Calls
set_option maxRecDepth 100000
namespace Mine

def Txts (h : Heap) (l : Addr) (xs : List Str) : Prop := ∃ vs : List Value, h.IsList l vs.toArray ∧ StrsAre vs xs
theorem Txts.sub {g h : Heap} {l : Addr} {xs : List Str} (x : Txts g l xs) (k : Sub g h) : Txts h l xs := let ⟨vs, a, b⟩ := x; ⟨vs, k.list a, b⟩

/-- what a comprehension asks of its test and of its element at an item -/
def TestOn (w : World) (A : Around) (cenv : Env) (ifs : List Expr) (b : Bool) (s : Shared) : Prop :=
  ∀ E', wpAny (model PR w) A (forIn ifs true fun c r => if r = true then do let ok ← isTrue c cenv (eval c cenv); pure (ForInStep.yield ok) else pure (ForInStep.yield r)) (fun ok s₄ => ok = b ∧ Keeps s s₄) E' s
def EltOn (w : World) (A : Around) (cenv : Env) (elt : Expr) (G : Value → Prop) (s : Shared) : Prop :=
  ∀ E', wpAny (model PR w) A (eval elt cenv) (fun y s₄ => G y ∧ Keeps s s₄) E' s

theorem TestOn.nil {w : World} {A : Around} {cenv : Env} {s : Shared} : TestOn w A cenv [] true s := fun _ => wpAny_tests_nil ⟨rfl, krefl _⟩
theorem TestOn.one {w : World} {A : Around} {cenv : Env} {s : Shared} {c : Expr} {b : Bool}
    (h : ∀ E', wpAny (model PR w) A (isTrue c cenv (eval c cenv)) (fun ok s₄ => ok = b ∧ Keeps s s₄) E' s) : TestOn w A cenv [c] b s := fun E' => wpAny_tests_one (h E')

section
variable {w : World} {A : Around} {E : Value → Shared → Prop} {s s₀ : Shared} {g : Heap} {env : Env} {m cm : Str → Option Value}

theorem Fx.cenv {scope : Scope} {cl : List (Str × Addr)} {C : Addr} {s₁ s₃ : Shared} {m₃ : Str → Option Value} (F : Fx w g env m cm s.heap) (K : Sub s.heap s₁.heap) (K' : Sub s₁.heap s₃.heap)
    (hcl : ∀ n c, cl.lookup n = some c → env.cells.lookup n = some c) (hkind : scope.kind = .function) (hn : s₃.heap.Ns C m₃) : Fx w s₁.heap (compEnvC scope cl C env) m₃ cm s₃.heap :=
  ⟨hn, fun n c e => ((F.cell n c (hcl n c e)).keeps K).keeps K', K', F.wd.sub K, hkind, F.gl, F.bu⟩

theorem Fx.lcomp {elt iter : Expr} {x : Str} {px : Pos} {ifs : List Expr} {scope : Scope} {cl : List (Str × Addr)} {pos : Pos} {Q : Value → Shared → Prop} (F : Fx w g env m cm s.heap)
    (p : Value → Bool) (G : Value → Value → Prop)
    (hclos : closureFor scope env = pure cl) (hcl : ∀ n c, cl.lookup n = some c → env.cells.lookup n = some c) (hx : scope.names.lookup x = some .local)
    (h : wpAny (model PR w) A (eval iter env) (fun xv s₁ => Keeps s s₁ ∧ wpAny (model PR w) A (pyIter xv) (fun it s₂ => ∃ I fp wr n P St, it = .ref I ∧ Walks PR w A I fp wr n P St ∧ n ≤ sizeLine ∧ St 0 s₂.heap ∧ (∀ b ∈ fp, b < s₂.heap.objs.size) ∧
      Keeps s₁ s₂ ∧ (∀ b ∈ wr, s₁.heap.get? b = none) ∧
      (∀ C i v s₃ m₃, P i v → m₃ x = some v → Fx w s₁.heap (compEnvC scope cl C env) m₃ cm s₃.heap → TestOn w A (compEnvC scope cl C env) ifs (p v) s₃) ∧
      (∀ C i v s₃ m₃, P i v → p v = true → m₃ x = some v → Fx w s₁.heap (compEnvC scope cl C env) m₃ cm s₃.heap → EltOn w A (compEnvC scope cl C env) elt (G v) s₃) ∧
      (∀ D s₄ (ys : Array Value) (vs : List Value), Keeps s s₄ → s₁.heap.get? D = none → s₄.heap.PlainList D ys → vs.length = n → (∀ j v, vs[j]? = some v → P j v) → Paired G (vs.filter p) ys.toList → Q (.ref D) s₄)) E s₁) E s)
    (hcell : ∀ y ∈ scope.names, y.2 ≠ .cell := by decide) (hkind : scope.kind = .function := by rfl) (hnames : ∀ y ∈ scope.names, y.2 = .local → scope.names.lookup y.1 = some .local := by decide)
    (hs : ∀ x, foldedSetIterable iter env x = pure x := by intro _; rfl) :
    wpAny (model PR w) A (eval (.ListComp elt [⟨.Name x px, iter, ifs, 0⟩] scope pos) env) Q E s := by
  refine wpAny_ListComp_free p G hclos hcell hkind hnames hx (wpAny_mono h (fun xv s₁ h₁ => wpAny_mono h₁.2 (fun it s₂ h₂ => ?_) fun _ _ e => e) fun _ _ e => e) hs
  obtain ⟨I, fp, wr, n, P, St, rfl, W, hn, hst, hfp, K₂, hwr, ht, he, hq⟩ := h₂
  have up : ∀ s₃ : Shared, (∀ b o, b ∉ wr → s₂.heap.get? b = some o → s₃.heap.get? b = some o) → Sub s₁.heap s₃.heap := fun s₃ hk b o e => hk b o (fun hm => by rw [hwr b hm] at e; cases e) (ksub K₂ b o e)
  refine ⟨I, fp, wr, n, P, St, rfl, W, hn, hst, hfp, ⟨fun C i v s₃ m₃ E' _ hP hns hm hk _ => ht C i v s₃ m₃ hP hm (F.cenv (ksub h₁.1) (up s₃ hk) hcl hkind hns) E',
    fun C i v s₃ m₃ E' _ hP hp hns hm hk _ => he C i v s₃ m₃ hP hp hm (F.cenv (ksub h₁.1) (up s₃ hk) hcl hkind hns) E'⟩, fun D h' tk ys vs hD _ hpl hlen hP hF hk => ?_⟩
  refine hq D _ ys vs ?_ ?_ hpl hlen hP hF
  · obtain ⟨ha, ta, rfl, ka⟩ := h₁.1
    obtain ⟨hb, tb, rfl, kb⟩ := K₂
    exact ⟨h', tk, rfl, fun b o e => up { s with heap := h' } (fun b o n e => hk b o n e) b o (ka b o e)⟩
  · cases q : s₁.heap.get? D with
    | none => rfl
    | some o => rw [ksub K₂ D o q] at hD; cases hD

/-- the source is a list -/
theorem Fx.lcompL {elt iter : Expr} {x : Str} {px : Pos} {ifs : List Expr} {scope : Scope} {cl : List (Str × Addr)} {pos : Pos} {Q : Value → Shared → Prop} (F : Fx w g env m cm s.heap) (hh : A.handled = none)
    (p : Value → Bool) (G : Value → Value → Prop)
    (hclos : closureFor scope env = pure cl) (hcl : ∀ n c, cl.lookup n = some c → env.cells.lookup n = some c) (hx : scope.names.lookup x = some .local)
    (h : wpAny (model PR w) A (eval iter env) (fun xv s₁ => Keeps s s₁ ∧ ∃ l items, xv = .ref l ∧ s₁.heap.IsList l (List.toArray items) ∧ items.length ≤ sizeLine ∧
      (∀ C v s₃ m₃, v ∈ items → m₃ x = some v → Fx w s₁.heap (compEnvC scope cl C env) m₃ cm s₃.heap → TestOn w A (compEnvC scope cl C env) ifs (p v) s₃) ∧
      (∀ C v s₃ m₃, v ∈ items → p v = true → m₃ x = some v → Fx w s₁.heap (compEnvC scope cl C env) m₃ cm s₃.heap → EltOn w A (compEnvC scope cl C env) elt (G v) s₃) ∧
      (∀ D s₄ (ys : List Value), Keeps s s₄ → s₁.heap.get? D = none → s₄.heap.PlainList D ys.toArray → Paired G (items.filter p) ys → Q (.ref D) s₄)) E s)
    (hcell : ∀ y ∈ scope.names, y.2 ≠ .cell := by decide) (hkind : scope.kind = .function := by rfl) (hnames : ∀ y ∈ scope.names, y.2 = .local → scope.names.lookup y.1 = some .local := by decide)
    (hs : ∀ x, foldedSetIterable iter env x = pure x := by intro _; rfl) :
    wpAny (model PR w) A (eval (.ListComp elt [⟨.Name x px, iter, ifs, 0⟩] scope pos) env) Q E s := by
  refine F.lcomp p G hclos hcl hx (wpAny_mono h (fun xv s₁ h₁ => ?_) fun _ _ e => e) hcell hkind hnames hs
  obtain ⟨K₁, l, items, rfl, hl, hsz, ht, he, hq⟩ := h₁
  have hlt : l < s₁.heap.objs.size := let ⟨o, ho, _⟩ := hl; Heap.lt_size ho
  have mem : ∀ {i v}, items.toArray[i]? = some v → v ∈ items := fun {i v} e => by simpa using Array.mem_of_getElem? e
  refine ⟨K₁, wpAny_pyIter_list hl ⟨_, _, _, _, _, _, rfl, Walks.list hh _ l (Nat.ne_of_lt hlt) items.toArray, by simpa using hsz, ⟨⟨_, Heap.get?_push_size _ rfl, rfl, rfl⟩, (Sub.push _ _).list hl⟩, ?_, kpush _ _, ?_, fun C i v s₃ m₃ hP => ht C v s₃ m₃ (mem hP), fun C i v s₃ m₃ hP => he C v s₃ m₃ (mem hP), ?_⟩⟩
  · intro b hb
    simp only [List.mem_cons, List.not_mem_nil, or_false] at hb
    rw [Heap.size_push]
    rcases hb with rfl | rfl
    · exact Nat.lt_succ_self _
    · exact Nat.lt_succ_of_lt hlt
  · intro b hb
    simp only [List.mem_cons, List.not_mem_nil, or_false] at hb
    subst hb
    exact Heap.get?_none_of_le (Nat.le_refl _)
  · intro D s₄ ys vs K hD hpl hlen hP hF
    have e : vs = items := by simpa using list_of_places hlen hP
    subst e
    exact hq D s₄ ys.toList K hD (by simpa using hpl) hF
end
end Mine

end

section
open PySem PySem.W PyProof.Rows PySem.Calls
set_option maxRecDepth 100000
namespace Mine

def keepP (v : Value) : Bool := match v with | .str p _ => !(p == "" || p == ".") | _ => false
def pieces (x : Str) : List Str := (Txt.split x "/").filter fun p => !(p == "" || p == ".")

theorem strs_filter {f : Value → Bool} {k : Str → Bool} (hk : ∀ x t, f (.str x t) = k x) : ∀ {vs : List Value} {xs : List Str}, StrsAre vs xs → StrsAre (vs.filter f) (xs.filter k)
  | _, _, .nil => .nil
  | _, _, .cons y t h => by
    rw [List.filter_cons, List.filter_cons, hk]
    cases k y with
    | true => exact .cons y t (strs_filter hk h)
    | false => exact strs_filter hk h
theorem paired_eq : ∀ {l ys : List Value}, Paired (fun v y => y = v) l ys → ys = l
  | _, _, .nil => rfl
  | _, _, .cons h t => by rw [h, paired_eq t]
theorem strs_mem {vs : List Value} {xs : List Str} (h : StrsAre vs xs) {v : Value} (hv : v ∈ vs) : ∃ x t, v = .str x t ∧ x ∈ xs := by
  induction h with
  | nil => cases hv
  | cons y t h ih =>
    rcases List.mem_cons.mp hv with rfl | hv
    · exact ⟨y, t, rfl, .head _⟩
    · obtain ⟨x, t, e, m⟩ := ih hv; exact ⟨x, t, e, .tail _ m⟩

theorem split_len {x : Str} (hsz : x.length ≤ 1000) : (Txt.split x "/").length ≤ 2000 := by
  have hn : (Builtin.Str.partsBetween x (Builtin.Str.occurrences x "/" 0 x.length (x.length + 1)) ("/" : Str).length).length ≤ 1002 := by
    have e1 := StrLaws.occ_length_le x "/" 0 x.length (x.length + 1)
    rw [length_partsBetween]; omega
  unfold Txt.split
  split
  · simp
  · split
    · simp
    · omega

section
variable {w : World} {A : Around} {E : Value → Shared → Prop} {s : Shared}
set_option maxHeartbeats 1000000

theorem split_slash {x : Str} {t u : Tok} {Q : Value → Shared → Prop} (hsz : x.length ≤ 1000)
    (h : ∀ D s' vs, Keeps s s' → s'.heap.IsList D (List.toArray vs) → StrsAre vs (Txt.split x "/") → (Txt.split x "/").length ≤ 2000 → Q (.ref D) s') :
    wpAny (model PR w) A (call (.builtin "str.split") [.str x t, .str "/" u]) Q E s := by
  have hn : (Builtin.Str.partsBetween x (Builtin.Str.occurrences x "/" 0 x.length (x.length + 1)) ("/" : Str).length).length ≤ 1002 := by
    have e1 := StrLaws.occ_length_le x "/" 0 x.length (x.length + 1)
    rw [length_partsBetween]; omega
  have hl : (Txt.split x "/").length ≤ 2000 := by
    unfold Txt.split
    split
    · simp
    · split
      · simp
      · omega
  refine SCH.split1 (P := fun h' => Sub s.heap h') (fun h ob k => k.trans (Sub.push _ _)) (Sub.refl _) (by decide) (fun D l h' k e hp hL => ?_) (by rw [sizeLine_eq]; omega) (by rw [sizeLine_eq]; omega)
  exact h D _ _ (kmk s k hp) hL (e ▸ strsAre_of_values l) hl

theorem t137 (W : Wd w s.heap) (R : Rm A 4) {x : Str} {u : Tok} (hsz : x.length ≤ 1000) {Q : Value → Shared → Prop}
    (hQ : ∀ l s', Keeps s s' → s.heap.get? l = none → Txts s'.heap l (pieces x) → Q (.ref l) s') :
    wpAny (model PR w) A (call (.ref 137) [.str x u]) Q E s := by
  refine callF (f := 137) W R rfl rfl rfl rfl rfl (fun L s₁ hL F R => ?_)
  dsimp only at F R ⊢
  refine wpAny_execs_cons (wpAny_Return_some ?_)
  refine F.toFx.lcompL (cl := []) R.hd keepP (fun v y => y = v) (closureFor_none (by decide)) (fun _ _ e => by cases e) (by rfl) ?_
  refine evMethS PySem.F.slot_str_split PySem.F.type_str_split ?_
  refine F.toFx.ldL (by rfl) ⟨_, _, rfl, ?_⟩
  refine wpAny_items_cons (Constant_str (wpAny_items_nil ?_))
  refine split_slash hsz (fun D s₂ vs K hl hS hlen => ⟨ktrans (ktok _ _) K, D, vs, rfl, hl, ?_, ?_, ?_, ?_⟩)
  · rw [hS.len_eq, sizeLine_eq]; omega
  · intro C v s₃ m₃ hv hm F₃
    obtain ⟨p, t, rfl, _⟩ := strs_mem hS hv
    refine TestOn.one (fun E' => wpAny_isTrue_Compare1 ?_)
    refine F₃.ldL hm ?_
    refine wpAny_Tuple (wpAny_items_cons (Constant_str (wpAny_items_cons (Constant_str (wpAny_items_nil ⟨by size_fits, ?_⟩)))))
    refine notin_tuple_strs (ys := ["", "."]) ⟨_, Heap.get?_push_size _ rfl, rfl, _, rfl⟩ (.cons _ _ (.cons _ _ .nil)) (wpAny_truthy_bool ⟨?_, ?_⟩)
    · show (!(List.any ["", "."] (· == p))) = !(p == "" || p == ".")
      simp only [List.any_cons, List.any_nil, Bool.or_false, BEq.comm (b := p)]
    · exact ktrans (ktrans (ktok _ _) (ktok _ _)) (kpush _ _)
  · intro C v s₃ m₃ hv hp hm F₃ E'
    exact F₃.ldL hm ⟨rfl, krefl _⟩
  · intro D s₄ ys K' hD hpl hF
    refine hQ D _ (F.keeps K').done ?_ ⟨ys, hpl.isList, ?_⟩
    · cases q : s.heap.get? D with
      | none => rfl
      | some o => rw [ksub (ktrans F.done (ktrans (ktok _ _) K)) D o q] at hD; cases hD
    · rw [paired_eq hF]
      exact strs_filter (fun _ _ => rfl) hS
end
end Mine

end

section
open PySem PySem.W PyProof.Rows PySem.Calls
set_option maxRecDepth 100000
namespace Mine

theorem walks_range {prog : Program} {w : World} {A : Around} (hh : A.handled = none) (I : Addr) (n : Nat) :
    Walks prog w A I [I] [I] n (fun i v => i < n ∧ ∃ t, v = .int (i : Nat) t) (fun i h => IsRangeIter h I (0 + (i : Nat) * 1) ((n : Int) - (i : Nat)) 1) :=
  let W := Walks.range (prog := prog) (w := w) hh I 0 1 n
  { sub := W.sub, frame := W.frame, done := W.done, self := W.self,
    item := fun i s Q E hi st hQ => W.item i s Q E hi st fun v h' tk hP => hQ v h' tk ⟨hi, let ⟨t, e⟩ := hP; ⟨t, by rw [e, Int.zero_add, Int.mul_one]⟩⟩ }

section
variable {w : World} {A : Around} {E : Value → Shared → Prop} {s s₀ : Shared} {g : Heap} {env : Env} {m cm : Str → Option Value}
/-- the source is range(N) -/
theorem Fx.lcompR {elt iter : Expr} {x : Str} {px : Pos} {ifs : List Expr} {scope : Scope} {cl : List (Str × Addr)} {pos : Pos} {Q : Value → Shared → Prop} (F : Fx w g env m cm s.heap) (hh : A.handled = none)
    (p : Value → Bool) (G : Value → Value → Prop)
    (hclos : closureFor scope env = pure cl) (hcl : ∀ n c, cl.lookup n = some c → env.cells.lookup n = some c) (hx : scope.names.lookup x = some .local)
    (h : wpAny (model PR w) A (eval iter env) (fun xv s₁ => Keeps s s₁ ∧ ∃ r N t u v, xv = .ref r ∧ IsRange s₁.heap r 0 N 1 t u v ∧ -(2 ^ 20) ≤ N ∧ N ≤ 2 ^ 20 ∧
      (∀ C (i : Nat) tk s₃ m₃, i < N.toNat → m₃ x = some (.int i tk) → Fx w s₁.heap (compEnvC scope cl C env) m₃ cm s₃.heap → TestOn w A (compEnvC scope cl C env) ifs (p (.int i tk)) s₃) ∧
      (∀ C (i : Nat) tk s₃ m₃, i < N.toNat → p (.int i tk) = true → m₃ x = some (.int i tk) → Fx w s₁.heap (compEnvC scope cl C env) m₃ cm s₃.heap → EltOn w A (compEnvC scope cl C env) elt (G (.int i tk)) s₃) ∧
      (∀ D s₄ (ys vs : List Value), Keeps s s₄ → s₁.heap.get? D = none → s₄.heap.PlainList D ys.toArray → vs.length = N.toNat → (∀ (j : Nat) v, vs[j]? = some v → ∃ t, v = .int j t) → Paired G (vs.filter p) ys → Q (.ref D) s₄)) E s)
    (hcell : ∀ y ∈ scope.names, y.2 ≠ .cell := by decide) (hkind : scope.kind = .function := by rfl) (hnames : ∀ y ∈ scope.names, y.2 = .local → scope.names.lookup y.1 = some .local := by decide)
    (hs : ∀ x, foldedSetIterable iter env x = pure x := by intro _; rfl) :
    wpAny (model PR w) A (eval (.ListComp elt [⟨.Name x px, iter, ifs, 0⟩] scope pos) env) Q E s := by
  refine F.lcomp p G hclos hcl hx (wpAny_mono h (fun xv s₁ h₁ => ?_) fun _ _ e => e) hcell hkind hnames hs
  obtain ⟨K₁, r, N, t, u, v, rfl, hr, hlo, hhi, ht, he, hq⟩ := h₁
  have hsz : Builtin.Range.rangeSize 0 N 1 = (N.toNat : Int) := by rw [rangeSize_one]; split <;> omega
  refine ⟨K₁, wpAny_pyIter_range hr (small_one (by decide) (by decide) (by omega) (by omega)) ⟨_, _, _, _, _, _, rfl, walks_range hh _ N.toNat, by rw [sizeLine_eq]; omega, ?_, ?_, kpush _ _, ?_, ?_, ?_, ?_⟩⟩
  · have e1 : (0 + ((0 : Nat) : Int) * 1) = 0 := by simp
    have e2 : ((N.toNat : Int) - ((0 : Nat) : Int)) = Builtin.Range.rangeSize 0 N 1 := by rw [hsz]; simp
    show IsRangeIter _ _ (0 + ((0 : Nat) : Int) * 1) ((N.toNat : Int) - ((0 : Nat) : Int)) 1
    rw [e1, e2]
    exact Heap.get?_push_size _ rfl
  · intro b hb
    simp only [List.mem_cons, List.not_mem_nil, or_false] at hb
    rw [Heap.size_push, hb]; exact Nat.lt_succ_self _
  · intro b hb
    simp only [List.mem_cons, List.not_mem_nil, or_false] at hb
    subst hb
    exact Heap.get?_none_of_le (Nat.le_refl _)
  · rintro C i v s₃ m₃ ⟨hi, t, rfl⟩ hm F₃
    exact ht C i t s₃ m₃ hi hm F₃
  · rintro C i v s₃ m₃ ⟨hi, t, rfl⟩ hp hm F₃
    exact he C i t s₃ m₃ hi hp hm F₃
  · intro D s₄ ys vs K hD hpl hlen hP hF
    exact hq D s₄ ys.toList vs K hD (by simpa using hpl) hlen (fun j v e => (hP j v e).2) hF
end

def strOfLe (n : Nat) (v : Value) : Prop := ∃ x t, v = .str x t ∧ x.length ≤ n

theorem strs_of_all {n : Nat} : ∀ {vs : List Value}, (∀ v ∈ vs, strOfLe n v) → ∃ xs, StrsAre vs xs ∧ ∀ x ∈ xs, x.length ≤ n
  | [], _ => ⟨[], .nil, fun _ h => nomatch h⟩
  | v :: r, h => by
    obtain ⟨x, t, rfl, hx⟩ := h v (.head _)
    obtain ⟨xs, a, b⟩ := strs_of_all fun v hv => h v (.tail _ hv)
    exact ⟨x :: xs, .cons x t a, fun y hy => by rcases List.mem_cons.mp hy with rfl | hy; exact hx; exact b y hy⟩
theorem paired_all {α β : Type} {F : α → β → Prop} {P : β → Prop} (hP : ∀ a b, F a b → P b) : ∀ {l : List α} {ys : List β}, Paired F l ys → ∀ y ∈ ys, P y
  | _, _, .nil, _, h => nomatch h
  | _, _, .cons a t, y, h => by
    rcases List.mem_cons.mp h with rfl | h
    · exact hP _ _ a
    · exact paired_all hP t y h

theorem six_at (a b c d e f : Tok) {q : Nat} (hq : q < 6) : ∃ x t, ([Value.str "a" a, .str "b" b, .str "." c, .str "" d, .str "ab" e, .str ".." f] : List Value)[q]? = some (.str x t) ∧ x.length ≤ 2 ∧ seqIndex? (q : Int) 6 = some q := by
  match q, hq with
  | 0, _ => exact ⟨"a", a, rfl, by decide, by decide⟩
  | 1, _ => exact ⟨"b", b, rfl, by decide, by decide⟩
  | 2, _ => exact ⟨".", c, rfl, by decide, by decide⟩
  | 3, _ => exact ⟨"", d, rfl, by decide, by decide⟩
  | 4, _ => exact ⟨"ab", e, rfl, by decide, by decide⟩
  | 5, _ => exact ⟨"..", f, rfl, by decide, by decide⟩
  | q + 6, h => exact absurd h (by omega)
theorem txt_join (sep : Str) (ys : List Str) : Txt.join sep ys = Str.join sep ys := by
  unfold Txt.join
  rw [StrLaws.glued_eq_join]
theorem pow_six_fits {i : Nat} (hi : i < 4) : (6 : Int) ^ i ≠ 0 ∧ ((6 : Int) ^ i).natAbs < 1073741824 := by
  rcases i with _ | _ | _ | _ | i
  · decide
  · decide
  · decide
  · decide
  · omega
theorem pow_six {prog : Program} {w : World} {A : Around} {E : Value → Shared → Prop} {s : Shared} {i : Nat} {t u : Tok} {Q : Value → Shared → Prop} (hi : i < 4)
    (h : Q (.int (6 ^ i) s.toks) { s with toks := s.toks + 1 }) : wpAny (model prog w) A (binaryOp .Pow (.int 6 t) (.int (i : Nat) u)) Q E s := by
  refine pow_int (by omega) ?_ ?_
  · have : Builtin.Int.intBits 6 = 3 := by decide +kernel
    rw [this]; omega
  · rw [Int.toNat_natCast]; exact h
theorem rest_six (a : Int) : ∃ q : Nat, a.fmod 6 = q ∧ q < 6 :=
  ⟨(a.fmod 6).toNat, by have := fmod_lo a (n := 6) (by decide); omega, by have := fmod_hi a (n := 6) (by decide); have := fmod_lo a (n := 6) (by decide); omega⟩

section
variable {w : World} {A : Around} {E : Value → Shared → Prop} {s : Shared}
set_option maxHeartbeats 2000000

theorem t132 (W : Wd w s.heap) (R : Rm A 4) {n : Int} {u : Tok} (h0 : 0 ≤ n) (h1 : n < 10 ^ 9) {Q : Value → Shared → Prop}
    (hQ : ∀ x t s', Keeps s s' → x.length ≤ 20 → Q (.str x t) s') :
    wpAny (model PR w) A (call (.ref 132) [.int n u]) Q E s := by
  refine callF (f := 132) W R rfl rfl rfl rfl rfl (fun L s₁ hL F R => ?_)
  dsimp only at F R ⊢
  refine wpAny_execs_cons (wpAny_Assign_Name ?_)
  refine wpAny_mono (Q := fun v s' => strOfLe 1 v ∧ Keeps s₁ s') (wpAny_IfExp (wpAny_isTrue_Compare1 ?_)) ?_ (fun _ _ e => e)
  · refine wpAny_BinOp (F.toFx.ldC (by rfl) (by rfl) (wpAny_Constant_int ?_))
    refine mod_int' (by decide) (wpAny_Constant_int (eq_int (wpAny_truthy_bool ?_)))
    generalize (n.fmod 2 == 0) = b
    cases b with
    | true => exact Constant_str ⟨⟨_, _, rfl, by decide⟩, ktok _ _⟩
    | false => exact Constant_str ⟨⟨_, _, rfl, by decide⟩, ktok _ _⟩
  rintro v s₂ ⟨⟨x, t, rfl, hx⟩, K⟩
  refine (F.keeps K).stL (fun s₃ F => ?_)
  refine wpAny_execs_cons (wpAny_Return_some (wpAny_BinOp (F.toFx.ldL (by rfl) ?_)))
  refine evMethS PySem.F.slot_str_join PySem.F.type_str_join (Constant_str ⟨_, _, rfl, ?_⟩)
  have F := F.keeps (ktok s₃ (s₃.toks + 1))
  refine wpAny_items_cons (F.toFx.lcompR R.hd (fun _ => true) (fun _ y => strOfLe 2 y) (by rfl) (fun n c e => ?_) (by rfl) ?_)
  · exact e
  refine evCallM (fun Q' q => F.toFx.ldB rfl rfl q) ?_
  refine wpAny_items_cons (wpAny_BinOp (wpAny_BinOp (F.toFx.ldC (by rfl) (by rfl) (wpAny_Constant_int ?_))))
  refine PyProof.Rows.floordiv_int (by decide) (wpAny_Constant_int (mod_int' (by decide) (wpAny_items_nil ?_)))
  refine call_range_1 ⟨?_, _, _, _, _, _, rfl, IsRange.new .., ?_, ?_, ?_, ?_, ?_⟩
  · exact ktrans (ktrans (ktrans (ktrans (ktok _ _) (ktok _ _)) (ktok _ _)) (ktok _ _)) (kmk _ _ (Sub.push _ _))
  · have := fmod_lo (n.fdiv 2) (n := 4) (by decide); omega
  · have := fmod_hi (n.fdiv 2) (n := 4) (by decide); omega
  · intro C i tk s₅ m₅ hi hm F₅
    exact TestOn.nil
  · intro C i tk s₅ m₅ hi _ hm F₅ E'
    have hN := fmod_hi (n.fdiv 2) (n := 4) (by decide)
    have hi4 : i < 4 := by omega
    refine Subscript_ (wpAny_Tuple ?_)
    refine wpAny_items_cons (Constant_str (wpAny_items_cons (Constant_str (wpAny_items_cons (Constant_str (wpAny_items_cons (Constant_str (wpAny_items_cons (Constant_str (wpAny_items_cons (Constant_str (wpAny_items_nil ⟨by size_fits, ?_⟩))))))))))))
    have F₆ := F₅.sub (Sub.push _ { cls := .type "tuple", data := .seq (List.toArray [.str "a" s₅.toks, .str "b" (s₅.toks + 1), .str "." (s₅.toks + 1 + 1), .str "" (s₅.toks + 1 + 1 + 1), .str "ab" (s₅.toks + 1 + 1 + 1 + 1), .str ".." (s₅.toks + 1 + 1 + 1 + 1 + 1)]) })
    refine wpAny_BinOp (wpAny_BinOp (wpAny_BinOp (F₆.ldC (by rfl) (by rfl) (wpAny_Constant_int ?_))))
    refine PyProof.Rows.floordiv_int (by decide) (wpAny_BinOp (wpAny_Constant_int (F₆.ldL hm ?_)))
    refine pow_six hi4 ?_
    have hpow := pow_six_fits hi4
    refine PyProof.Rows.floordiv_int hpow.1 (wpAny_Constant_int (mod_int' (by decide) ?_)) (.inl (PyProof.noPylong_small hpow.2))
    refine Exists.elim (rest_six ((n.fdiv 8).fdiv (6 ^ i))) fun q hq' => ?_
    have hq := hq'.1
    refine Exists.elim (six_at s₅.toks (s₅.toks + 1) (s₅.toks + 1 + 1) (s₅.toks + 1 + 1 + 1) (s₅.toks + 1 + 1 + 1 + 1) (s₅.toks + 1 + 1 + 1 + 1 + 1) hq'.2) fun x' hx' => Exists.elim hx' fun t' hx' => ?_
    refine item_tupleT (j := q) ⟨_, Heap.get?_push_size _ rfl, rfl, _, rfl⟩ (by rw [hq]; omega) (by rw [hq]; omega) ((congrArg (fun z => seqIndex? z 6) hq).trans hx'.2.2) hx'.1 ⟨⟨x', t', rfl, hx'.2.1⟩, ?_⟩
    · exact ⟨_, _, rfl, Sub.push _ _⟩
  · intro D s₅ ys vs K hD hpl hlen hvs hF
    have hlen' : ys.length ≤ 4 := by
      have := hF.length
      have e := List.length_filter_le (fun _ : Value => true) vs
      have hN := fmod_hi (n.fdiv 2) (n := 4) (by decide)
      omega
    obtain ⟨xs, hS, hle⟩ := strs_of_all (n := 2) (paired_all (P := strOfLe 2) (fun _ _ h => h) hF)
    have hxs : xs.length ≤ 4 := by rw [← hS.len_eq]; exact hlen'
    have hsum : (xs.map (·.length)).sum ≤ 8 := by
      have : ∀ l : List Str, (∀ x ∈ l, x.length ≤ 2) → (l.map (·.length)).sum ≤ 2 * l.length := by
        intro l; induction l with
        | nil => intro _; simp
        | cons y r ih => intro h; have h1 := h y (.head _); have h2 := ih fun x hx => h x (.tail _ hx); simp only [List.map_cons, List.sum_cons, List.length_cons]; omega
      have := this xs hle; omega
    have hj : (Txt.join "/" xs).length ≤ 12 := by
      have h1 := StrLaws.join_length_le "/" xs
      have h2 : ("/" : Str).length = 1 := by decide
      rw [h2] at h1
      rw [txt_join]
      omega
    refine wpAny_items_nil (join_list hpl.isList hS ?_ (fun t' k => ?_))
    · have h2 : ("/" : Str).length = 1 := by decide
      rw [h2]; omega
    · refine add_str (fun t'' k' => hQ _ _ _ ?_ ?_) ?_
      · exact ((F.keeps K).keeps (ktok _ k')).done
      · rw [Str.length_append]; omega
      · rw [sizeLine_eq]; omega
end
end Mine

end

section
open PySem PySem.W PyProof.Rows PySem.Calls
set_option maxRecDepth 100000
namespace Mine

theorem wpAny_any {α : Type} {M : Model} {A : Around} {t : Sem α} {Q : α → Shared → Prop} {E : Value → Shared → Prop} {s : Shared} (h : wpAny M A t Q (fun _ _ => False) s) : wpAny M A t Q E s :=
  wpAny_mono h (fun _ _ q => q) fun _ _ q => q.elim

theorem execs_nil' {M : Model} {A : Around} {E : Value → Shared → Prop} {s : Shared} {env : Env} {Q : Flow → Shared → Prop} (h : Q .next s) :
    (match Flow.next with | .next => wpAny M A (execs [] env) Q E s | f => Q f s) := wpAny_execs_nil h
abbrev iterObj (l : Addr) : Obj := { cls := .type "list_iterator", data := .fields #[.ref l, .int 0 0] }

section
variable {w : World} {A : Around} {s s₀ : Shared} {g : Heap} {env : Env}

/-- a for over a list, by an invariant that speaks of the iterator's address and of what is taken -/
theorem forL {x : Str} {px pos : Pos} {iter : Expr} {body : List Stmt} {Q : Flow → Shared → Prop} (hh : A.handled = none)
    (h : wpAny (model PR w) A (eval iter env) (fun xv s₁ => ∃ l items, ∃ J : Addr → List Value → Shared → Prop, xv = .ref l ∧ s₁.heap.IsList l (List.toArray items) ∧
      (∀ s₂ : Shared, s₂ = { s₁ with heap := s₁.heap.push (iterObj l) } → J s₁.heap.objs.size [] s₂) ∧
      (∀ I pre s', J I pre s' → s'.heap.IsList l (List.toArray items)) ∧
      (∀ I pre s' h', J I pre s' → Heap.ExtBut I s'.heap h' → J I pre { s' with heap := h' }) ∧
      (∀ I pre v post s', items = pre ++ v :: post → J I pre s' → s'.heap.IsListIter I l (pre.length + 1) →
        wpAny (model PR w) A (storeName env x v) (fun _ s'' => wpAny (model PR w) A (execs body env) (fun f s₃ => match f with
          | .next | .cont => J I (pre ++ [v]) s₃ ∧ s₃.heap.IsListIter I l (pre.length + 1)
          | .brk => Q .next s₃
          | .ret v => Q (.ret v) s₃) (fun _ _ => False) s'') (fun _ _ => False) s') ∧
      (∀ I s', J I items s' → Q .next s')) (fun _ _ => False) s)
    (hs : ∀ x, foldedSetIterable iter env x = pure x := by intro _; rfl) :
    wpAny (model PR w) A (exec (.For (.Name x px) iter body [] pos) env) Q (fun _ _ => False) s := by
  refine wpAny_For (wpAny_mono h (fun xv s₁ h₁ => ?_) fun _ _ e => e) hs
  obtain ⟨l, items, J, rfl, hl, j0, jl, jx, step, fin⟩ := h₁
  refine wpAny_pyIter_list hl ?_
  refine codeAny_forLoop_any (fun n s' => ∃ pre post, items = pre ++ post ∧ J s₁.heap.objs.size pre s' ∧ s'.heap.IsListIter s₁.heap.objs.size l pre.length ∧ n = post.length + 1) ?_ (items.length + 1)
    ⟨[], items, rfl, j0 _ rfl, ⟨_, Heap.get?_push_size _ rfl, rfl, rfl⟩, rfl⟩
  rintro n s' ⟨pre, post, he, hJ, hit, rfl⟩
  have hl' := jl _ _ _ hJ
  cases post with
  | nil =>
    refine wpAny_pyNext_list_end hh hit hl' (by rw [he]; simp) fun h' hx => wpAny_execs_nil ?_
    refine fin s₁.heap.objs.size _ ?_
    rw [he, List.append_nil]
    exact jx _ _ _ _ hJ hx
  | cons v post =>
    refine wpAny_pyNext_list_item hit hl' (x := v) (by rw [he]; simp) fun h' hit' hs' => ?_
    refine wpAny_of_eq (a := ()) rfl ?_
    refine wpAny_assign_Name (wpAny_any ?_)
    refine wpAny_mono (step _ pre v post _ he (jx _ _ _ _ hJ hs'.extBut) hit') (fun _ s₃ h₃ => wpAny_any (wpAny_mono h₃ (fun f s₄ h₄ => ?_) fun _ _ e => e)) fun _ _ e => e
    have again : J s₁.heap.objs.size (pre ++ [v]) s₄ ∧ s₄.heap.IsListIter s₁.heap.objs.size l (pre.length + 1) → ∃ m, m < (v :: post).length + 1 ∧ ∃ pre post, items = pre ++ post ∧ J s₁.heap.objs.size pre s₄ ∧ s₄.heap.IsListIter s₁.heap.objs.size l pre.length ∧ m = post.length + 1 := fun q =>
      ⟨post.length + 1, by simp, pre ++ [v], post, by rw [he]; simp, q.1, by simpa using q.2, rfl⟩
    cases f with
    | next => exact again h₄
    | cont => exact again h₄
    | brk => exact h₄
    | ret v => exact h₄
end

section
variable {w : World} {A : Around} {E : Value → Shared → Prop} {s s₀ : Shared} {g : Heap} {env : Env} {m cm : Str → Option Value}

theorem Fm.but (F : Fm w s₀ g env m cm s) {D : Addr} {h' : Heap} {tk : Nat} (hx : Heap.ExtBut D s.heap h') (h1 : D ≠ env.locals) (h2 : ∀ p ∈ env.cells, D ≠ p.2) (h3 : g.get? D = none) : Fm w s₀ g env m cm { s with heap := h', toks := tk } :=
  ⟨⟨F.toFx.ns.extBut hx (Ne.symm h1), fun n c e => let ⟨o, ho, hd⟩ := F.toFx.cell n c e; ⟨o, hx c o (Ne.symm (h2 _ (mem_of_lookup e))) ho, hd⟩, fun b o e => hx b o (by rintro rfl; rw [h3] at e; cases e) (F.toFx.keep b o e), F.toFx.W, F.toFx.k, F.toFx.gl, F.toFx.bu⟩,
    by obtain ⟨h, t, rfl⟩ := F.same; exact ⟨_, _, rfl⟩, F.low, F.Lg, F.Cg, F.LC, F.apart, fun p hp => let ⟨v, o, ho, hd⟩ := F.cw p hp; ⟨v, o, hx _ o (Ne.symm (h2 p hp)) ho, hd⟩⟩

/-- storing a local, with what stays -/
theorem Fm.stL' {M : Model} {x : Str} {v : Value} {Q : Unit → Shared → Prop} (F : Fm w s₀ g env m cm s)
    (h : ∀ s', Fm w s₀ g env (fun y => if y = x then some v else m y) cm s' → (∀ b o, b ≠ env.locals → s.heap.get? b = some o → s'.heap.get? b = some o) → Q () s') (hl : env.kindOf x = some .local := by rfl) : wpAny M A (storeName env x v) Q E s := by
  refine wpAny_storeName_local hl F.toFx.ns (fun h' hn' hs' => h _ ⟨⟨hn', fun n c e => (F.toFx.cell n c e).sameBut hs' (F.LC _ (mem_of_lookup e)), fun b o e => ?_, F.toFx.W, F.toFx.k, F.toFx.gl, F.toFx.bu⟩, ?_, F.low, F.Lg, F.Cg, F.LC, F.apart, fun p hp => let ⟨v, e⟩ := F.cw p hp; ⟨v, e.sameBut hs' (F.LC p hp)⟩⟩ hs'.extBut) (by rw [F.toFx.k]; rfl)
  · exact hs'.extBut b o (by rintro rfl; rw [F.Lg] at e; cases e) (F.toFx.keep b o e)
  · obtain ⟨h₁, t, rfl⟩ := F.same; exact ⟨h', _, rfl⟩
end

abbrev envFm {w s₀ g env m cm s} (_ : Fm w s₀ g env m cm s) : Env := env

def PredOn (w : World) (g : Heap) (d : Nat) (pv : Value) (p : Str → Bool) (xs : List Str) : Prop :=
  (∃ a o fd, pv = .ref a ∧ g.get? a = some o ∧ o.data = .func fd) ∧
  ∀ (A : Around) (s : Shared) (x : Str) (t : Tok) (Q E : Value → Shared → Prop), x ∈ xs → Sub g s.heap → Rm A d → (∀ s', Keeps s s' → Q (.bool (p x)) s') → wpAny (model PR w) A (call pv [.str x t]) Q E s

theorem pred_isabs {w : World} {g : Heap} (W : Wd w g) (xs : List Str) : PredOn w g 4 (.ref 122) (fun x => Txt.startswith x "/") xs :=
  ⟨⟨122, _, _, rfl, W.X 122 _ rfl, rfl⟩, fun _ _ _ _ _ _ _ hs R h => t122 (W.sub hs) R h⟩

section
variable {M : Model} {A : Around} {E : Value → Shared → Prop} {s : Shared} {env : Env}
/-- a call by a name: the callee is a def's object that the heap holds -/
theorem evCallV {x : Str} {np pos : Pos} {args : List Expr} {a : Addr} {o : Obj} {fd : FuncData} {Q : Value → Shared → Prop} (hd : o.data = .func fd)
    (hf : ∀ Q' : Value → Shared → Prop, Q' (.ref a) s → wpAny M A (eval (.Name x np) env) Q' E s)
    (h : wpAny M A (spliced (backTo pos (starEach args env))) (fun vs s₁ => s₁.heap.get? a = some o ∧ wpAny M A (call (.ref a) vs) Q E s₁) E s)
    (he : starEach args env = args.map (fun e => (false, eval e env)) := by rfl) :
    wpAny M A (eval (.Call (.Name x np) args [] pos) env) Q E s := by
  refine wpAny_Call_ofName (hf _ ?_)
  refine callWith_function (o := o) (fd := fd) ?_
  exact evArgs (wpAny_mono h (fun vs s' q => ⟨⟨q.1, hd⟩, by simpa using q.2⟩) fun _ _ q => q) he
end

theorem strs_snoc {vs : List Value} {xs : List Str} (h : StrsAre vs xs) (x : Str) (t : Tok) : StrsAre (vs ++ [.str x t]) (xs ++ [x]) := h.append' (.cons x t .nil)

section
variable {w : World} {A : Around} {E : Value → Shared → Prop} {s : Shared}
set_option maxHeartbeats 2000000

structure SplitI (w : World) (s₀ : Shared) (env : Env) (l Y N : Addr) (pv : Value) (p : Str → Bool) (xs : List Str) (items : List Value) (I : Addr) (pre : List Value) (s : Shared) : Prop where
  fm : ∃ m, Fm w s₀ s₀.heap env m (fun _ => none) s ∧ m "yes" = some (.ref Y) ∧ m "no" = some (.ref N) ∧ m "predicate" = some pv
  own : ∀ D, D = Y ∨ D = N ∨ D = I → D ≠ env.locals ∧ s₀.heap.get? D = none
  ap : Y ≠ N ∧ Y ≠ I ∧ N ≠ I
  lists : ∃ px ys ns, StrsAre pre px ∧ (∀ x ∈ px, x ∈ xs) ∧ s.heap.PlainList Y (List.toArray ys) ∧ s.heap.PlainList N (List.toArray ns) ∧ StrsAre ys (px.filter p) ∧ StrsAre ns (px.filter fun x => !p x)

theorem t28 (W : Wd w s.heap) (R : Rm A 8) {l : Addr} {xs : List Str} {pv : Value} {p : Str → Bool} {d : Nat} (hd : d ≤ 7) (hl : Txts s.heap l xs) (hx : xs.length ≤ 1000) (hp : PredOn w s.heap d pv p xs) {Q : Value → Shared → Prop}
    (hQ : ∀ T Y N s', Keeps s s' → s'.heap.IsTuple T #[.ref Y, .ref N] → Txts s'.heap Y (xs.filter p) → Txts s'.heap N (xs.filter fun x => !p x) → Q (.ref T) s') :
    wpAny (model PR w) A (call (.ref 28) [.ref l, pv]) Q E s := by
  obtain ⟨items, hl, hS⟩ := hl
  obtain ⟨⟨fa, fo, ffd, rfl, hfo, hfd⟩, hp⟩ := hp
  refine callF (f := 28) W R rfl rfl rfl rfl rfl (fun L s₁ hL F R => ?_)
  dsimp only at F R ⊢
  refine wpAny_execs_cons (wpAny_Assign_Name (wpAny_List (wpAny_items_nil ⟨by size_fits, ?_⟩)))
  refine (F.keeps (kpush _ _)).stL' (fun s₂ F₂ k₂ => ?_)
  refine wpAny_execs_cons (wpAny_Assign_Name (wpAny_List (wpAny_items_nil ⟨by size_fits, ?_⟩)))
  refine (F₂.keeps (kpush _ _)).stL' (fun s₃ F₃ k₃ => ?_)
  have hYL : s₁.heap.objs.size ≠ L := Nat.ne_of_gt F.toFx.ns.lt
  have hNL : s₂.heap.objs.size ≠ L := Nat.ne_of_gt F₂.toFx.ns.lt
  have hIL : s₃.heap.objs.size ≠ L := Nat.ne_of_gt F₃.toFx.ns.lt
  have fresh : ∀ D, L < D → s.heap.get? D = none := fun D h => Heap.get?_none_of_le (by omega)
  have hY₂ : s₂.heap.PlainList s₁.heap.objs.size (List.toArray []) := ⟨_, k₂ _ _ hYL (Heap.get?_push_size _ rfl)⟩
  have hY₃ : s₃.heap.PlainList s₁.heap.objs.size (List.toArray []) := let ⟨n, e⟩ := hY₂; ⟨n, k₃ _ _ hYL (Heap.get?_push_of_some _ e)⟩
  have hN₃ : s₃.heap.PlainList s₂.heap.objs.size (List.toArray []) := ⟨_, k₃ _ _ hNL (Heap.get?_push_size _ rfl)⟩
  have hYN : s₁.heap.objs.size < s₂.heap.objs.size := let ⟨_, e⟩ := hY₂; Heap.lt_size e
  have hNI : s₂.heap.objs.size < s₃.heap.objs.size := let ⟨_, e⟩ := hN₃; Heap.lt_size e
  refine wpAny_execs_cons (forL R.hd ?_)
  refine F₃.toFx.ldL (by rfl) ⟨l, items, SplitI w s (envFm F₃) l s₁.heap.objs.size s₂.heap.objs.size (.ref fa) p xs items, rfl, F₃.toFx.list hl, ?_, ?_, ?_, ?_, ?_⟩
  · rintro s₄ rfl
    refine ⟨⟨_, F₃.keeps (kpush _ _), rfl, rfl, rfl⟩, ?_, ⟨Nat.ne_of_lt hYN, Nat.ne_of_lt (Nat.lt_trans hYN hNI), Nat.ne_of_lt hNI⟩, [], [], [], .nil, (fun _ h => (nomatch h)), ?_, ?_, .nil, .nil⟩
    · rintro D (rfl | rfl | rfl)
      · exact ⟨hYL, fresh _ F.toFx.ns.lt⟩
      · exact ⟨hNL, fresh _ F₂.toFx.ns.lt⟩
      · exact ⟨hIL, fresh _ F₃.toFx.ns.lt⟩
    · exact let ⟨n, e⟩ := hY₃; ⟨n, Heap.get?_push_of_some _ e⟩
    · exact let ⟨n, e⟩ := hN₃; ⟨n, Heap.get?_push_of_some _ e⟩
  · rintro I pre s' ⟨⟨m', F', _⟩, _⟩
    exact F'.toFx.list hl
  · rintro I pre s' h' ⟨⟨m', F', e1, e2, e3⟩, own, ap, px, ys, ns, a1, a2, a3, a4, a5, a6⟩ hx
    exact ⟨⟨m', F'.but (tk := s'.toks) hx (own I (.inr (.inr rfl))).1 (fun _ h => (nomatch h)) (own I (.inr (.inr rfl))).2, e1, e2, e3⟩, own, ap, px, ys, ns, a1, a2, a3.extBut hx ap.2.1, a4.extBut hx ap.2.2, a5, a6⟩
  · rintro I pre v post s' he ⟨⟨m', F', e1, e2, e3⟩, own, ap, px, ys, ns, a1, a2, a3, a4, a5, a6⟩ hit
    obtain ⟨x, t, rfl, hx⟩ := strs_mem hS (by rw [he]; simp : v ∈ items)
    refine F'.stL' (fun s'' F'' k'' => ?_)
    have b3 : s''.heap.PlainList s₁.heap.objs.size (List.toArray ys) := a3.at fun o e => k'' _ o hYL e
    have b4 : s''.heap.PlainList s₂.heap.objs.size (List.toArray ns) := a4.at fun o e => k'' _ o hNL e
    have bit : s''.heap.IsListIter I l (pre.length + 1) := hit.at fun o e => k'' _ o (own I (.inr (.inr rfl))).1 e
    have hpx : (px ++ [x]).length ≤ 1000 := by
      have h1 := hS.len_eq
      have h2 := a1.len_eq
      rw [he] at h1
      simp only [List.length_append, List.length_cons, List.length_nil] at h1 ⊢
      omega
    have hys : ys.length ≤ 1000 := by
      have h1 := a5.len_eq
      have h2 := List.length_filter_le p px
      simp only [List.length_append, List.length_cons, List.length_nil] at hpx
      omega
    have hns : ns.length ≤ 1000 := by
      have h1 := a6.len_eq
      have h2 := List.length_filter_le (fun x => !p x) px
      simp only [List.length_append, List.length_cons, List.length_nil] at hpx
      omega
    refine wpAny_execs_cons (wpAny_If (isTrue_plain (evCallV hfd (fun Q' q => F''.toFx.ldL ((if_neg (by decide)).trans e3) q) ?_)))
    refine wpAny_items_cons (F''.toFx.ldL (if_pos rfl) (wpAny_items_nil ⟨F''.toFx.keep _ _ hfo, ?_⟩))
    refine hp _ _ _ _ _ _ hx F''.toFx.keep (R.le (by omega)) (fun s₅ K => wpAny_truthy_bool ?_)
    have F₅ := F''.keeps K
    have c3 : s₅.heap.PlainList s₁.heap.objs.size (List.toArray ys) := b3.at fun o e => ksub K _ o e
    have c4 : s₅.heap.PlainList s₂.heap.objs.size (List.toArray ns) := b4.at fun o e => ksub K _ o e
    have cit : s₅.heap.IsListIter I l (pre.length + 1) := bit.at fun o e => ksub K _ o e
    cases hpx' : p x with
    | true =>
      show wpAny _ _ _ _ _ _
      refine wpAny_execs_cons (wpAny_Expr_any (evMeth PySem.F.plainAttrs_list slot_list_append PySem.type_list_append ?_))
      refine F₅.toFx.ldL ((if_neg (by decide)).trans e1) ⟨c3.isList.typeIs, fun a e => ?_, ?_⟩
      · cases e; obtain ⟨n, e⟩ := c3; exact ⟨_, e, rfl⟩
      refine wpAny_items_cons (F₅.toFx.ldL (if_pos rfl) (wpAny_items_nil ?_))
      refine wpAny_list_append_plain c3 (fun h' hl' hs' => execs_nil' (execs_nil' ⟨⟨⟨_, F₅.but (tk := s₅.toks) hs'.extBut hYL (fun _ h => (nomatch h)) (own _ (.inl rfl)).2, (if_neg (by decide)).trans e1, (if_neg (by decide)).trans e2, (if_neg (by decide)).trans e3⟩, own, ap, px ++ [x], ys ++ [.str x t], ns, strs_snoc a1 x t, ?_, by simpa using hl', c4.extBut hs'.extBut (Ne.symm ap.1), ?_, ?_⟩, cit.extBut hs'.extBut (Ne.symm ap.2.1)⟩)) (by rw [sizeLine_eq]; simpa using by omega)
      · intro y hy
        rcases List.mem_append.mp hy with hy | hy
        · exact a2 y hy
        · rw [List.mem_singleton.mp hy]; exact hx
      · rw [List.filter_append, List.filter_cons, hpx']; exact strs_snoc a5 x t
      · rw [List.filter_append, List.filter_cons, hpx']; simpa using a6
    | false =>
      show wpAny _ _ _ _ _ _
      refine wpAny_execs_cons (wpAny_Expr_any (evMeth PySem.F.plainAttrs_list slot_list_append PySem.type_list_append ?_))
      refine F₅.toFx.ldL ((if_neg (by decide)).trans e2) ⟨c4.isList.typeIs, fun a e => ?_, ?_⟩
      · cases e; obtain ⟨n, e⟩ := c4; exact ⟨_, e, rfl⟩
      refine wpAny_items_cons (F₅.toFx.ldL (if_pos rfl) (wpAny_items_nil ?_))
      refine wpAny_list_append_plain c4 (fun h' hl' hs' => execs_nil' (execs_nil' ⟨⟨⟨_, F₅.but (tk := s₅.toks) hs'.extBut hNL (fun _ h => (nomatch h)) (own _ (.inr (.inl rfl))).2, (if_neg (by decide)).trans e1, (if_neg (by decide)).trans e2, (if_neg (by decide)).trans e3⟩, own, ap, px ++ [x], ys, ns ++ [.str x t], strs_snoc a1 x t, ?_, c3.extBut hs'.extBut ap.1, by simpa using hl', ?_, ?_⟩, cit.extBut hs'.extBut (Ne.symm ap.2.2)⟩)) (by rw [sizeLine_eq]; simpa using by omega)
      · intro y hy
        rcases List.mem_append.mp hy with hy | hy
        · exact a2 y hy
        · rw [List.mem_singleton.mp hy]; exact hx
      · rw [List.filter_append, List.filter_cons, hpx']; simpa using a5
      · rw [List.filter_append, List.filter_cons, hpx']; exact strs_snoc a6 x t
  · rintro I s' ⟨⟨m', F', e1, e2, e3⟩, own, ap, px, ys, ns, a1, a2, a3, a4, a5, a6⟩
    have hpx : px = xs := by
      have h1 := a1.strs
      have h2 := hS.strs
      rw [← h1, ← h2]
    subst hpx
    refine wpAny_execs_cons (wpAny_Return_some (wpAny_Tuple ?_))
    refine wpAny_items_cons (F'.toFx.ldL e1 (wpAny_items_cons (F'.toFx.ldL e2 (wpAny_items_nil ⟨by size_fits, ?_⟩))))
    refine hQ _ s₁.heap.objs.size s₂.heap.objs.size _ (F'.keeps (kpush _ _)).done ⟨_, Heap.get?_push_size _ rfl, rfl, _, rfl⟩ ⟨ys, (Sub.push _ _).list a3.isList, a5⟩ ⟨ns, (Sub.push _ _).list a4.isList, a6⟩
end
end Mine

end

section
open PySem PySem.W PyProof.Rows PySem.Calls
set_option maxRecDepth 100000
namespace Mine

section
variable {prog : Program} {w : World} {A : Around} {E : Value → Shared → Prop} {s : Shared} {env : Env}

/-- value[:e] of a list -/
theorem evTake {value e : Expr} {p pos : Pos} {Q : Value → Shared → Prop}
    (h : wpAny (model prog w) A (eval value env) (fun o s₁ => wpAny (model prog w) A (eval e env) (fun v s₃ => ∃ l items, ∃ k : Nat, ∃ t, o = .ref l ∧ v = .int k t ∧ s₃.heap.IsList l (List.toArray items) ∧ items.length ≤ 100000 ∧
      (∀ D s₄, Keeps s₃ s₄ → s₃.heap.get? D = none → s₄.heap.IsList D (List.toArray (items.take k)) → Q (.ref D) s₄)) E s₁) E s) :
    wpAny (model prog w) A (eval (.Subscript value (.Slice none (some e) none p) pos) env) Q E s := by
  refine Subscript_ (wpAny_mono h (fun o s₁ h₁ => wpAny_Slice ?_) fun _ _ e => e)
  rw [evalPart_none, evalPart_some]
  refine wpAny_pure (wpAny_mono h₁ (fun v s₃ h₃ => wpAny_pure ?_) fun _ _ e => e)
  obtain ⟨l, items, k, t, rfl, rfl, hl, hsz, hQ⟩ := h₃
  have hl' := (Sub.push s₃.heap { cls := .type "slice", data := .fields #[.none, .int k t, .none] }).list hl
  refine tail_any hl'.typeIs list_getitem_lookup (wpAny_getItem_list_slice hl' (Heap.IsSliceOf.new ..) .none (.int (k : Int) t) .none (by simp) ?_ (by rw [sizeLine_eq]; simpa using by omega)) rfl
  rw [slicePick_upto' items.toArray k]
  refine hQ _ _ ⟨_, _, rfl, fun _ _ e => Heap.get?_push_of_some _ (Heap.get?_push_of_some _ e)⟩ (Heap.get?_none_of_le (by rw [Heap.size_push]; omega)) ⟨_, Heap.get?_push_size _ rfl, rfl, _, rfl⟩

/-- value[e] of a list, the place in bounds -/
theorem evItem {value e : Expr} {pos : Pos} {Q : Value → Shared → Prop}
    (h : wpAny (model prog w) A (eval value env) (fun o s₁ => wpAny (model prog w) A (eval e env) (fun v s₃ => ∃ l items, ∃ k : Nat, ∃ t x, o = .ref l ∧ v = .int k t ∧ s₃.heap.IsList l (List.toArray items) ∧ k < 1000000 ∧ items[k]? = some x ∧ Q x s₃) E s₁) E s)
    (hs : ∀ o i, subscripted e false o i = operate [o, i] (getItem o i) := by intro _ _; with_unfolding_all rfl) :
    wpAny (model prog w) A (eval (.Subscript value e pos) env) Q E s := by
  refine Subscript_ (wpAny_mono h (fun o s₁ h₁ => wpAny_mono h₁ (fun v s₃ h₃ => ?_) fun _ _ e => e) fun _ _ e => e)
  obtain ⟨l, items, k, t, x, rfl, rfl, hl, hk, hx, hq⟩ := h₃
  exact tail_any hl.typeIs slot_list_getitem.lookup (wpAny_getItem_list hl (by omega) (by omega) (by simpa using hx) hq) (hs _ _)

/-- value[:1] of a str -/
theorem evTakeS {value e : Expr} {p pos : Pos} {Q : Value → Shared → Prop}
    (h : wpAny (model prog w) A (eval value env) (fun o s₁ => wpAny (model prog w) A (eval e env) (fun v s₃ => ∃ x u k t, o = .str x u ∧ v = .int k t ∧ x.length ≤ 100000 ∧
      (∀ t' s₄, Keeps s₃ s₄ → Q (.str (Txt.slice x none (some k)) t') s₄)) E s₁) E s) :
    wpAny (model prog w) A (eval (.Subscript value (.Slice none (some e) none p) pos) env) Q E s := by
  refine Subscript_ (wpAny_mono h (fun o s₁ h₁ => wpAny_Slice ?_) fun _ _ e => e)
  rw [evalPart_none, evalPart_some]
  refine wpAny_pure (wpAny_mono h₁ (fun v s₃ h₃ => wpAny_pure ?_) fun _ _ e => e)
  obtain ⟨x, u, k, t, rfl, rfl, hsz, hQ⟩ := h₃
  refine tail_any (typeIs_str _ _ _) PySem.F.slot_str_getitem.lookup (wpAny_getItem_str_slice (l := none) (u := some (k, t)) (st := none) ⟨_, Heap.get?_push_size _ rfl, rfl, rfl⟩ rfl ?_) rfl
  exact post_val_or_str ⟨Nat.le_trans (Txt.slice_le x _ _) (by rw [sizeLine_eq]; omega), fun t' k' => hQ t' _ ⟨_, _, rfl, fun _ _ e => Heap.get?_push_of_some _ e⟩⟩
end

theorem sw_slice (x : Str) : (Txt.slice x none (some 1) == "/") = Txt.startswith x "/" := by
  have hl : ("/" : Str).length = 1 := by decide
  unfold Txt.startswith
  rw [hl, StrLaws.subAt_eq, hl]
  by_cases h : x.length = 0
  · have h1 := Txt.slice_le x none (some 1)
    have h2 : (Txt.slice x none (some 1) == "/") = false := by
      rw [beq_eq_false_iff_ne]
      intro e; rw [e, hl] at h1; omega
    rw [h2, h]; simp
  · have h1 : 1 ≤ x.length := by omega
    have e := eq_of_beq (slice_closes_toL (x := x) (j := 1) (by decide) (by omega))
    rw [e]
    have h3 : decide (0 + 1 ≤ x.length) = true := by simpa using h1
    rw [h3, Bool.true_and]
    have h4 : ("/" : Str) = ⟨#[47]⟩ := by decide +kernel
    rw [h4, Bool.eq_iff_iff, beq_iff_eq, beq_iff_eq]
    constructor
    · intro e; have := congrArg (fun z : Str => z.cps.toList) e; simpa using this
    · intro e
      have e' : (List.take 1 (List.drop 0 x.cps.toList)) = [47] := e
      have : List.take ((1 : Int) - 0).toNat (List.drop (0 : Int).toNat x.cps.toList) = [47] := e'
      rw [this]

section
variable {prog : Program} {w : World} {A : Around} {E : Value → Shared → Prop} {s : Shared} {env : Env}
open PySem.SeqAt

theorem eqAt_txts {a b : Addr} {xs ys : List Str} (ha : Txts s.heap a xs) (hb : Txts s.heap b ys) (hu : A.units < cLine) : RcAt A s (.ref a) (.ref b) (decide (xs = ys)) := by
  obtain ⟨vs, hl, hS⟩ := ha
  obtain ⟨ws, hl', hS'⟩ := hb
  by_cases hlen : vs.length = ws.length
  · have h := RcAt.lists (A := A) (s := s) (e := fun j => decide (xs[j]? = ys[j]?)) hl hl' (by simpa using hlen) hu (fun j h1 h2 => ?_)
    · have e : ((List.range vs.toArray.size).all fun j => decide (xs[j]? = ys[j]?)) = decide (xs = ys) := by
        have l1 := hS.len_eq
        have l2 := hS'.len_eq
        rw [Bool.eq_iff_iff]
        simp only [List.all_eq_true, List.mem_range, decide_eq_true_eq, List.size_toArray]
        constructor
        · intro h
          refine List.ext_getElem? fun j => ?_
          by_cases hj : j < vs.length
          · exact h j hj
          · rw [List.getElem?_eq_none (by omega), List.getElem?_eq_none (by omega)]
        · rintro rfl j _; rfl
      rw [← e]; exact h
    · have h1' : j < vs.length := by simpa using h1
      have h2' : j < ws.length := by simpa using h2
      obtain ⟨x, t, e1, e2⟩ := hS.item j _ (List.getElem?_eq_getElem h1')
      obtain ⟨y, u, e3, e4⟩ := hS'.item j _ (List.getElem?_eq_getElem h2')
      simp only [List.getElem_toArray]
      rw [e1, e3, e2, e4]
      have := (eqGives_str x y t u).at A.in1 s
      have e : decide (some x = some y) = (x == y) := by
        rw [Bool.eq_iff_iff]; simp
      rw [e]; exact this
  · have h := RcAt.lists_lengths (A := A) (s := s) hl hl' (by simpa using hlen) hu
    have e : decide (xs = ys) = false := decide_eq_false (by rintro rfl; exact hlen (hS.len_eq.trans hS'.len_eq.symm))
    rw [e]; exact h
theorem eq_txts {a b : Addr} {xs ys : List Str} {Q : Value → Shared → Prop} (ha : Txts s.heap a xs) (hb : Txts s.heap b ys) (hu : A.units < cLine) (h : Q (.bool (decide (xs = ys))) s) :
    wpAny (model prog w) A (compareOp .Eq (.ref a) (.ref b)) Q E s := eqAt_txts ha hb hu prog w E Q h
end
end Mine

end

section
open PySem PySem.W PyProof.Rows PySem.Calls
set_option maxRecDepth 100000
namespace Mine

/-- the values are lists of texts -/
inductive RowsAre (h : Heap) : List Value → List (List Str) → Prop
  | nil : RowsAre h [] []
  | cons {r : Addr} {rs : List Str} {vs : List Value} {rss : List (List Str)} : Txts h r rs → RowsAre h vs rss → RowsAre h (.ref r :: vs) (rs :: rss)
theorem RowsAre.sub {g h : Heap} (k : Sub g h) : ∀ {vs : List Value} {rss : List (List Str)}, RowsAre g vs rss → RowsAre h vs rss
  | _, _, .nil => .nil
  | _, _, .cons a b => .cons (a.sub k) (b.sub k)
theorem RowsAre.len {h : Heap} : ∀ {vs : List Value} {rss : List (List Str)}, RowsAre h vs rss → vs.length = rss.length
  | _, _, .nil => rfl
  | _, _, .cons _ b => by simp [b.len]
theorem RowsAre.at {h : Heap} : ∀ {vs : List Value} {rss : List (List Str)}, RowsAre h vs rss → ∀ {j : Nat} {v : Value}, vs[j]? = some v → ∃ r rs, v = .ref r ∧ rss[j]? = some rs ∧ Txts h r rs
  | _, _, .nil, j, v, e => by simp at e
  | _, _, .cons a b, 0, v, e => by cases e; exact ⟨_, _, rfl, rfl, a⟩
  | _, _, .cons a b, j + 1, v, e => b.at (j := j) e
theorem RowsAre.mem {h : Heap} {vs : List Value} {rss : List (List Str)} (x : RowsAre h vs rss) {v : Value} (hv : v ∈ vs) : ∃ r rs, v = .ref r ∧ rs ∈ rss ∧ Txts h r rs := by
  induction x with
  | nil => cases hv
  | cons a b ih =>
    rcases List.mem_cons.mp hv with rfl | hv
    · exact ⟨_, _, rfl, .head _, a⟩
    · obtain ⟨r, rs, e, m, t⟩ := ih hv; exact ⟨r, rs, e, .tail _ m, t⟩

section
variable {w : World} {A : Around} {E : Value → Shared → Prop} {s s₀ : Shared} {g : Heap} {env : Env} {m cm : Str → Option Value}

/-- an element that makes a list of texts -/
def EltRow (w : World) (A : Around) (cenv : Env) (elt : Expr) (rs : List Str) (s : Shared) : Prop :=
  ∀ E', wpAny (model PR w) A (eval elt cenv) (fun y s₄ => ∃ T, y = .ref T ∧ s.heap.get? T = none ∧ Txts s₄.heap T rs ∧ Keeps s s₄) E' s

/-- the source is a list, the elements are new lists of texts -/
theorem Fx.lcompO {elt iter : Expr} {x : Str} {px : Pos} {scope : Scope} {cl : List (Str × Addr)} {pos : Pos} {Q : Value → Shared → Prop} (F : Fx w g env m cm s.heap) (hh : A.handled = none)
    (f : Value → List Str)
    (hclos : closureFor scope env = pure cl) (hcl : ∀ n c, cl.lookup n = some c → env.cells.lookup n = some c) (hx : scope.names.lookup x = some .local)
    (h : wpAny (model PR w) A (eval iter env) (fun xv s₁ => Keeps s s₁ ∧ ∃ l items, xv = .ref l ∧ s₁.heap.IsList l (List.toArray items) ∧ items.length ≤ 100000 ∧
      (∀ C v s₃ m₃, v ∈ items → m₃ x = some v → Fx w s₁.heap (compEnvC scope cl C env) m₃ cm s₃.heap → EltRow w A (compEnvC scope cl C env) elt (f v) s₃) ∧
      (∀ D s₄ (ys : List Value), Keeps s s₄ → s₁.heap.get? D = none → s₄.heap.IsList D ys.toArray → RowsAre s₄.heap ys (items.map f) → Q (.ref D) s₄)) E s)
    (hcell : ∀ y ∈ scope.names, y.2 ≠ .cell := by decide) (hkind : scope.kind = .function := by rfl) (hnames : ∀ y ∈ scope.names, y.2 = .local → scope.names.lookup y.1 = some .local := by decide)
    (hs : ∀ x, foldedSetIterable iter env x = pure x := by intro _; rfl) :
    wpAny (model PR w) A (eval (.ListComp elt [⟨.Name x px, iter, [], 0⟩] scope pos) env) Q E s := by
  refine wpAny_ListComp_freeO (fun _ => true) (fun v its => ∃ ws : List Value, its = ws.toArray ∧ StrsAre ws (f v)) hclos hcell hkind hnames hx (wpAny_mono h (fun xv s₁ h₁ => ?_) fun _ _ e => e) hs
  obtain ⟨K₁, l, items, rfl, hl, hsz, he, hq⟩ := h₁
  have hlt : l < s₁.heap.objs.size := let ⟨o, ho, _⟩ := hl; Heap.lt_size ho
  have mem : ∀ {i v}, items.toArray[i]? = some v → v ∈ items := fun {i v} e => by simpa using Array.mem_of_getElem? e
  have hI : s₁.heap.get? s₁.heap.objs.size = none := Heap.get?_none_of_le (Nat.le_refl _)
  have K₂ := kpush s₁ (iterObj l)
  have up : ∀ s₃ : Shared, (∀ b o, b ∉ [s₁.heap.objs.size] → ({ s₁ with heap := s₁.heap.push (iterObj l) } : Shared).heap.get? b = some o → s₃.heap.get? b = some o) → Sub s₁.heap s₃.heap := fun s₃ hk b o e =>
    hk b o (fun hm => by rw [List.mem_singleton.mp hm, hI] at e; cases e) (ksub K₂ b o e)
  refine wpAny_pyIter_list hl ⟨_, _, _, _, _, _, rfl, Walks.list hh _ l (Nat.ne_of_lt hlt) items.toArray, by rw [sizeLine_eq]; simpa using by omega, ?_, ⟨⟨_, Heap.get?_push_size _ rfl, rfl, rfl⟩, (Sub.push _ _).list hl⟩, ?_, ⟨?_, ?_⟩, ?_⟩
  · rintro i h ⟨⟨o, ho, _⟩, _⟩ b hb
    rw [List.mem_singleton.mp hb]; exact ⟨o, ho⟩
  · intro b hb
    simp only [List.mem_cons, List.not_mem_nil, or_false] at hb
    rw [Heap.size_push]
    rcases hb with rfl | rfl
    · exact Nat.lt_succ_self _
    · exact Nat.lt_succ_of_lt hlt
  · intro C i v s₃ m₃ E' _ hP hns hm hk _
    exact TestOn.nil E'
  · intro C i v s₃ m₃ E' _ hP _ hns hm hk _
    refine wpAny_mono (he C v s₃ m₃ (mem hP) hm (F.cenv (ksub K₁) (up s₃ hk) hcl hkind hns) E') (fun y s₄ h₄ => ?_) fun _ _ e => e
    obtain ⟨T, rfl, hT, ⟨ws, hw, hS⟩, K⟩ := h₄
    exact ⟨⟨T, ws.toArray, rfl, hT, hw, ws, rfl, hS⟩, K⟩
  · intro D h' tk ys vs hD hl' _ hlen hP hF _ _ hk
    have e : vs = items := by simpa using list_of_places hlen hP
    subst e
    have kk : Keeps s { s₁ with heap := h', toks := tk } := by
      obtain ⟨ha, ta, rfl, ka⟩ := K₁
      exact ⟨h', tk, rfl, fun b o e => up { s with heap := h' } (fun b o n e => hk b o n e) b o (ka b o e)⟩
    refine hq D _ ys.toList kk ?_ (by simpa using hl') ?_
    · cases q : s₁.heap.get? D with
      | none => rfl
      | some o => rw [ksub K₂ D o q] at hD; cases hD
    · have : ∀ {vs ws : List Value}, Paired (LstIs (s₁.heap.push (iterObj l)) (fun v its => ∃ ws : List Value, its = ws.toArray ∧ StrsAre ws (f v)) h') vs ws → RowsAre h' ws (vs.map f) := by
        intro vs ws hp
        induction hp with
        | nil => exact .nil
        | cons a b ih =>
          obtain ⟨T, its, rfl, _, hT, ws', rfl, hS⟩ := a
          exact .cons ⟨ws', hT, hS⟩ ih
      have h1 := this hF
      rwa [show vs.filter (fun _ => true) = vs from List.filter_eq_self.mpr fun _ _ => rfl] at h1
end
end Mine

end

section
open PySem PySem.W PyProof.Rows PySem.Calls
set_option maxRecDepth 100000
namespace Mine

abbrev absB (x : Str) : Bool := Txt.startswith x "/"
def MaxAgree (rss : List (List Str)) (r0 : List Str) (k : Nat) : Prop :=
  k ≤ r0.length ∧ (∀ r ∈ rss, r.take k = r0.take k) ∧ (k < r0.length → ∃ r ∈ rss, r.take (k + 1) ≠ r0.take (k + 1))
def DueIs (xs : List Str) (v : Str) : Prop :=
  (xs = [] ∧ v = "refused: commonpath() arg is an empty sequence") ∨
  (xs ≠ [] ∧ ((xs.filter absB).length ≠ 0 ∧ (xs.filter absB).length ≠ xs.length) ∧ v = "refused: Can't mix absolute and relative paths") ∨
  (∃ x rest k, xs = x :: rest ∧ ((xs.filter absB).length = 0 ∨ (xs.filter absB).length = xs.length) ∧ MaxAgree (xs.map pieces) (pieces x) k ∧ v = (if absB x then ("/" : Str) else ("" : Str)) ++ Str.join "/" ((pieces x).take k))

def absV (v : Value) : Bool := match v with | .str x _ => absB x | _ => false
def textOf (v : Value) : Str := strOf v


theorem rows_of_adv {h g' : Heap} (k : ∀ a o, h.get? a = some o → (∀ es n, o.data ≠ .dict es n) → (∀ v, o.data ≠ .cell v) → g'.get? a = some o) : ∀ {vs : List Value} {rss : List (List Str)}, RowsAre h vs rss → RowsAre g' vs rss
  | _, _, .nil => .nil
  | _, _, .cons ⟨vs, a, b⟩ r => .cons ⟨vs, list_of_adv k a, b⟩ (rows_of_adv k r)
/-- the texts of a row, read off the heap -/
def rowAt (h : Heap) : Value → List Str
  | .ref r => (match h.get? r with
      | some ⟨_, _, .seq its _, _⟩ => its.toList.map strOf
      | _ => [])
  | _ => []
theorem rowAt_of {h : Heap} {r : Addr} {rs : List Str} (x : Txts h r rs) : rowAt h (.ref r) = rs := by
  obtain ⟨vs, ⟨⟨c, d, dt, sl⟩, ho, _, n, hd⟩, hS⟩ := x
  simp only at hd
  subst hd
  unfold rowAt
  simp only [ho]
  exact hS.strs
theorem rows_map {h : Heap} : ∀ {vs : List Value} {rss : List (List Str)}, RowsAre h vs rss → vs.map (rowAt h) = rss
  | _, _, .nil => rfl
  | _, _, .cons a b => by rw [List.map_cons, rowAt_of a, rows_map b]
theorem rows_filter_len {h : Heap} {vs : List Value} {rss : List (List Str)} (x : RowsAre h vs rss) (q : List Str → Bool) : (vs.filter fun v => q (rowAt h v)).length = (rss.filter q).length := by
  rw [← rows_map x, List.filter_map, List.length_map]; rfl
theorem sum_le_of {n : Nat} : ∀ {l : List Str}, (∀ x ∈ l, x.length ≤ n) → (l.map (·.length)).sum ≤ n * l.length
  | [], _ => by simp
  | y :: r, h => by
    have h1 := h y (.head _)
    have h2 := sum_le_of fun x hx => h x (.tail _ hx)
    simp only [List.map_cons, List.sum_cons, List.length_cons, Nat.mul_succ]; omega
theorem filter_len_all {α : Type} (q : α → Bool) (l : List α) : (l.filter q).length = l.length ↔ ∀ x ∈ l, q x = true := by
  constructor
  · intro h
    have := (List.filter_sublist (p := q) (l := l)).eq_of_length h
    exact List.filter_eq_self.mp this
  · intro h; rw [List.filter_eq_self.mpr h]
theorem cut {α : Type} {M : Model} {A : Around} {E : Value → Shared → Prop} {s : Shared} {t : Sem α} {P Q : α → Shared → Prop} (h : wpAny M A t P E s) (k : ∀ a s', P a s' → Q a s') : wpAny M A t Q E s := wpAny_mono h k fun _ _ e => e
theorem strs_filter_len {f : Value → Bool} {k : Str → Bool} (hk : ∀ x t, f (.str x t) = k x) {vs : List Value} {xs : List Str} (h : StrsAre vs xs) : (vs.filter f).length = (xs.filter k).length := (strs_filter hk h).len_eq

section
variable {w : World} {A : Around} {E : Value → Shared → Prop} {s : Shared}
set_option maxHeartbeats 2000000

theorem t142 (W : Wd w s.heap) (R : Rm A 8) {l : Addr} {xs : List Str} (hl : Txts s.heap l xs) (hlen : xs.length ≤ 100) (hsz : ∀ x ∈ xs, x.length ≤ 100) {Q : Value → Shared → Prop}
    (hQ : ∀ v t s', Keeps s s' → DueIs xs v → Q (.str v t) s') :
    wpAny (model PR w) A (call (.ref 142) [.ref l]) Q E s := by
  obtain ⟨items, hl, hS⟩ := hl
  have hitems : items.length = xs.length := hS.len_eq
  refine callF (f := 142) W R rfl rfl rfl rfl rfl (fun L s₁ hL F R => ?_)
  dsimp only at F R ⊢
  -- len(paths) == 0
  refine wpAny_execs_cons (wpAny_If (wpAny_isTrue_Compare1 ?_))
  refine evCallM (fun Q' q => F.toFx.ldB rfl rfl q) ?_
  refine wpAny_items_cons (F.toFx.ldL (by rfl) (wpAny_items_nil ?_))
  refine call_len_list (F.toFx.list hl) (by simpa using by omega) (wpAny_Constant_int (eq_int (wpAny_truthy_bool ?_)))
  cases xs with
  | nil =>
    have e : items = [] := List.eq_nil_of_length_eq_zero hitems
    subst e
    show wpAny _ _ _ _ _ _
    exact wpAny_execs_cons (wpAny_Return_some (Constant_str (hQ _ _ _ (F.keeps (ktok _ _)).done (.inl ⟨rfl, rfl⟩))))
  | cons x0 rest =>
  have hne : (((items.toArray.size : Nat) : Int) == 0) = false := by
    rw [beq_eq_false_iff_ne]; simp only [List.length_cons, List.size_toArray] at hitems ⊢; omega
  rw [hne]
  show wpAny _ _ _ _ _ _
  refine wpAny_execs_nil ?_
  have F := F.keeps (ktok s₁ (s₁.toks + 1 + 1 + 1))
  -- the mix
  refine wpAny_execs_cons (wpAny_If (cut (P := fun c s' => c = decide (((x0 :: rest).filter absB).length ≠ 0 ∧ ((x0 :: rest).filter absB).length ≠ (x0 :: rest).length) ∧ Keeps s₁ s') (wpAny_isTrue_Compare1 ?_) ?_))
  · refine evCallM (fun Q' q => F.toFx.ldB rfl rfl q) ?_
    refine wpAny_items_cons (F.toFx.lcompL (cl := []) R.hd absV (fun v y => y = v) (closureFor_none (by decide)) (fun _ _ e => by cases e) (by rfl) ?_)
    refine F.toFx.ldL (by rfl) ⟨krefl _, l, items, rfl, F.toFx.list hl, by rw [sizeLine_eq]; omega, ?_, ?_, ?_⟩
    · intro C v s₃ m₃ hv hm F₃
      obtain ⟨p, t, rfl, hp⟩ := strs_mem hS hv
      refine TestOn.one (fun E' => wpAny_isTrue_Compare1 ?_)
      refine evTakeS (F₃.ldL hm (wpAny_Constant_int ⟨p, t, 1, _, rfl, rfl, by have := hsz p hp; omega, fun t' s₄ K => ?_⟩))
      refine Constant_str (PyProof.Rows.eq_str (wpAny_truthy_bool ⟨sw_slice p, ?_⟩))
      exact ktrans (ktrans (ktok _ _) K) (ktok _ _)
    · intro C v s₃ m₃ hv hp hm F₃ E'
      exact F₃.ldL hm ⟨rfl, krefl _⟩
    intro D s₄ ys K₄ _ hpl hF
    have hcount : ys.length = ((x0 :: rest).filter absB).length := by rw [paired_eq hF]; exact strs_filter_len (fun _ _ => rfl) hS
    have hfl := List.length_filter_le absB (x0 :: rest)
    have F := F.keeps K₄
    refine wpAny_items_nil (call_len_list hpl.isList (by simp only [List.size_toArray]; omega) ?_)
    refine wpAny_Tuple (wpAny_items_cons (wpAny_Constant_int (wpAny_items_cons ?_)))
    refine evCallM (fun Q' q => F.toFx.ldB rfl rfl q) ?_
    refine wpAny_items_cons (F.toFx.ldL (by rfl) (wpAny_items_nil (call_len_list (F.toFx.list hl) (by simp only [List.size_toArray]; omega) (wpAny_items_nil ⟨by size_fits, ?_⟩))))
    refine notin_tuple_ints (ns := [0, (items.toArray.size : Int)]) ⟨_, Heap.get?_push_size _ rfl, rfl, _, rfl⟩ (.cons _ _ (.cons _ _ .nil)) (wpAny_truthy_bool ⟨?_, ?_⟩)
    · rw [Bool.eq_iff_iff]
      simp only [List.any_cons, List.any_nil, Bool.or_false, List.size_toArray, Bool.not_eq_true', Bool.or_eq_false_iff, beq_eq_false_iff_ne, decide_eq_true_eq]
      rw [hcount, hitems]
      constructor
      · rintro ⟨h1, h2⟩; exact ⟨by omega, by omega⟩
      · rintro ⟨h1, h2⟩; exact ⟨by omega, by omega⟩
    · obtain ⟨h₄, t₄, rfl, k₄⟩ := K₄
      exact ⟨_, _, rfl, fun b o e => Heap.get?_push_of_some _ (k₄ b o e)⟩
  rintro c s₂ ⟨rfl, K⟩
  have F := F.keeps (s' := s₂) (by obtain ⟨h₄, t₄, rfl, k₄⟩ := K; exact ⟨_, _, rfl, k₄⟩)
  by_cases hmix : ((x0 :: rest).filter absB).length ≠ 0 ∧ ((x0 :: rest).filter absB).length ≠ (x0 :: rest).length
  · rw [decide_eq_true hmix]
    show wpAny _ _ _ _ _ _
    exact wpAny_execs_cons (wpAny_Return_some (Constant_str (hQ _ _ _ (F.keeps (ktok _ _)).done (.inr (.inl ⟨by simp, hmix, rfl⟩)))))
  rw [decide_eq_false hmix]
  show wpAny _ _ _ _ _ _
  refine wpAny_execs_nil ?_
  have hmix' : ((x0 :: rest).filter absB).length = 0 ∨ ((x0 :: rest).filter absB).length = (x0 :: rest).length := by omega
  -- rows
  refine wpAny_execs_cons (wpAny_Assign_Name (F.toFx.lcompO (cl := []) R.hd (fun v => pieces (strOf v)) (closureFor_none (by decide)) (fun _ _ e => by cases e) (by rfl) ?_))
  refine F.toFx.ldL (by rfl) ⟨krefl _, l, items, rfl, F.toFx.list hl, by omega, ?_, ?_⟩
  · intro C v s₃ m₃ hv hm F₃ E'
    obtain ⟨p, t, rfl, hp⟩ := strs_mem hS hv
    refine evCallF (K := KF w) (by rfl) (fun Q' q => F₃.ldG rfl q) ?_
    refine wpAny_items_cons (F₃.ldL hm (wpAny_items_nil ⟨F₃.wd.X, ?_⟩))
    exact t137 F₃.wd (R.le (by omega)) (by have := hsz p hp; omega) (fun l' s₄ K hf hT => ⟨l', rfl, hf, hT, K⟩)
  intro D s₃ ys K₃ _ hlD hrows
  have hrss : items.map (fun v => pieces (strOf v)) = (x0 :: rest).map pieces := by
    rw [← hS.strs, List.map_map]; rfl
  rw [hrss] at hrows
  obtain ⟨g', hg, F, adv⟩ := (F.keeps K₃).adv
  have hlD := list_of_adv adv hlD
  have hrows := rows_of_adv adv hrows
  have hys := hrows.len
  rw [List.length_map] at hys
  refine F.stC (by rfl) (fun s₄ F => ?_)
  refine wpAny_execs_cons (wpAny_Assign_Name (wpAny_Constant_int ?_))
  refine (F.keeps (ktok _ _)).stC (by rfl) (fun s₅ F => ?_)
  have hy0 : ∃ q0, ys[0]? = some (.ref q0) ∧ Txts g' q0 (pieces x0) := by
    rw [List.map_cons] at hrows
    cases hrows with
    | cons a b => exact ⟨_, rfl, a⟩
  obtain ⟨q0, hq0, hT0⟩ := hy0
  have hp0 : (pieces x0).length ≤ 2000 := by
    have h1 := hsz x0 (.head _)
    unfold pieces
    refine Nat.le_trans (List.length_filter_le _ _) (split_len (by omega))
  have hlens : ∀ r ∈ (x0 :: rest).map pieces, r.length ≤ 2000 := by
    intro r hr
    obtain ⟨x, hx, rfl⟩ := List.mem_map.mp hr
    have h1 := hsz x hx
    unfold pieces
    exact Nat.le_trans (List.length_filter_le _ _) (split_len (by omega))
  -- the while
  refine wpAny_execs_cons (wpAny_While ?_)
  refine codeAny_whileLoop (fun n s' => ∃ m' cm', ∃ k : Nat, ∃ t, Fm w s g' (envFm F) m' cm' s' ∧ m' "paths" = some (.ref l) ∧ cm' "rows" = some (.ref D) ∧ cm' "size" = some (.int k t) ∧ k ≤ (pieces x0).length ∧ (∀ r ∈ (x0 :: rest).map pieces, r.take k = (pieces x0).take k) ∧ n = (pieces x0).length - k) ?_ ((pieces x0).length)
    ⟨_, _, 0, _, F, rfl, rfl, rfl, Nat.zero_le _, fun _ _ => rfl, rfl⟩
  rintro n s' ⟨m', cm', k, t, F', e1, e2, e3, hk, hag, rfl⟩
  refine wpAny_any (cut (P := fun b s'' => b = decide (k < (pieces x0).length ∧ ∀ r ∈ (x0 :: rest).map pieces, r.take (k + 1) = (pieces x0).take (k + 1)) ∧ Keeps s' s'') ?_ ?_)
  · obtain ⟨vs0, hl0, hS0⟩ := hT0
    refine isTrue_and (cut (P := fun b s'' => b = decide (k < (pieces x0).length) ∧ Keeps s' s'') (wpAny_isTrue_Compare1 ?_) ?_)
    · refine F'.toFx.ldC (by rfl) e3 ?_
      refine evCallM (fun Q' q => F'.toFx.ldB rfl rfl q) ?_
      refine wpAny_items_cons (evItem (F'.toFx.ldC (by rfl) e2 (wpAny_Constant_int ⟨D, ys, 0, _, _, rfl, rfl, F'.toFx.list hlD, by decide, hq0, ?_⟩)))
      refine wpAny_items_nil (call_len_list (F'.toFx.list hl0) (by have := hS0.len_eq; simp only [List.size_toArray]; omega) (lt_int (wpAny_truthy_bool ⟨?_, ⟨_, _, rfl, fun _ _ e => e⟩⟩)))
      have := hS0.len_eq
      exact decide_eq_decide.mpr (by rw [List.size_toArray]; omega)
    rintro b s₆ ⟨rfl, K₆⟩
    by_cases hlt : k < (pieces x0).length
    · rw [decide_eq_true hlt]
      show wpAny _ _ _ _ _ _
      have F₆ := F'.keeps K₆
      refine isTrue_and (cut (P := fun b s'' => b = decide (∀ r ∈ (x0 :: rest).map pieces, r.take (k + 1) = (pieces x0).take (k + 1)) ∧ Keeps s' s'') (wpAny_isTrue_Compare1 ?_) ?_)
      · refine evCallM (fun Q' q => F₆.toFx.ldB rfl rfl q) ?_
        refine wpAny_items_cons (F₆.toFx.lcompL R.hd (fun v => decide ((rowAt g' v).take (k + 1) = (pieces x0).take (k + 1))) (fun v y => y = v) (by rfl) (fun n c e => ?_) (by rfl) ?_)
        · exact e
        refine F₆.toFx.ldC (by rfl) e2 ⟨krefl _, D, ys, rfl, F₆.toFx.list hlD, by rw [sizeLine_eq]; omega, ?_, ?_, ?_⟩
        · intro C v s₃ m₃ hv hm F₃
          obtain ⟨r, rs, rfl, hrs, hT⟩ := hrows.mem hv
          have e := rowAt_of hT
          have up := F₆.toFx.keep.trans F₃.keep
          obtain ⟨ws, hlw, hSw⟩ := hT
          have hwl := hSw.len_eq
          have hrl : rs.length ≤ 2000 := hlens rs hrs
          refine TestOn.one (fun E' => wpAny_isTrue_Compare1 ?_)
          refine evTake (F₃.ldL hm (wpAny_BinOp (F₃.ldC (by rfl) e3 (wpAny_Constant_int (add_int ⟨r, ws, k + 1, _, rfl, rfl, up.list hlw, by omega, fun D₁ s₉ K₉ _ hD₁ => ?_⟩)))))
          have F₉ := F₃.sub (ksub (ktrans (⟨_, _, rfl, fun _ _ e => e⟩ : Keeps s₃ _) K₉))
          refine evTake (evItem (F₉.ldC (by rfl) e2 (wpAny_Constant_int ⟨D, ys, 0, _, _, rfl, rfl, (F₆.toFx.keep.trans F₉.keep).list hlD, by decide, hq0, ?_⟩)))
          refine wpAny_BinOp (F₉.ldC (by rfl) e3 (wpAny_Constant_int (add_int ⟨q0, vs0, k + 1, _, rfl, rfl, (F₆.toFx.keep.trans F₉.keep).list hl0, by have := hS0.len_eq; omega, fun D₂ s₁₀ K₁₀ _ hD₂ => ?_⟩)))
          refine eq_txts ⟨_, (ksub K₁₀).list hD₁, hSw.take' (k + 1)⟩ ⟨_, hD₂, hS0.take' (k + 1)⟩ (R.le (d' := 0) (by omega)).un (wpAny_truthy_bool ⟨?_, ?_⟩)
          · rw [e]
          · exact ktrans (ktrans (⟨_, _, rfl, fun _ _ e => e⟩ : Keeps s₃ _) K₉) (ktrans (⟨_, _, rfl, fun _ _ e => e⟩ : Keeps s₉ _) K₁₀)
        · intro C v s₃ m₃ hv hp hm F₃ E'
          exact F₃.ldL hm ⟨rfl, krefl _⟩
        intro D' s₈ zs K₈ _ hpl hF
        have hz : zs.length = (((x0 :: rest).map pieces).filter fun r => decide (r.take (k + 1) = (pieces x0).take (k + 1))).length := by
          rw [paired_eq hF]; exact rows_filter_len hrows fun r => decide (r.take (k + 1) = (pieces x0).take (k + 1))
        have hzl := List.length_filter_le (fun r => decide (r.take (k + 1) = (pieces x0).take (k + 1))) ((x0 :: rest).map pieces)
        rw [List.length_map] at hzl
        have F₈ := F₆.keeps K₈
        refine wpAny_items_nil (call_len_list hpl.isList (by simp only [List.size_toArray]; omega) ?_)
        refine evCallM (fun Q' q => F₈.toFx.ldB rfl rfl q) ?_
        refine wpAny_items_cons (F₈.toFx.ldC (by rfl) e2 (wpAny_items_nil (call_len_list (F₈.toFx.list hlD) (by simp only [List.size_toArray]; omega) (eq_int (wpAny_truthy_bool ⟨?_, ?_⟩)))))
        · have h1 := filter_len_all (fun r => decide (r.take (k + 1) = (pieces x0).take (k + 1))) ((x0 :: rest).map pieces)
          rw [List.length_map] at h1
          rw [Bool.eq_iff_iff, beq_iff_eq, decide_eq_true_eq, List.size_toArray, List.size_toArray]
          constructor
          · intro h r hr
            have := h1.mp (by omega) r hr
            simpa using this
          · intro h
            have := h1.mpr fun r hr => by simpa using h r hr
            omega
        · exact ktrans K₆ (ktrans K₈ ⟨_, _, rfl, fun _ _ e => e⟩)
      rintro b s₈ ⟨rfl, K₈⟩
      by_cases hall : ∀ r ∈ (x0 :: rest).map pieces, r.take (k + 1) = (pieces x0).take (k + 1)
      · rw [decide_eq_true hall]
        exact isTrue_and_nil ⟨by rw [decide_eq_true ⟨hlt, hall⟩], K₈⟩
      · rw [decide_eq_false hall]
        exact ⟨by rw [decide_eq_false fun h => hall h.2], K₈⟩
    · rw [decide_eq_false hlt]
      exact ⟨by rw [decide_eq_false fun h => hlt h.1], K₆⟩
  rintro b s₇ ⟨rfl, K₇⟩
  have F₇ := F'.keeps K₇
  by_cases hgo : k < (pieces x0).length ∧ ∀ r ∈ (x0 :: rest).map pieces, r.take (k + 1) = (pieces x0).take (k + 1)
  · rw [decide_eq_true hgo]
    show wpAny _ _ _ _ _ _
    refine wpAny_any (wpAny_execs_cons (wpAny_Assign_Name (wpAny_BinOp (F₇.toFx.ldC (by rfl) e3 (wpAny_Constant_int (add_int ?_))))))
    refine (F₇.keeps (ktok _ _)).stC (by rfl) (fun s₈ F₈ => execs_nil' ?_)
    exact ⟨(pieces x0).length - (k + 1), by omega, m', _, k + 1, s₇.toks + 1, F₈, e1, (if_neg (by decide)).trans e2, if_pos rfl, hgo.1, hgo.2, rfl⟩
  · rw [decide_eq_false hgo]
    show wpAny _ _ _ _ _ _
    refine wpAny_any (wpAny_execs_nil ?_)
    show wpAny _ _ _ _ _ _
    have hmax : MaxAgree ((x0 :: rest).map pieces) (pieces x0) k := ⟨hk, hag, fun h => by
      have h2 : ¬ ∀ r ∈ (x0 :: rest).map pieces, r.take (k + 1) = (pieces x0).take (k + 1) := fun h3 => hgo ⟨h, h3⟩
      simpa only [Classical.not_forall, exists_prop] using h2⟩
    obtain ⟨vs0, hl0, hS0⟩ := hT0
    have hit0 : ∃ t0, items[0]? = some (.str x0 t0) := by
      cases hS with
      | cons _ t0 _ => exact ⟨t0, rfl⟩
    obtain ⟨t0, hit0⟩ := hit0
    have hx0 := hsz x0 (.head _)
    refine wpAny_execs_cons (wpAny_Return_some (wpAny_BinOp (cut (P := fun v s'' => (∃ t, v = .str (if absB x0 then ("/" : Str) else ("" : Str)) t) ∧ Keeps s₇ s'') (wpAny_IfExp (wpAny_isTrue_Compare1 ?_)) ?_)))
    · refine evTakeS (evItem (F₇.toFx.ldL e1 (wpAny_Constant_int ⟨l, items, 0, _, _, rfl, rfl, F₇.toFx.list (hg.list hl), by decide, hit0, ?_⟩)))
      refine wpAny_Constant_int ⟨x0, t0, 1, _, rfl, rfl, by omega, fun t' s₈ K₈ => ?_⟩
      refine Constant_str (PyProof.Rows.eq_str (wpAny_truthy_bool ?_))
      rw [sw_slice]
      cases hb : Txt.startswith x0 "/" with
      | true => show wpAny _ _ _ _ _ _; exact Constant_str ⟨⟨_, by rw [show absB x0 = true from hb]; rfl⟩, ktrans (⟨_, _, rfl, fun _ _ e => e⟩ : Keeps s₇ _) (ktrans K₈ ⟨_, _, rfl, fun _ _ e => e⟩)⟩
      | false => show wpAny _ _ _ _ _ _; exact Constant_str ⟨⟨_, by rw [show absB x0 = false from hb]; rfl⟩, ktrans (⟨_, _, rfl, fun _ _ e => e⟩ : Keeps s₇ _) (ktrans K₈ ⟨_, _, rfl, fun _ _ e => e⟩)⟩
    rintro v s₈ ⟨⟨t8, rfl⟩, K₈⟩
    have F₈ := F₇.keeps K₈
    refine evMethS PySem.F.slot_str_join PySem.F.type_str_join (Constant_str ⟨_, _, rfl, ?_⟩)
    refine wpAny_items_cons (evTake (evItem (F₈.toFx.ldC (by rfl) e2 (wpAny_Constant_int ⟨D, ys, 0, _, _, rfl, rfl, F₈.toFx.list hlD, by decide, hq0, ?_⟩))))
    refine F₈.toFx.ldC (by rfl) e3 ⟨q0, vs0, k, _, rfl, rfl, F₈.toFx.list hl0, by have := hS0.len_eq; omega, fun D₂ s₉ K₉ _ hD₂ => ?_⟩
    have hlen2 : ((pieces x0).take k).length ≤ 2000 := by rw [List.length_take]; omega
    have hsum := sum_le_of (n := 100) (l := (pieces x0).take k) fun p hp => Nat.le_trans (part_short (List.mem_filter.mp (List.mem_of_mem_take hp)).1) hx0
    have hjl := StrLaws.join_length_le "/" ((pieces x0).take k)
    have h1 : ("/" : Str).length = 1 := by decide
    rw [h1] at hjl
    refine wpAny_items_nil (join_list hD₂ (hS0.take' k) (by rw [h1]; omega) (fun t' k' => ?_))
    rw [txt_join]
    refine add_str (fun t'' k'' => hQ _ _ _ ?_ (.inr (.inr ⟨x0, rest, k, rfl, hmix', hmax, rfl⟩))) ?_
    · exact ((F₈.keeps (s' := s₉) (ktrans ⟨_, _, rfl, fun _ _ e => e⟩ K₉)).keeps (⟨_, _, rfl, fun _ _ e => e⟩ : Keeps s₉ _)).done
    · have h2 : (if absB x0 = true then ("/" : Str) else "").length ≤ 1 := by split <;> decide
      rw [sizeLine_eq]; omega
end
end Mine

end

section
open PySem PySem.W PyProof.Rows PySem.Calls
set_option maxRecDepth 100000
namespace Mine

theorem slot_map_next : Slot "map" "__next__" "map.__next__" :=
  .of (owner := "map") (n := "__next__") (by rw [typeLookup_type, builtinLookup_eq_fast]; kernel_rfl) (by decide +kernel) (by decide +kernel) (by decide +kernel)
    (by first | exact .inl (by decide +kernel) | exact .inr (by decide +kernel)) (by rw [isSubtype_type]; kernel_rfl)
theorem slot_map_iter : Slot "map" "__iter__" "map.__iter__" :=
  .of (owner := "map") (n := "__iter__") (by rw [typeLookup_type, builtinLookup_eq_fast]; kernel_rfl) (by decide +kernel) (by decide +kernel) (by decide +kernel)
    (by first | exact .inl (by decide +kernel) | exact .inr (by decide +kernel)) (by rw [isSubtype_type]; kernel_rfl)
theorem slot_map_init : Slot "map" "__init__" "object.__init__" :=
  .of (owner := "object") (n := "__init__") (by rw [typeLookup_type, builtinLookup_eq_fast]; kernel_rfl) (by decide +kernel) (by decide +kernel) (by decide +kernel)
    (by first | exact .inl (by decide +kernel) | exact .inr (by decide +kernel)) (by rw [isSubtype_type]; kernel_rfl)
theorem entry_map_next : entryFor table "map.__next__" = some Builtin.«map.__next__» := entryFor_of_tree (by kernel_rfl)
theorem entry_map_iter : entryFor table "map.__iter__" = some Builtin.«dict_keyiterator.__iter__» :=
  entryFor_alias (id' := "dict_keyiterator.__iter__") (by kernel_rfl) (by first | rfl | decide +kernel | (unfold String.splitOn; simp +decide [String.splitOnAux])) (by decide +kernel) (by kernel_rfl)
theorem entry_map_new : entryFor table "map.__new__" = some Builtin.«map.__new__» := entryFor_of_tree (by kernel_rfl)
theorem args_map_next (a : Value) : argsOk "map.__next__" ⟨[a], []⟩ := by unfold argsOk; kernel_rfl
theorem args_map_iter (a : Value) : argsOk "map.__iter__" ⟨[a], []⟩ := by unfold argsOk; kernel_rfl
theorem mro_map : mroOf (.type "map") = pure [.type "map", .type "object"] := by rw [mroOf_type]; kernel_rfl
theorem lookup_map_new : typeLookup (.type "map") "__new__" = pure (some (.builtin "map.__new__")) := by rw [typeLookup_type, builtinLookup_eq_fast]; kernel_rfl
theorem called_map : TypeCalled "map" "map.__new__" "object.__init__" :=
  ⟨by decide +kernel, by decide +kernel, ⟨_, _, mro_map⟩, madeBy_type mro_map lookup_map_new (by decide +kernel), by decide +kernel, by rw [isSubtype_type]; kernel_rfl, slot_map_init⟩
theorem typeCall_map (a b : Value) : checkTypeCall "map" ⟨[a, b], []⟩ = pure () := by kernel_rfl
theorem newCall_map (a b : Value) : checkBuiltinCall "map.__new__" ⟨[.type "map", a, b], []⟩ = pure () := by kernel_rfl
theorem sub_map : isSubtype (.type "map") (.type "map") = pure true := by rw [isSubtype_type]; kernel_rfl
theorem nolen_map : typeLookup (.type "map") "__len__" = pure none := by rw [typeLookup_type, builtinLookup_eq_fast]; kernel_rfl
theorem nohint_map : typeLookup (.type "map") "__length_hint__" = pure none := by rw [typeLookup_type, builtinLookup_eq_fast]; kernel_rfl

abbrev IsMap (h : Heap) (M T : Addr) (f : Value) : Prop := h.get? M = some { cls := .type "map", dict := none, data := .fields #[.ref T, f], slots := #[] }

section
variable {prog : Program} {w : World} {A : Around} {E : Value → Shared → Prop} {s : Shared}

theorem meets_map_new (f : Value) (l : Addr) (xs : Array Value) :
    Meets (Builtin.«map.__new__» ⟨[.type "map", f, .ref l], []⟩) (fun _ R s => s.heap.IsList l xs ∧
      (∀ I T M h', Sub s.heap h' → s.heap.objs.size ≤ h'.objs.size → s.heap.get? I = none → s.heap.get? T = none → s.heap.get? M = none → I ≠ T → I ≠ M → T ≠ M → h'.IsListIter I l 0 → h'.IsTuple T #[.ref I] → IsMap h' M T f → R (.ok (.ret (.ref M))) { s with heap := h' })) :=
  .of_wp fun prog w A R s h => by
    obtain ⟨hp, g, d, tk, os⟩ := s
    obtain ⟨hl, h⟩ := h
    have hsub := sub_map
    have hL : Heap.IsList (Shared.heap ⟨hp, g, d, tk, os⟩) l xs := hl
    wp_walk using wpAny_pyIter_list hL
    refine ⟨_, rfl, ?_⟩
    have z1 : (hp.push (iterObj l)).objs.size = hp.objs.size + 1 := Heap.size_push ..
    have z2 : ((hp.push (iterObj l)).push { cls := .type "tuple", data := .seq #[.ref hp.objs.size] }).objs.size = hp.objs.size + 2 := by rw [Heap.size_push, z1]
    have n0 : ∀ k, hp.get? (hp.objs.size + k) = none := fun k => Heap.get?_none_of_le (Nat.le_add_right _ _)
    refine h hp.objs.size (hp.push (iterObj l)).objs.size _ _ (fun _ _ e => Heap.get?_push_of_some _ (Heap.get?_push_of_some _ (Heap.get?_push_of_some _ e))) (by rw [Heap.size_push, Heap.size_push, Heap.size_push]; exact Nat.le_add_right _ 3) (n0 0) (by rw [z1]; exact n0 1) ?_ (by rw [z1]; exact Nat.ne_of_lt (Nat.lt_succ_self _)) ?_ ?_
      ⟨_, Heap.get?_push_of_some _ (Heap.get?_push_of_some _ (Heap.get?_push_size _ rfl)), rfl, rfl⟩ ⟨_, Heap.get?_push_of_some _ (Heap.get?_push_size _ rfl), rfl, _, rfl⟩ (Heap.get?_push_size _ rfl)
    · show hp.get? ((hp.push (iterObj l)).push { cls := .type "tuple", data := .seq #[.ref hp.objs.size] }).objs.size = none
      rw [z2]; exact n0 2
    · show hp.objs.size ≠ ((hp.push (iterObj l)).push { cls := .type "tuple", data := .seq #[.ref hp.objs.size] }).objs.size
      rw [z2]; omega
    · show (hp.push (iterObj l)).objs.size ≠ ((hp.push (iterObj l)).push { cls := .type "tuple", data := .seq #[.ref hp.objs.size] }).objs.size
      rw [z2, z1]; omega

theorem call_map {f : Value} {l : Addr} {xs : Array Value} {Q : Value → Shared → Prop} (hl : s.heap.IsList l xs)
    (h : ∀ I T M h', Sub s.heap h' → s.heap.objs.size ≤ h'.objs.size → s.heap.get? I = none → s.heap.get? T = none → s.heap.get? M = none → I ≠ T → I ≠ M → T ≠ M → h'.IsListIter I l 0 → h'.IsTuple T #[.ref I] → IsMap h' M T f → Q (.ref M) { s with heap := h' }) :
    wpAny (model prog w) A (call (.type "map") [f, .ref l]) Q E s :=
  callType_new called_map (by decide) (typeCall_map _ _) (newCall_map _ _) (fun obj => PySem.F.args_object_init_3 obj _ _) entry_map_new (meets_map_new f l xs)
    ⟨hl, fun I T M h' a sz b c d e1 e2 e3 hi ht hm => ⟨⟨_, hm, rfl⟩, h I T M h' a sz b c d e1 e2 e3 hi ht hm⟩⟩

theorem pyIter_map {M T : Addr} {f : Value} {Q : Value → Shared → Prop} (hm : IsMap s.heap M T f) (h : Q (.ref M) s) : wpAny (model prog w) A (pyIter (.ref M)) Q E s := by
  have hT : s.TypeIs (.ref M) "map" := ⟨_, hm, rfl⟩
  refine wpAny_pyIter_slot hT slot_map_iter (wpAny_call_entry slot_map_iter hT entry_map_iter ?_ (args_map_iter _))
  show wpAny _ _ (ret (.ref M)) _ _ s
  exact wpAny_pure ⟨_, rfl, "map", _, hT, slot_map_next.lookup, h⟩

theorem map_next_item {M T I l : Addr} {f v : Value} {i : Nat} {items : Array Value} {Q : Value → Shared → Prop} (hm : IsMap s.heap M T f) (ht : s.heap.IsTuple T #[.ref I]) (hit : s.heap.IsListIter I l i) (hl : s.heap.IsList l items) (hx : items[i]? = some v)
    (hMI : M ≠ I) (hTI : T ≠ I)
    (hf : ∀ h', h'.IsListIter I l (i + 1) → Heap.SameBut I s.heap h' → wpAny (model prog w) A (call f [v]) Q E { s with heap := h' }) :
    wpAny (model prog w) A (Builtin.«map.__next__» ⟨[.ref M], []⟩) (fun fin s' => ∃ v, fin = .done (.ret v) ∧ Q v s') E s := by
  obtain ⟨o, ho, hc, n, hd⟩ := id ht
  show wpAny _ _ (field (.ref M) 0 >>= _) _ _ _
  refine wpAny_bind (wpAny_field hm rfl (x := .ref T) rfl ?_)
  refine wpAny_bind (wpAny_seqItems ho hd ?_)
  simp only []
  refine wpAny_bind ?_
  rw [← Array.forIn_toList]
  simp only [List.forIn_cons, List.forIn_nil]
  refine wpAny_bind (wpAny_bind (wpAny_holding (wpAny_nextOf_list_item hit hl hx fun h' hit' hs' => ?_)))
  refine wpAny_pure (wpAny_pure ?_)
  refine wpAny_bind (wpAny_field (o := { cls := .type "map", dict := none, data := .fields #[.ref T, f], slots := #[] }) (hs'.extBut _ _ hMI hm) rfl (x := f) rfl ?_)
  refine wpAny_bind (wpAny_holding (wpAny_mono (hf h' hit' hs') (fun r s' hr => ?_) fun _ _ e => e))
  exact wpAny_bind (wpAny_letGo (wpAny_pure ⟨_, rfl, hr⟩))

theorem map_next_end {M T I l : Addr} {f : Value} {i : Nat} {items : Array Value} {Q : Fin → Shared → Prop} (hh : A.handled = none) (hm : IsMap s.heap M T f) (ht : s.heap.IsTuple T #[.ref I]) (hit : s.heap.IsListIter I l i) (hl : s.heap.IsList l items) (hx : items[i]? = none)
    (hE : ∀ h' e, Heap.ExtBut I s.heap h' → (∃ o, h'.get? e = some o ∧ o.cls = .type "StopIteration") → E (.ref e) { s with heap := h' }) :
    wpAny (model prog w) A (Builtin.«map.__next__» ⟨[.ref M], []⟩) Q E s := by
  obtain ⟨o, ho, hc, n, hd⟩ := id ht
  show wpAny _ _ (field (.ref M) 0 >>= _) _ _ _
  refine wpAny_bind (wpAny_field hm rfl (x := .ref T) rfl ?_)
  refine wpAny_bind (wpAny_seqItems ho hd ?_)
  simp only []
  refine wpAny_bind ?_
  rw [← Array.forIn_toList]
  simp only [List.forIn_cons, List.forIn_nil]
  exact wpAny_bind (wpAny_bind (wpAny_holding (wpAny_nextOf_list_end hh hit hl hx hE)))

/-- the walk of map(f, list): f gives back the item's value -/
theorem Walks.map (hh : A.handled = none) {M T I l : Addr} {f : Value} {g : Heap} {items : List Value} (hg : ∀ b ∈ [M, T, I], g.get? b = none) (hne : I ≠ T ∧ I ≠ M ∧ T ≠ M) (hl : g.IsList l items.toArray) (P : Value → Value → Prop)
    (hf : ∀ (s : Shared) v (Q E : Value → Shared → Prop), v ∈ items → Sub g s.heap → (∀ r s', P v r → Keeps s s' → Q r s') → wpAny (model prog w) A.in1 (call f [v]) Q E s) :
    Walks prog w A M ([M, T, I] ++ List.range g.objs.size) [I] items.length (fun i r => ∃ v, items[i]? = some v ∧ P v r) (fun i h => IsMap h M T f ∧ h.IsTuple T #[.ref I] ∧ h.IsListIter I l i ∧ Sub g h) where
  sub := fun b hb => by simp at hb; simp [hb]
  frame := fun i h h' st hk => ⟨hk M (by simp) _ st.1, let ⟨o, ho, r⟩ := st.2.1; ⟨o, hk T (by simp) _ ho, r⟩, st.2.2.1.at fun o e => hk I (by simp) o e, fun b o e => hk b (by
    have := Heap.lt_size e
    simp only [List.mem_append, List.mem_range]; exact .inr this) o (st.2.2.2 b o e)⟩
  item := fun i s Q E hi st hQ => by
    obtain ⟨hm, ht, hit, hs⟩ := st
    have hT : s.TypeIs (.ref M) "map" := ⟨_, hm, rfl⟩
    unfold pyNext
    refine wpAny_bind (wpAny_attempt (wpAny_callSpecial?_slot (name := Str.ofString "__next__") hT slot_map_next (wpAny_call_entry slot_map_next hT entry_map_next ?_ (args_map_next _))))
    refine map_next_item hm ht hit (hs.list hl) (v := items[i]) (by simp [hi]) (Ne.symm hne.2.1) (Ne.symm hne.1) fun h' hit' hs' => ?_
    refine hf _ _ _ _ (List.getElem_mem hi) (fun b o e => hs'.extBut b o (by rintro rfl; have := hg b (by simp); rw [this] at e; cases e) (hs b o e)) fun r s' hP K => ?_
    obtain ⟨h₂, t₂, rfl, k⟩ := K
    refine wpAny_pure (hQ r h₂ t₂ ⟨_, by simp [hi], hP⟩ ⟨k _ _ (hs'.extBut _ _ (Ne.symm hne.2.1) hm), let ⟨o, ho, r⟩ := ht; ⟨o, k _ _ (hs'.extBut _ _ (Ne.symm hne.1) ho), r⟩, hit'.at fun o e => k _ _ e, fun b o e => k _ _ (hs'.extBut b o (by rintro rfl; have := hg b (by simp); rw [this] at e; cases e) (hs b o e))⟩ fun b o hb e => k _ _ (hs'.extBut b o (fun q => hb (by simp [q])) e))
  done := fun s Q E st hQ => by
    obtain ⟨hm, ht, hit, hs⟩ := st
    have hT : s.TypeIs (.ref M) "map" := ⟨_, hm, rfl⟩
    unfold pyNext
    refine wpAny_bind (wpAny_attempt (wpAny_callSpecial?_slot (name := Str.ofString "__next__") hT slot_map_next (wpAny_call_entry slot_map_next hT entry_map_next ?_ (args_map_next _))))
    refine map_next_end hh hm ht hit (hs.list hl) (by simp) fun h' e hx he => ?_
    obtain ⟨o, ho, hc⟩ := he
    refine wpAny_bind (wpAny_isInstance (T := "StopIteration") (b := true) ⟨o, ho, hc⟩ isSubtype_stop ?_)
    exact wpAny_pure (hQ h' s.toks fun b o hb e => hx b o (fun q => hb (by simp [q])) e)
  self := fun _ _ _ _ st hQ => pyIter_map st.1 hQ
end
end Mine

end

section
open PySem PySem.W PyProof.Rows PySem.Calls
set_option maxRecDepth 100000
namespace Mine
section
variable {prog : Program} {w : World} {A : Around} {E : Value → Shared → Prop} {s : Shared}
variable {I : Addr} {fp wr : List Addr} {G : Array GenState → Array GenState → Prop} {n : Nat} {P : Nat → Value → Prop} {St : Nat → Shared → Prop}
theorem wpAny_collect_map {Q : List Value → Shared → Prop} (W : WalksS prog w A.in1 I fp wr G n P St) (hT : ∀ i s, St i s → s.TypeIs (.ref I) "map") (hst : St 0 s) (hfp : ∀ b ∈ fp, b < s.heap.objs.size) (hI : I ∈ fp)
    (hQ : ∀ s' acc, Moved wr G s s' → ItemsOf P acc n → Q acc.toList s') (hn : n ≤ sizeLine := by size_fits) : wpAny (model prog w) A (collect (.ref I)) Q E s := by
  have hSf : s.heap.objs.size ∉ fp := fun hm => Nat.lt_irrefl _ (hfp _ hm)
  have hSI : s.heap.objs.size ≠ I := fun e => hSf (e ▸ hI)
  unfold collect
  refine wpAny_bind (wpAny_runValue (codeAny_builtin PySem.F.entry_proto_collect ?_))
  rw [Around.under_plainId PySem.F.plain_proto_collect _]
  show wpAny _ A.in1 (newList [] >>= fun l => again (.builtin "list.__iadd__" ⟨[l, .ref I], []⟩)) _ _ s
  refine wpAny_bind (wpAny_newObj_type ?_)
  refine wpAny_pure ⟨plainId_quiet PySem.F.plain_list_iadd _, codeAny_builtin PySem.F.entry_list_iadd ?_⟩
  rw [Around.under_plainId PySem.F.plain_list_iadd _]
  have hst₁ := W.frame 0 s (s.heap.push { cls := .type "list", data := .seq ([] : List Value).toArray }) s.toks hst (Nat.le_refl _) fun b _ o e => Heap.get?_push_of_some _ e
  show wpAny _ A.in1 (Builtin.List.listExtendWith (.ref s.heap.objs.size) (.ref I) (.ref s.heap.objs.size)) _ _ _
  unfold Builtin.List.listExtendWith
  refine wpAny_bind (wpAny_typeOf (hT 0 _ hst₁) ?_)
  have h1 : Builtin.List.listSameRef (.ref s.heap.objs.size) (.ref I) = false := by simp [Builtin.List.listSameRef, hSI]
  have h2 : (Value.type "map" == Value.type "list") = false := by decide
  have h3 : (Value.type "map" == Value.type "tuple") = false := by decide
  simp only [h1, h2, h3, Bool.or_false, Bool.false_eq_true, if_false]
  refine wpAny_bind (W.self 0 _ _ _ hst₁ ?_)
  refine wpAny_bind (wpAny_holding ?_)
  unfold Builtin.List.listLengthHint
  refine wpAny_bind (wpAny_specialOf (hT 0 _ hst₁) nolen_map ?_)
  show wpAny _ A.in1 (specialOf (Value.ref I) (Str.ofString "__length_hint__") >>= _) _ _ _
  refine wpAny_bind (wpAny_specialOf (hT 0 _ hst₁) nohint_map ?_)
  refine wpAny_pure ?_
  show wpAny _ A.in1 (rule "list.extend.makes-room" >>= fun _ => Builtin.List.listTouch (.ref s.heap.objs.size) >>= fun _ =>
    again (.builtin "list.extend.loop" ⟨[.ref s.heap.objs.size, .ref I, .ref s.heap.objs.size], []⟩)) _ _ _
  refine wpAny_bind (wpAny_rule ?_)
  have hS₁ : (s.heap.push { cls := .type "list", data := .seq ([] : List Value).toArray }).get? s.heap.objs.size = some { cls := .type "list", data := .seq ([] : List Value).toArray } := Heap.get?_push_size _ rfl
  refine wpAny_bind ?_
  show wpAny _ A.in1 (updateSeq s.heap.objs.size (·.push .none) >>= fun _ => updateSeq s.heap.objs.size (·.pop)) _ _ _
  refine wpAny_bind (wpAny_updateSeq hS₁ rfl ?_)
  have hS₂ := Heap.get?_update_self (Obj.mapSeq (·.push Value.none)) hS₁ rfl
  refine wpAny_updateSeq hS₂ rfl ?_
  have hS₃ := Heap.get?_update_self (Obj.mapSeq (·.pop)) hS₂ rfl
  have oth : ∀ b o, b ≠ s.heap.objs.size → (s.heap.push { cls := .type "list", data := .seq ([] : List Value).toArray }).get? b = some o →
      (((s.heap.push { cls := .type "list", data := .seq ([] : List Value).toArray }).update s.heap.objs.size (Obj.mapSeq (·.push Value.none))).update s.heap.objs.size (Obj.mapSeq (·.pop))).get? b = some o :=
    fun b o hb e => (Heap.get?_update_other _ _ (Ne.symm hb)).trans ((Heap.get?_update_other _ _ (Ne.symm hb)).trans e)
  refine wpAny_pure ⟨plainId_quiet PySem.F.plain_extend_loop _, codeAny_extend_loopS W hn _ hSf _ n 0 _ _ _ rfl (Nat.zero_le _)
    (W.frame 0 ({ s with heap := s.heap.push { cls := .type "list", data := .seq ([] : List Value).toArray } } : Shared) _ s.toks hst₁ (Nat.le_refl _) fun b hb o e => oth b o (fun h => hSf (h ▸ hb)) e) hS₃ (ItemsOf.nil P) fun s' acc' c' hm hS' hacc => ?_⟩
  show wpAny _ A (load s.heap.objs.size >>= _) _ _ s'
  refine wpAny_bind (wpAny_load hS' ?_)
  refine wpAny_pure (hQ s' acc' (Moved.drop_new (o := { cls := .type "list", data := .seq ([] : List Value).toArray }) (tk := s.toks) (Moved.trans W.gtrans ((Moved.refl W.grefl).then_heap (by first | exact Nat.le_refl _ | exact Nat.le_succ _ | omega) fun b o hb e => ?_) hm) (Nat.le_refl _)) hacc)
  exact oth b o (fun h => hb (h ▸ List.mem_cons_self)) e
theorem code_tuple_new_map {Q₁ : Value → Shared → Prop} (W : WalksS prog w A.in1.in1 I fp wr G n P St) (hT : ∀ i s, St i s → s.TypeIs (.ref I) "map") (hst : St 0 s) (hfp : ∀ b ∈ fp, b < s.heap.objs.size) (hI : I ∈ fp)
    (h : ∀ s' acc, Moved wr G s s' → ItemsOf P acc n → Q₁ (.ref s'.heap.objs.size) { s' with heap := s'.heap.push { cls := .type "tuple", data := .seq acc } }) (hsz : n ≤ sizeLine := by size_fits) :
    codeAny (model prog w) A (.call (.builtin "tuple.__new__") ⟨[.type "tuple", .ref I], []⟩) (wants Q₁ E) s := by
  refine codeAny_of_tree ?_
  show wpAny _ A.in1 (do checkBuiltinCall "tuple.__new__" ⟨[.type "tuple", .ref I], []⟩; again (.builtin "tuple.__new__" ⟨[.type "tuple", .ref I], []⟩)) _ _ s
  refine wpAny_bind (wpAny_of_eq (PySem.F.newCall_tuple_1 _) (wpAny_pure ⟨plainId_quiet PySem.F.plain_tuple_new _, codeAny_builtin PySem.F.entry_tuple_new ?_⟩))
  rw [Around.under_plainId PySem.F.plain_tuple_new _]
  have hsub := sub_tuple_self
  have hinit := init_tuple_lookup
  have hmh := madeHere_tuple
  have hTI := hT 0 s hst
  wp_walk using wpAny_typeOf hTI, wpAny_collect_map (hn := hsz) W hT hst hfp hI
  intro s' acc hm hacc
  show wpAny _ _ (Builtin.Tuple.tupleExact acc.toList.toArray >>= fun v => ret v) _ _ _
  unfold Builtin.Tuple.tupleExact
  refine wpAny_bind (wpAny_newObj_type ?_ (by show acc.toList.toArray.size ≤ sizeLine; simp only [Array.toArray_toList]; rw [hacc.1]; exact hsz))
  refine wpAny_pure ?_
  have e : acc.toList.toArray = acc := by simp
  rw [e]
  exact h s' acc hm hacc

theorem call_tuple_map {Q : Value → Shared → Prop} (W : WalksS prog w A.in1.in1.in1 I fp wr G n P St) (hT : ∀ i s, St i s → s.TypeIs (.ref I) "map") (hst : St 0 s) (hfp : ∀ b ∈ fp, b < s.heap.objs.size) (hI : I ∈ fp)
    (hQ : ∀ s' acc, Moved wr G s s' → ItemsOf P acc n → Q (.ref s'.heap.objs.size) { s' with heap := s'.heap.push { cls := .type "tuple", data := .seq acc } }) (hsz : n ≤ sizeLine := by size_fits) :
    wpAny (model prog w) A (call (.type "tuple") [.ref I]) Q E s := by
  refine callType_codes (Q₁ := fun obj s₁ => s₁.TypeIs obj "tuple" ∧ Q obj s₁) PySem.F.called_tuple (PySem.F.typeCall_tuple_1 _) PySem.F.entry_object_init
    (code_tuple_new_map (hsz := hsz) W hT hst hfp hI fun s' acc hm hacc => ⟨⟨_, Heap.get?_push_size _ rfl, rfl⟩, hQ s' acc hm hacc⟩) fun obj s₁ h₁ => ?_
  exact ⟨h₁.1, PySem.F.args_object_init_2 obj _, object_init_meets PySem.F.called_tuple.init.lookup PySem.F.called_tuple.made (by decide) prog w A.in1 _ s₁ ⟨h₁.1, rfl, h₁.2⟩⟩
end
end Mine

end

section
open PySem PySem.W PyProof.Rows PySem.Calls
set_option maxRecDepth 100000
namespace Mine

def CmpOn (prog : Program) (w : World) (A : Around) (op : CmpOp) (P : Nat → Value → Prop) (bt : Nat → Nat → Bool) (St : Nat → Heap → Prop) : Prop :=
  ∀ k i j vi vj (s : Shared) (Q : Value → Shared → Prop) (E : Value → Shared → Prop), St k s.heap → P i vi → P j vj → Q (.bool (bt i j)) s → wpAny (model prog w) A (richCompare op vi vj) Q E s

section
variable {prog : Program} {w : World} {A : Around} {R : Result → Shared → Prop} {I : Addr} {fp wr : List Addr} {n : Nat} {P : Nat → Value → Prop} {St : Nat → Heap → Prop}
theorem codeAny_max_loopI (W : Walks prog w A.in1 I fp wr n P St) (bt : Nat → Nat → Bool) (hcmp : CmpOn prog w A.in1 .Gt P bt St) (S : Addr) (hSf : S ∉ fp) :
    ∀ (k j : Nat) (s : Shared) (vb : Value) (c : Nat), n - (j + 1) = k → j + 1 ≤ n → St (j + 1) s.heap → P (argBest bt j) vb →
    s.heap.get? S = some { cls := .type "list", dict := none, data := .seq #[vb, vb] c, slots := #[] } →
    (∀ v h' tk, P (argBest bt (n - 1)) v → (∀ b o, b ∉ wr → b ≠ S → s.heap.get? b = some o → h'.get? b = some o) → R (.ok (.ret v)) { s with heap := h', toks := tk }) →
    codeAny (model prog w) A (.builtin "max.loop" ⟨[.ref I, .none, .ref S], []⟩) R s := by
  have hSw : S ∉ wr := fun h => hSf (W.sub _ h)
  have hname : (toString "max" ++ toString ".loop" : String) = "max.loop" := by decide
  intro k
  induction k with
  | zero =>
    intro j s vb c hk hj hst hPb hS hR
    have hin : j + 1 = n := by omega
    refine codeAny_builtin PySem.F.entry_max_loop ?_
    rw [Around.under_plainId PySem.F.plain_max_loop _]
    show wpAny _ A.in1 (seqItems? (.ref S) >>= _) _ _ s
    refine wpAny_bind (wpAny_seqItems hS rfl ?_)
    show wpAny _ A.in1 (tryCatch (pyNext (.ref I)) _ >>= _) _ _ s
    refine wpAny_bind (wpAny_tryCatch (W.done s _ _ (hin ▸ hst) fun h' tk hk' => ?_))
    have hS' := hk' S _ hSw hS
    show wpAny _ A.in1 (updateSeq S (fun _ => #[]) >>= _) _ _ _
    refine wpAny_bind ?_
    refine wpAny_updateSeq hS' rfl (wpAny_bind (wpAny_letGo (wpAny_pure ?_)))
    refine hR vb _ tk (by rw [← hin]; exact hPb) fun b o hbw hbS e => (Heap.get?_update_other _ _ (Ne.symm hbS)).trans (hk' b o hbw e)
  | succ k ih =>
    intro j s vb c hk hj hst hPb hS hR
    have hlt : j + 1 < n := by omega
    refine codeAny_builtin PySem.F.entry_max_loop ?_
    rw [Around.under_plainId PySem.F.plain_max_loop _]
    show wpAny _ A.in1 (seqItems? (.ref S) >>= _) _ _ s
    refine wpAny_bind (wpAny_seqItems hS rfl ?_)
    show wpAny _ A.in1 (tryCatch (pyNext (.ref I)) _ >>= _) _ _ s
    refine wpAny_bind (wpAny_tryCatch (W.item (j + 1) s _ _ hlt hst fun v h' tk hP hst' hk' => ?_))
    have hS' := hk' S _ hSw hS
    show wpAny _ A.in1 (tryCatch (holding [v, v] (richCompare .Gt v vb >>= _)) _ >>= _) _ _ _
    refine wpAny_bind (wpAny_tryCatch (wpAny_holding (wpAny_bind (hcmp (j + 1 + 1) (j + 1) (argBest bt j) v vb _ _ _ hst' hP hPb ?_))))
    refine wpAny_bind (wpAny_holding (wpAny_truthy_bool ?_))
    refine wpAny_bind (wpAny_letGo (wpAny_pure ?_))
    cases hb : bt (j + 1) (argBest bt j) with
    | true =>
      simp only [if_true]
      refine wpAny_bind ?_
      refine wpAny_updateSeq hS' rfl (wpAny_bind (wpAny_letGo ?_))
      rw [hname]
      refine wpAny_pure ⟨plainId_quiet PySem.F.plain_max_loop _, ih (j + 1) _ v _ (by omega) hlt (W.frame _ _ _ hst' fun b hbf o e => ?_) (by simp only [argBest, hb, if_true]; exact hP) (Heap.get?_update_self _ hS' rfl)
        fun v' h'' tk'' hP' hk'' => ?_⟩
      · exact (Heap.get?_update_other _ _ (fun h : S = b => hSf (by rw [h]; exact hbf))).trans e
      · exact hR v' h'' tk'' hP' fun b o hbw hbS e => hk'' b o hbw hbS ((Heap.get?_update_other _ _ (Ne.symm hbS)).trans (hk' b o hbw e))
    | false =>
      simp only [Bool.false_eq_true, if_false]
      refine wpAny_bind (wpAny_letGo ?_)
      rw [hname]
      refine wpAny_pure ⟨plainId_quiet PySem.F.plain_max_loop _, ih (j + 1) _ vb c (by omega) hlt hst' (by simp only [argBest, hb, Bool.false_eq_true, if_false]; exact hPb) hS' fun v' h'' tk'' hP' hk'' => ?_⟩
      exact hR v' h'' tk'' hP' fun b o hbw hbS e => hk'' b o hbw hbS (hk' b o hbw e)

theorem codeAny_max_loop_firstI (W : Walks prog w A.in1 I fp wr n P St) (bt : Nat → Nat → Bool) (hcmp : CmpOn prog w A.in1 .Gt P bt St) (S : Addr) (hSf : S ∉ fp) (hn : 0 < n) {s : Shared} {c : Nat} (hst : St 0 s.heap)
    (hS : s.heap.get? S = some { cls := .type "list", dict := none, data := .seq #[] c, slots := #[] })
    (hR : ∀ v h' tk, P (argBest bt (n - 1)) v → (∀ b o, b ∉ wr → b ≠ S → s.heap.get? b = some o → h'.get? b = some o) → R (.ok (.ret v)) { s with heap := h', toks := tk }) :
    codeAny (model prog w) A (.builtin "max.loop" ⟨[.ref I, .none, .ref S], []⟩) R s := by
  have hSw : S ∉ wr := fun h => hSf (W.sub _ h)
  have hname : (toString "max" ++ toString ".loop" : String) = "max.loop" := by decide
  refine codeAny_builtin PySem.F.entry_max_loop ?_
  rw [Around.under_plainId PySem.F.plain_max_loop _]
  show wpAny _ A.in1 (seqItems? (.ref S) >>= _) _ _ s
  refine wpAny_bind (wpAny_seqItems hS rfl ?_)
  show wpAny _ A.in1 (tryCatch (pyNext (.ref I)) _ >>= _) _ _ s
  refine wpAny_bind (wpAny_tryCatch (W.item 0 s _ _ hn hst fun v h' tk hP hst' hk' => ?_))
  have hS' := hk' S _ hSw hS
  show wpAny _ A.in1 (updateSeq S (fun _ => #[v, v]) >>= _) _ _ _
  refine wpAny_bind ?_
  refine wpAny_updateSeq hS' rfl ?_
  rw [hname]
  refine wpAny_pure ⟨plainId_quiet PySem.F.plain_max_loop _, codeAny_max_loopI W bt hcmp S hSf _ 0 _ v _ rfl hn (W.frame _ _ _ hst' fun b hbf o e => ?_) hP (Heap.get?_update_self _ hS' rfl) fun v' h'' tk'' hP' hk'' => ?_⟩
  · exact (Heap.get?_update_other _ _ (fun h : S = b => hSf (by rw [h]; exact hbf))).trans e
  · exact hR v' h'' tk'' hP' fun b o hbw hbS e => hk'' b o hbw hbS ((Heap.get?_update_other _ _ (Ne.symm hbS)).trans (hk' b o hbw e))
theorem codeAny_min_loopI (W : Walks prog w A.in1 I fp wr n P St) (bt : Nat → Nat → Bool) (hcmp : CmpOn prog w A.in1 .Lt P bt St) (S : Addr) (hSf : S ∉ fp) :
    ∀ (k j : Nat) (s : Shared) (vb : Value) (c : Nat), n - (j + 1) = k → j + 1 ≤ n → St (j + 1) s.heap → P (argBest bt j) vb →
    s.heap.get? S = some { cls := .type "list", dict := none, data := .seq #[vb, vb] c, slots := #[] } →
    (∀ v h' tk, P (argBest bt (n - 1)) v → (∀ b o, b ∉ wr → b ≠ S → s.heap.get? b = some o → h'.get? b = some o) → R (.ok (.ret v)) { s with heap := h', toks := tk }) →
    codeAny (model prog w) A (.builtin "min.loop" ⟨[.ref I, .none, .ref S], []⟩) R s := by
  have hSw : S ∉ wr := fun h => hSf (W.sub _ h)
  have hname : (toString "min" ++ toString ".loop" : String) = "min.loop" := by decide
  intro k
  induction k with
  | zero =>
    intro j s vb c hk hj hst hPb hS hR
    have hin : j + 1 = n := by omega
    refine codeAny_builtin PySem.F.entry_min_loop ?_
    rw [Around.under_plainId PySem.F.plain_min_loop _]
    show wpAny _ A.in1 (seqItems? (.ref S) >>= _) _ _ s
    refine wpAny_bind (wpAny_seqItems hS rfl ?_)
    show wpAny _ A.in1 (tryCatch (pyNext (.ref I)) _ >>= _) _ _ s
    refine wpAny_bind (wpAny_tryCatch (W.done s _ _ (hin ▸ hst) fun h' tk hk' => ?_))
    have hS' := hk' S _ hSw hS
    show wpAny _ A.in1 (updateSeq S (fun _ => #[]) >>= _) _ _ _
    refine wpAny_bind ?_
    refine wpAny_updateSeq hS' rfl (wpAny_bind (wpAny_letGo (wpAny_pure ?_)))
    refine hR vb _ tk (by rw [← hin]; exact hPb) fun b o hbw hbS e => (Heap.get?_update_other _ _ (Ne.symm hbS)).trans (hk' b o hbw e)
  | succ k ih =>
    intro j s vb c hk hj hst hPb hS hR
    have hlt : j + 1 < n := by omega
    refine codeAny_builtin PySem.F.entry_min_loop ?_
    rw [Around.under_plainId PySem.F.plain_min_loop _]
    show wpAny _ A.in1 (seqItems? (.ref S) >>= _) _ _ s
    refine wpAny_bind (wpAny_seqItems hS rfl ?_)
    show wpAny _ A.in1 (tryCatch (pyNext (.ref I)) _ >>= _) _ _ s
    refine wpAny_bind (wpAny_tryCatch (W.item (j + 1) s _ _ hlt hst fun v h' tk hP hst' hk' => ?_))
    have hS' := hk' S _ hSw hS
    show wpAny _ A.in1 (tryCatch (holding [v, v] (richCompare .Lt v vb >>= _)) _ >>= _) _ _ _
    refine wpAny_bind (wpAny_tryCatch (wpAny_holding (wpAny_bind (hcmp (j + 1 + 1) (j + 1) (argBest bt j) v vb _ _ _ hst' hP hPb ?_))))
    refine wpAny_bind (wpAny_holding (wpAny_truthy_bool ?_))
    refine wpAny_bind (wpAny_letGo (wpAny_pure ?_))
    cases hb : bt (j + 1) (argBest bt j) with
    | true =>
      simp only [if_true]
      refine wpAny_bind ?_
      refine wpAny_updateSeq hS' rfl (wpAny_bind (wpAny_letGo ?_))
      rw [hname]
      refine wpAny_pure ⟨plainId_quiet PySem.F.plain_min_loop _, ih (j + 1) _ v _ (by omega) hlt (W.frame _ _ _ hst' fun b hbf o e => ?_) (by simp only [argBest, hb, if_true]; exact hP) (Heap.get?_update_self _ hS' rfl)
        fun v' h'' tk'' hP' hk'' => ?_⟩
      · exact (Heap.get?_update_other _ _ (fun h : S = b => hSf (by rw [h]; exact hbf))).trans e
      · exact hR v' h'' tk'' hP' fun b o hbw hbS e => hk'' b o hbw hbS ((Heap.get?_update_other _ _ (Ne.symm hbS)).trans (hk' b o hbw e))
    | false =>
      simp only [Bool.false_eq_true, if_false]
      refine wpAny_bind (wpAny_letGo ?_)
      rw [hname]
      refine wpAny_pure ⟨plainId_quiet PySem.F.plain_min_loop _, ih (j + 1) _ vb c (by omega) hlt hst' (by simp only [argBest, hb, Bool.false_eq_true, if_false]; exact hPb) hS' fun v' h'' tk'' hP' hk'' => ?_⟩
      exact hR v' h'' tk'' hP' fun b o hbw hbS e => hk'' b o hbw hbS (hk' b o hbw e)

theorem codeAny_min_loop_firstI (W : Walks prog w A.in1 I fp wr n P St) (bt : Nat → Nat → Bool) (hcmp : CmpOn prog w A.in1 .Lt P bt St) (S : Addr) (hSf : S ∉ fp) (hn : 0 < n) {s : Shared} {c : Nat} (hst : St 0 s.heap)
    (hS : s.heap.get? S = some { cls := .type "list", dict := none, data := .seq #[] c, slots := #[] })
    (hR : ∀ v h' tk, P (argBest bt (n - 1)) v → (∀ b o, b ∉ wr → b ≠ S → s.heap.get? b = some o → h'.get? b = some o) → R (.ok (.ret v)) { s with heap := h', toks := tk }) :
    codeAny (model prog w) A (.builtin "min.loop" ⟨[.ref I, .none, .ref S], []⟩) R s := by
  have hSw : S ∉ wr := fun h => hSf (W.sub _ h)
  have hname : (toString "min" ++ toString ".loop" : String) = "min.loop" := by decide
  refine codeAny_builtin PySem.F.entry_min_loop ?_
  rw [Around.under_plainId PySem.F.plain_min_loop _]
  show wpAny _ A.in1 (seqItems? (.ref S) >>= _) _ _ s
  refine wpAny_bind (wpAny_seqItems hS rfl ?_)
  show wpAny _ A.in1 (tryCatch (pyNext (.ref I)) _ >>= _) _ _ s
  refine wpAny_bind (wpAny_tryCatch (W.item 0 s _ _ hn hst fun v h' tk hP hst' hk' => ?_))
  have hS' := hk' S _ hSw hS
  show wpAny _ A.in1 (updateSeq S (fun _ => #[v, v]) >>= _) _ _ _
  refine wpAny_bind ?_
  refine wpAny_updateSeq hS' rfl ?_
  rw [hname]
  refine wpAny_pure ⟨plainId_quiet PySem.F.plain_min_loop _, codeAny_min_loopI W bt hcmp S hSf _ 0 _ v _ rfl hn (W.frame _ _ _ hst' fun b hbf o e => ?_) hP (Heap.get?_update_self _ hS' rfl) fun v' h'' tk'' hP' hk'' => ?_⟩
  · exact (Heap.get?_update_other _ _ (fun h : S = b => hSf (by rw [h]; exact hbf))).trans e
  · exact hR v' h'' tk'' hP' fun b o hbw hbS e => hk'' b o hbw hbS ((Heap.get?_update_other _ _ (Ne.symm hbS)).trans (hk' b o hbw e))
end
section
variable {prog : Program} {w : World} {A : Around} {E : Value → Shared → Prop} {s : Shared}
theorem call_max_walkI {x : Value} {Q : Value → Shared → Prop}
    (h : wpAny (model prog w) A.in1 (pyIter x) (fun it s₂ => ∃ I fp wr n P St bt, it = .ref I ∧ Walks prog w A.in1 I fp wr n P St ∧ St 0 s₂.heap ∧ (∀ b ∈ fp, b < s₂.heap.objs.size) ∧ 0 < n ∧ CmpOn prog w A.in1 .Gt P bt St ∧
      ∀ v h' tk, P (argBest bt (n - 1)) v → (∀ b o, b ∉ wr → s₂.heap.get? b = some o → h'.get? b = some o) → Q v { s₂ with heap := h', toks := tk }) E s) :
    wpAny (model prog w) A (call (.builtin "max") [x]) Q E s := by
  have hname : (toString "max" ++ toString ".loop" : String) = "max.loop" := by decide
  refine call_function_tree PySem.F.kind_max PySem.F.plain_max PySem.F.entry_max (PySem.F.args_max1 _) ?_
  show wpAny _ A.in1 (Builtin.Builtins.bindParams "max" ["key", "default"] 0 ⟨[], []⟩ >>= _) _ _ s
  refine wpAny_bind (wpAny_of_eq (show Builtin.Builtins.bindParams "max" ["key", "default"] 0 ⟨[], []⟩ = pure [none, none] from rfl) ?_)
  refine wpAny_bind (wpAny_pure ?_)
  refine wpAny_bind (wpAny_mono h (fun it s₂ h₂ => ?_) fun _ _ e => e)
  obtain ⟨I, fp, wr, n, P, St, bt, rfl, W, hst, hfp, hn, hcmp, hQ⟩ := h₂
  refine wpAny_bind (wpAny_newObj_type ?_)
  have hSf : s₂.heap.objs.size ∉ fp := fun hm => Nat.lt_irrefl _ (hfp _ hm)
  rw [hname]
  refine wpAny_pure ⟨plainId_quiet PySem.F.plain_max_loop _, codeAny_max_loop_firstI W bt hcmp s₂.heap.objs.size hSf hn (W.frame _ _ _ hst fun b _ o e => Heap.get?_push_of_some _ e) (Heap.get?_push_size _ rfl) fun v h' tk hP hk => ?_⟩
  exact hQ v h' tk hP fun b o hbw e => hk b o hbw (Nat.ne_of_lt (Heap.lt_size e)) (Heap.get?_push_of_some _ e)
theorem call_min_walkI {x : Value} {Q : Value → Shared → Prop}
    (h : wpAny (model prog w) A.in1 (pyIter x) (fun it s₂ => ∃ I fp wr n P St bt, it = .ref I ∧ Walks prog w A.in1 I fp wr n P St ∧ St 0 s₂.heap ∧ (∀ b ∈ fp, b < s₂.heap.objs.size) ∧ 0 < n ∧ CmpOn prog w A.in1 .Lt P bt St ∧
      ∀ v h' tk, P (argBest bt (n - 1)) v → (∀ b o, b ∉ wr → s₂.heap.get? b = some o → h'.get? b = some o) → Q v { s₂ with heap := h', toks := tk }) E s) :
    wpAny (model prog w) A (call (.builtin "min") [x]) Q E s := by
  have hname : (toString "min" ++ toString ".loop" : String) = "min.loop" := by decide
  refine call_function_tree PySem.F.kind_min PySem.F.plain_min PySem.F.entry_min (PySem.F.args_min1 _) ?_
  show wpAny _ A.in1 (Builtin.Builtins.bindParams "min" ["key", "default"] 0 ⟨[], []⟩ >>= _) _ _ s
  refine wpAny_bind (wpAny_of_eq (show Builtin.Builtins.bindParams "min" ["key", "default"] 0 ⟨[], []⟩ = pure [none, none] from rfl) ?_)
  refine wpAny_bind (wpAny_pure ?_)
  refine wpAny_bind (wpAny_mono h (fun it s₂ h₂ => ?_) fun _ _ e => e)
  obtain ⟨I, fp, wr, n, P, St, bt, rfl, W, hst, hfp, hn, hcmp, hQ⟩ := h₂
  refine wpAny_bind (wpAny_newObj_type ?_)
  have hSf : s₂.heap.objs.size ∉ fp := fun hm => Nat.lt_irrefl _ (hfp _ hm)
  rw [hname]
  refine wpAny_pure ⟨plainId_quiet PySem.F.plain_min_loop _, codeAny_min_loop_firstI W bt hcmp s₂.heap.objs.size hSf hn (W.frame _ _ _ hst fun b _ o e => Heap.get?_push_of_some _ e) (Heap.get?_push_size _ rfl) fun v h' tk hP hk => ?_⟩
  exact hQ v h' tk hP fun b o hbw e => hk b o hbw (Nat.ne_of_lt (Heap.lt_size e)) (Heap.get?_push_of_some _ e)
end
end Mine

end

section
open PySem PySem.W PyProof.Rows PySem.Calls
set_option maxRecDepth 100000
namespace Mine

/-- the order of texts, of rows of texts -/
def ltS (x y : Str) : Bool := decide (x.cps.toList < y.cps.toList)
def ltR : List Str → List Str → Bool
  | [], [] => false
  | [], _ :: _ => true
  | _ :: _, [] => false
  | x :: xs, y :: ys => if x = y then ltR xs ys else ltS x y
theorem ltS_irrefl (x : Str) : ltS x x = false := by unfold ltS; exact decide_eq_false (List.lt_irrefl _)
theorem ltS_trans {x y z : Str} (a : ltS x y = true) (b : ltS y z = true) : ltS x z = true := by
  unfold ltS at *
  exact decide_eq_true (List.lt_trans (of_decide_eq_true a) (of_decide_eq_true b))
theorem ltS_tri {x y : Str} (a : ltS x y = false) (b : ltS y x = false) : x = y := by
  unfold ltS at *
  have h1 : ¬ x.cps.toList < y.cps.toList := of_decide_eq_false a
  have h2 : ¬ y.cps.toList < x.cps.toList := of_decide_eq_false b
  have : x.cps.toList = y.cps.toList := List.le_antisymm (List.not_lt.mp h2) (List.not_lt.mp h1)
  cases x with | mk a => cases y with | mk b =>
  simpa using this
theorem ltR_irrefl : ∀ xs : List Str, ltR xs xs = false
  | [] => rfl
  | x :: xs => by unfold ltR; rw [if_pos rfl]; exact ltR_irrefl xs
theorem ltR_trans : ∀ {xs ys zs : List Str}, ltR xs ys = true → ltR ys zs = true → ltR xs zs = true
  | [], [], _, a, _ => by cases a
  | [], _ :: _, [], _, b => by cases b
  | [], _ :: _, _ :: _, _, _ => rfl
  | _ :: _, [], _, a, _ => by cases a
  | _ :: _, _ :: _, [], _, b => by cases b
  | x :: xs, y :: ys, z :: zs, a, b => by
    unfold ltR at *
    by_cases h1 : x = y
    · subst h1
      rw [if_pos rfl] at a
      by_cases h2 : x = z
      · subst h2; rw [if_pos rfl] at b ⊢; exact ltR_trans a b
      · rw [if_neg h2] at b ⊢; exact b
    · rw [if_neg h1] at a
      by_cases h2 : y = z
      · subst h2; rw [if_neg h1]; exact a
      · rw [if_neg h2] at b
        have h3 := ltS_trans a b
        by_cases h4 : x = z
        · subst h4; rw [ltS_irrefl] at h3; cases h3
        · rw [if_neg h4]; exact h3
/-- what lies between two rows shares what they share -/
theorem between : ∀ (k : Nat) {a b r : List Str}, ltR r a = false → ltR b r = false → k ≤ a.length → k ≤ b.length → a.take k = b.take k → r.take k = a.take k ∧ k ≤ r.length
  | 0, _, _, _, _, _, _, _, _ => ⟨rfl, Nat.zero_le _⟩
  | k + 1, [], _, _, _, _, h, _, _ => by cases h
  | k + 1, _ :: _, [], _, _, _, _, h, _ => by cases h
  | k + 1, x :: a, y :: b, [], h1, _, _, _, _ => by cases h1
  | k + 1, x :: a, y :: b, z :: r, h1, h2, h3, h4, h5 => by
    rw [List.take_succ_cons, List.take_succ_cons] at h5
    injection h5 with h6 h7
    subst h6
    unfold ltR at h1 h2
    have hz : z = x := by
      apply Classical.byContradiction
      intro hn
      rw [if_neg hn] at h1
      rw [if_neg (fun q => hn q.symm)] at h2
      exact hn (ltS_tri h1 h2)
    subst hz
    rw [if_pos rfl] at h1 h2
    obtain ⟨e1, e2⟩ := between k h1 h2 (by simpa using h3) (by simpa using h4) h7
    exact ⟨by rw [List.take_succ_cons, List.take_succ_cons, e1], by simpa using e2⟩

theorem best_no {bt : Nat → Nat → Bool} (irr : ∀ i, bt i i = false) (tr : ∀ i j k, bt i j = true → bt j k = true → bt i k = true) : ∀ k, ∀ i, i ≤ k → bt i (argBest bt k) = false
  | 0, i, h => by
    have : i = 0 := by omega
    subst this; exact irr 0
  | k + 1, i, h => by
    unfold argBest
    by_cases hb : bt (k + 1) (argBest bt k) = true
    · rw [if_pos hb]
      by_cases hi : i = k + 1
      · subst hi; exact irr _
      · cases q : bt i (k + 1) with
        | false => rfl
        | true =>
          have h1 := tr _ _ _ q hb
          rw [best_no irr tr k i (by omega)] at h1
          cases h1
    · rw [if_neg hb]
      by_cases hi : i = k + 1
      · subst hi; simpa using hb
      · exact best_no irr tr k i (by omega)
theorem best_le {bt : Nat → Nat → Bool} : ∀ k, argBest bt k ≤ k
  | 0 => Nat.le_refl _
  | k + 1 => by
    unfold argBest
    split
    · exact Nat.le_refl _
    · exact Nat.le_succ_of_le (best_le k)

/-- a walk that minds an old heap besides -/
theorem walks_with {prog : Program} {w : World} {A : Around} {I : Addr} {fp wr : List Addr} {n : Nat} {P : Nat → Value → Prop} {St : Nat → Heap → Prop} (W : Walks prog w A I fp wr n P St) (g : Heap) (hg : ∀ b ∈ wr, g.get? b = none) :
    Walks prog w A I (fp ++ List.range g.objs.size) wr n P (fun i h => St i h ∧ Sub g h) where
  sub := fun b hb => List.mem_append_left _ (W.sub b hb)
  frame := fun i h h' st hk => ⟨W.frame i h h' st.1 fun b hb => hk b (List.mem_append_left _ hb), fun b o e => hk b (List.mem_append_right _ (List.mem_range.mpr (Heap.lt_size e))) o (st.2 b o e)⟩
  item := fun i s Q E hi st hQ => W.item i s Q E hi st.1 fun v h' tk hP hs hk => hQ v h' tk hP ⟨hs, fun b o e => hk b o (fun hm => by rw [hg b hm] at e; cases e) (st.2 b o e)⟩ hk
  done := fun s Q E st hQ => W.done s Q E st.1 hQ
  self := fun i s Q E st hQ => W.self i s Q E st.1 hQ

section
open PySem.SeqAt MeetsSeq MeetsSeq2 MeetsSeq3 SeqRoads2
open AutoSeq1 (wpAny_loadPart')
def oneOf (lt : Bool) (x y : Str) : Bool := if lt then ltS x y else ltS y x
def rowOf (lt : Bool) (xs ys : List Str) : Bool := if lt then ltR xs ys else ltR ys xs
theorem rowOf_cons (lt : Bool) (x y : Str) (xs ys : List Str) : rowOf lt (x :: xs) (y :: ys) = if x = y then rowOf lt xs ys else oneOf lt x y := by
  cases lt with
  | true => unfold rowOf oneOf; rw [if_pos rfl, if_pos rfl, if_pos rfl]; rfl
  | false =>
    unfold rowOf oneOf
    simp only [Bool.false_eq_true, if_false]
    show (if y = x then ltR ys xs else ltS y x) = _
    by_cases h : x = y
    · subst h; simp
    · rw [if_neg h, if_neg (fun q => h q.symm)]

theorem ltsAt (lt : Bool) {prog : Program} {w : World} {A : Around} {E : Value → Shared → Prop} {s : Shared} {x y : Str} {t u : Tok} {Q : Value → Shared → Prop} (h : Q (.bool (oneOf lt x y)) s) :
    wpAny (model prog w) A (richCompare (if lt then .Lt else .Gt) (.str x t) (.str y u)) Q E s := by
  cases lt with
  | true => exact lt_str h
  | false => exact PySem.P.gt_str h

theorem rowOf_nilL (lt : Bool) (ys : List Str) : rowOf lt [] ys = if lt then decide (0 < ys.length) else false := by
  cases lt <;> cases ys <;> rfl
theorem rowOf_nilR (lt : Bool) (x : Str) (xs : List Str) : rowOf lt (x :: xs) [] = if lt then false else true := by
  cases lt <;> rfl



set_option maxHeartbeats 4000000 in
theorem lt_loopAt (lt : Bool) (l b : Addr) (n n2 : Nat) (dd dd2 : Option Addr) (sl sl2 : Array (Option Value)) (vs ws : List Value) : ∀ (vs' ws' : List Value) (xs ys : List Str) (i : Nat), vs.length = i + vs'.length → ws.length = i + ws'.length → vs.drop i = vs' → ws.drop i = ws' → StrsAre vs' xs → StrsAre ws' ys → Meets (Builtin.«list.__eq__.loop» ⟨[.ref l, .ref b, rawInt i, rawInt (if lt then 0 else 4)], []⟩)
      (fun _ R s => s.heap.get? l = some { cls := .type "list", dict := dd, data := .seq vs.toArray n, slots := sl } ∧ s.heap.get? b = some { cls := .type "list", dict := dd2, data := .seq ws.toArray n2, slots := sl2 } ∧
        R (.ok (.ret (.bool (rowOf lt xs ys)))) s) := by
  intro vs'
  induction vs' with
  | nil =>
    intro ws' xs ys i l1 l2 h1 h2 hS hS' prog w A R s h
    obtain ⟨hp, g, d, tk, os⟩ := s; obtain ⟨hl, hb, h⟩ := h
    cases hS
    have hlen := hS'.len_eq
    have hi1 : vs.toArray[((i : Nat) : Int).toNat]? = none := by simp; simp at l1; omega
    rw [rowOf_nilL] at h
    simp only [List.length_nil] at l1
    have hlt : decide (vs.toArray.size < ws.toArray.size) = decide (0 < ys.length) := decide_eq_decide.mpr (by simp only [List.size_toArray]; omega)
    have hgt : decide (vs.toArray.size > ws.toArray.size) = false := decide_eq_false (by simp only [List.size_toArray]; omega)
    cases hi2 : ws.toArray[((i : Nat) : Int).toNat]? with
    | none => (
        cases lt with
        | true =>
          wp_walk using wpAny_loadPart' hl, wpAny_loadPart' hb
          rw [hi1, hi2]
          wp_walk using wpAny_loadPart' hl, wpAny_loadPart' hb
          show R (.ok (.ret (.bool (decide (vs.toArray.size < ws.toArray.size))))) _
          rw [hlt]; exact h
        | false =>
          wp_walk using wpAny_loadPart' hl, wpAny_loadPart' hb
          rw [hi1, hi2]
          wp_walk using wpAny_loadPart' hl, wpAny_loadPart' hb
          show R (.ok (.ret (.bool (decide (vs.toArray.size > ws.toArray.size))))) _
          rw [hgt]; exact h)
    | some z => (
        cases lt with
        | true =>
          wp_walk using wpAny_loadPart' hl, wpAny_loadPart' hb
          rw [hi1, hi2]
          wp_walk using wpAny_loadPart' hl, wpAny_loadPart' hb
          show R (.ok (.ret (.bool (decide (vs.toArray.size < ws.toArray.size))))) _
          rw [hlt]; exact h
        | false =>
          wp_walk using wpAny_loadPart' hl, wpAny_loadPart' hb
          rw [hi1, hi2]
          wp_walk using wpAny_loadPart' hl, wpAny_loadPart' hb
          show R (.ok (.ret (.bool (decide (vs.toArray.size > ws.toArray.size))))) _
          rw [hgt]; exact h)
  | cons v vs' ih =>
    intro ws' xs ys i l1 l2 h1 h2 hS hS' prog w A R s h
    obtain ⟨hp, g, d, tk, os⟩ := s; obtain ⟨hl, hb, h⟩ := h
    have hi1 : vs.toArray[((i : Nat) : Int).toNat]? = some v := by
      have := congrArg (·[0]?) h1
      simpa using this
    cases hS with
    | cons x t hS =>
    cases hS' with
    | nil =>
      have hi2 : ws.toArray[((i : Nat) : Int).toNat]? = none := by simp; simp at l2; omega
      rw [rowOf_nilR] at h
      simp only [List.length_nil, List.length_cons] at l1 l2
      have hlt : decide (vs.toArray.size < ws.toArray.size) = false := decide_eq_false (by simp only [List.size_toArray]; omega)
      have hgt : decide (vs.toArray.size > ws.toArray.size) = true := decide_eq_true (by simp only [List.size_toArray]; omega)
      (
          cases lt with
          | true =>
            wp_walk using wpAny_loadPart' hl, wpAny_loadPart' hb
            rw [hi1, hi2]
            wp_walk using wpAny_loadPart' hl, wpAny_loadPart' hb
            show R (.ok (.ret (.bool (decide (vs.toArray.size < ws.toArray.size))))) _
            rw [hlt]; exact h
          | false =>
            wp_walk using wpAny_loadPart' hl, wpAny_loadPart' hb
            rw [hi1, hi2]
            wp_walk using wpAny_loadPart' hl, wpAny_loadPart' hb
            show R (.ok (.ret (.bool (decide (vs.toArray.size > ws.toArray.size))))) _
            rw [hgt]; exact h)
    | cons y u hS' =>
      have hi2 : ws.toArray[((i : Nat) : Int).toNat]? = some (.str y u) := by
        have := congrArg (·[0]?) h2
        simpa using this
      have hc : ((i : Int) + 1) = ((i + 1 : Nat) : Int) := by push_cast; rfl
      have n1 : vs.drop (i + 1) = vs' := by
        have := congrArg (List.drop 1) h1
        simpa [List.drop_drop] using this
      have n2' : ws.drop (i + 1) = (ws.drop i).drop 1 := by rw [List.drop_drop]
      rw [h2] at n2'
      simp only [List.drop_succ_cons, List.drop_zero] at n2'
      rw [rowOf_cons] at h
      have he : EqAt A.in1 ⟨hp, g, d, tk, os⟩ (.str x t) (.str y u) (x == y) := (eqGives_str x y t u).at A.in1 _
      have step : ∀ c : Int, (if lt = true then (0 : Int) else 4) = c → x = y → codeAny (model prog w) A (.builtin "list.__eq__.loop" ⟨[.ref l, .ref b, rawInt ((i : Int) + 1), rawInt c], []⟩) R ⟨hp, g, d, tk, os⟩ := by
        intro c e hxy
        subst e
        rw [if_pos hxy] at h
        rw [hc]
        exact codeAny_builtin entry_eq_loop (by
          rw [Around.under_plainId plain_eq_loop _]
          exact ih _ _ _ (i + 1) (by simp at l1; omega) (by simp at l2; omega) n1 n2' hS hS' prog w A R _ ⟨hl, hb, h⟩)
      by_cases hxy : x = y
      · have hq : (x == y) = true := by simpa using hxy
        rw [hq] at he
        cases lt with
        | true =>
          wp_walk using wpAny_loadPart' hl, wpAny_loadPart' hb
          rw [hi1, hi2]
          refine wpAny_bind (he prog w _ _ ?_)
          wp_walk
          exact ⟨plainId_quiet plain_eq_loop _, step 0 rfl hxy⟩
        | false =>
          wp_walk using wpAny_loadPart' hl, wpAny_loadPart' hb
          rw [hi1, hi2]
          refine wpAny_bind (he prog w _ _ ?_)
          wp_walk
          exact ⟨plainId_quiet plain_eq_loop _, step 4 rfl hxy⟩
      · have hq : (x == y) = false := by simpa using hxy
        rw [hq] at he
        rw [if_neg hxy] at h
        cases lt with
        | true =>
          wp_walk using wpAny_loadPart' hl, wpAny_loadPart' hb
          rw [hi1, hi2]
          refine wpAny_bind (he prog w _ _ ?_)
          wp_walk using wpAny_loadPart' hl, wpAny_loadPart' hb
          rw [hi1, hi2]
          refine wpAny_bind (ltsAt true ?_)
          exact wpAny_pure h
        | false =>
          wp_walk using wpAny_loadPart' hl, wpAny_loadPart' hb
          rw [hi1, hi2]
          refine wpAny_bind (he prog w _ _ ?_)
          wp_walk using wpAny_loadPart' hl, wpAny_loadPart' hb
          rw [hi1, hi2]
          refine wpAny_bind (ltsAt false ?_)
          exact wpAny_pure h

theorem list_ltAt (l b : Addr) (n n2 : Nat) (dd dd2 : Option Addr) (sl sl2 : Array (Option Value)) (vs ws : List Value) (xs ys : List Str) (hS : StrsAre vs xs) (hS' : StrsAre ws ys) :
    Meets (Builtin.«list.__lt__» ⟨[.ref l, .ref b], []⟩)
      (fun _ R s => s.heap.get? l = some { cls := .type "list", dict := dd, data := .seq vs.toArray n, slots := sl } ∧ s.heap.get? b = some { cls := .type "list", dict := dd2, data := .seq ws.toArray n2, slots := sl2 } ∧
        R (.ok (.ret (.bool (rowOf true xs ys)))) s) := by
  intro prog w A R s h
  obtain ⟨hp, g, d, tk, os⟩ := s; obtain ⟨hl, hb, h⟩ := h
  have f3 := AutoSeq1.sub_list_list
  wp_walk using wpAny_loadPart' hl, wpAny_loadPart' hb
  exact ⟨plainId_quiet plain_eq_loop _, codeAny_builtin entry_eq_loop (by
    rw [Around.under_plainId plain_eq_loop _]
    exact lt_loopAt true l b n n2 dd dd2 sl sl2 vs ws vs ws xs ys 0 (by simp) (by simp) rfl rfl hS hS' prog w A R _ ⟨hl, hb, h⟩)⟩
theorem list_gtAt (l b : Addr) (n n2 : Nat) (dd dd2 : Option Addr) (sl sl2 : Array (Option Value)) (vs ws : List Value) (xs ys : List Str) (hS : StrsAre vs xs) (hS' : StrsAre ws ys) :
    Meets (Builtin.«list.__gt__» ⟨[.ref l, .ref b], []⟩)
      (fun _ R s => s.heap.get? l = some { cls := .type "list", dict := dd, data := .seq vs.toArray n, slots := sl } ∧ s.heap.get? b = some { cls := .type "list", dict := dd2, data := .seq ws.toArray n2, slots := sl2 } ∧
        R (.ok (.ret (.bool (rowOf false xs ys)))) s) := by
  intro prog w A R s h
  obtain ⟨hp, g, d, tk, os⟩ := s; obtain ⟨hl, hb, h⟩ := h
  have f3 := AutoSeq1.sub_list_list
  wp_walk using wpAny_loadPart' hl, wpAny_loadPart' hb
  exact ⟨plainId_quiet plain_eq_loop _, codeAny_builtin entry_eq_loop (by
    rw [Around.under_plainId plain_eq_loop _]
    exact lt_loopAt false l b n n2 dd dd2 sl sl2 vs ws vs ws xs ys 0 (by simp) (by simp) rfl rfl hS hS' prog w A R _ ⟨hl, hb, h⟩)⟩

theorem lt_rows {prog : Program} {w : World} {A : Around} {E : Value → Shared → Prop} {s : Shared} {a b : Addr} {xs ys : List Str} {Q : Value → Shared → Prop} (ha : Txts s.heap a xs) (hb : Txts s.heap b ys) (hu : A.units < cLine) (h : Q (.bool (ltR xs ys)) s) :
    wpAny (model prog w) A (richCompare .Lt (.ref a) (.ref b)) Q E s := by
  obtain ⟨vs, ⟨⟨cls, dd, data, sl⟩, ho, hc, n, hd⟩, hS⟩ := ha
  obtain ⟨ws, ⟨⟨cls2, dd2, data2, sl2⟩, ho2, hc2, n2, hd2⟩, hS'⟩ := hb
  simp only at hc hd hc2 hd2
  subst hc hd hc2 hd2
  exact richCompare_meets_room (op := .Lt) ⟨_, ho, rfl⟩ ⟨_, ho2, rfl⟩ PySem.F.slot_list_lt PySem.F.entry_list_lt (PySem.F.args_list_lt_2 _ _) (list_ltAt a b n n2 dd dd2 sl sl2 vs ws xs ys hS hS')
    ⟨ho, ho2, show Value.bool (rowOf true xs ys) ≠ Value.notImplemented ∧ Q (.bool (rowOf true xs ys)) s from ⟨(fun x => nomatch x), h⟩⟩ hu
theorem gt_rows {prog : Program} {w : World} {A : Around} {E : Value → Shared → Prop} {s : Shared} {a b : Addr} {xs ys : List Str} {Q : Value → Shared → Prop} (ha : Txts s.heap a xs) (hb : Txts s.heap b ys) (hu : A.units < cLine) (h : Q (.bool (ltR ys xs)) s) :
    wpAny (model prog w) A (richCompare .Gt (.ref a) (.ref b)) Q E s := by
  obtain ⟨vs, ⟨⟨cls, dd, data, sl⟩, ho, hc, n, hd⟩, hS⟩ := ha
  obtain ⟨ws, ⟨⟨cls2, dd2, data2, sl2⟩, ho2, hc2, n2, hd2⟩, hS'⟩ := hb
  simp only at hc hd hc2 hd2
  subst hc hd hc2 hd2
  exact richCompare_meets_room (op := .Gt) ⟨_, ho, rfl⟩ ⟨_, ho2, rfl⟩ PySem.F.slot_list_gt PySem.F.entry_list_gt (PySem.F.args_list_gt_2 _ _) (list_gtAt a b n n2 dd dd2 sl sl2 vs ws xs ys hS hS')
    ⟨ho, ho2, show Value.bool (rowOf false xs ys) ≠ Value.notImplemented ∧ Q (.bool (rowOf false xs ys)) s from ⟨(fun x => nomatch x), h⟩⟩ hu
end

def rowI (rss : List (List Str)) (i : Nat) : List Str := rss.getD i []
theorem rowI_of {rss : List (List Str)} {i : Nat} {xs : List Str} (e : rss[i]? = some xs) : rowI rss i = xs := by
  unfold rowI; rw [List.getD_eq_getElem?_getD, e]; rfl
section
variable {w : World} {A : Around} {E : Value → Shared → Prop} {s : Shared}
theorem call_min_rows {l : Addr} {items : List Value} {rss : List (List Str)} {Q : Value → Shared → Prop} (hh : A.handled = none) (hu : A.units + 1 < cLine) (hl : s.heap.IsList l items.toArray) (hr : RowsAre s.heap items rss) (hne : 0 < items.length)
    (hQ : ∀ r rs s', Keeps s s' → .ref r ∈ items → rs ∈ rss → Txts s'.heap r rs → (∀ xs ∈ rss, ltR xs rs = false) → Q (.ref r) s') :
    wpAny (model PR w) A (call (.builtin "min") [.ref l]) Q E s := by
  refine call_min_walkI ?_
  have hlt : l < s.heap.objs.size := let ⟨o, ho, _⟩ := hl; Heap.lt_size ho
  have hI : s.heap.get? s.heap.objs.size = none := Heap.get?_none_of_le (Nat.le_refl _)
  have hlen := hr.len
  refine wpAny_pyIter_list hl ⟨_, _, _, _, _, _, fun i j => ltR (rowI rss i) (rowI rss j), rfl, walks_with (Walks.list (A := A.in1) hh _ l (Nat.ne_of_lt hlt) items.toArray) s.heap ?_, ⟨⟨⟨_, Heap.get?_push_size _ rfl, rfl, rfl⟩, (Sub.push _ _).list hl⟩, Sub.push _ _⟩, ?_, by simpa using hne, ?_, ?_⟩
  · intro b hb; rw [List.mem_singleton.mp hb]; exact hI
  · intro b hb
    rw [Heap.size_push]
    simp only [List.mem_append, List.mem_cons, List.not_mem_nil, or_false, List.mem_range] at hb
    rcases hb with (rfl | rfl) | hb
    · exact Nat.lt_succ_self _
    · exact Nat.lt_succ_of_lt hlt
    · exact Nat.lt_succ_of_lt hb
  · intro k i j vi vj s₁ Q₁ E₁ st hi hj hq
    obtain ⟨a, xs, rfl, e1, t1⟩ := hr.at (j := i) (by simpa using hi)
    obtain ⟨b, ys, rfl, e2, t2⟩ := hr.at (j := j) (by simpa using hj)
    refine lt_rows (t1.sub st.2) (t2.sub st.2) hu ?_
    dsimp only at hq
    rw [rowI_of e1, rowI_of e2] at hq
    exact hq
  · intro v h' tk hP hk
    obtain ⟨a, xs, rfl, e1, t1⟩ := hr.at (by simpa using hP)
    have K : Sub s.heap h' := fun b o e => hk b o (fun hm => by rw [List.mem_singleton.mp hm, hI] at e; cases e) (Heap.get?_push_of_some _ e)
    refine hQ a xs _ ⟨h', tk, rfl, K⟩ (by simpa using Array.mem_of_getElem? hP) (List.mem_of_getElem? e1) (t1.sub K) fun ys hy => ?_
    obtain ⟨i, hi, rfl⟩ := List.getElem_of_mem hy
    have hb := best_no (bt := fun i j => ltR (rowI rss i) (rowI rss j)) (fun _ => ltR_irrefl _) (fun _ _ _ => ltR_trans) (items.length - 1) i (by omega)
    rw [rowI_of e1, rowI_of (List.getElem?_eq_getElem hi)] at hb
    exact hb
theorem call_max_rows {l : Addr} {items : List Value} {rss : List (List Str)} {Q : Value → Shared → Prop} (hh : A.handled = none) (hu : A.units + 1 < cLine) (hl : s.heap.IsList l items.toArray) (hr : RowsAre s.heap items rss) (hne : 0 < items.length)
    (hQ : ∀ r rs s', Keeps s s' → .ref r ∈ items → rs ∈ rss → Txts s'.heap r rs → (∀ xs ∈ rss, ltR rs xs = false) → Q (.ref r) s') :
    wpAny (model PR w) A (call (.builtin "max") [.ref l]) Q E s := by
  refine call_max_walkI ?_
  have hlt : l < s.heap.objs.size := let ⟨o, ho, _⟩ := hl; Heap.lt_size ho
  have hI : s.heap.get? s.heap.objs.size = none := Heap.get?_none_of_le (Nat.le_refl _)
  have hlen := hr.len
  refine wpAny_pyIter_list hl ⟨_, _, _, _, _, _, fun i j => ltR (rowI rss j) (rowI rss i), rfl, walks_with (Walks.list (A := A.in1) hh _ l (Nat.ne_of_lt hlt) items.toArray) s.heap ?_, ⟨⟨⟨_, Heap.get?_push_size _ rfl, rfl, rfl⟩, (Sub.push _ _).list hl⟩, Sub.push _ _⟩, ?_, by simpa using hne, ?_, ?_⟩
  · intro b hb; rw [List.mem_singleton.mp hb]; exact hI
  · intro b hb
    rw [Heap.size_push]
    simp only [List.mem_append, List.mem_cons, List.not_mem_nil, or_false, List.mem_range] at hb
    rcases hb with (rfl | rfl) | hb
    · exact Nat.lt_succ_self _
    · exact Nat.lt_succ_of_lt hlt
    · exact Nat.lt_succ_of_lt hb
  · intro k i j vi vj s₁ Q₁ E₁ st hi hj hq
    obtain ⟨a, xs, rfl, e1, t1⟩ := hr.at (j := i) (by simpa using hi)
    obtain ⟨b, ys, rfl, e2, t2⟩ := hr.at (j := j) (by simpa using hj)
    refine gt_rows (t1.sub st.2) (t2.sub st.2) hu ?_
    dsimp only at hq
    rw [rowI_of e1, rowI_of e2] at hq
    exact hq
  · intro v h' tk hP hk
    obtain ⟨a, xs, rfl, e1, t1⟩ := hr.at (by simpa using hP)
    have K : Sub s.heap h' := fun b o e => hk b o (fun hm => by rw [List.mem_singleton.mp hm, hI] at e; cases e) (Heap.get?_push_of_some _ e)
    refine hQ a xs _ ⟨h', tk, rfl, K⟩ (by simpa using Array.mem_of_getElem? hP) (List.mem_of_getElem? e1) (t1.sub K) fun ys hy => ?_
    obtain ⟨i, hi, rfl⟩ := List.getElem_of_mem hy
    have hb := best_no (bt := fun i j => ltR (rowI rss j) (rowI rss i)) (fun _ => ltR_irrefl _) (fun _ _ _ a b => ltR_trans b a) (items.length - 1) i (by omega)
    rw [rowI_of e1, rowI_of (List.getElem?_eq_getElem hi)] at hb
    exact hb
end
end Mine

end

section
open PySem PySem.W PyProof.Rows PySem.Calls
set_option maxRecDepth 100000
namespace Mine

def byT (w : World) : Bool := w.params.followText "set-order"
def hB (b : Bool) : Int := if b then 1 else 0
/-- a set of bools: the elements, the places -/
def bEs : Bool → Bool → Array (Int × Value)
  | false, false => #[]
  | true, false => #[(0, .bool false)]
  | false, true => #[(1, .bool true)]
  | true, true => #[(0, .bool false), (1, .bool true)]
def bPl : Bool → Bool → Array Nat
  | false, false => #[]
  | true, false => #[0]
  | false, true => #[1]
  | true, true => #[0, 1]
def bEp (f t : Bool) : Nat := f.toNat + t.toNat
def bTab (w : World) (f t : Bool) : SetTable := { SetTable.fresh 0 0 (!byT w) with place := bPl f t }
def bObj (w : World) (f t : Bool) : Obj := { cls := .type "set", dict := none, data := .set (bEs f t) (bEp f t) (bTab w f t), slots := #[] }
theorem bFits (w : World) (f t : Bool) : (bTab w f t).fits (bEs f t).size = true := by cases f <;> cases t <;> rfl

section
variable {prog : Program} {w : World} {A : Around} {E : Value → Shared → Prop} {s : Shared}

theorem typeIs_bool' (s : Shared) (b : Bool) : s.TypeIs (.bool b) "bool" := rfl

theorem hash_bool {b : Bool} {Q : Int → Shared → Prop} (h : Q (hB b) { s with toks := s.toks + 1 }) : wpAny (model prog w) A (pyHash (.bool b)) Q E s := by
  unfold pyHash
  have hv : [Value.bool b].any Value.onHeap = false := rfl
  refine wpAny_bind ?_
  rw [cRoomFor, if_neg (by rw [hv]; exact Bool.false_ne_true)]; refine wpAny_pure ?_
  refine wpAny_bind (wpAny_specialOf (typeIs_bool' s b) PySem.F.slot_bool_hash.lookup ?_)
  show wpAny _ _ (if (some (Value.builtin "int.__hash__") == some Value.none) = true then _ else _) Q E s
  rw [if_neg (by rw [beq_builtin_none]; exact Bool.false_ne_true)]
  refine wpAny_bind (wpAny_specialOf (typeIs_bool' s b) PySem.F.slot_bool_hash.lookup ?_)
  show wpAny _ _ (callSpecialIfBoundUnlessNone? (.bool b) "__hash__" _ >>= _) Q E s
  cases b with
  | true =>
    refine wpAny_bind (wpAny_callSpecialIfBoundUnlessNone?_slot (typeIs_bool' s true) PySem.F.slot_bool_hash
      (wpAny_call_entry PySem.F.slot_bool_hash (typeIs_bool' s true) PySem.F.entry_int_hash
        (show wpAny _ _ (do ret (← mkInt 1)) _ _ s from wpAny_ret_mkInt ?_) (PySem.F.args_int_hash_1 _)))
    exact wpAny_pure h
  | false =>
    refine wpAny_bind (wpAny_callSpecialIfBoundUnlessNone?_slot (typeIs_bool' s false) PySem.F.slot_bool_hash
      (wpAny_call_entry PySem.F.slot_bool_hash (typeIs_bool' s false) PySem.F.entry_int_hash
        (show wpAny _ _ (do ret (← mkInt 0)) _ _ s from wpAny_ret_mkInt ?_) (PySem.F.args_int_hash_1 _)))
    exact wpAny_pure h

theorem new_set_b {Q : Value → Shared → Prop} (h : Q (.ref s.heap.objs.size) { s with heap := s.heap.push (bObj w false false) }) : wpAny (model prog w) A (newSet (.type "set")) Q E s := by
  unfold newSet
  refine wpAny_bind ?_
  unfold setsByText
  refine wpAny_bind (wpAny_askSetting (wpAny_pure ?_))
  exact wpAny_newObj_type h

theorem scan_b {a : Addr} {f t b : Bool} {Q : ScanMet → Shared → Prop} (ho : s.heap.get? a = some (bObj w f t))
    (h : ∀ r, (match r with | .found _ => (if b then t else f) = true | .absent => (if b then t else f) = false | .anew => False) → Q r s) :
    wpAny (model prog w) A (setScan a (.bool b) (hB b) true (bEs f t)) Q E s := by
  have same : ∀ (c : Bool) (Q' : Bool → Shared → Prop), Q' true s → wpAny (model prog w) A (eqBool (.bool c) (.bool c)) Q' E s := fun c Q' hq => by
    unfold eqBool
    refine wpAny_holding ?_
    rw [if_pos (by simp)]
    exact wpAny_bind (wpAny_rule (wpAny_pure hq))
  unfold setScan
  cases f <;> cases t <;> cases b <;> simp only [bEs, setScanFrom, hB]
  all_goals first
    | exact wpAny_pure (h _ rfl)
    | (simp (config := { decide := true }) only [if_true, if_false, Bool.false_eq_true]
       first
         | exact wpAny_pure (h _ rfl)
         | (refine wpAny_bind (wpAny_setEpoch_of ho rfl (bFits ..) (wpAny_bind (same _ _ ?_)))
            simp only [Bool.and_self, if_true]
            exact wpAny_pure (h _ rfl)))

theorem add_b {a : Addr} {f t b : Bool} {Q : Value → Shared → Prop} (ho : s.heap.get? a = some (bObj w f t))
    (h : ∀ h', h'.get? a = some (bObj w (f || !b) (t || b)) → Heap.SameBut a s.heap h' → Q .none { s with heap := h', toks := s.toks + 1 }) :
    wpAny (model prog w) A (call (.builtin "set.add") [.ref a, .bool b]) Q E s := by
  have hT : s.TypeIs (.ref a) "set" := ⟨_, ho, rfl⟩
  refine wpAny_call_entry PySem.F.slot_set_add hT PySem.F.entry_set_add ?_ (PySem.F.args_set_add_2 _ _)
  unfold Builtin.«set.add» Builtin.Frozenset.oneOther
  simp only [List.isEmpty_nil, bind_assoc]
  unfold Builtin.Frozenset.addrOf setAdd
  refine wpAny_bind (wpAny_pure ?_)
  try dsimp only
  refine wpAny_bind (wpAny_pure ?_)
  try dsimp only
  refine wpAny_bind ?_
  refine wpAny_holding ?_
  refine wpAny_bind (hash_bool ?_)
  unfold setAddHashed setAddHashedIn
  refine wpAny_holding (wpAny_bind (wpAny_setState_of ho rfl (bFits ..) ?_))
  dsimp only
  have hsc : byScan (.bool b) (bEs f t) = true := by cases f <;> cases t <;> simp [byScan, bEs, Value.scannable, scanBound]
  rw [hsc]
  simp only [↓reduceIte]
  unfold setAddByScan
  refine wpAny_bind ?_
  refine wpAny_bind (wpAny_rule ?_)
  refine wpAny_bind (scan_b (s := { s with toks := s.toks + 1 }) ho fun r hr => ?_)
  cases r with
  | found i =>
    dsimp only at hr ⊢
    refine wpAny_pure (wpAny_pure (wpAny_pure ⟨_, rfl, ?_⟩))
    refine h s.heap ?_ (Heap.SameBut.refl a s.heap)
    rw [ho]
    cases f <;> cases t <;> cases b <;> first | rfl | (simp at hr)
  | anew => exact hr.elim
  | absent =>
    dsimp only at hr ⊢
    have lay : layNew (bTab w f t) (bEs f t) (hB b) (.bool b) = (bEs (f || !b) (t || b), bTab w (f || !b) (t || b), false, false) := by
      cases f <;> cases t <;> cases b <;> first | rfl | (exfalso; revert hr; decide) | kernel_rfl
    rw [lay]
    dsimp only
    refine wpAny_bind (wpAny_pure ?_)
    have hpl : (bTab w (f || !b) (t || b)).plain = true := rfl
    rw [hpl]
    simp only [if_true]
    refine wpAny_bind (wpAny_pure ?_)
    simp only [if_true]
    have hz : (bEs (f || !b) (t || b)).size ≤ 2 := by cases f <;> cases t <;> cases b <;> decide
    refine wpAny_bind (wpAny_storeSet_of (s := { s with toks := s.toks + 1 }) ho rfl ?_ (by rw [sizeLine_eq]; omega))
    have hful : (!false && (bTab w (f || !b) (t || b)).tooFull) = false := by cases f <;> cases t <;> cases b <;> rfl
    rw [hful]
    simp only [Bool.false_eq_true, if_false]
    refine wpAny_pure (wpAny_pure (wpAny_pure ⟨_, rfl, ?_⟩))
    refine h _ ?_ (Heap.SameBut.update ..)
    have hg := Heap.get?_update_self (Obj.putSet (bEs (f || !b) (t || b)) (bTab w (f || !b) (t || b))) ho rfl
    rw [hg, putSet_of _ _ (show (bObj w f t).data = .set (bEs f t) (bEp f t) (bTab w f t) from rfl)]
    cases f <;> cases t <;> cases b <;> first | rfl | (simp at hr)

/-- the walk over such a set -/
abbrev bIter (w : World) (h : Heap) (I a : Addr) (slot i n ep : Nat) : Prop := h.get? I = some { cls := .type "set_iterator", dict := none, data := .fields #[rawInt slot, rawInt i, .ref a, rawInt n, rawInt ep], slots := #[] }
theorem entry_set_iter : entryFor table "set.__iter__" = some Builtin.«frozenset.__iter__» :=
  entryFor_alias (id' := "frozenset.__iter__") (by kernel_rfl) (by first | rfl | decide +kernel | (unfold String.splitOn; simp +decide [String.splitOnAux])) (by decide +kernel) (by kernel_rfl)
theorem slot_set_next : Slot "set_iterator" "__next__" "set_iterator.__next__" :=
  .of (owner := "set_iterator") (n := "__next__") (by rw [typeLookup_type, builtinLookup_eq_fast]; kernel_rfl) (by decide +kernel) (by decide +kernel) (by decide +kernel)
    (by first | exact .inl (by decide +kernel) | exact .inr (by decide +kernel)) (by rw [isSubtype_type]; kernel_rfl)
theorem entry_set_next : entryFor table "set_iterator.__next__" = some Builtin.«set_iterator.__next__» := entryFor_of_tree (by kernel_rfl)
theorem args_set_next (a : Value) : argsOk "set_iterator.__next__" ⟨[a], []⟩ := by unfold argsOk; kernel_rfl

theorem setState_b {a : Addr} {f t : Bool} {Q : (Array (Int × Value) × Nat × SetTable) → Shared → Prop} (ho : s.heap.get? a = some (bObj w f t)) (h : Q (bEs f t, bEp f t, bTab w f t) s) : wpAny (model prog w) A (setState a) Q E s :=
  wpAny_setState_of ho rfl (bFits ..) h
theorem byText_b {Q : Bool → Shared → Prop} (h : Q (byT w) s) : wpAny (model prog w) A setsByText Q E s := by
  unfold setsByText
  exact wpAny_bind (wpAny_askSetting (wpAny_pure h))

theorem iter_b {a : Addr} {f t : Bool} {Q : Value → Shared → Prop} (ho : s.heap.get? a = some (bObj w f t))
    (h : ∀ h', Sub s.heap h' → bIter w h' s.heap.objs.size a 0 0 (bEs f t).size (bEp f t) → Q (.ref s.heap.objs.size) { s with heap := h' }) : wpAny (model prog w) A (pyIter (.ref a)) Q E s := by
  have hT : s.TypeIs (.ref a) "set" := ⟨_, ho, rfl⟩
  refine wpAny_pyIter_slot hT PySem.F.slot_set_iter (wpAny_call_entry PySem.F.slot_set_iter hT entry_set_iter ?_ (PySem.F.args_set_iter_1 _))
  unfold Builtin.«frozenset.__iter__» Builtin.Frozenset.slot0 slotArgs
  simp only [List.isEmpty_nil, Bool.not_true, Bool.false_eq_true, ↓reduceIte, bind_assoc, List.length_nil, bne_self_eq_false]
  unfold Builtin.Frozenset.addrOf Builtin.Frozenset.sizeOf
  refine wpAny_bind (wpAny_pure ?_)
  try dsimp only
  refine wpAny_bind (wpAny_pure ?_)
  refine wpAny_bind (wpAny_bind (wpAny_bind (setState_b ho (wpAny_pure (wpAny_pure ?_)))))
  refine wpAny_bind (m := setDrawn a) ?_
  unfold setDrawn
  refine wpAny_bind (setState_b ho ?_)
  dsimp only
  refine wpAny_bind (byText_b (wpAny_pure ?_))
  refine wpAny_ite_split (fun hc => absurd hc ?_) (fun _ => ?_)
  · intro hc
    rw [Bool.and_eq_true] at hc
    exact Bool.noConfusion (show false = true from hc.2)
  refine wpAny_bind (wpAny_pure ?_)
  refine wpAny_bind (m := setEpoch a) ?_
  unfold setEpoch
  refine wpAny_bind (setState_b ho (wpAny_pure ?_))
  refine wpAny_bind (wpAny_newObj_type (wpAny_pure ⟨_, rfl, "set_iterator", _, ⟨_, Heap.get?_push_size _ rfl, rfl⟩, slot_set_next.lookup, ?_⟩))
  exact h _ (Sub.push _ _) (Heap.get?_push_size _ rfl)

/-- where the walk stands after k items -/
def bSlot (w : World) (f t : Bool) : Nat → Nat
  | 0 => 0
  | k + 1 => if byT w then 0 else (bPl f t).getD k 0 + 1

theorem pick_one {α : Type} (next : Nat → Nat) (x : α) : pickOrder next #[x] = #[x] := by
  simp [pickOrder, pickOrder.go, Nat.mod_one]
theorem pick_two {α : Type} (next : Nat → Nat) (x y : α) : pickOrder next #[x, y] = #[x, y] ∨ pickOrder next #[x, y] = #[y, x] := by
  have h : next 0 % 2 = 0 ∨ next 0 % 2 = 1 := by omega
  rcases h with h | h <;> simp [pickOrder, pickOrder.go, Nat.mod_one, h]

theorem walk_b {a : Addr} {f t : Bool} {Q : Array (Int × Value) → Shared → Prop} (ho : s.heap.get? a = some (bObj w f t)) (hT : byT w = true)
    (h : ∀ es, es.size = (bEs f t).size → (es.size = 1 → es = bEs f t) → Q es s) : wpAny (model prog w) A (setWalk a) Q E s := by
  unfold setWalk
  refine wpAny_bind (setState_b ho ?_)
  dsimp only
  refine wpAny_bind (byText_b ?_)
  rw [hT]
  simp only [if_true]
  refine wpAny_bind (wpAny_askSetting (wpAny_pure ?_))
  cases f <;> cases t
  · exact h _ rfl fun hc => by cases hc
  · exact h _ (by rw [show bEs false true = #[(1, .bool true)] from rfl, pick_one]) fun _ => by rw [show bEs false true = #[(1, .bool true)] from rfl, pick_one]
  · exact h _ (by rw [show bEs true false = #[(0, .bool false)] from rfl, pick_one]) fun _ => by rw [show bEs true false = #[(0, .bool false)] from rfl, pick_one]
  · have := pick_two (((⟨(model prog w).prog, (model prog w).w.params⟩ : Setting).params.setOrder a (bEp true true))) ((0 : Int), Value.bool false) ((1 : Int), Value.bool true)
    refine h _ ?_ fun hc => ?_
    · rcases this with e | e <;> rw [show bEs true true = #[(0, .bool false), (1, .bool true)] from rfl, e]; rfl
    · rcases this with e | e <;> rw [show bEs true true = #[(0, .bool false), (1, .bool true)] from rfl, e] at hc <;> cases hc

theorem setNext_b {a : Addr} {f t : Bool} {k : Nat} {Q : Option (Value × Nat) → Shared → Prop} (ho : s.heap.get? a = some (bObj w f t)) (hk : k ≤ (bEs f t).size)
    (h1 : k < (bEs f t).size → ∀ x, ((bEs f t).size = 1 → x = .bool t) → Q (some (x, bSlot w f t (k + 1))) s) (h2 : k = (bEs f t).size → Q none s) :
    wpAny (model prog w) A (setNext a (bSlot w f t k) k (bEp f t)) Q E s := by
  unfold setNext
  refine wpAny_bind (setState_b ho ?_)
  dsimp only
  refine wpAny_bind (byText_b ?_)
  cases hT : byT w with
  | true =>
    simp only [if_true, bne_self_eq_false, Bool.false_eq_true, if_false]
    refine wpAny_bind (walk_b ho hT fun es hsz he => wpAny_pure ?_)
    have hs0 : bSlot w f t k = 0 := by cases k with
      | zero => rfl
      | succ k => unfold bSlot; rw [hT]; rfl
    have hs1 : bSlot w f t (k + 1) = 0 := by unfold bSlot; rw [hT]; rfl
    rw [hs1] at h1
    rw [hs0]
    by_cases hlt : k < (bEs f t).size
    · have hlt' : k < es.size := by omega
      rw [Array.getElem?_eq_getElem hlt']
      refine h1 hlt _ fun h => ?_
      have e := he (by omega)
      subst e
      have k0 : k = 0 := by omega
      subst k0
      cases f <;> cases t <;> first | rfl | (simp [bEs] at h)
    · have e : es[k]? = none := Array.getElem?_eq_none (by omega)
      rw [e]
      exact h2 (by omega)
  | false =>
    simp only [Bool.false_eq_true, if_false]
    refine wpAny_ite_split (fun hc => absurd hc ?_) (fun _ => ?_)
    · intro hc
      exact Bool.noConfusion (show false = true from hc)
    refine wpAny_bind ?_
    refine wpAny_ite_split (fun hc => absurd hc ?_) (fun _ => wpAny_pure ?_)
    · intro hc
      rw [Bool.and_eq_true] at hc
      have : (!(!byT w)) = true := hc.1
      rw [hT] at this; cases this
    refine wpAny_pure ?_
    have e1 : ∀ k, bSlot w f t (k + 1) = (bPl f t).getD k 0 + 1 := fun k => by unfold bSlot; rw [hT]; rfl
    cases f <;> cases t
    · exact h2 (by simp [bEs] at hk ⊢; omega)
    · match k, hk with
      | 0, _ => exact (e1 0 ▸ h1) (by decide) _ fun _ => rfl
      | 1, _ => rw [e1 0, show SetTable.below (bTab w false true).place ((bPl false true).getD 0 0 + 1) = 1 from (by decide : SetTable.below #[1] 2 = 1)]; exact h2 rfl
    · match k, hk with
      | 0, _ => exact (e1 0 ▸ h1) (by decide) _ fun _ => rfl
      | 1, _ => rw [e1 0, show SetTable.below (bTab w true false).place ((bPl true false).getD 0 0 + 1) = 1 from (by decide : SetTable.below #[0] 1 = 1)]; exact h2 rfl
    · match k, hk with
      | 0, _ => rw [show SetTable.below (bTab w true true).place (bSlot w true true 0) = 0 from (by decide : SetTable.below #[0, 1] 0 = 0)]; exact (e1 0 ▸ h1) (by decide) _ fun h => by cases h
      | 1, _ => rw [e1 0, show SetTable.below (bTab w true true).place ((bPl true true).getD 0 0 + 1) = 1 from (by decide : SetTable.below #[0, 1] 1 = 1)]; exact (e1 1 ▸ h1) (by decide) _ fun h => by cases h
      | 2, _ => rw [e1 1, show SetTable.below (bTab w true true).place ((bPl true true).getD 1 0 + 1) = 2 from (by decide : SetTable.below #[0, 1] 2 = 2)]; exact h2 rfl

theorem next_b {I a : Addr} {f t : Bool} {k : Nat} {Q : Option Value → Shared → Prop} (hh : A.handled = none) (ho : s.heap.get? a = some (bObj w f t)) (hI : bIter w s.heap I a (bSlot w f t k) k (bEs f t).size (bEp f t)) (hk : k ≤ (bEs f t).size) (hIa : I ≠ a)
    (h1 : k < (bEs f t).size → ∀ x h', ((bEs f t).size = 1 → x = .bool t) → Heap.ExtBut I s.heap h' → bIter w h' I a (bSlot w f t (k + 1)) (k + 1) (bEs f t).size (bEp f t) → Q (some x) { s with heap := h' })
    (h2 : k = (bEs f t).size → ∀ h', Heap.ExtBut I s.heap h' → Q none { s with heap := h' }) :
    wpAny (model prog w) A (pyNext (.ref I)) Q E s := by
  have hT : s.TypeIs (.ref I) "set_iterator" := ⟨_, hI, rfl⟩
  unfold pyNext
  refine wpAny_bind (wpAny_attempt (wpAny_callSpecial?_slot (name := Str.ofString "__next__") hT slot_set_next (wpAny_call_entry slot_set_next hT entry_set_next ?_ (args_set_next _))))
  unfold Builtin.«set_iterator.__next__» slotArgs
  simp only [List.isEmpty_nil, Bool.not_true, Bool.false_eq_true, ↓reduceIte, bind_assoc, List.length_nil, bne_self_eq_false]
  refine wpAny_bind (wpAny_pure ?_)
  refine wpAny_bind (wpAny_fieldsOf hI rfl ?_)
  show wpAny _ _ (setEntries a >>= _) _ _ s
  unfold setEntries
  refine wpAny_bind (wpAny_bind (setState_b ho (wpAny_pure ?_)))
  dsimp only
  refine wpAny_ite_split (fun hc => absurd hc (by simp)) (fun _ => ?_)
  show wpAny _ _ (setNext a (bSlot w f t k) k (bEp f t) >>= _) _ _ s
  refine wpAny_bind (setNext_b ho hk (fun hlt x hx => ?_) (fun he => ?_))
  · dsimp only
    refine wpAny_bind (wpAny_setField hI rfl (by simp) ?_)
    have hg := Heap.get?_update_self (Obj.mapFields (·.setIfInBounds 0 (rawInt (bSlot w f t (k + 1))))) hI rfl
    refine wpAny_bind (wpAny_setField hg rfl (by simp [Obj.mapFields]) ?_)
    refine wpAny_pure ⟨_, rfl, ?_⟩
    refine wpAny_pure (h1 hlt x _ hx ?_ ?_)
    · exact fun b o hb e => (Heap.SameBut.update ..).extBut b o hb ((Heap.SameBut.update ..).extBut b o hb e)
    · rw [bIter, Heap.get?_update_self _ hg rfl]
      rfl
  · dsimp only
    refine wpAny_bind (wpAny_setField hI rfl (by simp) ?_)
    show wpAny _ _ (newExc (.type "StopIteration") [] >>= _) _ _ _
    refine wpAny_bind ?_
    simp only [newExc, newTuple]
    refine wpAny_bind (wpAny_newObj_type ?_ (by size_fits))
    refine wpAny_bind (m := firstArgMember _ _) (wpAny_of_eq (a := Value.none) (by first | rfl | (simp only [firstArgMember]; rfl)) ?_)
    refine wpAny_newObj_type ?_ (by size_fits)
    simp only [raiseNew]
    refine wpAny_bind (wpAny_handled ?_)
    first | rw [show A.in1.handled = none from hh] | rw [hh]
    refine wpAny_bind (wpAny_pure (wpAny_throw ?_))
    refine wpAny_bind (wpAny_isInstance (T := "StopIteration") (b := true) ⟨_, Heap.get?_push_size _ rfl, rfl⟩ isSubtype_stop ?_)
    exact wpAny_pure (h2 he _ (((Heap.SameBut.update ..).extBut.push _).push _))

theorem notIter_b {a : Addr} {f t : Bool} {Q : Bool → Shared → Prop} (ho : s.heap.get? a = some (bObj w f t)) (h : Q false s) : wpAny (model prog w) A (notIterableAtAll (.ref a)) Q E s := by
  unfold notIterableAtAll
  refine wpAny_bind (wpAny_specialOf (T := "set") ⟨_, ho, rfl⟩ PySem.F.slot_set_iter.lookup ?_)
  exact wpAny_pure h

/-- one bool: taken; two: too many -/
theorem unpack_b {a : Addr} {f t : Bool} {Q : List Value → Shared → Prop} (hh : A.handled = none) (ho : s.heap.get? a = some (bObj w f t)) (hne : f = true ∨ t = true)
    (h1 : f = (!t) → ∀ h', Sub s.heap h' → Q [.bool t] { s with heap := h' })
    (h2 : f = true → t = true → ∀ h' tk e, Sub s.heap h' → s.heap.get? e = none → (∃ h₁, Sub s.heap h₁ ∧ Heap.NewExc h₁ h' e "ValueError") → E (.ref e) { s with heap := h', toks := tk }) :
    wpAny (model prog w) A (unpackItems (.ref a) 1 none) Q E s := by
  unfold unpackItems
  refine wpAny_bind (notIter_b ho ?_)
  simp only [Bool.false_eq_true, if_false]
  have hsz : 0 < (bEs f t).size := by cases f <;> cases t <;> simp [bEs] at hne ⊢
  have hla : s.heap.objs.size ≠ a := Ne.symm (Nat.ne_of_lt (Heap.lt_size ho))
  have hI0 : s.heap.get? s.heap.objs.size = none := Heap.get?_none_of_le (Nat.le_refl _)
  have up : ∀ {h h' : Heap}, Sub s.heap h → Heap.ExtBut s.heap.objs.size h h' → Sub s.heap h' := fun k x b o e => x b o (by rintro rfl; rw [hI0] at e; cases e) (k b o e)
  refine wpAny_bind (wpAny_holding (iter_b ho fun h₁ k₁ i₁ => ?_))
  refine wpAny_bind (wpAny_holding ?_)
  show wpAny _ _ (pyNext (.ref s.heap.objs.size) >>= _) _ _ _
  refine wpAny_bind (next_b (k := 0) hh (k₁ _ _ ho) i₁ (Nat.zero_le _) hla (fun _ x h₂ hx e₂ i₂ => ?_) fun h => absurd h (Nat.ne_of_lt hsz))
  refine wpAny_bind (wpAny_holding (wpAny_pure (wpAny_pure ?_)))
  dsimp only
  rw [if_neg (by simp)]
  refine wpAny_bind (wpAny_holding (next_b (k := 1) hh (up k₁ e₂ _ _ ho) i₂ hsz hla (fun hlt y h₃ _ e₃ i₃ => ?_) fun h h₃ e₃ => ?_))
  · have hf : f = true ∧ t = true := by cases f <;> cases t <;> simp [bEs] at hlt ⊢
    simp only [Option.isSome_some, if_true]
    refine wpAny_bind (wpAny_rule ?_)
    refine wpAny_bind (wpAny_raiseErrorWords plainExc_ValueError hh fun h' tk e hx => ?_)
    refine h2 hf.1 hf.2 h' tk e (fun b o q => hx.keeps b o (up (up k₁ e₂) e₃ b o q)) ?_ ⟨h₃, up (up k₁ e₂) e₃, hx⟩
    cases q : s.heap.get? e with
    | none => rfl
    | some o => have := up (up k₁ e₂) e₃ e o q; rw [hx.new] at this; cases this
  · simp only [Option.isSome_none, Bool.false_eq_true, if_false]
    have hf : f = (!t) := by cases f <;> cases t <;> simp [bEs] at h ⊢
    rw [hx h.symm]
    exact wpAny_pure (h1 hf h₃ (up (up k₁ e₂) e₃))
end
end Mine

end

section
open PySem PySem.W PyProof.Rows PySem.Calls
set_option maxRecDepth 100000
namespace Mine

section
variable {prog : Program} {w : World} {A : Around} {E : Value → Shared → Prop} {R : Result → Shared → Prop} {s : Shared}

theorem setTurn1 (elt target iter : Expr) (scope : Scope) (pos : Pos) (it acc : Value) (env : Env) :
    compTurn (.SetComp elt [⟨target, iter, [], 0⟩] scope pos) 0 it acc env = (standAt iter.pos >>= fun _ => pyNext it >>= fun r => match r with
      | none => pure (.done .next)
      | some v => letOwnedTupleGo target it v >>= fun _ => assign target env v >>= fun _ =>
        (eval elt env >>= fun x => standAt elt.pos >>= fun _ => call (.builtin "set.add") [acc, x] >>= fun _ => pure ()) >>= fun _ =>
          again (.compLoop (.SetComp elt [⟨target, iter, [], 0⟩] scope pos) 0 it acc env)) := by rfl

theorem setLoop {elt target iter : Expr} {scope : Scope} {pos : Pos} {it acc : Value} {env : Env} (I : Nat → Shared → Prop)
    (turn : ∀ n s, I n s → wpAny (model prog w) A (pyNext it) (fun r s₁ => match r with
      | none => R (.ok .next) s₁
      | some v => wpAny (model prog w) A (assign target env v) (fun _ s₂ => wpAny (model prog w) A (eval elt env) (fun x s₃ =>
          wpAny (model prog w) A (call (.builtin "set.add") [acc, x]) (fun _ s₄ => ∃ m, m < n ∧ I m s₄) (notedBy (model prog w) A env fun e s' => R (.error e) s') s₃)
          (notedBy (model prog w) A env fun e s' => R (.error e) s') s₂) (notedBy (model prog w) A env fun e s' => R (.error e) s') s₁) (notedBy (model prog w) A env fun e s' => R (.error e) s') s)
    (n : Nat) (h : I n s) (ht : ∀ v, letOwnedTupleGo target it v = pure () := by intro _; rfl) :
    codeAny (model prog w) A (.compLoop (.SetComp elt [⟨target, iter, [], 0⟩] scope pos) 0 it acc env) R s := by
  refine codeAny_loop rfl I (fun n s hI => ?_) n h
  show wpAny _ _ ((compTurn (.SetComp elt [⟨target, iter, [], 0⟩] scope pos) 0 it acc env).onRaise (fun x => do noteFrame x env; theTreesLotGoes x)) _ _ s
  refine wpAny_noted ?_
  rw [setTurn1]
  refine wpAny_bind (wpAny_standAt (wpAny_bind (wpAny_mono (turn n s hI) (fun r s₁ h₁ => ?_) fun _ _ h' => h')))
  cases r with
  | none => exact wpAny_pure h₁
  | some v =>
    refine wpAny_bind (wpAny_of_eq (ht v) ?_)
    exact wpAny_bind (wpAny_mono h₁ (fun _ s₂ h₂ => wpAny_bind (wpAny_bind (wpAny_mono h₂ (fun x s₃ h₃ => wpAny_bind (wpAny_standAt (wpAny_bind (wpAny_mono h₃
      (fun _ s₄ h₄ => wpAny_pure (wpAny_pure ⟨rfl, h₄⟩)) fun _ _ h' => h')))) fun _ _ h' => h'))) fun _ _ h' => h')

theorem setStart {elt target iter ifs rest scope pos it acc env}
    (h0 : codeAny (model prog w) A (.compLoop (.SetComp elt (⟨target, iter, ifs, 0⟩ :: rest) scope pos) 0 it acc env) R s)
    (h : wpAny (model prog w) A (pyIter it) (fun it' s' => codeAny (model prog w) A (.compLoop (.SetComp elt (⟨target, iter, ifs, 0⟩ :: rest) scope pos) 0 it' acc env) R s')
      (notedBy (model prog w) A env fun x s' => R (.error x) s') s) :
    codeAny (model prog w) A (.compStart (.SetComp elt (⟨target, iter, ifs, 0⟩ :: rest) scope pos) 0 it acc env) R s := by
  refine codeAny_of_tree ?_
  show wpAny _ _ ((compStart (.SetComp elt (⟨target, iter, ifs, 0⟩ :: rest) scope pos) 0 it acc env).onRaise (fun x => do noteFrame x env; standAt theWindowsPlace)) _ _ s
  refine wpAny_notedAt ?_
  unfold compStart
  show wpAny _ _ (ask >>= _) _ _ s
  refine wpAny_bind (wpAny_askSetting (wpAny_ite ?_))
  split
  · first
      | exact wpAny_bind (wpAny_pure (wpAny_pure (And.intro rfl h0)))
      | exact wpAny_pure (And.intro rfl h0)
  · first
      | exact wpAny_bind (wpAny_rule (wpAny_bind (wpAny_standAt (wpAny_bind (wpAny_mono h (fun it' s' h' => wpAny_pure (And.intro rfl h')) fun _ _ x => x)))))
      | (refine wpAny_bind (wpAny_rule ?_); show wpAny _ _ (standAt iter.pos >>= _) _ _ s; exact wpAny_bind (wpAny_standAt (wpAny_bind (wpAny_mono h (fun it' s' h' => wpAny_pure (And.intro rfl h')) fun _ _ x => x))))
end

section
variable {w : World} {A : Around} {E : Value → Shared → Prop} {s s₀ : Shared} {g : Heap} {env : Env} {m cm : Str → Option Value}
abbrev tupIterObj (l : Addr) : Obj := { cls := .type "tuple_iterator", data := .fields #[.ref l, .int 0 0] }

theorem Fx.scompT {elt iter : Expr} {x : Str} {px : Pos} {scope : Scope} {cl : List (Str × Addr)} {pos : Pos} {Q : Value → Shared → Prop} (F : Fx w g env m cm s.heap) (hh : A.handled = none)
    (q : Value → Bool)
    (hclos : closureFor scope env = pure cl) (hcl : ∀ n c, cl.lookup n = some c → env.cells.lookup n = some c) (hx : scope.names.lookup x = some .local)
    (h : wpAny (model PR w) A (eval iter env) (fun xv s₁ => Keeps s s₁ ∧ ∃ l items, xv = .ref l ∧ s₁.heap.IsTuple l (List.toArray items) ∧
      (∀ C v s₃ m₃, v ∈ items → m₃ x = some v → Fx w s₁.heap (compEnvC scope cl C env) m₃ cm s₃.heap → EltOn w A (compEnvC scope cl C env) elt (fun y => y = .bool (q v)) s₃) ∧
      (∀ D s₄, Keeps s s₄ → s₄.heap.get? D = some (bObj w (items.any fun v => !q v) (items.any q)) → Q (.ref D) s₄)) E s)
    (hcell : ∀ y ∈ scope.names, y.2 ≠ .cell := by decide) (hkind : scope.kind = .function := by rfl) (hnames : ∀ y ∈ scope.names, y.2 = .local → scope.names.lookup y.1 = some .local := by decide)
    (hs : ∀ x, foldedSetIterable iter env x = pure x := by intro _; rfl) :
    wpAny (model PR w) A (eval (.SetComp elt [⟨.Name x px, iter, [], 0⟩] scope pos) env) Q E s := by
  rw [arm_eval_SetComp]
  refine wpAny_comprehension_free (use := none) rfl hs hclos hkind hnames (wpAny_mono h (fun xv s₁ h₁ => ?_) fun _ _ e => e)
  obtain ⟨K₁, l, items, rfl, hl, he, hq⟩ := h₁
  have hI : s₁.heap.get? s₁.heap.objs.size = none := Heap.get?_none_of_le (Nat.le_refl _)
  have hlI : l < s₁.heap.objs.size := let ⟨o, ho, _⟩ := hl; Heap.lt_size ho
  refine wpAny_pyIter_tuple hl ?_
  refine new_set_b (wpAny_newFunctionEnv hcell (by intro y hy; simp at hy) (fun h₁ hns₁ hsb₁ => ?_) hkind)
  dsimp only at hns₁ hsb₁ ⊢
  generalize hG : (s₁.heap.push (tupIterObj l)) = G at hns₁ hsb₁ ⊢
  have hGs : G.objs.size = s₁.heap.objs.size + 1 := by rw [← hG, Heap.size_push]
  generalize hH : G.push (bObj w false false) = H at hns₁ hsb₁ ⊢
  have hHs : H.objs.size = s₁.heap.objs.size + 2 := by rw [← hH, Heap.size_push, hGs]
  have hID : s₁.heap.objs.size ≠ G.objs.size := by rw [hGs]; exact Nat.ne_of_lt (Nat.lt_succ_self _)
  have hIC : s₁.heap.objs.size ≠ H.objs.size := by rw [hHs]; exact Nat.ne_of_lt (by omega)
  have hDC : G.objs.size ≠ H.objs.size := by rw [hHs, hGs]; exact Nat.ne_of_lt (by omega)
  have ltG : ∀ b o, s₁.heap.get? b = some o → b < G.objs.size := fun b o e => Nat.lt_of_lt_of_le (Heap.lt_size e) (hGs ▸ Nat.le_add_right _ _)
  have ltH : ∀ b o, s₁.heap.get? b = some o → b < H.objs.size := fun b o e => Nat.lt_of_lt_of_le (Heap.lt_size e) (hHs ▸ Nat.le_add_right _ _)
  have old : Sub s₁.heap h₁ := fun b o e => hsb₁.extBut b o (Nat.ne_of_lt (ltH b o e)) (Heap.get?_push_of_some _ (hH ▸ Heap.get?_push_of_some _ (hG ▸ Heap.get?_push_of_some _ e)))
  have hD₁ : h₁.get? G.objs.size = some (bObj w false false) := hsb₁.extBut _ _ hDC (Heap.get?_push_of_some _ (hH ▸ Heap.get?_push_size _ rfl))
  have hI₁ : h₁.IsTupleIter s₁.heap.objs.size l 0 := ⟨_, hsb₁.extBut _ _ hIC (Heap.get?_push_of_some _ (hH ▸ Heap.get?_push_of_some _ (hG ▸ Heap.get?_push_size _ rfl))), rfl, rfl⟩
  have above : ∀ b o, s₁.heap.get? b = some o → b ≠ s₁.heap.objs.size ∧ b ≠ G.objs.size ∧ b ≠ H.objs.size := fun b o e =>
    ⟨Nat.ne_of_lt (Heap.lt_size e), Nat.ne_of_lt (ltG b o e), Nat.ne_of_lt (ltH b o e)⟩
  have hxC : Env.kindOf (compEnvC scope cl H.objs.size env) x = some .local := lookup_relabel_local hx
  have hpC : (((compEnvC scope cl H.objs.size env).scope.kind == .class) || ((compEnvC scope cl H.objs.size env).scope.kind == .module && (compEnvC scope cl H.objs.size env).locals != (compEnvC scope cl H.objs.size env).globals)) = false := by simp [compEnvC, relabel, hkind]
  have hlD : ∀ {h' : Heap}, Sub s₁.heap h' → h'.IsTuple l items.toArray := fun k => hl.at fun o e => k _ o e
  have loop : ∀ s₃ : Shared, s₃ = { s₁ with heap := h₁, toks := s₁.toks + ([] : List (Str × Value)).length } →
      codeAny (model PR w) A (.compLoop (.SetComp elt [⟨.Name x px, iter, [], 0⟩] scope pos) 0 (.ref s₁.heap.objs.size) (.ref G.objs.size) (compEnvC scope cl H.objs.size env))
        (compPost (model PR w) A E none Q (.ref G.objs.size) H.objs.size) s₃ := by
    rintro s₃ rfl
    refine setLoop (fun n s' => ∃ pre post h' tk m', items = pre ++ post ∧ n = post.length + 1 ∧ s' = { s₁ with heap := h', toks := tk } ∧ h'.IsTupleIter s₁.heap.objs.size l pre.length ∧
      h'.get? G.objs.size = some (bObj w (pre.any fun v => !q v) (pre.any q)) ∧ h'.Ns H.objs.size m' ∧ Sub s₁.heap h') ?_ (items.length + 1) ⟨[], items, h₁, _, _, rfl, rfl, rfl, hI₁, hD₁, hns₁, old⟩
    rintro n s' ⟨pre, post, h', tk, m', he', rfl, rfl, hit, hD, hN, hk⟩
    cases post with
    | nil =>
      refine wpAny_pyNext_tuple_end hh hit (hlD hk) (by rw [he']; simp) fun h'' hx'' => ?_
      refine ⟨m', hN.extBut hx'' (Ne.symm hIC), fun h₃ hs₃ => hq _ _ ?_ ?_⟩
      · obtain ⟨ha, ta, rfl, ka⟩ := K₁
        exact ⟨h₃, tk, rfl, fun b o e => hs₃.extBut b o (above b o (ka b o e)).2.2 (hx'' b o (above b o (ka b o e)).1 (hk b o (ka b o e)))⟩
      · rw [he', List.append_nil]
        exact hs₃.extBut _ _ hDC (hx'' _ _ (Ne.symm hID) hD)
    | cons v post =>
      refine wpAny_pyNext_tuple_item hit (hlD hk) (x := v) (by rw [he']; simp) fun h₂ hit₂ hs₂ => ?_
      refine wpAny_assign_Name (wpAny_storeName_local hxC (hN.sameBut hs₂ (Ne.symm hIC)) (fun h₃ hn₃ hs₃ => ?_) hpC)
      have k₃ : Sub s₁.heap h₃ := fun b o e => hs₃.extBut b o (above b o e).2.2 (hs₂.extBut b o (above b o e).1 (hk b o e))
      have hv : v ∈ items := by rw [he']; simp
      refine wpAny_mono (he H.objs.size v _ _ hv (if_pos rfl) (F.cenv (s₁ := s₁) (ksub K₁) k₃ hcl hkind hn₃) _) (fun y s₄ h₄ => ?_) fun _ _ e => e
      obtain ⟨rfl, h₄, t₄, rfl, k₄⟩ := h₄
      have hD₄ : h₄.get? G.objs.size = some (bObj w (pre.any fun v => !q v) (pre.any q)) := k₄ _ _ (hs₃.extBut _ _ hDC (hs₂.extBut _ _ (Ne.symm hID) hD))
      refine add_b (s := { s₁ with heap := h₄, toks := t₄ }) hD₄ fun h₅ hD₅ hs₅ => ?_
      refine ⟨post.length + 1, by simp, pre ++ [v], post, h₅, t₄ + 1, _, by rw [he']; simp, rfl, rfl, ?_, ?_, (hn₃.keeps k₄).sameBut hs₅ (Ne.symm hDC), fun b o e => hs₅.extBut b o (above b o e).2.1 (k₄ b o (k₃ b o e))⟩
      · have := ((hit₂.extBut hs₃.extBut hIC).at fun o e => k₄ _ o e).extBut hs₅.extBut hID
        simpa using this
      · rw [hD₅]; simp [List.any_append]
  exact setStart (loop _ rfl) (wpAny_pyIter_tupleiter (s := { s₁ with heap := h₁, toks := s₁.toks + ([] : List (Str × Value)).length }) hI₁ (loop _ rfl))

/-- the source is a tuple, the elements are new lists of texts -/
theorem Fx.lcompOT {elt iter : Expr} {x : Str} {px : Pos} {scope : Scope} {cl : List (Str × Addr)} {pos : Pos} {Q : Value → Shared → Prop} (F : Fx w g env m cm s.heap) (hh : A.handled = none)
    (f : Value → List Str)
    (hclos : closureFor scope env = pure cl) (hcl : ∀ n c, cl.lookup n = some c → env.cells.lookup n = some c) (hx : scope.names.lookup x = some .local)
    (h : wpAny (model PR w) A (eval iter env) (fun xv s₁ => Keeps s s₁ ∧ ∃ l items, xv = .ref l ∧ s₁.heap.IsTuple l (List.toArray items) ∧ items.length ≤ 100000 ∧
      (∀ C v s₃ m₃, v ∈ items → m₃ x = some v → Fx w s₁.heap (compEnvC scope cl C env) m₃ cm s₃.heap → EltRow w A (compEnvC scope cl C env) elt (f v) s₃) ∧
      (∀ D s₄ (ys : List Value), Keeps s s₄ → s₁.heap.get? D = none → s₄.heap.IsList D ys.toArray → RowsAre s₄.heap ys (items.map f) → Q (.ref D) s₄)) E s)
    (hcell : ∀ y ∈ scope.names, y.2 ≠ .cell := by decide) (hkind : scope.kind = .function := by rfl) (hnames : ∀ y ∈ scope.names, y.2 = .local → scope.names.lookup y.1 = some .local := by decide)
    (hs : ∀ x, foldedSetIterable iter env x = pure x := by intro _; rfl) :
    wpAny (model PR w) A (eval (.ListComp elt [⟨.Name x px, iter, [], 0⟩] scope pos) env) Q E s := by
  refine wpAny_ListComp_freeO (fun _ => true) (fun v its => ∃ ws : List Value, its = ws.toArray ∧ StrsAre ws (f v)) hclos hcell hkind hnames hx (wpAny_mono h (fun xv s₁ h₁ => ?_) fun _ _ e => e) hs
  obtain ⟨K₁, l, items, rfl, hl, hsz, he, hq⟩ := h₁
  have hlt : l < s₁.heap.objs.size := let ⟨o, ho, _⟩ := hl; Heap.lt_size ho
  have mem : ∀ {i v}, items.toArray[i]? = some v → v ∈ items := fun {i v} e => by simpa using Array.mem_of_getElem? e
  have hI : s₁.heap.get? s₁.heap.objs.size = none := Heap.get?_none_of_le (Nat.le_refl _)
  have K₂ := kpush s₁ (tupIterObj l)
  have up : ∀ s₃ : Shared, (∀ b o, b ∉ [s₁.heap.objs.size] → ({ s₁ with heap := s₁.heap.push (tupIterObj l) } : Shared).heap.get? b = some o → s₃.heap.get? b = some o) → Sub s₁.heap s₃.heap := fun s₃ hk b o e =>
    hk b o (fun hm => by rw [List.mem_singleton.mp hm, hI] at e; cases e) (ksub K₂ b o e)
  refine wpAny_pyIter_tuple hl ⟨_, _, _, _, _, _, rfl, Walks.tuple hh _ l (Nat.ne_of_lt hlt) items.toArray, by rw [sizeLine_eq]; simpa using by omega, ?_, ⟨⟨_, Heap.get?_push_size _ rfl, rfl, rfl⟩, hl.at fun o e => Heap.get?_push_of_some _ e⟩, ?_, ⟨?_, ?_⟩, ?_⟩
  · rintro i h ⟨⟨o, ho, _⟩, _⟩ b hb
    rw [List.mem_singleton.mp hb]; exact ⟨o, ho⟩
  · intro b hb
    simp only [List.mem_cons, List.not_mem_nil, or_false] at hb
    rw [Heap.size_push]
    rcases hb with rfl | rfl
    · exact Nat.lt_succ_self _
    · exact Nat.lt_succ_of_lt hlt
  · intro C i v s₃ m₃ E' _ hP hns hm hk _
    exact TestOn.nil E'
  · intro C i v s₃ m₃ E' _ hP _ hns hm hk _
    refine wpAny_mono (he C v s₃ m₃ (mem hP) hm (F.cenv (ksub K₁) (up s₃ hk) hcl hkind hns) E') (fun y s₄ h₄ => ?_) fun _ _ e => e
    obtain ⟨T, rfl, hT, ⟨ws, hw, hS⟩, K⟩ := h₄
    exact ⟨⟨T, ws.toArray, rfl, hT, hw, ws, rfl, hS⟩, K⟩
  · intro D h' tk ys vs hD hl' _ hlen hP hF _ _ hk
    have e : vs = items := by simpa using list_of_places hlen hP
    subst e
    have kk : Keeps s { s₁ with heap := h', toks := tk } := by
      obtain ⟨ha, ta, rfl, ka⟩ := K₁
      exact ⟨h', tk, rfl, fun b o e => up { s with heap := h' } (fun b o n e => hk b o n e) b o (ka b o e)⟩
    refine hq D _ ys.toList kk ?_ (by simpa using hl') ?_
    · cases q : s₁.heap.get? D with
      | none => rfl
      | some o => rw [ksub K₂ D o q] at hD; cases hD
    · have : ∀ {vs ws : List Value}, Paired (LstIs (s₁.heap.push (tupIterObj l)) (fun v its => ∃ ws : List Value, its = ws.toArray ∧ StrsAre ws (f v)) h') vs ws → RowsAre h' ws (vs.map f) := by
        intro vs ws hp
        induction hp with
        | nil => exact .nil
        | cons a b ih =>
          obtain ⟨T, its, rfl, _, hT, ws', rfl, hS⟩ := a
          exact .cons ⟨ws', hT, hS⟩ ih
      have h1 := this hF
      rwa [show vs.filter (fun _ => true) = vs from List.filter_eq_self.mpr fun _ _ => rfl] at h1
end
end Mine

end

section
open PySem PySem.W PyProof.Rows PySem.Calls
set_option maxRecDepth 100000
namespace Mine

section
variable {w : World} {A : Around} {E : Value → Shared → Prop} {s s₀ : Shared} {g : Heap} {env : Env} {m cm : Str → Option Value}

theorem Fm.butL (F : Fm w s₀ g env m cm s) {bad : List Addr} {h' : Heap} {tk : Nat} (hx : ∀ b o, b ∉ bad → s.heap.get? b = some o → h'.get? b = some o)
    (hb : ∀ D ∈ bad, D ≠ env.locals ∧ (∀ p ∈ env.cells, D ≠ p.2) ∧ g.get? D = none) : Fm w s₀ g env m cm { s with heap := h', toks := tk } :=
  ⟨⟨F.toFx.ns.at' fun o e => hx _ o (fun q => (hb _ q).1 rfl) e, fun n c e => let ⟨o, ho, hd⟩ := F.toFx.cell n c e; ⟨o, hx c o (fun q => (hb _ q).2.1 _ (mem_of_lookup e) rfl) ho, hd⟩,
      fun b o e => hx b o (fun q => by rw [(hb _ q).2.2] at e; cases e) (F.toFx.keep b o e), F.toFx.W, F.toFx.k, F.toFx.gl, F.toFx.bu⟩,
    by obtain ⟨h, t, rfl⟩ := F.same; exact ⟨_, _, rfl⟩, F.low, F.Lg, F.Cg, F.LC, F.apart, fun p hp => let ⟨v, o, ho, hd⟩ := F.cw p hp; ⟨v, o, hx _ o (fun q => (hb _ q).2.1 _ hp rfl) ho, hd⟩⟩

/-- for i, c in enumerate(list) -/
theorem forE {xi xv : Str} {pi pv pt pos : Pos} {x1} {iter : Expr} {body : List Stmt} {Q : Flow → Shared → Prop} (hh : A.handled = none)
    (h : wpAny (model PR w) A (eval iter env) (fun xval s₁ => ∃ e it l items, ∃ J : Nat → Prop, xval = .ref e ∧ Fm w s₀ g env m cm s₁ ∧ IsEnum s₁.heap e it 0 .none ∧ s₁.heap.IsListIter it l 0 ∧ g.IsList l (List.toArray items) ∧
      e ≠ it ∧ (∀ D ∈ [e, it], D ≠ env.locals ∧ (∀ p ∈ env.cells, D ≠ p.2) ∧ g.get? D = none) ∧ J 0 ∧
      (∀ (i : Nat) (v : Value) (tk : Tok) (m₁ : Str → Option Value) (s₂ : Shared), items[i]? = some v → J i → (∀ y, y ≠ xv → y ≠ xi → m₁ y = m y) → Fm w s₀ g env (fun y => if y = xv then some v else if y = xi then some (.int i tk) else m₁ y) cm s₂ →
        wpAny (model PR w) A (execs body env) (fun f s₃ => match f with
          | .next | .cont => Keeps s₂ s₃ ∧ J (i + 1)
          | .brk => Q .next s₃
          | .ret _ => False) (fun _ _ => False) s₂) ∧
      (∀ m₁ s₂, J items.length → (∀ y, y ≠ xv → y ≠ xi → m₁ y = m y) → Fm w s₀ g env m₁ cm s₂ → Q .next s₂)) (fun _ _ => False) s)
    (hxi : env.kindOf xi = some .local := by rfl) (hxv : env.kindOf xv = some .local := by rfl) 
    (hs : ∀ x, foldedSetIterable iter env x = pure x := by intro _; rfl) :
    wpAny (model PR w) A (exec (.For (.Tuple [.Name xi pi, .Name xv pv] x1 pt) iter body [] pos) env) Q (fun _ _ => False) s := by
  refine wpAny_For (wpAny_mono h (fun xval s₁ h₁ => ?_) fun _ _ x => x) hs
  obtain ⟨e, it, l, items, J, rfl, F, he, hit, hl, hei, hbad, h0, step, fin⟩ := h₁
  have hle : l ≠ e := fun q => by obtain ⟨o, ho, _⟩ := hl; rw [q, (hbad e (by simp)).2.2] at ho; cases ho
  have hli : l ≠ it := fun q => by obtain ⟨o, ho, _⟩ := hl; rw [q, (hbad it (by simp)).2.2] at ho; cases ho
  refine wpAny_pyIter_enum he ?_
  refine codeAny_forLoop_any (fun n s' => ∃ m₁ i old, Fm w s₀ g env m₁ cm s' ∧ (∀ y, y ≠ xv → y ≠ xi → m₁ y = m y) ∧ IsEnum s'.heap e it ((i : Nat) : Int) old ∧ s'.heap.IsListIter it l i ∧ J i ∧ i ≤ items.length ∧ n = items.length + 1 - i) ?_ (items.length + 1)
    ⟨m, 0, .none, F, fun _ _ _ => rfl, he, hit, h0, Nat.zero_le _, rfl⟩
  rintro n s' ⟨m₁, i, old, F', hm, he', hit', hJ, hi, rfl⟩
  have hl' := F'.toFx.list hl
  cases hv : items[i]? with
  | none =>
    have hsz : i = items.length := by have := List.getElem?_eq_none_iff.mp hv; omega
    refine wpAny_pyNext_enum_end hh he' hit' hl' (by simpa using hv) fun h₁ he₁ => wpAny_execs_nil ?_
    exact fin m₁ _ (hsz ▸ hJ) hm (F'.butL (tk := s'.toks) (bad := [e, it]) (fun b o hb => he₁ b o (fun q => hb (by simp [q]))) hbad)
  | some v =>
    have hlt : i < items.length := (List.getElem?_eq_some_iff.mp hv).1
    refine wpAny_pyNext_enum_item he' hit' hl' (x := v) (by simpa using hv) hei fun h₁ heo hit₁ ht₁ hz₁ hk₁ => ?_
    refine wpAny_letOwnedTupleGo_enum heo fun h₂ he₂ hs₂ => ?_
    replace hs₂ : Heap.SameBut e h₁ h₂ := hs₂
    have ht₂ : h₂.IsTuple s'.heap.objs.size #[.int i s'.toks, v] := ⟨_, (hs₂.2 _ (Nat.ne_of_gt (Heap.lt_size he'))).trans ht₁, rfl, _, rfl⟩
    refine wpAny_assign_Tuple hh ht₂ rfl rfl fun h₃ hx₃ => ?_
    replace hx₃ : Heap.ExtBut h₂.objs.size h₂ h₃ := hx₃
    have k₃ : Sub h₂ h₃ := fun b o q => hx₃ b o (Nat.ne_of_lt (Heap.lt_size q)) q
    have F₃ : Fm w s₀ g env m₁ cm { s' with heap := h₃, toks := s'.toks + 1 } := F'.butL (bad := [e, it]) (fun b o hb q => k₃ b o (hs₂.extBut b o (fun z => hb (by simp [z])) (hk₁ b o (fun z => hb (by simp [z])) (fun z => hb (by simp [z])) q))) hbad
    have he₃ : IsEnum h₃ e it (((i + 1 : Nat)) : Int) v := by
      have : ((i + 1 : Nat) : Int) = (i : Int) + 1 := by push_cast; rfl
      rw [this]; exact k₃ _ _ he₂
    have hit₃ : h₃.IsListIter it l (i + 1) := (hit₁.extBut hs₂.extBut (Ne.symm hei)).at fun o x => k₃ it o x
    have heL := (hbad e (by simp)).1
    have hiL := (hbad it (by simp)).1
    show wpAny _ A (do holding [v] (assign (.Name xi pi) env (.int i s'.toks)); do holding [] (assign (.Name xv pv) env v); pure ()) _ _ _
    refine wpAny_bind (wpAny_holding (wpAny_assign_Name ?_))
    refine F₃.stL' (fun s₄ F₄ k₄ => ?_) hxi
    refine wpAny_bind (wpAny_holding (wpAny_assign_Name ?_))
    refine F₄.stL' (fun s₅ F₅ k₅ => wpAny_pure ?_) hxv
    have he₅ : IsEnum s₅.heap e it (((i + 1 : Nat)) : Int) v := k₅ _ _ heL (k₄ _ _ heL he₃)
    have hit₅ : s₅.heap.IsListIter it l (i + 1) := (hit₃.at fun o x => k₄ it o hiL x).at fun o x => k₅ it o hiL x
    refine wpAny_any (wpAny_mono (step i v s'.toks m₁ _ hv hJ hm F₅) (fun f s₆ h₆ => ?_) fun _ _ x => x)
    have again : Keeps s₅ s₆ ∧ J (i + 1) → ∃ m', m' < items.length + 1 - i ∧ ∃ m₁ i old, Fm w s₀ g env m₁ cm s₆ ∧ (∀ y, y ≠ xv → y ≠ xi → m₁ y = m y) ∧ IsEnum s₆.heap e it ((i : Nat) : Int) old ∧ s₆.heap.IsListIter it l i ∧ J i ∧ i ≤ items.length ∧ m' = items.length + 1 - i := fun q =>
      ⟨items.length + 1 - (i + 1), by omega, _, i + 1, v, F₅.keeps q.1, fun y h1 h2 => by rw [if_neg h1, if_neg h2]; exact hm y h1 h2, ksub q.1 _ _ he₅, hit₅.at fun o x => ksub q.1 it o x, q.2, hlt, rfl⟩
    cases f with
    | next => exact again h₆
    | cont => exact again h₆
    | brk => exact h₆
    | ret v => exact h₆.elim
end
end Mine

end

section
open PySem PySem.W PyProof.Rows PySem.Calls
set_option maxRecDepth 100000
namespace Mine

section
variable {w : World} {A : Around} {E : Value → Shared → Prop} {s s₀ : Shared} {g : Heap} {env : Env} {m cm : Str → Option Value}

/-- a comprehension of rows, stored in a local (the store comes before the comprehension's names go) -/
theorem Fm.acomp {elt iter : Expr} {x y : Str} {px py : Pos} {scope : Scope} {cl : List (Str × Addr)} {pos spos : Pos} {Q : Flow → Shared → Prop} (F : Fm w s₀ g env m cm s)
    (f : Value → List Str)
    (hsw : swapsWith (.ListComp elt [⟨.Name x px, iter, [], 0⟩] scope pos) (some (.Name y py)) spos.line env = pure true)
    (hclos : closureFor scope env = pure cl) (hcl : ∀ n c, cl.lookup n = some c → env.cells.lookup n = some c) (hx : scope.names.lookup x = some .local)
    (h : wpAny (model PR w) A (eval iter env) (fun xv s₁ => Keeps s s₁ ∧ wpAny (model PR w) A (pyIter xv) (fun it s₂ => ∃ I fp wr n P St, it = .ref I ∧ Walks PR w A I fp wr n P St ∧ n ≤ sizeLine ∧ (∀ i h, St i h → ∀ b ∈ wr, ∃ o, h.get? b = some o) ∧ St 0 s₂.heap ∧ (∀ b ∈ fp, b < s₂.heap.objs.size) ∧
      Keeps s₁ s₂ ∧ (∀ b ∈ wr, s₁.heap.get? b = none) ∧
      (∀ C i v s₃ m₃, P i v → m₃ x = some v → Fx w s₁.heap (compEnvC scope cl C env) m₃ cm s₃.heap → EltRow w A (compEnvC scope cl C env) elt (f v) s₃) ∧
      (∀ D s₄ (ys : List Value) (vs : List Value), vs.length = n → (∀ j v, vs[j]? = some v → P j v) → Fm w s₀ g env (fun z => if z = y then some (.ref D) else m z) cm s₄ → s₄.heap.IsList D ys.toArray → RowsAre s₄.heap ys (vs.map f) → Q .next s₄)) E s₁) E s)
    (hy : env.kindOf y = some .local := by rfl)
    (hcell : ∀ y ∈ scope.names, y.2 ≠ .cell := by decide) (hkind : scope.kind = .function := by rfl) (hnames : ∀ y ∈ scope.names, y.2 = .local → scope.names.lookup y.1 = some .local := by decide)
    (hs : ∀ x, foldedSetIterable iter env x = pure x := by intro _; rfl) :
    wpAny (model PR w) A (exec (.Assign [.Name y py] (.ListComp elt [⟨.Name x px, iter, [], 0⟩] scope pos) spos) env) Q E s := by
  rw [exec_Assign_Name_used _ _ _ _ hsw]
  refine wpAny_bind (wpAny_standAt (wpAny_bind ?_))
  show wpAny _ A (do let _ ← comprehension (.ListComp elt [⟨.Name x px, iter, [], 0⟩] scope pos) scope env _ (newList []) false (eval iter env) (some (assign (.Name y py) env))) _ _ s
  refine wpAny_bind (wpAny_mono (wpAny_comprehension_free (use := some (assign (.Name y py) env)) (Q := fun _ s' => Q .next s') rfl hs hclos hkind hnames
    (wpAny_mono h (fun xv s₁ h₁ => wpAny_mono h₁.2 (fun it s₂ h₂ => ?_) fun _ _ e => e) fun _ _ e => e)) (fun _ s' hq => wpAny_pure (wpAny_pure hq)) fun _ _ e => e)
  obtain ⟨I, fp, wr, n, P, St, rfl, W, hsz, hlive, hst, hfp, K₂, hwr, he, hQ⟩ := h₂
  have K₁ := h₁.1
  have up : ∀ s₃ : Shared, (∀ b o, b ∉ wr → s₂.heap.get? b = some o → s₃.heap.get? b = some o) → Sub s₁.heap s₃.heap := fun s₃ hk b o e => hk b o (fun hm => by rw [hwr b hm] at e; cases e) (ksub K₂ b o e)
  refine comp_block_walkCO (RR := fun acc C => compPost (model PR w) A E (some (assign (.Name y py) env)) (fun _ s' => Q .next s') acc C) W hsz (fun _ => true) (fun v its => ∃ ws : List Value, its = ws.toArray ∧ StrsAre ws (f v)) hlive hcell hkind hx hst hfp ⟨?_, ?_⟩ ?_
  · intro C i v s₃ m₃ E' _ hP hns hm hk _
    exact TestOn.nil E'
  · intro C i v s₃ m₃ E' _ hP _ hns hm hk _
    refine wpAny_mono (he C i v s₃ m₃ hP hm (F.toFx.cenv (ksub K₁) (up s₃ hk) hcl hkind hns) E') (fun y s₄ h₄ => ?_) fun _ _ e => e
    obtain ⟨T, rfl, hT, ⟨ws, hw, hS⟩, K⟩ := h₄
    exact ⟨⟨T, ws.toArray, rfl, hT, hw, ws, rfl, hS⟩, K⟩
  · intro D C h' tk m' ys vs hD hC hDC hnC hlD hplD hlen hP hF _ hk
    have kk : Keeps s { s₂ with heap := h', toks := tk } := by
      obtain ⟨ha, ta, rfl, ka⟩ := K₁
      obtain ⟨hb, tb, rfl, kb⟩ := K₂
      exact ⟨h', tk, rfl, fun b o e => up { s with heap := h' } (fun b o n e => hk b o n e) b o (ka b o e)⟩
    have s12 : Sub s.heap s₂.heap := fun b o e => ksub K₂ b o (ksub K₁ b o e)
    have F' := F.keeps kk
    have hL : ∃ o, s₂.heap.get? env.locals = some o := by obtain ⟨o, _, _, ho, _⟩ := F.toFx.ns; exact ⟨o, s12 _ _ ho⟩
    have hCL : C ≠ env.locals := by rintro rfl; obtain ⟨o, ho⟩ := hL; rw [hC] at ho; cases ho
    have hDL : D ≠ env.locals := by rintro rfl; obtain ⟨o, ho⟩ := hL; rw [hD] at ho; cases ho
    have hCc : ∀ p ∈ env.cells, C ≠ p.2 := by
      rintro p hp rfl
      obtain ⟨v, o, ho, _⟩ := F.cw p hp
      rw [s12 _ _ ho] at hC; cases hC
    have hCg : g.get? C = none := by
      cases q : g.get? C with
      | none => rfl
      | some o => rw [s12 _ _ (F.toFx.keep _ _ q)] at hC; cases hC
    show wpAny _ A (assign (.Name y py) env (.ref D)) _ _ _
    refine wpAny_assign_Name (F'.stL' (fun s₅ F₅ k₅ => ?_) hy)
    refine ⟨m', hnC.at' fun o e => k₅ _ o hCL e, fun h₃ hs₃ => ?_⟩
    refine hQ D _ ys.toList vs hlen hP (F₅.but (tk := s₅.toks) hs₃.extBut hCL hCc hCg) (by simpa using ((hlD.at fun o e => k₅ _ o hDL e).extBut hs₃.extBut hDC)) ?_
    have : ∀ {vs ws : List Value}, Paired (LstAt s₂.heap C D wr (fun v its => ∃ ws : List Value, its = ws.toArray ∧ StrsAre ws (f v)) h') vs ws → RowsAre h₃ ws (vs.map f) := by
      intro vs ws hp
      induction hp with
      | nil => exact .nil
      | cons a b ih =>
        obtain ⟨T, its, rfl, hT0, hTC, _, _, hT, ws', rfl, hS⟩ := a
        have hTL : T ≠ env.locals := by rintro rfl; obtain ⟨o, ho⟩ := hL; rw [hT0] at ho; cases ho
        exact .cons ⟨ws', (hT.at fun o e => k₅ _ o hTL e).extBut hs₃.extBut hTC, hS⟩ ih
    have h1 := this hF
    rwa [show vs.filter (fun _ => true) = vs from List.filter_eq_self.mpr fun _ _ => rfl] at h1
end
end Mine

end

section
open PySem PySem.W PyProof.Rows PySem.Calls
set_option maxRecDepth 100000
namespace Mine

section
variable {w : World} {A : Around} {E : Value → Shared → Prop} {s s₀ : Shared} {g : Heap} {env : Env} {m cm : Str → Option Value}

theorem Keeps.ofMoved {s s' : Shared} {wr : List Addr} (x : Moved wr (fun a b => b = a) s s') (hwr : ∀ b ∈ wr, s.heap.get? b = none) : Keeps s s' := by
  obtain ⟨h1, h2, h3, h4, h5⟩ := x
  refine ⟨s'.heap, s'.toks, ?_, fun b o e => h1 b o (fun q => by rw [hwr b q] at e; cases e) e⟩
  obtain ⟨a, b, c, d, e⟩ := s'
  simp only at h2 h3 h4
  subst h2 h3 h4
  rfl

/-- tuple(map(fspath, list of texts)) -/
theorem tuple_paths {l : Addr} {items : List Value} {xs : List Str} {Q : Value → Shared → Prop} (W : Wd w s.heap) (R : Rm A 6) (hl : s.heap.IsList l items.toArray) (hS : StrsAre items xs) (hlen : items.length ≤ 1000)
    (hQ : ∀ T s', Keeps s s' → s'.heap.IsTuple T items.toArray → Q (.ref T) s') :
    wpAny (model PR w) A (call (.type "map") [.ref 101, .ref l]) (fun v s₁ => wpAny (model PR w) A (call (.type "tuple") [v]) Q E s₁) E s := by
  refine call_map hl (fun I T M h' k sz a1 a2 a3 n1 n2 n3 i1 i2 i3 => ?_)
  have W₁ := Walks.map (prog := PR) (w := w) (A := A.in1.in1.in1) (g := s.heap) (f := .ref 101) R.hd (M := M) (T := T) (I := I) (l := l) (items := items)
    (by intro b hb; simp only [List.mem_cons, List.not_mem_nil, or_false] at hb; rcases hb with rfl | rfl | rfl <;> assumption) ⟨n1, n2, n3⟩ hl (fun v r => r = v)
    (fun s₁ v Q' E' hv hs hq => by
      obtain ⟨x, t, rfl, _⟩ := strs_mem hS hv
      exact t101 (W.sub hs) R.in1.in1.in1.in1 (fun s' K => hq _ _ rfl K))
  refine call_tuple_map W₁.toS (fun i s₁ st => ⟨_, st.1, rfl⟩) ⟨i3, i2, i1, k⟩ ?_ (by simp) (fun s' acc hm hacc => ?_) (by rw [sizeLine_eq]; omega)
  · intro b hb
    simp only [List.mem_append, List.mem_cons, List.not_mem_nil, or_false, List.mem_range] at hb
    rcases hb with (rfl | rfl | rfl) | hb
    · exact Heap.lt_size i3
    · obtain ⟨o, ho, _⟩ := i2; exact Heap.lt_size ho
    · obtain ⟨o, ho, _⟩ := i1; exact Heap.lt_size ho
    · exact Nat.lt_of_lt_of_le hb sz
  · have e : acc = items.toArray := by
      refine Array.ext_getElem? fun j => ?_
      by_cases hj : j < acc.size
      · obtain ⟨v, hv, e⟩ := hacc.2 j _ (Array.getElem?_eq_getElem hj)
        rw [Array.getElem?_eq_getElem hj, e]; simpa using hv.symm
      · rw [Array.getElem?_eq_none (by omega), Array.getElem?_eq_none (by have := hacc.1; simp; omega)]
    subst e
    have K : Keeps s s' := by
      have h1 : ∀ b o, s.heap.get? b = some o → s'.heap.get? b = some o := fun b o q => hm.heap b o (fun z => by rw [List.mem_singleton.mp z, a1] at q; cases q) (k b o q)
      obtain ⟨_, h2, h3, h4, h5⟩ := hm
      refine ⟨s'.heap, s'.toks, ?_, h1⟩
      obtain ⟨a, b, c, d, e⟩ := s'
      simp only at h2 h3 h4
      subst h2 h3 h4
      rfl
    exact hQ _ _ (ktrans K (kpush _ _)) ⟨_, Heap.get?_push_size _ rfl, rfl, _, rfl⟩

theorem Fm.acompL {elt iter : Expr} {x y : Str} {px py : Pos} {scope : Scope} {cl : List (Str × Addr)} {pos spos : Pos} {Q : Flow → Shared → Prop} (F : Fm w s₀ g env m cm s) (hh : A.handled = none)
    (f : Value → List Str)
    (hsw : swapsWith (.ListComp elt [⟨.Name x px, iter, [], 0⟩] scope pos) (some (.Name y py)) spos.line env = pure true)
    (hclos : closureFor scope env = pure cl) (hcl : ∀ n c, cl.lookup n = some c → env.cells.lookup n = some c) (hx : scope.names.lookup x = some .local)
    (h : wpAny (model PR w) A (eval iter env) (fun xv s₁ => Keeps s s₁ ∧ ∃ l items, xv = .ref l ∧ s₁.heap.IsList l (List.toArray items) ∧ items.length ≤ 100000 ∧
      (∀ C v s₃ m₃, v ∈ items → m₃ x = some v → Fx w s₁.heap (compEnvC scope cl C env) m₃ cm s₃.heap → EltRow w A (compEnvC scope cl C env) elt (f v) s₃) ∧
      (∀ D s₄ (ys : List Value), Fm w s₀ g env (fun z => if z = y then some (.ref D) else m z) cm s₄ → s₄.heap.IsList D ys.toArray → RowsAre s₄.heap ys (items.map f) → Q .next s₄)) E s)
    (hy : env.kindOf y = some .local := by rfl)
    (hcell : ∀ y ∈ scope.names, y.2 ≠ .cell := by decide) (hkind : scope.kind = .function := by rfl) (hnames : ∀ y ∈ scope.names, y.2 = .local → scope.names.lookup y.1 = some .local := by decide)
    (hs : ∀ x, foldedSetIterable iter env x = pure x := by intro _; rfl) :
    wpAny (model PR w) A (exec (.Assign [.Name y py] (.ListComp elt [⟨.Name x px, iter, [], 0⟩] scope pos) spos) env) Q E s := by
  refine F.acomp f hsw hclos hcl hx (wpAny_mono h (fun xv s₁ h₁ => ⟨h₁.1, ?_⟩) fun _ _ e => e) hy hcell hkind hnames hs
  obtain ⟨K₁, l, items, rfl, hl, hsz, he, hq⟩ := h₁
  have hlt : l < s₁.heap.objs.size := let ⟨o, ho, _⟩ := hl; Heap.lt_size ho
  have mem : ∀ {i v}, items.toArray[i]? = some v → v ∈ items := fun {i v} e => by simpa using Array.mem_of_getElem? e
  refine wpAny_pyIter_list hl ⟨_, _, _, _, _, _, rfl, Walks.list hh _ l (Nat.ne_of_lt hlt) items.toArray, by rw [sizeLine_eq]; simpa using by omega, ?_, ⟨⟨_, Heap.get?_push_size _ rfl, rfl, rfl⟩, (Sub.push _ _).list hl⟩, ?_, kpush _ _, ?_, fun C i v s₃ m₃ hP => he C v s₃ m₃ (mem hP), ?_⟩
  · rintro i h ⟨⟨o, ho, _⟩, _⟩ b hb
    rw [List.mem_singleton.mp hb]; exact ⟨o, ho⟩
  · intro b hb
    simp only [List.mem_cons, List.not_mem_nil, or_false] at hb
    rw [Heap.size_push]
    rcases hb with rfl | rfl
    · exact Nat.lt_succ_self _
    · exact Nat.lt_succ_of_lt hlt
  · intro b hb
    rw [List.mem_singleton.mp hb]
    exact Heap.get?_none_of_le (Nat.le_refl _)
  · intro D s₄ ys vs hlen hP F₄ hD hr
    have e : vs = items := by simpa using list_of_places hlen hP
    subst e
    exact hq D s₄ ys F₄ hD hr
theorem Fm.acompT {elt iter : Expr} {x y : Str} {px py : Pos} {scope : Scope} {cl : List (Str × Addr)} {pos spos : Pos} {Q : Flow → Shared → Prop} (F : Fm w s₀ g env m cm s) (hh : A.handled = none)
    (f : Value → List Str)
    (hsw : swapsWith (.ListComp elt [⟨.Name x px, iter, [], 0⟩] scope pos) (some (.Name y py)) spos.line env = pure true)
    (hclos : closureFor scope env = pure cl) (hcl : ∀ n c, cl.lookup n = some c → env.cells.lookup n = some c) (hx : scope.names.lookup x = some .local)
    (h : wpAny (model PR w) A (eval iter env) (fun xv s₁ => Keeps s s₁ ∧ ∃ l items, xv = .ref l ∧ s₁.heap.IsTuple l (List.toArray items) ∧ items.length ≤ 100000 ∧
      (∀ C v s₃ m₃, v ∈ items → m₃ x = some v → Fx w s₁.heap (compEnvC scope cl C env) m₃ cm s₃.heap → EltRow w A (compEnvC scope cl C env) elt (f v) s₃) ∧
      (∀ D s₄ (ys : List Value), Fm w s₀ g env (fun z => if z = y then some (.ref D) else m z) cm s₄ → s₄.heap.IsList D ys.toArray → RowsAre s₄.heap ys (items.map f) → Q .next s₄)) E s)
    (hy : env.kindOf y = some .local := by rfl)
    (hcell : ∀ y ∈ scope.names, y.2 ≠ .cell := by decide) (hkind : scope.kind = .function := by rfl) (hnames : ∀ y ∈ scope.names, y.2 = .local → scope.names.lookup y.1 = some .local := by decide)
    (hs : ∀ x, foldedSetIterable iter env x = pure x := by intro _; rfl) :
    wpAny (model PR w) A (exec (.Assign [.Name y py] (.ListComp elt [⟨.Name x px, iter, [], 0⟩] scope pos) spos) env) Q E s := by
  refine F.acomp f hsw hclos hcl hx (wpAny_mono h (fun xv s₁ h₁ => ⟨h₁.1, ?_⟩) fun _ _ e => e) hy hcell hkind hnames hs
  obtain ⟨K₁, l, items, rfl, hl, hsz, he, hq⟩ := h₁
  have hlt : l < s₁.heap.objs.size := let ⟨o, ho, _⟩ := hl; Heap.lt_size ho
  have mem : ∀ {i v}, items.toArray[i]? = some v → v ∈ items := fun {i v} e => by simpa using Array.mem_of_getElem? e
  refine wpAny_pyIter_tuple hl ⟨_, _, _, _, _, _, rfl, Walks.tuple hh _ l (Nat.ne_of_lt hlt) items.toArray, by rw [sizeLine_eq]; simpa using by omega, ?_, ⟨⟨_, Heap.get?_push_size _ rfl, rfl, rfl⟩, hl.at fun o e => Heap.get?_push_of_some _ e⟩, ?_, kpush _ _, ?_, fun C i v s₃ m₃ hP => he C v s₃ m₃ (mem hP), ?_⟩
  · rintro i h ⟨⟨o, ho, _⟩, _⟩ b hb
    rw [List.mem_singleton.mp hb]; exact ⟨o, ho⟩
  · intro b hb
    simp only [List.mem_cons, List.not_mem_nil, or_false] at hb
    rw [Heap.size_push]
    rcases hb with rfl | rfl
    · exact Nat.lt_succ_self _
    · exact Nat.lt_succ_of_lt hlt
  · intro b hb
    rw [List.mem_singleton.mp hb]
    exact Heap.get?_none_of_le (Nat.le_refl _)
  · intro D s₄ ys vs hlen hP F₄ hD hr
    have e : vs = items := by simpa using list_of_places hlen hP
    subst e
    exact hq D s₄ ys F₄ hD hr
end
end Mine

end

section
open PySem PySem.W PyProof.Rows PySem.Calls
set_option maxRecDepth 100000
namespace Mine

section
variable {w : World} {A : Around} {E : Value → Shared → Prop} {s : Shared}
open Builtin.Str in
theorem split_new {x : Str} {t u : Tok} {Q : Value → Shared → Prop} (hsz : x.length ≤ 1000)
    (h : ∀ D s' vs, Keeps s s' → s.heap.get? D = none → s'.heap.IsList D (List.toArray vs) → StrsAre vs (Txt.split x "/") → Q (.ref D) s') :
    wpAny (model PR w) A (call (.builtin "str.split") [.str x t, .str "/" u]) Q E s := by
  have hn : (partsBetween x (occurrences x "/" 0 x.length (x.length + 1)) ("/" : Str).length).length ≤ 1002 := by
    have e1 := StrLaws.occ_length_le x "/" 0 x.length (x.length + 1)
    rw [length_partsBetween]; omega
  have fresh : s.heap.get? s.heap.objs.size = none := Heap.get?_none_of_le (Nat.le_refl _)
  have hy : (("/" : Str).length == 0) = false := by decide
  cases h1 : (decide (x.length < ("/" : Str).length) || decide (Builtin.Str.strKind x < Builtin.Str.strKind "/"))
  · cases hf : (occurrences x "/" 0 x.length (x.length + 1)).isEmpty
    · refine call_meets PySem.F.slot_str_split (typeIs_str _ _ _) PySem.F.entry_str_split (PySem.F.args_str_split_2 _ _) (meets_str_split_sep x "/" t u h1 hy hf (by rw [sizeLine_eq]; omega) (by rw [sizeLine_eq]; omega)) ?_
      show wants Q E _ { s with toks := _, heap := s.heap.push { cls := .type "list", data := .seq (strsFrom s.toks (partsBetween x (occurrences x "/" 0 x.length (x.length + 1)) ("/" : Str).length)).toArray } }
      rw [strsFrom_eq]
      refine h _ _ _ ⟨_, _, rfl, Sub.push _ _⟩ fresh ⟨_, Heap.get?_push_size _ rfl, rfl, _, rfl⟩ ?_
      have e : Txt.split x "/" = (numbered s.toks (partsBetween x (occurrences x "/" 0 x.length (x.length + 1)) ("/" : Str).length)).map (·.1) := ((numbered_texts _ _).trans ((if_neg (ne_true_of_eq_false h1)).trans (if_neg (ne_true_of_eq_false hf))).symm).symm
      rw [e]; exact strsAre_of_values _
    · refine call_meets PySem.F.slot_str_split (typeIs_str _ _ _) PySem.F.entry_str_split (PySem.F.args_str_split_2 _ _) (meets_str_split_not_found x "/" t u h1 hy hf) ?_
      refine h _ _ _ ⟨_, s.toks, rfl, Sub.push _ _⟩ fresh ⟨_, Heap.get?_push_size _ rfl, rfl, _, rfl⟩ ?_
      have e : Txt.split x "/" = [(x, t)].map (·.1) := (if_neg (ne_true_of_eq_false h1)).trans (if_pos hf)
      rw [e]; exact strsAre_of_values [(x, t)]
  · refine call_meets PySem.F.slot_str_split (typeIs_str _ _ _) PySem.F.entry_str_split (PySem.F.args_str_split_2 _ _) (meets_str_split_cannot_occur x "/" t u h1) ?_
    refine h _ _ _ ⟨_, s.toks, rfl, Sub.push _ _⟩ fresh ⟨_, Heap.get?_push_size _ rfl, rfl, _, rfl⟩ ?_
    have e : Txt.split x "/" = [(x, t)].map (·.1) := if_pos h1
    rw [e]; exact strsAre_of_values [(x, t)]

theorem strs_any {f : Value → Bool} {k : Str → Bool} (hk : ∀ x t, f (.str x t) = k x) : ∀ {vs : List Value} {xs : List Str}, StrsAre vs xs → vs.any f = xs.any k
  | _, _, .nil => rfl
  | _, _, .cons y t h => by rw [List.any_cons, List.any_cons, hk, strs_any hk h]
theorem any_of_none {α : Type} {p : α → Bool} {l : List α} (h : (l.filter p).length = 0) : l.any p = false := by
  rw [Bool.eq_false_iff]; intro h'
  obtain ⟨x, hx, hp⟩ := List.any_eq_true.mp h'
  have : x ∈ l.filter p := List.mem_filter.mpr ⟨hx, hp⟩
  rw [List.eq_nil_of_length_eq_zero h] at this; cases this
theorem kind_same {vs : List Value} {x0 : Str} {ys : List Str} (hS : StrsAre vs (x0 :: ys)) (hmix : ((x0 :: ys).filter absB).length = 0 ∨ ((x0 :: ys).filter absB).length = (x0 :: ys).length) :
    (vs.any fun v => !absV v) = (!absB x0) ∧ vs.any absV = absB x0 := by
  rw [strs_any (f := fun v => !absV v) (k := fun x => !absB x) (fun _ _ => rfl) hS, strs_any (f := absV) (k := absB) (fun _ _ => rfl) hS]
  rcases hmix with h | h
  · have h1 := any_of_none h
    have h2 : absB x0 = false := by rw [List.any_cons, Bool.or_eq_false_iff] at h1; exact h1.1
    rw [h1, List.any_cons, h2]; exact ⟨rfl, rfl⟩
  · have h1 := (filter_len_all absB _).mp h
    have h2 : absB x0 = true := h1 x0 (.head _)
    have h3 : ∀ l : List Str, (∀ x ∈ l, absB x = true) → (l.any fun x => !absB x) = false := fun l hl => by
      rw [Bool.eq_false_iff]; intro h'
      obtain ⟨x, hx, hp⟩ := List.any_eq_true.mp h'
      rw [hl x hx] at hp; cases hp
    rw [h3 _ h1, List.any_cons, h2]; exact ⟨rfl, rfl⟩
theorem in_range : ∀ (i : Nat) {a b : List Str}, ltR b a = false → i < a.length → a.take i = b.take i → i < b.length
  | _, [], _, _, h, _ => by cases h
  | _, _ :: _, [], h, _, _ => by cases h
  | 0, _ :: _, _ :: _, _, _, _ => Nat.succ_pos _
  | i + 1, x :: a, y :: b, h, hi, he => by
    rw [List.take_succ_cons, List.take_succ_cons] at he
    injection he with h1 h2
    subst h1
    unfold ltR at h
    rw [if_pos rfl] at h
    exact Nat.succ_lt_succ (in_range i h (Nat.lt_of_succ_lt_succ hi) h2)
theorem agree_of {rss : List (List Str)} {a b r0 : List Str} {k : Nat} (ha : a ∈ rss) (hb : b ∈ rss) (hmin : ∀ r ∈ rss, ltR r a = false) (hmax : ∀ r ∈ rss, ltR b r = false) (hk : k ≤ a.length) (hk2 : k ≤ b.length)
    (he : a.take k = b.take k) (hn : k < a.length → a[k]? ≠ b[k]?) (h0 : r0 ∈ rss) : MaxAgree rss r0 k ∧ r0.take k = a.take k := by
  have h1 : ∀ r ∈ rss, r.take k = a.take k ∧ k ≤ r.length := fun r hr => between k (hmin r hr) (hmax r hr) hk hk2 he
  refine ⟨⟨(h1 r0 h0).2, fun r hr => (h1 r hr).1.trans (h1 r0 h0).1.symm, fun hlt => ?_⟩, (h1 r0 h0).1⟩
  apply Classical.byContradiction
  intro hno
  have hall : ∀ r ∈ rss, r.take (k + 1) = r0.take (k + 1) := fun r hr => Classical.byContradiction fun q => hno ⟨r, hr, q⟩
  have e1 := hall a ha
  have e2 := hall b hb
  have l1 := congrArg List.length e1
  rw [List.length_take, List.length_take] at l1
  have hka : k < a.length := by omega
  refine hn hka ?_
  have e3 := congrArg (·[k]?) (e1.trans e2.symm)
  simpa [List.getElem?_take] using e3
def keepS (p : Str) : Bool := !(p == "" || p == ".")
theorem strs_ne {items : List Value} {xs : List Str} (h : StrsAre items xs) (hp : 0 < items.length) : ∃ x0 t0 vs0 ys0, items = .str x0 t0 :: vs0 ∧ xs = x0 :: ys0 := by
  cases h with
  | nil => simp at hp
  | cons x t h => exact ⟨x, t, _, _, rfl, rfl⟩
theorem len_bne (p : Str) : ((p.length : Int) != 0) = !(p == "") := by
  by_cases h : p = ""
  · subst h; decide
  · have h1 : (p == "") = false := by simpa using h
    have h2 : p.length ≠ 0 := fun q => h (by
      obtain ⟨a⟩ := p
      have : a = #[] := Array.eq_empty_of_size_eq_zero q
      subst this; rfl)
    rw [h1]
    exact bne_iff_ne.mpr (by omega)
abbrev cmFm {w s₀ g env m cm s} (_ : Fm w s₀ g env m cm s) : Str → Option Value := cm
theorem Fm.forE {s₀ : Shared} {g : Heap} {env : Env} {m cm : Str → Option Value} (_ : Fm w s₀ g env m cm s) {xi xv : Str} {pi pv pt pos : Pos} {x1} {iter : Expr} {body : List Stmt} {Q : Flow → Shared → Prop} (hh : A.handled = none)
    (h : wpAny (model PR w) A (eval iter env) (fun xval s₁ => ∃ e it l items, ∃ J : Nat → Prop, xval = .ref e ∧ Fm w s₀ g env m cm s₁ ∧ IsEnum s₁.heap e it 0 .none ∧ s₁.heap.IsListIter it l 0 ∧ g.IsList l (List.toArray items) ∧
      e ≠ it ∧ (∀ D ∈ [e, it], D ≠ env.locals ∧ (∀ p ∈ env.cells, D ≠ p.2) ∧ g.get? D = none) ∧ J 0 ∧
      (∀ (i : Nat) (v : Value) (tk : Tok) (m₁ : Str → Option Value) (s₂ : Shared), items[i]? = some v → J i → (∀ y, y ≠ xv → y ≠ xi → m₁ y = m y) → Fm w s₀ g env (fun y => if y = xv then some v else if y = xi then some (.int i tk) else m₁ y) cm s₂ →
        wpAny (model PR w) A (execs body env) (fun f s₃ => match f with
          | .next | .cont => Keeps s₂ s₃ ∧ J (i + 1)
          | .brk => Q .next s₃
          | .ret _ => False) (fun _ _ => False) s₂) ∧
      (∀ m₁ s₂, J items.length → (∀ y, y ≠ xv → y ≠ xi → m₁ y = m y) → Fm w s₀ g env m₁ cm s₂ → Q .next s₂)) (fun _ _ => False) s)
    (hxi : env.kindOf xi = some .local := by rfl) (hxv : env.kindOf xv = some .local := by rfl)
    (hs : ∀ x, foldedSetIterable iter env x = pure x := by intro _; rfl) :
    wpAny (model PR w) A (exec (.For (.Tuple [.Name xi pi, .Name xv pv] x1 pt) iter body [] pos) env) Q (fun _ _ => False) s := Mine.forE hh h hxi hxv hs
theorem filter_rows (h : Heap) {vs ys : List Value} {xs : List Str} (hS : StrsAre vs xs) (hr : RowsAre h ys (vs.map fun v => Txt.split (strOf v) "/")) :
    ys.map (fun v => (rowAt h v).filter keepS) = xs.map pieces := by
  have e1 := rows_map hr
  have e2 : ys.map (fun v => (rowAt h v).filter keepS) = (ys.map (rowAt h)).map (fun r => r.filter keepS) := by rw [List.map_map]; rfl
  rw [e2, e1, List.map_map, ← hS.strs, List.map_map]
  rfl
theorem sub_cells1 {a : Str} {x : Addr} {cs : List (Str × Addr)} (h : cs.lookup a = some x) : ∀ n c, List.lookup n [(a, x)] = some c → cs.lookup n = some c := fun n c e => by
  rw [List.lookup_cons] at e
  cases q : n == a with
  | true => rw [q] at e; cases e; rw [eq_of_beq q]; exact h
  | false => rw [q] at e; cases e

set_option maxHeartbeats 2000000

theorem t127_ok (W : Wd w s.heap) (R : Rm A 9) {l : Addr} {xs : List Str} (hl : Txts s.heap l xs) (hlen : xs.length ≤ 100) (hsz : ∀ x ∈ xs, x.length ≤ 100) (hne : xs ≠ [])
    (hmix : (xs.filter absB).length = 0 ∨ (xs.filter absB).length = xs.length) {Q : Value → Shared → Prop}
    (hQ : ∀ v t s', Keeps s s' → DueIs xs v → Q (.str v t) s') :
    wpAny (model PR w) A (call (.ref 127) [.ref l]) Q E s := by
  obtain ⟨items, hl, hS⟩ := hl
  have hitems : items.length = xs.length := hS.len_eq
  refine callF (f := 127) W R rfl rfl rfl rfl rfl (fun L s₁ hL F R => ?_)
  dsimp only at F R ⊢
  -- paths = tuple(map(fspath, paths))
  refine wpAny_execs_cons (wpAny_Assign_Name ?_)
  refine evCallM (fun Q' q => F.toFx.ldB rfl rfl q) ?_
  refine wpAny_items_cons ?_
  refine evCallM (fun Q' q => F.toFx.ldB rfl rfl q) ?_
  refine wpAny_items_cons (F.toFx.ldG rfl ?_)
  refine wpAny_items_cons (F.toFx.ldL (by rfl) ?_)
  refine wpAny_items_nil (wpAny_mono (tuple_paths (E := fun _ _ => False) F.toFx.wd (R.le (by omega)) (F.toFx.list hl) hS (by omega) ?_) (fun v s₂ h₂ => wpAny_items_nil (wpAny_any h₂)) fun _ _ e => e.elim)
  intro T s₂ K hT
  obtain ⟨g', hg, F, adv⟩ := (F.keeps K).adv
  have hT := tuple_of_adv adv hT
  refine F.stL (fun s₃ F => ?_)
  -- if not paths
  have hT₃ : IsTup s₃.heap T items.toArray := hT.at fun o e => F.toFx.keep _ o e
  have hpos : 0 < items.length := by rw [hitems]; exact List.length_pos_iff.mpr hne
  refine wpAny_execs_cons (wpAny_If (wpAny_isTrue_Not (isTrue_plain (F.toFx.ldL (by rfl) (truthy_tuple hT₃ (by simp; omega) ?_)))))
  have he : (!(!items.toArray.isEmpty)) = false := by
    cases items with
    | nil => simp at hpos
    | cons a b => rfl
  rw [he]
  show wpAny _ _ _ _ _ _
  refine wpAny_execs_nil ?_
  have F := F.keeps (ktok s₃ (s₃.toks + 1 + 1))
  -- isinstance(paths[0], bytes)
  obtain ⟨x0, t0, vs0, ys0, rfl, rfl⟩ := strs_ne hS hpos
  refine wpAny_execs_cons (wpAny_If (isTrue_plain ?_))
  refine evCallM (fun Q' q => F.toFx.ldB rfl rfl q) ?_
  refine wpAny_items_cons (Subscript_ (F.toFx.ldL (by rfl) (wpAny_Constant_int ?_)))
  refine item_tupleT (x := .str x0 t0) (j := 0) hT₃ (by decide) (by decide) (by simp [seqIndex?]) rfl ?_
  refine wpAny_items_cons (F.toFx.ldB rfl rfl ?_)
  refine wpAny_items_nil ?_
  refine IsiPair.str_bytes (wpAny_truthy_bool ?_)
  show wpAny _ _ _ _ _ _
  refine wpAny_execs_cons (wpAny_Assign_Name (Constant_str ?_))
  refine (F.keeps (kmk _ _ (Sub.refl _))).stC (by rfl) (fun s₄ F => ?_)
  refine wpAny_execs_cons (wpAny_Assign_Name (Constant_str ?_))
  refine (F.keeps (ktok _ _)).stC (by rfl) (fun s₅ F => ?_)
  refine wpAny_execs_nil ?_
  show wpAny _ _ _ _ _ _
  have hSx := hS
  refine wpAny_execs_cons (wpAny_Try_except (wpAny_any ?_))
  -- split_paths
  refine wpAny_execs_cons (F.acompT (cl := [("sep", L + 1)]) R.hd (fun v => Txt.split (strOf v) "/") (by rfl) (by rfl) (sub_cells1 (by rfl)) (by rfl) ?_)
  refine F.toFx.ldL (by rfl) ⟨krefl _, T, _, rfl, hT.at fun o e => F.toFx.keep _ o e, by omega, ?_, ?_⟩
  · intro C v s₆ m₆ hv hm F₆ E'
    obtain ⟨p, t, rfl, hp⟩ := strs_mem hSx hv
    refine evMethS PySem.F.slot_str_split PySem.F.type_str_split (F₆.ldL hm ⟨_, _, rfl, ?_⟩)
    refine wpAny_items_cons (F₆.ldC (by rfl) ((if_neg (by decide)).trans (if_pos rfl)) (wpAny_items_nil ?_))
    exact split_new (by have := hsz p hp; omega) (fun D s₇ vs K hf hl hS => ⟨D, rfl, hf, ⟨vs, hl, hS⟩, K⟩)
  intro D₁ s₆ ys₁ F hD₁ hr₁
  obtain ⟨g₂, hg₂, F, adv₂⟩ := F.adv
  have hD₁ := list_of_adv adv₂ hD₁
  have hr₁ := rows_of_adv adv₂ hr₁
  -- isabs
  refine wpAny_execs_cons (wpAny_Try_except (wpAny_any ?_))
  refine wpAny_execs_cons (wpAny_Assign_stores ?_ (by rfl) (by rfl))
  refine F.toFx.scompT (cl := [("sep", L + 1)]) R.hd absV (by rfl) (sub_cells1 (by rfl)) (by rfl) ?_
  refine F.toFx.ldL (by rfl) ⟨krefl _, T, _, rfl, hT.at fun o e => F.toFx.keep _ o (hg₂ _ o e), ?_, ?_⟩
  · intro C v s₇ m₇ hv hm F₇ E'
    obtain ⟨p, t, rfl, hp⟩ := strs_mem hSx hv
    refine evMethS PySem.F.slot_str_startswith PySem.F.type_str_startswith (F₇.ldL hm ⟨_, _, rfl, ?_⟩)
    refine wpAny_items_cons (F₇.ldC (by rfl) ((if_neg (by decide)).trans (if_pos rfl)) (wpAny_items_nil ?_))
    exact SC.startswith ⟨rfl, krefl _⟩
  intro D₂ s₇ K₇ hD₂
  obtain ⟨k1, k2⟩ := kind_same hSx hmix
  rw [k1, k2] at hD₂
  have F := F.keeps K₇
  show wpAny _ _ (assign (.Tuple [.Name "isabs" _] 0 _) _ (.ref D₂)) _ _ _
  rw [arm_assign_Tuple]
  refine wpAny_bind (wpAny_standAt ?_)
  unfold unpack
  refine wpAny_bind (wpAny_holding ?_)
  show wpAny _ _ (unpackItems (.ref D₂) 1 none) _ _ _
  refine unpack_b R.hd hD₂ (by cases absB x0 <;> simp) (fun _ h' kh => ?_) (fun h1 h2 => by rw [h2] at h1; cases h1)
  have F := F.keeps (kmk s₇ s₇.toks kh)
  show wpAny _ _ (do holding [] (assign (.Name "isabs" _) _ (.bool (absB x0))); pure ()) _ _ _
  refine wpAny_bind (wpAny_holding (wpAny_assign_Name (F.stL (fun s₈ F => wpAny_pure ?_))))
  show wpAny _ _ _ _ _ _
  refine wpAny_execs_nil ?_
  show wpAny _ _ _ _ _ _
  refine wpAny_execs_nil ?_
  show wpAny _ _ _ _ _ _
  have hlens : ∀ r ∈ (x0 :: ys0).map pieces, r.length ≤ 2000 := by
    intro r hr
    obtain ⟨x, hx, rfl⟩ := List.mem_map.mp hr
    have h1 := hsz x hx
    unfold pieces
    exact Nat.le_trans (List.length_filter_le _ _) (split_len (by omega))
  -- rows
  refine wpAny_execs_cons (F.acompL (cl := [("curdir", L + 2)]) R.hd (fun v => (rowAt g₂ v).filter keepS) (by rfl) (by rfl) (sub_cells1 (by rfl)) (by rfl) ?_)
  refine F.toFx.ldL (by rfl) ⟨krefl _, D₁, _, rfl, F.toFx.list hD₁, by have := hr₁.len; simp only [List.length_map] at this; omega, ?_, ?_⟩
  · intro C v s₉ m₉ hv hm F₉ E'
    obtain ⟨r, rs, rfl, hrs, hTx⟩ := hr₁.mem hv
    have er := rowAt_of hTx
    obtain ⟨p0, hp0, rfl⟩ := List.mem_map.mp hrs
    obtain ⟨p1, tp1, rfl, hp1⟩ := strs_mem hSx hp0
    have hpl : (Txt.split (strOf (.str p1 tp1)) "/").length ≤ 2000 := split_len (x := p1) (by have := hsz p1 hp1; omega)
    obtain ⟨ws, hlw, hSw⟩ := hTx
    have hwl := hSw.len_eq
    refine F₉.lcompL (cl := [("curdir", L + 2)]) R.hd keepP (fun v y => y = v) (by rfl) (sub_cells1 (by rfl)) (by rfl) ?_
    refine F₉.ldL hm ⟨krefl _, r, ws, rfl, (F.toFx.keep.trans F₉.keep).list hlw, by rw [sizeLine_eq]; omega, ?_, ?_, ?_⟩
    · intro C' v' s₁₀ m₁₀ hv' hm' F₁₀
      obtain ⟨p, tp, rfl, hp⟩ := strs_mem hSw hv'
      have hpsz : p.length ≤ 100 := Nat.le_trans (part_short hp) (hsz p1 hp1)
      refine TestOn.one (fun E'' => isTrue_and (isTrue_plain (F₁₀.ldL hm' (PySem.P.truthy_str (by omega) ?_))))
      rw [len_bne]
      cases hq : (p == "") with
      | true =>
        show false = keepP (.str p tp) ∧ _
        exact ⟨by show false = !(p == "" || p == "."); rw [hq]; rfl, ⟨_, _, rfl, fun _ _ e => e⟩⟩
      | false =>
        show wpAny _ _ _ _ _ _
        refine isTrue_and (wpAny_isTrue_Compare1 (F₁₀.ldL hm' (F₁₀.ldC (by rfl) (if_pos rfl) (ne_str (wpAny_truthy_bool ?_)))))
        have hk : keepP (.str p tp) = (p != ".") := by show (!(p == "" || p == ".")) = (p != "."); rw [hq]; rfl
        rw [hk]
        cases p != "." with
        | true => exact isTrue_and_nil ⟨rfl, ⟨_, _, rfl, fun _ _ e => e⟩⟩
        | false => exact ⟨rfl, ⟨_, _, rfl, fun _ _ e => e⟩⟩
    · intro C' v' s₁₀ m₁₀ hv' hp hm' F₁₀ E''
      exact F₁₀.ldL hm' ⟨rfl, krefl _⟩
    · intro D' s₁₁ zs K' hD' hpl' hF'
      refine ⟨D', rfl, hD', ⟨zs, hpl'.isList, ?_⟩, K'⟩
      rw [paired_eq hF', er]
      exact strs_filter (fun _ _ => rfl) hSw
  intro D₃ s₁₂ ys₃ F hD₃ hr₃
  rw [filter_rows g₂ hSx hr₁] at hr₃
  obtain ⟨g₃, hg₃, F, adv₃⟩ := F.adv
  have hD₃ := list_of_adv adv₃ hD₃
  have hr₃ := rows_of_adv adv₃ hr₃
  show wpAny _ _ _ _ _ _
  have hlen₃ := hr₃.len
  simp only [List.length_map, List.length_cons] at hlen₃
  -- s1
  have F₀ := F
  refine wpAny_execs_cons (wpAny_Assign_Name ?_)
  refine evCallM (fun Q' q => F.toFx.ldB rfl rfl q) ?_
  refine wpAny_items_cons (F.toFx.ldL (by rfl) (wpAny_items_nil ?_))
  refine call_min_rows R.hd (by have := R.un; omega) (F.toFx.list hD₃) (hr₃.sub F.toFx.keep) (by omega) (fun r₁ rs₁ s₁₃ K₁₃ hm₁ hin₁ ht₁ hmin => ?_)
  refine (F.keeps K₁₃).stL (fun s₁₄ F => ?_)
  -- s2
  have F₀₂ := F
  refine wpAny_execs_cons (wpAny_Assign_Name ?_)
  refine evCallM (fun Q' q => F.toFx.ldB rfl rfl q) ?_
  refine wpAny_items_cons (F.toFx.ldL (by rfl) (wpAny_items_nil ?_))
  refine call_max_rows R.hd (by have := R.un; omega) (F.toFx.list hD₃) (hr₃.sub F.toFx.keep) (by omega) (fun r₂ rs₂ s₁₅ K₁₅ hm₂ hin₂ ht₂ hmax => ?_)
  refine (F.keeps K₁₅).stL (fun s₁₆ F => ?_)
  show wpAny _ _ _ _ _ _
  have own : ∀ {r : Addr} {rs : List Str} {h' : Heap}, Value.ref r ∈ ys₃ → Sub g₃ h' → Txts h' r rs → Txts g₃ r rs := fun hm k ht => by
    obtain ⟨r', rs', e, _, t⟩ := hr₃.mem hm
    cases e
    rw [← rowAt_of ht, rowAt_of (t.sub k)]
    exact t
  have ht₁ := own hm₁ ((F₀.toFx.keep).trans (ksub K₁₃)) ht₁
  have ht₂ := own hm₂ ((F₀₂.toFx.keep).trans (ksub K₁₅)) ht₂
  have hl₁ := hlens rs₁ hin₁
  have hl₂ := hlens rs₂ hin₂
  obtain ⟨ws₁, hw₁, hS₁⟩ := ht₁
  obtain ⟨ws₂, hw₂, hS₂⟩ := ht₂
  have hwl₁ := hS₁.len_eq
  have hwl₂ := hS₂.len_eq
  -- common = s1
  refine wpAny_execs_cons (wpAny_Assign_Name (F.toFx.ldL (by rfl) ?_))
  refine F.stL (fun s₁₇ F => ?_)
  show wpAny _ _ _ _ _ _
  -- the loop
  refine wpAny_execs_cons (cut (P := fun f s' => f = .next ∧ ∃ k m' C gC, Fm w s gC (envFm F) m' (cmFm F) s' ∧ m' "isabs" = some (.bool (absB x0)) ∧ m' "common" = some (.ref C) ∧ Txts gC C (rs₁.take k) ∧
      k ≤ rs₁.length ∧ k ≤ rs₂.length ∧ rs₁.take k = rs₂.take k ∧ (k < rs₁.length → rs₁[k]? ≠ rs₂[k]?)) (F.forE R.hd ?_) ?_)
  · refine evCallM (fun Q' q => F.toFx.ldB rfl rfl q) ?_
    refine wpAny_items_cons (F.toFx.ldL (by rfl) (wpAny_items_nil ?_))
    refine call_enumerate_list (F.toFx.list hw₁) (fun h' he hit _ kh => ?_)
    have big : ∀ D, s₁₇.heap.objs.size ≤ D → D ≠ (envFm F).locals ∧ (∀ p ∈ (envFm F).cells, D ≠ p.2) ∧ g₃.get? D = none := fun D hD => by
      refine ⟨fun q => ?_, fun p hp q => ?_, ?_⟩
      · have h1 := F.toFx.ns.lt
        rw [← q] at h1; exact Nat.lt_irrefl _ (Nat.lt_of_lt_of_le h1 hD)
      · obtain ⟨v, o, ho, _⟩ := F.cw p hp
        have h1 := Heap.lt_size ho
        rw [← q] at h1; exact Nat.lt_irrefl _ (Nat.lt_of_lt_of_le h1 hD)
      · cases q : g₃.get? D with
        | none => rfl
        | some o => exact absurd (Heap.lt_size (F.toFx.keep _ _ q)) (Nat.not_lt.mpr hD)
    refine ⟨_, _, r₁, ws₁, fun i => i ≤ rs₁.length ∧ rs₁.take i = rs₂.take i, rfl, F.keeps (kmk _ s₁₇.toks kh), he, hit, hw₁, Nat.ne_of_gt (Nat.lt_succ_self _), ?_, ⟨Nat.zero_le _, rfl⟩, ?_, ?_⟩
    · intro D hD
      simp only [List.mem_cons, List.not_mem_nil, or_false] at hD
      rcases hD with rfl | rfl
      · exact big _ (Nat.le_succ _)
      · exact big _ (Nat.le_refl _)
    · intro i v tk m₁ s₁₈ hv hJ hm F₁₈
      obtain ⟨c, tc, rfl, ec⟩ := hS₁.item i v hv
      have hi₁ : i < rs₁.length := (List.getElem?_eq_some_iff.mp ec).1
      have hi₂ := in_range i (hmax rs₁ hin₁) hi₁ hJ.2
      have hi₂' : i < ws₂.length := by omega
      obtain ⟨c₂, tc₂, ec₂, ed₂⟩ := hS₂.item i _ (List.getElem?_eq_getElem hi₂')
      have hc₂ : ws₂[i]? = some (.str c₂ tc₂) := by rw [List.getElem?_eq_getElem hi₂', ec₂]
      refine wpAny_execs_cons (wpAny_If (wpAny_isTrue_Compare1 ?_))
      refine F₁₈.toFx.ldL (if_pos rfl) ?_
      refine evItem (F₁₈.toFx.ldL (v := .ref r₂) ?_ (F₁₈.toFx.ldL ((if_neg (by decide)).trans (if_pos rfl)) ⟨r₂, ws₂, i, _, _, rfl, rfl, F₁₈.toFx.list hw₂, by omega, hc₂, ?_⟩))
      · exact (if_neg (by decide)).trans ((if_neg (by decide)).trans (hm _ (by decide) (by decide)))
      refine ne_str (wpAny_truthy_bool ?_)
      cases hcc : (c != c₂) with
      | true =>
        show wpAny _ _ _ _ _ _
        refine wpAny_execs_cons (wpAny_Assign_Name ?_)
        refine evTake (F₁₈.toFx.ldL (v := .ref r₁) ?_ (F₁₈.toFx.ldL ((if_neg (by decide)).trans (if_pos rfl)) ⟨r₁, ws₁, i, _, rfl, rfl, F₁₈.toFx.list hw₁, by omega, fun D s₁₉ K₁₉ _ hD => ?_⟩))
        · exact (if_neg (by decide)).trans ((if_neg (by decide)).trans (hm _ (by decide) (by decide)))
        obtain ⟨g₄, hg₄, F₁₉, adv₄⟩ := (F₁₈.keeps K₁₉).adv
        have hD := list_of_adv adv₄ hD
        refine F₁₉.stL (fun s₂₀ F₂₀ => ?_)
        show wpAny _ _ _ _ _ _
        refine wpAny_execs_cons (wpAny_Break ?_)
        show _ ∧ _
        refine ⟨rfl, i, _, D, g₄, F₂₀, ?_, if_pos rfl, ⟨_, hD, hS₁.take' i⟩, hJ.1, Nat.le_of_lt hi₂, hJ.2, fun _ => ?_⟩
        · exact (if_neg (by decide)).trans ((if_neg (by decide)).trans ((if_neg (by decide)).trans (hm _ (by decide) (by decide))))
        · rw [ec, ed₂]
          intro q
          injection q with q
          rw [q] at hcc
          simp at hcc
      | false =>
        show wpAny _ _ _ _ _ _
        have hce : c = c₂ := by simpa using hcc
        refine wpAny_execs_nil (wpAny_execs_nil ⟨krefl _, hi₁, ?_⟩)
        rw [List.take_succ, List.take_succ, hJ.2, ec, ed₂, hce]
    · intro m₁ s₁₈ hJ hm F₁₈
      rw [hwl₁] at hJ
      refine ⟨rfl, rs₁.length, m₁, r₁, g₃, F₁₈, hm _ (by decide) (by decide), hm _ (by decide) (by decide), ?_, Nat.le_refl _, ?_, hJ.2, fun h => absurd h (Nat.lt_irrefl _)⟩
      · rw [List.take_length]; exact ⟨_, hw₁, hS₁⟩
      · have := congrArg List.length hJ.2
        rw [List.length_take, List.length_take] at this
        omega
  rintro f s₂₁ ⟨rfl, k, m', C, gC, F, em₁, em₂, hC, hk₁, hk₂, hk₃, hk₄⟩
  show wpAny _ _ _ _ _ _
  -- prefix
  refine wpAny_execs_cons (wpAny_Assign_Name (cut (P := fun v s'' => (∃ t, v = .str (if absB x0 then ("/" : Str) else ("" : Str)) t) ∧ Keeps s₂₁ s'') (wpAny_IfExp (isTrue_plain (F.toFx.ldL em₁ (wpAny_truthy_bool ?_)))) ?_))
  · cases hb : absB x0 with
    | true =>
      show wpAny _ _ _ _ _ _
      exact F.toFx.ldC (by rfl) ((if_neg (by decide)).trans (if_pos rfl)) ⟨⟨_, rfl⟩, krefl _⟩
    | false =>
      show wpAny _ _ _ _ _ _
      refine evTakeS (F.toFx.ldC (by rfl) ((if_neg (by decide)).trans (if_pos rfl)) (wpAny_Constant_int ⟨"/", _, 0, _, rfl, rfl, by decide, fun t' s₂₂ K₂₂ => ?_⟩))
      have e : Txt.slice "/" none (some 0) = ("" : Str) := by decide +kernel
      rw [e]
      exact ⟨⟨_, rfl⟩, ktrans (⟨_, _, rfl, fun _ _ e => e⟩ : Keeps s₂₁ _) K₂₂⟩
  rintro v s₂₂ ⟨⟨tp, rfl⟩, K₂₂⟩
  refine (F.keeps K₂₂).stL (fun s₂₃ F => ?_)
  show wpAny _ _ _ _ _ _
  refine wpAny_execs_cons (wpAny_Return_some (wpAny_BinOp (F.toFx.ldL (if_pos rfl) ?_)))
  refine evMethS PySem.F.slot_str_join PySem.F.type_str_join (F.toFx.ldC (by rfl) ((if_neg (by decide)).trans (if_pos rfl)) ⟨_, _, rfl, ?_⟩)
  refine wpAny_items_cons (F.toFx.ldL ((if_neg (by decide)).trans em₂) (wpAny_items_nil ?_))
  obtain ⟨wsC, hlC, hSC⟩ := hC
  have hag := agree_of (r0 := pieces x0) hin₁ hin₂ hmin hmax hk₁ hk₂ hk₃ hk₄ (List.mem_cons_self ..)
  rw [← hag.2] at hSC
  have hx0 := hsz x0 (.head _)
  have hp0 := hlens (pieces x0) (List.mem_cons_self ..)
  have hlen2 : ((pieces x0).take k).length ≤ 2000 := by rw [List.length_take]; omega
  have hsum := sum_le_of (n := 100) (l := (pieces x0).take k) fun p hp => Nat.le_trans (part_short (List.mem_filter.mp (List.mem_of_mem_take hp)).1) hx0
  have hjl := StrLaws.join_length_le "/" ((pieces x0).take k)
  have h1 : ("/" : Str).length = 1 := by decide
  rw [h1] at hjl
  refine join_list (F.toFx.list hlC) hSC (by rw [h1]; omega) (fun t' k' => ?_)
  rw [txt_join]
  refine add_str (fun t'' k'' => ?_) ?_
  · show Q _ _
    exact hQ _ _ _ (F.keeps (⟨_, _, rfl, fun _ _ e => e⟩ : Keeps s₂₃ _)).done (.inr (.inr ⟨x0, ys0, k, rfl, hmix, hag.1, rfl⟩))
  · have h2 : (if absB x0 = true then ("/" : Str) else "").length ≤ 1 := by split <;> decide
    rw [sizeLine_eq]; omega
end
end Mine

end

section
open PySem PySem.W PyProof.Rows PySem.Calls
set_option maxRecDepth 100000
namespace Mine

/-- what may change while an exception passes: the frames' slots, the exception's own records -/
structure Mv (fs ex : List Addr) (h h' : Heap) : Prop where
  keep : ∀ b o, b ∉ fs → b ∉ ex → h.get? b = some o → h'.get? b = some o
  slot : ∀ b o, b ∈ fs → h.get? b = some o → ∃ sl, h'.get? b = some { o with slots := sl }
theorem Mv.trans {fs ex : List Addr} {a b c : Heap} (x : Mv fs ex a b) (y : Mv fs ex b c) : Mv fs ex a c :=
  ⟨fun i o h1 h2 e => y.keep i o h1 h2 (x.keep i o h1 h2 e), fun i o h1 e => let ⟨_, e1⟩ := x.slot i o h1 e; let ⟨sl, e2⟩ := y.slot i _ h1 e1; ⟨sl, e2⟩⟩
theorem Mv.ofSub {fs ex : List Addr} {a b : Heap} (x : Sub a b) : Mv fs ex a b := ⟨fun i o _ _ e => x i o e, fun i o _ e => ⟨o.slots, x i o e⟩⟩
theorem Mv.mono {fs ex ex' : List Addr} {a b : Heap} (x : Mv fs ex a b) (k : ∀ i ∈ ex, i ∈ ex') : Mv fs ex' a b := ⟨fun i o h1 h2 e => x.keep i o h1 (fun q => h2 (k i q)) e, x.slot⟩

def Live (h : Heap) (l : List Env) : Prop := ∀ env ∈ l, env.scope.kind ≠ .module ∧ ∃ L o, env.frame = some L ∧ h.get? L = some o ∧ ∀ vs, o.data ≠ .fields vs
abbrev frs (l : List Env) : List Addr := l.filterMap (·.frame)
theorem Live.sub {h h' : Heap} {l : List Env} (x : Live h l) (k : Sub h h') : Live h' l := fun env he => let ⟨a, L, o, b, c, d⟩ := x env he; ⟨a, L, o, b, k _ _ c, d⟩
theorem Live.mv {h h' : Heap} {l : List Env} {ex : List Addr} (x : Live h l) (k : Mv (frs l) ex h h') : Live h' l := fun env he =>
  let ⟨a, L, o, b, c, d⟩ := x env he
  let ⟨sl, e⟩ := k.slot L o (List.mem_filterMap.mpr ⟨env, he, b⟩) c
  ⟨a, L, _, b, e, d⟩
theorem Live.fun {h base : Heap} : ∀ {l : List Env}, Live h l → (∀ b ∈ frs l, base.get? b = none) → h.FunFrames base l
  | [], _, _ => trivial
  | env :: r, x, hb => by
    obtain ⟨a, L, o, b, c, d⟩ := x env (.head _)
    exact ⟨a, ⟨L, o, b, hb L (List.mem_filterMap.mpr ⟨env, .head _, b⟩), c, d⟩, Live.fun (fun e he => x e (.tail _ he)) fun b hm => hb b (by
      obtain ⟨e, he, hf⟩ := List.mem_filterMap.mp hm
      exact List.mem_filterMap.mpr ⟨e, .tail _ he, hf⟩)⟩
theorem Live.mem {h : Heap} {l : List Env} (x : Live h l) {b : Addr} (hb : b ∈ frs l) : ∃ o, h.get? b = some o ∧ ∀ vs, o.data ≠ .fields vs := by
  obtain ⟨env, he, hf⟩ := List.mem_filterMap.mp hb
  obtain ⟨_, L, o, hL, ho, hd⟩ := x env he
  rw [hf] at hL; cases hL
  exact ⟨o, ho, hd⟩

section
variable {M : Model} {A : Around} {E : Value → Shared → Prop} {s : Shared}

/-- a new exception is noted in its frame -/
theorem note_new {env : Env} {outer : List Env} {L e : Addr} {oe : Obj} {vs : Array Value} {Q : Unit → Shared → Prop}
    (hfr : A.frames = some (env :: outer)) (hl : Live s.heap (env :: outer)) (hf : env.frame = some L)
    (he : s.heap.get? e = some oe) (hd : oe.data = .fields vs) (h1 : vs[1]? = some .none)
    (h : ∀ h' tb ots ts, Mv (frs (env :: outer)) [e] s.heap h' → s.heap.get? tb = none → tb ≠ e → h'.get? e = some (oe.mapFields (·.setIfInBounds 1 (.ref tb))) → h'.get? tb = some ots → ots.data = .fields ts → ts[3]? = some (rawInt L) → Q () { s with heap := h' }) :
    wpAny M A (noteFrame (.ref e) env) Q E s := by
  have hsz : 1 < vs.size := (Array.getElem?_eq_some_iff.mp h1).1
  have hene : e ∉ frs (env :: outer) := fun hm => by
    obtain ⟨o, ho, hnf⟩ := hl.mem hm
    rw [he] at ho; cases ho; exact hnf vs hd
  have hL := hl.fun (base := hideAll s.heap (frs (env :: outer))) fun b hb => hideAll_none _ hb
  unfold noteFrame
  simp only [hf]
  refine wpAny_bind (wpAny_field he hd h1 ?_)
  rw [if_neg (by decide)]
  refine wpAny_bind (wpAny_frameOf_fun hfr hL hf fun h₁ hs₁ => ?_)
  refine wpAny_bind (wpAny_entryPlaceOf fun pl hpl => ?_)
  unfold EntryCells.newEntry newFields
  refine wpAny_bind (wpAny_newObj_type ?_ (hpl.sizeOk5 _ _ _ _ _))
  have he₁ : h₁.get? e = some oe := (hs₁.2.1 e hene).trans he
  have he₂ := Heap.get?_push_of_some (h := h₁) { cls := .type "traceback", dict := none, data := .fields ([Value.none, .ref L, .none, rawInt L, .none] ++ (if pl.isEmpty then List.replicate 6 Value.none else pl)).toArray } he₁
  refine wpAny_setField he₂ hd hsz ?_
  have hTe : h₁.objs.size ≠ e := Nat.ne_of_gt (Heap.lt_size he₁)
  have hd₃ := Obj.data_mapFields hd (·.setIfInBounds 1 (Value.ref h₁.objs.size))
  have he₃ := Heap.get?_update_self (Obj.mapFields (·.setIfInBounds 1 (Value.ref h₁.objs.size))) he₂ (Obj.isFreed_of_fields hd₃)
  have hT₃ := (Heap.get?_update_other (h₁.push { cls := .type "traceback", dict := none, data := .fields ([Value.none, .ref L, .none, rawInt L, .none] ++ (if pl.isEmpty then List.replicate 6 Value.none else pl)).toArray })
    (Obj.mapFields (·.setIfInBounds 1 (Value.ref h₁.objs.size))) (Ne.symm hTe)).trans (Heap.get?_push_size h₁ rfl)
  have keep : ∀ b o, b ≠ e → h₁.get? b = some o →
      ((h₁.push { cls := .type "traceback", dict := none, data := .fields ([Value.none, .ref L, .none, rawInt L, .none] ++ (if pl.isEmpty then List.replicate 6 Value.none else pl)).toArray }).update e (Obj.mapFields (·.setIfInBounds 1 (Value.ref h₁.objs.size)))).get? b = some o :=
    fun b o hbe hb => by
      rw [Heap.get?_update_other _ _ (Ne.symm hbe)]
      exact Heap.get?_push_of_some _ hb
  refine h _ h₁.objs.size _ _ ⟨fun b o h1 h2 e' => keep b o (fun q => h2 (by simp [q])) ((hs₁.2.1 b h1).trans e'), fun b o hb e' => ?_⟩ ?_ hTe he₃ hT₃ rfl (by first | (simp; done) | (rcases hpl with rfl | ⟨_, _, _, _, _, _, _, rfl⟩ <;> simp))
  · obtain ⟨sl, hs⟩ := hs₁.2.2 b o e'
    exact ⟨sl, keep b _ (fun q => hene (q ▸ hb)) hs⟩
  · exact Heap.get?_none_of_le (by rw [hs₁.1]; exact Nat.le_refl _)
end
end Mine

end

section
open PySem PySem.W PyProof.Rows PySem.Calls
set_option maxRecDepth 100000
namespace Mine

section
variable {prog : Program} {w : World} {A : Around} {E : Value → Shared → Prop} {s : Shared} {env : Env}

set_option maxHeartbeats 1000000
abbrev excObj (t : Addr) : Obj := { cls := .type "ValueError", data := .fields #[.ref t, .none, .none, .none, .bool false, .none] }

theorem excFrom {e t : Addr} {c : String} {Q : Value → Shared → Prop} (he : s.heap.get? e = some (excObj t)) (h : Q (.ref e) s) : wpAny (model prog w) A (excFromValue (.ref e) c) Q E s := by
  obtain ⟨hp, g, d, tk, os⟩ := s
  have hsub : isSubtype (.type "ValueError") (.type "BaseException") = pure true := by rw [isSubtype_type]; kernel_rfl
  unfold excFromValue
  repeat (first | refine wpAny_loadPart he ?_ | wp_step)
  exact h
theorem isType_exc {e : Addr} {vs : Array Value} {Q : Bool → Shared → Prop} (he : s.heap.get? e = some { cls := .type "ValueError", data := .fields vs }) (h : Q false s) : wpAny (model prog w) A (isType (.ref e)) Q E s := by
  obtain ⟨hp, g, d, tk, os⟩ := s
  repeat (first | refine wpAny_loadPart he ?_ | wp_step)
  exact h
theorem raisedInst {e : Addr} {vs : Array Value} {Q : Value → Shared → Prop} (he : s.heap.get? e = some { cls := .type "ValueError", data := .fields vs }) (h : Q (.ref e) s) : wpAny (model prog w) A (raisedInstance (.ref e)) Q E s := by
  obtain ⟨hp, g, d, tk, os⟩ := s
  have hmeta : (Value.type ((Manifest.find? "ValueError").elim "type" fun x => x.metatype) == Value.type "type") = true := by decide +kernel
  unfold raisedInstance
  repeat (first | refine wpAny_loadPart he ?_ | wp_step)
  exact h

theorem plain_unchain : plainId "proto.unchain" = true := by decide +kernel
theorem entry_unchain : entryFor table "proto.unchain" = some Builtin.«proto.unchain» := entryFor_of_fast (by kernel_rfl)
theorem raise_stmt_from {xv cv : Sem Value} {e1 : Addr} {o1 : Obj} {vs1 : Array Value} {Q : Flow → Shared → Prop} (hh : A.handled = some (.ref e1))
    (h : wpAny (model prog w) A xv (fun v s₁ => ∃ e t, v = .ref e ∧ s₁.heap.get? e = some (excObj t) ∧
      wpAny (model prog w) A cv (fun c s₂ => c = .none ∧ s₂ = s₁ ∧ s₁.heap.get? e1 = some o1 ∧ o1.data = .fields vs1 ∧ vs1[2]? = some .none ∧ e1 ≠ e ∧
        ∀ h', Heap.SameBut e s₁.heap h' → h'.get? e = some { cls := .type "ValueError", data := .fields #[.ref t, .none, .ref e1, .none, .bool true, .none] } → E (.ref e) { s₁ with heap := h' }) E s₁) E s) :
    wpAny (model prog w) A (raiseStmt env (some xv) (some cv)) Q E s := by
  unfold raiseStmt
  refine wpAny_bind (wpAny_mono h (fun v s₁ h₁ => ?_) fun _ _ x => x)
  obtain ⟨e, t, rfl, he, h₁⟩ := h₁
  refine wpAny_bind (wpAny_holding (wpAny_mono h₁ (fun c s₂ h₂ => wpAny_bind (wpAny_pure ?_)) fun _ _ x => x))
  obtain ⟨rfl, rfl, ho1, hd1, h21, hne, hE⟩ := h₂
  refine wpAny_bind (wpAny_holding (excFrom he ?_))
  dsimp only
  rw [if_pos (by decide)]
  refine wpAny_bind (wpAny_pure ?_)
  refine wpAny_bind (wpAny_setField he rfl (by simp) ?_)
  have g1 := Heap.get?_update_self (Obj.mapFields (·.setIfInBounds 3 Value.none)) he rfl
  refine wpAny_bind (wpAny_setField g1 rfl (by simp) ?_)
  have g2 := Heap.get?_update_self (Obj.mapFields (·.setIfInBounds 4 (Value.bool true))) g1 rfl
  have g2' : ((s₂.heap.update e (Obj.mapFields (·.setIfInBounds 3 Value.none))).update e (Obj.mapFields (·.setIfInBounds 4 (Value.bool true)))).get? e = some { cls := .type "ValueError", data := .fields #[.ref t, .none, .none, .none, .bool true, .none] } := g2
  refine wpAny_bind (isType_exc g2' ?_)
  simp only [Bool.false_eq_true, if_false]
  refine wpAny_bind (raisedInst g2' ?_)
  unfold setFlight
  refine wpAny_bind (wpAny_bind (wpAny_field g2' rfl (x := .none) rfl ?_))
  rw [if_neg (by decide)]
  refine wpAny_pure ?_
  unfold raiseNew
  refine wpAny_bind (wpAny_handled ?_)
  rw [hh]
  dsimp only
  rw [if_pos (by simpa using hne)]
  refine wpAny_bind (wpAny_holding (wpAny_runValue (codeAny_builtin entry_unchain ?_)))
  rw [Around.under_plainId plain_unchain _]
  have k1 : ((s₂.heap.update e (Obj.mapFields (·.setIfInBounds 3 Value.none))).update e (Obj.mapFields (·.setIfInBounds 4 (Value.bool true)))).get? e1 = some o1 :=
    (Heap.get?_update_other _ _ (Ne.symm hne)).trans ((Heap.get?_update_other _ _ (Ne.symm hne)).trans ho1)
  show wpAny _ _ (field (.ref e1) 2 >>= _) _ _ _
  refine wpAny_bind (wpAny_field k1 hd1 h21 ?_)
  rw [if_pos (by decide)]
  refine wpAny_bind (wpAny_pure (wpAny_pure ?_))
  show wpAny _ _ (updateField e 2 (.ref e1) >>= _) _ _ _
  unfold updateField
  refine wpAny_bind (wpAny_bind (wpAny_load g2' ?_))
  dsimp only
  rw [if_pos (by simp)]
  refine wpAny_update g2' (wpAny_throw ?_)
  refine hE _ (((Heap.SameBut.update ..).trans (Heap.SameBut.update ..)).trans (Heap.SameBut.update ..)) ?_
  rw [Heap.get?_update_self _ g2' rfl]
  rfl
end
end Mine

end

section
open PySem PySem.W PyProof.Rows PySem.Calls
set_option maxRecDepth 100000
namespace Mine

section
variable {w : World} {A : Around} {E : Value → Shared → Prop} {s : Shared}

theorem callFX {f : Addr} {oc : Value} {od : Option Addr} {osl : Array (Option Value)} {fd : FuncData} {body : List Stmt} {vals : List Value} {binds : List (Str × Value)} {d : Nat} {Q : Value → Shared → Prop}
    (W : Wd w s.heap) (R : Rm A (d + 1)) (e : (KF w).lookup f = some ⟨oc, od, .func fd, osl⟩)
    (hcd : codeIn (KF w) fd.code fd.qualname = true) (hbody : fd.body = .stmts body) (hbind : bindArgs fd ⟨vals, []⟩ = pure binds)
    (hkind : (binds.all fun y => fd.scope.names.lookup y.1 == some .local || fd.scope.names.lookup y.1 == some .cell) = true)
    (h : ∀ L s₁, L = s.heap.objs.size → Fm w s s.heap (envOfC fd.qualname fd.scope L f fd.code) (bindL (envOfC fd.qualname fd.scope L f fd.code).kindOf binds fun _ => none) (bindC (envOfC fd.qualname fd.scope L f fd.code).kindOf binds fun _ => none) s₁ →
      Rm (A.deeper (envOfC fd.qualname fd.scope L f fd.code)) d →
      wpAny (model PR w) (A.deeper (envOfC fd.qualname fd.scope L f fd.code)) (execs body (envOfC fd.qualname fd.scope L f fd.code)) (fun fl s' => Q (match fl with | .ret v => v | _ => .none) s')
        (fun e s' => wpAny (model PR w) (A.deeper (envOfC fd.qualname fd.scope L f fd.code)) (leaving (envOfC fd.qualname fd.scope L f fd.code) e) (fun _ s'' => E e s'') (fun e' s'' => E e' s'') s') s₁)
    (hclo : fd.closure = [] := by rfl) (hgl : fd.globals = mainGlobals := by rfl) (hbu : fd.builtins = builtinsNs := by rfl)
    (hco : fd.scope.isCoroutine = false := by rfl) (hgen : fd.scope.isGenerator = false := by rfl) (hk : fd.scope.kind = .function := by rfl)
    (hnd : ((cellsFrom 0 fd.scope.names []).map (·.1)).Nodup := by decide) :
    wpAny (model PR w) A (call (.ref f) vals) Q E s := by
  refine wpAny_call (codeAny_call_cells (by have := R.dp; omega) (W.X _ _ e) rfl W.nolimit (codeRec_of W.X hcd) hbody hbind hclo (kindsX hkind _) (fun s₁ x => ?_) hco hgen hk)
  have hL : s.heap.get? s.heap.objs.size = none := Heap.get?_none_of_le (Nat.le_refl _)
  have he := envOfC_eq fd s.heap.objs.size f hgl hbu
  rw [he] at x ⊢
  refine wpAny_mono (h _ s₁ rfl ⟨⟨x.toInCall.ns, x.cell, x.toInCall.keep, W, hk, rfl, rfl⟩, x.toInCall.same, Sub.refl _, hL, fun p hp => ?_, fun p hp => ?_, x.apart, fun p hp => ⟨_, x.cell p.1 p.2 (lookup_of_nodup ?_ p hp)⟩⟩ R.deeper) (fun _ _ q => q) fun _ _ q => q
  · exact Heap.get?_none_of_le (Nat.le_of_lt (x.above p.1 p.2 hp))
  · exact Nat.ne_of_gt (x.above p.1 p.2 hp)
  · show ((cellsFrom _ fd.scope.names []).map (·.1)).Nodup
    rw [cellsFrom_names _ _ 0 [] [] rfl]; exact hnd

/-- a built-in's name, where only the ground is known -/
theorem Wd.ldB {x : Str} {pos : Pos} {v : Value} {env : Env} {M : Model} {Q : Value → Shared → Prop} (W : Wd w s.heap) (e : nsIn (KF w) mainGlobals x = some none) (hv : bootBuiltins x = some v) (h : Q v s)
    (k : env.scope.kind = .function := by rfl) (gl : env.globals = mainGlobals := by rfl) (bu : env.builtins = builtinsNs := by rfl)
    (hn : x ≠ "__name__" := by decide) (hx : env.kindOf x = some .globalImplicit := by rfl) (hd : (x == ("__debug__" : Str)) = false := by decide) :
    wpAny M A (eval (.Name x pos) env) Q E s := by
  obtain ⟨p, l, mg, mb, T⟩ := W.T
  exact Name_function_global k hx (loadGlobal_builtin (by rw [gl]; exact T.g) (mg_none_of W.X T.g e) (by rw [bu]; exact T.b) ((T.builtins x hn).trans hv) h) hd
end

section
variable {M : Model} {A : Around} {E : Value → Shared → Prop} {s : Shared}

/-- what has been raised out of a call: the exception in flight, above the callers l -/
def Rz (s : Shared) (l : List Env) (msg : Str) (e : Value) (s' : Shared) : Prop :=
  ∃ a t u B h' tk, e = .ref a ∧ s' = { s with heap := h', toks := tk } ∧ (∀ b o, s.heap.get? b = some o → b ∉ frs l → B.get? b = some o) ∧ (∀ b ∈ frs l, B.get? b = none) ∧
    Heap.FlyingW B l a (.type "ValueError") (.ref t) h' ∧ B.TupAt t [.str msg u] ∧ s.heap.UpToSlots h'

theorem note_held {base : Heap} {env : Env} {outer : List Env} {L e : Addr} {oe : Obj} {vs : Array Value} {a0 : Value} {Q : Unit → Shared → Prop}
    (hfr : A.frames = some (env :: outer)) (hl : s.heap.FunFrames base (env :: outer)) (hf : env.frame = some L)
    (he : s.heap.get? e = some oe) (hkb : base.StaysIn s.heap) (hen : base.get? e = none) (hd : oe.data = .fields vs) (h1 : vs[1]? = some .none) (h0 : vs[0]? = some a0)
    (h : ∀ h', Heap.HeldW base (env :: outer) e oe.cls a0 L h' → s.heap.UpToSlots h' → Q () { s with heap := h' }) : wpAny M A (noteFrame (.ref e) env) Q E s := by
  unfold noteFrame
  simp only [hf]
  refine wpAny_bind (wpAny_field he hd h1 ?_)
  rw [if_neg (by decide)]
  exact wpAny_entryW hfr hl hf he hkb hen hd (Array.getElem?_eq_some_iff.mp h1).1 h0 fun h' ⟨x1, x2, x3, x4⟩ => h h' ⟨x1, hen, x2, x3⟩ x4

/-- marked in flight at a frame -/
theorem flight_on {base : Heap} {l : List Env} {L e : Addr} {cls a0 fl : Value} {Q : Unit → Shared → Prop}
    (hkb : base.StaysIn s.heap) (hen : base.get? e = none) (hl : s.heap.FunFrames base l) (ht : s.heap.TracedAtW base e cls a0 fl)
    (h : ∀ h', Heap.HeldW base l e cls a0 L h' → s.heap.UpToSlots h' → Q () { s with heap := h' }) : wpAny M A (setFlight (.ref e) (some L)) Q E s := by
  obtain ⟨oe, vs, T, oT, ts, he, hcls, hd, h1, hnT, hTe, hT, hdT, h3⟩ := ht
  have hsz3 : 3 < ts.size := (Array.getElem?_eq_some_iff.mp h3).1
  have other : ∀ b, b ≠ T → (s.heap.update T (Obj.mapFields (·.setIfInBounds 3 ((some L : Option Addr).elim Value.none fun f => rawInt f)))).get? b = s.heap.get? b :=
    fun b hb => Heap.get?_update_other _ _ (Ne.symm hb)
  have noRecord : ∀ b o, s.heap.get? b = some o → (∀ vs, o.data ≠ .fields vs) → b ≠ T := fun b o hb hnf q => by
    rw [q, hT] at hb; injection hb with hb; subst hb; exact hnf ts hdT
  unfold setFlight
  refine wpAny_bind (wpAny_field he hd h1 ?_)
  rw [if_pos (show (Value.ref T != Value.none) = true from by simp)]
  refine wpAny_setField hT hdT hsz3 (h _ ⟨fun b o hbo => (other b fun q => by rw [q, hnT] at hbo; cases hbo).trans (hkb b o hbo), hen,
    hl.of_keeps fun b o hb hnf => ⟨o, (other b (noRecord b o hb hnf)).trans hb, rfl⟩, ?_⟩ fun b o hb hnf => ⟨o.slots, (other b (noRecord b o hb hnf)).trans hb⟩)
  exact ⟨oe, vs, T, _, _, (other e (Ne.symm hTe)).trans he, hcls, hd, h1, hnT, hTe, Heap.get?_update_self _ hT (Obj.isFreed_of_fields (Obj.data_mapFields hdT _)), Obj.data_mapFields hdT _, by simp [hsz3]⟩

theorem field1 {base : Heap} {l : List Env} {L e : Addr} {cls a0 : Value} {Q : Value → Shared → Prop} (hh : Heap.HeldW base l e cls a0 L s.heap) (h : ∀ T, Q (.ref T) s) : wpAny M A (field (.ref e) 1) Q E s := by
  obtain ⟨_, _, _, oe, vs, T, oT, ts, he, hcls, hd, h1, _⟩ := hh
  exact wpAny_field he hd h1 (h T)

/-- it came back from a suite -/
theorem cameBack {base : Heap} {l : List Env} {L e : Addr} {cls a0 : Value} {env : Env} (hf : env.frame = some L) (hh : Heap.HeldW base l e cls a0 L s.heap)
    (h : ∀ h', Heap.HeldW base l e cls a0 L h' → s.heap.UpToSlots h' → E (.ref e) { s with heap := h' }) : cameBackBy M A env E (.ref e) s := by
  unfold cameBackBy
  refine wpAny_bind (field1 hh fun T => ?_)
  rw [if_neg (by simp), hf]
  exact flight_on hh.1 hh.2.1 hh.2.2.1 hh.2.2.2 h

theorem passes_on {base : Heap} {l : List Env} {L e : Addr} {cls a0 : Value} {env : Env} {α : Type} {what : String} {Q : α → Shared → Prop} (hf : env.frame = some L) (hh : Heap.HeldW base l e cls a0 L s.heap)
    (h : ∀ h', Heap.HeldW base l e cls a0 L h' → s.heap.UpToSlots h' → E (.ref e) { s with heap := h' }) : wpAny M A (PySem.passOn what (.ref e) env : Sem α) Q E s := by
  unfold PySem.passOn
  refine wpAny_bind (field1 hh fun T => ?_)
  rw [if_neg (by simp), hf]
  refine wpAny_bind (flight_on hh.1 hh.2.1 hh.2.2.1 hh.2.2.2 fun h' a b => wpAny_throw (h h' a b))

theorem leave_held {base : Heap} {env : Env} {outer : List Env} {L e : Addr} {cls a0 : Value} {Q : Unit → Shared → Prop} (hf : env.frame = some L)
    (hh : Heap.HeldW base (env :: outer) e cls a0 L s.heap) (hQ : ∀ h', Heap.FlyingW base outer e cls a0 h' → s.heap.UpToSlots h' → Q () { s with heap := h' }) : wpAny M A (leaving env (.ref e)) Q E s := by
  unfold leaving
  refine wpAny_bind (wpAny_noteFrame_againW hf hh.2.2.2 ?_)
  refine wpAny_landsW hh fun h' hfl up => ?_
  obtain ⟨k1, k2, ⟨_, _, k3⟩, k4⟩ := hfl
  exact hQ h' ⟨k1, k2, k3, k4⟩ up
end
end Mine

end

section
open PySem PySem.W PyProof.Rows PySem.Calls
set_option maxRecDepth 100000
namespace Mine

section
variable {M : Model} {A : Around} {E : Value → Shared → Prop} {s s₀ : Shared}

theorem frs_cons {env : Env} {l : List Env} {L : Addr} (hf : env.frame = some L) : frs (env :: l) = L :: frs l := by
  unfold frs; rw [List.filterMap_cons, hf]
theorem not_in {h : Heap} {b a : Addr} {o : Obj} (x : h.get? b = some o) (y : h.get? a = none) : b ≠ a := fun q => by rw [q, y] at x; cases x

theorem leave_made {env : Env} {lst : List Env} {L e : Addr} {h : Heap} {msg : Str} {u : Tok} {Q : Unit → Shared → Prop} (hfr : A.frames = some (env :: lst)) (hf : env.frame = some L) (hlive : Live h (env :: lst))
    (hsame : ∃ h tk, s = { s₀ with heap := h, toks := tk }) (hsub : Sub s₀.heap h) (hL : s₀.heap.get? L = none) (hx : Heap.MadeExc h s.heap e "ValueError" [.str msg u])
    (hQ : ∀ s', Rz s₀ lst msg (.ref e) s' → Q () s') : wpAny M A (leaving env (.ref e)) Q E s := by
  obtain ⟨t, he, htn, ht⟩ := hx.there
  have hlive' : Live s.heap (env :: lst) := hlive.sub hx.keeps
  have nofr : ∀ b, h.get? b = none → b ∉ frs (env :: lst) := fun b hb hm => by
    obtain ⟨o, ho, _⟩ := hlive.mem hm
    rw [hb] at ho; cases ho
  refine wpAny_leaving_firstW (base := hideAll s.heap (e :: frs (env :: lst))) (a0 := .ref t) hfr (hlive'.fun fun b hb => hideAll_none _ (.tail _ hb)) hf he (fun b o q => of_hideAll _ q) (hideAll_none _ (.head _)) rfl rfl rfl fun h' hL' => ?_
  obtain ⟨k1, ⟨_, _, k2⟩, k3, k4⟩ := hL'
  refine hQ _ ⟨e, t, u, _, h', s.toks, rfl, ?_, fun b o q hb => ?_, fun b hb => hideAll_none _ (.tail _ ?_), ⟨k1, hideAll_none _ (.head _), k2, k3⟩, ⟨_, _, hideAll_get _ ht ?_, rfl, rfl⟩, ?_⟩
  · obtain ⟨h1, tk1, rfl⟩ := hsame; rfl
  · refine hideAll_get _ (hx.keeps b o (hsub b o q)) fun hm => ?_
    rcases List.mem_cons.mp hm with rfl | hm
    · exact not_in (hsub _ _ q) hx.new rfl
    · rw [frs_cons hf] at hm
      rcases List.mem_cons.mp hm with rfl | hm
      · exact not_in q hL rfl
      · exact hb hm
  · rw [frs_cons hf]; exact .tail _ hb
  · intro hm
    rcases List.mem_cons.mp hm with rfl | hm
    · rw [he] at ht; injection ht with ht; exact absurd (show Value.type "ValueError" = Value.type "tuple" from congrArg Obj.cls ht) (by decide)
    · exact nofr t htn hm
  · exact (Heap.UpToSlots.of_keeps fun b o q => hx.keeps b o (hsub b o q)).trans k4
end

theorem Fm.live {w : World} {s₀ : Shared} {g : Heap} {env : Env} {m cm : Str → Option Value} {s : Shared} (F : Fm w s₀ g env m cm s) {lst : List Env} (hl : Live s₀.heap lst) (hf : env.frame = some env.locals) : Live s.heap (env :: lst) := fun e he => by
  rcases List.mem_cons.mp he with rfl | he
  · obtain ⟨o, es, n, ho, hd, _⟩ := F.toFx.ns
    exact ⟨by rw [F.toFx.k]; decide, _, o, hf, ho, fun vs q => by rw [hd] at q; cases q⟩
  · obtain ⟨a, L, o, b, c, d⟩ := hl e he
    exact ⟨a, L, o, b, F.toFx.keep _ _ (F.low _ _ c), d⟩

section
variable {w : World} {A : Around} {E : Value → Shared → Prop} {s : Shared}
set_option maxHeartbeats 2000000

theorem t127_empty (W : Wd w s.heap) (R : Rm A 9) {l : Addr} (hl : Txts s.heap l []) {lst : List Env} (hfr : A.frames = some lst) (hlive : Live s.heap lst) {Q : Value → Shared → Prop}
    (hE : ∀ e s', Rz s lst "commonpath() arg is an empty sequence" e s' → E e s') :
    wpAny (model PR w) A (call (.ref 127) [.ref l]) Q E s := by
  obtain ⟨items, hl, hS⟩ := hl
  have hitems : items.length = 0 := hS.len_eq
  refine callFX (f := 127) W R rfl rfl rfl rfl rfl (fun L s₁ hL F R => ?_)
  dsimp only at F R ⊢
  refine wpAny_execs_cons (wpAny_Assign_Name ?_)
  refine evCallM (fun Q' q => F.toFx.ldB rfl rfl q) ?_
  refine wpAny_items_cons ?_
  refine evCallM (fun Q' q => F.toFx.ldB rfl rfl q) ?_
  refine wpAny_items_cons (F.toFx.ldG rfl ?_)
  refine wpAny_items_cons (F.toFx.ldL (by rfl) ?_)
  refine wpAny_items_nil (wpAny_mono (tuple_paths (E := fun _ _ => False) F.toFx.wd (R.le (by omega)) (F.toFx.list hl) hS (by omega) ?_) (fun v s₂ h₂ => wpAny_items_nil (wpAny_any h₂)) fun _ _ e => e.elim)
  intro T s₂ K hT
  obtain ⟨g', hg, F, adv⟩ := (F.keeps K).adv
  have hT := tuple_of_adv adv hT
  refine F.stL (fun s₃ F => ?_)
  have hT₃ : IsTup s₃.heap T items.toArray := hT.at fun o e => F.toFx.keep _ o e
  refine wpAny_execs_cons (wpAny_If (wpAny_isTrue_Not (isTrue_plain (F.toFx.ldL (by rfl) (truthy_tuple hT₃ (by simp; omega) ?_)))))
  have he : (!(!items.toArray.isEmpty)) = true := by
    have : items = [] := List.eq_nil_of_length_eq_zero hitems
    subst this; rfl
  rw [he]
  show wpAny _ _ _ _ _ _
  have F := F.keeps (ktok s₃ (s₃.toks + 1 + 1))
  refine wpAny_execs_cons (Raise_madeB PySem.F.excCall_ValueError PySem.F.excRaise_ValueError R.hd (F.toFx.ldB rfl rfl ⟨rfl, ?_⟩))
  refine wpAny_items_cons (Constant_str (wpAny_items_nil ⟨by size_fits, fun h' e hx => ?_⟩))
  refine leave_made (s₀ := s) (Around.frames_deeper hfr) rfl ((F.keeps (ktok _ _)).live hlive rfl) ?_ (fun b o q => F.toFx.keep b o (F.low b o q)) ?_ hx (fun s' z => hE _ _ z)
  · obtain ⟨h₁, t₁, e₁⟩ := F.same
    exact ⟨h', _, by rw [e₁]⟩
  · rw [hL]; exact Heap.get?_none_of_le (Nat.le_refl _)
end
end Mine

end

section
open PySem PySem.W PyProof.Rows PySem.Calls
set_option maxRecDepth 100000
namespace Mine

section
variable {prog : Program} {w : World} {A : Around} {E : Value → Shared → Prop} {s : Shared} {env : Env}
set_option maxHeartbeats 1000000

theorem mkExc {x : Str} {np cpos : Pos} {e₀ : Expr} {rest : List Expr} {Q : Value → Shared → Prop}
    (h : wpAny (model prog w) A (eval (.Name x np) env) (fun f s₁ => f = .type "ValueError" ∧ wpAny (model prog w) A (spliced (backTo cpos (starEach (e₀ :: rest) env)))
      (fun vs s₂ => vs.length ≤ sizeLine ∧ ∀ h' e, Heap.MadeExc s₂.heap h' e "ValueError" vs → Q (.ref e) { s₂ with heap := h' }) E s₁) E s)
    (he : starEach (e₀ :: rest) env = (false, eval e₀ env) :: starEach rest env := by rfl) (hplain : (backTo cpos (starEach rest env)).any (·.1) = false := by rfl) :
    wpAny (model prog w) A (eval (.Call (.Name x np) (e₀ :: rest) [] cpos) env) Q E s := by
  refine wpAny_Call_ofName (wpAny_mono h (fun f s₁ h₁ => ?_) fun _ _ x => x)
  obtain ⟨rfl, h₁⟩ := h₁
  refine callWith_excType (by rw [he]; show (false || (backTo cpos (starEach rest env)).any (·.1)) = false; rw [hplain]; rfl) ?_
  rw [he] at h₁ ⊢
  refine Calls.evalArgs_plain (wpAny_mono h₁ (fun vs s₂ h₂ => ?_) fun _ _ x => x)
  obtain ⟨hlen, h₂⟩ := h₂
  obtain ⟨hp, g, d, tk, os⟩ := s₂
  exact wpAny_call_exc PySem.F.excCall_ValueError (hrest := hlen) fun h' e hm => h₂ h' e hm

theorem miss_tuple {e t : Addr} {oe : Obj} {ot : Obj} {n : Nat} {Q : Bool → Shared → Prop} (he : s.heap.get? e = some oe) (hc : oe.cls = .type "ValueError") (ht : s.heap.get? t = some ot) (hct : ot.cls = .type "tuple") (hdt : ot.data = .seq #[.type "TypeError", .type "AttributeError"] n)
    (h : Q false s) : wpAny (model prog w) A (excMatches (.ref e) (.ref t)) Q E s := by
  have h1 : isSubtype (.type "TypeError") (.type "BaseException") = pure true := by rw [isSubtype_type]; kernel_rfl
  have h2 : isSubtype (.type "AttributeError") (.type "BaseException") = pure true := by rw [isSubtype_type]; kernel_rfl
  have h3 : isSubtype (.type "ValueError") (.type "TypeError") = pure false := by rw [isSubtype_type]; kernel_rfl
  have h4 : isSubtype (.type "ValueError") (.type "AttributeError") = pure false := by rw [isSubtype_type]; kernel_rfl
  have h5 : isSubtype (.type "tuple") (.type "tuple") = pure true := sub_tuple_self
  have m1 : isSubtype (.type ((Manifest.find? "TypeError").elim "type" fun x => x.metatype)) (.type "tuple") = pure false := PySem.F.notTuple_TypeError
  unfold excMatches
  refine wpAny_bind (wpAny_isInstance (T := "tuple") (b := true) ⟨_, ht, hct⟩ h5 ?_)
  rw [if_pos rfl]
  refine wpAny_bind (m := seqItems? _) (wpAny_seqItems ht hdt ?_)
  refine wpAny_bind (wpAny_pure ?_)
  simp only [Option.getD_some, List.forIn_cons, List.forIn_nil]
  have x1 : ∀ (T : String) (Q' : Bool → Shared → Prop), isSubtype (.type T) (.type "BaseException") = pure true → Q' true s → wpAny (model prog w) A (isExcClass (.type T)) Q' E s := fun T Q' hs hq => by
    obtain ⟨hp, g, d, tk, os⟩ := s
    unfold isExcClass
    wp_walk
    exact hq
  refine wpAny_bind (wpAny_bind (wpAny_bind (x1 _ _ h1 ?_)))
  rw [if_neg (by decide)]
  refine wpAny_pure ?_
  dsimp only
  refine wpAny_bind (wpAny_bind (x1 _ _ h2 ?_))
  rw [if_neg (by decide)]
  refine wpAny_pure ?_
  dsimp only
  refine wpAny_pure ?_
  refine wpAny_bind (wpAny_typeOf (T := "ValueError") ⟨_, he, hc⟩ ?_)
  refine wpAny_bind (wpAny_bind (wpAny_bind (wpAny_of_eq h3 ?_)))
  rw [if_neg (by decide)]
  refine wpAny_pure ?_
  dsimp only
  refine wpAny_bind (wpAny_bind (wpAny_of_eq h4 ?_))
  rw [if_neg (by decide)]
  refine wpAny_pure ?_
  dsimp only
  refine wpAny_pure ?_
  exact wpAny_pure h
end
end Mine

end

section
open PySem PySem.W PyProof.Rows PySem.Calls
set_option maxRecDepth 100000
namespace Mine

theorem any_not_of {α : Type} {p : α → Bool} {l : List α} (h : (l.filter p).length ≠ l.length) : (l.any fun x => !p x) = true := by
  cases hf : (l.any fun x => !p x) with
  | true => rfl
  | false =>
  exfalso
  refine h ((filter_len_all p l).mpr fun x hx => ?_)
  have := List.any_eq_false.mp hf x hx
  simpa using this
theorem any_of_some {α : Type} {p : α → Bool} {l : List α} (h : (l.filter p).length ≠ 0) : l.any p = true := by
  cases hf : l.any p with
  | true => rfl
  | false =>
  exfalso
  refine h ?_
  rw [List.length_eq_zero_iff, List.filter_eq_nil_iff]
  intro x hx
  exact List.any_eq_false.mp hf x hx
theorem flying_push {B h : Heap} {l : List Env} {e : Addr} {cls a0 : Value} (x : Heap.FlyingW B l e cls a0 h) {h' : Heap} (k : Sub h h') : Heap.FlyingW B l e cls a0 h' := by
  obtain ⟨f1, f2, f3, oe, vs, T, oT, ts, he, hc, hd, h1, hn, hTe, hT, hdT, h3⟩ := x
  exact ⟨fun b o q => k _ _ (f1 b o q), f2, f3.of_keeps fun b o q _ => ⟨o, k _ _ q, rfl⟩, oe, vs, T, oT, ts, k _ _ he, hc, hd, h1, hn, hTe, k _ _ hT, hdT, h3⟩

section
variable {M : Model} {A : Around} {E : Value → Shared → Prop} {s s₀ : Shared}
theorem passes_off {base : Heap} {l : List Env} {L e : Addr} {cls a0 : Value} {env : Env} {α : Type} {what : String} {Q : α → Shared → Prop} (hf : env.frame = some L) (hh : Heap.FlyingW base l e cls a0 s.heap)
    (h : ∀ h', Heap.HeldW base l e cls a0 L h' → s.heap.UpToSlots h' → E (.ref e) { s with heap := h' }) : wpAny M A (PySem.passOn what (.ref e) env : Sem α) Q E s := by
  unfold PySem.passOn
  obtain ⟨f1, f2, f3, oe, vs, T, oT, ts, he, hc, hd, h1, r⟩ := hh
  refine wpAny_bind (wpAny_field he hd h1 ?_)
  rw [if_neg (by simp), hf]
  refine wpAny_bind (flight_on f1 f2 f3 ⟨oe, vs, T, oT, ts, he, hc, hd, h1, r⟩ fun h' a b => wpAny_throw (h h' a b))
end

section
variable {w : World} {A : Around} {E : Value → Shared → Prop} {s : Shared}
set_option maxHeartbeats 4000000

theorem mix_tail {s₀ : Shared} {env : Env} {lst : List Env} {L e₁ tb : Addr} {o₁ ob : Obj} {vs₁ ts : Array Value} {p1 p2 p3 p4 p5 p6 p7 q1 q2 q3 q4 : Pos} {n k k5 : Nat} {nm : Option Str} {msg : Str} {body : List Stmt} {Q Q' : Flow → Shared → Prop} {E' : Value → Shared → Prop}
    (hf : env.frame = some L) (hk : env.scope.kind = .function) (gl : env.globals = mainGlobals) (bu : env.builtins = builtinsNs)
    (k1 : env.kindOf "ValueError" = some .globalImplicit) (k2 : env.kindOf "TypeError" = some .globalImplicit) (k3 : env.kindOf "AttributeError" = some .globalImplicit)
    (hfr : A.frames = some (env :: lst)) (hsame : ∃ h tk, s = { s₀ with heap := h, toks := tk }) (hmv : ∀ b o, s₀.heap.get? b = some o → b ∉ frs lst → s.heap.get? b = some o) (hup : s₀.heap.UpToSlots s.heap) (hlive : Live s.heap (env :: lst))
    (he₁ : s.heap.get? e₁ = some o₁) (hc₁ : o₁.cls = .type "ValueError") (hd₁ : o₁.data = .fields vs₁) (h11 : vs₁[1]? = some (.ref tb)) (h12 : vs₁[2]? = some .none) (htb : s.heap.get? tb = some ob) (hdb : ob.data = .fields ts) (hsz : 3 < ts.size) (hne : tb ≠ e₁)
    (n1 : s₀.heap.get? e₁ = none) (n2 : s₀.heap.get? tb = none) (n3 : s₀.heap.get? L = none) (W₀ : Wd w (hideAll s₀.heap (frs lst)))
    (hE' : ∀ a t u B h' tk, (∀ b o, s₀.heap.get? b = some o → b ∉ frs lst → B.get? b = some o) → (∀ b ∈ frs (env :: lst), B.get? b = none) → Heap.HeldW B (env :: lst) a (.type "ValueError") (.ref t) L h' → B.TupAt t [.str msg u] → s₀.heap.UpToSlots h' →
      E' (.ref a) { s₀ with heap := h', toks := tk }) :
    wpAny (model PR w) A (handleBy (.ref e₁) env [.ExceptHandler (some (.Name "ValueError" p1)) none [.Raise (some (.Call (.Name "ValueError" p2) [.Constant (.str msg) k p3] [] p4)) (some (.Constant .none k5 p5)) p6] p7]) Q
      (fun e s₁ => wpAny (model PR w) A (noteFrame e env) (fun _ s₂ => wpAny (model PR w) A (setFlight e none) (fun _ s₃ =>
        wpAny (model PR w) A (handleBy e env [.ExceptHandler (some (.Tuple [.Name "TypeError" q1, .Name "AttributeError" q2] n q3)) nm body q4]) Q' E' s₃) E' s₂) E' s₁) s := by
  obtain ⟨hp, tk0, rfl⟩ := hsame
  dsimp only at hmv hup hlive he₁ htb
  have wd : ∀ {h : Heap}, (∀ b o, s₀.heap.get? b = some o → b ∉ frs lst → h.get? b = some o) → Wd w h := fun k => W₀.sub fun b o q => k b o (of_hideAll _ q) fun hm => by rw [hideAll_none _ hm] at q; cases q
  refine wpAny_handleBy_builtin (X := "ValueError") (T := "ValueError") (b := true) PySem.F.isExc_ValueError PySem.F.notTuple_ValueError (by rw [isSubtype_type]; kernel_rfl)
    ((wd hmv).ldB rfl rfl ⟨rfl, ⟨_, he₁, hc₁⟩, ?_⟩ hk gl bu (by decide) k1)
  show wpAny _ _ (setFlight _ _) _ _ _
  refine wpAny_setFlight_none he₁ hd₁ h11 htb hdb hsz ?_
  generalize hG : hp.update tb (Obj.mapFields (·.setIfInBounds 3 Value.none)) = h₄
  have oth : ∀ b o, b ≠ tb → hp.get? b = some o → h₄.get? b = some o := fun b o hb q => by rw [← hG, Heap.get?_update_other _ _ (Ne.symm hb)]; exact q
  have he₄ := oth e₁ _ (Ne.symm hne) he₁
  have hmv₄ : ∀ b o, s₀.heap.get? b = some o → b ∉ frs lst → h₄.get? b = some o := fun b o q hb => oth b o (not_in q n2) (hmv b o q hb)
  have norec : ∀ b o, hp.get? b = some o → (∀ vs, o.data ≠ .fields vs) → b ≠ tb := fun b o q hn z => by rw [z, htb] at q; cases q; exact hn _ hdb
  have hup₄ : s₀.heap.UpToSlots h₄ := fun b o q hn => let ⟨sl, z⟩ := hup b o q hn; ⟨sl, oth b _ (norec b _ z hn) z⟩
  have hlive₄ : Live h₄ (env :: lst) := fun e he => let ⟨a, L', o, b, c, d⟩ := hlive e he; ⟨a, L', o, b, oth _ _ (norec _ _ c d) c, d⟩
  refine wpAny_execs_cons ?_
  rw [arm_exec_Raise]
  refine wpAny_bind (wpAny_standAt ?_)
  show wpAny _ _ (raiseStmt env (some (do let v ← eval _ env; standAt p6; pure v)) (some (do let v ← eval _ env; standAt p6; pure v))) _ _ _
  refine raise_stmt_from (e1 := e₁) (o1 := o₁) (vs1 := vs₁) rfl (wpAny_bind (mkExc ((wd hmv₄).ldB rfl rfl ⟨rfl, ?_⟩ hk gl bu (by decide) k1)))
  refine wpAny_items_cons (Constant_str (wpAny_items_nil ⟨by size_fits, fun h₅ e₂ hm => wpAny_bind (wpAny_standAt (wpAny_pure ?_))⟩))
  obtain ⟨t, he₂, htn, ht⟩ := hm.there
  refine ⟨e₂, t, rfl, he₂, wpAny_bind (Constant_none (wpAny_bind (wpAny_standAt (wpAny_pure ?_))))⟩
  have hne₂ : e₁ ≠ e₂ := not_in he₄ hm.new
  refine ⟨rfl, rfl, hm.keeps _ _ he₄, hd₁, h12, hne₂, fun h₆ hs₆ he₆ => ?_⟩
  have up46 : ∀ b o, b ≠ e₂ → h₄.get? b = some o → h₆.get? b = some o := fun b o hb q => hs₆.extBut b o hb (hm.keeps b o q)
  have hlive₆ : Live h₆ (env :: lst) := fun e he => let ⟨a, L', o, b, c, d⟩ := hlive₄ e he; ⟨a, L', o, b, up46 _ _ (not_in c hm.new) c, d⟩
  have hB1 : ∀ b o, s₀.heap.get? b = some o → b ∉ frs lst → (hideAll h₆ (e₂ :: frs (env :: lst))).get? b = some o := fun b o q hb => by
    refine hideAll_get _ (up46 b o (not_in (hmv₄ b o q hb) hm.new) (hmv₄ b o q hb)) fun hmm => ?_
    rcases List.mem_cons.mp hmm with rfl | hmm
    · exact not_in (hmv₄ _ _ q hb) hm.new rfl
    · rw [frs_cons hf] at hmm
      rcases List.mem_cons.mp hmm with rfl | hmm
      · exact not_in q n3 rfl
      · exact hb hmm
  have hB3 : (hideAll h₆ (e₂ :: frs (env :: lst))).TupAt t [.str msg tk0] := by
    have hte : t ≠ e₂ := by
      intro q
      rw [q, he₂] at ht
      injection ht with ht
      exact absurd (show Value.type "ValueError" = Value.type "tuple" from congrArg Obj.cls ht) (by decide)
    refine ⟨_, _, hideAll_get _ (hs₆.extBut _ _ hte ht) fun hmm => ?_, rfl, rfl⟩
    rcases List.mem_cons.mp hmm with q | hmm
    · exact hte q
    · obtain ⟨o, ho, _⟩ := hlive₄.mem hmm
      rw [htn] at ho; cases ho
  have up6 : s₀.heap.UpToSlots h₆ := hup₄.trans ((Heap.UpToSlots.of_keeps hm.keeps).trans fun b o q hn => ⟨o.slots, hs₆.extBut b o (fun z => by rw [z, he₂] at q; cases q; exact hn _ rfl) q⟩)
  show wpAny _ _ (noteFrame (.ref e₂) env) _ _ _
  refine note_held (base := hideAll h₆ (e₂ :: frs (env :: lst))) (show (A.mark _).frames = _ from hfr) (hlive₆.fun fun b hb => hideAll_none _ (.tail _ hb)) hf he₆ (fun b o q => of_hideAll _ q) (hideAll_none _ (.head _)) rfl rfl rfl (fun h₇ held₇ up₇ => ?_)
  refine cameBack hf held₇ (fun h₈ held₈ up₈ => ?_)
  refine wpAny_noteFrame_againW hf held₈.2.2.2 ?_
  refine wpAny_landsW held₈ (fun h₉ fl₉ up₉ => ?_)
  have wd₉ : Wd w h₉ := wd fun b o q hb => fl₉.1 _ _ (hB1 b o q hb)
  obtain ⟨oe, hoe, hoc⟩ := fl₉.there
  refine wpAny_handleBy_cons (codeAny_handlers_test ?_) (by intro q; cases q)
  refine wpAny_Tuple (wpAny_items_cons (wd₉.ldB rfl rfl (wpAny_items_cons (wd₉.ldB rfl rfl (wpAny_items_nil ⟨by size_fits, ?_⟩) hk gl bu (by decide) k3)) hk gl bu (by decide) k2))
  refine miss_tuple (Heap.get?_push_of_some _ hoe) hoc (Heap.get?_push_size _ rfl) rfl rfl ?_
  show wpAny _ _ (handleBy _ env []) _ _ _
  refine wpAny_handleBy_nil (passes_off hf (flying_push fl₉ (Sub.push _ _)) (fun h₁₀ held₁₀ up₁₀ => ?_))
  exact hE' e₂ t tk0 _ h₁₀ _ hB1 (fun b hb => hideAll_none _ (.tail _ hb)) held₁₀ hB3 (up6.trans (up₇.trans (up₈.trans (up₉.trans ((Heap.UpToSlots.of_keeps (Sub.push _ _)).trans up₁₀)))))



theorem t127_mix (W : Wd w s.heap) (R : Rm A 9) {l : Addr} {xs : List Str} (hl : Txts s.heap l xs) (hlen : xs.length ≤ 100) (hsz : ∀ x ∈ xs, x.length ≤ 100) (hne : xs ≠ [])
    (hmix : (xs.filter absB).length ≠ 0 ∧ (xs.filter absB).length ≠ xs.length) {lst : List Env} (hfr : A.frames = some lst) (hlive : Live s.heap lst) (W₀ : Wd w (hideAll s.heap (frs lst))) {Q : Value → Shared → Prop}
    (hE : ∀ e s', Rz s lst "Can't mix absolute and relative paths" e s' → E e s') :
    wpAny (model PR w) A (call (.ref 127) [.ref l]) Q E s := by
  obtain ⟨items, hl, hS⟩ := hl
  have hitems : items.length = xs.length := hS.len_eq
  have hs0 := Heap.get?_none_of_le (Nat.le_refl s.heap.objs.size)
  refine callFX (f := 127) W R rfl rfl rfl rfl rfl (fun L s₁ hL F R => ?_)
  dsimp only at F R ⊢
  rw [← hL] at hs0
  -- paths = tuple(map(fspath, paths))
  refine wpAny_execs_cons (wpAny_Assign_Name ?_)
  refine evCallM (fun Q' q => F.toFx.ldB rfl rfl q) ?_
  refine wpAny_items_cons ?_
  refine evCallM (fun Q' q => F.toFx.ldB rfl rfl q) ?_
  refine wpAny_items_cons (F.toFx.ldG rfl ?_)
  refine wpAny_items_cons (F.toFx.ldL (by rfl) ?_)
  refine wpAny_items_nil (wpAny_mono (tuple_paths (E := fun _ _ => False) F.toFx.wd (R.le (by omega)) (F.toFx.list hl) hS (by omega) ?_) (fun v s₂ h₂ => wpAny_items_nil (wpAny_any h₂)) fun _ _ e => e.elim)
  intro T s₂ K hT
  obtain ⟨g', hg, F, adv⟩ := (F.keeps K).adv
  have hT := tuple_of_adv adv hT
  refine F.stL (fun s₃ F => ?_)
  have hT₃ : IsTup s₃.heap T items.toArray := hT.at fun o e => F.toFx.keep _ o e
  have hpos : 0 < items.length := by rw [hitems]; exact List.length_pos_iff.mpr hne
  refine wpAny_execs_cons (wpAny_If (wpAny_isTrue_Not (isTrue_plain (F.toFx.ldL (by rfl) (truthy_tuple hT₃ (by simp; omega) ?_)))))
  have he : (!(!items.toArray.isEmpty)) = false := by
    cases items with
    | nil => simp at hpos
    | cons a b => rfl
  rw [he]
  show wpAny _ _ _ _ _ _
  refine wpAny_execs_nil ?_
  have F := F.keeps (ktok s₃ (s₃.toks + 1 + 1))
  obtain ⟨x0, t0, vs0, ys0, rfl, rfl⟩ := strs_ne hS hpos
  refine wpAny_execs_cons (wpAny_If (isTrue_plain ?_))
  refine evCallM (fun Q' q => F.toFx.ldB rfl rfl q) ?_
  refine wpAny_items_cons (Subscript_ (F.toFx.ldL (by rfl) (wpAny_Constant_int ?_)))
  refine item_tupleT (x := .str x0 t0) (j := 0) hT₃ (by decide) (by decide) (by simp [seqIndex?]) rfl ?_
  refine wpAny_items_cons (F.toFx.ldB rfl rfl ?_)
  refine wpAny_items_nil ?_
  refine IsiPair.str_bytes (wpAny_truthy_bool ?_)
  show wpAny _ _ _ _ _ _
  refine wpAny_execs_cons (wpAny_Assign_Name (Constant_str ?_))
  refine (F.keeps (kmk _ _ (Sub.refl _))).stC (by rfl) (fun s₄ F => ?_)
  refine wpAny_execs_cons (wpAny_Assign_Name (Constant_str ?_))
  refine (F.keeps (ktok _ _)).stC (by rfl) (fun s₅ F => ?_)
  refine wpAny_execs_nil ?_
  show wpAny _ _ _ _ _ _
  refine wpAny_execs_cons (wpAny_Try_except ?_)
  refine wpAny_execs_cons (F.acompT (cl := [("sep", L + 1)]) R.hd (fun v => Txt.split (strOf v) "/") (by rfl) (by rfl) (sub_cells1 (by rfl)) (by rfl) ?_)
  refine F.toFx.ldL (by rfl) ⟨krefl _, T, _, rfl, hT.at fun o e => F.toFx.keep _ o e, by omega, ?_, ?_⟩
  · intro C v s₆ m₆ hv hm F₆ E'
    obtain ⟨p, t, rfl, hp⟩ := strs_mem hS hv
    refine evMethS PySem.F.slot_str_split PySem.F.type_str_split (F₆.ldL hm ⟨_, _, rfl, ?_⟩)
    refine wpAny_items_cons (F₆.ldC (by rfl) ((if_neg (by decide)).trans (if_pos rfl)) (wpAny_items_nil ?_))
    exact split_new (by have := hsz p hp; omega) (fun D s₇ vs K hf hl hS => ⟨D, rfl, hf, ⟨vs, hl, hS⟩, K⟩)
  intro D₁ s₆ ys₁ F hD₁ hr₁
  refine wpAny_execs_cons (wpAny_Try_except ?_)
  refine wpAny_execs_cons (wpAny_Assign_stores ?_ (by rfl) (by rfl))
  refine F.toFx.scompT (cl := [("sep", L + 1)]) R.hd absV (by rfl) (sub_cells1 (by rfl)) (by rfl) ?_
  refine F.toFx.ldL (by rfl) ⟨krefl _, T, _, rfl, hT.at fun o e => F.toFx.keep _ o e, ?_, ?_⟩
  · intro C v s₇ m₇ hv hm F₇ E'
    obtain ⟨p, t, rfl, hp⟩ := strs_mem hS hv
    refine evMethS PySem.F.slot_str_startswith PySem.F.type_str_startswith (F₇.ldL hm ⟨_, _, rfl, ?_⟩)
    refine wpAny_items_cons (F₇.ldC (by rfl) ((if_neg (by decide)).trans (if_pos rfl)) (wpAny_items_nil ?_))
    exact SC.startswith ⟨rfl, krefl _⟩
  intro D₂ s₇ K₇ hD₂
  rw [strs_any (f := fun v => !absV v) (k := fun x => !absB x) (fun _ _ => rfl) hS, strs_any (f := absV) (k := absB) (fun _ _ => rfl) hS, any_not_of hmix.2, any_of_some hmix.1] at hD₂
  have F := F.keeps K₇
  show wpAny _ _ (assign (.Tuple [.Name "isabs" _] 0 _) _ (.ref D₂)) _ _ _
  rw [arm_assign_Tuple]
  refine wpAny_bind (wpAny_standAt ?_)
  unfold unpack
  refine wpAny_bind (wpAny_holding ?_)
  show wpAny _ _ (unpackItems (.ref D₂) 1 none) _ _ _
  refine unpack_b R.hd hD₂ (.inl rfl) (fun h => by cases h) (fun _ _ hA tkA e₁ kA he₁0 hx₁ => ?_)
  obtain ⟨_, _, hx₁⟩ := hx₁
  obtain ⟨o₁, t₁, ho₁, hc₁, hd₁⟩ := hx₁.there
  have FA := F.keeps (kmk s₇ tkA kA)
  have low : Sub s.heap hA := fun b o q => FA.toFx.keep b o (FA.low b o q)
  have liveA := FA.live hlive rfl
  refine note_new (Around.frames_deeper hfr) liveA rfl ho₁ hd₁ rfl (fun h₂ tb ots ts mv htb htbe ho₂ htb₂ hts h3 => ?_)
  have hd₂ := Obj.data_mapFields hd₁ (·.setIfInBounds 1 (Value.ref tb))
  have hsz3 : 3 < ts.size := (Array.getElem?_eq_some_iff.mp h3).1
  refine wpAny_setFlight_none ho₂ hd₂ (by simp) htb₂ hts hsz3 ?_
  generalize hH3 : h₂.update tb (Obj.mapFields (·.setIfInBounds 3 Value.none)) = h₃
  have hu : ∀ b o, b ≠ tb → h₂.get? b = some o → h₃.get? b = some o := fun b o hb q => by rw [← hH3, Heap.get?_update_other _ _ (Ne.symm hb)]; exact q
  have ntb : s.heap.get? tb = none := by
    cases q : s.heap.get? tb with
    | none => rfl
    | some o => have := low _ _ q; rw [htb] at this; cases this
  have ne₁ : s.heap.get? e₁ = none := by
    cases q : s.heap.get? e₁ with
    | none => rfl
    | some o => have := F.toFx.keep _ _ (F.low _ _ q); rw [he₁0] at this; cases this
  have hmv3 : ∀ b o, s.heap.get? b = some o → b ∉ frs lst → h₃.get? b = some o := fun b o q hb =>
    hu b o (not_in q ntb) (mv.keep b o (by
      rw [frs_cons (L := L) rfl]
      intro hm
      rcases List.mem_cons.mp hm with rfl | hm
      · exact not_in q hs0 rfl
      · exact hb hm) (by intro hm; rw [List.mem_singleton] at hm; exact not_in q ne₁ hm) (low b o q))
  have hlive3 : Live h₃ (_ :: lst) := fun e he => by
    obtain ⟨a, L', o, b, c, d⟩ := (liveA.mv mv) e he
    exact ⟨a, L', o, b, hu _ _ (fun q => by rw [q, htb₂] at c; cases c; exact d _ hts) c, d⟩
  have hup3 : s.heap.UpToSlots h₃ := fun b o q hn => by
    by_cases hb : b ∈ frs lst
    · obtain ⟨sl, z⟩ := mv.slot b o (by rw [frs_cons (L := L) rfl]; exact .tail _ hb) (low b o q)
      exact ⟨sl, hu b _ (not_in q ntb) z⟩
    · exact ⟨o.slots, hmv3 b o q hb⟩
  refine mix_tail (s₀ := s) (L := L) (e₁ := e₁) (tb := tb) rfl rfl rfl rfl rfl rfl rfl (Around.frames_deeper hfr) ?_ hmv3 hup3 hlive3 (hu _ _ (Ne.symm htbe) ho₂) ((Obj.cls_mapFields ..).trans hc₁) hd₂ (by simp) (by simp) (by rw [← hH3]; exact Heap.get?_update_self _ htb₂ (Obj.isFreed_of_fields (Obj.data_mapFields hts _))) (Obj.data_mapFields hts _) (by simpa using hsz3) htbe ne₁ ntb hs0 W₀ ?_
  · obtain ⟨h₀, t₀, e₀⟩ := F.same
    exact ⟨h₃, tkA, by rw [e₀]⟩
  · intro a t u B h' tk b1 b2 held tup up
    show wpAny _ _ (leaving _ _) _ _ _
    refine leave_held rfl held (fun h'' fl up' => hE _ _ ⟨a, t, u, B, h'', tk, rfl, rfl, b1, fun b hb => b2 b (by rw [frs_cons (L := L) rfl]; exact .tail _ hb), fl, tup, up.trans up'⟩)
end
end Mine

end

section
open PySem PySem.W PyProof.Rows PySem.Calls
set_option maxRecDepth 100000
namespace Mine

/-- all stays, but the slots of the callers' frames -/
structure KeepsF (l : List Env) (s s' : Shared) : Prop where
  same : ∃ h tk, s' = { s with heap := h, toks := tk }
  keep : ∀ b o, s.heap.get? b = some o → b ∉ frs l → s'.heap.get? b = some o
  up : s.heap.UpToSlots s'.heap
theorem KeepsF.of {l : List Env} {s s' : Shared} (k : Keeps s s') : KeepsF l s s' := by
  refine ⟨?_, fun b o q _ => ksub k b o q, Heap.UpToSlots.of_keeps (ksub k)⟩
  obtain ⟨h, t, e, _⟩ := k; exact ⟨h, t, e⟩

section
variable {w : World} {A : Around} {E : Value → Shared → Prop} {s s₀ s₁ : Shared}
set_option maxHeartbeats 4000000

theorem refuse_tail {env : Env} {lst : List Env} {m : Str → Option Value} {e : Value} {p1 p2 p3 p4 p5 p6 p7 p8 : Pos} {k : Nat} {msg : Str} {Q : Flow → Shared → Prop}
    (hf : env.frame = some env.locals) (hk : env.scope.kind = .function) (gl : env.globals = mainGlobals) (bu : env.builtins = builtinsNs)
    (k1 : env.kindOf "ValueError" = some .globalImplicit) (k2 : env.kindOf "str" = some .globalImplicit) (k3 : env.kindOf "error" = some .local)
    (hfr : A.frames = some (env :: lst)) (hun : A.units + 2 < cLine) (hmsg : msg.length ≤ 100) (hsame : ∃ h tk, s₁ = { s₀ with heap := h, toks := tk }) (hsub : Sub s₀.heap s₁.heap) (hns : s₁.heap.Ns env.locals m)
    (n3 : s₀.heap.get? env.locals = none) (W₀ : Wd w (hideAll s₀.heap (frs lst))) (hz : Rz s₁ (env :: lst) msg e s) (hQ : ∀ t s', KeepsF lst s₀ s' → Q (.ret (.str ("refused: " ++ msg) t)) s') :
    wpAny (model PR w) A (noteFrame e env) (fun _ s₂ => wpAny (model PR w) A (setFlight e none) (fun _ s₃ =>
      wpAny (model PR w) A (handleBy e env [.ExceptHandler (some (.Name "ValueError" p1)) (some "error") [.Return (some (.BinOp (.Constant (.str "refused: ") k p2) .Add (.Call (.Name "str" p3) [.Name "error" p4] [] p5) p6)) p7] p8]) Q E s₃) E s₂) E s := by
  obtain ⟨a, t, u, B, h', tk, rfl, rfl, b1, b2, fl, tup, up⟩ := hz
  obtain ⟨h₁, t₁, rfl⟩ := hsame
  dsimp only at b1 up hsub hns
  have B1 : ∀ b o, s₀.heap.get? b = some o → b ∉ frs lst → B.get? b = some o := fun b o q hb => b1 b o (hsub b o q) fun hm => by
    rw [frs_cons hf] at hm
    rcases List.mem_cons.mp hm with rfl | hm
    · exact not_in q n3 rfl
    · exact hb hm
  have BL : B.get? env.locals = none := b2 _ (by rw [frs_cons hf]; exact .head _)
  have wd : ∀ {h : Heap}, (∀ b o, B.get? b = some o → h.get? b = some o) → Wd w h := fun k => W₀.sub fun b o q => k b o (B1 b o (of_hideAll _ q) fun hm => by rw [hideAll_none _ hm] at q; cases q)
  have hp : (env.scope.kind == .class || (env.scope.kind == .module && env.locals != env.globals)) = false := by rw [hk]; rfl
  refine wpAny_looks_onW hfr hf fl fun h₂ held₂ up₂ => ?_
  refine wpAny_landsW held₂ fun h₃ fl₃ up₃ => ?_
  refine wpAny_handleBy_builtin_as (X := "ValueError") (T := "ValueError") (b := true) PySem.F.isExc_ValueError PySem.F.notTuple_ValueError (by rw [isSubtype_type]; kernel_rfl)
    ((wd fl₃.1).ldB rfl rfl ⟨rfl, fl₃.there, ?_⟩ hk gl bu (by decide) k1)
  show wpAny _ _ (setFlight _ _) _ _ _
  refine lands_againW fl₃ fun h₄ fl₄ up₄ => ?_
  have hns₄ : h₄.Ns env.locals m := (up.trans (up₂.trans (up₃.trans up₄))).ns hns
  refine wpAny_storeName_local k3 hns₄ (fun h₅ hn₅ hs₅ => ?_) hp
  have B5 : ∀ b o, B.get? b = some o → h₅.get? b = some o := fun b o q => hs₅.extBut b o (not_in q BL) (fl₄.1 b o q)
  have Lne : a ≠ env.locals := by
    rintro rfl
    obtain ⟨oe, vs, T, oT, ts, he, _, hd, _⟩ := fl₄.2.2.2
    obtain ⟨o, es, n, ho, hdd, _⟩ := hns₄
    rw [he] at ho; cases ho; rw [hd] at hdd; cases hdd
  have ex₅ : h₅.ExcAt a "ValueError" (.ref t) := by
    obtain ⟨oe, vs, T, oT, ts, he, ⟨hc, h0⟩, hd, _⟩ := fl₄.2.2.2
    exact ⟨oe, vs, hs₅.extBut _ _ Lne he, hc, hd, h0⟩
  have tup₅ : h₅.TupAt t [.str msg u] := tup.keeps B5
  refine wpAny_execs_cons (wpAny_Return_some (wpAny_BinOp (Constant_str ?_)))
  refine evCallM (fun Q' q => (wd B5).ldB rfl rfl q hk gl bu (by decide) k2) ?_
  refine wpAny_items_cons (wpAny_Name (wpAny_loadName_local hk k3 hn₅ (if_pos rfl) (wpAny_items_nil ?_)) (by decide))
  show wpAny _ _ (call (.type "str") [.ref a]) _ _ _
  refine PySem.P.str_of_exc_one (t0 := t) (m := msg) (tk := u) PySem.F.excStr_ValueError (show (A.mark (some (.ref a))).units + 2 < cLine from hun) ?_ ?_ ?_
  · exact ex₅
  · exact tup₅
  have hr : ("refused: " : Str).length = 9 := by decide
  refine add_str (fun t' tk' => ?_) (by rw [hr, sizeLine_eq]; omega)
  refine wpAny_nameGoes k3 hn₅ hp (fun h₆ m₆ hn₆ hs₆ => hQ _ _ ⟨⟨h₆, _, rfl⟩, fun b o q hb => ?_, ?_⟩)
  · exact hs₆.extBut b o (not_in q n3) (B5 b o (B1 b o q hb))
  · have u1 : s₀.heap.UpToSlots h₄ := (Heap.UpToSlots.of_keeps hsub).trans (up.trans (up₂.trans (up₃.trans up₄)))
    intro b o q hn
    obtain ⟨sl, z⟩ := u1 b o q hn
    exact ⟨sl, hs₆.extBut b _ (not_in q n3) (hs₅.extBut b _ (not_in q n3) z)⟩

theorem t149 (W : Wd w s.heap) (R : Rm A 11) {l : Addr} {xs : List Str} (hl : Txts s.heap l xs) (hlen : xs.length ≤ 100) (hsz : ∀ x ∈ xs, x.length ≤ 100)
    {lst : List Env} (hfr : A.frames = some lst) (hlive : Live s.heap lst) (W₀ : Wd w (hideAll s.heap (frs lst))) {Q : Value → Shared → Prop}
    (hQ : ∀ v t s', KeepsF lst s s' → DueIs xs v → Q (.str v t) s') :
    wpAny (model PR w) A (call (.ref 149) [.ref l]) Q E s := by
  have hs0 := Heap.get?_none_of_le (Nat.le_refl s.heap.objs.size)
  refine callF (f := 149) W R rfl rfl rfl rfl rfl (fun L s₁ hL F R => ?_)
  dsimp only at F R ⊢
  rw [← hL] at hs0
  have hl₁ : Txts s₁.heap l xs := hl.sub fun b o q => F.toFx.keep b o (F.low b o q)
  by_cases hok : xs ≠ [] ∧ ((xs.filter absB).length = 0 ∨ (xs.filter absB).length = xs.length)
  · refine wpAny_execs_cons (wpAny_Try_except (wpAny_any (wpAny_execs_cons (wpAny_Return_some ?_))))
    refine evCallF (K := KF w) (by rfl) (fun Q' q => F.toFx.ldG rfl q) ?_
    refine wpAny_items_cons (F.toFx.ldL (by rfl) (wpAny_items_nil ⟨F.toFx.wd.X, ?_⟩))
    exact t127_ok F.toFx.wd (R.le (by omega)) hl₁ hlen hsz hok.1 hok.2 (fun v t s₂ K hd => hQ v t s₂ (.of (F.keeps K).done) hd)
  -- refused
  have live₁ := F.live hlive rfl
  have W₁ : Wd w (hideAll s₁.heap (frs (envFm F :: lst))) := W₀.sub fun b o q => hideAll_get _ (F.toFx.keep b o (F.low b o (of_hideAll _ q))) fun hm => by
    rw [frs_cons (L := L) rfl] at hm
    rcases List.mem_cons.mp hm with rfl | hm
    · exact not_in (of_hideAll _ q) hs0 rfl
    · rw [hideAll_none _ hm] at q; cases q
  refine wpAny_execs_cons (wpAny_Try_except (wpAny_execs_cons (wpAny_Return_some ?_)))
  refine evCallF (K := KF w) (by rfl) (fun Q' q => F.toFx.ldG rfl q) ?_
  refine wpAny_items_cons (F.toFx.ldL (by rfl) (wpAny_items_nil ⟨F.toFx.wd.X, ?_⟩))
  by_cases hnil : xs = []
  · subst hnil
    refine t127_empty F.toFx.wd (R.le (by omega)) hl₁ (Around.frames_deeper hfr) live₁ (fun e s' z => ?_)
    exact refuse_tail rfl rfl rfl rfl rfl rfl rfl (Around.frames_deeper hfr) (by have := R.un; omega) (by decide) F.same (fun b o q => F.toFx.keep b o (F.low b o q)) F.toFx.ns hs0 W₀ z (fun t s' K => hQ _ t s' K (.inl ⟨rfl, by decide +kernel⟩))
  · have hmix : (xs.filter absB).length ≠ 0 ∧ (xs.filter absB).length ≠ xs.length := by
      constructor
      · intro h; exact hok ⟨hnil, .inl h⟩
      · intro h; exact hok ⟨hnil, .inr h⟩
    refine t127_mix F.toFx.wd (R.le (by omega)) hl₁ hlen hsz hnil hmix (Around.frames_deeper hfr) live₁ W₁ (fun e s' z => ?_)
    exact refuse_tail rfl rfl rfl rfl rfl rfl rfl (Around.frames_deeper hfr) (by have := R.un; omega) (by decide) F.same (fun b o q => F.toFx.keep b o (F.low b o q)) F.toFx.ns hs0 W₀ z (fun t s' K => hQ _ t s' K (.inr (.inl ⟨hnil, hmix, by decide +kernel⟩)))
end
end Mine

end

section
open PySem PySem.W PyProof.Rows PySem.Calls
set_option maxRecDepth 100000
namespace Mine

theorem join_cons2 (x y : Str) (r : List Str) : Str.join "/" (x :: y :: r) = x ++ "/" ++ Str.join "/" (y :: r) := rfl
theorem slash_len : ("/" : Str).length = 1 := by decide
theorem join_less : ∀ (l : List Str) (k : Nat), k < l.length → (∀ p ∈ l, 0 < p.length) → (Str.join "/" (l.take k)).length < (Str.join "/" l).length
  | [], _, h, _ => by cases h
  | [x], 0, _, hp => by
    show (Str.join "/" []).length < x.length
    exact hp x (.head _)
  | [x], k + 1, h, _ => by simp at h
  | x :: y :: r, 0, _, hp => by
    rw [join_cons2, strLen_append, strLen_append]
    have := hp x (.head _)
    show (Str.join "/" []).length < _
    have e : (Str.join "/" []).length = 0 := rfl
    omega
  | x :: y :: r, 1, _, hp => by
    rw [join_cons2, strLen_append, strLen_append]
    show (Str.join "/" [x]).length < _
    have e : (Str.join "/" [x]).length = x.length := rfl
    rw [slash_len]; omega
  | x :: y :: r, k + 2, h, hp => by
    have ih := join_less (y :: r) (k + 1) (by simpa using h) fun p hm => hp p (.tail _ hm)
    rw [List.take_succ_cons, List.take_succ_cons] at *
    rw [join_cons2, join_cons2, strLen_append, strLen_append, strLen_append, strLen_append]
    omega

theorem piece_pos {x p : Str} (h : p ∈ pieces x) : 0 < p.length := by
  have h1 := (List.mem_filter.mp h).2
  have h2 := len_bne p
  cases q : p == "" with
  | true => rw [q] at h1; simp at h1
  | false =>
    rw [q] at h2
    have h3 : ((p.length : Int) != 0) = true := h2
    have h4 := bne_iff_ne.mp h3
    omega

theorem agree_uniq {rss : List (List Str)} {r0 : List Str} {k k' : Nat} (a : MaxAgree rss r0 k) (b : MaxAgree rss r0 k') : k = k' := by
  have one : ∀ {k k' : Nat}, MaxAgree rss r0 k → MaxAgree rss r0 k' → ¬ k < k' := fun {k k'} a b hlt => by
    obtain ⟨r, hr, hn⟩ := a.2.2 (Nat.lt_of_lt_of_le hlt b.1)
    refine hn ?_
    have e := congrArg (List.take (k + 1)) (b.2.1 r hr)
    rw [List.take_take, List.take_take, Nat.min_eq_left hlt] at e
    exact e
  have h1 := one a b
  have h2 := one b a
  omega
theorem due_uniq {xs : List Str} {v v' : Str} (a : DueIs xs v) (b : DueIs xs v') : v = v' := by
  rcases a with ⟨h1, rfl⟩ | ⟨h1, h2, rfl⟩ | ⟨x, rest, k, rfl, h2, h3, rfl⟩
  · rcases b with ⟨_, rfl⟩ | ⟨g1, _, _⟩ | ⟨x, rest, k, g1, _⟩
    · rfl
    · exact absurd h1 g1
    · rw [h1] at g1; cases g1
  · rcases b with ⟨g1, _⟩ | ⟨_, _, rfl⟩ | ⟨x, rest, k, g1, g2, _⟩
    · exact absurd g1 h1
    · rfl
    · rcases g2 with g2 | g2
      · exact absurd g2 h2.1
      · exact absurd g2 h2.2
  · rcases b with ⟨g1, _⟩ | ⟨_, g2, _⟩ | ⟨x', rest', k', g1, g2, g3, rfl⟩
    · cases g1
    · rcases h2 with h2 | h2
      · exact absurd h2 g2.1
      · exact absurd h2 g2.2
    · injection g1 with e1 e2
      subst e1 e2
      rw [agree_uniq h3 g3]

theorem app_left {p a b : Str} (h : p ++ a = p ++ b) : a.length = b.length := by
  have := congrArg Str.length h
  rw [strLen_append, strLen_append] at this
  omega

theorem alike_iff {f x : Str} (hab : absB f = absB x) {v1 v2 : Str} (a : DueIs [f, x] v1) (b : DueIs [f] v2) : (v1 = v2) ↔ ((pieces x).take (pieces f).length = pieces f) := by
  have hm2 : ¬ (([f, x].filter absB).length ≠ 0 ∧ ([f, x].filter absB).length ≠ [f, x].length) := by
    rw [List.filter_cons, List.filter_cons, ← hab]
    cases absB f <;> simp
  have hm1 : ¬ (([f].filter absB).length ≠ 0 ∧ ([f].filter absB).length ≠ [f].length) := by
    rw [List.filter_cons]
    cases absB f <;> simp
  rcases a with ⟨h1, _⟩ | ⟨_, h2, _⟩ | ⟨x1, rest, k, e1, _, h3, rfl⟩
  · cases h1
  · exact absurd h2 hm2
  injection e1 with e1 e2
  subst e1 e2
  rcases b with ⟨h1, _⟩ | ⟨_, h2, _⟩ | ⟨x2, rest, k2, e1, _, g3, rfl⟩
  · cases h1
  · exact absurd h2 hm1
  injection e1 with e1 e2
  subst e1 e2
  have hk2 : k2 = (pieces f).length := by
    apply Classical.byContradiction
    intro hn
    obtain ⟨r, hr, hne⟩ := g3.2.2 (Nat.lt_of_le_of_ne g3.1 hn)
    rw [List.map_cons, List.map_nil, List.mem_singleton] at hr
    exact hne (by rw [hr])
  rw [hk2, List.take_length]
  constructor
  · intro he
    have hk : k = (pieces f).length := by
      apply Classical.byContradiction
      intro hn
      have hlt := Nat.lt_of_le_of_ne h3.1 hn
      have := join_less (pieces f) k hlt fun p hp => piece_pos hp
      have h := app_left he
      omega
    have := h3.2.1 (pieces x) (by simp)
    rw [hk, List.take_length] at this
    exact this
  · intro he
    have hk : k = (pieces f).length := by
      apply Classical.byContradiction
      intro hn
      have hlt := Nat.lt_of_le_of_ne h3.1 hn
      obtain ⟨r, hr, hne⟩ := h3.2.2 hlt
      rw [List.map_cons, List.map_cons, List.map_nil, List.mem_cons, List.mem_singleton] at hr
      rcases hr with rfl | rfl
      · exact hne rfl
      · refine hne ?_
        have e := congrArg (List.take (k + 1)) he
        rw [List.take_take, Nat.min_eq_left hlt] at e
        exact e
    rw [hk, List.take_length]
end Mine

end

section
open PySem PySem.W PyProof.Rows PySem.Calls
set_option maxRecDepth 100000
namespace Mine

section
variable {w : World} {A : Around} {E : Value → Shared → Prop} {s : Shared}
set_option maxHeartbeats 4000000

theorem t28b (W : Wd w s.heap) (R : Rm A 20) {l : Addr} {xs : List Str} {pv : Value} {p : Str → Bool} {d : Nat} (hd : d ≤ 19) (hl : Txts s.heap l xs) (hx : xs.length ≤ 1000) (hp : PredOn w s.heap d pv p xs) {Q : Value → Shared → Prop}
    (hQ : ∀ T Y N s', Keeps s s' → s'.heap.IsTuple T #[.ref Y, .ref N] → Txts s'.heap Y (xs.filter p) → Txts s'.heap N (xs.filter fun x => !p x) → Q (.ref T) s') :
    wpAny (model PR w) A (call (.ref 28) [.ref l, pv]) Q E s := by
  obtain ⟨items, hl, hS⟩ := hl
  obtain ⟨⟨fa, fo, ffd, rfl, hfo, hfd⟩, hp⟩ := hp
  refine callF (f := 28) W R rfl rfl rfl rfl rfl (fun L s₁ hL F R => ?_)
  dsimp only at F R ⊢
  refine wpAny_execs_cons (wpAny_Assign_Name (wpAny_List (wpAny_items_nil ⟨by size_fits, ?_⟩)))
  refine (F.keeps (kpush _ _)).stL' (fun s₂ F₂ k₂ => ?_)
  refine wpAny_execs_cons (wpAny_Assign_Name (wpAny_List (wpAny_items_nil ⟨by size_fits, ?_⟩)))
  refine (F₂.keeps (kpush _ _)).stL' (fun s₃ F₃ k₃ => ?_)
  have hYL : s₁.heap.objs.size ≠ L := Nat.ne_of_gt F.toFx.ns.lt
  have hNL : s₂.heap.objs.size ≠ L := Nat.ne_of_gt F₂.toFx.ns.lt
  have hIL : s₃.heap.objs.size ≠ L := Nat.ne_of_gt F₃.toFx.ns.lt
  have fresh : ∀ D, L < D → s.heap.get? D = none := fun D h => Heap.get?_none_of_le (by omega)
  have hY₂ : s₂.heap.PlainList s₁.heap.objs.size (List.toArray []) := ⟨_, k₂ _ _ hYL (Heap.get?_push_size _ rfl)⟩
  have hY₃ : s₃.heap.PlainList s₁.heap.objs.size (List.toArray []) := let ⟨n, e⟩ := hY₂; ⟨n, k₃ _ _ hYL (Heap.get?_push_of_some _ e)⟩
  have hN₃ : s₃.heap.PlainList s₂.heap.objs.size (List.toArray []) := ⟨_, k₃ _ _ hNL (Heap.get?_push_size _ rfl)⟩
  have hYN : s₁.heap.objs.size < s₂.heap.objs.size := let ⟨_, e⟩ := hY₂; Heap.lt_size e
  have hNI : s₂.heap.objs.size < s₃.heap.objs.size := let ⟨_, e⟩ := hN₃; Heap.lt_size e
  refine wpAny_execs_cons (forL R.hd ?_)
  refine F₃.toFx.ldL (by rfl) ⟨l, items, SplitI w s (envFm F₃) l s₁.heap.objs.size s₂.heap.objs.size (.ref fa) p xs items, rfl, F₃.toFx.list hl, ?_, ?_, ?_, ?_, ?_⟩
  · rintro s₄ rfl
    refine ⟨⟨_, F₃.keeps (kpush _ _), rfl, rfl, rfl⟩, ?_, ⟨Nat.ne_of_lt hYN, Nat.ne_of_lt (Nat.lt_trans hYN hNI), Nat.ne_of_lt hNI⟩, [], [], [], .nil, (fun _ h => (nomatch h)), ?_, ?_, .nil, .nil⟩
    · rintro D (rfl | rfl | rfl)
      · exact ⟨hYL, fresh _ F.toFx.ns.lt⟩
      · exact ⟨hNL, fresh _ F₂.toFx.ns.lt⟩
      · exact ⟨hIL, fresh _ F₃.toFx.ns.lt⟩
    · exact let ⟨n, e⟩ := hY₃; ⟨n, Heap.get?_push_of_some _ e⟩
    · exact let ⟨n, e⟩ := hN₃; ⟨n, Heap.get?_push_of_some _ e⟩
  · rintro I pre s' ⟨⟨m', F', _⟩, _⟩
    exact F'.toFx.list hl
  · rintro I pre s' h' ⟨⟨m', F', e1, e2, e3⟩, own, ap, px, ys, ns, a1, a2, a3, a4, a5, a6⟩ hx
    exact ⟨⟨m', F'.but (tk := s'.toks) hx (own I (.inr (.inr rfl))).1 (fun _ h => (nomatch h)) (own I (.inr (.inr rfl))).2, e1, e2, e3⟩, own, ap, px, ys, ns, a1, a2, a3.extBut hx ap.2.1, a4.extBut hx ap.2.2, a5, a6⟩
  · rintro I pre v post s' he ⟨⟨m', F', e1, e2, e3⟩, own, ap, px, ys, ns, a1, a2, a3, a4, a5, a6⟩ hit
    obtain ⟨x, t, rfl, hx⟩ := strs_mem hS (by rw [he]; simp : v ∈ items)
    refine F'.stL' (fun s'' F'' k'' => ?_)
    have b3 : s''.heap.PlainList s₁.heap.objs.size (List.toArray ys) := a3.at fun o e => k'' _ o hYL e
    have b4 : s''.heap.PlainList s₂.heap.objs.size (List.toArray ns) := a4.at fun o e => k'' _ o hNL e
    have bit : s''.heap.IsListIter I l (pre.length + 1) := hit.at fun o e => k'' _ o (own I (.inr (.inr rfl))).1 e
    have hpx : (px ++ [x]).length ≤ 1000 := by
      have h1 := hS.len_eq
      have h2 := a1.len_eq
      rw [he] at h1
      simp only [List.length_append, List.length_cons, List.length_nil] at h1 ⊢
      omega
    have hys : ys.length ≤ 1000 := by
      have h1 := a5.len_eq
      have h2 := List.length_filter_le p px
      simp only [List.length_append, List.length_cons, List.length_nil] at hpx
      omega
    have hns : ns.length ≤ 1000 := by
      have h1 := a6.len_eq
      have h2 := List.length_filter_le (fun x => !p x) px
      simp only [List.length_append, List.length_cons, List.length_nil] at hpx
      omega
    refine wpAny_execs_cons (wpAny_If (isTrue_plain (evCallV hfd (fun Q' q => F''.toFx.ldL ((if_neg (by decide)).trans e3) q) ?_)))
    refine wpAny_items_cons (F''.toFx.ldL (if_pos rfl) (wpAny_items_nil ⟨F''.toFx.keep _ _ hfo, ?_⟩))
    refine hp _ _ _ _ _ _ hx F''.toFx.keep (R.le (by omega)) (fun s₅ K => wpAny_truthy_bool ?_)
    have F₅ := F''.keeps K
    have c3 : s₅.heap.PlainList s₁.heap.objs.size (List.toArray ys) := b3.at fun o e => ksub K _ o e
    have c4 : s₅.heap.PlainList s₂.heap.objs.size (List.toArray ns) := b4.at fun o e => ksub K _ o e
    have cit : s₅.heap.IsListIter I l (pre.length + 1) := bit.at fun o e => ksub K _ o e
    cases hpx' : p x with
    | true =>
      show wpAny _ _ _ _ _ _
      refine wpAny_execs_cons (wpAny_Expr_any (evMeth PySem.F.plainAttrs_list slot_list_append PySem.type_list_append ?_))
      refine F₅.toFx.ldL ((if_neg (by decide)).trans e1) ⟨c3.isList.typeIs, fun a e => ?_, ?_⟩
      · cases e; obtain ⟨n, e⟩ := c3; exact ⟨_, e, rfl⟩
      refine wpAny_items_cons (F₅.toFx.ldL (if_pos rfl) (wpAny_items_nil ?_))
      refine wpAny_list_append_plain c3 (fun h' hl' hs' => execs_nil' (execs_nil' ⟨⟨⟨_, F₅.but (tk := s₅.toks) hs'.extBut hYL (fun _ h => (nomatch h)) (own _ (.inl rfl)).2, (if_neg (by decide)).trans e1, (if_neg (by decide)).trans e2, (if_neg (by decide)).trans e3⟩, own, ap, px ++ [x], ys ++ [.str x t], ns, strs_snoc a1 x t, ?_, by simpa using hl', c4.extBut hs'.extBut (Ne.symm ap.1), ?_, ?_⟩, cit.extBut hs'.extBut (Ne.symm ap.2.1)⟩)) (by rw [sizeLine_eq]; simpa using by omega)
      · intro y hy
        rcases List.mem_append.mp hy with hy | hy
        · exact a2 y hy
        · rw [List.mem_singleton.mp hy]; exact hx
      · rw [List.filter_append, List.filter_cons, hpx']; exact strs_snoc a5 x t
      · rw [List.filter_append, List.filter_cons, hpx']; simpa using a6
    | false =>
      show wpAny _ _ _ _ _ _
      refine wpAny_execs_cons (wpAny_Expr_any (evMeth PySem.F.plainAttrs_list slot_list_append PySem.type_list_append ?_))
      refine F₅.toFx.ldL ((if_neg (by decide)).trans e2) ⟨c4.isList.typeIs, fun a e => ?_, ?_⟩
      · cases e; obtain ⟨n, e⟩ := c4; exact ⟨_, e, rfl⟩
      refine wpAny_items_cons (F₅.toFx.ldL (if_pos rfl) (wpAny_items_nil ?_))
      refine wpAny_list_append_plain c4 (fun h' hl' hs' => execs_nil' (execs_nil' ⟨⟨⟨_, F₅.but (tk := s₅.toks) hs'.extBut hNL (fun _ h => (nomatch h)) (own _ (.inr (.inl rfl))).2, (if_neg (by decide)).trans e1, (if_neg (by decide)).trans e2, (if_neg (by decide)).trans e3⟩, own, ap, px ++ [x], ys, ns ++ [.str x t], strs_snoc a1 x t, ?_, c3.extBut hs'.extBut ap.1, by simpa using hl', ?_, ?_⟩, cit.extBut hs'.extBut (Ne.symm ap.2.2)⟩)) (by rw [sizeLine_eq]; simpa using by omega)
      · intro y hy
        rcases List.mem_append.mp hy with hy | hy
        · exact a2 y hy
        · rw [List.mem_singleton.mp hy]; exact hx
      · rw [List.filter_append, List.filter_cons, hpx']; simpa using a5
      · rw [List.filter_append, List.filter_cons, hpx']; exact strs_snoc a6 x t
  · rintro I s' ⟨⟨m', F', e1, e2, e3⟩, own, ap, px, ys, ns, a1, a2, a3, a4, a5, a6⟩
    have hpx : px = xs := by
      have h1 := a1.strs
      have h2 := hS.strs
      rw [← h1, ← h2]
    subst hpx
    refine wpAny_execs_cons (wpAny_Return_some (wpAny_Tuple ?_))
    refine wpAny_items_cons (F'.toFx.ldL e1 (wpAny_items_cons (F'.toFx.ldL e2 (wpAny_items_nil ⟨by size_fits, ?_⟩))))
    refine hQ _ s₁.heap.objs.size s₂.heap.objs.size _ (F'.keeps (kpush _ _)).done ⟨_, Heap.get?_push_size _ rfl, rfl, _, rfl⟩ ⟨ys, (Sub.push _ _).list a3.isList, a5⟩ ⟨ns, (Sub.push _ _).list a4.isList, a6⟩
/-- a lambda's call -/
theorem callLam {f c' : Addr} {name qual : Str} {params : Arguments} {body : Expr} {scope : Scope} {cl : List (Str × Addr)} {pm ctv : Value} {vals : List Value} {binds : List (Str × Value)} {cm : Str → Option Value} {d : Nat} {Q : Value → Shared → Prop}
    (W : Wd w s.heap) (R : Rm A (d + 1)) (ho : s.heap.get? f = some (kla_obj name qual params body scope cl pm c' ctv)) (hcd : s.heap.CodeRec (.ref c') qual)
    (hbind : bindArgs (kla_fn name qual params body scope cl pm (.ref c') ctv) ⟨vals, []⟩ = pure binds) (hloc : ∀ y ∈ binds, scope.names.lookup y.1 = some .local)
    (hcells : ∀ n c, cl.lookup n = some c → s.heap.IsCell c (cm n))
    (h : ∀ L s₁, Keeps s s₁ → Fx w s.heap (envX qual scope L f (.ref c') cl) (fun y => binds.reverse.lookup y) cm s₁.heap → Rm (A.deeper (envX qual scope L f (.ref c') cl)) d →
      wpAny (model PR w) (A.deeper (envX qual scope L f (.ref c') cl)) (eval body (envX qual scope L f (.ref c') cl)) Q (fun _ _ => False) s₁)
    (hco : scope.isCoroutine = false := by rfl) (hgen : scope.isGenerator = false := by rfl) (hk : scope.kind = .function := by rfl) (hcell : ∀ x ∈ scope.names, x.2 ≠ .cell := by decide) :
    wpAny (model PR w) A (call (.ref f) vals) Q E s := by
  refine wpAny_call (kla_callFunE (by have := R.dp; omega) ho rfl hco hgen rfl hcd ?_)
  rw [hbind]
  refine wpAny_pure (wpAny_newFunctionEnv hcell hloc (fun h₁ hns hsb => ⟨W.nolimit.fresh _ hsb, ?_⟩) hk)
  show codeAny _ _ (.expr body (envX qual scope s.heap.objs.size f (.ref c') cl)) _ _
  have hk₁ : Sub s.heap h₁ := fun b o e => hsb.extBut b o (Nat.ne_of_lt (Heap.lt_size e)) (Heap.get?_push_of_some _ e)
  refine kla_codeExpr (wpAny_mono (h s.heap.objs.size _ (kmk s _ hk₁) ⟨hns, fun n c e => (hcells n c e).keeps hk₁, hk₁, W, hk, rfl, rfl⟩ R.deeper) (fun v s' q => q) fun _ _ q => q.elim)

/-- lambda path: commonpath([folder, path]) == commonpath([folder]) -/
theorem lam_pred {g : Heap} {f c' c : Addr} {name qual : Str} {params : Arguments} {scope : Scope} {cl : List (Str × Addr)} {pm ctv : Value} {fo : Str} {tf : Tok} {xs : List Str} {p1 p2 p3 p4 p5 p6 p7 p8 p9 p10 : Pos}
    (W : Wd w g) (ho : g.get? f = some (kla_obj name qual params (.Compare (.Call (.Name "commonpath" p1) [.List [.Name "folder" p2, .Name "path" p3] p4] [] p5) [.Eq] [.Call (.Name "commonpath" p6) [.List [.Name "folder" p7] p8] [] p9] p10) scope cl pm c' ctv))
    (hcd : g.CodeRec (.ref c') qual) (hbind : ∀ v, bindArgs (kla_fn name qual params (.Compare (.Call (.Name "commonpath" p1) [.List [.Name "folder" p2, .Name "path" p3] p4] [] p5) [.Eq] [.Call (.Name "commonpath" p6) [.List [.Name "folder" p7] p8] [] p9] p10) scope cl pm (.ref c') ctv) ⟨[v], []⟩ = pure [(("path" : Str), v)])
    (hcl : cl = [(("folder" : Str), c)]) (hc : g.IsCell c (some (.str fo tf))) (hfo : fo.length ≤ 100) (hxs : ∀ x ∈ xs, x.length ≤ 100 ∧ absB x = absB fo)
    (k1 : scope.names.lookup ("path" : Str) = some NameKind.local) (k2 : ∀ L, (envX qual scope L f (.ref c') cl).kindOf "path" = some .local) (k3 : ∀ L, (envX qual scope L f (.ref c') cl).kindOf "folder" = some .free) (k4 : ∀ L, (envX qual scope L f (.ref c') cl).kindOf "commonpath" = some .globalImplicit)
    (hco : scope.isCoroutine = false := by rfl) (hgen : scope.isGenerator = false := by rfl) (hk : scope.kind = .function := by rfl) (hcell : ∀ x ∈ scope.names, x.2 ≠ .cell := by decide) :
    PredOn w g 12 (.ref f) (fun x => decide ((pieces x).take (pieces fo).length = pieces fo)) xs := by
  refine ⟨⟨f, _, _, rfl, ho, rfl⟩, fun A s x t Q E hx hs R hQ => ?_⟩
  subst hcl
  refine callLam (cm := fun _ => some (.str fo tf)) (W.sub hs) R (hs _ _ ho) (let ⟨a, o, vs, tq, e1, e2, e3, e4⟩ := hcd; ⟨a, o, vs, tq, e1, hs _ _ e2, e3, e4⟩) (hbind _) (fun y hy => by rw [List.mem_singleton.mp hy]; exact k1)
    (fun n c2 e => ?_) (fun L s₁ K F R => ?_) hco hgen hk hcell
  · rw [List.lookup_cons] at e
    cases q : n == ("folder" : Str) with
    | true => rw [q] at e; cases e; exact hc.keeps hs
    | false => rw [q] at e; cases e
  have hx' := hxs x hx
  have hcf : (envX qual scope L f (.ref c') [(("folder" : Str), c)]).cells.lookup ("folder" : Str) = some c := rfl
  refine wpAny_Compare1 ?_
  refine evCallF (K := KF w) (by rfl) (fun Q' q => F.ldG rfl q rfl (k4 L)) ?_
  refine wpAny_items_cons (wpAny_List (wpAny_items_cons (F.ldF hcf rfl (wpAny_items_cons (F.ldL (v := .str x t) rfl (wpAny_items_nil ⟨by size_fits, ?_⟩) rfl (k2 L))) rfl (k3 L))))
  have F1 := F.keeps (kpush s₁ { cls := .type "list", data := .seq ([.str fo tf, .str x t] : List Value).toArray })
  have hl1 : Txts (s₁.heap.push { cls := .type "list", data := .seq ([.str fo tf, .str x t] : List Value).toArray }) s₁.heap.objs.size [fo, x] := ⟨_, ⟨_, Heap.get?_push_size _ rfl, rfl, _, rfl⟩, .cons _ _ (.cons _ _ .nil)⟩
  have hmix2 : ([fo, x].filter absB).length = 0 ∨ ([fo, x].filter absB).length = [fo, x].length := by
    rw [List.filter_cons, List.filter_cons, hx'.2]
    cases absB fo <;> simp
  have hmix1 : ([fo].filter absB).length = 0 ∨ ([fo].filter absB).length = [fo].length := by
    rw [List.filter_cons]
    cases absB fo <;> simp
  refine wpAny_items_nil ⟨F1.wd.X, t127_ok F1.wd (R.le (by omega)) hl1 (by simp) (fun y hy => ?_) (by simp) hmix2 (fun v1 t1 s₂ K2 hd1 => ?_)⟩
  · rcases List.mem_cons.mp hy with rfl | hy
    · exact hfo
    · rw [List.mem_singleton.mp hy]; exact hx'.1
  have F2 := F1.keeps K2
  refine evCallF (K := KF w) (by rfl) (fun Q' q => F2.ldG rfl q rfl (k4 L)) ?_
  refine wpAny_items_cons (wpAny_List (wpAny_items_cons (F2.ldF hcf rfl (wpAny_items_nil ⟨by size_fits, ?_⟩) rfl (k3 L))))
  have F3 := F2.keeps (kpush s₂ { cls := .type "list", data := .seq ([.str fo tf] : List Value).toArray })
  have hl2 : Txts (s₂.heap.push { cls := .type "list", data := .seq ([.str fo tf] : List Value).toArray }) s₂.heap.objs.size [fo] := ⟨_, ⟨_, Heap.get?_push_size _ rfl, rfl, _, rfl⟩, .cons _ _ .nil⟩
  refine wpAny_items_nil ⟨F3.wd.X, t127_ok F3.wd (R.le (by omega)) hl2 (by simp) (fun y hy => by rw [List.mem_singleton.mp hy]; exact hfo) (by simp) hmix1 (fun v2 t2 s₃ K3 hd2 => ?_)⟩
  refine PyProof.Rows.eq_str ?_
  have hiff := alike_iff hx'.2.symm hd1 hd2
  have e : (v1 == v2) = decide ((pieces x).take (pieces fo).length = pieces fo) := by
    rw [Bool.eq_iff_iff, beq_iff_eq, decide_eq_true_eq]; exact hiff
  rw [e]
  exact hQ _ (ktrans K (ktrans (kpush _ _) (ktrans K2 (ktrans (kpush _ _) K3))))
end
end Mine

end

section
open PySem PySem.W PyProof.Rows PySem.Calls
set_option maxRecDepth 100000
namespace Mine

section
variable {w : World} {A : Around} {E : Value → Shared → Prop} {s s₀ s' : Shared} {g : Heap} {env : Env} {m cm : Str → Option Value} {x : Str} {pos : Pos} {v : Value} {M : Model}

/-- the frozen heap goes on, the frame's own and more left out -/
theorem Fm.advX (F : Fm w s₀ g env m cm s) (ex : List Addr) (hex : ∀ a ∈ ex, g.get? a = none) : ∃ g', Sub g g' ∧ Fm w s₀ g' env m cm s ∧ (∀ a ∈ ex, g'.get? a = none) ∧
    ∀ a o, s.heap.get? a = some o → (∀ es n, o.data ≠ .dict es n) → (∀ v, o.data ≠ .cell v) → a ∉ ex → g'.get? a = some o := by
  have st : Sub g (hideAll s.heap (env.locals :: env.cells.map (·.2) ++ ex)) := fun b o e => hideAll_get _ (F.toFx.keep b o e) fun q => by
    rcases List.mem_append.mp q with q | q
    · rcases List.mem_cons.mp q with rfl | q
      · rw [F.Lg] at e; cases e
      · obtain ⟨p, hp, rfl⟩ := List.mem_map.mp q; rw [F.Cg p hp] at e; cases e
    · rw [hex b q] at e; cases e
  refine ⟨_, st, ⟨⟨F.toFx.ns, F.toFx.cell, fun _ _ e => of_hideAll _ e, F.toFx.W.sub st, F.toFx.k, F.toFx.gl, F.toFx.bu⟩, F.same, F.low.trans st, hideAll_none _ (List.mem_append_left _ (.head _)), fun p hp => hideAll_none _ (List.mem_append_left _ (.tail _ (List.mem_map_of_mem hp))), F.LC, F.apart, F.cw⟩,
    fun a ha => hideAll_none _ (List.mem_append_right _ ha), fun a o e h1 h2 h3 => hideAll_get _ e fun q => ?_⟩
  rcases List.mem_append.mp q with q | q
  · rcases List.mem_cons.mp q with rfl | q
    · obtain ⟨o', es, n, ho, hd, _⟩ := F.toFx.ns; rw [e] at ho; cases ho; exact h1 _ _ hd
    · obtain ⟨p, hp, rfl⟩ := List.mem_map.mp q
      obtain ⟨v, o', ho, hd⟩ := F.cw p hp; rw [e] at ho; cases ho; exact h2 _ hd
  · exact h3 q
theorem list_of_advX {h g' : Heap} {ex : List Addr} (k : ∀ a o, h.get? a = some o → (∀ es n, o.data ≠ .dict es n) → (∀ v, o.data ≠ .cell v) → a ∉ ex → g'.get? a = some o) {l : Addr} {xs : Array Value} (e : h.IsList l xs) (hl : l ∉ ex) : g'.IsList l xs := by
  obtain ⟨o, ho, hc, n, hd⟩ := e
  exact ⟨o, k l o ho (fun _ _ q => by rw [hd] at q; cases q) (fun _ q => by rw [hd] at q; cases q) hl, hc, n, hd⟩

/-- a frame stays after a call that may have caught an exception -/
theorem Fm.keepsF (F : Fm w s₀ g env m cm s) (K : KeepsF [env] s s') (hf : env.frame = some env.locals) : Fm w s₀ g env m cm s' := by
  have hfr : frs [env] = [env.locals] := frs_cons hf
  have nl : ∀ b o, g.get? b = some o → b ∉ frs [env] := fun b o e hm => by
    rw [hfr, List.mem_singleton] at hm; rw [hm, F.Lg] at e; cases e
  have cl : ∀ p ∈ env.cells, p.2 ∉ frs [env] := fun p hp hm => by
    rw [hfr, List.mem_singleton] at hm; exact F.LC p hp hm
  refine ⟨⟨K.up.ns F.toFx.ns, fun n c e => let ⟨o, ho, hd⟩ := F.toFx.cell n c e; ⟨o, K.keep _ _ ho (cl _ (mem_of_lookup e)), hd⟩, fun b o e => K.keep b o (F.toFx.keep b o e) (nl b o e), F.toFx.W, F.toFx.k, F.toFx.gl, F.toFx.bu⟩,
    ?_, F.low, F.Lg, F.Cg, F.LC, F.apart, fun p hp => let ⟨v, o, ho, hd⟩ := F.cw p hp; ⟨v, o, K.keep _ _ ho (cl p hp), hd⟩⟩
  obtain ⟨h, t, rfl⟩ := F.same
  obtain ⟨h', t', e⟩ := K.same
  exact ⟨h', t', e⟩

/-- law's table of code: empty, or the lambda's code alone -/
def LamT (P : Addr) (pos : Pos) (qual : Str) (h : Heap) : Prop :=
  h.get? P = some (tabObj #[]) ∨ ∃ c', h.get? P = some (tabObj #[rawInt pos.line, rawInt pos.col, .ref c']) ∧ h.CodeRec (.ref c') qual
theorem codeRec_keeps {h h' : Heap} {cd : Value} {qual : Str} (x : h.CodeRec cd qual) (k : ∀ b o, h.get? b = some o → (∃ vs, o.data = .fields vs) → h'.get? b = some o) : h'.CodeRec cd qual := by
  obtain ⟨a, o, vs, tq, e1, e2, e3, e4⟩ := x
  exact ⟨a, o, vs, tq, e1, k _ _ e2 ⟨vs, e3⟩, e3, e4⟩

theorem Fm.lam {params : Arguments} {body : Expr} {scope : Scope} {clos : List (Str × Addr)} {P c : Addr} {p : Program} {loose : List Str} {mean : ExcName → Option Value} {mg mb : Str → Option Value} {Q : Value → Shared → Prop}
    (F : Fm w s₀ g env m cm s) (T : Top p loose mean mg mb g) (C : CodeHd g c P) (hcode : env.code = .ref c) (hPg : g.get? P = none) (hPc : ∀ q ∈ env.cells, P ≠ q.2) (L : LamT P pos (env.qual ++ "<lambda>") s.heap)
    (hdef : defaultsOf params env = ([], [])) (hcl : closureFor scope env = pure clos)
    (h : ∀ f c' ctv s', Fm w s₀ g env m cm s' → (∀ b o, b ≠ P → s.heap.get? b = some o → s'.heap.get? b = some o) → s.heap.get? f = none →
      s'.heap.get? f = some (kla_obj "<lambda>" (env.qual ++ "<lambda>") params body scope clos ((mg "__name__").getD .none) c' ctv) → s'.heap.CodeRec (.ref c') (env.qual ++ "<lambda>") → LamT P pos (env.qual ++ "<lambda>") s'.heap → f ≠ P → Q (.ref f) s') :
    wpAny M A (eval (.Lambda params body scope pos) env) Q E s := by
  have hgs := T.g.keeps F.toFx.keep
  obtain ⟨bm, ob, b1, b2, b3, b4, b5, b6⟩ := T.bmain
  have hP : ∃ ps, s.heap.get? P = some (tabObj ps) := by
    rcases L with L | ⟨c', L, _⟩
    · exact ⟨_, L⟩
    · exact ⟨_, L⟩
  have hgP : mainGlobals ≠ P := fun q => by
    obtain ⟨o, es, ep, e, hd, _⟩ := T.g
    rw [q, hPg] at e; cases e
  have hbP : bm ≠ P := fun q => by rw [q, hPg] at b3; cases b3
  have hbG : bm ≠ mainGlobals := fun q => by
    obtain ⟨o, es, ep, e, hd, _⟩ := T.g
    rw [q, e] at b3; cases b3; rw [hd] at b6; cases b6
  have hLP : P ≠ env.locals := fun q => by
    obtain ⟨ps, e⟩ := hP
    obtain ⟨o, es, n, ho, hd, _⟩ := F.toFx.ns
    rw [← q, e] at ho; cases ho; cases hd
  refine kla_eval hdef ?_
  rcases L with L | ⟨c', L, hrec⟩
  · refine kla_makeFunction (mg := mg) hcl F.toFx.gl hgs hcode (C.keeps F.toFx.keep) L (by exact True.intro) rfl hgP ⟨bm, ob, b1, b2, hbG, hbP, F.toFx.keep _ _ b3, b4, b5, b6⟩ fun c' ctv h' tk hx hge hlt hrec htb => ?_
    have hsz : s.heap.objs.size ≤ h'.objs.size := Nat.le_trans hge (Nat.le_of_lt hlt)
    have FF := (F.but (tk := tk) hx hLP hPc hPg).keeps (kpush { s with heap := h', toks := tk } (kla_obj "<lambda>" (env.qual ++ "<lambda>") params body scope clos ((mg "__name__").getD .none) c' ctv))
    refine h h'.objs.size c' ctv _ FF (fun b o hb e => Heap.get?_push_of_some _ (hx b o hb e)) (Heap.get?_none_of_le hsz) (Heap.get?_push_size _ rfl) (codeRec_keeps hrec fun b o e _ => Heap.get?_push_of_some _ e) (.inr ⟨c', Heap.get?_push_of_some _ htb, codeRec_keeps hrec fun b o e _ => Heap.get?_push_of_some _ e⟩) (Nat.ne_of_gt (Heap.lt_size htb))
  · refine kla_makeFunctionHit (mg := mg) (cv := .ref c') hcl F.toFx.gl hgs hcode (C.keeps F.toFx.keep) L (by simp [TriplesOk, rawInt]) (by simp [codeAmong, rawInt]) ⟨bm, ob, b1, b2, hbG, hbP, F.toFx.keep _ _ b3, b4, b5, b6⟩ fun ctv h' tk hk hsz => ?_
    have FF := (F.keeps (kmk s tk hk)).keeps (kpush { s with heap := h', toks := tk } (kla_obj "<lambda>" (env.qual ++ "<lambda>") params body scope clos ((mg "__name__").getD .none) c' ctv))
    refine h h'.objs.size c' ctv _ FF (fun b o _ e => Heap.get?_push_of_some _ (hk b o e)) (Heap.get?_none_of_le hsz) (Heap.get?_push_size _ rfl) (codeRec_keeps hrec fun b o e _ => Heap.get?_push_of_some _ (hk b o e)) (.inr ⟨c', Heap.get?_push_of_some _ (hk _ _ L), codeRec_keeps hrec fun b o e _ => Heap.get?_push_of_some _ (hk b o e)⟩) (Nat.ne_of_gt (Heap.lt_size (hk _ _ L)))
end
end Mine

end

section
open PySem PySem.W PyProof.Rows PySem.Calls
set_option maxRecDepth 100000
namespace Mine

def smallInt (v : Value) : Prop := ∃ (n : Int) (t : Tok), v = .int n t ∧ 0 ≤ n ∧ n < 1000000
theorem pick_mem {items : Array Value} {lo hi st : Option Int} {v : Value} (h : v ∈ (slicePick items lo hi st).toList) : v ∈ items.toList := by
  unfold slicePick at h
  simp only [List.mem_filterMap] at h
  obtain ⟨i, _, hi⟩ := h
  exact Array.mem_toList_iff.mpr (Array.mem_of_getElem? hi)

section
variable {prog : Program} {w : World} {A : Around} {E : Value → Shared → Prop} {s : Shared} {env : Env}
/-- value[e::k] of a list -/
theorem evStep {value e e2 : Expr} {p pos : Pos} {Q : Value → Shared → Prop}
    (h : wpAny (model prog w) A (eval value env) (fun o s₁ => wpAny (model prog w) A (eval e env) (fun v s₂ => wpAny (model prog w) A (eval e2 env) (fun v2 s₃ => ∃ l items, ∃ (j k : Int), ∃ t t2, o = .ref l ∧ v = .int j t ∧ v2 = .int k t2 ∧ k ≠ 0 ∧ s₃.heap.IsList l (List.toArray items) ∧ items.length ≤ 100000 ∧
      (∀ D s₄ ys, Keeps s₃ s₄ → s₄.heap.IsList D (List.toArray ys) → (∀ y ∈ ys, y ∈ items) → ys.length ≤ items.length → Q (.ref D) s₄)) E s₂) E s₁) E s) :
    wpAny (model prog w) A (eval (.Subscript value (.Slice (some e) none (some e2) p) pos) env) Q E s := by
  refine Subscript_ (wpAny_mono h (fun o s₁ h₁ => wpAny_Slice ?_) fun _ _ e => e)
  rw [evalPart_none, evalPart_some, evalPart_some]
  refine wpAny_mono h₁ (fun v s₂ h₂ => wpAny_pure (wpAny_mono h₂ (fun v2 s₃ h₃ => ?_) fun _ _ e => e)) fun _ _ e => e
  obtain ⟨l, items, j, k, t, t2, rfl, rfl, rfl, hk, hl, hsz, hQ⟩ := h₃
  have hl' := (Sub.push s₃.heap { cls := .type "slice", data := .fields #[.int j t, .none, .int k t2] }).list hl
  refine tail_any hl'.typeIs list_getitem_lookup (wpAny_getItem_list_slice hl' (Heap.IsSliceOf.new ..) (.int j t) .none (.int k t2) (by simpa using hk) ?_ (by rw [sizeLine_eq]; simpa using by omega)) rfl
  refine hQ _ _ (slicePick items.toArray (some j) none (some k)).toList ⟨_, _, rfl, fun _ _ e => Heap.get?_push_of_some _ (Heap.get?_push_of_some _ e)⟩ ⟨_, Heap.get?_push_size _ rfl, rfl, _, by simp; rfl⟩ (fun y hy => by simpa using pick_mem hy) ?_
  have := slicePick_size_le items.toArray (some j) none (some k)
  simpa using this

theorem preSum_le {val : Nat → Int} {B : Int} : ∀ n : Nat, (∀ i, i < n → 0 ≤ val i ∧ val i ≤ B) → 0 ≤ preSum val n ∧ preSum val n ≤ B * n
  | 0, _ => by simp [preSum]
  | n + 1, h => by
    obtain ⟨a, b⟩ := preSum_le n fun i hi => h i (by omega)
    obtain ⟨c, d⟩ := h n (by omega)
    unfold preSum
    push_cast
    rw [Int.mul_add, Int.mul_one]
    omega
def intOf (v : Value) : Int := match v with | .int n _ => n | _ => 0
theorem sumInts {l : Addr} {items : List Value} {Q : Value → Shared → Prop} (hh : A.handled = none) (hl : s.heap.IsList l items.toArray) (hi : ∀ v ∈ items, smallInt v) (hlen : items.length ≤ 100)
    (hQ : ∀ n t s', Keeps s s' → 0 ≤ n → n ≤ 100000000 → Q (.int n t) s') : wpAny (model prog w) A (call (.builtin "sum") [.ref l]) Q E s := by
  have hlt : l < s.heap.objs.size := let ⟨o, ho, _⟩ := hl; Heap.lt_size ho
  have hI : s.heap.get? s.heap.objs.size = none := Heap.get?_none_of_le (Nat.le_refl _)
  refine call_sum_walkG (wpAny_pyIter_list hl ⟨_, _, _, _, _, _, fun i => intOf (items.getD i .none), rfl, Walks.list (A := A.in1) hh _ l (Nat.ne_of_lt hlt) items.toArray, ⟨⟨_, Heap.get?_push_size _ rfl, rfl, rfl⟩, (Sub.push _ _).list hl⟩, ?_, ?_, ?_⟩)
  · intro b hb
    simp only [List.mem_cons, List.not_mem_nil, or_false] at hb
    rw [Heap.size_push]
    rcases hb with rfl | rfl
    · exact Nat.lt_succ_self _
    · exact Nat.lt_succ_of_lt hlt
  · intro i v hv
    have hv' : items[i]? = some v := by simpa using hv
    obtain ⟨n, t, rfl, _⟩ := hi v (List.mem_of_getElem? hv')
    refine ⟨t, ?_⟩
    show Value.int n t = Value.int (intOf (items.getD i .none)) t
    rw [List.getD_eq_getElem?_getD, hv']; rfl
  · intro h' tk t' hk
    obtain ⟨b1, b2⟩ := preSum_le (val := fun i => intOf (items.getD i .none)) (B := 1000000) items.toArray.size fun i hi' => by
      have hi2 : i < items.length := by simpa using hi'
      obtain ⟨n, t, e, h0, h1⟩ := hi items[i] (List.getElem_mem hi2)
      rw [List.getD_eq_getElem?_getD, List.getElem?_eq_getElem hi2, Option.getD_some, e]
      exact ⟨h0, by show n ≤ 1000000; omega⟩
    refine hQ _ t' _ ⟨h', tk, rfl, fun b o e => hk b o (fun hm => by rw [List.mem_singleton.mp hm, hI] at e; cases e) (Heap.get?_push_of_some _ e)⟩ b1 ?_
    have : ((items.toArray.size : Nat) : Int) ≤ 100 := by simp; omega
    omega
end

section
variable {w : World} {A : Around} {E : Value → Shared → Prop} {s s₀ : Shared} {g : Heap} {env : Env} {m cm : Str → Option Value}
/-- a filter of a list, stored in a local -/
theorem Fm.afilt {iter : Expr} {x y : Str} {px py pe : Pos} {ifs : List Expr} {scope : Scope} {cl : List (Str × Addr)} {pos spos : Pos} {Q : Flow → Shared → Prop} (F : Fm w s₀ g env m cm s) (hh : A.handled = none)
    (p : Value → Bool)
    (hsw : swapsWith (.ListComp (.Name x pe) [⟨.Name x px, iter, ifs, 0⟩] scope pos) (some (.Name y py)) spos.line env = pure true)
    (hclos : closureFor scope env = pure cl) (hcl : ∀ n c, cl.lookup n = some c → env.cells.lookup n = some c) (hx : scope.names.lookup x = some .local)
    (h : wpAny (model PR w) A (eval iter env) (fun xv s₁ => Keeps s s₁ ∧ ∃ l items, xv = .ref l ∧ s₁.heap.IsList l (List.toArray items) ∧ items.length ≤ 100000 ∧
      (∀ C v s₃ m₃, v ∈ items → m₃ x = some v → Fx w s₁.heap (compEnvC scope cl C env) m₃ cm s₃.heap → TestOn w A (compEnvC scope cl C env) ifs (p v) s₃) ∧
      (∀ D s₄, Fm w s₀ g env (fun z => if z = y then some (.ref D) else m z) cm s₄ → (∀ b o, b ≠ env.locals → s.heap.get? b = some o → s₄.heap.get? b = some o) → s.heap.get? D = none → s₄.heap.IsList D (List.toArray (items.filter p)) → Q .next s₄)) E s)
    (hkx : ∀ C, (compEnvC scope cl C env).kindOf x = some .local) (hdx : (x == ("__debug__" : Str)) = false := by decide)
    (hy : env.kindOf y = some .local := by rfl)
    (hcell : ∀ y ∈ scope.names, y.2 ≠ .cell := by decide) (hkind : scope.kind = .function := by rfl) (hnames : ∀ y ∈ scope.names, y.2 = .local → scope.names.lookup y.1 = some .local := by decide)
    (hs : ∀ x, foldedSetIterable iter env x = pure x := by intro _; rfl) :
    wpAny (model PR w) A (exec (.Assign [.Name y py] (.ListComp (.Name x pe) [⟨.Name x px, iter, ifs, 0⟩] scope pos) spos) env) Q E s := by
  rw [exec_Assign_Name_used _ _ _ _ hsw]
  refine wpAny_bind (wpAny_standAt (wpAny_bind ?_))
  show wpAny _ A (do let _ ← comprehension (.ListComp (.Name x pe) [⟨.Name x px, iter, ifs, 0⟩] scope pos) scope env _ (newList []) false (eval iter env) (some (assign (.Name y py) env))) _ _ s
  refine wpAny_bind (wpAny_mono (wpAny_comprehension_free (use := some (assign (.Name y py) env)) (Q := fun _ s' => Q .next s') rfl hs hclos hkind hnames
    (wpAny_mono h (fun xv s₁ h₁ => ?_) fun _ _ e => e)) (fun _ s' hq => wpAny_pure (wpAny_pure hq)) fun _ _ e => e)
  obtain ⟨K₁, l, items, rfl, hl, hsz, ht, hQ⟩ := h₁
  have hlt : l < s₁.heap.objs.size := let ⟨o, ho, _⟩ := hl; Heap.lt_size ho
  have hI : s₁.heap.get? s₁.heap.objs.size = none := Heap.get?_none_of_le (Nat.le_refl _)
  have mem : ∀ {i v}, items.toArray[i]? = some v → v ∈ items := fun {i v} e => by simpa using Array.mem_of_getElem? e
  have K₂ := kpush s₁ (iterObj l)
  have up : ∀ s₃ : Shared, (∀ b o, b ∉ [s₁.heap.objs.size] → ({ s₁ with heap := s₁.heap.push (iterObj l) } : Shared).heap.get? b = some o → s₃.heap.get? b = some o) → Sub s₁.heap s₃.heap := fun s₃ hk b o e =>
    hk b o (fun hm => by rw [List.mem_singleton.mp hm, hI] at e; cases e) (ksub K₂ b o e)
  refine wpAny_pyIter_list hl ?_
  refine comp_block_walkC (RR := fun acc C => compPost (model PR w) A E (some (assign (.Name y py) env)) (fun _ s' => Q .next s') acc C) (Walks.list hh _ l (Nat.ne_of_lt hlt) items.toArray) (by rw [sizeLine_eq]; simpa using by omega) p (fun v y => y = v) hcell hkind hx
    ⟨⟨_, Heap.get?_push_size _ rfl, rfl, rfl⟩, (Sub.push _ _).list hl⟩ ?_ ⟨?_, ?_⟩ ?_
  · intro b hb
    simp only [List.mem_cons, List.not_mem_nil, or_false] at hb
    show b < (s₁.heap.push _).objs.size
    rw [Heap.size_push]
    rcases hb with rfl | rfl
    · exact Nat.lt_succ_self _
    · exact Nat.lt_succ_of_lt hlt
  · intro C i v s₃ m₃ E' _ hP hns hm hk _
    exact ht C v s₃ m₃ (mem hP) hm (F.toFx.cenv (ksub K₁) (up s₃ hk) hcl hkind hns) E'
  · intro C i v s₃ m₃ E' _ hP _ hns hm hk _
    exact (F.toFx.cenv (ksub K₁) (up s₃ hk) hcl hkind hns).ldL hm ⟨rfl, krefl _⟩ rfl (hkx C) hdx
  · intro D C h' tk m' ys vs hD hC hDC hnC hlD hplD hlen hP hF hk
    have e : vs = items := by simpa using list_of_places hlen hP
    subst e
    have ey : ys.toList = vs.filter p := paired_eq hF
    have kk : Keeps s { s₁ with heap := h', toks := tk } := by
      obtain ⟨ha, ta, rfl, ka⟩ := K₁
      exact ⟨h', tk, rfl, fun b o e => up { s with heap := h' } (fun b o n e => hk b o n e) b o (ka b o e)⟩
    have s12 : Sub s.heap (s₁.heap.push (iterObj l)) := fun b o e => ksub K₂ b o (ksub K₁ b o e)
    have F' := F.keeps kk
    have hL : ∃ o, (s₁.heap.push (iterObj l)).get? env.locals = some o := by obtain ⟨o, _, _, ho, _⟩ := F.toFx.ns; exact ⟨o, s12 _ _ ho⟩
    have hCL : C ≠ env.locals := by rintro rfl; obtain ⟨o, ho⟩ := hL; rw [hC] at ho; cases ho
    have hDL : D ≠ env.locals := by rintro rfl; obtain ⟨o, ho⟩ := hL; rw [hD] at ho; cases ho
    have hCc : ∀ p ∈ env.cells, C ≠ p.2 := by
      rintro p hp rfl
      obtain ⟨v, o, ho, _⟩ := F.cw p hp
      rw [s12 _ _ ho] at hC; cases hC
    have hCg : g.get? C = none := by
      cases q : g.get? C with
      | none => rfl
      | some o => rw [s12 _ _ (F.toFx.keep _ _ q)] at hC; cases hC
    show wpAny _ A (assign (.Name y py) env (.ref D)) _ _ _
    refine wpAny_assign_Name (F'.stL' (fun s₅ F₅ k₅ => ?_) hy)
    refine ⟨m', hnC.at' fun o e => k₅ _ o hCL e, fun h₃ hs₃ => ?_⟩
    refine hQ D _ (F₅.but (tk := s₅.toks) hs₃.extBut hCL hCc hCg) (fun b o hb e => hs₃.extBut b o (fun q => by rw [q] at e; rw [s12 _ _ e] at hC; cases hC) (k₅ b o hb (ksub kk b o e))) ?_ ?_
    · cases q : s.heap.get? D with
      | none => rfl
      | some o => rw [s12 _ _ q] at hD; cases hD
    · rw [← ey]
      have := (hlD.at fun o e => k₅ _ o hDL e).extBut hs₃.extBut hDC
      simpa using this
end
end Mine

end

section
open PySem PySem.W PyProof.Rows PySem.Calls
set_option maxRecDepth 100000
namespace Mine

theorem fmod_small (n : Int) : 0 ≤ n.fmod 1000000 ∧ n.fmod 1000000 < 1000000 := ⟨fmod_lo n (by decide), fmod_hi n (by decide)⟩
theorem pow_ten {prog : Program} {w : World} {A : Around} {E : Value → Shared → Prop} {s : Shared} {t u : Tok} {Q : Value → Shared → Prop} (h : Q (.int 1000000 s.toks) { s with toks := s.toks + 1 }) :
    wpAny (model prog w) A (binaryOp .Pow (.int 10 t) (.int 6 u)) Q E s := by
  refine pow_int (by decide) ?_ ?_
  · have : Builtin.Int.intBits 10 = 4 := by decide +kernel
    rw [this]; decide
  · exact h
theorem ints_mem {vs : List Value} {ns : List Int} (h : IntsAre vs ns) {v : Value} (hv : v ∈ vs) : ∃ n t, v = .int n t := by
  induction h with
  | nil => cases hv
  | cons n t h ih =>
    rcases List.mem_cons.mp hv with rfl | hv
    · exact ⟨n, t, rfl⟩
    · exact ih hv

theorem eight_at (t0 t1 t2 t3 t4 t5 t6 t7 : Tok) {i : Nat} (hi : i < 8) : ∃ k t, ([.int 4 t0, .int 52 t1, .int 7 t2, .int 98 t3, .int 3 t4, .int 12 t5, .int 0 t6, .int 37 t7] : List Value)[i]? = some (.int k t) ∧ 0 ≤ k ∧ k ≤ 98 ∧ seqIndex? (i : Int) 8 = some i := by
  match i, hi with
  | 0, _ => exact ⟨_, _, rfl, by decide, by decide, by decide⟩
  | 1, _ => exact ⟨_, _, rfl, by decide, by decide, by decide⟩
  | 2, _ => exact ⟨_, _, rfl, by decide, by decide, by decide⟩
  | 3, _ => exact ⟨_, _, rfl, by decide, by decide, by decide⟩
  | 4, _ => exact ⟨_, _, rfl, by decide, by decide, by decide⟩
  | 5, _ => exact ⟨_, _, rfl, by decide, by decide, by decide⟩
  | 6, _ => exact ⟨_, _, rfl, by decide, by decide, by decide⟩
  | 7, _ => exact ⟨_, _, rfl, by decide, by decide, by decide⟩
def notAbs (v : Value) : Bool := match v with | .str x _ => !absB x | _ => false

section
variable {w : World} {A : Around} {E : Value → Shared → Prop} {s s₀ s' : Shared} {g : Heap} {env : Env} {m cm : Str → Option Value} {x : Str} {v : Value} {M : Model}
theorem Fm.stC' {c : Addr} {Q : Unit → Shared → Prop} (F : Fm w s₀ g env m cm s) (hc : env.cells.lookup x = some c)
    (h : ∀ s', Fm w s₀ g env m (fun y => if y = x then some v else cm y) s' → (∀ b o, b ≠ c → s.heap.get? b = some o → s'.heap.get? b = some o) → Q () s') (hl : env.kindOf x = some .cell := by rfl) : wpAny M A (storeName env x v) Q E s := by
  refine wpAny_storeName_cell F.toFx.k hl hc (F.toFx.cell x c hc) fun h' hc' hs' => h _ ⟨⟨F.toFx.ns.sameBut hs' (Ne.symm (F.LC _ (mem_of_lookup hc))), fun n c' e => ?_, fun b o e => ?_, F.toFx.W, F.toFx.k, F.toFx.gl, F.toFx.bu⟩, ?_, F.low, F.Lg, F.Cg, F.LC, F.apart, fun p hp => ?_⟩ hs'.extBut
  · by_cases hk : n = x
    · subst hk; rw [hc] at e; cases e; simpa using hc'
    · simp only [hk, if_false]
      exact (F.toFx.cell n c' e).sameBut hs' fun q => hk (name_of_addr F.apart (mem_of_lookup e) (q ▸ mem_of_lookup hc))
  · exact hs'.extBut b o (by rintro rfl; have := F.Cg _ (mem_of_lookup hc); rw [this] at e; cases e) (F.toFx.keep b o e)
  · obtain ⟨h₁, t, rfl⟩ := F.same; exact ⟨h', _, rfl⟩
  · by_cases q : p.2 = c
    · exact ⟨_, q ▸ hc'⟩
    · obtain ⟨v, e⟩ := F.cw p hp; exact ⟨v, e.sameBut hs' q⟩
end

section
variable {w : World} {A : Around} {E : Value → Shared → Prop} {s s₀ : Shared} {g : Heap} {env : Env} {m cm : Str → Option Value}
/-- the source is range(N), the elements are new lists of texts -/
theorem Fx.lcompOR {elt iter : Expr} {x : Str} {px : Pos} {scope : Scope} {cl : List (Str × Addr)} {pos : Pos} {Q : Value → Shared → Prop} (F : Fx w g env m cm s.heap) (hh : A.handled = none)
    (f : Nat → List Str)
    (hclos : closureFor scope env = pure cl) (hcl : ∀ n c, cl.lookup n = some c → env.cells.lookup n = some c) (hx : scope.names.lookup x = some .local)
    (h : wpAny (model PR w) A (eval iter env) (fun xv s₁ => Keeps s s₁ ∧ ∃ r N t u v, xv = .ref r ∧ IsRange s₁.heap r 0 N 1 t u v ∧ 0 ≤ N ∧ N ≤ 1000 ∧
      (∀ C (i : Nat) tk s₃ m₃, i < N.toNat → m₃ x = some (.int i tk) → Fx w s₁.heap (compEnvC scope cl C env) m₃ cm s₃.heap → EltRow w A (compEnvC scope cl C env) elt (f i) s₃) ∧
      (∀ D s₄ (ys : List Value), Keeps s s₄ → s₁.heap.get? D = none → s₄.heap.IsList D ys.toArray → RowsAre s₄.heap ys ((List.range N.toNat).map f) → Q (.ref D) s₄)) E s)
    (hcell : ∀ y ∈ scope.names, y.2 ≠ .cell := by decide) (hkind : scope.kind = .function := by rfl) (hnames : ∀ y ∈ scope.names, y.2 = .local → scope.names.lookup y.1 = some .local := by decide)
    (hs : ∀ x, foldedSetIterable iter env x = pure x := by intro _; rfl) :
    wpAny (model PR w) A (eval (.ListComp elt [⟨.Name x px, iter, [], 0⟩] scope pos) env) Q E s := by
  refine wpAny_ListComp_freeO (fun _ => true) (fun v its => ∃ ws : List Value, its = ws.toArray ∧ StrsAre ws (f (intOf v).toNat)) hclos hcell hkind hnames hx (wpAny_mono h (fun xv s₁ h₁ => ?_) fun _ _ e => e) hs
  obtain ⟨K₁, r, N, t, u, v, rfl, hr, hlo, hhi, he, hq⟩ := h₁
  have hsz : Builtin.Range.rangeSize 0 N 1 = (N.toNat : Int) := by rw [rangeSize_one]; split <;> omega
  have hI : s₁.heap.get? s₁.heap.objs.size = none := Heap.get?_none_of_le (Nat.le_refl _)
  refine wpAny_pyIter_range hr (small_one (by decide) (by decide) (by omega) (by omega)) ⟨_, _, _, _, _, _, rfl, walks_range hh _ N.toNat, by rw [sizeLine_eq]; omega, ?_, ?_, ?_, ⟨?_, ?_⟩, ?_⟩
  · rintro i h st b hb
    rw [List.mem_singleton.mp hb]; exact ⟨_, st⟩
  · have e1 : (0 + ((0 : Nat) : Int) * 1) = 0 := by simp
    have e2 : ((N.toNat : Int) - ((0 : Nat) : Int)) = Builtin.Range.rangeSize 0 N 1 := by rw [hsz]; simp
    show IsRangeIter _ _ (0 + ((0 : Nat) : Int) * 1) ((N.toNat : Int) - ((0 : Nat) : Int)) 1
    rw [e1, e2]
    exact Heap.get?_push_size _ rfl
  · intro b hb
    simp only [List.mem_cons, List.not_mem_nil, or_false] at hb
    rw [Heap.size_push, hb]; exact Nat.lt_succ_self _
  · intro C i v s₃ m₃ E' _ hP hns hm hk _
    exact TestOn.nil E'
  · intro C i v s₃ m₃ E' _ hP _ hns hm hk _
    obtain ⟨hi, tk, rfl⟩ := hP
    have up : Sub s₁.heap s₃.heap := fun b o e => hk b o (fun hm => by rw [List.mem_singleton.mp hm, hI] at e; cases e) (Heap.get?_push_of_some _ e)
    refine wpAny_mono (he C i tk s₃ m₃ hi hm (F.cenv (ksub K₁) up hcl hkind hns) E') (fun y s₄ h₄ => ?_) fun _ _ e => e
    obtain ⟨T, rfl, hT, ⟨ws, hw, hS⟩, K⟩ := h₄
    exact ⟨⟨T, ws.toArray, rfl, hT, hw, ws, rfl, hS⟩, K⟩
  · intro D h' tk ys vs hD hl' _ hlen hP hF _ _ hk
    have up : Sub s₁.heap h' := fun b o e => hk b o (fun hm => by rw [List.mem_singleton.mp hm, hI] at e; cases e) (Heap.get?_push_of_some _ e)
    have evs : vs.map (fun v => f (intOf v).toNat) = (List.range N.toNat).map f := by
      refine List.ext_getElem? fun j => ?_
      rw [List.getElem?_map, List.getElem?_map]
      by_cases hj : j < vs.length
      · obtain ⟨_, t', e'⟩ := hP j _ (List.getElem?_eq_getElem hj)
        rw [List.getElem?_eq_getElem hj, e', List.getElem?_range (by omega)]
        rfl
      · rw [List.getElem?_eq_none (by omega), List.getElem?_eq_none (by simp; omega)]
        rfl
    refine hq D _ ys.toList ?_ ?_ (by simpa using hl') ?_
    · obtain ⟨ha, ta, rfl, ka⟩ := K₁
      exact ⟨h', tk, rfl, fun b o e => up b o (ka b o e)⟩
    · cases q : s₁.heap.get? D with
      | none => rfl
      | some o => rw [Heap.get?_push_of_some _ q] at hD; cases hD
    · rw [← evs]
      have : ∀ {vs ws : List Value} {h₀ : Heap}, Paired (LstIs h₀ (fun v its => ∃ ws : List Value, its = ws.toArray ∧ StrsAre ws (f (intOf v).toNat)) h') vs ws → RowsAre h' ws (vs.map fun v => f (intOf v).toNat) := by
        intro vs ws h₀ hp
        induction hp with
        | nil => exact .nil
        | cons a b ih =>
          obtain ⟨T, its, rfl, _, hT, ws', rfl, hS⟩ := a
          exact .cons ⟨ws', hT, hS⟩ ih
      have h1 := this hF
      rwa [show vs.filter (fun _ => true) = vs from List.filter_eq_self.mpr fun _ _ => rfl] at h1
end

theorem addLists {prog : Program} {w : World} {A : Around} {E : Value → Shared → Prop} {s : Shared} {l b : Addr} {vs ws : List Value} {Q : Value → Shared → Prop} (hl : s.heap.IsList l vs.toArray) (hb : s.heap.IsList b ws.toArray) (hsz : vs.length + ws.length ≤ 1000)
    (h : Q (.ref s.heap.objs.size) { s with heap := s.heap.push { cls := .type "list", data := .seq (vs ++ ws).toArray } }) : wpAny (model prog w) A (binaryOp .Add (.ref l) (.ref b)) Q E s := by
  obtain ⟨⟨cls, dd, data, sl⟩, ho, hc, n, hd⟩ := hl
  obtain ⟨⟨cls2, dd2, data2, sl2⟩, ho2, hc2, n2, hd2⟩ := hb
  simp only at hc hd hc2 hd2
  subst hc hd hc2 hd2
  refine concat_meets ⟨_, ho, rfl⟩ ⟨_, ho2, rfl⟩ noFill_list_add seq_list_add PySem.F.slot_list_add PySem.F.entry_list_add (PySem.F.args_list_add_2 _ _) (list_addW l b vs.toArray ws.toArray n n2 dd dd2 sl sl2 (by rw [sizeLine_eq]; simp; omega)) ⟨ho, ho2, ?_⟩
  have e : (vs.toArray ++ ws.toArray) = (vs ++ ws).toArray := by simp
  show Q _ _
  rw [e]
  exact h

theorem rows_of_advX {h g' : Heap} {ex : List Addr} (k : ∀ a o, h.get? a = some o → (∀ es n, o.data ≠ .dict es n) → (∀ v, o.data ≠ .cell v) → a ∉ ex → g'.get? a = some o) (hex : ∀ a ∈ ex, ∀ xs, ¬ h.IsList a xs) : ∀ {vs : List Value} {rss : List (List Str)}, RowsAre h vs rss → RowsAre g' vs rss
  | _, _, .nil => .nil
  | _, _, .cons ⟨vs, a, b⟩ r => .cons ⟨vs, list_of_advX k a (fun q => hex _ q _ a), b⟩ (rows_of_advX k hex r)
theorem mem_one {env : Env} {L b : Addr} (hf : env.frame = some L) (hm : b ∈ frs [env]) : b = L := by
  rw [frs_cons hf] at hm
  rcases List.mem_cons.mp hm with h | h
  · exact h
  · cases h
theorem tab_not_list {h : Heap} {P : Addr} {ps xs : Array Value} (e : h.get? P = some (tabObj ps)) : ¬ h.IsList P xs := fun ⟨o, ho, hc, _⟩ => by
  rw [e] at ho; cases ho; cases hc

section
open PySem.SeqAt
theorem eqAt_lists {A : Around} {s : Shared} {a b : Addr} {xs ys : List Str} (ha : Txts s.heap a xs) (hb : Txts s.heap b ys) (hu : A.units < cLine) : EqAt A s (.ref a) (.ref b) (decide (xs = ys)) := by
  by_cases h : a = b
  · subst h
    have e : xs = ys := by rw [← rowAt_of ha, ← rowAt_of hb]
    rw [decide_eq_true e]
    exact EqAt.same _
  · exact EqAt.of_refs h (eqAt_txts ha hb hu)
/-- two pairs of lists of the same texts are not unlike -/
theorem ne_pairs {prog : Program} {w : World} {A : Around} {E : Value → Shared → Prop} {s : Shared} {T T2 a b c d : Addr} {xs ys xs2 ys2 : List Str} {Q : Value → Shared → Prop} (hT : s.heap.IsTuple T #[.ref a, .ref b]) (hT2 : s.heap.IsTuple T2 #[.ref c, .ref d])
    (ha : Txts s.heap a xs) (hb : Txts s.heap b ys) (hc : Txts s.heap c xs2) (hd : Txts s.heap d ys2) (e1 : xs = xs2) (e2 : ys = ys2) (hu : A.units + 1 < cLine) (h : Q (.bool false) s) : wpAny (model prog w) A (compareOp .NotEq (.ref T) (.ref T2)) Q E s := by
  subst e1 e2
  have k := RcNeAt.tuples (A := A) (s := s) (e := fun _ => true) hT hT2 (by omega) (fun j h1 h2 => ?_)
  · exact k prog w E Q h
  · match j, h1, h2 with
    | 0, _, _ => have := eqAt_lists (A := A.in1) ha hc hu; rw [decide_eq_true rfl] at this; exact this
    | 1, _, _ => have := eqAt_lists (A := A.in1) hb hd hu; rw [decide_eq_true rfl] at this; exact this
    | j + 2, h, _ => exact absurd (show j + 2 < 2 from h) (by omega)
end

end Mine

end

section
open PySem PySem.W PyProof.Rows PySem.Calls
set_option maxRecDepth 100000
namespace Mine

theorem Fm.back {w : World} {s₀ s : Shared} {g g' : Heap} {env : Env} {m cm : Str → Option Value} (F : Fm w s₀ g' env m cm s) (k : Sub g g') (W : Wd w g) (low : Sub s₀.heap g) : Fm w s₀ g env m cm s := by
  have none_ : ∀ {a : Addr}, g'.get? a = none → g.get? a = none := fun {a} e => by
    cases q : g.get? a with
    | none => rfl
    | some o => rw [k _ _ q] at e; cases e
  exact ⟨⟨F.toFx.ns, F.toFx.cell, k.trans F.toFx.keep, W, F.toFx.k, F.toFx.gl, F.toFx.bu⟩, F.same, low, none_ F.Lg, fun p hp => none_ (F.Cg p hp), F.LC, F.apart, F.cw⟩

section
open PySem.SeqAt
theorem neAt_txts {A : Around} {s : Shared} {a b : Addr} {xs ys : List Str} (ha : Txts s.heap a xs) (hb : Txts s.heap b ys) (hu : A.units < cLine) : RcNeAt A s (.ref a) (.ref b) (!decide (xs = ys)) := by
  obtain ⟨vs, hl, hS⟩ := ha
  obtain ⟨ws, hl', hS'⟩ := hb
  by_cases hlen : vs.length = ws.length
  · have h := RcNeAt.lists (A := A) (s := s) (e := fun j => decide (xs[j]? = ys[j]?)) hl hl' (by simpa using hlen) hu (fun j h1 h2 => ?_)
    · have e : ((List.range vs.toArray.size).all fun j => decide (xs[j]? = ys[j]?)) = decide (xs = ys) := by
        have l1 := hS.len_eq
        have l2 := hS'.len_eq
        rw [Bool.eq_iff_iff]
        simp only [List.all_eq_true, List.mem_range, decide_eq_true_eq, List.size_toArray]
        constructor
        · intro h
          refine List.ext_getElem? fun j => ?_
          by_cases hj : j < vs.length
          · exact h j hj
          · rw [List.getElem?_eq_none (by omega), List.getElem?_eq_none (by omega)]
        · rintro rfl j _; rfl
      rw [← e]; exact h
    · have h1' : j < vs.length := by simpa using h1
      have h2' : j < ws.length := by simpa using h2
      obtain ⟨x, t, e1, e2⟩ := hS.item j _ (List.getElem?_eq_getElem h1')
      obtain ⟨y, u, e3, e4⟩ := hS'.item j _ (List.getElem?_eq_getElem h2')
      simp only [List.getElem_toArray]
      rw [e1, e3, e2, e4]
      have := (eqGives_str x y t u).at A.in1 s
      have e : decide (some x = some y) = (x == y) := by
        rw [Bool.eq_iff_iff]; simp
      rw [e]; exact this
  · have h := RcNeAt.lists_lengths (A := A) (s := s) hl hl' (by simpa using hlen) hu
    have e : decide (xs = ys) = false := decide_eq_false (by rintro rfl; exact hlen (hS.len_eq.trans hS'.len_eq.symm))
    rw [e]; exact h
theorem ne_txts {prog : Program} {w : World} {A : Around} {E : Value → Shared → Prop} {s : Shared} {a b : Addr} {xs ys : List Str} {Q : Value → Shared → Prop} (ha : Txts s.heap a xs) (hb : Txts s.heap b ys) (hu : A.units < cLine) (h : Q (.bool (!decide (xs = ys))) s) :
    wpAny (model prog w) A (compareOp .NotEq (.ref a) (.ref b)) Q E s := neAt_txts ha hb hu prog w E Q h
end
def beg (h : List Str) (v : Value) : Bool := match v with | .str y _ => decide ((pieces y).take h.length = h) | _ => false
def nbeg (h : List Str) (v : Value) : Bool := match v with | .str y _ => !decide ((pieces y).take h.length = h) | _ => false
abbrev lamPos : Pos := ⟨148, 30, 148, 93⟩

def TabJ (I : Addr) (qual : Str) (h : Heap) : Prop :=
  h.get? 151 = some (tabObj #[]) ∨ ∃ c', c' ≠ I ∧ h.get? 151 = some (tabObj #[rawInt lamPos.line, rawInt lamPos.col, .ref c']) ∧ h.CodeRec (.ref c') qual
theorem TabJ.lamT {I : Addr} {qual : Str} {h : Heap} (x : TabJ I qual h) : LamT 151 lamPos qual h := by
  rcases x with x | ⟨c', _, a, b⟩
  · exact .inl x
  · exact .inr ⟨c', a, b⟩
theorem TabJ.but {I : Addr} {qual : Str} {h h' : Heap} (x : TabJ I qual h) (hx : Heap.ExtBut I h h') (hI : I ≠ 151) : TabJ I qual h' := by
  rcases x with x | ⟨c', n, a, b⟩
  · exact .inl (hx _ _ (Ne.symm hI) x)
  · obtain ⟨a', o, vs, tq, e1, e2, e3, e4⟩ := b
    cases e1
    exact .inr ⟨_, n, hx _ _ (Ne.symm hI) a, _, o, vs, tq, rfl, hx _ _ n e2, e3, e4⟩
theorem TabJ.of {I l : Addr} {i : Nat} {qual : Str} {h : Heap} (x : LamT 151 lamPos qual h) (hit : h.IsListIter I l i) : TabJ I qual h := by
  rcases x with x | ⟨c', a, b⟩
  · exact .inl x
  · refine .inr ⟨c', ?_, a, b⟩
    rintro rfl
    obtain ⟨a', o, vs, tq, e1, e2, e3, e4⟩ := b
    cases e1
    obtain ⟨o', ho, hc, hd⟩ := hit
    rw [e2] at ho; cases ho
    rw [e3] at hd
    injection hd with hd
    subst hd
    cases e4
theorem LamT.sub {qual : Str} {h h' : Heap} (x : LamT 151 lamPos qual h) (k : Sub h h') : LamT 151 lamPos qual h' := by
  rcases x with x | ⟨c', a, b⟩
  · exact .inl (k _ _ x)
  · exact .inr ⟨c', k _ _ a, codeRec_keeps b fun _ _ e _ => k _ _ e⟩
theorem LamT.step {qual : Str} {h h' : Heap} {a : Addr} {oa : Obj} (x : LamT 151 lamPos qual h) (k : ∀ b o, b ≠ a → h.get? b = some o → h'.get? b = some o) (ha : h.get? a = some oa) (hn : ∀ vs, oa.data ≠ .fields vs) : LamT 151 lamPos qual h' := by
  have ne : ∀ {b : Addr} {o : Obj} {vs : Array Value}, h.get? b = some o → o.data = .fields vs → b ≠ a := fun e hd q => by
    rw [q, ha] at e; cases e; exact hn _ hd
  rcases x with x | ⟨c', y, b⟩
  · exact .inl (k _ _ (ne x rfl) x)
  · exact .inr ⟨c', k _ _ (ne y rfl) y, codeRec_keeps b fun _ _ e ⟨vs, hd⟩ => k _ _ (ne e hd) e⟩
theorem iter_step {h h' : Heap} {a I l : Addr} {i : Nat} {oa : Obj} (x : h.IsListIter I l i) (k : ∀ b o, b ≠ a → h.get? b = some o → h'.get? b = some o) (ha : h.get? a = some oa) (hn : ∀ vs, oa.data ≠ .fields vs) : h'.IsListIter I l i := by
  obtain ⟨o, ho, hc, hd⟩ := x
  exact ⟨o, k _ _ (fun q => by rw [q, ha] at ho; cases ho; exact hn _ hd) ho, hc, hd⟩
theorem txts_step {h h' : Heap} {a l : Addr} {xs : List Str} {oa : Obj} (x : Txts h l xs) (k : ∀ b o, b ≠ a → h.get? b = some o → h'.get? b = some o) (ha : h.get? a = some oa) (hn : ∀ vs n, oa.data ≠ .seq vs n) : Txts h' l xs := by
  obtain ⟨vs, ⟨o, ho, hc, n, hd⟩, hS⟩ := x
  exact ⟨vs, ⟨o, k _ _ (fun q => by rw [q, ha] at ho; cases ho; exact hn _ _ hd) ho, hc, n, hd⟩, hS⟩
theorem Fm.cellObj {w : World} {s₀ s : Shared} {g : Heap} {env : Env} {m cm : Str → Option Value} (F : Fm w s₀ g env m cm s) {n : Str} {c : Addr} (h : env.cells.lookup n = some c) : ∃ o, s.heap.get? c = some o ∧ (∀ vs, o.data ≠ .fields vs) ∧ ∀ vs n, o.data ≠ .seq vs n := by
  obtain ⟨v, o, ho, hd⟩ := F.cw _ (mem_of_lookup h)
  exact ⟨o, ho, (fun vs q => by rw [hd] at q; cases q), (fun vs n q => by rw [hd] at q; cases q)⟩
theorem Fm.frameObj {w : World} {s₀ s : Shared} {g : Heap} {env : Env} {m cm : Str → Option Value} (F : Fm w s₀ g env m cm s) : ∃ o, s.heap.get? env.locals = some o ∧ (∀ vs, o.data ≠ .fields vs) ∧ ∀ vs n, o.data ≠ .seq vs n := by
  obtain ⟨o, es, n, ho, hd, _⟩ := F.toFx.ns
  exact ⟨o, ho, (fun vs q => by rw [hd] at q; cases q), (fun vs n q => by rw [hd] at q; cases q)⟩

section
variable {w : World} {A : Around} {s s₀ : Shared}
set_option maxHeartbeats 4000000

theorem law_two {L fa l D₂ D₃ D₄ : Addr} {oc : Value} {od : Option Addr} {osl : Array (Option Value)} {fd : FuncData} {body : List Stmt} {m cm : Str → Option Value} {xs : List Str} {g : Heap}
    {p : Program} {loose : List Str} {mean : ExcName → Option Value} {mg mb : Str → Option Value} {Q : Flow → Shared → Prop}
    (e : (KF w).lookup 154 = some ⟨oc, od, .func fd, osl⟩) (hb : fd.body = .stmts body) (F : Fm w s₀ g (envOfC fd.qualname fd.scope L fa (.ref 153)) m cm s) (hm₁ : m "ones" = some (.ref D₃)) (hm₂ : m "others" = some (.ref D₄)) (hcm : cm "paths" = some (.ref D₂)) (R : Rm A 25)
    (T : Top p loose mean mg mb s₀.heap) (C : CodeHd s₀.heap 153 151) (hP : g.get? 151 = none) (hPt : s.heap.get? 151 = some (tabObj #[])) (hPc : ∀ q ∈ (envOfC fd.qualname fd.scope L fa (.ref 153)).cells, 151 ≠ q.2) (hLP : (151 : Addr) ≠ L)
    (tP : Txts g D₂ xs) (tO : Txts g D₃ (xs.filter absB)) (tN : Txts g D₄ (xs.filter fun x => !absB x)) (hxl : xs.length ≤ 8) (hxsz : ∀ x ∈ xs, x.length ≤ 100)
    (hQ : ∀ s' m' cm', Fm w s₀ g (envOfC fd.qualname fd.scope L fa (.ref 153)) m' cm' s' → (∃ ps, s'.heap.get? 151 = some (tabObj ps)) → Q (.ret (.bool true)) s') :
    wpAny (model PR w) A (execs (body.drop 6) (envOfC fd.qualname fd.scope L fa (.ref 153))) Q (fun _ _ => False) s := by
  have r := (rfl : (KF w).lookup 154 = some ⟨_, _, .func _, _⟩)
  have e2 := r.symm.trans e
  injection e2 with e3
  injection e3 with _ _ e4 _
  injection e4 with e5
  subst e5
  injection hb with hb
  subst hb
  clear r e
  dsimp only [List.drop] at F hPc hQ ⊢
  obtain ⟨zs, hD₂, hS⟩ := tP
  have cH : (envFm F).cells.lookup ("head" : Str) = some (L + 3) := rfl
  have cFo : (envFm F).cells.lookup ("folder" : Str) = some (L + 4) := rfl
  have low₀ := F.low
  have W₀ := F.toFx.W
  refine wpAny_execs_cons (forL R.hd ?_)
  refine F.toFx.ldC (v := .ref D₂) (by rfl) hcm ⟨D₂, zs, fun I pre s' => ∃ m' cm', Fm w s₀ g (envFm F) m' cm' s' ∧ m' "ones" = some (.ref D₃) ∧ m' "others" = some (.ref D₄) ∧ TabJ I ((envFm F).qual ++ "<lambda>") s'.heap ∧ I ≠ L ∧ (∀ p ∈ (envFm F).cells, I ≠ p.2) ∧ g.get? I = none ∧ I ≠ 151, rfl, F.toFx.list hD₂, ?_, ?_, ?_, ?_, ?_⟩
  · rintro s₂ rfl
    refine ⟨_, _, F.keeps (kpush s _), hm₁, hm₂, .inl (Heap.get?_push_of_some _ hPt), ?_, fun p hp => ?_, ?_, ?_⟩
    · exact Nat.ne_of_gt F.toFx.ns.lt
    · obtain ⟨v, o, ho, _⟩ := F.cw p hp
      exact Nat.ne_of_gt (Heap.lt_size ho)
    · cases q : g.get? s.heap.objs.size with
      | none => rfl
      | some o => exact absurd (Heap.lt_size (F.toFx.keep _ _ q)) (Nat.lt_irrefl _)
    · exact Nat.ne_of_gt (Heap.lt_size hPt)
  · rintro I pre s' ⟨m', cm', F', _⟩
    exact F'.toFx.list hD₂
  · rintro I pre s' h' ⟨m', cm', F', eo, en, hp, i1, i2, i3, i4⟩ hx
    exact ⟨m', cm', F'.but (tk := s'.toks) hx i1 i2 i3, eo, en, hp.but hx i4, i1, i2, i3, i4⟩
  · rintro I pre v post s' he ⟨m', cm', F', eo, en, hp, i1, i2, i3, i4⟩ hit
    have LT := hp.lamT
    obtain ⟨x, t, rfl, hx⟩ := strs_mem hS (by rw [he]; simp : v ∈ zs)
    have hx100 := hxsz x hx
    refine F'.stC' cFo (fun s₂ F₂ k₂ => ?_)
    obtain ⟨oc₁, hoc₁, hof₁, hos₁⟩ := F'.cellObj cFo
    have LT := LT.step k₂ hoc₁ hof₁
    have hit := iter_step hit k₂ hoc₁ hof₁
    -- head
    refine wpAny_execs_cons (wpAny_Assign_Name ?_)
    refine evCallF (K := KF w) (by rfl) (fun Q' q => F₂.toFx.ldG rfl q) ?_
    refine wpAny_items_cons (F₂.toFx.ldC (by rfl) (if_pos rfl) (wpAny_items_nil ⟨F₂.toFx.wd.X, ?_⟩))
    refine t137 F₂.toFx.wd (R.le (by omega)) (by omega) (fun H s₃ K₃ hH tH => ?_)
    have F₃ := F₂.keeps K₃
    have LT := LT.sub (ksub K₃)
    have hit : s₃.heap.IsListIter I D₂ (pre.length + 1) := hit.at fun o e => ksub K₃ _ o e
    refine F₃.stC' cH (fun s₄ F₄ k₄ => ?_)
    obtain ⟨oc₂, hoc₂, hof₂, hos₂⟩ := F₃.cellObj cH
    have LT := LT.step k₄ hoc₂ hof₂
    have hit := iter_step hit k₄ hoc₂ hof₂
    have tH := txts_step tH k₄ hoc₂ hos₂
    show wpAny _ _ _ _ _ _
    -- alike
    refine wpAny_execs_cons (wpAny_Assign_Name (cut (P := fun v s'' => ∃ Al, v = .ref Al ∧ Txts g Al (if absB x then xs.filter absB else xs.filter fun y => !absB y) ∧ Keeps s₄ s'') (wpAny_IfExp (wpAny_isTrue_Compare1 ?_)) ?_))
    · refine evTakeS (F₄.toFx.ldC (by rfl) ((if_neg (by decide)).trans (if_pos rfl)) (wpAny_Constant_int ⟨x, t, 1, _, rfl, rfl, by omega, fun t' s₅ K₅ => ?_⟩))
      refine Constant_str (PyProof.Rows.eq_str (wpAny_truthy_bool ?_))
      rw [sw_slice]
      have K₆ : Keeps s₄ { s₅ with toks := s₅.toks + 1 } := ktrans (⟨_, _, rfl, fun _ _ e => e⟩ : Keeps s₄ _) (ktrans K₅ (ktok _ _))
      have F₆ := F₄.keeps K₆
      cases hb : Txt.startswith x "/" with
      | true =>
        show wpAny _ _ _ _ _ _
        exact F₆.toFx.ldL eo ⟨D₃, rfl, by rw [show absB x = true from hb]; exact tO, K₆⟩
      | false =>
        show wpAny _ _ _ _ _ _
        exact F₆.toFx.ldL en ⟨D₄, rfl, by rw [show absB x = false from hb]; exact tN, K₆⟩
    rintro v₅ s₅ ⟨Al, rfl, tA, K₅⟩
    have hys : ∀ y ∈ (if absB x then xs.filter absB else xs.filter fun y => !absB y), y.length ≤ 100 ∧ absB y = absB x := fun y hy => by
      cases hb : absB x with
      | true =>
        rw [hb] at hy
        have := List.mem_filter.mp hy
        exact ⟨hxsz y this.1, this.2⟩
      | false =>
        rw [hb] at hy
        have := List.mem_filter.mp (show y ∈ xs.filter (fun y => !absB y) from hy)
        exact ⟨hxsz y this.1, by simpa using this.2⟩
    have hyl : (if absB x then xs.filter absB else xs.filter fun y => !absB y).length ≤ 8 := by
      cases absB x with
      | true => exact Nat.le_trans (List.length_filter_le _ _) hxl
      | false => exact Nat.le_trans (List.length_filter_le _ _) hxl
    generalize hY : (if absB x then xs.filter absB else xs.filter fun y => !absB y) = al at tA hys hyl
    have F₅ := F₄.keeps K₅
    have LT := LT.sub (ksub K₅)
    have hit : s₅.heap.IsListIter I D₂ (pre.length + 1) := hit.at fun o e => ksub K₅ _ o e
    have tH := tH.sub (ksub K₅)
    refine F₅.stL' (fun s₆ F₆ k₆ => ?_)
    obtain ⟨oc₃, hoc₃, hof₃, hos₃⟩ := F₅.frameObj
    have LT := LT.step k₆ hoc₃ hof₃
    have hit := iter_step hit k₆ hoc₃ hof₃
    have tH := txts_step tH k₆ hoc₃ hos₃
    obtain ⟨as, hAl, hSa⟩ := tA
    have hal := hSa.len_eq
    have hph : (pieces x).length ≤ 2000 := by
      unfold pieces
      exact Nat.le_trans (List.length_filter_le _ _) (split_len (by omega))
    have test : ∀ (C : Addr) (v : Value) (s₇ s₈ : Shared) (m₈ : Str → Option Value) (scope : Scope) (cenv : Env), v ∈ as → True := fun _ _ _ _ _ _ _ _ => trivial
    -- within
    refine wpAny_execs_cons (F₆.afilt (cl := [("head", L + 3)]) R.hd (beg (pieces x)) (by rfl) (by rfl) (sub_cells1 (by rfl)) (by rfl) ?_ (fun _ => rfl))
    refine F₆.toFx.ldL (if_pos rfl) ⟨krefl _, Al, as, rfl, F₆.toFx.list hAl, by omega, ?_, ?_⟩
    · intro C v s₈ m₈ hv hm F₈
      obtain ⟨p', t', rfl, hp'⟩ := strs_mem hSa hv
      have hp100 := (hys p' hp').1
      refine TestOn.one (fun E' => wpAny_isTrue_Compare1 ?_)
      refine evTake ?_
      refine evCallF (K := KF w) (by rfl) (fun Q' q => F₈.ldG rfl q) ?_
      refine wpAny_items_cons (F₈.ldL hm (wpAny_items_nil ⟨F₈.wd.X, t137 F₈.wd (R.le (by omega)) (by omega) (fun l' s₉ K₉ _ tl => ?_)⟩))
      have F₉ := F₈.keeps K₉
      obtain ⟨hs', hlh, hSh⟩ := tH.sub F₉.keep
      have hshl := hSh.len_eq
      refine evCallM (fun Q' q => F₉.ldB rfl rfl q) ?_
      refine wpAny_items_cons (F₉.ldC (by rfl) (if_pos rfl) (wpAny_items_nil (call_len_list hlh (by simp only [List.size_toArray]; omega) ?_)))
      obtain ⟨ps', hlp, hSp⟩ := tl
      have hpl : ps'.length ≤ 2000 := by rw [hSp.len_eq]; unfold pieces; exact Nat.le_trans (List.length_filter_le _ _) (split_len (by omega))
      refine ⟨l', ps', hs'.toArray.size, _, rfl, rfl, hlp, by omega, fun D s₁₀ K₁₀ _ hD => ?_⟩
      have F₁₀ := F₉.keeps (ktrans (⟨_, _, rfl, fun _ _ e => e⟩ : Keeps s₉ _) K₁₀)
      refine F₁₀.ldC (by rfl) (if_pos rfl) ?_
      refine eq_txts ⟨_, hD, hSp.take' _⟩ (tH.sub F₁₀.keep) (R.le (d' := 0) (by omega)).un (wpAny_truthy_bool ⟨?_, ?_⟩)
      · rw [List.size_toArray, hshl]; rfl
      · exact ktrans K₉ (ktrans (⟨_, _, rfl, fun _ _ e => e⟩ : Keeps s₉ _) K₁₀)
    intro D₅ s₇ F₇ k₇ hD₅n hD₅
    obtain ⟨oc₄, hoc₄, hof₄, hos₄⟩ := F₆.frameObj
    have LT := LT.step k₇ hoc₄ hof₄
    have hit := iter_step hit k₇ hoc₄ hof₄
    have tH := txts_step tH k₇ hoc₄ hos₄
    have tW : Txts s₇.heap D₅ (al.filter fun y => decide ((pieces y).take (pieces x).length = pieces x)) := ⟨_, hD₅, strs_filter (f := beg (pieces x)) (fun _ _ => rfl) hSa⟩
    show wpAny _ _ _ _ _ _
    -- without
    refine wpAny_execs_cons (F₇.afilt (cl := [("head", L + 3)]) R.hd (nbeg (pieces x)) (by rfl) (by rfl) (sub_cells1 (by rfl)) (by rfl) ?_ (fun _ => rfl))
    refine F₇.toFx.ldL ((if_neg (by decide)).trans (if_pos rfl)) ⟨krefl _, Al, as, rfl, F₇.toFx.list hAl, by omega, ?_, ?_⟩
    · intro C v s₈ m₈ hv hm F₈
      obtain ⟨p', t', rfl, hp'⟩ := strs_mem hSa hv
      have hp100 := (hys p' hp').1
      refine TestOn.one (fun E' => wpAny_isTrue_Compare1 ?_)
      refine evTake ?_
      refine evCallF (K := KF w) (by rfl) (fun Q' q => F₈.ldG rfl q) ?_
      refine wpAny_items_cons (F₈.ldL hm (wpAny_items_nil ⟨F₈.wd.X, t137 F₈.wd (R.le (by omega)) (by omega) (fun l' s₉ K₉ _ tl => ?_)⟩))
      have F₉ := F₈.keeps K₉
      obtain ⟨hs', hlh, hSh⟩ := tH.sub F₉.keep
      have hshl := hSh.len_eq
      refine evCallM (fun Q' q => F₉.ldB rfl rfl q) ?_
      refine wpAny_items_cons (F₉.ldC (by rfl) (if_pos rfl) (wpAny_items_nil (call_len_list hlh (by simp only [List.size_toArray]; omega) ?_)))
      obtain ⟨ps', hlp, hSp⟩ := tl
      have hpl : ps'.length ≤ 2000 := by rw [hSp.len_eq]; unfold pieces; exact Nat.le_trans (List.length_filter_le _ _) (split_len (by omega))
      refine ⟨l', ps', hs'.toArray.size, _, rfl, rfl, hlp, by omega, fun D s₁₀ K₁₀ _ hD => ?_⟩
      have F₁₀ := F₉.keeps (ktrans (⟨_, _, rfl, fun _ _ e => e⟩ : Keeps s₉ _) K₁₀)
      refine F₁₀.ldC (by rfl) (if_pos rfl) ?_
      refine ne_txts ⟨_, hD, hSp.take' _⟩ (tH.sub F₁₀.keep) (R.le (d' := 0) (by omega)).un (wpAny_truthy_bool ⟨?_, ?_⟩)
      · rw [List.size_toArray, hshl]; rfl
      · exact ktrans K₉ (ktrans (⟨_, _, rfl, fun _ _ e => e⟩ : Keeps s₉ _) K₁₀)
    intro D₆ s₉ F₉ k₉ hD₆n hD₆
    obtain ⟨oc₅, hoc₅, hof₅, hos₅⟩ := F₇.frameObj
    have LT := LT.step k₉ hoc₅ hof₅
    have hit := iter_step hit k₉ hoc₅ hof₅
    have tW := txts_step tW k₉ hoc₅ hos₅
    have tV : Txts s₉.heap D₆ (al.filter fun y => !decide ((pieces y).take (pieces x).length = pieces x)) := ⟨_, hD₆, strs_filter (f := nbeg (pieces x)) (fun _ _ => rfl) hSa⟩
    show wpAny _ _ _ _ _ _
    -- _split_list by the lambda
    refine wpAny_execs_cons (wpAny_If (wpAny_isTrue_Compare1 ?_))
    refine evCallF (K := KF w) (by rfl) (fun Q' q => F₉.toFx.ldG rfl q) ?_
    refine wpAny_items_cons (F₉.toFx.ldL (v := .ref Al) ((if_neg (by decide)).trans ((if_neg (by decide)).trans (if_pos rfl))) (wpAny_items_cons ?_))
    have LT0 := LT
    refine F₉.lam (T.keeps low₀) (C.keeps low₀) rfl hP hPc LT rfl (by rfl) (fun f c' ctv s₁₀ F₁₀ k₁₀ hf hobj hrec LT hf151 => wpAny_items_nil ⟨F₁₀.toFx.wd.X, ?_⟩)
    have hcell : s₁₀.heap.IsCell (L + 4) (some (.str x t)) := (show cmFm F₁₀ ("folder" : Str) = some (.str x t) from (if_neg (by decide)).trans (if_pos rfl)) ▸ F₁₀.toFx.cell _ _ cFo
    have ne151 : ∀ {l : Addr} {ys : List Str}, Txts s₉.heap l ys → l ≠ 151 := fun {l ys} tx q => by
      obtain ⟨vs, hl, _⟩ := tx
      rcases LT0 with y | ⟨c', y, _⟩
      · exact tab_not_list y (q ▸ hl)
      · exact tab_not_list y (q ▸ hl)
    have mv : ∀ {l : Addr} {ys : List Str}, Txts s₉.heap l ys → Txts s₁₀.heap l ys := fun {l ys} tx => by
      have h1 := ne151 tx
      obtain ⟨vs, hl, hSt⟩ := tx
      exact ⟨vs, hl.at fun o e => k₁₀ _ o h1 e, hSt⟩
    have hit : s₁₀.heap.IsListIter I D₂ (pre.length + 1) := hit.at fun o e => k₁₀ _ o i4 e
    refine t28b F₁₀.toFx.wd (R.le (by omega)) (d := 12) (by omega) (Txts.sub ⟨as, hAl, hSa⟩ F₁₀.toFx.keep) (by omega)
      (lam_pred (xs := al) F₁₀.toFx.wd hobj hrec (fun v => rfl) rfl hcell hx100 hys (by rfl) (fun _ => rfl) (fun _ => rfl) (fun _ => rfl)) (fun T₀ Y N s₁₁ K₁₁ hT hY hN => ?_)
    have F₁₁ := F₁₀.keeps K₁₁
    refine wpAny_Tuple (wpAny_items_cons (F₁₁.toFx.ldL (v := .ref D₅) ((if_neg (by decide)).trans (if_pos rfl)) (wpAny_items_cons (F₁₁.toFx.ldL (v := .ref D₆) (if_pos rfl) (wpAny_items_nil ⟨by size_fits, ?_⟩)))))
    have F₁₂ := F₁₁.keeps (kpush s₁₁ { cls := .type "tuple", data := .seq ([.ref D₅, .ref D₆] : List Value).toArray })
    refine ne_pairs (hT.at fun o e => Heap.get?_push_of_some _ e) ⟨_, Heap.get?_push_size _ rfl, rfl, _, rfl⟩ (hY.sub (Sub.push _ _)) (hN.sub (Sub.push _ _)) ((mv tW).sub ((ksub K₁₁).trans (Sub.push _ _))) ((mv tV).sub ((ksub K₁₁).trans (Sub.push _ _))) rfl rfl (by have := R.un; omega) (wpAny_truthy_bool ?_)
    show wpAny _ _ _ _ _ _
    have hit := (hit.at fun o e => ksub K₁₁ _ o e).at fun o e => Heap.get?_push_of_some { cls := .type "tuple", data := .seq ([.ref D₅, .ref D₆] : List Value).toArray } e
    refine wpAny_execs_nil (wpAny_execs_nil ⟨⟨_, _, F₁₂, ?_, ?_, TabJ.of ((LT.sub (ksub K₁₁)).sub (Sub.push _ _)) hit, i1, i2, i3, i4⟩, hit⟩)
    · exact (if_neg (by decide)).trans ((if_neg (by decide)).trans ((if_neg (by decide)).trans eo))
    · exact (if_neg (by decide)).trans ((if_neg (by decide)).trans ((if_neg (by decide)).trans en))
  · rintro I s' ⟨m', cm', F', eo, en, hp, _⟩
    show wpAny _ _ _ _ _ _
    refine wpAny_execs_cons (wpAny_Return_some (wpAny_Constant_bool ?_))
    refine hQ s' m' cm' F' ?_
    rcases hp with hp | ⟨c', _, hp, _⟩
    · exact ⟨_, hp⟩
    · exact ⟨_, hp⟩
end
end Mine

end

section
open PySem PySem.W PyProof.Rows PySem.Calls
set_option maxRecDepth 100000
namespace Mine
section
variable {w : World} {A : Around} {s s₀ : Shared}
set_option maxHeartbeats 4000000

theorem law_body {L fa l : Addr} {oc : Value} {od : Option Addr} {osl : Array (Option Value)} {fd : FuncData} {body : List Stmt} {m cm : Str → Option Value} {vs : List Value} {ns : List Int}
    {p : Program} {loose : List Str} {mean : ExcName → Option Value} {mg mb : Str → Option Value} {Q : Flow → Shared → Prop}
    (e : (KF w).lookup 154 = some ⟨oc, od, .func fd, osl⟩) (hb : fd.body = .stmts body) (F : Fm w s₀ s₀.heap (envOfC fd.qualname fd.scope L fa (.ref 153)) m cm s) (hm : m "script" = some (.ref l)) (R : Rm A 25)
    (hfr : A.frames = some [envOfC fd.qualname fd.scope L fa (.ref 153)]) (TT : Top p loose mean mg mb s₀.heap) (C : CodeHd s₀.heap 153 151) (hP : s₀.heap.get? 151 = none) (hPt : s.heap.get? 151 = some (tabObj #[])) (hPc : ∀ q ∈ (envOfC fd.qualname fd.scope L fa (.ref 153)).cells, 151 ≠ q.2)
    (hl : s₀.heap.IsList l vs.toArray) (hi : IntsAre vs ns) (hlen : ns.length ≤ 63)
    (hQ : ∀ s' m' cm' g', Fm w s₀ g' (envOfC fd.qualname fd.scope L fa (.ref 153)) m' cm' s' → (∃ ps, s'.heap.get? 151 = some (tabObj ps)) → Q (.ret (.bool true)) s') :
    wpAny (model PR w) A (execs body (envOfC fd.qualname fd.scope L fa (.ref 153))) Q (fun _ _ => False) s := by
  have r := (rfl : (KF w).lookup 154 = some ⟨_, _, .func _, _⟩)
  have e2 := r.symm.trans e
  injection e2 with e3
  injection e3 with _ _ e4 _
  injection e4 with e5
  subst e5
  injection hb with hb
  subst hb
  clear r e
  dsimp only at F hfr hPc hQ ⊢
  have hvl : vs.length ≤ 63 := by rw [hi.length]; exact hlen
  -- numbers
  refine wpAny_execs_cons (wpAny_Assign_Name (F.toFx.lcompL (cl := []) R.hd (fun _ => true) (fun _ y => smallInt y) (closureFor_none (by decide)) (fun _ _ e => by cases e) (by rfl) ?_))
  refine evTake (F.toFx.ldL hm (wpAny_Constant_int ⟨l, vs, 63, _, rfl, rfl, F.toFx.list hl, by omega, fun D s₁ K hDn hD => ?_⟩))
  have hPt₁ : s₁.heap.get? 151 = some (tabObj #[]) := ksub K _ _ hPt
  refine ⟨ktrans (ktok _ _) K, D, vs.take 63, rfl, hD, by rw [List.length_take, sizeLine_eq]; omega, ?_, ?_, ?_⟩
  · intro C v s₃ m₃ hv hm₃ F₃
    exact TestOn.nil
  · intro C v s₃ m₃ hv _ hm₃ F₃ E'
    obtain ⟨n, t, rfl⟩ := ints_mem hi (List.mem_of_mem_take hv)
    exact wpAny_BinOp (F₃.ldL hm₃ (wpAny_BinOp (wpAny_Constant_int (wpAny_Constant_int (pow_ten (mod_int' (by decide) ⟨⟨_, _, rfl, fmod_small n⟩, ⟨_, _, rfl, fun _ _ e => e⟩⟩))))))
  intro D₁ s₂ ys K₂ hD₁n hD₁ hF₁
  have hys : ∀ v ∈ ys, smallInt v := paired_all (P := smallInt) (fun _ _ h => h) hF₁
  have hysl : ys.length ≤ 63 := by
    have h1 := hF₁.length
    have h2 := List.length_filter_le (fun _ : Value => true) (vs.take 63)
    rw [List.length_take] at h2
    omega
  have hPt₂ : s₂.heap.get? 151 = some (tabObj #[]) := ksub K₂ _ _ hPt
  obtain ⟨g₁, hg₁, F, hex₁, adv₁⟩ := (F.keeps K₂).advX [151] (by simpa using hP)
  have hD₁ := list_of_advX adv₁ hD₁.isList (by rw [List.mem_singleton]; exact Ne.symm (not_in hPt₁ hD₁n))
  have cN : (envFm F).cells.lookup ("numbers" : Str) = some (L + 1) := rfl
  have cP : (envFm F).cells.lookup ("paths" : Str) = some (L + 2) := rfl
  have cH : (envFm F).cells.lookup ("head" : Str) = some (L + 3) := rfl
  have cFo : (envFm F).cells.lookup ("folder" : Str) = some (L + 4) := rfl
  refine F.stC' (c := L + 1) (by rfl) (fun s₃ F k₃ => ?_)
  have hPt₃ : s₃.heap.get? 151 = some (tabObj #[]) := k₃ _ _ (hPc _ (mem_of_lookup cN)) hPt₂
  show wpAny _ _ _ _ _ _
  -- paths
  refine wpAny_execs_cons (wpAny_Assign_Name (F.toFx.lcompR (cl := [("numbers", L + 1)]) R.hd (fun _ => true) (fun _ y => strOfLe 20 y) (by rfl) (sub_cells1 (by rfl)) (by rfl) ?_))
  refine evCallM (fun Q' q => F.toFx.ldB rfl rfl q) ?_
  refine wpAny_items_cons (wpAny_Constant_int (wpAny_items_nil ?_))
  refine call_range_1 ⟨?_, _, _, _, _, _, rfl, IsRange.new .., ?_, ?_, ?_, ?_, ?_⟩
  · exact ⟨_, _, rfl, Sub.push _ _⟩
  · decide
  · decide
  · intro C i tk s₅ m₅ hi hm F₅
    exact TestOn.nil
  · intro C i tk s₅ m₅ hi _ hm F₅ E'
    have hi8 : i < 8 := hi
    refine evCallF (K := KF w) (by rfl) (fun Q' q => F₅.ldG rfl q) ?_
    refine wpAny_items_cons (wpAny_BinOp ?_)
    refine evCallM (fun Q' q => F₅.ldB rfl rfl q) ?_
    have up₅ : Sub g₁ s₅.heap := (F.toFx.keep.trans (Sub.push _ _)).trans F₅.keep
    refine wpAny_items_cons (evStep (F₅.ldC (v := .ref D₁) (by rfl) (if_pos rfl) (F₅.ldL hm (wpAny_Constant_int ⟨D₁, ys, i, 8, _, _, rfl, rfl, rfl, by decide, up₅.list hD₁, by omega, fun D s₆ zs K₆ hD hmem hzl => ?_⟩))))
    refine wpAny_items_nil (sumInts R.hd hD (fun v hv => hys v (hmem v hv)) (by omega) (fun n t s₇ K₇ h0 h1 => ?_))
    have K57 : Keeps s₅ s₇ := ktrans (⟨_, _, rfl, fun _ _ e => e⟩ : Keeps s₅ _) (ktrans K₆ K₇)
    have F₇ := F₅.keeps K57
    refine Subscript_ (wpAny_Tuple ?_)
    refine wpAny_items_cons (wpAny_Constant_int (wpAny_items_cons (wpAny_Constant_int (wpAny_items_cons (wpAny_Constant_int (wpAny_items_cons (wpAny_Constant_int (wpAny_items_cons (wpAny_Constant_int (wpAny_items_cons (wpAny_Constant_int (wpAny_items_cons (wpAny_Constant_int (wpAny_items_cons (wpAny_Constant_int (wpAny_items_nil ⟨by size_fits, ?_⟩))))))))))))))))
    have F₈ := F₇.keeps (kmk s₇ (s₇.toks + 1 + 1 + 1 + 1 + 1 + 1 + 1 + 1) (Sub.push s₇.heap { cls := .type "tuple", data := .seq (List.toArray [.int 4 s₇.toks, .int 52 (s₇.toks + 1), .int 7 (s₇.toks + 1 + 1), .int 98 (s₇.toks + 1 + 1 + 1), .int 3 (s₇.toks + 1 + 1 + 1 + 1), .int 12 (s₇.toks + 1 + 1 + 1 + 1 + 1), .int 0 (s₇.toks + 1 + 1 + 1 + 1 + 1 + 1), .int 37 (s₇.toks + 1 + 1 + 1 + 1 + 1 + 1 + 1)]) }))
    refine F₈.ldL hm ?_
    refine Exists.elim (eight_at s₇.toks (s₇.toks + 1) (s₇.toks + 1 + 1) (s₇.toks + 1 + 1 + 1) (s₇.toks + 1 + 1 + 1 + 1) (s₇.toks + 1 + 1 + 1 + 1 + 1) (s₇.toks + 1 + 1 + 1 + 1 + 1 + 1) (s₇.toks + 1 + 1 + 1 + 1 + 1 + 1 + 1) hi8) fun k hk => Exists.elim hk fun tk' hk => ?_
    refine item_tupleT (j := i) ⟨_, Heap.get?_push_size _ rfl, rfl, _, rfl⟩ (by omega) (by omega) hk.2.2.2 hk.1 ?_
    refine add_int (wpAny_items_nil ⟨F₈.wd.X, ?_⟩)
    have F₉ := F₈.keeps (s' := { s₇ with heap := s₇.heap.push { cls := .type "tuple", data := .seq (List.toArray [.int 4 s₇.toks, .int 52 (s₇.toks + 1), .int 7 (s₇.toks + 1 + 1), .int 98 (s₇.toks + 1 + 1 + 1), .int 3 (s₇.toks + 1 + 1 + 1 + 1), .int 12 (s₇.toks + 1 + 1 + 1 + 1 + 1), .int 0 (s₇.toks + 1 + 1 + 1 + 1 + 1 + 1), .int 37 (s₇.toks + 1 + 1 + 1 + 1 + 1 + 1 + 1)]) }, toks := s₇.toks + 1 + 1 + 1 + 1 + 1 + 1 + 1 + 1 + 1 }) ⟨_, _, rfl, fun _ _ e => e⟩
    refine t132 F₉.wd (R.le (by omega)) (by omega) (by omega) (fun x t s₁₀ K₁₀ hx => ⟨⟨x, t, rfl, hx⟩, ktrans K57 (ktrans ⟨_, _, rfl, Sub.push _ _⟩ K₁₀)⟩)
  intro D₂ s₄ zs vs₂ K₄ hD₂n hD₂ hlen₂ _ hF₂
  have hzl : zs.length ≤ 8 := by
    have h1 := hF₂.length
    have h2 := List.length_filter_le (fun _ : Value => true) vs₂
    have h3 : vs₂.length = 8 := hlen₂
    omega
  obtain ⟨xs, hS, hxs⟩ := strs_of_all (n := 20) (paired_all (P := strOfLe 20) (fun _ _ h => h) hF₂)
  have hPt₄ : s₄.heap.get? 151 = some (tabObj #[]) := ksub K₄ _ _ hPt₃
  obtain ⟨g₂, hg₂, F, hex₂, adv₂⟩ := (F.keeps K₄).advX [151] hex₁
  have hD₂ := list_of_advX adv₂ hD₂.isList (by rw [List.mem_singleton]; exact Ne.symm (not_in (Heap.get?_push_of_some _ hPt₃) hD₂n))
  refine F.stC' (c := L + 2) (by rfl) (fun s₅ F k₅ => ?_)
  have hPt₅ : s₅.heap.get? 151 = some (tabObj #[]) := k₅ _ _ (hPc _ (mem_of_lookup cP)) hPt₄
  show wpAny _ _ _ _ _ _
  have hxl : xs.length ≤ 8 := by have := hS.len_eq; omega
  have hxsz : ∀ x ∈ xs, x.length ≤ 100 := fun x hx => by have := hxs x hx; omega
  have hLP : (151 : Addr) ≠ L := fun q => by
    obtain ⟨o, es, n, ho, hd, _⟩ := F.toFx.ns
    have : s₅.heap.get? L = some (tabObj #[]) := q ▸ hPt₅
    rw [show (envFm F).locals = L from rfl] at ho
    rw [this] at ho; cases ho; cases hd
  -- ones
  refine wpAny_execs_cons (F.afilt (cl := []) R.hd absV (by rfl) (closureFor_none (by decide)) (fun _ _ e => by cases e) (by rfl) ?_ (fun _ => rfl))
  refine F.toFx.ldC (by rfl) (if_pos rfl) ⟨krefl _, D₂, zs, rfl, F.toFx.list hD₂, by omega, ?_, ?_⟩
  · intro C v s₃ m₃ hv hm F₃
    obtain ⟨p, t, rfl, hp⟩ := strs_mem hS hv
    refine TestOn.one (fun E' => wpAny_isTrue_Compare1 ?_)
    refine evTakeS (F₃.ldL hm (wpAny_Constant_int ⟨p, t, 1, _, rfl, rfl, by have := hxsz p hp; omega, fun t' s₄ K => ?_⟩))
    refine Constant_str (PyProof.Rows.eq_str (wpAny_truthy_bool ⟨sw_slice p, ?_⟩))
    exact ktrans (ktrans (ktok _ _) K) (ktok _ _)
  intro D₃ s₆ F k₆ hD₃n hD₃
  have hPt₆ : s₆.heap.get? 151 = some (tabObj #[]) := k₆ _ _ hLP hPt₅
  obtain ⟨g₃, hg₃, F, hex₃, adv₃⟩ := F.advX [151] hex₂
  have hD₃ := list_of_advX adv₃ hD₃ (by rw [List.mem_singleton]; exact Ne.symm (not_in hPt₅ hD₃n))
  -- others
  refine wpAny_execs_cons (F.afilt (cl := []) R.hd notAbs (by rfl) (closureFor_none (by decide)) (fun _ _ e => by cases e) (by rfl) ?_ (fun _ => rfl))
  refine F.toFx.ldC (by rfl) (if_pos rfl) ⟨krefl _, D₂, zs, rfl, F.toFx.list (hg₃.list hD₂), by omega, ?_, ?_⟩
  · intro C v s₃ m₃ hv hm F₃
    obtain ⟨p, t, rfl, hp⟩ := strs_mem hS hv
    refine TestOn.one (fun E' => wpAny_isTrue_Compare1 ?_)
    refine evTakeS (F₃.ldL hm (wpAny_Constant_int ⟨p, t, 1, _, rfl, rfl, by have := hxsz p hp; omega, fun t' s₄ K => ?_⟩))
    refine Constant_str (ne_str (wpAny_truthy_bool ⟨?_, ?_⟩))
    · show (!(Txt.slice p none (some 1) == "/")) = !absB p
      rw [sw_slice]
    · exact ktrans (ktrans (ktok _ _) K) (ktok _ _)
  intro D₄ s₇ F k₇ hD₄n hD₄
  have hPt₇ : s₇.heap.get? 151 = some (tabObj #[]) := k₇ _ _ hLP hPt₆
  obtain ⟨g₄, hg₄, F, hex₄, adv₄⟩ := F.advX [151] hex₃
  have hD₄ := list_of_advX adv₄ hD₄ (by rw [List.mem_singleton]; exact Ne.symm (not_in hPt₆ hD₄n))
  have tP : Txts g₄ D₂ xs := ⟨zs, hg₄.list (hg₃.list hD₂), hS⟩
  have tO : Txts g₄ D₃ (xs.filter absB) := ⟨_, hg₄.list hD₃, strs_filter (fun _ _ => rfl) hS⟩
  have tN : Txts g₄ D₄ (xs.filter fun x => !absB x) := ⟨_, hD₄, strs_filter (fun _ _ => rfl) hS⟩
  -- _split_list by isabs
  refine wpAny_execs_cons (wpAny_If (wpAny_isTrue_Compare1 ?_))
  refine evCallF (K := KF w) (by rfl) (fun Q' q => F.toFx.ldG rfl q) ?_
  refine wpAny_items_cons (F.toFx.ldC (by rfl) (if_pos rfl) (wpAny_items_cons (F.toFx.ldG rfl (wpAny_items_nil ⟨F.toFx.wd.X, ?_⟩))))
  refine t28b F.toFx.wd (R.le (by omega)) (d := 4) (by omega) (tP.sub F.toFx.keep) (by omega) (pred_isabs F.toFx.wd xs) (fun T Y N s₈ K₈ hT hY hN => ?_)
  have F := F.keeps K₈
  refine wpAny_Tuple (wpAny_items_cons (F.toFx.ldL (v := .ref D₃) (by rfl) (wpAny_items_cons (F.toFx.ldL (v := .ref D₄) (by rfl) (wpAny_items_nil ⟨by size_fits, ?_⟩)))))
  have F := F.keeps (kpush s₈ { cls := .type "tuple", data := .seq ([.ref D₃, .ref D₄] : List Value).toArray })
  refine ne_pairs (hT.at fun o e => Heap.get?_push_of_some _ e) ⟨_, Heap.get?_push_size _ rfl, rfl, _, rfl⟩ (hY.sub (Sub.push _ _)) (hN.sub (Sub.push _ _)) (tO.sub F.toFx.keep) (tN.sub F.toFx.keep) rfl rfl (by have := R.un; omega) (wpAny_truthy_bool ?_)
  have hPt₈ : (s₈.heap.push { cls := .type "tuple", data := .seq ([.ref D₃, .ref D₄] : List Value).toArray }).get? 151 = some (tabObj #[]) := Heap.get?_push_of_some _ (ksub K₈ _ _ hPt₇)
  show wpAny _ _ _ _ _ _
  refine wpAny_execs_nil ?_
  show wpAny _ _ _ _ _ _
  generalize hs9 : ({ s₈ with heap := s₈.heap.push { cls := .type "tuple", data := .seq ([.ref D₃, .ref D₄] : List Value).toArray } } : Shared) = s₉ at F
  have hPt₉ : s₉.heap.get? 151 = some (tabObj #[]) := by rw [← hs9]; exact hPt₈
  -- for some in ...
  refine wpAny_execs_cons (cut (P := fun f s' => f = .next ∧ ∃ m' g', Sub g₄ g' ∧ g'.get? 151 = none ∧ Fm w s₀ g' (envFm F) m' (cmFm F) s' ∧ m' "ones" = some (.ref D₃) ∧ m' "others" = some (.ref D₄) ∧ s'.heap.get? 151 = some (tabObj #[])) (forL R.hd ?_) ?_)
  · refine wpAny_BinOp (wpAny_List (wpAny_items_cons (F.toFx.ldL (v := .ref D₃) (by rfl) (wpAny_items_cons (F.toFx.ldL (v := .ref D₄) (by rfl) (wpAny_items_nil ⟨by size_fits, ?_⟩))))))
    have F₁ := F.keeps (kpush s₉ { cls := .type "list", data := .seq ([.ref D₃, .ref D₄] : List Value).toArray })
    refine F₁.toFx.lcompOR (cl := [("paths", L + 2)]) R.hd (fun i => xs.take i) (by rfl) (sub_cells1 (by rfl)) (by rfl) ?_
    refine evCallM (fun Q' q => F₁.toFx.ldB rfl rfl q) ?_
    refine wpAny_items_cons (wpAny_Constant_int (wpAny_items_nil ?_))
    refine call_range_1 ⟨?_, _, _, _, _, _, rfl, IsRange.new .., ?_, ?_, ?_, ?_⟩
    · exact ⟨_, _, rfl, Sub.push _ _⟩
    · decide
    · decide
    · intro C i tk s₁₀ m₁₀ hi9 hm F₁₀ E'
      have up : Sub g₄ s₁₀.heap := (F₁.toFx.keep.trans (Sub.push _ _)).trans F₁₀.keep
      obtain ⟨ws, hw, hSw⟩ := tP
      have hwl := hSw.len_eq
      refine evTake (F₁₀.ldC (v := .ref D₂) (by rfl) (if_pos rfl) (F₁₀.ldL hm ⟨D₂, ws, i, _, rfl, rfl, up.list hw, by omega, fun D s₁₁ K hDn hD => ⟨D, rfl, hDn, ⟨_, hD, hSw.take' i⟩, K⟩⟩))
    intro D₅ s₁₀ ws K₁₀ hD₅n hD₅ hr₅
    have F₁₀ := F₁.keeps K₁₀
    refine addLists (vs := [.ref D₃, .ref D₄]) ((ksub K₁₀).list ⟨_, Heap.get?_push_size _ rfl, rfl, _, rfl⟩) hD₅ (by have := hr₅.len; simp at this; simp; omega) ?_
    have F₁₁ := F₁₀.keeps (kpush s₁₀ { cls := .type "list", data := .seq ([Value.ref D₃, Value.ref D₄] ++ ws).toArray })
    have hl₁₁ : (s₁₀.heap.push { cls := .type "list", data := .seq ([Value.ref D₃, Value.ref D₄] ++ ws).toArray }).IsList s₁₀.heap.objs.size ([Value.ref D₃, Value.ref D₄] ++ ws).toArray := ⟨_, Heap.get?_push_size _ rfl, rfl, _, rfl⟩
    have hPt₁₁ : (s₁₀.heap.push { cls := .type "list", data := .seq ([Value.ref D₃, Value.ref D₄] ++ ws).toArray }).get? 151 = some (tabObj #[]) := Heap.get?_push_of_some _ (ksub K₁₀ _ _ (Heap.get?_push_of_some _ hPt₉))
    generalize hs11 : ({ s₁₀ with heap := s₁₀.heap.push { cls := .type "list", data := .seq ([Value.ref D₃, Value.ref D₄] ++ ws).toArray } } : Shared) = s₁₁ at F₁₁ ⊢
    have hl₁₁' : s₁₁.heap.IsList s₁₀.heap.objs.size ([Value.ref D₃, Value.ref D₄] ++ ws).toArray := by rw [← hs11]; exact hl₁₁
    have hPt₁₁' : s₁₁.heap.get? 151 = some (tabObj #[]) := by rw [← hs11]; exact hPt₁₁
    have hne151 : (151 : Addr) ≠ s₁₀.heap.objs.size := Nat.ne_of_lt (Heap.lt_size (ksub K₁₀ _ _ (Heap.get?_push_of_some _ hPt₉)))
    obtain ⟨g₅, hg₅, F₅, hex₅, adv₅⟩ := F₁₁.advX [151] hex₄
    have hl₅ := list_of_advX adv₅ hl₁₁' (by rw [List.mem_singleton]; exact Ne.symm hne151)
    have hrows : RowsAre s₁₁.heap ([Value.ref D₃, Value.ref D₄] ++ ws) ([xs.filter absB, xs.filter fun x => !absB x] ++ (List.range (9 : Int).toNat).map fun i => xs.take i) :=
      .cons (tO.sub F₁₁.toFx.keep) (.cons (tN.sub F₁₁.toFx.keep) (hr₅.sub (by rw [← hs11]; exact Sub.push _ _)))
    have hrows := rows_of_advX adv₅ (fun a ha xs => by rw [List.mem_singleton.mp ha]; exact tab_not_list hPt₁₁') hrows
    have hrs : ∀ r ∈ [xs.filter absB, xs.filter fun x => !absB x] ++ (List.range (9 : Int).toNat).map fun i => xs.take i, r.length ≤ 100 ∧ ∀ x ∈ r, x.length ≤ 100 := fun r hr => by
      rcases List.mem_append.mp hr with hr | hr
      · rcases List.mem_cons.mp hr with rfl | hr
        · exact ⟨by have := List.length_filter_le absB xs; omega, fun x hx => hxsz x (List.mem_filter.mp hx).1⟩
        · rw [List.mem_singleton.mp hr]
          exact ⟨by have := List.length_filter_le (fun x => !absB x) xs; omega, fun x hx => hxsz x (List.mem_filter.mp hx).1⟩
      · obtain ⟨i, _, rfl⟩ := List.mem_map.mp hr
        exact ⟨by rw [List.length_take]; omega, fun x hx => hxsz x (List.mem_of_mem_take hx)⟩
    refine ⟨s₁₀.heap.objs.size, _, fun I pre s' => ∃ m', Fm w s₀ g₅ (envFm F) m' (cmFm F) s' ∧ m' "ones" = some (.ref D₃) ∧ m' "others" = some (.ref D₄) ∧ s'.heap.get? 151 = some (tabObj #[]) ∧ I ≠ L ∧ (∀ p ∈ (envFm F).cells, I ≠ p.2) ∧ g₅.get? I = none ∧ I ≠ 151, rfl, hl₁₁', ?_, ?_, ?_, ?_, ?_⟩
    · rintro s₂ rfl
      refine ⟨_, F₅.keeps (kpush s₁₁ _), by rfl, by rfl, Heap.get?_push_of_some _ hPt₁₁', ?_, fun p hp => ?_, ?_, ?_⟩
      · exact Nat.ne_of_gt F₅.toFx.ns.lt
      · obtain ⟨v, o, ho, _⟩ := F₅.cw p hp
        exact Nat.ne_of_gt (Heap.lt_size ho)
      · cases q : g₅.get? s₁₁.heap.objs.size with
        | none => rfl
        | some o => exact absurd (Heap.lt_size (F₅.toFx.keep _ _ q)) (Nat.lt_irrefl _)
      · exact Nat.ne_of_gt (Heap.lt_size hPt₁₁')
    · rintro I pre s' ⟨m', F', _⟩
      exact F'.toFx.list hl₅
    · rintro I pre s' h' ⟨m', F', eo, en, hp, i1, i2, i3, i4⟩ hx
      exact ⟨m', F'.but (tk := s'.toks) hx i1 i2 i3, eo, en, hx _ _ (Ne.symm i4) hp, i1, i2, i3, i4⟩
    · rintro I pre v post s' he ⟨m', F', eo, en, hp, i1, i2, i3, i4⟩ hit
      obtain ⟨r, rs, rfl, hin, hT'⟩ := hrows.mem (by rw [he]; simp : v ∈ _)
      have hrr := hrs rs hin
      refine F'.stL' (fun s'' F'' k'' => ?_)
      have hp'' := k'' _ _ hLP hp
      have hit'' : s''.heap.IsListIter I s₁₀.heap.objs.size (pre.length + 1) := hit.at fun o e => k'' _ o i1 e
      refine wpAny_execs_cons (wpAny_If (wpAny_isTrue_Compare1 ?_))
      refine evCallF (K := KF w) (by rfl) (fun Q' q => F''.toFx.ldG rfl q) ?_
      refine wpAny_items_cons (F''.toFx.ldL (if_pos rfl) (wpAny_items_nil ⟨F''.toFx.wd.X, ?_⟩))
      have W₁ : Wd w (hideAll s''.heap (frs [envFm F])) := F''.toFx.W.sub fun b o q => hideAll_get _ (F''.toFx.keep b o q) fun hm => by
        have hm := mem_one (L := L) rfl hm
        have z := F''.Lg
        rw [hm] at q
        rw [show (envFm F).locals = L from rfl] at z
        rw [z] at q; cases q
      refine t149 F''.toFx.wd (R.le (by omega)) (hT'.sub F''.toFx.keep) hrr.1 hrr.2 hfr (F''.live (lst := []) (fun _ h => nomatch h) rfl) W₁ (fun v1 t1 s₃ K₃ hd1 => ?_)
      have F₃ := F''.keepsF K₃ rfl
      have nfr : ∀ b : Addr, b ≠ L → b ∉ frs [envFm F] := fun b hb hm => by
        exact hb (mem_one (L := L) rfl hm)
      have hp₃ := K₃.keep _ _ hp'' (nfr _ hLP)
      have hit₃ : s₃.heap.IsListIter I s₁₀.heap.objs.size (pre.length + 1) := hit''.at fun o e => K₃.keep _ o e (nfr _ i1)
      refine evCallF (K := KF w) (by rfl) (fun Q' q => F₃.toFx.ldG rfl q) ?_
      refine wpAny_items_cons (F₃.toFx.ldL (if_pos rfl) (wpAny_items_nil ⟨F₃.toFx.wd.X, ?_⟩))
      refine t142 F₃.toFx.wd (R.le (by omega)) (hT'.sub F₃.toFx.keep) hrr.1 hrr.2 (fun v2 t2 s₄ K₄ hd2 => ?_)
      refine ne_str (wpAny_truthy_bool ?_)
      have hveq : (v1 != v2) = false := by rw [due_uniq hd1 hd2]; simp
      rw [hveq]
      show wpAny _ _ _ _ _ _
      refine wpAny_execs_nil (wpAny_execs_nil ⟨⟨_, F₃.keeps K₄, (if_neg (by decide)).trans eo, (if_neg (by decide)).trans en, ksub K₄ _ _ hp₃, i1, i2, i3, i4⟩, hit₃.at fun o e => ksub K₄ _ o e⟩)
    · rintro I s' ⟨m', F', eo, en, hp, _⟩
      exact ⟨rfl, m', g₅, hg₅, hex₅ _ (List.mem_singleton.mpr rfl), F', eo, en, hp⟩
  rintro f s₁₂ ⟨rfl, m', g₅, hg₅, hex₅, F, eo, en, hPt⟩
  show wpAny _ _ _ _ _ _
  exact law_two (l := l) (w := w) (s₀ := s₀) (fa := fa) (fd := _) (body := _) rfl rfl F eo en (by rfl) R TT C hex₅ hPt hPc hLP (tP.sub hg₅) (tO.sub hg₅) (tN.sub hg₅) hxl hxsz (fun s' m' cm' F' hp => hQ s' m' cm' g₅ F' hp)
end
end Mine

end

section
open PySem PySem.W PyProof.Rows PySem.Calls
set_option maxRecDepth 100000
namespace Mine
set_option maxHeartbeats 8000000

theorem law_cells {w : World} {L fa : Addr} {oc : Value} {od : Option Addr} {osl : Array (Option Value)} {fd : FuncData} (e : (KF w).lookup 154 = some ⟨oc, od, .func fd, osl⟩) :
    ∀ q ∈ (envOfC fd.qualname fd.scope L fa (.ref 153)).cells, q.2 = L + 1 ∨ q.2 = L + 2 ∨ q.2 = L + 3 ∨ q.2 = L + 4 := by
  have r := (rfl : (KF w).lookup 154 = some ⟨_, _, .func _, _⟩)
  have e2 := r.symm.trans e
  injection e2 with e3
  injection e3 with _ _ e4 _
  injection e4 with e5
  subst e5
  intro q hq
  have h : q ∈ ([("folder", L + 4), ("head", L + 3), ("paths", L + 2), ("numbers", L + 1)] : List (Str × Addr)) ∨ q ∈ ([("numbers", L + 1), ("paths", L + 2), ("head", L + 3), ("folder", L + 4)] : List (Str × Addr)) := by
    first | exact .inl hq | exact .inr hq
  simp only [List.mem_cons, List.not_mem_nil, or_false] at h
  rcases h with (rfl | rfl | rfl | rfl) | (rfl | rfl | rfl | rfl) <;> simp
theorem law_apart {w : World} {L fa : Addr} {oc : Value} {od : Option Addr} {osl : Array (Option Value)} {fd : FuncData} (e : (KF w).lookup 154 = some ⟨oc, od, .func fd, osl⟩) :
    (envOfC fd.qualname fd.scope L fa (.ref 153)).cells.Pairwise (fun x y => x.2 ≠ y.2) ∧ fd.scope.kind = .function := by
  have r := (rfl : (KF w).lookup 154 = some ⟨_, _, .func _, _⟩)
  have e2 := r.symm.trans e
  injection e2 with e3
  injection e3 with _ _ e4 _
  injection e4 with e5
  subst e5
  refine ⟨?_, rfl⟩
  show List.Pairwise _ (cellsFrom (L + 1) _ [])
  have h : ([("folder", L + 4), ("head", L + 3), ("paths", L + 2), ("numbers", L + 1)] : List (Str × Addr)).Pairwise (fun x y => x.2 ≠ y.2) ∧ ([("numbers", L + 1), ("paths", L + 2), ("head", L + 3), ("folder", L + 4)] : List (Str × Addr)).Pairwise (fun x y => x.2 ≠ y.2) := by
    have n : ∀ i j : Nat, i ≠ j → ((L : Nat) + i : Nat) ≠ (L : Nat) + j := fun i j h q => h (Nat.add_left_cancel q)
    constructor
    · simp only [List.pairwise_cons, List.mem_cons, List.not_mem_nil, or_false, List.Pairwise.nil, and_true, forall_eq_or_imp, forall_eq, false_imp_iff, implies_true]
      exact ⟨⟨n 4 3 (by decide), n 4 2 (by decide), n 4 1 (by decide)⟩, ⟨n 3 2 (by decide), n 3 1 (by decide)⟩, n 2 1 (by decide)⟩
    · simp only [List.pairwise_cons, List.mem_cons, List.not_mem_nil, or_false, List.Pairwise.nil, and_true, forall_eq_or_imp, forall_eq, false_imp_iff, implies_true]
      exact ⟨⟨n 1 2 (by decide), n 1 3 (by decide), n 1 4 (by decide)⟩, ⟨n 2 3 (by decide), n 2 4 (by decide)⟩, n 3 4 (by decide)⟩
  first | exact h.1 | exact h.2

theorem law_fm {w : World} {s₁ : Shared} {g h₁ : Heap} {tk : Nat} {L fa : Addr} {m : Str → Option Value} {oc : Value} {od : Option Addr} {osl : Array (Option Value)} {fd : FuncData} (e : (KF w).lookup 154 = some ⟨oc, od, .func fd, osl⟩)
    (ns : h₁.Ns L m) (keep : Sub g h₁) (W : Wd w g) (hL : g.get? L = none) (c1 : h₁.IsCell (L + 1) none) (c2 : h₁.IsCell (L + 2) none) (c3 : h₁.IsCell (L + 3) none) (c4 : h₁.IsCell (L + 4) none)
    (g1 : g.get? (L + 1) = none) (g2 : g.get? (L + 2) = none) (g3 : g.get? (L + 3) = none) (g4 : g.get? (L + 4) = none) :
    Fm w { s₁ with heap := g } g (envOfC fd.qualname fd.scope L fa (.ref 153)) m (fun _ => none) { s₁ with heap := h₁, toks := tk } := by
  have hc := law_cells (L := L) (fa := fa) e
  have ha := law_apart (L := L) (fa := fa) e
  have cell : ∀ p ∈ (envOfC fd.qualname fd.scope L fa (.ref 153)).cells, h₁.IsCell p.2 none ∧ g.get? p.2 = none ∧ p.2 ≠ L := fun p hp => by
    rcases hc p hp with q | q | q | q <;> rw [q]
    · exact ⟨c1, g1, Nat.succ_ne_self _⟩
    · exact ⟨c2, g2, Nat.ne_of_gt (Nat.lt_add_of_pos_right (by decide))⟩
    · exact ⟨c3, g3, Nat.ne_of_gt (Nat.lt_add_of_pos_right (by decide))⟩
    · exact ⟨c4, g4, Nat.ne_of_gt (Nat.lt_add_of_pos_right (by decide))⟩
  exact ⟨⟨ns, fun n c h => (cell _ (mem_of_lookup h)).1, keep, W, ha.2, rfl, rfl⟩, ⟨h₁, tk, rfl⟩, Sub.refl _, hL, fun p hp => (cell p hp).2.1, fun p hp => (cell p hp).2.2, ha.1, fun p hp => ⟨none, (cell p hp).1⟩⟩

theorem final : PySem.Challenge.rw_in0306_01.Holds := by
  refine hd ?_
  k_go0
  all_goals try k_fold
  rename News _ _ _ _ => NN
  rename Fr _ _ _ _ => FF
  rename Below _ _ _ _ => KK
  rename Top topProg _ _ _ _ _ => TT
  rename Frag.In _ _ => XX
  rename IntsAre _ _ => II
  rename ¬ _ < _ => HC
  rename Shared.gens _ = _ => HG
  rename World => ww
  have e := (rfl : (KF ww).lookup 154 = some ⟨_, _, .func _, _⟩)
  rename Heap.IsList (ghostOf _ _) _ _ => LL
  rename CodeHd _ _ _ => CC
  rename 151 < _ => l151
  have WW : Wd ww _ := ⟨XX, _, _, _, _, topRead_of TT⟩
  have n4 := NN _ (.head _)
  have n3 := NN _ (.tail _ (.head _))
  have n2 := NN _ (.tail _ (.tail _ (.head _)))
  have n1 := NN _ (.tail _ (.tail _ (.tail _ (.head _))))
  have n0 := NN _ (.tail _ (.tail _ (.tail _ (.tail _ (.head _)))))
  refine wpAny_any (law_body e rfl (law_fm (fa := _) e FF.ns FF.keep WW (Heap.get?_none_of_le FF.above) ⟨_, n1.1, by assumption⟩ ⟨_, n2.1, by assumption⟩ ⟨_, n3.1, by assumption⟩ ⟨_, n4.1, by assumption⟩ n1.2.2 n2.2.2 n3.2.2 n4.2.2) ?hm ?R (Around.frames_deeper KK.stack) TT CC n0.2.2 n0.1 ?hPc LL II ?hlen ?hQ)
  case hm => rfl
  case R => exact ⟨rfl, Nat.le_of_ble_eq_true (by first | rfl | kernel_rfl), Nat.le_of_ble_eq_true (by first | rfl | kernel_rfl)⟩
  case hPc =>
    intro q hq
    rcases law_cells e q hq with r | r | r | r <;> rw [r] <;> exact Nat.ne_of_lt (Nat.lt_add_right _ l151)
  case hlen => 
    exact Nat.le_of_not_lt fun q => HC (by simpa using (Int.ofNat_lt.mpr q))
  case hQ =>
    intro s' m' cm' g' F' hp
    obtain ⟨h, tk, rfl⟩ := F'.same
    exact ⟨goodW_bool (b := true) ⟨F'.toFx.ns, fun b o q => F'.toFx.keep b o (F'.low b o q), FF.above⟩ HG (fun _ => rfl) (by kernel_rfl), ⟨hp, trivial⟩⟩
end Mine

end

theorem PySem.Challenge.cw_in0306_01_holds : PySem.Challenge.rw_in0306_01.Holds := by
  exact Mine.final
