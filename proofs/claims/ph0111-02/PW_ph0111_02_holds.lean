import PyProof.Rows.All
import Wide.All
import OpenK.AllK
import Wide.FinOn
import KE.KTurns
import PyProof.Rows.SeqMore3
import PyProof.SliceMore
import KE.KAnyBase
import KE.KEqDeep
import KE.KTurnsDict
import KE.KSortTup
import KE.KDictList
import KE.KItemsList
import PyProof.Rows.Range3
import KE.IntBitsLaws
import KE.KSorted
import KE.KDictAnyGet
import PyProof.AutoIntOpsIf
import PyProof.Rows.RuleN_abs
import PySem.Challenge.RW_ph0111_02
set_option Elab.async false
set_option maxRecDepth 100000
set_option maxHeartbeats 8000000
set_option linter.all false
open PySem PySem.W PyProof.Rows PySem.Spec PySem.Calls
namespace Mine
noncomputable abbrev Led := List (Addr × Obj)
structure Wd where
  w : World
  p : Program
  loose : List Str
  mean : ExcName → Option Value
  mg : Str → Option Value
  mb : Str → Option Value
structure Cx (K : Params → Frag) (W : Wd) (b : Heap) : Prop where
  X : (K W.w.params).In b
  T : Top W.p W.loose W.mean W.mg W.mb b
theorem Cx.keeps {K : Params → Frag} {W : Wd} {b b' : Heap} (C : Cx K W b) (k : b.StaysIn b') : Cx K W b' := ⟨C.X.keeps k, C.T.keeps k⟩
noncomputable def Fresh (g h : Heap) (nw : Led) : Prop := ∀ p ∈ nw, h.get? p.1 = some p.2 ∧ g.get? p.1 = none
noncomputable def Does (prog : Program) (W : Wd) (A : Around) (t : Sem Value) (s : Shared) (g : Heap) (mu : Led) (Post : Value → Led → Prop) : Prop :=
  g.StaysIn s.heap → Fresh g s.heap mu → ∀ (Q E : Value → Shared → Prop),
    (∀ r h' tk' nw, g.StaysIn h' → Fresh g h' nw → Post r nw → Q r { s with heap := h', toks := tk' }) → wpAny (model prog W.w) A t Q E s
noncomputable def valOf (fl : Flow) : Value := match fl with | .ret v => v | _ => .none
noncomputable def Done (s : Shared) (b : Heap) (L : Addr) (Post : Value → Led → Prop) (fl : Flow) (s' : Shared) : Prop :=
  ∃ m nw, Fr b L s'.heap m ∧ News b L s'.heap nw ∧ Post (valOf fl) nw ∧ s' = { s with heap := s'.heap, toks := s'.toks }
theorem Done.intro {s : Shared} {b : Heap} {L : Addr} {Post : Value → Led → Prop} {fl : Flow} {h' : Heap} {tk' : Nat} {m : Str → Option Value} {nw : Led}
    (F : Fr b L h' m) (N : News b L h' nw) (hp : Post (valOf fl) nw) : Done s b L Post fl { s with heap := h', toks := tk' } := ⟨m, nw, F, N, hp, rfl⟩
section
variable {prog : Program} {W : Wd} {A : Around} {s : Shared} {K : Params → Frag}
theorem use {b : Heap} {L : Addr} {m : Str → Option Value} {news mu : Led} {t : Sem Value} {Post : Value → Led → Prop} {Q E : Value → Shared → Prop}
    (F : Fr b L s.heap m) (N : News b L s.heap (mu ++ news)) (hd : ∀ p ∈ news, ∀ q ∈ mu, p.1 ≠ q.1)
    (S : ∀ g, b.StaysIn g → (∀ p ∈ news, g.get? p.1 = some p.2) → Does prog W A t s g mu Post)
    (k : ∀ r h' tk' nw, Fr b L h' m → News b L h' (nw ++ news) → (∀ p ∈ nw, ∀ q ∈ news, p.1 ≠ q.1) → Post r nw → Q r { s with heap := h', toks := tk' }) :
    wpAny (model prog W.w) A t Q E s := by
  have nm : ∀ c o, b.get? c = some o → c ∉ mu.map (·.1) := fun c o e q => by
    obtain ⟨p, hp, rfl⟩ := List.mem_map.mp q
    rw [(N p (List.mem_append_left _ hp)).2.2] at e; cases e
  have st : b.StaysIn (hideAll s.heap (mu.map (·.1))) := fun c o e => hideAll_get _ (F.keep c o e) (nm c o e)
  obtain ⟨oL, es, ep, hL, hLd, hLk, hLf⟩ := F.ns
  have nL : L ∉ mu.map (·.1) := fun q => by
    obtain ⟨p, hp, e⟩ := List.mem_map.mp q
    exact (N p (List.mem_append_left _ hp)).2.1 e
  have hLg := hideAll_get (mu.map (·.1)) hL nL
  have nN : ∀ p ∈ news, (hideAll s.heap (mu.map (·.1))).get? p.1 = some p.2 := fun p hp => hideAll_get _ (N p (List.mem_append_right _ hp)).1 fun q => by
    obtain ⟨q, hq, e⟩ := List.mem_map.mp q
    exact hd p hp q hq e.symm
  refine S _ st nN (fun c o e => of_hideAll _ e) (fun p hp => ⟨(N p (List.mem_append_left _ hp)).1, hideAll_none _ (List.mem_map_of_mem hp)⟩) Q E fun r h' tk' nw st' fr' hp => ?_
  refine k r h' tk' nw ⟨⟨oL, es, ep, st' L oL hLg, hLd, hLk, hLf⟩, fun c o e => st' c o (st c o e), F.above⟩ (fun p hp => ?_) (fun p hp q hq e => ?_) hp
  · rcases List.mem_append.mp hp with hp | hp
    · refine ⟨(fr' p hp).1, fun q => ?_, ?_⟩
      · have := (fr' p hp).2; rw [q, hLg] at this; cases this
      · cases q : b.get? p.1 with
        | none => rfl
        | some o => have := (fr' p hp).2; rw [st _ _ q] at this; cases this
    · have z := N p (List.mem_append_right _ hp)
      exact ⟨st' _ _ (nN p hp), z.2.1, z.2.2⟩
  · have := (fr' p hp).2; rw [e, nN q hq] at this; cases this
theorem use0 {b : Heap} {L : Addr} {m : Str → Option Value} {news : Led} {t : Sem Value} {Post : Value → Led → Prop} {Q E : Value → Shared → Prop}
    (F : Fr b L s.heap m) (N : News b L s.heap news)
    (S : ∀ g, b.StaysIn g → (∀ p ∈ news, g.get? p.1 = some p.2) → Does prog W A t s g [] Post)
    (k : ∀ r h' tk' nw, Fr b L h' m → News b L h' (nw ++ news) → (∀ p ∈ nw, ∀ q ∈ news, p.1 ≠ q.1) → Post r nw → Q r { s with heap := h', toks := tk' }) :
    wpAny (model prog W.w) A t Q E s := use (mu := []) F N (fun _ _ _ hq => nomatch hq) S k
theorem enterX {g : Heap} {mu : Led} {Post : Value → Led → Prop} {name qual : Str} {params : Arguments} {body : List Stmt} {scope : Scope} {cl : List (Str × Addr)} {dV kV doc pm cdv ct : Value} {an : Option Addr} {fo : Obj} {f : Addr} {pos : List Value} {kw : List (Str × Value)} {binds : List (Str × Value)}
    (C : Cx K W g) (ho : g.get? f = some fo) (hd : fo.data = .func (fnX name qual params body scope cl dV kV doc pm an cdv ct)) (hcd : g.CodeRec cdv qual) (hroom : A.depth < recursionLimit)
    (hbind : g.StaysIn s.heap → BindsTo s (fnX name qual params body scope cl dV kV doc pm an cdv ct) ⟨pos, kw⟩ binds) (hloc : ∀ y ∈ binds, scope.names.lookup y.1 = some .local)
    (hcell : ∀ x ∈ scope.names, x.2 ≠ .cell)
    (h : ∀ b L' h₁, g.StaysIn b → Cx K W b → Fr b L' h₁ (fun y => binds.reverse.lookup y) → News b L' h₁ mu → (∀ p ∈ mu, p.1 < L') →
      wpAny (model prog W.w) (A.deeper (envX qual scope L' f cdv cl)) (execs body (envX qual scope L' f cdv cl)) (Done s b L' Post) (fun _ _ => False)
        { s with heap := h₁, toks := s.toks + binds.length })
    (hco : scope.isCoroutine = false) (hgen : scope.isGenerator = false) (hk : scope.kind = .function) :
    Does prog W A (call (.ref f) pos kw) s g mu Post := by
  intro st0 fr Q E ret
  have st : g.StaysIn (hideAll s.heap (mu.map (·.1))) := fun c o e => hideAll_get _ (st0 c o e) fun q => by
    obtain ⟨p, hp, rfl⟩ := List.mem_map.mp q
    rw [(fr p hp).2] at e; cases e
  refine wpAny_call (codeAny_call_def (fd := fnX name qual params body scope cl dV kV doc pm an cdv ct) (body := body) (binds := binds) hroom (st0 _ _ ho) hd (C.T.nolimit.keeps st0) (hcd.keeps st0) rfl (hbind st0) hcell hloc (fun h₁ hns hk₁ => ?_) hco hgen hk)
  refine wpAny_mono (h _ s.heap.objs.size h₁ st (C.keeps st) ⟨hns, fun b o e => hk₁ b o (of_hideAll _ e), Nat.le_of_eq (hideAll_size _ _)⟩
    (fun p hp => ⟨hk₁ _ _ (fr p hp).1, Nat.ne_of_lt (Heap.lt_size (fr p hp).1), hideAll_none _ (List.mem_map_of_mem hp)⟩) (fun p hp => Heap.lt_size (fr p hp).1)) (fun fl s' hl => ?_) fun _ _ y => y.elim
  obtain ⟨m', nw, F', N', hp, e⟩ := hl
  rw [e]
  exact ret (valOf fl) s'.heap s'.toks nw (fun c o e => F'.keep c o (st c o e)) (fun p hp => ⟨(N' p hp).1, by
    cases q : g.get? p.1 with
    | none => rfl
    | some o => have := (N' p hp).2.2; rw [st _ _ q] at this; cases this⟩) hp
theorem enter {g : Heap} {mu : Led} {Post : Value → Led → Prop} {name qual : Str} {params : Arguments} {body : List Stmt} {scope : Scope} {dV kV doc pm cdv ct oc : Value} {an od : Option Addr} {osl : Array (Option Value)} {f : Addr} {pos : List Value} {kw : List (Str × Value)} {binds : List (Str × Value)}
    (C : Cx K W g) (ho : (K W.w.params).lookup f = some ⟨oc, od, .func (fnX name qual params body scope [] dV kV doc pm an cdv ct), osl⟩) (hcd : codeIn (K W.w.params) cdv qual = true) (hroom : A.depth < recursionLimit)
    (hbind : g.StaysIn s.heap → BindsTo s (fnX name qual params body scope [] dV kV doc pm an cdv ct) ⟨pos, kw⟩ binds) (hloc : ∀ y ∈ binds, scope.names.lookup y.1 = some .local)
    (hcell : ∀ x ∈ scope.names, x.2 ≠ .cell)
    (hco : scope.isCoroutine = false) (hgen : scope.isGenerator = false) (hk : scope.kind = .function)
    (h : ∀ b L' h₁, g.StaysIn b → Cx K W b → Fr b L' h₁ (fun y => binds.reverse.lookup y) → News b L' h₁ mu → (∀ p ∈ mu, p.1 < L') →
      wpAny (model prog W.w) (A.deeper (envX qual scope L' f cdv [])) (execs body (envX qual scope L' f cdv [])) (Done s b L' Post) (fun _ _ => False)
        { s with heap := h₁, toks := s.toks + binds.length }) :
    Does prog W A (call (.ref f) pos kw) s g mu Post :=
  enterX C (C.X _ _ ho) rfl (codeRec_of C.X hcd) hroom hbind hloc hcell h hco hgen hk
theorem enterC {g : Heap} {mu : Led} {Post : Value → Led → Prop} {name qual : Str} {params : Arguments} {body : List Stmt} {scope : Scope} {dV kV doc pm cdv ct oc : Value} {an od : Option Addr} {osl : Array (Option Value)} {f : Addr} {pos : List Value} {kw : List (Str × Value)} {binds : List (Str × Value)}
    (C : Cx K W g) (ho : (K W.w.params).lookup f = some ⟨oc, od, .func (fnX name qual params body scope [] dV kV doc pm an cdv ct), osl⟩) (hcd : codeIn (K W.w.params) cdv qual = true) (hroom : A.depth < recursionLimit)
    (hbind : g.StaysIn s.heap → BindsTo s (fnX name qual params body scope [] dV kV doc pm an cdv ct) ⟨pos, kw⟩ binds)
    (hkind : (binds.all fun y => scope.names.lookup y.1 == some .local || scope.names.lookup y.1 == some .cell) = true)
    (hnd : ((cellsFrom 0 scope.names []).map (·.1)).Nodup)
    (hco : scope.isCoroutine = false) (hgen : scope.isGenerator = false) (hk : scope.kind = .function)
    (h : ∀ b L' h₁ tk cells, g.StaysIn b → Cx K W b → Fr b L' h₁ (bindL (envOfC qual scope L' f cdv).kindOf binds fun _ => none) → News b L' h₁ (cells ++ mu) →
      CellsAre (bindC (envOfC qual scope L' f cdv).kindOf binds fun _ => none) (cellsFrom (L' + 1) scope.names []) cells → (∀ p ∈ mu, p.1 < L') →
      wpAny (model prog W.w) (A.deeper (envOfC qual scope L' f cdv)) (execs body (envOfC qual scope L' f cdv)) (Done s b L' Post) (fun _ _ => False)
        { s with heap := h₁, toks := tk }) :
    Does prog W A (call (.ref f) pos kw) s g mu Post := by
  intro st0 fr Q E ret
  have st : g.StaysIn (hideAll s.heap (mu.map (·.1))) := fun c o e => hideAll_get _ (st0 c o e) fun q => by
    obtain ⟨p, hp, rfl⟩ := List.mem_map.mp q
    rw [(fr p hp).2] at e; cases e
  refine wpAny_call (codeAny_call_function hroom (st0 _ _ (C.X _ _ ho)) rfl hco hgen rfl ((codeRec_of C.X hcd).keeps st0) (hbind st0 _ _ _ _ ?_))
  refine wpAny_newFunctionEnv_cells hk (kindsX hkind _) fun env' he s' x => ?_
  subst he
  refine ⟨(C.T.nolimit.keeps st0).keeps x.toInCall.keep, codeAny_func ?_⟩
  obtain ⟨h₁, tk, rfl, _⟩ := x.done
  have hk₁ := x.toInCall.keep
  obtain ⟨cells, NC, Y⟩ := Cl.news (h₀ := s.heap) (Nat.le_refl _) fun n c hm => ⟨x.cell n c (lookup_of_mem_nodup (cellsFrom_names scope.names 0 (s.heap.objs.size + 1) [] [] rfl ▸ hnd) hm), x.above n c hm⟩
  refine wpAny_mono (h _ s.heap.objs.size h₁ tk cells st (C.keeps st) ⟨x.toInCall.ns, fun b o e => hk₁ b o (of_hideAll _ e), Nat.le_of_eq (hideAll_size _ _)⟩ (fun p hp => ?_) Y (fun p hp => Heap.lt_size (fr p hp).1)) (fun fl s' hl => ?_) fun _ _ y => y.elim
  · rcases List.mem_append.mp hp with hp | hp
    · refine ⟨(NC p hp).1, (NC p hp).2.1, ?_⟩
      cases q : (hideAll s.heap (mu.map (·.1))).get? p.1 with
      | none => rfl
      | some o => have := of_hideAll _ q; rw [(NC p hp).2.2] at this; cases this
    · exact ⟨hk₁ _ _ (fr p hp).1, Nat.ne_of_lt (Heap.lt_size (fr p hp).1), hideAll_none _ (List.mem_map_of_mem hp)⟩
  · obtain ⟨m', nw, F', N', hp, e⟩ := hl
    rw [e]
    exact ret (valOf fl) s'.heap s'.toks nw (fun c o e => F'.keep c o (st c o e)) (fun p hp => ⟨(N' p hp).1, by
      cases q : g.get? p.1 with
      | none => rfl
      | some o => have := (N' p hp).2.2; rw [st _ _ q] at this; cases this⟩) hp
end
theorem hide {G : Prop} (h : ∀ G' : Prop, (G → G') → G') : G := h G id
section
variable {M : Model} {A : Around} {s : Shared} {E : Value → Shared → Prop}
theorem exS {st : Stmt} {rest : List Stmt} {env : Env} {Q : Flow → Shared → Prop} (h : ∀ Q' : Flow → Shared → Prop, (∀ s', wpAny M A (execs rest env) Q E s' → Q' .next s') → (∀ v s', Q (.ret v) s' → Q' (.ret v) s') → wpAny M A (exec st env) Q' E s) : wpAny M A (execs (st :: rest) env) Q E s :=
  wpAny_execs_cons (h _ (fun _ x => x) fun _ _ x => x)
theorem entS {body : List Stmt} {env : Env} {Q : Flow → Shared → Prop} (h : let e := env; ∀ Q' : Flow → Shared → Prop, (∀ f s', Q f s' → Q' f s') → wpAny M (A.deeper e) (execs body e) Q' E s) : wpAny M (A.deeper env) (execs body env) Q E s := h Q fun _ _ x => x
theorem entSE {body : PySem.Expr} {env : Env} {Q : Value → Shared → Prop} (h : let e := env; ∀ Q' : Value → Shared → Prop, (∀ f s', Q f s' → Q' f s') → wpAny M (A.deeper e) (eval body e) Q' E s) : wpAny M (A.deeper env) (eval body env) Q E s := h Q fun _ _ x => x
theorem loopS {target : PySem.Expr} {body : List Stmt} {env : Env} {v : Value} {Q : Flow → Shared → Prop} (h : ∀ Q' : Flow → Shared → Prop, (∀ f s', Q f s' → Q' f s') → wpAny M A (assign target env v) (fun _ s₂ => wpAny M A (execs body env) Q' E s₂) E s) :
    wpAny M A (assign target env v) (fun _ s₂ => wpAny M A (execs body env) Q E s₂) E s := h Q fun _ _ x => x
theorem turnS {target elt : PySem.Expr} {it v : Value} {env : Env} {Q1 : Value → Shared → Prop} {Q0 : Shared → Prop} {T : Env → Sem Bool}
    (h : let e := env; ∀ (P1 : Value → Shared → Prop) (P0 : Shared → Prop), (∀ y s', Q1 y s' → P1 y s') → (∀ s', Q0 s' → P0 s') →
      wpAny M A (letOwnedTupleGo target it v) (fun _ s₁ => wpAny M A (assign target e v) (fun _ s₂ => wpAny M A (T e) (fun ok s₃ => if ok = true then wpAny M A (eval elt e) P1 E s₃ else P0 s₃) E s₂) E s₁) E s) :
    wpAny M A (letOwnedTupleGo target it v) (fun _ s₁ => wpAny M A (assign target env v) (fun _ s₂ => wpAny M A (T env) (fun ok s₃ => if ok = true then wpAny M A (eval elt env) Q1 E s₃ else Q0 s₃) E s₂) E s₁) E s := h Q1 Q0 (fun _ _ x => x) fun _ x => x
end
section
variable {prog : Program} {W : Wd} {A : Around} {s : Shared} {b : Heap} {env : Env}
noncomputable abbrev No : Value → Shared → Prop := fun _ _ => False
noncomputable def Turn (s : Shared) (b : Heap) (L : Addr) (own : Led) (J : (Str → Option Value) → Led → Prop) (Q : Flow → Shared → Prop) (f : Flow) (s' : Shared) : Prop :=
  match f with
  | .ret v => Q (.ret v) s'
  | .brk => Q .next s'
  | _ => ∃ m nw, Fr b L s'.heap m ∧ News b L s'.heap (own ++ nw) ∧ (∀ p ∈ nw, ∀ q ∈ own, p.1 ≠ q.1) ∧ J m nw ∧ s' = { s with heap := s'.heap, toks := s'.toks }
theorem news_split {L : Addr} {h : Heap} {l₁ l₂ : Led} (N : News b L h (l₁ ++ l₂)) : News b L h l₁ ∧ News b L h l₂ :=
  ⟨fun p hp => N p (List.mem_append_left _ hp), fun p hp => N p (List.mem_append_right _ hp)⟩
theorem news_sub {L : Addr} {h : Heap} {l₁ l₂ : Led} (N : News b L h l₂) (k : ∀ p ∈ l₁, p ∈ l₂) : News b L h l₁ := fun p hp => N p (k p hp)
noncomputable def itO (l : Addr) (i : Nat) (o : Obj) : Prop := o.cls = .type "list_iterator" ∧ o.data = .fields #[.ref l, .int i 0]
end
section
variable {M : Model} {prog : Program} {W : Wd} {A : Around} {s : Shared} {b : Heap} {env : Env} {E : Value → Shared → Prop}
theorem lot_name {I : Value} {x : Str} {pos : Pos} {v : Value} {Q : Unit → Shared → Prop} (h : Q () s) : wpAny M A (letOwnedTupleGo (.Name x pos) I v) Q E s := wpAny_pure h
theorem norm {α : Type} {t : Sem α} {Q : α → Shared → Prop} {s' : Shared} {h : Heap} (k : ∀ tk, wpAny M A t Q E { s with heap := h, toks := tk }) (e : s' = { s with heap := h, toks := s'.toks } := by rfl) : wpAny M A t Q E s' := e ▸ k _
theorem ite_b {c : Bool} {p q : Prop} (h1 : c = true → p) (h2 : c = false → q) : if c = true then p else q := by
  cases c with
  | true => exact h1 rfl
  | false => exact h2 rfl
end
section
variable {prog : Program} {w : World} {A : Around} {s : Shared} {h : Heap} {tk : Nat} {env : Env} {E : Value → Shared → Prop} {Q : Value → Shared → Prop} {x y : Int} {t u : Tok}
theorem n_ci {i : Int} {k : Nat} {pos : Pos} (q : ∀ tk', Q (.int i tk) { s with heap := h, toks := tk' }) : wpAny (model prog w) A (eval (.Constant (.int i) k pos) env) Q E { s with heap := h, toks := tk } := wpAny_Constant_int (q _)
theorem n_cs {i : Str} {k : Nat} {pos : Pos} (q : ∀ tk', Q (.str i tk) { s with heap := h, toks := tk' }) : wpAny (model prog w) A (eval (.Constant (.str i) k pos) env) Q E { s with heap := h, toks := tk } := wpAny_Constant_str (q _)
theorem n_add (q : ∀ tk', Q (.int (x + y) tk) { s with heap := h, toks := tk' }) : wpAny (model prog w) A (binaryOp .Add (.int x t) (.int y u)) Q E { s with heap := h, toks := tk } := add_int (q _)
theorem n_sub (q : ∀ tk', Q (.int (x - y) tk) { s with heap := h, toks := tk' }) : wpAny (model prog w) A (binaryOp .Sub (.int x t) (.int y u)) Q E { s with heap := h, toks := tk } := sub_int (q _)
theorem n_mul (hm : IntMulOk x y) (q : ∀ tk', Q (.int (x * y) tk) { s with heap := h, toks := tk' }) : wpAny (model prog w) A (binaryOp .Mult (.int x t) (.int y u)) Q E { s with heap := h, toks := tk } := mul_int (q _) hm
theorem n_fdiv (hb : y ≠ 0) (hp : Builtin.divisionGoesByPylong x y = false) (q : ∀ tk', Q (.int (x.fdiv y) tk) { s with heap := h, toks := tk' }) : wpAny (model prog w) A (binaryOp .FloorDiv (.int x t) (.int y u)) Q E { s with heap := h, toks := tk } := floordiv_int hb (q _) (.inl hp)
theorem n_fmod (hb : y ≠ 0) (q : ∀ tk', Q (.int (x.fmod y) tk) { s with heap := h, toks := tk' }) : wpAny (model prog w) A (binaryOp .Mod (.int x t) (.int y u)) Q E { s with heap := h, toks := tk } := mod_int' hb (q _)
theorem n_iadd (q : ∀ tk', Q (.int (x + y) tk) { s with heap := h, toks := tk' }) : wpAny (model prog w) A (inplaceOp .Add (.int x t) (.int y u)) Q E { s with heap := h, toks := tk } := iadd_int (q _)
theorem n_neg (q : ∀ tk', Q (.int (-x) tk) { s with heap := h, toks := tk' }) : wpAny (model prog w) A (unaryOp .USub (.int x t)) Q E { s with heap := h, toks := tk } := P.neg_int (q _)
end
section
variable {M : Model} {A : Around} {s : Shared} {h b : Heap} {tk : Nat} {E : Value → Shared → Prop} {Q : Value → Shared → Prop} {L : Addr} {m : Str → Option Value} {news : Led} {vs : List Value}
end
section
variable {M : Model} {A : Around} {s : Shared} {h b : Heap} {tk : Nat} {E : Value → Shared → Prop} {Q : Unit → Shared → Prop} {L a : Addr} {m : Str → Option Value} {news : Led} {cn : Str} {cs : Scope} {ccd : Value} {cl : List (Str × Addr)} {x : Str} {v : Value}
end
noncomputable abbrev Rl := Addr → Obj → Prop
noncomputable abbrev hp (h : Heap) : Rl := fun a o => h.get? a = some o
noncomputable abbrev ldg (l : Led) : Rl := fun a o => (a, o) ∈ l
noncomputable abbrev tupO (vs : List Value) : Obj := { cls := .type "tuple", data := .seq vs.toArray }
noncomputable abbrev lstO (vs : List Value) (n : Nat) : Obj := { cls := .type "list", data := .seq vs.toArray n }
noncomputable def txt (k : Int) : Str := if k = 0 then Str.ofString "" else if k = 1 then Str.ofString "a" else Str.ofString "ab"
noncomputable def colV (c : Nat → Int) (i : Nat) (t : Tok) : Value := if i = 1 then .str (txt (c 1)) t else .int (c i) t
noncomputable def txtOk (c : Nat → Int) : Prop := c 1 = 0 ∨ c 1 = 1 ∨ c 1 = 2
noncomputable def RowC (P : Rl) (v : Value) (c : Nat → Int) (rest : List Value) : Prop :=
  ∃ a t0 t1 t2, v = .ref a ∧ P a (tupO (colV c 0 t0 :: colV c 1 t1 :: colV c 2 t2 :: rest))
theorem RowC.mono {P P' : Rl} {v : Value} {c : Nat → Int} {rest : List Value} (h : RowC P v c rest) (k : ∀ a o, P a o → P' a o) : RowC P' v c rest :=
  let ⟨a, t0, t1, t2, e, q⟩ := h; ⟨a, t0, t1, t2, e, k _ _ q⟩
noncomputable abbrev Ks := List (Nat × Int)
noncomputable def KsOk (ks : Ks) : Prop := ∀ k ∈ ks, k.1 < 3 ∧ (k.2 = 1 ∨ k.2 = -1)
noncomputable def KeyAt (P : Rl) (v : Value) (k : Nat × Int) : Prop := ∃ a t t', v = .ref a ∧ P a (tupO [.int k.1 t, .int k.2 t'])
noncomputable def KeysAt (P : Rl) (kl : Addr) (ks : Ks) : Prop := ∃ vs n, P kl (lstO vs n) ∧ vs.length = ks.length ∧ ∀ (i : Nat) (k : Nat × Int), ks[i]? = some k → ∃ v, vs[i]? = some v ∧ KeyAt P v k
noncomputable def OrderAt (P : Rl) (C o : Addr) (ks : Ks) : Prop :=
  ∃ d kl hsh t n, P o (instObj C d) ∧ P d (dictOf [⟨hsh, .str (Str.ofString "comp_select_list") t, .ref kl⟩] n) ∧ KeysAt P kl ks
theorem KeyAt.mono {P P' : Rl} {v : Value} {k : Nat × Int} (h : KeyAt P v k) (q : ∀ a o, P a o → P' a o) : KeyAt P' v k := let ⟨a, t, t', e, z⟩ := h; ⟨a, t, t', e, q _ _ z⟩
theorem KeysAt.mono {P P' : Rl} {kl : Addr} {ks : Ks} (h : KeysAt P kl ks) (q : ∀ a o, P a o → P' a o) : KeysAt P' kl ks :=
  let ⟨vs, n, z, e, k⟩ := h; ⟨vs, n, q _ _ z, e, fun i x hx => let ⟨v, h1, h2⟩ := k i x hx; ⟨v, h1, h2.mono q⟩⟩
theorem OrderAt.mono {P P' : Rl} {C o : Addr} {ks : Ks} (h : OrderAt P C o ks) (q : ∀ a o, P a o → P' a o) : OrderAt P' C o ks :=
  let ⟨d, kl, hsh, t, n, z1, z2, z3⟩ := h; ⟨d, kl, hsh, t, n, q _ _ z1, q _ _ z2, z3.mono q⟩
noncomputable def cmpK : Ks → (Nat → Int) → (Nat → Int) → Int
  | [], _, _ => 0
  | (i, w) :: r, c, d => if c i < d i then -w else if d i < c i then w else cmpK r c d
section
variable {prog : Program} {w : World} {A : Around} {s : Shared} {E : Value → Shared → Prop} {c d : Nat → Int} {i : Nat} {t u : Tok} {Q : Value → Shared → Prop}
theorem txt_lt {a b : Int} (ha : a = 0 ∨ a = 1 ∨ a = 2) (hb : b = 0 ∨ b = 1 ∨ b = 2) : ((txt a).cps.toList < (txt b).cps.toList) ↔ a < b := by
  rcases ha with rfl | rfl | rfl <;> rcases hb with rfl | rfl | rfl <;> decide
theorem lt_col (hc : txtOk c) (hd : txtOk d) (h : Q (.bool (decide (c i < d i))) s) : wpAny (model prog w) A (compareOp .Lt (colV c i t) (colV d i u)) Q E s := by
  unfold colV
  by_cases hi : i = 1
  · rw [if_pos hi, if_pos hi]
    refine lt_str ?_
    subst hi
    have := txt_lt hc hd
    rw [show (decide ((txt (c 1)).cps.toList < (txt (d 1)).cps.toList)) = decide (c 1 < d 1) from decide_eq_decide.mpr this]
    exact h
  · rw [if_neg hi, if_neg hi]
    exact lt_int h
theorem gt_col (hc : txtOk c) (hd : txtOk d) (h : Q (.bool (decide (d i < c i))) s) : wpAny (model prog w) A (compareOp .Gt (colV c i t) (colV d i u)) Q E s := by
  unfold colV
  by_cases hi : i = 1
  · rw [if_pos hi, if_pos hi]
    refine P.gt_str ?_
    subst hi
    have := txt_lt hd hc
    rw [show (decide ((txt (d 1)).cps.toList < (txt (c 1)).cps.toList)) = decide (d 1 < c 1) from decide_eq_decide.mpr this]
    exact h
  · rw [if_neg hi, if_neg hi]
    exact gt_int h
theorem row_item {value slice : PySem.Expr} {a : Addr} {rest : List Value} {t0 t1 t2 u : Tok} {k : Int} (hk : k = (i : Int)) (hi : i < 3) (ho : s.heap.get? a = some (tupO (colV c 0 t0 :: colV c 1 t1 :: colV c 2 t2 :: rest)))
    (h : ∀ t, Q (colV c i t) s)
    (hs : subscripted slice false (.ref a) (.int k u) = operate [.ref a, .int k u] (getItem (.ref a) (.int k u)) := by with_unfolding_all rfl) :
    wpAny (model prog w) A (subscriptTail value slice (.ref a) (.int k u)) Q E s := by
  subst hk
  have ht : IsTup s.heap a (colV c 0 t0 :: colV c 1 t1 :: colV c 2 t2 :: rest).toArray := ⟨_, ho, rfl, _, rfl⟩
  have hl : (colV c 0 t0 :: colV c 1 t1 :: colV c 2 t2 :: rest).length = rest.length + 3 := rfl
  refine item_tupleT (j := i) ht (by omega) (by omega) (by rw [hl]; exact (StrLaws.seqIndex_nonneg (by omega) (by omega)).trans (by simp)) ?_ (h (if i = 0 then t0 else if i = 1 then t1 else t2)) hs
  match i, hi with
  | 0, _ => rfl
  | 1, _ => rfl
  | 2, _ => rfl
end
section
variable {prog : Program} {W : Wd} {A : Around} {s : Shared} {K : Params → Frag}
theorem enterE {g : Heap} {mu : Led} {Post : Value → Led → Prop} {name qual : Str} {params : Arguments} {body : PySem.Expr} {scope : Scope} {cl : List (Str × Addr)} {pm ctv : Value} {c' f : Addr} {pos : List Value} {binds : List (Str × Value)}
    (C : Cx K W g) (ho : g.get? f = some (kla_obj name qual params body scope cl pm c' ctv)) (hcd : g.CodeRec (.ref c') qual) (hroom : A.depth < recursionLimit)
    (hbind : bindArgs (kla_fn name qual params body scope cl pm (.ref c') ctv) ⟨pos, []⟩ = pure binds) (hloc : ∀ y ∈ binds, scope.names.lookup y.1 = some .local)
    (hcell : ∀ x ∈ scope.names, x.2 ≠ .cell) (hco : scope.isCoroutine = false) (hgen : scope.isGenerator = false) (hk : scope.kind = .function)
    (h : ∀ b L' h₁, g.StaysIn b → Cx K W b → Fr b L' h₁ (fun y => binds.reverse.lookup y) → News b L' h₁ mu → (∀ p ∈ mu, p.1 < L') →
      wpAny (model prog W.w) (A.deeper (envX qual scope L' f (.ref c') cl)) (eval body (envX qual scope L' f (.ref c') cl)) (fun v s' => Done s b L' Post (.ret v) s') No
        { s with heap := h₁, toks := s.toks + binds.length }) :
    Does prog W A (call (.ref f) pos) s g mu Post := by
  intro st0 fr Q E ret
  have st : g.StaysIn (hideAll s.heap (mu.map (·.1))) := fun c o e => hideAll_get _ (st0 c o e) fun q => by
    obtain ⟨p, hp, rfl⟩ := List.mem_map.mp q
    rw [(fr p hp).2] at e; cases e
  refine wpAny_call (kla_callFunE hroom (st0 _ _ ho) rfl hco hgen rfl (hcd.keeps st0) ?_)
  rw [hbind]
  refine wpAny_pure (wpAny_newFunctionEnv hcell hloc (fun h₁ hns hsb => ⟨((C.T.nolimit).keeps st0).fresh _ hsb, ?_⟩) hk)
  show codeAny _ _ (.expr body (envX qual scope s.heap.objs.size f (.ref c') cl)) _ _
  have hk₁ : ∀ b o, s.heap.get? b = some o → h₁.get? b = some o := fun b o e => hsb.extBut b o (Nat.ne_of_lt (Heap.lt_size e)) (Heap.get?_push_of_some _ e)
  refine kla_codeExpr (wpAny_mono (h _ s.heap.objs.size h₁ st (C.keeps st) ⟨hns, fun b o e => hk₁ b o (of_hideAll _ e), Nat.le_of_eq (hideAll_size _ _)⟩
    (fun p hp => ⟨hk₁ _ _ (fr p hp).1, Nat.ne_of_lt (Heap.lt_size (fr p hp).1), hideAll_none _ (List.mem_map_of_mem hp)⟩) (fun p hp => Heap.lt_size (fr p hp).1)) (fun v s' hl => ?_) fun _ _ y => y.elim)
  obtain ⟨m', nw, F', N', hp, e⟩ := hl
  rw [e]
  exact ret v s'.heap s'.toks nw (fun c o e => F'.keep c o (st c o e)) (fun p hp => ⟨(N' p hp).1, by
    cases q : g.get? p.1 with
    | none => rfl
    | some o => have := (N' p hp).2.2; rw [st _ _ q] at this; cases this⟩) hp
noncomputable abbrev Or (R : Rl) (nw : Led) : Rl := fun a o => R a o ∨ (a, o) ∈ nw
noncomputable abbrev un (b : Heap) (nw : Led) : Rl := Or (hp b) nw
structure KeyM (prog : Program) (K : Params → Frag) (W : Wd) (R : Rl) (key : Value) (ks : Ks) (c : Nat → Int) (S : List Value → Led) : Prop where
  fn : ∃ q oc od fd sl, key = .ref q ∧ R q ⟨oc, od, .func fd, sl⟩
  call : ∀ {A : Around} {s : Shared} {g : Heap} {v : Value} {d : Nat → Int} {rd its : List Value}, A.depth + 3 < recursionLimit → A.handled = none → Cx K W g → (∀ a o, R a o → g.get? a = some o) → RowC (hp g) v d rd → txtOk d → its.length ≤ 1000 →
    Does prog W A (call key [v]) s g (S its) (fun r nw => (∃ t, r = .int (cmpK ks d c) t) ∧ nw = S (its ++ [v]))
theorem KeyM.mono {prog : Program} {K : Params → Frag} {W : Wd} {R R' : Rl} {key : Value} {ks : Ks} {c : Nat → Int} {S : List Value → Led} (h : KeyM prog K W R key ks c S) (k : ∀ a o, R a o → R' a o) : KeyM prog K W R' key ks c S :=
  ⟨let ⟨q, oc, od, fd, sl, e, z⟩ := h.fn; ⟨q, oc, od, fd, sl, e, k _ _ z⟩, fun h1 h2 C hR => h.call h1 h2 C fun a o q => hR a o (k a o q)⟩
end
noncomputable def TabV (R : Rl) (qual : Str) (ln co : Nat) (ps : Array Value) : Prop :=
  ps = #[] ∨ ∃ c' oc vs t, ps = #[rawInt ln, rawInt co, .ref c'] ∧ R c' oc ∧ oc.data = .fields vs ∧ vs[1]? = some (.str qual t)
theorem TabV.mono {R R' : Rl} {qual : Str} {ln co : Nat} {ps : Array Value} (h : TabV R qual ln co ps) (k : ∀ a o, R a o → R' a o) : TabV R' qual ln co ps :=
  h.imp id fun ⟨c', oc, vs, t, e, z, r⟩ => ⟨c', oc, vs, t, e, k _ _ z, r⟩
section
variable {prog : Program} {w : World} {A : Around} {E : Value → Shared → Prop} {s : Shared} {b : Heap} {L a c P : Addr} {m mg mb : Str → Option Value} {cn : Str} {cs : Scope} {ccd : Value} {cl : List (Str × Addr)} {news : Led}
  {p : Program} {loose : List Str} {mean : ExcName → Option Value} {name qual : Str} {params : Arguments} {body : PySem.Expr} {scope : Scope} {ps : Array Value} {pos : Pos} {firstLine : Nat} {clos : List (Str × Addr)} {R : Rl}
theorem updF_mid {d : Addr} {o : Obj} {news : Led} (h : ∀ p ∈ news, p.1 ≠ d) : UpdF d o ((d, o) :: news) (fun o' => (d, o') :: news) := UpdF.head h
theorem make_lam {Q : Value → Shared → Prop} (F : Fr b L s.heap m) (N : News b L s.heap ((P, tabObj ps) :: news)) (hoff : ∀ p ∈ news, p.1 ≠ P) (T : Top p loose mean mg mb b) (C : CodeHd b c P) (hcd : ccd = .ref c)
    (Tb : TabV R qual pos.line pos.col ps)
    (hcl : closureFor scope (envX cn cs L a ccd cl) = pure clos)
    (h : ∀ f c' oc vs t ctv ps' nc h' tk, Fr b L h' m → News b L h' ((P, tabObj ps') :: (f, kla_obj name qual params body scope clos ((mg "__name__").getD .none) c' ctv) :: nc ++ news) →
      Or R nc c' oc → oc.data = .fields vs → vs[1]? = some (.str qual t) → TabV (Or R nc) qual pos.line pos.col ps' → f ≠ P → (∀ q ∈ nc, q.1 ≠ P) → (∀ q ∈ news, q.1 < f) → (∀ q ∈ news, ∀ r ∈ nc, q.1 < r.1) → Q (.ref f) { s with heap := h', toks := tk }) :
    wpAny (model prog w) A (makeFunction name qual params (.expr body) scope (envX cn cs L a ccd cl) [] [] [] pos firstLine) Q E s := by
  rcases Tb with rfl | ⟨c', oc, vs, t, rfl, zc, e1, e2⟩
  · refine kla_nest F N T C hcd (updF_mid hoff) True.intro rfl hcl ?_
    intro f c' oc vs t ctv h' tk' F' N' e1 e2 l1 l2
    have hPc : P < c' := l1 _ (.head _)
    refine h f c' oc vs t ctv _ [(c', oc)] h' tk' F' (news_sub N' ?_) (.inr (.head _)) e1 e2 (.inr ⟨c', oc, vs, t, rfl, .inr (.head _), e1, e2⟩) (Nat.ne_of_gt (Nat.lt_trans hPc l2)) (fun q hq => by rw [List.mem_singleton.mp hq]; exact Nat.ne_of_gt hPc)
      (fun q hq => Nat.lt_trans (l1 q (.tail _ hq)) l2) (fun q hq r hr => by rw [List.mem_singleton.mp hr]; exact l1 q (.tail _ hq))
    intro q hq
    rcases List.mem_cons.mp hq with rfl | hq
    · exact .tail _ (.tail _ (.head _))
    · rcases List.mem_cons.mp hq with rfl | hq
      · exact .head _
      · rcases List.mem_cons.mp hq with rfl | hq
        · exact .tail _ (.head _)
        · exact .tail _ (.tail _ (.tail _ hq))
  · refine kla_hit (c' := c') F N T C hcd (.head _) (by simp [TriplesOk, rawInt]) (by simp [codeAmong, rawInt]) hcl ?_
    intro f ctv h' tk' F' N' l1
    refine h f c' oc vs t ctv _ [] h' tk' F' (news_sub N' ?_) (.inl zc) e1 e2 (.inr ⟨c', oc, vs, t, rfl, .inl zc, e1, e2⟩) (Nat.ne_of_gt (l1 _ (.head _))) (fun q hq => nomatch hq) (fun q hq => l1 q (.tail _ hq)) (fun _ _ _ hr => nomatch hr)
    intro q hq
    rcases List.mem_cons.mp hq with rfl | hq
    · exact .tail _ (.head _)
    · rcases List.mem_cons.mp hq with rfl | hq
      · exact .head _
      · exact .tail _ (.tail _ hq)
end
section
variable {prog : Program} {W : Wd} {A : Around} {s : Shared} {b : Heap} {env : Env} {L : Addr}
noncomputable def WTurn (s : Shared) (b : Heap) (L : Addr) (k : Nat) (J : Nat → (Str → Option Value) → Led → Prop) (Q : Flow → Shared → Prop) (f : Flow) (s' : Shared) : Prop :=
  match f with
  | .ret v => Q (.ret v) s'
  | .brk => Q .next s'
  | _ => ∃ k' m nw, k' < k ∧ Fr b L s'.heap m ∧ News b L s'.heap nw ∧ J k' m nw ∧ s' = { s with heap := s'.heap, toks := s'.toks }
end
section
variable {prog : Program} {w : World} {A : Around} {s : Shared} {E : Value → Shared → Prop} {Q : Value → Shared → Prop}
theorem list_item {value slice : PySem.Expr} {a : Addr} {vs : List Value} {n i : Nat} {k : Int} {u : Tok} {v : Value} (ho : s.heap.get? a = some (lstO vs n)) (hk : k = (i : Int)) (hi : i < 2 ^ 60) (hx : vs[i]? = some v) (h : Q v s)
    (hs : subscripted slice false (.ref a) (.int k u) = operate [.ref a, .int k u] (getItem (.ref a) (.int k u)) := by with_unfolding_all rfl) :
    wpAny (model prog w) A (subscriptTail value slice (.ref a) (.int k u)) Q E s := by
  subst hk
  have hl : s.heap.IsList a vs.toArray := ⟨_, ho, rfl, n, rfl⟩
  exact tail_any hl.typeIs slot_list_getitem.lookup (wpAny_getItem_list hl (by omega) (by omega) (by simpa using hx) h) hs
end
noncomputable def bisN (p : Nat → Bool) : Nat → Nat → Nat → Nat × List Nat
  | 0, lo, _ => (lo, [])
  | f + 1, lo, hi => if lo < hi then
      (if p ((lo + hi) / 2) then let r := bisN p f ((lo + hi) / 2 + 1) hi; (r.1, (lo + hi) / 2 :: r.2)
       else let r := bisN p f lo ((lo + hi) / 2); (r.1, (lo + hi) / 2 :: r.2))
    else (lo, [])
theorem bisN_more (p : Nat → Bool) : ∀ f lo hi, hi - lo ≤ f → ∀ f', hi - lo ≤ f' → bisN p f lo hi = bisN p f' lo hi := by
  intro f
  induction f with
  | zero =>
    intro lo hi h f' _
    cases f' with
    | zero => rfl
    | succ f' => simp only [bisN]; rw [if_neg (by omega)]
  | succ f ih =>
    intro lo hi h f' h'
    cases f' with
    | zero => simp only [bisN]; rw [if_neg (by omega)]
    | succ f' =>
      simp only [bisN]
      by_cases hl : lo < hi
      · rw [if_pos hl, if_pos hl]
        split
        · rw [ih _ _ (by omega) f' (by omega)]
        · rw [ih _ _ (by omega) f' (by omega)]
      · rw [if_neg hl, if_neg hl]
noncomputable def bis (p : Nat → Bool) (lo hi : Nat) : Nat × List Nat := bisN p (hi - lo) lo hi
theorem bis_done {p : Nat → Bool} {lo hi : Nat} (h : ¬ lo < hi) : bis p lo hi = (lo, []) := by
  unfold bis
  cases hi - lo with
  | zero => rfl
  | succ f => simp only [bisN]; rw [if_neg h]
theorem bis_right {p : Nat → Bool} {lo hi : Nat} (h : lo < hi) (hp : p ((lo + hi) / 2) = true) : bis p lo hi = ((bis p ((lo + hi) / 2 + 1) hi).1, (lo + hi) / 2 :: (bis p ((lo + hi) / 2 + 1) hi).2) := by
  unfold bis
  rw [show hi - lo = (hi - lo - 1) + 1 by omega]
  simp only [bisN]
  rw [if_pos h, if_pos hp, bisN_more p (hi - lo - 1) _ _ (by omega) (hi - ((lo + hi) / 2 + 1)) (by omega)]
theorem bis_left {p : Nat → Bool} {lo hi : Nat} (h : lo < hi) (hp : p ((lo + hi) / 2) = false) : bis p lo hi = ((bis p lo ((lo + hi) / 2)).1, (lo + hi) / 2 :: (bis p lo ((lo + hi) / 2)).2) := by
  unfold bis
  rw [show hi - lo = (hi - lo - 1) + 1 by omega]
  simp only [bisN]
  rw [if_pos h, if_neg (by rw [hp]; exact Bool.false_ne_true), bisN_more p (hi - lo - 1) _ _ (by omega) ((lo + hi) / 2 - lo) (by omega)]
theorem bisN_rng (p : Nat → Bool) : ∀ f lo hi, lo ≤ hi → lo ≤ (bisN p f lo hi).1 ∧ (bisN p f lo hi).1 ≤ hi := by
  intro f
  induction f with
  | zero => intro lo hi h; exact ⟨Nat.le_refl _, h⟩
  | succ f ih =>
    intro lo hi h
    simp only [bisN]
    split
    · split
      · have := ih ((lo + hi) / 2 + 1) hi (by omega); simp only; omega
      · have := ih lo ((lo + hi) / 2) (by omega); simp only; omega
    · exact ⟨Nat.le_refl _, h⟩
theorem bis_rng {p : Nat → Bool} {lo hi : Nat} (h : lo ≤ hi) : lo ≤ (bis p lo hi).1 ∧ (bis p lo hi).1 ≤ hi := bisN_rng p _ lo hi h
theorem cmpK_self (ks : Ks) (c : Nat → Int) : cmpK ks c c = 0 := by
  induction ks with
  | nil => rfl
  | cons k r ih => obtain ⟨i, w⟩ := k; rw [cmpK, if_neg (by omega), if_neg (by omega), ih]
noncomputable def insAt {α : Type} (k : Nat) (y : α) (l : List α) : List α := l.take k ++ y :: l.drop k
theorem kl_insAt {l : List Value} {k : Nat} {y : Value} (h : k ≤ l.length) : kl_ins l (k : Int) y = insAt k y l := by
  unfold kl_ins insAt
  rw [if_neg (by omega), Int.toNat_natCast, Nat.min_eq_left h]
theorem binds2 {s : Shared} {K : Frag} {fd : FuncData} {args : Args} {binds binds' : List (Str × Value)} (X : K.In s.heap) (h : ∀ S, peek K S (bindArgs fd args) = some binds') (hb : binds' = binds) : BindsTo s fd args binds := hb ▸ kp_binds X h
theorem binds_by {s : Shared} {K : Frag} {f : Addr} {oc oc' : Value} {od od' : Option Addr} {fd fd' : FuncData} {sl sl' : Array (Option Value)} {args : Args} {binds : List (Str × Value)} (e : K.lookup f = some ⟨oc, od, .func fd, sl⟩) (e' : K.lookup f = some ⟨oc', od', .func fd', sl'⟩)
    (h : BindsTo s fd' args binds) : BindsTo s fd args binds := by rw [e] at e'; cases e'; exact h
noncomputable abbrev cellO (v : Option Value) : Obj := { cls := .type "cell", data := .cell v }
noncomputable def cellLed : Nat → List (Str × NameKind) → Led
  | _, [] => []
  | n, (_, k) :: r => if k == .cell then (n, cellO none) :: cellLed (n + 1) r else cellLed n r
theorem cellLed_ok : ∀ (names : List (Str × NameKind)) (h : Heap), ∀ p ∈ cellLed h.objs.size names, (pushCells h names).get? p.1 = some p.2 ∧ h.objs.size ≤ p.1
  | [], _, _, hp => nomatch hp
  | (_, k) :: r, h, p, hp => by
    unfold cellLed at hp
    unfold pushCells
    split at hp
    · rename_i hk
      rw [if_pos hk]
      rcases List.mem_cons.mp hp with rfl | hp
      · exact ⟨pushCells_keeps r _ _ _ (Heap.get?_push_size _ rfl), Nat.le_refl _⟩
      · have hs : (h.push (cellO none)).objs.size = h.objs.size + 1 := Heap.size_push ..
        have := cellLed_ok r (h.push (cellO none)) p (by rw [hs]; exact hp)
        rw [hs] at this
        exact ⟨this.1, Nat.le_of_succ_le this.2⟩
    · rename_i hk
      rw [if_neg hk]
      exact cellLed_ok r h p hp
noncomputable def cpEnv (scope : Scope) (cl : List (Str × Addr)) (C : Addr) (env : Env) : Env :=
  { scope := relabel scope env, locals := C, globals := env.globals, cells := cellsFrom (C + 1) scope.names cl, qual := env.qual, func := none, code := env.code, frame := env.frame, builtins := env.builtins }
section
variable {M : Model} {prog : Program} {W : Wd} {A : Around} {s : Shared} {b : Heap} {env : Env} {L : Addr} {E : Value → Shared → Prop}
theorem newCompEnv {scope : Scope} {cl : List (Str × Addr)} {Q : Env → Shared → Prop}
    (h : Q { scope, locals := s.heap.objs.size, globals := env.globals, cells := cellsFrom (s.heap.objs.size + 1) scope.names cl, qual := env.qual, func := none, code := env.code, frame := env.frame, builtins := env.builtins }
      { s with heap := pushCells (s.heap.push { cls := .type "dict", data := .dict #[] }) scope.names }) :
    wpAny M A (newFunctionEnv scope env.globals cl [] env.qual none .none (some env)) Q E s := by
  simp only [newFunctionEnv, Option.isSome_some, if_true]
  refine wpAny_bind (wpAny_alloc ?_)
  refine wpAny_bind (wpAny_layCells _ (fun name kind cells => by cases hkc : kind == NameKind.cell <;> simp [hkc]) _ _ _ _ ?_)
  rw [show ({ s with heap := s.heap.push { cls := .type "dict", data := .dict #[] } } : Shared).heap.objs.size = s.heap.objs.size + 1 from Heap.size_push ..]
  exact wpAny_pure h
theorem codeAny_compLoop_any {elt target iter : PySem.Expr} {ifs : List PySem.Expr} {scope : Scope} {pos : Pos} {it acc : Value} {env : Env} {R : Result → Shared → Prop} (I : Nat → Shared → Prop)
    (turn : ∀ n s, I n s → wpAny (model prog W.w) A (pyNext it) (fun r s₁ => match r with
      | none => R (.ok .next) s₁
      | some v => wpAny (model prog W.w) A (letOwnedTupleGo target it v) (fun _ s₁' => wpAny (model prog W.w) A (assign target env v) (fun _ s₂ =>
          wpAny (model prog W.w) A (forIn ifs true fun c r => if r = true then do let ok ← isTrue c env (eval c env); pure (ForInStep.yield ok) else pure (ForInStep.yield r)) (fun ok s₃ =>
            if ok = true then wpAny (model prog W.w) A (eval elt env) (fun x s₄ =>
              wpAny (model prog W.w) A (call (.builtin "list.append") [acc, x]) (fun _ s₅ => ∃ m, m < n ∧ I m s₅) No s₄) No s₃
            else ∃ m, m < n ∧ I m s₃) No s₂) No s₁') No s₁) No s)
    (n : Nat) (h : I n s) :
    codeAny (model prog W.w) A (.compLoop (.ListComp elt [⟨target, iter, ifs, 0⟩] scope pos) 0 it acc env) R s := by
  refine codeAny_loop rfl I (fun n s hI => ?_) n h
  show wpAny _ A ((compTurn (.ListComp elt [⟨target, iter, ifs, 0⟩] scope pos) 0 it acc env).onRaise (fun x => do noteFrame x env; theTreesLotGoes x)) _ _ s
  refine wpAny_noted ?_
  rw [compTurn_list]
  refine wpAny_bind (wpAny_standAt (wpAny_bind (wpAny_mono (turn n s hI) (fun r s₁ h₁ => ?_) fun _ _ h' => h'.elim)))
  cases r with
  | none => exact wpAny_pure h₁
  | some v =>
    refine wpAny_bind (wpAny_mono h₁ (fun _ s₁' h₁' => ?_) fun _ _ h' => h'.elim)
    refine wpAny_bind (wpAny_mono h₁' (fun _ s₂ h₂ => wpAny_bind (wpAny_mono h₂ (fun ok s₃ h₃ => ?_) fun _ _ h' => h'.elim)) fun _ _ h' => h'.elim)
    cases ok with
    | false => exact wpAny_pure ⟨rfl, h₃⟩
    | true =>
      exact wpAny_bind (wpAny_bind (wpAny_mono h₃ (fun x s₄ h₄ => wpAny_bind (wpAny_mono h₄ (fun _ s₅ h₅ => wpAny_pure (wpAny_pure ⟨rfl, h₅⟩)) fun _ _ h' => h'.elim)) fun _ _ h' => h'.elim))
noncomputable def ItCls (o : Obj) : Prop := o.cls = .type "list_iterator" ∨ o.cls = .type "range_iterator"
theorem lot_it {I : Addr} {io : Obj} {elts : List PySem.Expr} {k : Nat} {pos : Pos} {v : Value} {Q : Unit → Shared → Prop} (hi : ItCls io) (ho : s.heap.get? I = some io) (h : Q () s) :
    wpAny M A (letOwnedTupleGo (.Tuple elts k pos) (.ref I) v) Q E s := by
  obtain ⟨c, d, dt, sl⟩ := io
  unfold letOwnedTupleGo
  cases v <;> first | exact wpAny_pure h | skip
  refine wpAny_bind (wpAny_load ho ?_)
  rcases hi with hi | hi
  · dsimp only at hi
    subst hi
    cases dt <;> exact wpAny_pure h
  · dsimp only at hi
    subst hi
    cases dt <;> exact wpAny_pure h
noncomputable def CEnd (s : Shared) (b' : Heap) (C : Addr) (own : Led) (J : Led → Prop) (s' : Shared) : Prop :=
  ∃ mc nw, Fr b' C s'.heap mc ∧ News b' C s'.heap (own ++ nw) ∧ (∀ p ∈ nw, ∀ q ∈ own, p.1 ≠ q.1) ∧ J nw ∧ s' = { s with heap := s'.heap, toks := s'.toks }
noncomputable abbrev tests (ifs : List PySem.Expr) (env : Env) : Sem Bool := forIn ifs true fun c r => if r = true then do let ok ← isTrue c env (eval c env); pure (ForInStep.yield ok) else pure (ForInStep.yield r)
theorem comp_core {elt target iter : PySem.Expr} {ifs : List PySem.Expr} {scope : Scope} {cl : List (Str × Addr)} {pos : Pos} {m : Str → Option Value} {h₂ : Heap} {tk₂ : Nat} {I : Addr} {io : Obj} {mu news : Led} {fp : List Addr} {n : Nat} {P : Nat → Value → Prop} {St : Nat → Heap → Prop}
    {RR : Value → Addr → Result → Shared → Prop}
    (F : Fr b L h₂ m) (N : News b L h₂ ((I, io) :: (mu ++ news))) (hdm : ∀ p ∈ mu ++ news, p.1 ≠ I) (hdis : ∀ p ∈ news, ∀ q ∈ mu, p.1 ≠ q.1)
    (Wk : Walks prog W.w A I fp [I] n P St) (hfp : ∀ a ∈ fp, a = I ∨ (∃ o, b.get? a = some o) ∨ ∃ o, (a, o) ∈ news) (hst : St 0 h₂) (hIo : ∀ i h, St i h → ∃ o, h.get? I = some o ∧ ItCls o) (hsz : n ≤ 1000)
    (J : Addr → Nat → List Value → Led → Prop) (h0 : ∀ C, (∀ p ∈ mu, p.1 < C) → J C 0 [] (cellLed (C + 1) scope.names ++ mu))
    (turn : ∀ b' C D nD io i v ys mc nw h tk, b.StaysIn b' → (∀ p ∈ news, b'.get? p.1 = some p.2) → i < n → P i v → J C i ys nw → Fr b' C h mc → News b' C h ([(I, io), (D, lstO ys nD)] ++ nw) → (∀ p ∈ nw, ∀ q ∈ [(I, io), (D, lstO ys nD)], p.1 ≠ q.1) → ItCls io →
      wpAny (model prog W.w) A (letOwnedTupleGo target (.ref I) v) (fun _ s₁ => wpAny (model prog W.w) A (assign target (cpEnv scope cl C env) v) (fun _ s₂ => wpAny (model prog W.w) A (tests ifs (cpEnv scope cl C env)) (fun ok s₃ =>
        if ok = true then wpAny (model prog W.w) A (eval elt (cpEnv scope cl C env)) (fun y s₄ => CEnd s b' C [(I, io), (D, lstO ys nD)] (J C (i + 1) (ys ++ [y])) s₄) No s₃
        else CEnd s b' C [(I, io), (D, lstO ys nD)] (J C (i + 1) ys) s₃) No s₂) No s₁) No { s with heap := h, toks := tk })
    (hRR : ∀ C D nD h tk mc ys nw, J C n ys nw → Fr b L h m → News b L h ((D, lstO ys nD) :: (nw ++ news)) → (∀ p ∈ nw, ∀ q ∈ news, p.1 ≠ q.1) → (∀ p ∈ nw ++ news, p.1 ≠ D) → h.Ns C mc → C ≠ L → b.get? C = none → (∀ p ∈ (D, lstO ys nD) :: (nw ++ news), p.1 ≠ C) →
      RR (.ref D) C (.ok .next) { s with heap := h, toks := tk }) :
    wpAny (model prog W.w) A (newList []) (fun acc s₃ => wpAny (model prog W.w) A (newFunctionEnv scope env.globals cl [] env.qual none .none (some env)) (fun cenv s₄ =>
      codeAny (model prog W.w) A (.compStart (.ListComp elt [⟨target, iter, ifs, 0⟩] scope pos) 0 (.ref I) acc { cenv with scope := relabel scope env }) (RR acc cenv.locals) s₄) E s₃) E { s with heap := h₂, toks := tk₂ } := by
  refine wpAny_newObj_type (newCompEnv ?_)
  dsimp only
  obtain ⟨H, hH⟩ : ∃ x, h₂.push { cls := .type "list", dict := none, data := .seq ([] : List Value).toArray } = x := ⟨_, rfl⟩
  rw [hH]
  have hHs : H.objs.size = h₂.objs.size + 1 := by rw [← hH, Heap.size_push]
  obtain ⟨h₁, hH1⟩ : ∃ x, pushCells (H.push { cls := .type "dict", data := .dict #[] }) scope.names = x := ⟨_, rfl⟩
  rw [hH1]
  have kp : ∀ c o, h₂.get? c = some o → h₁.get? c = some o := fun c o e => by
    rw [← hH1]; exact pushCells_keeps _ _ _ _ (Heap.get?_push_of_some _ (hH ▸ Heap.get?_push_of_some _ e))
  have zI := N (I, io) (.head _)
  have hIlt : I < h₂.objs.size := Heap.lt_size zI.1
  have zD : h₁.get? h₂.objs.size = some (lstO [] 0) := by
    rw [← hH1]; exact pushCells_keeps _ _ _ _ (Heap.get?_push_of_some _ (hH ▸ Heap.get?_push_size _ rfl))
  have zC : h₁.Ns H.objs.size (fun _ => none) := by
    rw [← hH1]; exact (Heap.Ns.new H (.type "dict")).keeps (pushCells_keeps _ _)
  have zcl : ∀ p ∈ cellLed (H.objs.size + 1) scope.names, h₁.get? p.1 = some p.2 ∧ H.objs.size + 1 ≤ p.1 := fun p hp => by
    have hs : (H.push { cls := .type "dict", data := .dict #[] }).objs.size = H.objs.size + 1 := Heap.size_push ..
    have := cellLed_ok scope.names (H.push { cls := .type "dict", data := .dict #[] }) p (by rw [hs]; exact hp)
    rw [hs, hH1] at this
    exact this
  have Nm : ∀ p ∈ mu, h₂.get? p.1 = some p.2 ∧ p.1 ≠ L ∧ b.get? p.1 = none := fun p hp => N p (.tail _ (List.mem_append_left _ hp))
  have Nn : ∀ p ∈ news, h₂.get? p.1 = some p.2 ∧ p.1 ≠ L ∧ b.get? p.1 = none := fun p hp => N p (.tail _ (List.mem_append_right _ hp))
  obtain ⟨b', hb'⟩ : ∃ x, hideAll h₂ (I :: mu.map (·.1)) = x := ⟨_, rfl⟩
  have b'of : ∀ c o, b'.get? c = some o → h₂.get? c = some o := fun c o e => by rw [← hb'] at e; exact of_hideAll _ e
  have b'sz : b'.objs.size = h₂.objs.size := by rw [← hb']; exact hideAll_size _ _
  have b'get : ∀ c o, h₂.get? c = some o → c ≠ I → (∀ p ∈ mu, p.1 ≠ c) → b'.get? c = some o := fun c o e h1 h2 => by
    rw [← hb']
    refine hideAll_get _ e fun q => ?_
    rcases List.mem_cons.mp q with q | q
    · exact h1 q
    · obtain ⟨p, hp, e⟩ := List.mem_map.mp q
      exact h2 p hp e
  have b'none : ∀ c, h₂.objs.size ≤ c → b'.get? c = none := fun c hc => by
    cases e : b'.get? c with
    | none => rfl
    | some o => exact absurd (Heap.lt_size (b'of c o e)) (Nat.not_lt.mpr hc)
  have b'I : b'.get? I = none := by rw [← hb']; exact hideAll_none _ (.head _)
  have b'mu : ∀ p ∈ mu, b'.get? p.1 = none := fun p hp => by rw [← hb']; exact hideAll_none _ (.tail _ (List.mem_map_of_mem hp))
  have st : b.StaysIn b' := fun c o e => b'get c o (F.keep c o e) (fun q => by rw [q] at e; rw [zI.2.2] at e; cases e) fun p hp q => by
    rw [← q, (Nm p hp).2.2] at e; cases e
  have nst : ∀ p ∈ news, b'.get? p.1 = some p.2 := fun p hp => b'get _ _ (Nn p hp).1 (hdm p (List.mem_append_right _ hp)) fun q hq e => hdis p hp q hq e.symm
  obtain ⟨oL, es, ep, hL, hLd, hLk, hLf⟩ := F.ns
  have hLb : b'.get? L = some oL := b'get L oL hL (Ne.symm zI.2.1) fun p hp => (Nm p hp).2.1
  have cI : I ≠ H.objs.size := by rw [hHs]; exact Nat.ne_of_lt (Nat.lt_succ_of_lt hIlt)
  have F₁ : Fr b' H.objs.size h₁ (fun _ => none) := ⟨zC, fun c o e => kp c o (b'of c o e), by rw [b'sz, hHs]; exact Nat.le_succ _⟩
  have N₁ : News b' H.objs.size h₁ ([(I, io), (h₂.objs.size, lstO [] 0)] ++ (cellLed (H.objs.size + 1) scope.names ++ mu)) := fun p hp => by
    rcases List.mem_append.mp hp with hp | hp
    · rcases List.mem_cons.mp hp with rfl | hp
      · exact ⟨kp _ _ zI.1, cI, b'I⟩
      · rw [List.mem_singleton.mp hp]
        exact ⟨zD, by show h₂.objs.size ≠ H.objs.size; rw [hHs]; exact Nat.ne_of_lt (Nat.lt_succ_self _), b'none _ (Nat.le_refl _)⟩
    · rcases List.mem_append.mp hp with hp | hp
      · have z := zcl p hp
        exact ⟨z.1, Nat.ne_of_gt z.2, b'none _ (by rw [hHs] at z; exact Nat.le_trans (Nat.le_add_right _ 2) z.2)⟩
      · have z := Nm p hp
        exact ⟨kp _ _ z.1, by rw [hHs]; exact Nat.ne_of_lt (Nat.lt_succ_of_lt (Heap.lt_size z.1)), b'mu p hp⟩
  have D₁ : ∀ p ∈ cellLed (H.objs.size + 1) scope.names ++ mu, ∀ q ∈ [(I, io), (h₂.objs.size, lstO [] 0)], p.1 ≠ q.1 := fun p hp q hq => by
    rcases List.mem_append.mp hp with hp | hp
    · have z := (zcl p hp).2
      rw [hHs] at z
      rcases List.mem_cons.mp hq with rfl | hq
      · exact Nat.ne_of_gt (Nat.lt_of_lt_of_le hIlt (Nat.le_trans (Nat.le_add_right _ 2) z))
      · rw [List.mem_singleton.mp hq]; exact Nat.ne_of_gt (Nat.lt_of_lt_of_le (Nat.lt_succ_of_lt (Nat.lt_succ_self _)) z)
    · rcases List.mem_cons.mp hq with rfl | hq
      · exact hdm p (List.mem_append_left _ hp)
      · rw [List.mem_singleton.mp hq]; exact Nat.ne_of_lt (Heap.lt_size (Nm p hp).1)
  have loop : ∀ tk, codeAny (model prog W.w) A (.compLoop (.ListComp elt [⟨target, iter, ifs, 0⟩] scope pos) 0 (.ref I) (.ref h₂.objs.size) (cpEnv scope cl H.objs.size env)) (RR (.ref h₂.objs.size) H.objs.size) { s with heap := h₁, toks := tk } := fun tk => by
    refine codeAny_compLoop_any (fun k s' => ∃ h tk mc nw i ys nD io, s' = { s with heap := h, toks := tk } ∧ Fr b' H.objs.size h mc ∧ News b' H.objs.size h ([(I, io), (h₂.objs.size, lstO ys nD)] ++ nw) ∧ (∀ p ∈ nw, ∀ q ∈ [(I, io), (h₂.objs.size, lstO ys nD)], p.1 ≠ q.1) ∧ J H.objs.size i ys nw ∧ St i h ∧ i ≤ n ∧ ys.length ≤ i ∧ k = n + 1 - i) ?_ (n + 1)
      ⟨h₁, tk, _, _, 0, [], 0, io, rfl, F₁, N₁, D₁, h0 _ (fun p hp => by rw [hHs]; exact Nat.lt_succ_of_lt (Heap.lt_size (Nm p hp).1)), Wk.frame _ _ _ hst (fun c _ o e => kp c o e), Nat.zero_le _, Nat.le_refl _, rfl⟩
    rintro k s' ⟨h, tk, mc, nw, i, ys, nD, io', rfl, F', N', hd', hJ, hst', hi, hyl, rfl⟩
    have zI' := N' (I, io') (.head _)
    have zD' := N' (h₂.objs.size, lstO ys nD) (.tail _ (.head _))
    have hDI : h₂.objs.size ≠ I := Nat.ne_of_gt hIlt
    have oldI : ∀ c o, b'.get? c = some o → c ≠ I := fun c o e q => by rw [q, b'I] at e; cases e
    by_cases hlt : i < n
    · refine Wk.item i _ _ _ hlt hst' fun v h₃ tk₃ hPv hst₃ hk₃ => ?_
      obtain ⟨io₃, zI₃, ic₃⟩ := hIo _ _ hst₃
      have F₃ : Fr b' H.objs.size h₃ mc := by
        obtain ⟨oC, ces, cep, cC, r⟩ := F'.ns
        exact ⟨⟨oC, ces, cep, hk₃ _ _ (by simpa using Ne.symm cI) cC, r⟩, fun c o e => hk₃ c o (by simpa using oldI c o e) (F'.keep c o e), F'.above⟩
      have nwI : ∀ p ∈ nw, p.1 ≠ I := fun p hp => hd' p hp (I, io') (.head _)
      have N₃ : News b' H.objs.size h₃ ([(I, io₃), (h₂.objs.size, lstO ys nD)] ++ nw) := fun p hp => by
        rcases List.mem_append.mp hp with hp | hp
        · rcases List.mem_cons.mp hp with rfl | hp
          · exact ⟨zI₃, zI'.2⟩
          · rw [List.mem_singleton.mp hp]
            exact ⟨hk₃ _ _ (by simpa using hDI) zD'.1, zD'.2⟩
        · have z := N' p (List.mem_append_right _ hp)
          exact ⟨hk₃ _ _ (by simpa using nwI p hp) z.1, z.2⟩
      have hd₃ : ∀ p ∈ nw, ∀ q ∈ [(I, io₃), (h₂.objs.size, lstO ys nD)], p.1 ≠ q.1 := fun p hp q hq => by
        rcases List.mem_cons.mp hq with rfl | hq
        · exact nwI p hp
        · rw [List.mem_singleton.mp hq]; exact hd' p hp (h₂.objs.size, lstO ys nD) (.tail _ (.head _))
      have frame : ∀ {h₄ : Heap} {mc₄ : Str → Option Value} {nw₄ : Led}, Fr b' H.objs.size h₄ mc₄ → News b' H.objs.size h₄ ([(I, io₃), (h₂.objs.size, lstO ys nD)] ++ nw₄) → St (i + 1) h₄ := fun F₄ N₄ => Wk.frame _ _ _ hst₃ fun c hc o e => by
        rcases hfp c hc with rfl | ⟨o', e'⟩ | ⟨o', e'⟩
        · rw [zI₃] at e; cases e; exact (N₄ _ (.head _)).1
        · have := F₃.keep c o' (st c o' e'); rw [this] at e; cases e; exact F₄.keep c _ (st c _ e')
        · have := F₃.keep c o' (nst _ e'); rw [this] at e; cases e; exact F₄.keep c _ (nst _ e')
      refine wpAny_mono (turn b' H.objs.size h₂.objs.size nD io₃ i v ys mc nw h₃ tk₃ st nst hlt hPv hJ F₃ N₃ hd₃ ic₃) (fun _ s₁ k₁ => ?_) fun _ _ e => e
      refine wpAny_mono k₁ (fun _ s₂ k₂ => ?_) fun _ _ e => e
      refine wpAny_mono k₂ (fun ok s₃ k₃ => ?_) fun _ _ e => e
      cases ok with
      | false =>
        obtain ⟨mc₄, nw₄, F₄, N₄, hd₄, hJ₄, e⟩ := k₃
        exact ⟨n + 1 - (i + 1), by omega, s₃.heap, s₃.toks, mc₄, nw₄, i + 1, ys, nD, io₃, e, F₄, N₄, hd₄, hJ₄, frame F₄ N₄, hlt, Nat.le_succ_of_le hyl, rfl⟩
      | true =>
        refine wpAny_mono k₃ (fun y s₄ k₄ => ?_) fun _ _ e => e
        obtain ⟨mc₄, nw₄, F₄, N₄, hd₄, hJ₄, e⟩ := k₄
        rw [e]
        have zI₄ := N₄ (I, io₃) (.head _)
        have zD₄ := N₄ (h₂.objs.size, lstO ys nD) (.tail _ (.head _))
        have st₄ := frame F₄ N₄
        refine append_at (hsz := by show ys.toArray.size ≤ sizeLine; have hs : sizeLine = 16777216 := rfl; rw [List.size_toArray]; omega) zD₄.1 fun h₅ hs₅ hD₅ => ?_
        have oldD : ∀ c o, b'.get? c = some o → c ≠ h₂.objs.size := fun c o e q => by rw [q, zD₄.2.2] at e; cases e
        have nwD : ∀ p ∈ nw₄, p.1 ≠ h₂.objs.size := fun p hp => hd₄ p hp (h₂.objs.size, lstO ys nD) (.tail _ (.head _))
        refine ⟨n + 1 - (i + 1), by omega, h₅, s₄.toks, mc₄, nw₄, i + 1, ys ++ [y], nD + 1, io₃, rfl, ⟨F₄.ns.sameBut hs₅ (Ne.symm zD₄.2.1), fun c o e => (hs₅.2 c (oldD c o e)).trans (F₄.keep c o e), F₄.above⟩, fun p hp => ?_, fun p hp q hq => ?_, hJ₄, ?_, hlt, by rw [List.length_append, List.length_singleton]; omega, rfl⟩
        · rcases List.mem_append.mp hp with hp | hp
          · rcases List.mem_cons.mp hp with rfl | hp
            · exact ⟨(hs₅.2 _ (Ne.symm hDI)).trans zI₄.1, zI₄.2⟩
            · rw [List.mem_singleton.mp hp]
              exact ⟨by rw [hD₅]; simp [lstO], zD₄.2⟩
          · have z := N₄ p (List.mem_append_right _ hp)
            exact ⟨(hs₅.2 _ (nwD p hp)).trans z.1, z.2⟩
        · rcases List.mem_cons.mp hq with rfl | hq
          · exact hd₄ p hp (I, io₃) (.head _)
          · rw [List.mem_singleton.mp hq]; exact nwD p hp
        · refine Wk.frame _ _ _ st₄ fun c hc o e => (hs₅.2 c ?_).trans e
          rcases hfp c hc with rfl | ⟨o', e'⟩ | ⟨o', e'⟩
          · exact Ne.symm hDI
          · exact oldD c o' (st c o' e')
          · exact oldD c o' (nst _ e')
    · have hin : i = n := by omega
      subst hin
      refine Wk.done _ _ _ hst' fun h₃ tk₃ hk₃ => ?_
      have nwI : ∀ p ∈ nw, p.1 ≠ I := fun p hp => hd' p hp (I, io') (.head _)
      have keep : ∀ c o, b'.get? c = some o → h₃.get? c = some o := fun c o e => hk₃ c o (by simpa using oldI c o e) (F'.keep c o e)
      obtain ⟨oC, ces, cep, cC, r⟩ := F'.ns
      refine hRR H.objs.size h₂.objs.size nD h₃ tk₃ mc ys nw hJ ⟨⟨oL, es, ep, keep L oL hLb, hLd, hLk, hLf⟩, fun c o e => keep c o (st c o e), F.above⟩ (fun p hp => ?_) (fun p hp q hq e => ?_) (fun p hp => ?_) ⟨oC, ces, cep, hk₃ _ _ (by simpa using Ne.symm cI) cC, r⟩ ?_ ?_ (fun p hp => ?_)
      · rcases List.mem_cons.mp hp with rfl | hp
        · refine ⟨hk₃ _ _ (by simpa using hDI) zD'.1, fun q => ?_, ?_⟩
          · have := zD'.2.2; rw [show (h₂.objs.size, lstO ys nD).1 = L from q, hLb] at this; cases this
          · cases q : b.get? h₂.objs.size with
            | none => rfl
            | some o => have := zD'.2.2; rw [st _ _ q] at this; cases this
        · rcases List.mem_append.mp hp with hp | hp
          · have z := N' p (List.mem_append_right _ hp)
            refine ⟨hk₃ _ _ (by simpa using nwI p hp) z.1, fun q => ?_, ?_⟩
            · have := z.2.2; rw [q, hLb] at this; cases this
            · cases q : b.get? p.1 with
              | none => rfl
              | some o => have := z.2.2; rw [st _ _ q] at this; cases this
          · exact ⟨keep _ _ (nst p hp), (Nn p hp).2⟩
      · have := (N' p (List.mem_append_right _ hp)).2.2; rw [e, nst q hq] at this; cases this
      · rcases List.mem_append.mp hp with hp | hp
        · exact hd' p hp (h₂.objs.size, lstO ys nD) (.tail _ (.head _))
        · exact Nat.ne_of_lt (Heap.lt_size (Nn p hp).1)
      · intro q
        have := F.ns.lt
        rw [← q, hHs] at this
        exact absurd this (Nat.not_lt.mpr (Nat.le_succ _))
      · cases q : b.get? H.objs.size with
        | none => rfl
        | some o => have := Heap.lt_size (F.keep _ _ q); rw [hHs] at this; exact absurd this (Nat.not_lt.mpr (Nat.le_succ _))
      · rcases List.mem_cons.mp hp with rfl | hp
        · exact zD'.2.1
        · rcases List.mem_append.mp hp with hp | hp
          · exact (N' p (List.mem_append_right _ hp)).2.1
          · rw [hHs]; exact Nat.ne_of_lt (Nat.lt_succ_of_lt (Heap.lt_size (Nn p hp).1))
  exact codeAny_compStart_list (loop _) (Wk.self 0 _ _ _ (Wk.frame _ _ _ hst fun c _ o e => kp c o e) (loop _))
end
section
variable {prog : Program} {W : Wd} {A : Around} {s : Shared} {b : Heap} {env : Env} {L : Addr}
inductive Src (b : Heap) (news : Led) (h₁ : Heap) : Value → Nat → (Nat → Value → Prop) → Prop
  | list {l : Addr} {vs : List Value} {nl : Nat} : (b.get? l = some (lstO vs nl) ∨ (l, lstO vs nl) ∈ news) → Src b news h₁ (.ref l) vs.length (fun i v => vs[i]? = some v)
  | range {r : Addr} {a e c : Int} {t u v : Tok} {n : Nat} : IsRange h₁ r a e c t u v → Builtin.Range.small a e c = true → Builtin.Range.rangeSize a e c = (n : Int) → Src b news h₁ (.ref r) n (fun i v => ∃ t, v = .int (a + i * c) t)
noncomputable def ItOk (prog : Program) (W : Wd) (A : Around) (b : Heap) (L : Addr) (mu news : Led) (m : Str → Option Value) (h₂ : Heap) (I : Addr) (n : Nat) (P : Nat → Value → Prop) : Prop :=
  ∃ io fp St, Fr b L h₂ m ∧ News b L h₂ ((I, io) :: (mu ++ news)) ∧ (∀ p ∈ mu ++ news, p.1 ≠ I) ∧ Walks prog W.w A I fp [I] n P St ∧ (∀ a ∈ fp, a = I ∨ (∃ o, b.get? a = some o) ∨ ∃ o, (a, o) ∈ news) ∧ St 0 h₂ ∧ (∀ i h, St i h → ∃ o, h.get? I = some o ∧ ItCls o)
theorem iter_src {xv : Value} {n : Nat} {P : Nat → Value → Prop} {h₁ : Heap} {tk₁ : Nat} {m : Str → Option Value} {mu news : Led} {Q : Value → Shared → Prop} {E : Value → Shared → Prop} (hh : A.handled = none)
    (F : Fr b L h₁ m) (N : News b L h₁ (mu ++ news)) (S : Src b news h₁ xv n P)
    (k : ∀ I h₂ tk₂, ItOk prog W A b L mu news m h₂ I n P → Q (.ref I) { s with heap := h₂, toks := tk₂ }) : wpAny (model prog W.w) A (pyIter xv) Q E { s with heap := h₁, toks := tk₁ } := by
  cases S with
  | @list l vs nl hl =>
    have hls : h₁.IsList l vs.toArray := by
      rcases hl with hl | hl
      · exact ⟨_, F.keep _ _ hl, rfl, nl, rfl⟩
      · exact ⟨_, (N _ (List.mem_append_right _ hl)).1, rfl, nl, rfl⟩
    have hlt : l < h₁.objs.size := by obtain ⟨_, e, _⟩ := hls; exact Heap.lt_size e
    refine wpAny_pyIter_list hls ?_
    have Wk := Walks.list (prog := prog) (w := W.w) hh h₁.objs.size l (Nat.ne_of_lt hlt) vs.toArray
    have e1 : vs.toArray.size = vs.length := List.size_toArray ..
    rw [e1] at Wk
    have e2 : (fun (i : Nat) (v : Value) => vs.toArray[i]? = some v) = fun i v => vs[i]? = some v := by funext i v; simp
    rw [e2] at Wk
    refine k h₁.objs.size _ _ ⟨_, _, _, F.push _, N.push F _, fun p hp => Nat.ne_of_lt (Heap.lt_size (N p hp).1), Wk, fun a ha => ?_, ⟨⟨_, Heap.get?_push_size _ rfl, rfl, rfl⟩, hls.push _⟩, fun i h st => by obtain ⟨o, e, c, _⟩ := st.1; exact ⟨o, e, .inl c⟩⟩
    rcases List.mem_cons.mp ha with rfl | ha
    · exact .inl rfl
    · rw [List.mem_singleton.mp ha]
      exact .inr (hl.imp (fun e => ⟨_, e⟩) fun e => ⟨_, e⟩)
  | @range r a e c t u v n hr hsm hn =>
    refine wpAny_pyIter_range hr hsm ?_
    refine k h₁.objs.size _ _ ⟨_, _, _, F.push _, N.push F _, fun p hp => Nat.ne_of_lt (Heap.lt_size (N p hp).1), Walks.range hh h₁.objs.size a c n, fun a ha => .inl (List.mem_singleton.mp ha), ?_, fun i h st => ⟨_, st, .inr rfl⟩⟩
    show IsRangeIter _ _ _ _ _
    rw [hn]
    simpa using Heap.get?_push_size _ rfl
end
section
variable {prog : Program} {W : Wd} {A : Around} {s : Shared} {b : Heap} {env : Env} {L : Addr}
noncomputable def Turn2 (s : Shared) (b : Heap) (L : Addr) (own news : Led) (J : (Str → Option Value) → Led → Prop) (Q : Flow → Shared → Prop) (f : Flow) (s' : Shared) : Prop :=
  match f with
  | .ret v => Q (.ret v) s'
  | .brk => Q .next s'
  | _ => ∃ m nw, Fr b L s'.heap m ∧ News b L s'.heap (own ++ (nw ++ news)) ∧ (∀ p ∈ nw, ∀ q ∈ own ++ news, p.1 ≠ q.1) ∧ J m nw ∧ s' = { s with heap := s'.heap, toks := s'.toks }
end
section
variable {prog : Program} {w : World} {A : Around} {s : Shared} {E : Value → Shared → Prop} {Q : Value → Shared → Prop}
theorem txt_item {value slice : PySem.Expr} {a : Addr} {n : Nat} {k : Int} {u t0 t1 t2 : Tok} (ho : s.heap.get? a = some (lstO [.str (Str.ofString "") t0, .str (Str.ofString "a") t1, .str (Str.ofString "ab") t2] n)) (hk : k = 0 ∨ k = 1 ∨ k = 2) (h : ∀ t, Q (.str (txt k) t) s)
    (hs : subscripted slice false (.ref a) (.int k u) = operate [.ref a, .int k u] (getItem (.ref a) (.int k u)) := by with_unfolding_all rfl) :
    wpAny (model prog w) A (subscriptTail value slice (.ref a) (.int k u)) Q E s := by
  rcases hk with rfl | rfl | rfl
  · exact list_item (i := 0) ho rfl (by decide) rfl (h t0) hs
  · exact list_item (i := 1) ho rfl (by decide) rfl (h t1) hs
  · exact list_item (i := 2) ho rfl (by decide) rfl (h t2) hs
theorem mod3 (x : Int) : x.fmod 3 = 0 ∨ x.fmod 3 = 1 ∨ x.fmod 3 = 2 := by
  rw [Int.fmod_eq_emod_of_nonneg _ (by decide)]; omega
end
section
variable {prog : Program} {W : Wd} {A : Around} {s : Shared} {b : Heap} {L : Addr} {m : Str → Option Value} {E : Value → Shared → Prop}
end
noncomputable def restAt (r : Int) : Nat → Int
  | 0 => r
  | i + 1 => (restAt r i).fdiv 6
noncomputable def keyAt (r : Int) (i : Nat) : Nat × Int := (((restAt r i).fmod 3).toNat, 1 - ((restAt r i).fdiv 3).fmod 2 * 2)
noncomputable def keysOf (r : Int) (n : Nat) : Ks := (List.range n).map (keyAt r)
theorem mod2 (x : Int) : x.fmod 2 = 0 ∨ x.fmod 2 = 1 := by
  rw [Int.fmod_eq_emod_of_nonneg _ (by decide)]; omega
theorem keyAt_ok (r : Int) (i : Nat) : (keyAt r i).1 < 3 ∧ ((keyAt r i).2 = 1 ∨ (keyAt r i).2 = -1) := by
  unfold keyAt
  constructor
  · have := mod3 (restAt r i); show ((restAt r i).fmod 3).toNat < 3; omega
  · have := mod2 ((restAt r i).fdiv 3)
    show 1 - ((restAt r i).fdiv 3).fmod 2 * 2 = 1 ∨ 1 - ((restAt r i).fdiv 3).fmod 2 * 2 = -1
    omega
theorem keysOf_ok (r : Int) (n : Nat) : KsOk (keysOf r n) := fun k hk => by
  obtain ⟨i, _, rfl⟩ := List.mem_map.mp hk
  exact keyAt_ok r i
theorem keysOf_get {r : Int} {n i : Nat} {k : Nat × Int} (h : (keysOf r n)[i]? = some k) : i < n ∧ k = keyAt r i := by
  unfold keysOf at h
  rw [List.getElem?_map] at h
  by_cases hi : i < n
  · rw [List.getElem?_range hi] at h; exact ⟨hi, (Option.some.inj h).symm⟩
  · rw [List.getElem?_eq_none (by simpa using hi)] at h; cases h
theorem small_range {n : Nat} (h : n ≤ 1000000) : Builtin.Range.small 0 (n : Int) 1 = true ∧ Builtin.Range.rangeSize 0 (n : Int) 1 = (n : Int) := by
  have e : Builtin.Range.rangeSize 0 (n : Int) 1 = (n : Int) := by
    rw [rangeSize_one]; split <;> omega
  refine ⟨?_, e⟩
  unfold Builtin.Range.small
  rw [e]
  simp [Builtin.Range.rangeFitsLong]
  omega
section
variable {M : Model} {A : Around} {s : Shared} {b : Heap} {env : Env} {L : Addr} {m : Str → Option Value} {E : Value → Shared → Prop} {K : Params → Frag} {W : Wd} {x : Str} {pos : Pos} {v : Value} {Q : Value → Shared → Prop}
theorem y_L (F : Fr b L s.heap m) (hv : m x = some v) (h : Q v s) (hL : env.locals = L := by rfl) (hk : env.scope.kind = .function := by rfl) (hx : env.kindOf x = some .local := by rfl) (hd : (x == ("__debug__" : Str)) = false := by decide) :
    wpAny M A (eval (.Name x pos) env) Q E s := by subst hL; exact wpAny_Name (wpAny_loadName_local hk hx F.ns hv h) hd
theorem y_C {c : Addr} {o : Obj} (ho : s.heap.get? c = some o) (hd : o.data = .cell (some v)) (h : Q v s) (hc : env.cells.lookup x = some c := by rfl) (hk : env.scope.kind = .function := by rfl) (hx : env.kindOf x = some .cell := by rfl) (hb : (x == ("__debug__" : Str)) = false := by decide) :
    wpAny M A (eval (.Name x pos) env) Q E s := wpAny_Name (wpAny_loadName_cell hk hx hc ⟨o, ho, hd⟩ h) hb
theorem y_F {c : Addr} {o : Obj} (ho : s.heap.get? c = some o) (hd : o.data = .cell (some v)) (h : Q v s) (hc : env.cells.lookup x = some c := by rfl) (hk : env.scope.kind = .function := by rfl) (hx : env.kindOf x = some .free := by rfl) (hb : (x == ("__debug__" : Str)) = false := by decide) (hn : (x == ("__classdict__" : Str)) = false := by decide) :
    wpAny M A (eval (.Name x pos) env) Q E s := wpAny_Name (wpAny_loadName_free hk hx hc ⟨o, ho, hd⟩ h hn) hb
theorem y_K (C : Cx K W b) (F : Fr b L s.heap m) (e : nsIn (K W.w.params) mainGlobals x = some (some v)) (h : Q v s) (hg : env.globals = mainGlobals := by rfl) (hk : env.scope.kind = .function := by rfl) (hx : env.kindOf x = some .globalImplicit := by rfl) (hd : (x == ("__debug__" : Str)) = false := by decide) :
    wpAny M A (eval (.Name x pos) env) Q E s := Name_function_global hk hx (loadGlobal_global (by rw [hg]; exact C.T.g.keeps F.keep) (mg_of C.X C.T.g e) h) hd
theorem y_B (C : Cx K W b) (F : Fr b L s.heap m) (e : nsIn (K W.w.params) mainGlobals x = some none) (hv : bootBuiltins x = some v) (h : Q v s) (hn : x ≠ "__name__" := by decide) (hg : env.globals = mainGlobals := by rfl) (hbu : env.builtins = builtinsNs := by rfl) (hk : env.scope.kind = .function := by rfl) (hx : env.kindOf x = some .globalImplicit := by rfl)
    (hd : (x == ("__debug__" : Str)) = false := by decide) : wpAny M A (eval (.Name x pos) env) Q E s :=
  Name_function_global hk hx (loadGlobal_builtin (by rw [hg]; exact C.T.g.keeps F.keep) (mg_none_of C.X C.T.g e) (by rw [hbu]; exact C.T.b.keeps F.keep) ((C.T.builtins x hn).trans hv) h) hd
end
section
variable {M : Model} {A : Around} {s : Shared} {b h : Heap} {tk : Nat} {env : Env} {L : Addr} {m : Str → Option Value} {E : Value → Shared → Prop} {x : Str} {v : Value} {Q : Unit → Shared → Prop}
end
noncomputable def IntsV (vs : List Value) (ns : List Int) : Prop := vs.length = ns.length ∧ ∀ (i : Nat) (n : Int), ns[i]? = some n → ∃ t, vs[i]? = some (.int n t)
theorem IntsV.nil : IntsV [] [] := ⟨rfl, fun _ _ h => by simp at h⟩
theorem IntsV.snoc {vs : List Value} {ns : List Int} {n : Int} {t : Tok} (h : IntsV vs ns) : IntsV (vs ++ [.int n t]) (ns ++ [n]) := by
  refine ⟨by rw [List.length_append, List.length_append, h.1]; rfl, fun i k hk => ?_⟩
  by_cases hi : i < ns.length
  · rw [List.getElem?_append_left hi] at hk
    rw [List.getElem?_append_left (by rw [h.1]; exact hi)]
    exact h.2 i k hk
  · rw [List.getElem?_append_right (by omega)] at hk
    rw [List.getElem?_append_right (by rw [h.1]; omega), h.1]
    have : i - ns.length = 0 := by
      cases hj : i - ns.length with
      | zero => rfl
      | succ j => rw [hj] at hk; simp at hk
    rw [this] at hk ⊢
    cases hk
    exact ⟨t, rfl⟩
theorem txt_len {k : Int} (h : k = 0 ∨ k = 1 ∨ k = 2) : ((txt k).length : Int) = k := by
  rcases h with rfl | rfl | rfl <;> decide
noncomputable def wt (ks : Ks) (c : Nat → Int) : List Int := ks.map fun k => k.2 * c k.1
theorem wt_take {ks : Ks} {c : Nat → Int} {i : Nat} (h : i < ks.length) : wt (ks.take (i + 1)) c = wt (ks.take i) c ++ [ks[i].2 * c ks[i].1] := by
  unfold wt
  rw [List.take_add_one, List.getElem?_eq_getElem h, List.map_append]
  rfl
theorem way_bits {w : Int} (h : w = 1 ∨ w = -1) : Builtin.Int.intBits w ≤ 64 := by rcases h with rfl | rfl <;> decide
theorem plain_item {c : Nat → Int} {t0 t1 t2 : Tok} {i : Nat} (hi : i < 3) : ∃ t, [colV c 0 t0, Value.int (c 1) t1, colV c 2 t2][i]? = some (.int (c i) t) := by
  match i, hi with
  | 0, _ => exact ⟨t0, rfl⟩
  | 1, _ => exact ⟨t1, rfl⟩
  | 2, _ => exact ⟨t2, rfl⟩
noncomputable def Ds (l₁ l₂ : Led) : Prop := ∀ p ∈ l₁, ∀ q ∈ l₂, p.1 ≠ q.1
noncomputable def Df (a : Addr) (l : Led) : Prop := ∀ q ∈ l, a ≠ q.1
theorem Ds.symm {l₁ l₂ : Led} (h : Ds l₁ l₂) : Ds l₂ l₁ := fun p hp q hq e => h q hq p hp e.symm
theorem Ds_cons_l {p : Addr × Obj} {l l' : Led} : Ds (p :: l) l' ↔ Df p.1 l' ∧ Ds l l' := ⟨fun h => ⟨h p (.head _), fun q hq => h q (.tail _ hq)⟩, fun ⟨h1, h2⟩ q hq => by
  rcases List.mem_cons.mp hq with rfl | hq
  · exact h1
  · exact h2 q hq⟩
theorem Ds_app_l {l₁ l₂ l' : Led} : Ds (l₁ ++ l₂) l' ↔ Ds l₁ l' ∧ Ds l₂ l' := ⟨fun h => ⟨fun q hq => h q (List.mem_append_left _ hq), fun q hq => h q (List.mem_append_right _ hq)⟩, fun ⟨h1, h2⟩ q hq => (List.mem_append.mp hq).elim (h1 q) (h2 q)⟩
theorem Ds_cons_r {p : Addr × Obj} {l l' : Led} : Ds l' (p :: l) ↔ Df p.1 l' ∧ Ds l' l := ⟨fun h => ⟨fun q hq e => h q hq p (.head _) e.symm, fun q hq r hr => h q hq r (.tail _ hr)⟩, fun ⟨h1, h2⟩ q hq r hr => by
  rcases List.mem_cons.mp hr with rfl | hr
  · exact fun e => h1 q hq e.symm
  · exact h2 q hq r hr⟩
theorem Ds_app_r {l₁ l₂ l' : Led} : Ds l' (l₁ ++ l₂) ↔ Ds l' l₁ ∧ Ds l' l₂ := ⟨fun h => ⟨fun q hq r hr => h q hq r (List.mem_append_left _ hr), fun q hq r hr => h q hq r (List.mem_append_right _ hr)⟩, fun ⟨h1, h2⟩ q hq r hr => (List.mem_append.mp hr).elim (h1 q hq r) (h2 q hq r)⟩
theorem Df_cons {a : Addr} {p : Addr × Obj} {l : Led} : Df a (p :: l) ↔ a ≠ p.1 ∧ Df a l := ⟨fun h => ⟨h p (.head _), fun q hq => h q (.tail _ hq)⟩, fun ⟨h1, h2⟩ q hq => by
  rcases List.mem_cons.mp hq with rfl | hq
  · exact h1
  · exact h2 q hq⟩
theorem Df_app {a : Addr} {l₁ l₂ : Led} : Df a (l₁ ++ l₂) ↔ Df a l₁ ∧ Df a l₂ := ⟨fun h => ⟨fun q hq => h q (List.mem_append_left _ hq), fun q hq => h q (List.mem_append_right _ hq)⟩, fun ⟨h1, h2⟩ q hq => (List.mem_append.mp hq).elim (h1 q) (h2 q)⟩
section
variable {prog : Program} {W : Wd} {A : Around} {s : Shared} {h b : Heap} {tk : Nat} {L : Addr} {m : Str → Option Value}
theorem useD {news mu all : Led} {t : Sem Value} {Post : Value → Led → Prop} {Q E : Value → Shared → Prop}
    (F : Fr b L h m) (N : News b L h all) (hall : ∀ p ∈ mu ++ news, p ∈ all) (hd : Ds news mu)
    (S : ∀ g, b.StaysIn g → (∀ a o, un b news a o → g.get? a = some o) → Does prog W A t { s with heap := h, toks := tk } g mu Post)
    (k : ∀ r h' tk' nw, Fr b L h' m → News b L h' (nw ++ news) → Ds nw news → Post r nw → Q r { s with heap := h', toks := tk' }) :
    wpAny (model prog W.w) A t Q E { s with heap := h, toks := tk } :=
  use F (news_sub N hall) hd (fun g k1 k2 => S g k1 fun a o q => q.elim (k1 a o) (k2 (a, o))) (fun r h' tk' nw F' N' hd' hp => k r h' tk' nw F' N' hd' hp)
end
section
variable {prog : Program} {w : World} {A : Around} {s : Shared} {h b : Heap} {tk : Nat} {E : Value → Shared → Prop} {Q : Value → Shared → Prop} {L : Addr} {m : Str → Option Value} {news : Led}
theorem sz1000 {n : Nat} (h : n ≤ 1000) : n ≤ sizeLine := Nat.le_trans h (Nat.le_of_ble_eq_true rfl)
theorem n_addL {a c : Addr} {xs ys : List Value} {n k : Nat} (F : Fr b L h m) (N : News b L h news) (ha : h.get? a = some (lstO xs n)) (hc : h.get? c = some (lstO ys k)) (hz : xs.length + ys.length ≤ 1000)
    (q : ∀ D h', Fr b L h' m → News b L h' ((D, lstO (xs ++ ys) 0) :: news) → (∀ p ∈ news, p.1 < D) → Q (.ref D) { s with heap := h', toks := tk }) : wpAny (model prog w) A (binaryOp .Add (.ref a) (.ref c)) Q E { s with heap := h, toks := tk } :=
  add_lists F N ⟨_, ha, rfl, n, rfl⟩ ⟨_, hc, rfl, k, rfl⟩ (fun h' F' N' => q _ h' F' N' fun p hp => Heap.lt_size (N p hp).1) (sz1000 hz)
theorem n_len {a : Addr} {xs : List Value} {n : Nat} (ha : h.get? a = some (lstO xs n)) (hz : xs.length ≤ 1000) (q : ∀ t tk', Q (.int (xs.length : Int) t) { s with heap := h, toks := tk' }) :
    wpAny (model prog w) A (call (.builtin "len") [.ref a]) Q E { s with heap := h, toks := tk } := by
  refine call_len_list ⟨_, ha, rfl, n, rfl⟩ (by rw [List.size_toArray]; omega) ?_
  rw [List.size_toArray]
  exact q _ _
end
noncomputable abbrev Le (X Y : Rl) : Prop := ∀ a o, X a o → Y a o
theorem Le.refl (X : Rl) : Le X X := fun _ _ h => h
theorem Le.trans {X Y Z : Rl} (h : Le X Y) (k : Le Y Z) : Le X Z := fun a o q => k a o (h a o q)
noncomputable def At (X : Rl) (a : Addr) (o : Obj) : Prop := X a o
theorem At.mono {X Y : Rl} {a : Addr} {o : Obj} (h : At X a o) (k : Le X Y) : At Y a o := k _ _ h
structure St (R : Rl) (b : Heap) (L : Addr) (h : Heap) (m : Str → Option Value) (mu : Led) (X : Rl) : Prop where
  F : Fr b L h m
  Rb : Le R (hp b)
  RX : Le R X
  ex : ∃ fz, Le X (Or R fz) ∧ News b L h (mu ++ fz) ∧ Ds mu fz
  nd : (mu.map (·.1)).Nodup
section
variable {R X Y : Rl} {b h h' : Heap} {L : Addr} {m m' : Str → Option Value} {mu mu' l1 l2 : Led}
theorem St.N (Z : St R b L h m mu X) : News b L h mu := let ⟨_, _, N, _⟩ := Z.ex; (news_split N).1
theorem St.get (Z : St R b L h m mu X) {a : Addr} {o : Obj} (q : X a o) : h.get? a = some o := by
  obtain ⟨fz, hX, N, _⟩ := Z.ex
  rcases hX _ _ q with q | q
  · exact Z.F.keep _ _ (Z.Rb _ _ q)
  · exact (N _ (List.mem_append_right _ q)).1
theorem St.mget (Z : St R b L h m mu X) {a : Addr} {o : Obj} (q : (a, o) ∈ mu) : h.get? a = some o := (Z.N _ q).1
theorem St.start (F : Fr b L h m) (N : News b L h mu) (hR : Le R (hp b)) (nd : (mu.map (·.1)).Nodup) : St R b L h m mu R :=
  ⟨F, hR, Le.refl _, ⟨[], fun _ _ q => .inl q, by rw [List.append_nil]; exact N, fun _ _ _ hq => nomatch hq⟩, nd⟩
theorem St.drop (Z : St R b L h m (l1 ++ l2) X) : St R b L h m l1 X := by
  refine ⟨Z.F, Z.Rb, Z.RX, ?_, ?_⟩
  · obtain ⟨fz, hX, N, hd⟩ := Z.ex
    exact ⟨fz, hX, news_sub N fun p hp => by rcases List.mem_append.mp hp with h | h <;> simp [h], (Ds_app_l.mp hd).1⟩
  · have := Z.nd
    rw [List.map_append] at this
    exact (List.nodup_append.mp this).1
theorem St.perm (Z : St R b L h m l1 X) (k : l1.Perm l2) : St R b L h m l2 X := by
  refine ⟨Z.F, Z.Rb, Z.RX, ?_, ?_⟩
  · obtain ⟨fz, hX, N, hd⟩ := Z.ex
    exact ⟨fz, hX, news_sub N fun p hp => by rcases List.mem_append.mp hp with h | h <;> simp [h, k.mem_iff], fun p hp => hd p (k.mem_iff.mpr hp)⟩
  · exact (k.map _).nodup_iff.mp Z.nd
theorem St.swap {p q : Addr × Obj} {l : Led} (Z : St R b L h m (p :: q :: l) X) : St R b L h m (q :: p :: l) X := Z.perm (List.Perm.swap _ _ _)
theorem St.freeze {a : Addr} {o : Obj} (Z : St R b L h m (l1 ++ (a, o) :: l2) X) {Q : Prop} (k : ∀ Y, Le X Y → At Y a o → St R b L h m (l1 ++ l2) Y → Q) : Q := by
  refine k (Or X [(a, o)]) (fun _ _ q => .inl q) (.inr (.head _)) ⟨Z.F, Z.Rb, fun _ _ q => .inl (Z.RX _ _ q), ?_, ?_⟩
  · obtain ⟨fz, hX, N, hd⟩ := Z.ex
    refine ⟨(a, o) :: fz, ?_, news_sub N fun p hp => ?_, ?_⟩
    · rintro c o' (q | q)
      · exact (hX _ _ q).imp id fun q => .tail _ q
      · have q := List.mem_singleton.mp q
        cases q; exact .inr (.head _)
    · simp only [List.mem_append, List.mem_cons] at hp ⊢
      grind
    · have nd := Z.nd
      simp only [List.map_append, List.map_cons, List.nodup_append, List.nodup_cons, List.mem_map, List.mem_cons] at nd
      simp only [Ds_app_l, Ds_cons_l] at hd
      refine Ds_app_l.mpr ⟨Ds_cons_r.mpr ⟨?_, hd.1⟩, Ds_cons_r.mpr ⟨?_, hd.2.2⟩⟩
      · intro p hp e
        exact nd.2.2 p.1 ⟨p, hp, rfl⟩ a (.inl rfl) e.symm
      · intro p hp e
        exact nd.2.1.1 ⟨p, hp, e.symm⟩
  · have nd := Z.nd
    simp only [List.map_append, List.map_cons] at nd ⊢
    exact nd.sublist (List.Sublist.append (List.Sublist.refl _) (List.sublist_cons_self _ _))
theorem St.upd {a : Addr} {o o' : Obj} (Z : St R b L h m (l1 ++ (a, o) :: l2) X) (hs : Heap.SameBut a h h') (ho : h'.get? a = some o') : St R b L h' m (l1 ++ (a, o') :: l2) X := by
  have z := Z.N (a, o) (List.mem_append_right _ (.head _))
  refine ⟨Z.F.change hs z.2.1 z.2.2, Z.Rb, Z.RX, ?_, ?_⟩
  · obtain ⟨fz, hX, N, hd⟩ := Z.ex
    refine ⟨fz, hX, ?_, ?_⟩
    · have nd := Z.nd
      simp only [List.map_append, List.map_cons, List.nodup_append, List.nodup_cons, List.mem_map, List.mem_cons] at nd
      simp only [Ds_app_l, Ds_cons_l] at hd
      rw [List.append_assoc] at N ⊢
      refine news_set N (fun p hp e => nd.2.2 p.1 ⟨p, hp, rfl⟩ a (.inl rfl) e) (fun p hp e => ?_) hs ho
      rcases List.mem_append.mp hp with hp | hp
      · exact nd.2.1.1 ⟨p, hp, e⟩
      · exact hd.2.1 p hp e.symm
    · simp only [Ds_app_l, Ds_cons_l] at hd ⊢
      exact hd
  · have nd := Z.nd
    simp only [List.map_append, List.map_cons] at nd ⊢
    exact nd
theorem St.keeps (Z : St R b L h m mu X) (hk : ∀ c o, h.get? c = some o → h'.get? c = some o) : St R b L h' m mu X :=
  ⟨Z.F.keeps hk, Z.Rb, Z.RX, let ⟨fz, hX, N, hd⟩ := Z.ex; ⟨fz, hX, fun p hp => ⟨hk _ _ (N p hp).1, (N p hp).2⟩, hd⟩, Z.nd⟩
theorem St.new {a : Addr} {o : Obj} (Z : St R b L h m mu X) (hk : ∀ c o, h.get? c = some o → h'.get? c = some o) (ha : h.get? a = none) (ho : h'.get? a = some o) : St R b L h' m ((a, o) :: mu) X := by
  have off : ∀ p : Addr × Obj, h.get? p.1 = some p.2 → a ≠ p.1 := fun p hp e => by rw [← e, ha] at hp; cases hp
  refine ⟨Z.F.keeps hk, Z.Rb, Z.RX, ?_, ?_⟩
  · obtain ⟨fz, hX, N, hd⟩ := Z.ex
    refine ⟨fz, hX, ?_, Ds_cons_l.mpr ⟨fun p hp => off p (N p (List.mem_append_right _ hp)).1, hd⟩⟩
    intro p hp
    rcases List.mem_cons.mp hp with rfl | hp
    · refine ⟨ho, ?_, ?_⟩
      · intro e
        obtain ⟨oL, _, _, hL, _⟩ := Z.F.ns
        have e : a = L := e
        rw [e, hL] at ha; cases ha
      · cases q : b.get? a with
        | none => rfl
        | some o => rw [Z.F.keep _ _ q] at ha; cases ha
    · exact ⟨hk _ _ (N p hp).1, (N p hp).2⟩
  · rw [List.map_cons, List.nodup_cons]
    refine ⟨fun q => ?_, Z.nd⟩
    obtain ⟨p, hp, e⟩ := List.mem_map.mp q
    exact off p (Z.N p hp).1 e.symm
theorem St.newX {a : Addr} {o : Obj} (Z : St R b L h m mu X) (hk : ∀ c o, h.get? c = some o → h'.get? c = some o) (ha : h.get? a = none) (ho : h'.get? a = some o) {Q : Prop} (k : ∀ Y, Le X Y → At Y a o → St R b L h' m mu Y → Q) : Q :=
  (Z.new hk ha ho).freeze (l1 := []) k
theorem St.loc (Z : St R b L h m mu X) (F : Fr b L h' m') (hs : Heap.SameBut L h h') : St R b L h' m' mu X :=
  ⟨F, Z.Rb, Z.RX, let ⟨fz, hX, N, hd⟩ := Z.ex; ⟨fz, hX, fun p hp => ⟨(hs.2 _ (N p hp).2.1).trans (N p hp).1, (N p hp).2⟩, hd⟩, Z.nd⟩
theorem St.chg {its its' : Led} (Z : St R b L h m (mu ++ its) X) (hk : ∀ c o, c ∉ its.map (·.1) → h.get? c = some o → h'.get? c = some o) (e : its'.map (·.1) = its.map (·.1)) (hl : ∀ p ∈ its', h'.get? p.1 = some p.2) : St R b L h' m (mu ++ its') X := by
  obtain ⟨fz, hX, N, hd⟩ := Z.ex
  have nd := Z.nd
  rw [List.map_append, List.nodup_append] at nd
  have ib : ∀ a ∈ its.map (·.1), a ≠ L ∧ b.get? a = none := fun a ha => by
    obtain ⟨p, hp, rfl⟩ := List.mem_map.mp ha
    exact (N p (List.mem_append_left _ (List.mem_append_right _ hp))).2
  have mi : ∀ p ∈ mu, p.1 ∉ its.map (·.1) := fun p hp q => nd.2.2 p.1 (List.mem_map_of_mem hp) _ q rfl
  have fi : ∀ p ∈ fz, p.1 ∉ its.map (·.1) := fun p hp q => by
    obtain ⟨r, hr, er⟩ := List.mem_map.mp q
    exact hd r (List.mem_append_right _ hr) p hp er
  refine ⟨⟨?_, ?_, Z.F.above⟩, Z.Rb, Z.RX, ⟨fz, hX, ?_, ?_⟩, ?_⟩
  · obtain ⟨oL, es, ep, hL, r⟩ := Z.F.ns
    exact ⟨oL, es, ep, hk _ _ (fun q => (ib _ q).1 rfl) hL, r⟩
  · exact fun c o q => hk c o (fun r => by rw [(ib _ r).2] at q; cases q) (Z.F.keep c o q)
  · intro p hp
    rcases List.mem_append.mp hp with hp | hp
    · rcases List.mem_append.mp hp with hp | hp
      · have z := N p (List.mem_append_left _ (List.mem_append_left _ hp))
        exact ⟨hk _ _ (mi p hp) z.1, z.2⟩
      · exact ⟨hl p hp, ib _ (e ▸ List.mem_map_of_mem hp)⟩
    · have z := N p (List.mem_append_right _ hp)
      exact ⟨hk _ _ (fi p hp) z.1, z.2⟩
  · simp only [Ds_app_l] at hd ⊢
    refine ⟨hd.1, fun p hp q hq er => ?_⟩
    have : p.1 ∈ its.map (·.1) := e ▸ List.mem_map_of_mem hp
    rw [er] at this
    exact fi q hq this
  · rw [List.map_append, e, ← List.map_append]
    exact Z.nd
theorem its_of (wr : List Addr) (hob : ∀ a ∈ wr, ∃ o, h.get? a = some o) : ∃ its : Led, its.map (·.1) = wr ∧ ∀ p ∈ its, h.get? p.1 = some p.2 := by
  induction wr with
  | nil => exact ⟨[], rfl, fun _ q => nomatch q⟩
  | cons a r ih =>
    obtain ⟨its, e, k⟩ := ih fun a q => hob a (.tail _ q)
    obtain ⟨o, ho⟩ := hob a (.head _)
    refine ⟨(a, o) :: its, by rw [List.map_cons, e], fun p hp => ?_⟩
    rcases List.mem_cons.mp hp with rfl | hp
    · exact ho
    · exact k p hp
end
section
variable {prog : Program} {W : Wd} {A : Around} {s : Shared} {R X : Rl} {b h : Heap} {tk : Nat} {L : Addr} {m : Str → Option Value} {mu l1 l2 : Led}
noncomputable def Post0 (R : Rl) (P : Value → Rl → Prop) (r : Value) (nw : Led) : Prop := P r (Or R nw)
noncomputable def Post1 (R : Rl) (t : Addr) (P : Value → Obj → Rl → Prop) (r : Value) (nw : Led) : Prop := ∃ o' fr, nw = (t, o') :: fr ∧ Df t fr ∧ P r o' (Or R fr)
theorem s_use0 {t : Sem Value} {Post : Value → Led → Prop} {Q E : Value → Shared → Prop} (Z : St R b L h m mu X)
    (S : ∀ g, b.StaysIn g → Le X (hp g) → (∀ p ∈ mu, g.get? p.1 = some p.2) → Does prog W A t { s with heap := h, toks := tk } g [] Post)
    (k : ∀ r h' tk' nw Y, Post r nw → Le X Y → Le (Or X nw) Y → St R b L h' m mu Y → Q r { s with heap := h', toks := tk' }) :
    wpAny (model prog W.w) A t Q E { s with heap := h, toks := tk } := by
  obtain ⟨fz, hX, N, hd⟩ := Z.ex
  refine useD (mu := []) (news := mu ++ fz) Z.F N (by simp) (fun _ _ _ hq => nomatch hq) (fun g k1 k2 => S g k1 (fun a o q => ?_) (fun p hp => k2 p.1 p.2 (.inr (List.mem_append_left _ hp)))) fun r h' tk' nw F' N' hd' hp => ?_
  · rcases hX a o q with q | q
    · exact k2 _ _ (.inl (Z.Rb _ _ q))
    · exact k2 _ _ (.inr (List.mem_append_right _ q))
  · refine k r h' tk' nw (Or X nw) hp (fun _ _ q => .inl q) (Le.refl _) ⟨F', Z.Rb, fun _ _ q => .inl (Z.RX _ _ q), ⟨nw ++ fz, ?_, news_sub N' fun p hp => by simp only [List.mem_append] at hp ⊢; grind, ?_⟩, Z.nd⟩
    · rintro a o (q | q)
      · exact (hX a o q).imp id fun q => List.mem_append_right _ q
      · exact .inr (List.mem_append_left _ q)
    · simp only [Ds_app_r] at hd' ⊢
      exact ⟨hd'.1.symm, hd⟩
theorem s_use1 {t : Addr} {o : Obj} {c : Sem Value} {Post : Value → Led → Prop} {P : Value → Obj → Led → Prop} {Q E : Value → Shared → Prop} (Z : St R b L h m (l1 ++ (t, o) :: l2) X)
    (S : ∀ g, b.StaysIn g → Le X (hp g) → (∀ p ∈ l1 ++ l2, g.get? p.1 = some p.2) → Does prog W A c { s with heap := h, toks := tk } g [(t, o)] Post)
    (hP : ∀ r nw, Post r nw → ∃ o' fr, nw = (t, o') :: fr ∧ Df t fr ∧ P r o' fr)
    (k : ∀ r h' tk' o' fr Y, P r o' fr → Le X Y → Le (Or X fr) Y → St R b L h' m (l1 ++ (t, o') :: l2) Y → Q r { s with heap := h', toks := tk' }) :
    wpAny (model prog W.w) A c Q E { s with heap := h, toks := tk } := by
  obtain ⟨fz, hX, N, hd⟩ := Z.ex
  have nd := Z.nd
  simp only [List.map_append, List.map_cons, List.nodup_append, List.nodup_cons, List.mem_map, List.mem_cons] at nd
  have hd0 := hd
  simp only [Ds_app_l, Ds_cons_l] at hd
  refine useD (mu := [(t, o)]) (news := l1 ++ l2 ++ fz) Z.F N (by intro p hp; simp only [List.mem_append, List.mem_cons, List.not_mem_nil, or_false] at hp ⊢; grind) ?_ (fun g k1 k2 => S g k1 (fun a o q => ?_) (fun p hp => k2 p.1 p.2 (.inr (List.mem_append_left _ hp)))) fun r h' tk' nw F' N' hd' hp => ?_
  · intro p hp q hq e
    rw [List.mem_singleton.mp hq] at e
    rcases List.mem_append.mp hp with hp | hp
    · rcases List.mem_append.mp hp with hp | hp
      · exact nd.2.2 p.1 ⟨p, hp, rfl⟩ t (.inl rfl) e
      · exact nd.2.1.1 ⟨p, hp, e⟩
    · exact hd.2.1 p hp e.symm
  · rcases hX a o q with q | q
    · exact k2 _ _ (.inl (Z.Rb _ _ q))
    · exact k2 _ _ (.inr (List.mem_append_right _ q))
  · obtain ⟨o', fr, rfl, hf, hp⟩ := hP r nw hp
    have e1 := Ds_app_r.mp (Ds_cons_l.mp hd').2
    have e2 := Ds_app_r.mp e1.1
    refine k r h' tk' o' fr (Or X fr) hp (fun _ _ q => .inl q) (Le.refl _) ⟨F', Z.Rb, fun _ _ q => .inl (Z.RX _ _ q), ⟨fr ++ fz, ?_, news_sub N' fun p hp => by simp only [List.mem_append, List.mem_cons, List.cons_append] at hp ⊢; grind, ?_⟩, ?_⟩
    · rintro a o (q | q)
      · exact (hX a o q).imp id fun q => List.mem_append_right _ q
      · exact .inr (List.mem_append_left _ q)
    · refine Ds_app_l.mpr ⟨Ds_app_r.mpr ⟨e2.1.symm, hd.1⟩, Ds_cons_l.mpr ⟨Df_app.mpr ⟨hf, hd.2.1⟩, Ds_app_r.mpr ⟨e2.2.symm, hd.2.2⟩⟩⟩
    · have := Z.nd
      simp only [List.map_append, List.map_cons] at this ⊢
      exact this
theorem s_done {Post : Value → Led → Prop} {fl : Flow} (Z : St R b L h m mu X) (k : ∀ fr, Le X (Or R fr) → Ds mu fr → Post (valOf fl) (mu ++ fr)) : Done s b L Post fl { s with heap := h, toks := tk } := by
  obtain ⟨fz, hX, N, hd⟩ := Z.ex
  exact Done.intro Z.F N (k fz hX hd)
theorem s_done0 {P : Value → Rl → Prop} {fl : Flow} (Z : St R b L h m mu X) (hP : ∀ Y, Le X Y → P (valOf fl) Y) : Done s b L (Post0 R P) fl { s with heap := h, toks := tk } :=
  s_done (mu := []) (Z.drop (l1 := [])) fun fr hX _ => hP _ hX
theorem s_done1 {t : Addr} {o : Obj} {P : Value → Obj → Rl → Prop} {fl : Flow} (Z : St R b L h m ((t, o) :: mu) X) (hP : ∀ Y, Le X Y → P (valOf fl) o Y) : Done s b L (Post1 R t P) fl { s with heap := h, toks := tk } :=
  s_done (mu := [(t, o)]) (Z.drop (l1 := [(t, o)])) fun fr hX hd => ⟨o, fr, rfl, (Ds_cons_l.mp hd).1, hP _ hX⟩
end
section
variable {M : Model} {A : Around} {s : Shared} {R X Y : Rl} {b h h' : Heap} {tk : Nat} {L : Addr} {m m' : Str → Option Value} {mu mu' l1 l2 : Led} {E : Value → Shared → Prop} {env : Env}
theorem St.at (Z : St R b L h m mu X) {a : Addr} {o : Obj} (q : At X a o) : h.get? a = some o := Z.get q
theorem St.tl {p : Addr × Obj} (Z : St R b L h m (p :: mu) X) : St R b L h m mu X := ((Z.perm (l2 := mu ++ [p]) (by exact (List.perm_append_singleton p mu).symm))).drop
theorem s_st {x : Str} {v : Value} {Q : Unit → Shared → Prop} (Z : St R b L h m mu X) (k : ∀ h' tk', St R b L h' (fun y => if y = x then some v else m y) mu X → Q () { s with heap := h', toks := tk' })
    (hL : env.locals = L := by rfl) (hk : env.scope.kind = .function := by rfl) (hx : env.kindOf x = some .local := by rfl) : wpAny M A (storeName env x v) Q E { s with heap := h, toks := tk } := by
  subst hL
  exact wpAny_storeName_local hx Z.F.ns (fun h' hn hs => k h' _ (Z.loc (Z.F.set hn hs) hs)) (by rw [hk]; rfl)
theorem s_stC {x : Str} {v : Value} {c : Addr} {o : Obj} {v₀ : Option Value} {Q : Unit → Shared → Prop} (Z : St R b L h m (l1 ++ (c, o) :: l2) X) (hd : o.data = .cell v₀)
    (k : ∀ h' tk' o', o'.data = .cell (some v) → St R b L h' m (l1 ++ (c, o') :: l2) X → Q () { s with heap := h', toks := tk' })
    (hc : env.cells.lookup x = some c := by rfl) (hk : env.scope.kind = .function := by rfl) (hx : env.kindOf x = some .cell := by rfl) : wpAny M A (storeName env x v) Q E { s with heap := h, toks := tk } := by
  have hm := Z.N (c, o) (List.mem_append_right _ (.head _))
  refine wpAny_storeName_cell hk hx hc ⟨o, hm.1, hd⟩ fun h' hv hs => ?_
  obtain ⟨o', ho', hd'⟩ := hv
  exact k h' _ o' hd' (Z.upd hs ho')
theorem s_tup {vs : List Value} {Q : Value → Shared → Prop} (Z : St R b L h m mu X) (hsz : vs.length ≤ 1000) (k : ∀ T h' Y, Le X Y → At Y T (tupO vs) → St R b L h' m mu Y → Q (.ref T) { s with heap := h', toks := tk }) :
    wpAny M A (newTuple vs) Q E { s with heap := h, toks := tk } :=
  wpAny_newObj_type (Z.newX (o := tupO vs) (fun _ _ e => Heap.get?_push_of_some _ e) (Heap.get?_none_of_le (Nat.le_refl _)) (Heap.get?_push_size _ rfl) fun Y h1 h2 h3 => k _ _ Y h1 h2 h3) (by show vs.toArray.size ≤ sizeLine; rw [List.size_toArray]; exact Nat.le_trans hsz (Nat.le_of_ble_eq_true rfl))
theorem s_lst {vs : List Value} {Q : Value → Shared → Prop} (Z : St R b L h m mu X) (hsz : vs.length ≤ 1000) (k : ∀ T h' Y, Le X Y → At Y T (lstO vs 0) → St R b L h' m mu Y → Q (.ref T) { s with heap := h', toks := tk }) :
    wpAny M A (newList vs) Q E { s with heap := h, toks := tk } :=
  wpAny_newObj_type (Z.newX (o := lstO vs 0) (fun _ _ e => Heap.get?_push_of_some _ e) (Heap.get?_none_of_le (Nat.le_refl _)) (Heap.get?_push_size _ rfl) fun Y h1 h2 h3 => k _ _ Y h1 h2 h3) (by show vs.toArray.size ≤ sizeLine; rw [List.size_toArray]; exact Nat.le_trans hsz (Nat.le_of_ble_eq_true rfl))
theorem s_lstM {vs : List Value} {Q : Value → Shared → Prop} (Z : St R b L h m mu X) (hsz : vs.length ≤ 1000) (k : ∀ T h', St R b L h' m ((T, lstO vs 0) :: mu) X → Q (.ref T) { s with heap := h', toks := tk }) :
    wpAny M A (newList vs) Q E { s with heap := h, toks := tk } :=
  wpAny_newObj_type (k _ _ (Z.new (o := lstO vs 0) (fun _ _ e => Heap.get?_push_of_some _ e) (Heap.get?_none_of_le (Nat.le_refl _)) (Heap.get?_push_size _ rfl))) (by show vs.toArray.size ≤ sizeLine; rw [List.size_toArray]; exact Nat.le_trans hsz (Nat.le_of_ble_eq_true rfl))
end
section
variable {prog : Program} {w : World} {A : Around} {s : Shared} {R X Y : Rl} {b h h' : Heap} {tk : Nat} {L : Addr} {m m' : Str → Option Value} {mu mu' l1 l2 : Led} {E : Value → Shared → Prop} {Q : Value → Shared → Prop} {env : Env}
theorem s_append {D : Addr} {vs : List Value} {n : Nat} {x : Value} (Z : St R b L h m (l1 ++ (D, lstO vs n) :: l2) X) (hsz : vs.length ≤ 1000)
    (k : ∀ h', St R b L h' m (l1 ++ (D, lstO (vs ++ [x]) (n + 1)) :: l2) X → Q .none { s with heap := h', toks := tk }) : wpAny (model prog w) A (call (.builtin "list.append") [.ref D, x]) Q E { s with heap := h, toks := tk } := by
  have z := Z.N (D, lstO vs n) (List.mem_append.mpr (.inr (.head _)))
  refine append_at (hsz := by show vs.toArray.size ≤ sizeLine; have hs : sizeLine = 16777216 := rfl; rw [List.size_toArray]; omega) z.1 fun h' hs ho' => k h' (Z.upd hs (by rw [ho']; simp [lstO]))
theorem St.lib (Z : St R b L h m mu X) {P : Prop} (k : ∀ fz : Led, News b L h (mu ++ fz) → (∀ {h' T o}, Fr b L h' m → News b L h' ((T, o) :: (mu ++ fz)) → (∀ p ∈ mu ++ fz, p.1 < T) → St R b L h' m ((T, o) :: mu) X) → P) : P := by
  obtain ⟨fz, hX, N, hd⟩ := Z.ex
  refine k fz N fun {h' T o} F' N' hT => ⟨F', Z.Rb, Z.RX, ⟨fz, hX, N', Ds_cons_l.mpr ⟨fun p hp => Nat.ne_of_gt (hT p (List.mem_append_right _ hp)), hd⟩⟩, ?_⟩
  rw [List.map_cons, List.nodup_cons]
  refine ⟨fun q => ?_, Z.nd⟩
  obtain ⟨p, hp, e⟩ := List.mem_map.mp q
  exact absurd (hT p (List.mem_append_left _ hp)) (by rw [e]; exact Nat.lt_irrefl _)
theorem s_add {a c : Addr} {xs ys : List Value} {n k : Nat} (Z : St R b L h m mu X) (ha : h.get? a = some (lstO xs n)) (hc : h.get? c = some (lstO ys k)) (hz : xs.length + ys.length ≤ 1000)
    (q : ∀ D h' Y, Le X Y → At Y D (lstO (xs ++ ys) 0) → St R b L h' m mu Y → Q (.ref D) { s with heap := h', toks := tk }) : wpAny (model prog w) A (binaryOp .Add (.ref a) (.ref c)) Q E { s with heap := h, toks := tk } :=
  Z.lib fun fz N k => n_addL Z.F N ha hc hz fun D h' F' N' hT => (k F' N' hT).freeze (l1 := []) fun Y h1 h2 h3 => q D h' Y h1 h2 h3
theorem s_unpack {elts : List PySem.Expr} {k : Nat} {pos : Pos} {t : Addr} {vs : List Value} {Q : Unit → Shared → Prop} (Z : St R b L h m mu X) (ht : IsTup h t vs.toArray)
    (hh : A.handled = none) (hn : (assignEach elts env).length = vs.toArray.size) (hstar : (assignEach elts env).findIdx? (·.1) = none)
    (q : ∀ h' tk', St R b L h' m mu X → wpAny (model prog w) A (assignInOrder ((assignEach elts env).map (·.2)) vs) Q E { s with heap := h', toks := tk' }) :
    wpAny (model prog w) A (assign (.Tuple elts k pos) env (.ref t)) Q E { s with heap := h, toks := tk } :=
  assign_Tuple_tuple hh ht hn hstar fun h' he => q h' _ (Z.keeps fun c o e => he c o (Nat.ne_of_lt (Heap.lt_size e)) e)
end
noncomputable def Tgt (target : PySem.Expr) : Prop := (∃ x pos, target = .Name x pos) ∨ ∃ elts k pos, target = .Tuple elts k pos
section
variable {prog : Program} {W : Wd} {A : Around} {s : Shared} {b : Heap} {env : Env} {L : Addr}
noncomputable def ItSrc (prog : Program) (W : Wd) (A : Around) (target : PySem.Expr) (R : Rl) (b : Heap) (L : Addr) (m : Str → Option Value) (mu : Led) (X : Rl) (h : Heap) (xv : Value) (n : Nat) (P : Nat → Value → Heap → Prop) : Prop :=
  ∀ (s : Shared) (tk : Nat) (Q : Value → Shared → Prop), (∀ I its h' tk' fp Md StI Pm, St R b L h' m (mu ++ its) X → KTurns prog W.w A target I fp (its.map (·.1)) n Pm Md StI → (∀ i v h, Pm i v h → P i v h) →
    (∀ i h, StI i h → ∀ a ∈ its.map (·.1), ∃ o, h.get? a = some o) → (∀ a ∈ fp, a ∈ its.map (·.1) ∨ ∃ o, X a o) → StI 0 h' → Q (.ref I) { s with heap := h', toks := tk' }) →
    wpAny (model prog W.w) A (pyIter xv) Q No { s with heap := h, toks := tk }
noncomputable def STurn (s : Shared) (R : Rl) (b : Heap) (L : Addr) (its : Led) (X : Rl) (J : (Str → Option Value) → Led → Rl → Prop) (Q : Flow → Shared → Prop) (f : Flow) (s' : Shared) : Prop :=
  match f with
  | .ret v => Q (.ret v) s'
  | .brk => Q .next s'
  | _ => ∃ m mu Y, Le X Y ∧ St R b L s'.heap m (mu ++ its) Y ∧ J m mu Y ∧ s' = { s with heap := s'.heap, toks := s'.toks }
theorem STurn.next {R : Rl} {its mu : Led} {X Y : Rl} {J : (Str → Option Value) → Led → Rl → Prop} {Q : Flow → Shared → Prop} {h' : Heap} {tk' : Nat} {m : Str → Option Value}
    (Z : St R b L h' m (mu ++ its) Y) (hx : Le X Y) (hj : J m mu Y) : STurn s R b L its X J Q .next { s with heap := h', toks := tk' } := ⟨m, mu, Y, hx, Z, hj, rfl⟩
theorem STurn.ret {R : Rl} {its : Led} {X : Rl} {J : (Str → Option Value) → Led → Rl → Prop} {Q : Flow → Shared → Prop} {v : Value} {s' : Shared} (h : Q (.ret v) s') : STurn s R b L its X J Q (.ret v) s' := h
theorem s_loop {target : PySem.Expr} {body : List Stmt} {R X : Rl} {m₀ : Str → Option Value} {mu : Led} {n : Nat} {P : Nat → Value → Heap → Prop} {Q : Flow → Shared → Prop} {xv : Value} {h₁ : Heap} {tk₁ : Nat}
    (S : ItSrc prog W A target R b env.locals m₀ mu X h₁ xv n P) (J : Nat → (Str → Option Value) → Led → Rl → Prop) (h0 : J 0 m₀ mu X)
    (turn : ∀ its i v m mu Y h tk, Le X Y → i < n → P i v h → J i m mu Y → St R b env.locals h m (mu ++ its) Y →
      wpAny (model prog W.w) A (assign target env v) (fun _ s₂ => wpAny (model prog W.w) A (execs body env) (STurn s R b env.locals its X (J (i + 1)) Q) No s₂) No { s with heap := h, toks := tk })
    (done : ∀ m mu Y h tk, Le X Y → J n m mu Y → St R b env.locals h m mu Y → Q .next { s with heap := h, toks := tk }) :
    wpAny (model prog W.w) A (pyIter xv) (fun it s₂ => codeAny (model prog W.w) A (.forLoop target it body [] env) (fun r s' => match r with | .ok f => Q f s' | .error e => cameBackBy (model prog W.w) A env No e s') s₂) No { s with heap := h₁, toks := tk₁ } := by
  refine S s tk₁ _ fun I its h₂ tk₂ fp Md StI Pm Z Wk hP hob hfp hst => ?_
  refine codeAny_forLoop_any
    (fun k s' => ∃ h tk m mu Y its' i, s' = { s with heap := h, toks := tk } ∧ its'.map (·.1) = its.map (·.1) ∧ Le X Y ∧ St R b env.locals h m (mu ++ its') Y ∧ StI i h ∧ J i m mu Y ∧ i ≤ n ∧ k = n + 1 - i) ?_ (n + 1)
    ⟨h₂, tk₂, m₀, mu, X, its, 0, rfl, rfl, Le.refl _, Z, hst, h0, Nat.zero_le _, rfl⟩
  rintro k s' ⟨h, tk, m, mu, Y, its', i, rfl, hw, hY, Z, hst', hJ, hi, rfl⟩
  by_cases hlt : i < n
  · refine Wk.item i _ _ _ hlt hst' fun v h₃ tk₃ hMd hk₃ => ?_
    refine Wk.go i v _ _ _ hMd fun h₄ hPv hst₄ hk₄ => ?_
    obtain ⟨its₂, e₂, l₂⟩ := its_of (h := h₄) (its.map (·.1)) (hob _ _ hst₄)
    have Z₄ : St R b env.locals h₄ m (mu ++ its₂) Y := Z.chg (fun c o hc e => hk₄ c o (by rw [← hw]; exact hc) (hk₃ c o (by rw [← hw]; exact hc) e)) (by rw [e₂, hw]) l₂
    refine wpAny_mono (turn its₂ i v m mu Y h₄ tk₃ hY hlt (hP i v h₄ hPv) hJ Z₄) (fun _ s₂ k₂ => ?_) fun _ _ e => e.elim
    refine wpAny_mono k₂ (fun f s₃ k₃ => ?_) fun _ _ e => e.elim
    have fin : (∃ m mu Y, Le X Y ∧ St R b env.locals s₃.heap m (mu ++ its₂) Y ∧ J (i + 1) m mu Y ∧ s₃ = { s with heap := s₃.heap, toks := s₃.toks }) →
        ∃ k', k' < n + 1 - i ∧ ∃ h tk m mu Y its' i, s₃ = { s with heap := h, toks := tk } ∧ its'.map (·.1) = its.map (·.1) ∧ Le X Y ∧ St R b env.locals h m (mu ++ its') Y ∧ StI i h ∧ J i m mu Y ∧ i ≤ n ∧ k' = n + 1 - i := by
      rintro ⟨m', mu', Y', hY', Z', hJ', e⟩
      refine ⟨n + 1 - (i + 1), by omega, s₃.heap, s₃.toks, m', mu', Y', its₂, i + 1, e, e₂, hY', Z', ?_, hJ', hlt, rfl⟩
      refine Wk.frame _ _ _ hst₄ fun c hc o e => ?_
      rcases hfp c hc with q | ⟨o', q⟩
      · rw [← e₂] at q
        obtain ⟨p, hp, rfl⟩ := List.mem_map.mp q
        have := l₂ p hp
        rw [e] at this
        cases this
        exact Z'.mget (List.mem_append_right _ hp)
      · have := Z₄.get (hY _ _ q)
        rw [e] at this
        cases this
        exact Z'.get (hY' _ _ q)
    cases f with
    | ret v => exact k₃
    | brk => exact k₃
    | next => exact fin k₃
    | cont => exact fin k₃
  · have hin : i = n := by omega
    subst hin
    refine Wk.done _ _ _ hst' fun h₃ tk₃ hk₃ => wpAny_execs_nil ?_
    refine done m mu Y h₃ tk₃ hY hJ ?_
    obtain ⟨its₂, e₂, l₂⟩ := its_of (h := h₃) [] (fun _ h => nomatch h)
    have hl : ∀ p ∈ its', p.1 ∈ its.map (·.1) := fun p hp => hw ▸ List.mem_map_of_mem hp
    obtain ⟨fz, hX, N, hd⟩ := Z.ex
    have nd := Z.nd
    rw [List.map_append, List.nodup_append] at nd
    have ib : ∀ a ∈ its.map (·.1), a ≠ env.locals ∧ b.get? a = none := fun a ha => by
      rw [← hw] at ha
      obtain ⟨p, hp, rfl⟩ := List.mem_map.mp ha
      exact (N p (List.mem_append_left _ (List.mem_append_right _ hp))).2
    have mi : ∀ p ∈ mu, p.1 ∉ its.map (·.1) := fun p hp q => nd.2.2 p.1 (List.mem_map_of_mem hp) _ (hw ▸ q) rfl
    have fi : ∀ p ∈ fz, p.1 ∉ its.map (·.1) := fun p hp q => by
      rw [← hw] at q
      obtain ⟨r, hr, er⟩ := List.mem_map.mp q
      exact hd r (List.mem_append_right _ hr) p hp er
    refine ⟨⟨?_, fun c o q => hk₃ c o (fun r => by rw [(ib _ r).2] at q; cases q) (Z.F.keep c o q), Z.F.above⟩, Z.Rb, Z.RX, ⟨fz, hX, ?_, (Ds_app_l.mp hd).1⟩, nd.1⟩
    · obtain ⟨oL, es, ep, hL, r⟩ := Z.F.ns
      exact ⟨oL, es, ep, hk₃ _ _ (fun q => (ib _ q).1 rfl) hL, r⟩
    · intro p hp
      rcases List.mem_append.mp hp with hp | hp
      · have z := N p (List.mem_append_left _ (List.mem_append_left _ hp))
        exact ⟨hk₃ _ _ (mi p hp) z.1, z.2⟩
      · have z := N p (List.mem_append_right _ hp)
        exact ⟨hk₃ _ _ (fi p hp) z.1, z.2⟩
theorem go_src {target : PySem.Expr} {I : Addr} {v : Value} {Q : Unit → Shared → Prop} {E : Value → Shared → Prop} (ht : Tgt target) (ho : ∃ o, s.heap.get? I = some o ∧ ItCls o) (q : Q () s) : wpAny (model prog W.w) A (letOwnedTupleGo target (.ref I) v) Q E s := by
  rcases ht with ⟨x, pos, rfl⟩ | ⟨elts, k, pos, rfl⟩
  · exact lot_name q
  · obtain ⟨o, ho, hc⟩ := ho
    exact lot_it hc ho q
theorem St.it {R X : Rl} {h h' : Heap} {m : Str → Option Value} {mu : Led} {a : Addr} {o : Obj} (Z : St R b L h m mu X) (hk : ∀ c o, h.get? c = some o → h'.get? c = some o) (ha : h.get? a = none) (ho : h'.get? a = some o) : St R b L h' m (mu ++ [(a, o)]) X :=
  (Z.new hk ha ho).perm (List.perm_append_singleton (a, o) mu).symm
theorem src_list {target : PySem.Expr} {R X : Rl} {m : Str → Option Value} {mu : Led} {h : Heap} {l : Addr} {vs : List Value} {nl : Nat} (hh : A.handled = none) (ht : Tgt target) (Z : St R b L h m mu X) (z : At X l (lstO vs nl)) :
    ItSrc prog W A target R b L m mu X h (.ref l) vs.length (fun i v _ => vs[i]? = some v) := by
  intro s tk Q k
  have hl := Z.at z
  have hls : h.IsList l vs.toArray := ⟨_, hl, rfl, nl, rfl⟩
  have hlt : l < h.objs.size := Heap.lt_size hl
  refine wpAny_pyIter_list hls ?_
  have Wk := Walks.list (prog := prog) (w := W.w) hh h.objs.size l (Nat.ne_of_lt hlt) vs.toArray
  have e1 : vs.toArray.size = vs.length := List.size_toArray ..
  rw [e1] at Wk
  refine k h.objs.size [(h.objs.size, _)] _ _ _ _ _ _ (Z.it (fun _ _ e => Heap.get?_push_of_some _ e) (Heap.get?_none_of_le (Nat.le_refl _)) (Heap.get?_push_size _ rfl)) (KTurns.ofWalks Wk fun i v s Q E st q => go_src ht (let ⟨o, e, c, _⟩ := st.1; ⟨o, e, .inl c⟩) q)
    (fun i v h hp => by simpa using hp) (fun i h st a ha => ?_) (fun a ha => ?_) ⟨⟨_, Heap.get?_push_size _ rfl, rfl, rfl⟩, hls.push _⟩
  · rw [List.mem_singleton.mp ha]
    obtain ⟨o, e, _⟩ := st.1
    exact ⟨o, e⟩
  · rcases List.mem_cons.mp ha with rfl | ha
    · exact .inl (.head _)
    · rw [List.mem_singleton.mp ha]; exact .inr ⟨_, z⟩
theorem src_range {target : PySem.Expr} {R X : Rl} {m : Str → Option Value} {mu : Led} {h : Heap} {r : Addr} {a e c : Int} {t u v : Tok} {n : Nat} (hh : A.handled = none) (ht : Tgt target) (Z : St R b L h m mu X) (hr : IsRange h r a e c t u v)
    (hsm : Builtin.Range.small a e c = true) (hn : Builtin.Range.rangeSize a e c = (n : Int)) :
    ItSrc prog W A target R b L m mu X h (.ref r) n (fun i v _ => ∃ t, v = .int (a + i * c) t) := by
  intro s tk Q k
  refine wpAny_pyIter_range hr hsm ?_
  refine k h.objs.size [(h.objs.size, _)] _ _ _ _ _ _ (Z.it (fun _ _ e => Heap.get?_push_of_some _ e) (Heap.get?_none_of_le (Nat.le_refl _)) (Heap.get?_push_size _ rfl)) (KTurns.ofWalks (Walks.range hh h.objs.size a c n) fun i v s Q E st q => go_src ht ⟨_, st, .inr rfl⟩ q)
    (fun i v h hp => hp) (fun i h st a ha => ?_) (fun a ha => .inl (by simpa using ha)) ?_
  · rw [List.mem_singleton.mp ha]
    exact ⟨_, st⟩
  · show IsRangeIter _ _ _ _ _
    rw [hn]
    simpa using Heap.get?_push_size _ rfl
end
section
variable {prog : Program} {W : Wd} {A : Around} {s : Shared} {b : Heap} {env : Env} {L : Addr}
noncomputable def CompK (prog : Program) (W : Wd) (A : Around) (env : Env) (cl : List (Str × Addr)) (elt target iter : PySem.Expr) (ifs : List PySem.Expr) (scope : Scope) (pos : Pos) (use : Option (Value → Sem Unit)) (Q : Value → Shared → Prop) (it : Value) (s₂ : Shared) : Prop :=
  wpAny (model prog W.w) A (newList []) (fun acc s₃ => wpAny (model prog W.w) A (newFunctionEnv scope env.globals cl [] env.qual none .none (some env)) (fun cenv s₄ =>
      codeAny (model prog W.w) A (.compStart (.ListComp elt [⟨target, iter, ifs, 0⟩] scope pos) 0 it acc { cenv with scope := relabel scope env }) (compPost (model prog W.w) A No use Q acc cenv.locals) s₄) No s₃) No s₂
theorem s_comp {elt target iter : PySem.Expr} {ifs : List PySem.Expr} {scope : Scope} {cl : List (Str × Addr)} {pos : Pos} {Q : Value → Shared → Prop} (hclos : closureFor scope env = pure cl) (hkind : scope.kind = .function) (hnames : ∀ y ∈ scope.names, y.2 = .local → scope.names.lookup y.1 = some .local) (hs : ∀ x, foldedSetIterable iter env x = pure x)
    (h : wpAny (model prog W.w) A (eval iter env) (fun x s₁ => wpAny (model prog W.w) A (pyIter x) (CompK prog W A env cl elt target iter ifs scope pos none Q) No s₁) No s) :
    wpAny (model prog W.w) A (eval (.ListComp elt [⟨target, iter, ifs, 0⟩] scope pos) env) Q No s := by
  rw [eval_ListComp]
  exact wpAny_comprehension_free (use := none) rfl hs hclos hkind hnames h
noncomputable def SEnd (s : Shared) (R : Rl) (b' : Heap) (C : Addr) (own : Led) (J : Led → Rl → Prop) (s' : Shared) : Prop :=
  ∃ mc ms Y, St R b' C s'.heap mc (ms ++ own) Y ∧ J ms Y ∧ s' = { s with heap := s'.heap, toks := s'.toks }
theorem SEnd.intro {R Y : Rl} {b' : Heap} {C : Addr} {own : Led} {J : Led → Rl → Prop} {h' : Heap} {tk' : Nat} {mc : Str → Option Value} {ms : Led}
    (Z : St R b' C h' mc (ms ++ own) Y) (hj : J ms Y) : SEnd s R b' C own J { s with heap := h', toks := tk' } := ⟨mc, ms, Y, Z, hj, rfl⟩
inductive SrcS (X : Rl) (h : Heap) : Value → Nat → (Nat → Value → Prop) → Prop
  | list {l : Addr} {vs : List Value} {nl : Nat} : At X l (lstO vs nl) → SrcS X h (.ref l) vs.length (fun i v => vs[i]? = some v)
  | range {r : Addr} {a e c : Int} {t u v : Tok} {n : Nat} : IsRange h r a e c t u v → Builtin.Range.small a e c = true → Builtin.Range.rangeSize a e c = (n : Int) → SrcS X h (.ref r) n (fun i v => ∃ t, v = .int (a + i * c) t)
noncomputable def JL (X : Rl) (J : Addr → Nat → List Value → Led → Rl → Prop) (C : Addr) (i : Nat) (ys : List Value) (nw : Led) : Prop :=
  ∃ ms fz Y, nw = ms ++ fz ∧ Le Y (Or X fz) ∧ Ds ms fz ∧ (ms.map (·.1)).Nodup ∧ Le X Y ∧ J C i ys ms Y
theorem cellLed_ge : ∀ (names : List (Str × NameKind)) (n : Nat), ∀ p ∈ cellLed n names, n ≤ p.1
  | [], _, _, hp => nomatch hp
  | (_, k) :: r, n, p, hp => by
    unfold cellLed at hp
    split at hp
    · rcases List.mem_cons.mp hp with rfl | hp
      · exact Nat.le_refl n
      · exact Nat.le_of_succ_le (cellLed_ge r (n + 1) p hp)
    · exact cellLed_ge r n p hp
theorem cellLed_nd : ∀ (names : List (Str × NameKind)) (n : Nat), ((cellLed n names).map (·.1)).Nodup
  | [], _ => List.nodup_nil
  | (_, k) :: r, n => by
    unfold cellLed
    split
    · rw [List.map_cons, List.nodup_cons]
      refine ⟨fun q => ?_, cellLed_nd r (n + 1)⟩
      obtain ⟨p, hp, e⟩ := List.mem_map.mp q
      have := cellLed_ge r (n + 1) p hp
      rw [e] at this
      exact absurd this (Nat.not_succ_le_self n)
    · exact cellLed_nd r n
theorem s_compI {elt target iter : PySem.Expr} {ifs : List PySem.Expr} {scope : Scope} {cl : List (Str × Addr)} {pos : Pos} {R X : Rl} {m : Str → Option Value} {ms rest : Led} {n : Nat} {P : Nat → Value → Prop} {Q : Value → Shared → Prop} {h₁ : Heap} {tk₁ : Nat} {xv : Value} {use : Option (Value → Sem Unit)}
    (Z : St R b L h₁ m (ms ++ rest) X) (hh : A.handled = none) (S : SrcS X h₁ xv n P) (hsz : n ≤ 1000)
    (J : Addr → Nat → List Value → Led → Rl → Prop) (h0 : ∀ C, J C 0 [] (cellLed (C + 1) scope.names ++ ms) X)
    (turn : ∀ b' C I D nD io i v ys mc ms Y h tk, b.StaysIn b' → Le X (hp b') → (∀ p ∈ rest, b'.get? p.1 = some p.2) → i < n → P i v → Le X Y → J C i ys ms Y → St X b' C h mc (ms ++ [(I, io), (D, lstO ys nD)]) Y → ItCls io →
      wpAny (model prog W.w) A (letOwnedTupleGo target (.ref I) v) (fun _ s₁ => wpAny (model prog W.w) A (assign target (cpEnv scope cl C env) v) (fun _ s₂ => wpAny (model prog W.w) A (tests ifs (cpEnv scope cl C env)) (fun ok s₃ =>
        if ok = true then wpAny (model prog W.w) A (eval elt (cpEnv scope cl C env)) (fun y s₄ => SEnd s X b' C [(I, io), (D, lstO ys nD)] (J C (i + 1) (ys ++ [y])) s₄) No s₃
        else SEnd s X b' C [(I, io), (D, lstO ys nD)] (J C (i + 1) ys) s₃) No s₂) No s₁) No { s with heap := h, toks := tk })
    (k : ∀ C D nD h tk ys ms' Y mc fz, Le X Y → J C n ys ms' Y → St R b L h m ((D, lstO ys nD) :: (ms' ++ rest)) Y → Le Y (Or R fz) → News b L h (((D, lstO ys nD) :: (ms' ++ rest)) ++ fz) → Ds ((D, lstO ys nD) :: (ms' ++ rest)) fz → h.Ns C mc → C ≠ L → b.get? C = none → (∀ p ∈ ((D, lstO ys nD) :: (ms' ++ rest)) ++ fz, p.1 ≠ C) →
      compPost (model prog W.w) A No use Q (.ref D) C (.ok .next) { s with heap := h, toks := tk }) :
    wpAny (model prog W.w) A (pyIter xv) (CompK prog W A env cl elt target iter ifs scope pos use Q) No { s with heap := h₁, toks := tk₁ } := by
  obtain ⟨fz, hX, N, hd⟩ := Z.ex
  rw [List.append_assoc] at N
  have nd := Z.nd
  rw [List.map_append, List.nodup_append] at nd
  have dmr : Ds ms rest := fun p hp q hq e => nd.2.2 p.1 (List.mem_map_of_mem hp) q.1 (List.mem_map_of_mem hq) e
  have hdf := Ds_app_l.mp hd
  have S' : Src b (rest ++ fz) h₁ xv n P := by
    cases S with
    | list z =>
      refine Src.list (Or.imp (Z.Rb _ _) (fun q => List.mem_append_right _ q) (hX _ _ z))
    | range h1 h2 h3 => exact .range h1 h2 h3
  refine iter_src hh Z.F N S' fun I h₂ tk₂ ⟨io, fp, StI, F₂, N₂, hdm, Wk, hfp, hst, hIo⟩ => ?_
  refine comp_core F₂ N₂ hdm (Ds_app_r.mpr ⟨dmr, hdf.1⟩).symm Wk hfp hst hIo hsz (JL X J) (fun C hC => ?_) (fun b' C D nD io i v ys mc nw h tk kb kn hi hv hJ F' N' hd' hio => ?_) ?_
  · refine ⟨cellLed (C + 1) scope.names ++ ms, [], X, by simp, fun _ _ q => .inl q, (fun _ _ _ h => nomatch h), ?_, Le.refl _, h0 C⟩
    rw [List.map_append, List.nodup_append]
    refine ⟨cellLed_nd _ _, nd.1, fun a ha c hc e => ?_⟩
    obtain ⟨p, hp, rfl⟩ := List.mem_map.mp ha
    obtain ⟨q, hq, rfl⟩ := List.mem_map.mp hc
    have h1 := cellLed_ge scope.names (C + 1) p hp
    have h2 := hC q hq
    rw [e] at h1
    exact absurd h2 (Nat.not_lt.mpr (Nat.le_of_succ_le h1))
  · obtain ⟨ms', fz', Y, rfl, hY, dY, ndY, le, hJ⟩ := hJ
    have hID : I ≠ D := by
      rintro rfl
      have z1 := (N' (I, io) (.head _)).1
      have z2 := (N' (I, lstO ys nD) (.tail _ (.head _))).1
      rw [z1] at z2
      cases z2
      rcases hio with q | q <;> (injection q with q; exact absurd q (by decide))
    have hXb : Le X (hp b') := fun a o q => by
      rcases hX a o q with q | q
      · exact kb _ _ (Z.Rb _ _ q)
      · exact kn _ (List.mem_append_right _ q)
    have Z' : St X b' C h mc (ms' ++ [(I, io), (D, lstO ys nD)]) Y := by
      have hd' : Ds (ms' ++ fz') [(I, io), (D, lstO ys nD)] := hd'
      refine ⟨F', hXb, le, ⟨fz', hY, news_sub N' fun p hp => by simp only [List.mem_append, List.mem_cons, List.not_mem_nil, or_false] at hp ⊢; grind, Ds_app_l.mpr ⟨dY, (Ds_app_l.mp hd').2.symm⟩⟩, ?_⟩
      rw [List.map_append, List.nodup_append]
      refine ⟨ndY, by simp [hID], fun a ha c hc e => ?_⟩
      obtain ⟨p, hp, rfl⟩ := List.mem_map.mp ha
      obtain ⟨q, hq, rfl⟩ := List.mem_map.mp hc
      exact (Ds_app_l.mp hd').1 p hp q hq e
    refine wpAny_mono (turn b' C I D nD io i v ys mc ms' Y h tk kb hXb (fun p hp => kn p (List.mem_append_left _ hp)) hi hv le hJ Z' hio) (fun _ s₁ k₁ => ?_) fun _ _ e => e
    refine wpAny_mono k₁ (fun _ s₂ k₂ => wpAny_mono k₂ (fun ok s₃ k₃ => ?_) fun _ _ e => e) fun _ _ e => e
    have fin : ∀ {s₄ : Shared} {ys' : List Value}, SEnd s X b' C [(I, io), (D, lstO ys nD)] (J C (i + 1) ys') s₄ → CEnd s b' C [(I, io), (D, lstO ys nD)] (JL X J C (i + 1) ys') s₄ := by
      rintro s₄ ys' ⟨mc₄, ms₄, Y₄, Z₄, hJ₄, e⟩
      obtain ⟨fz₄, hX₄, N₄, hd₄⟩ := Z₄.ex
      have nd₄ := Z₄.nd
      rw [List.map_append, List.nodup_append] at nd₄
      have hd₄' := Ds_app_l.mp hd₄
      refine ⟨mc₄, ms₄ ++ fz₄, Z₄.F, news_sub N₄ fun p hp => by simp only [List.mem_append, List.mem_cons, List.not_mem_nil, or_false] at hp ⊢; grind, ?_, ⟨ms₄, fz₄, Y₄, rfl, hX₄, hd₄'.1, nd₄.1, Z₄.RX, hJ₄⟩, e⟩
      exact Ds_app_l.mpr ⟨fun p hp q hq e => nd₄.2.2 p.1 (List.mem_map_of_mem hp) q.1 (List.mem_map_of_mem hq) e, hd₄'.2.symm⟩
    cases ok with
    | true => exact wpAny_mono k₃ (fun y s₄ k₄ => fin k₄) fun _ _ e => e
    | false => exact fin k₃
  · rintro C D nD h tk mc ys nw ⟨ms', fz', Y, rfl, hY, dY, ndY, le, hJ⟩ F₃ N₃ hd1 hd2 hns hCL hCb hCn
    have hd1 : Ds (ms' ++ fz') (rest ++ fz) := hd1
    have hd2 : Df D ((ms' ++ fz') ++ (rest ++ fz)) := fun q hq e => hd2 q hq e.symm
    have e1 := Ds_app_l.mp hd1
    have e2 := Df_app.mp hd2
    have hsub : ∀ p ∈ ((D, lstO ys nD) :: (ms' ++ rest)) ++ (fz' ++ fz), p ∈ (D, lstO ys nD) :: ((ms' ++ fz') ++ (rest ++ fz)) := fun p hp => by simp only [List.mem_append, List.mem_cons, List.cons_append] at hp ⊢; grind
    have hYf : Le Y (Or R (fz' ++ fz)) := fun a o q => by
      rcases hY a o q with q | q
      · exact (hX a o q).imp id fun q => List.mem_append_right _ q
      · exact .inr (List.mem_append_left _ q)
    have hDs : Ds ((D, lstO ys nD) :: (ms' ++ rest)) (fz' ++ fz) := Ds_cons_l.mpr ⟨Df_app.mpr ⟨(Df_app.mp e2.1).2, (Df_app.mp e2.2).2⟩, Ds_app_l.mpr ⟨Ds_app_r.mpr ⟨dY, (Ds_app_r.mp e1.1).2⟩, Ds_app_r.mpr ⟨(Ds_app_r.mp e1.2).1.symm, hdf.2⟩⟩⟩
    refine k C D nD h tk ys ms' Y mc (fz' ++ fz) le hJ ⟨F₃, Z.Rb, Z.RX.trans le, ⟨fz' ++ fz, hYf, news_sub N₃ hsub, hDs⟩, ?_⟩ hYf (news_sub N₃ hsub) hDs hns hCL hCb fun p hp => hCn p (hsub p hp)
    rw [List.map_cons, List.nodup_cons, List.map_append, List.nodup_append]
    refine ⟨fun q => ?_, ndY, nd.2.1, fun a ha c hc e => ?_⟩
    · rcases List.mem_append.mp q with q | q
      · obtain ⟨p, hp, e⟩ := List.mem_map.mp q
        exact (Df_app.mp e2.1).1 p hp e.symm
      · obtain ⟨p, hp, e⟩ := List.mem_map.mp q
        exact (Df_app.mp e2.2).1 p hp e.symm
    · obtain ⟨p, hp, rfl⟩ := List.mem_map.mp ha
      obtain ⟨q, hq, rfl⟩ := List.mem_map.mp hc
      exact (Ds_app_r.mp e1.1).1 p hp q hq e
theorem off_fr {C : Addr} {h h' : Heap} {m : Str → Option Value} (F : Fr b L h m) (hs : Heap.SameBut C h h') (hCL : C ≠ L) (hCb : b.get? C = none) : Fr b L h' m :=
  ⟨F.ns.sameBut hs (Ne.symm hCL), fun c o e => (hs.2 c (fun q => by rw [q, hCb] at e; cases e)).trans (F.keep c o e), F.above⟩
theorem s_compV {elt target iter : PySem.Expr} {ifs : List PySem.Expr} {scope : Scope} {cl : List (Str × Addr)} {pos : Pos} {R X : Rl} {m : Str → Option Value} {ms rest : Led} {n : Nat} {P : Nat → Value → Prop} {Q : Value → Shared → Prop} {h₁ : Heap} {tk₁ : Nat} {xv : Value}
    (Z : St R b L h₁ m (ms ++ rest) X) (hh : A.handled = none) (S : SrcS X h₁ xv n P) (hsz : n ≤ 1000)
    (J : Addr → Nat → List Value → Led → Rl → Prop) (h0 : ∀ C, J C 0 [] (cellLed (C + 1) scope.names ++ ms) X)
    (turn : ∀ b' C I D nD io i v ys mc ms Y h tk, b.StaysIn b' → Le X (hp b') → (∀ p ∈ rest, b'.get? p.1 = some p.2) → i < n → P i v → Le X Y → J C i ys ms Y → St X b' C h mc (ms ++ [(I, io), (D, lstO ys nD)]) Y → ItCls io →
      wpAny (model prog W.w) A (letOwnedTupleGo target (.ref I) v) (fun _ s₁ => wpAny (model prog W.w) A (assign target (cpEnv scope cl C env) v) (fun _ s₂ => wpAny (model prog W.w) A (tests ifs (cpEnv scope cl C env)) (fun ok s₃ =>
        if ok = true then wpAny (model prog W.w) A (eval elt (cpEnv scope cl C env)) (fun y s₄ => SEnd s X b' C [(I, io), (D, lstO ys nD)] (J C (i + 1) (ys ++ [y])) s₄) No s₃
        else SEnd s X b' C [(I, io), (D, lstO ys nD)] (J C (i + 1) ys) s₃) No s₂) No s₁) No { s with heap := h, toks := tk })
    (k : ∀ C D nD h tk ys ms' Y, Le X Y → J C n ys ms' Y → St R b L h m ((D, lstO ys nD) :: (ms' ++ rest)) Y → Q (.ref D) { s with heap := h, toks := tk }) :
    wpAny (model prog W.w) A (pyIter xv) (CompK prog W A env cl elt target iter ifs scope pos none Q) No { s with heap := h₁, toks := tk₁ } := by
  refine s_compI Z hh S hsz J h0 turn ?_
  intro C D nD h tk ys ms' Y mc fz le hJ Z' hY N hd hns hCL hCb hCn
  exact ⟨mc, hns, fun h' hs => k C D nD h' tk ys ms' Y le hJ ⟨off_fr Z'.F hs hCL hCb, Z'.Rb, Z'.RX, ⟨fz, hY, fun p hp => ⟨(hs.2 _ (hCn p hp)).trans (N p hp).1, (N p hp).2⟩, hd⟩, Z'.nd⟩⟩
theorem s_compA {elt target iter : PySem.Expr} {ifs : List PySem.Expr} {scope : Scope} {cl : List (Str × Addr)} {pos spos py : Pos} {y : Str} {Q : Flow → Shared → Prop} (hsw : swapsWith (.ListComp elt [⟨target, iter, ifs, 0⟩] scope pos) (some (.Name y py)) spos.line env = pure true) (hclos : closureFor scope env = pure cl) (hkind : scope.kind = .function) (hnames : ∀ y ∈ scope.names, y.2 = .local → scope.names.lookup y.1 = some .local) (hs : ∀ x, foldedSetIterable iter env x = pure x)
    (h : wpAny (model prog W.w) A (eval iter env) (fun x s₁ => wpAny (model prog W.w) A (pyIter x) (CompK prog W A env cl elt target iter ifs scope pos (some (assign (.Name y py) env)) (fun _ s' => Q .next s')) No s₁) No s) :
    wpAny (model prog W.w) A (exec (.Assign [.Name y py] (.ListComp elt [⟨target, iter, ifs, 0⟩] scope pos) spos) env) Q No s := by
  rw [exec_Assign_Name_used _ _ _ _ hsw]
  refine wpAny_bind (wpAny_standAt (wpAny_bind ?_))
  show wpAny _ A (do let _ ← comprehension (.ListComp elt [⟨target, iter, ifs, 0⟩] scope pos) scope env _ (newList []) false (eval iter env) (some (assign (.Name y py) env))) _ _ s
  exact wpAny_bind (wpAny_mono (wpAny_comprehension_free (use := some (assign (.Name y py) env)) (Q := fun _ s' => Q .next s') rfl hs hclos hkind hnames h) (fun _ s' hq => wpAny_pure (wpAny_pure hq)) fun _ _ e => e)
theorem s_compU {elt target iter : PySem.Expr} {ifs : List PySem.Expr} {scope : Scope} {cl : List (Str × Addr)} {pos py : Pos} {y : Str} {R X : Rl} {m : Str → Option Value} {ms rest : Led} {n : Nat} {P : Nat → Value → Prop} {Q : Value → Shared → Prop} {h₁ : Heap} {tk₁ : Nat} {xv : Value}
    (Z : St R b L h₁ m (ms ++ rest) X) (hh : A.handled = none) (hL : env.locals = L) (hy : env.kindOf y = some .local) (hpp : (env.scope.kind == .class || (env.scope.kind == .module && env.locals != env.globals)) = false) (S : SrcS X h₁ xv n P) (hsz : n ≤ 1000)
    (J : Addr → Nat → List Value → Led → Rl → Prop) (h0 : ∀ C, J C 0 [] (cellLed (C + 1) scope.names ++ ms) X)
    (turn : ∀ b' C I D nD io i v ys mc ms Y h tk, b.StaysIn b' → Le X (hp b') → (∀ p ∈ rest, b'.get? p.1 = some p.2) → i < n → P i v → Le X Y → J C i ys ms Y → St X b' C h mc (ms ++ [(I, io), (D, lstO ys nD)]) Y → ItCls io →
      wpAny (model prog W.w) A (letOwnedTupleGo target (.ref I) v) (fun _ s₁ => wpAny (model prog W.w) A (assign target (cpEnv scope cl C env) v) (fun _ s₂ => wpAny (model prog W.w) A (tests ifs (cpEnv scope cl C env)) (fun ok s₃ =>
        if ok = true then wpAny (model prog W.w) A (eval elt (cpEnv scope cl C env)) (fun y s₄ => SEnd s X b' C [(I, io), (D, lstO ys nD)] (J C (i + 1) (ys ++ [y])) s₄) No s₃
        else SEnd s X b' C [(I, io), (D, lstO ys nD)] (J C (i + 1) ys) s₃) No s₂) No s₁) No { s with heap := h, toks := tk })
    (k : ∀ C D nD h tk ys ms' Y, Le X Y → J C n ys ms' Y → St R b L h (fun z => if z = y then some (.ref D) else m z) ((D, lstO ys nD) :: (ms' ++ rest)) Y → Q .none { s with heap := h, toks := tk }) :
    wpAny (model prog W.w) A (pyIter xv) (CompK prog W A env cl elt target iter ifs scope pos (some (assign (.Name y py) env)) Q) No { s with heap := h₁, toks := tk₁ } := by
  subst hL
  refine s_compI Z hh S hsz J h0 turn ?_
  intro C D nD h tk ys ms' Y mc fz le hJ Z' hY N hd hns hCL hCb hCn
  show wpAny _ A (assign (.Name y py) env (.ref D)) _ _ _
  refine wpAny_assign_Name (wpAny_storeName_local hy Z'.F.ns (fun h₂ hn₂ hs₂ => ?_) hpp)
  exact ⟨mc, hns.sameBut hs₂ hCL, fun h' hs => k C D nD h' _ ys ms' Y le hJ ⟨off_fr (Z'.F.set hn₂ hs₂) hs hCL hCb, Z'.Rb, Z'.RX, ⟨fz, hY, fun p hp => ⟨(hs.2 _ (hCn p hp)).trans ((hs₂.2 _ (N p hp).2.1).trans (N p hp).1), (N p hp).2⟩, hd⟩, Z'.nd⟩⟩
end
section
variable {prog : Program} {w : World} {A : Around} {s : Shared} {R X : Rl} {b h : Heap} {tk : Nat} {L : Addr} {m : Str → Option Value} {mu l1 l2 : Led} {E : Value → Shared → Prop} {Q : Value → Shared → Prop}
theorem s_slice3 {value slice : PySem.Expr} {l : Addr} {vs out : List Value} {n : Nat} {vl vu vk : Value} {lo hi st : Option Int} {ops : List Value}
    (Z : St R b L h m mu X) (hl : h.get? l = some (lstO vs n)) (pl : IsPart vl lo) (pu : IsPart vu hi) (pk : IsPart vk st) (h0 : st ≠ some 0) (hz : vs.length ≤ 1000) (ho : slicePick vs.toArray lo hi st = out.toArray)
    (k : ∀ D h' tk' Y, Le X Y → At Y D (lstO out 0) → St R b L h' m mu Y → Q (.ref D) { s with heap := h', toks := tk' })
    (hs : subscripted slice false (.ref l) (.ref h.objs.size) = operate ops (getItem (.ref l) (.ref h.objs.size)) := by with_unfolding_all rfl) :
    wpAny (model prog w) A (subscriptTail value slice (.ref l) (.ref h.objs.size)) Q E { s with heap := h.push { cls := .type "slice", data := .fields #[vl, vu, vk] }, toks := tk } := by
  refine kba_turn (value' := PySem.Expr.Name (PySem.Str.ofString "_") ⟨0, 0, 0, 0⟩) (fun _ => rfl) ?_
  refine Z.lib fun fz N kk => ?_
  refine slice_list3 (s := { s with heap := h, toks := tk }) (news := mu ++ fz) Z.F N ⟨_, hl, rfl, n, rfl⟩ pl pu pk h0 (fun h' F' N' => ?_) hs (fun _ => rfl) (by rw [List.size_toArray]; exact sz1000 hz)
  rw [ho] at N'
  refine (kk F' N' fun p hp => Nat.lt_succ_of_lt (Heap.lt_size (N p hp).1)).freeze (l1 := []) fun Y h1 h2 h3 => k _ h' tk Y h1 h2 h3
end
theorem pick_from {vs : List Value} {a : Nat} : slicePick vs.toArray (some (a : Int)) none none = (vs.drop a).toArray := slicePick_from' _ _
theorem pick_upto {vs : List Value} {a : Nat} : slicePick vs.toArray none (some (a : Int)) none = (vs.take a).toArray := slicePick_upto' _ _
noncomputable def Rd (X : Rl) (v : Value) (d : PyData) : Prop := ∀ h : Heap, Le X (hp h) → ∃ as, Reads h v d as
noncomputable def RdAll (X : Rl) (vs : List Value) (ds : List PyData) : Prop := ∀ h : Heap, Le X (hp h) → ∃ as, ReadsAll h vs ds as
theorem Rd.int {X : Rl} {n : Int} {t : Tok} : Rd X (.int n t) (.int n) := fun _ _ => ⟨_, .int n t⟩
theorem Rd.str {X : Rl} {n : Str} {t : Tok} : Rd X (.str n t) (.str n) := fun _ _ => ⟨_, .str n t⟩
theorem RdAll.nil {X : Rl} : RdAll X [] [] := fun _ _ => ⟨_, .nil⟩
theorem RdAll.cons {X : Rl} {v : Value} {d : PyData} {vs : List Value} {ds : List PyData} (k : Rd X v d) (r : RdAll X vs ds) : RdAll X (v :: vs) (d :: ds) := fun h q => let ⟨_, a⟩ := k h q; let ⟨_, c⟩ := r h q; ⟨_, .cons a c⟩
theorem RdAll.of {X : Rl} : ∀ {vs : List Value} {ds : List PyData}, vs.length = ds.length → (∀ (i : Nat) (d : PyData), ds[i]? = some d → ∃ v, vs[i]? = some v ∧ Rd X v d) → RdAll X vs ds
  | [], [], _, _ => .nil
  | [], _ :: _, e, _ => by cases e
  | _ :: _, [], e, _ => by cases e
  | v :: vs, d :: ds, e, k => by
    obtain ⟨v', e', q⟩ := k 0 d rfl
    cases e'
    exact .cons q (RdAll.of (Nat.succ.inj e) fun i d h => by
      obtain ⟨v, e, q⟩ := k (i + 1) d (by simpa using h)
      exact ⟨v, by simpa using e, q⟩)
theorem Rd.list {X : Rl} {a : Addr} {vs : List Value} {n : Nat} {ds : List PyData} (z : At X a (lstO vs n)) (k : RdAll X vs ds) : Rd X (.ref a) (.list ds) := fun h q => let ⟨_, c⟩ := k h q; ⟨_, reads_list_at (q _ _ z) rfl rfl (by simpa using c)⟩
theorem Rd.tup {X : Rl} {a : Addr} {vs : List Value} {ds : List PyData} (z : At X a (tupO vs)) (k : RdAll X vs ds) : Rd X (.ref a) (.tuple ds) := fun h q => let ⟨_, c⟩ := k h q; ⟨_, reads_tuple_at (q _ _ z) rfl rfl (by simpa using c)⟩
theorem IntsV.rd {X : Rl} {vs : List Value} {ns : List Int} (h : IntsV vs ns) : RdAll X vs (ns.map PyData.int) := by
  refine RdAll.of (by rw [List.length_map]; exact h.1) fun i d e => ?_
  rw [List.getElem?_map] at e
  cases hn : ns[i]? with
  | none => rw [hn] at e; cases e
  | some n =>
    rw [hn] at e
    cases e
    obtain ⟨t, q⟩ := h.2 i n hn
    exact ⟨_, q, .int⟩
theorem eqv_ints (ns ms : List Int) : PyData.eqv (.list (ns.map PyData.int)) (.list (ms.map PyData.int)) = decide (ns = ms) := by rw [PyData.eqv, ked_eqvAll]
theorem eqvAll_map {α : Type} [DecidableEq α] {f : α → PyData} (hf : ∀ x y, PyData.eqv (f x) (f y) = decide (x = y)) : ∀ xs ys : List α, PyData.eqvAll (xs.map f) (ys.map f) = decide (xs = ys)
  | [], [] => by simp [PyData.eqvAll]
  | [], _ :: _ => by simp [PyData.eqvAll]
  | _ :: _, [] => by simp [PyData.eqvAll]
  | a :: r, b :: t => by
    simp only [List.map_cons, PyData.eqvAll, hf, eqvAll_map hf r t]
    by_cases h : a = b <;> by_cases h' : r = t <;> simp [h, h']
theorem canLay_map {α : Type} {f : α → PyData} (hf : ∀ x, (f x).canLay0 = true) : ∀ xs : List α, PyData.canLayAll0 (xs.map f) = true
  | [] => rfl
  | a :: r => by simp only [List.map_cons, PyData.canLayAll0, hf a, canLay_map hf r, Bool.and_self]
theorem depth_map {α : Type} {f : α → PyData} {n : Nat} (hf : ∀ x, (f x).depth ≤ n) : ∀ xs : List α, PyData.depthAll (xs.map f) ≤ n
  | [] => Nat.zero_le _
  | a :: r => by
    have h1 := hf a
    have h2 := depth_map hf r
    simp only [List.map_cons, PyData.depthAll]
    omega
noncomputable def intsD (ns : List Int) : PyData := .list (ns.map PyData.int)
theorem intsD_shape (ns : List Int) : (intsD ns).canLay0 = true ∧ (intsD ns).depth ≤ 1 := by
  constructor
  · unfold intsD; rw [PyData.canLay0]; exact canLay_map (fun _ => rfl) ns
  · unfold intsD; rw [PyData.depth]; have := depth_map (f := PyData.int) (n := 0) (fun _ => Nat.le_refl _) ns; omega
noncomputable def intssD (nss : List (List Int)) : PyData := .list (nss.map intsD)
theorem intssD_shape (nss : List (List Int)) : (intssD nss).canLay0 = true ∧ (intssD nss).depth ≤ 2 := by
  constructor
  · unfold intssD; rw [PyData.canLay0]; exact canLay_map (fun x => (intsD_shape x).1) nss
  · unfold intssD; rw [PyData.depth]; have := depth_map (f := intsD) (n := 1) (fun x => (intsD_shape x).2) nss; omega
theorem shaped_of {d : PyData} {n : Nat} (h : d.canLay0 = true ∧ d.depth ≤ n) (hn : n ≤ 64) : SeqAt.shaped d = true := by
  unfold SeqAt.shaped
  rw [h.1, Bool.true_and, decide_eq_true_eq]
  exact Nat.le_trans h.2 hn
theorem eqv_intsD (ns ms : List Int) : PyData.eqv (intsD ns) (intsD ms) = decide (ns = ms) := eqv_ints ns ms
theorem eqv_intssD (ns ms : List (List Int)) : PyData.eqv (intssD ns) (intssD ms) = decide (ns = ms) := by unfold intssD; rw [PyData.eqv, eqvAll_map eqv_intsD]
section
variable {prog : Program} {w : World} {A : Around} {s : Shared} {R X : Rl} {b h : Heap} {tk : Nat} {L : Addr} {m : Str → Option Value} {mu : Led} {E : Value → Shared → Prop} {Q : Value → Shared → Prop}
theorem s_ne {u v : Value} {d e : PyData} (Z : St R b L h m mu X) (ru : Rd X u d) (rv : Rd X v e) (hd : SeqAt.shaped d = true) (he : SeqAt.shaped e = true) (hu : A.units + 64 < cLine)
    (q : Q (.bool (!PyData.eqv d e)) { s with heap := h, toks := tk }) : wpAny (model prog w) A (compareOp .NotEq u v) Q E { s with heap := h, toks := tk } := by
  obtain ⟨_, ru⟩ := ru h fun a o x => Z.get x
  obtain ⟨_, rv⟩ := rv h fun a o x => Z.get x
  exact ne_dataH ru rv hd he hu q
end
section
variable {M : Model} {A : Around} {s : Shared} {E : Value → Shared → Prop} {Q : Value → Shared → Prop} {env : Env}
theorem part_some {e : PySem.Expr} (h : wpAny M A (eval e env) Q E s) : wpAny M A (evalPart (some e) env) Q E s := h
theorem part_none (h : Q .none s) : wpAny M A (evalPart none env) Q E s := wpAny_pure h
end
section
variable {prog : Program} {w : World} {A : Around} {s : Shared} {R X : Rl} {b h : Heap} {tk : Nat} {L : Addr} {m : Str → Option Value} {mu : Led} {E : Value → Shared → Prop} {Q : Value → Shared → Prop}
end
section
variable {K : Type} [DecidableEq K]
inductive IntP : List (K × Value) → List (K × Int) → Prop
  | nil : IntP [] []
  | cons {k : K} {n : Int} {t : Tok} {kvs : List (K × Value)} {ns : List (K × Int)} : IntP kvs ns → IntP ((k, .int n t) :: kvs) ((k, n) :: ns)
noncomputable def getI (ns : List (K × Int)) (k : K) : Option Int := (ns.find? fun p => decide (p.1 = k)).map (·.2)
noncomputable def putI (ns : List (K × Int)) (k : K) (n : Int) : List (K × Int) := if ns.any (fun p => decide (p.1 = k)) then ns.map (fun p => if p.1 = k then (p.1, n) else p) else ns ++ [(k, n)]
theorem IntP.length {kvs : List (K × Value)} {ns : List (K × Int)} (h : IntP kvs ns) : kvs.length = ns.length := by
  induction h with
  | nil => rfl
  | cons _ ih => simp [ih]
theorem IntP.keys {kvs : List (K × Value)} {ns : List (K × Int)} (h : IntP kvs ns) : kvs.map (·.1) = ns.map (·.1) := by
  induction h with
  | nil => rfl
  | cons _ ih => simp [ih]
theorem IntP.at {kvs : List (K × Value)} {ns : List (K × Int)} (h : IntP kvs ns) : ∀ {i : Nat} {k : K} {v : Value}, kvs[i]? = some (k, v) → ∃ n t, ns[i]? = some (k, n) ∧ v = .int n t := by
  induction h with
  | nil => intro i k v e; simp at e
  | @cons k n t kvs ns _ ih =>
    intro i k' v e
    cases i with
    | zero => cases e; exact ⟨n, t, rfl, rfl⟩
    | succ i => exact ih e
theorem IntP.app {kvs : List (K × Value)} {ns : List (K × Int)} (h : IntP kvs ns) {k : K} {n : Int} {t : Tok} : IntP (kvs ++ [(k, .int n t)]) (ns ++ [(k, n)]) := by
  induction h with
  | nil => exact .cons .nil
  | cons _ ih => exact .cons ih
theorem IntP.map {kvs : List (K × Value)} {ns : List (K × Int)} (h : IntP kvs ns) {k : K} {n : Int} {t : Tok} : IntP (kvs.map fun kv => if kv.1 = k then (kv.1, .int n t) else kv) (ns.map fun p => if p.1 = k then (p.1, n) else p) := by
  induction h with
  | nil => exact .nil
  | @cons k' n' t' kvs ns _ ih =>
    simp only [List.map_cons]
    by_cases e : k' = k
    · rw [if_pos e, if_pos e]; exact .cons ih
    · rw [if_neg e, if_neg e]; exact .cons ih
theorem IntP.any {kvs : List (K × Value)} {ns : List (K × Int)} (h : IntP kvs ns) (k : K) : (kvs.any fun kv => decide (kv.1 = k)) = ns.any fun p => decide (p.1 = k) := by
  induction h with
  | nil => rfl
  | cons _ ih => simp only [List.any_cons, ih]
theorem IntP.stored {kvs : List (K × Value)} {ns : List (K × Int)} (h : IntP kvs ns) {k : K} {n : Int} {t : Tok} : IntP (stored kvs k (.int n t)) (putI ns k n) := by
  unfold PySem.stored putI
  rw [h.any k]
  split
  · exact h.map
  · exact h.app
theorem IntP.value {kvs : List (K × Value)} {ns : List (K × Int)} (h : IntP kvs ns) (k : K) : (getI ns k = none ∧ valueAt kvs k = none) ∨ ∃ n t, getI ns k = some n ∧ valueAt kvs k = some (.int n t) := by
  induction h with
  | nil => exact .inl ⟨rfl, rfl⟩
  | @cons k' n' t' kvs ns _ ih =>
    by_cases e : k' = k
    · refine .inr ⟨n', t', ?_, ?_⟩
      · simp [getI, e]
      · simp [valueAt, e]
    · rcases ih with ⟨h1, h2⟩ | ⟨n, t, h1, h2⟩
      · refine .inl ⟨?_, ?_⟩
        · simpa [getI, e] using h1
        · simpa [valueAt, e] using h2
      · refine .inr ⟨n, t, ?_, ?_⟩
        · simpa [getI, e] using h1
        · simpa [valueAt, e] using h2
variable {prog : Program} {w : World} {knd : KeyKind prog w K}
noncomputable def DObj (knd : KeyKind prog w K) (o : Obj) (ns : List (K × Int)) : Prop := ∃ kvs, o.IsDictOf knd kvs ∧ IntP kvs ns
noncomputable def DictI (knd : KeyKind prog w K) (X : Rl) (d : Addr) (ns : List (K × Int)) : Prop := (d == sysModules) = false ∧ ∃ o, At X d o ∧ DObj knd o ns
theorem DictI.mono {X Y : Rl} {d : Addr} {ns : List (K × Int)} (h : DictI knd X d ns) (le : Le X Y) : DictI knd Y d ns := let ⟨e, o, z, r⟩ := h; ⟨e, o, z.mono le, r⟩
variable {A : Around} {s : Shared} {R X : Rl} {b h : Heap} {tk : Nat} {L : Addr} {m : Str → Option Value} {mu l1 l2 : Led} {E : Value → Shared → Prop} {env : Env}
theorem DObj.nodup {o : Obj} {ns : List (K × Int)} (h : DObj knd o ns) : (ns.map (·.1)).Nodup := by
  obtain ⟨kvs, ⟨_, _, _, _, _, _, nd⟩, hp⟩ := h
  rw [← hp.keys]; exact nd
theorem s_dict0 {pos : Pos} {Q : Value → Shared → Prop} (Z : St R b L h m mu X) (hn : b.NoLimit) (q : ∀ d o h', (d == sysModules) = false → DObj knd o [] → St R b L h' m ((d, o) :: mu) X → Q (.ref d) { s with heap := h', toks := tk }) :
    wpAny (model prog w) A (eval (.Dict [] [] pos) env) Q E { s with heap := h, toks := tk } := by
  refine wpAny_Dict_empty ?_
  have hlow : (h.objs.size == sysModules) = false := by
    have h1 := modules_low hn
    have h2 := Z.F.above
    have h3 := Z.F.ns.lt
    exact beq_false_of_ne (Nat.ne_of_gt (Nat.lt_of_lt_of_le h1 (Nat.le_trans h2 (Nat.le_of_lt h3))))
  refine q h.objs.size _ _ hlow ⟨[], ?_, .nil⟩ (Z.new (o := { cls := .type "dict", data := .dict #[] }) (fun _ _ e => Heap.get?_push_of_some _ e) (Heap.get?_none_of_le (Nat.le_refl _)) (Heap.get?_push_size _ rfl))
  exact ⟨#[], 0, ⟨rfl, rfl, rfl⟩, rfl, fun _ he => by simp at he, .nil, List.nodup_nil⟩
theorem s_setd {d : Addr} {o : Obj} {ns : List (K × Int)} {k : K} {key : Value} {n : Int} {t : Tok} {Q : Unit → Shared → Prop} (Z : St R b L h m (l1 ++ (d, o) :: l2) X) (ho : DObj knd o ns) (hk : knd.is k key = true) (hz : ns.length ≤ 1000)
    (q : ∀ h' tk' o', DObj knd o' (putI ns k n) → St R b L h' m (l1 ++ (d, o') :: l2) X → Q () { s with heap := h', toks := tk' }) :
    wpAny (model prog w) A (setItem (.ref d) key (.int n t)) Q E { s with heap := h, toks := tk } := by
  obtain ⟨kvs, hd, hp⟩ := ho
  have z := Z.N (d, o) (List.mem_append_right _ (.head _))
  refine wpAny_setItem_pairs (kvs := kvs) hk (Heap.dictOf_iff.mpr ⟨o, z.1, hd⟩) (fun h' hm hs => ?_) (by rw [hp.length]; exact sz1000 hz)
  obtain ⟨o', ho', hd'⟩ := Heap.dictOf_iff.mp hm
  exact q h' _ o' ⟨_, hd', hp.stored⟩ (Z.upd hs ho')
theorem s_ind {d : Addr} {o : Obj} {ns : List (K × Int)} {k : K} {key : Value} {Q : Value → Shared → Prop} (z : h.get? d = some o) (hd : (d == sysModules) = false) (ho : DObj knd o ns) (hk : knd.is k key = true)
    (q : ∀ tk', Q (.bool (getI ns k).isSome) { s with heap := h, toks := tk' }) : wpAny (model prog w) A (compareOp .In key (.ref d)) Q E { s with heap := h, toks := tk } := by
  obtain ⟨kvs, ho, hp⟩ := ho
  refine wpAny_in_of hk hd (Heap.dictOf_iff.mpr ⟨o, z, ho⟩).mapOf ?_
  rcases hp.value k with ⟨h1, h2⟩ | ⟨n, t, h1, h2⟩
  · rw [h2]; rw [h1] at q; exact q _
  · rw [h2]; rw [h1] at q; exact q _
theorem s_getd {d : Addr} {o : Obj} {ns : List (K × Int)} {k : K} {key : Value} {n : Int} {Q : Value → Shared → Prop} (z : h.get? d = some o) (ho : DObj knd o ns) (hk : knd.is k key = true) (hn : getI ns k = some n)
    (q : ∀ t tk', Q (.int n t) { s with heap := h, toks := tk' }) : wpAny (model prog w) A (getItem (.ref d) key) Q E { s with heap := h, toks := tk } := by
  obtain ⟨kvs, ho, hp⟩ := ho
  rcases hp.value k with ⟨h1, h2⟩ | ⟨n', t, h1, h2⟩
  · rw [h1] at hn; cases hn
  · rw [h1] at hn; cases hn
    exact wpAny_getItem_of hk (Heap.dictOf_iff.mpr ⟨o, z, ho⟩).mapOf h2 (q t _)
theorem dictMethod {d : Addr} {o : Obj} {ns : List (K × Int)} {name : Str} {id : String} {pl : Sem Bool} {Q : Value × List Value → Shared → Prop} (z : h.get? d = some o) (ho : DObj knd o ns) (slot : Slot "dict" name id) (hty : typeOf (.builtin id) = pure (.type "method_descriptor"))
    (q : Q (.builtin id, [.ref d]) { s with heap := h, toks := tk }) : wpAny (model prog w) A (getMethod (.ref d) name pl) Q E { s with heap := h, toks := tk } := by
  obtain ⟨kvs, ho, hp⟩ := ho
  have hm := (Heap.dictOf_iff (knd := knd)).mpr ⟨o, z, ho⟩
  exact getMethod_builtin (s := { s with heap := h, toks := tk }) (Heap.DictOf.typeIs (s := { s with heap := h, toks := tk }) hm) PySem.F.plainAttrs_dict slot hty hm.mapOf.noDict q
theorem s_items {d : Addr} {o : Obj} {ns : List (K × Int)} {Q : Value → Shared → Prop} (Z : St R b L h m mu X) (z : h.get? d = some o) (hd : (d == sysModules) = false) (ho : DObj knd o ns)
    (q : ∀ v h', h'.IsItemsView v d → St R b L h' m mu X → Q (.ref v) { s with heap := h', toks := tk }) : wpAny (model prog w) A (call (.builtin "dict.items") [.ref d]) Q E { s with heap := h, toks := tk } := by
  obtain ⟨kvs, ho, hp⟩ := ho
  have hm := (Heap.dictOf_iff (knd := knd)).mpr ⟨o, z, ho⟩
  exact call_meetsIn F.slot_dict_items (Heap.DictOf.typeIs (s := { s with heap := h, toks := tk }) hm) F.entry_dict_items (F.args_dict_items_1 _) (meets_dict_items knd d hd) ⟨⟨kvs, hm⟩, q _ _ ⟨_, Heap.get?_push_size _ rfl, rfl, rfl⟩ (Z.keeps fun _ _ e => Heap.get?_push_of_some _ e)⟩
theorem s_values {d : Addr} {o : Obj} {ns : List (K × Int)} {Q : Value → Shared → Prop} (Z : St R b L h m mu X) (z : h.get? d = some o) (hd : (d == sysModules) = false) (ho : DObj knd o ns)
    (q : ∀ v h', h'.IsValuesView v d → St R b L h' m mu X → Q (.ref v) { s with heap := h', toks := tk }) : wpAny (model prog w) A (call (.builtin "dict.values") [.ref d]) Q E { s with heap := h, toks := tk } := by
  obtain ⟨kvs, ho, hp⟩ := ho
  have hm := (Heap.dictOf_iff (knd := knd)).mpr ⟨o, z, ho⟩
  exact call_meetsIn F.slot_dict_values (Heap.DictOf.typeIs (s := { s with heap := h, toks := tk }) hm) F.entry_dict_values (F.args_dict_values_1 _) (meets_dict_values knd d hd) ⟨⟨kvs, hm⟩, q _ _ ⟨_, Heap.get?_push_size _ rfl, rfl, rfl⟩ (Z.keeps fun _ _ e => Heap.get?_push_of_some _ e)⟩
end
section
variable {K : Type} [DecidableEq K] {prog : Program} {W : Wd} {knd : KeyKind prog W.w K} {A : Around} {R X : Rl} {b h : Heap} {L : Addr} {m : Str → Option Value} {mu : Led}
theorem src_items {elts : List PySem.Expr} {kk : Nat} {pos : Pos} {d vw : Addr} {ns : List (K × Int)} (hh : A.handled = none) (Z : St R b L h m mu X) (hv : h.IsItemsView vw d) (D : DictI knd X d ns) :
    ItSrc prog W A (.Tuple elts kk pos) R b L m mu X h (.ref vw) ns.length (fun i v h => ∃ T key k n t, v = .ref T ∧ ns[i]? = some (k, n) ∧ knd.is k key = true ∧ h.IsTuple T #[key, .int n t]) := by
  intro s tk Q q
  obtain ⟨hd, o, z, kvs, ho, hp⟩ := D
  obtain ⟨ep, hat⟩ := ((Heap.dictOf_iff (knd := knd)).mpr ⟨o, Z.at z, ho⟩).dictAt
  have hne : d ≠ h.objs.size := Nat.ne_of_lt hat.lt_size
  refine wpAny_pyIter_items hv hat ?_
  have Wk := kti_itemsTurns (prog := prog) (w := W.w) (A := A) (knd := knd) (elts := elts) (kk := kk) (pos := pos) hh h.objs.size d hne kvs ep
  rw [hp.length] at Wk
  refine q h.objs.size [(h.objs.size, _)] _ _ _ _ _ _ (Z.it (fun _ _ e => Heap.get?_push_of_some _ e) (Heap.get?_none_of_le (Nat.le_refl _)) (Heap.get?_push_size _ rfl)) Wk ?_ ?_ ?_ ?_
  · rintro i v h ⟨T, key, k, x, rfl, hx, hk, hT⟩
    obtain ⟨n, t, e, rfl⟩ := hp.at hx
    exact ⟨T, key, k, n, t, rfl, e, hk, hT⟩
  · rintro i h ⟨⟨ok, ov, he⟩, _⟩ a ha
    rw [List.mem_singleton.mp ha]
    exact ⟨_, he⟩
  · intro a ha
    rcases List.mem_cons.mp ha with rfl | ha
    · exact .inl (.head _)
    · rw [List.mem_singleton.mp ha]; exact .inr ⟨o, z⟩
  · exact ⟨⟨.none, .none, by rw [← hp.length]; exact Heap.get?_push_size _ rfl⟩, hat.keep fun _ _ e => Heap.get?_push_of_some _ e⟩
theorem src_values {target : PySem.Expr} {d vw : Addr} {ns : List (K × Int)} (ht : ∃ x pos, target = .Name x pos) (hh : A.handled = none) (Z : St R b L h m mu X) (hv : h.IsValuesView vw d) (D : DictI knd X d ns) :
    ItSrc prog W A target R b L m mu X h (.ref vw) ns.length (fun i v h => ∃ k n t, v = .int n t ∧ ns[i]? = some (k, n)) := by
  intro s tk Q q
  obtain ⟨hd, o, z, kvs, ho, hp⟩ := D
  obtain ⟨ep, hat⟩ := ((Heap.dictOf_iff (knd := knd)).mpr ⟨o, Z.at z, ho⟩).dictAt
  have hne : d ≠ h.objs.size := Nat.ne_of_lt hat.lt_size
  refine wpAny_pyIter_values hv hat ?_
  have Wk := Walks.dictValues (prog := prog) (w := W.w) (A := A) (knd := knd) hh h.objs.size d hne kvs ep
  rw [hp.length] at Wk
  obtain ⟨x, pos, rfl⟩ := ht
  refine q h.objs.size [(h.objs.size, _)] _ _ _ _ _ _ (Z.it (fun _ _ e => Heap.get?_push_of_some _ e) (Heap.get?_none_of_le (Nat.le_refl _)) (Heap.get?_push_size _ rfl)) (KTurns.ofWalks Wk fun i v s Q E st q => lot_name q) ?_ ?_ ?_ ?_
  · rintro i v h ⟨k, hx⟩
    obtain ⟨n, t, e, rfl⟩ := hp.at hx
    exact ⟨k, n, t, rfl, e⟩
  · rintro i h ⟨⟨oi, he, _⟩, _⟩ a ha
    rw [List.mem_singleton.mp ha]
    exact ⟨_, he⟩
  · intro a ha
    rcases List.mem_cons.mp ha with rfl | ha
    · exact .inl (.head _)
    · rw [List.mem_singleton.mp ha]; exact .inr ⟨o, z⟩
  · refine ⟨?_, hat.keep fun _ _ e => Heap.get?_push_of_some _ e⟩
    rw [← hp.length]
    exact ⟨_, Heap.get?_push_size _ rfl, rfl, rfl⟩
theorem s_enum {elts : List PySem.Expr} {kk : Nat} {pos : Pos} {l : Addr} {vs : List Value} {nl : Nat} {s : Shared} {tk : Nat} {Q : Value → Shared → Prop} {E : Value → Shared → Prop} (hh : A.handled = none) (Z : St R b L h m mu X) (z : At X l (lstO vs nl))
    (q : ∀ xv h' tk', ItSrc prog W A (.Tuple elts kk pos) R b L m mu X h' xv vs.length (fun i v h => ∃ T t x, v = .ref T ∧ vs[i]? = some x ∧ h.IsTuple T #[.int i t, x]) → Q xv { s with heap := h', toks := tk' }) :
    wpAny (model prog W.w) A (call (.type "enumerate") [.ref l]) Q E { s with heap := h, toks := tk } := by
  have hl := Z.at z
  have hls : h.IsList l vs.toArray := ⟨_, hl, rfl, nl, rfl⟩
  have hlt : l < h.objs.size := Heap.lt_size hl
  refine call_enumerate_list hls fun h' hE hI hsz hk => q _ h' tk ?_
  intro s tk Q q
  refine wpAny_pyIter_enum hE ?_
  have Wk := KTurns.ofWalksU (elts := elts) (k := kk) (pos := pos) (WalksT.enumerate (prog := prog) (w := W.w) hh (h.objs.size + 1) h.objs.size l (Nat.succ_ne_self _) (ktu_ne 1 hlt) (Nat.ne_of_lt hlt) vs.toArray).toU
  have e1 : vs.toArray.size = vs.length := List.size_toArray ..
  rw [e1] at Wk
  obtain ⟨oI, hoI, rI⟩ := id hI
  obtain ⟨oE, hoE⟩ : ∃ oE, h'.get? (h.objs.size + 1) = some oE := ⟨_, hE⟩
  have n1 : h.get? h.objs.size = none := Heap.get?_none_of_le (Nat.le_refl _)
  have n2 : h.get? (h.objs.size + 1) = none := Heap.get?_none_of_le (Nat.le_succ _)
  have Z1 : St R b L h' m ((h.objs.size, oI) :: mu) X := Z.new hk n1 hoI
  have Z2 : St R b L h' m ((h.objs.size + 1, oE) :: (h.objs.size, oI) :: mu) X := by
    have off : ∀ p : Addr × Obj, h.get? p.1 = some p.2 → h.objs.size + 1 ≠ p.1 := fun p hp e => by rw [← e, n2] at hp; cases hp
    obtain ⟨fz, hX, N, hd⟩ := Z.ex
    refine ⟨Z1.F, Z.Rb, Z.RX, ⟨fz, hX, ?_, Ds_cons_l.mpr ⟨fun p hp => off p (N p (List.mem_append_right _ hp)).1, Ds_cons_l.mpr ⟨fun p hp => ?_, hd⟩⟩⟩, ?_⟩
    · intro p hp
      rcases List.mem_cons.mp hp with rfl | hp
      · refine ⟨hoE, ?_, ?_⟩
        · intro e
          obtain ⟨oL, _, _, hL, _⟩ := Z.F.ns
          have e : h.objs.size + 1 = L := e
          rw [← e, n2] at hL; cases hL
        · cases q : b.get? (h.objs.size + 1) with
          | none => rfl
          | some o => have := Z.F.keep _ _ q; rw [n2] at this; cases this
      · rcases List.mem_cons.mp hp with rfl | hp
        · exact Z1.N _ (.head _)
        · exact ⟨hk _ _ (N p hp).1, (N p hp).2⟩
    · intro e
      have := (N p (List.mem_append_right _ hp)).1
      rw [← e, n1] at this; cases this
    · rw [List.map_cons, List.nodup_cons]
      refine ⟨fun q => ?_, Z1.nd⟩
      rcases List.mem_cons.mp q with e | q
      · exact absurd e (Nat.succ_ne_self _)
      · obtain ⟨p, hp, e⟩ := List.mem_map.mp q
        exact off p (Z.N p hp).1 e.symm
  have Z3 : St R b L h' m (mu ++ [(h.objs.size + 1, oE), (h.objs.size, oI)]) X := Z2.perm (List.perm_append_comm (l₁ := [(h.objs.size + 1, oE), (h.objs.size, oI)]) (l₂ := mu))
  refine q (h.objs.size + 1) [(h.objs.size + 1, oE), (h.objs.size, oI)] h' tk _ _ _ _ Z3 Wk ?_ ?_ ?_ ?_
  · rintro i v hx ⟨T, vals, rfl, ⟨t, x, hx1, rfl⟩, hT⟩
    exact ⟨T, t, x, rfl, by simpa using hx1, hT⟩
  · rintro i hx ⟨⟨old, he⟩, hst⟩ a ha
    rcases List.mem_cons.mp ha with rfl | ha
    · exact ⟨_, he⟩
    · rw [List.mem_singleton.mp ha]
      obtain ⟨oi, hoi, _⟩ := hst.1
      exact ⟨oi, hoi⟩
  · intro a ha
    simp only [List.mem_cons, List.not_mem_nil, or_false] at ha
    rcases ha with rfl | rfl | rfl
    · exact .inl (.head _)
    · exact .inl (.tail _ (.head _))
    · exact .inr ⟨_, z⟩
  · exact ⟨⟨_, hE⟩, hI, hls.at fun o e => hk _ _ e⟩
end
section
variable {M : Model} {A : Around} {s : Shared} {b : Heap} {env : Env} {L : Addr} {m : Str → Option Value} {E : Value → Shared → Prop} {x : Str} {v : Value} {Q : Value → Shared → Prop}
theorem y_LN (F : Fr b L s.heap m) (hv : m x = some v) (h : Q v s) (hL : env.locals = L := by rfl) (hk : env.scope.kind = .function := by rfl) (hx : env.kindOf x = some .local := by rfl) : wpAny M A (loadName env x) Q E s := by
  subst hL; exact wpAny_loadName_local hk hx F.ns hv h
end
section
variable {prog : Program} {W : Wd} {A : Around} {s : Shared} {K : Params → Frag}
theorem code_enter {R : Result → Shared → Prop} {name qual : Str} {params : Arguments} {body : List Stmt} {scope : Scope} {dV kV doc pm cdv ct oc : Value} {an od : Option Addr} {osl : Array (Option Value)} {f : Addr} {args : Args} {binds : List (Str × Value)}
    (X : (K W.w.params).In s.heap) (nl : s.heap.NoLimit) (ho : (K W.w.params).lookup f = some ⟨oc, od, .func (fnX name qual params body scope [] dV kV doc pm an cdv ct), osl⟩) (hcd : codeIn (K W.w.params) cdv qual = true) (hroom : A.depth < recursionLimit)
    (hbind : BindsTo s (fnX name qual params body scope [] dV kV doc pm an cdv ct) args binds) (hloc : ∀ y ∈ binds, scope.names.lookup y.1 = some .local)
    (hcell : ∀ x ∈ scope.names, x.2 ≠ .cell) (hco : scope.isCoroutine = false) (hgen : scope.isGenerator = false) (hk : scope.kind = .function)
    (h : ∀ h₀, h₀.Ns s.heap.objs.size (fun x => binds.reverse.lookup x) → (∀ b o, s.heap.get? b = some o → h₀.get? b = some o) →
      wpAny (model prog W.w) (A.deeper (envX qual scope s.heap.objs.size f cdv [])) (execs body (envX qual scope s.heap.objs.size f cdv [])) (fun f s' => R (.ok (.ret (valOf f))) s') (fun _ _ => False)
        { s with heap := h₀, toks := s.toks + binds.length }) :
    codeAny (model prog W.w) A (.call (.ref f) args) R s :=
  codeAny_call_def (fd := fnX name qual params body scope [] dV kV doc pm an cdv ct) hroom (X _ _ ho) rfl nl (codeRec_of X hcd) rfl hbind hcell hloc (fun h₁ hns hk₁ => wpAny_mono (h h₁ hns hk₁) (fun f s' q => by cases f <;> exact q) fun _ _ q => q.elim) hco hgen hk
end
section
variable {n : Nat} {ρ : Nat → Int} {ask : Nat → Nat → (Bool → Shared → Prop) → Shared → Prop} {s : Shared}
noncomputable abbrev pk (p : Array Nat) (k : Nat) : Nat := p.getD k 0
noncomputable def Sb (ρ : Nat → Int) (a b : Nat) : Prop := ρ a < ρ b ∨ (ρ a = ρ b ∧ a < b)
noncomputable def Srt (ρ : Nat → Int) (p : Array Nat) (m : Nat) : Prop := ∀ i j, i < j → j < m → Sb ρ (pk p i) (pk p j)
noncomputable def Asks (n : Nat) (ρ : Nat → Int) (ask : Nat → Nat → (Bool → Shared → Prop) → Shared → Prop) (s : Shared) : Prop := ∀ i j, i < n → j < n → ∀ C : Bool → Shared → Prop, C (decide (ρ i < ρ j)) s → ask i j C s
theorem pk_eq (p : Array Nat) (k : Nat) : pk p k = (p[k]?).getD 0 := by unfold pk; exact Array.getD_eq_getD_getElem? ..
noncomputable def StabAt (n : Nat) : Prop := ∀ {ρ : Nat → Int} {ask : Nat → Nat → (Bool → Shared → Prop) → Shared → Prop} {s : Shared} {G : Array Nat → Shared → Prop}, Asks n ρ ask s → (∀ p : Array Nat, p.Perm (List.range n).toArray → Srt ρ p n → G p s) → (kas_sort n).kasWp ask G s
end
open MeetsSeq MeetsSeq2 MeetsSeq3 SeqRoads2 SeqAt
open AutoSeq1 (wpAny_loadPart')
noncomputable def lexC (le : Bool) : List Int → List Int → Bool
  | [], [] => le
  | [], _ :: _ => true
  | _ :: _, [] => false
  | x :: xs, y :: ys => if x = y then lexC le xs ys else decide (x < y)
theorem lexC_nil (le : Bool) (ys : List Int) : lexC le [] ys = (if le then decide (0 ≤ ys.length) else decide (0 < ys.length)) := by
  cases ys <;> cases le <;> simp [lexC]
theorem lexC_nil' (le : Bool) (x : Int) (xs : List Int) : lexC le (x :: xs) [] = false := rfl
theorem lt_loop (le : Bool) (l b : Addr) (items items2 : Array Value) (n n2 : Nat) (dd dd2 : Option Addr) (sl sl2 : Array (Option Value)) (xs ys : List Int) (h1 : IntsV items.toList xs) (h2 : IntsV items2.toList ys) (k : Nat) :
    ∀ i : Nat, items.size - i = k → i ≤ items.size → i ≤ items2.size → Meets (Builtin.«list.__eq__.loop» ⟨[.ref l, .ref b, rawInt i, rawInt (if le then 1 else 0)], []⟩)
      (fun A R s => s.heap.get? l = some { cls := .type "list", dict := dd, data := .seq items n, slots := sl } ∧ s.heap.get? b = some { cls := .type "list", dict := dd2, data := .seq items2 n2, slots := sl2 } ∧
        R (.ok (.ret (.bool (lexC le (xs.drop i) (ys.drop i))))) s) := by
  have l1 : items.size = xs.length := by rw [← Array.length_toList]; exact h1.1
  have l2 : items2.size = ys.length := by rw [← Array.length_toList]; exact h2.1
  have short : ∀ (i : Nat), i ≤ items.size → i ≤ items2.size → (i = items.size ∨ i = items2.size) → Meets (Builtin.«list.__eq__.loop» ⟨[.ref l, .ref b, rawInt i, rawInt (if le then 1 else 0)], []⟩)
      (fun A R s => s.heap.get? l = some { cls := .type "list", dict := dd, data := .seq items n, slots := sl } ∧ s.heap.get? b = some { cls := .type "list", dict := dd2, data := .seq items2 n2, slots := sl2 } ∧
        R (.ok (.ret (.bool (lexC le (xs.drop i) (ys.drop i))))) s) := by
    intro i hi hi' hend prog w A R s h
    obtain ⟨hp, g, d, tk, os⟩ := s; obtain ⟨hl, hb, h⟩ := h
    have e : lexC le (xs.drop i) (ys.drop i) = if le then decide (items.size ≤ items2.size) else decide (items.size < items2.size) := by
      rcases hend with q | q
      · rw [List.drop_of_length_le (by omega : xs.length ≤ i), lexC_nil, List.length_drop]
        cases le
        · simp only [Bool.false_eq_true, if_false]; congr 1; apply propext; omega
        · simp only [if_true]; congr 1; apply propext; omega
      · rw [List.drop_of_length_le (by omega : ys.length ≤ i)]
        by_cases q2 : i = items.size
        · rw [List.drop_of_length_le (by omega : xs.length ≤ i), lexC_nil]
          cases le
          · simp only [Bool.false_eq_true, if_false, List.length_nil]; congr 1; apply propext; omega
          · simp only [if_true, List.length_nil]; congr 1; apply propext; omega
        · rw [List.drop_eq_getElem_cons (by omega : i < xs.length), lexC_nil']
          cases le
          · simp only [Bool.false_eq_true, if_false]; symm; apply decide_eq_false; omega
          · simp only [if_true]; symm; apply decide_eq_false; omega
    rw [e] at h
    have fin : ∀ x? y? : Option Value, (x? = none ∨ y? = none) → items[((i : Nat) : Int).toNat]? = x? → items2[((i : Nat) : Int).toNat]? = y? → wpAny (model prog w) A.in1 (Builtin.«list.__eq__.loop» ⟨[.ref l, .ref b, rawInt i, rawInt (if le then 1 else 0)], []⟩) (fun fin s' => match fin with | .done f => R (.ok f) s' | .again c' => c'.quiet = true ∧ codeAny (model prog w) A c' R s') (fun e s' => R (.error e) s') ⟨hp, g, d, tk, os⟩ := by
      intro x? y? hxy e1 e2
      cases le
      · wp_walk using wpAny_loadPart' hl, wpAny_loadPart' hb
        rw [e1, e2]
        cases x? <;> cases y? <;> simp only [reduceCtorEq, or_self, or_true, true_or] at hxy
        all_goals (wp_walk using wpAny_loadPart' hl, wpAny_loadPart' hb)
        all_goals exact h
      · wp_walk using wpAny_loadPart' hl, wpAny_loadPart' hb
        rw [e1, e2]
        cases x? <;> cases y? <;> simp only [reduceCtorEq, or_self, or_true, true_or] at hxy
        all_goals (wp_walk using wpAny_loadPart' hl, wpAny_loadPart' hb)
        all_goals exact h
    refine fin _ _ ?_ rfl rfl
    rcases hend with q | q
    · left; simp; omega
    · right; simp; omega
  induction k with
  | zero =>
    intro i hk hi hi'
    exact short i hi hi' (.inl (by omega))
  | succ k ih =>
    intro i hk hi hi'
    by_cases hend : i = items2.size
    · exact short i hi hi' (.inr hend)
    intro prog w A R s h
    obtain ⟨hp, g, d, tk, os⟩ := s; obtain ⟨hl, hb, h⟩ := h
    have hlt : i < items.size := by omega
    have hlt2 : i < items2.size := by omega
    have hi1 : items[((i : Nat) : Int).toNat]? = some items[i] := by simp [hlt]
    have hi2 : items2[((i : Nat) : Int).toNat]? = some items2[i] := by simp [hlt2]
    have hx : i < xs.length := by omega
    have hy : i < ys.length := by omega
    obtain ⟨t, ex⟩ := h1.2 i xs[i] (List.getElem?_eq_getElem hx)
    obtain ⟨u, ey⟩ := h2.2 i ys[i] (List.getElem?_eq_getElem hy)
    have ex : items[i] = .int xs[i] t := by
      have : items.toList[i]? = some items[i] := by simp [hlt]
      rw [this] at ex; exact Option.some.inj ex
    have ey : items2[i] = .int ys[i] u := by
      have : items2.toList[i]? = some items2[i] := by simp [hlt2]
      rw [this] at ey; exact Option.some.inj ey
    have hc : ((i : Int) + 1) = ((i + 1 : Nat) : Int) := by push_cast; rfl
    rw [List.drop_eq_getElem_cons hx, List.drop_eq_getElem_cons hy, lexC] at h
    have ih' := ih (i + 1) (by omega) (by omega) (by omega)
    rw [ex] at hi1
    rw [ey] at hi2
    by_cases hxy : xs[i] = ys[i]
    · rw [if_pos hxy] at h
      cases le <;> (wp_walk using wpAny_loadPart' hl, wpAny_loadPart' hb)
      all_goals (rw [hi1, hi2]; refine wpAny_bind (wpAny_eqBool_int ?_); rw [hxy, beq_self_eq_true]; wp_walk; rw [hc]; exact ⟨plainId_quiet plain_eq_loop _, codeAny_builtin entry_eq_loop (by
        rw [Around.under_plainId plain_eq_loop _]
        exact ih' prog w A R _ ⟨hl, hb, h⟩)⟩)
    · rw [if_neg hxy] at h
      cases le <;> (wp_walk using wpAny_loadPart' hl, wpAny_loadPart' hb)
      · rw [hi1, hi2]
        refine wpAny_bind (wpAny_eqBool_int ?_)
        rw [beq_eq_false_iff_ne.mpr hxy]
        wp_walk using wpAny_loadPart' hl, wpAny_loadPart' hb
        rw [hi1, hi2]
        refine wpAny_bind (show wpAny (model prog w) A.in1 (compareOp .Lt (.int xs[i] t) (.int ys[i] u)) _ _ _ from lt_int ?_)
        wp_walk
        exact h
      · rw [hi1, hi2]
        refine wpAny_bind (wpAny_eqBool_int ?_)
        rw [beq_eq_false_iff_ne.mpr hxy]
        wp_walk using wpAny_loadPart' hl, wpAny_loadPart' hb
        rw [hi1, hi2]
        refine wpAny_bind (show wpAny (model prog w) A.in1 (compareOp .LtE (.int xs[i] t) (.int ys[i] u)) _ _ _ from le_int ?_)
        wp_walk
        have e : decide (xs[i] ≤ ys[i]) = decide (xs[i] < ys[i]) := by congr 1; apply propext; omega
        rw [e]
        exact h
theorem list_lt (l b : Addr) (items items2 : Array Value) (n n2 : Nat) (dd dd2 : Option Addr) (sl sl2 : Array (Option Value)) (xs ys : List Int) (h1 : IntsV items.toList xs) (h2 : IntsV items2.toList ys) :
    Meets (Builtin.«list.__lt__» ⟨[.ref l, .ref b], []⟩)
      (fun A R s => s.heap.get? l = some { cls := .type "list", dict := dd, data := .seq items n, slots := sl } ∧ s.heap.get? b = some { cls := .type "list", dict := dd2, data := .seq items2 n2, slots := sl2 } ∧
        R (.ok (.ret (.bool (lexC false xs ys)))) s) := by
  intro prog w A R s h
  obtain ⟨hp, g, d, tk, os⟩ := s; obtain ⟨hl, hb, h⟩ := h
  have f3 := AutoSeq1.sub_list_list
  wp_walk using wpAny_loadPart' hl, wpAny_loadPart' hb
  exact ⟨plainId_quiet plain_eq_loop _, codeAny_builtin entry_eq_loop (by
    rw [Around.under_plainId plain_eq_loop _]
    exact lt_loop false l b items items2 n n2 dd dd2 sl sl2 xs ys h1 h2 _ 0 rfl (Nat.zero_le _) (Nat.zero_le _) prog w A R _ ⟨hl, hb, by simpa using h⟩)⟩
theorem list_le (l b : Addr) (items items2 : Array Value) (n n2 : Nat) (dd dd2 : Option Addr) (sl sl2 : Array (Option Value)) (xs ys : List Int) (h1 : IntsV items.toList xs) (h2 : IntsV items2.toList ys) :
    Meets (Builtin.«list.__le__» ⟨[.ref l, .ref b], []⟩)
      (fun A R s => s.heap.get? l = some { cls := .type "list", dict := dd, data := .seq items n, slots := sl } ∧ s.heap.get? b = some { cls := .type "list", dict := dd2, data := .seq items2 n2, slots := sl2 } ∧
        R (.ok (.ret (.bool (lexC true xs ys)))) s) := by
  intro prog w A R s h
  obtain ⟨hp, g, d, tk, os⟩ := s; obtain ⟨hl, hb, h⟩ := h
  have f3 := AutoSeq1.sub_list_list
  wp_walk using wpAny_loadPart' hl, wpAny_loadPart' hb
  exact ⟨plainId_quiet plain_eq_loop _, codeAny_builtin entry_eq_loop (by
    rw [Around.under_plainId plain_eq_loop _]
    exact lt_loop true l b items items2 n n2 dd dd2 sl sl2 xs ys h1 h2 _ 0 rfl (Nat.zero_le _) (Nat.zero_le _) prog w A R _ ⟨hl, hb, by simpa using h⟩)⟩
section
variable {prog : Program} {w : World} {A : Around} {s : Shared} {E : Value → Shared → Prop}
theorem lt_lists {l b : Addr} {vs ws : List Value} {n k : Nat} {xs ys : List Int} {Q : Value → Shared → Prop} (hl : s.heap.get? l = some (lstO vs n)) (hb : s.heap.get? b = some (lstO ws k)) (h1 : IntsV vs xs) (h2 : IntsV ws ys) (hu : A.units < cLine)
    (h : Q (.bool (lexC false xs ys)) s) : wpAny (model prog w) A (compareOp .Lt (.ref l) (.ref b)) Q E s := by
  show wpAny (model prog w) A (richCompare .Lt (.ref l) (.ref b)) Q E s
  exact richCompare_meets_room (op := .Lt) ⟨_, hl, rfl⟩ ⟨_, hb, rfl⟩ F.slot_list_lt F.entry_list_lt (F.args_list_lt_2 _ _) (list_lt l b vs.toArray ws.toArray n k none none #[] #[] xs ys (by simpa using h1) (by simpa using h2))
    ⟨hl, hb, show Value.bool _ ≠ Value.notImplemented ∧ Q _ s from ⟨(fun x => nomatch x), h⟩⟩ hu
theorem le_lists {l b : Addr} {vs ws : List Value} {n k : Nat} {xs ys : List Int} {Q : Value → Shared → Prop} (hl : s.heap.get? l = some (lstO vs n)) (hb : s.heap.get? b = some (lstO ws k)) (h1 : IntsV vs xs) (h2 : IntsV ws ys) (hu : A.units < cLine)
    (h : Q (.bool (lexC true xs ys)) s) : wpAny (model prog w) A (compareOp .LtE (.ref l) (.ref b)) Q E s := by
  show wpAny (model prog w) A (richCompare .LtE (.ref l) (.ref b)) Q E s
  exact richCompare_meets_room (op := .LtE) ⟨_, hl, rfl⟩ ⟨_, hb, rfl⟩ F.slot_list_le F.entry_list_le (F.args_list_le_2 _ _) (list_le l b vs.toArray ws.toArray n k none none #[] #[] xs ys (by simpa using h1) (by simpa using h2))
    ⟨hl, hb, show Value.bool _ ≠ Value.notImplemented ∧ Q _ s from ⟨(fun x => nomatch x), h⟩⟩ hu
theorem one_lt {l b : Addr} {vs ws : List Value} {n k : Nat} {xs ys : List Int} {Q : Bool → Shared → Prop} (hl : s.heap.get? l = some (lstO vs n)) (hb : s.heap.get? b = some (lstO ws k)) (h1 : IntsV vs xs) (h2 : IntsV ws ys) (hu : A.units < cLine)
    (h : Q (lexC false xs ys) s) : wpAny (model prog w) A (keyLt' oneType' (.ref l) (.ref b)) Q E s := by
  rw [keyLt'_oneType, oneLt'_eq]
  simp only [if_true]
  refine wpAny_bind (wpAny_cRoomFor hu ?_)
  refine wpAny_bind (wpAny_callSpecialIfBound?_slot (name := "__lt__") ⟨_, hl, rfl⟩ F.slot_list_lt (call_meets F.slot_list_lt ⟨_, hl, rfl⟩ F.entry_list_lt (F.args_list_lt_2 _ _) (list_lt l b vs.toArray ws.toArray n k none none #[] #[] xs ys (by simpa using h1) (by simpa using h2)) ⟨hl, hb, ?_⟩))
  exact wpAny_truthy_bool h
end
noncomputable abbrev lexL (xs ys : List Int) : Bool := lexC false xs ys
theorem lexL_irr : ∀ xs : List Int, lexL xs xs = false
  | [] => rfl
  | x :: xs => by unfold lexL; rw [lexC, if_pos rfl]; exact lexL_irr xs
theorem lexL_trans : ∀ xs ys zs : List Int, lexL xs ys = true → lexL ys zs = true → lexL xs zs = true
  | [], [], _, h, _ => by cases h
  | [], _ :: _, [], _, h => by cases h
  | [], _ :: _, _ :: _, _, _ => rfl
  | _ :: _, [], _, h, _ => by cases h
  | _ :: _, _ :: _, [], _, h => by cases h
  | x :: xs, y :: ys, z :: zs, h, k => by
    have ih := lexL_trans xs ys zs
    unfold lexL at *
    rw [lexC] at h k ⊢
    by_cases e1 : x = y
    · rw [if_pos e1] at h
      by_cases e2 : y = z
      · rw [if_pos e2] at k; rw [if_pos (e1.trans e2)]; exact ih h k
      · rw [if_neg e2] at k; rw [if_neg (by omega)]; rw [e1]; exact k
    · rw [if_neg e1] at h
      by_cases e2 : y = z
      · rw [if_pos e2] at k; rw [if_neg (by omega)]; rw [← e2]; exact h
      · rw [if_neg e2] at k
        have h' := of_decide_eq_true h
        have k' := of_decide_eq_true k
        rw [if_neg (by omega)]; exact decide_eq_true (by omega)
theorem lexL_tot : ∀ xs ys : List Int, lexL xs ys = false → lexL ys xs = false → xs = ys
  | [], [], _, _ => rfl
  | [], _ :: _, h, _ => by cases h
  | _ :: _, [], _, h => by cases h
  | x :: xs, y :: ys, h, k => by
    have ih := lexL_tot xs ys
    unfold lexL at *
    rw [lexC] at h k
    by_cases e : x = y
    · rw [if_pos e] at h; rw [if_pos e.symm] at k; rw [e, ih h k]
    · rw [if_neg e] at h; rw [if_neg (Ne.symm e)] at k
      have h' := of_decide_eq_false h
      have k' := of_decide_eq_false k
      omega
theorem lexL_asym {xs ys : List Int} (h : lexL xs ys = true) : lexL ys xs = false := by
  cases q : lexL ys xs with
  | false => rfl
  | true => have := lexL_trans _ _ _ h q; rw [lexL_irr] at this; cases this
theorem lexL_not {xs ys zs : List Int} (h : lexL xs ys = false) (k : lexL zs ys = true) : lexL zs xs = true := by
  cases q : lexL zs xs with
  | true => rfl
  | false =>
    cases q2 : lexL xs zs with
    | true => have := lexL_trans _ _ _ q2 k; rw [h] at this; cases this
    | false => have := lexL_tot _ _ q q2; rw [this] at k; rw [h] at k; cases k
noncomputable def rank (ws : List (List Int)) (n i : Nat) : Int := ((List.range n).countP fun j => lexL (ws.getD j []) (ws.getD i []) : Nat)
theorem countP_lt {α : Type} {p q : α → Bool} {a : α} : ∀ {l : List α}, (∀ x ∈ l, p x = true → q x = true) → a ∈ l → p a = false → q a = true → l.countP p < l.countP q
  | [], _, h, _, _ => nomatch h
  | b :: l, h, hm, h1, h2 => by
    have hl : l.countP p ≤ l.countP q := List.countP_mono_left fun x hx => h x (.tail _ hx)
    rcases List.mem_cons.mp hm with rfl | hm
    · rw [List.countP_cons, List.countP_cons, h1, h2]; simp; omega
    · have ih := countP_lt (fun x hx => h x (.tail _ hx)) hm h1 h2
      rw [List.countP_cons, List.countP_cons]
      have := h b (.head _)
      cases e1 : p b <;> cases e2 : q b <;> simp_all
      omega
theorem rank_lt {ws : List (List Int)} {n i j : Nat} (hi : i < n) (hj : j < n) : decide (rank ws n i < rank ws n j) = lexL (ws.getD i []) (ws.getD j []) := by
  cases h : lexL (ws.getD i []) (ws.getD j []) with
  | true =>
    refine decide_eq_true ?_
    unfold rank
    have := countP_lt (p := fun k => lexL (ws.getD k []) (ws.getD i [])) (q := fun k => lexL (ws.getD k []) (ws.getD j [])) (a := i) (l := List.range n) (fun x _ q => lexL_trans _ _ _ q h) (List.mem_range.mpr hi) (lexL_irr _) h
    omega
  | false =>
    refine decide_eq_false ?_
    unfold rank
    have : (List.range n).countP (fun k => lexL (ws.getD k []) (ws.getD j [])) ≤ (List.range n).countP (fun k => lexL (ws.getD k []) (ws.getD i [])) := List.countP_mono_left fun x _ q => lexL_not h q
    omega
noncomputable def Stb (ws : List (List Int)) (i j : Nat) : Prop := lexL (ws.getD i []) (ws.getD j []) = true ∨ (ws.getD i [] = ws.getD j [] ∧ i < j)
theorem stb_of {ws : List (List Int)} {n i j : Nat} (hi : i < n) (hj : j < n) (h : Sb (rank ws n) i j) : Stb ws i j := by
  rcases h with h | ⟨h, k⟩
  · left; rw [← rank_lt hi hj]; exact decide_eq_true h
  · refine .inr ⟨lexL_tot _ _ ?_ ?_, k⟩
    · rw [← rank_lt hi hj]; exact decide_eq_false (by omega)
    · rw [← rank_lt hj hi]; exact decide_eq_false (by omega)
section
variable {R X : Rl} {b h h' : Heap} {L : Addr} {m : Str → Option Value} {mu : Led}
theorem St.hd {a : Addr} {o : Obj} (Z : St R b L h m ((a, o) :: mu) X) {P : Prop} (k : ∀ rest : Led, News b L h ((a, o) :: rest) → (∀ p ∈ rest, p.1 ≠ a) → (∀ {h' : Heap} {o' : Obj}, Fr b L h' m → News b L h' ((a, o') :: rest) → St R b L h' m ((a, o') :: mu) X) → P) : P := by
  obtain ⟨fz, hX, N, hd⟩ := Z.ex
  have nd := Z.nd
  have nd' := nd
  rw [List.map_cons, List.nodup_cons] at nd
  have hd' := Ds_cons_l.mp hd
  refine k (mu ++ fz) N (fun p hp e => ?_) fun {h' o'} F' N' => ⟨F', Z.Rb, Z.RX, ⟨fz, hX, N', Ds_cons_l.mpr hd'⟩, nd'⟩
  rcases List.mem_append.mp hp with hp | hp
  · exact nd.1 (List.mem_map.mpr ⟨p, hp, e⟩)
  · exact hd'.1 p hp e.symm
end
section
variable {prog : Program} {W : Wd} {A : Around} {s : Shared} {K : Params → Frag} {R X : Rl} {b h : Heap} {tk : Nat} {L : Addr} {m : Str → Option Value} {mu : Led} {E : Value → Shared → Prop} {Q : Value → Shared → Prop}
noncomputable def IntsL (X : Rl) (v : Value) (ns : List Int) : Prop := ∃ a vs n, v = .ref a ∧ At X a (lstO vs n) ∧ IntsV vs ns
theorem IntsL.mono {X Y : Rl} {v : Value} {ns : List Int} (h : IntsL X v ns) (k : Le X Y) : IntsL Y v ns := let ⟨a, vs, n, e, z, q⟩ := h; ⟨a, vs, n, e, z.mono k, q⟩
noncomputable def KeyI (prog : Program) (K : Params → Frag) (W : Wd) (R : Rl) (key : Value) (vs : List Value) (ws : List (List Int)) : Prop :=
  ∀ (i : Nat) (v : Value), vs[i]? = some v → ∀ {A : Around} {s : Shared} {g : Heap}, A.depth + 3 < recursionLimit → A.handled = none → Cx K W g → Le R (hp g) → Does prog W A (call key [v]) s g [] (Post0 R fun r Y => IntsL Y r (ws.getD i []))
theorem sort_keys {key : Value} {kS D : Addr} {e1 : Nat} {vs : List Value} {ws : List (List Int)} {Fin : List Value → Nat → Shared → Prop} (C : Cx K W b) (hr : A.depth + 3 < recursionLimit) (hh : A.handled = none) (Ky : KeyI prog K W X key vs ws)
    (fin : ∀ ks e h tk Y, Le X Y → ks.length = vs.length → (∀ i k, ks[i]? = some k → IntsL Y k (ws.getD i [])) → St R b L h m ((kS, lstO ks e) :: (D, lstO [] e1) :: mu) Y → Fin ks e { s with heap := h, toks := tk }) :
    ∀ (r ks : List Value) (e : Nat) (h : Heap) (tk : Nat) (Y : Rl), Le X Y → vs.drop ks.length = r → ks.length ≤ vs.length → (∀ i k, ks[i]? = some k → IntsL Y k (ws.getD i [])) → St R b L h m ((kS, lstO ks e) :: (D, lstO [] e1) :: mu) Y →
      KatKeys prog W.w A b L m kS key Fin r ks e { s with heap := h, toks := tk }
  | [], ks, e, h, tk, Y, le, hd, hl, hk, Z => by
    refine fin ks e h tk Y le ?_ hk Z
    have := congrArg List.length hd
    rw [List.length_drop, List.length_nil] at this
    omega
  | v :: r, ks, e, h, tk, Y, le, hd, hl, hk, Z => by
    have hlt : ks.length < vs.length := by
      have := congrArg List.length hd
      rw [List.length_drop, List.length_cons] at this
      omega
    have hv : vs[ks.length]? = some v := by
      have := congrArg (fun l => l[0]?) hd
      simpa using this
    refine KatKeys.cons (s_use0 (Post := Post0 X fun r Y => IntsL Y r (ws.getD ks.length [])) Z (fun g k1 k2 k3 => Ky ks.length v hv hr hh (C.keeps k1) (le.trans k2)) fun k h tk nw Y2 hp l1 l2 Z => ?_)
    have hp : IntsL Y2 k (ws.getD ks.length []) := IntsL.mono hp (fun a o q => q.elim (fun q => l1 _ _ (le _ _ q)) fun q => l2 _ _ (.inr q))
    refine Z.hd fun rest N off mk => ?_
    refine KatBack.intro Z.F N (UpdF.head off) fun h' c F' N' => ?_
    refine sort_keys C hr hh Ky fin r (ks ++ [k]) c h' tk Y2 (le.trans l1) ?_ ?_ ?_ (mk F' N')
    · rw [List.length_append, List.length_singleton, ← List.tail_drop, hd]; rfl
    · rw [List.length_append, List.length_singleton]; omega
    · intro i k' hk'
      by_cases hi : i < ks.length
      · rw [List.getElem?_append_left hi] at hk'
        exact (hk i k' hk').mono l1
      · rw [List.getElem?_append_right (by omega)] at hk'
        cases hj : i - ks.length with
        | zero =>
          rw [hj] at hk'
          cases hk'
          have : i = ks.length := by omega
          rw [this]
          exact hp
        | succ j => rw [hj] at hk'; simp at hk'
theorem s_sorted {l q : Addr} {vs : List Value} {nl : Nat} {ws : List (List Int)} (Z : St R b L h m mu X) (C : Cx K W b) (hr : A.depth + 3 < recursionLimit) (hu : A.units + 10 < cLine) (hh : A.handled = none) (z : At X l (lstO vs nl)) (h2 : 2 ≤ vs.length) (h64 : vs.length < 64) (hst : StabAt vs.length)
    (Ky : KeyI prog K W X (.ref q) vs ws)
    (k : ∀ D c p h' tk' Y, Le X Y → List.Perm p (List.range vs.length) → p.Pairwise (Stb ws) → At Y D (lstO (p.map fun i => vs.getD i .none) c) → St R b L h' m mu Y → Q (.ref D) { s with heap := h', toks := tk' }) :
    wpAny (model prog W.w) A (call (.builtin "sorted") [.ref l] [(Str.ofString "key", .ref q)]) Q E { s with heap := h, toks := tk } := by
  obtain ⟨fz, hX, N, hd⟩ := Z.ex
  refine kat_sortedK (vs := vs) (b := false) Z.F N ⟨_, Z.at z, rfl, nl, rfl⟩ h2 h64 (ksk_s1 _ _) (fun x => ksk_l1 _ _) (fun x => ksk_t1 q x) fun D kS e1 h' F' N' lD lK => ?_
  have Z' : St R b L h' m ((kS, lstO [] 0) :: (D, lstO [] e1) :: mu) X := by
    refine ⟨F', Z.Rb, Z.RX, ⟨fz, hX, N', Ds_cons_l.mpr ⟨fun p hp => Nat.ne_of_gt (Nat.lt_trans (lK p (List.mem_append_right _ hp)) lD), Ds_cons_l.mpr ⟨fun p hp => Nat.ne_of_gt (lK p (List.mem_append_right _ hp)), hd⟩⟩⟩, ?_⟩
    simp only [List.map_cons, List.nodup_cons, List.mem_cons, not_or]
    refine ⟨⟨Nat.ne_of_gt lD, fun q => ?_⟩, fun q => ?_, Z.nd⟩
    · obtain ⟨p, hp, e⟩ := List.mem_map.mp q
      exact Nat.ne_of_lt (Nat.lt_trans (lK p (List.mem_append_left _ hp)) lD) e
    · obtain ⟨p, hp, e⟩ := List.mem_map.mp q
      exact Nat.ne_of_lt (lK p (List.mem_append_left _ hp)) e
  refine sort_keys (A := A.in1.in1) (s := s) C hr hh Ky ?_ vs [] 0 h' tk X (Le.refl _) rfl (Nat.zero_le _) (fun i k h => by simp at h) Z'
  intro ks e h tk Y le hl hk Z
  have hget : ∀ i, i < vs.length → ∃ a us c, ks.getD i .none = .ref a ∧ h.get? a = some (lstO us c) ∧ IntsV us (ws.getD i []) := fun i hi => by
    obtain ⟨a, us, c, e, z, hi⟩ := hk i ks[i] (List.getElem?_eq_getElem (by omega))
    exact ⟨a, us, c, by rw [List.getD_eq_getElem?_getD, List.getElem?_eq_getElem (by omega)]; exact e, Z.at z, hi⟩
  refine kas_kind (T := .type "list") (by omega) (fun v hv => ?_) rfl rfl ?_
  · obtain ⟨i, hi, rfl⟩ := List.mem_iff_getElem.mp hv
    obtain ⟨a, us, c, e, z, _⟩ := hk i ks[i] (List.getElem?_eq_getElem hi)
    rw [e]
    exact (Looks.ld (Z.at z)).andThen .now
  refine hst (ρ := rank ws vs.length) (fun i j hi hj C hC => ?_) fun p hp hs => ?_
  · rw [rank_lt hi hj] at hC
    obtain ⟨a, us, c, e1, z1, i1⟩ := hget i hi
    obtain ⟨a2, us2, c2, e2, z2, i2⟩ := hget j hj
    show wpAny (model prog W.w) A.in1.in1 (keyLt' oneType' (ks.getD i .none) (ks.getD j .none)) C (fun _ _ => False) _
    rw [e1, e2]
    refine one_lt z1 z2 i1 i2 ?_ hC
    show A.units + 1 + 1 < cLine
    omega
  · have hpl : p.toList.Perm (List.range vs.length) := by simpa using Array.perm_iff_toList_perm.mp hp
    have hsz : p.toList.length = vs.length := by rw [hpl.length_eq, List.length_range]
    refine Z.hd fun rest N off mk => ?_
    refine KatFin.intro Z.F N (UpdF.head off) fun h1 c1 F1 N1 => ?_
    have Z1 := (mk F1 N1).swap
    refine Z1.hd fun rest2 N2 off2 mk2 => ?_
    refine KasFin.intro Z1.F N2 (UpdF.head off2) fun h2 c2 F2 N2' => ?_
    have Z2 := mk2 F2 N2'
    refine Z2.freeze (l1 := []) fun Y2 le2 zD Z3 => ?_
    refine k D c2 p.toList h2 tk Y2 (le.trans le2) hpl ?_ zD Z3.tl
    rw [List.pairwise_iff_getElem]
    intro i j hi hj hij
    have e : ∀ i (hi : i < p.toList.length), pk p i = p.toList[i] := fun i hi => by
      rw [pk_eq, ← Array.getElem?_toList, List.getElem?_eq_getElem hi]; rfl
    have mem : ∀ i (hi : i < p.toList.length), p.toList[i] < vs.length := fun i hi => List.mem_range.mp (hpl.mem_iff.mp (List.getElem_mem hi))
    have := hs i j hij (by omega)
    rw [e i hi, e j hj] at this
    exact stb_of (mem i hi) (mem j hj) this
end
theorem IntsV.tail {v : Value} {vs : List Value} {n : Int} {ns : List Int} (h : IntsV (v :: vs) (n :: ns)) : IntsV vs ns := ⟨Nat.succ.inj h.1, fun i k hk => h.2 (i + 1) k hk⟩
theorem IntsV.are : ∀ {vs : List Value} {ns : List Int}, IntsV vs ns → IntsAre vs ns
  | [], [], _ => .nil
  | [], _ :: _, h => by cases h.1
  | _ :: _, [], h => by cases h.1
  | v :: vs, n :: ns, h => by
    obtain ⟨t, e⟩ := h.2 0 n rfl
    cases e
    exact .cons n t h.tail.are
theorem IntsV.of : ∀ {vs : List Value} {ns : List Int}, IntsAre vs ns → IntsV vs ns
  | _, _, .nil => .nil
  | _, _, .cons n t h => by
    have ih := IntsV.of h
    refine ⟨congrArg (· + 1) ih.1, fun i k hk => ?_⟩
    cases i with
    | zero => cases hk; exact ⟨t, rfl⟩
    | succ i => exact ih.2 i k hk
theorem IntsV.app {vs ws : List Value} {ns ms : List Int} (h : IntsV vs ns) (k : IntsV ws ms) : IntsV (vs ++ ws) (ns ++ ms) := IntsV.of (h.are.append k.are)
theorem IntsV.at' {vs : List Value} {ns : List Int} (h : IntsV vs ns) {i : Nat} {v : Value} (hv : vs[i]? = some v) : ∃ x t, ns[i]? = some x ∧ v = .int x t := by
  have hi : i < ns.length := by rw [← h.1]; exact (List.getElem?_eq_some_iff.mp hv).1
  obtain ⟨t, e⟩ := h.2 i ns[i] (List.getElem?_eq_getElem hi)
  rw [hv] at e
  exact ⟨_, t, List.getElem?_eq_getElem hi, Option.some.inj e⟩
section
variable {prog : Program} {w : World} {A : Around} {s : Shared} {R X : Rl} {b h : Heap} {tk : Nat} {L : Addr} {m : Str → Option Value} {mu l1 l2 : Led} {E : Value → Shared → Prop} {Q : Value → Shared → Prop}
theorem s_range1 {n : Nat} {t : Tok} (Z : St R b L h m mu X) (hn : n ≤ 1000000) (k : ∀ r h' u v t' tk', IsRange h' r 0 (n : Int) 1 u t' v → St R b L h' m mu X → Q (.ref r) { s with heap := h', toks := tk' }) :
    wpAny (model prog w) A (call (.type "range") [.int (n : Int) t]) Q E { s with heap := h, toks := tk } := by
  refine call_range_1 ?_
  exact k _ _ _ _ _ _ (IsRange.new ..) (Z.keeps fun _ _ e => Heap.get?_push_of_some _ e)
theorem s_sum {l : Addr} {vs : List Value} {n : Nat} {ns : List Int} (Z : St R b L h m mu X) (hh : A.handled = none) (hl : h.get? l = some (lstO vs n)) (hi : IntsV vs ns)
    (k : ∀ t h' tk', St R b L h' m mu X → Q (.int ns.sum t) { s with heap := h', toks := tk' }) : wpAny (model prog w) A (call (.builtin "sum") [.ref l]) Q E { s with heap := h, toks := tk } := by
  obtain ⟨xs, e⟩ := hi.are.allInts.items
  have hls : h.IsList l (intItems xs) := by rw [← e]; exact ⟨_, hl, rfl, n, rfl⟩
  refine sum_intListG (s := { s with heap := h, toks := tk }) hh hls fun h' tk' t' hk => ?_
  have e2 : preSum (numAt xs) xs.size = ns.sum := by
    rw [preSum_eq, List.take_of_length_le (by simp), ← nums_intItems, ← e, ← hi.are.numsOf]
  rw [e2]
  exact k t' h' tk' (Z.keeps hk)
end
theorem cells_un {cm : Str → Option Value} {n : Str} {c : Addr} {r : List (Str × Addr)} {cells : List (Addr × Obj)} (x : CellsAre cm ((n, c) :: r) cells) : ∃ o rest, cells = (c, o) :: rest ∧ o.data = .cell (cm n) ∧ CellsAre cm r rest := by
  cases x with | cons h r => exact ⟨_, _, rfl, h, r⟩
theorem cells_no {cm : Str → Option Value} {cells : List (Addr × Obj)} (x : CellsAre cm [] cells) : cells = [] := by cases x; rfl
theorem cells_addrs : ∀ {cm : Str → Option Value} {cl : List (Str × Addr)} {cells : List (Addr × Obj)}, CellsAre cm cl cells → cells.map (·.1) = cl.map (·.2)
  | _, _, _, .nil => rfl
  | _, _, _, .cons _ r => by rw [List.map_cons, List.map_cons, cells_addrs r]
theorem cellsFrom_nd : ∀ (names : List (Str × NameKind)) (n : Nat) (acc : List (Str × Addr)), (acc.map (·.2)).Nodup → (∀ p ∈ acc, p.2 < n) → ((cellsFrom n names acc).map (·.2)).Nodup
  | [], _, _, h, _ => h
  | (y, k) :: r, n, acc, h, hl => by
    unfold cellsFrom
    split
    · refine cellsFrom_nd r (n + 1) _ ?_ fun p hp => ?_
      · rw [List.map_cons, List.nodup_cons]
        refine ⟨fun q => ?_, h⟩
        obtain ⟨p, hp, e⟩ := List.mem_map.mp q
        exact absurd (hl p hp) (by rw [e]; exact Nat.lt_irrefl _)
      · rcases List.mem_cons.mp hp with rfl | hp
        · exact Nat.lt_succ_self _
        · exact Nat.lt_succ_of_lt (hl p hp)
    · exact cellsFrom_nd r n acc h hl
theorem cellsFrom_ge : ∀ (names : List (Str × NameKind)) (n : Nat) (acc : List (Str × Addr)) (k : Nat), k ≤ n → (∀ p ∈ acc, k ≤ p.2) → ∀ p ∈ cellsFrom n names acc, k ≤ p.2
  | [], _, _, _, _, h => h
  | (y, kd) :: r, n, acc, k, hk, h => by
    unfold cellsFrom
    split
    · exact cellsFrom_ge r (n + 1) _ k (Nat.le_succ_of_le hk) fun p hp => by
        rcases List.mem_cons.mp hp with rfl | hp
        · exact hk
        · exact h p hp
    · exact cellsFrom_ge r n acc k hk h
theorem St.startC {R : Rl} {b h : Heap} {L : Addr} {m cm : Str → Option Value} {cells mu : Led} {names : List (Str × NameKind)} (F : Fr b L h m) (N : News b L h (cells ++ mu)) (hR : Le R (hp b)) (Y : CellsAre cm (cellsFrom (L + 1) names []) cells) (nd : (mu.map (·.1)).Nodup) (hlt : ∀ p ∈ mu, p.1 < L) : St R b L h m (cells ++ mu) R := by
  refine St.start F N hR ?_
  rw [List.map_append, List.nodup_append]
  refine ⟨?_, nd, fun a ha c hc e => ?_⟩
  · rw [cells_addrs Y]; exact cellsFrom_nd _ _ _ List.nodup_nil fun _ h => nomatch h
  · rw [cells_addrs Y] at ha
    obtain ⟨p, hp, rfl⟩ := List.mem_map.mp ha
    obtain ⟨q, hq, rfl⟩ := List.mem_map.mp hc
    have h1 := cellsFrom_ge names (L + 1) [] (L + 1) (Nat.le_refl _) (fun _ h => nomatch h) p hp
    have h2 := hlt q hq
    rw [e] at h1
    exact absurd h2 (Nat.not_lt.mpr (Nat.le_of_succ_le h1))
noncomputable def AllAt {α : Type} (P : Rl → Value → α → Prop) (X : Rl) (vs : List Value) (xs : List α) : Prop := vs.length = xs.length ∧ ∀ (i : Nat) (x : α), xs[i]? = some x → ∃ v, vs[i]? = some v ∧ P X v x
theorem AllAt.nil {α : Type} {P : Rl → Value → α → Prop} {X : Rl} : AllAt P X [] [] := ⟨rfl, fun _ _ h => by simp at h⟩
theorem AllAt.snoc {α : Type} {P : Rl → Value → α → Prop} {X : Rl} {vs : List Value} {xs : List α} {v : Value} {x : α} (h : AllAt P X vs xs) (r : P X v x) : AllAt P X (vs ++ [v]) (xs ++ [x]) := by
  refine ⟨by rw [List.length_append, List.length_append, h.1]; rfl, fun i y e => ?_⟩
  by_cases hi : i < xs.length
  · rw [List.getElem?_append_left hi] at e
    obtain ⟨a, e, z⟩ := h.2 i y e
    exact ⟨a, by rw [List.getElem?_append_left (by rw [h.1]; exact hi)]; exact e, z⟩
  · rw [List.getElem?_append_right (by omega)] at e
    cases hj : i - xs.length with
    | zero =>
      rw [hj] at e
      cases e
      refine ⟨v, ?_, r⟩
      rw [List.getElem?_append_right (by rw [h.1]; omega), h.1, hj]; rfl
    | succ j => rw [hj] at e; simp at e
noncomputable abbrev IntLs : Rl → List Value → List (List Int) → Prop := AllAt IntsL
theorem IntLs.mono {X Y : Rl} {vs : List Value} {xs : List (List Int)} (h : IntLs X vs xs) (k : Le X Y) : IntLs Y vs xs := ⟨h.1, fun i x e => let ⟨v, a, b⟩ := h.2 i x e; ⟨v, a, b.mono k⟩⟩
theorem AllAt.at' {α : Type} {P : Rl → Value → α → Prop} {X : Rl} {vs : List Value} {xs : List α} (h : AllAt P X vs xs) {i : Nat} {v : Value} (hv : vs[i]? = some v) : ∃ x, xs[i]? = some x ∧ P X v x := by
  have hi : i < xs.length := by rw [← h.1]; exact (List.getElem?_eq_some_iff.mp hv).1
  obtain ⟨v', e, r⟩ := h.2 i xs[i] (List.getElem?_eq_getElem hi)
  rw [hv] at e
  cases e
  exact ⟨_, List.getElem?_eq_getElem hi, r⟩
open MeetsSeq MeetsSeq2 MeetsSeq3 SeqRoads2 SeqAt
open AutoSeq1 (wpAny_loadPart')
theorem lex_short {xs ys : List Int} {i : Nat} (hi : i ≤ xs.length) (hj : i ≤ ys.length) (hend : i = xs.length ∨ i = ys.length) : lexL (xs.drop i) (ys.drop i) = decide (xs.length < ys.length) := by
  rcases hend with q | q
  · rw [List.drop_of_length_le (by omega : xs.length ≤ i)]
    show lexC false [] _ = _
    rw [lexC_nil, List.length_drop]
    simp only [Bool.false_eq_true, if_false]; congr 1; apply propext; omega
  · rw [List.drop_of_length_le (by omega : ys.length ≤ i)]
    have e : decide (xs.length < ys.length) = false := decide_eq_false (by omega)
    rw [e]
    cases xs.drop i <;> rfl
theorem gt_loop (l b : Addr) (items items2 : Array Value) (n n2 : Nat) (dd dd2 : Option Addr) (sl sl2 : Array (Option Value)) (xs ys : List Int) (h1 : IntsV items.toList xs) (h2 : IntsV items2.toList ys) (k : Nat) :
    ∀ i : Nat, items.size - i = k → i ≤ items.size → i ≤ items2.size → Meets (Builtin.«list.__eq__.loop» ⟨[.ref l, .ref b, rawInt i, rawInt 4], []⟩)
      (fun A R s => s.heap.get? l = some { cls := .type "list", dict := dd, data := .seq items n, slots := sl } ∧ s.heap.get? b = some { cls := .type "list", dict := dd2, data := .seq items2 n2, slots := sl2 } ∧
        R (.ok (.ret (.bool (lexL (ys.drop i) (xs.drop i))))) s) := by
  have l1 : items.size = xs.length := by rw [← Array.length_toList]; exact h1.1
  have l2 : items2.size = ys.length := by rw [← Array.length_toList]; exact h2.1
  have short : ∀ (i : Nat), i ≤ items.size → i ≤ items2.size → (i = items.size ∨ i = items2.size) → Meets (Builtin.«list.__eq__.loop» ⟨[.ref l, .ref b, rawInt i, rawInt 4], []⟩)
      (fun A R s => s.heap.get? l = some { cls := .type "list", dict := dd, data := .seq items n, slots := sl } ∧ s.heap.get? b = some { cls := .type "list", dict := dd2, data := .seq items2 n2, slots := sl2 } ∧
        R (.ok (.ret (.bool (lexL (ys.drop i) (xs.drop i))))) s) := by
    intro i hi hi' hend prog w A R s h
    obtain ⟨hp, g, d, tk, os⟩ := s; obtain ⟨hl, hb, h⟩ := h
    rw [lex_short (by omega) (by omega) (by omega), ← l1, ← l2] at h
    have fin : ∀ x? y? : Option Value, (x? = none ∨ y? = none) → items[((i : Nat) : Int).toNat]? = x? → items2[((i : Nat) : Int).toNat]? = y? → wpAny (model prog w) A.in1 (Builtin.«list.__eq__.loop» ⟨[.ref l, .ref b, rawInt i, rawInt 4], []⟩) (fun fin s' => match fin with | .done f => R (.ok f) s' | .again c' => c'.quiet = true ∧ codeAny (model prog w) A c' R s') (fun e s' => R (.error e) s') ⟨hp, g, d, tk, os⟩ := by
      intro x? y? hxy e1 e2
      wp_walk using wpAny_loadPart' hl, wpAny_loadPart' hb
      rw [e1, e2]
      cases x? <;> cases y? <;> simp only [reduceCtorEq, or_self, or_true, true_or] at hxy
      all_goals (wp_walk using wpAny_loadPart' hl, wpAny_loadPart' hb)
      all_goals exact h
    refine fin _ _ ?_ rfl rfl
    rcases hend with q | q
    · left; simp; omega
    · right; simp; omega
  induction k with
  | zero =>
    intro i hk hi hi'
    exact short i hi hi' (.inl (by omega))
  | succ k ih =>
    intro i hk hi hi'
    by_cases hend : i = items2.size
    · exact short i hi hi' (.inr hend)
    intro prog w A R s h
    obtain ⟨hp, g, d, tk, os⟩ := s; obtain ⟨hl, hb, h⟩ := h
    have hlt : i < items.size := by omega
    have hlt2 : i < items2.size := by omega
    have hi1 : items[((i : Nat) : Int).toNat]? = some items[i] := by simp [hlt]
    have hi2 : items2[((i : Nat) : Int).toNat]? = some items2[i] := by simp [hlt2]
    have hx : i < xs.length := by omega
    have hy : i < ys.length := by omega
    obtain ⟨t, ex⟩ := h1.2 i xs[i] (List.getElem?_eq_getElem hx)
    obtain ⟨u, ey⟩ := h2.2 i ys[i] (List.getElem?_eq_getElem hy)
    have ex : items[i] = .int xs[i] t := by
      have : items.toList[i]? = some items[i] := by simp [hlt]
      rw [this] at ex; exact Option.some.inj ex
    have ey : items2[i] = .int ys[i] u := by
      have : items2.toList[i]? = some items2[i] := by simp [hlt2]
      rw [this] at ey; exact Option.some.inj ey
    have hc : ((i : Int) + 1) = ((i + 1 : Nat) : Int) := by push_cast; rfl
    unfold lexL at h ih
    rw [List.drop_eq_getElem_cons hx, List.drop_eq_getElem_cons hy, lexC] at h
    have ih' := ih (i + 1) (by omega) (by omega) (by omega)
    rw [ex] at hi1
    rw [ey] at hi2
    by_cases hxy : ys[i] = xs[i]
    · rw [if_pos hxy] at h
      wp_walk using wpAny_loadPart' hl, wpAny_loadPart' hb
      rw [hi1, hi2]; refine wpAny_bind (wpAny_eqBool_int ?_); rw [hxy, beq_self_eq_true]; wp_walk; rw [hc]; exact ⟨plainId_quiet plain_eq_loop _, codeAny_builtin entry_eq_loop (by
        rw [Around.under_plainId plain_eq_loop _]
        exact ih' prog w A R _ ⟨hl, hb, h⟩)⟩
    · rw [if_neg hxy] at h
      wp_walk using wpAny_loadPart' hl, wpAny_loadPart' hb
      rw [hi1, hi2]
      refine wpAny_bind (wpAny_eqBool_int ?_)
      rw [beq_eq_false_iff_ne.mpr (Ne.symm hxy)]
      wp_walk using wpAny_loadPart' hl, wpAny_loadPart' hb
      rw [hi1, hi2]
      refine wpAny_bind (show wpAny (model prog w) A.in1 (compareOp .Gt (.int xs[i] t) (.int ys[i] u)) _ _ _ from gt_int ?_)
      wp_walk
      exact h
theorem list_gt (l b : Addr) (items items2 : Array Value) (n n2 : Nat) (dd dd2 : Option Addr) (sl sl2 : Array (Option Value)) (xs ys : List Int) (h1 : IntsV items.toList xs) (h2 : IntsV items2.toList ys) :
    Meets (Builtin.«list.__gt__» ⟨[.ref l, .ref b], []⟩)
      (fun A R s => s.heap.get? l = some { cls := .type "list", dict := dd, data := .seq items n, slots := sl } ∧ s.heap.get? b = some { cls := .type "list", dict := dd2, data := .seq items2 n2, slots := sl2 } ∧
        R (.ok (.ret (.bool (lexL ys xs)))) s) := by
  intro prog w A R s h
  obtain ⟨hp, g, d, tk, os⟩ := s; obtain ⟨hl, hb, h⟩ := h
  have f3 := AutoSeq1.sub_list_list
  wp_walk using wpAny_loadPart' hl, wpAny_loadPart' hb
  exact ⟨plainId_quiet plain_eq_loop _, codeAny_builtin entry_eq_loop (by
    rw [Around.under_plainId plain_eq_loop _]
    exact gt_loop l b items items2 n n2 dd dd2 sl sl2 xs ys h1 h2 _ 0 rfl (Nat.zero_le _) (Nat.zero_le _) prog w A R _ ⟨hl, hb, by simpa using h⟩)⟩
section
variable {prog : Program} {w : World} {A : Around} {s : Shared} {E : Value → Shared → Prop}
theorem gt_lists {l b : Addr} {vs ws : List Value} {n k : Nat} {xs ys : List Int} {Q : Value → Shared → Prop} (hl : s.heap.get? l = some (lstO vs n)) (hb : s.heap.get? b = some (lstO ws k)) (h1 : IntsV vs xs) (h2 : IntsV ws ys) (hu : A.units < cLine)
    (h : Q (.bool (lexL ys xs)) s) : wpAny (model prog w) A (compareOp .Gt (.ref l) (.ref b)) Q E s := by
  show wpAny (model prog w) A (richCompare .Gt (.ref l) (.ref b)) Q E s
  exact richCompare_meets_room (op := .Gt) ⟨_, hl, rfl⟩ ⟨_, hb, rfl⟩ F.slot_list_gt F.entry_list_gt (F.args_list_gt_2 _ _) (list_gt l b vs.toArray ws.toArray n k none none #[] #[] xs ys (by simpa using h1) (by simpa using h2))
    ⟨hl, hb, show Value.bool _ ≠ Value.notImplemented ∧ Q _ s from ⟨(fun x => nomatch x), h⟩⟩ hu
end
section
variable {prog : Program} {W : Wd} {A : Around} {s : Shared} {b : Heap} {env : Env} {L : Addr}
noncomputable def SWTurn (s : Shared) (R : Rl) (b : Heap) (L : Addr) (k : Nat) (X : Rl) (J : Nat → (Str → Option Value) → Led → Rl → Prop) (Q : Flow → Shared → Prop) (f : Flow) (s' : Shared) : Prop :=
  match f with
  | .ret v => Q (.ret v) s'
  | .brk => Q .next s'
  | _ => ∃ k' m mu Y, k' < k ∧ Le X Y ∧ St R b L s'.heap m mu Y ∧ J k' m mu Y ∧ s' = { s with heap := s'.heap, toks := s'.toks }
theorem SWTurn.next {R X Y : Rl} {k k' : Nat} {J : Nat → (Str → Option Value) → Led → Rl → Prop} {Q : Flow → Shared → Prop} {h' : Heap} {tk' : Nat} {m : Str → Option Value} {mu : Led}
    (hk : k' < k) (Z : St R b L h' m mu Y) (le : Le X Y) (hj : J k' m mu Y) : SWTurn s R b L k X J Q .next { s with heap := h', toks := tk' } := ⟨k', m, mu, Y, hk, le, Z, hj, rfl⟩
theorem s_while {test : PySem.Expr} {body : List Stmt} {pos : Pos} {R X : Rl} {Q : Flow → Shared → Prop} {h : Heap} {tk : Nat} {m : Str → Option Value} {mu : Led} {k : Nat}
    (J : Nat → (Str → Option Value) → Led → Rl → Prop) (Z : St R b env.locals h m mu X) (hj : J k m mu X)
    (turn : ∀ k m mu Y h tk, Le X Y → J k m mu Y → St R b env.locals h m mu Y → ∀ Q' : Flow → Shared → Prop, (∀ f s', SWTurn s R b env.locals k X J Q f s' → Q' f s') →
      wpAny (model prog W.w) A (isTrue test env (eval test env)) (fun c s₂ => if c then wpAny (model prog W.w) A (execs body env) Q' No s₂ else Q .next s₂) No { s with heap := h, toks := tk }) :
    wpAny (model prog W.w) A (exec (.While test body [] pos) env) Q No { s with heap := h, toks := tk } := by
  refine wpAny_While ?_
  refine codeAny_whileLoop (fun k s' => ∃ h tk m mu Y, s' = { s with heap := h, toks := tk } ∧ Le X Y ∧ St R b env.locals h m mu Y ∧ J k m mu Y) ?_ k ⟨_, _, m, mu, X, rfl, Le.refl _, Z, hj⟩
  rintro k s' ⟨h, tk, m, mu, Y, rfl, le, Z, hj⟩
  refine wpAny_mono (turn k m mu Y h tk le hj Z _ fun _ _ x => x) (fun c s₂ h₂ => ?_) fun _ _ e => e.elim
  cases c with
  | false => exact wpAny_execs_nil h₂
  | true =>
    refine wpAny_mono h₂ (fun f s₃ k₃ => ?_) fun _ _ e => e.elim
    cases f with
    | ret v => exact k₃
    | brk => exact k₃
    | next => obtain ⟨k', m', mu', Y', hk, le', Z', hj', e⟩ := k₃; exact ⟨k', hk, _, _, m', mu', Y', e, le', Z', hj'⟩
    | cont => obtain ⟨k', m', mu', Y', hk, le', Z', hj', e⟩ := k₃; exact ⟨k', hk, _, _, m', mu', Y', e, le', Z', hj'⟩
end
noncomputable def sgnL (xs ys : List Int) : Int := if lexL xs ys = true then -1 else if lexL ys xs = true then 1 else 0
theorem mid_half (lo hi : Nat) : ((lo : Int) + (hi : Int)).fdiv 2 = (((lo + hi) / 2 : Nat) : Int) := by rw [Int.fdiv_eq_ediv_of_nonneg _ (by omega)]; omega
noncomputable def bisS (p : Nat → Bool) (vs its : List Value) (lo hi : Nat) : Nat × List Value := ((bis p lo hi).1, its ++ (bis p lo hi).2.map fun i => vs.getD i .none)
theorem bisS_right {p : Nat → Bool} {vs its : List Value} {lo hi mid : Nat} {v : Value} (h : lo < hi) (hm : (lo + hi) / 2 = mid) (hv : vs.getD mid .none = v) (q : p mid = true) : bisS p vs its lo hi = bisS p vs (its ++ [v]) (mid + 1) hi := by
  subst hm; subst hv; unfold bisS; rw [bis_right h q, List.append_assoc]; rfl
theorem bisS_left {p : Nat → Bool} {vs its : List Value} {lo hi mid : Nat} {v : Value} (h : lo < hi) (hm : (lo + hi) / 2 = mid) (hv : vs.getD mid .none = v) (q : p mid = false) : bisS p vs its lo hi = bisS p vs (its ++ [v]) lo mid := by
  subst hm; subst hv; unfold bisS; rw [bis_left h q, List.append_assoc]; rfl
theorem bisS_done {p : Nat → Bool} {vs its : List Value} {lo hi : Nat} (h : ¬ lo < hi) : bisS p vs its lo hi = (lo, its) := by
  unfold bisS; rw [bis_done h, List.map_nil, List.append_nil]
section
variable {prog : Program} {W : Wd} {A : Around} {s : Shared} {R X : Rl} {b h : Heap} {tk : Nat} {L : Addr} {m : Str → Option Value} {mu : Led}
theorem s_useA {t : Sem Value} {Post : Value → Led → Prop} {Q E : Value → Shared → Prop} (Z : St R b L h m mu X) (hS : ∀ r nw, Post r nw → (nw.map (·.1)).Nodup)
    (S : ∀ g, b.StaysIn g → Le X (hp g) → Does prog W A t { s with heap := h, toks := tk } g mu Post)
    (k : ∀ r h' tk' nw, Post r nw → St R b L h' m nw X → Q r { s with heap := h', toks := tk' }) :
    wpAny (model prog W.w) A t Q E { s with heap := h, toks := tk } := by
  obtain ⟨fz, hX, N, hd⟩ := Z.ex
  refine useD (mu := mu) (news := fz) Z.F N (fun _ q => q) (fun p hp q hq e => hd q hq p hp e.symm) (fun g k1 k2 => S g k1 fun a o q => ?_) fun r h' tk' nw F' N' hd' hp => k r h' tk' nw hp ⟨F', Z.Rb, Z.RX, ⟨fz, hX, N', hd'⟩, hS r nw hp⟩
  rcases hX a o q with q | q
  · exact k2 _ _ (.inl (Z.Rb _ _ q))
  · exact k2 _ _ (.inr q)
end
section
variable {M : Model} {A : Around} {s : Shared} {E : Value → Shared → Prop} {env : Env}
end
section
variable {R X : Rl} {b h : Heap} {L : Addr} {m : Str → Option Value} {l1 l2 : Led} {p : Addr × Obj}
theorem St.front (Z : St R b L h m (l1 ++ p :: l2) X) : St R b L h m (p :: (l1 ++ l2)) X := Z.perm List.perm_middle
end
theorem IntsV.take {vs : List Value} {ns : List Int} (h : IntsV vs ns) (k : Nat) : IntsV (vs.take k) (ns.take k) := IntsV.of (h.are.take k)
noncomputable def TripG (R : Rl) (qual : Str) : List Value → Prop
  | [] => True
  | .int _ _ :: .int _ _ :: v :: rest => (∃ c oc vs t, v = .ref c ∧ R c oc ∧ oc.data = .fields vs ∧ vs[1]? = some (.str qual t)) ∧ TripG R qual rest
  | _ => False
theorem TripG.mono {R R' : Rl} {qual : Str} (k : ∀ a o, R a o → R' a o) : ∀ {l : List Value}, TripG R qual l → TripG R' qual l := by
  intro l
  fun_induction TripG R qual l with
  | case1 => exact id
  | case2 a t b u v rest ih =>
    rintro ⟨⟨c, oc, vs, t, e, z, q⟩, r⟩
    exact ⟨⟨c, oc, vs, t, e, k _ _ z, q⟩, ih r⟩
  | case3 => exact fun h => h.elim
theorem TripG.ok {R : Rl} {qual : Str} : ∀ {l : List Value}, TripG R qual l → TriplesOk l := by
  intro l
  fun_induction TripG R qual l with
  | case1 => exact fun _ => True.intro
  | case2 a t b u v rest ih => exact fun h => ih h.2
  | case3 => exact fun h => h.elim
theorem TripG.hit {R : Rl} {qual : Str} {pos : Pos} {v : Value} : ∀ {l : List Value}, TripG R qual l → codeAmong pos l = some v → ∃ c oc vs t, v = .ref c ∧ R c oc ∧ oc.data = .fields vs ∧ vs[1]? = some (.str qual t) := by
  intro l
  fun_induction TripG R qual l with
  | case1 => intro _ h; cases h
  | case2 a t b u w rest ih =>
    rintro ⟨h1, h2⟩ h
    unfold codeAmong at h
    split at h
    · cases h; exact h1
    · exact ih h2 h
  | case3 => exact fun h => h.elim
theorem TripG.snoc {R : Rl} {qual : Str} {i j : Int} {c : Addr} {oc : Obj} {vs : Array Value} {t : Tok} (z : R c oc) (e1 : oc.data = .fields vs) (e2 : vs[1]? = some (.str qual t)) : ∀ {l : List Value}, TripG R qual l → TripG R qual (l ++ [rawInt i, rawInt j, .ref c]) := by
  intro l
  fun_induction TripG R qual l with
  | case1 => exact fun _ => ⟨⟨c, oc, vs, t, rfl, z, e1, e2⟩, True.intro⟩
  | case2 a t b u w rest ih => exact fun h => ⟨h.1, ih h.2⟩
  | case3 => exact fun h => h.elim
noncomputable abbrev TabE (R : Rl) (qual : Str) (ps : Array Value) : Prop := TripG R qual ps.toList
section
variable {prog : Program} {w : World} {A : Around} {E : Value → Shared → Prop} {s : Shared} {b : Heap} {L a c P : Addr} {m mg mb : Str → Option Value} {cn : Str} {cs : Scope} {ccd : Value} {cl : List (Str × Addr)} {news : Led}
  {p : Program} {loose : List Str} {mean : ExcName → Option Value} {name qual : Str} {params : Arguments} {body : PySem.Expr} {scope : Scope} {ps : Array Value} {pos : Pos} {firstLine : Nat} {clos : List (Str × Addr)} {R : Rl}
theorem make_lamE {Q : Value → Shared → Prop} (F : Fr b L s.heap m) (N : News b L s.heap ((P, tabObj ps) :: news)) (hoff : ∀ p ∈ news, p.1 ≠ P) (T : Top p loose mean mg mb b) (C : CodeHd b c P) (hcd : ccd = .ref c)
    (Tb : TabE R qual ps)
    (hcl : closureFor scope (envX cn cs L a ccd cl) = pure clos)
    (h : ∀ f c' oc vs t ctv ps' nc h' tk, Fr b L h' m → News b L h' ((P, tabObj ps') :: (f, kla_obj name qual params body scope clos ((mg "__name__").getD .none) c' ctv) :: nc ++ news) →
      Or R nc c' oc → oc.data = .fields vs → vs[1]? = some (.str qual t) → TabE (Or R nc) qual ps' → f ≠ P → (∀ q ∈ nc, q.1 ≠ P) → (∀ q ∈ news, q.1 < f) → (∀ q ∈ news, ∀ r ∈ nc, q.1 < r.1) → Q (.ref f) { s with heap := h', toks := tk }) :
    wpAny (model prog w) A (makeFunction name qual params (.expr body) scope (envX cn cs L a ccd cl) [] [] [] pos firstLine) Q E s := by
  cases hc : codeAmong pos ps.toList with
  | none =>
    refine kla_nest F N T C hcd (updF_mid hoff) Tb.ok hc hcl ?_
    intro f c' oc vs t ctv h' tk' F' N' e1 e2 l1 l2
    have hPc : P < c' := l1 _ (.head _)
    refine h f c' oc vs t ctv (ps ++ #[rawInt pos.line, rawInt pos.col, .ref c']) [(c', oc)] h' tk' F' (news_sub N' ?_) (.inr (.head _)) e1 e2 ?_ (Nat.ne_of_gt (Nat.lt_trans hPc l2)) (fun q hq => by rw [List.mem_singleton.mp hq]; exact Nat.ne_of_gt hPc)
      (fun q hq => Nat.lt_trans (l1 q (.tail _ hq)) l2) (fun q hq r hr => by rw [List.mem_singleton.mp hr]; exact l1 q (.tail _ hq))
    · intro q hq
      rcases List.mem_cons.mp hq with rfl | hq
      · exact .tail _ (.tail _ (.head _))
      · rcases List.mem_cons.mp hq with rfl | hq
        · exact .head _
        · rcases List.mem_cons.mp hq with rfl | hq
          · exact .tail _ (.head _)
          · exact .tail _ (.tail _ (.tail _ hq))
    · show TripG _ _ (ps ++ #[rawInt pos.line, rawInt pos.col, .ref c']).toList
      rw [Array.toList_append]
      exact (TripG.mono (fun _ _ q => .inl q) Tb).snoc (R := Or R [(c', oc)]) (.inr (.head _)) e1 e2
  | some v =>
    obtain ⟨c', oc, vs, t, rfl, zc, e1, e2⟩ := TripG.hit Tb hc
    refine kla_hit (c' := c') F N T C hcd (.head _) Tb.ok hc hcl ?_
    intro f ctv h' tk' F' N' l1
    refine h f c' oc vs t ctv ps [] h' tk' F' (news_sub N' ?_) (.inl zc) e1 e2 (TripG.mono (fun _ _ q => .inl q) Tb) (Nat.ne_of_gt (l1 _ (.head _))) (fun q hq => nomatch hq) (fun q hq => l1 q (.tail _ hq)) (fun _ _ _ hr => nomatch hr)
    intro q hq
    rcases List.mem_cons.mp hq with rfl | hq
    · exact .tail _ (.head _)
    · rcases List.mem_cons.mp hq with rfl | hq
      · exact .head _
      · exact .tail _ (.tail _ hq)
end
section
variable {prog : Program} {w : World} {A : Around} {s : Shared} {R X : Rl} {b h : Heap} {tk : Nat} {L : Addr} {m : Str → Option Value} {mu l1 l2 : Led} {E : Value → Shared → Prop} {Q : Value → Shared → Prop}
theorem s_lamE {a c P : Addr} {mg mb : Str → Option Value} {cn : Str} {cs : Scope} {ccd : Value} {cl : List (Str × Addr)} {p : Program} {loose : List Str} {mean : ExcName → Option Value} {name qual : Str} {params : Arguments} {body : PySem.Expr} {scope : Scope} {ps : Array Value} {pos : Pos} {firstLine : Nat} {clos : List (Str × Addr)}
    (Z : St R b L h m (l1 ++ (P, tabObj ps) :: l2) X) (T : Top p loose mean mg mb b) (C : CodeHd b c P) (hcd : ccd = .ref c) (Tb : TabE X qual ps) (hcl : closureFor scope (envX cn cs L a ccd cl) = pure clos)
    (k : ∀ f c' oc vs t ctv ps' h' tk' Y, Le X Y → At Y f (kla_obj name qual params body scope clos ((mg "__name__").getD .none) c' ctv) → At Y c' oc → oc.data = .fields vs → vs[1]? = some (.str qual t) → TabE Y qual ps' →
      St R b L h' m (l1 ++ (P, tabObj ps') :: l2) Y → Q (.ref f) { s with heap := h', toks := tk' }) :
    wpAny (model prog w) A (makeFunction name qual params (.expr body) scope (envX cn cs L a ccd cl) [] [] [] pos firstLine) Q E { s with heap := h, toks := tk } := by
  obtain ⟨fz, hX, N, hd⟩ := Z.ex
  have nd := Z.nd
  have nd' := nd
  rw [List.map_append, List.nodup_append] at nd
  have ndc := List.nodup_cons.mp nd.2.1
  have hd1 := Ds_app_l.mp hd
  have hd2 := Ds_cons_l.mp hd1.2
  have N1 : News b L h ((P, tabObj ps) :: (l1 ++ l2 ++ fz)) := news_sub N fun p hp => by simp only [List.mem_append, List.mem_cons] at hp ⊢; grind
  have off : ∀ p ∈ l1 ++ l2 ++ fz, p.1 ≠ P := fun p hp => by
    rcases List.mem_append.mp hp with hp | hp
    · rcases List.mem_append.mp hp with hp | hp
      · exact fun e => nd.2.2 p.1 (List.mem_map_of_mem hp) P (.head _) e
      · exact fun e => ndc.1 (List.mem_map.mpr ⟨p, hp, e⟩)
    · exact fun e => hd2.1 p hp e.symm
  refine make_lamE Z.F N1 off T C hcd Tb hcl ?_
  intro f c' oc vs t ctv ps' nc h' tk' F' N' zc e1 e2 Tb' hf hnc lf ln
  refine k f c' oc vs t ctv ps' h' tk' (Or X ((f, kla_obj name qual params body scope clos ((mg "__name__").getD .none) c' ctv) :: nc)) (fun _ _ q => .inl q) (.inr (.head _)) (zc.imp id fun q => .tail _ q) e1 e2 (TripG.mono (fun _ _ q => q.imp id fun q => .tail _ q) Tb')
    ⟨F', Z.Rb, fun _ _ q => .inl (Z.RX _ _ q), ⟨((f, kla_obj name qual params body scope clos ((mg "__name__").getD .none) c' ctv) :: nc) ++ fz, ?_, ?_, ?_⟩, ?_⟩
  · rintro a o (q | q)
    · exact (hX a o q).imp id fun q => List.mem_append_right _ q
    · exact .inr (List.mem_append_left _ q)
  · exact news_sub N' fun p hp => by simp only [List.mem_append, List.mem_cons, List.cons_append] at hp ⊢; grind
  · have sep : ∀ p ∈ l1 ++ l2, Df p.1 ((f, kla_obj name qual params body scope clos ((mg "__name__").getD .none) c' ctv) :: nc) := fun p hp => by
      refine Df_cons.mpr ⟨Nat.ne_of_lt (lf p (List.mem_append_left _ hp)), fun q hq => Nat.ne_of_lt (ln p (List.mem_append_left _ hp) q hq)⟩
    refine Ds_app_l.mpr ⟨Ds_app_r.mpr ⟨fun p hp => sep p (List.mem_append_left _ hp), hd1.1⟩, Ds_cons_l.mpr ⟨Df_app.mpr ⟨Df_cons.mpr ⟨Ne.symm hf, fun q hq e => hnc q hq e.symm⟩, hd2.1⟩, Ds_app_r.mpr ⟨fun p hp => sep p (List.mem_append_right _ hp), hd2.2⟩⟩⟩
  · simp only [List.map_append, List.map_cons] at nd' ⊢
    exact nd'
end
section
variable {prog : Program} {w : World} {A : Around} {s : Shared} {E : Value → Shared → Prop} {Q : Value → Shared → Prop}
theorem tup_item {value slice : PySem.Expr} {a : Addr} {vs : List Value} {i : Nat} {k : Int} {u : Tok} {v : Value} (ho : s.heap.get? a = some (tupO vs)) (hk : k = (i : Int)) (hi : i < 2 ^ 60) (hx : vs[i]? = some v) (h : Q v s)
    (hs : subscripted slice false (.ref a) (.int k u) = operate [.ref a, .int k u] (getItem (.ref a) (.int k u)) := by with_unfolding_all rfl) :
    wpAny (model prog w) A (subscriptTail value slice (.ref a) (.int k u)) Q E s := by
  subst hk
  have ht : IsTup s.heap a vs.toArray := ⟨_, ho, rfl, _, rfl⟩
  have hl : i < vs.length := (List.getElem?_eq_some_iff.mp hx).1
  refine item_tupleT (j := i) ht (by omega) (by omega) (by exact (StrLaws.seqIndex_nonneg (by omega) (by omega)).trans (by simp)) (by simpa using hx) h hs
end
section
variable {R X : Rl} {b h h' : Heap} {L : Addr} {m : Str → Option Value} {mu : Led}
end
section
variable {K : Type} [DecidableEq K] {prog : Program} {w : World} {knd : KeyKind prog w K} {A : Around} {s : Shared} {R X : Rl} {b h : Heap} {tk : Nat} {L : Addr} {m : Str → Option Value} {mu : Led} {E : Value → Shared → Prop} {Q : Value → Shared → Prop}
end
noncomputable def itemsD (ns : List (Str × Int)) : PyData := .list (ns.map fun p => .tuple [.str p.1, .int p.2])
section
variable {prog : Program} {w : World} {A : Around} {s : Shared} {R X : Rl} {b h : Heap} {tk : Nat} {L : Addr} {m : Str → Option Value} {mu : Led} {E : Value → Shared → Prop} {Q : Value → Shared → Prop}
end
section
variable {prog : Program} {w : World} {A : Around} {s : Shared} {env : Env} {R X : Rl} {b h : Heap} {tk : Nat} {L : Addr} {m : Str → Option Value} {mu : Led} {E : Value → Shared → Prop} {Q : Value → Shared → Prop}
theorem s_dictS {K : Type} [DecidableEq K] {knd : KeyKind prog w K} {keys : List (Option PySem.Expr)} {values : List PySem.Expr} {pos : Pos} (Z : St R b L h m mu X) (hn : b.NoLimit)
    (hall : keys.all (·.isSome) = true) (hl : keys.length = values.length) (h0 : keys ≠ []) (hlen : keys.length ≤ 15)
    (q : ∀ d o h', (d == sysModules) = false → DObj (knd) o [] → St R b L h' m ((d, o) :: mu) X →
      wpAny (model prog w) A (evalPairs (pairTrees keys values env pos)) (fun vs s₁ => ∃ kvs ns h₁ tk₁ Y, s₁ = { s with heap := h₁, toks := tk₁ } ∧ Carries (knd) vs kvs ∧ IntP kvs ns ∧ (ns.map (·.1)).Nodup ∧ Le X Y ∧ St R b L h₁ m ((d, o) :: mu) Y ∧
        ∀ Y' h' tk', Le Y Y' → DictI (knd) Y' d ns → St R b L h' m mu Y' → Q (.ref d) { s with heap := h', toks := tk' }) E { s with heap := h', toks := tk }) :
    wpAny (model prog w) A (eval (.Dict keys values pos) env) Q E { s with heap := h, toks := tk } := by
  refine wpAny_Dict_walk (knd := knd) hall hl h0 hlen ?_
  have hlow : (h.objs.size == sysModules) = false := by
    have h1 := modules_low hn
    have h2 := Z.F.above
    have h3 := Z.F.ns.lt
    exact beq_false_of_ne (Nat.ne_of_gt (Nat.lt_of_lt_of_le h1 (Nat.le_trans h2 (Nat.le_of_lt h3))))
  obtain ⟨o, ho, hd⟩ := Heap.dictOf_iff.mp (Heap.DictOf.new (knd := knd) h)
  refine wpAny_mono (q h.objs.size o _ hlow ⟨[], hd, .nil⟩ (Z.new (o := o) (fun _ _ e => Heap.get?_push_of_some _ e) (Heap.get?_none_of_le (Nat.le_refl _)) ho)) ?_ fun _ _ x => x
  rintro vs s₁ ⟨kvs, ns, h₁, tk₁, Y, rfl, hc, hp, nd, le, Z1, fin⟩
  refine ⟨kvs, hc, Heap.dictOf_iff.mpr ⟨o, Z1.mget (.head _), hd⟩, fun h' hm hs => ?_⟩
  rw [merged_nil_of_nodup kvs (by rw [hp.keys]; exact nd)] at hm
  obtain ⟨o', ho', hd'⟩ := Heap.dictOf_iff.mp hm
  refine (St.upd (l1 := []) Z1 hs ho').freeze (l1 := []) fun Y2 le2 zd Z2 => ?_
  exact fin Y2 h' _ le2 ⟨hlow, o', zd, kvs, hd', hp⟩ Z2
end
noncomputable abbrev lc2 (elt t0 i0 t1 i1 : PySem.Expr) (scope : Scope) (pos : Pos) : PySem.Expr := .ListComp elt [⟨t0, i0, [], 0⟩, ⟨t1, i1, [], 0⟩] scope pos
section
variable {prog : Program} {W : Wd} {A : Around} {s : Shared} {b : Heap} {env : Env} {L : Addr} {E : Value → Shared → Prop} {elt t0 i0 t1 i1 : PySem.Expr} {scope : Scope} {pos : Pos} {it acc : Value} {R : Result → Shared → Prop}
theorem turn2_0 : compTurn (lc2 elt t0 i0 t1 i1 scope pos) 0 it acc env = (standAt i0.pos >>= fun _ => pyNext it >>= fun r => match r with
    | none => pure (.done .next)
    | some v => letOwnedTupleGo t0 it v >>= fun _ => assign t0 env v >>= fun _ => eval i1 env >>= fun x => standAt i1.pos >>= fun _ => foldedSetIterable i1 env x >>= fun x =>
        holding [x] (pyIter x) >>= fun it1 => runOwn (.compStart (lc2 elt t0 i0 t1 i1 scope pos) 1 it1 acc env) env >>= fun _ => again (.compLoop (lc2 elt t0 i0 t1 i1 scope pos) 0 it acc env)) := by rfl
theorem turn2_1 : compTurn (lc2 elt t0 i0 t1 i1 scope pos) 1 it acc env = (standAt i1.pos >>= fun _ => pyNext it >>= fun r => match r with
    | none => pure (.done .next)
    | some v => letOwnedTupleGo t1 it v >>= fun _ => assign t1 env v >>= fun _ =>
        (eval elt env >>= fun x => call (.builtin "list.append") [acc, x] >>= fun _ => pure ()) >>= fun _ => again (.compLoop (lc2 elt t0 i0 t1 i1 scope pos) 1 it acc env)) := by rfl
theorem loop2_out (hs1 : ∀ x, foldedSetIterable i1 env x = pure x) (I : Nat → Shared → Prop)
    (turn : ∀ n s, I n s → wpAny (model prog W.w) A (pyNext it) (fun r s₁ => match r with
      | none => R (.ok .next) s₁
      | some v => wpAny (model prog W.w) A (letOwnedTupleGo t0 it v) (fun _ s₁' => wpAny (model prog W.w) A (assign t0 env v) (fun _ s₂ => wpAny (model prog W.w) A (eval i1 env) (fun x s₃ => wpAny (model prog W.w) A (pyIter x) (fun it1 s₄ =>
          codeAny (model prog W.w) A (.compStart (lc2 elt t0 i0 t1 i1 scope pos) 1 it1 acc env) (fun r s₅ => r = .ok .next ∧ ∃ m, m < n ∧ I m s₅) s₄) No s₃) No s₂) No s₁') No s₁) No s)
    (n : Nat) (h : I n s) :
    codeAny (model prog W.w) A (.compLoop (lc2 elt t0 i0 t1 i1 scope pos) 0 it acc env) R s := by
  refine codeAny_loop rfl I (fun n s hI => ?_) n h
  show wpAny _ A ((compTurn (lc2 elt t0 i0 t1 i1 scope pos) 0 it acc env).onRaise (fun x => do noteFrame x env; theTreesLotGoes x)) _ _ s
  refine wpAny_noted ?_
  rw [turn2_0]
  refine wpAny_bind (wpAny_standAt (wpAny_bind (wpAny_mono (turn n s hI) (fun r s₁ h₁ => ?_) fun _ _ h' => h'.elim)))
  cases r with
  | none => exact wpAny_pure h₁
  | some v =>
    refine wpAny_bind (wpAny_mono h₁ (fun _ s₁' h₁' => ?_) fun _ _ h' => h'.elim)
    refine wpAny_bind (wpAny_mono h₁' (fun _ s₂ h₂ => ?_) fun _ _ h' => h'.elim)
    refine wpAny_bind (wpAny_mono h₂ (fun x s₃ h₃ => ?_) fun _ _ h' => h'.elim)
    refine wpAny_bind (wpAny_standAt (wpAny_bind ?_))
    rw [hs1]
    refine wpAny_pure (wpAny_bind (wpAny_holding (wpAny_mono h₃ (fun it1 s₄ h₄ => ?_) fun _ _ h' => h'.elim)))
    refine wpAny_bind (wpAny_runOwn (codeAny_mono h₄ fun r s₅ h₅ => ?_))
    obtain ⟨rfl, h₅⟩ := h₅
    exact wpAny_pure ⟨rfl, h₅⟩
theorem loop2_in (I : Nat → Shared → Prop)
    (turn : ∀ n s, I n s → wpAny (model prog W.w) A (pyNext it) (fun r s₁ => match r with
      | none => R (.ok .next) s₁
      | some v => wpAny (model prog W.w) A (letOwnedTupleGo t1 it v) (fun _ s₁' => wpAny (model prog W.w) A (assign t1 env v) (fun _ s₂ => wpAny (model prog W.w) A (eval elt env) (fun x s₄ =>
              wpAny (model prog W.w) A (call (.builtin "list.append") [acc, x]) (fun _ s₅ => ∃ m, m < n ∧ I m s₅) No s₄) No s₂) No s₁') No s₁) No s)
    (n : Nat) (h : I n s) :
    codeAny (model prog W.w) A (.compLoop (lc2 elt t0 i0 t1 i1 scope pos) 1 it acc env) R s := by
  refine codeAny_loop rfl I (fun n s hI => ?_) n h
  show wpAny _ A ((compTurn (lc2 elt t0 i0 t1 i1 scope pos) 1 it acc env).onRaise (fun x => do noteFrame x env; theTreesLotGoes x)) _ _ s
  refine wpAny_noted ?_
  rw [turn2_1]
  refine wpAny_bind (wpAny_standAt (wpAny_bind (wpAny_mono (turn n s hI) (fun r s₁ h₁ => ?_) fun _ _ h' => h'.elim)))
  cases r with
  | none => exact wpAny_pure h₁
  | some v =>
    refine wpAny_bind (wpAny_mono h₁ (fun _ s₁' h₁' => ?_) fun _ _ h' => h'.elim)
    refine wpAny_bind (wpAny_mono h₁' (fun _ s₂ h₂ => ?_) fun _ _ h' => h'.elim)
    exact wpAny_bind (wpAny_bind (wpAny_mono h₂ (fun x s₄ h₄ => wpAny_bind (wpAny_mono h₄ (fun _ s₅ h₅ => wpAny_pure (wpAny_pure ⟨rfl, h₅⟩)) fun _ _ h' => h'.elim)) fun _ _ h' => h'.elim))
theorem start2
    (h0 : codeAny (model prog W.w) A (.compLoop (lc2 elt t0 i0 t1 i1 scope pos) 1 it acc env) R s)
    (h : wpAny (model prog W.w) A (pyIter it) (fun it' s' => codeAny (model prog W.w) A (.compLoop (lc2 elt t0 i0 t1 i1 scope pos) 1 it' acc env) R s') No s) :
    codeAny (model prog W.w) A (.compStart (lc2 elt t0 i0 t1 i1 scope pos) 1 it acc env) R s := by
  refine codeAny_of_tree ?_
  show wpAny _ _ ((compStart (lc2 elt t0 i0 t1 i1 scope pos) 1 it acc env).onRaise (fun x => do noteFrame x env; standAt theWindowsPlace)) _ _ s
  refine wpAny_notedAt ?_
  unfold compStart
  show wpAny _ _ (ask >>= _) _ _ s
  refine wpAny_bind (wpAny_askSetting (wpAny_ite ?_))
  split
  · first
      | exact wpAny_bind (wpAny_pure (wpAny_pure (And.intro rfl h0)))
      | exact wpAny_pure (And.intro rfl h0)
  · first
      | exact wpAny_bind (wpAny_rule (wpAny_bind (wpAny_standAt (wpAny_bind (wpAny_mono h (fun it' s' h' => wpAny_pure (And.intro rfl h')) fun _ _ x => x.elim)))))
      | (refine wpAny_bind (wpAny_rule ?_); show wpAny _ _ (standAt i1.pos >>= _) _ _ s; exact wpAny_bind (wpAny_standAt (wpAny_bind (wpAny_mono h (fun it' s' h' => wpAny_pure (And.intro rfl h')) fun _ _ x => x.elim))))
end
section
variable {prog : Program} {W : Wd} {A : Around} {s : Shared} {b : Heap} {env : Env} {L : Addr}
noncomputable def CompK2 (prog : Program) (W : Wd) (A : Around) (env : Env) (cl : List (Str × Addr)) (elt target iter t1 i1 : PySem.Expr) (scope : Scope) (pos : Pos) (use : Option (Value → Sem Unit)) (Q : Value → Shared → Prop) (it : Value) (s₂ : Shared) : Prop :=
  wpAny (model prog W.w) A (newList []) (fun acc s₃ => wpAny (model prog W.w) A (newFunctionEnv scope env.globals cl [] env.qual none .none (some env)) (fun cenv s₄ =>
      codeAny (model prog W.w) A (.compStart (lc2 elt target iter t1 i1 scope pos) 0 it acc { cenv with scope := relabel scope env }) (compPost (model prog W.w) A No use Q acc cenv.locals) s₄) No s₃) No s₂
theorem comp_core2 {elt target iter t1 i1 : PySem.Expr} {scope : Scope} {cl : List (Str × Addr)} {pos : Pos} {m : Str → Option Value} {h₂ : Heap} {tk₂ : Nat} {I : Addr} {io : Obj} {mu news : Led} {fp : List Addr} {n : Nat} {P : Nat → Value → Prop} {St : Nat → Heap → Prop}
    {RR : Value → Addr → Result → Shared → Prop}
    (F : Fr b L h₂ m) (N : News b L h₂ ((I, io) :: (mu ++ news))) (hdm : ∀ p ∈ mu ++ news, p.1 ≠ I) (hdis : ∀ p ∈ news, ∀ q ∈ mu, p.1 ≠ q.1)
    (Wk : Walks prog W.w A I fp [I] n P St) (hfp : ∀ a ∈ fp, a = I ∨ (∃ o, b.get? a = some o) ∨ ∃ o, (a, o) ∈ news) (hst : St 0 h₂) (hIo : ∀ i h, St i h → ∃ o, h.get? I = some o ∧ ItCls o) (hs1 : ∀ C x, foldedSetIterable i1 (cpEnv scope cl C env) x = pure x)
    (J : Addr → Nat → List Value → Led → Prop) (h0 : ∀ C, (∀ p ∈ mu, p.1 < C) → J C 0 [] (cellLed (C + 1) scope.names ++ mu))
    (turn : ∀ b' C D nD io i v ys mc nw h tk, b.StaysIn b' → (∀ p ∈ news, b'.get? p.1 = some p.2) → i < n → P i v → J C i ys nw → Fr b' C h mc → News b' C h ([(I, io), (D, lstO ys nD)] ++ nw) → (∀ p ∈ nw, ∀ q ∈ [(I, io), (D, lstO ys nD)], p.1 ≠ q.1) → ItCls io →
      wpAny (model prog W.w) A (letOwnedTupleGo target (.ref I) v) (fun _ s₁ => wpAny (model prog W.w) A (assign target (cpEnv scope cl C env) v) (fun _ s₂ => wpAny (model prog W.w) A (eval i1 (cpEnv scope cl C env)) (fun x s₃ => wpAny (model prog W.w) A (pyIter x) (fun it1 s₄ =>
        codeAny (model prog W.w) A (.compStart (lc2 elt target iter t1 i1 scope pos) 1 it1 (.ref D) (cpEnv scope cl C env)) (fun r s₅ => r = .ok .next ∧ ∃ ys' nD', CEnd s b' C [(I, io), (D, lstO ys' nD')] (J C (i + 1) ys') s₅) s₄) No s₃) No s₂) No s₁) No { s with heap := h, toks := tk })
    (hRR : ∀ C D nD h tk mc ys nw, J C n ys nw → Fr b L h m → News b L h ((D, lstO ys nD) :: (nw ++ news)) → (∀ p ∈ nw, ∀ q ∈ news, p.1 ≠ q.1) → (∀ p ∈ nw ++ news, p.1 ≠ D) → h.Ns C mc → C ≠ L → b.get? C = none → (∀ p ∈ (D, lstO ys nD) :: (nw ++ news), p.1 ≠ C) →
      RR (.ref D) C (.ok .next) { s with heap := h, toks := tk }) :
    wpAny (model prog W.w) A (newList []) (fun acc s₃ => wpAny (model prog W.w) A (newFunctionEnv scope env.globals cl [] env.qual none .none (some env)) (fun cenv s₄ =>
      codeAny (model prog W.w) A (.compStart (lc2 elt target iter t1 i1 scope pos) 0 (.ref I) acc { cenv with scope := relabel scope env }) (RR acc cenv.locals) s₄) E s₃) E { s with heap := h₂, toks := tk₂ } := by
  refine wpAny_newObj_type (newCompEnv ?_)
  dsimp only
  obtain ⟨H, hH⟩ : ∃ x, h₂.push { cls := .type "list", dict := none, data := .seq ([] : List Value).toArray } = x := ⟨_, rfl⟩
  rw [hH]
  have hHs : H.objs.size = h₂.objs.size + 1 := by rw [← hH, Heap.size_push]
  obtain ⟨h₁, hH1⟩ : ∃ x, pushCells (H.push { cls := .type "dict", data := .dict #[] }) scope.names = x := ⟨_, rfl⟩
  rw [hH1]
  have kp : ∀ c o, h₂.get? c = some o → h₁.get? c = some o := fun c o e => by
    rw [← hH1]; exact pushCells_keeps _ _ _ _ (Heap.get?_push_of_some _ (hH ▸ Heap.get?_push_of_some _ e))
  have zI := N (I, io) (.head _)
  have hIlt : I < h₂.objs.size := Heap.lt_size zI.1
  have zD : h₁.get? h₂.objs.size = some (lstO [] 0) := by
    rw [← hH1]; exact pushCells_keeps _ _ _ _ (Heap.get?_push_of_some _ (hH ▸ Heap.get?_push_size _ rfl))
  have zC : h₁.Ns H.objs.size (fun _ => none) := by
    rw [← hH1]; exact (Heap.Ns.new H (.type "dict")).keeps (pushCells_keeps _ _)
  have zcl : ∀ p ∈ cellLed (H.objs.size + 1) scope.names, h₁.get? p.1 = some p.2 ∧ H.objs.size + 1 ≤ p.1 := fun p hp => by
    have hs : (H.push { cls := .type "dict", data := .dict #[] }).objs.size = H.objs.size + 1 := Heap.size_push ..
    have := cellLed_ok scope.names (H.push { cls := .type "dict", data := .dict #[] }) p (by rw [hs]; exact hp)
    rw [hs, hH1] at this
    exact this
  have Nm : ∀ p ∈ mu, h₂.get? p.1 = some p.2 ∧ p.1 ≠ L ∧ b.get? p.1 = none := fun p hp => N p (.tail _ (List.mem_append_left _ hp))
  have Nn : ∀ p ∈ news, h₂.get? p.1 = some p.2 ∧ p.1 ≠ L ∧ b.get? p.1 = none := fun p hp => N p (.tail _ (List.mem_append_right _ hp))
  obtain ⟨b', hb'⟩ : ∃ x, hideAll h₂ (I :: mu.map (·.1)) = x := ⟨_, rfl⟩
  have b'of : ∀ c o, b'.get? c = some o → h₂.get? c = some o := fun c o e => by rw [← hb'] at e; exact of_hideAll _ e
  have b'sz : b'.objs.size = h₂.objs.size := by rw [← hb']; exact hideAll_size _ _
  have b'get : ∀ c o, h₂.get? c = some o → c ≠ I → (∀ p ∈ mu, p.1 ≠ c) → b'.get? c = some o := fun c o e h1 h2 => by
    rw [← hb']
    refine hideAll_get _ e fun q => ?_
    rcases List.mem_cons.mp q with q | q
    · exact h1 q
    · obtain ⟨p, hp, e⟩ := List.mem_map.mp q
      exact h2 p hp e
  have b'none : ∀ c, h₂.objs.size ≤ c → b'.get? c = none := fun c hc => by
    cases e : b'.get? c with
    | none => rfl
    | some o => exact absurd (Heap.lt_size (b'of c o e)) (Nat.not_lt.mpr hc)
  have b'I : b'.get? I = none := by rw [← hb']; exact hideAll_none _ (.head _)
  have b'mu : ∀ p ∈ mu, b'.get? p.1 = none := fun p hp => by rw [← hb']; exact hideAll_none _ (.tail _ (List.mem_map_of_mem hp))
  have st : b.StaysIn b' := fun c o e => b'get c o (F.keep c o e) (fun q => by rw [q] at e; rw [zI.2.2] at e; cases e) fun p hp q => by
    rw [← q, (Nm p hp).2.2] at e; cases e
  have nst : ∀ p ∈ news, b'.get? p.1 = some p.2 := fun p hp => b'get _ _ (Nn p hp).1 (hdm p (List.mem_append_right _ hp)) fun q hq e => hdis p hp q hq e.symm
  obtain ⟨oL, es, ep, hL, hLd, hLk, hLf⟩ := F.ns
  have hLb : b'.get? L = some oL := b'get L oL hL (Ne.symm zI.2.1) fun p hp => (Nm p hp).2.1
  have cI : I ≠ H.objs.size := by rw [hHs]; exact Nat.ne_of_lt (Nat.lt_succ_of_lt hIlt)
  have F₁ : Fr b' H.objs.size h₁ (fun _ => none) := ⟨zC, fun c o e => kp c o (b'of c o e), by rw [b'sz, hHs]; exact Nat.le_succ _⟩
  have N₁ : News b' H.objs.size h₁ ([(I, io), (h₂.objs.size, lstO [] 0)] ++ (cellLed (H.objs.size + 1) scope.names ++ mu)) := fun p hp => by
    rcases List.mem_append.mp hp with hp | hp
    · rcases List.mem_cons.mp hp with rfl | hp
      · exact ⟨kp _ _ zI.1, cI, b'I⟩
      · rw [List.mem_singleton.mp hp]
        exact ⟨zD, by show h₂.objs.size ≠ H.objs.size; rw [hHs]; exact Nat.ne_of_lt (Nat.lt_succ_self _), b'none _ (Nat.le_refl _)⟩
    · rcases List.mem_append.mp hp with hp | hp
      · have z := zcl p hp
        exact ⟨z.1, Nat.ne_of_gt z.2, b'none _ (by rw [hHs] at z; exact Nat.le_trans (Nat.le_add_right _ 2) z.2)⟩
      · have z := Nm p hp
        exact ⟨kp _ _ z.1, by rw [hHs]; exact Nat.ne_of_lt (Nat.lt_succ_of_lt (Heap.lt_size z.1)), b'mu p hp⟩
  have D₁ : ∀ p ∈ cellLed (H.objs.size + 1) scope.names ++ mu, ∀ q ∈ [(I, io), (h₂.objs.size, lstO [] 0)], p.1 ≠ q.1 := fun p hp q hq => by
    rcases List.mem_append.mp hp with hp | hp
    · have z := (zcl p hp).2
      rw [hHs] at z
      rcases List.mem_cons.mp hq with rfl | hq
      · exact Nat.ne_of_gt (Nat.lt_of_lt_of_le hIlt (Nat.le_trans (Nat.le_add_right _ 2) z))
      · rw [List.mem_singleton.mp hq]; exact Nat.ne_of_gt (Nat.lt_of_lt_of_le (Nat.lt_succ_of_lt (Nat.lt_succ_self _)) z)
    · rcases List.mem_cons.mp hq with rfl | hq
      · exact hdm p (List.mem_append_left _ hp)
      · rw [List.mem_singleton.mp hq]; exact Nat.ne_of_lt (Heap.lt_size (Nm p hp).1)
  have loop : ∀ tk, codeAny (model prog W.w) A (.compLoop (lc2 elt target iter t1 i1 scope pos) 0 (.ref I) (.ref h₂.objs.size) (cpEnv scope cl H.objs.size env)) (RR (.ref h₂.objs.size) H.objs.size) { s with heap := h₁, toks := tk } := fun tk => by
    refine loop2_out (hs1 _) (fun k s' => ∃ h tk mc nw i ys nD io, s' = { s with heap := h, toks := tk } ∧ Fr b' H.objs.size h mc ∧ News b' H.objs.size h ([(I, io), (h₂.objs.size, lstO ys nD)] ++ nw) ∧ (∀ p ∈ nw, ∀ q ∈ [(I, io), (h₂.objs.size, lstO ys nD)], p.1 ≠ q.1) ∧ J H.objs.size i ys nw ∧ St i h ∧ i ≤ n ∧ k = n + 1 - i) ?_ (n + 1)
      ⟨h₁, tk, _, _, 0, [], 0, io, rfl, F₁, N₁, D₁, h0 _ (fun p hp => by rw [hHs]; exact Nat.lt_succ_of_lt (Heap.lt_size (Nm p hp).1)), Wk.frame _ _ _ hst (fun c _ o e => kp c o e), Nat.zero_le _, rfl⟩
    rintro k s' ⟨h, tk, mc, nw, i, ys, nD, io', rfl, F', N', hd', hJ, hst', hi, rfl⟩
    have zI' := N' (I, io') (.head _)
    have zD' := N' (h₂.objs.size, lstO ys nD) (.tail _ (.head _))
    have hDI : h₂.objs.size ≠ I := Nat.ne_of_gt hIlt
    have oldI : ∀ c o, b'.get? c = some o → c ≠ I := fun c o e q => by rw [q, b'I] at e; cases e
    by_cases hlt : i < n
    · refine Wk.item i _ _ _ hlt hst' fun v h₃ tk₃ hPv hst₃ hk₃ => ?_
      obtain ⟨io₃, zI₃, ic₃⟩ := hIo _ _ hst₃
      have F₃ : Fr b' H.objs.size h₃ mc := by
        obtain ⟨oC, ces, cep, cC, r⟩ := F'.ns
        exact ⟨⟨oC, ces, cep, hk₃ _ _ (by simpa using Ne.symm cI) cC, r⟩, fun c o e => hk₃ c o (by simpa using oldI c o e) (F'.keep c o e), F'.above⟩
      have nwI : ∀ p ∈ nw, p.1 ≠ I := fun p hp => hd' p hp (I, io') (.head _)
      have N₃ : News b' H.objs.size h₃ ([(I, io₃), (h₂.objs.size, lstO ys nD)] ++ nw) := fun p hp => by
        rcases List.mem_append.mp hp with hp | hp
        · rcases List.mem_cons.mp hp with rfl | hp
          · exact ⟨zI₃, zI'.2⟩
          · rw [List.mem_singleton.mp hp]
            exact ⟨hk₃ _ _ (by simpa using hDI) zD'.1, zD'.2⟩
        · have z := N' p (List.mem_append_right _ hp)
          exact ⟨hk₃ _ _ (by simpa using nwI p hp) z.1, z.2⟩
      have hd₃ : ∀ p ∈ nw, ∀ q ∈ [(I, io₃), (h₂.objs.size, lstO ys nD)], p.1 ≠ q.1 := fun p hp q hq => by
        rcases List.mem_cons.mp hq with rfl | hq
        · exact nwI p hp
        · rw [List.mem_singleton.mp hq]; exact hd' p hp (h₂.objs.size, lstO ys nD) (.tail _ (.head _))
      have frame : ∀ {h₄ : Heap} {mc₄ : Str → Option Value} {nw₄ : Led} {ys₄ : List Value} {nD₄ : Nat}, Fr b' H.objs.size h₄ mc₄ → News b' H.objs.size h₄ ([(I, io₃), (h₂.objs.size, lstO ys₄ nD₄)] ++ nw₄) → St (i + 1) h₄ := fun F₄ N₄ => Wk.frame _ _ _ hst₃ fun c hc o e => by
        rcases hfp c hc with rfl | ⟨o', e'⟩ | ⟨o', e'⟩
        · rw [zI₃] at e; cases e; exact (N₄ _ (.head _)).1
        · have := F₃.keep c o' (st c o' e'); rw [this] at e; cases e; exact F₄.keep c _ (st c _ e')
        · have := F₃.keep c o' (nst _ e'); rw [this] at e; cases e; exact F₄.keep c _ (nst _ e')
      refine wpAny_mono (turn b' H.objs.size h₂.objs.size nD io₃ i v ys mc nw h₃ tk₃ st nst hlt hPv hJ F₃ N₃ hd₃ ic₃) (fun _ s₁ k₁ => ?_) fun _ _ e => e
      refine wpAny_mono k₁ (fun _ s₂ k₂ => ?_) fun _ _ e => e
      refine wpAny_mono k₂ (fun x s₃ k₃ => ?_) fun _ _ e => e
      refine wpAny_mono k₃ (fun it1 s₄ k₄ => ?_) fun _ _ e => e
      refine codeAny_mono k₄ fun r s₅ k₅ => ?_
      obtain ⟨er, ys₄, nD₄, mc₄, nw₄, F₄, N₄, hd₄, hJ₄, e⟩ := k₅
      exact ⟨er, n + 1 - (i + 1), by omega, s₅.heap, s₅.toks, mc₄, nw₄, i + 1, ys₄, nD₄, io₃, e, F₄, N₄, hd₄, hJ₄, frame F₄ N₄, hlt, rfl⟩
    · have hin : i = n := by omega
      subst hin
      refine Wk.done _ _ _ hst' fun h₃ tk₃ hk₃ => ?_
      have nwI : ∀ p ∈ nw, p.1 ≠ I := fun p hp => hd' p hp (I, io') (.head _)
      have keep : ∀ c o, b'.get? c = some o → h₃.get? c = some o := fun c o e => hk₃ c o (by simpa using oldI c o e) (F'.keep c o e)
      obtain ⟨oC, ces, cep, cC, r⟩ := F'.ns
      refine hRR H.objs.size h₂.objs.size nD h₃ tk₃ mc ys nw hJ ⟨⟨oL, es, ep, keep L oL hLb, hLd, hLk, hLf⟩, fun c o e => keep c o (st c o e), F.above⟩ (fun p hp => ?_) (fun p hp q hq e => ?_) (fun p hp => ?_) ⟨oC, ces, cep, hk₃ _ _ (by simpa using Ne.symm cI) cC, r⟩ ?_ ?_ (fun p hp => ?_)
      · rcases List.mem_cons.mp hp with rfl | hp
        · refine ⟨hk₃ _ _ (by simpa using hDI) zD'.1, fun q => ?_, ?_⟩
          · have := zD'.2.2; rw [show (h₂.objs.size, lstO ys nD).1 = L from q, hLb] at this; cases this
          · cases q : b.get? h₂.objs.size with
            | none => rfl
            | some o => have := zD'.2.2; rw [st _ _ q] at this; cases this
        · rcases List.mem_append.mp hp with hp | hp
          · have z := N' p (List.mem_append_right _ hp)
            refine ⟨hk₃ _ _ (by simpa using nwI p hp) z.1, fun q => ?_, ?_⟩
            · have := z.2.2; rw [q, hLb] at this; cases this
            · cases q : b.get? p.1 with
              | none => rfl
              | some o => have := z.2.2; rw [st _ _ q] at this; cases this
          · exact ⟨keep _ _ (nst p hp), (Nn p hp).2⟩
      · have := (N' p (List.mem_append_right _ hp)).2.2; rw [e, nst q hq] at this; cases this
      · rcases List.mem_append.mp hp with hp | hp
        · exact hd' p hp (h₂.objs.size, lstO ys nD) (.tail _ (.head _))
        · exact Nat.ne_of_lt (Heap.lt_size (Nn p hp).1)
      · intro q
        have := F.ns.lt
        rw [← q, hHs] at this
        exact absurd this (Nat.not_lt.mpr (Nat.le_succ _))
      · cases q : b.get? H.objs.size with
        | none => rfl
        | some o => have := Heap.lt_size (F.keep _ _ q); rw [hHs] at this; exact absurd this (Nat.not_lt.mpr (Nat.le_succ _))
      · rcases List.mem_cons.mp hp with rfl | hp
        · exact zD'.2.1
        · rcases List.mem_append.mp hp with hp | hp
          · exact (N' p (List.mem_append_right _ hp)).2.1
          · rw [hHs]; exact Nat.ne_of_lt (Nat.lt_succ_of_lt (Heap.lt_size (Nn p hp).1))
  exact codeAny_compStart_list (rest := [⟨t1, i1, [], 0⟩]) (loop _) (Wk.self 0 _ _ _ (Wk.frame _ _ _ hst fun c _ o e => kp c o e) (loop _))
theorem s_compI2 {elt target iter t1 i1 : PySem.Expr} {scope : Scope} {cl : List (Str × Addr)} {pos : Pos} {R X : Rl} {m : Str → Option Value} {ms rest : Led} {n : Nat} {P : Nat → Value → Prop} {Q : Value → Shared → Prop} {h₁ : Heap} {tk₁ : Nat} {xv : Value} {use : Option (Value → Sem Unit)}
    (Z : St R b L h₁ m (ms ++ rest) X) (hh : A.handled = none) (S : SrcS X h₁ xv n P) (hs1 : ∀ C x, foldedSetIterable i1 (cpEnv scope cl C env) x = pure x)
    (J : Addr → Nat → List Value → Led → Rl → Prop) (h0 : ∀ C, J C 0 [] (cellLed (C + 1) scope.names ++ ms) X)
    (turn : ∀ b' C I D nD io i v ys mc ms Y h tk, b.StaysIn b' → Le X (hp b') → (∀ p ∈ rest, b'.get? p.1 = some p.2) → i < n → P i v → Le X Y → J C i ys ms Y → St X b' C h mc (ms ++ [(I, io), (D, lstO ys nD)]) Y → ItCls io →
      wpAny (model prog W.w) A (letOwnedTupleGo target (.ref I) v) (fun _ s₁ => wpAny (model prog W.w) A (assign target (cpEnv scope cl C env) v) (fun _ s₂ => wpAny (model prog W.w) A (eval i1 (cpEnv scope cl C env)) (fun x s₃ => wpAny (model prog W.w) A (pyIter x) (fun it1 s₄ =>
        codeAny (model prog W.w) A (.compStart (lc2 elt target iter t1 i1 scope pos) 1 it1 (.ref D) (cpEnv scope cl C env)) (fun r s₅ => r = .ok .next ∧ ∃ ys' nD', SEnd s X b' C [(I, io), (D, lstO ys' nD')] (J C (i + 1) ys') s₅) s₄) No s₃) No s₂) No s₁) No { s with heap := h, toks := tk })
    (k : ∀ C D nD h tk ys ms' Y mc fz, Le X Y → J C n ys ms' Y → St R b L h m ((D, lstO ys nD) :: (ms' ++ rest)) Y → Le Y (Or R fz) → News b L h (((D, lstO ys nD) :: (ms' ++ rest)) ++ fz) → Ds ((D, lstO ys nD) :: (ms' ++ rest)) fz → h.Ns C mc → C ≠ L → b.get? C = none → (∀ p ∈ ((D, lstO ys nD) :: (ms' ++ rest)) ++ fz, p.1 ≠ C) →
      compPost (model prog W.w) A No use Q (.ref D) C (.ok .next) { s with heap := h, toks := tk }) :
    wpAny (model prog W.w) A (pyIter xv) (CompK2 prog W A env cl elt target iter t1 i1 scope pos use Q) No { s with heap := h₁, toks := tk₁ } := by
  obtain ⟨fz, hX, N, hd⟩ := Z.ex
  rw [List.append_assoc] at N
  have nd := Z.nd
  rw [List.map_append, List.nodup_append] at nd
  have dmr : Ds ms rest := fun p hp q hq e => nd.2.2 p.1 (List.mem_map_of_mem hp) q.1 (List.mem_map_of_mem hq) e
  have hdf := Ds_app_l.mp hd
  have S' : Src b (rest ++ fz) h₁ xv n P := by
    cases S with
    | list z =>
      refine Src.list (Or.imp (Z.Rb _ _) (fun q => List.mem_append_right _ q) (hX _ _ z))
    | range h1 h2 h3 => exact .range h1 h2 h3
  refine iter_src hh Z.F N S' fun I h₂ tk₂ ⟨io, fp, StI, F₂, N₂, hdm, Wk, hfp, hst, hIo⟩ => ?_
  refine comp_core2 F₂ N₂ hdm (Ds_app_r.mpr ⟨dmr, hdf.1⟩).symm Wk hfp hst hIo hs1 (JL X J) (fun C hC => ?_) (fun b' C D nD io i v ys mc nw h tk kb kn hi hv hJ F' N' hd' hio => ?_) ?_
  · refine ⟨cellLed (C + 1) scope.names ++ ms, [], X, by simp, fun _ _ q => .inl q, (fun _ _ _ h => nomatch h), ?_, Le.refl _, h0 C⟩
    rw [List.map_append, List.nodup_append]
    refine ⟨cellLed_nd _ _, nd.1, fun a ha c hc e => ?_⟩
    obtain ⟨p, hp, rfl⟩ := List.mem_map.mp ha
    obtain ⟨q, hq, rfl⟩ := List.mem_map.mp hc
    have h1 := cellLed_ge scope.names (C + 1) p hp
    have h2 := hC q hq
    rw [e] at h1
    exact absurd h2 (Nat.not_lt.mpr (Nat.le_of_succ_le h1))
  · obtain ⟨ms', fz', Y, rfl, hY, dY, ndY, le, hJ⟩ := hJ
    have hID : I ≠ D := by
      rintro rfl
      have z1 := (N' (I, io) (.head _)).1
      have z2 := (N' (I, lstO ys nD) (.tail _ (.head _))).1
      rw [z1] at z2
      cases z2
      rcases hio with q | q <;> (injection q with q; exact absurd q (by decide))
    have hXb : Le X (hp b') := fun a o q => by
      rcases hX a o q with q | q
      · exact kb _ _ (Z.Rb _ _ q)
      · exact kn _ (List.mem_append_right _ q)
    have Z' : St X b' C h mc (ms' ++ [(I, io), (D, lstO ys nD)]) Y := by
      have hd' : Ds (ms' ++ fz') [(I, io), (D, lstO ys nD)] := hd'
      refine ⟨F', hXb, le, ⟨fz', hY, news_sub N' fun p hp => by simp only [List.mem_append, List.mem_cons, List.not_mem_nil, or_false] at hp ⊢; grind, Ds_app_l.mpr ⟨dY, (Ds_app_l.mp hd').2.symm⟩⟩, ?_⟩
      rw [List.map_append, List.nodup_append]
      refine ⟨ndY, by simp [hID], fun a ha c hc e => ?_⟩
      obtain ⟨p, hp, rfl⟩ := List.mem_map.mp ha
      obtain ⟨q, hq, rfl⟩ := List.mem_map.mp hc
      exact (Ds_app_l.mp hd').1 p hp q hq e
    refine wpAny_mono (turn b' C I D nD io i v ys mc ms' Y h tk kb hXb (fun p hp => kn p (List.mem_append_left _ hp)) hi hv le hJ Z' hio) (fun _ s₁ k₁ => ?_) fun _ _ e => e
    refine wpAny_mono k₁ (fun _ s₂ k₂ => wpAny_mono k₂ (fun x s₃ k₃ => wpAny_mono k₃ (fun it1 s₄ k₄ => codeAny_mono k₄ fun r s₅ k₅ => ?_) fun _ _ e => e) fun _ _ e => e) fun _ _ e => e
    have fin : ∀ {s₄ : Shared} {ys' : List Value} {nD' : Nat}, SEnd s X b' C [(I, io), (D, lstO ys' nD')] (J C (i + 1) ys') s₄ → CEnd s b' C [(I, io), (D, lstO ys' nD')] (JL X J C (i + 1) ys') s₄ := by
      rintro s₄ ys' nD' ⟨mc₄, ms₄, Y₄, Z₄, hJ₄, e⟩
      obtain ⟨fz₄, hX₄, N₄, hd₄⟩ := Z₄.ex
      have nd₄ := Z₄.nd
      rw [List.map_append, List.nodup_append] at nd₄
      have hd₄' := Ds_app_l.mp hd₄
      refine ⟨mc₄, ms₄ ++ fz₄, Z₄.F, news_sub N₄ fun p hp => by simp only [List.mem_append, List.mem_cons, List.not_mem_nil, or_false] at hp ⊢; grind, ?_, ⟨ms₄, fz₄, Y₄, rfl, hX₄, hd₄'.1, nd₄.1, Z₄.RX, hJ₄⟩, e⟩
      exact Ds_app_l.mpr ⟨fun p hp q hq e => nd₄.2.2 p.1 (List.mem_map_of_mem hp) q.1 (List.mem_map_of_mem hq) e, hd₄'.2.symm⟩
    obtain ⟨er, ys', nD', k₅⟩ := k₅
    exact ⟨er, ys', nD', fin k₅⟩
  · rintro C D nD h tk mc ys nw ⟨ms', fz', Y, rfl, hY, dY, ndY, le, hJ⟩ F₃ N₃ hd1 hd2 hns hCL hCb hCn
    have hd1 : Ds (ms' ++ fz') (rest ++ fz) := hd1
    have hd2 : Df D ((ms' ++ fz') ++ (rest ++ fz)) := fun q hq e => hd2 q hq e.symm
    have e1 := Ds_app_l.mp hd1
    have e2 := Df_app.mp hd2
    have hsub : ∀ p ∈ ((D, lstO ys nD) :: (ms' ++ rest)) ++ (fz' ++ fz), p ∈ (D, lstO ys nD) :: ((ms' ++ fz') ++ (rest ++ fz)) := fun p hp => by simp only [List.mem_append, List.mem_cons, List.cons_append] at hp ⊢; grind
    have hYf : Le Y (Or R (fz' ++ fz)) := fun a o q => by
      rcases hY a o q with q | q
      · exact (hX a o q).imp id fun q => List.mem_append_right _ q
      · exact .inr (List.mem_append_left _ q)
    have hDs : Ds ((D, lstO ys nD) :: (ms' ++ rest)) (fz' ++ fz) := Ds_cons_l.mpr ⟨Df_app.mpr ⟨(Df_app.mp e2.1).2, (Df_app.mp e2.2).2⟩, Ds_app_l.mpr ⟨Ds_app_r.mpr ⟨dY, (Ds_app_r.mp e1.1).2⟩, Ds_app_r.mpr ⟨(Ds_app_r.mp e1.2).1.symm, hdf.2⟩⟩⟩
    refine k C D nD h tk ys ms' Y mc (fz' ++ fz) le hJ ⟨F₃, Z.Rb, Z.RX.trans le, ⟨fz' ++ fz, hYf, news_sub N₃ hsub, hDs⟩, ?_⟩ hYf (news_sub N₃ hsub) hDs hns hCL hCb fun p hp => hCn p (hsub p hp)
    rw [List.map_cons, List.nodup_cons, List.map_append, List.nodup_append]
    refine ⟨fun q => ?_, ndY, nd.2.1, fun a ha c hc e => ?_⟩
    · rcases List.mem_append.mp q with q | q
      · obtain ⟨p, hp, e⟩ := List.mem_map.mp q
        exact (Df_app.mp e2.1).1 p hp e.symm
      · obtain ⟨p, hp, e⟩ := List.mem_map.mp q
        exact (Df_app.mp e2.2).1 p hp e.symm
    · obtain ⟨p, hp, rfl⟩ := List.mem_map.mp ha
      obtain ⟨q, hq, rfl⟩ := List.mem_map.mp hc
      exact (Ds_app_r.mp e1.1).1 p hp q hq e
theorem s_compA2 {elt target iter t1 i1 : PySem.Expr} {scope : Scope} {cl : List (Str × Addr)} {pos spos py : Pos} {y : Str} {Q : Flow → Shared → Prop} (hsw : swapsWith (lc2 elt target iter t1 i1 scope pos) (some (.Name y py)) spos.line env = pure true) (hclos : closureFor scope env = pure cl) (hkind : scope.kind = .function) (hnames : ∀ y ∈ scope.names, y.2 = .local → scope.names.lookup y.1 = some .local) (hs : ∀ x, foldedSetIterable iter env x = pure x)
    (h : wpAny (model prog W.w) A (eval iter env) (fun x s₁ => wpAny (model prog W.w) A (pyIter x) (CompK2 prog W A env cl elt target iter t1 i1 scope pos (some (assign (.Name y py) env)) (fun _ s' => Q .next s')) No s₁) No s) :
    wpAny (model prog W.w) A (exec (.Assign [.Name y py] (lc2 elt target iter t1 i1 scope pos) spos) env) Q No s := by
  rw [exec_Assign_Name_used _ _ _ _ hsw]
  refine wpAny_bind (wpAny_standAt (wpAny_bind ?_))
  show wpAny _ A (do let _ ← comprehension (lc2 elt target iter t1 i1 scope pos) scope env _ (newList []) false (eval iter env) (some (assign (.Name y py) env))) _ _ s
  exact wpAny_bind (wpAny_mono (wpAny_comprehension_free (use := some (assign (.Name y py) env)) (Q := fun _ s' => Q .next s') rfl hs hclos hkind hnames h) (fun _ s' hq => wpAny_pure (wpAny_pure hq)) fun _ _ e => e)
theorem s_compU2 {elt target iter t1 i1 : PySem.Expr} {scope : Scope} {cl : List (Str × Addr)} {pos py : Pos} {y : Str} {R X : Rl} {m : Str → Option Value} {ms rest : Led} {n : Nat} {P : Nat → Value → Prop} {Q : Value → Shared → Prop} {h₁ : Heap} {tk₁ : Nat} {xv : Value}
    (Z : St R b L h₁ m (ms ++ rest) X) (hh : A.handled = none) (hL : env.locals = L) (hy : env.kindOf y = some .local) (hpp : (env.scope.kind == .class || (env.scope.kind == .module && env.locals != env.globals)) = false) (S : SrcS X h₁ xv n P) (hs1 : ∀ C x, foldedSetIterable i1 (cpEnv scope cl C env) x = pure x)
    (J : Addr → Nat → List Value → Led → Rl → Prop) (h0 : ∀ C, J C 0 [] (cellLed (C + 1) scope.names ++ ms) X)
    (turn : ∀ b' C I D nD io i v ys mc ms Y h tk, b.StaysIn b' → Le X (hp b') → (∀ p ∈ rest, b'.get? p.1 = some p.2) → i < n → P i v → Le X Y → J C i ys ms Y → St X b' C h mc (ms ++ [(I, io), (D, lstO ys nD)]) Y → ItCls io →
      wpAny (model prog W.w) A (letOwnedTupleGo target (.ref I) v) (fun _ s₁ => wpAny (model prog W.w) A (assign target (cpEnv scope cl C env) v) (fun _ s₂ => wpAny (model prog W.w) A (eval i1 (cpEnv scope cl C env)) (fun x s₃ => wpAny (model prog W.w) A (pyIter x) (fun it1 s₄ =>
        codeAny (model prog W.w) A (.compStart (lc2 elt target iter t1 i1 scope pos) 1 it1 (.ref D) (cpEnv scope cl C env)) (fun r s₅ => r = .ok .next ∧ ∃ ys' nD', SEnd s X b' C [(I, io), (D, lstO ys' nD')] (J C (i + 1) ys') s₅) s₄) No s₃) No s₂) No s₁) No { s with heap := h, toks := tk })
    (k : ∀ C D nD h tk ys ms' Y, Le X Y → J C n ys ms' Y → St R b L h (fun z => if z = y then some (.ref D) else m z) ((D, lstO ys nD) :: (ms' ++ rest)) Y → Q .none { s with heap := h, toks := tk }) :
    wpAny (model prog W.w) A (pyIter xv) (CompK2 prog W A env cl elt target iter t1 i1 scope pos (some (assign (.Name y py) env)) Q) No { s with heap := h₁, toks := tk₁ } := by
  subst hL
  refine s_compI2 Z hh S hs1 J h0 turn ?_
  intro C D nD h tk ys ms' Y mc fz le hJ Z' hY N hd hns hCL hCb hCn
  show wpAny _ A (assign (.Name y py) env (.ref D)) _ _ _
  refine wpAny_assign_Name (wpAny_storeName_local hy Z'.F.ns (fun h₂ hn₂ hs₂ => ?_) hpp)
  exact ⟨mc, hns.sameBut hs₂ hCL, fun h' hs => k C D nD h' _ ys ms' Y le hJ ⟨off_fr (Z'.F.set hn₂ hs₂) hs hCL hCb, Z'.Rb, Z'.RX, ⟨fz, hY, fun p hp => ⟨(hs.2 _ (hCn p hp)).trans ((hs₂.2 _ (N p hp).2.1).trans (N p hp).1), (N p hp).2⟩, hd⟩, Z'.nd⟩⟩
theorem s_in2 {elt t0 i0 t1 i1 : PySem.Expr} {scope : Scope} {pos : Pos} {R X : Rl} {m₀ : Str → Option Value} {mu : Led} {n : Nat} {h₁ : Heap} {tk₁ : Nat} {r : Addr} {u t' v' : Tok} {acc : Value} {RR : Result → Shared → Prop}
    (hh : A.handled = none) (ht : Tgt t1) (Z : St R b env.locals h₁ m₀ mu X) (hr : IsRange h₁ r 0 (n : Int) 1 u t' v') (hsm : n ≤ 1000000) (J : Nat → (Str → Option Value) → Led → Rl → Prop) (h0 : J 0 m₀ mu X)
    (turn : ∀ its i t m mu Y h tk, Le X Y → i < n → J i m mu Y → St R b env.locals h m (mu ++ its) Y →
      wpAny (model prog W.w) A (assign t1 env (.int (i : Int) t)) (fun _ s₂ => wpAny (model prog W.w) A (eval elt env) (fun x s₄ => wpAny (model prog W.w) A (call (.builtin "list.append") [acc, x])
        (fun _ s₅ => ∃ m' mu' Y', Le Y Y' ∧ St R b env.locals s₅.heap m' (mu' ++ its) Y' ∧ J (i + 1) m' mu' Y' ∧ s₅ = { s with heap := s₅.heap, toks := s₅.toks }) No s₄) No s₂) No { s with heap := h, toks := tk })
    (done : ∀ m mu Y h tk, Le X Y → J n m mu Y → St R b env.locals h m mu Y → RR (.ok .next) { s with heap := h, toks := tk }) :
    wpAny (model prog W.w) A (pyIter (.ref r)) (fun it s₂ => codeAny (model prog W.w) A (.compStart (lc2 elt t0 i0 t1 i1 scope pos) 1 it acc env) RR s₂) No { s with heap := h₁, toks := tk₁ } := by
  refine wpAny_pyIter_range hr (small_range hsm).1 ?_
  have Z := Z.it (h' := h₁.push { cls := .type "range_iterator", data := .fields #[rawInt 0, rawInt (Builtin.Range.rangeSize 0 (n : Int) 1), rawInt 1] }) (fun _ _ e => Heap.get?_push_of_some _ e) (Heap.get?_none_of_le (Nat.le_refl _)) (Heap.get?_push_size _ rfl)
  have W0 := Walks.range (prog := prog) (w := W.w) hh h₁.objs.size 0 1 n
  have hst : IsRangeIter (h₁.push { cls := .type "range_iterator", data := .fields #[rawInt 0, rawInt (Builtin.Range.rangeSize 0 (n : Int) 1), rawInt 1] }) h₁.objs.size (0 + ((0 : Nat) : Int) * 1) ((n : Int) - ((0 : Nat) : Int)) 1 := by
    show IsRangeIter _ _ _ _ _
    rw [(small_range hsm).2]
    simpa using Heap.get?_push_size _ rfl
  obtain ⟨I, hI⟩ : ∃ I, h₁.objs.size = I := ⟨_, rfl⟩
  rw [hI] at Z hst W0 ⊢
  have loop : ∀ tk, codeAny (model prog W.w) A (.compLoop (lc2 elt t0 i0 t1 i1 scope pos) 1 (.ref I) acc env) RR { s with heap := h₁.push { cls := .type "range_iterator", data := .fields #[rawInt 0, rawInt (Builtin.Range.rangeSize 0 (n : Int) 1), rawInt 1] }, toks := tk } := fun tk => by
    refine loop2_in (fun k s' => ∃ h tk m mu Y io i, s' = { s with heap := h, toks := tk } ∧ Le X Y ∧ St R b env.locals h m (mu ++ [(I, io)]) Y ∧ IsRangeIter h I (0 + ((i : Nat) : Int) * 1) ((n : Int) - (i : Nat)) 1 ∧ J i m mu Y ∧ i ≤ n ∧ k = n + 1 - i) ?_ (n + 1)
      ⟨_, tk, m₀, mu, X, _, 0, rfl, Le.refl _, Z, hst, h0, Nat.zero_le _, rfl⟩
    rintro k s' ⟨h, tk, m, mu, Y, io, i, rfl, hY, Zi, hst', hJ, hi, rfl⟩
    by_cases hlt : i < n
    · refine W0.item i _ _ _ hlt hst' fun v h₃ tk₃ hv hst₃ hk₃ => ?_
      obtain ⟨tv, rfl⟩ := hv
      have Z₃ := Zi.chg (its := [(I, io)]) (its' := [(I, ({ cls := .type "range_iterator", data := .fields #[rawInt (0 + ((i + 1 : Nat) : Int) * 1), rawInt ((n : Int) - ((i + 1 : Nat) : Int)), rawInt 1] } : Obj))]) (fun c o hc e => hk₃ c o (by simpa using hc) e) rfl (fun p hp => by rw [List.mem_singleton.mp hp]; exact hst₃)
      refine go_src ht ⟨_, hst₃, .inr rfl⟩ ?_
      rw [show (0 + (i : Int) * 1) = (i : Int) by omega]
      refine wpAny_mono (turn _ i tv m mu Y h₃ tk₃ hY hlt hJ Z₃) (fun _ s₂ k₂ => ?_) fun _ _ e => e.elim
      refine wpAny_mono k₂ (fun x s₃ k₃ => ?_) fun _ _ e => e.elim
      refine wpAny_mono k₃ (fun _ s₅ k₅ => ?_) fun _ _ e => e.elim
      obtain ⟨m', mu', Y', hY', Z', hJ', e⟩ := k₅
      exact ⟨n + 1 - (i + 1), by omega, s₅.heap, s₅.toks, m', mu', Y', _, i + 1, e, hY.trans hY', Z', Z'.mget (List.mem_append_right _ (.head _)), hJ', hlt, rfl⟩
    · have hin : i = n := by omega
      subst hin
      refine W0.done _ _ _ hst' fun h₃ tk₃ hk₃ => ?_
      refine done m mu Y h₃ tk₃ hY hJ ?_
      obtain ⟨fz, hX, N, hd⟩ := Zi.ex
      have nd := Zi.nd
      rw [List.map_append, List.nodup_append] at nd
      have ib : I ≠ env.locals ∧ b.get? I = none := (N (I, io) (List.mem_append_left _ (List.mem_append_right _ (.head _)))).2
      have mi : ∀ p ∈ mu, p.1 ∉ [I] := fun p hp q => nd.2.2 p.1 (List.mem_map_of_mem hp) _ q rfl
      have fi : ∀ p ∈ fz, p.1 ∉ [I] := fun p hp q => hd (I, io) (List.mem_append_right _ (.head _)) p hp (List.mem_singleton.mp q).symm
      refine ⟨⟨?_, fun c o q => hk₃ c o (fun r => by rw [List.mem_singleton.mp r, ib.2] at q; cases q) (Zi.F.keep _ _ q), Zi.F.above⟩, Zi.Rb, Zi.RX, ⟨fz, hX, ?_, (Ds_app_l.mp hd).1⟩, nd.1⟩
      · obtain ⟨oL, es, ep, hL, r⟩ := Zi.F.ns
        exact ⟨oL, es, ep, hk₃ _ _ (fun q => ib.1 (List.mem_singleton.mp q).symm) hL, r⟩
      · intro p hp
        rcases List.mem_append.mp hp with hp | hp
        · have z := N p (List.mem_append_left _ (List.mem_append_left _ hp))
          exact ⟨hk₃ _ _ (mi p hp) z.1, z.2⟩
        · have z := N p (List.mem_append_right _ hp)
          exact ⟨hk₃ _ _ (fi p hp) z.1, z.2⟩
  exact start2 (loop _) (W0.self 0 _ _ _ hst (loop _))
end
noncomputable def colS (x : Int) (i : Nat) : Int := if i = 0 then x.fmod 2 else if i = 1 then (x.fdiv 2).fmod 3 else x.fdiv 6
theorem colS_ok (x : Int) : txtOk (colS x) := mod3 _
noncomputable def RowS (R : Rl) (v : Value) (p : Nat) (x : Int) : Prop := ∃ t u, RowC R v (colS x) [.int (p : Int) t, .int x u]
theorem RowS.mono {R R' : Rl} {v : Value} {p : Nat} {x : Int} (h : RowS R v p x) (k : Le R R') : RowS R' v p x := let ⟨t, u, h⟩ := h; ⟨t, u, h.mono k⟩
noncomputable def RowsS (R : Rl) (vs : List Value) (ss : List Int) : Prop := vs.length = ss.length ∧ ∀ (i : Nat) (x : Int), ss[i]? = some x → ∃ v, vs[i]? = some v ∧ RowS R v i x
theorem RowsS.mono {R R' : Rl} {vs : List Value} {ss : List Int} (h : RowsS R vs ss) (k : Le R R') : RowsS R' vs ss := ⟨h.1, fun i x e => let ⟨v, a, b⟩ := h.2 i x e; ⟨v, a, b.mono k⟩⟩
theorem RowsS.nil {R : Rl} : RowsS R [] [] := ⟨rfl, fun _ _ h => by simp at h⟩
theorem snoc_all {α β : Type} {P : Nat → β → α → Prop} {vs : List β} {xs : List α} (h : vs.length = xs.length ∧ ∀ (i : Nat) (x : α), xs[i]? = some x → ∃ v, vs[i]? = some v ∧ P i v x) {v : β} {x : α} (r : P xs.length v x) :
    (vs ++ [v]).length = (xs ++ [x]).length ∧ ∀ (i : Nat) (y : α), (xs ++ [x])[i]? = some y → ∃ w, (vs ++ [v])[i]? = some w ∧ P i w y := by
  refine ⟨by rw [List.length_append, List.length_append, h.1]; rfl, fun i y e => ?_⟩
  by_cases hi : i < xs.length
  · rw [List.getElem?_append_left hi] at e
    obtain ⟨a, e, z⟩ := h.2 i y e
    exact ⟨a, by rw [List.getElem?_append_left (by rw [h.1]; exact hi)]; exact e, z⟩
  · have hl := (List.getElem?_eq_some_iff.mp e).1
    rw [List.length_append, List.length_singleton] at hl
    have hi : i = xs.length := by omega
    subst hi
    rw [List.getElem?_append_right (Nat.le_refl _), Nat.sub_self] at e
    cases e
    exact ⟨v, by rw [List.getElem?_append_right (by rw [h.1]; exact Nat.le_refl _), h.1, Nat.sub_self]; rfl, r⟩
theorem RowsS.snoc {R : Rl} {vs : List Value} {ss : List Int} {v : Value} {x : Int} (h : RowsS R vs ss) (r : RowS R v ss.length x) : RowsS R (vs ++ [v]) (ss ++ [x]) := snoc_all (P := fun i v x => RowS R v i x) h r
section
variable {prog : Program} {w : World} {A : Around} {s : Shared} {E : Value → Shared → Prop} {Q : Value → Shared → Prop} {R X : Rl} {b h : Heap} {tk : Nat} {L : Addr} {m : Str → Option Value} {mu : Led}
theorem list_itemI {value slice : PySem.Expr} {a : Addr} {vs : List Value} {i : Nat} {k : Int} {u : Tok} {v : Value} (hl : s.heap.IsList a vs.toArray) (hk : k = (i : Int)) (hi : i < 2 ^ 60) (hx : vs[i]? = some v) (h : Q v s)
    (hs : subscripted slice false (.ref a) (.int k u) = operate [.ref a, .int k u] (getItem (.ref a) (.int k u)) := by with_unfolding_all rfl) :
    wpAny (model prog w) A (subscriptTail value slice (.ref a) (.int k u)) Q E s := by
  subst hk
  exact tail_any hl.typeIs slot_list_getitem.lookup (wpAny_getItem_list hl (by omega) (by omega) (by simpa using hx) h) hs
theorem s_min60 {H : Nat} {t u : Tok} (Z : St R b L h m mu X) (hh : A.handled = none) (k : ∀ (e : Nat) tl h' tk', e ≤ H → e ≤ 60 → St R b L h' m mu X → Q (.int (e : Int) tl) { s with heap := h', toks := tk' }) :
    wpAny (model prog w) A (call (.builtin "min") [.int (H : Int) t, .int 60 u]) Q E { s with heap := h, toks := tk } := by
  refine min_two_ints hh fun h' tk' hk => ?_
  by_cases c : (60 : Int) < (H : Int)
  · rw [if_pos c]
    exact k 60 u h' tk' (by omega) (Nat.le_refl _) (Z.keeps hk)
  · rw [if_neg c]
    exact k H t h' tk' (Nat.le_refl _) (by omega) (Z.keeps hk)
theorem s_range4 {p e : Nat} {t u v : Tok} (Z : St R b L h m mu X) (hp : p ≤ 1000) (he : e ≤ 1000) (k : ∀ r h' tk' (n : Nat), IsRange h' r (p : Int) (e : Int) 4 t u v → Builtin.Range.small (p : Int) (e : Int) 4 = true → Builtin.Range.rangeSize (p : Int) (e : Int) 4 = (n : Int) → (∀ j, j < n → p + j * 4 < e) → n ≤ 1000 → St R b L h' m mu X → Q (.ref r) { s with heap := h', toks := tk' }) :
    wpAny (model prog w) A (call (.type "range") [.int (p : Int) t, .int (e : Int) u, .int 4 v]) Q E { s with heap := h, toks := tk } := by
  refine call_range_3 (by decide) ?_ (.inl (PyProof.noPylong_small (by decide)))
  have hn : ∃ n : Nat, Builtin.Range.rangeSize (p : Int) (e : Int) 4 = (n : Int) ∧ (∀ j, j < n → p + j * 4 < e) ∧ n ≤ 1000 := by
    unfold Builtin.Range.rangeSize
    rw [if_pos (by decide)]
    by_cases c : (p : Int) < (e : Int)
    · rw [if_pos c]
      exact ⟨(e - p - 1) / 4 + 1, by omega, fun j hj => by omega, by omega⟩
    · rw [if_neg c]
      exact ⟨0, rfl, fun j hj => by omega, by omega⟩
  obtain ⟨n, e1, e2, e3⟩ := hn
  refine k _ _ _ n (IsRange.new ..) ?_ e1 e2 e3 (Z.keeps fun _ _ e => Heap.get?_push_of_some _ e)
  unfold Builtin.Range.small
  rw [e1]
  simp [Builtin.Range.rangeFitsLong]
  omega
end
theorem sum_bits {B : Nat} : ∀ (xs : List Int), (∀ x ∈ xs, Builtin.Int.intBits x ≤ B) → Builtin.Int.intBits xs.sum ≤ B + xs.length
  | [], _ => by simp [Builtin.Int.intBits]
  | x :: r, h => by
    have := intBits_add_le (h x (.head _)) (sum_bits r fun y hy => h y (.tail _ hy))
    rw [List.sum_cons, List.length_cons]
    omega
theorem base_item {t0 t1 t2 t3 : Tok} {i : Nat} (hi : i < 4) : ∃ (c : Int) (t : Tok), [Value.int 4 t0, Value.int 13 t1, Value.int 7 t2, Value.int 20 t3][i]? = some (.int c t) ∧ Builtin.Int.intBits c ≤ 5 := by
  match i, hi with
  | 0, _ => exact ⟨_, _, rfl, by decide⟩
  | 1, _ => exact ⟨_, _, rfl, by decide⟩
  | 2, _ => exact ⟨_, _, rfl, by decide⟩
  | 3, _ => exact ⟨_, _, rfl, by decide⟩
noncomputable def stepL (p : Nat) (l : List Int) : List (List Int) := (List.range (p + 1)).map fun k => l.take k ++ [(p : Int)] ++ l.drop k
noncomputable def linesX : Nat → List (List Int)
  | 0 => [[]]
  | p + 1 => (linesX p).flatMap (stepL p)
def st0 (i : Nat) : PySem.Stmt := (PySem.Challenge.pw_ph0111_02.main.body[i]?).getD default
def pq : Program := by
  refine (?f : ∀ (x : PySem.Stmt) (r : List PySem.Stmt), (PySem.Challenge.pw_ph0111_02.main.body = _ :: _ :: _ :: _ :: _ :: _ :: _ :: _ :: _ :: _ :: _ :: _ :: _ :: x :: r) → Program) _ _ rfl
  exact fun x _ _ => { PySem.Challenge.pw_ph0111_02 with main := { PySem.Challenge.pw_ph0111_02.main with body := [st0 0, st0 1, st0 2, st0 3, st0 4, st0 5, st0 6, st0 7, st0 8, st0 9, st0 10, st0 11, st0 12, x, st0 14, st0 15, st0 16, st0 17, st0 18] } }
def rwq : OpenLaw := { PySem.Challenge.rw_ph0111_02 with prog := pq }
theorem rwq_eq : PySem.Challenge.rw_ph0111_02 = rwq := by kernel_rfl
open_top hd for rwq
theorem prime : (fun (_ : OpenLaw) (_ : Params → Frag) => True) PySem.Challenge.rw_ph0111_02 Mine.hd.heap_39 := by k_fill; trivial
theorem key_at {P : Rl} {vs : List Value} {ks : Ks} {i : Nat} {v : Value} {c d : Nat → Int} (hk : KsOk ks) (hlen : vs.length = ks.length) (hks : ∀ (i : Nat) (k : Nat × Int), ks[i]? = some k → ∃ v, vs[i]? = some v ∧ KeyAt P v k) (hv : vs[i]? = some v) :
    ∃ ki kw ka t t', v = .ref ka ∧ P ka (tupO [.int (ki : Nat) t, .int kw t']) ∧ ki < 3 ∧ (kw = 1 ∨ kw = -1) ∧ cmpK (ks.drop i) c d = cmpK ((ki, kw) :: ks.drop (i + 1)) c d := by
  have hi : i < ks.length := by rw [← hlen]; exact (List.getElem?_eq_some_iff.mp hv).1
  refine hide ?_
  intro G9 hG9
  obtain ⟨v', hv', ka, t, t', e, zk⟩ := hks i ks[i] (List.getElem?_eq_getElem hi)
  refine hG9 ?_
  clear hG9 G9
  refine hide ?_
  intro G9 hG9
  obtain rfl : v = v' := Option.some.inj (hv.symm.trans hv')
  refine hG9 ?_
  clear hG9 G9
  exact ⟨_, _, ka, t, t', e, zk, (hk ks[i] (List.getElem_mem hi)).1, (hk ks[i] (List.getElem_mem hi)).2, by rw [List.drop_eq_getElem_cons hi]⟩
section
variable {W : Wd} {A : Around} {s : Shared} {g : Heap}
noncomputable abbrev PR : Program := Mine.pq
theorem compare_ok {o : Addr} {l r : Value} {ks : Ks} {c d : Nat → Int} {rc rd : List Value} (Cg : Cx Mine.hd.heap_39 W g) (hr : A.depth + 1 < recursionLimit) (hh : A.handled = none)
    (hk : KsOk ks) (hc : txtOk c) (hd : txtOk d) (O : OrderAt (hp g) 38 o ks) (Rl : RowC (hp g) l c rc) (Rr : RowC (hp g) r d rd) :
    Does PR W A (call (.ref 35) [.ref o, l, r]) s g [] (fun v _ => ∃ t, v = .int (cmpK ks c d) t) := by
  refine hide ?_
  intro G9 hG9
  obtain ⟨dx, kl, hsh, tt, n, z1, z2, vs, n2, z3, hlen, hks⟩ := O
  refine hG9 ?_
  clear hG9 G9
  refine hide ?_
  intro G9 hG9
  obtain ⟨la, l0, l1, l2, rfl, zl⟩ := Rl
  refine hG9 ?_
  clear hG9 G9
  refine hide ?_
  intro G9 hG9
  obtain ⟨ra, r0, r1, r2, rfl, zr⟩ := Rr
  refine hG9 ?_
  clear hG9 G9
  refine' enter (binds := [(Str.ofString "self", .ref o), (Str.ofString "left", .ref la), (Str.ofString "right", .ref ra)]) Cg ?k1 ?k2 (by omega) ?k3 ?k4 ?k5 ?k6 ?k7 ?k8 ?_
  case k1 => k_is
  case k2 => k_is
  case k3 => exact fun _ => BindsTo.of_eq rfl
  case k4 => exact locs rfl
  case k5 => decide
  case k6 => rfl
  case k7 => rfl
  case k8 => rfl
  intro b L h st C F N hlt
  first | refine entS ?_ | refine entSE ?_
  intro e Qd hQd
  have Z : St (hp g) b L h _ [] (hp g) := St.start F N (fun a o q => st _ _ q) List.nodup_nil
  have z1 : At (hp g) o _ := z1
  have z2 : At (hp g) dx _ := z2
  have z3 : At (hp g) kl _ := z3
  have zl : At (hp g) la _ := zl
  have zr : At (hp g) ra _ := zr
  first | refine exS ?_ | (refine hQn _ ?_; refine exS ?_)
  intro Q1 hQn hQr
  have hR0 := hQr
  refine wpAny_For ?_
  refine Attribute_name ?_
  refine y_L Z.F rfl ?_
  refine' get_own Z.F C.X ⟨Z.at z1, rfl, rfl, Z.at z2⟩ ?a1 ?a2 ?a3 ?a4 rfl rfl ?_
  case a1 => k_is
  case a2 => k_is
  case a3 => k_is
  case a4 => k_is
  refine s_loop (src_list hh (.inr ⟨_, _, _, rfl⟩) Z z3) (fun i m mu Y => mu = [] ∧ m (Str.ofString "left") = some (.ref la) ∧ m (Str.ofString "right") = some (.ref ra) ∧ cmpK ks c d = cmpK (ks.drop i) c d) ?_ ?_ ?_
  · exact ⟨rfl, rfl, rfl, rfl⟩
  · intro its i v m mu Y h tk le hi hv p911 Z
    refine hide ?_
    intro G9 hG9
    obtain ⟨rfl, m1, m2, hJ⟩ := p911
    refine hG9 ?_
    clear hG9 G9
    refine hide ?_
    intro G9 hG9
    obtain ⟨ki, kw, ka, t, t', rfl, zk, hk1, hk2, hdr⟩ := key_at (c := c) (d := d) hk hlen hks hv
    refine hG9 ?_
    clear hG9 G9
    have zk : At (hp g) ka _ := zk
    have hdrop := hJ.trans hdr
    refine loopS ?_
    intro Ql hQl
    refine s_unpack (vs := [.int ki t, .int kw t']) Z ⟨_, Z.at (zk.mono le), rfl, _, rfl⟩ hh rfl rfl fun h tk Z => ?_
    refine assignInOrder_cons ?_
    try (refine loopS ?_; intro Ql hQl)
    refine wpAny_assign_Name ?_
    refine s_st Z fun h tk Z => ?_
    refine assignInOrder_cons ?_
    try (refine loopS ?_; intro Ql hQl)
    refine wpAny_assign_Name ?_
    refine s_st Z fun h tk Z => ?_
    refine assignInOrder_nil ?_
    first | refine exS ?_ | (refine hQn _ ?_; refine exS ?_)
    intro Q1 hQn hQr
    refine wpAny_Assign_Name ?_
    refine Subscript_ ?_
    refine y_L Z.F m1 ?_
    refine y_L Z.F rfl ?_
    refine row_item rfl hk1 (Z.at (zl.mono le)) fun tl => ?_
    refine s_st Z fun h tk Z => ?_
    first | refine exS ?_ | (refine hQn _ ?_; refine exS ?_)
    intro Q1 hQn hQr
    refine wpAny_Assign_Name ?_
    refine Subscript_ ?_
    refine y_L Z.F m2 ?_
    refine y_L Z.F rfl ?_
    refine row_item rfl hk1 (Z.at (zr.mono le)) fun tr => ?_
    refine s_st Z fun h tk Z => ?_
    first | refine exS ?_ | (refine hQn _ ?_; refine exS ?_)
    intro Q1 hQn hQr
    refine wpAny_If ?_
    refine wpAny_isTrue_Compare1 ?_
    refine y_L Z.F rfl ?_
    refine y_L Z.F rfl ?_
    refine lt_col hc hd ?_
    refine wpAny_truthy_bool ?_
    refine ite_b (fun q => ?_) (fun q => ?_)
    · refine wpAny_execs_cons ?_
      refine wpAny_Return_some ?_
      refine wpAny_UnaryOp ?_
      refine y_L Z.F rfl ?_
      refine P.neg_int ?_
      refine hQr _ _ (hQl _ _ (STurn.ret (hR0 _ _ (hQd _ _ (Done.intro Z.F (nw := []) (fun _ h => nomatch h) ?_)))))
      rw [hdrop, cmpK, if_pos (of_decide_eq_true q)]
      exact ⟨_, rfl⟩
    · first | refine wpAny_execs_nil ?_ | (refine hQn _ ?_; refine wpAny_execs_nil ?_)
      first | refine exS ?_ | (refine hQn _ ?_; refine exS ?_)
      intro Q1 hQn hQr
      refine wpAny_If ?_
      refine wpAny_isTrue_Compare1 ?_
      refine y_L Z.F rfl ?_
      refine y_L Z.F rfl ?_
      refine gt_col hc hd ?_
      refine wpAny_truthy_bool ?_
      refine ite_b (fun q2 => ?_) (fun q2 => ?_)
      · refine wpAny_execs_cons ?_
        refine wpAny_Return_some ?_
        refine y_L Z.F rfl ?_
        refine hQr _ _ (hQl _ _ (STurn.ret (hR0 _ _ (hQd _ _ (Done.intro Z.F (nw := []) (fun _ h => nomatch h) ?_)))))
        rw [hdrop, cmpK, if_neg (of_decide_eq_false q), if_pos (of_decide_eq_true q2)]
        exact ⟨_, rfl⟩
      · first | refine wpAny_execs_nil ?_ | (refine hQn _ ?_; refine wpAny_execs_nil ?_)
        first | refine wpAny_execs_nil ?_ | (refine hQn _ ?_; refine wpAny_execs_nil ?_)
        refine hQl _ _ ?_
        exact STurn.next (mu := []) Z le ⟨rfl, (by exact m1), (by exact m2), by rw [hdrop, cmpK, if_neg (of_decide_eq_false q), if_neg (of_decide_eq_false q2)]⟩
  · intro m mu Y h tk le p96 Z
    refine hide ?_
    intro G9 hG9
    obtain ⟨rfl, m1, m2, hJ⟩ := p96
    refine hG9 ?_
    clear hG9 G9
    first | refine wpAny_execs_cons ?_ | (refine hQn _ ?_; refine wpAny_execs_cons ?_)
    refine wpAny_Return_some ?_
    refine n_ci fun tk => ?_
    first | refine hQd _ _ ?_ | refine hQr _ _ (hQd _ _ ?_)
    refine Done.intro Z.F (nw := []) (fun _ h => nomatch h) ?_
    rw [hJ, List.drop_of_length_le (by omega)]
    exact ⟨_, rfl⟩
end
noncomputable abbrev qHeld : Str := (Str.ofString "_law_held" ++ Str.ofString ".<locals>.") ++ Str.ofString "<lambda>"
section
variable {W : Wd} {A : Around} {s : Shared} {g : Heap} {R : Rl}
theorem held_ok {o : Addr} {rv : Value} {ks : Ks} {c : Nat → Int} {rc : List Value} {ps : Array Value} (Cg : Cx Mine.hd.heap_39 W g) (hr : A.depth + 1 < recursionLimit) (hk : KsOk ks) (hc : txtOk c)
    (hR : ∀ a o, R a o → g.get? a = some o) (O : OrderAt R 38 o ks) (Rr : RowC R rv c rc) (Tb : TabV R qHeld 105 11 ps) :
    Does PR W A (call (.ref 116) [.ref o, rv]) s g [(111, tabObj ps)] (fun r nw => ∃ ps' rest, nw = (111, tabObj ps') :: rest ∧ (∀ p ∈ rest, p.1 ≠ 111) ∧ TabV (Or R rest) qHeld 105 11 ps' ∧ KeyM PR Mine.hd.heap_39 W (Or R rest) r ks c (fun _ => [])) := by
  refine' enterC (binds := [(Str.ofString "order", .ref o), (Str.ofString "row", rv)]) Cg ?k1 ?k2 (by omega) ?k3 ?k4 ?k5 ?k6 ?k7 ?k8 ?_
  case k1 => k_is
  case k2 => k_is
  case k3 => exact fun _ => BindsTo.of_eq rfl
  case k4 => rfl
  case k5 => decide +kernel
  case k6 => rfl
  case k7 => rfl
  case k8 => rfl
  intro b L h₁ tk cells st C F N Y lt
  first | refine entS ?_ | refine entSE ?_
  intro e Qd hQd
  refine hide ?_
  intro G9 hG9
  obtain ⟨o1, o2, rfl, d1, d2⟩ := CellsAre.two Y
  refine hG9 ?_
  clear hG9 G9
  have l111 : @LT.lt Nat _ 111 L := lt _ (.head _)
  have N1 : News b L h₁ ((111, tabObj ps) :: [(L + 1 + 1, o1), (L + 1, o2)]) := news_sub N fun p hp => by
    simp only [List.cons_append, List.nil_append, List.mem_cons, List.not_mem_nil, or_false] at hp ⊢
    rcases hp with h | h | h
    · exact .inr (.inr h)
    · exact .inl h
    · exact .inr (.inl h)
  have off : ∀ p ∈ [(L + 1 + 1, o1), (L + 1, o2)], p.1 ≠ 111 := fun p hp => by
    simp only [List.mem_cons, List.not_mem_nil, or_false] at hp
    rcases hp with rfl | rfl <;> (refine neN ?_; dsimp only; omega)
  refine wpAny_execs_cons ?_
  refine wpAny_Return_some ?_
  refine kla_eval rfl ?_
  refine make_lam F N1 off C.T (codeHd_of_K (c := 115) C.X (by kernel_rfl)) rfl Tb rfl ?_
  intro f c' oc vs t ctv ps' nc h' tk' F' N' zc e1 e2 Tb' hf hnc _ _
  first | refine hQd _ _ ?_ | refine hQr _ _ (hQd _ _ ?_)
  refine Done.intro (nw := (111, tabObj ps') :: ((f, _) :: nc ++ [(L + 1 + 1, o1), (L + 1, o2)])) F' N' ?_
  refine ⟨ps', _, rfl, ?_, Tb'.mono ?_, ?_⟩
  · intro p hp
    rcases List.mem_append.mp hp with hp | hp
    · rcases List.mem_cons.mp hp with rfl | hp
      · exact hf
      · exact hnc p hp
    · exact off p hp
  · rintro a o (q | q)
    · exact .inl q
    · exact .inr (List.mem_append_left _ (.tail _ q))
  · refine ⟨⟨f, _, _, _, _, rfl, .inr (.head _)⟩, ?_⟩
    intro A s g v d rd its hr hh Cg hR' Rv hd _
    have zc' : g.get? c' = some oc := hR' _ _ (zc.imp id fun q => List.mem_append_left _ (.tail _ q))
    have ho : g.get? f = _ := hR' f _ (.inr (.head _))
    have ha : g.get? (L + 1 + 1) = some o1 := hR' _ _ (.inr (List.mem_append_right _ (.head _)))
    have hb : g.get? (L + 1) = some o2 := hR' _ _ (.inr (List.mem_append_right _ (.tail _ (.head _))))
    have Og : OrderAt (hp g) 38 o ks := O.mono fun a o q => hR' _ _ (.inl q)
    have Rg : RowC (hp g) rv c rc := Rr.mono fun a o q => hR' _ _ (.inl q)
    refine' enterE (binds := [(Str.ofString "other", v)]) Cg ho ⟨c', oc, vs, t, rfl, zc', e1, e2⟩ (by omega) rfl ?k4 ?k5 ?k6 ?k7 ?k8 ?_
    case k4 => exact locs rfl
    case k5 => decide
    case k6 => rfl
    case k7 => rfl
    case k8 => rfl
    intro b L' h₁ st C F N _
    first | refine entS ?_ | refine entSE ?_
    intro e Qd hQd
    refine hide ?_
    intro G9 hG9
    obtain ⟨dx, kl, hsh, tt, n, z1, z2, -⟩ := Og.mono st
    refine hG9 ?_
    clear hG9 G9
    refine MethodCall_ ?_
    refine wpAny_Name (wpAny_loadName_free rfl rfl rfl ⟨o2, F.keep _ _ (st _ _ hb), d2⟩ ?_ (by decide)) (by decide)
    refine' method_inst F C.X ⟨F.keep _ _ z1, rfl, rfl, F.keep _ _ z2⟩ ?a1 ?a2 ?a3 rfl ?_
    case a1 => k_is
    case a2 => k_is
    case a3 => k_is
    refine' callWith_K C.X ?b1 ?_
    case b1 => k_is
    refine spliced_more ?_
    refine nameX_L F rfl ?_
    refine spliced_more ?_
    refine wpAny_Name (wpAny_loadName_free rfl rfl rfl ⟨o1, F.keep _ _ (st _ _ ha), d1⟩ ?_ (by decide)) (by decide)
    refine spliced_none ?_
    refine ⟨C.X.keeps F.keep, ?_⟩
    refine norm (s := s) (h := h₁) fun tk => ?_
    refine use0 F N (fun g' k1 _ => compare_ok (C.keeps k1) (by show A.depth + 1 + 1 < _; omega) hh hk hd hc (Og.mono fun a o q => k1 _ _ (st _ _ q)) (Rv.mono fun a o q => k1 _ _ (st _ _ q)) (Rg.mono fun a o q => k1 _ _ (st _ _ q))) ?_
    intro r h' tk' nw F' N' _ p97
    refine hide ?_
    intro G9 hG9
    obtain ⟨t', rfl⟩ := p97
    refine hG9 ?_
    clear hG9 G9
    first | refine hQd _ _ ?_ | refine hQr _ _ (hQd _ _ ?_)
    exact Done.intro (nw := []) F' (fun _ h => nomatch h) ⟨⟨t', rfl⟩, rfl⟩
end
noncomputable def RowsC (R : Rl) (a : Addr) (vs : List Value) (n : Nat) (cs : List (Nat → Int)) : Prop :=
  R a (lstO vs n) ∧ vs.length = cs.length ∧ ∀ (i : Nat) (c : Nat → Int), cs[i]? = some c → txtOk c ∧ ∃ v rest, vs[i]? = some v ∧ RowC R v c rest
theorem RowsC.mono {R R' : Rl} {a : Addr} {vs : List Value} {n : Nat} {cs : List (Nat → Int)} (h : RowsC R a vs n cs) (k : ∀ a o, R a o → R' a o) : RowsC R' a vs n cs :=
  ⟨k _ _ h.1, h.2.1, fun i c e => let ⟨h1, v, rest, h2, h3⟩ := h.2.2 i c e; ⟨h1, v, rest, h2, h3.mono k⟩⟩
structure BJ (vs : List Value) (p : Nat → Bool) (T : Nat × List Value) (n0 : Nat) (av xv fv : Value) (k : Nat) (m : Str → Option Value) (lo hi : Nat) (tl th : Tok) (its : List Value) : Prop where
  hk : k = hi - lo
  le : hi ≤ vs.length
  len : its.length + (hi - lo) ≤ n0
  fa : m (Str.ofString "a") = some av
  fx : m (Str.ofString "x") = some xv
  flo : m (Str.ofString "lo") = some (.int (lo : Int) tl)
  fhi : m (Str.ofString "hi") = some (.int (hi : Int) th)
  fk : m (Str.ofString "key") = some fv
  e : bisS p vs its lo hi = T
section
variable {vs its : List Value} {p : Nat → Bool} {T : Nat × List Value} {n0 k lo hi mid : Nat} {av xv fv v : Value} {m m' : Str → Option Value} {tl th t : Tok}
theorem BJ.right (J : BJ vs p T n0 av xv fv k m lo hi tl th its) (h : lo < hi) (hm : (lo + hi) / 2 = mid) (hv : vs.getD mid .none = v) (q : p mid = true)
    (h1 : m' (Str.ofString "a") = some av) (h2 : m' (Str.ofString "x") = some xv) (h3 : m' (Str.ofString "lo") = some (.int ((mid + 1 : Nat) : Int) t)) (h4 : m' (Str.ofString "hi") = some (.int (hi : Int) th)) (h5 : m' (Str.ofString "key") = some fv) :
    hi - (mid + 1) < k ∧ BJ vs p T n0 av xv fv (hi - (mid + 1)) m' (mid + 1) hi t th (its ++ [v]) := by
  refine hide ?_
  intro G9 hG9
  obtain ⟨rfl, le, len, -, -, -, -, -, e⟩ := J
  refine hG9 ?_
  clear hG9 G9
  exact ⟨by omega, rfl, le, by simp only [List.length_append, List.length_cons, List.length_nil]; omega, h1, h2, h3, h4, h5, by rw [← e, bisS_right h hm hv q]⟩
theorem BJ.left (J : BJ vs p T n0 av xv fv k m lo hi tl th its) (h : lo < hi) (hm : (lo + hi) / 2 = mid) (hv : vs.getD mid .none = v) (q : p mid = false)
    (h1 : m' (Str.ofString "a") = some av) (h2 : m' (Str.ofString "x") = some xv) (h3 : m' (Str.ofString "lo") = some (.int (lo : Int) tl)) (h4 : m' (Str.ofString "hi") = some (.int (mid : Int) t)) (h5 : m' (Str.ofString "key") = some fv) :
    mid - lo < k ∧ BJ vs p T n0 av xv fv (mid - lo) m' lo mid tl t (its ++ [v]) := by
  refine hide ?_
  intro G9 hG9
  obtain ⟨rfl, le, len, -, -, -, -, -, e⟩ := J
  refine hG9 ?_
  clear hG9 G9
  exact ⟨by omega, rfl, by omega, by simp only [List.length_append, List.length_cons, List.length_nil]; omega, h1, h2, h3, h4, h5, by rw [← e, bisS_left h hm hv q]⟩
theorem BJ.midd {R : Rl} {a : Addr} {n : Nat} {cs : List (Nat → Int)} (J : BJ vs p T n0 av xv fv k m lo hi tl th its) (Rw : RowsC R a vs n cs) (h : lo < hi) (hl : vs.length ≤ 900) (hn : n0 ≤ 900) (c : Nat → Int) :
    ∃ mid, (lo + hi) / 2 = mid ∧ mid < 2 ^ 60 ∧ its.length ≤ 1000 ∧ ∃ d v rest, cs.getD mid c = d ∧ txtOk d ∧ vs[mid]? = some v ∧ vs.getD mid .none = v ∧ RowC R v d rest := by
  have q : (lo + hi) / 2 < vs.length := by have := J.le; omega
  refine hide ?_
  intro G9 hG9
  obtain ⟨z1, z2, z3⟩ := Rw
  refine hG9 ?_
  clear hG9 G9
  have h1 := List.getElem?_eq_getElem (z2 ▸ q)
  refine hide ?_
  intro G9 hG9
  obtain ⟨k1, v, rest, k2, k3⟩ := z3 _ _ h1
  refine hG9 ?_
  clear hG9 G9
  exact ⟨_, rfl, by omega, by have := J.len; omega, _, v, rest, by rw [List.getD_eq_getElem?_getD, h1]; rfl, k1, k2, by rw [List.getD_eq_getElem?_getD, k2]; rfl, k3⟩
end
noncomputable def BI (S : List Value → Led) (vs : List Value) (p : Nat → Bool) (T : Nat × List Value) (n0 : Nat) (av xv fv : Value) (k : Nat) (m : Str → Option Value) (mu : Led) (_ : Rl) : Prop :=
  ∃ lo hi tl th its, mu = S its ∧ BJ vs p T n0 av xv fv k m lo hi tl th its
theorem BJ.turn {S : List Value → Led} {vs : List Value} {p : Nat → Bool} {T : Nat × List Value} {n0 : Nat} {av xv fv : Value} {s : Shared} {R X Y : Rl} {b h : Heap} {L : Addr} {m : Str → Option Value} {Q : Flow → Shared → Prop} {tk k k' lo hi : Nat} {tl th : Tok} {its : List Value}
    (Z : St R b L h m (S its) Y) (le : Le X Y) (q : k' < k ∧ BJ vs p T n0 av xv fv k' m lo hi tl th its) : SWTurn s R b L k X (BI S vs p T n0 av xv fv) Q .next { s with heap := h, toks := tk } :=
  SWTurn.next q.1 Z le ⟨lo, hi, tl, th, its, rfl, q.2⟩
theorem bis_post {p : Nat → Bool} {vs its its' : List Value} {lo hi lo' : Nat} {tl : Tok} (S : List Value → Led) (e : bisS p vs its lo hi = (lo', its')) :
    (∃ t, Value.int (lo' : Int) tl = .int (((bis p lo hi).1 : Nat) : Int) t) ∧ S its' = S (its ++ (bis p lo hi).2.map fun i => vs.getD i .none) := by
  refine hide ?_
  intro G9 hG9
  obtain ⟨rfl, rfl⟩ := Prod.mk.inj e
  refine hG9 ?_
  clear hG9 G9
  exact ⟨⟨_, rfl⟩, rfl⟩
noncomputable def BH (s : Shared) (R : Rl) (b : Heap) (L : Addr) (mu : Led) (lo hi : Nat) (tl : Tok) (av xv fv : Value) (f : Flow) (s' : Shared) : Prop :=
  f = .next ∧ ∃ m h tk th Y, s' = { s with heap := h, toks := tk } ∧ Le R Y ∧ St R b L h m mu Y ∧ m (Str.ofString "a") = some av ∧ m (Str.ofString "x") = some xv ∧ m (Str.ofString "lo") = some (.int (lo : Int) tl) ∧ m (Str.ofString "hi") = some (.int (hi : Int) th) ∧ m (Str.ofString "key") = some fv
theorem BH.intro {s : Shared} {R Y : Rl} {b h : Heap} {L : Addr} {mu : Led} {lo hi tk : Nat} {tl th : Tok} {av xv fv : Value} {m : Str → Option Value} (Z : St R b L h m mu Y) (le : Le R Y)
    (h1 : m (Str.ofString "a") = some av) (h2 : m (Str.ofString "x") = some xv) (h3 : m (Str.ofString "lo") = some (.int (lo : Int) tl)) (h4 : m (Str.ofString "hi") = some (.int (hi : Int) th)) (h5 : m (Str.ofString "key") = some fv) :
    BH s R b L mu lo hi tl av xv fv .next { s with heap := h, toks := tk } := ⟨rfl, m, h, tk, th, Y, rfl, le, Z, h1, h2, h3, h4, h5⟩
noncomputable def HiIs (hv : Value) (hi len : Nat) : Prop := (hv = .none ∧ hi = len) ∨ ∃ t, hv = .int hi t
noncomputable def pLeft (ks : Ks) (cs : List (Nat → Int)) (c : Nat → Int) (x : Int) (i : Nat) : Bool := decide (cmpK ks (cs.getD i c) c < x)
noncomputable def pRight (ks : Ks) (cs : List (Nat → Int)) (c : Nat → Int) (x : Int) (i : Nat) : Bool := !decide (x < cmpK ks (cs.getD i c) c)
section
variable {W : Wd} {A : Around} {s : Shared} {g : Heap}
theorem bisect_left_ok {a : Addr} {vs its : List Value} {n : Nat} {cs : List (Nat → Int)} {key hv : Value} {ks : Ks} {c : Nat → Int} {S : List Value → Led} {x : Int} {tx tl : Tok} {lo hi : Nat} {pos : List Value} {kw : List (Str × Value)}
    (Cg : Cx Mine.hd.heap_39 W g) (hr : A.depth + 4 < recursionLimit) (hh : A.handled = none)
    (Rw : RowsC (hp g) a vs n cs) (hkey : KeyM PR Mine.hd.heap_39 W (hp g) key ks c S) (hS : ∀ its, ((S its).map (·.1)).Nodup) (hhi : HiIs hv hi vs.length) (hle : hi ≤ vs.length) (hlen : its.length + vs.length ≤ 900)
    (hb : ∀ oc od fd sl, (Mine.hd.heap_39 W.w.params).lookup 92 = some ⟨oc, od, .func fd, sl⟩ → g.StaysIn s.heap → BindsTo s fd ⟨pos, kw⟩ [(Str.ofString "a", .ref a), (Str.ofString "x", .int x tx), (Str.ofString "lo", .int (lo : Int) tl), (Str.ofString "hi", hv), (Str.ofString "key", key)]) :
    Does PR W A (call (.ref 92) pos kw) s g (S its) (fun r nw => (∃ t, r = .int (((bis (pLeft ks cs c x) lo hi).1 : Nat) : Int) t) ∧ nw = S (its ++ (bis (pLeft ks cs c x) lo hi).2.map fun i => vs.getD i .none)) := by
  have hfn := hkey.fn
  refine hide ?_
  intro G9 hG9
  obtain ⟨fq, foc, fod, ffd, fsl, rfl, zf⟩ := hfn
  refine hG9 ?_
  clear hG9 G9
  refine' enter (binds := [(Str.ofString "a", .ref a), (Str.ofString "x", .int x tx), (Str.ofString "lo", .int (lo : Int) tl), (Str.ofString "hi", hv), (Str.ofString "key", .ref fq)]) Cg ?k1 ?k2 (by omega) ?k3 ?k4 ?k5 ?k6 ?k7 ?k8 ?_
  case k1 => k_is
  case k2 => k_is
  case k3 => exact hb _ _ _ _ (by k_is)
  case k4 => exact locs rfl
  case k5 => decide
  case k6 => rfl
  case k7 => rfl
  case k8 => rfl
  intro b L h st C F N hlt
  first | refine entS ?_ | refine entSE ?_
  intro e Qd hQd
  have Z : St (hp g) b L h _ (S its) (hp g) := St.start F N (fun a o q => st _ _ q) (hS its)
  have zf : At (hp g) fq ⟨foc, fod, .func ffd, fsl⟩ := zf
  have za : At (hp g) a (lstO vs n) := Rw.1
  first | refine exS ?_ | (refine hQn _ ?_; refine exS ?_)
  intro Q1 hQn hQr
  refine wpAny_If ?_
  refine wpAny_isTrue_Compare1 ?_
  refine y_L Z.F rfl ?_
  refine n_ci fun tk => ?_
  refine lt_int ?_
  refine wpAny_truthy_bool ?_
  refine ite_b (fun q => absurd (of_decide_eq_true q) (by omega)) (fun _ => ?_)
  first | refine norm (s := s) (h := h) (fun tk => ?_) | (refine hQn _ ?_; refine norm (s := s) (h := h) fun tk => ?_)
  first | refine wpAny_execs_nil ?_ | (refine hQn _ ?_; refine wpAny_execs_nil ?_)
  first | refine exS ?_ | (refine hQn _ ?_; refine exS ?_)
  intro Q1 hQn hQr
  refine wpAny_mono (Q := BH s (hp g) b L (S its) lo hi tl (.ref a) (.int x tx) (.ref fq)) ?_ ?_ (fun _ _ x => x)
  · rcases hhi with ⟨rfl, rfl⟩ | ⟨th, rfl⟩
    · refine wpAny_If ?_
      refine wpAny_isTrue_Compare1 ?_
      refine y_L Z.F rfl ?_
      refine Constant_none ?_
      refine is_none_none ?_
      refine wpAny_truthy_bool ?_
      refine ite_b (fun _ => ?_) (fun q => absurd q (by decide))
      refine norm (s := s) (h := h) fun tk => ?_
      refine wpAny_execs_cons ?_
      refine wpAny_Assign_Name ?_
      refine Call_ ?_
      refine' y_B C Z.F ?kg boot_len ?_
      case kg => k_is
      refine PyProof.Rows.callWith_builtin1 ?_
      refine spliced_more ?_
      refine y_L Z.F rfl ?_
      refine spliced_none ?_
      refine n_len (Z.at za) (by omega) fun t tk => ?_
      refine s_st Z fun h tk Z => ?_
      refine wpAny_execs_nil ?_
      exact BH.intro Z (Le.refl _) rfl rfl rfl rfl rfl
    · refine wpAny_If ?_
      refine wpAny_isTrue_Compare1 ?_
      refine y_L Z.F rfl ?_
      refine Constant_none ?_
      refine is_int_none ?_
      refine wpAny_truthy_bool ?_
      refine ite_b (fun q => absurd q (by decide)) (fun _ => ?_)
      refine norm (s := s) (h := h) fun tk => ?_
      refine wpAny_execs_nil ?_
      exact BH.intro Z (Le.refl _) rfl rfl rfl rfl rfl
  intro f s' q9
  refine hide ?_
  intro G9 hG9
  obtain ⟨rfl, m, h, tk, th, Y, rfl, le, Z, ma, mx, mlo, mhi, mkey⟩ := q9
  refine hG9 ?_
  clear hG9 G9
  first | refine exS ?_ | (refine hQn _ ?_; refine exS ?_)
  intro Q1 hQn hQr
  refine wpAny_If ?_
  refine wpAny_isTrue_Compare1 ?_
  refine y_L Z.F mkey ?_
  refine Constant_none ?_
  refine is_ref_none ?_
  refine wpAny_truthy_bool ?_
  refine ite_b (fun q => absurd q (by decide)) (fun _ => ?_)
  refine norm (s := s) (h := h) fun tk => ?_
  refine wpAny_execs_cons ?_
  refine hide ?_
  intro G9 hG9
  obtain ⟨T, hT⟩ : ∃ T, bisS (pLeft ks cs c x) vs its lo hi = T := ⟨_, rfl⟩
  refine hG9 ?_
  clear hG9 G9
  refine s_while (k := hi - lo) (BI S vs (pLeft ks cs c x) T (its.length + vs.length) (.ref a) (.int x tx) (.ref fq)) Z ⟨lo, hi, tl, th, its, rfl, rfl, hle, by omega, ma, mx, mlo, mhi, mkey, hT⟩ ?_
  intro k m mu Y2 h tk le2 p97 Z Ql hQl
  refine hide ?_
  intro G9 hG9
  obtain ⟨lo', hi', tl, th, its', rfl, J⟩ := p97
  refine hG9 ?_
  clear hG9 G9
  have le3 := le.trans le2
  refine wpAny_isTrue_Compare1 ?_
  refine y_L Z.F J.flo ?_
  refine y_L Z.F J.fhi ?_
  refine lt_int ?_
  refine wpAny_truthy_bool ?_
  refine ite_b (fun q => ?_) (fun q => ?_)
  · have hlt : lo' < hi' := Int.ofNat_lt.mp (of_decide_eq_true q)
    first | refine norm (s := s) (h := h) (fun tk => ?_) | (refine hQn _ ?_; refine norm (s := s) (h := h) fun tk => ?_)
    first | refine exS ?_ | (refine hQn _ ?_; refine exS ?_)
    intro Q1 hQn hQr
    refine wpAny_Assign_Name ?_
    refine wpAny_BinOp ?_
    refine wpAny_BinOp ?_
    refine y_L Z.F J.flo ?_
    refine y_L Z.F J.fhi ?_
    refine n_add fun tk => ?_
    refine n_ci fun tk => ?_
    refine n_fdiv (by decide) (PyProof.noPylong_of_log2 (by decide +kernel)) fun tk => ?_
    rw [mid_half]
    refine hide ?_
    intro G9 hG9
    obtain ⟨mid, hm, h60, h1000, d, v, rest, hd, hcm, hv, hvd, hv2⟩ := J.midd Rw hlt (by omega) hlen c
    refine hG9 ?_
    clear hG9 G9
    rw [hm]
    refine s_st Z fun h tk Z => ?_
    first | refine exS ?_ | (refine hQn _ ?_; refine exS ?_)
    intro Q1 hQn hQr
    refine wpAny_If ?_
    refine wpAny_isTrue_Compare1 ?_
    refine Call_ ?_
    refine y_L Z.F (by exact J.fk) ?_
    refine callWith_F ⟨_, _, _, _, Z.at (zf.mono le3)⟩ ?_
    refine spliced_more ?_
    refine Subscript_ ?_
    refine y_L Z.F (by exact J.fa) ?_
    refine y_L Z.F rfl ?_
    refine list_item (i := mid) (Z.at (za.mono le3)) rfl h60 hv ?_
    refine spliced_none ?_
    refine ⟨⟨_, _, _, _, Z.at (zf.mono le3)⟩, ?_⟩
    first | refine norm (s := s) (h := h) (fun tk => ?_) | (refine hQn _ ?_; refine norm (s := s) (h := h) fun tk => ?_)
    refine s_useA Z (fun _ _ q => by obtain ⟨-, rfl⟩ := q; exact hS _) (fun g' k1 k2 => hkey.call (by show A.depth + 1 + 3 < _; omega) hh (C.keeps k1) (le3.trans k2) (hv2.mono (le3.trans k2)) hcm h1000) ?_
    intro r h tk nw p94 Z
    refine hide ?_
    intro G9 hG9
    obtain ⟨⟨t', rfl⟩, rfl⟩ := p94
    refine hG9 ?_
    clear hG9 G9
    refine y_L Z.F (by exact J.fx) ?_
    refine lt_int ?_
    refine wpAny_truthy_bool ?_
    refine ite_b (fun q => ?_) (fun q => ?_)
    · first | refine norm (s := s) (h := h) (fun tk => ?_) | (refine hQn _ ?_; refine norm (s := s) (h := h) fun tk => ?_)
      refine wpAny_execs_cons ?_
      refine wpAny_Assign_Name ?_
      refine wpAny_BinOp ?_
      refine y_L Z.F rfl ?_
      refine n_ci fun tk => ?_
      refine n_add fun tk => ?_
      refine s_st Z fun h tk Z => ?_
      first | refine wpAny_execs_nil ?_ | (refine hQn _ ?_; refine wpAny_execs_nil ?_)
      first | refine wpAny_execs_nil ?_ | (refine hQn _ ?_; refine wpAny_execs_nil ?_)
      refine hQl _ _ ?_
      exact BJ.turn Z le2 (J.right hlt hm hvd (by unfold pLeft; rw [hd]; exact q) (by exact J.fa) (by exact J.fx) rfl (by exact J.fhi) (by exact J.fk))
    · first | refine norm (s := s) (h := h) (fun tk => ?_) | (refine hQn _ ?_; refine norm (s := s) (h := h) fun tk => ?_)
      refine wpAny_execs_cons ?_
      refine wpAny_Assign_Name ?_
      refine y_L Z.F rfl ?_
      refine s_st Z fun h tk Z => ?_
      first | refine wpAny_execs_nil ?_ | (refine hQn _ ?_; refine wpAny_execs_nil ?_)
      first | refine wpAny_execs_nil ?_ | (refine hQn _ ?_; refine wpAny_execs_nil ?_)
      refine hQl _ _ ?_
      exact BJ.turn Z le2 (J.left hlt hm hvd (by unfold pLeft; rw [hd]; exact q) (by exact J.fa) (by exact J.fx) (by exact J.flo) rfl (by exact J.fk))
  · first | refine wpAny_execs_nil ?_ | (refine hQn _ ?_; refine wpAny_execs_nil ?_)
    first | refine wpAny_execs_cons ?_ | (refine hQn _ ?_; refine wpAny_execs_cons ?_)
    refine wpAny_Return_some ?_
    refine y_L Z.F J.flo ?_
    first | refine hQd _ _ ?_ | refine hQr _ _ (hQd _ _ ?_)
    refine Done.intro Z.F Z.N (bis_post S (hT.trans (J.e.symm.trans (bisS_done fun h => of_decide_eq_false q (Int.ofNat_lt.mpr h)))))
theorem bisect_right_ok {a : Addr} {vs its : List Value} {n : Nat} {cs : List (Nat → Int)} {key hv : Value} {ks : Ks} {c : Nat → Int} {S : List Value → Led} {x : Int} {tx tl : Tok} {lo hi : Nat} {pos : List Value} {kw : List (Str × Value)}
    (Cg : Cx Mine.hd.heap_39 W g) (hr : A.depth + 4 < recursionLimit) (hh : A.handled = none)
    (Rw : RowsC (hp g) a vs n cs) (hkey : KeyM PR Mine.hd.heap_39 W (hp g) key ks c S) (hS : ∀ its, ((S its).map (·.1)).Nodup) (hhi : HiIs hv hi vs.length) (hle : hi ≤ vs.length) (hlen : its.length + vs.length ≤ 900)
    (hb : ∀ oc od fd sl, (Mine.hd.heap_39 W.w.params).lookup 74 = some ⟨oc, od, .func fd, sl⟩ → g.StaysIn s.heap → BindsTo s fd ⟨pos, kw⟩ [(Str.ofString "a", .ref a), (Str.ofString "x", .int x tx), (Str.ofString "lo", .int (lo : Int) tl), (Str.ofString "hi", hv), (Str.ofString "key", key)]) :
    Does PR W A (call (.ref 74) pos kw) s g (S its) (fun r nw => (∃ t, r = .int (((bis (pRight ks cs c x) lo hi).1 : Nat) : Int) t) ∧ nw = S (its ++ (bis (pRight ks cs c x) lo hi).2.map fun i => vs.getD i .none)) := by
  have hfn := hkey.fn
  refine hide ?_
  intro G9 hG9
  obtain ⟨fq, foc, fod, ffd, fsl, rfl, zf⟩ := hfn
  refine hG9 ?_
  clear hG9 G9
  refine' enter (binds := [(Str.ofString "a", .ref a), (Str.ofString "x", .int x tx), (Str.ofString "lo", .int (lo : Int) tl), (Str.ofString "hi", hv), (Str.ofString "key", .ref fq)]) Cg ?k1 ?k2 (by omega) ?k3 ?k4 ?k5 ?k6 ?k7 ?k8 ?_
  case k1 => k_is
  case k2 => k_is
  case k3 => exact hb _ _ _ _ (by k_is)
  case k4 => exact locs rfl
  case k5 => decide
  case k6 => rfl
  case k7 => rfl
  case k8 => rfl
  intro b L h st C F N hlt
  first | refine entS ?_ | refine entSE ?_
  intro e Qd hQd
  have Z : St (hp g) b L h _ (S its) (hp g) := St.start F N (fun a o q => st _ _ q) (hS its)
  have zf : At (hp g) fq ⟨foc, fod, .func ffd, fsl⟩ := zf
  have za : At (hp g) a (lstO vs n) := Rw.1
  first | refine exS ?_ | (refine hQn _ ?_; refine exS ?_)
  intro Q1 hQn hQr
  refine wpAny_If ?_
  refine wpAny_isTrue_Compare1 ?_
  refine y_L Z.F rfl ?_
  refine n_ci fun tk => ?_
  refine lt_int ?_
  refine wpAny_truthy_bool ?_
  refine ite_b (fun q => absurd (of_decide_eq_true q) (by omega)) (fun _ => ?_)
  first | refine norm (s := s) (h := h) (fun tk => ?_) | (refine hQn _ ?_; refine norm (s := s) (h := h) fun tk => ?_)
  first | refine wpAny_execs_nil ?_ | (refine hQn _ ?_; refine wpAny_execs_nil ?_)
  first | refine exS ?_ | (refine hQn _ ?_; refine exS ?_)
  intro Q1 hQn hQr
  refine wpAny_mono (Q := BH s (hp g) b L (S its) lo hi tl (.ref a) (.int x tx) (.ref fq)) ?_ ?_ (fun _ _ x => x)
  · rcases hhi with ⟨rfl, rfl⟩ | ⟨th, rfl⟩
    · refine wpAny_If ?_
      refine wpAny_isTrue_Compare1 ?_
      refine y_L Z.F rfl ?_
      refine Constant_none ?_
      refine is_none_none ?_
      refine wpAny_truthy_bool ?_
      refine ite_b (fun _ => ?_) (fun q => absurd q (by decide))
      refine norm (s := s) (h := h) fun tk => ?_
      refine wpAny_execs_cons ?_
      refine wpAny_Assign_Name ?_
      refine Call_ ?_
      refine' y_B C Z.F ?kg boot_len ?_
      case kg => k_is
      refine PyProof.Rows.callWith_builtin1 ?_
      refine spliced_more ?_
      refine y_L Z.F rfl ?_
      refine spliced_none ?_
      refine n_len (Z.at za) (by omega) fun t tk => ?_
      refine s_st Z fun h tk Z => ?_
      refine wpAny_execs_nil ?_
      exact BH.intro Z (Le.refl _) rfl rfl rfl rfl rfl
    · refine wpAny_If ?_
      refine wpAny_isTrue_Compare1 ?_
      refine y_L Z.F rfl ?_
      refine Constant_none ?_
      refine is_int_none ?_
      refine wpAny_truthy_bool ?_
      refine ite_b (fun q => absurd q (by decide)) (fun _ => ?_)
      refine norm (s := s) (h := h) fun tk => ?_
      refine wpAny_execs_nil ?_
      exact BH.intro Z (Le.refl _) rfl rfl rfl rfl rfl
  intro f s' q9
  refine hide ?_
  intro G9 hG9
  obtain ⟨rfl, m, h, tk, th, Y, rfl, le, Z, ma, mx, mlo, mhi, mkey⟩ := q9
  refine hG9 ?_
  clear hG9 G9
  first | refine exS ?_ | (refine hQn _ ?_; refine exS ?_)
  intro Q1 hQn hQr
  refine wpAny_If ?_
  refine wpAny_isTrue_Compare1 ?_
  refine y_L Z.F mkey ?_
  refine Constant_none ?_
  refine is_ref_none ?_
  refine wpAny_truthy_bool ?_
  refine ite_b (fun q => absurd q (by decide)) (fun _ => ?_)
  refine norm (s := s) (h := h) fun tk => ?_
  refine wpAny_execs_cons ?_
  refine hide ?_
  intro G9 hG9
  obtain ⟨T, hT⟩ : ∃ T, bisS (pRight ks cs c x) vs its lo hi = T := ⟨_, rfl⟩
  refine hG9 ?_
  clear hG9 G9
  refine s_while (k := hi - lo) (BI S vs (pRight ks cs c x) T (its.length + vs.length) (.ref a) (.int x tx) (.ref fq)) Z ⟨lo, hi, tl, th, its, rfl, rfl, hle, by omega, ma, mx, mlo, mhi, mkey, hT⟩ ?_
  intro k m mu Y2 h tk le2 p97 Z Ql hQl
  refine hide ?_
  intro G9 hG9
  obtain ⟨lo', hi', tl, th, its', rfl, J⟩ := p97
  refine hG9 ?_
  clear hG9 G9
  have le3 := le.trans le2
  refine wpAny_isTrue_Compare1 ?_
  refine y_L Z.F J.flo ?_
  refine y_L Z.F J.fhi ?_
  refine lt_int ?_
  refine wpAny_truthy_bool ?_
  refine ite_b (fun q => ?_) (fun q => ?_)
  · have hlt : lo' < hi' := Int.ofNat_lt.mp (of_decide_eq_true q)
    first | refine norm (s := s) (h := h) (fun tk => ?_) | (refine hQn _ ?_; refine norm (s := s) (h := h) fun tk => ?_)
    first | refine exS ?_ | (refine hQn _ ?_; refine exS ?_)
    intro Q1 hQn hQr
    refine wpAny_Assign_Name ?_
    refine wpAny_BinOp ?_
    refine wpAny_BinOp ?_
    refine y_L Z.F J.flo ?_
    refine y_L Z.F J.fhi ?_
    refine n_add fun tk => ?_
    refine n_ci fun tk => ?_
    refine n_fdiv (by decide) (PyProof.noPylong_of_log2 (by decide +kernel)) fun tk => ?_
    rw [mid_half]
    refine hide ?_
    intro G9 hG9
    obtain ⟨mid, hm, h60, h1000, d, v, rest, hd, hcm, hv, hvd, hv2⟩ := J.midd Rw hlt (by omega) hlen c
    refine hG9 ?_
    clear hG9 G9
    rw [hm]
    refine s_st Z fun h tk Z => ?_
    first | refine exS ?_ | (refine hQn _ ?_; refine exS ?_)
    intro Q1 hQn hQr
    refine wpAny_If ?_
    refine wpAny_isTrue_Compare1 ?_
    refine y_L Z.F (by exact J.fx) ?_
    refine Call_ ?_
    refine y_L Z.F (by exact J.fk) ?_
    refine callWith_F ⟨_, _, _, _, Z.at (zf.mono le3)⟩ ?_
    refine spliced_more ?_
    refine Subscript_ ?_
    refine y_L Z.F (by exact J.fa) ?_
    refine y_L Z.F rfl ?_
    refine list_item (i := mid) (Z.at (za.mono le3)) rfl h60 hv ?_
    refine spliced_none ?_
    refine ⟨⟨_, _, _, _, Z.at (zf.mono le3)⟩, ?_⟩
    first | refine norm (s := s) (h := h) (fun tk => ?_) | (refine hQn _ ?_; refine norm (s := s) (h := h) fun tk => ?_)
    refine s_useA Z (fun _ _ q => by obtain ⟨-, rfl⟩ := q; exact hS _) (fun g' k1 k2 => hkey.call (by show A.depth + 1 + 3 < _; omega) hh (C.keeps k1) (le3.trans k2) (hv2.mono (le3.trans k2)) hcm h1000) ?_
    intro r h tk nw p94 Z
    refine hide ?_
    intro G9 hG9
    obtain ⟨⟨t', rfl⟩, rfl⟩ := p94
    refine hG9 ?_
    clear hG9 G9
    refine lt_int ?_
    refine wpAny_truthy_bool ?_
    refine ite_b (fun q => ?_) (fun q => ?_)
    · first | refine norm (s := s) (h := h) (fun tk => ?_) | (refine hQn _ ?_; refine norm (s := s) (h := h) fun tk => ?_)
      refine wpAny_execs_cons ?_
      refine wpAny_Assign_Name ?_
      refine y_L Z.F rfl ?_
      refine s_st Z fun h tk Z => ?_
      first | refine wpAny_execs_nil ?_ | (refine hQn _ ?_; refine wpAny_execs_nil ?_)
      first | refine wpAny_execs_nil ?_ | (refine hQn _ ?_; refine wpAny_execs_nil ?_)
      refine hQl _ _ ?_
      exact BJ.turn Z le2 (J.left hlt hm hvd (by unfold pRight; rw [hd]; rw [q]; rfl) (by exact J.fa) (by exact J.fx) (by exact J.flo) rfl (by exact J.fk))
    · first | refine norm (s := s) (h := h) (fun tk => ?_) | (refine hQn _ ?_; refine norm (s := s) (h := h) fun tk => ?_)
      refine wpAny_execs_cons ?_
      refine wpAny_Assign_Name ?_
      refine wpAny_BinOp ?_
      refine y_L Z.F rfl ?_
      refine n_ci fun tk => ?_
      refine n_add fun tk => ?_
      refine s_st Z fun h tk Z => ?_
      first | refine wpAny_execs_nil ?_ | (refine hQn _ ?_; refine wpAny_execs_nil ?_)
      first | refine wpAny_execs_nil ?_ | (refine hQn _ ?_; refine wpAny_execs_nil ?_)
      refine hQl _ _ ?_
      exact BJ.turn Z le2 (J.right hlt hm hvd (by unfold pRight; rw [hd]; rw [q]; rfl) (by exact J.fa) (by exact J.fx) rfl (by exact J.fhi) (by exact J.fk))
  · first | refine wpAny_execs_nil ?_ | (refine hQn _ ?_; refine wpAny_execs_nil ?_)
    first | refine wpAny_execs_cons ?_ | (refine hQn _ ?_; refine wpAny_execs_cons ?_)
    refine wpAny_Return_some ?_
    refine y_L Z.F J.flo ?_
    first | refine hQd _ _ ?_ | refine hQr _ _ (hQd _ _ ?_)
    refine Done.intro Z.F Z.N (bis_post S (hT.trans (J.e.symm.trans (bisS_done fun h => of_decide_eq_false q (Int.ofNat_lt.mpr h)))))
end
section
variable {W : Wd} {A : Around} {s : Shared} {g : Heap}
noncomputable def RowsV (R : Rl) (vs : List Value) (cs : List (Nat → Int)) : Prop :=
  vs.length = cs.length ∧ ∀ (i : Nat) (c : Nat → Int), cs[i]? = some c → txtOk c ∧ ∃ v rest, vs[i]? = some v ∧ RowC R v c rest
theorem RowsV.mono {R R' : Rl} {vs : List Value} {cs : List (Nat → Int)} (h : RowsV R vs cs) (k : ∀ a o, R a o → R' a o) : RowsV R' vs cs :=
  ⟨h.1, fun i c e => let ⟨h1, v, rest, h2, h3⟩ := h.2 i c e; ⟨h1, v, rest, h2, h3.mono k⟩⟩
theorem insort_right_ok {a : Addr} {vs : List Value} {n : Nat} {cs : List (Nat → Int)} {key xv : Value} {ks : Ks} {c : Nat → Int} {rest : List Value}
    (Cg : Cx Mine.hd.heap_39 W g) (hr : A.depth + 5 < recursionLimit) (hh : A.handled = none)
    (Rw : RowsV (hp g) vs cs) (hkey : KeyM PR Mine.hd.heap_39 W (hp g) key ks c (fun _ => [])) (hx : RowC (hp g) xv c rest) (hc : txtOk c) (hlen : vs.length ≤ 800) :
    Does PR W A (call (.ref 65) [.ref a, xv] [(Str.ofString "key", key)]) s g [(a, lstO vs n)] (fun _ nw => nw = [(a, lstO (insAt (bis (pRight ks cs c 0) 0 vs.length).1 xv vs) (n + 1))]) := by
  have hfn := hkey.fn
  refine hide ?_
  intro G9 hG9
  obtain ⟨fq, foc, fod, ffd, fsl, rfl, zf⟩ := hfn
  refine hG9 ?_
  clear hG9 G9
  refine' enter (binds := [(Str.ofString "a", .ref a), (Str.ofString "x", xv), (Str.ofString "lo", .int 0 _), (Str.ofString "hi", .none), (Str.ofString "key", .ref fq)]) Cg ?k1 ?k2 (by omega) ?k3 ?k4 ?k5 ?k6 ?k7 ?k8 ?_
  case k1 => k_is
  case k2 => k_is
  case k3 => (intro st; refine' binds2 (Cg.X.keeps st) ?kb ?kc; (case kb => exact fun _ => rfl); (case kc => rfl))
  case k4 => exact locs rfl
  case k5 => decide
  case k6 => rfl
  case k7 => rfl
  case k8 => rfl
  intro b L h st C F N hlt
  first | refine entS ?_ | refine entSE ?_
  intro e Qd hQd
  have Z : St (hp g) b L h _ [(a, lstO vs n)] (hp g) := St.start F N (fun a o q => st _ _ q) (by simp)
  have zf : At (hp g) fq ⟨foc, fod, .func ffd, fsl⟩ := zf
  first | refine exS ?_ | (refine hQn _ ?_; refine exS ?_)
  intro Q1 hQn hQr
  refine wpAny_If ?_
  refine wpAny_isTrue_Compare1 ?_
  refine y_L Z.F rfl ?_
  refine Constant_none ?_
  refine is_ref_none ?_
  refine wpAny_truthy_bool ?_
  refine ite_b (fun q => absurd q (by decide)) (fun _ => ?_)
  first | refine norm (s := s) (h := h) (fun tk => ?_) | (refine hQn _ ?_; refine norm (s := s) (h := h) fun tk => ?_)
  refine wpAny_execs_cons ?_
  refine wpAny_Assign_Name ?_
  refine wpAny_Call_Name_kw ?_
  refine' y_K C Z.F ?kg ?_
  case kg => k_is
  refine' callWith_KW C.X ?kc rfl ?_
  case kc => k_is
  refine spliced_more ?_
  refine y_L Z.F rfl ?_
  refine spliced_more ?_
  refine Call_ ?_
  refine y_L Z.F rfl ?_
  refine callWith_F ⟨_, _, _, _, Z.at zf⟩ ?_
  refine spliced_more ?_
  refine y_L Z.F rfl ?_
  refine spliced_none ?_
  refine ⟨⟨_, _, _, _, Z.at zf⟩, ?_⟩
  first | refine norm (s := s) (h := h) (fun tk => ?_) | (refine hQn _ ?_; refine norm (s := s) (h := h) fun tk => ?_)
  refine s_use0 Z (fun g' k1 k2 _ => hkey.call (its := []) (by show A.depth + 1 + 3 < _; omega) hh (C.keeps k1) k2 (hx.mono k2) hc (by decide)) ?_
  intro r h tk nw Y p95 le1 q9 Z
  refine hide ?_
  intro G9 hG9
  obtain ⟨⟨t', rfl⟩, q8⟩ := p95
  refine hG9 ?_
  clear hG9 G9
  rw [cmpK_self]
  first | refine norm (s := s) (h := h) (fun tk => ?_) | (refine hQn _ ?_; refine norm (s := s) (h := h) fun tk => ?_)
  refine spliced_more ?_
  refine y_L Z.F rfl ?_
  refine spliced_more ?_
  refine y_L Z.F rfl ?_
  refine spliced_none ?_
  refine kwAll_cons ?_
  refine y_L Z.F rfl ?_
  refine kwAll_nil ?_
  refine ⟨C.X.keeps Z.F.keep, ?_⟩
  refine norm (s := s) (h := h) fun tk => ?_
  refine s_use0 Z (fun g' k1 k2 k3 => bisect_right_ok (its := []) (lo := 0) (hi := vs.length) (C.keeps k1) (by show A.depth + 1 + 4 < _; omega) (by exact hh) ⟨k3 _ (.head _), Rw.1, (Rw.mono (le1.trans k2)).2⟩ (hkey.mono (le1.trans k2)) (fun _ => .nil) (.inl ⟨rfl, rfl⟩) (Nat.le_refl _) (by rw [List.length_nil]; omega) (fun _ _ _ _ e st => by
    refine' binds_by e ?k1 (binds2 ((C.keeps k1).X.keeps st) ?kb ?kc)
    case k1 => k_is
    case kb => exact fun _ => rfl
    case kc => rfl)) ?_
  intro r h tk nw Y p95 le8 le9 Z
  refine hide ?_
  intro G9 hG9
  obtain ⟨⟨t2, rfl⟩, q8⟩ := p95
  refine hG9 ?_
  clear hG9 G9
  have hrg := bis_rng (p := pRight ks cs c 0) (lo := 0) (hi := vs.length) (Nat.zero_le _)
  refine hide ?_
  intro G9 hG9
  obtain ⟨p, hpos⟩ : ∃ x, (bis (pRight ks cs c 0) 0 vs.length).1 = x := ⟨_, rfl⟩
  refine hG9 ?_
  clear hG9 G9
  rw [hpos] at hrg ⊢
  refine s_st Z fun h tk Z => ?_
  first | refine wpAny_execs_nil ?_ | (refine hQn _ ?_; refine wpAny_execs_nil ?_)
  first | refine exS ?_ | (refine hQn _ ?_; refine exS ?_)
  intro Q1 hQn hQr
  refine wpAny_Expr_any ?_
  refine MethodCall_ ?_
  refine y_L Z.F rfl ?_
  refine listMethod_K Z.N (.head _) PySem.F.slot_list_insert PySem.F.type_list_insert ?_
  refine callWith_method1 ?_
  refine spliced_more ?_
  refine y_L Z.F rfl ?_
  refine spliced_more ?_
  refine y_L Z.F rfl ?_
  refine spliced_none ?_
  refine Z.hd fun rest N off mk => ?_
  refine kl_insert Z.F N (by simp [Builtin.List.listFitsIndex]; omega) (kl_insAt hrg.2) (Upd.head off) (by have hs : sizeLine = 16777216 := rfl; simp; omega) ?_
  intro h F N
  have Z := mk F N
  first | refine wpAny_execs_nil ?_ | (refine hQn _ ?_; refine wpAny_execs_nil ?_)
  first | refine hQd _ _ ?_ | refine hQr _ _ (hQd _ _ ?_)
  refine Done.intro Z.F Z.N ?_
  rw [hpos]
end
noncomputable def KV (Y : Rl) (r : Int) (vs : List Value) (i : Nat) : Prop := vs.length = i ∧ ∀ j, j < i → ∃ v, vs[j]? = some v ∧ KeyAt Y v (keyAt r j)
theorem KV.nil {Y : Rl} {r : Int} : KV Y r [] 0 := ⟨rfl, fun j hj => absurd hj (Nat.not_lt_zero _)⟩
theorem KV.snoc {X Y : Rl} {r : Int} {vs : List Value} {i : Nat} {a : Addr} {t t' : Tok} (h : KV X r vs i) (le : Le X Y) (z : At Y a (tupO [.int ((restAt r i).fmod 3) t, .int (1 - ((restAt r i).fdiv 3).fmod 2 * 2) t'])) : KV Y r (vs ++ [.ref a]) (i + 1) := by
  refine ⟨by rw [List.length_append, h.1]; rfl, fun j hj => ?_⟩
  by_cases hji : j < i
  · refine hide ?_
    intro G9 hG9
    obtain ⟨v, h1, h2⟩ := h.2 j hji
    refine hG9 ?_
    clear hG9 G9
    exact ⟨v, by rw [List.getElem?_append_left (by rw [h.1]; exact hji)]; exact h1, h2.mono le⟩
  · refine hide ?_
    intro G9 hG9
    obtain rfl : j = i := by omega
    refine hG9 ?_
    clear hG9 G9
    have e0 : (((restAt r j).fmod 3).toNat : Int) = (restAt r j).fmod 3 := by have := mod3 (restAt r j); omega
    refine ⟨.ref a, by rw [List.getElem?_append_right (Nat.le_of_eq h.1), h.1, Nat.sub_self]; rfl, ?_⟩
    unfold KeyAt keyAt
    dsimp only
    rw [e0]
    exact ⟨a, _, _, rfl, z⟩
theorem KV.keys {X Y : Rl} {r : Int} {vs : List Value} {i n : Nat} {a : Addr} (h : KV X r vs i) (le : Le X Y) (z : At Y a (lstO vs n)) : KeysAt Y a (keysOf r i) :=
  ⟨vs, n, z, by rw [h.1]; simp [keysOf], fun j k hk => by
    refine hide ?_
    intro G9 hG9
    obtain ⟨hi, rfl⟩ := keysOf_get hk
    refine hG9 ?_
    clear hG9 G9
    refine hide ?_
    intro G9 hG9
    obtain ⟨v, h1, h2⟩ := h.2 j hi
    refine hG9 ?_
    clear hG9 G9
    exact ⟨v, h1, h2.mono le⟩⟩
section
variable {W : Wd} {A : Around} {s : Shared} {g : Heap}
noncomputable def ksOf (told : Int) : Ks := keysOf (told.fdiv 2) (1 + told.fmod 2).toNat
theorem ksOf_ok (told : Int) : KsOk (ksOf told) := keysOf_ok _ _
theorem keys_ok {R : Rl} {x : Int} {t : Tok} (Cg : Cx Mine.hd.heap_39 W g) (hr : A.depth + 1 < recursionLimit) (hh : A.handled = none) (hR : Le R (hp g)) :
    Does PR W A (call (.ref 104) [.int x t]) s g [] (Post0 R fun r Y => ∃ kl, r = .ref kl ∧ KeysAt Y kl (ksOf x)) := by
  refine' enter (binds := [(Str.ofString "told", .int x t)]) Cg ?k1 ?k2 (by omega) ?k3 ?k4 ?k5 ?k6 ?k7 ?k8 ?_
  case k1 => k_is
  case k2 => k_is
  case k3 => exact fun _ => BindsTo.of_eq rfl
  case k4 => exact locs rfl
  case k5 => decide
  case k6 => rfl
  case k7 => rfl
  case k8 => rfl
  intro b L h st C F N hlt
  first | refine entS ?_ | refine entSE ?_
  intro e Qd hQd
  have Z : St R b L h _ [] R := St.start F N (fun a o q => st _ _ (hR a o q)) List.nodup_nil
  first | refine exS ?_ | (refine hQn _ ?_; refine exS ?_)
  intro Q1 hQn hQr
  refine wpAny_Assign_Name ?_
  refine List_ ?_
  refine spliced_none ?_
  refine s_lstM Z (Nat.zero_le _) fun kl h Z => ?_
  refine s_st Z fun h tk Z => ?_
  first | refine exS ?_ | (refine hQn _ ?_; refine exS ?_)
  intro Q1 hQn hQr
  refine wpAny_Assign_Name ?_
  refine wpAny_BinOp ?_
  refine y_L Z.F rfl ?_
  refine n_ci fun tk => ?_
  refine n_fdiv (by decide) (PyProof.noPylong_of_log2 (by decide +kernel)) fun tk => ?_
  refine s_st Z fun h tk Z => ?_
  refine hide ?_
  intro G9 hG9
  obtain ⟨n, hn, hn3, hks⟩ : ∃ n : Nat, 1 + x.fmod 2 = (n : Int) ∧ n ≤ 3 ∧ ksOf x = keysOf (x.fdiv 2) n := ⟨(1 + x.fmod 2).toNat, by have := mod2 x; omega, by have := mod2 x; omega, rfl⟩
  refine hG9 ?_
  clear hG9 G9
  first | refine exS ?_ | (refine hQn _ ?_; refine exS ?_)
  intro Q1 hQn hQr
  refine wpAny_For ?_
  refine Call_ ?_
  refine' y_B C Z.F ?kg boot_range ?_
  case kg => k_is
  refine PyProof.Rows.callWith_type1 ?_
  refine spliced_more ?_
  refine wpAny_BinOp ?_
  refine n_ci fun tk => ?_
  refine wpAny_BinOp ?_
  refine y_L Z.F rfl ?_
  refine n_ci fun tk => ?_
  refine n_fmod (by decide) fun tk => ?_
  refine n_add fun tk => ?_
  refine spliced_none ?_
  rw [hn]
  refine s_range1 Z (by omega) fun r0 h u v t tk Hr Z => ?_
  refine s_loop (src_range (n := n) hh (.inl ⟨_, _, rfl⟩) Z Hr (small_range (by omega)).1 (small_range (by omega)).2) (fun i m mu Y => ∃ vs nn tr, mu = [(kl, lstO vs nn)] ∧ KV Y (x.fdiv 2) vs i ∧ m (Str.ofString "keys") = some (.ref kl) ∧ m (Str.ofString "rest") = some (.int (restAt (x.fdiv 2) i) tr)) ?_ ?_ ?_
  · exact ⟨[], 0, _, rfl, KV.nil, rfl, rfl⟩
  · intro its i v m mu Y2 h tk le hi p910 p911 Z
    refine hide ?_
    intro G9 hG9
    obtain ⟨tv, rfl⟩ := p910
    obtain ⟨vs, nn, tr, rfl, Kv, mk, mr⟩ := p911
    refine hG9 ?_
    clear hG9 G9
    try (refine loopS ?_; intro Ql hQl)
    refine wpAny_assign_Name ?_
    refine s_st Z fun h tk Z => ?_
    first | refine exS ?_ | (refine hQn _ ?_; refine exS ?_)
    intro Q1 hQn hQr
    refine wpAny_Expr_any ?_
    refine MethodCall_ ?_
    refine y_L Z.F mk ?_
    refine listMethod_K Z.N (.head _) PySem.F.slot_list_append PySem.F.type_list_append ?_
    refine callWith_method1 ?_
    refine spliced_more ?_
    refine Tuple_ ?_
    refine spliced_more ?_
    refine wpAny_BinOp ?_
    refine y_L Z.F mr ?_
    refine n_ci fun tk => ?_
    refine n_fmod (by decide) fun tk => ?_
    refine spliced_more ?_
    refine wpAny_BinOp ?_
    refine n_ci fun tk => ?_
    refine wpAny_BinOp ?_
    refine wpAny_BinOp ?_
    refine wpAny_BinOp ?_
    refine y_L Z.F mr ?_
    refine n_ci fun tk => ?_
    refine n_fdiv (by decide) (PyProof.noPylong_of_log2 (by decide +kernel)) fun tk => ?_
    refine n_ci fun tk => ?_
    refine n_fmod (by decide) fun tk => ?_
    refine n_ci fun tk => ?_
    refine n_mul (IntMulOk.of_right (by decide)) fun tk => ?_
    refine n_sub fun tk => ?_
    refine spliced_none ?_
    refine s_tup Z (Nat.le_of_ble_eq_true rfl) fun T h Y3 le3 zt Z => ?_
    refine spliced_none ?_
    refine s_append (l1 := []) (l2 := its) Z (by rw [Kv.1]; omega) fun h Z => ?_
    first | refine norm (s := s) (h := h) (fun tk => ?_) | (refine hQn _ ?_; refine norm (s := s) (h := h) fun tk => ?_)
    first | refine exS ?_ | (refine hQn _ ?_; refine exS ?_)
    intro Q1 hQn hQr
    refine wpAny_Assign_Name ?_
    refine wpAny_BinOp ?_
    refine y_L Z.F mr ?_
    refine n_ci fun tk => ?_
    refine n_fdiv (by decide) (PyProof.noPylong_of_log2 (by decide +kernel)) fun tk => ?_
    refine s_st Z fun h tk Z => ?_
    first | refine wpAny_execs_nil ?_ | (refine hQn _ ?_; refine wpAny_execs_nil ?_)
    refine hQl _ _ ?_
    exact STurn.next (mu := [(kl, lstO (vs ++ [.ref T]) (nn + 1))]) Z (le.trans le3) ⟨_, _, _, rfl, Kv.snoc le3 zt, (by exact mk), rfl⟩
  · intro m mu Y2 h tk le p96 Z
    refine hide ?_
    intro G9 hG9
    obtain ⟨vs, nn, tr, rfl, Kv, mk, mr⟩ := p96
    refine hG9 ?_
    clear hG9 G9
    refine Z.freeze (l1 := []) fun Y3 le3 zD Z => ?_
    first | refine wpAny_execs_cons ?_ | (refine hQn _ ?_; refine wpAny_execs_cons ?_)
    refine wpAny_Return_some ?_
    refine y_L Z.F mk ?_
    first | refine hQd _ _ ?_ | refine hQr _ _ (hQd _ _ ?_)
    refine s_done0 Z fun Y le4 => ?_
    exact ⟨kl, rfl, hks ▸ Kv.keys (le3.trans le4) (zD.mono le4)⟩
end
theorem key_wt {P : Rl} {vs : List Value} {ks : Ks} {i : Nat} {v : Value} {c : Nat → Int} (hk : KsOk ks) (hlen : vs.length = ks.length) (hks : ∀ (i : Nat) (k : Nat × Int), ks[i]? = some k → ∃ v, vs[i]? = some v ∧ KeyAt P v k) (hv : vs[i]? = some v) :
    ∃ ki kw ka t t', v = .ref ka ∧ P ka (tupO [.int (ki : Nat) t, .int kw t']) ∧ ki < 3 ∧ (kw = 1 ∨ kw = -1) ∧ wt (ks.take (i + 1)) c = wt (ks.take i) c ++ [kw * c ki] := by
  have hi : i < ks.length := by rw [← hlen]; exact (List.getElem?_eq_some_iff.mp hv).1
  refine hide ?_
  intro G9 hG9
  obtain ⟨v', hv', ka, t, t', e, zk⟩ := hks i ks[i] (List.getElem?_eq_getElem hi)
  refine hG9 ?_
  clear hG9 G9
  refine hide ?_
  intro G9 hG9
  obtain rfl : v = v' := Option.some.inj (hv.symm.trans hv')
  refine hG9 ?_
  clear hG9 G9
  exact ⟨_, _, ka, t, t', e, zk, (hk ks[i] (List.getElem_mem hi)).1, (hk ks[i] (List.getElem_mem hi)).2, wt_take hi⟩
section
variable {W : Wd} {A : Around} {s : Shared} {g : Heap}
theorem weight_ok {R : Rl} {rv : Value} {c : Nat → Int} {rest : List Value} {kl : Addr} {ks : Ks} (Cg : Cx Mine.hd.heap_39 W g) (hr : A.depth + 1 < recursionLimit) (hh : A.handled = none) (hR : Le R (hp g))
    (hk : KsOk ks) (hkl : ks.length ≤ 3) (hc : txtOk c) (Kg : KeysAt R kl ks) (Rg : RowC R rv c rest) :
    Does PR W A (call (.ref 109) [rv, .ref kl]) s g [] (Post0 R fun r Y => IntsL Y r (wt ks c)) := by
  refine hide ?_
  intro G9 hG9
  obtain ⟨ra, t0, t1, t2, rfl, zr⟩ := Rg
  refine hG9 ?_
  clear hG9 G9
  refine hide ?_
  intro G9 hG9
  obtain ⟨vs, n2, z3, hlen, hks⟩ := Kg
  refine hG9 ?_
  clear hG9 G9
  refine' enterC (binds := [(Str.ofString "row", .ref ra), (Str.ofString "keys", .ref kl)]) Cg ?k1 ?k2 (by omega) ?k3 ?k4 ?k5 ?k6 ?k7 ?k8 ?_
  case k1 => k_is
  case k2 => k_is
  case k3 => exact fun _ => BindsTo.of_eq rfl
  case k4 => rfl
  case k5 => decide +kernel
  case k6 => rfl
  case k7 => rfl
  case k8 => rfl
  intro b L h tk cells st C F N Y hlt
  first | refine entS ?_ | refine entSE ?_
  intro e Qd hQd
  have Z := St.startC (R := R) F N (fun a o q => st _ _ (hR a o q)) Y (by decide) hlt
  refine hide ?_
  intro G9 hG9
  obtain ⟨o1, c1, rfl, d1, Y⟩ := cells_un Y
  refine hG9 ?_
  clear hG9 G9
  refine hide ?_
  intro G9 hG9
  obtain rfl := cells_no Y
  refine hG9 ?_
  clear hG9 G9
  clear Y N F
  have zr : At R ra _ := zr
  have z3 : At R kl _ := z3
  first | refine exS ?_ | (refine hQn _ ?_; refine exS ?_)
  intro Q1 hQn hQr
  refine wpAny_Assign_Name ?_
  refine List_ ?_
  refine spliced_more ?_
  refine Subscript_ ?_
  refine y_L Z.F rfl ?_
  refine n_ci fun tk => ?_
  refine row_item (i := 0) rfl (by decide) (Z.at zr) fun _ => ?_
  refine spliced_more ?_
  refine Call_ ?_
  refine' y_B C Z.F ?kg boot_len ?_
  case kg => k_is
  refine PyProof.Rows.callWith_builtin1 ?_
  refine spliced_more ?_
  refine Subscript_ ?_
  refine y_L Z.F rfl ?_
  refine n_ci fun tk => ?_
  refine row_item (i := 1) rfl (by decide) (Z.at zr) fun _ => ?_
  refine spliced_none ?_
  refine SBL.len (by have := txt_len hc; have := hc; unfold txtOk at this; omega) ?_
  rw [txt_len hc]
  first | refine norm (s := s) (h := h) (fun tk => ?_) | (refine hQn _ ?_; refine norm (s := s) (h := h) fun tk => ?_)
  refine spliced_more ?_
  refine Subscript_ ?_
  refine y_L Z.F rfl ?_
  refine n_ci fun tk => ?_
  refine row_item (i := 2) rfl (by decide) (Z.at zr) fun _ => ?_
  refine spliced_none ?_
  refine s_lst Z (Nat.le_of_ble_eq_true rfl) fun pl h Y1 le1 zp Z => ?_
  refine s_stC (l1 := []) Z d1 fun h tk o2 d2 Z => ?_
  refine Z.freeze (l1 := []) fun Y2 le2 zc Z => ?_
  have zp := zp.mono le2
  have le2 := le1.trans le2
  first | refine wpAny_execs_cons ?_ | (refine hQn _ ?_; refine wpAny_execs_cons ?_)
  refine wpAny_Return_some ?_
  refine s_comp rfl rfl (by decide) (fun _ => rfl) ?_
  refine y_L Z.F rfl ?_
  refine s_compV (ms := []) Z hh (.list (z3.mono le2)) (by omega) (fun cA i ys ms Y => ms = [] ∧ IntsV ys (wt (ks.take i) c)) (fun cA => ⟨rfl, IntsV.nil⟩) ?_ ?_
  · intro b' cA I D nD io i v ys mc ms Y4 h tk kb hXb kn hi hv le4 p920 Z hio
    refine hide ?_
    intro G9 hG9
    obtain ⟨rfl, hJ⟩ := p920
    refine hG9 ?_
    clear hG9 G9
    rw [hlen] at hi
    refine hide ?_
    intro G9 hG9
    obtain ⟨ki, kw, ka, t, t', rfl, zk, hk1, hk2, hw⟩ := key_wt (c := c) hk hlen hks hv
    refine hG9 ?_
    clear hG9 G9
    have zk : At R ka _ := zk
    refine turnS ?_
    intro e P1 P0 hQ1 hQ0
    refine lot_it hio (Z.mget (.head _)) ?_
    refine s_unpack (vs := [.int ki t, .int kw t']) Z ⟨_, Z.at (zk.mono (le2.trans le4)), rfl, _, rfl⟩ hh rfl rfl fun h tk Z => ?_
    refine assignInOrder_cons ?_
    try (refine loopS ?_; intro Ql hQl)
    refine wpAny_assign_Name ?_
    refine s_st Z fun h tk Z => ?_
    refine assignInOrder_cons ?_
    try (refine loopS ?_; intro Ql hQl)
    refine wpAny_assign_Name ?_
    refine s_st Z fun h tk Z => ?_
    refine assignInOrder_nil ?_
    refine wpAny_tests_nil ?_
    refine ite_b (fun _ => ?_) (fun q => absurd q (by decide))
    refine wpAny_BinOp ?_
    refine y_L Z.F rfl ?_
    refine Subscript_ ?_
    refine y_C (Z.F.keep _ _ (hXb _ _ zc)) d2 ?_
    refine y_L Z.F rfl ?_
    refine list_item (Z.at (zp.mono le4)) rfl (by omega) (plain_item hk1).choose_spec ?_
    refine n_mul (IntMulOk.of_left (way_bits hk2)) fun tk => ?_
    first | refine hQ1 _ _ ?_ | refine hQ0 _ ?_
    refine SEnd.intro (ms := []) Z ⟨rfl, ?_⟩
    rw [hw]
    exact hJ.snoc
  intro cA D nD h tk ys ms Y4 le4 p99 Z
  refine hide ?_
  intro G9 hG9
  obtain ⟨rfl, hJ⟩ := p99
  refine hG9 ?_
  clear hG9 G9
  refine Z.freeze (l1 := []) fun Y5 le5 zD Z => ?_
  rw [hlen, List.take_length] at hJ
  first | refine hQd _ _ ?_ | refine hQr _ _ (hQd _ _ ?_)
  refine s_done0 Z fun Y le6 => ?_
  exact ⟨D, ys, nD, rfl, zD.mono le6, hJ⟩
end
section
variable {W : Wd} {A : Around} {s : Shared} {R X : Rl} {b h : Heap} {tk : Nat} {L : Addr} {m : Str → Option Value} {mu l1 l2 : Led} {Q E : Value → Shared → Prop}
noncomputable abbrev TbH (R : Rl) (ps : Array Value) : Prop := TabV R qHeld 105 11 ps
theorem held_s {o : Addr} {rv : Value} {ks : Ks} {c : Nat → Int} {rc : List Value} {ps : Array Value} (Z : St R b L h m (l1 ++ (111, tabObj ps) :: l2) X) (C : Cx Mine.hd.heap_39 W b) (hr : A.depth + 1 < recursionLimit) (hk : KsOk ks) (hc : txtOk c)
    (O : OrderAt X 38 o ks) (Rr : RowC X rv c rc) (Tb : TbH X ps)
    (k : ∀ r h' tk' ps' Y, Le X Y → TbH Y ps' → KeyM PR Mine.hd.heap_39 W Y r ks c (fun _ => []) → St R b L h' m (l1 ++ (111, tabObj ps') :: l2) Y → Q r { s with heap := h', toks := tk' }) :
    wpAny (model PR W.w) A (call (.ref 116) [.ref o, rv]) Q E { s with heap := h, toks := tk } := by
  refine s_use1 (P := fun r o' fr => ∃ ps', o' = tabObj ps' ∧ TbH (Or X fr) ps' ∧ KeyM PR Mine.hd.heap_39 W (Or X fr) r ks c (fun _ => [])) Z (fun g k1 k2 k3 => held_ok (C.keeps k1) hr hk hc k2 O Rr Tb) ?_ ?_
  · rintro r nw ⟨ps', rest, rfl, hd, h1, h2⟩
    exact ⟨_, rest, rfl, (fun q hq e => hd q hq e.symm), ps', rfl, h1, h2⟩
  · rintro r h' tk' o' fr Y ⟨ps', rfl, h1, h2⟩ le1 le2 Z'
    exact k r h' tk' ps' Y le1 (h1.mono le2) (h2.mono le2) Z'
theorem insort_right_s {a : Addr} {vs : List Value} {n : Nat} {cs : List (Nat → Int)} {key xv : Value} {ks : Ks} {c : Nat → Int} {rest : List Value} (Z : St R b L h m (l1 ++ (a, lstO vs n) :: l2) X) (C : Cx Mine.hd.heap_39 W b)
    (hr : A.depth + 5 < recursionLimit) (hh : A.handled = none)
    (Rw : RowsV X vs cs) (hkey : KeyM PR Mine.hd.heap_39 W X key ks c (fun _ => [])) (hx : RowC X xv c rest) (hc : txtOk c) (hlen : vs.length ≤ 800)
    (k : ∀ r h' tk' Y, Le X Y → St R b L h' m (l1 ++ (a, lstO (insAt (bis (pRight ks cs c 0) 0 vs.length).1 xv vs) (n + 1)) :: l2) Y → Q r { s with heap := h', toks := tk' }) :
    wpAny (model PR W.w) A (call (.ref 65) [.ref a, xv] [(Str.ofString "key", key)]) Q E { s with heap := h, toks := tk } := by
  refine s_use1 (P := fun r o' fr => o' = lstO (insAt (bis (pRight ks cs c 0) 0 vs.length).1 xv vs) (n + 1)) Z (fun g k1 k2 k3 => insort_right_ok (C.keeps k1) hr hh (Rw.mono k2) (hkey.mono k2) (hx.mono k2) hc hlen) ?_ ?_
  · rintro r nw rfl
    exact ⟨_, [], rfl, (fun _ h => nomatch h), rfl⟩
  · rintro r h' tk' o' fr Y rfl le1 le2 Z'
    exact k r h' tk' Y le1 Z'
theorem bisect_left_s {a : Addr} {vs : List Value} {n : Nat} {cs : List (Nat → Int)} {key : Value} {ks : Ks} {c : Nat → Int} {t0 : Tok} (Z : St R b L h m mu X) (C : Cx Mine.hd.heap_39 W b)
    (hr : A.depth + 4 < recursionLimit) (hh : A.handled = none) (Rw : RowsC X a vs n cs) (hkey : KeyM PR Mine.hd.heap_39 W X key ks c (fun _ => [])) (hlen : vs.length ≤ 800)
    (k : ∀ t h' tk' Y, Le X Y → St R b L h' m mu Y → Q (.int (((bis (pLeft ks cs c 0) 0 vs.length).1 : Nat) : Int) t) { s with heap := h', toks := tk' }) :
    wpAny (model PR W.w) A (call (.ref 92) [.ref a, .int 0 t0] [(Str.ofString "key", key)]) Q E { s with heap := h, toks := tk } := by
  refine s_use0 Z (fun g k1 k2 k3 => bisect_left_ok (its := []) (S := fun _ => []) (lo := 0) (hi := vs.length) (C.keeps k1) hr hh (Rw.mono k2) (hkey.mono k2) (fun _ => .nil) (.inl ⟨rfl, rfl⟩) (Nat.le_refl _) (by simp; omega) (fun _ _ _ _ e st => by
    refine' binds_by e ?k1 (binds2 ((C.keeps k1).X.keeps st) ?kb ?kc)
    case k1 => k_is
    case kb => exact fun _ => rfl
    case kc => rfl)) ?_
  rintro r h' tk' nw Y ⟨⟨t, rfl⟩, rfl⟩ le1 le2 Z'
  exact k t h' tk' Y le1 Z'
theorem bisect_right_s {a : Addr} {vs : List Value} {n : Nat} {cs : List (Nat → Int)} {key : Value} {ks : Ks} {c : Nat → Int} {t0 : Tok} (Z : St R b L h m mu X) (C : Cx Mine.hd.heap_39 W b)
    (hr : A.depth + 4 < recursionLimit) (hh : A.handled = none) (Rw : RowsC X a vs n cs) (hkey : KeyM PR Mine.hd.heap_39 W X key ks c (fun _ => [])) (hlen : vs.length ≤ 800)
    (k : ∀ t h' tk' Y, Le X Y → St R b L h' m mu Y → Q (.int (((bis (pRight ks cs c 0) 0 vs.length).1 : Nat) : Int) t) { s with heap := h', toks := tk' }) :
    wpAny (model PR W.w) A (call (.ref 74) [.ref a, .int 0 t0] [(Str.ofString "key", key)]) Q E { s with heap := h, toks := tk } := by
  refine s_use0 Z (fun g k1 k2 k3 => bisect_right_ok (its := []) (S := fun _ => []) (lo := 0) (hi := vs.length) (C.keeps k1) hr hh (Rw.mono k2) (hkey.mono k2) (fun _ => .nil) (.inl ⟨rfl, rfl⟩) (Nat.le_refl _) (by simp; omega) (fun _ _ _ _ e st => by
    refine' binds_by e ?k1 (binds2 ((C.keeps k1).X.keeps st) ?kb ?kc)
    case k1 => k_is
    case kb => exact fun _ => rfl
    case kc => rfl)) ?_
  rintro r h' tk' nw Y ⟨⟨t, rfl⟩, rfl⟩ le1 le2 Z'
  exact k t h' tk' Y le1 Z'
theorem compare_s {o : Addr} {l r : Value} {ks : Ks} {c d : Nat → Int} {rc rd : List Value} (Z : St R b L h m mu X) (C : Cx Mine.hd.heap_39 W b) (hr : A.depth + 1 < recursionLimit) (hh : A.handled = none)
    (hk : KsOk ks) (hc : txtOk c) (hd : txtOk d) (O : OrderAt X 38 o ks) (Rl : RowC X l c rc) (Rr : RowC X r d rd)
    (k : ∀ t h' tk' Y, Le X Y → St R b L h' m mu Y → Q (.int (cmpK ks c d) t) { s with heap := h', toks := tk' }) :
    wpAny (model PR W.w) A (call (.ref 35) [.ref o, l, r]) Q E { s with heap := h, toks := tk } := by
  refine s_use0 Z (fun g k1 k2 k3 => compare_ok (C.keeps k1) hr hh hk hc hd (O.mono k2) (Rl.mono k2) (Rr.mono k2)) ?_
  rintro r h' tk' nw Y ⟨t, rfl⟩ le1 le2 Z'
  exact k t h' tk' Y le1 Z'
theorem keys_s {x : Int} {t : Tok} (Z : St R b L h m mu X) (C : Cx Mine.hd.heap_39 W b) (hr : A.depth + 1 < recursionLimit) (hh : A.handled = none)
    (k : ∀ kl h' tk' Y, Le X Y → KeysAt Y kl (ksOf x) → St R b L h' m mu Y → Q (.ref kl) { s with heap := h', toks := tk' }) :
    wpAny (model PR W.w) A (call (.ref 104) [.int x t]) Q E { s with heap := h, toks := tk } := by
  refine s_use0 Z (fun g k1 k2 k3 => keys_ok (C.keeps k1) hr hh k2) ?_
  rintro r h' tk' nw Y ⟨kl, rfl, hk⟩ le1 le2 Z'
  exact k kl h' tk' Y le1 (hk.mono le2) Z'
theorem weight_s {rv : Value} {c : Nat → Int} {rest : List Value} {kl : Addr} {ks : Ks} (Z : St R b L h m mu X) (C : Cx Mine.hd.heap_39 W b) (hr : A.depth + 1 < recursionLimit) (hh : A.handled = none)
    (hk : KsOk ks) (hkl : ks.length ≤ 3) (hc : txtOk c) (Kg : KeysAt X kl ks) (Rg : RowC X rv c rest)
    (k : ∀ r h' tk' Y, Le X Y → IntsL Y r (wt ks c) → St R b L h' m mu Y → Q r { s with heap := h', toks := tk' }) :
    wpAny (model PR W.w) A (call (.ref 109) [rv, .ref kl]) Q E { s with heap := h, toks := tk } := by
  refine s_use0 Z (fun g k1 k2 k3 => weight_ok (C.keeps k1) hr hh k2 hk hkl hc Kg Rg) ?_
  rintro r h' tk' nw Y hJ le1 le2 Z'
  exact k _ h' tk' Y le1 (IntsL.mono hJ le2) Z'
end
section
variable {K : Type} [DecidableEq K]
noncomputable def addI (t s : List (K × Int)) : List (K × Int) := s.foldl (fun acc p => putI acc p.1 (match getI acc p.1 with | some m => m + p.2 | none => p.2)) t
noncomputable def sumI (t : List (K × Int)) : Int := (t.map (·.2)).sum
theorem putI_new {ns : List (K × Int)} {k : K} {n : Int} (h : k ∉ ns.map (·.1)) : putI ns k n = ns ++ [(k, n)] := by
  unfold putI
  rw [if_neg]
  intro q
  refine hide ?_
  intro G9 hG9
  obtain ⟨p, hp, e⟩ := List.any_eq_true.mp q
  refine hG9 ?_
  clear hG9 G9
  exact h (List.mem_map.mpr ⟨p, hp, of_decide_eq_true e⟩)
theorem putI_take {ns : List (K × Int)} (nd : (ns.map (·.1)).Nodup) {i : Nat} {k : K} {n : Int} (h : ns[i]? = some (k, n)) : putI (ns.take i) k n = ns.take (i + 1) := by
  rw [List.take_add_one, h]
  refine putI_new fun q => ?_
  refine hide ?_
  intro G9 hG9
  obtain ⟨p, hp, e⟩ := List.mem_map.mp q
  refine hG9 ?_
  clear hG9 G9
  refine hide ?_
  intro G9 hG9
  obtain ⟨j, hj, rfl⟩ := List.mem_take_iff_getElem.mp hp
  refine hG9 ?_
  clear hG9 G9
  have hi : i < ns.length := (List.getElem?_eq_some_iff.mp h).1
  have h2 : ns[i] = (k, n) := (List.getElem?_eq_some_iff.mp h).2
  have := (List.pairwise_iff_getElem.mp nd) j i (by simp; omega) (by simpa using hi) (by omega)
  simp only [List.getElem_map, h2] at this
  exact this e
theorem putI_len (ns : List (K × Int)) (k : K) (n : Int) : (putI ns k n).length ≤ ns.length + 1 := by
  unfold putI; split <;> simp
theorem addI_take {t s : List (K × Int)} {i : Nat} {k : K} {n : Int} (h : s[i]? = some (k, n)) : addI t (s.take (i + 1)) = putI (addI t (s.take i)) k (match getI (addI t (s.take i)) k with | some m => m + n | none => n) := by
  rw [List.take_add_one, h]; unfold addI; rw [List.foldl_append]; rfl
theorem addI_len (t s : List (K × Int)) : (addI t s).length ≤ t.length + s.length := by
  unfold addI
  induction s generalizing t with
  | nil => simp
  | cons p r ih =>
    rw [List.foldl_cons]
    refine Nat.le_trans (ih _) ?_
    have := putI_len t p.1 (match getI t p.1 with | some m => m + p.2 | none => p.2)
    rw [List.length_cons]; omega
end
section
variable {K : Type} [DecidableEq K] {W : Wd} {knd : KeyKind PR W.w K} {A : Around} {s : Shared} {g : Heap} {R : Rl}
theorem add_ok {ta sa : Addr} {tn sn : List (K × Int)} (Cg : Cx Mine.hd.heap_39 W g) (hr : A.depth + 1 < recursionLimit) (hh : A.handled = none) (hR : Le R (hp g)) (T : DictI knd R ta tn) (S : DictI knd R sa sn) (hl : tn.length + sn.length ≤ 500) :
    Does PR W A (call (.ref 49) [.ref ta, .ref sa]) s g [] (Post0 R (fun r Y => ∃ d, r = .ref d ∧ DictI knd Y d (addI tn sn))) := by
  refine' enter (binds := [(Str.ofString "target", .ref ta), (Str.ofString "source", .ref sa)]) Cg ?k1 ?k2 (by omega) ?k3 ?k4 ?k5 ?k6 ?k7 ?k8 ?_
  case k1 => k_is
  case k2 => k_is
  case k3 => exact fun _ => BindsTo.of_eq rfl
  case k4 => exact locs rfl
  case k5 => decide
  case k6 => rfl
  case k7 => rfl
  case k8 => rfl
  intro b L h st C F N hlt
  first | refine entS ?_ | refine entSE ?_
  intro e Qd hQd
  have Z : St R b L h _ [] R := St.start F N (fun a o q => st _ _ (hR a o q)) (by simp)
  have ndT := T.2.choose_spec.2.nodup
  first | refine exS ?_ | (refine hQn _ ?_; refine exS ?_)
  intro Q1 hQn hQr
  refine wpAny_Assign_Name ?_
  refine s_dict0 (knd := knd) Z C.T.nolimit fun d o h hd ho Z => ?_
  refine s_st Z fun h tk Z => ?_
  first | refine exS ?_ | (refine hQn _ ?_; refine exS ?_)
  intro Q1 hQn hQr
  refine wpAny_For ?_
  refine MethodCall_ ?_
  refine y_L Z.F rfl ?_
  refine dictMethod (Z.at T.2.choose_spec.1) T.2.choose_spec.2 PySem.F.slot_dict_items PySem.F.type_dict_items ?_
  refine callWith_method0 ?_
  refine s_items Z (Z.at T.2.choose_spec.1) T.1 T.2.choose_spec.2 fun v h hv Z => ?_
  refine s_loop (src_items hh Z hv T) (fun i m mu Y => ∃ o, mu = [(d, o)] ∧ DObj knd o (tn.take i) ∧ m (Str.ofString "new_callers") = some (.ref d) ∧ m (Str.ofString "source") = some (.ref sa)) ?_ ?_ ?_
  · exact ⟨o, rfl, ho, rfl, rfl⟩
  · intro its i v m mu Y h tk le hi p910 p911 Z
    refine hide ?_
    intro G9 hG9
    obtain ⟨T1, key, k, n, t, rfl, hx, hk, hT⟩ := p910
    obtain ⟨o, rfl, ho, mn, ms⟩ := p911
    refine hG9 ?_
    clear hG9 G9
    refine loopS ?_
    intro Ql hQl
    refine s_unpack (vs := [key, .int n t]) Z hT hh rfl rfl fun h tk Z => ?_
    refine assignInOrder_cons ?_
    try (refine loopS ?_; intro Ql hQl)
    refine wpAny_assign_Name ?_
    refine s_st Z fun h tk Z => ?_
    refine assignInOrder_cons ?_
    try (refine loopS ?_; intro Ql hQl)
    refine wpAny_assign_Name ?_
    refine s_st Z fun h tk Z => ?_
    refine assignInOrder_nil ?_
    first | refine exS ?_ | (refine hQn _ ?_; refine exS ?_)
    intro Q1 hQn hQr
    refine wpAny_Assign_Subscript ?_
    refine y_L Z.F rfl ?_
    refine y_L Z.F mn ?_
    refine y_L Z.F rfl ?_
    refine s_setd (l1 := []) (l2 := its) Z ho hk (by rw [List.length_take]; omega) fun h tk o ho Z => ?_
    first | refine wpAny_execs_nil ?_ | (refine hQn _ ?_; refine wpAny_execs_nil ?_)
    rw [putI_take ndT hx] at ho
    refine hQl _ _ ?_
    exact STurn.next (mu := [(d, o)]) Z le ⟨o, rfl, ho, mn, ms⟩
  intro m mu Y h tk le p96 Z
  refine hide ?_
  intro G9 hG9
  obtain ⟨o, rfl, ho, mn, ms⟩ := p96
  refine hG9 ?_
  clear hG9 G9
  rw [List.take_length] at ho
  replace S := S.mono le
  first | refine exS ?_ | (refine hQn _ ?_; refine exS ?_)
  intro Q1 hQn hQr
  refine wpAny_For ?_
  refine MethodCall_ ?_
  refine y_L Z.F ms ?_
  refine dictMethod (Z.at S.2.choose_spec.1) S.2.choose_spec.2 PySem.F.slot_dict_items PySem.F.type_dict_items ?_
  refine callWith_method0 ?_
  refine s_items Z (Z.at S.2.choose_spec.1) S.1 S.2.choose_spec.2 fun v h hv Z => ?_
  refine s_loop (src_items hh Z hv S) (fun i m mu Y => ∃ o, mu = [(d, o)] ∧ DObj knd o (addI tn (sn.take i)) ∧ m (Str.ofString "new_callers") = some (.ref d)) ?_ ?_ ?_
  · exact ⟨o, rfl, ho, mn⟩
  · intro its i v m mu Y h tk le hi p910 p911 Z
    refine hide ?_
    intro G9 hG9
    obtain ⟨T1, key, k, n, t, rfl, hx, hk, hT⟩ := p910
    obtain ⟨o, rfl, ho, mn⟩ := p911
    refine hG9 ?_
    clear hG9 G9
    have hlen := addI_len tn (sn.take i)
    have hlt : (sn.take i).length ≤ sn.length := by rw [List.length_take]; omega
    have hadd := addI_take (t := tn) hx
    refine hide ?_
    intro G9 hG9
    obtain ⟨acc, h9a⟩ : ∃ x, addI tn (sn.take i) = x := ⟨_, rfl⟩
    refine hG9 ?_
    clear hG9 G9
    rw [h9a] at ho hlen hadd
    refine loopS ?_
    intro Ql hQl
    refine s_unpack (vs := [key, .int n t]) Z hT hh rfl rfl fun h tk Z => ?_
    refine assignInOrder_cons ?_
    try (refine loopS ?_; intro Ql hQl)
    refine wpAny_assign_Name ?_
    refine s_st Z fun h tk Z => ?_
    refine assignInOrder_cons ?_
    try (refine loopS ?_; intro Ql hQl)
    refine wpAny_assign_Name ?_
    refine s_st Z fun h tk Z => ?_
    refine assignInOrder_nil ?_
    first | refine exS ?_ | (refine hQn _ ?_; refine exS ?_)
    intro Q1 hQn hQr
    refine wpAny_If ?_
    refine wpAny_isTrue_Compare1 ?_
    refine y_L Z.F rfl ?_
    refine y_L Z.F mn ?_
    refine s_ind (Z.mget (.head _)) hd ho hk fun tk => ?_
    refine wpAny_truthy_bool ?_
    refine ite_b (fun q => ?_) (fun q => ?_)
    · refine hide ?_
      intro G9 hG9
      obtain ⟨x, hx1⟩ := Option.isSome_iff_exists.mp q
      refine hG9 ?_
      clear hG9 G9
      rw [hx1] at hadd
      refine wpAny_execs_cons ?_
      refine wpAny_If ?_
      refine isTrue_plain ?_
      refine Call_ ?_
      refine' y_B C Z.F ?kg boot_isinstance ?_
      case kg => k_is
      refine PyProof.Rows.callWith_builtin1 ?_
      refine spliced_more ?_
      refine y_L Z.F rfl ?_
      refine spliced_more ?_
      refine' y_B C Z.F ?kg boot_tuple ?_
      case kg => k_is
      refine spliced_none ?_
      refine IsiPair.int_tuple ?_
      refine wpAny_truthy_bool ?_
      refine ite_b (fun q => absurd q (by decide)) (fun _ => ?_)
      first | refine norm (s := s) (h := h) (fun tk => ?_) | (refine hQn _ ?_; refine norm (s := s) (h := h) fun tk => ?_)
      refine wpAny_execs_cons ?_
      refine wpAny_AugAssign_Subscript ?_
      refine y_L Z.F mn ?_
      refine y_L Z.F rfl ?_
      refine s_getd (Z.mget (.head _)) ho hk hx1 fun t2 tk => ?_
      refine y_L Z.F rfl ?_
      refine n_iadd fun tk => ?_
      refine s_setd (l1 := []) (l2 := its) Z ho hk (by omega) fun h tk o ho Z => ?_
      first | refine wpAny_execs_nil ?_ | (refine hQn _ ?_; refine wpAny_execs_nil ?_)
      first | refine wpAny_execs_nil ?_ | (refine hQn _ ?_; refine wpAny_execs_nil ?_)
      first | refine wpAny_execs_nil ?_ | (refine hQn _ ?_; refine wpAny_execs_nil ?_)
      refine hQl _ _ ?_
      exact STurn.next (mu := [(d, o)]) Z le ⟨o, rfl, by rw [hadd]; exact ho, mn⟩
    · have hx1 : getI acc k = none := by
        cases e : getI acc k with
        | none => rfl
        | some x => rw [e] at q; cases q
      rw [hx1] at hadd
      refine wpAny_execs_cons ?_
      refine wpAny_Assign_Subscript ?_
      refine y_L Z.F rfl ?_
      refine y_L Z.F mn ?_
      refine y_L Z.F rfl ?_
      refine s_setd (l1 := []) (l2 := its) Z ho hk (by omega) fun h tk o ho Z => ?_
      first | refine wpAny_execs_nil ?_ | (refine hQn _ ?_; refine wpAny_execs_nil ?_)
      first | refine wpAny_execs_nil ?_ | (refine hQn _ ?_; refine wpAny_execs_nil ?_)
      refine hQl _ _ ?_
      exact STurn.next (mu := [(d, o)]) Z le ⟨o, rfl, by rw [hadd]; exact ho, mn⟩
  · intro m mu Y h tk le p96 Z
    refine hide ?_
    intro G9 hG9
    obtain ⟨o, rfl, ho, mn⟩ := p96
    refine hG9 ?_
    clear hG9 G9
    rw [List.take_length] at ho
    refine Z.freeze (l1 := []) fun Y le2 zd Z => ?_
    first | refine wpAny_execs_cons ?_ | (refine hQn _ ?_; refine wpAny_execs_cons ?_)
    refine wpAny_Return_some ?_
    refine y_L Z.F mn ?_
    first | refine hQd _ _ ?_ | refine hQr _ _ (hQd _ _ ?_)
    refine s_done0 Z fun Y le => ?_
    exact ⟨d, rfl, hd, o, zd.mono le, ho⟩
theorem count_ok {ta : Addr} {tn : List (K × Int)} (Cg : Cx Mine.hd.heap_39 W g) (hr : A.depth + 1 < recursionLimit) (hh : A.handled = none) (hR : Le R (hp g)) (T : DictI knd R ta tn) :
    Does PR W A (call (.ref 56) [.ref ta]) s g [] (Post0 R (fun r Y => ∃ t, r = .int (sumI tn) t)) := by
  refine' enter (binds := [(Str.ofString "callers", .ref ta)]) Cg ?k1 ?k2 (by omega) ?k3 ?k4 ?k5 ?k6 ?k7 ?k8 ?_
  case k1 => k_is
  case k2 => k_is
  case k3 => exact fun _ => BindsTo.of_eq rfl
  case k4 => exact locs rfl
  case k5 => decide
  case k6 => rfl
  case k7 => rfl
  case k8 => rfl
  intro b L h st C F N hlt
  first | refine entS ?_ | refine entSE ?_
  intro e Qd hQd
  have Z : St R b L h _ [] R := St.start F N (fun a o q => st _ _ (hR a o q)) (by simp)
  first | refine exS ?_ | (refine hQn _ ?_; refine exS ?_)
  intro Q1 hQn hQr
  refine wpAny_Assign_Name ?_
  refine n_ci fun tk => ?_
  refine s_st Z fun h tk Z => ?_
  first | refine exS ?_ | (refine hQn _ ?_; refine exS ?_)
  intro Q1 hQn hQr
  refine wpAny_For ?_
  refine MethodCall_ ?_
  refine y_L Z.F rfl ?_
  refine dictMethod (Z.at T.2.choose_spec.1) T.2.choose_spec.2 PySem.F.slot_dict_values PySem.F.type_dict_values ?_
  refine callWith_method0 ?_
  refine s_values Z (Z.at T.2.choose_spec.1) T.1 T.2.choose_spec.2 fun v h hv Z => ?_
  refine s_loop (src_values ⟨_, _, rfl⟩ hh Z hv T) (fun i m mu Y => mu = [] ∧ ∃ t, m (Str.ofString "nc") = some (.int (sumI (tn.take i)) t)) ?_ ?_ ?_
  · exact ⟨rfl, _, rfl⟩
  · intro its i v m mu Y h tk le hi p910 p911 Z
    refine hide ?_
    intro G9 hG9
    obtain ⟨k, n, t, rfl, hx⟩ := p910
    obtain ⟨rfl, tn2, mn⟩ := p911
    refine hG9 ?_
    clear hG9 G9
    try (refine loopS ?_; intro Ql hQl)
    refine wpAny_assign_Name ?_
    refine s_st Z fun h tk Z => ?_
    first | refine exS ?_ | (refine hQn _ ?_; refine exS ?_)
    intro Q1 hQn hQr
    refine wpAny_AugAssign_Name ?_
    refine y_LN Z.F mn ?_
    refine y_L Z.F rfl ?_
    refine n_iadd fun tk => ?_
    refine s_st Z fun h tk Z => ?_
    first | refine wpAny_execs_nil ?_ | (refine hQn _ ?_; refine wpAny_execs_nil ?_)
    have e : sumI (tn.take (i + 1)) = sumI (tn.take i) + n := by
      rw [List.take_add_one, hx]
      unfold sumI
      rw [List.map_append, List.sum_append]
      simp
    refine hQl _ _ ?_
    exact STurn.next (mu := []) Z le ⟨rfl, ⟨_, by rw [e]; rfl⟩⟩
  · intro m mu Y h tk le p96 Z
    refine hide ?_
    intro G9 hG9
    obtain ⟨rfl, t, mn⟩ := p96
    refine hG9 ?_
    clear hG9 G9
    rw [List.take_length] at mn
    first | refine wpAny_execs_cons ?_ | (refine hQn _ ?_; refine wpAny_execs_cons ?_)
    refine wpAny_Return_some ?_
    refine y_L Z.F mn ?_
    first | refine hQd _ _ ?_ | refine hQr _ _ (hQd _ _ ?_)
    refine s_done0 Z fun Y le => ?_
    exact ⟨t, rfl⟩
end
section
variable {K : Type} [DecidableEq K] {W : Wd} {knd : KeyKind PR W.w K} {A : Around} {s : Shared} {R X : Rl} {b h : Heap} {tk : Nat} {L : Addr} {m : Str → Option Value} {mu : Led} {Q E : Value → Shared → Prop}
theorem add_s {ta sa : Addr} {tn sn : List (K × Int)} (Z : St R b L h m mu X) (C : Cx Mine.hd.heap_39 W b) (hr : A.depth + 1 < recursionLimit) (hh : A.handled = none) (T : DictI knd X ta tn) (S : DictI knd X sa sn) (hl : tn.length + sn.length ≤ 500)
    (k : ∀ d h' tk' Y, Le X Y → DictI knd Y d (addI tn sn) → St R b L h' m mu Y → Q (.ref d) { s with heap := h', toks := tk' }) :
    wpAny (model PR W.w) A (call (.ref 49) [.ref ta, .ref sa]) Q E { s with heap := h, toks := tk } := by
  refine s_use0 Z (fun g k1 k2 k3 => add_ok (C.keeps k1) hr hh k2 T S hl) ?_
  intro r h' tk' nw Y p95 le1 le2 Z'
  refine hide ?_
  intro G9 hG9
  obtain ⟨d, rfl, D⟩ := p95
  refine hG9 ?_
  clear hG9 G9
  exact k d h' tk' Y le1 (D.mono le2) Z'
theorem count_s {ta : Addr} {tn : List (K × Int)} (Z : St R b L h m mu X) (C : Cx Mine.hd.heap_39 W b) (hr : A.depth + 1 < recursionLimit) (hh : A.handled = none) (T : DictI knd X ta tn)
    (k : ∀ t h' tk' Y, Le X Y → St R b L h' m mu Y → Q (.int (sumI tn) t) { s with heap := h', toks := tk' }) :
    wpAny (model PR W.w) A (call (.ref 56) [.ref ta]) Q E { s with heap := h, toks := tk } := by
  refine s_use0 Z (fun g k1 k2 k3 => count_ok (C.keeps k1) hr hh k2 T) ?_
  intro r h' tk' nw Y p95 le1 le2 Z'
  refine hide ?_
  intro G9 hG9
  obtain ⟨t, rfl⟩ := p95
  refine hG9 ?_
  clear hG9 G9
  exact k t h' tk' Y le1 Z'
end
section
variable {W : Wd} {A : Around} {s : Shared} {g : Heap} {R : Rl}
theorem rows_ok {sl : Addr} {so : Obj} {sv : List Value} {sn : Nat} {ns : List Int} (Cg : Cx Mine.hd.heap_39 W g) (hr : A.depth + 2 < recursionLimit) (hh : A.handled = none)
    (hR : Le R (hp g)) (zs : At R sl so) (hsc : so.cls = .type "list") (hsd : so.data = .seq sv.toArray sn) (hsi : IntsV sv ns) (hsl : ns.length ≤ 63) (hb : ∀ x ∈ ns, Builtin.Int.intBits x ≤ 1048576) :
    Does PR W A (call (.ref 97) [.ref sl]) s g [] (Post0 R fun r Y => ∃ a vs n ss, r = .ref a ∧ At Y a (lstO vs n) ∧ RowsS Y vs ss ∧ ss.length = 4 ∧ ∀ x ∈ ss, Builtin.Int.intBits x ≤ 1050000) := by
  refine' enterC (binds := [(Str.ofString "script", .ref sl)]) Cg ?k1 ?k2 (by omega) ?k3 ?k4 ?k5 ?k6 ?k7 ?k8 ?_
  case k1 => k_is
  case k2 => k_is
  case k3 => exact fun _ => BindsTo.of_eq rfl
  case k4 => rfl
  case k5 => decide +kernel
  case k6 => rfl
  case k7 => rfl
  case k8 => rfl
  intro b L h tk cells st C F N Y hlt
  first | refine entS ?_ | refine entSE ?_
  intro e Qd hQd
  have Z := St.startC (R := R) F N (fun a o q => st _ _ (hR a o q)) Y (by decide) hlt
  refine hide ?_
  intro G9 hG9
  obtain ⟨oS, c1, rfl, dS, Y⟩ := cells_un Y
  refine hG9 ?_
  clear hG9 G9
  refine hide ?_
  intro G9 hG9
  obtain rfl := cells_no Y
  refine hG9 ?_
  clear hG9 G9
  clear Y N F
  refine Z.freeze (l1 := []) fun Y le0 zcS Z => ?_
  have zs := zs.mono le0
  first | refine exS ?_ | (refine hQn _ ?_; refine exS ?_)
  intro Q1 hQn hQr
  refine wpAny_Assign_Name ?_
  refine List_ ?_
  refine spliced_none ?_
  refine s_lstM Z (Nat.zero_le _) fun D h Z => ?_
  refine s_st Z fun h tk Z => ?_
  have hsv : sv.length ≤ 63 := by rw [hsi.1]; exact hsl
  first | refine exS ?_ | (refine hQn _ ?_; refine exS ?_)
  intro Q1 hQn hQr
  refine wpAny_For ?_
  refine Call_ ?_
  refine' y_B C Z.F ?kg boot_range ?_
  case kg => k_is
  refine PyProof.Rows.callWith_type1 ?_
  refine spliced_more ?_
  refine n_ci fun tk => ?_
  refine spliced_none ?_
  refine s_range1 (n := 4) Z (by decide) fun r0 h u v t tk Hr Z => ?_
  refine s_loop (src_range (n := 4) hh (.inl ⟨_, _, rfl⟩) Z Hr rfl rfl) (fun i m mu Y => ∃ vs n ss, mu = [(D, lstO vs n)] ∧ RowsS Y vs ss ∧ ss.length = i ∧ (∀ x ∈ ss, Builtin.Int.intBits x ≤ 1050000) ∧ m (Str.ofString "rows") = some (.ref D)) ?_ ?_ ?_
  · exact ⟨[], 0, [], rfl, RowsS.nil, rfl, (fun _ h => nomatch h), rfl⟩
  · intro its i v m mu Y2 h tk le hi p910 p911 Z
    refine hide ?_
    intro G9 hG9
    obtain ⟨tv, rfl⟩ := p910
    obtain ⟨vs, n, ss, rfl, Rs, hl, hbs, mr⟩ := p911
    refine hG9 ?_
    clear hG9 G9
    have e0 : (0 + (i : Int) * 1) = (i : Int) := by omega
    rw [e0]
    try (refine loopS ?_; intro Ql hQl)
    refine wpAny_assign_Name ?_
    refine s_st Z fun h tk Z => ?_
    first | refine exS ?_ | (refine hQn _ ?_; refine exS ?_)
    intro Q1 hQn hQr
    refine wpAny_Assign_Name ?_
    refine wpAny_BinOp ?_
    refine Subscript_ ?_
    refine List_ ?_
    refine spliced_more ?_
    refine n_ci fun t1 => ?_
    refine spliced_more ?_
    refine n_ci fun t2 => ?_
    refine spliced_more ?_
    refine n_ci fun t3 => ?_
    refine spliced_more ?_
    refine n_ci fun t4 => ?_
    refine spliced_none ?_
    refine s_lst Z (Nat.le_of_ble_eq_true rfl) fun BA h Y3 le3 zB Z => ?_
    have hbi := base_item (t0 := tk) (t1 := t1) (t2 := t2) (t3 := t3) hi
    refine hide ?_
    intro G9 hG9
    obtain ⟨c, tc, hc, hcb⟩ := hbi
    refine hG9 ?_
    clear hG9 G9
    refine y_L Z.F rfl ?_
    refine list_item (i := i) (Z.at zB) rfl (by omega) hc ?_
    refine Call_ ?_
    refine' y_B C Z.F ?kg boot_sum ?_
    case kg => k_is
    refine PyProof.Rows.callWith_builtin1 ?_
    refine spliced_more ?_
    refine s_comp rfl rfl (by decide) (fun _ => rfl) ?_
    refine Call_ ?_
    refine' y_B C Z.F ?kg boot_range ?_
    case kg => k_is
    refine PyProof.Rows.callWith_type1 ?_
    refine spliced_more ?_
    refine y_L Z.F rfl ?_
    refine spliced_more ?_
    refine Call_ ?_
    refine' y_B C Z.F ?kg boot_min ?_
    case kg => k_is
    refine PyProof.Rows.callWith_builtin1 ?_
    refine spliced_more ?_
    refine Call_ ?_
    refine' y_B C Z.F ?kg boot_len ?_
    case kg => k_is
    refine PyProof.Rows.callWith_builtin1 ?_
    refine spliced_more ?_
    refine y_C (Z.at (zcS.mono (le.trans le3))) dS ?_
    refine spliced_none ?_
    refine call_len_list ⟨_, Z.at (zs.mono (le.trans le3)), hsc, _, hsd⟩ (by rw [List.size_toArray]; omega) ?_
    rw [List.size_toArray]
    refine spliced_more ?_
    refine n_ci fun tk => ?_
    refine spliced_none ?_
    refine s_min60 Z hh fun e te h tk he1 he2 Z => ?_
    refine spliced_more ?_
    refine n_ci fun tk => ?_
    refine spliced_none ?_
    refine s_range4 Z (by omega) (by omega) fun r1 h tk nR Hr hsm hn hin hnl Z => ?_
    refine s_compV (ms := []) Z hh (.range Hr hsm hn) hnl (fun cA j ys ms Y => ms = [] ∧ ∃ xs, IntsV ys xs ∧ xs.length = j ∧ ∀ x ∈ xs, Builtin.Int.intBits x ≤ 1048576) (fun cA => ⟨rfl, [], IntsV.nil, rfl, fun _ h => nomatch h⟩) ?_ ?_
    · intro b' cA I D2 nD io j v ys mc ms Y4 h tk kb hXb kn hj p918 le4 p920 Z hio
      refine hide ?_
      intro G9 hG9
      obtain ⟨tj, rfl⟩ := p918
      obtain ⟨rfl, xs, Ix, hxl, hxb⟩ := p920
      refine hG9 ?_
      clear hG9 G9
      have hk := hin j hj
      have hk2 : i + j * 4 < ns.length := by rw [← hsi.1]; omega
      refine hide ?_
      intro G9 hG9
      obtain ⟨tx, ex⟩ := hsi.2 (i + j * 4) ns[i + j * 4] (List.getElem?_eq_getElem hk2)
      refine hG9 ?_
      clear hG9 G9
      first | (refine turnS ?_; intro e P1 P0 hQ1 hQ0) | (refine floopS ?_; intro Ql hQl) | skip
      refine lot_name ?_
      try (refine loopS ?_; intro Ql hQl)
      refine wpAny_assign_Name ?_
      refine s_st Z fun h tk Z => ?_
      refine wpAny_tests_nil ?_
      refine ite_b (fun _ => ?_) (fun q => absurd q (by decide))
      refine Subscript_ ?_
      refine y_C (Z.F.keep _ _ (hXb _ _ (le3 _ _ (le _ _ zcS)))) dS ?_
      refine y_L Z.F rfl ?_
      refine list_itemI (i := i + j * 4) ⟨_, Z.F.keep _ _ (hXb _ _ (le3 _ _ (le _ _ zs))), hsc, _, hsd⟩ (by omega) (by omega) ex ?_
      first | refine hQ1 _ _ ?_ | refine hQ0 _ ?_
      refine SEnd.intro (ms := []) Z ⟨rfl, xs ++ [ns[i + j * 4]], Ix.snoc, by rw [List.length_append, hxl]; rfl, fun x hx => ?_⟩
      rcases List.mem_append.mp hx with hx | hx
      · exact hxb x hx
      · rw [List.mem_singleton.mp hx]; exact hb _ (List.getElem_mem hk2)
    intro cA D2 nD h tk ys ms Y4 le4 p99 Z
    refine hide ?_
    intro G9 hG9
    obtain ⟨rfl, xs, Ix, hxl, hxb⟩ := p99
    refine hG9 ?_
    clear hG9 G9
    refine spliced_none ?_
    refine s_sum Z hh (Z.mget (.head _)) Ix fun ts h tk Z => ?_
    refine n_add fun tk => ?_
    have Z := Z.tl
    have hsb := sum_bits xs hxb
    have hxb2 := intBits_add_le hcb hsb
    refine hide ?_
    intro G9 hG9
    obtain ⟨x, h9x⟩ : ∃ y, c + xs.sum = y := ⟨_, rfl⟩
    refine hG9 ?_
    clear hG9 G9
    rw [h9x] at hxb2 ⊢
    refine s_st Z fun h tk Z => ?_
    first | refine exS ?_ | (refine hQn _ ?_; refine exS ?_)
    intro Q1 hQn hQr
    refine wpAny_Expr_any ?_
    refine MethodCall_ ?_
    refine y_L Z.F mr ?_
    refine listMethod_K Z.N (.head _) PySem.F.slot_list_append PySem.F.type_list_append ?_
    refine callWith_method1 ?_
    refine spliced_more ?_
    refine Tuple_ ?_
    refine spliced_more ?_
    refine wpAny_BinOp ?_
    refine y_L Z.F rfl ?_
    refine n_ci fun tk => ?_
    refine n_fmod (by decide) fun tk => ?_
    refine spliced_more ?_
    refine Subscript_ ?_
    refine List_ ?_
    refine spliced_more ?_
    refine n_cs fun t1 => ?_
    refine spliced_more ?_
    refine n_cs fun t2 => ?_
    refine spliced_more ?_
    refine n_cs fun t3 => ?_
    refine spliced_none ?_
    refine s_lst Z (Nat.le_of_ble_eq_true rfl) fun TA h Y5 le5 zT Z => ?_
    refine wpAny_BinOp ?_
    refine wpAny_BinOp ?_
    refine y_L Z.F rfl ?_
    refine n_ci fun tk => ?_
    refine n_fdiv (by decide) (PyProof.noPylong_of_log2 (by decide +kernel)) fun tk => ?_
    refine n_ci fun tk => ?_
    refine n_fmod (by decide) fun tk => ?_
    refine txt_item (Z.at zT) (mod3 _) fun tt => ?_
    refine spliced_more ?_
    refine wpAny_BinOp ?_
    refine y_L Z.F rfl ?_
    refine n_ci fun tk => ?_
    refine n_fdiv (by decide) (PyProof.noPylong_of_log2 (by decide +kernel)) fun tk => ?_
    refine spliced_more ?_
    refine y_L Z.F rfl ?_
    refine spliced_more ?_
    refine y_L Z.F rfl ?_
    refine spliced_none ?_
    refine s_tup Z (Nat.le_of_ble_eq_true rfl) fun T h Y6 le6 zt Z => ?_
    have hle : Le Y2 Y6 := le3.trans (le4.trans (le5.trans le6))
    have Rr : RowS Y6 (.ref T) i x := ⟨_, _, T, _, _, _, rfl, zt⟩
    refine spliced_none ?_
    refine s_append (l1 := []) (l2 := its) Z (by rw [Rs.1]; omega) fun h Z => ?_
    first | refine norm (s := s) (h := h) (fun tk => ?_) | (refine hQn _ ?_; refine norm (s := s) (h := h) fun tk => ?_)
    first | refine wpAny_execs_nil ?_ | (refine hQn _ ?_; refine wpAny_execs_nil ?_)
    refine hQl _ _ ?_
    refine STurn.next (mu := [(D, lstO (vs ++ [.ref T]) (n + 1))]) Z (le.trans hle) ⟨_, _, ss ++ [x], rfl, (Rs.mono hle).snoc (by rw [hl]; exact Rr), by rw [List.length_append, hl]; rfl, fun y hy => ?_, (by exact mr)⟩
    rcases List.mem_append.mp hy with hy | hy
    · exact hbs y hy
    · rw [List.mem_singleton.mp hy]
      have : xs.length ≤ 1000 := by omega
      omega
  · intro m mu Y2 h tk le p96 Z
    refine hide ?_
    intro G9 hG9
    obtain ⟨vs, n, ss, rfl, Rs, hl, hbs, mr⟩ := p96
    refine hG9 ?_
    clear hG9 G9
    refine Z.freeze (l1 := []) fun Y3 le3 zD Z => ?_
    first | refine wpAny_execs_cons ?_ | (refine hQn _ ?_; refine wpAny_execs_cons ?_)
    refine wpAny_Return_some ?_
    refine y_L Z.F mr ?_
    first | refine hQd _ _ ?_ | refine hQr _ _ (hQd _ _ ?_)
    refine s_done0 Z fun Y le4 => ?_
    exact ⟨D, vs, n, ss, rfl, zD.mono le4, Rs.mono (le3.trans le4), hl, hbs⟩
end
theorem flat_len (p : Nat) : ∀ L : List (List Int), (L.flatMap (stepL p)).length = L.length * (p + 1)
  | [] => by simp
  | l :: r => by rw [List.flatMap_cons, List.length_append, flat_len p r, List.length_cons, Nat.succ_mul]; simp [stepL]; omega
theorem linesX_len {i : Nat} (h : i < 4) : (linesX i).length ≤ 6 := by
  match i, h with
  | 0, _ => decide
  | 1, _ => decide
  | 2, _ => decide
  | 3, _ => decide
theorem hlen4 {i j : Nat} {l : List Int} (hi : i < 4) (h : (linesX i)[j]? = some l) : l.length ≤ 900 := by
  have hm : l ∈ linesX i := List.mem_of_getElem? h
  have : ∀ l ∈ linesX i, l.length ≤ 900 := by
    match i, hi with
    | 0, _ => decide
    | 1, _ => decide
    | 2, _ => decide
    | 3, _ => decide
  exact this l hm
section
variable {W : Wd} {A : Around} {s : Shared} {g : Heap} {R : Rl}
theorem lines_ok {t : Tok} (Cg : Cx Mine.hd.heap_39 W g) (hr : A.depth + 2 < recursionLimit) (hh : A.handled = none) (hR : Le R (hp g)) :
    Does PR W A (call (.ref 121) [.int 4 t]) s g [] (Post0 R fun r Y => ∃ a vs n, r = .ref a ∧ At Y a (lstO vs n) ∧ IntLs Y vs (linesX 4)) := by
  refine' enterC (binds := [(Str.ofString "size", .int 4 t)]) Cg ?k1 ?k2 (by omega) ?k3 ?k4 ?k5 ?k6 ?k7 ?k8 ?_
  case k1 => k_is
  case k2 => k_is
  case k3 => exact fun _ => BindsTo.of_eq rfl
  case k4 => rfl
  case k5 => decide +kernel
  case k6 => rfl
  case k7 => rfl
  case k8 => rfl
  intro b L h tk cells st C F N Y hlt
  first | refine entS ?_ | refine entSE ?_
  intro e Qd hQd
  have Z := St.startC (R := R) F N (fun a o q => st _ _ (hR a o q)) Y (by decide) hlt
  refine hide ?_
  intro G9 hG9
  obtain ⟨oP, c1, rfl, dP, Y⟩ := cells_un Y
  refine hG9 ?_
  clear hG9 G9
  refine hide ?_
  intro G9 hG9
  obtain rfl := cells_no Y
  refine hG9 ?_
  clear hG9 G9
  clear Y N F
  first | refine exS ?_ | (refine hQn _ ?_; refine exS ?_)
  intro Q1 hQn hQr
  refine wpAny_Assign_Name ?_
  refine List_ ?_
  refine spliced_more ?_
  refine List_ ?_
  refine spliced_none ?_
  refine s_lst Z (Nat.zero_le _) fun E0 h Y1 le1 zE Z => ?_
  refine spliced_none ?_
  refine s_lst Z (Nat.le_of_ble_eq_true rfl) fun E1 h Y2 le2 z0 Z => ?_
  have I0 : IntLs Y2 [.ref E0] (linesX 0) := AllAt.nil.snoc (P := IntsL) ⟨E0, [], 0, rfl, zE.mono le2, IntsV.nil⟩
  refine s_st Z fun h tk Z => ?_
  first | refine exS ?_ | (refine hQn _ ?_; refine exS ?_)
  intro Q1 hQn hQr
  refine wpAny_For ?_
  refine Call_ ?_
  refine' y_B C Z.F ?kg boot_range ?_
  case kg => k_is
  refine PyProof.Rows.callWith_type1 ?_
  refine spliced_more ?_
  refine y_L Z.F rfl ?_
  refine spliced_none ?_
  refine s_range1 (n := 4) Z (by decide) fun r0 h u v t1 tk Hr Z => ?_
  refine s_loop (src_range (n := 4) hh (.inl ⟨_, _, rfl⟩) Z Hr rfl rfl) (fun i m mu Y => ∃ a vs n oP vP, mu = [(L + 1, oP)] ∧ oP.data = .cell vP ∧ At Y a (lstO vs n) ∧ IntLs Y vs (linesX i) ∧ m (Str.ofString "lines") = some (.ref a)) ?_ ?_ ?_
  · exact ⟨E1, _, 0, oP, _, rfl, dP, z0, I0, rfl⟩
  · intro its i v m mu Y3 h tk le3 hi p910 p911 Z
    refine hide ?_
    intro G9 hG9
    obtain ⟨tv, rfl⟩ := p910
    obtain ⟨a, vs, n, oP, vP, rfl, dP, za, IL, ml⟩ := p911
    refine hG9 ?_
    clear hG9 G9
    have e0 : (0 + (i : Int) * 1) = (i : Int) := by omega
    rw [e0]
    try (refine loopS ?_; intro Ql hQl)
    refine wpAny_assign_Name ?_
    refine s_stC (l1 := []) Z dP fun h tk oP dP Z => ?_
    have hll := linesX_len hi
    first | refine exS ?_ | (refine hQn _ ?_; refine exS ?_)
    intro Q1 hQn hQr
    refine s_compA2 rfl rfl rfl (by decide) (fun _ => rfl) ?_
    refine y_L Z.F ml ?_
    refine s_compU2 (ms := []) Z hh rfl rfl rfl (.list za) (fun _ _ => rfl) (fun cA j ys ms Y => ms = [] ∧ IntLs Y ys (((linesX i).take j).flatMap (stepL i))) (fun cA => ⟨rfl, AllAt.nil⟩) ?_ ?_
    · intro b' cA I D nD io j v ys mc ms Y4 h tk kb hXb kn hj hv le4 p920 Z hio
      refine hide ?_
      intro G9 hG9
      obtain ⟨rfl, IY⟩ := p920
      refine hG9 ?_
      clear hG9 G9
      have C := C.keeps kb
      refine hide ?_
      intro G9 hG9
      obtain ⟨l, hl, la, ws, nl, rfl, zl, Iw⟩ := IL.at' hv
      refine hG9 ?_
      clear hG9 G9
      have hjl : j < (linesX i).length := (List.getElem?_eq_some_iff.mp hl).1
      have hwl : ws.length ≤ 900 := by rw [Iw.1]; exact hlen4 hi hl
      have hyl : ys.length ≤ 24 := by rw [IY.1, flat_len, List.length_take]; have : (min j (linesX i).length) * (i + 1) ≤ 6 * 4 := Nat.mul_le_mul (by omega) (by omega); omega
      first | (refine turnS ?_; intro e P1 P0 hQ1 hQ0) | (refine floopS ?_; intro Ql hQl) | skip
      refine lot_name ?_
      try (refine loopS ?_; intro Ql hQl)
      refine wpAny_assign_Name ?_
      refine s_st Z fun h tk Z => ?_
      refine Call_ ?_
      refine' y_B C Z.F ?kg boot_range ?_
      case kg => k_is
      refine PyProof.Rows.callWith_type1 ?_
      refine spliced_more ?_
      refine wpAny_BinOp ?_
      refine y_C (Z.F.keep _ _ (kn _ (.head _))) dP ?_
      refine n_ci fun tk => ?_
      refine n_add fun tk => ?_
      refine spliced_none ?_
      rw [show (i : Int) + 1 = ((i + 1 : Nat) : Int) by omega]
      refine s_range1 (n := i + 1) Z (by omega) fun r1 h u v t2 tk Hr Z => ?_
      refine s_in2 hh (.inl ⟨_, _, rfl⟩) Z Hr (by omega) (fun k mc mu Y => ∃ ys' nD', mu = [(I, io), (D, lstO ys' nD')] ∧ IntLs Y ys' ((((linesX i).take j).flatMap (stepL i)) ++ (List.range k).map fun k => l.take k ++ [(i : Int)] ++ l.drop k) ∧ ys'.length = ys.length + k ∧ mc (Str.ofString "line") = some (.ref la)) ?_ ?_ ?_
      · exact ⟨ys, nD, rfl, by rw [List.range_zero, List.map_nil, List.append_nil]; exact IY, rfl, rfl⟩
      · intro its2 k tk1 mk mu Y5 h tk le5 hk p910 Z
        refine hide ?_
        intro G9 hG9
        obtain ⟨ys', nD', rfl, IZ, hyl2, mli⟩ := p910
        refine hG9 ?_
        clear hG9 G9
        have hC : ∀ {a : Addr} {o : Obj}, At Y3 a o → At Y5 a o := fun q => le5 _ _ (le4 _ _ q)
        try (refine loopS ?_; intro Ql hQl)
        refine wpAny_assign_Name ?_
        refine s_st Z fun h tk Z => ?_
        refine wpAny_BinOp ?_
        refine wpAny_BinOp ?_
        refine Subscript_ ?_
        refine y_L Z.F mli ?_
        refine wpAny_Slice ?_
        refine part_none ?_
        refine part_some ?_
        refine y_L Z.F rfl ?_
        refine part_none ?_
        refine s_slice3 (out := ws.take k) Z (Z.at (hC zl)) .none (.int _ _) .none (by decide) (by omega) (pick_upto (a := k)) fun D1 h tk Y6 le6 z1 Z => ?_
        refine List_ ?_
        refine spliced_more ?_
        refine y_C (Z.F.keep _ _ (kn _ (.head _))) dP ?_
        refine spliced_none ?_
        refine s_lst Z (Nat.le_of_ble_eq_true rfl) fun D2 h Y7 le7 z2 Z => ?_
        refine s_add Z (Z.at (z1.mono le7)) (Z.at z2) (by rw [List.length_take]; simp; omega) fun D3 h Y8 le8 z3 Z => ?_
        refine Subscript_ ?_
        refine y_L Z.F mli ?_
        refine wpAny_Slice ?_
        refine part_some ?_
        refine y_L Z.F rfl ?_
        refine part_none ?_
        refine part_none ?_
        refine s_slice3 (out := ws.drop k) Z (Z.at ((((hC zl).mono le6).mono le7).mono le8)) (.int _ _) .none .none (by decide) (by omega) (pick_from (a := k)) fun D4 h tk Y9 le9 z4 Z => ?_
        refine s_add Z (Z.at (z3.mono le9)) (Z.at z4) (by rw [List.length_append, List.length_take, List.length_drop]; simp; omega) fun D5 h Ya lea z5 Z => ?_
        refine s_append (l1 := [(I, io)]) (l2 := its2) Z (by omega) fun h Z => ?_
        have lef : Le Y5 Ya := le6.trans (le7.trans (le8.trans (le9.trans lea)))
        refine ⟨_, [(I, io), (D, _)], Ya, lef, Z, ⟨_, _, rfl, ?_, by rw [List.length_append, hyl2]; rfl, mli⟩, rfl⟩
        rw [List.range_succ, List.map_append, ← List.append_assoc]
        exact (IntLs.mono IZ lef).snoc ⟨D5, _, 0, rfl, z5, ((Iw.take k).app (.of (.cons _ _ .nil))).app (IntsV.of (Iw.are.drop k))⟩
      · intro mk mu Y5 h tk le5 p96 Z
        refine hide ?_
        intro G9 hG9
        obtain ⟨ys', nD', rfl, IZ, hyl2, mli⟩ := p96
        refine hG9 ?_
        clear hG9 G9
        refine ⟨rfl, ys', nD', SEnd.intro (ms := []) Z ⟨rfl, ?_⟩⟩
        rw [List.take_add_one, hl, List.flatMap_append]
        show IntLs Y5 ys' (_ ++ (stepL i l ++ []))
        rw [List.append_nil]
        exact IZ
    intro cA D nD h tk ys ms Y4 le4 p99 Z
    refine hide ?_
    intro G9 hG9
    obtain ⟨rfl, IY⟩ := p99
    refine hG9 ?_
    clear hG9 G9
    refine Z.freeze (l1 := []) fun Y5 le5 zD Z => ?_
    first | refine wpAny_execs_nil ?_ | (refine hQn _ ?_; refine wpAny_execs_nil ?_)
    refine hQl _ _ ?_
    refine STurn.next (mu := [(L + 1, oP)]) Z (le3.trans (le4.trans le5)) ⟨D, ys, nD, oP, _, rfl, dP, zD, ?_, (by exact rfl)⟩
    have hvl : vs.length = (linesX i).length := IL.1
    rw [hvl, List.take_length] at IY
    exact IntLs.mono IY le5
  · intro m mu Y3 h tk le3 p96 Z
    refine hide ?_
    intro G9 hG9
    obtain ⟨a, vs, n, oP, vP, rfl, dP, za, IL, ml⟩ := p96
    refine hG9 ?_
    clear hG9 G9
    first | refine wpAny_execs_cons ?_ | (refine hQn _ ?_; refine wpAny_execs_cons ?_)
    refine wpAny_Return_some ?_
    refine y_L Z.F ml ?_
    first | refine hQd _ _ ?_ | refine hQr _ _ (hQd _ _ ?_)
    refine s_done0 (Z.drop (l1 := [])) fun Y le => ?_
    exact ⟨a, vs, n, rfl, za.mono le, IntLs.mono IL le⟩
end
section
variable {W : Wd} {A : Around} {s : Shared} {g : Heap} {R : Rl}
theorem sign_ok {v w : Value} {xs ys : List Int} (Cg : Cx Mine.hd.heap_39 W g) (hr : A.depth + 1 < recursionLimit) (hu : A.units + 5 < cLine) (hR : Le R (hp g)) (hx : IntsL R v xs) (hy : IntsL R w ys) :
    Does PR W A (call (.ref 128) [v, w]) s g [] (Post0 R fun r _ => ∃ t, r = .int (sgnL xs ys) t) := by
  refine' enter (binds := [(Str.ofString "one", v), (Str.ofString "other", w)]) Cg ?k1 ?k2 (by omega) ?k3 ?k4 ?k5 ?k6 ?k7 ?k8 ?_
  case k1 => k_is
  case k2 => k_is
  case k3 => exact fun _ => BindsTo.of_eq rfl
  case k4 => exact locs rfl
  case k5 => decide
  case k6 => rfl
  case k7 => rfl
  case k8 => rfl
  intro b L h st C F N hlt
  first | refine entS ?_ | refine entSE ?_
  intro e Qd hQd
  have Z : St R b L h _ [] R := St.start F N (fun a o q => st _ _ (hR a o q)) (by simp)
  refine hide ?_
  intro G9 hG9
  obtain ⟨a1, v1, n1, rfl, z1, i1⟩ := hx
  refine hG9 ?_
  clear hG9 G9
  refine hide ?_
  intro G9 hG9
  obtain ⟨a2, v2, n2, rfl, z2, i2⟩ := hy
  refine hG9 ?_
  clear hG9 G9
  first | refine exS ?_ | (refine hQn _ ?_; refine exS ?_)
  intro Q1 hQn hQr
  refine wpAny_If ?_
  refine wpAny_isTrue_Compare1 ?_
  refine y_L Z.F rfl ?_
  refine y_L Z.F rfl ?_
  refine lt_lists (Z.at z1) (Z.at z2) i1 i2 (by show A.units + 3 < _; omega) ?_
  refine wpAny_truthy_bool ?_
  refine ite_b (fun q => ?_) (fun q => ?_)
  · first | refine norm (s := s) (h := h) (fun tk => ?_) | (refine hQn _ ?_; refine norm (s := s) (h := h) fun tk => ?_)
    refine wpAny_execs_cons ?_
    refine wpAny_Return_some ?_
    refine wpAny_UnaryOp ?_
    refine n_ci fun tk => ?_
    refine n_neg fun tk => ?_
    have e1 : sgnL xs ys = -1 := by unfold sgnL; rw [show lexL xs ys = true from q, if_pos rfl]
    first | refine hQd _ _ ?_ | refine hQr _ _ (hQd _ _ ?_)
    refine s_done0 Z fun Y _ => ?_
    rw [e1]
    exact ⟨_, rfl⟩
  · have q' : lexL xs ys = false := q
    first | refine norm (s := s) (h := h) (fun tk => ?_) | (refine hQn _ ?_; refine norm (s := s) (h := h) fun tk => ?_)
    first | refine wpAny_execs_nil ?_ | (refine hQn _ ?_; refine wpAny_execs_nil ?_)
    first | refine wpAny_execs_cons ?_ | (refine hQn _ ?_; refine wpAny_execs_cons ?_)
    refine wpAny_Return_some ?_
    refine wpAny_IfExp ?_
    refine wpAny_isTrue_Compare1 ?_
    refine y_L Z.F rfl ?_
    refine y_L Z.F rfl ?_
    refine gt_lists (Z.at z1) (Z.at z2) i1 i2 (by show A.units + 3 < _; omega) ?_
    refine wpAny_truthy_bool ?_
    refine ite_b (fun q2 => ?_) (fun q2 => ?_)
    · first | refine norm (s := s) (h := h) (fun tk => ?_) | (refine hQn _ ?_; refine norm (s := s) (h := h) fun tk => ?_)
      refine n_ci fun tk => ?_
      have e1 : sgnL xs ys = 1 := by unfold sgnL; rw [q', if_neg Bool.false_ne_true, q2, if_pos rfl]
      first | refine hQd _ _ ?_ | refine hQr _ _ (hQd _ _ ?_)
      refine s_done0 Z fun Y _ => ?_
      rw [e1]
      exact ⟨_, rfl⟩
    · first | refine norm (s := s) (h := h) (fun tk => ?_) | (refine hQn _ ?_; refine norm (s := s) (h := h) fun tk => ?_)
      refine n_ci fun tk => ?_
      have e1 : sgnL xs ys = 0 := by unfold sgnL; rw [q', if_neg Bool.false_ne_true, q2, if_neg Bool.false_ne_true]
      first | refine hQd _ _ ?_ | refine hQr _ _ (hQd _ _ ?_)
      refine s_done0 Z fun Y _ => ?_
      rw [e1]
      exact ⟨_, rfl⟩
end
section
variable {prog : Program} {w : World} {A : Around} {s : Shared} {env : Env} {R X : Rl} {b h : Heap} {tk : Nat} {L : Addr} {m : Str → Option Value} {mu : Led} {E : Value → Shared → Prop} {Q : Value → Shared → Prop}
theorem s_dictI1 {ek : PySem.Expr} {n1 : Nat} {p1 pos : Pos} {c : Int} (Z : St R b L h m mu X) (hn : b.NoLimit)
    (h1 : ∀ d o h tk (Q' : Value → Shared → Prop), St R b L h m ((d, o) :: mu) X → (∀ t, Q' (.int c t) { s with heap := h, toks := tk }) → wpAny (model prog w) A (eval ek env) Q' E { s with heap := h, toks := tk })
    (q : ∀ d Y h' tk', Le X Y → DictI (intKind prog w) Y d [(c, 1)] → St R b L h' m mu Y → Q (.ref d) { s with heap := h', toks := tk' }) :
    wpAny (model prog w) A (eval (.Dict [some ek] [.Constant (.int 1) n1 p1] pos) env) Q E { s with heap := h, toks := tk } := by
  refine s_dictS (knd := intKind prog w) Z hn rfl rfl (by simp) (Nat.le_of_ble_eq_true rfl) fun d0 o0 h hd0 ho0 Z => ?_
  refine pairTrees_cons_walk ?_
  refine h1 d0 o0 h tk _ Z fun t => ?_
  refine n_ci fun tk2 => ?_
  refine pairTrees_nil_walk ?_
  exact ⟨[(c, .int 1 tk)], [(c, 1)], h, tk2, X, rfl, ⟨by show Value.isInt c (.int c t) = true; simp [Value.isInt], rfl, True.intro⟩, .cons .nil, by simp, Le.refl _, Z, fun Y5 h tk le Dl Z => q _ _ _ _ le Dl Z⟩
end
theorem IntsV.insAt {vs : List Value} {ns : List Int} {x : Int} {t : Tok} (h : IntsV vs ns) (k : Nat) : IntsV (Mine.insAt k (.int x t) vs) (Mine.insAt k x ns) :=
  (IntsV.of (h.are.take k)).app (IntsV.of (.cons x t (h.are.drop k)))
noncomputable def FallsAt (X : Rl) (v : Value) (F : Nat → Nat → Bool) : Prop := ∃ a vs n, v = .ref a ∧ At X a (lstO vs n) ∧ ∀ i, i < 4 → ∃ r ws k, vs[i]? = some (.ref r) ∧ At X r (lstO ws k) ∧ ∀ j, j < 4 → ws[j]? = some (.bool (F i j))
theorem FallsAt.mono {X Y : Rl} {v : Value} {F : Nat → Nat → Bool} (h : FallsAt X v F) (k : Le X Y) : FallsAt Y v F :=
  let ⟨a, vs, n, e, z, q⟩ := h; ⟨a, vs, n, e, z.mono k, fun i hi => let ⟨r, ws, c, e1, z1, q1⟩ := q i hi; ⟨r, ws, c, e1, z1.mono k, q1⟩⟩
noncomputable def fallAt (F : Nat → Nat → Bool) (l : List Int) (k : Nat) : Bool := F (l.getD k 0).toNat (l.getD (k + 1) 0).toNat
noncomputable def cntF (F : Nat → Nat → Bool) (l : List Int) : Nat := ((List.range 3).filter (fallAt F l)).length
noncomputable def pLi (ns : List Int) (x : Int) (i : Nat) : Bool := decide (ns.getD i 0 < x)
noncomputable def pRi (ns : List Int) (x : Int) (i : Nat) : Bool := !decide (x < ns.getD i 0)
noncomputable def insI (i : Nat) (ns : List Int) (c : Int) : List Int := insAt (bis (if i % 2 = 1 then pLi ns c else pRi ns c) 0 ns.length).1 c ns
noncomputable def countsX (F : Nat → Nat → Bool) (ls : List (List Int)) : Nat → List Int
  | 0 => []
  | i + 1 => match ls[i]? with
    | some l => insI i (countsX F ls i) (cntF F l)
    | none => countsX F ls i
theorem countsX_len (F : Nat → Nat → Bool) (ls : List (List Int)) : ∀ i, (countsX F ls i).length ≤ i
  | 0 => Nat.le_refl _
  | i + 1 => by
    have ih := countsX_len F ls i
    unfold countsX
    cases ls[i]? with
    | none => exact Nat.le_succ_of_le ih
    | some l =>
      show (insAt _ _ _).length ≤ _
      unfold Mine.insAt
      simp only [List.length_append, List.length_cons, List.length_take, List.length_drop]
      omega
section
variable {W : Wd} {A : Around} {s : Shared} {g : Heap} {R : Rl}
theorem bisect_left_int {a : Addr} {vs : List Value} {n : Nat} {ns : List Int} {x : Int} {tx t0 : Tok} {pos : List Value} {kw : List (Str × Value)} (Cg : Cx Mine.hd.heap_39 W g) (hr : A.depth + 1 < recursionLimit) (hh : A.handled = none)
    (ha : g.get? a = some (lstO vs n)) (hIv : IntsV vs ns) (hlen : vs.length ≤ 900)
    (hb : ∀ oc od fd sl, (Mine.hd.heap_39 W.w.params).lookup 92 = some ⟨oc, od, .func fd, sl⟩ → g.StaysIn s.heap → BindsTo s fd ⟨pos, kw⟩ [(Str.ofString "a", .ref a), (Str.ofString "x", .int x tx), (Str.ofString "lo", .int 0 t0), (Str.ofString "hi", .none), (Str.ofString "key", .none)]) :
    Does PR W A (call (.ref 92) pos kw) s g [] (fun r _ => ∃ t, r = .int (((bis (pLi ns x) 0 vs.length).1 : Nat) : Int) t) := by
  refine' enter (binds := [(Str.ofString "a", .ref a), (Str.ofString "x", .int x tx), (Str.ofString "lo", .int 0 t0), (Str.ofString "hi", .none), (Str.ofString "key", .none)]) Cg ?k1 ?k2 (by omega) ?k3 ?k4 ?k5 ?k6 ?k7 ?k8 ?_
  case k1 => k_is
  case k2 => k_is
  case k3 => exact hb _ _ _ _ (by k_is)
  case k4 => exact locs rfl
  case k5 => decide
  case k6 => rfl
  case k7 => rfl
  case k8 => rfl
  intro b L h st C F N hlt
  first | refine entS ?_ | refine entSE ?_
  intro e Qd hQd
  have Z : St (hp g) b L h _ [] (hp g) := St.start F N (fun a o q => st _ _ q) (by simp)
  have za : At (hp g) a (lstO vs n) := ha
  first | refine exS ?_ | (refine hQn _ ?_; refine exS ?_)
  intro Q1 hQn hQr
  refine wpAny_If ?_
  refine wpAny_isTrue_Compare1 ?_
  refine y_L Z.F rfl ?_
  refine n_ci fun tk => ?_
  refine lt_int ?_
  refine wpAny_truthy_bool ?_
  refine ite_b (fun q => absurd (of_decide_eq_true q) (by decide)) (fun _ => ?_)
  first | refine norm (s := s) (h := h) (fun tk => ?_) | (refine hQn _ ?_; refine norm (s := s) (h := h) fun tk => ?_)
  first | refine wpAny_execs_nil ?_ | (refine hQn _ ?_; refine wpAny_execs_nil ?_)
  first | refine exS ?_ | (refine hQn _ ?_; refine exS ?_)
  intro Q1 hQn hQr
  refine wpAny_If ?_
  refine wpAny_isTrue_Compare1 ?_
  refine y_L Z.F rfl ?_
  refine Constant_none ?_
  refine is_none_none ?_
  refine wpAny_truthy_bool ?_
  refine ite_b (fun _ => ?_) (fun q => absurd q (by decide))
  first | refine norm (s := s) (h := h) (fun tk => ?_) | (refine hQn _ ?_; refine norm (s := s) (h := h) fun tk => ?_)
  refine wpAny_execs_cons ?_
  refine wpAny_Assign_Name ?_
  refine Call_ ?_
  refine' y_B C Z.F ?kg boot_len ?_
  case kg => k_is
  refine PyProof.Rows.callWith_builtin1 ?_
  refine spliced_more ?_
  refine y_L Z.F rfl ?_
  refine spliced_none ?_
  refine n_len (Z.at za) (by omega) fun t tk => ?_
  refine s_st Z fun h tk Z => ?_
  first | refine wpAny_execs_nil ?_ | (refine hQn _ ?_; refine wpAny_execs_nil ?_)
  first | refine exS ?_ | (refine hQn _ ?_; refine exS ?_)
  intro Q1 hQn hQr
  refine wpAny_If ?_
  refine wpAny_isTrue_Compare1 ?_
  refine y_L Z.F rfl ?_
  refine Constant_none ?_
  refine is_none_none ?_
  refine wpAny_truthy_bool ?_
  refine ite_b (fun _ => ?_) (fun q => absurd q (by decide))
  first | refine norm (s := s) (h := h) (fun tk => ?_) | (refine hQn _ ?_; refine norm (s := s) (h := h) fun tk => ?_)
  refine wpAny_execs_cons ?_
  refine s_while (k := vs.length) (fun k m mu Y => ∃ (lo hi tl th : Nat), mu = [] ∧ k = hi - lo ∧ hi ≤ vs.length ∧ m (Str.ofString "a") = some (.ref a) ∧ m (Str.ofString "x") = some (.int x tx) ∧ m (Str.ofString "lo") = some (.int (lo : Int) tl) ∧ m (Str.ofString "hi") = some (.int (hi : Int) th) ∧
      (bis (pLi ns x) 0 vs.length).1 = (bis (pLi ns x) lo hi).1) Z ⟨0, vs.length, _, _, rfl, by omega, Nat.le_refl _, rfl, rfl, rfl, rfl, rfl⟩ ?_
  intro k m mu Y h tk le p97 Z Ql hQl
  refine hide ?_
  intro G9 hG9
  obtain ⟨lo, hi, tl, th, rfl, rfl, hle, ma, mx, mlo, mhi, e1⟩ := p97
  refine hG9 ?_
  clear hG9 G9
  refine wpAny_isTrue_Compare1 ?_
  refine y_L Z.F mlo ?_
  refine y_L Z.F mhi ?_
  refine lt_int ?_
  refine wpAny_truthy_bool ?_
  refine ite_b (fun q => ?_) (fun q => ?_)
  · have hlt : lo < hi := by have := of_decide_eq_true q; omega
    first | refine norm (s := s) (h := h) (fun tk => ?_) | (refine hQn _ ?_; refine norm (s := s) (h := h) fun tk => ?_)
    first | refine exS ?_ | (refine hQn _ ?_; refine exS ?_)
    intro Q1 hQn hQr
    refine wpAny_Assign_Name ?_
    refine wpAny_BinOp ?_
    refine wpAny_BinOp ?_
    refine y_L Z.F mlo ?_
    refine y_L Z.F mhi ?_
    refine n_add fun tk => ?_
    refine n_ci fun tk => ?_
    refine n_fdiv (by decide) (PyProof.noPylong_of_log2 (by decide +kernel)) fun tk => ?_
    rw [mid_half]
    refine hide ?_
    intro G9 hG9
    obtain ⟨mid, hm⟩ : ∃ y, (lo + hi) / 2 = y := ⟨_, rfl⟩
    refine hG9 ?_
    clear hG9 G9
    rw [hm]
    have hmid : mid < ns.length := by rw [← hIv.1]; omega
    refine hide ?_
    intro G9 hG9
    obtain ⟨tv, hv⟩ := hIv.2 mid ns[mid] (List.getElem?_eq_getElem hmid)
    refine hG9 ?_
    clear hG9 G9
    have hgd : ns.getD mid 0 = ns[mid] := by rw [List.getD_eq_getElem?_getD, List.getElem?_eq_getElem hmid]; rfl
    have hpe : pLi ns x mid = (decide (ns[mid] < x)) := by unfold pLi; rw [hgd]
    refine s_st Z fun h tk Z => ?_
    first | refine exS ?_ | (refine hQn _ ?_; refine exS ?_)
    intro Q1 hQn hQr
    refine wpAny_If ?_
    refine wpAny_isTrue_Compare1 ?_
    refine Subscript_ ?_
    refine y_L Z.F ma ?_
    refine y_L Z.F rfl ?_
    refine list_item (i := mid) (Z.at (za.mono le)) rfl (by omega) hv ?_
    refine y_L Z.F mx ?_
    refine lt_int ?_
    refine wpAny_truthy_bool ?_
    refine ite_b (fun q => ?_) (fun q => ?_)
    · have hb1 := bis_right (p := pLi ns x) hlt (by rw [hm, hpe]; exact q)
      rw [hm] at hb1
      first | refine norm (s := s) (h := h) (fun tk => ?_) | (refine hQn _ ?_; refine norm (s := s) (h := h) fun tk => ?_)
      refine wpAny_execs_cons ?_
      refine wpAny_Assign_Name ?_
      refine wpAny_BinOp ?_
      refine y_L Z.F rfl ?_
      refine n_ci fun tk => ?_
      refine n_add fun tk => ?_
      refine s_st Z fun h tk Z => ?_
      first | refine wpAny_execs_nil ?_ | (refine hQn _ ?_; refine wpAny_execs_nil ?_)
      first | refine wpAny_execs_nil ?_ | (refine hQn _ ?_; refine wpAny_execs_nil ?_)
      refine hQl _ _ ?_
      exact SWTurn.next (k' := hi - (mid + 1)) (by omega) Z le ⟨mid + 1, hi, _, th, rfl, rfl, hle, ma, mx, rfl, mhi, by rw [e1, hb1]⟩
    · have hb1 := bis_left (p := pLi ns x) hlt (by rw [hm, hpe]; exact q)
      rw [hm] at hb1
      first | refine norm (s := s) (h := h) (fun tk => ?_) | (refine hQn _ ?_; refine norm (s := s) (h := h) fun tk => ?_)
      refine wpAny_execs_cons ?_
      refine wpAny_Assign_Name ?_
      refine y_L Z.F rfl ?_
      refine s_st Z fun h tk Z => ?_
      first | refine wpAny_execs_nil ?_ | (refine hQn _ ?_; refine wpAny_execs_nil ?_)
      first | refine wpAny_execs_nil ?_ | (refine hQn _ ?_; refine wpAny_execs_nil ?_)
      refine hQl _ _ ?_
      exact SWTurn.next (k' := mid - lo) (by omega) Z le ⟨lo, mid, tl, _, rfl, rfl, by omega, ma, mx, mlo, rfl, by rw [e1, hb1]⟩
  · have hb1 := bis_done (p := pLi ns x) (lo := lo) (hi := hi) (by have := of_decide_eq_false q; omega)
    first | refine wpAny_execs_nil ?_ | (refine hQn _ ?_; refine wpAny_execs_nil ?_)
    first | refine wpAny_execs_cons ?_ | (refine hQn _ ?_; refine wpAny_execs_cons ?_)
    refine wpAny_Return_some ?_
    refine y_L Z.F mlo ?_
    first | refine hQd _ _ ?_ | refine hQr _ _ (hQd _ _ ?_)
    refine s_done (mu := []) Z fun fr _ _ => ?_
    rw [e1, hb1]
    exact ⟨_, rfl⟩
theorem bisect_right_int {a : Addr} {vs : List Value} {n : Nat} {ns : List Int} {x : Int} {tx t0 : Tok} {pos : List Value} {kw : List (Str × Value)} (Cg : Cx Mine.hd.heap_39 W g) (hr : A.depth + 1 < recursionLimit) (hh : A.handled = none)
    (ha : g.get? a = some (lstO vs n)) (hIv : IntsV vs ns) (hlen : vs.length ≤ 900)
    (hb : ∀ oc od fd sl, (Mine.hd.heap_39 W.w.params).lookup 74 = some ⟨oc, od, .func fd, sl⟩ → g.StaysIn s.heap → BindsTo s fd ⟨pos, kw⟩ [(Str.ofString "a", .ref a), (Str.ofString "x", .int x tx), (Str.ofString "lo", .int 0 t0), (Str.ofString "hi", .none), (Str.ofString "key", .none)]) :
    Does PR W A (call (.ref 74) pos kw) s g [] (fun r _ => ∃ t, r = .int (((bis (pRi ns x) 0 vs.length).1 : Nat) : Int) t) := by
  refine' enter (binds := [(Str.ofString "a", .ref a), (Str.ofString "x", .int x tx), (Str.ofString "lo", .int 0 t0), (Str.ofString "hi", .none), (Str.ofString "key", .none)]) Cg ?k1 ?k2 (by omega) ?k3 ?k4 ?k5 ?k6 ?k7 ?k8 ?_
  case k1 => k_is
  case k2 => k_is
  case k3 => exact hb _ _ _ _ (by k_is)
  case k4 => exact locs rfl
  case k5 => decide
  case k6 => rfl
  case k7 => rfl
  case k8 => rfl
  intro b L h st C F N hlt
  first | refine entS ?_ | refine entSE ?_
  intro e Qd hQd
  have Z : St (hp g) b L h _ [] (hp g) := St.start F N (fun a o q => st _ _ q) (by simp)
  have za : At (hp g) a (lstO vs n) := ha
  first | refine exS ?_ | (refine hQn _ ?_; refine exS ?_)
  intro Q1 hQn hQr
  refine wpAny_If ?_
  refine wpAny_isTrue_Compare1 ?_
  refine y_L Z.F rfl ?_
  refine n_ci fun tk => ?_
  refine lt_int ?_
  refine wpAny_truthy_bool ?_
  refine ite_b (fun q => absurd (of_decide_eq_true q) (by decide)) (fun _ => ?_)
  first | refine norm (s := s) (h := h) (fun tk => ?_) | (refine hQn _ ?_; refine norm (s := s) (h := h) fun tk => ?_)
  first | refine wpAny_execs_nil ?_ | (refine hQn _ ?_; refine wpAny_execs_nil ?_)
  first | refine exS ?_ | (refine hQn _ ?_; refine exS ?_)
  intro Q1 hQn hQr
  refine wpAny_If ?_
  refine wpAny_isTrue_Compare1 ?_
  refine y_L Z.F rfl ?_
  refine Constant_none ?_
  refine is_none_none ?_
  refine wpAny_truthy_bool ?_
  refine ite_b (fun _ => ?_) (fun q => absurd q (by decide))
  first | refine norm (s := s) (h := h) (fun tk => ?_) | (refine hQn _ ?_; refine norm (s := s) (h := h) fun tk => ?_)
  refine wpAny_execs_cons ?_
  refine wpAny_Assign_Name ?_
  refine Call_ ?_
  refine' y_B C Z.F ?kg boot_len ?_
  case kg => k_is
  refine PyProof.Rows.callWith_builtin1 ?_
  refine spliced_more ?_
  refine y_L Z.F rfl ?_
  refine spliced_none ?_
  refine n_len (Z.at za) (by omega) fun t tk => ?_
  refine s_st Z fun h tk Z => ?_
  first | refine wpAny_execs_nil ?_ | (refine hQn _ ?_; refine wpAny_execs_nil ?_)
  first | refine exS ?_ | (refine hQn _ ?_; refine exS ?_)
  intro Q1 hQn hQr
  refine wpAny_If ?_
  refine wpAny_isTrue_Compare1 ?_
  refine y_L Z.F rfl ?_
  refine Constant_none ?_
  refine is_none_none ?_
  refine wpAny_truthy_bool ?_
  refine ite_b (fun _ => ?_) (fun q => absurd q (by decide))
  first | refine norm (s := s) (h := h) (fun tk => ?_) | (refine hQn _ ?_; refine norm (s := s) (h := h) fun tk => ?_)
  refine wpAny_execs_cons ?_
  refine s_while (k := vs.length) (fun k m mu Y => ∃ (lo hi tl th : Nat), mu = [] ∧ k = hi - lo ∧ hi ≤ vs.length ∧ m (Str.ofString "a") = some (.ref a) ∧ m (Str.ofString "x") = some (.int x tx) ∧ m (Str.ofString "lo") = some (.int (lo : Int) tl) ∧ m (Str.ofString "hi") = some (.int (hi : Int) th) ∧
      (bis (pRi ns x) 0 vs.length).1 = (bis (pRi ns x) lo hi).1) Z ⟨0, vs.length, _, _, rfl, by omega, Nat.le_refl _, rfl, rfl, rfl, rfl, rfl⟩ ?_
  intro k m mu Y h tk le p97 Z Ql hQl
  refine hide ?_
  intro G9 hG9
  obtain ⟨lo, hi, tl, th, rfl, rfl, hle, ma, mx, mlo, mhi, e1⟩ := p97
  refine hG9 ?_
  clear hG9 G9
  refine wpAny_isTrue_Compare1 ?_
  refine y_L Z.F mlo ?_
  refine y_L Z.F mhi ?_
  refine lt_int ?_
  refine wpAny_truthy_bool ?_
  refine ite_b (fun q => ?_) (fun q => ?_)
  · have hlt : lo < hi := by have := of_decide_eq_true q; omega
    first | refine norm (s := s) (h := h) (fun tk => ?_) | (refine hQn _ ?_; refine norm (s := s) (h := h) fun tk => ?_)
    first | refine exS ?_ | (refine hQn _ ?_; refine exS ?_)
    intro Q1 hQn hQr
    refine wpAny_Assign_Name ?_
    refine wpAny_BinOp ?_
    refine wpAny_BinOp ?_
    refine y_L Z.F mlo ?_
    refine y_L Z.F mhi ?_
    refine n_add fun tk => ?_
    refine n_ci fun tk => ?_
    refine n_fdiv (by decide) (PyProof.noPylong_of_log2 (by decide +kernel)) fun tk => ?_
    rw [mid_half]
    refine hide ?_
    intro G9 hG9
    obtain ⟨mid, hm⟩ : ∃ y, (lo + hi) / 2 = y := ⟨_, rfl⟩
    refine hG9 ?_
    clear hG9 G9
    rw [hm]
    have hmid : mid < ns.length := by rw [← hIv.1]; omega
    refine hide ?_
    intro G9 hG9
    obtain ⟨tv, hv⟩ := hIv.2 mid ns[mid] (List.getElem?_eq_getElem hmid)
    refine hG9 ?_
    clear hG9 G9
    have hgd : ns.getD mid 0 = ns[mid] := by rw [List.getD_eq_getElem?_getD, List.getElem?_eq_getElem hmid]; rfl
    have hpe : pRi ns x mid = (!decide (x < ns[mid])) := by unfold pRi; rw [hgd]
    refine s_st Z fun h tk Z => ?_
    first | refine exS ?_ | (refine hQn _ ?_; refine exS ?_)
    intro Q1 hQn hQr
    refine wpAny_If ?_
    refine wpAny_isTrue_Compare1 ?_
    refine y_L Z.F mx ?_
    refine Subscript_ ?_
    refine y_L Z.F ma ?_
    refine y_L Z.F rfl ?_
    refine list_item (i := mid) (Z.at (za.mono le)) rfl (by omega) hv ?_
    refine lt_int ?_
    refine wpAny_truthy_bool ?_
    refine ite_b (fun q => ?_) (fun q => ?_)
    · have hb1 := bis_left (p := pRi ns x) hlt (by rw [hm, hpe]; rw [q]; rfl)
      rw [hm] at hb1
      first | refine norm (s := s) (h := h) (fun tk => ?_) | (refine hQn _ ?_; refine norm (s := s) (h := h) fun tk => ?_)
      refine wpAny_execs_cons ?_
      refine wpAny_Assign_Name ?_
      refine y_L Z.F rfl ?_
      refine s_st Z fun h tk Z => ?_
      first | refine wpAny_execs_nil ?_ | (refine hQn _ ?_; refine wpAny_execs_nil ?_)
      first | refine wpAny_execs_nil ?_ | (refine hQn _ ?_; refine wpAny_execs_nil ?_)
      refine hQl _ _ ?_
      exact SWTurn.next (k' := mid - lo) (by omega) Z le ⟨lo, mid, tl, _, rfl, rfl, by omega, ma, mx, mlo, rfl, by rw [e1, hb1]⟩
    · have hb1 := bis_right (p := pRi ns x) hlt (by rw [hm, hpe]; rw [q]; rfl)
      rw [hm] at hb1
      first | refine norm (s := s) (h := h) (fun tk => ?_) | (refine hQn _ ?_; refine norm (s := s) (h := h) fun tk => ?_)
      refine wpAny_execs_cons ?_
      refine wpAny_Assign_Name ?_
      refine wpAny_BinOp ?_
      refine y_L Z.F rfl ?_
      refine n_ci fun tk => ?_
      refine n_add fun tk => ?_
      refine s_st Z fun h tk Z => ?_
      first | refine wpAny_execs_nil ?_ | (refine hQn _ ?_; refine wpAny_execs_nil ?_)
      first | refine wpAny_execs_nil ?_ | (refine hQn _ ?_; refine wpAny_execs_nil ?_)
      refine hQl _ _ ?_
      exact SWTurn.next (k' := hi - (mid + 1)) (by omega) Z le ⟨mid + 1, hi, _, th, rfl, rfl, hle, ma, mx, rfl, mhi, by rw [e1, hb1]⟩
  · have hb1 := bis_done (p := pRi ns x) (lo := lo) (hi := hi) (by have := of_decide_eq_false q; omega)
    first | refine wpAny_execs_nil ?_ | (refine hQn _ ?_; refine wpAny_execs_nil ?_)
    first | refine wpAny_execs_cons ?_ | (refine hQn _ ?_; refine wpAny_execs_cons ?_)
    refine wpAny_Return_some ?_
    refine y_L Z.F mlo ?_
    first | refine hQd _ _ ?_ | refine hQr _ _ (hQd _ _ ?_)
    refine s_done (mu := []) Z fun fr _ _ => ?_
    rw [e1, hb1]
    exact ⟨_, rfl⟩
theorem insort_left_int {a : Addr} {vs : List Value} {n : Nat} {ns : List Int} {x : Int} {tx : Tok} (Cg : Cx Mine.hd.heap_39 W g) (hr : A.depth + 2 < recursionLimit) (hh : A.handled = none) (hIv : IntsV vs ns) (hlen : vs.length ≤ 800) :
    Does PR W A (call (.ref 83) [.ref a, .int x tx]) s g [(a, lstO vs n)] (Post1 (hp g) a fun _ o _ => o = lstO (insAt (bis (pLi ns x) 0 vs.length).1 (.int x tx) vs) (n + 1)) := by
  refine' enter (binds := [(Str.ofString "a", .ref a), (Str.ofString "x", .int x tx), (Str.ofString "lo", .int 0 _), (Str.ofString "hi", .none), (Str.ofString "key", .none)]) Cg ?k1 ?k2 (by omega) ?k3 ?k4 ?k5 ?k6 ?k7 ?k8 ?_
  case k1 => k_is
  case k2 => k_is
  case k3 => (intro st; refine' binds2 (Cg.X.keeps st) ?kb ?kc; (case kb => exact fun _ => rfl); (case kc => rfl))
  case k4 => exact locs rfl
  case k5 => decide
  case k6 => rfl
  case k7 => rfl
  case k8 => rfl
  intro b L h st C F N hlt
  first | refine entS ?_ | refine entSE ?_
  intro e Qd hQd
  have Z : St (hp g) b L h _ [(a, lstO vs n)] (hp g) := St.start F N (fun a o q => st _ _ q) (by simp)
  first | refine exS ?_ | (refine hQn _ ?_; refine exS ?_)
  intro Q1 hQn hQr
  refine wpAny_If ?_
  refine wpAny_isTrue_Compare1 ?_
  refine y_L Z.F rfl ?_
  refine Constant_none ?_
  refine is_none_none ?_
  refine wpAny_truthy_bool ?_
  refine ite_b (fun _ => ?_) (fun q => absurd q (by decide))
  first | refine norm (s := s) (h := h) (fun tk => ?_) | (refine hQn _ ?_; refine norm (s := s) (h := h) fun tk => ?_)
  refine wpAny_execs_cons ?_
  refine wpAny_Assign_Name ?_
  refine Call_ ?_
  refine' y_K C Z.F ?kg ?_
  case kg => k_is
  refine' callWith_K C.X ?kc ?_
  case kc => k_is
  refine spliced_more ?_
  refine y_L Z.F rfl ?_
  refine spliced_more ?_
  refine y_L Z.F rfl ?_
  refine spliced_more ?_
  refine y_L Z.F rfl ?_
  refine spliced_more ?_
  refine y_L Z.F rfl ?_
  refine spliced_none ?_
  refine ⟨C.X.keeps Z.F.keep, ?_⟩
  refine norm (s := s) (h := h) fun tk => ?_
  refine s_use0 Z (fun g' k1 k2 k3 => bisect_left_int (C.keeps k1) (by show A.depth + 1 + 1 < _; omega) hh (k3 _ (.head _)) hIv (by omega) (fun _ _ _ _ e st => by
    refine' binds_by e ?k1 (binds2 ((C.keeps k1).X.keeps st) ?kb ?kc)
    case k1 => k_is
    case kb => exact fun _ => rfl
    case kc => rfl)) ?_
  intro r h tk nw Y p95 le1 le2 Z
  refine hide ?_
  intro G9 hG9
  obtain ⟨t, rfl⟩ := p95
  refine hG9 ?_
  clear hG9 G9
  have hrg := bis_rng (p := pLi ns x) (lo := 0) (hi := vs.length) (Nat.zero_le _)
  refine hide ?_
  intro G9 hG9
  obtain ⟨p, hpos⟩ : ∃ y, (bis (pLi ns x) 0 vs.length).1 = y := ⟨_, rfl⟩
  refine hG9 ?_
  clear hG9 G9
  rw [hpos] at hrg ⊢
  refine s_st Z fun h tk Z => ?_
  first | refine wpAny_execs_nil ?_ | (refine hQn _ ?_; refine wpAny_execs_nil ?_)
  first | refine exS ?_ | (refine hQn _ ?_; refine exS ?_)
  intro Q1 hQn hQr
  refine wpAny_Expr_any ?_
  refine MethodCall_ ?_
  refine y_L Z.F rfl ?_
  refine listMethod_K Z.N (.head _) PySem.F.slot_list_insert PySem.F.type_list_insert ?_
  refine callWith_method1 ?_
  refine spliced_more ?_
  refine y_L Z.F rfl ?_
  refine spliced_more ?_
  refine y_L Z.F rfl ?_
  refine spliced_none ?_
  refine Z.hd fun rest N off mk => ?_
  refine kl_insert Z.F N (by simp [Builtin.List.listFitsIndex]; omega) (kl_insAt hrg.2) (Upd.head off) (by have hs : sizeLine = 16777216 := rfl; simp; omega) ?_
  intro h F N
  have Z := mk F N
  first | refine wpAny_execs_nil ?_ | (refine hQn _ ?_; refine wpAny_execs_nil ?_)
  first | refine hQd _ _ ?_ | refine hQr _ _ (hQd _ _ ?_)
  exact s_done1 Z fun _ _ => by rw [hpos]
theorem insort_right_int {a : Addr} {vs : List Value} {n : Nat} {ns : List Int} {x : Int} {tx : Tok} (Cg : Cx Mine.hd.heap_39 W g) (hr : A.depth + 2 < recursionLimit) (hh : A.handled = none) (hIv : IntsV vs ns) (hlen : vs.length ≤ 800) :
    Does PR W A (call (.ref 65) [.ref a, .int x tx]) s g [(a, lstO vs n)] (Post1 (hp g) a fun _ o _ => o = lstO (insAt (bis (pRi ns x) 0 vs.length).1 (.int x tx) vs) (n + 1)) := by
  refine' enter (binds := [(Str.ofString "a", .ref a), (Str.ofString "x", .int x tx), (Str.ofString "lo", .int 0 _), (Str.ofString "hi", .none), (Str.ofString "key", .none)]) Cg ?k1 ?k2 (by omega) ?k3 ?k4 ?k5 ?k6 ?k7 ?k8 ?_
  case k1 => k_is
  case k2 => k_is
  case k3 => (intro st; refine' binds2 (Cg.X.keeps st) ?kb ?kc; (case kb => exact fun _ => rfl); (case kc => rfl))
  case k4 => exact locs rfl
  case k5 => decide
  case k6 => rfl
  case k7 => rfl
  case k8 => rfl
  intro b L h st C F N hlt
  first | refine entS ?_ | refine entSE ?_
  intro e Qd hQd
  have Z : St (hp g) b L h _ [(a, lstO vs n)] (hp g) := St.start F N (fun a o q => st _ _ q) (by simp)
  first | refine exS ?_ | (refine hQn _ ?_; refine exS ?_)
  intro Q1 hQn hQr
  refine wpAny_If ?_
  refine wpAny_isTrue_Compare1 ?_
  refine y_L Z.F rfl ?_
  refine Constant_none ?_
  refine is_none_none ?_
  refine wpAny_truthy_bool ?_
  refine ite_b (fun _ => ?_) (fun q => absurd q (by decide))
  first | refine norm (s := s) (h := h) (fun tk => ?_) | (refine hQn _ ?_; refine norm (s := s) (h := h) fun tk => ?_)
  refine wpAny_execs_cons ?_
  refine wpAny_Assign_Name ?_
  refine Call_ ?_
  refine' y_K C Z.F ?kg ?_
  case kg => k_is
  refine' callWith_K C.X ?kc ?_
  case kc => k_is
  refine spliced_more ?_
  refine y_L Z.F rfl ?_
  refine spliced_more ?_
  refine y_L Z.F rfl ?_
  refine spliced_more ?_
  refine y_L Z.F rfl ?_
  refine spliced_more ?_
  refine y_L Z.F rfl ?_
  refine spliced_none ?_
  refine ⟨C.X.keeps Z.F.keep, ?_⟩
  refine norm (s := s) (h := h) fun tk => ?_
  refine s_use0 Z (fun g' k1 k2 k3 => bisect_right_int (C.keeps k1) (by show A.depth + 1 + 1 < _; omega) hh (k3 _ (.head _)) hIv (by omega) (fun _ _ _ _ e st => by
    refine' binds_by e ?k1 (binds2 ((C.keeps k1).X.keeps st) ?kb ?kc)
    case k1 => k_is
    case kb => exact fun _ => rfl
    case kc => rfl)) ?_
  intro r h tk nw Y p95 le1 le2 Z
  refine hide ?_
  intro G9 hG9
  obtain ⟨t, rfl⟩ := p95
  refine hG9 ?_
  clear hG9 G9
  have hrg := bis_rng (p := pRi ns x) (lo := 0) (hi := vs.length) (Nat.zero_le _)
  refine hide ?_
  intro G9 hG9
  obtain ⟨p, hpos⟩ : ∃ y, (bis (pRi ns x) 0 vs.length).1 = y := ⟨_, rfl⟩
  refine hG9 ?_
  clear hG9 G9
  rw [hpos] at hrg ⊢
  refine s_st Z fun h tk Z => ?_
  first | refine wpAny_execs_nil ?_ | (refine hQn _ ?_; refine wpAny_execs_nil ?_)
  first | refine exS ?_ | (refine hQn _ ?_; refine exS ?_)
  intro Q1 hQn hQr
  refine wpAny_Expr_any ?_
  refine MethodCall_ ?_
  refine y_L Z.F rfl ?_
  refine listMethod_K Z.N (.head _) PySem.F.slot_list_insert PySem.F.type_list_insert ?_
  refine callWith_method1 ?_
  refine spliced_more ?_
  refine y_L Z.F rfl ?_
  refine spliced_more ?_
  refine y_L Z.F rfl ?_
  refine spliced_none ?_
  refine Z.hd fun rest N off mk => ?_
  refine kl_insert Z.F N (by simp [Builtin.List.listFitsIndex]; omega) (kl_insAt hrg.2) (Upd.head off) (by have hs : sizeLine = 16777216 := rfl; simp; omega) ?_
  intro h F N
  have Z := mk F N
  first | refine wpAny_execs_nil ?_ | (refine hQn _ ?_; refine wpAny_execs_nil ?_)
  first | refine hQd _ _ ?_ | refine hQr _ _ (hQd _ _ ?_)
  exact s_done1 Z fun _ _ => by rw [hpos]
end
noncomputable abbrev stepT (F : Nat → Nat → Bool) (t : List (Int × Int)) (l : List Int) : List (Int × Int) := addI t [((cntF F l : Nat), 1)]
noncomputable def tableX (F : Nat → Nat → Bool) (ls : List (List Int)) : List (Int × Int) := ls.foldl (stepT F) []
theorem tableX_len (F : Nat → Nat → Bool) : ∀ (ls : List (List Int)) (acc : List (Int × Int)), (ls.foldl (stepT F) acc).length ≤ acc.length + ls.length
  | [], acc => Nat.le_refl _
  | l :: r, acc => by
    have h1 := tableX_len F r (stepT F acc l)
    have h2 := addI_len acc [((cntF F l : Nat), 1)]
    simp only [List.foldl_cons, List.length_cons, List.length_nil] at *
    unfold stepT at *
    omega
theorem line_ok {j : Nat} {l : List Int} (h : (linesX 4)[j]? = some l) : l.length = 4 ∧ ∀ k, k < 4 → ∃ p : Nat, p < 4 ∧ l[k]? = some (p : Int) := by
  have hm : l ∈ linesX 4 := List.mem_of_getElem? h
  have h0 : ∀ l ∈ linesX 4, l.length = 4 ∧ ∀ x ∈ l, 0 ≤ x ∧ x < 4 := by decide +kernel
  refine hide ?_
  intro G9 hG9
  obtain ⟨h1, h2⟩ := h0 l hm
  refine hG9 ?_
  clear hG9 G9
  refine ⟨h1, fun k hk => ?_⟩
  have hb := h2 l[k] (List.getElem_mem (by omega))
  exact ⟨l[k].toNat, by omega, by rw [List.getElem?_eq_getElem (by omega)]; congr 1; omega⟩
theorem linesX4 : (linesX 4).length = 24 := by decide +kernel
section
variable {W : Wd} {A : Around} {s : Shared} {g : Heap} {R : Rl}
theorem falls_ok {fv : Value} {F : Nat → Nat → Bool} (Cg : Cx Mine.hd.heap_39 W g) (hr : A.depth + 4 < recursionLimit) (hh : A.handled = none) (hR : Le R (hp g)) (Fa : FallsAt R fv F) :
    Does PR W A (call (.ref 133) [fv]) s g [] (Post0 R fun r Y => ∃ T td cd cvs cn, r = .ref T ∧ At Y T (tupO [.ref td, .ref cd]) ∧ DictI (intKind PR W.w) Y td (tableX F (linesX 4)) ∧ At Y cd (lstO cvs cn) ∧ IntsV cvs (countsX F (linesX 4) 24)) := by
  refine hide ?_
  intro G9 hG9
  obtain ⟨fa, hfa⟩ : ∃ fa, fv = .ref fa := let ⟨fa, _, _, e, _⟩ := Fa; ⟨fa, e⟩
  refine hG9 ?_
  clear hG9 G9
  subst hfa
  refine' enterC (binds := [(Str.ofString "falls", .ref fa)]) Cg ?k1 ?k2 (by omega) ?k3 ?k4 ?k5 ?k6 ?k7 ?k8 ?_
  case k1 => k_is
  case k2 => k_is
  case k3 => exact fun _ => BindsTo.of_eq rfl
  case k4 => rfl
  case k5 => decide +kernel
  case k6 => rfl
  case k7 => rfl
  case k8 => rfl
  intro b L h tk cells st C Fr0 N Y hlt
  have Z := St.startC (R := R) Fr0 N (fun a o q => st _ _ (hR a o q)) Y (by decide) hlt
  refine hide ?_
  intro G9 hG9
  obtain ⟨oL, c1, rfl, dL, Y⟩ := cells_un Y
  refine hG9 ?_
  clear hG9 G9
  refine hide ?_
  intro G9 hG9
  obtain ⟨oF, c1, rfl, dF, Y⟩ := cells_un Y
  refine hG9 ?_
  clear hG9 G9
  refine hide ?_
  intro G9 hG9
  obtain rfl := cells_no Y
  refine hG9 ?_
  clear hG9 G9
  clear Y N Fr0
  refine entS ?_
  intro e Qd hQd
  let cF : Addr := L + 1
  let cL : Addr := L + 1 + 1
  have Z : St R b L h _ ([(cL, oL)] ++ [(cF, oF)]) R := Z
  refine Z.freeze fun Y0 le0 zcF Z => ?_
  have Fa := Fa.mono le0
  first | refine exS ?_ | (refine hQn _ ?_; refine exS ?_)
  intro Q1 hQn hQr
  refine wpAny_Assign_Name ?_
  refine s_dict0 (knd := intKind PR W.w) Z C.T.nolimit fun td o0 h hd0 ho0 Z => ?_
  refine Z.freeze (l1 := []) fun Y1 le1 ztd Z => ?_
  have Dt : DictI (intKind PR W.w) Y1 td [] := ⟨hd0, o0, ztd, ho0⟩
  have Fa := Fa.mono le1
  refine s_st Z fun h tk Z => ?_
  first | refine exS ?_ | (refine hQn _ ?_; refine exS ?_)
  intro Q1 hQn hQr
  refine wpAny_Assign_Name ?_
  refine List_ ?_
  refine spliced_none ?_
  refine s_lstM Z (Nat.zero_le _) fun cd h Z => ?_
  refine s_st Z fun h tk Z => ?_
  first | refine exS ?_ | (refine hQn _ ?_; refine exS ?_)
  intro Q1 hQn hQr
  refine wpAny_For ?_
  refine Call_ ?_
  refine' y_B C Z.F ?kg boot_enumerate ?_
  case kg => k_is
  refine PyProof.Rows.callWith_type1 ?_
  refine spliced_more ?_
  refine Call_ ?_
  refine' y_K C Z.F ?kg ?_
  case kg => k_is
  refine' callWith_K C.X ?kc ?_
  case kc => k_is
  refine spliced_more ?_
  refine n_ci fun tk => ?_
  refine spliced_none ?_
  refine ⟨C.X.keeps Z.F.keep, ?_⟩
  refine norm (s := s) (h := h) fun tk => ?_
  refine s_use0 Z (fun g k1 k2 k3 => lines_ok (C.keeps k1) (by show A.depth + 1 + 2 < _; omega) hh k2) ?_
  intro r h tk nw Y2 p95 le2 le2' Z
  refine hide ?_
  intro G9 hG9
  obtain ⟨la, lvs, ln, rfl, zl, IL⟩ := p95
  refine hG9 ?_
  clear hG9 G9
  have zl := At.mono zl le2'
  have IL := IntLs.mono IL le2'
  have hlv : lvs.length = 24 := by rw [IL.1, linesX4]
  refine spliced_none ?_
  refine s_enum (elts := [PySem.Expr.Name (Str.ofString "turn") { line := 118, col := 8, endLine := 118, endCol := 12 }, PySem.Expr.Name (Str.ofString "line") { line := 118, col := 14, endLine := 118, endCol := 18 }]) (kk := 0) (pos := { line := 118, col := 8, endLine := 118, endCol := 18 }) hh Z zl fun ev h tk S => ?_
  refine s_loop S (fun i m mu Y => ∃ oL vL td tn cvs cn, mu = [(cd, lstO cvs cn), (cL, oL)] ∧ oL.data = .cell vL ∧ DictI (intKind PR W.w) Y td tn ∧ tn = tableX F ((linesX 4).take i) ∧ IntsV cvs (countsX F (linesX 4) i) ∧ m (Str.ofString "table") = some (.ref td) ∧ m (Str.ofString "counts") = some (.ref cd)) ?_ ?_ ?_
  · exact ⟨oL, _, td, [], [], 0, rfl, dL, Dt.mono le2, rfl, IntsV.nil, rfl, rfl⟩
  · intro its i v m mu Y3 h tk le3 hi p910 p911 Z
    refine hide ?_
    intro G9 hG9
    obtain ⟨T0, ti, xv0, rfl, hv, hT⟩ := p910
    obtain ⟨oL, vL, td, tn, cvs, cn, rfl, dL, Dt, htn, Ic, mt, mc⟩ := p911
    refine hG9 ?_
    clear hG9 G9
    refine hide ?_
    intro G9 hG9
    obtain ⟨l, hl, lna, lws, lnn, rfl, zln, Iln⟩ := IL.at' hv
    refine hG9 ?_
    clear hG9 G9
    have Fa := (Fa.mono le2).mono le3
    have hlo := line_ok hl
    have hi24 : i < 24 := by rw [← hlv]; exact hi
    refine loopS ?_
    intro Ql hQl
    refine s_unpack (vs := [.int i ti, .ref lna]) Z hT hh rfl rfl fun h tk Z => ?_
    refine assignInOrder_cons ?_
    try (refine loopS ?_; intro Ql hQl)
    refine wpAny_assign_Name ?_
    refine s_st Z fun h tk Z => ?_
    refine assignInOrder_cons ?_
    try (refine loopS ?_; intro Ql hQl)
    refine wpAny_assign_Name ?_
    refine s_stC (l1 := [_]) Z dL fun h tk oL dL Z => ?_
    have Z : St R b L h _ ([(cd, lstO cvs cn), (cL, oL)] ++ its) _ := Z
    refine assignInOrder_nil ?_
    first | refine exS ?_ | (refine hQn _ ?_; refine exS ?_)
    intro Q1 hQn hQr
    refine wpAny_Assign_Name ?_
    refine Call_ ?_
    refine' y_B C Z.F ?kg boot_len ?_
    case kg => k_is
    refine PyProof.Rows.callWith_builtin1 ?_
    refine spliced_more ?_
    refine s_comp rfl rfl (by decide) (fun _ => rfl) ?_
    refine Call_ ?_
    refine' y_B C Z.F ?kg boot_range ?_
    case kg => k_is
    refine PyProof.Rows.callWith_type1 ?_
    refine spliced_more ?_
    refine n_ci fun tk => ?_
    refine spliced_none ?_
    refine s_range1 (n := 3) Z (by decide) fun r1 h u v t1 tk Hr Z => ?_
    refine s_compV (ms := []) Z hh (.range (n := 3) Hr rfl rfl) (by decide) (fun cA j ys ms Y => ms = [] ∧ ys.length = ((List.range j).filter (fallAt F l)).length) (fun cA => ⟨rfl, rfl⟩) ?_ ?_
    · intro b' cA I D nD io j v ys mc2 ms Y4 h tk kb hXb kn hj p918 le4 p920 Z hio
      refine hide ?_
      intro G9 hG9
      obtain ⟨tj, rfl⟩ := p918
      obtain ⟨rfl, hyl⟩ := p920
      refine hG9 ?_
      clear hG9 G9
      have hj : j < 3 := hj
      refine hide ?_
      intro G9 hG9
      obtain ⟨fa', fvs, fn, ef, zf, hF⟩ := id Fa
      refine hG9 ?_
      clear hG9 G9
      cases ef
      refine hide ?_
      intro G9 hG9
      obtain ⟨p, hp4, hp⟩ := hlo.2 j (by omega)
      refine hG9 ?_
      clear hG9 G9
      refine hide ?_
      intro G9 hG9
      obtain ⟨q, hq4, hq⟩ := hlo.2 (j + 1) (by omega)
      refine hG9 ?_
      clear hG9 G9
      refine hide ?_
      intro G9 hG9
      obtain ⟨tp, ep⟩ := Iln.2 j _ hp
      refine hG9 ?_
      clear hG9 G9
      refine hide ?_
      intro G9 hG9
      obtain ⟨tq, eq⟩ := Iln.2 (j + 1) _ hq
      refine hG9 ?_
      clear hG9 G9
      refine hide ?_
      intro G9 hG9
      obtain ⟨r, ws, rn, hr1, zr, hr2⟩ := hF p hp4
      refine hG9 ?_
      clear hG9 G9
      have hfa : fallAt F l j = F p q := by
        unfold fallAt
        rw [List.getD_eq_getElem?_getD, List.getD_eq_getElem?_getD, hp, hq]; rfl
      have e0 : (0 + (j : Int) * 1) = (j : Int) := by omega
      rw [e0]
      first | (refine turnS ?_; intro e P1 P0 hQ1 hQ0) | (refine floopS ?_; intro Ql hQl) | skip
      refine lot_name ?_
      try (refine loopS ?_; intro Ql hQl)
      refine wpAny_assign_Name ?_
      refine s_st Z fun h tk Z => ?_
      refine wpAny_tests_one ?_
      refine isTrue_plain ?_
      refine Subscript_ ?_
      refine Subscript_ ?_
      refine y_C (Z.F.keep _ _ (hXb _ _ (le3 _ _ (le2 _ _ (le1 _ _ zcF))))) dF ?_
      refine Subscript_ ?_
      refine y_C (Z.F.keep _ _ (kn _ (.tail _ (.head _)))) dL ?_
      refine y_L Z.F rfl ?_
      refine list_item (i := j) (Z.F.keep _ _ (hXb _ _ (le3 _ _ zln))) rfl (by omega) ep ?_
      refine list_item (i := p) (Z.F.keep _ _ (hXb _ _ zf)) rfl (by omega) hr1 ?_
      refine Subscript_ ?_
      refine y_C (Z.F.keep _ _ (kn _ (.tail _ (.head _)))) dL ?_
      refine wpAny_BinOp ?_
      refine y_L Z.F rfl ?_
      refine n_ci fun tk => ?_
      refine n_add fun tk => ?_
      refine list_item (i := j + 1) (Z.F.keep _ _ (hXb _ _ (le3 _ _ zln))) (by omega) (by omega) eq ?_
      refine list_item (i := q) (Z.F.keep _ _ (hXb _ _ zr)) rfl (by omega) (hr2 q hq4) ?_
      refine wpAny_truthy_bool ?_
      rw [← hfa]
      refine ite_b (fun c => ?_) (fun c => ?_)
      · first | refine norm (s := s) (h := h) (fun tk => ?_) | (refine hQn _ ?_; refine norm (s := s) (h := h) fun tk => ?_)
        refine y_L Z.F rfl ?_
        first | refine hQ1 _ _ ?_ | refine hQ0 _ ?_
        refine SEnd.intro (ms := []) Z ⟨rfl, ?_⟩
        rw [List.range_succ, List.filter_append, List.length_append, List.length_append, hyl, List.filter_cons_of_pos c]; rfl
      · first | refine hQ1 _ _ ?_ | refine hQ0 _ ?_
        refine SEnd.intro (ms := []) Z ⟨rfl, ?_⟩
        rw [List.range_succ, List.filter_append, List.length_append, hyl, List.filter_cons_of_neg (by rw [c]; decide)]; rfl
    intro cA D nD h tk ys ms Y4 le4 p99 Z
    refine hide ?_
    intro G9 hG9
    obtain ⟨rfl, hyl⟩ := p99
    refine hG9 ?_
    clear hG9 G9
    have hyl : ys.length = cntF F l := hyl
    have hc3 : cntF F l ≤ 3 := Nat.le_trans (List.length_filter_le _ _) (Nat.le_of_eq List.length_range)
    refine spliced_none ?_
    refine n_len (Z.mget (.head _)) (by omega) fun t2 tk => ?_
    rw [hyl]
    have Z := Z.tl
    have Dt := Dt.mono le4
    refine s_st Z fun h tk Z => ?_
    first | refine exS ?_ | (refine hQn _ ?_; refine exS ?_)
    intro Q1 hQn hQr
    refine wpAny_Assign_Name ?_
    refine Call_ ?_
    refine' y_K C Z.F ?kg ?_
    case kg => k_is
    refine' callWith_K C.X ?kc ?_
    case kc => k_is
    refine spliced_more ?_
    refine y_L Z.F mt ?_
    refine spliced_more ?_
    apply s_dictI1
    case Z => exact Z
    case hn => exact C.T.nolimit
    case h1 =>
      intro d o h tk Q' Z q
      refine y_L Z.F rfl ?_
      exact q _
    intro d1 Y5 h tk le5 D1 Z
    refine spliced_none ?_
    refine ⟨C.X.keeps Z.F.keep, ?_⟩
    refine norm (s := s) (h := h) fun tk => ?_
    have htl : tn.length ≤ 24 := by
      rw [htn]
      have := tableX_len F ((linesX 4).take i) []
      unfold tableX
      rw [List.length_take] at this
      simp only [List.length_nil] at this
      omega
    refine add_s Z C (by show A.depth + 1 + 1 < _; omega) hh (Dt.mono le5) D1 (by simp only [List.length_cons, List.length_nil]; omega) fun td2 h tk Y6 le6 Dt2 Z => ?_
    refine s_st Z fun h tk Z => ?_
    have hle : Le Y2 Y6 := le3.trans (le4.trans (le5.trans le6))
    have htn2 : addI tn [((cntF F l : Nat), 1)] = tableX F ((linesX 4).take (i + 1)) := by
      rw [List.take_add_one, hl, htn]
      unfold tableX
      rw [List.foldl_append]; rfl
    have hcx : countsX F (linesX 4) (i + 1) = insI i (countsX F (linesX 4) i) (cntF F l) := by rw [countsX, hl]
    have hcl := countsX_len F (linesX 4) i
    have hmod : (i : Int).fmod 2 = ((i % 2 : Nat) : Int) := by rw [Int.fmod_eq_emod_of_nonneg _ (by decide)]; omega
    first | refine exS ?_ | (refine hQn _ ?_; refine exS ?_)
    intro Q1 hQn hQr
    refine wpAny_If ?_
    refine isTrue_plain ?_
    refine wpAny_BinOp ?_
    refine y_L Z.F rfl ?_
    refine n_ci fun tk => ?_
    refine n_fmod (by decide) fun tk => ?_
    rw [hmod]
    refine PyProof.Rows.truthy_int ?_
    refine ite_b (fun c => ?_) (fun c => ?_)
    · have c1 : i % 2 = 1 := by simp at c; omega
      first | refine norm (s := s) (h := h) (fun tk => ?_) | (refine hQn _ ?_; refine norm (s := s) (h := h) fun tk => ?_)
      refine wpAny_execs_cons ?_
      refine wpAny_Expr_any ?_
      refine Call_ ?_
      refine' y_K C Z.F ?kg ?_
      case kg => k_is
      refine' callWith_K C.X ?kc ?_
      case kc => k_is
      refine spliced_more ?_
      refine y_L Z.F mc ?_
      refine spliced_more ?_
      refine y_L Z.F rfl ?_
      refine spliced_none ?_
      refine ⟨C.X.keeps Z.F.keep, ?_⟩
      refine norm (s := s) (h := h) fun tk => ?_
      refine s_use1 (l1 := []) (P := fun _ o' _ => o' = lstO (insAt (bis (pLi (countsX F (linesX 4) i) (cntF F l)) 0 cvs.length).1 (.int (cntF F l : Nat) _) cvs) (cn + 1)) Z (fun g k1 k2 k3 => insort_left_int (C.keeps k1) (by show A.depth + 1 + 2 < _; omega) hh Ic (by rw [Ic.1]; omega)) (fun _ _ h => h) ?_
      rintro r h tk o' fr Y7 rfl le7 le7' Z
      first | refine norm (s := s) (h := h) (fun tk => ?_) | (refine hQn _ ?_; refine norm (s := s) (h := h) fun tk => ?_)
      first | refine wpAny_execs_nil ?_ | (refine hQn _ ?_; refine wpAny_execs_nil ?_)
      first | refine wpAny_execs_nil ?_ | (refine hQn _ ?_; refine wpAny_execs_nil ?_)
      refine hQl _ _ ?_
      refine STurn.next (mu := [(cd, _), (cL, oL)]) Z (hle.trans le7) ⟨oL, _, td2, _, _, _, rfl, dL, Dt2.mono le7, htn2, ?_, (by exact rfl), (by exact mc)⟩
      rw [hcx, insI, if_pos c1, Ic.1]
      exact Ic.insAt _
    · have c1 : ¬ i % 2 = 1 := by simp at c; omega
      first | refine norm (s := s) (h := h) (fun tk => ?_) | (refine hQn _ ?_; refine norm (s := s) (h := h) fun tk => ?_)
      refine wpAny_execs_cons ?_
      refine wpAny_Expr_any ?_
      refine Call_ ?_
      refine' y_K C Z.F ?kg ?_
      case kg => k_is
      refine' callWith_K C.X ?kc ?_
      case kc => k_is
      refine spliced_more ?_
      refine y_L Z.F mc ?_
      refine spliced_more ?_
      refine y_L Z.F rfl ?_
      refine spliced_none ?_
      refine ⟨C.X.keeps Z.F.keep, ?_⟩
      refine norm (s := s) (h := h) fun tk => ?_
      refine s_use1 (l1 := []) (P := fun _ o' _ => o' = lstO (insAt (bis (pRi (countsX F (linesX 4) i) (cntF F l)) 0 cvs.length).1 (.int (cntF F l : Nat) _) cvs) (cn + 1)) Z (fun g k1 k2 k3 => insort_right_int (C.keeps k1) (by show A.depth + 1 + 2 < _; omega) hh Ic (by rw [Ic.1]; omega)) (fun _ _ h => h) ?_
      rintro r h tk o' fr Y7 rfl le7 le7' Z
      first | refine norm (s := s) (h := h) (fun tk => ?_) | (refine hQn _ ?_; refine norm (s := s) (h := h) fun tk => ?_)
      first | refine wpAny_execs_nil ?_ | (refine hQn _ ?_; refine wpAny_execs_nil ?_)
      first | refine wpAny_execs_nil ?_ | (refine hQn _ ?_; refine wpAny_execs_nil ?_)
      refine hQl _ _ ?_
      refine STurn.next (mu := [(cd, _), (cL, oL)]) Z (hle.trans le7) ⟨oL, _, td2, _, _, _, rfl, dL, Dt2.mono le7, htn2, ?_, (by exact rfl), (by exact mc)⟩
      rw [hcx, insI, if_neg c1, Ic.1]
      exact Ic.insAt _
  · intro m mu Y3 h tk le3 p96 Z
    refine hide ?_
    intro G9 hG9
    obtain ⟨oL, vL, td, tn, cvs, cn, rfl, dL, Dt, htn, Ic, mt, mc⟩ := p96
    refine hG9 ?_
    clear hG9 G9
    rw [hlv] at Ic
    have e24 : (linesX 4).take lvs.length = linesX 4 := by rw [hlv, ← linesX4, List.take_length]
    rw [htn, e24] at Dt
    refine Z.freeze (l1 := []) fun Y4 le4 zcd Z => ?_
    first | refine wpAny_execs_cons ?_ | (refine hQn _ ?_; refine wpAny_execs_cons ?_)
    refine wpAny_Return_some ?_
    refine Tuple_ ?_
    refine spliced_more ?_
    refine y_L Z.F mt ?_
    refine spliced_more ?_
    refine y_L Z.F mc ?_
    refine spliced_none ?_
    refine s_tup Z (Nat.le_of_ble_eq_true rfl) fun T h Y5 le5 zT Z => ?_
    first | refine hQd _ _ ?_ | refine hQr _ _ (hQd _ _ ?_)
    refine s_done0 (Z.drop (l1 := [])) fun Y le6 => ?_
    exact ⟨T, td, cd, cvs, cn, rfl, zT.mono le6, ((Dt.mono le4).mono le5).mono le6, (zcd.mono le5).mono le6, Ic⟩
end
noncomputable abbrev KeptAt (ss : Nat → Int) : Rl → List Value → List Nat → Prop := AllAt fun X v p => RowS X v p (ss p)
theorem KeptAt.mono {ss : Nat → Int} {X Y : Rl} {vs : List Value} {ps : List Nat} (h : KeptAt ss X vs ps) (k : Le X Y) : KeptAt ss Y vs ps := ⟨h.1, fun i x e => let ⟨v, a, b⟩ := h.2 i x e; ⟨v, a, b.mono k⟩⟩
noncomputable def facX (x : Int) (ps : List Nat) (lf : Nat → Nat) (mk : Nat → Bool) (k : Nat) : Int :=
  if mk (ps.getD k 0) = true then x - ((k : Int) - (lf (ps.getD k 0) : Int)) else x + ((k : Int) - (lf (ps.getD k 0) : Int))
noncomputable def prodN (x : Int) (ps : List Nat) (lf : Nat → Nat) (mk : Nat → Bool) : Nat → Int
  | 0 => 24
  | k + 1 => prodN x ps lf mk k * facX x ps lf mk k
theorem facX_bits {x : Int} {ps : List Nat} {lf : Nat → Nat} {mk : Nat → Bool} {k : Nat} (hx : Builtin.Int.intBits x ≤ 1200000) (hk : k < 4) (hl : ∀ p, lf p ≤ 4) : Builtin.Int.intBits (facX x ps lf mk k) ≤ 1200001 := by
  have h1 := hl (ps.getD k 0)
  have hb : Builtin.Int.intBits ((k : Int) - (lf (ps.getD k 0) : Int)) ≤ 64 := intBits_le_64 (by omega) (by omega)
  unfold facX
  by_cases c : mk (ps.getD k 0) = true
  · rw [if_pos c]; have := intBits_sub_le hx hb; omega
  · rw [if_neg c]; have := intBits_add_le hx hb; omega
theorem prodN_bits {x : Int} {ps : List Nat} {lf : Nat → Nat} {mk : Nat → Bool} (hx : Builtin.Int.intBits x ≤ 1200000) (hl : ∀ p, lf p ≤ 4) : ∀ k, k ≤ 4 → Builtin.Int.intBits (prodN x ps lf mk k) ≤ 5 + k * 1200001
  | 0, _ => by show Builtin.Int.intBits 24 ≤ 5 + 0 * 1200001; decide
  | k + 1, h => by
    have h1 := prodN_bits (ps := ps) (mk := mk) hx hl k (by omega)
    have h2 := intBits_mul_le h1 (facX_bits (ps := ps) (mk := mk) hx (by omega : k < 4) hl)
    rw [prodN]
    omega
theorem lexL_nt {xs ys zs : List Int} (h : lexL xs ys = false) (k : lexL ys zs = false) : lexL xs zs = false := by
  cases q : lexL xs zs with
  | false => rfl
  | true => have := lexL_not k q; rw [h] at this; cases this
noncomputable def Asc (f : Int → List Int) (xs : List Int) : Prop := xs.Pairwise fun x y => lexL (f y) (f x) = false
noncomputable def Dn (f : Int → List Int) (P : Int → Bool) : Prop := ∀ x y, P y = true → lexL (f y) (f x) = false → P x = true
theorem dn_lt (f : Int → List Int) (x : Int) : Dn f fun z => lexL (f z) (f x) := fun y z h k => by
  have h : lexL (f z) (f x) = true := h
  show lexL (f y) (f x) = true
  cases q : lexL (f y) (f x) with
  | true => rfl
  | false => have := lexL_nt k q; rw [h] at this; cases this
theorem dn_le (f : Int → List Int) (x : Int) : Dn f fun z => !lexL (f x) (f z) := fun y z h k => by
  simp only [Bool.not_eq_true'] at h ⊢
  exact lexL_nt h k
theorem asc_pre {f : Int → List Int} {P : Int → Bool} (hP : Dn f P) : ∀ {xs : List Int}, Asc f xs → ∀ (i : Nat) (x : Int), xs[i]? = some x → (P x = true ↔ i < xs.countP P)
  | [], _, i, x, e => by simp at e
  | a :: r, h, i, x, e => by
    have hr := List.pairwise_cons.mp h
    by_cases q : P a = true
    · rw [List.countP_cons_of_pos q]
      cases i with
      | zero => cases e; exact ⟨fun _ => Nat.succ_pos _, fun _ => q⟩
      | succ i => rw [asc_pre hP hr.2 i x e, Nat.add_lt_add_iff_right]
    · have no : ∀ y ∈ a :: r, ¬ P y = true := fun y hy k => by
        rcases List.mem_cons.mp hy with rfl | hy
        · exact q k
        · exact q (hP a y k (hr.1 y hy))
      have : (a :: r).countP P = 0 := List.countP_eq_zero.mpr no
      rw [this]
      exact ⟨fun k => absurd k (no x (List.mem_of_getElem? e)), fun k => absurd k (Nat.not_lt_zero _)⟩
theorem bisN_at (p : Nat → Bool) (c : Nat) : ∀ f lo hi, hi - lo ≤ f → lo ≤ c → c ≤ hi → (∀ i, lo ≤ i → i < hi → (p i = true ↔ i < c)) → (bisN p f lo hi).1 = c := by
  intro f
  induction f with
  | zero => intro lo hi h h1 h2 _; show lo = c; omega
  | succ f ih =>
    intro lo hi h h1 h2 hp
    simp only [bisN]
    by_cases hl : lo < hi
    · rw [if_pos hl]
      by_cases hm : p ((lo + hi) / 2) = true
      · have := (hp _ (by omega) (by omega)).mp hm
        rw [if_pos hm]
        exact ih _ _ (by omega) (by omega) h2 fun i a b => hp i (by omega) b
      · have : ¬ (lo + hi) / 2 < c := fun q => hm ((hp _ (by omega) (by omega)).mpr q)
        rw [if_neg hm]
        exact ih _ _ (by omega) h1 (by omega) fun i a b => hp i a (by omega)
    · rw [if_neg hl]; show lo = c; omega
theorem bis_asc {f : Int → List Int} {P : Int → Bool} (hP : Dn f P) {xs : List Int} (h : Asc f xs) {p : Nat → Bool} (d : Int) (hp : ∀ i, i < xs.length → p i = P (xs.getD i d)) {lo hi : Nat} (h1 : lo ≤ xs.countP P) (h2 : xs.countP P ≤ hi) (h3 : hi ≤ xs.length) : (bis p lo hi).1 = xs.countP P := by
  refine bisN_at p _ _ lo hi (Nat.le_refl _) h1 h2 fun i a b => ?_
  have hi : i < xs.length := by omega
  rw [hp i hi, List.getD_eq_getElem?_getD, List.getElem?_eq_getElem hi]
  exact asc_pre hP h i _ (List.getElem?_eq_getElem hi)
theorem stb_anti {ws : List (List Int)} {i j : Nat} (h : Stb ws i j) (k : Stb ws j i) : False := by
  rcases h with h | ⟨h, a⟩ <;> rcases k with k | ⟨k, c⟩
  · have := lexL_asym h; rw [k] at this; cases this
  · rw [k, lexL_irr] at h; cases h
  · rw [h, lexL_irr] at k; cases k
  · omega
theorem stb_one {ws : List (List Int)} {p q : List Nat} (h : p.Perm q) (hp : p.Pairwise (Stb ws)) (hq : q.Pairwise (Stb ws)) : p = q :=
  List.Perm.eq_of_pairwise (fun _ _ _ _ a b => (stb_anti a b).elim) hp hq h
theorem insAt_map {α β : Type} (g : α → β) (k : Nat) (a : α) (q : List α) : (insAt k a q).map g = insAt k (g a) (q.map g) := by
  unfold insAt; rw [List.map_append, List.map_cons, List.map_take, List.map_drop]
theorem insAt_perm {α : Type} (k : Nat) (a : α) (q : List α) : (insAt k a q).Perm (a :: q) := by
  unfold insAt
  refine List.perm_middle.trans ?_
  rw [List.take_append_drop]
theorem insAt_stb {ws : List (List Int)} {q : List Nat} {a k : Nat} (h : q.Pairwise (Stb ws)) (hk : ∀ (i b : Nat), q[i]? = some b → (i < k → Stb ws b a) ∧ (k ≤ i → Stb ws a b)) : (insAt k a q).Pairwise (Stb ws) := by
  unfold insAt
  have h0 := h
  rw [← List.take_append_drop k q, List.pairwise_append] at h0
  have ht : ∀ b ∈ q.take k, Stb ws b a := fun b hb => by
    obtain ⟨i, hi, e⟩ := List.mem_iff_getElem.mp hb
    have hl : i < k ∧ i < q.length := by rw [List.length_take] at hi; omega
    refine (hk i b ?_).1 hl.1
    rw [List.getElem?_eq_getElem hl.2, ← e, List.getElem_take]
  have hd : ∀ b ∈ q.drop k, Stb ws a b := fun b hb => by
    obtain ⟨i, hi, e⟩ := List.mem_iff_getElem.mp hb
    have hl : k + i < q.length := by rw [List.length_drop] at hi; omega
    refine (hk (k + i) b ?_).2 (Nat.le_add_right _ _)
    rw [List.getElem?_eq_getElem hl, ← e, List.getElem_drop]
  rw [List.pairwise_append]
  refine ⟨h0.1, List.pairwise_cons.mpr ⟨hd, h0.2.1⟩, fun b hb c hc => ?_⟩
  rcases List.mem_cons.mp hc with rfl | hc
  · exact ht b hb
  · exact h0.2.2 b hb c hc
noncomputable def Tag (f : Int → List Int) (due : List Int) (q : List Nat) (xs : List Int) : Prop := q.Pairwise (Stb (due.map f)) ∧ (∀ b ∈ q, b < due.length) ∧ q.map (fun b => due.getD b 0) = xs
theorem w_get {f : Int → List Int} {due : List Int} {b : Nat} (h : b < due.length) : (due.map f).getD b [] = f (due.getD b 0) := by
  rw [List.getD_eq_getElem?_getD, List.getD_eq_getElem?_getD, List.getElem?_map, List.getElem?_eq_getElem h]; rfl
theorem Tag.asc {f : Int → List Int} {due : List Int} {q : List Nat} {xs : List Int} (h : Tag f due q xs) : Asc f xs := by
  obtain ⟨h1, h2, rfl⟩ := h
  unfold Asc
  rw [List.pairwise_map]
  refine h1.imp_of_mem fun {a b} ha hb k => ?_
  rw [← w_get (f := f) (h2 a ha), ← w_get (f := f) (h2 b hb)]
  rcases k with k | ⟨k, _⟩
  · exact lexL_asym k
  · rw [k]; exact lexL_irr _
theorem Tag.ins {f : Int → List Int} {due : List Int} {q : List Nat} {xs : List Int} {a : Nat} (ha : a < due.length) (h : Tag f due q xs) (right : Bool) (hq : ∀ b ∈ q, if right then b < a else a < b) {k : Nat}
    (hk : k = xs.countP fun z => if right then !lexL (f (due.getD a 0)) (f z) else lexL (f z) (f (due.getD a 0))) : Tag f due (insAt k a q) (insAt k (due.getD a 0) xs) := by
  have hA := h.asc
  obtain ⟨h1, h2, rfl⟩ := h
  refine ⟨insAt_stb h1 fun i b e => ?_, fun b hb => ?_, insAt_map ..⟩
  · have hb : b ∈ q := List.mem_of_getElem? e
    have e2 : (q.map fun b => due.getD b 0)[i]? = some (due.getD b 0) := by rw [List.getElem?_map, e]; rfl
    have hb2 := hq b hb
    have dn : Dn f fun z => if right then !lexL (f (due.getD a 0)) (f z) else lexL (f z) (f (due.getD a 0)) := by
      cases right with
      | true => exact dn_le f _
      | false => exact dn_lt f _
    have pr := asc_pre dn hA i _ e2
    rw [← hk] at pr
    unfold Stb
    rw [w_get (h2 b hb), w_get ha]
    cases right with
    | true =>
      simp only [if_true] at pr hb2
      constructor
      · intro q
        have := pr.mpr q
        simp only [Bool.not_eq_true'] at this
        cases c : lexL (f (due.getD b 0)) (f (due.getD a 0)) with
        | true => exact .inl rfl
        | false => exact .inr ⟨lexL_tot _ _ c this, hb2⟩
      · intro q
        left
        cases c : lexL (f (due.getD a 0)) (f (due.getD b 0)) with
        | true => rfl
        | false => have := pr.mp (by rw [c]; rfl); omega
    | false =>
      simp only [Bool.false_eq_true, if_false] at pr hb2
      constructor
      · intro q; exact .inl (pr.mpr q)
      · intro q
        cases c : lexL (f (due.getD a 0)) (f (due.getD b 0)) with
        | true => exact .inl rfl
        | false =>
          refine .inr ⟨lexL_tot _ _ c ?_, hb2⟩
          cases c2 : lexL (f (due.getD b 0)) (f (due.getD a 0)) with
          | false => rfl
          | true => have := pr.mp c2; omega
  · rcases List.mem_cons.mp ((insAt_perm k a q).mem_iff.mp hb) with rfl | hb
    · exact ha
    · exact h2 b hb
theorem Tag.nil {f : Int → List Int} {due : List Int} : Tag f due [] [] := ⟨.nil, (fun _ h => nomatch h), rfl⟩
theorem cmpK_lt : ∀ {ks : Ks}, KsOk ks → ∀ c d : Nat → Int, decide (cmpK ks c d < 0) = lexL (wt ks c) (wt ks d) ∧ decide (0 < cmpK ks c d) = lexL (wt ks d) (wt ks c)
  | [], _, _, _ => ⟨rfl, rfl⟩
  | (i, w) :: r, hk, c, d => by
    have ih := cmpK_lt (ks := r) (fun k h => hk k (.tail _ h)) c d
    have hw : w = 1 ∨ w = -1 := (hk (i, w) (.head _)).2
    have e1 : wt ((i, w) :: r) c = w * c i :: wt r c := rfl
    have e2 : wt ((i, w) :: r) d = w * d i :: wt r d := rfl
    rw [e1, e2]
    unfold lexL at *
    rw [cmpK, lexC, lexC]
    rcases hw with rfl | rfl
    · by_cases h1 : c i < d i
      · rw [if_pos h1, if_neg (by omega), if_neg (by omega), decide_eq_true (by omega : 1 * c i < 1 * d i), decide_eq_false (by omega : ¬ 1 * d i < 1 * c i)]; exact ⟨rfl, rfl⟩
      · by_cases h2 : d i < c i
        · rw [if_neg h1, if_pos h2, if_neg (by omega), if_neg (by omega), decide_eq_false (by omega : ¬ 1 * c i < 1 * d i), decide_eq_true (by omega : 1 * d i < 1 * c i)]; exact ⟨rfl, rfl⟩
        · rw [if_neg h1, if_neg h2, if_pos (by omega), if_pos (by omega)]; exact ih
    · by_cases h1 : c i < d i
      · rw [if_pos h1, if_neg (by omega), if_neg (by omega), decide_eq_false (by omega : ¬ -1 * c i < -1 * d i), decide_eq_true (by omega : -1 * d i < -1 * c i)]; exact ⟨rfl, rfl⟩
      · by_cases h2 : d i < c i
        · rw [if_neg h1, if_pos h2, if_neg (by omega), if_neg (by omega), decide_eq_true (by omega : -1 * c i < -1 * d i), decide_eq_false (by omega : ¬ -1 * d i < -1 * c i)]; exact ⟨rfl, rfl⟩
        · rw [if_neg h1, if_neg h2, if_pos (by omega), if_pos (by omega)]; exact ih
theorem lexC_true : ∀ xs ys : List Int, lexC true xs ys = !lexL ys xs
  | [], [] => rfl
  | [], _ :: _ => rfl
  | _ :: _, [] => rfl
  | x :: xs, y :: ys => by
    have ih := lexC_true xs ys
    unfold lexL at *
    rw [lexC, lexC]
    by_cases e : x = y
    · rw [if_pos e, if_pos e.symm, ih]
    · rw [if_neg e, if_neg (Ne.symm e)]
      by_cases h : x < y
      · rw [decide_eq_true h, decide_eq_false (by omega)]; rfl
      · rw [decide_eq_false h, decide_eq_true (by omega)]; rfl
theorem countP_take {α : Type} {l : List α} {q : α → Bool} {i : Nat} {y : α} (h : l[i]? = some y) : (l.take (i + 1)).countP q = (l.take i).countP q + (if q y = true then 1 else 0) := by
  rw [List.take_add_one, h, List.countP_append]
  simp [List.countP_cons]
noncomputable def evP (p : List Int) (x : Int) : Int := p.foldr (fun a r => a + x * r) 0
noncomputable def addP : List Int → List Int → List Int
  | [], q => q
  | p, [] => p
  | a :: p, b :: q => (a + b) :: addP p q
noncomputable def linP (c : Int) (p : List Int) : List Int := addP (p.map fun a => c * a) (0 :: p)
theorem evP_add (x : Int) : ∀ p q, evP (addP p q) x = evP p x + evP q x
  | [], q => by simp [addP, evP]
  | a :: p, [] => by simp [addP, evP]
  | a :: p, b :: q => by
    have ih := evP_add x p q
    unfold evP at *
    simp only [addP, List.foldr_cons, ih, Int.mul_add]
    omega
theorem evP_scale (c x : Int) : ∀ p, evP (p.map fun a => c * a) x = c * evP p x
  | [] => by simp [evP]
  | a :: p => by
    have ih := evP_scale c x p
    unfold evP at *
    simp only [List.map_cons, List.foldr_cons, ih, Int.mul_add]
    rw [Int.mul_left_comm]
theorem evP_lin (c x : Int) (p : List Int) : evP (linP c p) x = (x + c) * evP p x := by
  unfold linP
  rw [evP_add, evP_scale]
  have : evP (0 :: p) x = x * evP p x := by simp [evP]
  rw [this, Int.add_mul]
  omega
noncomputable def quadT : Nat → List Int
  | 0 => [0, 6, 11, 6, 1]
  | 1 => [0, -2, -1, 2, 1]
  | 2 => [0, 2, -1, -2, 1]
  | _ => [0, -6, 11, -6, 1]
theorem quadT_ev (x : Int) : ∀ c, c < 4 → evP (quadT c) x = (x + 3 - (c : Int)) * (x + 3 - (c : Int) - 1) * (x + 3 - (c : Int) - 2) * (x + 3 - (c : Int) - 3) := by
  have key : ∀ c : Nat, evP (linP (3 - (c : Int)) (linP (2 - (c : Int)) (linP (1 - (c : Int)) (linP (0 - (c : Int)) [1])))) x = (x + 3 - (c : Int)) * (x + 3 - (c : Int) - 1) * (x + 3 - (c : Int) - 2) * (x + 3 - (c : Int) - 3) := fun c => by
    rw [evP_lin, evP_lin, evP_lin, evP_lin]
    have e1 : evP [1] x = 1 := by simp [evP]
    rw [e1, Int.mul_one, ← Int.mul_assoc, ← Int.mul_assoc]
    congr 1
    · congr 1
      · congr 1 <;> omega
      · omega
    · omega
  intro c hc
  rw [← key c]
  match c, hc with
  | 0, _ => rfl
  | 1, _ => rfl
  | 2, _ => rfl
  | 3, _ => rfl
noncomputable def fallX (lf : List Nat) (bt : List Bool) (i j : Nat) : Bool := Nat.blt (lf.getD j 0) (lf.getD i 0) || (Nat.beq (lf.getD i 0) (lf.getD j 0) && bt.getD (lf.getD i 0) false)
noncomputable def linesV : List (List Nat) := [[3, 2, 1, 0], [2, 3, 1, 0], [2, 1, 3, 0], [2, 1, 0, 3], [3, 1, 2, 0], [1, 3, 2, 0], [1, 2, 3, 0], [1, 2, 0, 3], [3, 1, 0, 2], [1, 3, 0, 2], [1, 0, 3, 2], [1, 0, 2, 3], [3, 2, 0, 1], [2, 3, 0, 1], [2, 0, 3, 1], [2, 0, 1, 3], [3, 0, 2, 1], [0, 3, 2, 1], [0, 2, 3, 1], [0, 2, 1, 3], [3, 0, 1, 2], [0, 3, 1, 2], [0, 1, 3, 2], [0, 1, 2, 3]]
noncomputable def cntV (F : Nat → Nat → Bool) : List Nat → Nat
  | a :: b :: r => (match F a b with | true => Nat.succ (cntV F (b :: r)) | false => cntV F (b :: r))
  | _ => 0
noncomputable def lhsP (F : Nat → Nat → Bool) : List (List Nat) → List Int
  | [] => []
  | l :: r => addP (quadT (cntV F l)) (lhsP F r)
noncomputable def insV (lf : List Nat) (p : Nat) : List Nat → List Nat
  | [] => [p]
  | q :: r => match Nat.blt (lf.getD p 0) (lf.getD q 0) with | true => p :: q :: r | false => q :: insV lf p r
noncomputable def keptV (lf : List Nat) : List Nat := insV lf 3 (insV lf 2 (insV lf 1 (insV lf 0 [])))
noncomputable def rhsP (lf : List Nat) (bt : List Bool) : Nat → List Nat → List Int
  | _, [] => [24]
  | k, p :: r => linP (match bt.getD (lf.getD p 0) false with | true => -((k : Int) - (lf.getD p 0 : Int)) | false => (k : Int) - (lf.getD p 0 : Int)) (rhsP lf bt (k + 1) r)
noncomputable def eqP : List Int → List Int → Bool
  | [], [] => true
  | a :: p, b :: q => decide (a = b) && eqP p q
  | _, _ => false
noncomputable def ranksV : List (List Nat) := [[0, 0, 0, 0], [0, 0, 0, 3], [0, 0, 2, 2], [0, 0, 2, 3], [0, 0, 3, 0], [0, 0, 3, 2], [0, 1, 1, 1], [0, 1, 1, 3], [0, 1, 2, 2], [0, 1, 2, 3], [0, 1, 3, 1], [0, 1, 3, 2], [0, 2, 0, 2], [0, 2, 0, 3], [0, 2, 1, 2], [0, 2, 1, 3], [0, 2, 2, 0], [0, 2, 2, 1], [0, 2, 3, 0], [0, 2, 3, 1], [0, 3, 0, 0], [0, 3, 0, 2], [0, 3, 1, 1], [0, 3, 1, 2], [0, 3, 2, 0], [0, 3, 2, 1], [1, 0, 1, 1], [1, 0, 1, 3], [1, 0, 2, 2], [1, 0, 2, 3], [1, 0, 3, 1], [1, 0, 3, 2], [1, 1, 0, 1], [1, 1, 0, 3], [1, 1, 1, 0], [1, 1, 3, 0], [1, 2, 0, 2], [1, 2, 0, 3], [1, 2, 2, 0], [1, 2, 3, 0], [1, 3, 0, 1], [1, 3, 0, 2], [1, 3, 1, 0], [1, 3, 2, 0], [2, 0, 0, 2], [2, 0, 0, 3], [2, 0, 1, 2], [2, 0, 1, 3], [2, 0, 2, 0], [2, 0, 2, 1], [2, 0, 3, 0], [2, 0, 3, 1], [2, 1, 0, 2], [2, 1, 0, 3], [2, 1, 2, 0], [2, 1, 3, 0], [2, 2, 0, 0], [2, 2, 0, 1], [2, 2, 1, 0], [2, 3, 0, 0], [2, 3, 0, 1], [2, 3, 1, 0], [3, 0, 0, 0], [3, 0, 0, 2], [3, 0, 1, 1], [3, 0, 1, 2], [3, 0, 2, 0], [3, 0, 2, 1], [3, 1, 0, 1], [3, 1, 0, 2], [3, 1, 1, 0], [3, 1, 2, 0], [3, 2, 0, 0], [3, 2, 0, 1], [3, 2, 1, 0]]
noncomputable def bitsV : List (List Bool) := [[false, false, false, false], [false, false, false, true], [false, false, true, false], [false, false, true, true], [false, true, false, false], [false, true, false, true], [false, true, true, false], [false, true, true, true], [true, false, false, false], [true, false, false, true], [true, false, true, false], [true, false, true, true], [true, true, false, false], [true, true, false, true], [true, true, true, false], [true, true, true, true]]
noncomputable def lookV (lf : List Nat) : Bool := bitsV.all fun bt => eqP (lhsP (fallX lf bt) linesV) (rhsP lf bt 0 (keptV lf))
theorem all_cut {α : Type} {p : α → Bool} {l : List α} (n : Nat) (h1 : (l.take n).all p = true) (h2 : (l.drop n).all p = true) : l.all p = true := by
  have h := List.take_append_drop n l
  rw [← h, List.all_append, h1, h2]
  rfl
theorem lookV_00 : ((ranksV).take 3).all lookV = true := by decide +kernel
theorem lookV_01 : (((ranksV.drop 3)).take 3).all lookV = true := by decide +kernel
theorem lookV_02 : (((((ranksV.drop 3)).drop 3)).take 3).all lookV = true := by decide +kernel
theorem lookV_03 : (((((((ranksV.drop 3)).drop 3)).drop 3)).take 3).all lookV = true := by decide +kernel
theorem lookV_04 : (((((((((ranksV.drop 3)).drop 3)).drop 3)).drop 3)).take 3).all lookV = true := by decide +kernel
theorem lookV_05 : (((((((((((ranksV.drop 3)).drop 3)).drop 3)).drop 3)).drop 3)).take 3).all lookV = true := by decide +kernel
theorem lookV_06 : (((((((((((((ranksV.drop 3)).drop 3)).drop 3)).drop 3)).drop 3)).drop 3)).take 3).all lookV = true := by decide +kernel
theorem lookV_07 : (((((((((((((((ranksV.drop 3)).drop 3)).drop 3)).drop 3)).drop 3)).drop 3)).drop 3)).take 3).all lookV = true := by decide +kernel
theorem lookV_08 : (((((((((((((((((ranksV.drop 3)).drop 3)).drop 3)).drop 3)).drop 3)).drop 3)).drop 3)).drop 3)).take 3).all lookV = true := by decide +kernel
theorem lookV_09 : (((((((((((((((((((ranksV.drop 3)).drop 3)).drop 3)).drop 3)).drop 3)).drop 3)).drop 3)).drop 3)).drop 3)).take 3).all lookV = true := by decide +kernel
theorem lookV_10 : (((((((((((((((((((((ranksV.drop 3)).drop 3)).drop 3)).drop 3)).drop 3)).drop 3)).drop 3)).drop 3)).drop 3)).drop 3)).take 3).all lookV = true := by decide +kernel
theorem lookV_11 : (((((((((((((((((((((((ranksV.drop 3)).drop 3)).drop 3)).drop 3)).drop 3)).drop 3)).drop 3)).drop 3)).drop 3)).drop 3)).drop 3)).take 3).all lookV = true := by decide +kernel
theorem lookV_12 : (((((((((((((((((((((((((ranksV.drop 3)).drop 3)).drop 3)).drop 3)).drop 3)).drop 3)).drop 3)).drop 3)).drop 3)).drop 3)).drop 3)).drop 3)).take 3).all lookV = true := by decide +kernel
theorem lookV_13 : (((((((((((((((((((((((((((ranksV.drop 3)).drop 3)).drop 3)).drop 3)).drop 3)).drop 3)).drop 3)).drop 3)).drop 3)).drop 3)).drop 3)).drop 3)).drop 3)).take 3).all lookV = true := by decide +kernel
theorem lookV_14 : (((((((((((((((((((((((((((((ranksV.drop 3)).drop 3)).drop 3)).drop 3)).drop 3)).drop 3)).drop 3)).drop 3)).drop 3)).drop 3)).drop 3)).drop 3)).drop 3)).drop 3)).take 3).all lookV = true := by decide +kernel
theorem lookV_15 : (((((((((((((((((((((((((((((((ranksV.drop 3)).drop 3)).drop 3)).drop 3)).drop 3)).drop 3)).drop 3)).drop 3)).drop 3)).drop 3)).drop 3)).drop 3)).drop 3)).drop 3)).drop 3)).take 3).all lookV = true := by decide +kernel
theorem lookV_16 : (((((((((((((((((((((((((((((((((ranksV.drop 3)).drop 3)).drop 3)).drop 3)).drop 3)).drop 3)).drop 3)).drop 3)).drop 3)).drop 3)).drop 3)).drop 3)).drop 3)).drop 3)).drop 3)).drop 3)).take 3).all lookV = true := by decide +kernel
theorem lookV_17 : (((((((((((((((((((((((((((((((((((ranksV.drop 3)).drop 3)).drop 3)).drop 3)).drop 3)).drop 3)).drop 3)).drop 3)).drop 3)).drop 3)).drop 3)).drop 3)).drop 3)).drop 3)).drop 3)).drop 3)).drop 3)).take 3).all lookV = true := by decide +kernel
theorem lookV_18 : (((((((((((((((((((((((((((((((((((((ranksV.drop 3)).drop 3)).drop 3)).drop 3)).drop 3)).drop 3)).drop 3)).drop 3)).drop 3)).drop 3)).drop 3)).drop 3)).drop 3)).drop 3)).drop 3)).drop 3)).drop 3)).drop 3)).take 3).all lookV = true := by decide +kernel
theorem lookV_19 : (((((((((((((((((((((((((((((((((((((((ranksV.drop 3)).drop 3)).drop 3)).drop 3)).drop 3)).drop 3)).drop 3)).drop 3)).drop 3)).drop 3)).drop 3)).drop 3)).drop 3)).drop 3)).drop 3)).drop 3)).drop 3)).drop 3)).drop 3)).take 3).all lookV = true := by decide +kernel
theorem lookV_20 : (((((((((((((((((((((((((((((((((((((((((ranksV.drop 3)).drop 3)).drop 3)).drop 3)).drop 3)).drop 3)).drop 3)).drop 3)).drop 3)).drop 3)).drop 3)).drop 3)).drop 3)).drop 3)).drop 3)).drop 3)).drop 3)).drop 3)).drop 3)).drop 3)).take 3).all lookV = true := by decide +kernel
theorem lookV_21 : (((((((((((((((((((((((((((((((((((((((((((ranksV.drop 3)).drop 3)).drop 3)).drop 3)).drop 3)).drop 3)).drop 3)).drop 3)).drop 3)).drop 3)).drop 3)).drop 3)).drop 3)).drop 3)).drop 3)).drop 3)).drop 3)).drop 3)).drop 3)).drop 3)).drop 3)).take 3).all lookV = true := by decide +kernel
theorem lookV_22 : (((((((((((((((((((((((((((((((((((((((((((((ranksV.drop 3)).drop 3)).drop 3)).drop 3)).drop 3)).drop 3)).drop 3)).drop 3)).drop 3)).drop 3)).drop 3)).drop 3)).drop 3)).drop 3)).drop 3)).drop 3)).drop 3)).drop 3)).drop 3)).drop 3)).drop 3)).drop 3)).take 3).all lookV = true := by decide +kernel
theorem lookV_23 : (((((((((((((((((((((((((((((((((((((((((((((((ranksV.drop 3)).drop 3)).drop 3)).drop 3)).drop 3)).drop 3)).drop 3)).drop 3)).drop 3)).drop 3)).drop 3)).drop 3)).drop 3)).drop 3)).drop 3)).drop 3)).drop 3)).drop 3)).drop 3)).drop 3)).drop 3)).drop 3)).drop 3)).take 3).all lookV = true := by decide +kernel
theorem lookV_24 : (((((((((((((((((((((((((((((((((((((((((((((((((ranksV.drop 3)).drop 3)).drop 3)).drop 3)).drop 3)).drop 3)).drop 3)).drop 3)).drop 3)).drop 3)).drop 3)).drop 3)).drop 3)).drop 3)).drop 3)).drop 3)).drop 3)).drop 3)).drop 3)).drop 3)).drop 3)).drop 3)).drop 3)).drop 3)).take 3).all lookV = true := by decide +kernel
theorem newcomb_look : (ranksV.all fun lf => bitsV.all fun bt => eqP (lhsP (fallX lf bt) linesV) (rhsP lf bt 0 (keptV lf))) = true :=
  all_cut 3 lookV_00 (all_cut 3 lookV_01 (all_cut 3 lookV_02 (all_cut 3 lookV_03 (all_cut 3 lookV_04 (all_cut 3 lookV_05 (all_cut 3 lookV_06 (all_cut 3 lookV_07 (all_cut 3 lookV_08 (all_cut 3 lookV_09 (all_cut 3 lookV_10 (all_cut 3 lookV_11 (all_cut 3 lookV_12 (all_cut 3 lookV_13 (all_cut 3 lookV_14 (all_cut 3 lookV_15 (all_cut 3 lookV_16 (all_cut 3 lookV_17 (all_cut 3 lookV_18 (all_cut 3 lookV_19 (all_cut 3 lookV_20 (all_cut 3 lookV_21 (all_cut 3 lookV_22 (all_cut 3 lookV_23 (all_cut 3 lookV_24 rfl))))))))))))))))))))))))noncomputable abbrev wS (ks : Ks) (x : Int) : List Int := wt ks (colS x)
noncomputable abbrev csX (ss : List Int) (q : List Nat) : List (Nat → Int) := q.map fun p => colS (ss.getD p 0)
noncomputable def pRt (ks : Ks) (cs : List (Nat → Int)) (c : Nat → Int) (i : Nat) : Bool := !decide (0 < cmpK ks (cs.getD i c) c)
noncomputable def pLt (ks : Ks) (cs : List (Nat → Int)) (c : Nat → Int) (i : Nat) : Bool := decide (cmpK ks (cs.getD i c) c < 0)
noncomputable def insP (ks : Ks) (ss : List Int) (q : List Nat) (i : Nat) : List Nat := insAt (bis (pRt ks (csX ss q) (colS (ss.getD i 0))) 0 q.length).1 i q
noncomputable def keptX (ks : Ks) (ss : List Int) (n : Nat) : List Nat := (List.range n).foldl (insP ks ss) []
theorem keptX_succ (ks : Ks) (ss : List Int) (n : Nat) : keptX ks ss (n + 1) = insP ks ss (keptX ks ss n) n := by
  unfold keptX; rw [List.range_succ, List.foldl_append]; rfl
theorem bis_cs {ks : Ks} (hk : KsOk ks) {ss : List Int} {q : List Nat} (x : Int) (right : Bool) (hA : Asc (wS ks) (q.map fun p => ss.getD p 0)) :
    (bis (if right then pRt ks (csX ss q) (colS x) else pLt ks (csX ss q) (colS x)) 0 q.length).1 = (q.map fun p => ss.getD p 0).countP fun z => if right then !lexL (wS ks x) (wS ks z) else lexL (wS ks z) (wS ks x) := by
  have dn : Dn (wS ks) fun z => if right then !lexL (wS ks x) (wS ks z) else lexL (wS ks z) (wS ks x) := by
    cases right with
    | true => exact dn_le (wS ks) x
    | false => exact dn_lt (wS ks) x
  refine bis_asc dn hA 0 (fun i hi => ?_) (Nat.zero_le _) (Nat.le_trans List.countP_le_length (by rw [List.length_map]; exact Nat.le_refl _)) (by rw [List.length_map]; exact Nat.le_refl _)
  have hi' : i < q.length := by rw [List.length_map] at hi; exact hi
  have e1 : (csX ss q).getD i (colS x) = colS (ss.getD q[i] 0) := by
    rw [List.getD_eq_getElem?_getD, List.getElem?_map, List.getElem?_eq_getElem hi']; rfl
  have e2 : (q.map fun p => ss.getD p 0).getD i 0 = ss.getD q[i] 0 := by
    rw [List.getD_eq_getElem?_getD, List.getElem?_map, List.getElem?_eq_getElem hi']; rfl
  cases right with
  | true =>
    simp only [if_true]
    unfold pRt
    rw [e1, e2, (cmpK_lt hk _ _).2]
  | false =>
    simp only [Bool.false_eq_true, if_false]
    unfold pLt
    rw [e1, e2, (cmpK_lt hk _ _).1]
theorem kept_tag {ks : Ks} (hk : KsOk ks) (ss : List Int) : ∀ n, n ≤ ss.length → ∃ xs, (keptX ks ss n).Perm (List.range n) ∧ Tag (wS ks) ss (keptX ks ss n) xs
  | 0, _ => ⟨[], .nil, Tag.nil⟩
  | n + 1, h => by
    obtain ⟨xs, hp, T⟩ := kept_tag hk ss n (by omega)
    have hA := T.asc
    have hx := T.2.2
    rw [keptX_succ]
    unfold insP
    subst hx
    have e := bis_cs hk (ss := ss) (q := keptX ks ss n) (ss.getD n 0) true hA
    simp only [if_true] at e
    refine ⟨_, ?_, T.ins (a := n) (by omega) true (fun b hb => by simpa using List.mem_range.mp (hp.mem_iff.mp hb)) (k := _) (by rw [e]; rfl)⟩
    refine (insAt_perm _ _ _).trans ?_
    rw [List.range_succ]
    exact (hp.cons n).trans (List.perm_append_singleton n _).symm
theorem kept_stb {ks : Ks} (hk : KsOk ks) {ss : List Int} (h4 : ss.length = 4) : (keptX ks ss 4).Perm (List.range 4) ∧ (keptX ks ss 4).Pairwise (Stb (ss.map (wS ks))) := by
  obtain ⟨xs, hp, T⟩ := kept_tag hk ss 4 (by omega)
  exact ⟨hp, T.1⟩
theorem map_range_get {ss : List Int} : (List.range ss.length).map (fun p => ss.getD p 0) = ss := by
  apply List.ext_getElem?
  intro i
  rw [List.getElem?_map]
  by_cases h : i < ss.length
  · rw [List.getElem?_range h, List.getElem?_eq_getElem h]
    show some (ss.getD i 0) = _
    rw [List.getD_eq_getElem?_getD, List.getElem?_eq_getElem h]; rfl
  · rw [List.getElem?_eq_none (by simpa using h), List.getElem?_eq_none (by simpa using h)]; rfl
theorem pure_side {ks : Ks} (hk : KsOk ks) {ss : List Int} (h4 : ss.length = 4) (x : Int) (right : Bool) :
    (bis (if right then pRt ks (csX ss (keptX ks ss 4)) (colS x) else pLt ks (csX ss (keptX ks ss 4)) (colS x)) 0 (keptX ks ss 4).length).1 = ss.countP fun z => if right then !lexL (wS ks x) (wS ks z) else lexL (wS ks z) (wS ks x) := by
  obtain ⟨xs, hp, T⟩ := kept_tag hk ss 4 (by omega)
  have hA := T.asc
  rw [← T.2.2] at hA
  rw [bis_cs hk x right hA]
  refine ((hp.map _).trans (List.Perm.of_eq ?_)).countP_eq _
  rw [← h4]
  exact map_range_get
noncomputable def lfX (ks : Ks) (ss : List Int) (p : Nat) : Nat := ss.countP fun z => lexL (wS ks z) (wS ks (ss.getD p 0))
noncomputable def lfV (ks : Ks) (ss : List Int) : List Nat := (List.range 4).map (lfX ks ss)
noncomputable def btAt (told : Int) (k : Nat) : Bool := (told.fdiv (2 ^ k)).fmod 2 == 1
noncomputable def btV (told : Int) : List Bool := (List.range 4).map (btAt told)
noncomputable abbrev wAt (ks : Ks) (ss : List Int) (p : Nat) : List Int := wS ks (ss.getD p 0)
noncomputable def fallL (ks : Ks) (ss : List Int) (told : Int) (i j : Nat) : Bool := decide (sgnL (wAt ks ss i) (wAt ks ss j) = 1) || (decide (sgnL (wAt ks ss i) (wAt ks ss j) = 0) && btAt told (lfX ks ss i))
theorem ws_get {ks : Ks} {ss : List Int} (h4 : ss.length = 4) {p : Nat} (hp : p < 4) : (ss.map (wS ks)).getD p [] = wAt ks ss p := w_get (f := wS ks) (by omega)
theorem lf_rank {ks : Ks} {ss : List Int} (h4 : ss.length = 4) {p : Nat} (hp : p < 4) : rank (ss.map (wS ks)) 4 p = (lfX ks ss p : Int) := by
  unfold rank lfX
  congr 1
  have e : ss.countP (fun z => lexL (wS ks z) (wS ks (ss.getD p 0))) = ((List.range 4).map fun q => ss.getD q 0).countP (fun z => lexL (wS ks z) (wS ks (ss.getD p 0))) := by rw [← h4, map_range_get]
  rw [e, List.countP_map, ws_get h4 hp]
  refine List.countP_congr fun q hq => ?_
  rw [ws_get h4 (List.mem_range.mp hq)]
  rfl
theorem lf_lt {ks : Ks} {ss : List Int} (h4 : ss.length = 4) {i j : Nat} (hi : i < 4) (hj : j < 4) : lexL (wAt ks ss i) (wAt ks ss j) = decide (lfX ks ss i < lfX ks ss j) := by
  have := rank_lt (ws := ss.map (wS ks)) hi hj
  rw [lf_rank h4 hi, lf_rank h4 hj, ws_get h4 hi, ws_get h4 hj] at this
  rw [← this]
  congr 1; apply propext; omega
theorem lf_le4 {ks : Ks} {ss : List Int} (h4 : ss.length = 4) {p : Nat} : lfX ks ss p ≤ 4 := by
  have : lfX ks ss p ≤ ss.length := List.countP_le_length
  omega
theorem lfV_get {ks : Ks} {ss : List Int} {p : Nat} (hp : p < 4) : (lfV ks ss).getD p 0 = lfX ks ss p := by
  unfold lfV
  rw [List.getD_eq_getElem?_getD, List.getElem?_map, List.getElem?_range hp]; rfl
theorem lf_self {ks : Ks} {ss : List Int} (h4 : ss.length = 4) {p : Nat} (hp : p < 4) : lfX ks ss p = (List.range 4).countP fun q => decide (lfX ks ss q < lfX ks ss p) := by
  have h := lf_rank (ks := ks) h4 hp
  unfold rank at h
  have h : (List.range 4).countP (fun j => lexL ((ss.map (wS ks)).getD j []) ((ss.map (wS ks)).getD p [])) = lfX ks ss p := by omega
  refine h.symm.trans (List.countP_congr fun q hq => ?_)
  rw [ws_get h4 (List.mem_range.mp hq), ws_get h4 hp, lf_lt h4 (List.mem_range.mp hq) hp]
theorem lf_lt4 {ks : Ks} {ss : List Int} (h4 : ss.length = 4) {p : Nat} (hp : p < 4) : lfX ks ss p < 4 := by
  have h := lf_self (ks := ks) h4 hp
  have h2 : (List.range 4).countP (fun q => decide (lfX ks ss q < lfX ks ss p)) ≤ (List.range 4).length := List.countP_le_length
  have : (List.range 4).countP (fun q => decide (lfX ks ss q < lfX ks ss p)) ≠ (List.range 4).length := fun e => by
    have := List.countP_eq_length.mp e p (List.mem_range.mpr hp)
    simp at this
  rw [List.length_range] at h2 this
  omega
noncomputable def validV (v : List Nat) : Bool := (List.range 4).all fun p => Nat.beq (v.getD p 0) ((List.range 4).countP fun q => Nat.blt (v.getD q 0) (v.getD p 0))
theorem ranks_look : ((List.range 4).all fun a => (List.range 4).all fun b => (List.range 4).all fun c => (List.range 4).all fun d => !validV [a, b, c, d] || ranksV.contains [a, b, c, d]) = true := by decide +kernel
theorem lfV_mem {ks : Ks} {ss : List Int} (h4 : ss.length = 4) : lfV ks ss ∈ ranksV := by
  have e : lfV ks ss = [lfX ks ss 0, lfX ks ss 1, lfX ks ss 2, lfX ks ss 3] := rfl
  have h := ranks_look
  simp only [List.all_eq_true] at h
  have h := h (lfX ks ss 0) (List.mem_range.mpr (lf_lt4 h4 (by omega))) (lfX ks ss 1) (List.mem_range.mpr (lf_lt4 h4 (by omega))) (lfX ks ss 2) (List.mem_range.mpr (lf_lt4 h4 (by omega))) (lfX ks ss 3) (List.mem_range.mpr (lf_lt4 h4 (by omega)))
  rw [← e] at h
  have hv : validV (lfV ks ss) = true := by
    unfold validV
    rw [List.all_eq_true]
    intro p hp
    have hp := List.mem_range.mp hp
    rw [lfV_get hp]
    have e2 : (List.range 4).countP (fun q => Nat.blt ((lfV ks ss).getD q 0) (lfX ks ss p)) = lfX ks ss p := by
      refine Eq.trans ?_ (lf_self h4 hp).symm
      refine List.countP_congr fun q hq => ?_
      rw [lfV_get (List.mem_range.mp hq)]
      simp [Nat.blt_eq]
    rw [e2]
    exact Nat.beq_refl _
  rw [hv] at h
  simpa using h
noncomputable def stbV (lf : List Nat) (i j : Nat) : Bool := Nat.blt (lf.getD i 0) (lf.getD j 0) || (Nat.beq (lf.getD i 0) (lf.getD j 0) && Nat.blt i j)
theorem kept_look : (ranksV.all fun lf => (keptV lf).isPerm (List.range 4) && decide ((keptV lf).Pairwise fun i j => stbV lf i j = true)) = true := by decide +kernel
theorem kept_eq {ks : Ks} (hk : KsOk ks) {ss : List Int} (h4 : ss.length = 4) : keptX ks ss 4 = keptV (lfV ks ss) := by
  have h := List.all_eq_true.mp kept_look _ (lfV_mem (ks := ks) h4)
  rw [Bool.and_eq_true] at h
  have hp := List.isPerm_iff.mp h.1
  have hw := of_decide_eq_true h.2
  obtain ⟨p1, p2⟩ := kept_stb hk h4
  refine stb_one (p1.trans hp.symm) p2 (hw.imp_of_mem fun {i j} hi hj q => ?_)
  have hi := List.mem_range.mp (hp.mem_iff.mp hi)
  have hj := List.mem_range.mp (hp.mem_iff.mp hj)
  unfold stbV at q
  rw [lfV_get hi, lfV_get hj, Bool.or_eq_true, Bool.and_eq_true, Nat.blt_eq, Nat.beq_eq, Nat.blt_eq] at q
  unfold Stb
  rw [ws_get h4 hi, ws_get h4 hj, lf_lt h4 hi hj]
  rcases q with q | ⟨q, r⟩
  · exact .inl (decide_eq_true q)
  · refine .inr ⟨lexL_tot _ _ ?_ ?_, r⟩
    · rw [lf_lt h4 hi hj]; exact decide_eq_false (by omega)
    · rw [lf_lt h4 hj hi]; exact decide_eq_false (by omega)
theorem fall_eq {ks : Ks} {ss : List Int} (h4 : ss.length = 4) (told : Int) {i j : Nat} (hi : i < 4) (hj : j < 4) : fallL ks ss told i j = fallX (lfV ks ss) (btV told) i j := by
  unfold fallL fallX sgnL
  rw [lfV_get hi, lfV_get hj, lf_lt h4 hi hj, lf_lt h4 hj hi]
  have hb : (btV told).getD (lfX ks ss i) false = btAt told (lfX ks ss i) := by
    unfold btV
    rw [List.getD_eq_getElem?_getD, List.getElem?_map, List.getElem?_range (lf_lt4 h4 hi)]; rfl
  rw [hb]
  rcases Nat.lt_trichotomy (lfX ks ss i) (lfX ks ss j) with h | h | h
  · have e1 : Nat.blt (lfX ks ss j) (lfX ks ss i) = false := by rw [Bool.eq_false_iff]; intro q; rw [Nat.blt_eq] at q; omega
    have e2 : Nat.beq (lfX ks ss i) (lfX ks ss j) = false := by rw [Bool.eq_false_iff]; intro q; rw [Nat.beq_eq] at q; omega
    rw [e1, e2, if_pos (decide_eq_true h)]; rfl
  · have e1 : Nat.blt (lfX ks ss j) (lfX ks ss i) = false := by rw [Bool.eq_false_iff]; intro q; rw [Nat.blt_eq] at q; omega
    have e2 : Nat.beq (lfX ks ss i) (lfX ks ss j) = true := by rw [Nat.beq_eq]; exact h
    rw [e1, e2, if_neg (by simp; omega), if_neg (by simp; omega)]; rfl
  · have e1 : Nat.blt (lfX ks ss j) (lfX ks ss i) = true := by rw [Nat.blt_eq]; exact h
    rw [e1, if_neg (by simp; omega), if_pos (decide_eq_true h)]; rfl
theorem lines_look : linesX 4 = linesV.map (fun l => l.map Int.ofNat) := by decide +kernel
theorem lines_four : ∀ l ∈ linesV, ∃ a b c d, l = [a, b, c, d] ∧ a < 4 ∧ b < 4 ∧ c < 4 ∧ d < 4 := by
  have h : (linesV.all fun l => match l with | [a, b, c, d] => Nat.blt a 4 && Nat.blt b 4 && Nat.blt c 4 && Nat.blt d 4 | _ => false) = true := by decide +kernel
  intro l hl
  have := List.all_eq_true.mp h l hl
  match l, this with
  | [a, b, c, d], h =>
    simp only [Bool.and_eq_true, Nat.blt_eq] at h
    exact ⟨a, b, c, d, rfl, h.1.1.1, h.1.1.2, h.1.2, h.2⟩
theorem cnt_eq (F : Nat → Nat → Bool) (a b c d : Nat) : cntF F ([a, b, c, d].map Int.ofNat) = cntV F [a, b, c, d] := by
  have e : List.range 3 = [0, 1, 2] := rfl
  unfold cntF
  rw [e]
  have e0 : fallAt F ([a, b, c, d].map Int.ofNat) 0 = F a b := rfl
  have e1 : fallAt F ([a, b, c, d].map Int.ofNat) 1 = F b c := rfl
  have e2 : fallAt F ([a, b, c, d].map Int.ofNat) 2 = F c d := rfl
  simp only [List.filter_cons, e0, e1, e2, List.filter_nil, cntV]
  cases F a b <;> cases F b c <;> cases F c d <;> rfl
theorem cntV_congr {F G : Nat → Nat → Bool} (h : ∀ i j, i < 4 → j < 4 → F i j = G i j) {a b c d : Nat} (ha : a < 4) (hb : b < 4) (hc : c < 4) (hd : d < 4) : cntV F [a, b, c, d] = cntV G [a, b, c, d] := by
  simp only [cntV, h a b ha hb, h b c hb hc, h c d hc hd]
theorem cntV_lt (F : Nat → Nat → Bool) (a b c d : Nat) : cntV F [a, b, c, d] < 4 := by
  simp only [cntV]
  cases F a b <;> cases F b c <;> cases F c d <;> simp
noncomputable def gX (x : Int) (c : Nat) : Int := (x + 3 - (c : Int)) * (x + 3 - (c : Int) - 1) * (x + 3 - (c : Int) - 2) * (x + 3 - (c : Int) - 3)
theorem lhs_ev (F : Nat → Nat → Bool) (x : Int) : ∀ L : List (List Nat), (∀ l ∈ L, cntV F l < 4) → evP (lhsP F L) x = (L.map fun l => gX x (cntV F l)).sum
  | [], _ => by simp [lhsP, evP]
  | l :: r, h => by
    rw [lhsP, evP_add, quadT_ev x _ (h l (.head _)), lhs_ev F x r fun q hq => h q (.tail _ hq), List.map_cons, List.sum_cons]
    rfl
theorem eqP_eq : ∀ {p q : List Int}, eqP p q = true → p = q
  | [], [], _ => rfl
  | [], _ :: _, h => by cases h
  | _ :: _, [], h => by cases h
  | a :: p, b :: q, h => by
    rw [eqP, Bool.and_eq_true] at h
    rw [of_decide_eq_true h.1, eqP_eq h.2]
theorem bitsV_mem (told : Int) : btV told ∈ bitsV := by
  have e : btV told = [btAt told 0, btAt told 1, btAt told 2, btAt told 3] := rfl
  rw [e]
  cases btAt told 0 <;> cases btAt told 1 <;> cases btAt told 2 <;> cases btAt told 3 <;> decide
theorem newcomb {ks : Ks} (hk : KsOk ks) {ss : List Int} (h4 : ss.length = 4) (told x : Int) :
    ((linesX 4).map fun l => gX x (cntF (fallL ks ss told) l)).sum = prodN x (keptX ks ss 4) (lfX ks ss) (fun p => btAt told (lfX ks ss p)) 4 := by
  have h := List.all_eq_true.mp (List.all_eq_true.mp newcomb_look _ (lfV_mem (ks := ks) h4)) _ (bitsV_mem told)
  have h : evP (lhsP (fallX (lfV ks ss) (btV told)) linesV) x = evP (rhsP (lfV ks ss) (btV told) 0 (keptV (lfV ks ss))) x := congrArg (fun p => evP p x) (eqP_eq h)
  rw [lhs_ev _ x linesV fun l hl => by obtain ⟨a, b, c, d, rfl, _⟩ := lines_four l hl; exact cntV_lt _ a b c d] at h
  rw [lines_look, List.map_map]
  have e1 : linesV.map ((fun l => gX x (cntF (fallL ks ss told) l)) ∘ fun l => l.map Int.ofNat) = linesV.map fun l => gX x (cntV (fallX (lfV ks ss) (btV told)) l) := by
    refine List.map_congr_left fun l hl => ?_
    obtain ⟨a, b, c, d, rfl, ha, hb, hc, hd⟩ := lines_four l hl
    show gX x (cntF _ ([a, b, c, d].map Int.ofNat)) = _
    rw [cnt_eq, cntV_congr (fun i j hi hj => fall_eq h4 told hi hj) ha hb hc hd]
  rw [e1, h, kept_eq hk h4]
  have hl : (keptV (lfV ks ss)).Perm (List.range 4) := by
    have h := List.all_eq_true.mp kept_look _ (lfV_mem (ks := ks) h4)
    rw [Bool.and_eq_true] at h
    exact List.isPerm_iff.mp h.1
  have hlen := hl.length_eq
  have hm : ∀ p ∈ keptV (lfV ks ss), p < 4 := fun p hp => List.mem_range.mp (hl.mem_iff.mp hp)
  generalize keptV (lfV ks ss) = ps at hlen hm
  rw [List.length_range] at hlen
  match ps, hlen with
  | [p0, p1, p2, p3], _ =>
    have hb : ∀ p, p < 4 → (btV told).getD ((lfV ks ss).getD p 0) false = btAt told (lfX ks ss p) := fun p hp => by
      rw [lfV_get hp]
      unfold btV
      rw [List.getD_eq_getElem?_getD, List.getElem?_map, List.getElem?_range (lf_lt4 h4 hp)]; rfl
    have step : ∀ (k p : Nat) (r : List Nat), p < 4 → evP (rhsP (lfV ks ss) (btV told) k (p :: r)) x =
        (if btAt told (lfX ks ss p) = true then x - ((k : Int) - (lfX ks ss p : Int)) else x + ((k : Int) - (lfX ks ss p : Int))) * evP (rhsP (lfV ks ss) (btV told) (k + 1) r) x := fun k p r hp => by
      rw [rhsP, evP_lin, hb p hp, lfV_get hp]
      cases btAt told (lfX ks ss p)
      · rfl
      · rw [if_pos rfl]; congr 1
    have m0 := hm p0 (by simp)
    have m1 := hm p1 (by simp)
    have m2 := hm p2 (by simp)
    have m3 := hm p3 (by simp)
    rw [step _ _ _ m0, step _ _ _ m1, step _ _ _ m2, step _ _ _ m3, rhsP]
    have e24 : evP [24] x = 24 := by simp [evP]
    rw [e24]
    simp only [prodN, facX]
    have g0 : [p0, p1, p2, p3].getD 0 0 = p0 := rfl
    have g1 : [p0, p1, p2, p3].getD 1 0 = p1 := rfl
    have g2 : [p0, p1, p2, p3].getD 2 0 = p2 := rfl
    have g3 : [p0, p1, p2, p3].getD 3 0 = p3 := rfl
    rw [g0, g1, g2, g3]
    ac_rfl
theorem cmp_sgn : ∀ {ks : Ks}, KsOk ks → ∀ c d : Nat → Int, cmpK ks c d = sgnL (wt ks c) (wt ks d) := by
  intro ks hk c d
  obtain ⟨h1, h2⟩ := cmpK_lt hk c d
  have h3 : cmpK ks c d = -1 ∨ cmpK ks c d = 0 ∨ cmpK ks c d = 1 := by
    clear h1 h2
    induction ks with
    | nil => exact .inr (.inl rfl)
    | cons k r ih =>
      obtain ⟨i, w⟩ := k
      have hw : w = 1 ∨ w = -1 := (hk (i, w) (.head _)).2
      have ih := ih fun k h => hk k (.tail _ h)
      rw [cmpK]
      split
      · omega
      · split
        · omega
        · exact ih
  unfold sgnL
  rw [← h1, ← h2]
  rcases h3 with e | e | e <;> rw [e] <;> rfl
noncomputable def wsum (g : Int → Int) (t : List (Int × Int)) : Int := (t.map fun p => p.2 * g p.1).sum
theorem wsum_put {t : List (Int × Int)} (nd : (t.map (·.1)).Nodup) (g : Int → Int) (k n : Int) : wsum g (putI t k (match getI t k with | some m => m + n | none => n)) = wsum g t + n * g k := by
  induction t with
  | nil => simp [putI, getI, wsum]
  | cons p r ih =>
    rw [List.map_cons, List.nodup_cons] at nd
    have ih := ih nd.2
    by_cases e : p.1 = k
    · have hr : ∀ q ∈ r, q.1 ≠ k := fun q hq e2 => nd.1 (List.mem_map.mpr ⟨q, hq, e2.trans e.symm⟩)
      have hm : r.map (fun q => if q.1 = k then (q.1, p.2 + n) else q) = r := by
        conv => rhs; rw [← List.map_id r]
        exact List.map_congr_left fun q hq => by rw [if_neg (hr q hq)]; rfl
      have : putI (p :: r) k (p.2 + n) = (p.1, p.2 + n) :: r := by
        unfold putI
        rw [if_pos (by simp [e]), List.map_cons, if_pos e, hm]
      have hg : getI (p :: r) k = some p.2 := by simp [getI, e]
      rw [hg]
      show wsum g (putI (p :: r) k (p.2 + n)) = _
      rw [this]
      unfold wsum
      simp only [List.map_cons, List.sum_cons]
      rw [Int.add_mul, e]
      omega
    · have hg : getI (p :: r) k = getI r k := by simp [getI, e]
      have hp : ∀ n, wsum g (putI (p :: r) k n) = p.2 * g p.1 + wsum g (putI r k n) := by
        intro n
        unfold putI
        by_cases h : (r.any fun q => decide (q.1 = k)) = true
        · rw [if_pos h, if_pos (by simp [h])]
          simp [wsum, e]
        · rw [if_neg h, if_neg (by simpa [e] using h)]
          simp [wsum]
      rw [hg, hp, ih]
      simp [wsum]
      omega
noncomputable def TOk (t : List (Int × Int)) (i : Nat) : Prop := (t.map (·.1)).Nodup ∧ ∀ p ∈ t, 0 ≤ p.1 ∧ p.1 ≤ 3 ∧ 0 ≤ p.2 ∧ p.2 ≤ (i : Int)
theorem getI_mem {t : List (Int × Int)} {k m : Int} (h : getI t k = some m) : (k, m) ∈ t := by
  unfold getI at h
  obtain ⟨p, hp, e⟩ := Option.map_eq_some_iff.mp h
  have h1 := List.find?_some hp
  have h2 := List.mem_of_find?_eq_some hp
  have : p.1 = k := of_decide_eq_true h1
  rw [← this, ← e]; exact h2
theorem put_ok {t : List (Int × Int)} {i : Nat} (h : TOk t i) {c : Nat} (hc : c ≤ 3) : TOk (putI t c (match getI t c with | some m => m + 1 | none => 1)) (i + 1) := by
  obtain ⟨nd, h⟩ := h
  have hn : 0 ≤ (match getI t (c : Int) with | some m => m + 1 | none => 1) ∧ (match getI t (c : Int) with | some m => m + 1 | none => 1) ≤ ((i + 1 : Nat) : Int) := by
    cases e : getI t (c : Int) with
    | none => show (0 : Int) ≤ 1 ∧ (1 : Int) ≤ _; omega
    | some m => have := h _ (getI_mem e); show 0 ≤ m + 1 ∧ m + 1 ≤ _; omega
  generalize (match getI t (c : Int) with | some m => m + 1 | none => 1) = n at hn
  unfold putI
  split
  · have e1 : (t.map fun p => if p.1 = (c : Int) then (p.1, n) else p).map (·.1) = t.map (·.1) := by
      rw [List.map_map]; exact List.map_congr_left fun p _ => by simp only [Function.comp]; split <;> rfl
    refine ⟨by rw [e1]; exact nd, fun p hp => ?_⟩
    obtain ⟨q, hq, rfl⟩ := List.mem_map.mp hp
    have := h q hq
    split
    · exact ⟨this.1, this.2.1, hn.1, hn.2⟩
    · omega
  · next hx =>
    refine ⟨?_, fun p hp => ?_⟩
    · rw [List.map_append, List.nodup_append]
      refine ⟨nd, by simp, fun a ha c' hc' e => hx ?_⟩
      simp only [List.map_cons, List.map_nil, List.mem_singleton] at hc'
      subst hc'
      obtain ⟨p, hp, e2⟩ := List.mem_map.mp ha
      exact List.any_eq_true.mpr ⟨p, hp, decide_eq_true (e2.trans e)⟩
    · rcases List.mem_append.mp hp with hp | hp
      · have := h p hp; omega
      · rw [List.mem_singleton.mp hp]; exact ⟨by omega, by omega, hn.1, hn.2⟩
theorem cnt_le (F : Nat → Nat → Bool) (l : List Int) : cntF F l ≤ 3 := Nat.le_trans (List.length_filter_le _ _) (Nat.le_of_eq List.length_range)
theorem stepT_put (F : Nat → Nat → Bool) (t : List (Int × Int)) (l : List Int) : stepT F t l = putI t (cntF F l : Nat) (match getI t (cntF F l : Nat) with | some m => m + 1 | none => 1) := rfl
theorem fold_ok (F : Nat → Nat → Bool) (g : Int → Int) : ∀ (ls : List (List Int)) (t : List (Int × Int)) (i : Nat), TOk t i → TOk (ls.foldl (stepT F) t) (i + ls.length) ∧ wsum g (ls.foldl (stepT F) t) = wsum g t + (ls.map fun l => g (cntF F l : Nat)).sum
  | [], t, i, h => ⟨h, by simp⟩
  | l :: r, t, i, h => by
    have h1 := put_ok h (cnt_le F l)
    rw [← stepT_put] at h1
    obtain ⟨h2, h3⟩ := fold_ok F g r _ _ h1
    rw [List.foldl_cons, List.length_cons, List.map_cons, List.sum_cons]
    refine ⟨by rw [show i + (r.length + 1) = i + 1 + r.length by omega]; exact h2, ?_⟩
    rw [h3, stepT_put, wsum_put h.1]
    omega
theorem table_ok (F : Nat → Nat → Bool) : TOk (tableX F (linesX 4)) 24 := by
  have h := (fold_ok F (fun _ => 0) (linesX 4) [] 0 ⟨.nil, fun _ h => nomatch h⟩).1
  rw [linesX4] at h
  exact h
theorem table_sum (F : Nat → Nat → Bool) (g : Int → Int) : wsum g (tableX F (linesX 4)) = ((linesX 4).map fun l => g (cntF F l : Nat)).sum := by
  have h := (fold_ok F g (linesX 4) [] 0 ⟨.nil, fun _ h => nomatch h⟩).2
  refine Eq.trans h ?_
  show (0 : Int) + _ = _
  exact Int.zero_add _
theorem getI_sum {t : List (Int × Int)} (nd : (t.map (·.1)).Nodup) (k : Int) : (getI t k).getD 0 = wsum (fun j => if j = k then 1 else 0) t := by
  induction t with
  | nil => rfl
  | cons p r ih =>
    rw [List.map_cons, List.nodup_cons] at nd
    have ih := ih nd.2
    by_cases e : p.1 = k
    · have hr : ∀ q ∈ r, q.1 ≠ k := fun q hq e2 => nd.1 (List.mem_map.mpr ⟨q, hq, e2.trans e.symm⟩)
      have hg : getI (p :: r) k = some p.2 := by simp [getI, e]
      have hz : getI r k = none := by
        unfold getI
        rw [Option.map_eq_none_iff, List.find?_eq_none]
        intro q hq h; exact hr q hq (of_decide_eq_true h)
      rw [hz] at ih
      rw [hg]
      simp only [wsum, List.map_cons, List.sum_cons] at ih ⊢
      rw [← ih, if_pos e]
      simp
    · have hg : getI (p :: r) k = getI r k := by simp [getI, e]
      rw [hg, ih]
      simp [wsum, e]
theorem table_total (F : Nat → Nat → Bool) : sumI (tableX F (linesX 4)) = 24 := by
  have h := table_sum F fun _ => 1
  unfold wsum at h
  unfold sumI
  have e : (tableX F (linesX 4)).map (fun p => p.2 * 1) = (tableX F (linesX 4)).map (·.2) := List.map_congr_left fun p _ => Int.mul_one _
  rw [e] at h
  rw [h]
  rfl
theorem lex1 (x y : Int) : lexL [x] [y] = decide (x < y) := by
  unfold lexL
  rw [lexC]
  split
  · next e => rw [e]; exact (decide_eq_false (by omega)).symm
  · rfl
noncomputable abbrev f1 (x : Int) : List Int := [x]
theorem asc1 {ns : List Int} (h : ns.Pairwise (· ≤ ·)) : Asc f1 ns := h.imp fun {x y} h => by rw [lex1]; exact decide_eq_false (by omega)
theorem bis_l {ns : List Int} (h : ns.Pairwise (· ≤ ·)) (x : Int) : (bis (pLi ns x) 0 ns.length).1 = ns.countP fun z => decide (z < x) := by
  have := bis_asc (dn_lt f1 x) (asc1 h) (p := pLi ns x) 0 (fun i hi => by rw [lex1]; rfl) (Nat.zero_le _) List.countP_le_length (Nat.le_refl _)
  simpa only [lex1] using this
theorem bis_r {ns : List Int} (h : ns.Pairwise (· ≤ ·)) (x : Int) : (bis (pRi ns x) 0 ns.length).1 = ns.countP fun z => !decide (x < z) := by
  have := bis_asc (dn_le f1 x) (asc1 h) (p := pRi ns x) 0 (fun i hi => by rw [lex1]; rfl) (Nat.zero_le _) List.countP_le_length (Nat.le_refl _)
  simpa only [lex1] using this
theorem ins_ord {ns : List Int} (h : ns.Pairwise (· ≤ ·)) {x : Int} {P : Int → Bool} (hP : Dn f1 P) (h1 : ∀ z, P z = true → z ≤ x) (h2 : ∀ z, P z = false → x ≤ z) : (insAt (ns.countP P) x ns).Pairwise (· ≤ ·) := by
  have ha := asc_pre hP (asc1 h)
  unfold insAt
  rw [List.pairwise_append, List.pairwise_cons]
  have hd : ∀ y ∈ ns.drop (ns.countP P), x ≤ y := fun y hy => by
    obtain ⟨i, hi, e⟩ := List.mem_iff_getElem.mp hy
    refine h2 y ?_
    rw [List.getElem_drop] at e
    have hi' : ns.countP P + i < ns.length := by rw [List.length_drop] at hi; omega
    have := ha _ y (by rw [List.getElem?_eq_getElem hi', e])
    cases q : P y with
    | false => rfl
    | true => have := this.mp q; omega
  have ht : ∀ y ∈ ns.take (ns.countP P), y ≤ x := fun y hy => by
    obtain ⟨i, hi, e⟩ := List.mem_take_iff_getElem.mp hy
    exact h1 y ((ha i y (by rw [List.getElem?_eq_getElem (by omega), e])).mpr (by omega))
  refine ⟨h.sublist (List.take_sublist _ _), ⟨hd, h.sublist (List.drop_sublist _ _)⟩, fun a ha b hb => ?_⟩
  rcases List.mem_cons.mp hb with rfl | hb
  · exact ht a ha
  · exact Int.le_trans (ht a ha) (hd b hb)
theorem insI_ok {ns : List Int} (h : ns.Pairwise (· ≤ ·)) (i : Nat) (c : Int) : (insI i ns c).Pairwise (· ≤ ·) ∧ (insI i ns c).Perm (c :: ns) := by
  refine ⟨?_, insAt_perm _ _ _⟩
  unfold insI
  split
  · rw [bis_l h]
    refine ins_ord h (fun x y h k => ?_) (fun z q => by have := of_decide_eq_true q; omega) (fun z q => by have := of_decide_eq_false q; omega)
    rw [lex1] at k
    have h := of_decide_eq_true h
    have k := of_decide_eq_false k
    exact decide_eq_true (by omega)
  · rw [bis_r h]
    refine ins_ord h (fun x y h k => ?_) (fun z q => by simpa using q) (fun z q => Int.le_of_lt (show c < z by simpa using q))
    rw [lex1] at k
    have k := of_decide_eq_false k
    have h : y ≤ c := by simpa using h
    have : x ≤ c := by omega
    simpa using this
theorem counts_ok (F : Nat → Nat → Bool) (ls : List (List Int)) : ∀ i, i ≤ ls.length → (countsX F ls i).Pairwise (· ≤ ·) ∧ (countsX F ls i).Perm ((ls.take i).map fun l => ((cntF F l : Nat) : Int))
  | 0, _ => ⟨.nil, .nil⟩
  | i + 1, h => by
    obtain ⟨h1, h2⟩ := counts_ok F ls i (by omega)
    have e : ls[i]? = some ls[i] := List.getElem?_eq_getElem (by omega)
    have hx : countsX F ls (i + 1) = insI i (countsX F ls i) (cntF F ls[i] : Nat) := by rw [countsX, e]
    obtain ⟨h3, h4⟩ := insI_ok h1 i (cntF F ls[i] : Nat)
    rw [hx]
    refine ⟨h3, h4.trans ?_⟩
    rw [List.take_add_one, e, List.map_append]
    exact (h2.cons _).trans (List.perm_append_singleton _ _).symm
noncomputable abbrev cs4 (F : Nat → Nat → Bool) : List Int := countsX F (linesX 4) 24
theorem cs4_ok (F : Nat → Nat → Bool) : (cs4 F).Pairwise (· ≤ ·) ∧ (cs4 F).Perm ((linesX 4).map fun l => ((cntF F l : Nat) : Int)) := by
  have h := counts_ok F (linesX 4) 24 (Nat.le_of_eq linesX4.symm)
  rw [List.take_of_length_le (Nat.le_of_eq linesX4)] at h
  exact h
theorem cs4_len (F : Nat → Nat → Bool) : (cs4 F).length = 24 := by rw [(cs4_ok F).2.length_eq, List.length_map, linesX4]
theorem le_lt_eq (ns : List Int) (k : Int) : (((ns.countP fun z => !decide (k < z)) : Nat) : Int) - ((ns.countP fun z => decide (z < k) : Nat) : Int) = (ns.map fun j => if j = k then (1 : Int) else 0).sum := by
  induction ns with
  | nil => rfl
  | cons x r ih =>
    rw [List.countP_cons, List.countP_cons, List.map_cons, List.sum_cons, ← ih]
    by_cases h1 : k < x
    · have h2 : ¬ x < k := by omega
      have h3 : ¬ x = k := by omega
      simp [h1, h2, h3]
    · by_cases h2 : x < k
      · have h3 : ¬ x = k := by omega
        simp [h1, h2, h3]; omega
      · have h3 : x = k := by omega
        simp [h1, h2, h3]; omega
theorem perm_sum {xs ys : List Int} (h : xs.Perm ys) : xs.sum = ys.sum := by
  induction h with
  | nil => rfl
  | cons x _ ih => rw [List.sum_cons, List.sum_cons, ih]
  | swap x y l => simp only [List.sum_cons]; omega
  | trans _ _ h1 h2 => exact h1.trans h2
theorem counts_get (F : Nat → Nat → Bool) (k : Int) : (((bis (pRi (cs4 F) k) 0 (cs4 F).length).1 : Nat) : Int) - (((bis (pLi (cs4 F) k) 0 (cs4 F).length).1 : Nat) : Int) = (getI (tableX F (linesX 4)) k).getD 0 := by
  obtain ⟨h1, h2⟩ := cs4_ok F
  rw [bis_l h1, bis_r h1, le_lt_eq, getI_sum (table_ok F).1, table_sum]
  rw [perm_sum (h2.map fun j => if j = k then (1 : Int) else 0), List.map_map]
  rfl
noncomputable def gI (x k : Int) : Int := (x + 3 - k) * (x + 3 - k - 1) * (x + 3 - k - 2) * (x + 3 - k - 3)
theorem total_eq {ks : Ks} (hk : KsOk ks) {ss : List Int} (h4 : ss.length = 4) (told x : Int) : wsum (gI x) (tableX (fallL ks ss told) (linesX 4)) = prodN x (keptX ks ss 4) (lfX ks ss) (fun p => btAt told (lfX ks ss p)) 4 := by
  rw [table_sum, ← newcomb hk h4 told x]
  rfl
section
variable {W : Wd} {A : Around} {s : Shared} {g : Heap} {R : Rl}
theorem product_ok {x : Int} {tx : Tok} {ka la ma : Addr} {kvs lvs mvs : List Value} {kn ln mn : Nat} {ss : Nat → Int} {ps : List Nat} {lf : Nat → Nat} {mk : Nat → Bool} (Cg : Cx Mine.hd.heap_39 W g) (hr : A.depth + 1 < recursionLimit) (hh : A.handled = none) (hR : Le R (hp g))
    (zk : At R ka (lstO kvs kn)) (Kp : KeptAt ss R kvs ps) (hps : ps.length = 4) (hp4 : ∀ p ∈ ps, p < 4) (zl : At R la (lstO lvs ln)) (hl : ∀ p, p < 4 → ∃ t, lvs[p]? = some (.int (lf p : Int) t)) (zm : At R ma (lstO mvs mn)) (hm : ∀ p, p < 4 → mvs[p]? = some (.bool (mk p)))
    (hx : Builtin.Int.intBits x ≤ 1200000) (hlf : ∀ p, lf p ≤ 4) :
    Does PR W A (call (.ref 140) [.int x tx, .ref ka, .ref la, .ref ma]) s g [] (Post0 R fun r _ => ∃ t, r = .int (prodN x ps lf mk 4) t) := by
  refine' enter (binds := [(Str.ofString "x", .int x tx), (Str.ofString "kept", .ref ka), (Str.ofString "lefts", .ref la), (Str.ofString "marks", .ref ma)]) Cg ?k1 ?k2 (by omega) ?k3 ?k4 ?k5 ?k6 ?k7 ?k8 ?_
  case k1 => k_is
  case k2 => k_is
  case k3 => exact fun _ => BindsTo.of_eq rfl
  case k4 => exact locs rfl
  case k5 => decide
  case k6 => rfl
  case k7 => rfl
  case k8 => rfl
  intro b L h st C F N hlt
  first | refine entS ?_ | refine entSE ?_
  intro e Qd hQd
  have Z : St R b L h _ [] R := St.start F N (fun a o q => st _ _ (hR a o q)) (by simp)
  first | refine exS ?_ | (refine hQn _ ?_; refine exS ?_)
  intro Q1 hQn hQr
  refine wpAny_Assign_Name ?_
  refine n_ci fun tk => ?_
  refine s_st Z fun h tk Z => ?_
  first | refine exS ?_ | (refine hQn _ ?_; refine exS ?_)
  intro Q1 hQn hQr
  refine wpAny_For ?_
  refine Call_ ?_
  refine' y_B C Z.F ?kg boot_enumerate ?_
  case kg => k_is
  refine PyProof.Rows.callWith_type1 ?_
  refine spliced_more ?_
  refine y_L Z.F rfl ?_
  refine spliced_none ?_
  refine s_enum (elts := [PySem.Expr.Name (Str.ofString "k") { line := 128, col := 8, endLine := 128, endCol := 9 }, PySem.Expr.Name (Str.ofString "row") { line := 128, col := 11, endLine := 128, endCol := 14 }]) (kk := 0) (pos := { line := 128, col := 8, endLine := 128, endCol := 14 }) hh Z zk fun ev h tk S => ?_
  refine s_loop S (fun i m mu Y => mu = [] ∧ (∃ t, m (Str.ofString "product") = some (.int (prodN x ps lf mk i) t)) ∧ m (Str.ofString "x") = some (.int x tx) ∧ m (Str.ofString "lefts") = some (.ref la) ∧ m (Str.ofString "marks") = some (.ref ma)) ?_ ?_ ?_
  · exact ⟨rfl, ⟨_, rfl⟩, rfl, rfl, rfl⟩
  · intro its i v m mu Y h tk le hi p910 p911 Z
    refine hide ?_
    intro G9 hG9
    obtain ⟨T0, ti, xv0, rfl, hv, hT⟩ := p910
    obtain ⟨rfl, ⟨tp, mp⟩, mx, ml, mm⟩ := p911
    refine hG9 ?_
    clear hG9 G9
    refine hide ?_
    intro G9 hG9
    obtain ⟨p, hpp, tr, ur, ra, q0, q1, q2, rfl, zr⟩ := Kp.at' hv
    refine hG9 ?_
    clear hG9 G9
    have hi4 : i < 4 := by rw [Kp.1, hps] at hi; exact hi
    have hp := hp4 p (List.mem_of_getElem? hpp)
    refine hide ?_
    intro G9 hG9
    obtain ⟨tl, el⟩ := hl p hp
    refine hG9 ?_
    clear hG9 G9
    have em := hm p hp
    have hgd : ps.getD i 0 = p := by rw [List.getD_eq_getElem?_getD, hpp]; rfl
    have zr : At R ra _ := zr
    refine loopS ?_
    intro Ql hQl
    refine s_unpack (vs := [.int i ti, .ref ra]) Z hT hh rfl rfl fun h tk Z => ?_
    refine assignInOrder_cons ?_
    try (refine loopS ?_; intro Ql hQl)
    refine wpAny_assign_Name ?_
    refine s_st Z fun h tk Z => ?_
    refine assignInOrder_cons ?_
    try (refine loopS ?_; intro Ql hQl)
    refine wpAny_assign_Name ?_
    refine s_st Z fun h tk Z => ?_
    refine assignInOrder_nil ?_
    first | refine exS ?_ | (refine hQn _ ?_; refine exS ?_)
    intro Q1 hQn hQr
    refine wpAny_Assign_Name ?_
    refine wpAny_BinOp ?_
    refine y_L Z.F rfl ?_
    refine Subscript_ ?_
    refine y_L Z.F ml ?_
    refine Subscript_ ?_
    refine y_L Z.F rfl ?_
    refine n_ci fun tk => ?_
    refine tup_item (i := 3) (Z.at (zr.mono le)) rfl (by decide) rfl ?_
    refine list_item (i := p) (Z.at (zl.mono le)) rfl (by omega) el ?_
    refine n_sub fun tk => ?_
    refine s_st Z fun h tk Z => ?_
    have hb1 := prodN_bits (ps := ps) (mk := mk) hx hlf i (by omega)
    have hb2 := facX_bits (ps := ps) (mk := mk) hx hi4 hlf
    have hok : IntMulOk (prodN x ps lf mk i) (facX x ps lf mk i) := .of_le hb1 hb2 (by omega)
    have hf : facX x ps lf mk i = if mk p = true then x - ((i : Int) - (lf p : Int)) else x + ((i : Int) - (lf p : Int)) := by unfold facX; rw [hgd]
    first | refine exS ?_ | (refine hQn _ ?_; refine exS ?_)
    intro Q1 hQn hQr
    refine wpAny_Assign_Name ?_
    refine wpAny_BinOp ?_
    refine y_L Z.F mp ?_
    refine wpAny_IfExp ?_
    refine isTrue_plain ?_
    refine Subscript_ ?_
    refine y_L Z.F mm ?_
    refine Subscript_ ?_
    refine y_L Z.F rfl ?_
    refine n_ci fun tk => ?_
    refine tup_item (i := 3) (Z.at (zr.mono le)) rfl (by decide) rfl ?_
    refine list_item (i := p) (Z.at (zm.mono le)) rfl (by omega) em ?_
    refine wpAny_truthy_bool ?_
    refine ite_b (fun c => ?_) (fun c => ?_)
    · first | refine norm (s := s) (h := h) (fun tk => ?_) | (refine hQn _ ?_; refine norm (s := s) (h := h) fun tk => ?_)
      refine wpAny_BinOp ?_
      refine y_L Z.F mx ?_
      refine y_L Z.F rfl ?_
      refine n_sub fun tk => ?_
      rw [if_pos c] at hf
      rw [← hf]
      refine n_mul hok fun tk => ?_
      refine s_st Z fun h tk Z => ?_
      first | refine wpAny_execs_nil ?_ | (refine hQn _ ?_; refine wpAny_execs_nil ?_)
      refine hQl _ _ ?_
      exact STurn.next (mu := []) Z le ⟨rfl, ⟨_, rfl⟩, (by exact mx), (by exact ml), (by exact mm)⟩
    · first | refine norm (s := s) (h := h) (fun tk => ?_) | (refine hQn _ ?_; refine norm (s := s) (h := h) fun tk => ?_)
      refine wpAny_BinOp ?_
      refine y_L Z.F mx ?_
      refine y_L Z.F rfl ?_
      refine n_add fun tk => ?_
      rw [if_neg (by rw [c]; decide)] at hf
      rw [← hf]
      refine n_mul hok fun tk => ?_
      refine s_st Z fun h tk Z => ?_
      first | refine wpAny_execs_nil ?_ | (refine hQn _ ?_; refine wpAny_execs_nil ?_)
      refine hQl _ _ ?_
      exact STurn.next (mu := []) Z le ⟨rfl, ⟨_, rfl⟩, (by exact mx), (by exact ml), (by exact mm)⟩
  · intro m mu Y h tk le p96 Z
    refine hide ?_
    intro G9 hG9
    obtain ⟨rfl, ⟨tp, mp⟩, mx, ml, mm⟩ := p96
    refine hG9 ?_
    clear hG9 G9
    rw [Kp.1, hps] at mp
    first | refine wpAny_execs_cons ?_ | (refine hQn _ ?_; refine wpAny_execs_cons ?_)
    refine wpAny_Return_some ?_
    refine y_L Z.F mp ?_
    first | refine hQd _ _ ?_ | refine hQr _ _ (hQd _ _ ?_)
    exact s_done0 Z fun _ _ => ⟨_, rfl⟩
end
section
variable {W : Wd} {A : Around} {s : Shared} {R X : Rl} {b h : Heap} {tk : Nat} {L : Addr} {m : Str → Option Value} {mu : Led} {Q E : Value → Shared → Prop}
theorem order_s {kl : Addr} {ks : Ks} (Z : St R b L h m mu X) (C : Cx Mine.hd.heap_39 W b) (hr : A.depth + 2 < recursionLimit) (hh : A.handled = none) (Kg : KeysAt X kl ks)
    (k : ∀ x h' tk' Y, Le X Y → OrderAt Y 38 x ks → St R b L h' m mu Y → Q (.ref x) { s with heap := h', toks := tk' }) :
    wpAny (model PR W.w) A (call (.ref 38) [.ref kl]) Q E { s with heap := h, toks := tk } := by
  refine hide ?_
  intro G9 hG9
  obtain ⟨fz, hX, N, hd⟩ := Z.ex
  refine hG9 ?_
  clear hG9 G9
  refine' call_cls Z.F C.X N ?c1 ?c2 ?c3 ?_
  case c1 => k_is
  case c2 => k_is
  case c3 => k_is
  intro x dx h1 F1 N1 l1 l2
  have zx := N1 _ (.head _)
  have zd := N1 _ (.tail _ (.head _))
  have hxd : x ≠ dx := Nat.ne_of_gt l2
  generalize hg : hideAll h1 [dx] = g
  have gk : ∀ c o, h1.get? c = some o → c ≠ dx → g.get? c = some o := fun c o e q => by rw [← hg]; exact hideAll_get _ e (by simpa using q)
  have gd : g.get? dx = none := by rw [← hg]; exact hideAll_none _ (.head _)
  have go : ∀ c o, g.get? c = some o → h1.get? c = some o := fun c o e => by rw [← hg] at e; exact of_hideAll _ e
  have gs : g.objs.size = h1.objs.size := by rw [← hg]; exact hideAll_size _ _
  have st : b.StaysIn g := fun c o e => gk c o (F1.keep c o e) fun q => by rw [q, zd.2.2] at e; cases e
  have C1 := C.keeps st
  have X1 : (Mine.hd.heap_39 W.w.params).In h1 := C.X.keeps F1.keep
  refine' code_enter (K := Mine.hd.heap_39) (binds := [(Str.ofString "self", .ref x), (Str.ofString "comp_select_list", .ref kl)]) X1 (C.T.nolimit.keeps F1.keep) ?k1 ?k2 ?r1 ?k3 ?k4 ?k5 ?k6 ?k7 ?k8 ?_
  case k1 => k_is
  case k2 => k_is
  case r1 => show A.depth + 1 < recursionLimit; omega
  case k3 => exact BindsTo.of_eq rfl
  case k4 => exact locs rfl
  case k5 => decide
  case k6 => rfl
  case k7 => rfl
  case k8 => rfl
  intro h2 hns hk
  have F : Fr g h1.objs.size h2 _ := ⟨hns, fun c o e => hk c o (go c o e), by rw [gs]; exact Nat.le_refl _⟩
  have N2 : News g h1.objs.size h2 [(dx, dictOf [] 0)] := fun p hp => by
    rw [List.mem_singleton.mp hp]
    exact ⟨hk _ _ zd.1, Nat.ne_of_lt (Heap.lt_size zd.1), gd⟩
  first | refine exS ?_ | (refine hQn _ ?_; refine exS ?_)
  intro Q1 hQn hQr
  refine plainObj_wpAny_Assign_Attribute ?_
  refine y_L F rfl ?_
  refine y_L F rfl ?_
  refine' set_dict F C1.X N2 ⟨hk _ _ zx.1, rfl, rfl, hk _ _ zd.1⟩ rfl ?s1 ?s2 ?s3 ?s4 rfl rfl (.head fun _ h => nomatch h) (Nat.le_of_ble_eq_true rfl) ?_
  case s1 => k_is
  case s2 => k_is
  case s3 => k_is
  case s4 => k_is
  intro h3 F3 N3
  first | refine wpAny_execs_nil ?_ | (refine hQn _ ?_; refine wpAny_execs_nil ?_)
  refine ⟨rfl, ?_⟩
  have kp : ∀ c o, h1.get? c = some o → c ≠ dx → h3.get? c = some o := fun c o e q => F3.keep c o (gk c o e q)
  have zd3 : ∃ hsh t n, h3.get? dx = some (dictOf [⟨hsh, .str (Str.ofString "comp_select_list") t, .ref kl⟩] n) := ⟨_, _, _, (N3 _ (.head _)).1⟩
  refine hide ?_
  intro G9 hG9
  obtain ⟨hsh, tt, nn, zd3⟩ := zd3
  refine hG9 ?_
  clear hG9 G9
  have hLd : L ≠ dx := Ne.symm zd.2.1
  have F4 : Fr b L h3 m := by
    refine hide ?_
    intro G9 hG9
    obtain ⟨oL, es, ep, hL, r⟩ := F1.ns
    refine hG9 ?_
    clear hG9 G9
    exact ⟨⟨oL, es, ep, kp L oL hL hLd, r⟩, fun c o e => kp c o (F1.keep c o e) (fun q => by rw [q, zd.2.2] at e; cases e), F1.above⟩
  have offd : ∀ p ∈ mu ++ fz, p.1 ≠ dx := fun p hp => Nat.ne_of_lt (l1 p hp)
  have offx : ∀ p ∈ mu ++ fz, p.1 ≠ x := fun p hp => Nat.ne_of_lt (Nat.lt_trans (l1 p hp) l2)
  refine k x h3 _ (Or X [(x, instObj 38 dx), (dx, dictOf [⟨hsh, .str (Str.ofString "comp_select_list") tt, .ref kl⟩] nn)]) (fun _ _ q => .inl q) ⟨dx, kl, hsh, tt, nn, .inr (.head _), .inr (.tail _ (.head _)), Kg.mono fun _ _ q => .inl q⟩ ⟨F4, Z.Rb, fun _ _ q => .inl (Z.RX _ _ q), ⟨[(x, instObj 38 dx), (dx, dictOf [⟨hsh, .str (Str.ofString "comp_select_list") tt, .ref kl⟩] nn)] ++ fz, ?_, ?_, ?_⟩, Z.nd⟩
  · rintro a o (q | q)
    · exact (hX a o q).imp id fun q => List.mem_append_right _ q
    · exact .inr (List.mem_append_left _ q)
  · intro p hp
    have hp' : p ∈ mu ++ fz ∨ p = (x, instObj 38 dx) ∨ p = (dx, dictOf [⟨hsh, .str (Str.ofString "comp_select_list") tt, .ref kl⟩] nn) := by
      simp only [List.mem_append, List.mem_cons, List.not_mem_nil, or_false] at hp ⊢
      rcases hp with hp | (hp | hp) | hp
      · exact .inl (.inl hp)
      · exact .inr (.inl hp)
      · exact .inr (.inr hp)
      · exact .inl (.inr hp)
    rcases hp' with hp | rfl | rfl
    · have z := N1 p (.tail _ (.tail _ hp))
      exact ⟨kp _ _ z.1 (offd p hp), z.2⟩
    · exact ⟨kp _ _ zx.1 hxd, zx.2⟩
    · exact ⟨zd3, zd.2⟩
  · refine Ds_app_r.mpr ⟨fun p hp q hq e => ?_, hd⟩
    simp only [List.mem_cons, List.not_mem_nil, or_false] at hq
    rcases hq with rfl | rfl
    · exact offx p (List.mem_append_left _ hp) e
    · exact offd p (List.mem_append_left _ hp) e
end
section
variable {prog : Program} {w : World} {A : Around} {s : Shared} {R X : Rl} {b h : Heap} {tk : Nat} {L : Addr} {m : Str → Option Value} {mu : Led} {E : Value → Shared → Prop} {Q : Value → Shared → Prop}
theorem s_sortedI {l : Addr} {vs : List Value} {n : Nat} {ns : List Int} (Z : St R b L h m mu X) (hl : h.get? l = some (lstO vs n)) (hi : IntsV vs ns) (h64 : vs.length < 64) (hs : ns.Pairwise (· ≤ ·))
    (k : ∀ D ws c h' tk' Y, Le X Y → At Y D (lstO ws c) → IntsV ws ns → St R b L h' m mu Y → Q (.ref D) { s with heap := h', toks := tk' }) :
    wpAny (model prog w) A (call (.builtin "sorted") [.ref l]) Q E { s with heap := h, toks := tk } := by
  refine sorted_ints (s := { s with heap := h, toks := tk }) (l := l) ⟨_, hl, rfl, n, rfl⟩ hi.are h64 fun out ns' a1 a2 a3 => ?_
  obtain ⟨e, he⟩ := sortedAll_at h vs out
  have hn : ns' = ns := List.Perm.eq_of_pairwise (fun a b _ _ h k => Int.le_antisymm h k) a3 hs a2
  subst hn
  refine Z.newX (o := lstO out.toList e) (fun _ _ => sortedAll_old) (Heap.get?_none_of_le (Nat.le_succ _)) he fun Y h1 h2 h3 => ?_
  exact k _ _ _ _ _ Y h1 h2 (IntsV.of a1) h3
theorem s_getI0 {K : Type} [DecidableEq K] {knd : KeyKind prog w K} {d : Addr} {o : Obj} {ns : List (K × Int)} {k : K} {key : Value} {z : Int} {t0 : Tok} (zd : h.get? d = some o) (hd : (d == sysModules) = false) (ho : DObj knd o ns) (hk : knd.is k key = true)
    (q : ∀ t tk', Q (.int ((getI ns k).getD z) t) { s with heap := h, toks := tk' }) : wpAny (model prog w) A (call (.builtin "dict.get") [.ref d, key, .int z t0]) Q E { s with heap := h, toks := tk } := by
  obtain ⟨kvs, ho, hp⟩ := ho
  have hm := (Heap.dictOf_iff (knd := knd)).mpr ⟨o, zd, ho⟩
  refine call_meetsIn PySem.F.slot_dict_get (Heap.DictOf.typeIs (s := { s with heap := h, toks := tk }) hm) PySem.F.entry_dict_get (PySem.F.args_dict_get_3 _ _ _) (meets_dict_get_default knd d hk hd _) ⟨_, hm.mapOf, ?_⟩
  rcases hp.value k with ⟨h1, h2⟩ | ⟨n, t, h1, h2⟩
  · rw [h2]; rw [h1] at q; exact q _ _
  · rw [h2]; rw [h1] at q; exact q _ _
theorem n_pow2 {k : Nat} {t u : Tok} (hk : k < 4) (q : ∀ tk', Q (.int (2 ^ k) tk) { s with heap := h, toks := tk' }) : wpAny (model prog w) A (binaryOp .Pow (.int 2 t) (.int (k : Int) u)) Q E { s with heap := h, toks := tk } := by
  match k, hk with
  | 0, _ => exact PySem.AutoIntOps.pow_0 (by decide) (by decide) (q _)
  | 1, _ => exact PySem.AutoIntOps.pow_4 (by decide) (by decide) (by decide) (by decide) (by decide) (q _)
  | 2, _ => exact PySem.AutoIntOps.pow_4 (by decide) (by decide) (by decide) (by decide) (by decide) (q _)
  | 3, _ => exact PySem.AutoIntOps.pow_4 (by decide) (by decide) (by decide) (by decide) (by decide) (q _)
theorem pylong2 {x : Int} {k : Nat} (hk : k < 4) : Builtin.divisionGoesByPylong x (2 ^ k) = false := by
  match k, hk with
  | 0, _ => exact PyProof.noPylong_small (by decide)
  | 1, _ => exact PyProof.noPylong_small (by decide)
  | 2, _ => exact PyProof.noPylong_small (by decide)
  | 3, _ => exact PyProof.noPylong_small (by decide)
theorem pow2_ne {k : Nat} : (2 : Int) ^ k ≠ 0 := by
  have : (0 : Int) < 2 ^ k := Int.pow_pos (by decide)
  omega
theorem n_abs {x : Int} {t : Tok} (q : ∀ u tk', Q (.int (if x < 0 then -x else x) u) { s with heap := h, toks := tk' }) : wpAny (model prog w) A (call (.builtin "abs") [.int x t]) Q E { s with heap := h, toks := tk } :=
  call_abs_int fun u tk => q u tk
end
section
variable {M : Model} {A : Around} {s : Shared} {env : Env} {E : Value → Shared → Prop} {Q : Value → Shared → Prop}
theorem or_b {x y : PySem.Expr} {pos : Pos} (h : wpAny M A (eval x env) (fun v s₁ => ∃ t, v = .bool t ∧ (if t = true then Q (.bool true) s₁ else wpAny M A (eval y env) Q E s₁)) E s) : wpAny M A (eval (.BoolOp .Or [x, y] pos) env) Q E s := by
  refine wpAny_Or2 (wpAny_mono h (fun v s₁ h₁ => ?_) fun _ _ x => x)
  obtain ⟨t, rfl, h⟩ := h₁
  refine wpAny_truthy_bool ?_
  cases t <;> exact h
theorem and_b {x y : PySem.Expr} {pos : Pos} (h : wpAny M A (eval x env) (fun v s₁ => ∃ t, v = .bool t ∧ (if t = true then wpAny M A (eval y env) Q E s₁ else Q (.bool false) s₁)) E s) : wpAny M A (eval (.BoolOp .And [x, y] pos) env) Q E s := by
  refine wpAny_And2 (wpAny_mono h (fun v s₁ h₁ => ?_) fun _ _ x => x)
  obtain ⟨t, rfl, h⟩ := h₁
  refine wpAny_truthy_bool ?_
  cases t <;> exact h
end
noncomputable def CellV (X : Rl) (c : Addr) (v : Value) : Prop := ∃ o, At X c o ∧ o.data = .cell (some v)
theorem CellV.mono {X Y : Rl} {c : Addr} {v : Value} (h : CellV X c v) (k : Le X Y) : CellV Y c v := let ⟨o, z, d⟩ := h; ⟨o, z.mono k, d⟩
section
variable {M : Model} {A : Around} {s : Shared} {env : Env} {E : Value → Shared → Prop} {Q : Value → Shared → Prop} {R X : Rl} {b h : Heap} {tk : Nat} {L : Addr} {m : Str → Option Value} {mu : Led} {c : Addr} {v : Value} {x : Str} {pos : Pos}
theorem y_CV (Z : St R b L h m mu X) (K : CellV X c v) (q : Q v { s with heap := h, toks := tk }) (hc : env.cells.lookup x = some c := by rfl) (hk : env.scope.kind = .function := by rfl) (hx : env.kindOf x = some .cell := by rfl) (hb : (x == ("__debug__" : Str)) = false := by decide) :
    wpAny M A (eval (.Name x pos) env) Q E { s with heap := h, toks := tk } := let ⟨o, z, d⟩ := K; y_C (Z.at z) d q hc hk hx hb
theorem y_FV (Z : St R b L h m mu X) (K : CellV X c v) (q : Q v { s with heap := h, toks := tk }) (hc : env.cells.lookup x = some c := by rfl) (hk : env.scope.kind = .function := by rfl) (hx : env.kindOf x = some .free := by rfl) (hb : (x == ("__debug__" : Str)) = false := by decide) (hn : (x == ("__classdict__" : Str)) = false := by decide) :
    wpAny M A (eval (.Name x pos) env) Q E { s with heap := h, toks := tk } := let ⟨o, z, d⟩ := K; y_F (Z.at z) d q hc hk hx hb hn
end
theorem St.rev {R X : Rl} {b h : Heap} {L : Addr} {m : Str → Option Value} {l r : Led} (Z : St R b L h m (l ++ r) X) : St R b L h m (l.reverse ++ r) X := Z.perm ((List.reverse_perm l).symm.append_right r)
theorem St.frz {R X : Rl} {b h : Heap} {L : Addr} {m : Str → Option Value} {l1 l2 : Led} {c : Addr} {o : Obj} {v : Value} (Z : St R b L h m (l1 ++ (c, o) :: l2) X) (d : o.data = .cell (some v)) {Q : Prop} (k : ∀ Y, Le X Y → CellV Y c v → St R b L h m (l1 ++ l2) Y → Q) : Q :=
  Z.freeze fun Y le z Z => k Y le ⟨o, z, d⟩ Z
theorem cells_un1 {cm : Str → Option Value} {n : Str} {c : Addr} {r : List (Str × Addr)} {cells : List (Addr × Obj)} (x : CellsAre cm ((n, c) :: r) cells) : ∃ o rest, cells = (c, o) :: rest ∧ (∃ v, o.data = .cell v) ∧ CellsAre cm r rest := let ⟨o, r, a, b, c⟩ := cells_un x; ⟨o, r, a, ⟨_, b⟩, c⟩
theorem AllAt.mono' {α : Type} {P : Rl → Value → α → Prop} (hP : ∀ {X Y : Rl} {v : Value} {x : α}, P X v x → Le X Y → P Y v x) {X Y : Rl} {vs : List Value} {xs : List α} (h : AllAt P X vs xs) (k : Le X Y) : AllAt P Y vs xs := ⟨h.1, fun i x e => let ⟨v, a, b⟩ := h.2 i x e; ⟨v, a, hP b k⟩⟩
theorem AllAt.ins {α : Type} {P : Rl → Value → α → Prop} {X : Rl} {vs : List Value} {xs : List α} {v : Value} {x : α} {k : Nat} (h : AllAt P X vs xs) (hv : P X v x) (hk : k ≤ vs.length) : AllAt P X (insAt k v vs) (insAt k x xs) := by
  have hl := h.1
  refine ⟨by unfold insAt; simp only [List.length_append, List.length_cons, List.length_take, List.length_drop]; omega, fun i y e => ?_⟩
  unfold insAt at e ⊢
  have l1 : (vs.take k).length = k := by rw [List.length_take]; omega
  have l2 : (xs.take k).length = k := by rw [List.length_take]; omega
  by_cases hi : i < k
  · rw [List.getElem?_append_left (by omega)] at e ⊢
    rw [List.getElem?_take_of_lt hi] at e ⊢
    exact h.2 i y e
  · rw [List.getElem?_append_right (by omega)] at e ⊢
    rw [l2] at e
    rw [l1]
    cases hj : i - k with
    | zero => rw [hj] at e; cases e; exact ⟨v, rfl, hv⟩
    | succ j =>
      rw [hj] at e
      rw [List.getElem?_cons_succ] at e ⊢
      rw [List.getElem?_drop] at e ⊢
      exact h.2 _ y e
theorem AllAt.rd {α : Type} {P : Rl → Value → α → Prop} {f : α → PyData} {X : Rl} (hP : ∀ {v : Value} {x : α}, P X v x → Rd X v (f x)) {vs : List Value} {xs : List α} (h : AllAt P X vs xs) : RdAll X vs (xs.map f) := by
  refine RdAll.of (by rw [List.length_map]; exact h.1) fun i d e => ?_
  rw [List.getElem?_map] at e
  cases hn : xs[i]? with
  | none => rw [hn] at e; cases e
  | some n =>
    rw [hn] at e
    cases e
    obtain ⟨v, q, r⟩ := h.2 i n hn
    exact ⟨v, q, hP r⟩
theorem RowsS.kept {X : Rl} {vs : List Value} {ss : List Int} (h : RowsS X vs ss) {p : List Nat} (hp : ∀ i ∈ p, i < ss.length) : KeptAt (fun i => ss.getD i 0) X (p.map fun i => vs.getD i .none) p := by
  refine ⟨List.length_map .., fun j i e => ?_⟩
  have hi := hp i (List.mem_of_getElem? e)
  obtain ⟨v, ev, r⟩ := h.2 i ss[i] (List.getElem?_eq_getElem hi)
  refine ⟨v, ?_, ?_⟩
  · rw [List.getElem?_map, e]
    show some (vs.getD i .none) = some v
    rw [List.getD_eq_getElem?_getD, ev]; rfl
  · show RowS X v i (ss.getD i 0)
    rw [List.getD_eq_getElem?_getD, List.getElem?_eq_getElem hi]; exact r
theorem RowsS.at' {X : Rl} {vs : List Value} {ss : List Int} (h : RowsS X vs ss) {i : Nat} {v : Value} (hv : vs[i]? = some v) : i < ss.length ∧ ss[i]? = some (ss.getD i 0) ∧ RowS X v i (ss.getD i 0) := by
  have hi : i < ss.length := by rw [← h.1]; exact (List.getElem?_eq_some_iff.mp hv).1
  have e0 : ss.getD i 0 = ss[i] := by rw [List.getD_eq_getElem?_getD, List.getElem?_eq_getElem hi]; rfl
  obtain ⟨v', e, r⟩ := h.2 i ss[i] (List.getElem?_eq_getElem hi)
  rw [hv] at e
  cases e
  exact ⟨hi, by rw [e0]; exact List.getElem?_eq_getElem hi, by rw [e0]; exact r⟩
noncomputable def rowT (ss : Nat → Int) (p : Nat) : PyData := .tuple [.int (colS (ss p) 0), .str (txt (colS (ss p) 1)), .int (colS (ss p) 2), .int (p : Int), .int (ss p)]
theorem RowS.rd {X : Rl} {v : Value} {p : Nat} {ss : Nat → Int} (h : RowS X v p (ss p)) : Rd X v (rowT ss p) := by
  obtain ⟨t, u, a, t0, t1, t2, rfl, z⟩ := h
  exact Rd.tup (vs := [colV (colS (ss p)) 0 t0, colV (colS (ss p)) 1 t1, colV (colS (ss p)) 2 t2, .int (p : Int) t, .int (ss p) u]) z (.cons Rd.int (.cons Rd.str (.cons Rd.int (.cons Rd.int (.cons Rd.int .nil)))))
theorem KeptAt.rd {ss : Nat → Int} {X : Rl} {vs : List Value} {ps : List Nat} (h : KeptAt ss X vs ps) : RdAll X vs (ps.map (rowT ss)) := AllAt.rd (f := rowT ss) (fun {v x} h => RowS.rd (ss := ss) (p := x) h) h
theorem eqv_rowT (ss : Nat → Int) (x y : Nat) : PyData.eqv (rowT ss x) (rowT ss y) = decide (x = y) := by
  unfold rowT
  simp only [PyData.eqv, PyData.eqvAll]
  by_cases h : x = y
  · subst h; simp
  · have : ¬ (x : Int) = (y : Int) := by omega
    simp [h, this]
theorem strOk_txt' (k : Int) : PyData.strOk (txt k) = true := by
  unfold txt
  split
  · decide +kernel
  · split <;> decide +kernel
noncomputable def rowsT (ss : Nat → Int) (ps : List Nat) : PyData := .list (ps.map (rowT ss))
theorem eqv_rowsT (ss : Nat → Int) (xs : List Nat) : PyData.eqv (rowsT ss xs) (rowsT ss xs) = true := by unfold rowsT; rw [PyData.eqv, eqvAll_map (eqv_rowT ss)]; exact decide_eq_true rfl
theorem rowsT_shape (ss : Nat → Int) (xs : List Nat) : (rowsT ss xs).canLay0 = true ∧ (rowsT ss xs).depth ≤ 2 := by
  constructor
  · unfold rowsT; rw [PyData.canLay0]; exact canLay_map (fun x => by simp [rowT, PyData.canLay0, PyData.canLayAll0, strOk_txt']) xs
  · unfold rowsT; rw [PyData.depth]; have := depth_map (f := rowT ss) (n := 1) (fun x => by simp [rowT, PyData.depth, PyData.depthAll]) xs; omega
section
variable {prog : Program} {w : World} {A : Around} {s : Shared} {R X : Rl} {b h : Heap} {tk : Nat} {L : Addr} {m : Str → Option Value} {mu : Led} {E : Value → Shared → Prop} {Q : Value → Shared → Prop}
theorem s_neS {u v : Value} {d : PyData} {n : Nat} (Z : St R b L h m mu X) (ru : Rd X u d) (rv : Rd X v d) (hd : d.canLay0 = true ∧ d.depth ≤ n) (hn : n ≤ 64) (he : PyData.eqv d d = true) (hu : A.units + 64 < cLine)
    (q : Q (.bool false) { s with heap := h, toks := tk }) : wpAny (model prog w) A (compareOp .NotEq u v) Q E { s with heap := h, toks := tk } :=
  s_ne Z ru rv (shaped_of hd hn) (shaped_of hd hn) hu (by rw [he]; exact q)
end
theorem eqv_ints1 (ns : List Int) : PyData.eqv (intsD ns) (intsD ns) = true := by rw [eqv_intsD]; exact decide_eq_true rfl
theorem eqv_intss1 (ns : List (List Int)) : PyData.eqv (intssD ns) (intssD ns) = true := by rw [eqv_intssD]; exact decide_eq_true rfl
theorem IntsL.rd' {X : Rl} {v : Value} {ns : List Int} (h : IntsL X v ns) : Rd X v (intsD ns) := by
  obtain ⟨a, vs, n, rfl, z, i⟩ := h
  exact Rd.list z i.rd
structure S1 (cls L : Addr) (ss : List Int) (ks : Ks) (ra ka oa wa : Addr) (tt : Tok) (rvs wvs : List Value) (rn wn : Nat) (Y : Rl) : Prop where
  cR : CellV Y (L + 1) (.ref ra)
  cT : CellV Y (L + 1 + 1) (.int ss.sum tt)
  cO : CellV Y (L + 1 + 1 + 1 + 1) (.ref oa)
  cW : CellV Y (L + 1 + 1 + 1 + 1 + 1 + 1 + 1 + 1 + 1 + 1) (.ref wa)
  zr : At Y ra (lstO rvs rn)
  rows : RowsS Y rvs ss
  ord : OrderAt Y cls oa ks
  zw : At Y wa (lstO wvs wn)
  wts : IntLs Y wvs (ss.map fun x => wt ks (colS x))
theorem S1.mono {cls L : Addr} {ss : List Int} {ks : Ks} {ra ka oa wa : Addr} {tt : Tok} {rvs wvs : List Value} {rn wn : Nat} {X Y : Rl} (h : S1 cls L ss ks ra ka oa wa tt rvs wvs rn wn X) (k : Le X Y) : S1 cls L ss ks ra ka oa wa tt rvs wvs rn wn Y :=
  ⟨h.cR.mono k, h.cT.mono k, h.cO.mono k, h.cW.mono k, h.zr.mono k, h.rows.mono k, h.ord.mono k, h.zw.mono k, h.wts.mono k⟩
theorem S1.pack {cls L : Addr} {ss : List Int} {ks : Ks} {ra ka oa wa : Addr} {tt : Tok} {rvs wvs : List Value} {rn wn : Nat} {Y : Rl} {G : Prop} (S : S1 cls L ss ks ra ka oa wa tt rvs wvs rn wn Y)
    (k : ∀ (P : Rl → Prop) (up : ∀ {X Y : Rl}, P X → Le X Y → P Y) (pR : ∀ {X}, P X → CellV X (L + 1) (.ref ra)) (pT : ∀ {X}, P X → CellV X (L + 1 + 1) (.int ss.sum tt)) (pO : ∀ {X}, P X → CellV X (L + 1 + 1 + 1 + 1) (.ref oa)) (pW : ∀ {X}, P X → CellV X (L + 1 + 1 + 1 + 1 + 1 + 1 + 1 + 1 + 1 + 1) (.ref wa))
      (pr : ∀ {X}, P X → At X ra (lstO rvs rn)) (px : ∀ {X}, P X → RowsS X rvs ss) (po : ∀ {X}, P X → OrderAt X cls oa ks) (pw : ∀ {X}, P X → At X wa (lstO wvs wn)) (pi : ∀ {X}, P X → IntLs X wvs (ss.map fun x => wt ks (colS x))), P Y → G) : G :=
  k (S1 cls L ss ks ra ka oa wa tt rvs wvs rn wn) (fun h le => h.mono le) (fun h => h.cR) (fun h => h.cT) (fun h => h.cO) (fun h => h.cW) (fun h => h.zr) (fun h => h.rows) (fun h => h.ord) (fun h => h.zw) (fun h => h.wts) S
noncomputable def runT {α : Type} (lt : Nat → Nat → Bool) : KasT α → α
  | .ret a => a
  | .ask i j k => runT lt (k (lt i j))
noncomputable def okT {α : Type} (n : Nat) (lt : Nat → Nat → Bool) : KasT α → Bool
  | .ret _ => true
  | .ask i j k => Nat.blt i n && Nat.blt j n && okT n lt (k (lt i j))
theorem runT_wp {α : Type} {n : Nat} {ρ : Nat → Int} {lt : Nat → Nat → Bool} {ask : Nat → Nat → (Bool → Shared → Prop) → Shared → Prop} {s : Shared} {G : α → Shared → Prop} (hl : ∀ i j, i < n → j < n → decide (ρ i < ρ j) = lt i j) (ha : Asks n ρ ask s) :
    ∀ t : KasT α, okT n lt t = true → G (runT lt t) s → t.kasWp ask G s
  | .ret a, _, g => g
  | .ask i j k, h, g => by
    rw [okT, Bool.and_eq_true, Bool.and_eq_true, Nat.blt_eq, Nat.blt_eq] at h
    refine ha i j h.1.1 h.1.2 _ ?_
    rw [hl i j h.1.1 h.1.2]
    exact runT_wp hl ha _ h.2 g
noncomputable def ltV (v : List Nat) (i j : Nat) : Bool := Nat.blt (v.getD i 0) (v.getD j 0)
noncomputable def okV (v : List Nat) : Bool :=
  let p := runT (ltV v) (kas_sort 4)
  okT 4 (ltV v) (kas_sort 4) && p.toList.isPerm (List.range 4) && (List.range 4).all fun j => (List.range j).all fun i => ltV v (p.getD i 0) (p.getD j 0) || (Nat.beq (v.getD (p.getD i 0) 0) (v.getD (p.getD j 0) 0) && Nat.blt (p.getD i 0) (p.getD j 0))
theorem look4 : ((List.range 4).all fun a => (List.range 4).all fun b => (List.range 4).all fun c => (List.range 4).all fun d => okV [a, b, c, d]) = true := by decide +kernel
noncomputable def rkV (ρ : Nat → Int) (i : Nat) : Nat := (List.range 4).countP fun j => decide (ρ j < ρ i)
theorem rk_mono {ρ : Nat → Int} {i j : Nat} (h : ρ i ≤ ρ j) : rkV ρ i ≤ rkV ρ j := List.countP_mono_left fun x _ q => decide_eq_true (by have := of_decide_eq_true q; omega)
theorem rk_lt {ρ : Nat → Int} {i j : Nat} (hi : i < 4) : decide (ρ i < ρ j) = Nat.blt (rkV ρ i) (rkV ρ j) := by
  by_cases h : ρ i < ρ j
  · rw [decide_eq_true h]
    refine (Nat.blt_eq.mpr ?_).symm
    have e : ∀ l : List Nat, i ∈ l → l.countP (fun k => decide (ρ k < ρ i)) < l.countP (fun k => decide (ρ k < ρ j)) := by
      intro l
      induction l with
      | nil => intro q; cases q
      | cons x r ih =>
        intro q
        have hr : r.countP (fun k => decide (ρ k < ρ i)) ≤ r.countP (fun k => decide (ρ k < ρ j)) := List.countP_mono_left fun x _ q => decide_eq_true (by have := of_decide_eq_true q; omega)
        rw [List.countP_cons, List.countP_cons]
        rcases List.mem_cons.mp q with rfl | q
        · rw [if_neg (by simp), if_pos (decide_eq_true h)]; omega
        · have := ih q
          by_cases c : ρ x < ρ i
          · rw [if_pos (decide_eq_true c), if_pos (decide_eq_true (by omega))]; omega
          · rw [if_neg (by simpa using c)]; split <;> omega
    exact e _ (List.mem_range.mpr hi)
  · rw [decide_eq_false h]
    have := rk_mono (ρ := ρ) (i := j) (j := i) (by omega)
    cases q : Nat.blt (rkV ρ i) (rkV ρ j) with
    | false => rfl
    | true => rw [Nat.blt_eq] at q; omega
theorem rk_four {ρ : Nat → Int} {i : Nat} (hi : i < 4) : rkV ρ i < 4 := by
  have h : rkV ρ i ≤ (List.range 4).length := List.countP_le_length
  have : rkV ρ i ≠ (List.range 4).length := fun e => by
    have := List.countP_eq_length.mp e i (List.mem_range.mpr hi)
    simp at this
  rw [List.length_range] at h this
  omega
theorem stab4 : StabAt 4 := by
  intro ρ ask s G ha q
  have h := look4
  simp only [List.all_eq_true] at h
  have h := h _ (List.mem_range.mpr (rk_four (ρ := ρ) (i := 0) (by omega))) _ (List.mem_range.mpr (rk_four (ρ := ρ) (i := 1) (by omega))) _ (List.mem_range.mpr (rk_four (ρ := ρ) (i := 2) (by omega))) _ (List.mem_range.mpr (rk_four (ρ := ρ) (i := 3) (by omega)))
  have hv : ∀ i, i < 4 → [rkV ρ 0, rkV ρ 1, rkV ρ 2, rkV ρ 3].getD i 0 = rkV ρ i := fun i hi => by
    match i, hi with
    | 0, _ => rfl
    | 1, _ => rfl
    | 2, _ => rfl
    | 3, _ => rfl
  generalize [rkV ρ 0, rkV ρ 1, rkV ρ 2, rkV ρ 3] = v at h hv
  unfold okV at h
  simp only [Bool.and_eq_true] at h
  obtain ⟨⟨h1, h2⟩, h3⟩ := h
  refine runT_wp (lt := ltV v) (fun i j hi hj => by unfold ltV; rw [hv i hi, hv j hj]; exact rk_lt hi) ha _ h1 (q _ ?_ ?_)
  · refine Array.perm_iff_toList_perm.mpr ?_
    exact List.isPerm_iff.mp h2
  · intro i j hij hj
    have hp := List.isPerm_iff.mp h2
    have hlt : ∀ k, k < 4 → pk (runT (ltV v) (kas_sort 4)) k < 4 := fun k hk => by
      have hs : (runT (ltV v) (kas_sort 4)).toList.length = 4 := by rw [hp.length_eq, List.length_range]
      refine List.mem_range.mp (hp.mem_iff.mp ?_)
      unfold pk
      rw [Array.getD_eq_getD_getElem?, Array.getElem?_eq_getElem (by simpa using (by omega : k < (runT (ltV v) (kas_sort 4)).toList.length))]
      simp
    rw [List.all_eq_true] at h3
    have h3 := h3 j (List.mem_range.mpr hj)
    rw [List.all_eq_true] at h3
    have h3 := h3 i (List.mem_range.mpr hij)
    have hi := hlt i (by omega)
    have hj := hlt j hj
    have e1 := hv _ hi
    have e2 := hv _ hj
    rw [Bool.or_eq_true, Bool.and_eq_true, Nat.beq_eq, Nat.blt_eq] at h3
    rcases h3 with h3 | ⟨h3, h4⟩
    · left
      unfold ltV at h3
      have h3 : Nat.blt (v.getD (pk (runT (ltV v) (kas_sort 4)) i) 0) (v.getD (pk (runT (ltV v) (kas_sort 4)) j) 0) = true := h3
      rw [e1, e2, ← rk_lt hi] at h3
      exact of_decide_eq_true h3
    · right
      have h3 : v.getD (pk (runT (ltV v) (kas_sort 4)) i) 0 = v.getD (pk (runT (ltV v) (kas_sort 4)) j) 0 := h3
      rw [e1, e2] at h3
      refine ⟨?_, h4⟩
      have a1 := rk_lt (ρ := ρ) (i := pk (runT (ltV v) (kas_sort 4)) i) (j := pk (runT (ltV v) (kas_sort 4)) j) hi
      have a2 := rk_lt (ρ := ρ) (i := pk (runT (ltV v) (kas_sort 4)) j) (j := pk (runT (ltV v) (kas_sort 4)) i) hj
      rw [h3] at a1 a2
      have b1 : ∀ n, Nat.blt n n = false := fun n => by
        cases q : Nat.blt n n with
        | false => rfl
        | true => rw [Nat.blt_eq] at q; omega
      rw [b1] at a1 a2
      have a1 := of_decide_eq_false a1
      have a2 := of_decide_eq_false a2
      omega
noncomputable abbrev qLaw : Str := (Str.ofString "law" ++ Str.ofString ".<locals>.") ++ Str.ofString "<lambda>"
theorem perm_lt {p : List Nat} {n : Nat} (hp : p.Perm (List.range n)) : ∀ i ∈ p, i < n := fun i hi => List.mem_range.mp (hp.mem_iff.mp hi)
theorem ksOf_len (told : Int) : (ksOf told).length ≤ 2 := by
  have h := Int.fmod_lt_of_pos told (b := 2) (by decide)
  have h2 := Int.fmod_nonneg_of_pos told (b := 2) (by decide)
  unfold ksOf keysOf
  rw [List.length_map, List.length_range]
  omega
theorem KeptAt.rowsV {ss : List Int} {X : Rl} {vs : List Value} {q : List Nat} (h : KeptAt (fun p => ss.getD p 0) X vs q) : RowsV X vs (csX ss q) := by
  refine ⟨by unfold csX; rw [List.length_map]; exact h.1, fun i c e => ?_⟩
  unfold csX at e
  rw [List.getElem?_map] at e
  cases hx : q[i]? with
  | none => rw [hx] at e; cases e
  | some p =>
    rw [hx] at e
    cases e
    refine hide ?_
    intro G9 hG9
    obtain ⟨v, h1, t, u, h2⟩ := h.2 i p hx
    refine hG9 ?_
    clear hG9 G9
    exact ⟨colS_ok _, v, _, h1, h2⟩
theorem keptX_len {ks : Ks} (hk : KsOk ks) {ss : List Int} {i : Nat} (hi : i ≤ ss.length) : (keptX ks ss i).length = i := by
  refine hide ?_
  intro G9 hG9
  obtain ⟨xs, hp, _⟩ := kept_tag hk ss i hi
  refine hG9 ?_
  clear hG9 G9
  rw [hp.length_eq, List.length_range]
theorem KeptAt.rowsC {ss : List Int} {X Y : Rl} {ka : Addr} {n : Nat} {vs : List Value} {q : List Nat} (h : KeptAt (fun p => ss.getD p 0) X vs q) (z : Y ka (lstO vs n)) (le : Le X Y) : RowsC Y ka vs n (csX ss q) := ⟨z, (h.mono le).rowsV.1, (h.mono le).rowsV.2⟩
noncomputable def rgX (ks : Ks) (ss : List Int) (p : Nat) : Nat := ss.countP fun z => !lexL (wS ks (ss.getD p 0)) (wS ks z)
theorem left_eq {ks : Ks} (hk : KsOk ks) {ss : List Int} (h4 : ss.length = 4) {n i : Nat} (hn : n = (keptX ks ss 4).length) : (bis (pLeft ks (csX ss (keptX ks ss 4)) (colS (ss.getD i 0)) 0) 0 n).1 = lfX ks ss i := by
  subst hn; exact pure_side hk h4 (ss.getD i 0) false
theorem right_eq {ks : Ks} (hk : KsOk ks) {ss : List Int} (h4 : ss.length = 4) {n i : Nat} (hn : n = (keptX ks ss 4).length) : (bis (pRight ks (csX ss (keptX ks ss 4)) (colS (ss.getD i 0)) 0) 0 n).1 = rgX ks ss i := by
  subst hn; exact pure_side hk h4 (ss.getD i 0) true
noncomputable def sgnR (ks : Ks) (ss : List Int) (n i : Nat) : List Int := (List.range n).map fun q => sgnL (wAt ks ss i) (wAt ks ss q)
noncomputable def RowF (F : Nat → Nat → Bool) (X : Rl) (v : Value) (i : Nat) : Prop := ∃ r ws k, v = .ref r ∧ At X r (lstO ws k) ∧ ∀ j, j < 4 → ws[j]? = some (.bool (F i j))
theorem RowF.mono {F : Nat → Nat → Bool} {X Y : Rl} {v : Value} {i : Nat} (h : RowF F X v i) (k : Le X Y) : RowF F Y v i := let ⟨r, ws, c, e, z, q⟩ := h; ⟨r, ws, c, e, z.mono k, q⟩
theorem RowsF.mono {F : Nat → Nat → Bool} {X Y : Rl} {vs : List Value} {xs : List Nat} (h : AllAt (RowF F) X vs xs) (k : Le X Y) : AllAt (RowF F) Y vs xs := AllAt.mono' (P := RowF F) (fun h k => h.mono k) h k
theorem int_key {prog : Program} {w : World} {k : Int} {key : Value} (h : (intKind prog w).is k key = true) : ∃ t, key = .int k t := by
  have h : Value.isInt k key = true := h
  cases key <;> simp [Value.isInt] at h
  exact ⟨_, by rw [h]⟩
theorem isI {prog : Program} {w : World} {k : Int} {t : Tok} : (intKind prog w).is k (.int k t) = true := by
  show Value.isInt k (.int k t) = true
  simp [Value.isInt]
theorem three_bits {y : Int} (h : Builtin.Int.intBits y ≤ 1200000) : ∀ x ∈ [1, 2, y], Builtin.Int.intBits x ≤ 1200000 := by
  intro x hx
  simp only [List.mem_cons, List.not_mem_nil, or_false] at hx
  rcases hx with rfl | rfl | rfl
  · decide
  · decide
  · exact h
theorem term_bits {x k n : Int} (h : 0 ≤ k ∧ k ≤ 3 ∧ 0 ≤ n ∧ n ≤ ((24 : Nat) : Int)) (hx : Builtin.Int.intBits x ≤ 1200000) :
    IntMulOk n (x + 3 - k) ∧ IntMulOk (n * (x + 3 - k)) (x + 3 - k - 1) ∧ IntMulOk (n * (x + 3 - k) * (x + 3 - k - 1)) (x + 3 - k - 2) ∧ IntMulOk (n * (x + 3 - k) * (x + 3 - k - 1) * (x + 3 - k - 2)) (x + 3 - k - 3) ∧
    n * (x + 3 - k) * (x + 3 - k - 1) * (x + 3 - k - 2) * (x + 3 - k - 3) = n * gI x k := by
  have hn : Builtin.Int.intBits n ≤ 64 := intBits_le_64 (by omega) (by omega)
  have hk : Builtin.Int.intBits k ≤ 64 := intBits_le_64 (by omega) (by omega)
  have h0 : Builtin.Int.intBits (x + 3 - k) ≤ 1200010 := by
    have h1 := intBits_add_le hx (show Builtin.Int.intBits 3 ≤ 64 by decide)
    have := intBits_sub_le h1 hk
    omega
  have hs : ∀ c : Int, Builtin.Int.intBits c ≤ 64 → Builtin.Int.intBits (x + 3 - k - c) ≤ 1200020 := fun c hc => by have := intBits_sub_le h0 hc; omega
  have p1 := intBits_mul_le hn h0
  have p2 := intBits_mul_le p1 (hs 1 (by decide))
  have p3 := intBits_mul_le p2 (hs 2 (by decide))
  refine ⟨.of_le hn h0 (by omega), .of_le p1 (hs 1 (by decide)) (by omega), .of_le p2 (hs 2 (by decide)) (by omega), .of_le p3 (hs 3 (by decide)) (by omega), ?_⟩
  unfold gI
  simp only [Int.mul_assoc]
theorem wsum_take {g : Int → Int} {t : List (Int × Int)} {i : Nat} {k n : Int} (h : t[i]? = some (k, n)) : wsum g (t.take (i + 1)) = wsum g (t.take i) + n * g k := by
  rw [List.take_add_one, h]
  unfold wsum
  rw [List.map_append, List.sum_append]
  simp
theorem falls_of {F : Nat → Nat → Bool} {X : Rl} {a : Addr} {vs : List Value} {n : Nat} (z : At X a (lstO vs n)) (h : AllAt (RowF F) X vs (List.range 4)) : FallsAt X (.ref a) F :=
  ⟨a, vs, n, rfl, z, fun i hi => let ⟨v, ev, r, ws, k, e, zr, q⟩ := h.2 i i (List.getElem?_range hi); ⟨r, ws, k, by rw [ev, e], zr, q⟩⟩
theorem wts_at {ks : Ks} {ss : List Int} {Y : Rl} {wvs : List Value} (h : IntLs Y wvs (ss.map (wS ks))) {j : Nat} {v : Value} (hv : wvs[j]? = some v) : j < ss.length ∧ ss[j]? = some (ss.getD j 0) ∧ IntsL Y v (wAt ks ss j) := by
  refine hide ?_
  intro G9 hG9
  obtain ⟨xs, hx, I⟩ := h.at' hv
  refine hG9 ?_
  clear hG9 G9
  rw [List.getElem?_map] at hx
  cases e : ss[j]? with
  | none => rw [e] at hx; cases hx
  | some x =>
    rw [e] at hx
    cases hx
    have : ss.getD j 0 = x := by rw [List.getD_eq_getElem?_getD, e]; rfl
    unfold wAt
    rw [this]
    exact ⟨(List.getElem?_eq_some_iff.mp e).1, rfl, I⟩
section
variable {W : Wd} {A : Around} {s : Shared} {g : Heap} {R : Rl}
theorem law_ok {sl : Addr} {so : Obj} {sv : List Value} {sn : Nat} {ns : List Int} (Cg : Cx Mine.hd.heap_39 W g) (hr : A.depth + 20 < recursionLimit) (hu : A.units + 100 < cLine) (hh : A.handled = none)
    (hR : Le R (hp g)) (zs : At R sl so) (hsc : so.cls = .type "list") (hsd : so.data = .seq sv.toArray sn) (hsi : IntsV sv ns) (hsl : ns.length ≤ 63) (hb : ∀ x ∈ ns, Builtin.Int.intBits x ≤ 1048576) :
    Does PR W A (call (.ref 145) [.ref sl]) s g [(111, tabObj #[]), (142, tabObj #[])] (fun r nw => r = .bool true ∧ (∃ ps, (111, tabObj ps) ∈ nw) ∧ (∃ ps, (142, tabObj ps) ∈ nw)) := by
  refine' enterC (binds := [(Str.ofString "script", .ref sl)]) Cg ?k1 ?k2 (by omega) ?k3 ?k4 ?k5 ?k6 ?k7 ?k8 ?_
  case k1 => k_is
  case k2 => k_is
  case k3 => exact fun _ => BindsTo.of_eq rfl
  case k4 => rfl
  case k5 => decide +kernel
  case k6 => rfl
  case k7 => rfl
  case k8 => rfl
  intro b L h tk cells st C F N Y hlt
  first | refine entS ?_ | refine entSE ?_
  intro e Qd hQd
  have Z := St.startC (R := R) F N (fun a o q => st _ _ (hR a o q)) Y (by decide) hlt
  refine hide ?_
  intro G9 hG9
  obtain ⟨oW, c1, rfl, ⟨vW, dW⟩, Y⟩ := cells_un1 Y
  refine hG9 ?_
  clear hG9 G9
  refine hide ?_
  intro G9 hG9
  obtain ⟨oC, c1, rfl, ⟨vC, dC⟩, Y⟩ := cells_un1 Y
  refine hG9 ?_
  clear hG9 G9
  refine hide ?_
  intro G9 hG9
  obtain ⟨oB, c1, rfl, ⟨vB, dB⟩, Y⟩ := cells_un1 Y
  refine hG9 ?_
  clear hG9 G9
  refine hide ?_
  intro G9 hG9
  obtain ⟨oM, c1, rfl, ⟨vM, dM⟩, Y⟩ := cells_un1 Y
  refine hG9 ?_
  clear hG9 G9
  refine hide ?_
  intro G9 hG9
  obtain ⟨oS, c1, rfl, ⟨vS, dS⟩, Y⟩ := cells_un1 Y
  refine hG9 ?_
  clear hG9 G9
  refine hide ?_
  intro G9 hG9
  obtain ⟨oP, c1, rfl, ⟨vP, dP⟩, Y⟩ := cells_un1 Y
  refine hG9 ?_
  clear hG9 G9
  refine hide ?_
  intro G9 hG9
  obtain ⟨oO, c1, rfl, ⟨vO, dO⟩, Y⟩ := cells_un1 Y
  refine hG9 ?_
  clear hG9 G9
  refine hide ?_
  intro G9 hG9
  obtain ⟨oK, c1, rfl, ⟨vK, dK⟩, Y⟩ := cells_un1 Y
  refine hG9 ?_
  clear hG9 G9
  refine hide ?_
  intro G9 hG9
  obtain ⟨oT, c1, rfl, ⟨vT, dT⟩, Y⟩ := cells_un1 Y
  refine hG9 ?_
  clear hG9 G9
  refine hide ?_
  intro G9 hG9
  obtain ⟨oR, c1, rfl, ⟨vR, dR⟩, Y⟩ := cells_un1 Y
  refine hG9 ?_
  clear hG9 G9
  refine hide ?_
  intro G9 hG9
  obtain rfl := cells_no Y
  refine hG9 ?_
  clear hG9 G9
  clear Y N F
  let cR : Addr := (L + 1)
  let cT : Addr := (L + 1 + 1)
  let cK : Addr := (L + 1 + 1 + 1)
  let cO : Addr := (L + 1 + 1 + 1 + 1)
  let cP : Addr := (L + 1 + 1 + 1 + 1 + 1)
  let cS : Addr := (L + 1 + 1 + 1 + 1 + 1 + 1)
  let cM : Addr := (L + 1 + 1 + 1 + 1 + 1 + 1 + 1)
  let cB : Addr := (L + 1 + 1 + 1 + 1 + 1 + 1 + 1 + 1)
  let cC : Addr := (L + 1 + 1 + 1 + 1 + 1 + 1 + 1 + 1 + 1)
  let cW : Addr := (L + 1 + 1 + 1 + 1 + 1 + 1 + 1 + 1 + 1 + 1)
  have Z := St.rev (l := [(cW, oW), (cC, oC), (cB, oB), (cM, oM), (cS, oS), (cP, oP), (cO, oO), (cK, oK), (cT, oT), (cR, oR)]) (r := [(111, tabObj #[]), (142, tabObj #[])]) Z
  have Z : St R b L h _ [(cR, oR), (cT, oT), (cK, oK), (cO, oO), (cP, oP), (cS, oS), (cM, oM), (cB, oB), (cC, oC), (cW, oW), (111, tabObj #[]), (142, tabObj #[])] R := Z
  first | refine exS ?_ | (refine hQn _ ?_; refine exS ?_)
  intro Q1 hQn hQr
  refine wpAny_Assign_Name ?_
  refine Call_ ?_
  refine' y_K C Z.F ?kg ?_
  case kg => k_is
  refine' callWith_K C.X ?kc ?_
  case kc => k_is
  refine spliced_more ?_
  refine y_L Z.F rfl ?_
  refine spliced_none ?_
  refine ⟨C.X.keeps Z.F.keep, ?_⟩
  refine norm (s := s) (h := h) fun tk => ?_
  refine s_use0 Z (fun g k1 k2 k3 => rows_ok (C.keeps k1) (by show A.depth + 1 + 2 < _; omega) hh k2 zs hsc hsd hsi hsl hb) ?_
  intro r h tk nw Y p95 le le2 Z
  refine hide ?_
  intro G9 hG9
  obtain ⟨ra, rvs, rn, ss, rfl, zr, Rx, h4, hbs⟩ := p95
  refine hG9 ?_
  clear hG9 G9
  replace zr := At.mono zr le2
  replace Rx := Rx.mono le2
  have hr4 : rvs.length = 4 := Rx.1.trans h4
  refine s_stC (l1 := []) Z dR fun h tk oR dR Z => ?_
  refine Z.frz (l1 := []) dR fun Y le pR Z => ?_
  replace zr := zr.mono le
  replace Rx := Rx.mono le
  first | refine exS ?_ | (refine hQn _ ?_; refine exS ?_)
  intro Q1 hQn hQr
  refine wpAny_Assign_Name ?_
  refine Call_ ?_
  refine' y_B C Z.F ?kg boot_sum ?_
  case kg => k_is
  refine PyProof.Rows.callWith_builtin1 ?_
  refine spliced_more ?_
  refine s_comp rfl rfl (by decide) (fun _ => rfl) ?_
  refine y_CV Z pR ?_
  refine s_compV (ms := []) Z hh (.list zr) (by omega) (fun cA i ys ms Y => ms = [] ∧ IntsV ys (ss.take i)) (fun cA => ⟨rfl, IntsV.nil⟩) ?_ ?_
  · intro b' cA I D nD io i v ys mc ms Y2 h tk kb hXb kn hi hv le p920 Z hio
    refine hide ?_
    intro G9 hG9
    obtain ⟨rfl, Iy⟩ := p920
    refine hG9 ?_
    clear hG9 G9
    refine hide ?_
    intro G9 hG9
    obtain ⟨hil, hx, t, u, ra2, q0, q1, q2, rfl, zra⟩ := Rx.at' hv
    refine hG9 ?_
    clear hG9 G9
    first | (refine turnS ?_; intro e P1 P0 hQ1 hQ0) | (refine floopS ?_; intro Ql hQl) | skip
    refine lot_name ?_
    try (refine loopS ?_; intro Ql hQl)
    refine wpAny_assign_Name ?_
    refine s_st Z fun h tk Z => ?_
    refine wpAny_tests_nil ?_
    refine ite_b (fun _ => ?_) (fun q => absurd q (by decide))
    refine Subscript_ ?_
    refine y_L Z.F rfl ?_
    refine n_ci fun tk => ?_
    refine tup_item (i := 4) (Z.at (At.mono zra le)) rfl (by decide) rfl ?_
    first | refine hQ1 _ _ ?_ | refine hQ0 _ ?_
    refine SEnd.intro (ms := []) Z ⟨rfl, ?_⟩
    rw [List.take_add_one, hx]
    exact Iy.snoc
  intro cA D nD h tk ys ms Y2 le p99 Z
  refine hide ?_
  intro G9 hG9
  obtain ⟨rfl, Iy⟩ := p99
  refine hG9 ?_
  clear hG9 G9
  rw [Rx.1, List.take_length] at Iy
  refine spliced_none ?_
  refine s_sum Z hh (Z.mget (.head _)) Iy fun tt h tk Z => ?_
  have Z := Z.tl
  replace zr := zr.mono le
  replace Rx := Rx.mono le
  replace pR := pR.mono le
  refine s_stC (l1 := []) Z dT fun h tk oT dT Z => ?_
  refine Z.frz (l1 := []) dT fun Y le pT Z => ?_
  replace zr := zr.mono le
  replace Rx := Rx.mono le
  replace pR := pR.mono le
  have hk : KsOk (ksOf ss.sum) := ksOf_ok ss.sum
  have hkl := ksOf_len ss.sum
  first | refine exS ?_ | (refine hQn _ ?_; refine exS ?_)
  intro Q1 hQn hQr
  refine wpAny_Assign_Name ?_
  refine Call_ ?_
  refine' y_K C Z.F ?kg ?_
  case kg => k_is
  refine' callWith_K C.X ?kc ?_
  case kc => k_is
  refine spliced_more ?_
  refine y_CV Z pT ?_
  refine spliced_none ?_
  refine ⟨C.X.keeps Z.F.keep, ?_⟩
  refine norm (s := s) (h := h) fun tk => ?_
  refine keys_s Z C (by show A.depth + 1 + 1 < _; omega) hh fun kl h tk Y le Kg Z => ?_
  refine hide ?_
  intro G9 hG9
  obtain ⟨ks, h9k⟩ : ∃ x, ksOf ss.sum = x := ⟨_, rfl⟩
  refine hG9 ?_
  clear hG9 G9
  rw [h9k] at Kg hkl hk
  replace zr := zr.mono le
  replace Rx := Rx.mono le
  replace pR := pR.mono le
  replace pT := pT.mono le
  refine s_stC (l1 := []) Z dK fun h tk oK dK Z => ?_
  refine Z.frz (l1 := []) dK fun Y le pK Z => ?_
  replace zr := zr.mono le
  replace Rx := Rx.mono le
  replace pR := pR.mono le
  replace pT := pT.mono le
  replace Kg := Kg.mono le
  first | refine exS ?_ | (refine hQn _ ?_; refine exS ?_)
  intro Q1 hQn hQr
  refine wpAny_Assign_Name ?_
  refine Call_ ?_
  refine' y_K C Z.F ?kg ?_
  case kg => k_is
  refine' callWith_K C.X ?kc ?_
  case kc => k_is
  refine spliced_more ?_
  refine y_CV Z pK ?_
  refine spliced_none ?_
  refine ⟨C.X.keeps Z.F.keep, ?_⟩
  refine norm (s := s) (h := h) fun tk => ?_
  refine order_s Z C (by show A.depth + 1 + 2 < _; omega) hh Kg fun oa h tk Y le O Z => ?_
  replace zr := zr.mono le
  replace Rx := Rx.mono le
  replace pR := pR.mono le
  replace pT := pT.mono le
  replace pK := pK.mono le
  replace Kg := Kg.mono le
  refine s_stC (l1 := []) Z dO fun h tk oO dO Z => ?_
  refine Z.frz (l1 := []) dO fun Y le pO Z => ?_
  replace zr := zr.mono le
  replace Rx := Rx.mono le
  replace pR := pR.mono le
  replace pT := pT.mono le
  replace pK := pK.mono le
  replace Kg := Kg.mono le
  replace O := O.mono le
  first | refine exS ?_ | (refine hQn _ ?_; refine exS ?_)
  intro Q1 hQn hQr
  refine wpAny_Assign_Name ?_
  refine s_comp rfl rfl (by decide) (fun _ => rfl) ?_
  refine y_CV Z pR ?_
  refine s_compV (ms := []) Z hh (.list zr) (by omega) (fun cA i ys ms Y => ms = [] ∧ IntLs Y ys ((ss.map fun x => wt ks (colS x)).take i)) (fun cA => ⟨rfl, AllAt.nil⟩) ?_ ?_
  · intro b' cA I D nD io i v ys mc ms Y2 h tk kb hXb kn hi hv le p920 Z hio
    refine hide ?_
    intro G9 hG9
    obtain ⟨rfl, Iy⟩ := p920
    refine hG9 ?_
    clear hG9 G9
    have C := C.keeps kb
    refine hide ?_
    intro G9 hG9
    obtain ⟨hil, hx, t, u, Rr⟩ := Rx.at' hv
    refine hG9 ?_
    clear hG9 G9
    first | (refine turnS ?_; intro e P1 P0 hQ1 hQ0) | (refine floopS ?_; intro Ql hQl) | skip
    refine lot_name ?_
    try (refine loopS ?_; intro Ql hQl)
    refine wpAny_assign_Name ?_
    refine s_st Z fun h tk Z => ?_
    refine wpAny_tests_nil ?_
    refine ite_b (fun _ => ?_) (fun q => absurd q (by decide))
    refine Call_ ?_
    refine' y_K C Z.F ?kg ?_
    case kg => k_is
    refine' callWith_K C.X ?kc ?_
    case kc => k_is
    refine spliced_more ?_
    refine y_L Z.F rfl ?_
    refine spliced_more ?_
    refine y_CV Z (pK.mono le) ?_
    refine spliced_none ?_
    refine ⟨C.X.keeps Z.F.keep, ?_⟩
    refine norm (s := s) (h := h) fun tk => ?_
    refine weight_s Z C (by show A.depth + 1 + 1 < _; omega) hh hk (by omega) (colS_ok _) (Kg.mono le) (Rr.mono le) fun r h tk Y3 le3 Iw Z => ?_
    first | refine hQ1 _ _ ?_ | refine hQ0 _ ?_
    refine SEnd.intro (ms := []) Z ⟨rfl, ?_⟩
    rw [List.take_add_one, List.getElem?_map, hx]
    exact (IntLs.mono Iy le3).snoc Iw
  intro cA wa wn h tk wvs ms Y2 le p99 Z
  refine hide ?_
  intro G9 hG9
  obtain ⟨rfl, Wt⟩ := p99
  refine hG9 ?_
  clear hG9 G9
  rw [hr4, List.take_of_length_le (by rw [List.length_map]; omega)] at Wt
  replace zr := zr.mono le
  replace Rx := Rx.mono le
  replace pR := pR.mono le
  replace pT := pT.mono le
  replace O := O.mono le
  replace pO := pO.mono le
  refine Z.freeze (l1 := []) fun Y le zw Z => ?_
  replace zr := zr.mono le
  replace Rx := Rx.mono le
  replace pR := pR.mono le
  replace pT := pT.mono le
  replace O := O.mono le
  replace pO := pO.mono le
  replace Wt := IntLs.mono Wt le
  refine s_stC (l1 := [_, _, _, _, _]) Z dW fun h tk oW dW Z => ?_
  refine Z.frz (l1 := [_, _, _, _, _]) dW fun Y le pW Z => ?_
  replace Wt := IntLs.mono Wt le
  replace zr := zr.mono le
  replace Rx := Rx.mono le
  replace pR := pR.mono le
  replace pT := pT.mono le
  replace O := O.mono le
  replace pO := pO.mono le
  replace zw := zw.mono le
  have S : S1 38 L ss ks ra kl oa wa tt rvs wvs rn wn Y := ⟨pR, pT, pO, pW, zr, Rx, O, zw, Wt⟩
  refine S1.pack S fun P hup aR aT aO aW ar ax ao aw ai S => ?_
  clear pR pT pO pW zr Rx O zw Wt Kg
  first | refine exS ?_ | (refine hQn _ ?_; refine exS ?_)
  intro Q1 hQn hQr
  refine wpAny_Assign_Name ?_
  refine List_ ?_
  refine spliced_none ?_
  refine s_lstM Z (Nat.zero_le _) fun ka h Z => ?_
  refine s_stC (l1 := [_]) Z dP fun h tk oP dP Z => ?_
  refine Z.frz (l1 := [_]) dP fun Y le pP Z => ?_
  replace S := hup S le
  first | refine exS ?_ | (refine hQn _ ?_; refine exS ?_)
  intro Q1 hQn hQr
  refine wpAny_For ?_
  refine y_CV Z (aR S) ?_
  refine s_loop (src_list hh (.inl ⟨_, _, rfl⟩) Z (ar S)) (fun i m mu Y => ∃ kvs kn ps, mu = [(ka, lstO kvs kn), (cS, oS), (cM, oM), (cB, oB), (cC, oC), (111, tabObj ps), (142, tabObj #[])] ∧ TbH Y ps ∧ KeptAt (fun p => ss.getD p 0) Y kvs (keptX ks ss i)) ?_ ?_ ?_
  · exact ⟨[], 0, #[], rfl, .inl rfl, AllAt.nil⟩
  · intro its i v m mu Y1 h tk le0 hi hv p911 Z
    refine hide ?_
    intro G9 hG9
    obtain ⟨kvs, kn, ps, rfl, Tb, Kp⟩ := p911
    refine hG9 ?_
    clear hG9 G9
    have S := hup S le0
    refine hide ?_
    intro G9 hG9
    obtain ⟨hil, hx, t, u, Rr⟩ := (ax S).at' hv
    refine hG9 ?_
    clear hG9 G9
    have hkl := keptX_len hk (ss := ss) (i := i) (by omega)
    try (refine loopS ?_; intro Ql hQl)
    refine wpAny_assign_Name ?_
    refine s_st Z fun h tk Z => ?_
    have Z : St R b L h _ ([(ka, lstO kvs kn), (cS, oS), (cM, oM), (cB, oB), (cC, oC)] ++ (111, tabObj ps) :: (142, tabObj #[]) :: its) Y1 := Z
    first | refine exS ?_ | (refine hQn _ ?_; refine exS ?_)
    intro Q1 hQn hQr
    refine wpAny_Expr_any ?_
    refine wpAny_Call_Name_kw ?_
    refine' y_K C Z.F ?kg ?_
    case kg => k_is
    refine' callWith_KW C.X ?kc rfl ?_
    case kc => k_is
    refine spliced_more ?_
    refine y_CV Z (pP.mono le0) ?_
    refine spliced_more ?_
    refine y_L Z.F rfl ?_
    refine spliced_none ?_
    refine kwAll_cons ?_
    refine Call_ ?_
    refine' y_K C Z.F ?kg ?_
    case kg => k_is
    refine' callWith_K C.X ?kc ?_
    case kc => k_is
    refine spliced_more ?_
    refine y_CV Z (aO S) ?_
    refine spliced_more ?_
    refine y_L Z.F rfl ?_
    refine spliced_none ?_
    refine ⟨C.X.keeps Z.F.keep, ?_⟩
    refine norm (s := s) (h := h) fun tk => ?_
    refine held_s (l1 := [(ka, lstO kvs kn), (cS, oS), (cM, oM), (cB, oB), (cC, oC)]) Z C (by show A.depth + 1 + 1 < _; omega) hk (colS_ok _) (ao S) Rr Tb fun kf h tk ps Y2 le2 Tb Ky Z => ?_
    have Z : St R b L h _ ([] ++ (ka, lstO kvs kn) :: ([(cS, oS), (cM, oM), (cB, oB), (cC, oC), (111, tabObj ps), (142, tabObj #[])] ++ its)) Y2 := Z
    refine kwAll_nil ?_
    refine ⟨C.X.keeps Z.F.keep, ?_⟩
    refine norm (s := s) (h := h) fun tk => ?_
    refine insort_right_s (l1 := []) Z C (by show A.depth + 1 + 5 < _; omega) hh (Kp.rowsV.mono le2) Ky (Rr.mono le2) (colS_ok _) (by rw [Kp.1, hkl]; omega) fun r h tk Y3 le3 Z => ?_
    first | refine wpAny_execs_nil ?_ | (refine hQn _ ?_; refine wpAny_execs_nil ?_)
    refine hQl _ _ ?_
    refine STurn.next (mu := [(ka, lstO (insAt (bis (pRight ks (csX ss (keptX ks ss i)) (colS (ss.getD i 0)) 0) 0 kvs.length).1 v kvs) (kn + 1)), (cS, oS), (cM, oM), (cB, oB), (cC, oC), (111, tabObj ps), (142, tabObj #[])]) Z (le0.trans (le2.trans le3)) ⟨_, _, ps, rfl, Tb.mono le3, ?_⟩
    rw [keptX_succ]
    unfold insP
    rw [← Kp.1]
    exact ((Kp.mono le2).mono le3).ins (RowS.mono ⟨t, u, Rr⟩ (le2.trans le3)) (bis_rng (Nat.zero_le _)).2
  intro m mu Y1 h tk le0 p96 Z
  refine hide ?_
  intro G9 hG9
  obtain ⟨kvs, kn, ps, rfl, Tb, Kp⟩ := p96
  refine hG9 ?_
  clear hG9 G9
  rw [hr4] at Kp
  replace S := hup S le0
  refine Z.freeze (l1 := []) fun Y le zk Z => ?_
  replace Tb := Tb.mono le
  replace Kp := Kp.mono le
  replace S := hup S le
  replace pP := (pP.mono le0).mono le
  first | refine exS ?_ | (refine hQn _ ?_; refine exS ?_)
  intro Q1 hQn hQr
  refine wpAny_If ?_
  refine wpAny_isTrue_Compare1 ?_
  refine y_CV Z pP ?_
  refine wpAny_Call_Name_kw ?_
  refine' y_B C Z.F ?kg boot_sorted ?_
  case kg => k_is
  refine PyProof.Rows.callWith_kw ?_
  refine spliced_more ?_
  refine y_CV Z (aR S) ?_
  refine spliced_none ?_
  refine kwAll_cons ?_
  refine kla_eval rfl ?_
  refine s_lamE (l1 := [(cS, oS), (cM, oM), (cB, oB), (cC, oC), (111, tabObj ps)]) (l2 := []) Z C.T (codeHd_of_K (c := 144) C.X (by kernel_rfl)) rfl (True.intro : TabE Y qLaw #[]) rfl fun f c' oc vs t ctv pq h tk Y le zf zc e1 e2 Tq Z => ?_
  replace Tb := Tb.mono le
  replace Kp := Kp.mono le
  replace pP := pP.mono le
  replace zk := zk.mono le
  replace S := hup S le
  refine kwAll_nil ?_
  have Ky : KeyI PR Mine.hd.heap_39 W Y (.ref f) rvs (ss.map (wS ks)) := by
    intro i v hv A s g hr hh Cg hR'
    refine hide ?_
    intro G9 hG9
    obtain ⟨hil, hx, t5, u5, ra2, q0, q1, q2, rfl, zra⟩ := (ax S).at' hv
    refine hG9 ?_
    clear hG9 G9
    have zra : At Y ra2 _ := zra
    refine hide ?_
    intro G9 hG9
    obtain ⟨w, ew, Iw⟩ := (ai S).2 i (wS ks (ss.getD i 0)) (by rw [List.getElem?_map, hx]; rfl)
    refine hG9 ?_
    clear hG9 G9
    refine' enterE (binds := [(Str.ofString "row", .ref ra2)]) Cg (hR' _ _ zf) ⟨c', oc, vs, t, rfl, hR' _ _ zc, e1, e2⟩ (by omega) rfl ?k4 ?k5 ?k6 ?k7 ?k8 ?_
    case k4 => exact locs rfl
    case k5 => decide
    case k6 => rfl
    case k7 => rfl
    case k8 => rfl
    intro b L h st C F N hlt
    first | refine entS ?_ | refine entSE ?_
    intro e Qd hQd
    have Z := St.start (mu := []) F N (fun a o q => st _ _ (hR' a o q)) List.nodup_nil
    refine Subscript_ ?_
    refine y_FV Z (aW S) ?_
    refine Subscript_ ?_
    refine y_L Z.F rfl ?_
    refine n_ci fun tk => ?_
    refine tup_item (i := 3) (Z.at zra) rfl (by decide) rfl ?_
    refine list_item (i := i) (Z.at (aw S)) rfl (by omega) ew ?_
    first | refine hQd _ _ ?_ | refine hQr _ _ (hQd _ _ ?_)
    refine s_done0 Z fun Y le => ?_
    rw [List.getD_eq_getElem?_getD, List.getElem?_map, hx]
    exact Iw.mono le
  refine s_sorted Z C (by show A.depth + 1 + 3 < _; omega) (by show A.units + 3 + 10 < _; omega) hh (ar S) (by omega) (by omega) (hr4 ▸ stab4) Ky fun D cD p h tk Y le hp hs zD Z => ?_
  replace Tb := Tb.mono le
  replace Kp := Kp.mono le
  replace pP := pP.mono le
  replace zk := zk.mono le
  replace Tq := Tq.mono le
  replace S := hup S le
  rw [hr4] at hp
  have ep : p = keptX ks ss 4 := stb_one (hp.trans (kept_stb hk h4).1.symm) hs (kept_stb hk h4).2
  have Rs := (ax S).kept (p := p) (by have := perm_lt hp; intro i hi; have := this i hi; omega)
  rw [ep] at Rs zD
  refine s_neS (d := rowsT (fun p => ss.getD p 0) (keptX ks ss 4)) (n := 2) Z (Rd.list zk (KeptAt.rd Kp)) (Rd.list zD (KeptAt.rd Rs)) (rowsT_shape _ _) (by omega) (eqv_rowsT _ _) (by show A.units + 3 + 64 < _; omega) ?_
  refine wpAny_truthy_bool ?_
  refine ite_b (fun q => absurd q (by decide)) (fun _ => ?_)
  first | refine norm (s := s) (h := h) (fun tk => ?_) | (refine hQn _ ?_; refine norm (s := s) (h := h) fun tk => ?_)
  first | refine wpAny_execs_nil ?_ | (refine hQn _ ?_; refine wpAny_execs_nil ?_)
  have Z := Z.front (l1 := [(cS, oS), (cM, oM), (cB, oB), (cC, oC)])
  have hk4 : kvs.length = 4 := Kp.1.trans (keptX_len hk (by omega))
  first | refine exS ?_ | (refine hQn _ ?_; refine exS ?_)
  intro Q1 hQn hQr
  refine s_compA rfl rfl rfl (by decide) (fun _ => rfl) ?_
  refine y_CV Z (aR S) ?_
  refine s_compU (ms := [(111, tabObj ps)]) Z hh rfl rfl rfl (.list (ar S)) (by omega)
    (fun cA i ys ms Y => ∃ ps, ms = [(111, tabObj ps)] ∧ TbH Y ps ∧ IntsV ys ((List.range i).map fun p => ((lfX ks ss p : Nat) : Int))) (fun cA => ⟨_, rfl, Tb, IntsV.nil⟩) ?_ ?_
  · intro b' cA I D nD io i v ys mc ms Y2 h tk kb hXb kn hi hv le p920 Z hio
    refine hide ?_
    intro G9 hG9
    obtain ⟨ps, rfl, Tb, Iy⟩ := p920
    refine hG9 ?_
    clear hG9 G9
    have C := C.keeps kb
    have S := hup S le
    refine hide ?_
    intro G9 hG9
    obtain ⟨hil, hx, t, u, Rr⟩ := (ax S).at' hv
    refine hG9 ?_
    clear hG9 G9
    first | (refine turnS ?_; intro e P1 P0 hQ1 hQ0) | (refine floopS ?_; intro Ql hQl) | skip
    refine lot_name ?_
    try (refine loopS ?_; intro Ql hQl)
    refine wpAny_assign_Name ?_
    refine s_st Z fun h tk Z => ?_
    refine wpAny_tests_nil ?_
    refine ite_b (fun _ => ?_) (fun q => absurd q (by decide))
    refine wpAny_Call_Name_kw ?_
    refine' y_K C Z.F ?kg ?_
    case kg => k_is
    refine' callWith_KW C.X ?kc rfl ?_
    case kc => k_is
    refine spliced_more ?_
    refine y_CV Z (pP.mono le) ?_
    refine spliced_more ?_
    refine n_ci fun tk => ?_
    refine spliced_none ?_
    refine kwAll_cons ?_
    refine Call_ ?_
    refine' y_K C Z.F ?kg ?_
    case kg => k_is
    refine' callWith_K C.X ?kc ?_
    case kc => k_is
    refine spliced_more ?_
    refine y_CV Z (aO S) ?_
    refine spliced_more ?_
    refine y_L Z.F rfl ?_
    refine spliced_none ?_
    refine ⟨C.X.keeps Z.F.keep, ?_⟩
    refine norm (s := s) (h := h) fun tk => ?_
    refine held_s (l1 := []) Z C (by show A.depth + 1 + 1 < _; omega) hk (colS_ok _) (ao S) Rr Tb fun kf h tk ps Y3 le3 Tb Ky Z => ?_
    refine kwAll_nil ?_
    refine ⟨C.X.keeps Z.F.keep, ?_⟩
    refine norm (s := s) (h := h) fun tk => ?_
    refine bisect_left_s Z C (by show A.depth + 1 + 4 < _; omega) hh (Kp.rowsC (zk.mono (le.trans le3)) (le.trans le3)) Ky (by omega) fun t9 h tk Y4 le4 Z => ?_
    rw [left_eq hk h4 Kp.1]
    first | refine hQ1 _ _ ?_ | refine hQ0 _ ?_
    refine SEnd.intro (ms := [(111, tabObj ps)]) Z ⟨ps, rfl, Tb.mono le4, ?_⟩
    rw [List.range_succ, List.map_append]
    exact Iy.snoc
  intro cA la ln h tk lvs ms Y le p99 Z
  refine hide ?_
  intro G9 hG9
  obtain ⟨ps, rfl, Tb, Il⟩ := p99
  refine hG9 ?_
  clear hG9 G9
  rw [hr4] at Il
  replace Kp := Kp.mono le
  replace pP := pP.mono le
  replace zk := zk.mono le
  replace S := hup S le
  refine Z.freeze (l1 := []) fun Y le zl Z => ?_
  replace Tb := Tb.mono le
  replace Kp := Kp.mono le
  replace pP := pP.mono le
  replace zk := zk.mono le
  replace S := hup S le
  first | refine norm (s := s) (h := h) (fun tk => ?_) | (refine hQn _ ?_; refine norm (s := s) (h := h) fun tk => ?_)
  first | refine exS ?_ | (refine hQn _ ?_; refine exS ?_)
  intro Q1 hQn hQr
  refine s_compA rfl rfl rfl (by decide) (fun _ => rfl) ?_
  refine y_CV Z (aR S) ?_
  refine s_compU (ms := [(111, tabObj ps)]) Z hh rfl rfl rfl (.list (ar S)) (by omega)
    (fun cA i ys ms Y => ∃ ps, ms = [(111, tabObj ps)] ∧ TbH Y ps ∧ IntsV ys ((List.range i).map fun p => ((rgX ks ss p : Nat) : Int))) (fun cA => ⟨_, rfl, Tb, IntsV.nil⟩) ?_ ?_
  · intro b' cA I D nD io i v ys mc ms Y2 h tk kb hXb kn hi hv le p920 Z hio
    refine hide ?_
    intro G9 hG9
    obtain ⟨ps, rfl, Tb, Iy⟩ := p920
    refine hG9 ?_
    clear hG9 G9
    have C := C.keeps kb
    have S := hup S le
    refine hide ?_
    intro G9 hG9
    obtain ⟨hil, hx, t, u, Rr⟩ := (ax S).at' hv
    refine hG9 ?_
    clear hG9 G9
    first | (refine turnS ?_; intro e P1 P0 hQ1 hQ0) | (refine floopS ?_; intro Ql hQl) | skip
    refine lot_name ?_
    try (refine loopS ?_; intro Ql hQl)
    refine wpAny_assign_Name ?_
    refine s_st Z fun h tk Z => ?_
    refine wpAny_tests_nil ?_
    refine ite_b (fun _ => ?_) (fun q => absurd q (by decide))
    refine wpAny_Call_Name_kw ?_
    refine' y_K C Z.F ?kg ?_
    case kg => k_is
    refine' callWith_KW C.X ?kc rfl ?_
    case kc => k_is
    refine spliced_more ?_
    refine y_CV Z (pP.mono le) ?_
    refine spliced_more ?_
    refine n_ci fun tk => ?_
    refine spliced_none ?_
    refine kwAll_cons ?_
    refine Call_ ?_
    refine' y_K C Z.F ?kg ?_
    case kg => k_is
    refine' callWith_K C.X ?kc ?_
    case kc => k_is
    refine spliced_more ?_
    refine y_CV Z (aO S) ?_
    refine spliced_more ?_
    refine y_L Z.F rfl ?_
    refine spliced_none ?_
    refine ⟨C.X.keeps Z.F.keep, ?_⟩
    refine norm (s := s) (h := h) fun tk => ?_
    refine held_s (l1 := []) Z C (by show A.depth + 1 + 1 < _; omega) hk (colS_ok _) (ao S) Rr Tb fun kf h tk ps Y3 le3 Tb Ky Z => ?_
    refine kwAll_nil ?_
    refine ⟨C.X.keeps Z.F.keep, ?_⟩
    refine norm (s := s) (h := h) fun tk => ?_
    refine bisect_right_s Z C (by show A.depth + 1 + 4 < _; omega) hh (Kp.rowsC (zk.mono (le.trans le3)) (le.trans le3)) Ky (by omega) fun t9 h tk Y4 le4 Z => ?_
    rw [right_eq hk h4 Kp.1]
    first | refine hQ1 _ _ ?_ | refine hQ0 _ ?_
    refine SEnd.intro (ms := [(111, tabObj ps)]) Z ⟨ps, rfl, Tb.mono le4, ?_⟩
    rw [List.range_succ, List.map_append]
    exact Iy.snoc
  intro cA ga gn h tk gvs ms Y le p99 Z
  refine hide ?_
  intro G9 hG9
  obtain ⟨ps, rfl, Tb, Ig⟩ := p99
  refine hG9 ?_
  clear hG9 G9
  rw [hr4] at Ig
  replace Kp := Kp.mono le
  replace pP := pP.mono le
  replace zk := zk.mono le
  replace zl := zl.mono le
  replace S := hup S le
  refine Z.freeze (l1 := []) fun Y le zg Z => ?_
  replace Tb := Tb.mono le
  replace Kp := Kp.mono le
  replace pP := pP.mono le
  replace zk := zk.mono le
  replace zl := zl.mono le
  replace S := hup S le
  first | refine norm (s := s) (h := h) (fun tk => ?_) | (refine hQn _ ?_; refine norm (s := s) (h := h) fun tk => ?_)
  have Z : ∃ m, St R b L h m [(111, tabObj ps), (cS, oS), (cM, oM), (cB, oB), (cC, oC), (142, tabObj pq)] Y ∧ m (Str.ofString "lefts") = some (.ref la) ∧ m (Str.ofString "rights") = some (.ref ga) := ⟨_, Z, rfl, rfl⟩
  refine hide ?_
  intro G9 hG9
  obtain ⟨m, Z, ml, mg⟩ := Z
  refine hG9 ?_
  clear hG9 G9
  have hw4 : wvs.length = 4 := by rw [(ai S).1, List.length_map, h4]
  first | refine exS ?_ | (refine hQn _ ?_; refine exS ?_)
  intro Q1 hQn hQr
  refine wpAny_If ?_
  refine wpAny_isTrue_Compare1 ?_
  refine y_L Z.F ml ?_
  refine s_comp rfl rfl (by decide) (fun _ => rfl) ?_
  refine y_CV Z (aW S) ?_
  refine s_compV (ms := []) Z hh (.list (aw S)) (by omega) (fun cA j ys ms Y => ∃ ok v0, ms = [(cA + 1, ok)] ∧ ok.data = .cell v0 ∧ IntsV ys ((List.range j).map fun p => ((lfX ks ss p : Nat) : Int))) (fun cA => ⟨_, _, rfl, rfl, IntsV.nil⟩) ?_ ?_
  · intro b' cA I D nD io j v ys mc ms Y4 h tk kb hXb kn hj hv le3 p920 Z hio
    refine hide ?_
    intro G9 hG9
    obtain ⟨ok, v0, rfl, dk, Iy⟩ := p920
    refine hG9 ?_
    clear hG9 G9
    have C := C.keeps kb
    have S := hup S le3
    refine hide ?_
    intro G9 hG9
    obtain ⟨hjl, hx, wa1, wv1, wn1, rfl, zw1, Iw1⟩ := wts_at (ai S) hv
    refine hG9 ?_
    clear hG9 G9
    first | (refine turnS ?_; intro e P1 P0 hQ1 hQ0) | (refine floopS ?_; intro Ql hQl) | skip
    refine lot_name ?_
    try (refine loopS ?_; intro Ql hQl)
    refine wpAny_assign_Name ?_
    refine s_stC (l1 := []) Z dk fun h tk ok dk Z => ?_
    refine wpAny_tests_nil ?_
    refine ite_b (fun _ => ?_) (fun q => absurd q (by decide))
    refine Call_ ?_
    refine' y_B C Z.F ?kg boot_len ?_
    case kg => k_is
    refine PyProof.Rows.callWith_builtin1 ?_
    refine spliced_more ?_
    refine s_comp rfl rfl (by decide) (fun _ => rfl) ?_
    refine y_CV Z (aW S) ?_
    refine s_compV (ms := []) Z hh (.list (aw S)) (by omega) (fun cA2 i2 zs ms Y => ms = [] ∧ zs.length = (ss.take i2).countP fun z => lexL (wS ks z) (wS ks (ss.getD j 0))) (fun _ => ⟨rfl, rfl⟩) ?_ ?_
    · intro b2 cA2 I2 D2 nD2 io2 i2 v zs mc2 ms Y5 h tk kb2 hXb2 kn2 hi2 hv2 le5 p920 Z hio2
      refine hide ?_
      intro G9 hG9
      obtain ⟨rfl, hz⟩ := p920
      refine hG9 ?_
      clear hG9 G9
      refine hide ?_
      intro G9 hG9
      obtain ⟨hjl2, hx2, wa2, wv2, wn2, rfl, zw2, Iw2⟩ := wts_at (ai S) hv2
      refine hG9 ?_
      clear hG9 G9
      first | (refine turnS ?_; intro e P1 P0 hQ1 hQ0) | (refine floopS ?_; intro Ql hQl) | skip
      refine lot_name ?_
      try (refine loopS ?_; intro Ql hQl)
      refine wpAny_assign_Name ?_
      refine s_st Z fun h tk Z => ?_
      refine wpAny_tests_one ?_
      refine wpAny_isTrue_Compare1 ?_
      refine y_L Z.F rfl ?_
      refine y_C (Z.F.keep _ _ (kn2 _ (.head _))) dk ?_
      refine lt_lists (Z.at (At.mono zw2 le5)) (Z.at (At.mono zw1 le5)) Iw2 Iw1 (by show A.units + 3 < _; omega) ?_
      refine wpAny_truthy_bool ?_
      refine ite_b (fun q => ?_) (fun q => ?_)
      · first | refine norm (s := s) (h := h) (fun tk => ?_) | (refine hQn _ ?_; refine norm (s := s) (h := h) fun tk => ?_)
        refine n_ci fun tk => ?_
        first | refine hQ1 _ _ ?_ | refine hQ0 _ ?_
        refine SEnd.intro (ms := []) Z ⟨rfl, ?_⟩
        rw [countP_take hx2, if_pos q, List.length_append, hz]; rfl
      · first | refine hQ1 _ _ ?_ | refine hQ0 _ ?_
        refine SEnd.intro (ms := []) Z ⟨rfl, ?_⟩
        rw [countP_take hx2, if_neg (fun e => Bool.noConfusion (q.symm.trans e)), hz]; rfl
    · intro cA2 D2 nD2 h tk zs ms Y5 le5 p99 Z
      refine hide ?_
      intro G9 hG9
      obtain ⟨rfl, hz⟩ := p99
      refine hG9 ?_
      clear hG9 G9
      rw [hw4, List.take_of_length_le (by omega)] at hz
      refine spliced_none ?_
      refine n_len (Z.mget (.head _)) (by rw [hz]; exact Nat.le_trans List.countP_le_length (by omega)) fun t tk => ?_
      first | refine hQ1 _ _ ?_ | refine hQ0 _ ?_
      refine SEnd.intro (ms := [(cA + 1, ok)]) Z.tl ⟨ok, _, rfl, dk, ?_⟩
      rw [List.range_succ, List.map_append, hz]
      exact Iy.snoc
  intro cA D nD h tk ys ms Y le p99 Z
  refine hide ?_
  intro G9 hG9
  obtain ⟨ok, v0, rfl, dk, Iy⟩ := p99
  refine hG9 ?_
  clear hG9 G9
  rw [hw4] at Iy
  replace Tb := Tb.mono le
  replace Kp := Kp.mono le
  replace pP := pP.mono le
  replace zk := zk.mono le
  replace zl := zl.mono le
  replace zg := zg.mono le
  replace S := hup S le
  refine Z.freeze (l1 := []) fun Y le zD Z => ?_
  replace Tb := Tb.mono le
  replace Kp := Kp.mono le
  replace pP := pP.mono le
  replace zk := zk.mono le
  replace zl := zl.mono le
  replace zg := zg.mono le
  replace S := hup S le
  have Z := Z.tl
  refine s_neS (d := intsD _) (n := 1) Z (Rd.list zl Il.rd) (Rd.list zD Iy.rd) (intsD_shape _) (by omega) (eqv_ints1 _) (by show A.units + 3 + 64 < _; omega) ?_
  refine wpAny_truthy_bool ?_
  refine ite_b (fun q => absurd q (by decide)) (fun _ => ?_)
  first | refine norm (s := s) (h := h) (fun tk => ?_) | (refine hQn _ ?_; refine norm (s := s) (h := h) fun tk => ?_)
  first | refine wpAny_execs_nil ?_ | (refine hQn _ ?_; refine wpAny_execs_nil ?_)
  first | refine exS ?_ | (refine hQn _ ?_; refine exS ?_)
  intro Q1 hQn hQr
  refine wpAny_If ?_
  refine wpAny_isTrue_Compare1 ?_
  refine y_L Z.F mg ?_
  refine s_comp rfl rfl (by decide) (fun _ => rfl) ?_
  refine y_CV Z (aW S) ?_
  refine s_compV (ms := []) Z hh (.list (aw S)) (by omega) (fun cA j ys ms Y => ∃ ok v0, ms = [(cA + 1, ok)] ∧ ok.data = .cell v0 ∧ IntsV ys ((List.range j).map fun p => ((rgX ks ss p : Nat) : Int))) (fun cA => ⟨_, _, rfl, rfl, IntsV.nil⟩) ?_ ?_
  · intro b' cA I D nD io j v ys mc ms Y4 h tk kb hXb kn hj hv le3 p920 Z hio
    refine hide ?_
    intro G9 hG9
    obtain ⟨ok, v0, rfl, dk, Iy⟩ := p920
    refine hG9 ?_
    clear hG9 G9
    have C := C.keeps kb
    have S := hup S le3
    refine hide ?_
    intro G9 hG9
    obtain ⟨hjl, hx, wa1, wv1, wn1, rfl, zw1, Iw1⟩ := wts_at (ai S) hv
    refine hG9 ?_
    clear hG9 G9
    first | (refine turnS ?_; intro e P1 P0 hQ1 hQ0) | (refine floopS ?_; intro Ql hQl) | skip
    refine lot_name ?_
    try (refine loopS ?_; intro Ql hQl)
    refine wpAny_assign_Name ?_
    refine s_stC (l1 := []) Z dk fun h tk ok dk Z => ?_
    refine wpAny_tests_nil ?_
    refine ite_b (fun _ => ?_) (fun q => absurd q (by decide))
    refine Call_ ?_
    refine' y_B C Z.F ?kg boot_len ?_
    case kg => k_is
    refine PyProof.Rows.callWith_builtin1 ?_
    refine spliced_more ?_
    refine s_comp rfl rfl (by decide) (fun _ => rfl) ?_
    refine y_CV Z (aW S) ?_
    refine s_compV (ms := []) Z hh (.list (aw S)) (by omega) (fun cA2 i2 zs ms Y => ms = [] ∧ zs.length = (ss.take i2).countP fun z => !lexL (wS ks (ss.getD j 0)) (wS ks z)) (fun _ => ⟨rfl, rfl⟩) ?_ ?_
    · intro b2 cA2 I2 D2 nD2 io2 i2 v zs mc2 ms Y5 h tk kb2 hXb2 kn2 hi2 hv2 le5 p920 Z hio2
      refine hide ?_
      intro G9 hG9
      obtain ⟨rfl, hz⟩ := p920
      refine hG9 ?_
      clear hG9 G9
      refine hide ?_
      intro G9 hG9
      obtain ⟨hjl2, hx2, wa2, wv2, wn2, rfl, zw2, Iw2⟩ := wts_at (ai S) hv2
      refine hG9 ?_
      clear hG9 G9
      first | (refine turnS ?_; intro e P1 P0 hQ1 hQ0) | (refine floopS ?_; intro Ql hQl) | skip
      refine lot_name ?_
      try (refine loopS ?_; intro Ql hQl)
      refine wpAny_assign_Name ?_
      refine s_st Z fun h tk Z => ?_
      refine wpAny_tests_one ?_
      refine wpAny_isTrue_Compare1 ?_
      refine y_L Z.F rfl ?_
      refine y_C (Z.F.keep _ _ (kn2 _ (.head _))) dk ?_
      refine le_lists (Z.at (At.mono zw2 le5)) (Z.at (At.mono zw1 le5)) Iw2 Iw1 (by show A.units + 3 < _; omega) ?_
      rw [lexC_true]
      refine wpAny_truthy_bool ?_
      refine ite_b (fun q => ?_) (fun q => ?_)
      · first | refine norm (s := s) (h := h) (fun tk => ?_) | (refine hQn _ ?_; refine norm (s := s) (h := h) fun tk => ?_)
        refine n_ci fun tk => ?_
        first | refine hQ1 _ _ ?_ | refine hQ0 _ ?_
        refine SEnd.intro (ms := []) Z ⟨rfl, ?_⟩
        rw [countP_take hx2, if_pos q, List.length_append, hz]; rfl
      · first | refine hQ1 _ _ ?_ | refine hQ0 _ ?_
        refine SEnd.intro (ms := []) Z ⟨rfl, ?_⟩
        rw [countP_take hx2, if_neg (fun e => Bool.noConfusion (q.symm.trans e)), hz]; rfl
    · intro cA2 D2 nD2 h tk zs ms Y5 le5 p99 Z
      refine hide ?_
      intro G9 hG9
      obtain ⟨rfl, hz⟩ := p99
      refine hG9 ?_
      clear hG9 G9
      rw [hw4, List.take_of_length_le (by omega)] at hz
      refine spliced_none ?_
      refine n_len (Z.mget (.head _)) (by rw [hz]; exact Nat.le_trans List.countP_le_length (by omega)) fun t tk => ?_
      first | refine hQ1 _ _ ?_ | refine hQ0 _ ?_
      refine SEnd.intro (ms := [(cA + 1, ok)]) Z.tl ⟨ok, _, rfl, dk, ?_⟩
      rw [List.range_succ, List.map_append, hz]
      exact Iy.snoc
  intro cA D nD h tk ys ms Y le p99 Z
  refine hide ?_
  intro G9 hG9
  obtain ⟨ok, v0, rfl, dk, Iy⟩ := p99
  refine hG9 ?_
  clear hG9 G9
  rw [hw4] at Iy
  replace Tb := Tb.mono le
  replace Kp := Kp.mono le
  replace pP := pP.mono le
  replace zk := zk.mono le
  replace zl := zl.mono le
  replace zg := zg.mono le
  replace S := hup S le
  refine Z.freeze (l1 := []) fun Y le zD Z => ?_
  replace Tb := Tb.mono le
  replace Kp := Kp.mono le
  replace pP := pP.mono le
  replace zk := zk.mono le
  replace zl := zl.mono le
  replace zg := zg.mono le
  replace S := hup S le
  have Z := Z.tl
  refine s_neS (d := intsD _) (n := 1) Z (Rd.list zg Ig.rd) (Rd.list zD Iy.rd) (intsD_shape _) (by omega) (eqv_ints1 _) (by show A.units + 3 + 64 < _; omega) ?_
  refine wpAny_truthy_bool ?_
  refine ite_b (fun q => absurd q (by decide)) (fun _ => ?_)
  first | refine norm (s := s) (h := h) (fun tk => ?_) | (refine hQn _ ?_; refine norm (s := s) (h := h) fun tk => ?_)
  first | refine wpAny_execs_nil ?_ | (refine hQn _ ?_; refine wpAny_execs_nil ?_)
  clear mg zg Ig
  first | refine exS ?_ | (refine hQn _ ?_; refine exS ?_)
  intro Q1 hQn hQr
  refine wpAny_Assign_Name ?_
  refine s_comp rfl rfl (by decide) (fun _ => rfl) ?_
  refine y_CV Z (aR S) ?_
  refine s_compV (ms := []) Z hh (.list (ar S)) (by omega) (fun cA j ys ms Y => ∃ ok v0, ms = [(cA + 1, ok)] ∧ ok.data = .cell v0 ∧ IntLs Y ys ((List.range j).map (sgnR ks ss 4))) (fun cA => ⟨_, _, rfl, rfl, AllAt.nil⟩) ?_ ?_
  · intro b' cA I D nD io j v ys mc ms Y4 h tk kb hXb kn hj hv le3 p920 Z hio
    refine hide ?_
    intro G9 hG9
    obtain ⟨ok, v0, rfl, dk, Iy⟩ := p920
    refine hG9 ?_
    clear hG9 G9
    have C := C.keeps kb
    have S := hup S le3
    refine hide ?_
    intro G9 hG9
    obtain ⟨hjl, hx, t, u, Rr⟩ := (ax S).at' hv
    refine hG9 ?_
    clear hG9 G9
    first | (refine turnS ?_; intro e P1 P0 hQ1 hQ0) | (refine floopS ?_; intro Ql hQl) | skip
    refine lot_name ?_
    try (refine loopS ?_; intro Ql hQl)
    refine wpAny_assign_Name ?_
    refine s_stC (l1 := []) Z dk fun h tk ok dk Z => ?_
    refine wpAny_tests_nil ?_
    refine ite_b (fun _ => ?_) (fun q => absurd q (by decide))
    refine s_comp rfl rfl (by decide) (fun _ => rfl) ?_
    refine y_CV Z (aR S) ?_
    refine s_compV (ms := []) Z hh (.list (ar S)) (by omega) (fun cA2 i2 zs ms Y => ms = [] ∧ IntsV zs (sgnR ks ss i2 j)) (fun _ => ⟨rfl, IntsV.nil⟩) ?_ ?_
    · intro b2 cA2 I2 D2 nD2 io2 i2 v2 zs mc2 ms Y5 h tk kb2 hXb2 kn2 hi2 hv2 le5 p920 Z hio2
      refine hide ?_
      intro G9 hG9
      obtain ⟨rfl, Iz⟩ := p920
      refine hG9 ?_
      clear hG9 G9
      have C := C.keeps kb2
      have S := hup S le5
      refine hide ?_
      intro G9 hG9
      obtain ⟨hil2, hx2, t2, u2, Rr2⟩ := (ax S).at' hv2
      refine hG9 ?_
      clear hG9 G9
      refine hide ?_
      intro G9 hG9
      obtain ⟨dx, kl2, hsh, tt2, n2, z1, z2, -⟩ := id (ao S)
      refine hG9 ?_
      clear hG9 G9
      have z1 : At Y5 oa _ := z1
      have z2 : At Y5 dx _ := z2
      first | (refine turnS ?_; intro e P1 P0 hQ1 hQ0) | (refine floopS ?_; intro Ql hQl) | skip
      refine lot_name ?_
      try (refine loopS ?_; intro Ql hQl)
      refine wpAny_assign_Name ?_
      refine s_st Z fun h tk Z => ?_
      refine wpAny_tests_nil ?_
      refine ite_b (fun _ => ?_) (fun q => absurd q (by decide))
      refine MethodCall_ ?_
      refine y_CV Z (aO S) ?_
      refine' method_inst Z.F C.X ⟨Z.at z1, rfl, rfl, Z.at z2⟩ ?a1 ?a2 ?a3 rfl ?_
      case a1 => k_is
      case a2 => k_is
      case a3 => k_is
      refine' callWith_K C.X ?kc ?_
      case kc => k_is
      refine spliced_more ?_
      refine y_C (Z.F.keep _ _ (kn2 _ (.head _))) dk ?_
      refine spliced_more ?_
      refine y_L Z.F rfl ?_
      refine spliced_none ?_
      refine ⟨C.X.keeps Z.F.keep, ?_⟩
      refine norm (s := s) (h := h) fun tk => ?_
      refine compare_s Z C (by show A.depth + 1 + 1 < _; omega) hh hk (colS_ok _) (colS_ok _) (ao S) (Rr.mono le5) Rr2 fun t h tk Y6 le6 Z => ?_
      rw [cmp_sgn hk]
      first | refine hQ1 _ _ ?_ | refine hQ0 _ ?_
      refine SEnd.intro (ms := []) Z ⟨rfl, ?_⟩
      unfold sgnR
      rw [List.range_succ, List.map_append]
      exact Iz.snoc
    · intro cA2 D2 nD2 h tk zs ms Y5 le5 p99 Z
      refine hide ?_
      intro G9 hG9
      obtain ⟨rfl, Iz⟩ := p99
      refine hG9 ?_
      clear hG9 G9
      rw [hr4] at Iz
      refine Z.freeze (l1 := []) fun Y6 le6 zD2 Z => ?_
      first | refine hQ1 _ _ ?_ | refine hQ0 _ ?_
      refine SEnd.intro (ms := [(cA + 1, ok)]) Z ⟨ok, _, rfl, dk, ?_⟩
      rw [List.range_succ, List.map_append]
      exact (IntLs.mono Iy (le5.trans le6)).snoc ⟨D2, zs, nD2, rfl, zD2, Iz⟩
  intro cA sa sn2 h tk svs ms Y le p99 Z
  refine hide ?_
  intro G9 hG9
  obtain ⟨ok, v0, rfl, dk, Is⟩ := p99
  refine hG9 ?_
  clear hG9 G9
  rw [hr4] at Is
  replace Tb := Tb.mono le
  replace Kp := Kp.mono le
  replace pP := pP.mono le
  replace zk := zk.mono le
  replace zl := zl.mono le
  replace S := hup S le
  refine Z.freeze (l1 := []) fun Y le zs Z => ?_
  replace Tb := Tb.mono le
  replace Kp := Kp.mono le
  replace pP := pP.mono le
  replace zk := zk.mono le
  replace zl := zl.mono le
  replace Is := IntLs.mono Is le
  replace S := hup S le
  have Z := Z.tl
  refine s_stC (l1 := [_]) Z dS fun h tk oS dS Z => ?_
  refine Z.frz (l1 := [_]) dS fun Y le pS Z => ?_
  replace Tb := Tb.mono le
  replace Kp := Kp.mono le
  replace pP := pP.mono le
  replace zk := zk.mono le
  replace zl := zl.mono le
  replace zs := zs.mono le
  replace Is := IntLs.mono Is le
  replace S := hup S le
  first | refine exS ?_ | (refine hQn _ ?_; refine exS ?_)
  intro Q1 hQn hQr
  refine wpAny_If ?_
  refine wpAny_isTrue_Compare1 ?_
  refine y_CV Z pS ?_
  refine s_comp rfl rfl (by decide) (fun _ => rfl) ?_
  refine y_CV Z (aW S) ?_
  refine s_compV (ms := []) Z hh (.list (aw S)) (by omega) (fun cA j ys ms Y => ∃ ok v0, ms = [(cA + 1, ok)] ∧ ok.data = .cell v0 ∧ IntLs Y ys ((List.range j).map (sgnR ks ss 4))) (fun cA => ⟨_, _, rfl, rfl, AllAt.nil⟩) ?_ ?_
  · intro b' cA I D nD io j v ys mc ms Y4 h tk kb hXb kn hj hv le3 p920 Z hio
    refine hide ?_
    intro G9 hG9
    obtain ⟨ok, v0, rfl, dk, Iy⟩ := p920
    refine hG9 ?_
    clear hG9 G9
    have C := C.keeps kb
    have S := hup S le3
    refine hide ?_
    intro G9 hG9
    obtain ⟨hjl, hx, Iw⟩ := wts_at (ai S) hv
    refine hG9 ?_
    clear hG9 G9
    first | (refine turnS ?_; intro e P1 P0 hQ1 hQ0) | (refine floopS ?_; intro Ql hQl) | skip
    refine lot_name ?_
    try (refine loopS ?_; intro Ql hQl)
    refine wpAny_assign_Name ?_
    refine s_stC (l1 := []) Z dk fun h tk ok dk Z => ?_
    refine wpAny_tests_nil ?_
    refine ite_b (fun _ => ?_) (fun q => absurd q (by decide))
    refine s_comp rfl rfl (by decide) (fun _ => rfl) ?_
    refine y_CV Z (aW S) ?_
    refine s_compV (ms := []) Z hh (.list (aw S)) (by omega) (fun cA2 i2 zs ms Y => ms = [] ∧ IntsV zs (sgnR ks ss i2 j)) (fun _ => ⟨rfl, IntsV.nil⟩) ?_ ?_
    · intro b2 cA2 I2 D2 nD2 io2 i2 v2 zs mc2 ms Y5 h tk kb2 hXb2 kn2 hi2 hv2 le5 p920 Z hio2
      refine hide ?_
      intro G9 hG9
      obtain ⟨rfl, Iz⟩ := p920
      refine hG9 ?_
      clear hG9 G9
      have C := C.keeps kb2
      have S := hup S le5
      refine hide ?_
      intro G9 hG9
      obtain ⟨hil2, hx2, Iw2⟩ := wts_at (ai S) hv2
      refine hG9 ?_
      clear hG9 G9
      first | (refine turnS ?_; intro e P1 P0 hQ1 hQ0) | (refine floopS ?_; intro Ql hQl) | skip
      refine lot_name ?_
      try (refine loopS ?_; intro Ql hQl)
      refine wpAny_assign_Name ?_
      refine s_st Z fun h tk Z => ?_
      refine wpAny_tests_nil ?_
      refine ite_b (fun _ => ?_) (fun q => absurd q (by decide))
      refine Call_ ?_
      refine' y_K C Z.F ?kg ?_
      case kg => k_is
      refine' callWith_K C.X ?kc ?_
      case kc => k_is
      refine spliced_more ?_
      refine y_C (Z.F.keep _ _ (kn2 _ (.head _))) dk ?_
      refine spliced_more ?_
      refine y_L Z.F rfl ?_
      refine spliced_none ?_
      refine ⟨C.X.keeps Z.F.keep, ?_⟩
      refine norm (s := s) (h := h) fun tk => ?_
      refine s_use0 Z (fun g k1 k2 k3 => sign_ok (C.keeps k1) (by show A.depth + 1 + 1 < _; omega) (by show A.units + 3 + 5 < _; omega) k2 (IntsL.mono Iw le5) Iw2) ?_
      intro r h tk nw Y6 p95 le6 le6' Z
      refine hide ?_
      intro G9 hG9
      obtain ⟨t, rfl⟩ := p95
      refine hG9 ?_
      clear hG9 G9
      first | refine hQ1 _ _ ?_ | refine hQ0 _ ?_
      refine SEnd.intro (ms := []) Z ⟨rfl, ?_⟩
      unfold sgnR
      rw [List.range_succ, List.map_append]
      exact Iz.snoc
    · intro cA2 D2 nD2 h tk zs ms Y5 le5 p99 Z
      refine hide ?_
      intro G9 hG9
      obtain ⟨rfl, Iz⟩ := p99
      refine hG9 ?_
      clear hG9 G9
      rw [hw4] at Iz
      refine Z.freeze (l1 := []) fun Y6 le6 zD2 Z => ?_
      first | refine hQ1 _ _ ?_ | refine hQ0 _ ?_
      refine SEnd.intro (ms := [(cA + 1, ok)]) Z ⟨ok, _, rfl, dk, ?_⟩
      rw [List.range_succ, List.map_append]
      exact (IntLs.mono Iy (le5.trans le6)).snoc ⟨D2, zs, nD2, rfl, zD2, Iz⟩
  intro cA D nD h tk ys ms Y le p99 Z
  refine hide ?_
  intro G9 hG9
  obtain ⟨ok, v0, rfl, dk, Iy⟩ := p99
  refine hG9 ?_
  clear hG9 G9
  rw [hw4] at Iy
  replace Tb := Tb.mono le
  replace Kp := Kp.mono le
  replace pP := pP.mono le
  replace zk := zk.mono le
  replace zl := zl.mono le
  replace zs := zs.mono le
  replace pS := pS.mono le
  replace Is := IntLs.mono Is le
  replace S := hup S le
  refine Z.freeze (l1 := []) fun Y le zD Z => ?_
  replace Tb := Tb.mono le
  replace Kp := Kp.mono le
  replace pP := pP.mono le
  replace zk := zk.mono le
  replace zl := zl.mono le
  replace zs := zs.mono le
  replace pS := pS.mono le
  replace Is := IntLs.mono Is le
  replace Iy := IntLs.mono Iy le
  replace S := hup S le
  have Z := Z.tl
  refine s_neS (d := intssD _) (n := 2) Z (Rd.list zs (AllAt.rd (f := intsD) IntsL.rd' Is)) (Rd.list zD (AllAt.rd (f := intsD) IntsL.rd' Iy)) (intssD_shape _) (by omega) (eqv_intss1 _) (by show A.units + 3 + 64 < _; omega) ?_
  refine wpAny_truthy_bool ?_
  refine ite_b (fun q => absurd q (by decide)) (fun _ => ?_)
  first | refine norm (s := s) (h := h) (fun tk => ?_) | (refine hQn _ ?_; refine norm (s := s) (h := h) fun tk => ?_)
  first | refine wpAny_execs_nil ?_ | (refine hQn _ ?_; refine wpAny_execs_nil ?_)
  first | refine exS ?_ | (refine hQn _ ?_; refine exS ?_)
  intro Q1 hQn hQr
  refine wpAny_Assign_Name ?_
  refine s_comp rfl rfl (by decide) (fun _ => rfl) ?_
  refine y_L Z.F ml ?_
  refine s_compV (ms := []) Z hh (.list zl) (by rw [Il.1]; exact Nat.le_of_ble_eq_true rfl) (fun cA j ys ms Y => ms = [] ∧ ys = (List.range j).map fun p => Value.bool (btAt ss.sum (lfX ks ss p))) (fun cA => ⟨rfl, rfl⟩) ?_ ?_
  · intro b' cA I D nD io j v ys mc ms Y4 h tk kb hXb kn hj hv le3 p920 Z hio
    refine hide ?_
    intro G9 hG9
    obtain ⟨rfl, rfl⟩ := p920
    refine hG9 ?_
    clear hG9 G9
    have S := hup S le3
    refine hide ?_
    intro G9 hG9
    obtain ⟨x, t, hx, rfl⟩ := Il.at' hv
    refine hG9 ?_
    clear hG9 G9
    have hj4 : j < 4 := by have := Il.1; rw [List.length_map, List.length_range] at this; omega
    rw [List.getElem?_map, List.getElem?_range hj4] at hx
    cases hx
    have hl4 := lf_lt4 (ks := ks) h4 hj4
    first | (refine turnS ?_; intro e P1 P0 hQ1 hQ0) | (refine floopS ?_; intro Ql hQl) | skip
    refine lot_name ?_
    try (refine loopS ?_; intro Ql hQl)
    refine wpAny_assign_Name ?_
    refine s_st Z fun h tk Z => ?_
    refine wpAny_tests_nil ?_
    refine ite_b (fun _ => ?_) (fun q => absurd q (by decide))
    refine wpAny_Compare1 ?_
    refine wpAny_BinOp ?_
    refine wpAny_BinOp ?_
    refine y_CV Z (aT S) ?_
    refine wpAny_BinOp ?_
    refine n_ci fun tk => ?_
    refine y_L Z.F rfl ?_
    refine n_pow2 hl4 fun tk => ?_
    refine n_fdiv pow2_ne (pylong2 hl4) fun tk => ?_
    refine n_ci fun tk => ?_
    refine n_fmod (by decide) fun tk => ?_
    refine n_ci fun tk => ?_
    refine eq_int ?_
    first | refine hQ1 _ _ ?_ | refine hQ0 _ ?_
    refine SEnd.intro (ms := []) Z ⟨rfl, ?_⟩
    rw [List.range_succ, List.map_append]
    rfl
  intro cA ma mn h tk mvs ms Y le p99 Z
  refine hide ?_
  intro G9 hG9
  obtain ⟨rfl, hm⟩ := p99
  refine hG9 ?_
  clear hG9 G9
  rw [Il.1, List.length_map, List.length_range] at hm
  replace Tb := Tb.mono le
  replace Kp := Kp.mono le
  replace pP := pP.mono le
  replace zk := zk.mono le
  replace zl := zl.mono le
  replace zs := zs.mono le
  replace pS := pS.mono le
  replace Is := IntLs.mono Is le
  replace S := hup S le
  refine Z.freeze (l1 := []) fun Y le zm Z => ?_
  replace Tb := Tb.mono le
  replace Kp := Kp.mono le
  replace pP := pP.mono le
  replace zk := zk.mono le
  replace zl := zl.mono le
  replace zs := zs.mono le
  replace pS := pS.mono le
  replace Is := IntLs.mono Is le
  replace S := hup S le
  refine s_stC (l1 := [_]) Z dM fun h tk oM dM Z => ?_
  refine Z.frz (l1 := [_]) dM fun Y le pM Z => ?_
  replace Tb := Tb.mono le
  replace Kp := Kp.mono le
  replace pP := pP.mono le
  replace zk := zk.mono le
  replace zl := zl.mono le
  replace zs := zs.mono le
  replace pS := pS.mono le
  replace zm := zm.mono le
  replace Is := IntLs.mono Is le
  replace S := hup S le
  have hmp : ∀ p, p < 4 → mvs[p]? = some (.bool (btAt ss.sum (lfX ks ss p))) := fun p hp => by rw [hm, List.getElem?_map, List.getElem?_range hp]; rfl
  first | refine exS ?_ | (refine hQn _ ?_; refine exS ?_)
  intro Q1 hQn hQr
  refine s_compA rfl rfl rfl (by decide) (fun _ => rfl) ?_
  refine Call_ ?_
  refine' y_B C Z.F ?kg boot_range ?_
  case kg => k_is
  refine PyProof.Rows.callWith_type1 ?_
  refine spliced_more ?_
  refine n_ci fun tk => ?_
  refine spliced_none ?_
  refine s_range1 (n := 4) Z (by decide) fun r0 h u v t tk Hr Z => ?_
  refine s_compU (ms := []) Z hh rfl rfl rfl (.range (n := 4) Hr rfl rfl) (by decide)
    (fun cA i ys ms Y => ∃ ok v0, ms = [(cA + 1, ok)] ∧ ok.data = .cell v0 ∧ AllAt (RowF (fallL ks ss ss.sum)) Y ys (List.range i)) (fun cA => ⟨_, _, rfl, rfl, AllAt.nil⟩) ?_ ?_
  · intro b' cA I D nD io i v ys mc ms Y2 h tk kb hXb kn hi p918 le p920 Z hio
    refine hide ?_
    intro G9 hG9
    obtain ⟨tv, rfl⟩ := p918
    obtain ⟨ok, v0, rfl, dk, Fy⟩ := p920
    refine hG9 ?_
    clear hG9 G9
    have S := hup S le
    have e0 : (0 + (i : Int) * 1) = (i : Int) := by omega
    rw [e0]
    have hi : i < 4 := hi
    refine hide ?_
    intro G9 hG9
    obtain ⟨sv1, es, sra, srv, srn, rfl, zsr, Isr⟩ := Is.2 i (sgnR ks ss 4 i) (by rw [List.getElem?_map, List.getElem?_range hi]; rfl)
    refine hG9 ?_
    clear hG9 G9
    first | (refine turnS ?_; intro e P1 P0 hQ1 hQ0) | (refine floopS ?_; intro Ql hQl) | skip
    refine lot_name ?_
    try (refine loopS ?_; intro Ql hQl)
    refine wpAny_assign_Name ?_
    refine s_stC (l1 := []) Z dk fun h tk ok dk Z => ?_
    refine wpAny_tests_nil ?_
    refine ite_b (fun _ => ?_) (fun q => absurd q (by decide))
    refine s_comp rfl rfl (by decide) (fun _ => rfl) ?_
    refine Subscript_ ?_
    refine y_CV Z (pS.mono le) ?_
    refine y_C (Z.mget (.head _)) dk ?_
    refine list_item (i := i) (Z.at (At.mono zs le)) rfl (by omega) es ?_
    refine s_compV (ms := []) Z hh (.list (At.mono zsr le)) (by rw [Isr.1]; exact Nat.le_of_ble_eq_true rfl) (fun cA2 j zs ms Y => ms = [] ∧ zs = (List.range j).map fun q => Value.bool (fallL ks ss ss.sum i q)) (fun _ => ⟨rfl, rfl⟩) ?_ ?_
    · intro b2 cA2 I2 D2 nD2 io2 j v2 zs mc2 ms Y5 h tk kb2 hXb2 kn2 hi2 hv2 le5 p920 Z hio2
      refine hide ?_
      intro G9 hG9
      obtain ⟨rfl, rfl⟩ := p920
      refine hG9 ?_
      clear hG9 G9
      have hj4 : j < 4 := by have := Isr.1; unfold sgnR at this; rw [List.length_map, List.length_range] at this; omega
      refine hide ?_
      intro G9 hG9
      obtain ⟨x, t, hx, rfl⟩ := Isr.at' hv2
      refine hG9 ?_
      clear hG9 G9
      unfold sgnR at hx
      rw [List.getElem?_map, List.getElem?_range hj4] at hx
      cases hx
      have fin : ∀ c : Bool, fallL ks ss ss.sum i j = c → ((List.range j).map fun q => Value.bool (fallL ks ss ss.sum i q)) ++ [.bool c] = (List.range (j + 1)).map fun q => Value.bool (fallL ks ss ss.sum i q) := fun c e => by rw [List.range_succ, List.map_append, ← e]; rfl
      first | (refine turnS ?_; intro e P1 P0 hQ1 hQ0) | (refine floopS ?_; intro Ql hQl) | skip
      refine lot_name ?_
      try (refine loopS ?_; intro Ql hQl)
      refine wpAny_assign_Name ?_
      refine s_st Z fun h tk Z => ?_
      refine wpAny_tests_nil ?_
      refine ite_b (fun _ => ?_) (fun q => absurd q (by decide))
      refine or_b ?_
      refine wpAny_Compare1 ?_
      refine y_L Z.F rfl ?_
      refine n_ci fun tk => ?_
      refine eq_int ?_
      refine ⟨_, rfl, ite_b (fun q => ?_) (fun q => ?_)⟩
      · first | refine hQ1 _ _ ?_ | refine hQ0 _ ?_
        refine SEnd.intro (ms := []) Z ⟨rfl, fin _ ?_⟩
        unfold fallL
        rw [decide_eq_true (eq_of_beq q), Bool.true_or]
      · first | refine norm (s := s) (h := h) (fun tk => ?_) | (refine hQn _ ?_; refine norm (s := s) (h := h) fun tk => ?_)
        refine and_b ?_
        refine wpAny_Compare1 ?_
        refine y_L Z.F rfl ?_
        refine n_ci fun tk => ?_
        refine eq_int ?_
        refine ⟨_, rfl, ite_b (fun q2 => ?_) (fun q2 => ?_)⟩
        · refine Subscript_ ?_
          refine y_CV Z ((pM.mono le).mono le5) ?_
          refine y_C (Z.F.keep _ _ (kn2 _ (.head _))) dk ?_
          refine list_item (i := i) (Z.at ((zm.mono le).mono le5)) rfl (by omega) (hmp i hi) ?_
          first | refine hQ1 _ _ ?_ | refine hQ0 _ ?_
          refine SEnd.intro (ms := []) Z ⟨rfl, fin _ ?_⟩
          unfold fallL
          rw [decide_eq_false (ne_of_beq_false q), decide_eq_true (eq_of_beq q2), Bool.false_or, Bool.true_and]
        · first | refine hQ1 _ _ ?_ | refine hQ0 _ ?_
          refine SEnd.intro (ms := []) Z ⟨rfl, fin _ ?_⟩
          unfold fallL
          rw [decide_eq_false (ne_of_beq_false q), decide_eq_false (ne_of_beq_false q2), Bool.false_or, Bool.false_and]
    · intro cA2 D2 nD2 h tk zs2 ms Y5 le5 p99 Z
      refine hide ?_
      intro G9 hG9
      obtain ⟨rfl, hz⟩ := p99
      refine hG9 ?_
      clear hG9 G9
      rw [Isr.1] at hz
      refine Z.freeze (l1 := []) fun Y6 le6 zD2 Z => ?_
      first | refine hQ1 _ _ ?_ | refine hQ0 _ ?_
      refine SEnd.intro (ms := [(cA + 1, ok)]) Z ⟨ok, _, rfl, dk, ?_⟩
      rw [List.range_succ]
      exact (RowsF.mono Fy (le5.trans le6)).snoc ⟨D2, zs2, nD2, rfl, zD2, fun q hq => by rw [hz]; unfold sgnR; rw [List.length_map, List.length_range, List.getElem?_map, List.getElem?_range hq]; rfl⟩
  intro cA fa fn h tk fvs ms Y le p99 Z
  refine hide ?_
  intro G9 hG9
  obtain ⟨ok, v0, rfl, dk, Fy⟩ := p99
  refine hG9 ?_
  clear hG9 G9
  replace Tb := Tb.mono le
  replace Kp := Kp.mono le
  replace pP := pP.mono le
  replace zk := zk.mono le
  replace zl := zl.mono le
  replace pM := pM.mono le
  replace zm := zm.mono le
  replace S := hup S le
  refine Z.freeze (l1 := []) fun Y le zf Z => ?_
  replace Tb := Tb.mono le
  replace Kp := Kp.mono le
  replace pP := pP.mono le
  replace zk := zk.mono le
  replace zl := zl.mono le
  replace pM := pM.mono le
  replace zm := zm.mono le
  replace S := hup S le
  have Fa : FallsAt Y (.ref fa) (fallL ks ss ss.sum) := falls_of zf (RowsF.mono Fy le)
  have Z := Z.tl
  first | refine norm (s := s) (h := h) (fun tk => ?_) | (refine hQn _ ?_; refine norm (s := s) (h := h) fun tk => ?_)
  refine hide ?_
  intro G9 hG9
  obtain ⟨F, h9F⟩ : ∃ F, fallL ks ss ss.sum = F := ⟨_, rfl⟩
  refine hG9 ?_
  clear hG9 G9
  rw [h9F] at Fa
  have Z : ∃ m, St R b L h m [(111, tabObj ps), (cB, oB), (cC, oC), (142, tabObj pq)] Y ∧ m (Str.ofString "lefts") = some (.ref la) ∧ m (Str.ofString "falls") = some (.ref fa) := ⟨_, Z, (by exact ml), rfl⟩
  refine hide ?_
  intro G9 hG9
  obtain ⟨m, Z, ml, mf⟩ := Z
  refine hG9 ?_
  clear hG9 G9
  first | refine exS ?_ | (refine hQn _ ?_; refine exS ?_)
  intro Q1 hQn hQr
  refine Assign_Tuple ?_
  refine Call_ ?_
  refine' y_K C Z.F ?kg ?_
  case kg => k_is
  refine' callWith_K C.X ?kc ?_
  case kc => k_is
  refine spliced_more ?_
  refine y_L Z.F mf ?_
  refine spliced_none ?_
  refine ⟨C.X.keeps Z.F.keep, ?_⟩
  refine norm (s := s) (h := h) fun tk => ?_
  refine s_use0 Z (fun g k1 k2 k3 => falls_ok (C.keeps k1) (by show A.depth + 1 + 4 < _; omega) hh k2 Fa) ?_
  intro r h tk nw Y2 p95 le le2 Z
  refine hide ?_
  intro G9 hG9
  obtain ⟨T0, td, cd, cvs, cn, rfl, zT, Dt, zc, Ic⟩ := p95
  refine hG9 ?_
  clear hG9 G9
  replace zT := At.mono zT le2
  replace Dt := Dt.mono le2
  replace zc := At.mono zc le2
  replace Kp := Kp.mono le
  replace pP := pP.mono le
  replace zk := zk.mono le
  replace zl := zl.mono le
  replace pM := pM.mono le
  replace zm := zm.mono le
  replace S := hup S le
  refine s_unpack (vs := [.ref td, .ref cd]) Z ⟨_, Z.at zT, rfl, _, rfl⟩ hh rfl rfl fun h tk Z => ?_
  refine assignInOrder_cons ?_
  try (refine loopS ?_; intro Ql hQl)
  refine wpAny_assign_Name ?_
  refine s_stC (l1 := [_]) Z dB fun h tk oB dB Z => ?_
  refine assignInOrder_cons ?_
  try (refine loopS ?_; intro Ql hQl)
  refine wpAny_assign_Name ?_
  refine s_stC (l1 := [_, _]) Z dC fun h tk oC dC Z => ?_
  refine assignInOrder_nil ?_
  refine Z.frz (l1 := [_]) dB fun Y le1 pB Z => ?_
  refine Z.frz (l1 := [_]) dC fun Y le2 pC Z => ?_
  replace pB := pB.mono le2
  have le := le1.trans le2
  replace Kp := Kp.mono le
  replace pP := pP.mono le
  replace zk := zk.mono le
  replace zl := zl.mono le
  replace pM := pM.mono le
  replace zm := zm.mono le
  replace Dt := Dt.mono le
  replace zc := zc.mono le
  replace S := hup S le
  have hcl : cvs.length = 24 := Ic.1.trans (cs4_len F)
  first | refine exS ?_ | (refine hQn _ ?_; refine exS ?_)
  intro Q1 hQn hQr
  refine wpAny_If ?_
  refine wpAny_isTrue_BoolOp ?_
  refine wpAny_allTrue_Or_cons ?_
  refine wpAny_isTrue_Compare1 ?_
  refine y_CV Z pC ?_
  refine Call_ ?_
  refine' y_B C Z.F ?kg boot_sorted ?_
  case kg => k_is
  refine PyProof.Rows.callWith_builtin1 ?_
  refine spliced_more ?_
  refine y_CV Z pC ?_
  refine spliced_none ?_
  refine s_sortedI Z (Z.at zc) Ic (by omega) (cs4_ok F).1 fun D ws c h tk Y le zD Iw Z => ?_
  replace Kp := Kp.mono le
  replace pP := pP.mono le
  replace zk := zk.mono le
  replace zl := zl.mono le
  replace pM := pM.mono le
  replace zm := zm.mono le
  replace Dt := Dt.mono le
  replace zc := zc.mono le
  replace pB := pB.mono le
  replace pC := pC.mono le
  replace S := hup S le
  refine s_neS (d := intsD (cs4 F)) (n := 1) Z (Rd.list zc Ic.rd) (Rd.list zD Iw.rd) (intsD_shape _) (by omega) (eqv_ints1 _) (by show A.units + 3 + 64 < _; omega) ?_
  refine wpAny_truthy_bool ?_
  refine ite_b (fun q => absurd q (by decide)) (fun _ => ?_)
  first | refine norm (s := s) (h := h) (fun tk => ?_) | (refine hQn _ ?_; refine norm (s := s) (h := h) fun tk => ?_)
  refine wpAny_allTrue_Or_cons ?_
  refine wpAny_isTrue_Compare1 ?_
  refine Call_ ?_
  refine' y_K C Z.F ?kg ?_
  case kg => k_is
  refine' callWith_K C.X ?kc ?_
  case kc => k_is
  refine spliced_more ?_
  refine y_CV Z pB ?_
  refine spliced_none ?_
  refine ⟨C.X.keeps Z.F.keep, ?_⟩
  refine norm (s := s) (h := h) fun tk => ?_
  refine count_s Z C (by show A.depth + 1 + 1 < _; omega) hh Dt fun t8 h tk Y le Z => ?_
  replace Kp := Kp.mono le
  replace pP := pP.mono le
  replace zk := zk.mono le
  replace zl := zl.mono le
  replace pM := pM.mono le
  replace zm := zm.mono le
  replace Dt := Dt.mono le
  replace zc := zc.mono le
  replace pB := pB.mono le
  replace pC := pC.mono le
  replace S := hup S le
  rw [table_total]
  refine n_ci fun tk => ?_
  refine ne_int ?_
  rw [bne_self_eq_false]
  refine wpAny_truthy_bool ?_
  refine ite_b (fun q => absurd q (by decide)) (fun _ => ?_)
  refine wpAny_allTrue_Or_nil ?_
  refine ite_b (fun q => absurd q (by decide)) (fun _ => ?_)
  first | refine norm (s := s) (h := h) (fun tk => ?_) | (refine hQn _ ?_; refine norm (s := s) (h := h) fun tk => ?_)
  first | refine wpAny_execs_nil ?_ | (refine hQn _ ?_; refine wpAny_execs_nil ?_)
  first | refine exS ?_ | (refine hQn _ ?_; refine exS ?_)
  intro Q1 hQn hQr
  refine wpAny_If ?_
  refine wpAny_isTrue_Compare1 ?_
  refine s_comp rfl rfl (by decide) (fun _ => rfl) ?_
  refine Call_ ?_
  refine' y_B C Z.F ?kg boot_range ?_
  case kg => k_is
  refine PyProof.Rows.callWith_type1 ?_
  refine spliced_more ?_
  refine n_ci fun tk => ?_
  refine spliced_none ?_
  refine s_range1 (n := 4) Z (by decide) fun r0 h u v t tk Hr Z => ?_
  refine s_compV (ms := []) Z hh (.range (n := 4) Hr rfl rfl) (by decide) (fun cA i ys ms Y => ms = [] ∧ IntsV ys ((List.range i).map fun k => (getI (tableX F (linesX 4)) (k : Nat)).getD 0)) (fun cA => ⟨rfl, IntsV.nil⟩) ?_ ?_
  · intro b' cA I D nD io i v ys mc ms Y2 h tk kb hXb kn hi p918 le p920 Z hio
    refine hide ?_
    intro G9 hG9
    obtain ⟨tv, rfl⟩ := p918
    obtain ⟨rfl, Iy⟩ := p920
    refine hG9 ?_
    clear hG9 G9
    have C := C.keeps kb
    have e0 : (0 + (i : Int) * 1) = (i : Int) := by omega
    rw [e0]
    first | (refine turnS ?_; intro e P1 P0 hQ1 hQ0) | (refine floopS ?_; intro Ql hQl) | skip
    refine lot_name ?_
    try (refine loopS ?_; intro Ql hQl)
    refine wpAny_assign_Name ?_
    refine s_st Z fun h tk Z => ?_
    refine wpAny_tests_nil ?_
    refine ite_b (fun _ => ?_) (fun q => absurd q (by decide))
    refine wpAny_BinOp ?_
    refine Call_ ?_
    refine' y_K C Z.F ?kg ?_
    case kg => k_is
    refine' callWith_K C.X ?kc ?_
    case kc => k_is
    refine spliced_more ?_
    refine y_CV Z (pC.mono le) ?_
    refine spliced_more ?_
    refine y_L Z.F rfl ?_
    refine spliced_none ?_
    refine ⟨C.X.keeps Z.F.keep, ?_⟩
    refine norm (s := s) (h := h) fun tk => ?_
    refine s_use0 Z (fun g' k1 k2 k3 => bisect_right_int (C.keeps k1) (by show A.depth + 1 + 1 < _; omega) hh (k2 _ _ (At.mono zc le)) Ic (by omega) (fun _ _ _ _ e st => by
      refine' binds_by e ?k1 (binds2 ((C.keeps k1).X.keeps st) ?kb ?kc)
      case k1 => k_is
      case kb => exact fun _ => rfl
      case kc => rfl)) ?_
    intro r h tk nw Y3 p95 le3 le3' Z
    refine hide ?_
    intro G9 hG9
    obtain ⟨t1, rfl⟩ := p95
    refine hG9 ?_
    clear hG9 G9
    refine Call_ ?_
    refine' y_K C Z.F ?kg ?_
    case kg => k_is
    refine' callWith_K C.X ?kc ?_
    case kc => k_is
    refine spliced_more ?_
    refine y_CV Z ((pC.mono le).mono le3) ?_
    refine spliced_more ?_
    refine y_L Z.F rfl ?_
    refine spliced_none ?_
    refine ⟨C.X.keeps Z.F.keep, ?_⟩
    refine norm (s := s) (h := h) fun tk => ?_
    refine s_use0 Z (fun g' k1 k2 k3 => bisect_left_int (C.keeps k1) (by show A.depth + 1 + 1 < _; omega) hh (k2 _ _ (At.mono zc (le.trans le3))) Ic (by omega) (fun _ _ _ _ e st => by
      refine' binds_by e ?k1 (binds2 ((C.keeps k1).X.keeps st) ?kb ?kc)
      case k1 => k_is
      case kb => exact fun _ => rfl
      case kc => rfl)) ?_
    intro r h tk nw Y4 p95 le4 le4' Z
    refine hide ?_
    intro G9 hG9
    obtain ⟨t2, rfl⟩ := p95
    refine hG9 ?_
    clear hG9 G9
    refine n_sub fun tk => ?_
    rw [Ic.1, counts_get]
    first | refine hQ1 _ _ ?_ | refine hQ0 _ ?_
    refine SEnd.intro (ms := []) Z ⟨rfl, ?_⟩
    rw [List.range_succ, List.map_append]
    exact Iy.snoc
  intro cA D nD h tk ys ms Y le p99 Z
  refine hide ?_
  intro G9 hG9
  obtain ⟨rfl, Iy⟩ := p99
  refine hG9 ?_
  clear hG9 G9
  replace Kp := Kp.mono le
  replace pP := pP.mono le
  replace zk := zk.mono le
  replace zl := zl.mono le
  replace pM := pM.mono le
  replace zm := zm.mono le
  replace Dt := Dt.mono le
  replace pB := pB.mono le
  replace S := hup S le
  refine Z.freeze (l1 := []) fun Y le zD Z => ?_
  replace Kp := Kp.mono le
  replace pP := pP.mono le
  replace zk := zk.mono le
  replace zl := zl.mono le
  replace pM := pM.mono le
  replace zm := zm.mono le
  replace Dt := Dt.mono le
  replace pB := pB.mono le
  replace S := hup S le
  refine s_comp rfl rfl (by decide) (fun _ => rfl) ?_
  refine Call_ ?_
  refine' y_B C Z.F ?kg boot_range ?_
  case kg => k_is
  refine PyProof.Rows.callWith_type1 ?_
  refine spliced_more ?_
  refine n_ci fun tk => ?_
  refine spliced_none ?_
  refine s_range1 (n := 4) Z (by decide) fun r0 h u v t tk Hr Z => ?_
  refine s_compV (ms := []) Z hh (.range (n := 4) Hr rfl rfl) (by decide) (fun cA i ys ms Y => ms = [] ∧ IntsV ys ((List.range i).map fun k => (getI (tableX F (linesX 4)) (k : Nat)).getD 0)) (fun cA => ⟨rfl, IntsV.nil⟩) ?_ ?_
  · intro b' cA I D nD io i v ys mc ms Y2 h tk kb hXb kn hi p918 le p920 Z hio
    refine hide ?_
    intro G9 hG9
    obtain ⟨tv, rfl⟩ := p918
    obtain ⟨rfl, Iz⟩ := p920
    refine hG9 ?_
    clear hG9 G9
    have e0 : (0 + (i : Int) * 1) = (i : Int) := by omega
    rw [e0]
    refine hide ?_
    intro G9 hG9
    obtain ⟨hd, od, zd, hod⟩ := Dt.mono le
    refine hG9 ?_
    clear hG9 G9
    first | (refine turnS ?_; intro e P1 P0 hQ1 hQ0) | (refine floopS ?_; intro Ql hQl) | skip
    refine lot_name ?_
    try (refine loopS ?_; intro Ql hQl)
    refine wpAny_assign_Name ?_
    refine s_st Z fun h tk Z => ?_
    refine wpAny_tests_nil ?_
    refine ite_b (fun _ => ?_) (fun q => absurd q (by decide))
    refine MethodCall_ ?_
    refine y_CV Z (pB.mono le) ?_
    refine dictMethod (Z.at zd) hod PySem.F.slot_dict_get PySem.F.type_dict_get ?_
    refine callWith_method1 ?_
    refine spliced_more ?_
    refine y_L Z.F rfl ?_
    refine spliced_more ?_
    refine n_ci fun tk => ?_
    refine spliced_none ?_
    refine s_getI0 (k := (i : Int)) (Z.at zd) hd hod isI fun t tk => ?_
    first | refine hQ1 _ _ ?_ | refine hQ0 _ ?_
    refine SEnd.intro (ms := []) Z ⟨rfl, ?_⟩
    rw [List.range_succ, List.map_append]
    exact Iz.snoc
  intro cA D2 nD2 h tk ys2 ms Y le p99 Z
  refine hide ?_
  intro G9 hG9
  obtain ⟨rfl, Iz⟩ := p99
  refine hG9 ?_
  clear hG9 G9
  replace Kp := Kp.mono le
  replace pP := pP.mono le
  replace zk := zk.mono le
  replace zl := zl.mono le
  replace pM := pM.mono le
  replace zm := zm.mono le
  replace Dt := Dt.mono le
  replace pB := pB.mono le
  replace zD := zD.mono le
  replace S := hup S le
  refine Z.freeze (l1 := []) fun Y le zD2 Z => ?_
  replace Kp := Kp.mono le
  replace pP := pP.mono le
  replace zk := zk.mono le
  replace zl := zl.mono le
  replace pM := pM.mono le
  replace zm := zm.mono le
  replace Dt := Dt.mono le
  replace pB := pB.mono le
  replace zD := zD.mono le
  replace S := hup S le
  refine s_neS (d := intsD _) (n := 1) Z (Rd.list zD Iy.rd) (Rd.list zD2 Iz.rd) (intsD_shape _) (by omega) (eqv_ints1 _) (by show A.units + 3 + 64 < _; omega) ?_
  refine wpAny_truthy_bool ?_
  refine ite_b (fun q => absurd q (by decide)) (fun _ => ?_)
  first | refine norm (s := s) (h := h) (fun tk => ?_) | (refine hQn _ ?_; refine norm (s := s) (h := h) fun tk => ?_)
  first | refine wpAny_execs_nil ?_ | (refine hQn _ ?_; refine wpAny_execs_nil ?_)
  have hsb : Builtin.Int.intBits ss.sum ≤ 1200000 := by have := sum_bits ss hbs; omega
  first | refine exS ?_ | (refine hQn _ ?_; refine exS ?_)
  intro Q1 hQn hQr
  refine wpAny_For ?_
  refine List_ ?_
  refine spliced_more ?_
  refine n_ci fun t1 => ?_
  refine spliced_more ?_
  refine n_ci fun t2 => ?_
  refine spliced_more ?_
  refine wpAny_mono (Q := fun v s' => ∃ x t h tk, v = .int x t ∧ s' = { s with heap := h, toks := tk } ∧ St R b L h m [(111, tabObj ps), (142, tabObj pq)] Y ∧ Builtin.Int.intBits x ≤ 1200000) ?_ ?_ (fun _ _ x => x)
  · refine wpAny_IfExp ?_
    refine wpAny_isTrue_Compare1 ?_
    refine Call_ ?_
    refine' y_B C Z.F ?kg boot_abs ?_
    case kg => k_is
    refine PyProof.Rows.callWith_builtin1 ?_
    refine spliced_more ?_
    refine wpAny_BinOp ?_
    refine y_CV Z (aT S) ?_
    refine n_ci fun tk => ?_
    refine n_sub fun tk => ?_
    refine spliced_none ?_
    refine n_abs fun u tk => ?_
    refine n_ci fun tk => ?_
    refine gt_int ?_
    refine wpAny_truthy_bool ?_
    refine ite_b (fun q => ?_) (fun q => ?_)
    · first | refine norm (s := s) (h := h) (fun tk => ?_) | (refine hQn _ ?_; refine norm (s := s) (h := h) fun tk => ?_)
      refine y_CV Z (aT S) ?_
      exact ⟨_, _, _, _, rfl, rfl, Z, hsb⟩
    · first | refine norm (s := s) (h := h) (fun tk => ?_) | (refine hQn _ ?_; refine norm (s := s) (h := h) fun tk => ?_)
      refine n_ci fun tk => ?_
      exact ⟨3, _, _, _, rfl, rfl, Z, by decide⟩
  intro v s' p92
  refine hide ?_
  intro G9 hG9
  obtain ⟨x3, t3, h, tk, rfl, rfl, Z, hx3⟩ := p92
  refine hG9 ?_
  clear hG9 G9
  refine spliced_none ?_
  refine s_lst Z (Nat.le_of_ble_eq_true rfl) fun xA h Y le zx Z => ?_
  replace Kp := Kp.mono le
  replace pP := pP.mono le
  replace zk := zk.mono le
  replace zl := zl.mono le
  replace pM := pM.mono le
  replace zm := zm.mono le
  replace Dt := Dt.mono le
  replace pB := pB.mono le
  replace S := hup S le
  have hxs := three_bits hx3
  refine hide ?_
  intro G9 hG9
  obtain ⟨xv, zx, hIx⟩ : ∃ xv, At Y xA (lstO xv 0) ∧ IntsV xv [1, 2, x3] := ⟨_, zx, .of (.cons _ _ (.cons _ _ (.cons _ _ .nil)))⟩
  refine hG9 ?_
  clear hG9 G9
  refine s_loop (src_list hh (.inl ⟨_, _, rfl⟩) Z zx) (fun i m mu Y => mu = [(111, tabObj ps), (142, tabObj pq)] ∧ m (Str.ofString "lefts") = some (.ref la)) ?_ ?_ ?_
  · exact ⟨rfl, ml⟩
  · intro its i v m mu Y1 h tk le0 hi hv p911 Z
    refine hide ?_
    intro G9 hG9
    obtain ⟨rfl, ml⟩ := p911
    refine hG9 ?_
    clear hG9 G9
    refine hide ?_
    intro G9 hG9
    obtain ⟨x, tx, hx0, rfl⟩ := hIx.at' hv
    refine hG9 ?_
    clear hG9 G9
    have hxb := hxs x (List.mem_of_getElem? hx0)
    replace Kp := Kp.mono le0
    replace pP := pP.mono le0
    replace zk := zk.mono le0
    replace zl := zl.mono le0
    replace pM := pM.mono le0
    replace zm := zm.mono le0
    replace Dt := Dt.mono le0
    replace pB := pB.mono le0
    refine hide ?_
    intro G9 hG9
    obtain ⟨hd, od, zd, hod⟩ := id Dt
    refine hG9 ?_
    clear hG9 G9
    try (refine loopS ?_; intro Ql hQl)
    refine wpAny_assign_Name ?_
    refine s_st Z fun h tk Z => ?_
    first | refine exS ?_ | (refine hQn _ ?_; refine exS ?_)
    intro Q1 hQn hQr
    refine wpAny_Assign_Name ?_
    refine n_ci fun tk => ?_
    refine s_st Z fun h tk Z => ?_
    have Z : ∃ m t, St R b L h m ([(111, tabObj ps), (142, tabObj pq)] ++ its) Y1 ∧ m (Str.ofString "total") = some (.int 0 t) ∧ m (Str.ofString "x") = some (.int x tx) ∧ m (Str.ofString "lefts") = some (.ref la) := ⟨_, _, Z, rfl, rfl, (by exact ml)⟩
    refine hide ?_
    intro G9 hG9
    obtain ⟨m, t0, Z, mt, mx, ml⟩ := Z
    refine hG9 ?_
    clear hG9 G9
    first | refine exS ?_ | (refine hQn _ ?_; refine exS ?_)
    intro Q1 hQn hQr
    refine wpAny_For ?_
    refine MethodCall_ ?_
    refine y_CV Z pB ?_
    refine dictMethod (Z.at zd) hod PySem.F.slot_dict_items PySem.F.type_dict_items ?_
    refine callWith_method0 ?_
    refine s_items Z (Z.at zd) hd hod fun vw h hvw Z => ?_
    refine s_loop (src_items hh Z hvw Dt) (fun i m mu Y => mu = [(111, tabObj ps), (142, tabObj pq)] ++ its ∧ (∃ t, m (Str.ofString "total") = some (.int (wsum (gI x) ((tableX F (linesX 4)).take i)) t)) ∧ m (Str.ofString "x") = some (.int x tx) ∧ m (Str.ofString "lefts") = some (.ref la)) ?_ ?_ ?_
    · exact ⟨rfl, ⟨_, mt⟩, mx, ml⟩
    · intro its2 i2 v2 m mu Y2 h tk le2 hi2 p910 p911 Z
      refine hide ?_
      intro G9 hG9
      obtain ⟨T2, key, k, n, t2, rfl, hn, hk2, hT⟩ := p910
      obtain ⟨rfl, ⟨tt2, mt⟩, mx, ml⟩ := p911
      refine hG9 ?_
      clear hG9 G9
      refine hide ?_
      intro G9 hG9
      obtain ⟨kt, rfl⟩ := int_key hk2
      refine hG9 ?_
      clear hG9 G9
      refine hide ?_
      intro G9 hG9
      obtain ⟨b1, b2, b3, b4, hgi⟩ := term_bits ((table_ok F).2 _ (List.mem_of_getElem? hn)) hxb
      refine hG9 ?_
      clear hG9 G9
      refine loopS ?_
      intro Ql hQl
      refine s_unpack (vs := [.int k kt, .int n t2]) Z hT hh rfl rfl fun h tk Z => ?_
      refine assignInOrder_cons ?_
      try (refine loopS ?_; intro Ql hQl)
      refine wpAny_assign_Name ?_
      refine s_st Z fun h tk Z => ?_
      refine assignInOrder_cons ?_
      try (refine loopS ?_; intro Ql hQl)
      refine wpAny_assign_Name ?_
      refine s_st Z fun h tk Z => ?_
      refine assignInOrder_nil ?_
      first | refine exS ?_ | (refine hQn _ ?_; refine exS ?_)
      intro Q1 hQn hQr
      refine wpAny_Assign_Name ?_
      refine wpAny_BinOp ?_
      refine wpAny_BinOp ?_
      refine y_L Z.F mx ?_
      refine n_ci fun tk => ?_
      refine n_add fun tk => ?_
      refine y_L Z.F rfl ?_
      refine n_sub fun tk => ?_
      refine s_st Z fun h tk Z => ?_
      first | refine exS ?_ | (refine hQn _ ?_; refine exS ?_)
      intro Q1 hQn hQr
      refine wpAny_AugAssign_Name ?_
      refine y_LN Z.F mt ?_
      refine wpAny_BinOp ?_
      refine wpAny_BinOp ?_
      refine wpAny_BinOp ?_
      refine wpAny_BinOp ?_
      refine y_L Z.F rfl ?_
      refine y_L Z.F rfl ?_
      refine n_mul b1 fun tk => ?_
      refine wpAny_BinOp ?_
      refine y_L Z.F rfl ?_
      refine n_ci fun tk => ?_
      refine n_sub fun tk => ?_
      refine n_mul b2 fun tk => ?_
      refine wpAny_BinOp ?_
      refine y_L Z.F rfl ?_
      refine n_ci fun tk => ?_
      refine n_sub fun tk => ?_
      refine n_mul b3 fun tk => ?_
      refine wpAny_BinOp ?_
      refine y_L Z.F rfl ?_
      refine n_ci fun tk => ?_
      refine n_sub fun tk => ?_
      refine n_mul b4 fun tk => ?_
      refine n_iadd fun tk => ?_
      refine s_st Z fun h tk Z => ?_
      first | refine wpAny_execs_nil ?_ | (refine hQn _ ?_; refine wpAny_execs_nil ?_)
      rw [hgi, ← wsum_take hn] at Z
      refine hQl _ _ ?_
      exact STurn.next (mu := [(111, tabObj ps), (142, tabObj pq)] ++ its) Z le2 ⟨rfl, ⟨_, rfl⟩, (by exact mx), (by exact ml)⟩
    · intro m mu Y2 h tk le2 p96 Z
      refine hide ?_
      intro G9 hG9
      obtain ⟨rfl, ⟨tt2, mt⟩, mx, ml⟩ := p96
      refine hG9 ?_
      clear hG9 G9
      rw [List.take_length, ← h9F, total_eq hk h4] at mt
      replace Kp := Kp.mono le2
      replace pP := pP.mono le2
      replace zk := zk.mono le2
      replace zl := zl.mono le2
      replace pM := pM.mono le2
      replace zm := zm.mono le2
      first | refine exS ?_ | (refine hQn _ ?_; refine exS ?_)
      intro Q1 hQn hQr
      refine wpAny_If ?_
      refine wpAny_isTrue_Compare1 ?_
      refine y_L Z.F mt ?_
      refine Call_ ?_
      refine' y_K C Z.F ?kg ?_
      case kg => k_is
      refine' callWith_K C.X ?kc ?_
      case kc => k_is
      refine spliced_more ?_
      refine y_L Z.F mx ?_
      refine spliced_more ?_
      refine y_CV Z pP ?_
      refine spliced_more ?_
      refine y_L Z.F ml ?_
      refine spliced_more ?_
      refine y_CV Z pM ?_
      refine spliced_none ?_
      refine ⟨C.X.keeps Z.F.keep, ?_⟩
      refine norm (s := s) (h := h) fun tk => ?_
      refine s_use0 Z (fun g k1 k2 k3 => product_ok (lf := lfX ks ss) (mk := fun p => btAt ss.sum (lfX ks ss p)) (C.keeps k1) (by show A.depth + 1 + 1 < _; omega) hh k2 zk Kp (keptX_len hk (by omega)) (perm_lt (kept_stb hk h4).1) zl (fun p hp => Il.2 p _ (by rw [List.getElem?_map, List.getElem?_range hp]; rfl)) zm hmp hxb (fun p => lf_le4 h4)) ?_
      intro r h tk nw Y3 p95 le3 le3' Z
      refine hide ?_
      intro G9 hG9
      obtain ⟨t, rfl⟩ := p95
      refine hG9 ?_
      clear hG9 G9
      refine ne_int ?_
      rw [bne_self_eq_false]
      refine wpAny_truthy_bool ?_
      refine ite_b (fun q => absurd q (by decide)) (fun _ => ?_)
      first | refine norm (s := s) (h := h) (fun tk => ?_) | (refine hQn _ ?_; refine norm (s := s) (h := h) fun tk => ?_)
      first | refine wpAny_execs_nil ?_ | (refine hQn _ ?_; refine wpAny_execs_nil ?_)
      first | refine wpAny_execs_nil ?_ | (refine hQn _ ?_; refine wpAny_execs_nil ?_)
      refine hQl _ _ ?_
      exact STurn.next (mu := [(111, tabObj ps), (142, tabObj pq)]) Z (le0.trans (le2.trans le3)) ⟨rfl, (by exact ml)⟩
  intro m mu Y1 h tk le0 p96 Z
  refine hide ?_
  intro G9 hG9
  obtain ⟨rfl, ml⟩ := p96
  refine hG9 ?_
  clear hG9 G9
  first | refine wpAny_execs_cons ?_ | (refine hQn _ ?_; refine wpAny_execs_cons ?_)
  refine wpAny_Return_some ?_
  refine Constant_bool ?_
  first | refine hQd _ _ ?_ | refine hQr _ _ (hQd _ _ ?_)
  exact s_done Z fun fr _ _ => ⟨rfl, ⟨_, .head _⟩, ⟨_, .tail _ (.head _)⟩⟩
end
theorem ghost_stays {h₁ : Heap} {tabs : List (Addr × Addr)} : (ghostOf h₁ tabs).StaysIn h₁ := fun _ _ e => of_hideAll _ e
theorem good_end {c : ClaimW} {cl : Str → Option Addr} {mean : ExcName → Option Value} {args : List WData} {s₁ : Shared} {tabs : List (Addr × Addr)} {h' : Heap} {tk' : Nat} (hT : TabsAt tabs s₁.heap) (st : (ghostOf s₁.heap tabs).StaysIn h')
    (gr : ∀ q ∈ tabs, ∃ ps, h'.get? q.2 = some (tabObj ps)) (hr : ∀ x, c.raises args x = false) (hp : c.post args (.bool true) args = true) (hg : s₁.gens = #[]) : GoodWG c cl mean args s₁ (.ok (.ret (.bool true))) { s₁ with heap := h', toks := tk' } := by
  refine ⟨.inl ⟨_, _, [], rfl, hr, ReadsW.bool true, hp, fun _ => ⟨List.nodup_nil, fun _ hm => nomatch hm⟩⟩, ⟨fun b o e => ?_, fun b o e => ?_⟩, rfl, .of_eq hg⟩
  · by_cases hb : b ∈ tabs.map (·.2)
    · obtain ⟨q, hq, rfl⟩ := List.mem_map.mp hb
      have e2 := (hT q hq).2
      rw [e] at e2
      cases e2
      obtain ⟨ps, hP⟩ := gr q hq
      exact .inr (.inl ⟨((hT q hq).1.tab (hT q hq).2).isCodeTable, rfl, #[], ps, rfl, by rw [Array.empty_append]; exact hP⟩)
    · exact .inl (st b o (ghost_ne e hb))
  · by_cases hb : b ∈ tabs.map (·.2)
    · obtain ⟨q, hq, rfl⟩ := List.mem_map.mp hb
      obtain ⟨ps, hP⟩ := gr q hq
      exact ⟨_, hP⟩
    · exact ⟨o, st b o (ghost_ne e hb)⟩
theorem tabs_fresh {h₁ : Heap} {tabs : List (Addr × Addr)} (hT : TabsAt tabs h₁) {mu : Led} (h : ∀ p ∈ mu, p.1 ∈ tabs.map (·.2) ∧ p.2 = tabObj #[]) : Fresh (ghostOf h₁ tabs) h₁ mu := fun p hp => by
  obtain ⟨h1, h2⟩ := h p hp
  refine ⟨?_, hideAll_none _ h1⟩
  obtain ⟨q, hq, e⟩ := List.mem_map.mp h1
  rw [← e, h2]
  exact (hT q hq).2
end Mine
open Mine in
theorem PySem.Challenge.cw_ph0111_02_holds : PySem.Challenge.rw_ph0111_02.Holds := by
  refine Eq.mpr (congrArg OpenLaw.Holds Mine.rwq_eq) (Mine.hd ?_)
  k_fill
  intro w s₀ s₁ mg mb G Y fa o pm cd doc dV kV ho hd hcd hD hmg hg args vals as hpre hlay hrd hwl hlo
  have KX := km_in_of Y
  have hT8 := km_tabs_of Y
  have X := (Ground.X G).1
  have V := (Ground.X G).2
  refine Ground.open G ?_
  intro T B D TE TW
  try (refine guard_noD D (by decide +kernel) ?_; clear D)
  km_lay T hmg ho hd cd
  have e6 : mg (Str.ofString "law") = some (.ref 145) := mg_of KX T.g (by kernel_rfl)
  have hfa : some (Value.ref fa) = some (Value.ref 145) := hmg.symm.trans e6
  cases hfa
  clear ho hd hcd hD hmg
  wrow_args hpre hlay hrd hwl hlo
  rename_i xs hs hlay0 hL1 hr1 hl2 a4 a3 sl vs a0 hL ra w1 r0 hI hr hc1 hc2
  have hL2 := ghost_list hT9 hL
  obtain ⟨so, zs, hsc, sn, hsd⟩ := id hL2
  refine Mine.law_ok (W := ⟨w, topProg, _, _, mg, mb⟩) (A := callerA) (s := s₁) (g := ghostOf s₁.heap _) (R := fun a o => (ghostOf s₁.heap _).get? a = some o) ⟨ghost_K hT9 KX (by kernel_rfl), ghost_top hT9 T⟩ (by decide) (by decide) rfl (fun _ _ q => q) zs hsc hsd (IntsV.of hI) (by omega) (fun x hx => PyData.bits_item_of_ints (by assumption) hx) ghost_stays (tabs_fresh hT9 ?_) _ _ ?_
  · intro p hp
    simp only [List.mem_cons, List.not_mem_nil, or_false] at hp
    rcases hp with rfl | rfl <;> exact ⟨by decide, rfl⟩
  · rintro r h' tk' nw st' fr' ⟨rfl, ⟨p1, m1⟩, ⟨p2, m2⟩⟩
    refine good_end hT9 st' ?_ (fun _ => rfl) ?_ hg
    · intro q hq
      simp only [List.mem_cons, List.not_mem_nil, or_false] at hq
      rcases hq with rfl | rfl
      · exact ⟨_, (fr' _ m1).1⟩
      · exact ⟨_, (fr' _ m2).1⟩
    · first | rfl | wrow_post
