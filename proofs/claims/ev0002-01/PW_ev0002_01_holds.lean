import PyProof.Rows.All
import Wide.All
import OpenK.AllK
import Wide.FinOn
import PySem.Challenge.RW_ev0002_01
open PySem PySem.W PyProof.Rows
set_option Elab.async false
namespace Mine
set_option maxRecDepth 100000 in
set_option maxHeartbeats 8000000 in
open_top hd for PySem.Challenge.rw_ev0002_01
end Mine
set_option maxRecDepth 100000
open PySem.Calls
set_option linter.unusedVariables false
namespace Mine
abbrev Pg : Program := Challenge.rw_ev0002_01.row.prog
section
variable {prog : Program} {w : World} {A A₀ : Around} {E : Value → Shared → Prop} {s : Shared} {K : Frag} {C L : Addr} {h₀ base : Heap} {m mg mb : Str → Option Value} {news : List (Addr × Obj)} {p : Program} {loose : List Str} {mean : ExcName → Option Value} {Q : Value → Shared → Prop}
/-- a def is entered over a ledger that is empty: all that stands is ground -/
theorem code_defS {env : Env} {outer : List Env} {R : Result → Shared → Prop} {name qual : Str} {params : Arguments} {body : List Stmt} {scope : Scope} {dV kV doc pm cdv ct oc : Value} {an od : Option Addr} {osl : Array (Option Value)} {f : Addr} {args : Args} {binds : List (Str × Value)}
    (B : Below A₀ base outer h₀) (F : Fr h₀ L s.heap m) (X₀ : K.In h₀) (N : News h₀ L s.heap news) (T : Top p loose mean mg mb h₀) (hA : A.frames = some (env :: outer)) (hf : env.frame = some L) (hke : env.scope.kind = .function)
    (ho : K.lookup f = some ⟨oc, od, .func (fnOf name qual params body scope dV kV doc pm an cdv ct), osl⟩) (hcd : codeIn K cdv qual = true) (hroom : A.depth < recursionLimit)
    (hbind : BindsTo s (fnOf name qual params body scope dV kV doc pm an cdv ct) args binds) (hloc : ∀ y ∈ binds, scope.names.lookup y.1 = some .local)
    (h : ∀ g L' h₁, GSub s.heap g (news.map (·.1)) → Fr h₀ L g m → Fr g L' h₁ (fun y => binds.reverse.lookup y) → News g L' h₁ news → Below A base (env :: outer) g → K.In g → Top p loose mean mg mb g →
      wpAny (model prog w) (A.deeper (envOf qual scope L' f cdv)) (execs body (envOf qual scope L' f cdv))
        (fun fl s' => LeaveK h₀ L m g R (match fl with | .ret v => v | _ => .none) s')
        (fun e s' => wpAny (model prog w) (A.deeper (envOf qual scope L' f cdv)) (leaving (envOf qual scope L' f cdv) e) (fun _ s'' => R (.error e) s'') (fun e' s'' => R (.error e') s'') s')
        { s with heap := h₁, toks := s.toks + binds.length })
    (hco : scope.isCoroutine = false) (hgen : scope.isGenerator = false) (hk : scope.kind = .function)
    (hcell : ∀ x ∈ scope.names, x.2 ≠ .cell) : codeAny (model prog w) A (.call (.ref f) args) R s :=
  code_defG B F X₀ N T hA hf hke ho hcd hroom hbind hloc (fun g L' h₁ FG F' N' B' X' T' G => h g L' h₁ G FG F' N' B' X' T') hco hgen hk hcell

theorem rest_enter {env : Env} {outer : List Env} {R : Result → Shared → Prop} {name qual : Str} {params : Arguments} {body : List Stmt} {scope : Scope} {cl : List (Str × Addr)} {dV kV doc pm cdv ct oc : Value} {an od : Option Addr} {osl : Array (Option Value)} {f : Addr} {args : Args} {vs : List Value} {binds : Value → List (Str × Value)}
    (B : Below A₀ base outer h₀) (F : Fr h₀ L s.heap m) (X₀ : K.In h₀) (N : News h₀ L s.heap news) (T : Top p loose mean mg mb h₀) (hA : A.frames = some (env :: outer)) (hf : env.frame = some L) (hke : env.scope.kind = .function)
    (ho : K.lookup f = some ⟨oc, od, .func (fnX name qual params body scope cl dV kV doc pm an cdv ct), osl⟩) (hcd : codeIn K cdv qual = true) (hroom : A.depth < recursionLimit)
    (hsz : vs.length ≤ sizeLine)
    (hp : bindArgs (fnX name qual params body scope cl dV kV doc pm an cdv ct) args = (newTuple vs >>= fun t => pure (binds t)))
    (hloc : ∀ D, ∀ y ∈ binds D, scope.names.lookup y.1 = some .local)
    (h : ∀ D g L' h₁, (∀ p ∈ news, p.1 < D) → Fr h₀ L g m → Fr g L' h₁ (fun y => (binds (.ref D)).reverse.lookup y) → News g L' h₁ ((D, ({ cls := .type "tuple", data := .seq vs.toArray } : Obj)) :: news) → Below A base (env :: outer) g → K.In g → Top p loose mean mg mb g →
      wpAny (model prog w) (A.deeper (envX qual scope L' f cdv cl)) (execs body (envX qual scope L' f cdv cl))
        (fun fl s' => LeaveK h₀ L m g R (match fl with | .ret v => v | _ => .none) s')
        (fun e s' => wpAny (model prog w) (A.deeper (envX qual scope L' f cdv cl)) (leaving (envX qual scope L' f cdv cl) e) (fun _ s'' => R (.error e) s'') (fun e' s'' => R (.error e') s'') s')
        { s with heap := h₁, toks := s.toks + (binds (.ref D)).length })
    (hco : scope.isCoroutine = false) (hgen : scope.isGenerator = false) (hk : scope.kind = .function)
    (hcell : ∀ x ∈ scope.names, x.2 ≠ .cell) : codeAny (model prog w) A (.call (.ref f) args) R s := by
  refine codeAny_call_function (fd := fnX name qual params body scope cl dV kV doc pm an cdv ct) (body := body) hroom ((X₀.keeps F.keep) _ _ ho) rfl hco hgen rfl (codeRec_of (X₀.keeps F.keep) hcd) ?_
  rw [hp]
  refine wpAny_bind (newTuple_N F N (fun h' F' N' => wpAny_pure ?_) hsz)
  exact kp_frame (cl := cl) (s := { s with heap := h' }) B F' N' T.nolimit hA hf hke (hloc _) (fun g L' h₁ FG FL NG BG st => h _ g L' h₁ (fun p hp => Heap.lt_size (N p hp).1) FG FL NG BG (X₀.keeps st) (T.keeps st)) hcell hk

/-- as code_defS, of a def with cells -/
theorem cell_enterS {env : Env} {outer : List Env} {R : Result → Shared → Prop} {name qual : Str} {params : Arguments} {body : List Stmt} {scope : Scope} {dV kV doc pm cdv ct oc : Value} {an od : Option Addr} {osl : Array (Option Value)} {f : Addr} {args : Args} {binds : List (Str × Value)}
    (B : Below A₀ base outer h₀) (F : Fr h₀ L s.heap m) (X₀ : K.In h₀) (N : News h₀ L s.heap news) (T : Top p loose mean mg mb h₀) (hA : A.frames = some (env :: outer)) (hf : env.frame = some L) (hke : env.scope.kind = .function)
    (ho : K.lookup f = some ⟨oc, od, .func (fnOf name qual params body scope dV kV doc pm an cdv ct), osl⟩) (hcd : codeIn K cdv qual = true) (hroom : A.depth < recursionLimit)
    (hbind : BindsTo s (fnOf name qual params body scope dV kV doc pm an cdv ct) args binds) (hkind : (binds.all fun y => scope.names.lookup y.1 == some .local || scope.names.lookup y.1 == some .cell) = true)
    (hnd : ((cellsFrom 0 scope.names []).map (·.1)).Nodup)
    (h : ∀ g L' h₁ tk cells, GSub s.heap g (news.map (·.1)) → Fr h₀ L g m → Fr g L' h₁ (bindL (envOfC qual scope L' f cdv).kindOf binds fun _ => none) → News g L' h₁ (cells ++ news) →
      CellsAre (bindC (envOfC qual scope L' f cdv).kindOf binds fun _ => none) (cellsFrom (L' + 1) scope.names []) cells → Below A base (env :: outer) g → K.In g → Top p loose mean mg mb g → (∀ p ∈ news, p.1 < L') → (∀ b o, s.heap.get? b = some o → b < L') →
      wpAny (model prog w) (A.deeper (envOfC qual scope L' f cdv)) (execs body (envOfC qual scope L' f cdv))
        (fun fl s' => LeaveK h₀ L m g R (match fl with | .ret v => v | _ => .none) s')
        (fun e s' => wpAny (model prog w) (A.deeper (envOfC qual scope L' f cdv)) (leaving (envOfC qual scope L' f cdv) e) (fun _ s'' => R (.error e) s'') (fun e' s'' => R (.error e') s'') s')
        { s with heap := h₁, toks := tk })
    (hco : scope.isCoroutine = false) (hgen : scope.isGenerator = false) (hk : scope.kind = .function) : codeAny (model prog w) A (.call (.ref f) args) R s := by
  obtain ⟨FG, BG, st, lv⟩ := groundX (R := R) B F N hA hf hke
  refine codeAny_call_function hroom ((X₀.keeps F.keep) _ _ ho) rfl hco hgen rfl (codeRec_of (X₀.keeps F.keep) hcd) (hbind _ _ _ _ ?_)
  refine wpAny_newFunctionEnv_cells hk (kindsX hkind _) fun env' he s' x => ?_
  subst he
  refine ⟨(T.nolimit.keeps F.keep).keeps x.toInCall.keep, codeAny_func ?_⟩
  obtain ⟨h₁, tk, rfl, _⟩ := x.done
  have kp := x.toInCall.keep
  obtain ⟨cells, NC, Y⟩ := Cl.news (h₀ := s.heap) (Nat.le_refl _) fun n c hm => ⟨x.cell n c (lookup_of_mem_nodup (cellsFrom_names scope.names 0 (s.heap.objs.size + 1) [] [] rfl ▸ hnd) hm), x.above n c hm⟩
  have low : ∀ b o, s.heap.get? b = some o → b < s.heap.objs.size := fun b o e => Heap.lt_size e
  have F₁ : Fr (hideAll s.heap (news.map (·.1))) s.heap.objs.size h₁ (bindL (envOfC qual scope s.heap.objs.size f cdv).kindOf binds fun _ => none) :=
    { ns := x.toInCall.ns, keep := fun b o e => kp b o (of_hideAll _ e), above := Nat.le_of_eq (hideAll_size _ _) }
  have N₁ : News (hideAll s.heap (news.map (·.1))) s.heap.objs.size h₁ (cells ++ news) := fun q hq => by
    cases List.mem_append.mp hq with
    | inl hq =>
      have z := NC q hq
      refine ⟨z.1, z.2.1, ?_⟩
      cases e : (hideAll s.heap (news.map (·.1))).get? q.1 with
      | none => rfl
      | some o => exact absurd (of_hideAll _ e) (by rw [z.2.2]; simp)
    | inr hq =>
      have z := (N q hq).1
      exact ⟨kp _ _ z, Nat.ne_of_lt (low _ _ z), hideAll_none _ (List.mem_map_of_mem hq)⟩
  exact wpAny_mono (h _ _ h₁ tk cells (fun b o e n => hideAll_get _ e n) FG F₁ N₁ Y BG (X₀.keeps st) (T.keeps st) (fun q hq => low _ _ (N q hq).1) low) (fun fl s' hl => lv _ _ hl) fun _ _ y => y
end
end Mine
namespace Mine
abbrev instTok (dx : Addr) : Obj := { cls := .ref 59, dict := some dx, data := .plain }
abbrev tupOf (vs : List Value) (n : Nat := 0) : Obj := { cls := .type "tuple", data := .seq vs.toArray n }
abbrev dictTok (w : World) (tk : Tok) (tx : Addr) : Obj := dictOf [⟨PyData.keyHash w.params (Str.ofString "names"), .str (Str.ofString "names") tk, .ref tx⟩] 1

/-- values that are these texts -/
inductive SA : List Value → List Str → Prop
  | nil : SA [] []
  | cons {x : Str} {t : Tok} {vs : List Value} {xs : List Str} : SA vs xs → SA (.str x t :: vs) (x :: xs)
theorem SA.length {vs : List Value} {xs : List Str} (h : SA vs xs) : vs.length = xs.length := by
  induction h with
  | nil => rfl
  | cons _ ih => simp [ih]
theorem SA.append {vs ws : List Value} {xs ys : List Str} (h : SA vs xs) (k : SA ws ys) : SA (vs ++ ws) (xs ++ ys) := by
  induction h with
  | nil => exact k
  | cons _ ih => exact .cons ih
theorem SA.one {x : Str} {t : Tok} : SA [.str x t] [x] := .cons .nil
theorem SA.take {vs : List Value} {xs : List Str} (h : SA vs xs) : ∀ n, SA (vs.take n) (xs.take n) := by
  induction h with
  | nil => intro n; simp [SA.nil]
  | cons _ ih =>
    intro n
    cases n with
    | zero => exact .nil
    | succ n => exact .cons (ih n)
theorem SA.drop {vs : List Value} {xs : List Str} (h : SA vs xs) : ∀ n, SA (vs.drop n) (xs.drop n) := by
  induction h with
  | nil => intro n; simp [SA.nil]
  | cons h ih =>
    intro n
    cases n with
    | zero => exact .cons h
    | succ n => exact ih n
theorem SA.get {vs : List Value} {xs : List Str} (h : SA vs xs) : ∀ {i : Nat} {v : Value}, vs[i]? = some v → ∃ x t, xs[i]? = some x ∧ v = .str x t := by
  induction h with
  | nil => intro i v e; simp at e
  | cons _ ih =>
    intro i v e
    cases i with
    | zero => simp only [List.getElem?_cons_zero, Option.some.injEq] at e; exact ⟨_, _, rfl, e.symm⟩
    | succ i => simp only [List.getElem?_cons_succ] at e ⊢; exact ih e
theorem SA.at {vs : List Value} {xs : List Str} (h : SA vs xs) : ∀ {i : Nat} {x : Str}, xs[i]? = some x → ∃ t, vs[i]? = some (.str x t) := by
  induction h with
  | nil => intro i v e; simp at e
  | cons _ ih =>
    intro i v e
    cases i with
    | zero => simp only [List.getElem?_cons_zero, Option.some.injEq] at e; subst e; exact ⟨_, rfl⟩
    | succ i => simp only [List.getElem?_cons_succ] at e ⊢; exact ih e

/-- v is a token type with these names, as the heap stands -/
def TokH (w : World) (h : Heap) (v : Value) (xs : List Str) : Prop :=
  ∃ x dx tx tk vs n, v = .ref x ∧ h.get? x = some (instTok dx) ∧ h.get? dx = some (dictTok w tk tx) ∧ h.get? tx = some (tupOf vs n) ∧ SA vs xs
theorem TokH.mono {w : World} {h h' : Heap} {v : Value} {xs : List Str} (k : ∀ b o, h.get? b = some o → h'.get? b = some o) (t : TokH w h v xs) : TokH w h' v xs := by
  obtain ⟨x, dx, tx, tk, vs, n, e, a, b, c, d⟩ := t
  exact ⟨x, dx, tx, tk, vs, n, e, k _ _ a, k _ _ b, k _ _ c, d⟩

abbrev sTok : Str := Str.ofString "Token"
abbrev sStr : Str := Str.ofString "String"
abbrev sNum : Str := Str.ofString "Number"
abbrev sLit : Str := Str.ofString "Literal"

/-- v is one of the three token types of the top, or one of those that are told as made -/
def TokM (w : World) (made : List (Addr × Obj)) (v : Value) (xs : List Str) : Prop :=
  (v = .ref 65 ∧ xs = []) ∨ (v = .ref 69 ∧ xs = [sLit, sStr]) ∨ (v = .ref 73 ∧ xs = [sLit, sNum]) ∨
  ∃ x dx tx tk vs, v = .ref x ∧ (x, instTok dx) ∈ made ∧ (dx, dictTok w tk tx) ∈ made ∧ (tx, tupOf vs) ∈ made ∧ SA vs xs
theorem TokM.mono {w : World} {l l' : List (Addr × Obj)} {v : Value} {xs : List Str} (k : ∀ p ∈ l, p ∈ l') (t : TokM w l v xs) : TokM w l' v xs := by
  rcases t with t | t | t | ⟨x, dx, tx, tk, vs, e, a, b, c, d⟩
  · exact .inl t
  · exact .inr (.inl t)
  · exact .inr (.inr (.inl t))
  · exact .inr (.inr (.inr ⟨x, dx, tx, tk, vs, e, k _ a, k _ b, k _ c, d⟩))
theorem TokM.heap {w : World} {l : List (Addr × Obj)} {h : Heap} {v : Value} {xs : List Str} (X : (Mine.hd.heap_39 w.params).In h) (k : ∀ p ∈ l, h.get? p.1 = some p.2) (t : TokM w l v xs) : TokH w h v xs := by
  rcases t with ⟨rfl, rfl⟩ | ⟨rfl, rfl⟩ | ⟨rfl, rfl⟩ | ⟨x, dx, tx, tk, vs, e, a, b, c, d⟩
  · exact ⟨65, 64, 66, 254, _, _, rfl, X _ _ rfl, X _ _ rfl, X _ _ rfl, .nil⟩
  · exact ⟨69, 68, 70, 261, _, _, rfl, X _ _ rfl, X _ _ rfl, X _ _ rfl, .cons (.cons .nil)⟩
  · exact ⟨73, 72, 74, 268, _, _, rfl, X _ _ rfl, X _ _ rfl, X _ _ rfl, .cons (.cons .nil)⟩
  · exact ⟨x, dx, tx, tk, vs, 0, e, k _ a, k _ b, k _ c, d⟩

section
variable {prog : Program} {w : World} {A : Around} {E : Value → Shared → Prop} {s : Shared} {h₀ : Heap} {L a : Addr} {m : Str → Option Value} {news : List (Addr × Obj)}
theorem made_news {h g h' : Heap} {L' : Addr} {m' : Str → Option Value} {made : List (Addr × Obj)} (F : Fr h₀ L h m) (N : News h₀ L h news) (G : GSub h g []) (F' : Fr g L' h' m') (N' : News g L' h' made) :
    News h₀ L h' (made ++ news) := by
  have k : ∀ b o, h.get? b = some o → h'.get? b = some o := fun b o e => F'.keep _ _ (G b o e (by simp))
  intro p hp
  rcases List.mem_append.mp hp with hp | hp
  · have D := N' p hp
    refine ⟨D.1, fun e => ?_, ?_⟩
    · obtain ⟨oL, _, _, hL, _⟩ := F.ns
      have := G L oL hL (by simp)
      rw [← e, D.2.2] at this; cases this
    · cases q : h₀.get? p.1 with
      | none => rfl
      | some o => have := G _ _ (F.keep _ _ q) (by simp); rw [D.2.2] at this; cases this
  · have D := N p hp
    exact ⟨k _ _ D.1, D.2⟩
/-- what stands behind a call that changes nothing that stood -/
structure Aft (h₀ : Heap) (L : Addr) (m : Str → Option Value) (news : List (Addr × Obj)) (h h' : Heap) (made : List (Addr × Obj)) : Prop where
  F : Fr h₀ L h' m
  N : News h₀ L h' (made ++ news)
  fresh : ∀ p ∈ made, h.get? p.1 = none
  keep : ∀ b o, h.get? b = some o → h'.get? b = some o
theorem aft_end {h g h' : Heap} {L' : Addr} {m' : Str → Option Value} {made : List (Addr × Obj)} (F : Fr h₀ L h m) (N : News h₀ L h news) (G : GSub h g []) (F' : Fr g L' h' m') (N' : News g L' h' made) (kF : Fr h₀ L h' m) :
    Aft h₀ L m news h h' made :=
  { F := kF
    N := made_news F N G F' N'
    fresh := fun p hp => by
      cases q : h.get? p.1 with
      | none => rfl
      | some o => have := G _ _ q (by simp); rw [(N' p hp).2.2] at this; cases this
    keep := fun b o e => F'.keep _ _ (G b o e (by simp)) }
theorem InstAt.up {g h : Heap} {x C : Addr} {ox : Obj} {od : Option Obj} (I : InstAt g x ox C od) (k : ∀ b o, g.get? b = some o → h.get? b = some o) : InstAt h x ox C od := by
  obtain ⟨a, b, c, d⟩ := I
  refine ⟨k _ _ a, b, c, ?_⟩
  revert d
  cases ox.dict <;> cases od <;> first | exact fun h => h | exact fun h => k _ _ h
theorem star_heap {vs : List Value} {Q : List Value → Shared → Prop} (F : Fr h₀ L s.heap m) (N : News h₀ L s.heap news) (D : IsTup s.heap a vs.toArray)
    (hz : vs.length ≤ sizeLine) (h : ∀ h', Fr h₀ L h' m → News h₀ L h' news → (∀ b o, s.heap.get? b = some o → h'.get? b = some o) → Q vs { s with heap := h' }) : StarOf (model prog w) A E (.ref a) Q s := by
  obtain ⟨o, D, hc, n, hd⟩ := D
  have hT' : s.TypeIs (.ref a) "tuple" := ⟨o, D, hc⟩
  have z : wpAny (model prog w) A (collect (.ref a)) Q E s := by
    refine wpAny_collect_seq a (.inr rfl) D hc hd (fun h' hk => h h' (F.keeps hk) (fun p hp => ⟨hk _ _ (N p hp).1, (N p hp).2⟩) hk) (by rw [List.size_toArray]; exact hz)
  unfold StarOf notIterableAtAll
  exact wpAny_bind (wpAny_specialOf hT' PySem.F.slot_tuple_iter.lookup (wpAny_pure ⟨rfl, z⟩))
theorem tup_truthy {vs : List Value} {n : Nat} {Q : Bool → Shared → Prop} (F : Fr h₀ L s.heap m) (D : h₀.get? a = some (tupOf vs n)) (hz : vs.length ≤ 1000)
    (h : Q (!vs.isEmpty) { s with toks := s.toks + 1 + 1 }) : wpAny (model prog w) A (truthy (.ref a)) Q E s := by
  refine ktl_truthy (F.keep _ _ D) (by rw [List.size_toArray]; omega) ?_
  rw [List.isEmpty_toArray]
  exact h
end
section
variable {M : Model} {A : Around} {E : Value → Shared → Prop} {s : Shared} {K : Frag} {env : Env} {pos p : Pos} {f : Value} {first : List Value} {Q : Value → Shared → Prop} {h₀ : Heap} {e e2 : Expr} {rest : List Expr}
theorem evalArgs_two {x y : Bool × Sem Value} {more : List (Bool × Sem Value)} {Q : Args → Shared → Prop}
    (h : wpAny M A (spliced (x :: y :: more)) (fun vs s' => Q ⟨vs, []⟩ s') E s) : wpAny M A (evalArgs f true (x :: y :: more) []) Q E s := by
  unfold evalArgs
  obtain ⟨b, x⟩ := x
  cases b
  all_goals (
    show wpAny M A (spliced _ >>= _) Q E s
    refine wpAny_bind (wpAny_mono h (fun vs s' h' => ?_) fun _ _ x => x)
    refine wpAny_holding ?_
    exact wpAny_bind (wpAny_pure (wpAny_bind (wpAny_pure (wpAny_pure h')))))
theorem callWith_S3 (_X : K.In h₀) (hk : keepIn K f = true) (h : wpAny M A (spliced (backTo pos (starEach (.Starred e p :: e2 :: rest) env))) (fun vs s₁ => K.In s₁.heap ∧ wpAny M A (call f (first ++ vs)) Q E s₁) E s)
    (he : ∃ y more, backTo pos (starEach (e2 :: rest) env) = y :: more := by exact ⟨_, _, rfl⟩) :
    wpAny M A (callWith pos f first (backTo pos (starEach (.Starred e p :: e2 :: rest) env)) []) Q E s := by
  obtain ⟨y, more, he⟩ := he
  have e1 : backTo pos (starEach (.Starred e p :: e2 :: rest) env) = (true, (do let v ← eval e env; standAt pos; pure v)) :: y :: more := by
    rw [← he]; rfl
  rw [e1] at h ⊢
  exact ks_call rfl (keeps_K hk) (evalArgs_two h)
end
end Mine
namespace Mine
namespace AE
theorem notType : (Value.type "AttributeError" == Value.type "type") = false := by decide +kernel
theorem canNew : (((Manifest.find? "AttributeError").bind (·.mro.findSome? fun (t : String) => (Manifest.find? t).bind fun b => if b.noNew then some true else if b.attrs.any (·.1 == "__new__") then some false else none)).getD false) = false := by decide +kernel
theorem typeCall (rest : List Value) : checkTypeCall "AttributeError" ⟨rest, []⟩ = pure () := by kernel_rfl
theorem mroFast : (fastBuiltinMro "AttributeError").map (·.isEmpty) = some false := by kernel_rfl
theorem madeBy : Bind.madeBy (.type "AttributeError") = pure (some "Exception.__new__") := by kernel_rfl
theorem newCheck (rest : List Value) : checkBuiltinCall "Exception.__new__" ⟨.type "AttributeError" :: rest, []⟩ = pure () := by kernel_rfl
theorem newEntry : entryFor table "Exception.__new__" = some Builtin.«BaseException.__new__» := entryFor_alias (id' := "BaseException.__new__") (by kernel_rfl) (by first | rfl | (unfold String.splitOn; simp +decide [String.splitOnAux])) (by decide +kernel) (by kernel_rfl)
theorem newPlain : plainId "Exception.__new__" = true := by decide +kernel
theorem newEnds : "Exception.__new__".endsWith ".__new__" = true := by decide +kernel
theorem subOwner : isSubtype (.type "AttributeError") (.type ("Exception.__new__".dropRight 8)) = pure true := by rw [isSubtype_type]; kernel_rfl
theorem madeHere : Bind.madeHere "BaseException.__new__" (.type "AttributeError") = pure () := by kernel_rfl
theorem self : isSubtype (.type "AttributeError") (.type "AttributeError") = pure true := by rw [isSubtype_type]; kernel_rfl
theorem init : Slot "AttributeError" "__init__" "AttributeError.__init__" := .of (owner := "AttributeError") (n := "__init__") (by rw [typeLookup_type, builtinLookup_eq_fast]; kernel_rfl) (by decide +kernel) (by decide +kernel) (by decide +kernel)
    (by first | exact .inl (by decide +kernel) | exact .inr (by decide +kernel)) (by rw [isSubtype_type]; kernel_rfl)
theorem initEntry : entryFor table "AttributeError.__init__" = some Builtin.«AttributeError.__init__» := entryFor_of_fast (by kernel_rfl)
theorem initKind : builtinKind "AttributeError.__init__" = some .slot := by decide +kernel
theorem initSplit : splitId "AttributeError.__init__" = some ("AttributeError", "__init__") := by decide +kernel
theorem initArgs (e : Value) (rest : List Value) : argsOk "AttributeError.__init__" ⟨e :: rest, []⟩ := by unfold argsOk; kernel_rfl
theorem base : isSubtype (.type "AttributeError") (.type "BaseException") = pure true := by rw [isSubtype_type]; kernel_rfl
theorem metaType : (Value.type ((Manifest.find? "AttributeError").elim "type" (·.metatype)) == Value.type "type") = true := by decide +kernel
theorem mro : ∃ l, mroOf (.type "AttributeError") = pure l ∧ l.isEmpty = false := by
  have h := mroFast
  rw [mroOf_type]
  cases hm : fastBuiltinMro "AttributeError" with
  | none => rw [hm] at h; cases h
  | some l => rw [hm] at h; exact ⟨l, rfl, by simpa using h⟩
section
variable {prog : Program} {w : World} {A : Around} {E : Value → Shared → Prop} {s : Shared}
theorem new_exc {rest : List Value} {Q : Value → Shared → Prop}
    (h : Q (.ref (s.heap.push { cls := .type "tuple", data := .seq rest.toArray }).objs.size) { s with heap := (s.heap.push { cls := .type "tuple", data := .seq rest.toArray }).push { cls := .type "AttributeError", data := .fields #[.ref s.heap.objs.size, .none, .none, .none, .bool false, .none, rawInt 0, rawInt 0] } }) (hrest : rest.length ≤ sizeLine := by size_fits) :
    wpAny (model prog w) A (call (.builtin "Exception.__new__") (.type "AttributeError" :: rest)) Q E s := by
  refine PyProof.Rows.call_builtin_at newPlain newEntry (newCheck rest) ?_
  unfold Builtin.«BaseException.__new__»
  refine PyProof.Rows.wpAt_bind (PyProof.Rows.wpAt_owner rfl newEnds (PyProof.Rows.wpAt_of_any ?_))
  dsimp only
  refine wpAny_bind (m := isType _) (wpAny_of_eq (a := true) rfl ?_)
  simp only [Bool.not_true, Bool.false_eq_true, if_false]
  refine wpAny_bind (wpAny_of_eq subOwner ?_)
  simp only [Bool.not_true, Bool.false_eq_true, if_false]
  refine wpAny_bind (wpAny_of_eq madeHere ?_)
  refine wpAny_bind (wpAny_of_eq (a := 2) ?own ?_)
  case own =>
    show (do
      if ← isSubtype (.type "AttributeError") (.type "AttributeError") then return 2
      if ← isSubtype (.type "AttributeError") (.type "NameError") then return 1
      return 0 : Sem Nat) = pure 2
    simp only [self, pure_bind, if_true]
  unfold newTuple
  refine wpAny_bind (wpAny_newObj_type (wpAny_bind (wpAny_newObj_type (wpAny_pure ⟨_, rfl, ?_⟩) (by size_fits))) (by show rest.toArray.size ≤ sizeLine; rw [List.size_toArray]; exact hrest))
  first
    | exact h
    | simpa using h
abbrev aeObj (t : Addr) : Obj := { cls := .type "AttributeError", data := .fields #[.ref t, .none, .none, .none, .bool false, .none, rawInt 0, rawInt 0] }
theorem put_ref {e t0 t1 : Addr} {Q : Unit → Shared → Prop} (he : s.heap.get? e = some (aeObj t0))
    (h : ∀ h', h'.get? e = some (aeObj t1) → (∀ b o, b ≠ e → s.heap.get? b = some o → h'.get? b = some o) → Q () { s with heap := h' }) :
    wpAny (model prog w) A (Builtin.Exceptions.excPut (.ref e) 0 (.ref t1)) Q E s := by
  unfold Builtin.Exceptions.excPut
  refine wpAny_bind (wpAny_field (x := .ref t0) he rfl rfl (wpAny_bind (wpAny_setField he rfl (Nat.le_of_ble_eq_true rfl) ?_)))
  refine wpAny_letGo (h _ ?_ fun b o hb q => ?_)
  · exact Heap.get?_update_self _ he rfl
  · exact (Heap.get?_update_other _ _ (Ne.symm hb)).trans q
theorem put_unset {e t : Addr} {i : Nat} {Q : Unit → Shared → Prop} (hi : i = 6 ∨ i = 7) (he : s.heap.get? e = some (aeObj t))
    (h : ∀ h', h'.get? e = some (aeObj t) → (∀ b o, b ≠ e → s.heap.get? b = some o → h'.get? b = some o) → Q () { s with heap := h' }) :
    wpAny (model prog w) A (Builtin.Exceptions.excPut (.ref e) i Builtin.Exceptions.excUnset) Q E s := by
  unfold Builtin.Exceptions.excPut
  have hx : (#[.ref t, .none, .none, .none, .bool false, .none, rawInt 0, rawInt 0] : Array Value)[i]? = some (rawInt 0) := by rcases hi with rfl | rfl <;> rfl
  have hs : i < (#[.ref t, .none, .none, .none, .bool false, .none, rawInt 0, rawInt 0] : Array Value).size := by rcases hi with rfl | rfl <;> exact Nat.le_of_ble_eq_true rfl
  refine wpAny_bind (wpAny_field he rfl hx (wpAny_bind (wpAny_setField he rfl hs ?_)))
  refine wpAny_pure (h _ ?_ fun b o hb q => ?_)
  · refine (Heap.get?_update_self _ he (Obj.isFreed_of_fields (Obj.data_mapFields rfl _))).trans ?_
    rcases hi with rfl | rfl <;> rfl
  · exact (Heap.get?_update_other _ _ (Ne.symm hb)).trans q
theorem set_own {e t : Addr} {Q : Unit → Shared → Prop} (he : s.heap.get? e = some (aeObj t))
    (h : ∀ h', h'.get? e = some (aeObj t) → (∀ b o, b ≠ e → s.heap.get? b = some o → h'.get? b = some o) → Q () { s with heap := h' }) :
    wpAny (model prog w) A (Builtin.Exceptions.excSetOwn (.ref e) [Builtin.Exceptions.excUnset, Builtin.Exceptions.excUnset]) Q E s := by
  unfold Builtin.Exceptions.excSetOwn
  dsimp only
  refine wpAny_bind (wpAny_fieldsOf he rfl ?_)
  show wpAny _ _ (if (false : Bool) = true then _ else _) _ _ _
  rw [if_neg Bool.false_ne_true]
  refine wpAny_bind ?_
  simp only [List.zipIdx_cons, List.zipIdx_nil, List.forIn_cons, List.forIn_nil]
  refine wpAny_bind (wpAny_bind (put_unset (.inl rfl) he fun h₁ e₁ k₁ => ?_))
  refine wpAny_pure ?_
  dsimp only
  refine wpAny_bind (wpAny_bind (put_unset (s := { s with heap := h₁ }) (.inr rfl) e₁ fun h₂ e₂ k₂ => ?_))
  refine wpAny_pure ?_
  dsimp only
  exact wpAny_pure (wpAny_pure (h h₂ e₂ fun b o hb q => k₂ b o hb (k₁ b o hb q)))
theorem isI {M : Model} {A : Around} {E : Value → Shared → Prop} {s : Shared} {e t0 : Addr} {Q : Bool → Shared → Prop} (he : s.heap.get? e = some (aeObj t0)) (q : Q true s) : wpAny M A (isInstance (.ref e) (.type "AttributeError")) Q E s := by
  have hT : s.TypeIs (.ref e) "AttributeError" := ⟨aeObj t0, he, rfl⟩
  exact wpAny_isInstance hT self q
set_option maxHeartbeats 400000 in
theorem init_exc {e t0 : Addr} {rest : List Value} {Q : Value → Shared → Prop} (he : s.heap.get? e = some (aeObj t0))
    (h : ∀ h' t1, h'.get? e = some (aeObj t1) → (∀ b o, b ≠ e → s.heap.get? b = some o → h'.get? b = some o) → Q .none { s with heap := h' }) (hrest : rest.length ≤ sizeLine := by size_fits) :
    wpAny (model prog w) A (call (.builtin "AttributeError.__init__") (.ref e :: rest)) Q E s := by
  have hT : s.TypeIs (.ref e) "AttributeError" := ⟨_, he, rfl⟩
  have hI : Looks (model prog w) s.heap (isInstance (.ref e) (.type "AttributeError")) true := fun A Q E s' k q => isI (k _ _ he) q
  refine wpAny_call (codeAny_call_builtin init.plain initEntry (@check_slot (model prog w) _ _ _ "AttributeError.__init__" "AttributeError" "__init__" (.ref e) rest [] _ initKind initSplit hI (initArgs _ _) ?_))
  unfold Builtin.«AttributeError.__init__» Builtin.Exceptions.excInitWithMembers
  dsimp only
  unfold newTuple
  refine wpAny_bind (wpAny_newObj_type ?_ (by show rest.toArray.size ≤ sizeLine; rw [List.size_toArray]; exact hrest))
  have he₁ := Heap.get?_push_of_some (h := s.heap) { cls := .type "tuple", data := .seq rest.toArray } he
  refine wpAny_bind (put_ref he₁ fun h₂ e₂ k₂ => ?_)
  refine wpAny_bind (wpAny_pure ?_)
  refine wpAny_bind (set_own (s := { s with heap := h₂ }) e₂ fun h₃ e₃ k₃ => ?_)
  exact wpAny_pure (h h₃ _ e₃ fun b o hb q => k₃ b o hb (k₂ b o hb (Heap.get?_push_of_some _ q)))
structure NewAE (h h' : Heap) (e : Addr) : Prop where
  keeps : ∀ b o, h.get? b = some o → h'.get? b = some o
  new : h.get? e = none
  there : ∃ t, h'.get? e = some (aeObj t)
set_option maxHeartbeats 400000 in
theorem call_ae {rest : List Value} {Q : Value → Shared → Prop}
    (h : ∀ h' e, NewAE s.heap h' e → Q (.ref e) { s with heap := h' }) (hrest : rest.length ≤ sizeLine := by size_fits) :
    wpAny (model prog w) A (call (.type "AttributeError") rest) Q E s := by
  refine wpAny_call (codeAny_of_tree ?_)
  show wpAny _ _ (callAny (.type "AttributeError") ⟨rest, []⟩) _ _ s
  simp only [callAny]
  refine wpAny_pure ⟨Code.quiet_builtin _ (by decide +kernel), codeAny_builtin entry_type_call ?_⟩
  rw [Around.under_plain (weight_type_call "AttributeError" _ _) (by first | rfl | kernel_rfl | decide +kernel)]
  unfold Builtin.«type.__call__»
  dsimp only
  rw [if_neg (by rw [notType]; exact Bool.false_ne_true), if_neg (by rw [canNew]; exact Bool.false_ne_true)]
  obtain ⟨l, hl, hle⟩ := mro
  refine wpAny_bind (wpAny_of_eq (typeCall rest) (wpAny_bind (wpAny_of_eq hl ?_)))
  rw [if_neg (by rw [hle]; exact Bool.false_ne_true)]
  refine wpAny_bind (wpAny_of_eq madeBy ?_)
  dsimp only
  refine wpAny_bind (wpAny_pure (wpAny_bind (wpAny_holding (new_exc ?_ hrest))))
  have hT : ({ s with heap := (s.heap.push { cls := .type "tuple", data := .seq rest.toArray }).push (aeObj s.heap.objs.size) } : Shared).TypeIs (.ref (s.heap.push { cls := .type "tuple", data := .seq rest.toArray }).objs.size) "AttributeError" := ⟨_, Heap.get?_push_size _ rfl, rfl⟩
  refine wpAny_bind (wpAny_isInstance hT self ?_)
  simp only [Bool.not_true, Bool.false_eq_true, if_false]
  refine wpAny_bind (wpAny_holding (wpAny_callSpecial?_slot (name := Str.ofString "__init__") hT init
    (init_exc (t0 := s.heap.objs.size) (Heap.get?_push_size _ rfl) (fun h' t1 e1 k1 => ?_) hrest)))
  dsimp only
  rw [if_neg (by simp)]
  refine wpAny_pure (h _ _ ⟨fun b o hb => ?_, Heap.get?_none_of_le (by simp), _, e1⟩)
  refine k1 b o (Nat.ne_of_lt (Nat.lt_of_lt_of_le (Heap.lt_size hb) (by simp))) ?_
  exact Heap.get?_push_of_some _ (Heap.get?_push_of_some _ hb)
end

def RaisableA (E : Value → Shared → Prop) (v : Value) (s₁ : Shared) : Prop :=
  ∃ a t, v = .ref a ∧ s₁.heap.get? a = some (aeObj t) ∧ E (.ref a) s₁
section
variable {M : Model} {A : Around} {E : Value → Shared → Prop} {s : Shared} {env : Env}
theorem Raise_ae {e : Expr} {pos : Pos} {Q : Flow → Shared → Prop} (hh : A.handled = none)
    (h : wpAny M A (eval e env) (RaisableA E) E s) : wpAny M A (exec (.Raise (some e) none pos) env) Q E s := by
  show wpAny M A (do standAt pos; raiseStmt env (some (do let v ← eval e env; standAt pos; pure v)) none) Q E s
  refine wpAny_bind (wpAny_standAt ?_)
  unfold raiseStmt
  dsimp only
  refine wpAny_bind (wpAny_bind (wpAny_mono h (fun v s₁ h₁ => wpAny_bind (wpAny_standAt (wpAny_pure ?_))) fun _ _ x => x))
  obtain ⟨a, t, rfl, ha, hE⟩ := h₁
  have hT : s₁.TypeIs (.ref a) "AttributeError" := ⟨_, ha, rfl⟩
  have hnt : ∀ {Q' : Bool → Shared → Prop}, Q' false s₁ → wpAny M A (isType (.ref a)) Q' E s₁ := by
    intro Q' hq
    simp only [isType, loadHead]
    exact wpAny_bind (wpAny_loadPart ha (wpAny_pure hq))
  refine wpAny_bind (wpAny_pure ?_)
  dsimp only
  refine wpAny_bind (wpAny_holding ?_)
  unfold excFromValue isExcClass
  refine wpAny_bind (wpAny_bind (hnt ?_))
  simp only [Bool.false_eq_true, if_false]
  refine wpAny_pure ?_
  simp only [Bool.false_eq_true, if_false]
  refine wpAny_bind (wpAny_isInstance hT base ?_)
  simp only [if_true]
  refine wpAny_pure ?_
  refine wpAny_bind (hnt ?_)
  simp only [Bool.false_eq_true, if_false]
  unfold raisedInstance
  refine wpAny_bind (wpAny_bind (wpAny_typeOf hT (wpAny_bind (m := typeOf (.type "AttributeError")) (wpAny_pure ?_))))
  rw [if_pos metaType]
  refine wpAny_pure ?_
  unfold setFlight raiseNew
  refine wpAny_bind (wpAny_bind (wpAny_field (x := .none) ha rfl rfl ?_))
  rw [if_neg (by decide)]
  refine wpAny_pure (wpAny_bind (wpAny_handled ?_))
  rw [hh]
  first
    | exact wpAny_throw hE
    | exact wpAny_bind (wpAny_pure (wpAny_throw hE))
end
section
variable {M : Model} {A : Around} {E : Value → Shared → Prop} {s' : Shared} {base g g₂ h : Heap} {outer : List Env} {L a e : Addr} {m : Str → Option Value} {name : Str} {scope : Scope} {cd : Value} {Q : Unit → Shared → Prop} {news : List (Addr × Obj)}
/-- the def that raised is left -/
theorem leave_ae (K : Below A base outer g) (hx : NewAE h s'.heap e) (F : Fr g L h m)
    (hQ : ∀ h', RaisedSN base g outer e (.type "AttributeError") [] h' → g.UpToSlots h' → Q () { s' with heap := h' }) (hk : scope.kind = .function := by rfl) :
    wpAny M (A.deeper (envOf name scope L a cd)) (leaving (envOf name scope L a cd) (.ref e)) Q E s' := by
  have K' := K.push (name := name) (a := a) (cd := cd) F hk
  have hin : ∀ env ∈ (envOf name scope L a cd :: outer), ∀ b, env.frame = some b → b ∈ (envOf name scope L a cd :: outer).filterMap (·.frame) := fun env he b hb => List.mem_filterMap.mpr ⟨env, he, hb⟩
  have st : base.StaysIn (hideAll h ((envOf name scope L a cd :: outer).filterMap (·.frame))) := fun b o q => hideAll_get _ (K'.stays b o q) fun hm => by
    rw [(K'.frames.mem hm).1] at q; cases q
  have sg : ∀ b o, g.get? b = some o → b ∉ outer.filterMap (·.frame) → (hideAll h ((envOf name scope L a cd :: outer).filterMap (·.frame))).get? b = some o := fun b o q nm => hideAll_get _ (F.keep b o q) fun hm => by
    rcases kts_mem hm with z | z
    · rw [z, kts_self F] at q
      cases q
    · exact nm z
  obtain ⟨t, he⟩ := hx.there
  have hen : (hideAll h ((envOf name scope L a cd :: outer).filterMap (·.frame))).get? e = none := by
    cases q : (hideAll h ((envOf name scope L a cd :: outer).filterMap (·.frame))).get? e with
    | none => rfl
    | some o => have := of_hideAll _ q; rw [hx.new] at this; cases this
  refine wpAny_leaving_firstW (a0 := .ref t) K'.stack ((funFrames_hide K'.frames hin).of_keeps fun b o hb _ => ⟨o, hx.keeps b o hb, rfl⟩) rfl he (fun b o hb => hx.keeps b o (of_hideAll _ hb)) hen rfl rfl rfl fun h' hL => ?_
  obtain ⟨k1, ⟨_, _, k2⟩, k3, k4⟩ := hL
  have R : RaisedSN base g outer e (.type "AttributeError") [] h' := ⟨_, .ref t, st, sg, (fun q hq => nomatch hq), k1, hen, k2, k3⟩
  exact hQ h' R (((Heap.UpToSlots.of_keeps F.keep).trans (Heap.UpToSlots.of_keeps hx.keeps)).trans k4)
end
end AE
end Mine
namespace Mine
local macro_rules | `(tactic| k_all) => `(tactic| (exact fun p hp => Nat.ne_of_lt (ktn_ltOf (by assumption) p hp)))
set_option maxHeartbeats 4000000 in
theorem new_spec0 (w : World) (p : Program) (loose : List Str) (mean : ExcName → Option Value) (mg mb : Str → Option Value)
   (dp un : Nat) (gd : Option (List Code)) (cn : Str) (cs : Scope) (a : Addr) (ccd : Value) (cl : List (Str × Addr)) (outer : List Env) (A₀ : Around) (base h₀ : Heap) (L : Addr) (m : Str → Option Value) (s : Shared)
   (Q E : Value → Shared → Prop) (vs : List Value) (news : List (Addr × Obj))
   (B : Below A₀ base outer h₀) (F : Fr h₀ L s.heap m) (X : (Mine.hd.heap_39 w.params).In h₀) (N : News h₀ L s.heap news)
   (T : Top p loose mean mg mb h₀) (hk : cs.kind = .function)
   (hd : dp + 4 < recursionLimit) (hu : un + 20 < cLine) (hsz : vs.length ≤ 1000)
   (hret : ∀ x dx tx tk h' tk', (∀ p ∈ news, p.1 < dx) → dx < x → x < tx → Fr h₀ L h' m → News h₀ L h' ((tx, tupOf vs) :: (x, instTok dx) :: (dx, dictTok w tk tx) :: news) → Q (.ref x) { s with heap := h', toks := tk' }) :
    wpAny (model Pg w) (ktrTop dp un gd cn cs L a ccd cl outer) (call (.ref 59) vs) Q E s := by
  have kd : (Mine.hd.heap_39, Challenge.rw_ev0002_01) = (Mine.hd.heap_39, Challenge.rw_ev0002_01) := by (k_fill; rfl)
  clear kd
  k_dflt (refine' call_cls ?k1 ?k2 ?k3 ?k4 ?k5 ?k6 ?_; (case k1 => k_asm); (case k2 => k_asm); (case k3 => k_asm); (case k4 => k_is); (case k5 => k_is); (case k6 => k_is); k_whole)
  intro x dx h₁ F₁ N₁ l1 l2
  replace l2 := ltN l2
  have l1' := allLt_of l1
  k_dflt ((refine' rest_enter (vs := vs) (binds := fun D => [(Str.ofString "self", Value.ref x), (Str.ofString "names", D)]) ?k1 ?k2 ?k3 ?k4 ?k5 ?kA ?kF ?kK ?k6 ?k7 ?k8 ?kV ?kP ?kB ?_ ?c2 ?c3 ?c4 ?c5; (case kA => exact rfl); (case kF => exact rfl); (case kK => exact hk); (case k1 => k_asm); (case k2 => k_asm); (case k3 => k_asm); (case k4 => k_asm); (case k5 => k_asm); (case k6 => k_is); (case k7 => k_is); (case k8 => ktr_room); (case kV => (rw [sizeLine_eq]; omega)); (case kP => cases vs <;> exact rfl); (case kB => exact fun _ => locs rfl); (case c5 => decide); (case c2 => exact rfl); (case c3 => exact rfl); (case c4 => exact rfl); k_whole))
  intro D' g' L' h' l3 FG' F' N' B' X' T'
  replace l3 := allLt_of l3
  simp only [AllLt] at l3
  dsimp only
  k_unmd
  k_fold
  k_steps
  exact hret _ _ _ _ _ _ l1 l2 l3.1 (by k_asm) (by k_asm)

theorem all_news {h₀ h : Heap} {L : Addr} (h1 : True) : ∃ l, News h₀ L h l ∧ ∀ b o, h.get? b = some o → b ≠ L → h₀.get? b = none → (b, o) ∈ l := by
  refine ⟨ownOf h₀ ((List.range h.objs.size).filter (· != L)) h, news_ownOf (by simp), fun b o e hb hn => mem_ownOf ?_ hn e⟩
  rw [List.mem_filter]
  exact ⟨List.mem_range.mpr (Heap.lt_size e), by simpa using hb⟩

set_option maxHeartbeats 4000000 in
theorem new_spec (w : World) (p : Program) (loose : List Str) (mean : ExcName → Option Value) (mg mb : Str → Option Value)
   (dp un : Nat) (gd : Option (List Code)) (cn : Str) (cs : Scope) (a : Addr) (ccd : Value) (cl : List (Str × Addr)) (outer : List Env) (A₀ : Around) (base h₀ : Heap) (L : Addr) (m : Str → Option Value) (s : Shared)
   (Q E : Value → Shared → Prop) (vs : List Value) (news : List (Addr × Obj))
   (B : Below A₀ base outer h₀) (F : Fr h₀ L s.heap m) (X : (Mine.hd.heap_39 w.params).In h₀) (N : News h₀ L s.heap news)
   (T : Top p loose mean mg mb h₀) (hk : cs.kind = .function)
   (hd : dp + 4 < recursionLimit) (hu : un + 20 < cLine) (hsz : vs.length ≤ 1000)
   (hret : ∀ x dx tx tk h' tk', (∀ p ∈ news, p.1 < dx) → dx < x → x < tx → Fr h₀ L h' m → News h₀ L h' ((tx, tupOf vs) :: (x, instTok dx) :: (dx, dictTok w tk tx) :: news) →
     (∀ b o, b ≠ L → s.heap.get? b = some o → h'.get? b = some o) → (∀ p ∈ [(tx, tupOf vs), (x, instTok dx), (dx, dictTok w tk tx)], s.heap.get? p.1 = none) → Q (.ref x) { s with heap := h', toks := tk' }) :
    wpAny (model Pg w) (ktrTop dp un gd cn cs L a ccd cl outer) (call (.ref 59) vs) Q E s := by
  obtain ⟨l, Nl, hl⟩ := all_news (h₀ := h₀) (h := s.heap) (L := L) trivial
  refine new_spec0 w p loose mean mg mb dp un gd cn cs a ccd cl outer A₀ base h₀ L m s Q E vs (news ++ l) B F X (fun p hp => (List.mem_append.mp hp).elim (N p) (Nl p)) T hk hd hu hsz ?_
  intro x dx tx tk h' tk' l1 l2 l3 F' N'
  have fresh : ∀ y o, dx ≤ y → y ≠ L → h₀.get? y = none → s.heap.get? y ≠ some o := by
    intro y o hy hL h0 e
    have := l1 _ (List.mem_append_right _ (hl y o e hL h0))
    exact absurd hy (Nat.not_le.mpr this)
  have none_of : ∀ y ob, (y, ob) ∈ ((tx, tupOf vs) :: (x, instTok dx) :: (dx, dictTok w tk tx) :: (news ++ l)) → dx ≤ y → s.heap.get? y = none := by
    intro y ob hm hy
    cases q : s.heap.get? y with
    | none => rfl
    | some o => exact absurd q (fresh y o hy (N' _ hm).2.1 (N' _ hm).2.2)
  refine hret x dx tx tk h' tk' (fun p hp => l1 p (List.mem_append_left _ hp)) l2 l3 F' (fun p hp => N' p ?_) (fun b o hb e => ?_) (fun p hp => ?_)
  · simp only [List.mem_cons, List.mem_append] at hp ⊢
    rcases hp with h | h | h | h
    · exact .inl h
    · exact .inr (.inl h)
    · exact .inr (.inr (.inl h))
    · exact .inr (.inr (.inr (.inl h)))
  · cases q : h₀.get? b with
    | some o' =>
      have := F.keep b o' q
      rw [e] at this
      cases this
      exact F'.keep b _ q
    | none => exact (N' _ (by have := hl b o e hb q; simp only [List.mem_cons, List.mem_append]; exact .inr (.inr (.inr (.inr this))))).1
  · simp only [List.mem_cons, List.not_mem_nil, or_false] at hp
    rcases hp with rfl | rfl | rfl
    · exact none_of _ _ (.head _) (Nat.le_of_lt (Nat.lt_trans l2 l3))
    · exact none_of _ _ (.tail _ (.head _)) (Nat.le_of_lt l2)
    · exact none_of _ _ (.tail _ (.tail _ (.head _))) (Nat.le_refl _)
end Mine
namespace Mine
section
variable {prog : Program} {w : World} {A : Around} {E : Value → Shared → Prop} {s : Shared} {h₀ : Heap} {L : Addr} {m : Str → Option Value} {news : List (Addr × Obj)}
theorem adjust_upto (k n : Nat) : Builtin.Slice.sliceAdjust none (some (k : Int)) 1 (n : Int) = ((0 : Int), ((min k n : Nat) : Int)) := by
  unfold Builtin.Slice.sliceAdjust
  have h1 : ¬ ((1 : Int) < 0) := by omega
  have h2 : ¬ ((k : Int) < 0) := by omega
  simp only [h1, h2, if_false]
  congr 1
  omega
theorem places_upto (k : Nat) : Builtin.Slice.slicePlaces (0 : Int) (k : Int) 1 = k := by
  unfold Builtin.Slice.slicePlaces
  have h1 : (1 : Int) > 0 := by omega
  simp only [h1, if_true, Int.ediv_one]
  split <;> omega
theorem sliceApplied_upto {sl : Addr} {k n : Nat} {u : Tok} {Q : Int × Int × Nat → Shared → Prop} (hs : s.heap.IsSliceOf sl .none (.int k u) .none) (h : Q ((0 : Int), 1, min k n) s) :
    wpAny (model prog w) A (Builtin.Slice.sliceApplied (.ref sl) (pure (n : Int))) Q E s := by
  obtain ⟨os, hos, hcs, hds⟩ := id hs
  unfold Builtin.Slice.sliceApplied Builtin.Slice.sliceFields
  refine wpAny_bind (wpAny_bind (wpAny_field hos hds (x := .none) rfl (wpAny_bind (wpAny_field hos hds (x := .int k u) rfl (wpAny_bind (wpAny_field hos hds (x := .none) rfl (wpAny_pure ?_)))))))
  refine wpAny_bind (slicePart_none ?_)
  show wpAny _ _ (if ((1 : Int) == 0) = true then _ else _) _ _ s
  rw [if_neg (by decide)]
  refine wpAny_bind (slicePart_none (wpAny_bind (slicePart_int (wpAny_bind (wpAny_pure ?_)))))
  show wpAny _ _ (match Builtin.Slice.sliceAdjust none (some (k : Int)) 1 (n : Int) with | (lo, hi) => pure (lo, (1 : Int), Builtin.Slice.slicePlaces lo hi 1)) _ _ s
  rw [adjust_upto k n]
  show wpAny _ _ (pure ((0 : Int), (1 : Int), Builtin.Slice.slicePlaces (0 : Int) ((min k n : Nat) : Int) 1)) _ _ s
  rw [places_upto]
  exact wpAny_pure h
theorem pick_upto (xs : Array Value) (k : Nat) : ((List.range (min k xs.size)).filterMap fun (j : Nat) => xs[((0 : Int) + (j : Int) * 1).toNat]?).toArray = (xs.toList.take k).toArray := by
  have e : (fun (j : Nat) => xs[((0 : Int) + (j : Int) * 1).toNat]?) = fun j => xs[0 + j]? := by
    funext j
    have : ((0 : Int) + (j : Int) * 1).toNat = 0 + j := by omega
    rw [this]
  rw [e]
  have := pick_run xs 0 (min k xs.size)
  rw [List.filterMap_map] at this
  have e2 : ((fun x => xs[x]?) ∘ fun x => 0 + x) = fun j => xs[0 + j]? := rfl
  rw [e2] at this
  rw [this, List.drop_zero]
  congr 1
  rw [List.take_eq_take_iff]
  simp
theorem getItem_tuple_upto {t sl : Addr} {vs : List Value} {k : Nat} {u : Tok} {Q : Value → Shared → Prop} (ht : IsTup s.heap t vs.toArray) (hs : s.heap.IsSliceOf sl .none (.int k u) .none)
    (h1 : k < vs.length → Q (.ref s.heap.objs.size) { s with heap := s.heap.push { cls := .type "tuple", data := .seq (vs.take k).toArray } })
    (h2 : vs.length ≤ k → Q (.ref t) s)
    (hsz : vs.length ≤ sizeLine) : wpAny (model prog w) A (getItem (.ref t) (.ref sl)) Q E s := by
  have htake : sizeOk (.seq (vs.take k).toArray) := by
    show (vs.take k).toArray.size ≤ sizeLine
    rw [List.size_toArray, List.length_take]
    omega
  obtain ⟨os, hos, hcs, hds⟩ := id hs
  have hTs : s.TypeIs (.ref sl) "slice" := ⟨os, hos, hcs⟩
  unfold getItem
  try with_reducible refine wpAny_holding ?_
  first | refine wpAny_bind (wpAny_pure ?_) | skip
  refine wpAny_bind (wpAny_sequenceKey ht.typeIs (by decide) ?_)
  refine wpAny_bind (wpAny_callSpecial?_slot (name := Str.ofString "__getitem__") ht.typeIs slot_tuple_getitem
    (wpAny_call_entry slot_tuple_getitem ht.typeIs entry_tuple_getitem ?_ (args_tuple_getitem _ _)))
  show wpAny _ _ (Builtin.Tuple.tupleItemsOf (.ref t) >>= _) _ _ s
  refine wpAny_bind (tupleItemsOf_ ht ?_)
  refine wpAny_bind (wpAny_typeOf hTs ?_)
  rw [if_pos (by decide)]
  refine wpAny_bind (sliceApplied_upto hs ?_)
  have e0 : vs.toArray.size = vs.length := by simp
  by_cases hk : vs.length ≤ k
  · show wpAny _ _ (if ((0 : Int) == 0 && (1 : Int) == 1 && (min k vs.toArray.size) == vs.toArray.size) = true then _ else _) _ _ s
    rw [if_pos (by rw [e0]; simp [Nat.min_eq_right hk])]
    refine wpAny_bind (m := Builtin.Tuple.tupleIsExact _) (wpAny_bind (wpAny_typeOf ht.typeIs (wpAny_pure ?_)))
    rw [if_pos (by decide)]
    first
      | exact wpAny_bind (wpAny_rule (wpAny_pure ⟨_, rfl, wpAny_pure (h2 hk)⟩))
      | exact wpAny_bind (wpAny_bind (wpAny_rule (wpAny_pure (wpAny_pure ⟨_, rfl, wpAny_pure (h2 hk)⟩))))
      | exact wpAny_bind (wpAny_rule (wpAny_bind (wpAny_pure (wpAny_pure ⟨_, rfl, wpAny_pure (h2 hk)⟩))))
  · show wpAny _ _ (if ((0 : Int) == 0 && (1 : Int) == 1 && (min k vs.toArray.size) == vs.toArray.size) = true then _ else _) _ _ s
    have hno : ¬ (((0 : Int) == 0 && (1 : Int) == 1 && (min k vs.toArray.size) == vs.toArray.size) = true) := by
      have : (min k vs.toArray.size == vs.toArray.size) = false := by rw [beq_eq_false_iff_ne]; omega
      rw [this]; simp
    rw [if_neg hno, pick_upto vs.toArray k]
    have h := h1 (by omega)
    first
      | exact wpAny_bind (m := Builtin.Tuple.tupleExact _) (wpAny_newObj_type (wpAny_pure ⟨_, rfl, wpAny_pure h⟩) htake)
      | exact wpAny_bind (m := Builtin.Tuple.tupleExact _) (wpAny_newObj_type (wpAny_bind (wpAny_pure (wpAny_pure ⟨_, rfl, wpAny_pure h⟩))) htake)
      | exact wpAny_bind (wpAny_bind (m := Builtin.Tuple.tupleExact _) (wpAny_newObj_type (wpAny_pure (wpAny_pure ⟨_, rfl, wpAny_pure h⟩)) htake))
      | exact wpAny_bind (wpAny_bind (m := Builtin.Tuple.tupleExact _) (wpAny_newObj_type (wpAny_pure ⟨_, rfl, wpAny_pure h⟩) htake))
/-- t[:k] of a tuple: a new one, or the same where k is not below its length -/
theorem slice_tuple_upto {value slice : Expr} {t : Addr} {vs : List Value} {k : Nat} {u : Tok} {Q : Value → Shared → Prop}
    (F : Fr h₀ L s.heap m) (N : News h₀ L s.heap news) (ht : IsTup s.heap t vs.toArray)
    (h : ∀ r h' made, Fr h₀ L h' m → News h₀ L h' (made ++ news) → (∀ b o, s.heap.get? b = some o → h'.get? b = some o) → (∀ p ∈ made, s.heap.get? p.1 = none) → ((made = [] ∧ r = t ∧ vs.length ≤ k) ∨ made = [(r, { cls := .type "tuple", data := .seq (vs.take k).toArray })]) →
      IsTup h' r (vs.take k).toArray → Q (.ref r) { s with heap := h' })
    (hs : subscripted slice false (.ref t) (.ref s.heap.objs.size) = operate [.ref s.heap.objs.size, .ref t] (getItem (.ref t) (.ref s.heap.objs.size)) := by with_unfolding_all rfl)
    (hg : ∀ r, letTemporaryGo value (.ref t) r = pure () := by intro _; with_unfolding_all rfl)
    (hsz : vs.length ≤ sizeLine) :
    wpAny (model prog w) A (subscriptTail value slice (.ref t) (.ref s.heap.objs.size)) Q E { s with heap := s.heap.push { cls := .type "slice", data := .fields #[.none, .int k u, .none] } } := by
  have ht' : IsTup (s.heap.push { cls := .type "slice", data := .fields #[.none, .int k u, .none] }) t vs.toArray := ht.keeps fun _ _ e => Heap.get?_push_of_some _ e
  refine subscriptTail_ops (s := { s with heap := s.heap.push { cls := .type "slice", data := .fields #[.none, .int k u, .none] } }) ht'.typeIs slot_tuple_getitem.lookup
    (getItem_tuple_upto ht' (Heap.IsSliceOf.new ..) (fun hk => ?_) (fun hk => ?_) hsz) hs hg
  · have N1 := News.push (F.push { cls := .type "slice", data := .fields #[.none, .int k u, .none] }) (N.grown fun _ _ e => Heap.get?_push_of_some _ e) { cls := .type "tuple", data := .seq (vs.take k).toArray }
    rw [Heap.size_push] at N1
    show Q (.ref (s.heap.push _).objs.size) _
    rw [Heap.size_push]
    refine h _ _ [_] ((F.push _).push _) N1 (fun b o e => Heap.get?_push_of_some _ (Heap.get?_push_of_some _ e)) ?_ (.inr rfl) ⟨_, (N1 _ (.head _)).1, rfl, 0, rfl⟩
    intro p hp
    rw [List.mem_singleton.mp hp]
    cases q : s.heap.get? (s.heap.objs.size + 1) with
    | none => rfl
    | some o => exact absurd (Heap.lt_size q) (Nat.not_lt.mpr (Nat.le_succ _))
  · refine h t _ [] (F.push _) (N.grown fun _ _ e => Heap.get?_push_of_some _ e) (fun b o e => Heap.get?_push_of_some _ e) (fun p hp => nomatch hp) (.inl ⟨rfl, rfl, hk⟩) ?_
    rw [List.take_of_length_le hk]
    exact ht'
end
section
variable {prog : Program} {w : World} {A : Around} {E : Value → Shared → Prop} {s : Shared} {h₀ : Heap} {L : Addr} {m : Str → Option Value} {news : List (Addr × Obj)}
theorem slice_tuple_any {value slice : Expr} {t : Addr} {vs : List Value} {k : Nat} {u : Tok} {Q : Value → Shared → Prop}
    (F : Fr h₀ L s.heap m) (N : News h₀ L s.heap news) (ht : IsTup s.heap t vs.toArray)
    (h : ∀ r h' made, Fr h₀ L h' m → News h₀ L h' (made ++ news) → (∀ b o, s.heap.get? b = some o → h'.get? b = some o) → (∀ p ∈ made, s.heap.get? p.1 = none) → ((made = [] ∧ r = t ∧ vs.length ≤ k) ∨ made = [(r, { cls := .type "tuple", data := .seq (vs.take k).toArray })]) →
      IsTup h' r (vs.take k).toArray → Q (.ref r) { s with heap := h' })
    (hs : subscripted slice false (.ref t) (.ref s.heap.objs.size) = operate [.ref s.heap.objs.size, .ref t] (getItem (.ref t) (.ref s.heap.objs.size)) := by with_unfolding_all rfl)
    (hsz : vs.length ≤ sizeLine) :
    wpAny (model prog w) A (subscriptTail value slice (.ref t) (.ref s.heap.objs.size)) Q E { s with heap := s.heap.push { cls := .type "slice", data := .fields #[.none, .int k u, .none] } } :=
  kba_turn (value' := .Name "x" ⟨0, 0, 0, 0⟩) (fun _ => rfl) (slice_tuple_upto F N ht h hs (fun _ => rfl) hsz)
end
/-- texts whose signs are signs -/
def Ok (xs : List Str) : Prop := ∀ x ∈ xs, PyData.strOk x = true
section
variable {prog : Program} {w : World} {A : Around} {E : Value → Shared → Prop} {s : Shared}
theorem reads_SA {h : Heap} {vs : List Value} {xs : List Str} (a : SA vs xs) : ∃ as, ReadsAll h vs (xs.map .str) as := by
  induction a with
  | nil => exact ⟨_, .nil⟩
  | @cons x t _ _ _ ih => obtain ⟨as, q⟩ := ih; exact ⟨_, .cons (Reads.str x t) q⟩
theorem reads_tup {h : Heap} {a : Addr} {vs : List Value} {xs : List Str} (ht : IsTup h a vs.toArray) (q : SA vs xs) : ∃ as, Reads h (.ref a) (.tuple (xs.map .str)) as := by
  obtain ⟨o, e, c, n, d⟩ := ht
  obtain ⟨as, r⟩ := reads_SA (h := h) q
  exact ⟨as, reads_tuple_at e c d (by simpa using r)⟩
theorem lay_strs {xs : List Str} (h : Ok xs) : PyData.canLayAll0 (xs.map .str) = true ∧ PyData.depthAll (xs.map .str) ≤ 1 := by
  induction xs with
  | nil => simp [PyData.canLayAll0, PyData.depthAll]
  | cons x xs ih =>
    have h1 := ih fun y hy => h y (.tail _ hy)
    have h2 := h x (.head _)
    simp only [List.map_cons, PyData.canLayAll0, PyData.depthAll, PyData.canLay0, PyData.depth, h1.1, h2, Bool.and_self, true_and]
    have := h1.2
    omega
theorem eqv_strs : ∀ (xs ys : List Str), PyData.eqvAll (xs.map .str) (ys.map .str) = decide (xs = ys)
  | [], [] => by simp [PyData.eqvAll]
  | [], _ :: _ => by simp [PyData.eqvAll]
  | _ :: _, [] => by simp [PyData.eqvAll]
  | x :: xs, y :: ys => by
    have ih := eqv_strs xs ys
    simp only [List.map_cons, PyData.eqvAll, PyData.eqv, ih, List.cons.injEq, Bool.decide_and]
    congr 1
theorem shaped_tup {xs : List Str} (h : Ok xs) : SeqAt.shaped (.tuple (xs.map .str)) := by
  have l := lay_strs h
  unfold SeqAt.shaped
  simp only [PyData.canLay0, l.1, Bool.true_and]
  exact decide_eq_true (Nat.le_trans (show PyData.depth (.tuple (xs.map .str)) ≤ 2 by simp only [PyData.depth]; have := l.2; omega) (by decide))
theorem tup_eq {a b : Addr} {vs ws : List Value} {xs ys : List Str} {Q : Value → Shared → Prop} (ha : IsTup s.heap a vs.toArray) (hb : IsTup s.heap b ws.toArray) (qa : SA vs xs) (qb : SA ws ys)
    (oa : Ok xs) (ob : Ok ys) (hu : A.units + 64 < cLine) (h : Q (.bool (decide (xs = ys))) s) : wpAny (model prog w) A (compareOp .Eq (.ref a) (.ref b)) Q E s := by
  obtain ⟨as, ra⟩ := reads_tup ha qa
  obtain ⟨bs, rb⟩ := reads_tup hb qb
  refine eq_dataH ra rb (shaped_tup oa) (shaped_tup ob) hu ?_
  rw [PyData.eqv, eqv_strs]; exact h
theorem tup_ne {a b : Addr} {vs ws : List Value} {xs ys : List Str} {Q : Value → Shared → Prop} (ha : IsTup s.heap a vs.toArray) (hb : IsTup s.heap b ws.toArray) (qa : SA vs xs) (qb : SA ws ys)
    (oa : Ok xs) (ob : Ok ys) (hu : A.units + 64 < cLine) (h : Q (.bool (!decide (xs = ys))) s) : wpAny (model prog w) A (compareOp .NotEq (.ref a) (.ref b)) Q E s := by
  obtain ⟨as, ra⟩ := reads_tup ha qa
  obtain ⟨bs, rb⟩ := reads_tup hb qb
  refine ne_dataH ra rb (shaped_tup oa) (shaped_tup ob) hu ?_
  rw [PyData.eqv, eqv_strs]; exact h
end
end Mine
namespace Mine
open PyProof.V PySem.Spec
section
variable {prog : Program} {w : World} {A : Around} {E : Value → Shared → Prop} {s : Shared} {env : Env} {h₀ : Heap} {x : Str} {body : List Stmt} {Q : Flow → Shared → Prop}
def TurnE (h₀ : Heap) (L : Addr) (J : (Str → Option Value) → List (Addr × Obj) → Prop) (own : List (Addr × Obj)) (wr : List Addr) (s₁ s₂ : Shared) : Prop :=
  ∃ h' tk m' news₂, s₂ = { s₁ with heap := h', toks := tk } ∧ Fr h₀ L h' m' ∧ News h₀ L h' (own ++ news₂) ∧ (∀ p ∈ news₂, p.1 ∉ wr) ∧ J m' news₂
def TurnJ (h₀ : Heap) (L : Addr) (J : (Str → Option Value) → List (Addr × Obj) → Prop) (own : List (Addr × Obj)) (wr : List Addr) (s₁ : Shared) (Q : Flow → Shared → Prop) (f : Flow) (s₂ : Shared) : Prop :=
  match f with
  | .ret v => Q (.ret v) s₂
  | .brk => Q .next s₂
  | _ => TurnE h₀ L J own wr s₁ s₂
theorem TurnE.intro {L : Addr} {J : (Str → Option Value) → List (Addr × Obj) → Prop} {own : List (Addr × Obj)} {wr : List Addr} {s₁ : Shared} {h' : Heap} {tk : Nat} {m' : Str → Option Value} {news₂ : List (Addr × Obj)}
    (F : Fr h₀ L h' m') (N : News h₀ L h' (own ++ news₂)) (o : ∀ p ∈ news₂, p.1 ∉ wr) (j : J m' news₂) : TurnE h₀ L J own wr s₁ { s₁ with heap := h', toks := tk } := ⟨h', tk, m', news₂, rfl, F, N, o, j⟩
theorem turn_post {L : Addr} {J : (Str → Option Value) → List (Addr × Obj) → Prop} {own : List (Addr × Obj)} {wr : List Addr} {s₁ : Shared} {f : Flow} {s₂ : Shared} (p : TurnJ h₀ L J own wr s₁ Q f s₂) :
    LoopStepV h₀ L wr own J s₁ (fun v s' => Q (.ret v) s') (fun s' => Q .next s') f s₂ := by
  have fin : TurnE h₀ L J own wr s₁ s₂ → LoopStepU h₀ L wr own J s₁ .next s₂ := by
    rintro ⟨h', tk, m', news', e, F', N', o, hj⟩
    exact ⟨rfl, h', tk, m', news', e, F', N', o, hj⟩
  cases f with
  | ret v => exact .ret p
  | brk => exact .brk p
  | next => exact .next (fin p)
  | cont => exact .cont (fin p)

theorem iter_list {l : Addr} {vs : List Value} {m₀ : Str → Option Value} {news : List (Addr × Obj)} (J : Nat → (Str → Option Value) → List (Addr × Obj) → Prop)
    (hh : A.handled = none) (F : Fr h₀ env.locals s.heap m₀) (N : News h₀ env.locals s.heap news) (hl : s.heap.IsList l vs.toArray) (hj : J 0 m₀ news)
    (turn : ∀ i v m₁ news₁ h tk own wr, vs[i]? = some v → J i m₁ news₁ → (∀ p ∈ news₁, p.1 ∉ wr) → (∀ b, h.get? b = none → b ∉ wr) → (∀ p ∈ own, p.1 ∈ wr ∨ p.1 = l) → Fr h₀ env.locals h (fun y => if y = x then some v else m₁ y) → News h₀ env.locals h (own ++ news₁) →
      wpAny (model prog w) A (execs body env) (TurnJ h₀ env.locals (J (i + 1)) own wr { s with heap := h, toks := tk } Q) E { s with heap := h, toks := tk })
    (done : ∀ m₁ news₁ h tk, J vs.length m₁ news₁ → Fr h₀ env.locals h m₁ → News h₀ env.locals h news₁ → Q .next { s with heap := h, toks := tk }) :
    wpAny (model prog w) A (pyIter (.ref l)) (fun it s₂ => LoopAtV prog w A h₀ env x body Q E it s₂) E s := by
  obtain ⟨ol, hol, hcls, nl, hdat⟩ := id hl
  have hlt : l < s.heap.objs.size := Heap.lt_size hol
  have hne : l ≠ s.heap.objs.size := Nat.ne_of_lt hlt
  have hlL : env.locals ≠ l := by
    intro e
    obtain ⟨oL, es, ep, hL, hd, _⟩ := F.ns
    rw [e, hol] at hL
    cases hL
    rw [hdat] at hd; cases hd
  refine wpAny_pyIter_list hl ?_
  have W := Walks.list (prog := prog) (w := w) hh s.heap.objs.size l hne vs.toArray
  have hlen : vs.toArray.size = vs.length := by simp
  rw [hlen] at W
  refine ⟨_, _, _, vs.length, _, _, m₀, news, J, rfl, W, ?_, ?_, ?_, ⟨⟨_, Heap.get?_push_size _ rfl, rfl, rfl⟩, hl.at fun o e => Heap.get?_push_of_some _ e⟩, F.push _, (fun p hp => ⟨Heap.get?_push_of_some _ (N p hp).1, (N p hp).2⟩), hj, ?_, ?_⟩
  · intro hm
    rcases List.mem_cons.mp hm with e | hm
    · exact absurd F.ns.lt (e ▸ Nat.lt_irrefl _)
    · exact hlL (List.mem_singleton.mp hm)
  · intro b hb
    rw [List.mem_singleton.mp hb]
    exact next_is_new F
  · intro p hp hI
    exact absurd (Heap.lt_size (N p hp).1) ((List.mem_singleton.mp hI) ▸ Nat.lt_irrefl _)
  · rintro i v m₁ news₁ s₁ own ⟨hh', tk', rfl⟩ hin hP hJ hoff hown _ _ hst F₁ N₁
    have hP' : vs[i]? = some v := by simpa using hP
    have hw : ∀ b, hh'.get? b = none → b ∉ [s.heap.objs.size] := fun b e hb => by
      obtain ⟨o, e', _⟩ := hst.1
      rw [List.mem_singleton.mp hb] at e
      rw [e] at e'; cases e'
    exact wpAny_mono (turn i v m₁ news₁ hh' tk' own _ hP' hJ hoff hw (fun p hp => by have := hown p hp; simpa using this) F₁ N₁) (fun f s₂ p => turn_post p) fun _ _ e => e
  · rintro h' tk m' news' F' N' _ hJ
    exact done m' news' h' tk hJ F' N'

theorem iter_range {r : Addr} {a₀ b₀ : Int} {t₀ u₀ v₀ : Tok} {n : Nat} {m₀ : Str → Option Value} {news : List (Addr × Obj)} (J : Nat → (Str → Option Value) → List (Addr × Obj) → Prop)
    (hh : A.handled = none) (hr : IsRange s.heap r a₀ b₀ 1 t₀ u₀ v₀) (hsmall : Builtin.Range.small a₀ b₀ 1 = true) (hn : Builtin.Range.rangeSize a₀ b₀ 1 = (n : Int)) (F : Fr h₀ env.locals s.heap m₀) (N : News h₀ env.locals s.heap news) (hj : J 0 m₀ news)
    (turn : ∀ (i : Nat) t m₁ news₁ h tk own wr, i < n → J i m₁ news₁ → (∀ p ∈ news₁, p.1 ∉ wr) → (∀ b, h.get? b = none → b ∉ wr) → (∀ p ∈ own, p.1 ∈ wr) → Fr h₀ env.locals h (fun y => if y = x then some (.int (a₀ + (i : Int)) t) else m₁ y) → News h₀ env.locals h (own ++ news₁) →
      wpAny (model prog w) A (execs body env) (TurnJ h₀ env.locals (J (i + 1)) own wr { s with heap := h, toks := tk } Q) E { s with heap := h, toks := tk })
    (done : ∀ m₁ news₁ h tk, J n m₁ news₁ → Fr h₀ env.locals h m₁ → News h₀ env.locals h news₁ → Q .next { s with heap := h, toks := tk }) :
    wpAny (model prog w) A (pyIter (.ref r)) (fun it s₂ => LoopAtV prog w A h₀ env x body Q E it s₂) E s := by
  refine wpAny_pyIter_range hr hsmall ?_
  have W : Walks prog w A s.heap.objs.size [s.heap.objs.size] [s.heap.objs.size] n (fun i v => i < n ∧ ∃ t, v = .int (a₀ + i * 1) t)
      (fun i h => IsRangeIter h s.heap.objs.size (a₀ + (i : Nat) * 1) ((n : Int) - (i : Nat)) 1) := (Walks.range hh _ a₀ 1 n).bound
  refine ⟨_, _, _, n, _, _, m₀, news, J, rfl, W, ?_, ?_, ?_, (by show IsRangeIter _ _ _ _ _; rw [hn]; simpa using Heap.get?_push_size _ rfl), F.push _, (fun p hp => ⟨Heap.get?_push_of_some _ (N p hp).1, (N p hp).2⟩), hj, ?_, ?_⟩
  · intro hm
    exact absurd F.ns.lt ((List.mem_singleton.mp hm) ▸ Nat.lt_irrefl _)
  · intro b hb
    rw [List.mem_singleton.mp hb]
    exact next_is_new F
  · intro p hp hI
    exact absurd (Heap.lt_size (N p hp).1) ((List.mem_singleton.mp hI) ▸ Nat.lt_irrefl _)
  · rintro i v m₁ news₁ s₁ own ⟨hh', tk', rfl⟩ hin ⟨_, t, rfl⟩ hJ hoff hown _ _ hst F₁ N₁
    rw [Int.mul_one] at F₁
    have hw : ∀ b, hh'.get? b = none → b ∉ [s.heap.objs.size] := fun b e hb => by
      have e' : hh'.get? s.heap.objs.size = some _ := hst
      rw [List.mem_singleton.mp hb] at e
      rw [e] at e'; cases e'
    exact wpAny_mono (turn i t m₁ news₁ hh' tk' own _ hin hJ hoff hw hown F₁ N₁) (fun f s₂ p => turn_post p) fun _ _ e => e
  · rintro h' tk m' news' F' N' _ hJ
    exact done m' news' h' tk hJ F' N'
end
theorem fr_under {h₀ h : Heap} {L : Addr} {m : Str → Option Value} {x y : Str} {a : Option Value} {b : Option Value} (F : Fr h₀ L h (fun z => if z = x then a else m z)) (hm : m y = b) :
    Fr h₀ L h (fun z => if z = x then a else if z = y then b else m z) := by
  have e : (fun z => if z = x then a else if z = y then b else m z) = fun z => if z = x then a else m z := by
    funext z
    by_cases h1 : z = x
    · simp [h1]
    · by_cases h2 : z = y
      · subst h2; simp [h1, hm]
      · simp [h1, h2]
  rw [e]; exact F
theorem fr_name {h₀ h : Heap} {L : Addr} {m : Str → Option Value} {y : Str} {b : Option Value} (F : Fr h₀ L h m) (hm : m y = b) :
    Fr h₀ L h (fun z => if z = y then b else m z) := by
  have e : (fun z => if z = y then b else m z) = m := by
    funext z
    by_cases h2 : z = y
    · subst h2; simp [hm]
    · simp [h2]
  rw [e]; exact F
theorem news_swap {h₀ h : Heap} {L : Addr} {a b c : List (Addr × Obj)} (N : News h₀ L h (a ++ (b ++ c))) : News h₀ L h (b ++ (a ++ c)) := fun p hp => N p (by
  simp only [List.mem_append] at hp ⊢
  rcases hp with h | h | h
  · exact .inr (.inl h)
  · exact .inl h
  · exact .inr (.inr h))

theorem range_size (n : Nat) : Builtin.Range.rangeSize 0 (n : Int) 1 = (n : Int) := by
  unfold Builtin.Range.rangeSize
  simp only [show (1 : Int) > 0 by decide, if_true, Int.ediv_one]
  split <;> omega
theorem news_front {h₀ h : Heap} {L : Addr} {a c : List (Addr × Obj)} {b : Addr × Obj} (N : News h₀ L h (a ++ (b :: c))) : News h₀ L h (b :: (a ++ c)) := fun p hp => N p (by
  simp only [List.mem_append, List.mem_cons] at hp ⊢
  rcases hp with h | h | h
  · exact .inr (.inl h)
  · exact .inl h
  · exact .inr (.inr h))
theorem ne_app {a : Addr} {o : Obj} {own rest : List (Addr × Obj)} {wr : List Addr} (hown : ∀ p ∈ own, p.1 ∈ wr) (hoff : ∀ p ∈ (a, o) :: rest, p.1 ∉ wr) (hne : ∀ p ∈ rest, p.1 ≠ a) : ∀ p ∈ own ++ rest, p.1 ≠ a := by
  intro p hp e
  rcases List.mem_append.mp hp with h | h
  · exact hoff _ (.head _) (e ▸ hown p h)
  · exact hne p h e
end Mine
namespace Mine
abbrev sDot : Str := Str.ofString "."
namespace Tx
/-- a list of pieces put together with the sign c between them -/
def J (c : Nat) : List (List Nat) → List Nat
  | [] => []
  | [p] => p
  | p :: q :: r => p ++ c :: J c (q :: r)
theorem cut_inj {c : Nat} : ∀ {p q A B : List Nat}, c ∉ p → c ∉ q → p ++ c :: A = q ++ c :: B → p = q ∧ A = B
  | [], [], _, _, _, _, e => by simpa using e
  | [], y :: q, A, B, _, hq, e => by
    simp only [List.nil_append, List.cons_append, List.cons.injEq] at e
    exact absurd (by rw [e.1]; exact .head _) hq
  | x :: p, [], A, B, hp, _, e => by
    simp only [List.nil_append, List.cons_append, List.cons.injEq] at e
    exact absurd (by rw [e.1]; exact .head _) hp
  | x :: p, y :: q, A, B, hp, hq, e => by
    simp only [List.cons_append, List.cons.injEq] at e
    have := cut_inj (c := c) (p := p) (q := q) (fun h => hp (.tail _ h)) (fun h => hq (.tail _ h)) e.2
    exact ⟨by rw [e.1, this.1], this.2⟩
theorem J_inj {c : Nat} : ∀ {ps qs : List (List Nat)}, ps ≠ [] → qs ≠ [] → (∀ p ∈ ps, c ∉ p) → (∀ q ∈ qs, c ∉ q) → J c ps = J c qs → ps = qs
  | [], _, h, _, _, _, _ => absurd rfl h
  | _, [], _, h, _, _, _ => absurd rfl h
  | [p], [q], _, _, _, _, e => by rw [show p = q from e]
  | [p], q :: q' :: r, _, _, hp, _, e => by
    have e : p = q ++ c :: J c (q' :: r) := e
    exact absurd (by rw [e]; simp) (hp p (.head _))
  | p :: p' :: r, [q], _, _, _, hq, e => by
    have e : p ++ c :: J c (p' :: r) = q := e
    exact absurd (by rw [← e]; simp) (hq q (.head _))
  | p :: p' :: r, q :: q' :: r', _, _, hp, hq, e => by
    have e : p ++ c :: J c (p' :: r) = q ++ c :: J c (q' :: r') := e
    obtain ⟨e1, e2⟩ := cut_inj (hp p (.head _)) (hq q (.head _)) e
    have := J_inj (c := c) (ps := p' :: r) (qs := q' :: r') (by simp) (by simp) (fun x hx => hp x (.tail _ hx)) (fun x hx => hq x (.tail _ hx)) e2
    rw [e1, this]
end Tx
theorem join_J (c : Nat) : ∀ xs : List Str, (Str.join ⟨#[c]⟩ xs).cps.toList = Tx.J c (xs.map (·.cps.toList))
  | [] => rfl
  | [x] => rfl
  | x :: y :: r => by
    show (x ++ (⟨#[c]⟩ : Str) ++ Str.join ⟨#[c]⟩ (y :: r)).cps.toList = _
    rw [Str.cps_append, Str.cps_append, Array.toList_append, Array.toList_append, join_J c (y :: r)]
    show x.cps.toList ++ [c] ++ _ = x.cps.toList ++ c :: _
    simp
theorem map_cps_inj : ∀ {xs ys : List Str}, xs.map (fun x => x.cps.toList) = ys.map (fun x => x.cps.toList) → xs = ys
  | [], [], _ => rfl
  | [], _ :: _, e => by simp at e
  | _ :: _, [], e => by simp at e
  | x :: xs, y :: ys, e => by
    simp only [List.map_cons, List.cons.injEq] at e
    obtain ⟨a⟩ := x
    obtain ⟨b⟩ := y
    rw [map_cps_inj e.2, show a = b from Array.toList_inj.mp e.1]
theorem split_ne (x y : Str) : Txt.split x y ≠ [] := by
  unfold Txt.split
  split
  · simp
  · split
    · simp
    · intro e
      have := congrArg List.length e
      rw [length_partsBetween] at this
      simp at this
/-- texts without a dot, put together by dots and split there again -/
theorem split_join {xs : List Str} (hne : xs ≠ []) (hd : ∀ x ∈ xs, 46 ∉ x.cps.toList) : Txt.split (Txt.join sDot xs) sDot = xs := by
  have e0 : sDot = ⟨#[46]⟩ := by decide +kernel
  have e1 : Txt.join sDot xs = Str.join sDot xs := StrLaws.glued_eq_join _ _
  have e2 := StrLaws.join_split (Txt.join sDot xs) sDot
  have e3 := StrLaws.split_free (Txt.join sDot xs) 46
  rw [← e0] at e3
  have e4 : (Str.join sDot (Txt.split (Txt.join sDot xs) sDot)).cps.toList = (Str.join sDot xs).cps.toList := by rw [e2, e1]
  rw [e0, join_J, join_J, ← e0] at e4
  refine map_cps_inj (Tx.J_inj (c := 46) ?_ ?_ ?_ ?_ e4)
  · intro e; exact split_ne _ _ (List.map_eq_nil_iff.mp e)
  · intro e; exact hne (List.map_eq_nil_iff.mp e)
  · intro p hp
    obtain ⟨x, hx, rfl⟩ := List.mem_map.mp hp
    exact e3 x hx
  · intro p hp
    obtain ⟨x, hx, rfl⟩ := List.mem_map.mp hp
    exact hd x hx
theorem SA.strs {vs : List Value} {xs : List Str} (h : SA vs xs) : ∃ l : List (Str × Tok), vs = strValues l ∧ l.map (·.1) = xs := by
  induction h with
  | nil => exact ⟨[], rfl, rfl⟩
  | @cons x t _ _ _ ih =>
    obtain ⟨l, e1, e2⟩ := ih
    exact ⟨(x, t) :: l, by rw [e1]; rfl, by rw [← e2]; rfl⟩
theorem SA.of : ∀ l : List (Str × Tok), SA (strValues l) (l.map (·.1))
  | [] => .nil
  | _ :: l => .cons (SA.of l)
theorem SA.are {vs : List Value} {xs : List Str} (h : SA vs xs) : StrsAre vs xs := by
  obtain ⟨l, rfl, rfl⟩ := h.strs
  exact strsAre_of_values l
theorem sum_le {xs : List Str} (h : ∀ x ∈ xs, x.length ≤ 100) : (xs.map (·.length)).sum ≤ 100 * xs.length := by
  induction xs with
  | nil => simp
  | cons x xs ih =>
    have := ih fun y hy => h y (.tail _ hy)
    have := h x (.head _)
    simp only [List.map_cons, List.sum_cons, List.length_cons]
    omega
theorem join_weight {xs : List Str} (h : ∀ x ∈ xs, x.length ≤ 100) (hl : xs.length ≤ 1000) : (xs.map (·.length)).sum + xs.length ≤ 1048576 := by
  have := sum_le h
  omega
theorem dot_len : sDot.length ≤ 16 := by decide +kernel
/-- the text that a token type shows -/
theorem shown_cons (xs : List Str) : Str.ofString "Token" ++ (if xs = [] then Str.ofString "" else sDot) ++ Txt.join sDot xs = Txt.join sDot (Str.ofString "Token" :: xs) := by
  have e : ∀ l, Txt.join sDot l = Str.join sDot l := fun l => StrLaws.glued_eq_join _ _
  rw [e, e]
  cases xs with
  | nil => decide +kernel
  | cons x xs => rfl
theorem join_len {xs : List Str} (h : ∀ x ∈ xs, x.length ≤ 100) : (Txt.join sDot xs).length ≤ 101 * xs.length := by
  have e : Txt.join sDot xs = Str.join sDot xs := StrLaws.glued_eq_join _ _
  have h1 := StrLaws.join_length_le sDot xs
  have h2 := sum_le h
  have h3 : sDot.length = 1 := by decide +kernel
  rw [e]
  rw [h3] at h1
  omega
theorem join_pos {x : Str} {xs : List Str} (h : 1 ≤ x.length) : (Txt.join sDot (x :: xs)).length ≠ 0 := by
  have e : Txt.join sDot (x :: xs) = Str.join sDot (x :: xs) := StrLaws.glued_eq_join _ _
  rw [e]
  cases xs with
  | nil => show x.length ≠ 0; omega
  | cons y ys =>
    show (x ++ sDot ++ Str.join sDot (y :: ys)).length ≠ 0
    rw [Str.length_append, Str.length_append]
    omega
end Mine
namespace Mine
open PyProof.V PySem.Spec
section
variable {prog : Program} {w : World} {A : Around} {E : Value → Shared → Prop} {s : Shared} {env : Env} {h₀ : Heap} {x : Str} {body : List Stmt} {Q : Flow → Shared → Prop}
theorem iter_listW {l : Addr} {vs : List Value} {m₀ : Str → Option Value} {news : List (Addr × Obj)} (J : Nat → (Str → Option Value) → List (Addr × Obj) → Prop)
    (hh : A.handled = none) (F : Fr h₀ env.locals s.heap m₀) (N : News h₀ env.locals s.heap news) (hl : s.heap.IsList l vs.toArray) (hj : J 0 m₀ news)
    (turn : ∀ i v m₁ news₁ h tk own wr, vs[i]? = some v → J i m₁ news₁ → (∀ p ∈ news₁, p.1 ∉ wr) → (∀ b, h.get? b = none → b ∉ wr) → (∀ p ∈ own, p.1 ∈ wr ∨ p.1 = l) → (∃ I oI, wr = [I] ∧ News h₀ env.locals h [(I, oI)]) → Fr h₀ env.locals h (fun y => if y = x then some v else m₁ y) → News h₀ env.locals h (own ++ news₁) →
      wpAny (model prog w) A (execs body env) (TurnJ h₀ env.locals (J (i + 1)) own wr { s with heap := h, toks := tk } Q) E { s with heap := h, toks := tk })
    (done : ∀ m₁ news₁ h tk, J vs.length m₁ news₁ → Fr h₀ env.locals h m₁ → News h₀ env.locals h news₁ → Q .next { s with heap := h, toks := tk }) :
    wpAny (model prog w) A (pyIter (.ref l)) (fun it s₂ => LoopAtV prog w A h₀ env x body Q E it s₂) E s := by
  obtain ⟨ol, hol, hcls, nl, hdat⟩ := id hl
  have hlt : l < s.heap.objs.size := Heap.lt_size hol
  have hne : l ≠ s.heap.objs.size := Nat.ne_of_lt hlt
  have hlL : env.locals ≠ l := by
    intro e
    obtain ⟨oL, es, ep, hL, hd, _⟩ := F.ns
    rw [e, hol] at hL
    cases hL
    rw [hdat] at hd; cases hd
  refine wpAny_pyIter_list hl ?_
  have W := Walks.list (prog := prog) (w := w) hh s.heap.objs.size l hne vs.toArray
  have hlen : vs.toArray.size = vs.length := by simp
  rw [hlen] at W
  refine ⟨_, _, _, vs.length, _, _, m₀, news, J, rfl, W, ?_, ?_, ?_, ⟨⟨_, Heap.get?_push_size _ rfl, rfl, rfl⟩, hl.at fun o e => Heap.get?_push_of_some _ e⟩, F.push _, (fun p hp => ⟨Heap.get?_push_of_some _ (N p hp).1, (N p hp).2⟩), hj, ?_, ?_⟩
  · intro hm
    rcases List.mem_cons.mp hm with e | hm
    · exact absurd F.ns.lt (e ▸ Nat.lt_irrefl _)
    · exact hlL (List.mem_singleton.mp hm)
  · intro b hb
    rw [List.mem_singleton.mp hb]
    exact next_is_new F
  · intro p hp hI
    exact absurd (Heap.lt_size (N p hp).1) ((List.mem_singleton.mp hI) ▸ Nat.lt_irrefl _)
  · rintro i v m₁ news₁ s₁ own ⟨hh', tk', rfl⟩ hin hP hJ hoff hown _ _ hst F₁ N₁
    have hP' : vs[i]? = some v := by simpa using hP
    have hw : ∀ b, hh'.get? b = none → b ∉ [s.heap.objs.size] := fun b e hb => by
      obtain ⟨o, e', _⟩ := hst.1
      rw [List.mem_singleton.mp hb] at e
      rw [e] at e'; cases e'
    exact wpAny_mono (turn i v m₁ news₁ hh' tk' own _ hP' hJ hoff hw (fun p hp => by have := hown p hp; simpa using this) (by obtain ⟨o, e', _⟩ := hst.1; exact ⟨_, o, rfl, fun p hp => by rw [List.mem_singleton.mp hp]; exact ⟨e', fun e => Nat.lt_irrefl _ (e ▸ F.ns.lt), next_is_new F⟩⟩) F₁ N₁) (fun f s₂ p => turn_post p) fun _ _ e => e
  · rintro h' tk m' news' F' N' _ hJ
    exact done m' news' h' tk hJ F' N'

theorem iter_rangeW {r : Addr} {a₀ b₀ : Int} {t₀ u₀ v₀ : Tok} {n : Nat} {m₀ : Str → Option Value} {news : List (Addr × Obj)} (J : Nat → (Str → Option Value) → List (Addr × Obj) → Prop)
    (hh : A.handled = none) (hr : IsRange s.heap r a₀ b₀ 1 t₀ u₀ v₀) (hsmall : Builtin.Range.small a₀ b₀ 1 = true) (hn : Builtin.Range.rangeSize a₀ b₀ 1 = (n : Int)) (F : Fr h₀ env.locals s.heap m₀) (N : News h₀ env.locals s.heap news) (hj : J 0 m₀ news)
    (turn : ∀ (i : Nat) t m₁ news₁ h tk own wr, i < n → J i m₁ news₁ → (∀ p ∈ news₁, p.1 ∉ wr) → (∀ b, h.get? b = none → b ∉ wr) → (∀ p ∈ own, p.1 ∈ wr) → (∃ I oI, wr = [I] ∧ News h₀ env.locals h [(I, oI)]) → Fr h₀ env.locals h (fun y => if y = x then some (.int (a₀ + (i : Int)) t) else m₁ y) → News h₀ env.locals h (own ++ news₁) →
      wpAny (model prog w) A (execs body env) (TurnJ h₀ env.locals (J (i + 1)) own wr { s with heap := h, toks := tk } Q) E { s with heap := h, toks := tk })
    (done : ∀ m₁ news₁ h tk, J n m₁ news₁ → Fr h₀ env.locals h m₁ → News h₀ env.locals h news₁ → Q .next { s with heap := h, toks := tk }) :
    wpAny (model prog w) A (pyIter (.ref r)) (fun it s₂ => LoopAtV prog w A h₀ env x body Q E it s₂) E s := by
  refine wpAny_pyIter_range hr hsmall ?_
  have W : Walks prog w A s.heap.objs.size [s.heap.objs.size] [s.heap.objs.size] n (fun i v => i < n ∧ ∃ t, v = .int (a₀ + i * 1) t)
      (fun i h => IsRangeIter h s.heap.objs.size (a₀ + (i : Nat) * 1) ((n : Int) - (i : Nat)) 1) := (Walks.range hh _ a₀ 1 n).bound
  refine ⟨_, _, _, n, _, _, m₀, news, J, rfl, W, ?_, ?_, ?_, (by show IsRangeIter _ _ _ _ _; rw [hn]; simpa using Heap.get?_push_size _ rfl), F.push _, (fun p hp => ⟨Heap.get?_push_of_some _ (N p hp).1, (N p hp).2⟩), hj, ?_, ?_⟩
  · intro hm
    exact absurd F.ns.lt ((List.mem_singleton.mp hm) ▸ Nat.lt_irrefl _)
  · intro b hb
    rw [List.mem_singleton.mp hb]
    exact next_is_new F
  · intro p hp hI
    exact absurd (Heap.lt_size (N p hp).1) ((List.mem_singleton.mp hI) ▸ Nat.lt_irrefl _)
  · rintro i v m₁ news₁ s₁ own ⟨hh', tk', rfl⟩ hin ⟨_, t, rfl⟩ hJ hoff hown _ _ hst F₁ N₁
    rw [Int.mul_one] at F₁
    have hw : ∀ b, hh'.get? b = none → b ∉ [s.heap.objs.size] := fun b e hb => by
      have e' : hh'.get? s.heap.objs.size = some _ := hst
      rw [List.mem_singleton.mp hb] at e
      rw [e] at e'; cases e'
    exact wpAny_mono (turn i t m₁ news₁ hh' tk' own _ hin hJ hoff hw hown (by have e' : hh'.get? s.heap.objs.size = some _ := hst; exact ⟨_, _, rfl, fun p hp => by rw [List.mem_singleton.mp hp]; exact ⟨e', fun e => Nat.lt_irrefl _ (e ▸ F.ns.lt), next_is_new F⟩⟩) F₁ N₁) (fun f s₂ p => turn_post p) fun _ _ e => e
  · rintro h' tk m' news' F' N' _ hJ
    exact done m' news' h' tk hJ F' N'
end

theorem news_and {h₀ h : Heap} {L : Addr} {a b : List (Addr × Obj)} (N : News h₀ L h a) (M : News h₀ L h b) : News h₀ L h (a ++ b) := fun p hp => (List.mem_append.mp hp).elim (fun h => N p h) (fun h => M p h)

section
variable {prog : Program} {w : World} {A : Around} {E : Value → Shared → Prop} {s : Shared} {h₀ : Heap} {L : Addr} {m : Str → Option Value} {news : List (Addr × Obj)}
theorem add_listsG {l b : Addr} {vs ws : List Value} {Q : Value → Shared → Prop} (F : Fr h₀ L s.heap m) (N : News h₀ L s.heap news) (hl : s.heap.IsList l vs.toArray) (hb : s.heap.IsList b ws.toArray)
    (hsz : vs.length + ws.length ≤ 1000)
    (h : ∀ D h', Fr h₀ L h' m → News h₀ L h' ((D, listOf (vs ++ ws).toArray 0) :: news) → (∀ p ∈ news, p.1 < D) → (∀ b o, s.heap.get? b = some o → b < D) → Q (.ref D) { s with heap := h' }) :
    wpAny (model prog w) A (binaryOp .Add (.ref l) (.ref b)) Q E s :=
  add_lists F N hl hb (fun h' F' N' => h _ h' F' N' (fun p hp => Heap.lt_size (N p hp).1) fun b o e => Heap.lt_size e) (by rw [sizeLine_eq]; omega)
end
end Mine
namespace Mine
section
variable {prog : Program} {w : World} {A : Around} {h₀ : Heap} {L : Addr} {m : Str → Option Value} {env : Env} {s : Shared}
/-- the turns of a list's block, with an invariant of one's own over the items told and the ledger -/
theorem comp_rest {elt : Expr} {x : Str} {scope : Scope} {cl : List (Str × Addr)} {S : List (Addr × Obj) → Prop} {P : Nat → Value → Prop} {Fin : List Value → List (Addr × Obj) → Prop} {n : Nat} {news : List (Addr × Obj)}
    (J : Nat → List Value → List (Addr × Obj) → Prop) (hj : J 0 [] news)
    (turn : ∀ i ys news v I oI C oC D m₂ h tk (E' : Value → Shared → Prop), i < n → J i ys news → P i v → LCg.NsObj oC m₂ → m₂ x = some v → Fr h₀ L h m → News h₀ L h ((I, oI) :: (C, oC) :: (D, LCg.lst ys) :: news) → LCg.Off3 I C D news → ((@Ne Nat I C) ∧ (@Ne Nat I D) ∧ (@Ne Nat C D)) →
      wpAny (model prog w) A (eval elt (compEnvC scope cl C env)) (LCg.CompEnd h₀ L m { s with heap := h, toks := tk } I oI C oC D (LCg.lst ys) S (fun y news' => J (i + 1) (ys ++ [y]) news')) E' { s with heap := h, toks := tk })
    (fin : ∀ ys news, J n ys news → Fin ys news) : LCg.CompRest prog w A h₀ L m env elt x scope cl s S P Fin n 0 [] news := by
  have key : ∀ (j i : Nat) (ys : List Value) (news : List (Addr × Obj)), i + j = n → J i ys news → LCg.CompRest prog w A h₀ L m env elt x scope cl s S P Fin j i ys news := by
    intro j
    induction j with
    | zero =>
      intro i ys news hi hy
      have e : i = n := by omega
      subst e
      exact LCg.CompRest.zero (fin ys news hy)
    | succ j ih =>
      intro i ys news hi hy
      refine LCg.CompRest.succ ?_
      intro v I oI C oC D m₂ h tk E' hv hC hx F N off ne
      refine wpAny_mono (turn i ys news v I oI C oC D m₂ h tk E' (by omega) hy hv hC hx F N off ne) (fun y s₂ hq => ?_) fun _ _ e => e
      obtain ⟨h', tk', nw, e, F', N', off', hS, hn⟩ := hq
      exact ⟨h', tk', nw, e, F', N', off', hS, ih (i + 1) _ _ (by omega) hn⟩
  exact key n 0 [] news (by omega) hj
end
abbrev lawNames : List Str := [Str.ofString "Text", sLit, sStr, sNum, Str.ofString "Name", Str.ofString "X9", sTok]
theorem SA.snoc {vs : List Value} {xs : List Str} {x : Str} {t : Tok} (h : SA vs xs) : SA (vs ++ [.str x t]) (xs ++ [x]) := h.append .one
end Mine
namespace Mine
section
variable {prog : Program} {w : World} {A : Around} {E : Value → Shared → Prop} {s : Shared}
theorem reads_lst {h : Heap} {a : Addr} {vs : List Value} {xs : List Str} (ht : h.IsList a vs.toArray) (q : SA vs xs) : ∃ as, Reads h (.ref a) (.list (xs.map .str)) as := by
  obtain ⟨o, e, c, n, d⟩ := ht
  obtain ⟨as, r⟩ := reads_SA (h := h) q
  exact ⟨_, reads_list_at e c d (by simpa using r)⟩
theorem shaped_lst {xs : List Str} (h : Ok xs) : SeqAt.shaped (.list (xs.map .str)) := by
  have l := lay_strs h
  unfold SeqAt.shaped
  simp only [PyData.canLay0, l.1, Bool.true_and]
  exact decide_eq_true (Nat.le_trans (show PyData.depth (.list (xs.map .str)) ≤ 2 by simp only [PyData.depth]; have := l.2; omega) (by decide))
theorem lst_eq {a b : Addr} {vs ws : List Value} {xs ys : List Str} {Q : Value → Shared → Prop} (ha : s.heap.IsList a vs.toArray) (hb : s.heap.IsList b ws.toArray) (qa : SA vs xs) (qb : SA ws ys)
    (oa : Ok xs) (ob : Ok ys) (hu : A.units + 64 < cLine) (h : Q (.bool (decide (xs = ys))) s) : wpAny (model prog w) A (compareOp .Eq (.ref a) (.ref b)) Q E s := by
  obtain ⟨as, ra⟩ := reads_lst ha qa
  obtain ⟨bs, rb⟩ := reads_lst hb qb
  refine eq_dataH ra rb (shaped_lst oa) (shaped_lst ob) hu ?_
  rw [PyData.eqv, eqv_strs]; exact h
theorem lst_ne {a b : Addr} {vs ws : List Value} {xs ys : List Str} {Q : Value → Shared → Prop} (ha : s.heap.IsList a vs.toArray) (hb : s.heap.IsList b ws.toArray) (qa : SA vs xs) (qb : SA ws ys)
    (oa : Ok xs) (ob : Ok ys) (hu : A.units + 64 < cLine) (h : Q (.bool (!decide (xs = ys))) s) : wpAny (model prog w) A (compareOp .NotEq (.ref a) (.ref b)) Q E s := by
  obtain ⟨as, ra⟩ := reads_lst ha qa
  obtain ⟨bs, rb⟩ := reads_lst hb qb
  refine ne_dataH ra rb (shaped_lst oa) (shaped_lst ob) hu ?_
  rw [PyData.eqv, eqv_strs]; exact h
/-- values that are tuples of these texts -/
inductive TS (h : Heap) : List Value → List (List Str) → Prop
  | nil : TS h [] []
  | cons {t : Addr} {us : List Value} {xs : List Str} {vs : List Value} {xss : List (List Str)} : IsTup h t us.toArray → SA us xs → TS h vs xss → TS h (.ref t :: vs) (xs :: xss)
theorem TS.snoc {h : Heap} {vs : List Value} {xss : List (List Str)} {t : Addr} {us : List Value} {xs : List Str} (a : TS h vs xss) (i : IsTup h t us.toArray) (q : SA us xs) : TS h (vs ++ [.ref t]) (xss ++ [xs]) := by
  induction a with
  | nil => exact .cons i q .nil
  | cons i' q' _ ih => exact .cons i' q' ih
theorem TS.up {h h' : Heap} {vs : List Value} {xss : List (List Str)} (a : TS h vs xss) (k : ∀ t (us : List Value), Value.ref t ∈ vs → IsTup h t us.toArray → IsTup h' t us.toArray) : TS h' vs xss := by
  induction a with
  | nil => exact .nil
  | cons i' q' _ ih => exact .cons (k _ _ (.head _) i') q' (ih fun t us m => k t us (.tail _ m))
theorem TS.length {h : Heap} {vs : List Value} {xss : List (List Str)} (a : TS h vs xss) : vs.length = xss.length := by
  induction a with
  | nil => rfl
  | cons _ _ _ ih => simp [ih]
abbrev dTup (xs : List Str) : PyData := .tuple (xs.map .str)
theorem reads_TS {h : Heap} {vs : List Value} {xss : List (List Str)} (a : TS h vs xss) : ∃ as, ReadsAll h vs (xss.map dTup) as := by
  induction a with
  | nil => exact ⟨_, .nil⟩
  | cons i q _ ih => obtain ⟨as, r⟩ := ih; obtain ⟨bs, r'⟩ := reads_tup i q; exact ⟨_, .cons r' r⟩
theorem eqv_tups : ∀ (xs ys : List (List Str)), PyData.eqvAll (xs.map dTup) (ys.map dTup) = decide (xs = ys)
  | [], [] => by simp [PyData.eqvAll]
  | [], _ :: _ => by simp [PyData.eqvAll]
  | _ :: _, [] => by simp [PyData.eqvAll]
  | x :: xs, y :: ys => by
    have ih := eqv_tups xs ys
    simp only [List.map_cons, PyData.eqvAll, dTup, PyData.eqv, ih, List.cons.injEq, Bool.decide_and, eqv_strs]
theorem lay_tups {xss : List (List Str)} (h : ∀ xs ∈ xss, Ok xs) : PyData.canLayAll0 (xss.map dTup) = true ∧ PyData.depthAll (xss.map dTup) ≤ 2 := by
  induction xss with
  | nil => simp [PyData.canLayAll0, PyData.depthAll]
  | cons x xs ih =>
    have h1 := ih fun y hy => h y (.tail _ hy)
    have h2 := lay_strs (h x (.head _))
    simp only [List.map_cons, PyData.canLayAll0, PyData.depthAll, dTup, PyData.canLay0, PyData.depth, h1.1, h2.1, Bool.and_self, true_and]
    have := h1.2
    have := h2.2
    omega
theorem shaped_tups {xss : List (List Str)} (h : ∀ xs ∈ xss, Ok xs) : SeqAt.shaped (.list (xss.map dTup)) := by
  have l := lay_tups h
  unfold SeqAt.shaped
  simp only [PyData.canLay0, l.1, Bool.true_and]
  exact decide_eq_true (Nat.le_trans (show PyData.depth (.list (xss.map dTup)) ≤ 3 by simp only [PyData.depth]; have := l.2; omega) (by decide))
theorem tups_ne {a b : Addr} {vs ws : List Value} {xss yss : List (List Str)} {Q : Value → Shared → Prop} (ha : s.heap.IsList a vs.toArray) (hb : s.heap.IsList b ws.toArray) (qa : TS s.heap vs xss) (qb : TS s.heap ws yss)
    (oa : ∀ xs ∈ xss, Ok xs) (ob : ∀ xs ∈ yss, Ok xs) (hu : A.units + 64 < cLine) (h : Q (.bool (!decide (xss = yss))) s) : wpAny (model prog w) A (compareOp .NotEq (.ref a) (.ref b)) Q E s := by
  obtain ⟨as, ra⟩ := reads_TS qa
  obtain ⟨bs, rb⟩ := reads_TS qb
  obtain ⟨o, e, c, n, d⟩ := ha
  obtain ⟨o', e', c', n', d'⟩ := hb
  refine ne_dataH (reads_list_at e c d (by simpa using ra)) (reads_list_at e' c' d' (by simpa using rb)) (shaped_tups oa) (shaped_tups ob) hu ?_
  rw [PyData.eqv, eqv_tups]; exact h
end
end Mine
namespace Mine
local macro_rules | `(tactic| k_all) => `(tactic| assumption)
local macro_rules | `(tactic| k_all) => `(tactic| (exact fun p hp => Nat.ne_of_lt (ktn_ltOf (by assumption) p hp)))
local macro_rules | `(tactic| k_inst) => `(tactic| exact InstAt.up (by assumption) (Fr.keep (by k_asm)))
local macro_rules | `(tactic| walk_at "StarOf ref") => `(tactic| (k_here; k_dflt (refine' star_heap ?k1 ?k2 ?m ?z ?_; (case k1 => k_asm); (case k2 => k_asm); (case m => is_tup); (case z => (rw [sizeLine_eq]; (try simp only [List.length_append, List.length_cons, List.length_nil]); omega)); k_whole); intro h' F' N' kst'; (try k_sweep); try dsimp only [List.nil_append, List.cons_append]))
local macro_rules | `(tactic| walk_at "call ref") => `(tactic| (k_here; k_dflt (refine' new_spec _ _ _ _ _ _ _ _ _ _ _ _ _ _ _ _ _ _ _ _ _ _ _ _ _ ?k1 ?k2 ?k3 ?k4 ?k5 ?k6 ?kd ?ku ?kz ?_; (case k1 => k_asm); (case k2 => k_asm); (case k3 => k_asm); (case k4 => k_asm); (case k5 => k_asm); (case k6 => first | exact rfl | assumption); (case kd => ktr_room); (case ku => ktr_units); (case kz => ((try simp only [List.length_append, List.length_cons, List.length_nil]); omega)); k_whole); intro x' dx' tx' tk' h' tk'' l1 l2 l3 F' N' kp' fr'; (try k_lt l1); (try k_lt2 l2); (try k_lt2 l3); (try dsimp only); (try k_unmd); (try k_fold)))
local macro_rules | `(tactic| walk_at "truthy ref") => `(tactic| (k_here; (with_reducible show wpAny _ _ (truthy (Value.ref _)) _ _ _); k_dflt (refine' tup_truthy ?F ?D ?z ?_; (case F => k_asm); (case D => assumption); (case z => (try simp only [List.length_append, List.length_cons, List.length_nil]); omega); k_whole); (try simp only [List.isEmpty_cons, List.isEmpty_nil, Bool.not_false, Bool.not_true])))
local macro_rules | `(tactic| walk_at "callWith ref") => `(tactic| (k_here; (with_reducible show wpAny _ _ (callWith _ (Value.ref _) _ (backTo _ (starEach (Expr.Starred _ _ :: _ :: _) _)) []) _ _ _); k_dflt (refine' callWith_S3 ?k1 ?k2 ?_; (case k1 => k_asm); (case k2 => k_is); k_whole)))
local macro_rules | `(tactic| walk_at "compareOp In str ref") => `(tactic| (k_here; (with_reducible show wpAny _ _ (compareOp CmpOp.In (Value.str _ _) (Value.ref _)) _ _ _); k_dflt (refine' topIn_K ?F ?X ?l ?k ?e ?lo ?_; (case F => k_asm); (case X => k_asm); (case l => k_is); (case k => k_keys); (case e => assumption); (case lo => rfl); k_whole); (try simp only [Option.isSome_none, Option.isSome_some])))
local macro_rules | `(tactic| walk_at "exec Raise some none") => `(tactic| refine AE.Raise_ae rfl ?_)
local macro_rules | `(tactic| walk_at "call type:AttributeError") => `(tactic| (k_here; refine AE.call_ae (fun h' e' hx' => ?_) (by size_fits)))
local macro_rules | `(tactic| k_inst) => `(tactic| assumption)
local macro_rules | `(tactic| walk_at "call builtin:len") => `(tactic| (k_here; (with_reducible show wpAny _ _ (call (Value.builtin "len") [Value.ref _]) _ _ _); (refine PyProof.Rows.len_tuple (by is_tup) (by simp only [List.size_toArray, List.length_append, List.length_cons, List.length_nil]; omega) ?_); (try simp only [List.size_toArray])))
local macro_rules | `(tactic| walk_at "call builtin:list.append") => `(tactic| (k_here; (with_reducible show wpAny _ _ (call (Value.builtin _) [Value.ref _, _]) _ _ _); k_dflt (refine' append_K ?k1 ?k2 ?k3 ?_ ?z; (case k1 => k_asm); (case k2 => k_asm); (case k3 => k_upd); (case z => (simp only [List.size_toArray, List.length_append, List.length_cons, List.length_nil]; rw [sizeLine_eq]; omega)); k_whole); intro h' F' N'; (try k_sweep)))
def stepN (xs : List Str) (x : Str) : List Str := if xs = [] then (if x = sTok then [] else if x = sStr then [sLit, sStr] else if x = sNum then [sLit, sNum] else [x]) else xs ++ [x]
def Up (x : Str) : Prop := 1 ≤ x.length ∧ x.length ≤ 100 ∧ Txt.isupper (Txt.item x 0) = true

set_option maxHeartbeats 4000000 in
theorem child_new (w : World) (p : Program) (loose : List Str) (mean : ExcName → Option Value) (mg mb : Str → Option Value)
   (dp un : Nat) (gd : Option (List Code)) (cn : Str) (cs : Scope) (a : Addr) (ccd : Value) (cl : List (Str × Addr)) (outer : List Env) (A₀ : Around) (base h₀ : Heap) (L : Addr) (m : Str → Option Value) (s : Shared)
   (Q E : Value → Shared → Prop) (news : List (Addr × Obj)) (self : Value) (x : Str) (tx : Tok) (y : Str) (ys : List Str)
   (B : Below A₀ base outer h₀) (F : Fr h₀ L s.heap m) (X : (Mine.hd.heap_39 w.params).In h₀) (N : News h₀ L s.heap news)
   (T : Top p loose mean mg mb h₀) (hk : cs.kind = .function) (hd : dp + 8 < recursionLimit) (hu : un + 40 < cLine)
   (hself : TokH w s.heap self (y :: ys)) (hl : ys.length ≤ 100) (hx : Up x)
   (hret : ∀ r made h' tk', Aft h₀ L m news s.heap h' made → TokM w made r (y :: ys ++ [x]) → Q r { s with heap := h', toks := tk' }) :
    wpAny (model Pg w) (ktrTop dp un gd cn cs L a ccd cl outer) (call (.ref 49) [self, .str x tx]) Q E s := by
  have kd : (Mine.hd.heap_39, Challenge.rw_ev0002_01) = (Mine.hd.heap_39, Challenge.rw_ev0002_01) := by (k_fill; rfl)
  clear kd
  obtain ⟨hx1, hx2, hx3⟩ := hx
  obtain ⟨xa, dxa, txa, tka, vs, n, rfl, e1, e2, e3, hvs⟩ := hself
  obtain _ | @⟨_, ty, vs, _, hvs⟩ := hvs
  have hlen := hvs.length
  refine wpAny_call ?_
  k_dflt (refine' Mine.code_defS ?k1 ?k2 ?k3 ?k4 ?k5 ?kA ?kF ?kK ?k6 ?k7 ?k8 ?k9 ?kB ?_ ?c2 ?c3 ?c4 ?c5; (case kA => exact rfl); (case kF => exact rfl); (case kK => exact hk); (case k1 => k_asm); (case k2 => k_asm); (case k3 => k_asm); (case k4 => exact News.nil); (case k5 => k_asm); (case k6 => k_is); (case k7 => k_is); (case k8 => ktr_room); (case k9 => exact BindsTo.of_eq rfl); (case c5 => decide); (case kB => exact locs rfl); (case c2 => exact rfl); (case c3 => exact rfl); (case c4 => exact rfl); k_whole)
  intro g' L' h' G FG' F' N' B' X' T'
  have up : ∀ b o, s.heap.get? b = some o → g'.get? b = some o := fun b o e => G b o e (by simp)
  have I : InstAt g' xa (instTok dxa) 59 (some (dictTok w tka txa)) := ⟨up _ _ e1, rfl, rfl, up _ _ e2⟩
  have e3' := up _ _ e3
  have It : IsTup g' txa (Value.str y ty :: vs).toArray := ⟨_, e3', rfl, _, rfl⟩
  (try dsimp only)
  k_unmd
  k_fold
  k_steps
  all_goals first
    | (refine hret _ _ _ _ (aft_end F N G (by k_asm) (by k_asm) (by k_asm)) ?_
       exact .inr (.inr (.inr ⟨_, _, _, _, _, rfl, by k_mem, by k_mem, by k_mem, SA.append (.cons hvs) .one⟩)))
    | exact absurd hx3 (by simp_all)
    | exact absurd hx1 (by omega)

set_option maxHeartbeats 4000000 in
theorem child_nil (w : World) (p : Program) (loose : List Str) (mean : ExcName → Option Value) (mg mb : Str → Option Value)
   (dp un : Nat) (gd : Option (List Code)) (cn : Str) (cs : Scope) (a : Addr) (ccd : Value) (cl : List (Str × Addr)) (outer : List Env) (A₀ : Around) (base h₀ : Heap) (L : Addr) (m : Str → Option Value) (s : Shared)
   (Q E : Value → Shared → Prop) (news : List (Addr × Obj)) (self : Value) (x : Str) (tx : Tok)
   (B : Below A₀ base outer h₀) (F : Fr h₀ L s.heap m) (X : (Mine.hd.heap_39 w.params).In h₀) (N : News h₀ L s.heap news)
   (T : Top p loose mean mg mb h₀) (hk : cs.kind = .function) (hd : dp + 8 < recursionLimit) (hu : un + 40 < cLine)
   (hself : TokH w s.heap self []) (hx : Up x) (hal : nsIn (Mine.hd.heap_39 w.params) 76 x = some none)
   (hret : ∀ r made h' tk', Aft h₀ L m news s.heap h' made → TokM w made r [x] → Q r { s with heap := h', toks := tk' }) :
    wpAny (model Pg w) (ktrTop dp un gd cn cs L a ccd cl outer) (call (.ref 49) [self, .str x tx]) Q E s := by
  have kd : (Mine.hd.heap_39, Challenge.rw_ev0002_01) = (Mine.hd.heap_39, Challenge.rw_ev0002_01) := by (k_fill; rfl)
  clear kd
  obtain ⟨hx1, hx2, hx3⟩ := hx
  obtain ⟨xa, dxa, txa, tka, vs, n, rfl, e1, e2, e3, hvs⟩ := hself
  obtain _ | _ := hvs
  refine wpAny_call ?_
  k_dflt (refine' Mine.code_defS ?k1 ?k2 ?k3 ?k4 ?k5 ?kA ?kF ?kK ?k6 ?k7 ?k8 ?k9 ?kB ?_ ?c2 ?c3 ?c4 ?c5; (case kA => exact rfl); (case kF => exact rfl); (case kK => exact hk); (case k1 => k_asm); (case k2 => k_asm); (case k3 => k_asm); (case k4 => exact News.nil); (case k5 => k_asm); (case k6 => k_is); (case k7 => k_is); (case k8 => ktr_room); (case k9 => exact BindsTo.of_eq rfl); (case c5 => decide); (case kB => exact locs rfl); (case c2 => exact rfl); (case c3 => exact rfl); (case c4 => exact rfl); k_whole)
  intro g' L' h' G FG' F' N' B' X' T'
  have up : ∀ b o, s.heap.get? b = some o → g'.get? b = some o := fun b o e => G b o e (by simp)
  have I : InstAt g' xa (instTok dxa) 59 (some (dictTok w tka txa)) := ⟨up _ _ e1, rfl, rfl, up _ _ e2⟩
  have e3' := up _ _ e3
  have It : IsTup g' txa ([] : List Value).toArray := ⟨_, e3', rfl, _, rfl⟩
  (try dsimp only)
  k_unmd
  k_fold
  k_steps
  all_goals first
    | (refine hret _ _ _ _ (aft_end F N G (by k_asm) (by k_asm) (by k_asm)) ?_
       exact .inr (.inr (.inr ⟨_, _, _, _, _, rfl, by k_mem, by k_mem, by k_mem, .one⟩)))
    | exact absurd hx3 (by simp_all)
    | exact absurd hx1 (by omega)

set_option maxHeartbeats 4000000 in
theorem child_Token (w : World) (p : Program) (loose : List Str) (mean : ExcName → Option Value) (mg mb : Str → Option Value)
   (dp un : Nat) (gd : Option (List Code)) (cn : Str) (cs : Scope) (a : Addr) (ccd : Value) (cl : List (Str × Addr)) (outer : List Env) (A₀ : Around) (base h₀ : Heap) (L : Addr) (m : Str → Option Value) (s : Shared)
   (Q E : Value → Shared → Prop) (news : List (Addr × Obj)) (self : Value) (tx : Tok)
   (B : Below A₀ base outer h₀) (F : Fr h₀ L s.heap m) (X : (Mine.hd.heap_39 w.params).In h₀) (N : News h₀ L s.heap news)
   (T : Top p loose mean mg mb h₀) (hk : cs.kind = .function) (hd : dp + 8 < recursionLimit) (hu : un + 40 < cLine)
   (hself : TokH w s.heap self [])
   (hret : ∀ h' tk', Aft h₀ L m news s.heap h' [] → Q (.ref 65) { s with heap := h', toks := tk' }) :
    wpAny (model Pg w) (ktrTop dp un gd cn cs L a ccd cl outer) (call (.ref 49) [self, .str (Str.ofString "Token") tx]) Q E s := by
  have kd : (Mine.hd.heap_39, Challenge.rw_ev0002_01) = (Mine.hd.heap_39, Challenge.rw_ev0002_01) := by (k_fill; rfl)
  clear kd
  obtain ⟨xa, dxa, txa, tka, vs, n, rfl, e1, e2, e3, hvs⟩ := hself
  obtain _ | _ := hvs
  refine wpAny_call ?_
  k_dflt (refine' Mine.code_defS ?k1 ?k2 ?k3 ?k4 ?k5 ?kA ?kF ?kK ?k6 ?k7 ?k8 ?k9 ?kB ?_ ?c2 ?c3 ?c4 ?c5; (case kA => exact rfl); (case kF => exact rfl); (case kK => exact hk); (case k1 => k_asm); (case k2 => k_asm); (case k3 => k_asm); (case k4 => exact News.nil); (case k5 => k_asm); (case k6 => k_is); (case k7 => k_is); (case k8 => ktr_room); (case k9 => exact BindsTo.of_eq rfl); (case c5 => decide); (case kB => exact locs rfl); (case c2 => exact rfl); (case c3 => exact rfl); (case c4 => exact rfl); k_whole)
  intro g' L' h' G FG' F' N' B' X' T'
  have up : ∀ b o, s.heap.get? b = some o → g'.get? b = some o := fun b o e => G b o e (by simp)
  have I : InstAt g' xa (instTok dxa) 59 (some (dictTok w tka txa)) := ⟨up _ _ e1, rfl, rfl, up _ _ e2⟩
  have e3' := up _ _ e3
  have It : IsTup g' txa ([] : List Value).toArray := ⟨_, e3', rfl, _, rfl⟩
  (try dsimp only)
  k_unmd
  k_fold
  k_steps
  exact hret _ _ (aft_end F N G (by k_asm) News.nil (by k_asm))

set_option maxHeartbeats 4000000 in
theorem child_String (w : World) (p : Program) (loose : List Str) (mean : ExcName → Option Value) (mg mb : Str → Option Value)
   (dp un : Nat) (gd : Option (List Code)) (cn : Str) (cs : Scope) (a : Addr) (ccd : Value) (cl : List (Str × Addr)) (outer : List Env) (A₀ : Around) (base h₀ : Heap) (L : Addr) (m : Str → Option Value) (s : Shared)
   (Q E : Value → Shared → Prop) (news : List (Addr × Obj)) (self : Value) (tx : Tok)
   (B : Below A₀ base outer h₀) (F : Fr h₀ L s.heap m) (X : (Mine.hd.heap_39 w.params).In h₀) (N : News h₀ L s.heap news)
   (T : Top p loose mean mg mb h₀) (hk : cs.kind = .function) (hd : dp + 8 < recursionLimit) (hu : un + 40 < cLine)
   (hself : TokH w s.heap self [])
   (hret : ∀ h' tk', Aft h₀ L m news s.heap h' [] → Q (.ref 69) { s with heap := h', toks := tk' }) :
    wpAny (model Pg w) (ktrTop dp un gd cn cs L a ccd cl outer) (call (.ref 49) [self, .str (Str.ofString "String") tx]) Q E s := by
  have kd : (Mine.hd.heap_39, Challenge.rw_ev0002_01) = (Mine.hd.heap_39, Challenge.rw_ev0002_01) := by (k_fill; rfl)
  clear kd
  obtain ⟨xa, dxa, txa, tka, vs, n, rfl, e1, e2, e3, hvs⟩ := hself
  obtain _ | _ := hvs
  refine wpAny_call ?_
  k_dflt (refine' Mine.code_defS ?k1 ?k2 ?k3 ?k4 ?k5 ?kA ?kF ?kK ?k6 ?k7 ?k8 ?k9 ?kB ?_ ?c2 ?c3 ?c4 ?c5; (case kA => exact rfl); (case kF => exact rfl); (case kK => exact hk); (case k1 => k_asm); (case k2 => k_asm); (case k3 => k_asm); (case k4 => exact News.nil); (case k5 => k_asm); (case k6 => k_is); (case k7 => k_is); (case k8 => ktr_room); (case k9 => exact BindsTo.of_eq rfl); (case c5 => decide); (case kB => exact locs rfl); (case c2 => exact rfl); (case c3 => exact rfl); (case c4 => exact rfl); k_whole)
  intro g' L' h' G FG' F' N' B' X' T'
  have up : ∀ b o, s.heap.get? b = some o → g'.get? b = some o := fun b o e => G b o e (by simp)
  have I : InstAt g' xa (instTok dxa) 59 (some (dictTok w tka txa)) := ⟨up _ _ e1, rfl, rfl, up _ _ e2⟩
  have e3' := up _ _ e3
  have It : IsTup g' txa ([] : List Value).toArray := ⟨_, e3', rfl, _, rfl⟩
  (try dsimp only)
  k_unmd
  k_fold
  k_steps
  exact hret _ _ (aft_end F N G (by k_asm) News.nil (by k_asm))

set_option maxHeartbeats 4000000 in
theorem child_Number (w : World) (p : Program) (loose : List Str) (mean : ExcName → Option Value) (mg mb : Str → Option Value)
   (dp un : Nat) (gd : Option (List Code)) (cn : Str) (cs : Scope) (a : Addr) (ccd : Value) (cl : List (Str × Addr)) (outer : List Env) (A₀ : Around) (base h₀ : Heap) (L : Addr) (m : Str → Option Value) (s : Shared)
   (Q E : Value → Shared → Prop) (news : List (Addr × Obj)) (self : Value) (tx : Tok)
   (B : Below A₀ base outer h₀) (F : Fr h₀ L s.heap m) (X : (Mine.hd.heap_39 w.params).In h₀) (N : News h₀ L s.heap news)
   (T : Top p loose mean mg mb h₀) (hk : cs.kind = .function) (hd : dp + 8 < recursionLimit) (hu : un + 40 < cLine)
   (hself : TokH w s.heap self [])
   (hret : ∀ h' tk', Aft h₀ L m news s.heap h' [] → Q (.ref 73) { s with heap := h', toks := tk' }) :
    wpAny (model Pg w) (ktrTop dp un gd cn cs L a ccd cl outer) (call (.ref 49) [self, .str (Str.ofString "Number") tx]) Q E s := by
  have kd : (Mine.hd.heap_39, Challenge.rw_ev0002_01) = (Mine.hd.heap_39, Challenge.rw_ev0002_01) := by (k_fill; rfl)
  clear kd
  obtain ⟨xa, dxa, txa, tka, vs, n, rfl, e1, e2, e3, hvs⟩ := hself
  obtain _ | _ := hvs
  refine wpAny_call ?_
  k_dflt (refine' Mine.code_defS ?k1 ?k2 ?k3 ?k4 ?k5 ?kA ?kF ?kK ?k6 ?k7 ?k8 ?k9 ?kB ?_ ?c2 ?c3 ?c4 ?c5; (case kA => exact rfl); (case kF => exact rfl); (case kK => exact hk); (case k1 => k_asm); (case k2 => k_asm); (case k3 => k_asm); (case k4 => exact News.nil); (case k5 => k_asm); (case k6 => k_is); (case k7 => k_is); (case k8 => ktr_room); (case k9 => exact BindsTo.of_eq rfl); (case c5 => decide); (case kB => exact locs rfl); (case c2 => exact rfl); (case c3 => exact rfl); (case c4 => exact rfl); k_whole)
  intro g' L' h' G FG' F' N' B' X' T'
  have up : ∀ b o, s.heap.get? b = some o → g'.get? b = some o := fun b o e => G b o e (by simp)
  have I : InstAt g' xa (instTok dxa) 59 (some (dictTok w tka txa)) := ⟨up _ _ e1, rfl, rfl, up _ _ e2⟩
  have e3' := up _ _ e3
  have It : IsTup g' txa ([] : List Value).toArray := ⟨_, e3', rfl, _, rfl⟩
  (try dsimp only)
  k_unmd
  k_fold
  k_steps
  exact hret _ _ (aft_end F N G (by k_asm) News.nil (by k_asm))

theorem raised_ground {base g h h' : Heap} {l : List Env} {e : Addr} {cls : Value} (R : RaisedSN base g l e cls [] h') (k : ∀ b o, h.get? b = some o → g.get? b = some o) : RaisedSN base h l e cls [] h' := by
  obtain ⟨B, a0, hB, hBG, _, hfl⟩ := R
  exact ⟨B, a0, hB, fun b o q nm => hBG b o (k b o q) nm, (fun q hq => nomatch hq), hfl⟩

set_option maxHeartbeats 4000000 in
theorem child_bad (w : World) (p : Program) (loose : List Str) (mean : ExcName → Option Value) (mg mb : Str → Option Value)
   (dp un : Nat) (gd : Option (List Code)) (cn : Str) (cs : Scope) (a : Addr) (ccd : Value) (cl : List (Str × Addr)) (outer : List Env) (A₀ : Around) (base h₀ : Heap) (L : Addr) (m : Str → Option Value) (s : Shared)
   (Q E : Value → Shared → Prop) (news : List (Addr × Obj)) (self : Value) (x : Str) (tx : Tok)
   (B : Below A₀ base outer h₀) (F : Fr h₀ L s.heap m) (X : (Mine.hd.heap_39 w.params).In h₀) (N : News h₀ L s.heap news)
   (T : Top p loose mean mg mb h₀) (hk : cs.kind = .function) (hd : dp + 8 < recursionLimit) (hu : un + 40 < cLine)
   (hx : x.length ≤ 100) (hbad : x.length = 0 ∨ Txt.isupper (Txt.item x 0) = false)
   (hraise : ∀ e h' tk', RaisedSN base s.heap (envX cn cs L a ccd cl :: outer) e (.type "AttributeError") [] h' → s.heap.UpToSlots h' → E (.ref e) { s with heap := h', toks := tk' }) :
    wpAny (model Pg w) (ktrTop dp un gd cn cs L a ccd cl outer) (call (.ref 49) [self, .str x tx]) Q E s := by
  have kd : (Mine.hd.heap_39, Challenge.rw_ev0002_01) = (Mine.hd.heap_39, Challenge.rw_ev0002_01) := by (k_fill; rfl)
  clear kd
  refine wpAny_call ?_
  k_dflt (refine' Mine.code_defS ?k1 ?k2 ?k3 ?k4 ?k5 ?kA ?kF ?kK ?k6 ?k7 ?k8 ?k9 ?kB ?_ ?c2 ?c3 ?c4 ?c5; (case kA => exact rfl); (case kF => exact rfl); (case kK => exact hk); (case k1 => k_asm); (case k2 => k_asm); (case k3 => k_asm); (case k4 => exact News.nil); (case k5 => k_asm); (case k6 => k_is); (case k7 => k_is); (case k8 => ktr_room); (case k9 => exact BindsTo.of_eq rfl); (case c5 => decide); (case kB => exact locs rfl); (case c2 => exact rfl); (case c3 => exact rfl); (case c4 => exact rfl); k_whole)
  intro g' L' h' G FG' F' N' B' X' T'
  have up : ∀ b o, s.heap.get? b = some o → g'.get? b = some o := fun b o e => G b o e (by simp)
  (try dsimp only)
  k_unmd
  k_fold
  k_steps
  all_goals try (exfalso; rcases hbad with h | h <;> simp_all; done)
  all_goals
      (rename AE.NewAE _ _ _ => hN
       obtain ⟨t9, he9⟩ := hN.there
       refine ⟨_, t9, rfl, he9, ?_⟩
       refine AE.leave_ae B' hN (by k_asm) fun h9 R9 U9 => ?_
       exact hraise _ _ _ (raised_ground R9 up) ((Heap.UpToSlots.of_keeps up).trans U9))

theorem alias_none (w : World) {x : Str} (h1 : x ≠ sTok) (h2 : x ≠ sStr) (h3 : x ≠ sNum) : nsIn (Mine.hd.heap_39 w.params) 76 x = some none := by
  have e : (Mine.hd.heap_39 w.params).lookup 76 = some ⟨.type "dict", none, .dict #[⟨PyData.keyHash w.params sTok, .str sTok 270, .ref 65⟩, ⟨PyData.keyHash w.params sStr, .str sStr 271, .ref 69⟩, ⟨PyData.keyHash w.params sNum, .str sNum 272, .ref 73⟩] 3, #[]⟩ := rfl
  unfold nsIn
  rw [e]
  have f : ∀ (y : Str) (t : Tok), y ≠ x → (Value.str y t).isStr x = false := by
    intro y t h
    simp only [Value.isStr, beq_eq_false_iff_ne, ne_eq]
    first | exact h | exact fun e => h e.symm
  simp only [List.find?_cons, f _ _ (Ne.symm h1), f _ _ (Ne.symm h2), f _ _ (Ne.symm h3), List.find?_nil]
  rfl

theorem child_good (w : World) (p : Program) (loose : List Str) (mean : ExcName → Option Value) (mg mb : Str → Option Value)
   (dp un : Nat) (gd : Option (List Code)) (cn : Str) (cs : Scope) (a : Addr) (ccd : Value) (cl : List (Str × Addr)) (outer : List Env) (A₀ : Around) (base h₀ : Heap) (L : Addr) (m : Str → Option Value) (s : Shared)
   (Q E : Value → Shared → Prop) (news : List (Addr × Obj)) (self : Value) (x : Str) (tx : Tok) (xs : List Str)
   (B : Below A₀ base outer h₀) (F : Fr h₀ L s.heap m) (X : (Mine.hd.heap_39 w.params).In h₀) (N : News h₀ L s.heap news)
   (T : Top p loose mean mg mb h₀) (hk : cs.kind = .function) (hd : dp + 8 < recursionLimit) (hu : un + 40 < cLine)
   (hself : TokH w s.heap self xs) (hl : xs.length ≤ 100) (hx : Up x)
   (hret : ∀ r made h' tk', Aft h₀ L m news s.heap h' made → TokM w made r (stepN xs x) → Q r { s with heap := h', toks := tk' }) :
    wpAny (model Pg w) (ktrTop dp un gd cn cs L a ccd cl outer) (call (.ref 49) [self, .str x tx]) Q E s := by
  cases xs with
  | cons y ys =>
    exact child_new w p loose mean mg mb dp un gd cn cs a ccd cl outer A₀ base h₀ L m s Q E news self x tx y ys B F X N T hk hd hu hself (by simp only [List.length_cons] at hl; omega) hx fun r made h' tk' A t => hret r made h' tk' A (by unfold stepN; rw [if_neg (by simp)]; exact t)
  | nil =>
    by_cases h1 : x = sTok
    · subst h1
      exact child_Token w p loose mean mg mb dp un gd cn cs a ccd cl outer A₀ base h₀ L m s Q E news self tx B F X N T hk hd hu hself fun h' tk' A => hret _ [] h' tk' A (.inl ⟨rfl, by decide +kernel⟩)
    by_cases h2 : x = sStr
    · subst h2
      exact child_String w p loose mean mg mb dp un gd cn cs a ccd cl outer A₀ base h₀ L m s Q E news self tx B F X N T hk hd hu hself fun h' tk' A => hret _ [] h' tk' A (.inr (.inl ⟨rfl, by decide +kernel⟩))
    by_cases h3 : x = sNum
    · subst h3
      exact child_Number w p loose mean mg mb dp un gd cn cs a ccd cl outer A₀ base h₀ L m s Q E news self tx B F X N T hk hd hu hself fun h' tk' A => hret _ [] h' tk' A (.inr (.inr (.inl ⟨rfl, by decide +kernel⟩)))
    exact child_nil w p loose mean mg mb dp un gd cn cs a ccd cl outer A₀ base h₀ L m s Q E news self x tx B F X N T hk hd hu hself hx (alias_none w h1 h2 h3) fun r made h' tk' A t => hret r made h' tk' A (by unfold stepN; rw [if_pos rfl, if_neg h1, if_neg h2, if_neg h3]; exact t)
end Mine
namespace Mine
local macro_rules | `(tactic| k_all) => `(tactic| assumption)
local macro_rules | `(tactic| k_all) => `(tactic| (exact fun p hp => Nat.ne_of_lt (ktn_ltOf (by assumption) p hp)))
local macro_rules | `(tactic| k_inst) => `(tactic| exact InstAt.up (by assumption) (Fr.keep (by k_asm)))
local macro_rules | `(tactic| walk_at "StarOf ref") => `(tactic| (k_here; k_dflt (refine' star_heap ?k1 ?k2 ?m ?z ?_; (case k1 => k_asm); (case k2 => k_asm); (case m => is_tup); (case z => (rw [sizeLine_eq]; (try simp only [List.length_append, List.length_cons, List.length_nil]); omega)); k_whole); intro h' F' N' kst'; (try k_sweep); try dsimp only [List.nil_append, List.cons_append]))
local macro_rules | `(tactic| walk_at "call ref") => `(tactic| (k_here; k_dflt (refine' new_spec _ _ _ _ _ _ _ _ _ _ _ _ _ _ _ _ _ _ _ _ _ _ _ _ _ ?k1 ?k2 ?k3 ?k4 ?k5 ?k6 ?kd ?ku ?kz ?_; (case k1 => k_asm); (case k2 => k_asm); (case k3 => k_asm); (case k4 => k_asm); (case k5 => k_asm); (case k6 => first | exact rfl | assumption); (case kd => ktr_room); (case ku => ktr_units); (case kz => ((try simp only [List.length_append, List.length_cons, List.length_nil]); omega)); k_whole); intro x' dx' tx' tk' h' tk'' l1 l2 l3 F' N' kp' fr'; (try k_lt l1); (try k_lt2 l2); (try k_lt2 l3); (try dsimp only); (try k_unmd); (try k_fold)))
local macro_rules | `(tactic| walk_at "truthy ref") => `(tactic| (k_here; (with_reducible show wpAny _ _ (truthy (Value.ref _)) _ _ _); k_dflt (refine' tup_truthy ?F ?D ?z ?_; (case F => k_asm); (case D => assumption); (case z => (try simp only [List.length_append, List.length_cons, List.length_nil]); omega); k_whole); (try simp only [List.isEmpty_cons, List.isEmpty_nil, Bool.not_false, Bool.not_true])))
local macro_rules | `(tactic| walk_at "callWith ref") => `(tactic| (k_here; (with_reducible show wpAny _ _ (callWith _ (Value.ref _) _ (backTo _ (starEach (Expr.Starred _ _ :: _ :: _) _)) []) _ _ _); k_dflt (refine' callWith_S3 ?k1 ?k2 ?_; (case k1 => k_asm); (case k2 => k_is); k_whole)))
local macro_rules | `(tactic| walk_at "compareOp In str ref") => `(tactic| (k_here; (with_reducible show wpAny _ _ (compareOp CmpOp.In (Value.str _ _) (Value.ref _)) _ _ _); k_dflt (refine' topIn_K ?F ?X ?l ?k ?e ?lo ?_; (case F => k_asm); (case X => k_asm); (case l => k_is); (case k => k_keys); (case e => assumption); (case lo => rfl); k_whole); (try simp only [Option.isSome_none, Option.isSome_some])))
local macro_rules | `(tactic| walk_at "exec Raise some none") => `(tactic| refine AE.Raise_ae rfl ?_)
local macro_rules | `(tactic| walk_at "call type:AttributeError") => `(tactic| (k_here; refine AE.call_ae (fun h' e' hx' => ?_) (by size_fits)))
local macro_rules | `(tactic| k_inst) => `(tactic| assumption)
local macro_rules | `(tactic| walk_at "call builtin:len") => `(tactic| (k_here; (with_reducible show wpAny _ _ (call (Value.builtin "len") [Value.ref _]) _ _ _); (refine PyProof.Rows.len_tuple (by is_tup) (by simp only [List.size_toArray, List.length_append, List.length_cons, List.length_nil]; omega) ?_); (try simp only [List.size_toArray])))
local macro_rules | `(tactic| walk_at "call builtin:list.append") => `(tactic| (k_here; (with_reducible show wpAny _ _ (call (Value.builtin _) [Value.ref _, _]) _ _ _); k_dflt (refine' append_K ?k1 ?k2 ?k3 ?_ ?z; (case k1 => k_asm); (case k2 => k_asm); (case k3 => k_upd); (case z => (simp only [List.size_toArray, List.length_append, List.length_cons, List.length_nil]; rw [sizeLine_eq]; omega)); k_whole); intro h' F' N'; (try k_sweep)))
abbrev sNode : Str := Str.ofString "node"
def SttJ (w : World) (xs : List Str) (i : Nat) (m : Str → Option Value) (news : List (Addr × Obj)) : Prop :=
  ∃ v made, m sNode = some v ∧ TokM w made v ((xs.take i).foldl stepN []) ∧ ∀ p ∈ made, p ∈ news
theorem stepN_len (xs : List Str) (x : Str) : (stepN xs x).length ≤ xs.length + 2 := by
  unfold stepN
  split
  · split
    · simp
    · split
      · simp
      · split <;> simp
  · simp
theorem fold_len : ∀ (l : List Str) (xs : List Str), (l.foldl stepN xs).length ≤ xs.length + 2 * l.length
  | [], _ => by simp
  | x :: l, xs => by
    have h1 := fold_len l (stepN xs x)
    have h2 := stepN_len xs x
    simp only [List.foldl_cons, List.length_cons]
    omega
set_option maxHeartbeats 4000000 in
theorem stt_good (w : World) (p : Program) (loose : List Str) (mean : ExcName → Option Value) (mg mb : Str → Option Value)
   (dp un : Nat) (gd : Option (List Code)) (cn : Str) (cs : Scope) (a : Addr) (ccd : Value) (cl : List (Str × Addr)) (outer : List Env) (A₀ : Around) (base h₀ : Heap) (L : Addr) (m : Str → Option Value) (s : Shared)
   (Q E : Value → Shared → Prop) (news : List (Addr × Obj)) (x : Str) (tx : Tok) (xs : List Str)
   (B : Below A₀ base outer h₀) (F : Fr h₀ L s.heap m) (X : (Mine.hd.heap_39 w.params).In h₀) (N : News h₀ L s.heap news)
   (T : Top p loose mean mg mb h₀) (hk : cs.kind = .function) (hd : dp + 16 < recursionLimit) (hu : un + 80 < cLine)
   (hx : x = Txt.join sDot xs) (hx0 : x.length ≠ 0) (hx1 : x.length ≤ 10000) (hne : xs ≠ []) (hl : xs.length ≤ 40) (hup : ∀ y ∈ xs, Up y) (hdot : ∀ y ∈ xs, 46 ∉ y.cps.toList)
   (hret : ∀ r made h' tk', Aft h₀ L m news s.heap h' made → TokM w made r (xs.foldl stepN []) → Q r { s with heap := h', toks := tk' }) :
    wpAny (model Pg w) (ktrTop dp un gd cn cs L a ccd cl outer) (call (.ref 90) [.str x tx]) Q E s := by
  have kd : (Mine.hd.heap_39, Challenge.rw_ev0002_01) = (Mine.hd.heap_39, Challenge.rw_ev0002_01) := by (k_fill; rfl)
  clear kd
  refine wpAny_call ?_
  k_dflt (refine' Mine.code_defS ?k1 ?k2 ?k3 ?k4 ?k5 ?kA ?kF ?kK ?k6 ?k7 ?k8 ?k9 ?kB ?_ ?c2 ?c3 ?c4 ?c5; (case kA => exact rfl); (case kF => exact rfl); (case kK => exact hk); (case k1 => k_asm); (case k2 => k_asm); (case k3 => k_asm); (case k4 => exact News.nil); (case k5 => k_asm); (case k6 => k_is); (case k7 => k_is); (case k8 => ktr_room); (case k9 => exact BindsTo.of_eq rfl); (case c5 => decide); (case kB => exact locs rfl); (case c2 => exact rfl); (case c3 => exact rfl); (case c4 => exact rfl); k_whole)
  intro g' L' h' G FG' F' N' B' X' T'
  have up : ∀ b o, s.heap.get? b = some o → g'.get? b = some o := fun b o e => G b o e (by simp)
  (try dsimp only)
  k_unmd
  k_fold
  repeat' ((fail_if_success (with_reducible show wpAny _ _ (pyIter _) _ _ _)); (fail_if_success (with_reducible show wpAny _ _ (call (Value.builtin "str.split") _) _ _ _)); (first | (k_unfold; (try dsimp only)) | (k_end; wrow_close) | walk1 | (dsimp only; walk1) | (leave1; walk_say "STEP leave1"; try dsimp only) | fail "no step"))
  · refine KSpl.split1 (by k_asm) (by k_asm) (by decide) (fun D l h1 k e1 hs F1 N1 l1 => ?_) (by rw [sizeLine_eq]; omega)
    dsimp only
    rw [hx, split_join hne hdot] at e1
    have hsa : SA (strValues l) xs := e1 ▸ SA.of l
    refine iter_list (SttJ w xs) rfl F1 N1 (News.isList N1 (.head _)) ⟨.ref 65, [], rfl, .inl ⟨rfl, rfl⟩, fun p hp => nomatch hp⟩ ?_ ?_
    · intro i v m₁ news₁ h2 tk2 own wr hv hJ hoff hnew _ F2 N2
      obtain ⟨nv, made, hm, ht, hsub⟩ := hJ
      obtain ⟨y, ty, hy, rfl⟩ := hsa.get hv
      have F3 := fr_under F2 hm
      have hy' := List.mem_of_getElem? hy
      have htk : (xs.take (i + 1)).foldl stepN [] = stepN ((xs.take i).foldl stepN []) y := by
        rw [List.take_add_one, hy]; simp
      have hlen := fold_len (xs.take i) []
      have hlen2 : (xs.take i).length ≤ xs.length := by rw [List.length_take]; omega
      have X2 : (Mine.hd.heap_39 w.params).In h2 := X'.keeps (Fr.keep F3)
      have hT := TokM.heap X2 (fun p hp => (N2 p (List.mem_append_right _ (hsub p hp))).1) ht
      have hT0 := hT
      obtain ⟨xa, dxa, txa, tka, vs, n, rfl, q1, q2, q3, hvs⟩ := hT
      have I : InstAt h2 xa (instTok dxa) 59 (some (dictTok w tka txa)) := ⟨q1, rfl, rfl, q2⟩
      clear F2 F1 N1
      repeat' ((fail_if_success (with_reducible show wpAny _ _ (pyIter _) _ _ _)); (fail_if_success (with_reducible show wpAny _ _ (call (Value.ref 49) _) _ _ _)); (first | (k_unfold; (try dsimp only)) | (k_end; wrow_close) | walk1 | (dsimp only; walk1) | (leave1; walk_say "STEP leave1"; try dsimp only) | fail "no step"))
      refine child_good w _ _ _ _ _ _ _ _ _ _ _ _ _ _ _ _ _ _ _ _ _ _ (own ++ news₁) _ y ty _ B' (by k_asm) (by k_asm) (by k_asm) (by k_asm) rfl (by ktr_room) (by ktr_units) hT0 ?_ (hup y hy') ?_
      · simp only [List.length_nil] at hlen; omega
      intro r made' h3 tk3 A3 ht3
      have F4 := A3.F
      have N4 := A3.N
      dsimp only
      repeat' ((fail_if_success (with_reducible show wpAny _ _ (pyIter _) _ _ _)); (first | (k_unfold; (try dsimp only)) | (k_end; wrow_close) | walk1 | (dsimp only; walk1) | (leave1; walk_say "STEP leave1"; try dsimp only) | fail "no step"))
      show TurnE _ _ _ _ _ _ _
      refine TurnE.intro (news₂ := made' ++ news₁) (by k_asm) (news_swap (by k_asm)) (fun p hp => ?_) ⟨r, made', rfl, htk ▸ ht3, fun p hp => List.mem_append_left _ hp⟩
      rcases List.mem_append.mp hp with hp | hp
      · exact hnew _ (A3.fresh p hp)
      · exact hoff p hp
    · intro m₁ news₁ h2 tk2 hJ F2 N2
      obtain ⟨nv, made, hm, ht, hsub⟩ := hJ
      have F3 := fr_name F2 hm
      clear F2 F1 N1
      repeat' ((fail_if_success (with_reducible show wpAny _ _ (pyIter _) _ _ _)); (first | (k_unfold; (try dsimp only)) | (k_end; wrow_close) | walk1 | (dsimp only; walk1) | (leave1; walk_say "STEP leave1"; try dsimp only) | fail "no step"))
      rw [hsa.length, List.take_length] at ht
      exact hret nv made _ _ (aft_end F N G (by k_asm) (fun p hp => N2 p (hsub p hp)) (by k_asm)) ht
  · exact absurd (by omega) hx0
end Mine
namespace Mine
local macro_rules | `(tactic| k_all) => `(tactic| assumption)
local macro_rules | `(tactic| k_all) => `(tactic| (exact fun p hp => Nat.ne_of_lt (ktn_ltOf (by assumption) p hp)))
local macro_rules | `(tactic| k_inst) => `(tactic| exact InstAt.up (by assumption) (Fr.keep (by k_asm)))
local macro_rules | `(tactic| walk_at "StarOf ref") => `(tactic| (k_here; k_dflt (refine' star_heap ?k1 ?k2 ?m ?z ?_; (case k1 => k_asm); (case k2 => k_asm); (case m => is_tup); (case z => (rw [sizeLine_eq]; (try simp only [List.length_append, List.length_cons, List.length_nil]); omega)); k_whole); intro h' F' N' kst'; (try k_sweep); try dsimp only [List.nil_append, List.cons_append]))
local macro_rules | `(tactic| walk_at "call ref") => `(tactic| (k_here; k_dflt (refine' new_spec _ _ _ _ _ _ _ _ _ _ _ _ _ _ _ _ _ _ _ _ _ _ _ _ _ ?k1 ?k2 ?k3 ?k4 ?k5 ?k6 ?kd ?ku ?kz ?_; (case k1 => k_asm); (case k2 => k_asm); (case k3 => k_asm); (case k4 => k_asm); (case k5 => k_asm); (case k6 => first | exact rfl | assumption); (case kd => ktr_room); (case ku => ktr_units); (case kz => ((try simp only [List.length_append, List.length_cons, List.length_nil]); omega)); k_whole); intro x' dx' tx' tk' h' tk'' l1 l2 l3 F' N' kp' fr'; (try k_lt l1); (try k_lt2 l2); (try k_lt2 l3); (try dsimp only); (try k_unmd); (try k_fold)))
local macro_rules | `(tactic| walk_at "truthy ref") => `(tactic| (k_here; (with_reducible show wpAny _ _ (truthy (Value.ref _)) _ _ _); k_dflt (refine' tup_truthy ?F ?D ?z ?_; (case F => k_asm); (case D => assumption); (case z => (try simp only [List.length_append, List.length_cons, List.length_nil]); omega); k_whole); (try simp only [List.isEmpty_cons, List.isEmpty_nil, Bool.not_false, Bool.not_true])))
local macro_rules | `(tactic| walk_at "callWith ref") => `(tactic| (k_here; (with_reducible show wpAny _ _ (callWith _ (Value.ref _) _ (backTo _ (starEach (Expr.Starred _ _ :: _ :: _) _)) []) _ _ _); k_dflt (refine' callWith_S3 ?k1 ?k2 ?_; (case k1 => k_asm); (case k2 => k_is); k_whole)))
local macro_rules | `(tactic| walk_at "compareOp In str ref") => `(tactic| (k_here; (with_reducible show wpAny _ _ (compareOp CmpOp.In (Value.str _ _) (Value.ref _)) _ _ _); k_dflt (refine' topIn_K ?F ?X ?l ?k ?e ?lo ?_; (case F => k_asm); (case X => k_asm); (case l => k_is); (case k => k_keys); (case e => assumption); (case lo => rfl); k_whole); (try simp only [Option.isSome_none, Option.isSome_some])))
local macro_rules | `(tactic| walk_at "exec Raise some none") => `(tactic| refine AE.Raise_ae rfl ?_)
local macro_rules | `(tactic| walk_at "call type:AttributeError") => `(tactic| (k_here; refine AE.call_ae (fun h' e' hx' => ?_) (by size_fits)))
local macro_rules | `(tactic| k_inst) => `(tactic| assumption)
local macro_rules | `(tactic| walk_at "call builtin:len") => `(tactic| (k_here; (with_reducible show wpAny _ _ (call (Value.builtin "len") [Value.ref _]) _ _ _); (refine PyProof.Rows.len_tuple (by is_tup) (by simp only [List.size_toArray, List.length_append, List.length_cons, List.length_nil]; omega) ?_); (try simp only [List.size_toArray])))
local macro_rules | `(tactic| walk_at "call builtin:list.append") => `(tactic| (k_here; (with_reducible show wpAny _ _ (call (Value.builtin _) [Value.ref _, _]) _ _ _); k_dflt (refine' append_K ?k1 ?k2 ?k3 ?_ ?z; (case k1 => k_asm); (case k2 => k_asm); (case k3 => k_upd); (case z => (simp only [List.size_toArray, List.length_append, List.length_cons, List.length_nil]; rw [sizeLine_eq]; omega)); k_whole); intro h' F' N'; (try k_sweep)))
set_option maxHeartbeats 4000000 in
theorem stt_bad (w : World) (p : Program) (loose : List Str) (mean : ExcName → Option Value) (mg mb : Str → Option Value)
   (dp un : Nat) (gd : Option (List Code)) (cn : Str) (cs : Scope) (a : Addr) (ccd : Value) (cl : List (Str × Addr)) (outer : List Env) (A₀ : Around) (base h₀ : Heap) (L : Addr) (m : Str → Option Value) (s : Shared)
   (Q E : Value → Shared → Prop) (news : List (Addr × Obj)) (x : Str) (tx : Tok) (pre : List Str) (bad : Str) (post : List Str)
   (B : Below A₀ base outer h₀) (F : Fr h₀ L s.heap m) (X : (Mine.hd.heap_39 w.params).In h₀) (N : News h₀ L s.heap news)
   (T : Top p loose mean mg mb h₀) (hk : cs.kind = .function) (hd : dp + 16 < recursionLimit) (hu : un + 80 < cLine)
   (hx : x = Txt.join sDot (pre ++ bad :: post)) (hx0 : x.length ≠ 0) (hx1 : x.length ≤ 10000) (hl : pre.length ≤ 40) (hup : ∀ y ∈ pre, Up y) (hdot : ∀ y ∈ pre ++ bad :: post, 46 ∉ y.cps.toList)
   (hb1 : bad.length ≤ 100) (hb2 : bad.length = 0 ∨ Txt.isupper (Txt.item bad 0) = false)
   (hraise : ∀ e h' tk', RaisedSN base s.heap (envX cn cs L a ccd cl :: outer) e (.type "AttributeError") [] h' → s.heap.UpToSlots h' → E (.ref e) { s with heap := h', toks := tk' }) :
    wpAny (model Pg w) (ktrTop dp un gd cn cs L a ccd cl outer) (call (.ref 90) [.str x tx]) Q E s := by
  have kd : (Mine.hd.heap_39, Challenge.rw_ev0002_01) = (Mine.hd.heap_39, Challenge.rw_ev0002_01) := by (k_fill; rfl)
  clear kd
  refine wpAny_call ?_
  k_dflt (refine' Mine.code_defS ?k1 ?k2 ?k3 ?k4 ?k5 ?kA ?kF ?kK ?k6 ?k7 ?k8 ?k9 ?kB ?_ ?c2 ?c3 ?c4 ?c5; (case kA => exact rfl); (case kF => exact rfl); (case kK => exact hk); (case k1 => k_asm); (case k2 => k_asm); (case k3 => k_asm); (case k4 => exact News.nil); (case k5 => k_asm); (case k6 => k_is); (case k7 => k_is); (case k8 => ktr_room); (case k9 => exact BindsTo.of_eq rfl); (case c5 => decide); (case kB => exact locs rfl); (case c2 => exact rfl); (case c3 => exact rfl); (case c4 => exact rfl); k_whole)
  intro g' L' h' G FG' F' N' B' X' T'
  have up : ∀ b o, s.heap.get? b = some o → g'.get? b = some o := fun b o e => G b o e (by simp)
  (try dsimp only)
  k_unmd
  k_fold
  repeat' ((fail_if_success (with_reducible show wpAny _ _ (pyIter _) _ _ _)); (fail_if_success (with_reducible show wpAny _ _ (call (Value.builtin "str.split") _) _ _ _)); (first | (k_unfold; (try dsimp only)) | (k_end; wrow_close) | walk1 | (dsimp only; walk1) | (leave1; walk_say "STEP leave1"; try dsimp only) | fail "no step"))
  · refine KSpl.split1 (by k_asm) (by k_asm) (by decide) (fun D l h1 k e1 hs F1 N1 l1 => ?_) (by rw [sizeLine_eq]; omega)
    dsimp only
    rw [hx, split_join (by simp) hdot] at e1
    have hsa : SA (strValues l) (pre ++ bad :: post) := e1 ▸ SA.of l
    refine iter_list (fun i m l => i ≤ pre.length ∧ SttJ w pre i m l) rfl F1 N1 (News.isList N1 (.head _)) ⟨Nat.zero_le _, .ref 65, [], rfl, .inl ⟨rfl, rfl⟩, fun p hp => nomatch hp⟩ ?_ ?_
    · intro i v m₁ news₁ h2 tk2 own wr hv hJ hoff hnew _ F2 N2
      obtain ⟨hi, nv, made, hm, ht, hsub⟩ := hJ
      obtain ⟨y, ty, hy, rfl⟩ := hsa.get hv
      have F3 := fr_under F2 hm
      have hlen := fold_len (pre.take i) []
      have hlen2 : (pre.take i).length ≤ pre.length := by rw [List.length_take]; omega
      have X2 : (Mine.hd.heap_39 w.params).In h2 := X'.keeps (Fr.keep F3)
      have hT := TokM.heap X2 (fun p hp => (N2 p (List.mem_append_right _ (hsub p hp))).1) ht
      have hT0 := hT
      obtain ⟨xa, dxa, txa, tka, vs, n, rfl, q1, q2, q3, hvs⟩ := hT
      have I : InstAt h2 xa (instTok dxa) 59 (some (dictTok w tka txa)) := ⟨q1, rfl, rfl, q2⟩
      clear F2 F1 N1
      repeat' ((fail_if_success (with_reducible show wpAny _ _ (pyIter _) _ _ _)); (fail_if_success (with_reducible show wpAny _ _ (call (Value.ref 49) _) _ _ _)); (first | (k_unfold; (try dsimp only)) | (k_end; wrow_close) | walk1 | (dsimp only; walk1) | (leave1; walk_say "STEP leave1"; try dsimp only) | fail "no step"))
      by_cases hip : i < pre.length
      · rw [List.getElem?_append_left hip] at hy
        have hy' := List.mem_of_getElem? hy
        have htk : (pre.take (i + 1)).foldl stepN [] = stepN ((pre.take i).foldl stepN []) y := by
          rw [List.take_add_one, hy]; simp
        refine child_good w _ _ _ _ _ _ _ _ _ _ _ _ _ _ _ _ _ _ _ _ _ _ (own ++ news₁) _ y ty _ B' (by k_asm) (by k_asm) (by k_asm) (by k_asm) rfl (by ktr_room) (by ktr_units) hT0 ?_ (hup y hy') ?_
        · simp only [List.length_nil] at hlen; omega
        intro r made' h3 tk3 A3 ht3
        have F4 := A3.F
        have N4 := A3.N
        dsimp only
        repeat' ((fail_if_success (with_reducible show wpAny _ _ (pyIter _) _ _ _)); (first | (k_unfold; (try dsimp only)) | (k_end; wrow_close) | walk1 | (dsimp only; walk1) | (leave1; walk_say "STEP leave1"; try dsimp only) | fail "no step"))
        show TurnE _ _ _ _ _ _ _
        refine TurnE.intro (news₂ := made' ++ news₁) (by k_asm) (news_swap (by k_asm)) (fun p hp => ?_) ⟨hip, r, made', rfl, htk ▸ ht3, fun p hp => List.mem_append_left _ hp⟩
        rcases List.mem_append.mp hp with hp | hp
        · exact hnew _ (A3.fresh p hp)
        · exact hoff p hp
      · obtain rfl : i = pre.length := by omega
        rw [List.getElem?_append_right (Nat.le_refl _), Nat.sub_self] at hy
        simp only [List.getElem?_cons_zero, Option.some.injEq] at hy
        subst hy
        refine child_bad w _ _ _ _ _ _ _ _ _ _ _ _ _ _ _ _ _ _ _ _ _ _ (own ++ news₁) _ bad ty B' (by k_asm) (by k_asm) (by k_asm) (by k_asm) rfl (by ktr_room) (by ktr_units) hb1 hb2 ?_
        intro e h3 tk3 R3 U3
        refine leave_onSN B' (by k_asm) R3 U3 fun h4 R4 _ U4 => ?_
        exact hraise _ _ _ (raised_ground R4 up) ((Heap.UpToSlots.of_keeps up).trans U4)
    · intro m₁ news₁ h2 tk2 hJ F2 N2
      have := hsa.length
      have := hJ.1
      simp only [List.length_append, List.length_cons] at *
      omega
  · exact absurd (by omega) hx0
end Mine
namespace Mine
local macro_rules | `(tactic| k_all) => `(tactic| assumption)
local macro_rules | `(tactic| k_all) => `(tactic| (exact fun p hp => Nat.ne_of_lt (ktn_ltOf (by assumption) p hp)))
local macro_rules | `(tactic| k_inst) => `(tactic| exact InstAt.up (by assumption) (Fr.keep (by k_asm)))
local macro_rules | `(tactic| walk_at "StarOf ref") => `(tactic| (k_here; k_dflt (refine' star_heap ?k1 ?k2 ?m ?z ?_; (case k1 => k_asm); (case k2 => k_asm); (case m => is_tup); (case z => (rw [sizeLine_eq]; (try simp only [List.length_append, List.length_cons, List.length_nil]); omega)); k_whole); intro h' F' N' kst'; (try k_sweep); try dsimp only [List.nil_append, List.cons_append]))
local macro_rules | `(tactic| walk_at "call ref") => `(tactic| (k_here; k_dflt (refine' new_spec _ _ _ _ _ _ _ _ _ _ _ _ _ _ _ _ _ _ _ _ _ _ _ _ _ ?k1 ?k2 ?k3 ?k4 ?k5 ?k6 ?kd ?ku ?kz ?_; (case k1 => k_asm); (case k2 => k_asm); (case k3 => k_asm); (case k4 => k_asm); (case k5 => k_asm); (case k6 => first | exact rfl | assumption); (case kd => ktr_room); (case ku => ktr_units); (case kz => ((try simp only [List.length_append, List.length_cons, List.length_nil]); omega)); k_whole); intro x' dx' tx' tk' h' tk'' l1 l2 l3 F' N' kp' fr'; (try k_lt l1); (try k_lt2 l2); (try k_lt2 l3); (try dsimp only); (try k_unmd); (try k_fold)))
local macro_rules | `(tactic| walk_at "truthy ref") => `(tactic| (k_here; (with_reducible show wpAny _ _ (truthy (Value.ref _)) _ _ _); k_dflt (refine' tup_truthy ?F ?D ?z ?_; (case F => k_asm); (case D => assumption); (case z => (try simp only [List.length_append, List.length_cons, List.length_nil]); omega); k_whole); (try simp only [List.isEmpty_cons, List.isEmpty_nil, Bool.not_false, Bool.not_true])))
local macro_rules | `(tactic| walk_at "callWith ref") => `(tactic| (k_here; (with_reducible show wpAny _ _ (callWith _ (Value.ref _) _ (backTo _ (starEach (Expr.Starred _ _ :: _ :: _) _)) []) _ _ _); k_dflt (refine' callWith_S3 ?k1 ?k2 ?_; (case k1 => k_asm); (case k2 => k_is); k_whole)))
local macro_rules | `(tactic| walk_at "compareOp In str ref") => `(tactic| (k_here; (with_reducible show wpAny _ _ (compareOp CmpOp.In (Value.str _ _) (Value.ref _)) _ _ _); k_dflt (refine' topIn_K ?F ?X ?l ?k ?e ?lo ?_; (case F => k_asm); (case X => k_asm); (case l => k_is); (case k => k_keys); (case e => assumption); (case lo => rfl); k_whole); (try simp only [Option.isSome_none, Option.isSome_some])))
local macro_rules | `(tactic| walk_at "exec Raise some none") => `(tactic| refine AE.Raise_ae rfl ?_)
local macro_rules | `(tactic| walk_at "call type:AttributeError") => `(tactic| (k_here; refine AE.call_ae (fun h' e' hx' => ?_) (by size_fits)))
local macro_rules | `(tactic| k_inst) => `(tactic| assumption)
local macro_rules | `(tactic| walk_at "call builtin:len") => `(tactic| (k_here; (with_reducible show wpAny _ _ (call (Value.builtin "len") [Value.ref _]) _ _ _); (refine PyProof.Rows.len_tuple (by is_tup) (by simp only [List.size_toArray, List.length_append, List.length_cons, List.length_nil]; omega) ?_); (try simp only [List.size_toArray])))
local macro_rules | `(tactic| walk_at "call builtin:list.append") => `(tactic| (k_here; (with_reducible show wpAny _ _ (call (Value.builtin _) [Value.ref _, _]) _ _ _); k_dflt (refine' append_K ?k1 ?k2 ?k3 ?_ ?z; (case k1 => k_asm); (case k2 => k_asm); (case k3 => k_upd); (case z => (simp only [List.size_toArray, List.length_append, List.length_cons, List.length_nil]; rw [sizeLine_eq]; omega)); k_whole); intro h' F' N'; (try k_sweep)))
set_option maxHeartbeats 4000000 in
theorem stt_empty (w : World) (p : Program) (loose : List Str) (mean : ExcName → Option Value) (mg mb : Str → Option Value)
   (dp un : Nat) (gd : Option (List Code)) (cn : Str) (cs : Scope) (a : Addr) (ccd : Value) (cl : List (Str × Addr)) (outer : List Env) (A₀ : Around) (base h₀ : Heap) (L : Addr) (m : Str → Option Value) (s : Shared)
   (Q E : Value → Shared → Prop) (news : List (Addr × Obj)) (tx : Tok)
   (B : Below A₀ base outer h₀) (F : Fr h₀ L s.heap m) (X : (Mine.hd.heap_39 w.params).In h₀) (N : News h₀ L s.heap news)
   (T : Top p loose mean mg mb h₀) (hk : cs.kind = .function) (hd : dp + 16 < recursionLimit) (hu : un + 80 < cLine)
   (hret : ∀ h' tk', Aft h₀ L m news s.heap h' [] → Q (.ref 65) { s with heap := h', toks := tk' }) :
    wpAny (model Pg w) (ktrTop dp un gd cn cs L a ccd cl outer) (call (.ref 90) [.str (Str.ofString "") tx]) Q E s := by
  have kd : (Mine.hd.heap_39, Challenge.rw_ev0002_01) = (Mine.hd.heap_39, Challenge.rw_ev0002_01) := by (k_fill; rfl)
  clear kd
  refine wpAny_call ?_
  k_dflt (refine' Mine.code_defS ?k1 ?k2 ?k3 ?k4 ?k5 ?kA ?kF ?kK ?k6 ?k7 ?k8 ?k9 ?kB ?_ ?c2 ?c3 ?c4 ?c5; (case kA => exact rfl); (case kF => exact rfl); (case kK => exact hk); (case k1 => k_asm); (case k2 => k_asm); (case k3 => k_asm); (case k4 => exact News.nil); (case k5 => k_asm); (case k6 => k_is); (case k7 => k_is); (case k8 => ktr_room); (case k9 => exact BindsTo.of_eq rfl); (case c5 => decide); (case kB => exact locs rfl); (case c2 => exact rfl); (case c3 => exact rfl); (case c4 => exact rfl); k_whole)
  intro g' L' h' G FG' F' N' B' X' T'
  have up : ∀ b o, s.heap.get? b = some o → g'.get? b = some o := fun b o e => G b o e (by simp)
  (try dsimp only)
  k_unmd
  k_fold
  repeat' ((fail_if_success (with_reducible show wpAny _ _ (pyIter _) _ _ _)); (first | (k_unfold; (try dsimp only)) | (k_end; wrow_close) | walk1 | (dsimp only; walk1) | (leave1; walk_say "STEP leave1"; try dsimp only) | fail "no step"))
  all_goals exact hret _ _ (aft_end F N G (by k_asm) News.nil (by k_asm))
set_option maxHeartbeats 4000000 in
theorem stt_tok (w : World) (p : Program) (loose : List Str) (mean : ExcName → Option Value) (mg mb : Str → Option Value)
   (dp un : Nat) (gd : Option (List Code)) (cn : Str) (cs : Scope) (a : Addr) (ccd : Value) (cl : List (Str × Addr)) (outer : List Env) (A₀ : Around) (base h₀ : Heap) (L : Addr) (m : Str → Option Value) (s : Shared)
   (Q E : Value → Shared → Prop) (news : List (Addr × Obj)) (v : Value) (xs : List Str)
   (B : Below A₀ base outer h₀) (F : Fr h₀ L s.heap m) (X : (Mine.hd.heap_39 w.params).In h₀) (N : News h₀ L s.heap news)
   (T : Top p loose mean mg mb h₀) (hk : cs.kind = .function) (hd : dp + 16 < recursionLimit) (hu : un + 80 < cLine)
   (hself : TokH w s.heap v xs)
   (hret : ∀ h' tk', Aft h₀ L m news s.heap h' [] → Q v { s with heap := h', toks := tk' }) :
    wpAny (model Pg w) (ktrTop dp un gd cn cs L a ccd cl outer) (call (.ref 90) [v]) Q E s := by
  have kd : (Mine.hd.heap_39, Challenge.rw_ev0002_01) = (Mine.hd.heap_39, Challenge.rw_ev0002_01) := by (k_fill; rfl)
  clear kd
  obtain ⟨xa, dxa, txa, tka, vs, n, rfl, e1, e2, e3, hvs⟩ := hself
  refine wpAny_call ?_
  k_dflt (refine' Mine.code_defS ?k1 ?k2 ?k3 ?k4 ?k5 ?kA ?kF ?kK ?k6 ?k7 ?k8 ?k9 ?kB ?_ ?c2 ?c3 ?c4 ?c5; (case kA => exact rfl); (case kF => exact rfl); (case kK => exact hk); (case k1 => k_asm); (case k2 => k_asm); (case k3 => k_asm); (case k4 => exact News.nil); (case k5 => k_asm); (case k6 => k_is); (case k7 => k_is); (case k8 => ktr_room); (case k9 => exact BindsTo.of_eq rfl); (case c5 => decide); (case kB => exact locs rfl); (case c2 => exact rfl); (case c3 => exact rfl); (case c4 => exact rfl); k_whole)
  intro g' L' h' G FG' F' N' B' X' T'
  have up : ∀ b o, s.heap.get? b = some o → g'.get? b = some o := fun b o e => G b o e (by simp)
  have I : InstAt g' xa (instTok dxa) 59 (some (dictTok w tka txa)) := ⟨up _ _ e1, rfl, rfl, up _ _ e2⟩
  (try dsimp only)
  k_unmd
  k_fold
  repeat' ((fail_if_success (with_reducible show wpAny _ _ (pyIter _) _ _ _)); (first | (k_unfold; (try dsimp only)) | (k_end; wrow_close) | walk1 | (dsimp only; walk1) | (leave1; walk_say "STEP leave1"; try dsimp only) | fail "no step"))
  all_goals exact hret _ _ (aft_end F N G (by k_asm) News.nil (by k_asm))
end Mine
namespace Mine
local macro_rules | `(tactic| k_all) => `(tactic| assumption)
local macro_rules | `(tactic| k_all) => `(tactic| (exact fun p hp => Nat.ne_of_lt (ktn_ltOf (by assumption) p hp)))
local macro_rules | `(tactic| k_inst) => `(tactic| exact InstAt.up (by assumption) (Fr.keep (by k_asm)))
local macro_rules | `(tactic| walk_at "StarOf ref") => `(tactic| (k_here; k_dflt (refine' star_heap ?k1 ?k2 ?m ?z ?_; (case k1 => k_asm); (case k2 => k_asm); (case m => is_tup); (case z => (rw [sizeLine_eq]; (try simp only [List.length_append, List.length_cons, List.length_nil]); omega)); k_whole); intro h' F' N' kst'; (try k_sweep); try dsimp only [List.nil_append, List.cons_append]))
local macro_rules | `(tactic| walk_at "call ref") => `(tactic| (k_here; k_dflt (refine' new_spec _ _ _ _ _ _ _ _ _ _ _ _ _ _ _ _ _ _ _ _ _ _ _ _ _ ?k1 ?k2 ?k3 ?k4 ?k5 ?k6 ?kd ?ku ?kz ?_; (case k1 => k_asm); (case k2 => k_asm); (case k3 => k_asm); (case k4 => k_asm); (case k5 => k_asm); (case k6 => first | exact rfl | assumption); (case kd => ktr_room); (case ku => ktr_units); (case kz => ((try simp only [List.length_append, List.length_cons, List.length_nil]); omega)); k_whole); intro x' dx' tx' tk' h' tk'' l1 l2 l3 F' N' kp' fr'; (try k_lt l1); (try k_lt2 l2); (try k_lt2 l3); (try dsimp only); (try k_unmd); (try k_fold)))
local macro_rules | `(tactic| walk_at "truthy ref") => `(tactic| (k_here; (with_reducible show wpAny _ _ (truthy (Value.ref _)) _ _ _); k_dflt (refine' tup_truthy ?F ?D ?z ?_; (case F => k_asm); (case D => assumption); (case z => (try simp only [List.length_append, List.length_cons, List.length_nil]); omega); k_whole); (try simp only [List.isEmpty_cons, List.isEmpty_nil, Bool.not_false, Bool.not_true])))
local macro_rules | `(tactic| walk_at "callWith ref") => `(tactic| (k_here; (with_reducible show wpAny _ _ (callWith _ (Value.ref _) _ (backTo _ (starEach (Expr.Starred _ _ :: _ :: _) _)) []) _ _ _); k_dflt (refine' callWith_S3 ?k1 ?k2 ?_; (case k1 => k_asm); (case k2 => k_is); k_whole)))
local macro_rules | `(tactic| walk_at "compareOp In str ref") => `(tactic| (k_here; (with_reducible show wpAny _ _ (compareOp CmpOp.In (Value.str _ _) (Value.ref _)) _ _ _); k_dflt (refine' topIn_K ?F ?X ?l ?k ?e ?lo ?_; (case F => k_asm); (case X => k_asm); (case l => k_is); (case k => k_keys); (case e => assumption); (case lo => rfl); k_whole); (try simp only [Option.isSome_none, Option.isSome_some])))
local macro_rules | `(tactic| walk_at "exec Raise some none") => `(tactic| refine AE.Raise_ae rfl ?_)
local macro_rules | `(tactic| walk_at "call type:AttributeError") => `(tactic| (k_here; refine AE.call_ae (fun h' e' hx' => ?_) (by size_fits)))
local macro_rules | `(tactic| k_inst) => `(tactic| assumption)
local macro_rules | `(tactic| walk_at "call builtin:len") => `(tactic| (k_here; (with_reducible show wpAny _ _ (call (Value.builtin "len") [Value.ref _]) _ _ _); (refine PyProof.Rows.len_tuple (by is_tup) (by simp only [List.size_toArray, List.length_append, List.length_cons, List.length_nil]; omega) ?_); (try simp only [List.size_toArray])))
local macro_rules | `(tactic| walk_at "call builtin:list.append") => `(tactic| (k_here; (with_reducible show wpAny _ _ (call (Value.builtin _) [Value.ref _, _]) _ _ _); k_dflt (refine' append_K ?k1 ?k2 ?k3 ?_ ?z; (case k1 => k_asm); (case k2 => k_asm); (case k3 => k_upd); (case z => (simp only [List.size_toArray, List.length_append, List.length_cons, List.length_nil]; rw [sizeLine_eq]; omega)); k_whole); intro h' F' N'; (try k_sweep)))
abbrev sBuf : Str := Str.ofString "buf"
abbrev sSelf : Str := Str.ofString "self"
/-- the prefixes of the names, as token types -/
def Pres (w : World) (l : List (Addr × Obj)) (refs : List Value) (xs : List Str) (n : Nat) : Prop := refs.length = n ∧ ∀ j r, refs[j]? = some r → TokM w l r (xs.take j)
theorem Pres.mono {w : World} {l l' : List (Addr × Obj)} {refs : List Value} {xs : List Str} {n : Nat} (k : ∀ p ∈ l, p ∈ l') (P : Pres w l refs xs n) : Pres w l' refs xs n := ⟨P.1, fun j r e => (P.2 j r e).mono k⟩
theorem Pres.more {w : World} {l : List (Addr × Obj)} {refs : List Value} {xs : List Str} {n : Nat} {r : Value} (P : Pres w l refs xs n) (t : TokM w l r (xs.take n)) : Pres w l (refs ++ [r]) xs (n + 1) := by
  refine ⟨by simp [P.1], fun j r' e => ?_⟩
  by_cases h : j < refs.length
  · rw [List.getElem?_append_left h] at e
    exact P.2 j r' e
  · rw [List.getElem?_append_right (by omega)] at e
    by_cases h2 : j - refs.length = 0
    · rw [h2] at e
      simp only [List.getElem?_cons_zero, Option.some.injEq] at e
      subst e
      rw [show j = n by have := P.1; omega]
      exact t
    · obtain ⟨k, hk⟩ : ∃ k, j - refs.length = k + 1 := ⟨j - refs.length - 1, by omega⟩
      rw [hk] at e
      simp at e
def SplitJ (w : World) (xs : List Str) (bl xa : Addr) (i : Nat) (m : Str → Option Value) (news : List (Addr × Obj)) : Prop :=
  ∃ refs nn rest, m sBuf = some (.ref bl) ∧ m sSelf = some (.ref xa) ∧ news = (bl, listOf refs.toArray nn) :: rest ∧ (∀ p ∈ rest, p.1 ≠ bl) ∧ Pres w rest refs xs i
theorem none_back {h h' : Heap} {l : List (Addr × Obj)} (fr : ∀ p ∈ l, h'.get? p.1 = none) (k : ∀ b o, h.get? b = some o → h'.get? b = some o) : ∀ p ∈ l, h.get? p.1 = none := fun p hp => by
  cases q : h.get? p.1 with
  | none => rfl
  | some o => have := k _ _ q; rw [fr p hp] at this; cases this
theorem split_news {h₀ h : Heap} {L bl : Addr} {a b c : Addr × Obj} {refs : List Value} {r : Value} {nn : Nat} {own rest : List (Addr × Obj)} (N : News h₀ L h (a :: b :: c :: (bl, listOf (refs.toArray.push r) (nn + 1)) :: (own ++ rest))) :
    News h₀ L h (own ++ ((bl, listOf (refs ++ [r]).toArray (nn + 1)) :: ([a, b, c] ++ rest))) := fun p hp => N p (by
  rw [← List.push_toArray] at hp
  simp only [List.mem_append, List.mem_cons, List.not_mem_nil, or_false] at hp ⊢
  rcases hp with h | h | (h | h | h) | h
  · exact .inr (.inr (.inr (.inr (.inl h))))
  · exact .inr (.inr (.inr (.inl h)))
  · exact .inl h
  · exact .inr (.inl h)
  · exact .inr (.inr (.inl h))
  · exact .inr (.inr (.inr (.inr (.inr h)))))
theorem split_off {h : Heap} {bl : Addr} {o o' : Obj} {l rest : List (Addr × Obj)} {wr : List Addr} (hoff : ∀ p ∈ (bl, o) :: rest, p.1 ∉ wr) (hnew : ∀ b, h.get? b = none → b ∉ wr) (fr : ∀ p ∈ l, h.get? p.1 = none) : ∀ p ∈ (bl, o') :: (l ++ rest), p.1 ∉ wr := by
  intro p hp
  rcases List.mem_cons.mp hp with rfl | hp
  · exact hoff (bl, o) (.head _)
  · rcases List.mem_append.mp hp with hp | hp
    · exact hnew _ (fr p hp)
    · exact hoff p (.tail _ hp)
set_option maxHeartbeats 4000000 in
theorem split_spec (w : World) (p : Program) (loose : List Str) (mean : ExcName → Option Value) (mg mb : Str → Option Value)
   (dp un : Nat) (gd : Option (List Code)) (cn : Str) (cs : Scope) (a : Addr) (ccd : Value) (cl : List (Str × Addr)) (outer : List Env) (A₀ : Around) (base h₀ : Heap) (L : Addr) (m : Str → Option Value) (s : Shared)
   (Q E : Value → Shared → Prop) (news : List (Addr × Obj)) (self : Value) (xs : List Str)
   (B : Below A₀ base outer h₀) (F : Fr h₀ L s.heap m) (X : (Mine.hd.heap_39 w.params).In h₀) (N : News h₀ L s.heap news)
   (T : Top p loose mean mg mb h₀) (hk : cs.kind = .function) (hd : dp + 16 < recursionLimit) (hu : un + 80 < cLine)
   (hself : TokH w s.heap self xs) (hl : xs.length ≤ 100)
   (hret : ∀ bl refs nn rest h' tk', Aft h₀ L m news s.heap h' ((bl, listOf refs.toArray nn) :: rest) → Pres w rest refs xs (xs.length + 1) → Q (.ref bl) { s with heap := h', toks := tk' }) :
    wpAny (model Pg w) (ktrTop dp un gd cn cs L a ccd cl outer) (call (.ref 35) [self]) Q E s := by
  have kd : (Mine.hd.heap_39, Challenge.rw_ev0002_01) = (Mine.hd.heap_39, Challenge.rw_ev0002_01) := by (k_fill; rfl)
  clear kd
  obtain ⟨xa, dxa, txa, tka, vs, n, rfl, e1, e2, e3, hvs⟩ := hself
  have hlen := hvs.length
  refine wpAny_call ?_
  k_dflt (refine' Mine.code_defS ?k1 ?k2 ?k3 ?k4 ?k5 ?kA ?kF ?kK ?k6 ?k7 ?k8 ?k9 ?kB ?_ ?c2 ?c3 ?c4 ?c5; (case kA => exact rfl); (case kF => exact rfl); (case kK => exact hk); (case k1 => k_asm); (case k2 => k_asm); (case k3 => k_asm); (case k4 => exact News.nil); (case k5 => k_asm); (case k6 => k_is); (case k7 => k_is); (case k8 => ktr_room); (case k9 => exact BindsTo.of_eq rfl); (case c5 => decide); (case kB => exact locs rfl); (case c2 => exact rfl); (case c3 => exact rfl); (case c4 => exact rfl); k_whole)
  intro g' L' h' G FG' F' N' B' X' T'
  have up : ∀ b o, s.heap.get? b = some o → g'.get? b = some o := fun b o e => G b o e (by simp)
  have I : InstAt g' xa (instTok dxa) 59 (some (dictTok w tka txa)) := ⟨up _ _ e1, rfl, rfl, up _ _ e2⟩
  have e3' := up _ _ e3
  have It : IsTup g' txa vs.toArray := ⟨_, e3', rfl, _, rfl⟩
  (try dsimp only)
  k_unmd
  k_fold
  repeat' ((fail_if_success (with_reducible show wpAny _ _ (pyIter _) _ _ _)); (first | (k_unfold; (try dsimp only)) | (k_end; wrow_close) | walk1 | (dsimp only; walk1) | (leave1; walk_say "STEP leave1"; try dsimp only) | fail "no step"))
  rename IsRange _ _ _ _ _ _ _ _ => hr
  rename Fr g' L' _ _ => Fa
  rename News g' L' _ _ => Na
  refine iter_range (n := vs.length + 1) (SplitJ w xs _ xa) rfl hr (small_one (by omega) (by omega) (by omega) (by omega)) (range_size _) Fa Na ⟨[], _, _, rfl, rfl, rfl, (fun p hp => nomatch hp), rfl, fun j r e => by simp at e⟩ ?_ ?_
  · clear Fa Na hr
    intro i t m₁ news₁ h2 tk2 own wr hi hJ hoff hnew hown F2 N2
    obtain ⟨refs, nn, rest, hm1, hm2, rfl, hne, hP⟩ := hJ
    rw [Int.zero_add] at F2
    have F3 := fr_under (fr_under F2 hm2) (y := sBuf) ((if_neg (by decide)).trans hm1)
    have N3 := news_front N2
    have hbl := (N3 _ (.head _)).1
    have hne2 := ne_app hown hoff hne
    have hrl := hP.1
    generalize htail : own ++ rest = tail at N3 hne2
    clear F2 N2
    repeat' ((fail_if_success (with_reducible show wpAny _ _ (pyIter _) _ _ _)); (fail_if_success (with_reducible show wpAny _ _ (subscriptTail _ (Expr.Slice _ _ _ _) _ _) _ _ _)); (first | (k_unfold; (try dsimp only)) | (k_end; wrow_close) | walk1 | (dsimp only; walk1) | (leave1; walk_say "STEP leave1"; try dsimp only) | fail "no step"))
    k_dflt (refine slice_tuple_any (by k_asm) (by k_asm) (by is_tup) (fun r h4 made F4 N4 k4 fr4 hm4 It4 => ?_) (by with_unfolding_all rfl) (by rw [sizeLine_eq]; omega))
    have N5 : News g' L' h4 ((_, listOf refs.toArray nn) :: tail) := fun p hp => N4 p (List.mem_append_right _ hp)
    clear N4 hm4
    have hlt : (vs.take i).length ≤ 100 := by rw [List.length_take]; omega
    dsimp only
    repeat' ((fail_if_success (with_reducible show wpAny _ _ (pyIter _) _ _ _)); (first | (k_unfold; (try dsimp only)) | (k_end; wrow_close) | walk1 | (dsimp only; walk1) | (leave1; walk_say "STEP leave1"; try dsimp only) | fail "no step"))
    rename (∀ b o, b ≠ L' → _ → _) => kp9
    rename (∀ p ∈ [_, _, _], _) => fr9
    have fr8 := none_back (none_back fr9 (by assumption)) k4
    subst htail
    show TurnE _ _ _ _ _ _ _
    refine TurnE.intro (by k_asm) (news₂ := (_, listOf (refs ++ [_]).toArray (nn + 1)) :: ([_, _, _] ++ rest)) (split_news (by k_asm)) (split_off hoff hnew fr8) ⟨_, _, _, rfl, rfl, rfl, ?_, (hP.mono (fun p hp => List.mem_append_right _ hp)).more ?_⟩
    · intro p hp e
      rcases List.mem_append.mp hp with hp | hp
      · have := fr8 p hp
        rw [e] at this
        exact absurd (this.symm.trans hbl) (by simp)
      · exact hne p hp e
    · exact .inr (.inr (.inr ⟨_, _, _, _, _, rfl, by k_mem, by k_mem, by k_mem, hvs.take i⟩))
  · intro m₁ news₁ h2 tk2 hJ F2 N2
    obtain ⟨refs, nn, rest, hm1, hm2, rfl, hne, hP⟩ := hJ
    have F3 := fr_name F2 hm1
    clear F2 Fa Na
    repeat' ((fail_if_success (with_reducible show wpAny _ _ (pyIter _) _ _ _)); (first | (k_unfold; (try dsimp only)) | (k_end; wrow_close) | walk1 | (dsimp only; walk1) | (leave1; walk_say "STEP leave1"; try dsimp only) | fail "no step"))
    rw [hlen] at hP
    exact hret _ _ _ _ _ _ (aft_end F N G (by k_asm) N2 (by k_asm)) hP
end Mine
namespace Mine
local macro_rules | `(tactic| k_all) => `(tactic| assumption)
local macro_rules | `(tactic| k_all) => `(tactic| (exact fun p hp => Nat.ne_of_lt (ktn_ltOf (by assumption) p hp)))
local macro_rules | `(tactic| k_inst) => `(tactic| exact InstAt.up (by assumption) (Fr.keep (by k_asm)))
local macro_rules | `(tactic| walk_at "StarOf ref") => `(tactic| (k_here; k_dflt (refine' star_heap ?k1 ?k2 ?m ?z ?_; (case k1 => k_asm); (case k2 => k_asm); (case m => is_tup); (case z => (rw [sizeLine_eq]; (try simp only [List.length_append, List.length_cons, List.length_nil]); omega)); k_whole); intro h' F' N' kst'; (try k_sweep); try dsimp only [List.nil_append, List.cons_append]))
local macro_rules | `(tactic| walk_at "call ref") => `(tactic| (k_here; k_dflt (refine' new_spec _ _ _ _ _ _ _ _ _ _ _ _ _ _ _ _ _ _ _ _ _ _ _ _ _ ?k1 ?k2 ?k3 ?k4 ?k5 ?k6 ?kd ?ku ?kz ?_; (case k1 => k_asm); (case k2 => k_asm); (case k3 => k_asm); (case k4 => k_asm); (case k5 => k_asm); (case k6 => first | exact rfl | assumption); (case kd => ktr_room); (case ku => ktr_units); (case kz => ((try simp only [List.length_append, List.length_cons, List.length_nil]); omega)); k_whole); intro x' dx' tx' tk' h' tk'' l1 l2 l3 F' N' kp' fr'; (try k_lt l1); (try k_lt2 l2); (try k_lt2 l3); (try dsimp only); (try k_unmd); (try k_fold)))
local macro_rules | `(tactic| walk_at "truthy ref") => `(tactic| (k_here; (with_reducible show wpAny _ _ (truthy (Value.ref _)) _ _ _); k_dflt (refine' tup_truthy ?F ?D ?z ?_; (case F => k_asm); (case D => assumption); (case z => (try simp only [List.length_append, List.length_cons, List.length_nil]); omega); k_whole); (try simp only [List.isEmpty_cons, List.isEmpty_nil, Bool.not_false, Bool.not_true])))
local macro_rules | `(tactic| walk_at "callWith ref") => `(tactic| (k_here; (with_reducible show wpAny _ _ (callWith _ (Value.ref _) _ (backTo _ (starEach (Expr.Starred _ _ :: _ :: _) _)) []) _ _ _); k_dflt (refine' callWith_S3 ?k1 ?k2 ?_; (case k1 => k_asm); (case k2 => k_is); k_whole)))
local macro_rules | `(tactic| walk_at "compareOp In str ref") => `(tactic| (k_here; (with_reducible show wpAny _ _ (compareOp CmpOp.In (Value.str _ _) (Value.ref _)) _ _ _); k_dflt (refine' topIn_K ?F ?X ?l ?k ?e ?lo ?_; (case F => k_asm); (case X => k_asm); (case l => k_is); (case k => k_keys); (case e => assumption); (case lo => rfl); k_whole); (try simp only [Option.isSome_none, Option.isSome_some])))
local macro_rules | `(tactic| walk_at "exec Raise some none") => `(tactic| refine AE.Raise_ae rfl ?_)
local macro_rules | `(tactic| walk_at "call type:AttributeError") => `(tactic| (k_here; refine AE.call_ae (fun h' e' hx' => ?_) (by size_fits)))
local macro_rules | `(tactic| k_inst) => `(tactic| assumption)
local macro_rules | `(tactic| walk_at "call builtin:len") => `(tactic| (k_here; (with_reducible show wpAny _ _ (call (Value.builtin "len") [Value.ref _]) _ _ _); (refine PyProof.Rows.len_tuple (by is_tup) (by simp only [List.size_toArray, List.length_append, List.length_cons, List.length_nil]; omega) ?_); (try simp only [List.size_toArray])))
local macro_rules | `(tactic| walk_at "call builtin:list.append") => `(tactic| (k_here; (with_reducible show wpAny _ _ (call (Value.builtin _) [Value.ref _, _]) _ _ _); k_dflt (refine' append_K ?k1 ?k2 ?k3 ?_ ?z; (case k1 => k_asm); (case k2 => k_asm); (case k3 => k_upd); (case z => (simp only [List.size_toArray, List.length_append, List.length_cons, List.length_nil]; rw [sizeLine_eq]; omega)); k_whole); intro h' F' N'; (try k_sweep)))
local macro_rules | `(tactic| walk_at "compareOp Is ref ref") => `(tactic| (k_here; (with_reducible show wpAny _ _ (compareOp CmpOp.Is (Value.ref _) (Value.ref _)) _ _ _); first | with_reducible refine wpAny_is_ref_self ?_ | refine kto_is (Fr.keep (by k_asm) _ _ (by assumption)) (Fr.keep (by k_asm) _ _ (by assumption)) (by assumption) (by intro h; cases h) ?_))
theorem SA.inj {vs : List Value} {xs ys : List Str} (h : SA vs xs) (k : SA vs ys) : xs = ys := by
  induction h generalizing ys with
  | nil => cases k; rfl
  | cons _ ih => cases k with | cons k => rw [ih k]
set_option maxHeartbeats 4000000 in
theorem cont_spec (w : World) (p : Program) (loose : List Str) (mean : ExcName → Option Value) (mg mb : Str → Option Value)
   (dp un : Nat) (gd : Option (List Code)) (cn : Str) (cs : Scope) (a : Addr) (ccd : Value) (cl : List (Str × Addr)) (outer : List Env) (A₀ : Around) (base h₀ : Heap) (L : Addr) (m : Str → Option Value) (s : Shared)
   (Q E : Value → Shared → Prop) (news : List (Addr × Obj)) (self val : Value) (xs ys : List Str)
   (B : Below A₀ base outer h₀) (F : Fr h₀ L s.heap m) (X : (Mine.hd.heap_39 w.params).In h₀) (N : News h₀ L s.heap news)
   (T : Top p loose mean mg mb h₀) (hk : cs.kind = .function) (hd : dp + 16 < recursionLimit) (hu : un + 160 < cLine)
   (hself : TokH w s.heap self xs) (hval : TokH w s.heap val ys) (hl : xs.length ≤ 100) (hl2 : ys.length ≤ 100) (hok : Ok xs) (hok2 : Ok ys)
   (hret : ∀ h' tk', Aft h₀ L m news s.heap h' [] → Q (.bool (decide (ys.take xs.length = xs))) { s with heap := h', toks := tk' }) :
    wpAny (model Pg w) (ktrTop dp un gd cn cs L a ccd cl outer) (call (.ref 42) [self, val]) Q E s := by
  have kd : (Mine.hd.heap_39, Challenge.rw_ev0002_01) = (Mine.hd.heap_39, Challenge.rw_ev0002_01) := by (k_fill; rfl)
  clear kd
  obtain ⟨xa, dxa, txa, tka, vs, n, rfl, e1, e2, e3, hvs⟩ := hself
  obtain ⟨ya, dya, tya, tkb, ws, n', rfl, f1, f2, f3, hws⟩ := hval
  have hlen := hvs.length
  have hlen2 := hws.length
  have hsame : xa = ya → xs = ys := by
    intro e
    subst e
    rw [e1] at f1
    cases f1
    rw [e2] at f2
    cases f2
    rw [e3] at f3
    have := congrArg Obj.data (Option.some.inj f3)
    simp only [tupOf, Data.seq.injEq] at this
    have h2 : vs = ws := by simpa using this.1
    exact hvs.inj (h2 ▸ hws)
  have hsym : xa = ya ∨ xa ≠ ya := Classical.em _
  refine wpAny_call ?_
  k_dflt (refine' Mine.code_defS ?k1 ?k2 ?k3 ?k4 ?k5 ?kA ?kF ?kK ?k6 ?k7 ?k8 ?k9 ?kB ?_ ?c2 ?c3 ?c4 ?c5; (case kA => exact rfl); (case kF => exact rfl); (case kK => exact hk); (case k1 => k_asm); (case k2 => k_asm); (case k3 => k_asm); (case k4 => exact News.nil); (case k5 => k_asm); (case k6 => k_is); (case k7 => k_is); (case k8 => ktr_room); (case k9 => exact BindsTo.of_eq rfl); (case c5 => decide); (case kB => exact locs rfl); (case c2 => exact rfl); (case c3 => exact rfl); (case c4 => exact rfl); k_whole)
  intro g' L' h' G FG' F' N' B' X' T'
  have up : ∀ b o, s.heap.get? b = some o → g'.get? b = some o := fun b o e => G b o e (by simp)
  have I : InstAt g' xa (instTok dxa) 59 (some (dictTok w tka txa)) := ⟨up _ _ e1, rfl, rfl, up _ _ e2⟩
  have I2 : InstAt g' ya (instTok dya) 59 (some (dictTok w tkb tya)) := ⟨up _ _ f1, rfl, rfl, up _ _ f2⟩
  have e3' := up _ _ e3
  have It : IsTup g' txa vs.toArray := ⟨_, e3', rfl, _, rfl⟩
  have It2 : IsTup g' tya ws.toArray := ⟨_, up _ _ f3, rfl, _, rfl⟩
  have g1 := up _ _ e1
  have g2 := up _ _ f1
  (try dsimp only)
  k_unmd
  k_fold
  rcases hsym with hab | hab
  · have hxy := hsame hab
    subst hab
    repeat' ((fail_if_success (with_reducible show wpAny _ _ (pyIter _) _ _ _)); (fail_if_success (with_reducible show wpAny _ _ (subscriptTail _ (Expr.Slice _ _ _ _) _ _) _ _ _)); (first | (k_unfold; (try dsimp only)) | (k_end; wrow_close) | walk1 | (dsimp only; walk1) | (leave1; walk_say "STEP leave1"; try dsimp only) | fail "no step"))
    subst hxy
    have e9 : decide (xs.take xs.length = xs) = true := by simp
    rw [e9] at hret
    exact hret _ _ (aft_end F N G (by k_asm) News.nil (by k_asm))
  repeat' ((fail_if_success (with_reducible show wpAny _ _ (pyIter _) _ _ _)); (fail_if_success (with_reducible show wpAny _ _ (subscriptTail _ (Expr.Slice _ _ _ _) _ _) _ _ _)); (first | (k_unfold; (try dsimp only)) | (k_end; wrow_close) | walk1 | (dsimp only; walk1) | (leave1; walk_say "STEP leave1"; try dsimp only) | fail "no step"))
  k_dflt (refine slice_tuple_any (by k_asm) (by k_asm) (by is_tup) (fun r h4 made F4 N4 k4 fr4 hm4 It4 => ?_) (by with_unfolding_all rfl) (by rw [sizeLine_eq]; omega))
  clear N4
  have N5 : News g' L' h4 [] := News.nil
  dsimp only
  repeat' ((fail_if_success (with_reducible show wpAny _ _ (pyIter _) _ _ _)); (fail_if_success (with_reducible show wpAny _ _ (compareOp CmpOp.Eq (Value.ref _) (Value.ref _)) _ _ _)); (first | (k_unfold; (try dsimp only)) | (k_end; wrow_close) | walk1 | (dsimp only; walk1) | (leave1; walk_say "STEP leave1"; try dsimp only) | fail "no step"))
  refine tup_eq It4 (by is_tup) (hws.take _) hvs (fun x hx => hok2 x (List.mem_of_mem_take hx)) hok (by ktr_units) ?_
  dsimp only
  repeat' ((fail_if_success (with_reducible show wpAny _ _ (pyIter _) _ _ _)); (first | (k_unfold; (try dsimp only)) | (k_end; wrow_close) | walk1 | (dsimp only; walk1) | (leave1; walk_say "STEP leave1"; try dsimp only) | fail "no step"))
  rw [hlen]
  exact hret _ _ (aft_end F N G (by k_asm) News.nil (by k_asm))
end Mine
namespace Mine
local macro_rules | `(tactic| k_all) => `(tactic| assumption)
local macro_rules | `(tactic| k_all) => `(tactic| (exact fun p hp => Nat.ne_of_lt (ktn_ltOf (by assumption) p hp)))
local macro_rules | `(tactic| k_inst) => `(tactic| exact InstAt.up (by assumption) (Fr.keep (by k_asm)))
local macro_rules | `(tactic| walk_at "StarOf ref") => `(tactic| (k_here; k_dflt (refine' star_heap ?k1 ?k2 ?m ?z ?_; (case k1 => k_asm); (case k2 => k_asm); (case m => is_tup); (case z => (rw [sizeLine_eq]; (try simp only [List.length_append, List.length_cons, List.length_nil]); omega)); k_whole); intro h' F' N' kst'; (try k_sweep); try dsimp only [List.nil_append, List.cons_append]))
local macro_rules | `(tactic| walk_at "call ref") => `(tactic| (k_here; k_dflt (refine' new_spec _ _ _ _ _ _ _ _ _ _ _ _ _ _ _ _ _ _ _ _ _ _ _ _ _ ?k1 ?k2 ?k3 ?k4 ?k5 ?k6 ?kd ?ku ?kz ?_; (case k1 => k_asm); (case k2 => k_asm); (case k3 => k_asm); (case k4 => k_asm); (case k5 => k_asm); (case k6 => first | exact rfl | assumption); (case kd => ktr_room); (case ku => ktr_units); (case kz => ((try simp only [List.length_append, List.length_cons, List.length_nil]); omega)); k_whole); intro x' dx' tx' tk' h' tk'' l1 l2 l3 F' N' kp' fr'; (try k_lt l1); (try k_lt2 l2); (try k_lt2 l3); (try dsimp only); (try k_unmd); (try k_fold)))
local macro_rules | `(tactic| walk_at "truthy ref") => `(tactic| (k_here; (with_reducible show wpAny _ _ (truthy (Value.ref _)) _ _ _); k_dflt (refine' tup_truthy ?F ?D ?z ?_; (case F => k_asm); (case D => assumption); (case z => (try simp only [List.length_append, List.length_cons, List.length_nil]); omega); k_whole); (try simp only [List.isEmpty_cons, List.isEmpty_nil, Bool.not_false, Bool.not_true])))
local macro_rules | `(tactic| walk_at "callWith ref") => `(tactic| (k_here; (with_reducible show wpAny _ _ (callWith _ (Value.ref _) _ (backTo _ (starEach (Expr.Starred _ _ :: _ :: _) _)) []) _ _ _); k_dflt (refine' callWith_S3 ?k1 ?k2 ?_; (case k1 => k_asm); (case k2 => k_is); k_whole)))
local macro_rules | `(tactic| walk_at "compareOp In str ref") => `(tactic| (k_here; (with_reducible show wpAny _ _ (compareOp CmpOp.In (Value.str _ _) (Value.ref _)) _ _ _); k_dflt (refine' topIn_K ?F ?X ?l ?k ?e ?lo ?_; (case F => k_asm); (case X => k_asm); (case l => k_is); (case k => k_keys); (case e => assumption); (case lo => rfl); k_whole); (try simp only [Option.isSome_none, Option.isSome_some])))
local macro_rules | `(tactic| walk_at "exec Raise some none") => `(tactic| refine AE.Raise_ae rfl ?_)
local macro_rules | `(tactic| walk_at "call type:AttributeError") => `(tactic| (k_here; refine AE.call_ae (fun h' e' hx' => ?_) (by size_fits)))
local macro_rules | `(tactic| k_inst) => `(tactic| assumption)
local macro_rules | `(tactic| walk_at "call builtin:len") => `(tactic| (k_here; (with_reducible show wpAny _ _ (call (Value.builtin "len") [Value.ref _]) _ _ _); (refine PyProof.Rows.len_tuple (by is_tup) (by simp only [List.size_toArray, List.length_append, List.length_cons, List.length_nil]; omega) ?_); (try simp only [List.size_toArray])))
local macro_rules | `(tactic| walk_at "call builtin:list.append") => `(tactic| (k_here; (with_reducible show wpAny _ _ (call (Value.builtin _) [Value.ref _, _]) _ _ _); k_dflt (refine' append_K ?k1 ?k2 ?k3 ?_ ?z; (case k1 => k_asm); (case k2 => k_asm); (case k3 => k_upd); (case z => (simp only [List.size_toArray, List.length_append, List.length_cons, List.length_nil]; rw [sizeLine_eq]; omega)); k_whole); intro h' F' N'; (try k_sweep)))
set_option maxHeartbeats 4000000 in
theorem sub_spec (w : World) (p : Program) (loose : List Str) (mean : ExcName → Option Value) (mg mb : Str → Option Value)
   (dp un : Nat) (gd : Option (List Code)) (cn : Str) (cs : Scope) (a : Addr) (ccd : Value) (cl : List (Str × Addr)) (outer : List Env) (A₀ : Around) (base h₀ : Heap) (L : Addr) (m : Str → Option Value) (s : Shared)
   (Q E : Value → Shared → Prop) (news : List (Addr × Obj)) (t o : Value) (xs ys : List Str)
   (B : Below A₀ base outer h₀) (F : Fr h₀ L s.heap m) (X : (Mine.hd.heap_39 w.params).In h₀) (N : News h₀ L s.heap news)
   (T : Top p loose mean mg mb h₀) (hk : cs.kind = .function) (hd : dp + 24 < recursionLimit) (hu : un + 200 < cLine)
   (hself : TokH w s.heap o xs) (hval : TokH w s.heap t ys) (hl : xs.length ≤ 100) (hl2 : ys.length ≤ 100) (hok : Ok xs) (hok2 : Ok ys)
   (hret : ∀ h' tk', Aft h₀ L m news s.heap h' [] → Q (.bool (decide (ys.take xs.length = xs))) { s with heap := h', toks := tk' }) :
    wpAny (model Pg w) (ktrTop dp un gd cn cs L a ccd cl outer) (call (.ref 83) [t, o]) Q E s := by
  have kd : (Mine.hd.heap_39, Challenge.rw_ev0002_01) = (Mine.hd.heap_39, Challenge.rw_ev0002_01) := by (k_fill; rfl)
  clear kd
  have hself0 := hself
  obtain ⟨xa, dxa, txa, tka, vs, n, rfl, e1, e2, e3, hvs⟩ := hself
  refine wpAny_call ?_
  k_dflt (refine' Mine.code_defS ?k1 ?k2 ?k3 ?k4 ?k5 ?kA ?kF ?kK ?k6 ?k7 ?k8 ?k9 ?kB ?_ ?c2 ?c3 ?c4 ?c5; (case kA => exact rfl); (case kF => exact rfl); (case kK => exact hk); (case k1 => k_asm); (case k2 => k_asm); (case k3 => k_asm); (case k4 => exact News.nil); (case k5 => k_asm); (case k6 => k_is); (case k7 => k_is); (case k8 => ktr_room); (case k9 => exact BindsTo.of_eq rfl); (case c5 => decide); (case kB => exact locs rfl); (case c2 => exact rfl); (case c3 => exact rfl); (case c4 => exact rfl); k_whole)
  intro g' L' h' G FG' F' N' B' X' T'
  have up : ∀ b o, s.heap.get? b = some o → g'.get? b = some o := fun b o e => G b o e (by simp)
  have I : InstAt g' xa (instTok dxa) 59 (some (dictTok w tka txa)) := ⟨up _ _ e1, rfl, rfl, up _ _ e2⟩
  (try dsimp only)
  k_unmd
  k_fold
  repeat' ((fail_if_success (with_reducible show wpAny _ _ (pyIter _) _ _ _)); (fail_if_success (with_reducible show wpAny _ _ (call (Value.ref 42) _) _ _ _)); (first | (k_unfold; (try dsimp only)) | (k_end; wrow_close) | walk1 | (dsimp only; walk1) | (leave1; walk_say "STEP leave1"; try dsimp only) | fail "no step"))
  refine cont_spec w _ _ _ _ _ _ _ _ _ _ _ _ _ _ _ _ _ _ _ _ _ _ [] _ t xs ys B' (by k_asm) (by k_asm) (by k_asm) (by k_asm) rfl (by ktr_room) (by ktr_units) (hself0.mono (fun b o e => Fr.keep (by k_asm) _ _ (up b o e))) (hval.mono (fun b o e => Fr.keep (by k_asm) _ _ (up b o e))) hl hl2 hok hok2 ?_
  intro h3 tk3 A3
  have F4 := A3.F
  have N4 : News g' L' h3 [] := News.nil
  dsimp only
  repeat' ((fail_if_success (with_reducible show wpAny _ _ (pyIter _) _ _ _)); (first | (k_unfold; (try dsimp only)) | (k_end; wrow_close) | walk1 | (dsimp only; walk1) | (leave1; walk_say "STEP leave1"; try dsimp only) | fail "no step"))
  exact hret _ _ (aft_end F N G (by k_asm) News.nil (by k_asm))
set_option maxHeartbeats 4000000 in
theorem repr_spec (w : World) (p : Program) (loose : List Str) (mean : ExcName → Option Value) (mg mb : Str → Option Value)
   (dp un : Nat) (gd : Option (List Code)) (cn : Str) (cs : Scope) (a : Addr) (ccd : Value) (cl : List (Str × Addr)) (outer : List Env) (A₀ : Around) (base h₀ : Heap) (L : Addr) (m : Str → Option Value) (s : Shared)
   (Q E : Value → Shared → Prop) (news : List (Addr × Obj)) (v : Value) (xs : List Str)
   (B : Below A₀ base outer h₀) (F : Fr h₀ L s.heap m) (X : (Mine.hd.heap_39 w.params).In h₀) (N : News h₀ L s.heap news)
   (T : Top p loose mean mg mb h₀) (hk : cs.kind = .function) (hd : dp + 16 < recursionLimit) (hu : un + 80 < cLine)
   (hself : TokH w s.heap v xs) (hl : xs.length ≤ 100) (hxl : ∀ x ∈ xs, x.length ≤ 100)
   (hret : ∀ h' tk tk', Aft h₀ L m news s.heap h' [] → Q (.str (Txt.join sDot (sTok :: xs)) tk) { s with heap := h', toks := tk' }) :
    wpAny (model Pg w) (ktrTop dp un gd cn cs L a ccd cl outer) (call (.ref 56) [v]) Q E s := by
  have kd : (Mine.hd.heap_39, Challenge.rw_ev0002_01) = (Mine.hd.heap_39, Challenge.rw_ev0002_01) := by (k_fill; rfl)
  clear kd
  obtain ⟨xa, dxa, txa, tka, vs, n, rfl, e1, e2, e3, hvs⟩ := hself
  cases hvs with
  | nil =>
    refine wpAny_call ?_
    k_dflt (refine' Mine.code_defS ?k1 ?k2 ?k3 ?k4 ?k5 ?kA ?kF ?kK ?k6 ?k7 ?k8 ?k9 ?kB ?_ ?c2 ?c3 ?c4 ?c5; (case kA => exact rfl); (case kF => exact rfl); (case kK => exact hk); (case k1 => k_asm); (case k2 => k_asm); (case k3 => k_asm); (case k4 => exact News.nil); (case k5 => k_asm); (case k6 => k_is); (case k7 => k_is); (case k8 => ktr_room); (case k9 => exact BindsTo.of_eq rfl); (case c5 => decide); (case kB => exact locs rfl); (case c2 => exact rfl); (case c3 => exact rfl); (case c4 => exact rfl); k_whole)
    intro g' L' h' G FG' F' N' B' X' T'
    have up : ∀ b o, s.heap.get? b = some o → g'.get? b = some o := fun b o e => G b o e (by simp)
    have I : InstAt g' xa (instTok dxa) 59 (some (dictTok w tka txa)) := ⟨up _ _ e1, rfl, rfl, up _ _ e2⟩
    have e3' := up _ _ e3
    have It : IsTup g' txa ([] : List Value).toArray := ⟨_, e3', rfl, _, rfl⟩
    (try dsimp only)
    k_unmd
    k_fold
    repeat' ((fail_if_success (with_reducible show wpAny _ _ (pyIter _) _ _ _)); (fail_if_success (with_reducible show wpAny _ _ (call (Value.builtin "str.join") _) _ _ _)); (first | (k_unfold; (try dsimp only)) | (k_end; wrow_close) | walk1 | (dsimp only; walk1) | (leave1; walk_say "STEP leave1"; try dsimp only) | fail "no step"))
    refine join_tupleW (Fr.tup (by k_asm) It) SA.nil.are dot_len (by decide) (fun t' k => ?_)
    dsimp only
    repeat' ((fail_if_success (with_reducible show wpAny _ _ (pyIter _) _ _ _)); (first | (k_unfold; (try dsimp only)) | (k_end; wrow_close) | walk1 | (dsimp only; walk1) | (leave1; walk_say "STEP leave1"; try dsimp only) | fail "no step"))
    have hr := fun tk tk' => hret _ tk tk' (aft_end F N G (by k_asm) News.nil (by k_asm))
    rw [← shown_cons, if_pos rfl] at hr
    exact hr _ _
  | @cons y ty vs ys hvs =>
    have hlen := hvs.length
    simp only [List.length_cons] at hl
    refine wpAny_call ?_
    k_dflt (refine' Mine.code_defS ?k1 ?k2 ?k3 ?k4 ?k5 ?kA ?kF ?kK ?k6 ?k7 ?k8 ?k9 ?kB ?_ ?c2 ?c3 ?c4 ?c5; (case kA => exact rfl); (case kF => exact rfl); (case kK => exact hk); (case k1 => k_asm); (case k2 => k_asm); (case k3 => k_asm); (case k4 => exact News.nil); (case k5 => k_asm); (case k6 => k_is); (case k7 => k_is); (case k8 => ktr_room); (case k9 => exact BindsTo.of_eq rfl); (case c5 => decide); (case kB => exact locs rfl); (case c2 => exact rfl); (case c3 => exact rfl); (case c4 => exact rfl); k_whole)
    intro g' L' h' G FG' F' N' B' X' T'
    have up : ∀ b o, s.heap.get? b = some o → g'.get? b = some o := fun b o e => G b o e (by simp)
    have I : InstAt g' xa (instTok dxa) 59 (some (dictTok w tka txa)) := ⟨up _ _ e1, rfl, rfl, up _ _ e2⟩
    have e3' := up _ _ e3
    have It : IsTup g' txa (Value.str y ty :: vs).toArray := ⟨_, e3', rfl, _, rfl⟩
    have hjl : (Txt.join (Str.ofString ".") (y :: ys)).length ≤ 101 * (ys.length + 1) := join_len hxl
    have hl0 : (Str.ofString "Token" ++ Str.ofString ".").length = 6 := by decide +kernel
    (try dsimp only)
    k_unmd
    k_fold
    repeat' ((fail_if_success (with_reducible show wpAny _ _ (pyIter _) _ _ _)); (fail_if_success (with_reducible show wpAny _ _ (call (Value.builtin "str.join") _) _ _ _)); (first | (k_unfold; (try dsimp only)) | (k_end; wrow_close) | walk1 | (dsimp only; walk1) | (leave1; walk_say "STEP leave1"; try dsimp only) | fail "no step"))
    refine join_tupleW (Fr.tup (by k_asm) It) (SA.cons hvs).are dot_len (join_weight hxl (by simp only [List.length_cons]; omega)) (fun t' k => ?_)
    dsimp only
    refine PyProof.Rows.add_str ?_ (by rw [Str.length_append, sizeLine_eq]; omega)
    dsimp only
    repeat' ((fail_if_success (with_reducible show wpAny _ _ (pyIter _) _ _ _)); (first | (k_unfold; (try dsimp only)) | (k_end; wrow_close) | walk1 | (dsimp only; walk1) | (leave1; walk_say "STEP leave1"; try dsimp only) | fail "no step"))
    have hr := fun tk tk' => hret _ tk tk' (aft_end F N G (by k_asm) News.nil (by k_asm))
    rw [← shown_cons, if_neg (by simp)] at hr
    exact hr _ _
end Mine
namespace Mine
local macro_rules | `(tactic| k_all) => `(tactic| assumption)
local macro_rules | `(tactic| k_all) => `(tactic| (exact fun p hp => Nat.ne_of_lt (ktn_ltOf (by assumption) p hp)))
local macro_rules | `(tactic| k_inst) => `(tactic| exact InstAt.up (by assumption) (Fr.keep (by k_asm)))
local macro_rules | `(tactic| walk_at "StarOf ref") => `(tactic| (k_here; k_dflt (refine' star_heap ?k1 ?k2 ?m ?z ?_; (case k1 => k_asm); (case k2 => k_asm); (case m => is_tup); (case z => (rw [sizeLine_eq]; (try simp only [List.length_append, List.length_cons, List.length_nil]); omega)); k_whole); intro h' F' N' kst'; (try k_sweep); try dsimp only [List.nil_append, List.cons_append]))
local macro_rules | `(tactic| walk_at "call ref") => `(tactic| (k_here; k_dflt (refine' new_spec _ _ _ _ _ _ _ _ _ _ _ _ _ _ _ _ _ _ _ _ _ _ _ _ _ ?k1 ?k2 ?k3 ?k4 ?k5 ?k6 ?kd ?ku ?kz ?_; (case k1 => k_asm); (case k2 => k_asm); (case k3 => k_asm); (case k4 => k_asm); (case k5 => k_asm); (case k6 => first | exact rfl | assumption); (case kd => ktr_room); (case ku => ktr_units); (case kz => ((try simp only [List.length_append, List.length_cons, List.length_nil]); omega)); k_whole); intro x' dx' tx' tk' h' tk'' l1 l2 l3 F' N' kp' fr'; (try k_lt l1); (try k_lt2 l2); (try k_lt2 l3); (try dsimp only); (try k_unmd); (try k_fold)))
local macro_rules | `(tactic| walk_at "truthy ref") => `(tactic| (k_here; (with_reducible show wpAny _ _ (truthy (Value.ref _)) _ _ _); k_dflt (refine' tup_truthy ?F ?D ?z ?_; (case F => k_asm); (case D => assumption); (case z => (try simp only [List.length_append, List.length_cons, List.length_nil]); omega); k_whole); (try simp only [List.isEmpty_cons, List.isEmpty_nil, Bool.not_false, Bool.not_true])))
local macro_rules | `(tactic| walk_at "callWith ref") => `(tactic| (k_here; (with_reducible show wpAny _ _ (callWith _ (Value.ref _) _ (backTo _ (starEach (Expr.Starred _ _ :: _ :: _) _)) []) _ _ _); k_dflt (refine' callWith_S3 ?k1 ?k2 ?_; (case k1 => k_asm); (case k2 => k_is); k_whole)))
local macro_rules | `(tactic| walk_at "compareOp In str ref") => `(tactic| (k_here; (with_reducible show wpAny _ _ (compareOp CmpOp.In (Value.str _ _) (Value.ref _)) _ _ _); k_dflt (refine' topIn_K ?F ?X ?l ?k ?e ?lo ?_; (case F => k_asm); (case X => k_asm); (case l => k_is); (case k => k_keys); (case e => assumption); (case lo => rfl); k_whole); (try simp only [Option.isSome_none, Option.isSome_some])))
local macro_rules | `(tactic| walk_at "exec Raise some none") => `(tactic| refine AE.Raise_ae rfl ?_)
local macro_rules | `(tactic| walk_at "call type:AttributeError") => `(tactic| (k_here; refine AE.call_ae (fun h' e' hx' => ?_) (by size_fits)))
local macro_rules | `(tactic| k_inst) => `(tactic| assumption)
local macro_rules | `(tactic| walk_at "call builtin:len") => `(tactic| (k_here; (with_reducible show wpAny _ _ (call (Value.builtin "len") [Value.ref _]) _ _ _); (refine PyProof.Rows.len_tuple (by is_tup) (by simp only [List.size_toArray, List.length_append, List.length_cons, List.length_nil]; omega) ?_); (try simp only [List.size_toArray])))
local macro_rules | `(tactic| walk_at "call builtin:list.append") => `(tactic| (k_here; (with_reducible show wpAny _ _ (call (Value.builtin _) [Value.ref _, _]) _ _ _); k_dflt (refine' append_K ?k1 ?k2 ?k3 ?_ ?z; (case k1 => k_asm); (case k2 => k_asm); (case k3 => k_upd); (case z => (simp only [List.size_toArray, List.length_append, List.length_cons, List.length_nil]; rw [sizeLine_eq]; omega)); k_whole); intro h' F' N'; (try k_sweep)))
theorem next_news {h₀ h h' : Heap} {L st : Addr} {o o' : Obj} {x : Addr × Obj} {news : List (Addr × Obj)} (N : News h₀ L h ((st, o) :: news)) (k : News h₀ L h' [x, (st, o')]) (hne : ∀ q ∈ news, q.1 ≠ st) (kp : ∀ b o, b ≠ st → h.get? b = some o → h'.get? b = some o) :
    News h₀ L h' ((st, o') :: news) := by
  intro q hq
  rcases List.mem_cons.mp hq with rfl | hq
  · exact k _ (.tail _ (.head _))
  · exact ⟨kp _ _ (hne q hq) (N q (.tail _ hq)).1, (N q (.tail _ hq)).2⟩
set_option maxHeartbeats 4000000 in
theorem next_spec (w : World) (p : Program) (loose : List Str) (mean : ExcName → Option Value) (mg mb : Str → Option Value)
   (dp un : Nat) (gd : Option (List Code)) (cn : Str) (cs : Scope) (a : Addr) (ccd : Value) (cl : List (Str × Addr)) (outer : List Env) (A₀ : Around) (base h₀ : Heap) (L : Addr) (m : Str → Option Value) (s : Shared)
   (Q E : Value → Shared → Prop) (news : List (Addr × Obj)) (st nb : Addr) (at_ many : Int) (t0 t1 : Tok) (vs : List Value) (ns : List Int) (k : Nat)
   (B : Below A₀ base outer h₀) (F : Fr h₀ L s.heap m) (X : (Mine.hd.heap_39 w.params).In h₀) (N : News h₀ L s.heap ((st, listOf [.ref nb, .int at_ t0].toArray k) :: news))
   (T : Top p loose mean mg mb h₀) (hk : cs.kind = .function)
   (hd : dp + 8 < recursionLimit) (hu : un + 40 < cLine) (hne : ∀ q ∈ news, q.1 ≠ st)
   (hl : s.heap.IsList nb vs.toArray) (hnb : nb ≠ st) (hi : IntsAre vs ns) (hln : 3 ≤ ns.length) (hln' : ns.length ≤ 27) (hns : ∀ x ∈ ns, 0 ≤ x ∧ x < 1000003) (hat : 0 ≤ at_) (hat' : at_ ≤ 1000000)
   (hm : 1 ≤ many) (hm' : many ≤ 100)
   (hret : ∀ r t2 t h' tk', 0 ≤ r → r < many → Fr h₀ L h' m → News h₀ L h' ((st, listOf [.ref nb, .int (at_ + 1) t2].toArray k) :: news) → (∀ b o, b ≠ st → s.heap.get? b = some o → h'.get? b = some o) → Q (.int r t) { s with heap := h', toks := tk' }) :
    wpAny (model Pg w) (ktrTop dp un gd cn cs L a ccd cl outer) (call (.ref 97) [.ref st, .int many t1]) Q E s := by
  have kd : (Mine.hd.heap_39, Challenge.rw_ev0002_01) = (Mine.hd.heap_39, Challenge.rw_ev0002_01) := by (k_fill; rfl)
  clear kd
  have N₁ : News h₀ L s.heap [(st, listOf [.ref nb, .int at_ t0].toArray k)] := fun q hq => N q (by rw [List.mem_singleton.mp hq]; exact .head _)
  refine wpAny_call ?_
  k_dflt (refine' Mine.code_defS ?k1 ?k2 ?k3 ?k4 ?k5 ?kA ?kF ?kK ?k6 ?k7 ?k8 ?k9 ?kB ?_ ?c2 ?c3 ?c4 ?c5; (case kA => exact rfl); (case kF => exact rfl); (case kK => exact hk); (case k1 => k_asm); (case k2 => k_asm); (case k3 => k_asm); (case k4 => exact N₁); (case k5 => k_asm); (case k6 => k_is); (case k7 => k_is); (case k8 => ktr_room); (case k9 => exact BindsTo.of_eq rfl); (case c5 => decide); (case kB => exact locs rfl); (case c2 => exact rfl); (case c3 => exact rfl); (case c4 => exact rfl); k_whole)
  intro g' L' h' G FG' F' N' B' X' T'
  have up : ∀ b o, b ≠ st → s.heap.get? b = some o → g'.get? b = some o := fun b o hb e => G b o e (by simpa using hb)
  have hl' : g'.IsList nb vs.toArray := by
    obtain ⟨o, ho, r⟩ := hl
    exact ⟨o, up _ _ hnb ho, r⟩
  clear N₁
  (try dsimp only)
  k_unmd
  k_fold
  have hgt : ∀ i, 0 ≤ ns.getD i 0 ∧ ns.getD i 0 < 1000003 := by
    intro i
    rw [List.getD_eq_getElem?_getD]
    by_cases hi : i < ns.length
    · rw [List.getElem?_eq_getElem hi]; exact hns _ (List.getElem_mem hi)
    · rw [List.getElem?_eq_none (by omega)]; exact ⟨by decide, by decide⟩
  have hg1 := hgt (at_.fmod ↑ns.length).toNat
  have hd1 : 0 ≤ at_.fdiv ↑ns.length ∧ at_.fdiv ↑ns.length ≤ 1000000 := by
    rw [Int.fdiv_eq_ediv_of_nonneg _ (by omega)]
    exact ⟨Int.ediv_nonneg hat (by omega), Int.le_trans (Int.ediv_le_self _ hat) hat'⟩
  have hd2 : 0 ≤ (ns.getD (at_.fmod ↑ns.length).toNat 0).fdiv (1 + at_.fdiv ↑ns.length) ∧ (ns.getD (at_.fmod ↑ns.length).toNat 0).fdiv (1 + at_.fdiv ↑ns.length) ≤ 1000003 := by
    rw [Int.fdiv_eq_ediv_of_nonneg _ (by omega)]
    exact ⟨Int.ediv_nonneg hg1.1 (by omega), Int.le_trans (Int.ediv_le_self _ hg1.1) (by omega)⟩
  have hd3 : 0 ≤ ((ns.getD (at_.fmod ↑ns.length).toNat 0).fdiv (1 + at_.fdiv ↑ns.length) + 7 * at_.fdiv ↑ns.length).fmod many ∧ ((ns.getD (at_.fmod ↑ns.length).toNat 0).fdiv (1 + at_.fdiv ↑ns.length) + 7 * at_.fdiv ↑ns.length).fmod many < many := by
    rw [Int.fmod_eq_emod_of_nonneg _ (by omega)]
    exact ⟨Int.emod_nonneg _ (by omega), Int.emod_lt_of_pos _ (by omega)⟩
  clear hgt
  repeat' ((fail_if_success (with_reducible show wpAny _ _ (pyIter _) _ _ _)); (first | (k_unfold; (try dsimp only)) | (k_end; wrow_close) | walk1 | (dsimp only; walk1) | (leave1; walk_say "STEP leave1"; try dsimp only) | fail "no step"))
  rename (Fr g' L' _ _) => F9
  rename (News h₀ L _ [_, _]) => kN9
  refine hret _ _ _ _ _ hd3.1 hd3.2 (by k_asm) (next_news N kN9 hne fun b o hb e => F9.keep _ _ (up b o hb e)) (fun b o hb e => F9.keep _ _ (up b o hb e))
end Mine
namespace Mine
local macro_rules | `(tactic| k_all) => `(tactic| assumption)
local macro_rules | `(tactic| k_all) => `(tactic| (exact fun p hp => Nat.ne_of_lt (ktn_ltOf (by assumption) p hp)))
local macro_rules | `(tactic| k_inst) => `(tactic| exact InstAt.up (by assumption) (Fr.keep (by k_asm)))
local macro_rules | `(tactic| walk_at "StarOf ref") => `(tactic| (k_here; k_dflt (refine' star_heap ?k1 ?k2 ?m ?z ?_; (case k1 => k_asm); (case k2 => k_asm); (case m => is_tup); (case z => (rw [sizeLine_eq]; (try simp only [List.length_append, List.length_cons, List.length_nil]); omega)); k_whole); intro h' F' N' kst'; (try k_sweep); try dsimp only [List.nil_append, List.cons_append]))
local macro_rules | `(tactic| walk_at "call ref") => `(tactic| (k_here; k_dflt (refine' new_spec _ _ _ _ _ _ _ _ _ _ _ _ _ _ _ _ _ _ _ _ _ _ _ _ _ ?k1 ?k2 ?k3 ?k4 ?k5 ?k6 ?kd ?ku ?kz ?_; (case k1 => k_asm); (case k2 => k_asm); (case k3 => k_asm); (case k4 => k_asm); (case k5 => k_asm); (case k6 => first | exact rfl | assumption); (case kd => ktr_room); (case ku => ktr_units); (case kz => ((try simp only [List.length_append, List.length_cons, List.length_nil]); omega)); k_whole); intro x' dx' tx' tk' h' tk'' l1 l2 l3 F' N' kp' fr'; (try k_lt l1); (try k_lt2 l2); (try k_lt2 l3); (try dsimp only); (try k_unmd); (try k_fold)))
local macro_rules | `(tactic| walk_at "truthy ref") => `(tactic| (k_here; (with_reducible show wpAny _ _ (truthy (Value.ref _)) _ _ _); k_dflt (refine' tup_truthy ?F ?D ?z ?_; (case F => k_asm); (case D => assumption); (case z => (try simp only [List.length_append, List.length_cons, List.length_nil]); omega); k_whole); (try simp only [List.isEmpty_cons, List.isEmpty_nil, Bool.not_false, Bool.not_true])))
local macro_rules | `(tactic| walk_at "callWith ref") => `(tactic| (k_here; (with_reducible show wpAny _ _ (callWith _ (Value.ref _) _ (backTo _ (starEach (Expr.Starred _ _ :: _ :: _) _)) []) _ _ _); k_dflt (refine' callWith_S3 ?k1 ?k2 ?_; (case k1 => k_asm); (case k2 => k_is); k_whole)))
local macro_rules | `(tactic| walk_at "compareOp In str ref") => `(tactic| (k_here; (with_reducible show wpAny _ _ (compareOp CmpOp.In (Value.str _ _) (Value.ref _)) _ _ _); k_dflt (refine' topIn_K ?F ?X ?l ?k ?e ?lo ?_; (case F => k_asm); (case X => k_asm); (case l => k_is); (case k => k_keys); (case e => assumption); (case lo => rfl); k_whole); (try simp only [Option.isSome_none, Option.isSome_some])))
local macro_rules | `(tactic| walk_at "exec Raise some none") => `(tactic| refine AE.Raise_ae rfl ?_)
local macro_rules | `(tactic| walk_at "call type:AttributeError") => `(tactic| (k_here; refine AE.call_ae (fun h' e' hx' => ?_) (by size_fits)))
local macro_rules | `(tactic| k_inst) => `(tactic| assumption)
local macro_rules | `(tactic| walk_at "call builtin:len") => `(tactic| (k_here; (with_reducible show wpAny _ _ (call (Value.builtin "len") [Value.ref _]) _ _ _); (refine PyProof.Rows.len_tuple (by is_tup) (by simp only [List.size_toArray, List.length_append, List.length_cons, List.length_nil]; omega) ?_); (try simp only [List.size_toArray])))
local macro_rules | `(tactic| walk_at "call builtin:list.append") => `(tactic| (k_here; (with_reducible show wpAny _ _ (call (Value.builtin _) [Value.ref _, _]) _ _ _); k_dflt (refine' append_K ?k1 ?k2 ?k3 ?_ ?z; (case k1 => k_asm); (case k2 => k_asm); (case k3 => k_upd); (case z => (simp only [List.size_toArray, List.length_append, List.length_cons, List.length_nil]; rw [sizeLine_eq]; omega)); k_whole); intro h' F' N'; (try k_sweep)))
set_option maxHeartbeats 4000000 in
theorem state_spec (w : World) (p : Program) (loose : List Str) (mean : ExcName → Option Value) (mg mb : Str → Option Value)
   (dp un : Nat) (gd : Option (List Code)) (cn : Str) (cs : Scope) (a : Addr) (ccd : Value) (cl : List (Str × Addr)) (outer : List Env) (A₀ : Around) (base h₀ : Heap) (L : Addr) (m : Str → Option Value) (s : Shared)
   (Q E : Value → Shared → Prop) (news : List (Addr × Obj)) (l : Addr) (vs : List Value) (ns : List Int)
   (B : Below A₀ base outer h₀) (F : Fr h₀ L s.heap m) (X : (Mine.hd.heap_39 w.params).In h₀) (N : News h₀ L s.heap news)
   (T : Top p loose mean mg mb h₀) (hk : cs.kind = .function) (hd : dp + 8 < recursionLimit) (hu : un + 40 < cLine)
   (hl : s.heap.IsList l vs.toArray) (hi : IntsAre vs ns) (hln : ns.length ≤ 63)
   (hret : ∀ st nb t0 vs' ns' rest h' tk', Aft h₀ L m news s.heap h' ((st, listOf [.ref nb, .int 0 t0].toArray 0) :: (nb, listOf vs'.toArray 0) :: rest) → IntsAre vs' ns' → 3 ≤ ns'.length → ns'.length ≤ 27 → (∀ x ∈ ns', 0 ≤ x ∧ x < 1000003) → (∀ q ∈ rest, q.1 ≠ st) → nb ≠ st →
     Q (.ref st) { s with heap := h', toks := tk' }) :
    wpAny (model Pg w) (ktrTop dp un gd cn cs L a ccd cl outer) (call (.ref 102) [.ref l]) Q E s := by
  have kd : (Mine.hd.heap_39, Challenge.rw_ev0002_01) = (Mine.hd.heap_39, Challenge.rw_ev0002_01) := by (k_fill; rfl)
  clear kd
  refine wpAny_call ?_
  k_dflt (refine' Mine.code_defS ?k1 ?k2 ?k3 ?k4 ?k5 ?kA ?kF ?kK ?k6 ?k7 ?k8 ?k9 ?kB ?_ ?c2 ?c3 ?c4 ?c5; (case kA => exact rfl); (case kF => exact rfl); (case kK => exact hk); (case k1 => k_asm); (case k2 => k_asm); (case k3 => k_asm); (case k4 => exact News.nil); (case k5 => k_asm); (case k6 => k_is); (case k7 => k_is); (case k8 => ktr_room); (case k9 => exact BindsTo.of_eq rfl); (case c5 => decide); (case kB => exact locs rfl); (case c2 => exact rfl); (case c3 => exact rfl); (case c4 => exact rfl); k_whole)
  intro g' L' h' G FG' F' N' B' X' T'
  have up : ∀ b o, s.heap.get? b = some o → g'.get? b = some o := fun b o e => G b o e (by simp)
  have hl' : g'.IsList l vs.toArray := stays_list up hl
  (try dsimp only)
  k_unmd
  k_fold
  repeat' ((fail_if_success (with_reducible show wpAny _ _ (pyIter _) _ _ _)); (first | (k_unfold; (try dsimp only)) | (k_end; wrow_close) | walk1 | (dsimp only; walk1) | (leave1; walk_say "STEP leave1"; try dsimp only) | fail "no step"))
  rename (_ ∧ _ ∧ _ ∧ _) => hlt
  refine hret _ _ _ _ _ _ _ _ (aft_end F N G (by k_asm) (by k_asm) (by k_asm)) (by assumption) (by simp) (by simp; omega) ?_ ?_ (Nat.ne_of_lt hlt.1)
  · intro x hx
    rcases List.mem_append.mp hx with hx | hx
    · obtain ⟨y, _, rfl⟩ := List.mem_map.mp hx
      rw [Int.fmod_eq_emod_of_nonneg _ (by decide)]
      exact ⟨Int.emod_nonneg _ (by decide), Int.emod_lt_of_pos _ (by decide)⟩
    · simp only [List.mem_cons, List.not_mem_nil, or_false] at hx
      rcases hx with rfl | rfl | rfl <;> decide
  · intro q hq
    simp only [List.mem_cons, List.not_mem_nil, or_false] at hq
    rcases hq with rfl | rfl | rfl
    · exact Nat.ne_of_lt hlt.2.1
    · exact Nat.ne_of_lt hlt.2.2.1
    · exact Nat.ne_of_lt hlt.2.2.2
end Mine
namespace Mine
local macro_rules | `(tactic| k_all) => `(tactic| assumption)
local macro_rules | `(tactic| k_all) => `(tactic| (exact fun p hp => Nat.ne_of_lt (ktn_ltOf (by assumption) p hp)))
local macro_rules | `(tactic| k_inst) => `(tactic| exact InstAt.up (by assumption) (Fr.keep (by k_asm)))
local macro_rules | `(tactic| walk_at "StarOf ref") => `(tactic| (k_here; k_dflt (refine' star_heap ?k1 ?k2 ?m ?z ?_; (case k1 => k_asm); (case k2 => k_asm); (case m => is_tup); (case z => (rw [sizeLine_eq]; (try simp only [List.length_append, List.length_cons, List.length_nil]); omega)); k_whole); intro h' F' N' kst'; (try k_sweep); try dsimp only [List.nil_append, List.cons_append]))
local macro_rules | `(tactic| walk_at "call ref") => `(tactic| (k_here; k_dflt (refine' new_spec _ _ _ _ _ _ _ _ _ _ _ _ _ _ _ _ _ _ _ _ _ _ _ _ _ ?k1 ?k2 ?k3 ?k4 ?k5 ?k6 ?kd ?ku ?kz ?_; (case k1 => k_asm); (case k2 => k_asm); (case k3 => k_asm); (case k4 => k_asm); (case k5 => k_asm); (case k6 => first | exact rfl | assumption); (case kd => ktr_room); (case ku => ktr_units); (case kz => ((try simp only [List.length_append, List.length_cons, List.length_nil]); omega)); k_whole); intro x' dx' tx' tk' h' tk'' l1 l2 l3 F' N' kp' fr'; (try k_lt l1); (try k_lt2 l2); (try k_lt2 l3); (try dsimp only); (try k_unmd); (try k_fold)))
local macro_rules | `(tactic| walk_at "truthy ref") => `(tactic| (k_here; (with_reducible show wpAny _ _ (truthy (Value.ref _)) _ _ _); k_dflt (refine' tup_truthy ?F ?D ?z ?_; (case F => k_asm); (case D => assumption); (case z => (try simp only [List.length_append, List.length_cons, List.length_nil]); omega); k_whole); (try simp only [List.isEmpty_cons, List.isEmpty_nil, Bool.not_false, Bool.not_true])))
local macro_rules | `(tactic| walk_at "callWith ref") => `(tactic| (k_here; (with_reducible show wpAny _ _ (callWith _ (Value.ref _) _ (backTo _ (starEach (Expr.Starred _ _ :: _ :: _) _)) []) _ _ _); k_dflt (refine' callWith_S3 ?k1 ?k2 ?_; (case k1 => k_asm); (case k2 => k_is); k_whole)))
local macro_rules | `(tactic| walk_at "compareOp In str ref") => `(tactic| (k_here; (with_reducible show wpAny _ _ (compareOp CmpOp.In (Value.str _ _) (Value.ref _)) _ _ _); k_dflt (refine' topIn_K ?F ?X ?l ?k ?e ?lo ?_; (case F => k_asm); (case X => k_asm); (case l => k_is); (case k => k_keys); (case e => assumption); (case lo => rfl); k_whole); (try simp only [Option.isSome_none, Option.isSome_some])))
local macro_rules | `(tactic| walk_at "exec Raise some none") => `(tactic| refine AE.Raise_ae rfl ?_)
local macro_rules | `(tactic| walk_at "call type:AttributeError") => `(tactic| (k_here; refine AE.call_ae (fun h' e' hx' => ?_) (by size_fits)))
local macro_rules | `(tactic| k_inst) => `(tactic| assumption)
local macro_rules | `(tactic| walk_at "call builtin:len") => `(tactic| (k_here; (with_reducible show wpAny _ _ (call (Value.builtin "len") [Value.ref _]) _ _ _); (refine PyProof.Rows.len_tuple (by is_tup) (by simp only [List.size_toArray, List.length_append, List.length_cons, List.length_nil]; omega) ?_); (try simp only [List.size_toArray])))
local macro_rules | `(tactic| walk_at "call builtin:list.append") => `(tactic| (k_here; (with_reducible show wpAny _ _ (call (Value.builtin _) [Value.ref _, _]) _ _ _); k_dflt (refine' append_K ?k1 ?k2 ?k3 ?_ ?z; (case k1 => k_asm); (case k2 => k_asm); (case k3 => k_upd); (case z => (simp only [List.size_toArray, List.length_append, List.length_cons, List.length_nil]; rw [sizeLine_eq]; omega)); k_whole); intro h' F' N'; (try k_sweep)))
theorem mem_front {p b : Addr × Obj} {a c : List (Addr × Obj)} (h : p ∈ a ++ (b :: c)) : p ∈ b :: (a ++ c) := by
  simp only [List.mem_append, List.mem_cons] at h ⊢
  rcases h with h | h | h
  · exact .inr (.inl h)
  · exact .inl h
  · exact .inr (.inr h)
theorem two_news {h₀ g h h' : Heap} {L L' st D : Addr} {m' : Str → Option Value} {o o' oD : Obj} {news : List (Addr × Obj)} {made : List (Addr × Obj)} (N : News h₀ L h ((st, o) :: news)) (hne : ∀ q ∈ news, q.1 ≠ st) (up : ∀ b o, b ≠ st → h.get? b = some o → g.get? b = some o)
    (F' : Fr g L' h' m') (N' : News g L' h' made) (hD : (D, oD) ∈ made) (Ns : News h₀ L h' ((st, o') :: made)) (ne : D ≠ st) : News h₀ L h' ((st, o') :: (D, oD) :: news) ∧ h.get? D = none := by
  refine ⟨fun q hq => ?_, ?_⟩
  · rcases List.mem_cons.mp hq with rfl | hq
    · exact Ns _ (.head _)
    · rcases List.mem_cons.mp hq with rfl | hq
      · exact Ns _ (.tail _ hD)
      · exact ⟨F'.keep _ _ (up _ _ (hne q hq) (N q (.tail _ hq)).1), (N q (.tail _ hq)).2⟩
  · cases e : h.get? D with
    | none => rfl
    | some o => have := up _ _ ne e; rw [(N' _ hD).2.2] at this; cases this
set_option maxHeartbeats 4000000 in
theorem row_spec (w : World) (p : Program) (loose : List Str) (mean : ExcName → Option Value) (mg mb : Str → Option Value)
   (dp un : Nat) (gd : Option (List Code)) (cn : Str) (cs : Scope) (a : Addr) (ccd : Value) (cl : List (Str × Addr)) (outer : List Env) (A₀ : Around) (base h₀ : Heap) (L : Addr) (m : Str → Option Value) (s : Shared)
   (Q E : Value → Shared → Prop) (news : List (Addr × Obj)) (st nb : Addr) (at_ : Int) (t0 : Tok) (vs : List Value) (ns : List Int) (k : Nat)
   (B : Below A₀ base outer h₀) (F : Fr h₀ L s.heap m) (X : (Mine.hd.heap_39 w.params).In h₀) (N : News h₀ L s.heap ((st, listOf [.ref nb, .int at_ t0].toArray k) :: news))
   (T : Top p loose mean mg mb h₀) (hk : cs.kind = .function)
   (hd : dp + 16 < recursionLimit) (hu : un + 80 < cLine) (hne : ∀ q ∈ news, q.1 ≠ st)
   (hl : s.heap.IsList nb vs.toArray) (hnb : nb ≠ st) (hi : IntsAre vs ns) (hln : 3 ≤ ns.length) (hln' : ns.length ≤ 27) (hns : ∀ x ∈ ns, 0 ≤ x ∧ x < 1000003) (hat : 0 ≤ at_) (hat' : at_ ≤ 1000)
   (hret : ∀ rl lv xs at' t2 h' tk', at_ ≤ at' → at' ≤ at_ + 5 → Fr h₀ L h' m → News h₀ L h' ((st, listOf [.ref nb, .int at' t2].toArray k) :: (rl, LCg.lst lv) :: news) → SA lv xs → xs.length ≤ 4 → (∀ x ∈ xs, x ∈ lawNames) → (∀ b o, b ≠ st → s.heap.get? b = some o → h'.get? b = some o) → rl ≠ st → s.heap.get? rl = none → Q (.ref rl) { s with heap := h', toks := tk' }) :
    wpAny (model Pg w) (ktrTop dp un gd cn cs L a ccd cl outer) (call (.ref 108) [.ref st]) Q E s := by
  have kd : (Mine.hd.heap_39, Challenge.rw_ev0002_01) = (Mine.hd.heap_39, Challenge.rw_ev0002_01) := by (k_fill; rfl)
  clear kd
  have N₁ : News h₀ L s.heap [(st, listOf [.ref nb, .int at_ t0].toArray k)] := fun q hq => N q (by rw [List.mem_singleton.mp hq]; exact .head _)
  refine wpAny_call ?_
  k_dflt (refine' cell_enterS ?k1 ?k2 ?k3 ?k4 ?k5 ?kA ?kF ?kK ?k6 ?k7 ?k8 ?k9 ?kB ?kD ?_ ?c2 ?c3 ?c4; (case kA => exact rfl); (case kF => exact rfl); (case kK => exact hk); (case k1 => k_asm); (case k2 => k_asm); (case k3 => k_asm); (case k4 => exact N₁); (case k5 => k_asm); (case k6 => k_is); (case k7 => k_is); (case k8 => ktr_room); (case k9 => exact BindsTo.of_eq rfl); (case kB => exact rfl); (case kD => decide +kernel); (case c2 => exact rfl); (case c3 => exact rfl); (case c4 => exact rfl); k_whole)
  intro g' L' h' tk' cells' G FG' F' N' Y' B' X' T' l1 l0
  k_lt l1
  k_cells Y'
  simp only [List.cons_append, List.nil_append] at N'
  have up : ∀ b o, b ≠ st → s.heap.get? b = some o → g'.get? b = some o := fun b o hb e => G b o e (by simpa using hb)
  have hl' : g'.IsList nb vs.toArray := by
    obtain ⟨o, ho, r⟩ := hl
    exact ⟨o, up _ _ hnb ho, r⟩
  clear N₁
  (try dsimp only)
  k_unmd
  k_fold
  repeat' ((fail_if_success (with_reducible show wpAny _ _ (pyIter _) _ _ _)); (fail_if_success (with_reducible show wpAny _ _ (eval (Expr.ListComp _ _ _ _) _) _ _ _)); (first | (k_unfold; (try dsimp only)) | (k_end; wrow_close) | walk1 | (dsimp only; walk1) | (leave1; walk_say "STEP leave1"; try dsimp only) | fail "no step"))
  k_dflt (refine LCg.ListComp_U (F₀ := by k_asm) (by rfl) (by decide) (by rfl) (by decide) (by rfl) ?_)
  repeat' ((fail_if_success (with_reducible show wpAny _ _ (pyIter _) _ _ _)); (fail_if_success (with_reducible show wpAny _ _ (call (Value.ref 97) _) _ _ _)); (first | (k_unfold; (try dsimp only)) | (k_end; wrow_close) | walk1 | (dsimp only; walk1) | (leave1; walk_say "STEP leave1"; try dsimp only) | fail "no step"))
  have hl9 : ∀ {h : Heap} {mm}, Fr g' L' h mm → h.IsList nb vs.toArray := fun F => stays_list F.keep hl'
  have hst : st ≠ L' + 1 := Nat.ne_of_lt (Nat.lt_succ_of_lt l1)
  refine next_spec w _ _ _ _ _ _ _ _ _ _ _ _ _ _ _ _ _ _ _ _ _ _ [_] st nb at_ 5 t0 _ vs ns k B' (by k_asm) (by k_asm) (news_front (a := [_]) (by k_asm)) (by k_asm) rfl (by ktr_room) (by ktr_units) (fun q hq => by rw [List.mem_singleton.mp hq]; exact Ne.symm hst) (hl9 (by k_asm)) hnb hi hln hln' hns hat (by omega) (by decide) (by decide) ?_
  intro r5 t5 tr5 h5 tk5 r5lo r5hi F5 N5 k5
  dsimp only
  repeat' ((fail_if_success (with_reducible show wpAny _ _ (pyIter _) _ _ _)); (fail_if_success (with_reducible show LCg.CompSrc _ _ _ _ _ _ _ _ _ _ _ _ _ _)); (first | (k_unfold; (try dsimp only)) | (k_end; wrow_close) | walk1 | (dsimp only; walk1) | (leave1; walk_say "STEP leave1"; try dsimp only) | fail "no step"))
  rename IsRange _ _ _ _ _ _ _ _ => hr
  obtain ⟨n, rfl⟩ := Int.eq_ofNat_of_zero_le r5lo
  refine LCg.CompSrc.range rfl (by k_asm) (by k_asm) hr (small_one (by omega) (by omega) (by omega) (by omega)) (range_size n) (by rw [sizeLine_eq]; omega) (fun gg => ?_)
  refine comp_rest (fun i ys nws => ∃ at' t', at_ + 1 ≤ at' ∧ at' ≤ at_ + 1 + (i : Int) ∧ nws = [(st, listOf [.ref nb, .int at' t'].toArray k), (L' + 1, _)] ∧ ∃ xs, SA ys xs ∧ xs.length = i ∧ ∀ x ∈ xs, x ∈ lawNames) ⟨_, _, by omega, by omega, rfl, [], .nil, rfl, by simp⟩ ?_ ?_
  · rintro i ys _ v I oI C oC D m₂ h9 tk9 E' hi9 ⟨at1, t1, ha1, ha2, rfl, xs, hS, hxl, hxm⟩ ⟨t9, rfl⟩ hC hx F9 N9 off ne
    simp only [LCg.Off3, and_true] at off
    repeat' ((fail_if_success (with_reducible show wpAny _ _ (call (Value.ref 97) _) _ _ _)); (first | (k_unfold; (try dsimp only)) | (k_end; wrow_close) | walk1 | (dsimp only; walk1) | (leave1; walk_say "STEP leave1"; try dsimp only) | fail "no step"))
    refine next_spec w _ _ _ _ _ _ _ _ _ _ _ _ _ _ _ _ _ _ _ _ _ _ _ st nb at1 7 t1 _ vs ns k B' (by k_asm) (by k_asm) (news_front (a := [_, _, _]) (by k_asm)) (by k_asm) rfl (by ktr_room) (by ktr_units) (fun q hq => ?_) (hl9 (by k_asm)) hnb hi hln hln' hns (by omega) (by omega) (by decide) (by decide) ?_
    · simp only [List.cons_append, List.nil_append, List.mem_cons, List.not_mem_nil, or_false] at hq
      rcases hq with rfl | rfl | rfl | rfl
      · exact Ne.symm off.1.1
      · exact Ne.symm off.1.2.1
      · exact Ne.symm off.1.2.2
      · exact Ne.symm hst
    · intro r6 t6 tr6 h6 tk6 r6lo r6hi F6 N6 k6
      dsimp only
      have hr6 : r6 = 0 ∨ r6 = 1 ∨ r6 = 2 ∨ r6 = 3 ∨ r6 = 4 ∨ r6 = 5 ∨ r6 = 6 := by omega
      clear k6 r6lo r6hi F9 N9
      rcases hr6 with rfl | rfl | rfl | rfl | rfl | rfl | rfl
      all_goals (repeat' ((fail_if_success (with_reducible show wpAny _ _ (pyIter _) _ _ _)); (fail_if_success (with_reducible show LCg.CompEnd _ _ _ _ _ _ _ _ _ _ _ _ _ _)); (first | (k_unfold; (try dsimp only)) | (k_end; wrow_close) | walk1 | (dsimp only; walk1) | (leave1; walk_say "STEP leave1"; try dsimp only) | fail "no step")))
      all_goals (refine LCg.CompEnd.intro (by assumption) (fun p hp => N6 p (mem_front (a := [_, _, _]) hp)) [_, _] (fun p hp => hp) ⟨off.1, off.2, True.intro⟩ trivial ⟨at1 + 1, t6, by omega, by omega, rfl, _, hS.snoc, by simp [hxl], fun x hx => ?_⟩)
      all_goals (rcases List.mem_append.mp hx with h | h; exact hxm x h; rw [List.mem_singleton.mp h]; decide)
  · rintro ys _ ⟨at1, t1, ha1, ha2, rfl, xs, hS, hxl, hxm⟩
    repeat' ((fail_if_success (with_reducible show wpAny _ _ (pyIter _) _ _ _)); (first | (k_unfold; (try dsimp only)) | (k_end; wrow_close) | walk1 | (dsimp only; walk1) | (leave1; walk_say "STEP leave1"; try dsimp only) | fail "no step"))
    rename (Fr g' L' _ _) => F9
    rename (st ≠ _ ∧ _) => o1
    rename (News h₀ L _ [_, _, _]) => kN9
    rename (News g' L' _ [(_, LCg.lst _), _, _]) => N9
    have e9 := two_news N hne up F9 N9 (.head _) (o' := listOf [.ref nb, .int at1 t1].toArray k) (fun p hp => (List.mem_cons.mp hp).elim (fun e => by rw [e]; exact kN9 _ (.tail _ (.head _))) (fun hp => kN9 _ hp)) (Ne.symm o1.1)
    exact hret _ _ _ _ _ _ _ (by omega) (by omega) (by k_asm) e9.1 hS (by omega) hxm (fun b o hb e => F9.keep _ _ (up b o hb e)) (Ne.symm o1.1) e9.2
end Mine
namespace Mine
local macro_rules | `(tactic| k_all) => `(tactic| assumption)
local macro_rules | `(tactic| k_all) => `(tactic| (exact fun p hp => Nat.ne_of_lt (ktn_ltOf (by assumption) p hp)))
local macro_rules | `(tactic| k_inst) => `(tactic| exact InstAt.up (by assumption) (Fr.keep (by k_asm)))
local macro_rules | `(tactic| walk_at "StarOf ref") => `(tactic| (k_here; k_dflt (refine' star_heap ?k1 ?k2 ?m ?z ?_; (case k1 => k_asm); (case k2 => k_asm); (case m => is_tup); (case z => (rw [sizeLine_eq]; (try simp only [List.length_append, List.length_cons, List.length_nil]); omega)); k_whole); intro h' F' N' kst'; (try k_sweep); try dsimp only [List.nil_append, List.cons_append]))
local macro_rules | `(tactic| walk_at "call ref") => `(tactic| (k_here; k_dflt (refine' new_spec _ _ _ _ _ _ _ _ _ _ _ _ _ _ _ _ _ _ _ _ _ _ _ _ _ ?k1 ?k2 ?k3 ?k4 ?k5 ?k6 ?kd ?ku ?kz ?_; (case k1 => k_asm); (case k2 => k_asm); (case k3 => k_asm); (case k4 => k_asm); (case k5 => k_asm); (case k6 => first | exact rfl | assumption); (case kd => ktr_room); (case ku => ktr_units); (case kz => ((try simp only [List.length_append, List.length_cons, List.length_nil]); omega)); k_whole); intro x' dx' tx' tk' h' tk'' l1 l2 l3 F' N' kp' fr'; (try k_lt l1); (try k_lt2 l2); (try k_lt2 l3); (try dsimp only); (try k_unmd); (try k_fold)))
local macro_rules | `(tactic| walk_at "truthy ref") => `(tactic| (k_here; (with_reducible show wpAny _ _ (truthy (Value.ref _)) _ _ _); k_dflt (refine' tup_truthy ?F ?D ?z ?_; (case F => k_asm); (case D => assumption); (case z => (try simp only [List.length_append, List.length_cons, List.length_nil]); omega); k_whole); (try simp only [List.isEmpty_cons, List.isEmpty_nil, Bool.not_false, Bool.not_true])))
local macro_rules | `(tactic| walk_at "callWith ref") => `(tactic| (k_here; (with_reducible show wpAny _ _ (callWith _ (Value.ref _) _ (backTo _ (starEach (Expr.Starred _ _ :: _ :: _) _)) []) _ _ _); k_dflt (refine' callWith_S3 ?k1 ?k2 ?_; (case k1 => k_asm); (case k2 => k_is); k_whole)))
local macro_rules | `(tactic| walk_at "compareOp In str ref") => `(tactic| (k_here; (with_reducible show wpAny _ _ (compareOp CmpOp.In (Value.str _ _) (Value.ref _)) _ _ _); k_dflt (refine' topIn_K ?F ?X ?l ?k ?e ?lo ?_; (case F => k_asm); (case X => k_asm); (case l => k_is); (case k => k_keys); (case e => assumption); (case lo => rfl); k_whole); (try simp only [Option.isSome_none, Option.isSome_some])))
local macro_rules | `(tactic| walk_at "exec Raise some none") => `(tactic| refine AE.Raise_ae rfl ?_)
local macro_rules | `(tactic| walk_at "call type:AttributeError") => `(tactic| (k_here; refine AE.call_ae (fun h' e' hx' => ?_) (by size_fits)))
local macro_rules | `(tactic| k_inst) => `(tactic| assumption)
local macro_rules | `(tactic| walk_at "call builtin:len") => `(tactic| (k_here; (with_reducible show wpAny _ _ (call (Value.builtin "len") [Value.ref _]) _ _ _); (refine PyProof.Rows.len_tuple (by is_tup) (by simp only [List.size_toArray, List.length_append, List.length_cons, List.length_nil]; omega) ?_); (try simp only [List.size_toArray])))
local macro_rules | `(tactic| walk_at "call builtin:list.append") => `(tactic| (k_here; (with_reducible show wpAny _ _ (call (Value.builtin _) [Value.ref _, _]) _ _ _); k_dflt (refine' append_K ?k1 ?k2 ?k3 ?_ ?z; (case k1 => k_asm); (case k2 => k_asm); (case k3 => k_upd); (case z => (simp only [List.size_toArray, List.length_append, List.length_cons, List.length_nil]; rw [sizeLine_eq]; omega)); k_whole); intro h' F' N'; (try k_sweep)))
theorem decide_cons (x : Str) (xs : List Str) : decide (x :: xs = []) = false := decide_eq_false (List.cons_ne_nil _ _)
theorem ndecide_cons (x : Str) (xs : List Str) : (!decide (x :: xs = [])) = true := by rw [decide_cons]; rfl
theorem ndecide_nil : (!decide (([] : List Str) = [])) = false := rfl
section
variable {prog : Program} {w : World} {A : Around} {E : Value → Shared → Prop} {s : Shared} {h₀ : Heap} {L : Addr} {news : List (Addr × Obj)}
theorem lst_eqN {a b : Addr} {vs ws : List Value} {i j : Nat} {xs ys : List Str} {c : Bool} {Q : Value → Shared → Prop} (N : News h₀ L s.heap news) (ha : (a, listOf vs.toArray i) ∈ news) (hb : (b, listOf ws.toArray j) ∈ news) (qa : SA vs xs) (qb : SA ws ys)
    (oa : Ok xs) (ob : Ok ys) (hu : A.units + 64 < cLine) (hc : decide (xs = ys) = c) (h : Q (.bool c) s) : wpAny (model prog w) A (compareOp .Eq (.ref a) (.ref b)) Q E s :=
  lst_eq (News.isList N ha) (News.isList N hb) qa qb oa ob hu (hc ▸ h)
theorem lst_neN {a b : Addr} {vs ws : List Value} {i j : Nat} {xs ys : List Str} {c : Bool} {Q : Value → Shared → Prop} (N : News h₀ L s.heap news) (ha : (a, listOf vs.toArray i) ∈ news) (hb : (b, listOf ws.toArray j) ∈ news) (qa : SA vs xs) (qb : SA ws ys)
    (oa : Ok xs) (ob : Ok ys) (hu : A.units + 64 < cLine) (hc : (!decide (xs = ys)) = c) (h : Q (.bool c) s) : wpAny (model prog w) A (compareOp .NotEq (.ref a) (.ref b)) Q E s :=
  lst_ne (News.isList N ha) (News.isList N hb) qa qb oa ob hu (hc ▸ h)
end
local macro_rules | `(tactic| walk_at "compareOp Eq ref ref") => `(tactic| (k_here; k_dflt (refine' lst_eqN ?k1 ?k2 ?k3 ?k4 ?k5 ?k6 ?k7 ?k8 ?k9 ?_; (case k1 => k_asm); (case k2 => k_mem); (case k3 => k_mem); (case k4 => first | exact .nil | assumption | exact .cons (by assumption)); (case k5 => first | exact .nil | assumption | exact .cons (by assumption)); (case k6 => first | assumption | exact (fun _ h => nomatch h)); (case k7 => first | assumption | exact (fun _ h => nomatch h)); (case k8 => ktr_units); (case k9 => first | exact decide_cons _ _ | exact decide_eq_true rfl); k_whole)))
local macro_rules | `(tactic| walk_at "compareOp NotEq ref ref") => `(tactic| (k_here; k_dflt (refine' lst_neN ?k1 ?k2 ?k3 ?k4 ?k5 ?k6 ?k7 ?k8 ?k9 ?_; (case k1 => k_asm); (case k2 => k_mem); (case k3 => k_mem); (case k4 => first | exact .nil | assumption | exact .cons (by assumption)); (case k5 => first | exact .nil | assumption | exact .cons (by assumption)); (case k6 => first | assumption | exact (fun _ h => nomatch h)); (case k7 => first | assumption | exact (fun _ h => nomatch h)); (case k8 => ktr_units); (case k9 => first | exact ndecide_cons _ _ | exact ndecide_nil); k_whole)))
theorem ok_names : ∀ x ∈ lawNames, PyData.strOk x = true := by decide +kernel
theorem ok_lit : PyData.strOk sLit = true := by decide +kernel
theorem ok_step {fs : List Str} {y : Str} (h : Ok fs) (hy : y ∈ lawNames) : Ok (stepN fs y) := by
  unfold stepN
  have h1 := ok_names y hy
  repeat' split
  all_goals (intro x hx; simp only [List.mem_cons, List.mem_append, List.not_mem_nil, or_false] at hx)
  · rcases hx with rfl | rfl
    · exact ok_lit
    · exact ok_names _ (by decide)
  · rcases hx with rfl | rfl
    · exact ok_lit
    · exact ok_names _ (by decide)
  · subst hx; exact h1
  · rcases hx with hx | rfl
    · exact h x hx
    · exact h1
theorem ok_fold : ∀ (l : List Str) (fs : List Str), Ok fs → (∀ y ∈ l, y ∈ lawNames) → Ok (l.foldl stepN fs)
  | [], _, h, _ => h
  | y :: l, fs, h, hl => ok_fold l _ (ok_step h (hl y (.head _))) fun z hz => hl z (.tail _ hz)
abbrev sFound : Str := Str.ofString "found"
def WholeJ (xs : List Str) (i : Nat) (m : Str → Option Value) (news : List (Addr × Obj)) : Prop :=
  ∃ ys D k, m sFound = some (.ref D) ∧ news = [(D, listOf ys.toArray k)] ∧ SA ys ((xs.take i).foldl stepN [])
set_option maxHeartbeats 4000000 in
theorem whole_spec (w : World) (p : Program) (loose : List Str) (mean : ExcName → Option Value) (mg mb : Str → Option Value)
   (dp un : Nat) (gd : Option (List Code)) (cn : Str) (cs : Scope) (a : Addr) (ccd : Value) (cl : List (Str × Addr)) (outer : List Env) (A₀ : Around) (base h₀ : Heap) (L : Addr) (m : Str → Option Value) (s : Shared)
   (Q E : Value → Shared → Prop) (news : List (Addr × Obj)) (rl : Addr) (lv : List Value) (xs : List Str)
   (B : Below A₀ base outer h₀) (F : Fr h₀ L s.heap m) (X : (Mine.hd.heap_39 w.params).In h₀) (N : News h₀ L s.heap news)
   (T : Top p loose mean mg mb h₀) (hk : cs.kind = .function) (hd : dp + 8 < recursionLimit) (hu : un + 160 < cLine)
   (hl : s.heap.IsList rl lv.toArray) (hS : SA lv xs) (hln : xs.length ≤ 5) (hxm : ∀ x ∈ xs, x ∈ lawNames)
   (hret : ∀ r vs h' tk', Aft h₀ L m news s.heap h' [(r, tupOf vs)] → SA vs (xs.foldl stepN []) → Q (.ref r) { s with heap := h', toks := tk' }) :
    wpAny (model Pg w) (ktrTop dp un gd cn cs L a ccd cl outer) (call (.ref 115) [.ref rl]) Q E s := by
  have kd : (Mine.hd.heap_39, Challenge.rw_ev0002_01) = (Mine.hd.heap_39, Challenge.rw_ev0002_01) := by (k_fill; rfl)
  clear kd
  refine wpAny_call ?_
  k_dflt (refine' Mine.code_defS ?k1 ?k2 ?k3 ?k4 ?k5 ?kA ?kF ?kK ?k6 ?k7 ?k8 ?k9 ?kB ?_ ?c2 ?c3 ?c4 ?c5; (case kA => exact rfl); (case kF => exact rfl); (case kK => exact hk); (case k1 => k_asm); (case k2 => k_asm); (case k3 => k_asm); (case k4 => exact News.nil); (case k5 => k_asm); (case k6 => k_is); (case k7 => k_is); (case k8 => ktr_room); (case k9 => exact BindsTo.of_eq rfl); (case c5 => decide); (case kB => exact locs rfl); (case c2 => exact rfl); (case c3 => exact rfl); (case c4 => exact rfl); k_whole)
  intro g' L' h' G FG' F' N' B' X' T'
  have up : ∀ b o, s.heap.get? b = some o → g'.get? b = some o := fun b o e => G b o e (by simp)
  have hl' : g'.IsList rl lv.toArray := stays_list up hl
  (try dsimp only)
  k_unmd
  k_fold
  repeat' ((fail_if_success (with_reducible show wpAny _ _ (pyIter _) _ _ _)); (fail_if_success (with_reducible show wpAny _ _ (exec (Stmt.For _ _ _ _ _) _) _ _ _)); (first | (k_unfold; (try dsimp only)) | (k_end; wrow_close) | walk1 | (dsimp only; walk1) | (leave1; walk_say "STEP leave1"; try dsimp only) | fail "no step"))
  rename Fr g' L' _ _ => Fa
  rename News g' L' _ _ => Na
  (with_unfolding_all refine' For_invVF Fa ?k1 ?k2 ?_; (case k1 => exact rfl); (case k2 => exact rfl))
  repeat' ((fail_if_success (with_reducible show wpAny _ _ (pyIter _) _ _ _)); (first | (k_unfold; (try dsimp only)) | (k_end; wrow_close) | walk1 | (dsimp only; walk1) | (leave1; walk_say "STEP leave1"; try dsimp only) | fail "no step"))
  refine iter_listW (WholeJ xs) rfl Fa Na (by exact stays_list Fa.keep hl') (by exact ⟨[], _, _, rfl, rfl, .nil⟩) ?_ ?_
  · intro i v m₁ news₁ h2 tk2 own wr hv hJ hoff hnew _ ⟨I, oI, hwr, NI⟩ F2 N2
    obtain ⟨ys, D, k, hm, rfl, hys⟩ := hJ
    obtain ⟨y, ty, hy, rfl⟩ := hS.get hv
    have hy' := hxm _ (List.mem_of_getElem? hy)
    have F3 := fr_under F2 hm
    have htk : (xs.take (i + 1)).foldl stepN [] = stepN ((xs.take i).foldl stepN []) y := by
      rw [List.take_add_one, hy]; simp
    have hlen := fold_len (xs.take i) []
    have hlen2 : (xs.take i).length ≤ 5 := by rw [List.length_take]; omega
    have hok : Ok ((xs.take i).foldl stepN []) := ok_fold _ _ (fun _ h => nomatch h) fun z hz => hxm z (List.mem_of_mem_take hz)
    simp only [List.length_nil] at hlen
    generalize (xs.take i).foldl stepN [] = fs at *
    subst hwr
    have NB := news_and NI N2
    have N3 : News g' L' h2 ((D, listOf ys.toArray k) :: (I, oI) :: (own ++ [])) := news_front (a := (I, oI) :: own) NB
    generalize htail : own ++ [] = tail at N3
    have hDI : D ≠ I := fun e => hoff (D, _) (.head _) (List.mem_singleton.mpr e)
    have hysl := hys.length
    clear NB F2 Fa Na N2 NI
    obtain _ | @⟨f, tf, ys, fs, hys⟩ := hys
    · simp only [lawNames, List.mem_cons, List.not_mem_nil, or_false] at hy'
      rcases hy' with rfl | rfl | rfl | rfl | rfl | rfl | rfl
      all_goals (repeat' ((fail_if_success (with_reducible show wpAny _ _ (pyIter _) _ _ _)); (fail_if_success (with_reducible show wpAny _ _ (binaryOp Operator.Add _ _) _ _ _)); (first | (k_unfold; (try dsimp only)) | (k_end; wrow_close) | walk1 | (dsimp only; walk1) | (leave1; walk_say "STEP leave1"; try dsimp only) | fail "no step")))
      all_goals (try (k_dflt (refine add_listsG (by k_asm) (by k_asm) (News.isList (by k_asm) (by k_mem)) (News.isList (by k_asm) (by k_mem)) (by simp only [List.length_cons, List.length_nil, List.length_nil]; omega) (fun D9 h9 F9 N9 hlt9 hlt8 => ?_)); dsimp only; (repeat' ((fail_if_success (with_reducible show wpAny _ _ (pyIter _) _ _ _)); (first | (k_unfold; (try dsimp only)) | (k_end; wrow_close) | walk1 | (dsimp only; walk1) | (leave1; walk_say "STEP leave1"; try dsimp only) | fail "no step")))))
      all_goals (show TurnE _ _ _ _ _ _ _)
      all_goals (rename (News g' _ _ (_ :: _)) => N9)
      all_goals ((refine' TurnE.intro (news₂ := [(_, listOf (_ : List Value).toArray _)]) (by k_asm) (fun p hp => (List.mem_append.mp hp).elim (fun h => N9 p ?a) (fun h => N9 p ?b)) (fun p hp e => ?c) ⟨_, _, _, rfl, rfl, ?S⟩); (case b => rw [List.mem_singleton.mp h]; k_mem); (case a => subst htail; simp [h]); (case c => rw [List.mem_singleton.mp hp] at e; exact absurd (List.mem_singleton.mp e) (by first | assumption | exact Ne.symm (Nat.ne_of_lt (hlt9 (I, oI) (by simp))) | k_ne)); (case S => rw [htk]; first | exact .cons .one | exact .one | exact .nil | exact (SA.cons hys).append .one))
    · repeat' ((fail_if_success (with_reducible show wpAny _ _ (pyIter _) _ _ _)); (fail_if_success (with_reducible show wpAny _ _ (binaryOp Operator.Add _ _) _ _ _)); (first | (k_unfold; (try dsimp only)) | (k_end; wrow_close) | walk1 | (dsimp only; walk1) | (leave1; walk_say "STEP leave1"; try dsimp only) | fail "no step"))
      simp only [List.length_cons] at hysl hlen
      k_dflt (refine add_listsG (by k_asm) (by k_asm) (News.isList (by k_asm) (by k_mem)) (News.isList (by k_asm) (by k_mem)) (by simp only [List.length_cons, List.length_nil, hysl]; omega) (fun D9 h9 F9 N9 hlt9 hlt8 => ?_))
      dsimp only
      repeat' ((fail_if_success (with_reducible show wpAny _ _ (pyIter _) _ _ _)); (first | (k_unfold; (try dsimp only)) | (k_end; wrow_close) | walk1 | (dsimp only; walk1) | (leave1; walk_say "STEP leave1"; try dsimp only) | fail "no step"))
      show TurnE _ _ _ _ _ _ _
      rename (News g' _ _ (_ :: _)) => N9
      ((refine' TurnE.intro (news₂ := [(_, listOf (_ : List Value).toArray _)]) (by k_asm) (fun p hp => (List.mem_append.mp hp).elim (fun h => N9 p ?a) (fun h => N9 p ?b)) (fun p hp e => ?c) ⟨_, _, _, rfl, rfl, ?S⟩); (case b => rw [List.mem_singleton.mp h]; k_mem); (case a => subst htail; simp [h]); (case c => rw [List.mem_singleton.mp hp] at e; exact absurd (List.mem_singleton.mp e) (by first | assumption | exact Ne.symm (Nat.ne_of_lt (hlt9 (I, oI) (by simp))) | k_ne)); (case S => rw [htk]; first | exact .cons .one | exact .one | exact .nil | exact (SA.cons hys).append .one))
  · intro m₁ news₁ h2 tk2 hJ F2 N2
    obtain ⟨ys, D, k, hm, rfl, hys⟩ := hJ
    have F3 := fr_name F2 hm
    clear F2 Fa Na
    rw [hS.length, List.take_length] at hys
    repeat' ((fail_if_success (with_reducible show wpAny _ _ (pyIter _) _ _ _)); (fail_if_success (with_reducible show wpAny _ _ (call (Value.type "tuple") _) _ _ _)); (first | (k_unfold; (try dsimp only)) | (k_end; wrow_close) | walk1 | (dsimp only; walk1) | (leave1; walk_say "STEP leave1"; try dsimp only) | fail "no step"))
    have hlen := fold_len xs []
    simp only [List.length_nil] at hlen
    k_dflt (refine kde_tupleOf (zs := ys) (by k_asm) (by k_asm) (News.isList N2 (.head _)) (by rw [List.size_toArray, hys.length]; omega) (by simp) ?_)
    intro r h3 F4 N4 hlt
    dsimp only
    repeat' ((fail_if_success (with_reducible show wpAny _ _ (pyIter _) _ _ _)); (first | (k_unfold; (try dsimp only)) | (k_end; wrow_close) | walk1 | (dsimp only; walk1) | (leave1; walk_say "STEP leave1"; try dsimp only) | fail "no step"))
    exact hret _ _ _ _ (aft_end F N G (by k_asm) (fun p hp => N4 p (by rw [List.mem_singleton.mp hp]; exact .head _)) (by k_asm)) hys
end Mine
namespace Mine
local macro_rules | `(tactic| k_all) => `(tactic| assumption)
local macro_rules | `(tactic| k_all) => `(tactic| (exact fun p hp => Nat.ne_of_lt (ktn_ltOf (by assumption) p hp)))
local macro_rules | `(tactic| k_inst) => `(tactic| exact InstAt.up (by assumption) (Fr.keep (by k_asm)))
local macro_rules | `(tactic| walk_at "StarOf ref") => `(tactic| (k_here; k_dflt (refine' star_heap ?k1 ?k2 ?m ?z ?_; (case k1 => k_asm); (case k2 => k_asm); (case m => is_tup); (case z => (rw [sizeLine_eq]; (try simp only [List.length_append, List.length_cons, List.length_nil]); omega)); k_whole); intro h' F' N' kst'; (try k_sweep); try dsimp only [List.nil_append, List.cons_append]))
local macro_rules | `(tactic| walk_at "call ref") => `(tactic| (k_here; k_dflt (refine' new_spec _ _ _ _ _ _ _ _ _ _ _ _ _ _ _ _ _ _ _ _ _ _ _ _ _ ?k1 ?k2 ?k3 ?k4 ?k5 ?k6 ?kd ?ku ?kz ?_; (case k1 => k_asm); (case k2 => k_asm); (case k3 => k_asm); (case k4 => k_asm); (case k5 => k_asm); (case k6 => first | exact rfl | assumption); (case kd => ktr_room); (case ku => ktr_units); (case kz => ((try simp only [List.length_append, List.length_cons, List.length_nil]); omega)); k_whole); intro x' dx' tx' tk' h' tk'' l1 l2 l3 F' N' kp' fr'; (try k_lt l1); (try k_lt2 l2); (try k_lt2 l3); (try dsimp only); (try k_unmd); (try k_fold)))
local macro_rules | `(tactic| walk_at "truthy ref") => `(tactic| (k_here; (with_reducible show wpAny _ _ (truthy (Value.ref _)) _ _ _); k_dflt (refine' tup_truthy ?F ?D ?z ?_; (case F => k_asm); (case D => assumption); (case z => (try simp only [List.length_append, List.length_cons, List.length_nil]); omega); k_whole); (try simp only [List.isEmpty_cons, List.isEmpty_nil, Bool.not_false, Bool.not_true])))
local macro_rules | `(tactic| walk_at "callWith ref") => `(tactic| (k_here; (with_reducible show wpAny _ _ (callWith _ (Value.ref _) _ (backTo _ (starEach (Expr.Starred _ _ :: _ :: _) _)) []) _ _ _); k_dflt (refine' callWith_S3 ?k1 ?k2 ?_; (case k1 => k_asm); (case k2 => k_is); k_whole)))
local macro_rules | `(tactic| walk_at "compareOp In str ref") => `(tactic| (k_here; (with_reducible show wpAny _ _ (compareOp CmpOp.In (Value.str _ _) (Value.ref _)) _ _ _); k_dflt (refine' topIn_K ?F ?X ?l ?k ?e ?lo ?_; (case F => k_asm); (case X => k_asm); (case l => k_is); (case k => k_keys); (case e => assumption); (case lo => rfl); k_whole); (try simp only [Option.isSome_none, Option.isSome_some])))
local macro_rules | `(tactic| walk_at "exec Raise some none") => `(tactic| refine AE.Raise_ae rfl ?_)
local macro_rules | `(tactic| walk_at "call type:AttributeError") => `(tactic| (k_here; refine AE.call_ae (fun h' e' hx' => ?_) (by size_fits)))
local macro_rules | `(tactic| k_inst) => `(tactic| assumption)
local macro_rules | `(tactic| walk_at "call builtin:len") => `(tactic| (k_here; (with_reducible show wpAny _ _ (call (Value.builtin "len") [Value.ref _]) _ _ _); (refine PyProof.Rows.len_tuple (by is_tup) (by simp only [List.size_toArray, List.length_append, List.length_cons, List.length_nil]; omega) ?_); (try simp only [List.size_toArray])))
local macro_rules | `(tactic| walk_at "call builtin:list.append") => `(tactic| (k_here; (with_reducible show wpAny _ _ (call (Value.builtin _) [Value.ref _, _]) _ _ _); k_dflt (refine' append_K ?k1 ?k2 ?k3 ?_ ?z; (case k1 => k_asm); (case k2 => k_asm); (case k3 => k_upd); (case z => (simp only [List.size_toArray, List.length_append, List.length_cons, List.length_nil]; rw [sizeLine_eq]; omega)); k_whole); intro h' F' N'; (try k_sweep)))
section
variable {prog : Program} {w : World} {A A₀ : Around} {E : Value → Shared → Prop} {s : Shared} {K : Frag} {C L : Addr} {h₀ base : Heap} {m mg mb : Str → Option Value} {news : List (Addr × Obj)} {p : Program} {loose : List Str} {mean : ExcName → Option Value} {Q : Value → Shared → Prop}
/-- a def that handles is entered: all that stands is ground; the caller's frame may have cells -/
theorem code_try {env : Env} {R : Result → Shared → Prop} {name qual : Str} {params : Arguments} {body : List Stmt} {scope : Scope} {dV kV doc pm cdv ct oc : Value} {an od : Option Addr} {osl : Array (Option Value)} {f : Addr} {args : Args} {binds : List (Str × Value)}
    (B : Below A₀ base [] h₀) (F : Fr h₀ L s.heap m) (X₀ : K.In h₀) (T : Top p loose mean mg mb h₀) (hA : A.frames = some [env]) (hf : env.frame = some L) (hke : env.scope.kind = .function)
    (ho : K.lookup f = some ⟨oc, od, .func (fnOf name qual params body scope dV kV doc pm an cdv ct), osl⟩) (hcd : codeIn K cdv qual = true) (hroom : A.depth < recursionLimit)
    (hbind : BindsTo s (fnOf name qual params body scope dV kV doc pm an cdv ct) args binds) (hloc : ∀ y ∈ binds, scope.names.lookup y.1 = some .local)
    (h : ∀ g L' h₁, (∀ b o, s.heap.get? b = some o → g.get? b = some o) → Fr h₀ L g m → Fr g L' h₁ (fun y => binds.reverse.lookup y) → Below A base [env] g → K.In g → Top p loose mean mg mb g → KtsDicts ([env].filterMap (·.frame)) g → [env].filterMap (·.frame) = [L] →
      wpAny (model prog w) (A.deeper (envOf qual scope L' f cdv)) (execs body (envOf qual scope L' f cdv))
        (fun fl s' => LeaveS0 ([env].filterMap (·.frame)) h₀ L m g R (match fl with | .ret v => v | _ => .none) s')
        (fun e s' => wpAny (model prog w) (A.deeper (envOf qual scope L' f cdv)) (leaving (envOf qual scope L' f cdv) e) (fun _ s'' => R (.error e) s'') (fun e' s'' => R (.error e') s'') s')
        { s with heap := h₁, toks := s.toks + binds.length })
    (hco : scope.isCoroutine = false) (hgen : scope.isGenerator = false) (hk : scope.kind = .function)
    (hcell : ∀ x ∈ scope.names, x.2 ≠ .cell) : codeAny (model prog w) A (.call (.ref f) args) R s := by
  have X := X₀.keeps F.keep
  have hfs : [env].filterMap (·.frame) = [L] := by simp [hf]
  obtain ⟨FG, BG, st, lv⟩ := groundX (R := R) B F (News.nil (h₀ := h₀) (L := L) (h := s.heap)) hA hf hke
  have up : ∀ b o, s.heap.get? b = some o → (hideAll s.heap (([] : List (Addr × Obj)).map (·.1))).get? b = some o := fun b o e => hideAll_get _ e (fun q => nomatch q)
  obtain ⟨oL, es, ep, hLg, hLd, hLk, hLf⟩ := FG.ns
  refine codeAny_call_def (fd := fnOf name qual params body scope dV kV doc pm an cdv ct) (body := body) (binds := binds) hroom (X _ _ ho) rfl (T.nolimit.keeps F.keep) (codeRec_of X hcd) rfl hbind hcell hloc (fun h₁ hns hk₁ => ?_) hco hgen hk
  refine wpAny_mono (h _ s.heap.objs.size h₁ up FG ⟨hns, fun b o e => hk₁ b o (of_hideAll _ e), Nat.le_of_eq (hideAll_size _ _)⟩
    BG (X₀.keeps st) (T.keeps st) (fun b hb => by
      rw [hfs] at hb
      rw [List.mem_singleton.mp hb]
      exact ⟨oL, es, ep, hLg, hLd⟩) hfs) (fun fl s' hl => ?_) fun _ _ y => y
  obtain ⟨g', L', m', news', T', F', N', k⟩ := hl
  have nL₀ : h₀.get? L = none := kts_self F
  obtain ⟨sl, hs⟩ := T'.up hLg
  refine k ⟨⟨_, es, ep, F'.keep _ _ hs, hLd, hLk, hLf⟩, fun b o e => F'.keep b o (T'.other b o (st b o e) (fun q => by
    rw [hfs] at q
    rw [List.mem_singleton.mp q, nL₀] at e; cases e)), F.above⟩ fun p hp => ⟨(N' p hp).1, fun q => ?_, ?_⟩
  · have := (N' p hp).2.2; rw [q, hs] at this; cases this
  · cases q : h₀.get? p.1 with
    | none => rfl
    | some o =>
      obtain ⟨sl', hs'⟩ := T'.up (st _ _ q)
      have := (N' p hp).2.2
      rw [hs'] at this
      cases this
end
set_option maxHeartbeats 4000000 in
theorem leads_bad (w : World) (p : Program) (loose : List Str) (mean : ExcName → Option Value) (mg mb : Str → Option Value)
   (dp un : Nat) (gd : Option (List Code)) (cn : Str) (cs : Scope) (a : Addr) (ccd : Value) (cl : List (Str × Addr)) (A₀ : Around) (base h₀ : Heap) (L : Addr) (m : Str → Option Value) (s : Shared)
   (Q E : Value → Shared → Prop) (news : List (Addr × Obj)) (x : Str) (tx : Tok) (pre : List Str) (bad : Str) (post : List Str)
   (B : Below A₀ base [] h₀) (F : Fr h₀ L s.heap m) (X : (Mine.hd.heap_39 w.params).In h₀) (N : News h₀ L s.heap news)
   (T : Top p loose mean mg mb h₀) (hk : cs.kind = .function) (XB : (Mine.hd.heap_39 w.params).In base) (TB : Top p loose mean mg mb base) (hd : dp + 32 < recursionLimit) (hu : un + 160 < cLine)
   (hx : x = Txt.join sDot (pre ++ bad :: post)) (hx0 : x.length ≠ 0) (hx1 : x.length ≤ 10000) (hl : pre.length ≤ 40) (hup : ∀ y ∈ pre, Up y) (hdot : ∀ y ∈ pre ++ bad :: post, 46 ∉ y.cps.toList)
   (hb1 : bad.length ≤ 100) (hb2 : bad.length = 0 ∨ Txt.isupper (Txt.item bad 0) = false)
   (hret : ∀ h' tk', Fr h₀ L h' m → News h₀ L h' news → (∀ b o, b ≠ L → s.heap.get? b = some o → h'.get? b = some o) → Q (.bool false) { s with heap := h', toks := tk' }) :
    wpAny (model Pg w) (ktrTop dp un gd cn cs L a ccd cl []) (call (.ref 122) [.str x tx]) Q E s := by
  have kd : (Mine.hd.heap_39, Challenge.rw_ev0002_01) = (Mine.hd.heap_39, Challenge.rw_ev0002_01) := by (k_fill; rfl)
  clear kd
  refine wpAny_call ?_
  k_dflt (refine' code_try ?k1 ?k2 ?k3 ?k5 ?kA ?kF ?kK ?k6 ?k7 ?k8 ?k9 ?kB ?_ ?c2 ?c3 ?c4 ?c5; (case kA => exact rfl); (case kF => exact rfl); (case kK => exact hk); (case k1 => k_asm); (case k2 => k_asm); (case k3 => k_asm); (case k5 => k_asm); (case k6 => k_is); (case k7 => k_is); (case k8 => ktr_room); (case k9 => exact BindsTo.of_eq rfl); (case c5 => decide); (case kB => exact locs rfl); (case c2 => exact rfl); (case c3 => exact rfl); (case c4 => exact rfl); k_whole)
  intro g' L' h' up FG' F' B' X' T' D' hfs
  (try dsimp only)
  k_unmd
  k_fold
  repeat' ((fail_if_success (with_reducible show wpAny _ _ (pyIter _) _ _ _)); (fail_if_success (with_reducible show wpAny _ _ (call (Value.ref 90) _) _ _ _)); (first | (k_unfold; (try dsimp only)) | (k_end; wrow_close) | walk1 | (dsimp only; walk1) | (leave1; walk_say "STEP leave1"; try dsimp only) | fail "no step"))
  refine stt_bad w _ _ _ _ _ _ _ _ _ _ _ _ _ _ _ _ _ _ _ _ _ _ [] x tx pre bad post B' (by k_asm) (by k_asm) (fun q hq => nomatch hq) (by k_asm) rfl (by ktr_room) (by ktr_units) hx hx0 hx1 hl hup hdot hb1 hb2 ?_
  intro e h9 tk9 R9 U9
  dsimp only at R9 U9 ⊢
  have D9 : KtsDicts ([envX cn cs L a ccd cl].filterMap (·.frame)) g' := D'
  k_dflt (refine' caught_SN0 (T' := "AttributeError") (KF := Mine.hd.heap_39 w.params) ?R ?F ?K ?U ?XB ?TB ?D ?T0 ?ex PyProof.Rows.Boot.«AttributeError» ?hn ?i1 ?i2 ?hs ?_; (case R => exact R9); (case F => exact F'); (case K => exact B'); (case U => exact U9); (case XB => exact XB); (case TB => exact TB); (case D => exact D9); (case T0 => exact KtsTurn.refl); (case ex => k_is); (case hn => decide); k_whole)
  case i1 => rw [isSubtype_type]; kernel_rfl!
  case i2 => kernel_rfl!
  case hs => rw [isSubtype_type]; kernel_rfl!
  intro h6 g6 T6 F6 N6 K6 X6 P6 D6
  repeat' ((fail_if_success (with_reducible show wpAny _ _ (pyIter _) _ _ _)); (first | (k_unfold; (try dsimp only)) | (k_end; wrow_close) | walk1 | (dsimp only; walk1) | (leave1; walk_say "STEP leave1"; try dsimp only) | fail "no step"))
  rename (Fr g6 L' _ _) => F9
  have kp : ∀ b o, b ≠ L → s.heap.get? b = some o → h6.get? b = some o := fun b o hb e => F9.keep _ _ (T6.other _ _ (up b o e) (by rw [hfs]; exact fun q => hb (List.mem_singleton.mp q)))
  exact hret _ _ (by k_asm) (fun q hq => ⟨kp _ _ (N q hq).2.1 (N q hq).1, (N q hq).2⟩) kp
end Mine
namespace Mine
/-- lists of texts among what is told -/
inductive RowsL (made : List (Addr × Obj)) : List Value → List (List Str) → Prop
  | nil : RowsL made [] []
  | cons {rl : Addr} {lv : List Value} {k : Nat} {xs : List Str} {vs : List Value} {xss : List (List Str)} : (rl, listOf lv.toArray k) ∈ made → SA lv xs → RowsL made vs xss → RowsL made (.ref rl :: vs) (xs :: xss)
theorem RowsL.mono {made made' : List (Addr × Obj)} {vs : List Value} {xss : List (List Str)} (k : ∀ p ∈ made, p ∈ made') (a : RowsL made vs xss) : RowsL made' vs xss := by
  induction a with
  | nil => exact .nil
  | cons m q _ ih => exact .cons (k _ m) q ih
theorem RowsL.length {made : List (Addr × Obj)} {vs : List Value} {xss : List (List Str)} (a : RowsL made vs xss) : vs.length = xss.length := by
  induction a with
  | nil => rfl
  | cons _ _ _ ih => simp [ih]
theorem RowsL.snoc {made : List (Addr × Obj)} {vs : List Value} {xss : List (List Str)} {rl : Addr} {lv : List Value} {k : Nat} {xs : List Str} (a : RowsL made vs xss) (m : (rl, listOf lv.toArray k) ∈ made) (q : SA lv xs) : RowsL made (vs ++ [.ref rl]) (xss ++ [xs]) := by
  induction a with
  | nil => exact .cons m q .nil
  | cons m' q' _ ih => exact .cons m' q' ih
theorem RowsL.get {made : List (Addr × Obj)} {vs : List Value} {xss : List (List Str)} (a : RowsL made vs xss) : ∀ {i : Nat} {v : Value}, vs[i]? = some v → ∃ rl lv k xs, v = .ref rl ∧ (rl, listOf lv.toArray k) ∈ made ∧ SA lv xs ∧ xss[i]? = some xs := by
  induction a with
  | nil => intro i v e; simp at e
  | cons m q _ ih =>
    intro i v e
    cases i with
    | zero => simp only [List.getElem?_cons_zero, Option.some.injEq] at e; subst e; exact ⟨_, _, _, _, rfl, m, q, rfl⟩
    | succ i => simp only [List.getElem?_cons_succ] at e ⊢; exact ih e
/-- token types among what is told -/
inductive KindsL (w : World) (made : List (Addr × Obj)) : List Value → List (List Str) → Prop
  | nil : KindsL w made [] []
  | cons {v : Value} {xs : List Str} {vs : List Value} {xss : List (List Str)} : TokM w made v xs → KindsL w made vs xss → KindsL w made (v :: vs) (xs :: xss)
theorem KindsL.mono {w : World} {made made' : List (Addr × Obj)} {vs : List Value} {xss : List (List Str)} (k : ∀ p ∈ made, p ∈ made') (a : KindsL w made vs xss) : KindsL w made' vs xss := by
  induction a with
  | nil => exact .nil
  | cons m _ ih => exact .cons (m.mono k) ih
theorem KindsL.length {w : World} {made : List (Addr × Obj)} {vs : List Value} {xss : List (List Str)} (a : KindsL w made vs xss) : vs.length = xss.length := by
  induction a with
  | nil => rfl
  | cons _ _ ih => simp [ih]
theorem KindsL.snoc {w : World} {made : List (Addr × Obj)} {vs : List Value} {xss : List (List Str)} {v : Value} {xs : List Str} (a : KindsL w made vs xss) (m : TokM w made v xs) : KindsL w made (vs ++ [v]) (xss ++ [xs]) := by
  induction a with
  | nil => exact .cons m .nil
  | cons m' _ ih => exact .cons m' ih
theorem KindsL.get {w : World} {made : List (Addr × Obj)} {vs : List Value} {xss : List (List Str)} (a : KindsL w made vs xss) : ∀ {i : Nat} {v : Value}, vs[i]? = some v → ∃ xs, xss[i]? = some xs ∧ TokM w made v xs := by
  induction a with
  | nil => intro i v e; simp at e
  | cons m _ ih =>
    intro i v e
    cases i with
    | zero => simp only [List.getElem?_cons_zero, Option.some.injEq] at e; subst e; exact ⟨_, rfl, m⟩
    | succ i => simp only [List.getElem?_cons_succ] at e ⊢; exact ih e
def GoodRow (xs : List Str) : Prop := xs.length ≤ 5 ∧ ∀ x ∈ xs, x ∈ lawNames
abbrev due (xs : List Str) : List Str := xs.foldl stepN []
/-- the law's own ledger: the state, two cells, and the rest -/
structure Off (st c1 c2 : Addr) (l : List (Addr × Obj)) : Prop where
  a : ∀ q ∈ l, q.1 ≠ st
  b : ∀ q ∈ l, q.1 ≠ c1
  c : ∀ q ∈ l, q.1 ≠ c2
theorem Off.app {st c1 c2 : Addr} {l l' : List (Addr × Obj)} (x : Off st c1 c2 l) (y : Off st c1 c2 l') : Off st c1 c2 (l ++ l') :=
  ⟨fun q h => (List.mem_append.mp h).elim (x.a q) (y.a q), fun q h => (List.mem_append.mp h).elim (x.b q) (y.b q), fun q h => (List.mem_append.mp h).elim (x.c q) (y.c q)⟩
theorem Off.of {h₀ h : Heap} {L st c1 c2 : Addr} {o1 o2 o3 : Obj} {l r : List (Addr × Obj)} (N : News h₀ L h ((st, o1) :: (c1, o2) :: (c2, o3) :: r)) (fr : ∀ p ∈ l, h.get? p.1 = none) : Off st c1 c2 l := by
  have k : ∀ p ∈ l, ∀ (b : Addr) (o : Obj), (b, o) ∈ (st, o1) :: (c1, o2) :: (c2, o3) :: r → p.1 ≠ b := fun p hp b o hm e => by
    have := (N _ hm).1
    rw [← e, fr p hp] at this; cases this
  exact ⟨fun q h => k q h _ _ (.head _), fun q h => k q h _ _ (.tail _ (.head _)), fun q h => k q h _ _ (.tail _ (.tail _ (.head _)))⟩
theorem law_open {h₀ h h' : Heap} {L st nb c1 c2 : Addr} {m : Str → Option Value} {os on o1 o2 : Obj} {rest : List (Addr × Obj)} (N : News h₀ L h [(c2, o2), (c1, o1)]) (A : Aft h₀ L m [(c2, o2), (c1, o1)] h h' ((st, os) :: (nb, on) :: rest)) (hrest : ∀ q ∈ rest, q.1 ≠ st) (hnb : nb ≠ st) :
    ∃ rest0, News h₀ L h' ((st, os) :: (c1, o1) :: (c2, o2) :: rest0) ∧ (nb, on) ∈ rest0 ∧ Off st c1 c2 rest0 ∧ st ≠ c1 ∧ st ≠ c2 := by
  have k1 : h.get? c1 = some o1 := (N _ (.tail _ (.head _))).1
  have k2 : h.get? c2 = some o2 := (N _ (.head _)).1
  have n1 : ∀ p ∈ (st, os) :: (nb, on) :: rest, p.1 ≠ c1 := fun p hp e => by have := A.fresh p hp; rw [e, k1] at this; cases this
  have n2 : ∀ p ∈ (st, os) :: (nb, on) :: rest, p.1 ≠ c2 := fun p hp e => by have := A.fresh p hp; rw [e, k2] at this; cases this
  refine ⟨(nb, on) :: rest, fun p hp => A.N p ?_, .head _, ⟨fun q hq => ?_, fun q hq => n1 q (.tail _ hq), fun q hq => n2 q (.tail _ hq)⟩, n1 _ (.head _), n2 _ (.head _)⟩
  · simp only [List.cons_append, List.mem_cons, List.mem_append, List.not_mem_nil, or_false] at hp ⊢
    rcases hp with h | h | h | h | h
    · exact .inl h
    · exact .inr (.inr (.inr (.inr h)))
    · exact .inr (.inr (.inr (.inl h)))
    · exact .inr (.inl h)
    · exact .inr (.inr (.inl h))
  · rcases List.mem_cons.mp hq with rfl | hq
    · exact hnb
    · exact hrest q hq
theorem Off.nil {st c1 c2 : Addr} : Off st c1 c2 [] := by constructor <;> simp
theorem Off.one {st c1 c2 a : Addr} {o : Obj} (x : a ≠ st) (y : a ≠ c1) (z : a ≠ c2) : Off st c1 c2 [(a, o)] := by constructor <;> simpa
theorem hne_law {st c1 c2 : Addr} {o1 o2 : Obj} {l : List (Addr × Obj)} (h1 : st ≠ c1) (h2 : st ≠ c2) (x : Off st c1 c2 l) : ∀ q ∈ (c1, o1) :: (c2, o2) :: l, q.1 ≠ st := by
  intro q hq
  rcases List.mem_cons.mp hq with rfl | hq
  · exact Ne.symm h1
  · rcases List.mem_cons.mp hq with rfl | hq
    · exact Ne.symm h2
    · exact x.a q hq
theorem mem_front3 {p b c d : Addr × Obj} {a l : List (Addr × Obj)} (h : p ∈ a ++ (b :: c :: d :: l)) : p ∈ b :: c :: d :: (a ++ l) := by
  simp only [List.mem_append, List.mem_cons] at h ⊢
  rcases h with h | h | h | h | h
  · exact .inr (.inr (.inr (.inl h)))
  · exact .inl h
  · exact .inr (.inl h)
  · exact .inr (.inr (.inl h))
  · exact .inr (.inr (.inr (.inr h)))
theorem mem_back3 {p b c d : Addr × Obj} {a l : List (Addr × Obj)} (h : p ∈ b :: c :: d :: (a ++ l)) : p ∈ a ++ (b :: c :: d :: l) := by
  simp only [List.mem_append, List.mem_cons] at h ⊢
  rcases h with h | h | h | h | h
  · exact .inr (.inl h)
  · exact .inr (.inr (.inl h))
  · exact .inr (.inr (.inr (.inl h)))
  · exact .inl h
  · exact .inr (.inr (.inr (.inr h)))
/-- of the three of a block's turn: they stand off the law's own -/
theorem off_block {st c1 c2 I C D : Addr} {oI oC oD os o1 o2 : Obj} {l : List (Addr × Obj)} (off : LCg.Off3 I C D ((st, os) :: (c1, o1) :: (c2, o2) :: l)) : Off st c1 c2 [(I, oI), (C, oC), (D, oD)] := by
  obtain ⟨a, b, c, _⟩ := off
  constructor
  · intro q hq; simp only [List.mem_cons, List.not_mem_nil, or_false] at hq; rcases hq with rfl | rfl | rfl <;> first | exact Ne.symm a.1 | exact Ne.symm a.2.1 | exact Ne.symm a.2.2
  · intro q hq; simp only [List.mem_cons, List.not_mem_nil, or_false] at hq; rcases hq with rfl | rfl | rfl <;> first | exact Ne.symm b.1 | exact Ne.symm b.2.1 | exact Ne.symm b.2.2
  · intro q hq; simp only [List.mem_cons, List.not_mem_nil, or_false] at hq; rcases hq with rfl | rfl | rfl <;> first | exact Ne.symm c.1 | exact Ne.symm c.2.1 | exact Ne.symm c.2.2
def RowJ (st c1 c2 nb : Addr) (o1 o2 : Obj) (rest0 : List (Addr × Obj)) (i : Nat) (ys : List Value) (nws : List (Addr × Obj)) : Prop :=
  ∃ at' t' made xss, 1 ≤ at' ∧ at' ≤ 1 + 5 * (i : Int) ∧ nws = (st, listOf [.ref nb, .int at' t'].toArray 0) :: (c1, o1) :: (c2, o2) :: (made ++ rest0) ∧ RowsL made ys xss ∧ xss.length = i ∧ (∀ xs ∈ xss, xs.length ≤ 4 ∧ ∀ x ∈ xs, x ∈ lawNames) ∧ Off st c1 c2 made
theorem RowJ.zero {st c1 c2 nb : Addr} {o1 o2 : Obj} {rest0 : List (Addr × Obj)} {t : Tok} {k : Int} (hk : k = 1) : RowJ st c1 c2 nb o1 o2 rest0 0 [] ((st, listOf [.ref nb, .int k t].toArray 0) :: (c1, o1) :: (c2, o2) :: rest0) :=
  ⟨k, t, [], [], by omega, by omega, rfl, .nil, rfl, by simp, Off.nil⟩
theorem row_end {h₀ h9 : Heap} {L I C D st c1 c2 rl : Addr} {oI oC oD os os' o1 o2 o : Obj} {made rest0 : List (Addr × Obj)} (N9 : News h₀ L h9 ((I, oI) :: (C, oC) :: (D, oD) :: (st, os) :: (c1, o1) :: (c2, o2) :: (made ++ rest0))) (hfr : h9.get? rl = none) (off : LCg.Off3 I C D ((st, os) :: (c1, o1) :: (c2, o2) :: (made ++ rest0))) :
    LCg.Off3 I C D ((st, os') :: (c1, o1) :: (c2, o2) :: (((rl, o) :: made) ++ rest0)) ∧ Off st c1 c2 [(rl, o)] := by
  have k : ∀ (b : Addr) (ob : Obj), (b, ob) ∈ (I, oI) :: (C, oC) :: (D, oD) :: (st, os) :: (c1, o1) :: (c2, o2) :: (made ++ rest0) → rl ≠ b := fun b ob hm e => by
    have := (N9 _ hm).1
    rw [← e, hfr] at this; cases this
  obtain ⟨a, b, c, d⟩ := off
  refine ⟨⟨a, b, c, ⟨k I oI (by simp), k C oC (by simp), k D oD (by simp)⟩, d⟩, Off.one (k st os (by simp)) (k c1 o1 (by simp)) (k c2 o2 (by simp))⟩
theorem mem_row {p i c d s a b r : Addr × Obj} {l : List (Addr × Obj)} (h : p ∈ i :: c :: d :: s :: a :: b :: (r :: l)) : p ∈ s :: r :: (a :: b :: ([i, c, d] ++ l)) := by
  simp only [List.mem_cons, List.mem_append, List.not_mem_nil, or_false] at h ⊢
  rcases h with h | h | h | h | h | h | h | h <;> simp [h]
theorem RowJ.more {st c1 c2 nb rl : Addr} {o1 o2 : Obj} {rest0 made : List (Addr × Obj)} {i : Nat} {ys lv : List Value} {xss : List (List Str)} {xs : List Str} {at2 at1 : Int} {t2 : Tok} (ha1 : 1 ≤ at1) (ha2 : at1 ≤ 1 + 5 * (i : Int)) (h1 : at1 ≤ at2) (h2 : at2 ≤ at1 + 5) (hR : RowsL made ys xss) (hxl : xss.length = i) (hgood : ∀ xs ∈ xss, xs.length ≤ 4 ∧ ∀ x ∈ xs, x ∈ lawNames)
    (hmoff : Off st c1 c2 made) (ho : Off st c1 c2 [(rl, LCg.lst lv)]) (hS : SA lv xs) (hl : xs.length ≤ 4) (hm : ∀ x ∈ xs, x ∈ lawNames) :
    RowJ st c1 c2 nb o1 o2 rest0 (i + 1) (ys ++ [.ref rl]) ((st, listOf [.ref nb, .int at2 t2].toArray 0) :: (c1, o1) :: (c2, o2) :: (((rl, LCg.lst lv) :: made) ++ rest0)) := by
  refine ⟨at2, t2, (rl, LCg.lst lv) :: made, xss ++ [xs], by omega, by omega, rfl, (hR.mono fun p hp => .tail _ hp).snoc (.head _) hS, by simp [hxl], fun zs hz => ?_, ho.app hmoff⟩
  rcases List.mem_append.mp hz with hz | hz
  · exact hgood _ hz
  · rw [List.mem_singleton.mp hz]; exact ⟨hl, hm⟩
end Mine
namespace Mine
section
variable {prog : Program} {w : World} {A : Around} {E : Value → Shared → Prop} {s : Shared} {K : Frag} {h₀ : Heap} {L a : Addr} {m : Str → Option Value} {n : Nat} {news : List (Addr × Obj)}
theorem getAt_names : ∀ (l : List Value), (l.all fun v => match v with | .str x _ => lawNames.contains x | _ => false) = true → ∀ i, i < l.length → ∃ x t, l[i]? = some (.str x t) ∧ x ∈ lawNames := by
  intro l h i hi
  have e := List.getElem?_eq_getElem hi
  have hm := List.all_eq_true.mp h _ (List.getElem_mem hi)
  revert e hm
  generalize l[i] = v
  intro e hm
  cases v with
  | str x t => exact ⟨x, t, e, by simpa using hm⟩
  | _ => cases hm
theorem names_item {value slice : Expr} {l : List Value} {dd : Option Addr} {sl : Array (Option Value)} {k : Int} {u : Tok} {Q : Value → Shared → Prop} (F : Fr h₀ L s.heap m) (X₀ : K.In h₀) (hl : K.lookup a = some ⟨.type "list", dd, .seq l.toArray n, sl⟩)
    (h0 : 0 ≤ k) (hk : k < 7) (hlen : l.length = 7) (hall : (l.all fun v => match v with | .str x _ => lawNames.contains x | _ => false) = true) (h : ∀ x t, x ∈ lawNames → Q (.str x t) s)
    (hs : subscripted slice false (.ref a) (.int k u) = operate [.ref a, .int k u] (getItem (.ref a) (.int k u)) := by with_unfolding_all rfl) :
    wpAny (model prog w) A (subscriptTail value slice (.ref a) (.int k u)) Q E s := by
  obtain ⟨x, t, e, hm⟩ := getAt_names l hall k.toNat (by omega)
  exact topList_K F X₀ hl h0 (by omega) e (h x t hm) hs
theorem list_item {value slice : Expr} {l : Addr} {vs : List Value} {i : Nat} {u : Tok} {v : Value} {Q : Value → Shared → Prop} (hl : s.heap.IsList l vs.toArray) (hi : i < 2 ^ 60) (hx : vs[i]? = some v) (h : Q v s)
    (hs : subscripted slice false (.ref l) (.int (i : Int) u) = operate [.ref l, .int (i : Int) u] (getItem (.ref l) (.int (i : Int) u)) := by with_unfolding_all rfl) :
    wpAny (model prog w) A (subscriptTail value slice (.ref l) (.int (i : Int) u)) Q E s :=
  tail_any hl.typeIs slot_list_getitem.lookup (wpAny_getItem_list hl (by omega) (by omega) (by simpa using hx) h) hs
end
theorem off1_mem {D : Addr} : ∀ {l : List (Addr × Obj)}, LCg.Off1 D l → ∀ p ∈ l, p.1 ≠ D
  | [], _, _, h => nomatch h
  | _ :: _, x, p, h => by
    rcases List.mem_cons.mp h with rfl | h
    · exact x.1
    · exact off1_mem x.2 p h
theorem rows_end {made : List (Addr × Obj)} {rl0 R : Addr} {lv0 ys : List Value} {k0 k : Nat} {xs0 : List Str} {xss : List (List Str)} {x7 : Str} {t7 : Tok} (hm0 : (rl0, listOf lv0.toArray k0) ∈ made) (hS0 : SA lv0 xs0) (hR0 : RowsL made ys xss) (hgood : ∀ xs ∈ xs0 :: xss, xs.length ≤ 4 ∧ ∀ x ∈ xs, x ∈ lawNames) (hx7 : x7 ∈ lawNames) :
    RowsL ((R, listOf (lv0 ++ [Value.str x7 t7]).toArray k) :: made) (.ref rl0 :: ys ++ [.ref R]) (xs0 :: xss ++ [xs0 ++ [x7]]) ∧ ∀ xs ∈ xs0 :: xss ++ [xs0 ++ [x7]], GoodRow xs := by
  refine ⟨((RowsL.cons hm0 hS0 hR0).mono fun p hp => .tail _ hp).snoc (.head _) hS0.snoc, fun xs hx => ?_⟩
  rcases List.mem_append.mp hx with hx | hx
  · exact ⟨Nat.le_trans (hgood xs hx).1 (by decide), (hgood xs hx).2⟩
  · rw [List.mem_singleton.mp hx]
    have h0 := hgood xs0 (.head _)
    refine ⟨by simp; omega, fun x hx => ?_⟩
    rcases List.mem_append.mp hx with hx | hx
    · exact h0.2 x hx
    · rw [List.mem_singleton.mp hx]; exact hx7
end Mine
namespace Mine
theorem name_facts : ∀ x ∈ lawNames, (1 ≤ x.length ∧ x.length ≤ 100 ∧ Txt.isupper (Txt.item x 0) = true) ∧ (46 ∈ x.cps.toList) = False := by
  have h : (lawNames.all fun x => decide (1 ≤ x.length) && decide (x.length ≤ 100) && Txt.isupper (Txt.item x 0) && !x.cps.toList.contains 46) = true := by decide +kernel
  intro x hx
  have := List.all_eq_true.mp h x hx
  simp only [Bool.and_eq_true, decide_eq_true_eq, Bool.not_eq_true', List.contains_eq_mem, decide_eq_false_iff_not] at this
  exact ⟨⟨this.1.1.1, this.1.1.2, this.1.2⟩, eq_false this.2⟩
theorem name_up {x : Str} (h : x ∈ lawNames) : Up x := (name_facts x h).1
theorem name_dot {x : Str} (h : x ∈ lawNames) : 46 ∉ x.cps.toList := fun q => by rw [(name_facts x h).2] at q; exact q
theorem name_len {x : Str} (h : x ∈ lawNames) : x.length ≤ 100 := (name_facts x h).1.2.1
theorem step_names {fs : List Str} {y : Str} (h : ∀ x ∈ fs, x ∈ lawNames) (hy : y ∈ lawNames) : ∀ x ∈ stepN fs y, x ∈ lawNames := by
  unfold stepN
  repeat' split
  all_goals (intro x hx; simp only [List.mem_cons, List.mem_append, List.not_mem_nil, or_false] at hx)
  · rcases hx with rfl | rfl <;> decide
  · rcases hx with rfl | rfl <;> decide
  · subst hx; exact hy
  · rcases hx with hx | rfl
    · exact h x hx
    · exact hy
theorem due_names : ∀ (l fs : List Str), (∀ x ∈ fs, x ∈ lawNames) → (∀ y ∈ l, y ∈ lawNames) → ∀ x ∈ l.foldl stepN fs, x ∈ lawNames
  | [], _, h, _ => h
  | y :: l, fs, h, hl => due_names l _ (step_names h (hl y (.head _))) fun z hz => hl z (.tail _ hz)
def Norm (l : List Str) : Prop := l = [] ∨ ∃ x r, l = x :: r ∧ stepN [] x = [x]
theorem step_cons (x : Str) (r : List Str) (y : Str) : stepN (x :: r) y = x :: (r ++ [y]) := by
  unfold stepN; rw [if_neg (List.cons_ne_nil _ _)]; rfl
theorem norm_step {l : List Str} (h : Norm l) (y : Str) : Norm (stepN l y) := by
  rcases h with rfl | ⟨x, r, rfl, hx⟩
  · by_cases h1 : y = sTok
    · left; unfold stepN; rw [if_pos rfl, if_pos h1]
    · by_cases h2 : y = sStr
      · right; refine ⟨sLit, [sStr], ?_, by decide +kernel⟩; unfold stepN; rw [if_pos rfl, if_neg h1, if_pos h2]
      · by_cases h3 : y = sNum
        · right; refine ⟨sLit, [sNum], ?_, by decide +kernel⟩; unfold stepN; rw [if_pos rfl, if_neg h1, if_neg h2, if_pos h3]
        · have e : stepN [] y = [y] := by unfold stepN; rw [if_pos rfl, if_neg h1, if_neg h2, if_neg h3]
          exact .inr ⟨y, [], e, e⟩
  · exact .inr ⟨x, r ++ [y], step_cons x r y, hx⟩
theorem norm_due : ∀ (l fs : List Str), Norm fs → Norm (l.foldl stepN fs)
  | [], _, h => h
  | y :: l, _, h => norm_due l _ (norm_step h y)
theorem fold_app (x : Str) : ∀ (l r : List Str), l.foldl stepN (x :: r) = x :: (r ++ l)
  | [], r => by simp
  | y :: l, r => by rw [List.foldl_cons, step_cons, fold_app x l]; simp
theorem due_norm {l : List Str} (h : Norm l) : l.foldl stepN [] = l := by
  rcases h with rfl | ⟨x, r, rfl, hx⟩
  · rfl
  · rw [List.foldl_cons, hx, fold_app]; rfl
theorem due_tok (xs : List Str) : due (sTok :: due xs) = due xs := by
  show (due xs).foldl stepN (stepN [] sTok) = due xs
  have e : stepN [] sTok = [] := by decide +kernel
  rw [e]
  exact due_norm (norm_due xs [] (.inl rfl))
theorem due_len {xs : List Str} (h : xs.length ≤ 5) : (due xs).length ≤ 10 := by
  have h2 : (due xs).length ≤ _ := fold_len xs []
  simp only [List.length_nil] at h2; omega
theorem good_up {xs : List Str} (h : ∀ x ∈ xs, x ∈ lawNames) : (∀ y ∈ xs, Up y) ∧ (∀ y ∈ xs, 46 ∉ y.cps.toList) ∧ (∀ y ∈ xs, y.length ≤ 100) ∧ Ok xs :=
  ⟨fun y hy => name_up (h y hy), fun y hy => name_dot (h y hy), fun y hy => name_len (h y hy), fun y hy => ok_names _ (h y hy)⟩
theorem join_nil : Txt.join sDot [] = Str.ofString "" := by decide +kernel
theorem stt_row (w : World) (p : Program) (loose : List Str) (mean : ExcName → Option Value) (mg mb : Str → Option Value)
   (dp un : Nat) (gd : Option (List Code)) (cn : Str) (cs : Scope) (a : Addr) (ccd : Value) (cl : List (Str × Addr)) (outer : List Env) (A₀ : Around) (base h₀ : Heap) (L : Addr) (m : Str → Option Value) (s : Shared)
   (Q E : Value → Shared → Prop) (news : List (Addr × Obj)) (tx : Tok) (xs : List Str)
   (B : Below A₀ base outer h₀) (F : Fr h₀ L s.heap m) (X : (Mine.hd.heap_39 w.params).In h₀) (N : News h₀ L s.heap news)
   (T : Top p loose mean mg mb h₀) (hk : cs.kind = .function) (hd : dp + 16 < recursionLimit) (hu : un + 80 < cLine)
   (hl : xs.length ≤ 40) (hm : ∀ x ∈ xs, x ∈ lawNames)
   (hret : ∀ r made h' tk', Aft h₀ L m news s.heap h' made → TokM w made r (due xs) → Q r { s with heap := h', toks := tk' }) :
    wpAny (model Pg w) (ktrTop dp un gd cn cs L a ccd cl outer) (call (.ref 90) [.str (Txt.join sDot xs) tx]) Q E s := by
  have g := good_up hm
  cases xs with
  | nil =>
    rw [join_nil]
    refine stt_empty w p loose mean mg mb dp un gd cn cs a ccd cl outer A₀ base h₀ L m s Q E news tx B F X N T hk hd hu ?_
    exact fun h' tk' A => hret _ _ _ _ A (.inl ⟨rfl, rfl⟩)
  | cons x xs =>
    exact stt_good w p loose mean mg mb dp un gd cn cs a ccd cl outer A₀ base h₀ L m s Q E news _ tx (x :: xs) B F X N T hk hd hu rfl (join_pos (g.1 x (.head _)).1) (Nat.le_trans (join_len g.2.2.1) (by omega)) (List.cons_ne_nil _ _) hl g.1 g.2.1 hret

theorem aft_law {h₀ h h' : Heap} {L D st c1 c2 : Addr} {m : Str → Option Value} {oD os o1 o2 : Obj} {rest made more : List (Addr × Obj)} (N : News h₀ L h (more ++ ((D, oD) :: (st, os) :: (c1, o1) :: (c2, o2) :: rest))) (A : Aft h₀ L m (more ++ ((D, oD) :: (st, os) :: (c1, o1) :: (c2, o2) :: rest)) h h' made) :
    Off st c1 c2 made ∧ (∀ q ∈ made, q.1 ≠ D) ∧ ∀ q ∈ made, ∀ p ∈ more, q.1 ≠ p.1 := by
  have k : ∀ q ∈ made, ∀ p ∈ more ++ ((D, oD) :: (st, os) :: (c1, o1) :: (c2, o2) :: rest), q.1 ≠ p.1 := fun q hq p hp e => by
    have := (N _ hp).1
    rw [← e, A.fresh q hq] at this; cases this
  exact ⟨⟨fun q hq => k q hq (st, os) (List.mem_append_right _ (.tail _ (.head _))), fun q hq => k q hq (c1, o1) (List.mem_append_right _ (.tail _ (.tail _ (.head _)))), fun q hq => k q hq (c2, o2) (List.mem_append_right _ (.tail _ (.tail _ (.tail _ (.head _)))))⟩,
    fun q hq => k q hq (D, oD) (List.mem_append_right _ (.head _)), fun q hq p hp => k q hq p (List.mem_append_left _ hp)⟩
def KindJ (w : World) (D : Addr) (oD : Obj) (st c1 c2 : Addr) (os o1 o2 : Obj) (rest : List (Addr × Obj)) (xsl : List (List Str)) (i : Nat) (ys : List Value) (nws : List (Addr × Obj)) : Prop :=
  ∃ made, nws = (D, oD) :: (st, os) :: (c1, o1) :: (c2, o2) :: (made ++ rest) ∧ KindsL w made ys ((xsl.take i).map due) ∧ Off st c1 c2 made ∧ ∀ q ∈ made, q.1 ≠ D
theorem off3_made {I C D : Addr} {oI oC oD : Obj} {made l : List (Addr × Obj)} (h : ∀ q ∈ made, ∀ p ∈ [(I, oI), (C, oC), (D, oD)], q.1 ≠ p.1) (off : LCg.Off3 I C D l) : LCg.Off3 I C D (made ++ l) :=
  LCg.Off3.of fun p hp => (List.mem_append.mp hp).elim (fun hp => ⟨h p hp _ (.head _), h p hp _ (.tail _ (.head _)), h p hp _ (.tail _ (.tail _ (.head _)))⟩) (off.mem p)
theorem mem_front4 {p b c d e : Addr × Obj} {a l : List (Addr × Obj)} (h : p ∈ a ++ (b :: c :: d :: e :: l)) : p ∈ b :: c :: d :: e :: (a ++ l) := by
  simp only [List.mem_append, List.mem_cons] at h ⊢
  rcases h with h | h | h | h | h | h <;> simp [h]
theorem mem_back4 {p b c d e : Addr × Obj} {a l : List (Addr × Obj)} (h : p ∈ b :: c :: d :: e :: (a ++ l)) : p ∈ a ++ (b :: c :: d :: e :: l) := by
  simp only [List.mem_append, List.mem_cons] at h ⊢
  rcases h with h | h | h | h | h | h <;> simp [h]
theorem mem_kind {p i c d x s a b : Addr × Obj} {m8 m9 l : List (Addr × Obj)} (h : p ∈ i :: c :: d :: x :: s :: a :: b :: ((m8 ++ m9) ++ l)) : p ∈ m8 ++ (i :: c :: d :: x :: s :: a :: b :: (m9 ++ l)) := by
  simp only [List.mem_append, List.mem_cons] at h ⊢
  rcases h with h | h | h | h | h | h | h | (h | h) | h <;> simp [h]
theorem kind_end {h₀ h h' : Heap} {L I C D9 D st c1 c2 : Addr} {m : Str → Option Value} {oI oC oD9 oD os o1 o2 : Obj} {rest made8 made9 : List (Addr × Obj)}
    (N : News h₀ L h ((I, oI) :: (C, oC) :: (D9, oD9) :: (D, oD) :: (st, os) :: (c1, o1) :: (c2, o2) :: (made9 ++ rest)))
    (A : Aft h₀ L m ((I, oI) :: (C, oC) :: (D9, oD9) :: (D, oD) :: (st, os) :: (c1, o1) :: (c2, o2) :: (made9 ++ rest)) h h' made8)
    (off : LCg.Off3 I C D9 ((D, oD) :: (st, os) :: (c1, o1) :: (c2, o2) :: (made9 ++ rest))) :
    LCg.Off3 I C D9 ((D, oD) :: (st, os) :: (c1, o1) :: (c2, o2) :: ((made8 ++ made9) ++ rest)) ∧ Off st c1 c2 made8 ∧ ∀ q ∈ made8, q.1 ≠ D := by
  have k := aft_law (more := [(I, oI), (C, oC), (D9, oD9)]) N A
  obtain ⟨a, b, c, d, e⟩ := off
  refine ⟨⟨a, b, c, d, ?_⟩, k.1, k.2.1⟩
  rw [List.append_assoc]
  exact off3_made k.2.2 e
theorem KindJ.more {w : World} {D : Addr} {oD : Obj} {st c1 c2 : Addr} {os o1 o2 : Obj} {rest : List (Addr × Obj)} {xsl : List (List Str)} {i : Nat} {ys : List Value} {made8 made9 : List (Addr × Obj)} {v : Value} {xs : List Str} (hK : KindsL w made9 ys ((xsl.take i).map due)) (hmo : Off st c1 c2 made9) (hmD : ∀ q ∈ made9, q.1 ≠ D)
    (h8 : Off st c1 c2 made8) (hD8 : ∀ q ∈ made8, q.1 ≠ D) (hv : TokM w made8 v (due xs)) (hx : xsl[i]? = some xs) : KindJ w D oD st c1 c2 os o1 o2 rest xsl (i + 1) (ys ++ [v]) ((D, oD) :: (st, os) :: (c1, o1) :: (c2, o2) :: ((made8 ++ made9) ++ rest)) := by
  refine ⟨made8 ++ made9, rfl, ?_, h8.app hmo, fun q hq => (List.mem_append.mp hq).elim (hD8 q) (hmD q)⟩
  rw [List.take_add_one, hx, List.map_append]
  exact (hK.mono fun p hp => List.mem_append_right _ hp).snoc (hv.mono fun p hp => List.mem_append_left _ hp)
end Mine
namespace Mine
abbrev sRows : Str := Str.ofString "rows"
abbrev sKinds : Str := Str.ofString "kinds"
/-- what the law's loop keeps -/
def LawJ (st c1 c2 nb D Kd : Addr) (o1 : Obj) (big : List (Addr × Obj)) (i : Nat) (m : Str → Option Value) (nws : List (Addr × Obj)) : Prop :=
  m sRows = some (.ref D) ∧ m sKinds = some (.ref Kd) ∧ ∃ at' t' o2 x2, 1 ≤ at' ∧ at' ≤ 40 + (i : Int) ∧ nws = (st, listOf [.ref nb, .int at' t'].toArray 0) :: (c1, o1) :: (c2, o2) :: big ∧ o2.data = Data.cell x2
/-- what the law's loop stands on -/
structure Big (w : World) (st c1 c2 nb D Kd : Addr) (vs' : List Value) (rv ys9 : List Value) (xsl : List (List Str)) (big : List (Addr × Obj)) : Prop where
  k : (Kd, LCg.lst ys9) ∈ big
  d : ∃ kD, (D, listOf rv.toArray kD) ∈ big
  b : (nb, listOf vs'.toArray 0) ∈ big
  off : Off st c1 c2 big
  rows : RowsL big rv xsl
  kinds : KindsL w big ys9 (xsl.map due)
  good : ∀ xs ∈ xsl, GoodRow xs
  s1 : st ≠ c1
  s2 : st ≠ c2
  s3 : c1 ≠ c2
theorem Big.up {w : World} {st c1 c2 nb D Kd : Addr} {vs' rv ys9 : List Value} {xsl : List (List Str)} {big own : List (Addr × Obj)} (b : Big w st c1 c2 nb D Kd vs' rv ys9 xsl big) (o : Off st c1 c2 own) : Big w st c1 c2 nb D Kd vs' rv ys9 xsl (own ++ big) :=
  { k := List.mem_append_right _ b.k, d := b.d.imp fun _ h => List.mem_append_right _ h, b := List.mem_append_right _ b.b, off := o.app b.off, rows := b.rows.mono fun p hp => List.mem_append_right _ hp, kinds := b.kinds.mono fun p hp => List.mem_append_right _ hp, good := b.good, s1 := b.s1, s2 := b.s2, s3 := b.s3 }
theorem Big.row {w : World} {st c1 c2 nb D Kd : Addr} {vs' rv ys9 : List Value} {xsl : List (List Str)} {big : List (Addr × Obj)} (b : Big w st c1 c2 nb D Kd vs' rv ys9 xsl big) {i : Nat} (hi : i < xsl.length) :
    ∃ rl lv k xs kd, rv[i]? = some (.ref rl) ∧ (rl, listOf lv.toArray k) ∈ big ∧ SA lv xs ∧ xsl[i]? = some xs ∧ GoodRow xs ∧ ys9[i]? = some kd ∧ TokM w big kd (due xs) := by
  have l1 := b.rows.length
  have l2 := b.kinds.length
  rw [List.length_map] at l2
  have e1 : rv[i]? = some rv[i] := List.getElem?_eq_getElem (by omega)
  have e2 : ys9[i]? = some ys9[i] := List.getElem?_eq_getElem (by omega)
  obtain ⟨rl, lv, k, xs, e, hm, hS, hx⟩ := b.rows.get e1
  obtain ⟨zs, hz, ht⟩ := b.kinds.get e2
  rw [List.getElem?_map, hx] at hz
  cases hz
  exact ⟨rl, lv, k, xs, _, e1.trans (congrArg some e), hm, hS, hx, b.good _ (List.mem_of_getElem? hx), e2, ht⟩
theorem mem_law {p s a b : Addr × Obj} {own big : List (Addr × Obj)} (h : p ∈ s :: a :: b :: (own ++ big)) : p ∈ own ++ (s :: a :: b :: big) := by
  simp only [List.mem_append, List.mem_cons] at h ⊢
  rcases h with h | h | h | h | h <;> simp [h]
theorem law_own {w : World} {st c1 c2 nb D Kd : Addr} {vs' rv ys9 : List Value} {xsl : List (List Str)} {os o1 o2 : Obj} {big own : List (Addr × Obj)} {wr : List Addr} (_b : Big w st c1 c2 nb D Kd vs' rv ys9 xsl big) (hown : ∀ p ∈ own, p.1 ∈ wr) (hoff : ∀ p ∈ (st, os) :: (c1, o1) :: (c2, o2) :: big, p.1 ∉ wr) : Off st c1 c2 own :=
  ⟨fun q hq e => hoff _ (.head _) (e ▸ hown q hq), fun q hq e => hoff _ (.tail _ (.head _)) (e ▸ hown q hq), fun q hq e => hoff _ (.tail _ (.tail _ (.head _))) (e ▸ hown q hq)⟩
theorem mem_two {p x y s a b : Addr × Obj} {l : List (Addr × Obj)} (h : p ∈ s :: a :: b :: x :: y :: l) : p ∈ x :: y :: s :: a :: b :: l := by
  simp only [List.mem_cons] at h ⊢
  rcases h with h | h | h | h | h | h <;> simp [h]
abbrev sKind : Str := Str.ofString "kind"
abbrev sAt : Str := Str.ofString "at"
abbrev sHere : Str := Str.ofString "here"
def FrB (D Kd : Addr) (kd : Value) (i : Nat) (ti : Tok) (m : Str → Option Value) : Prop :=
  m sRows = some (.ref D) ∧ m sKinds = some (.ref Kd) ∧ m sKind = some kd ∧ m sAt = some (.int (i : Int) ti)
abbrev mB (D Kd : Addr) (kd : Value) (i : Nat) (ti : Tok) (m : Str → Option Value) : Str → Option Value := fun z => if z = sKind then some kd else if z = sAt then some (.int (i : Int) ti) else if z = sRows then some (.ref D) else if z = sKinds then some (.ref Kd) else m z
theorem FrB.eq {D Kd : Addr} {kd : Value} {i : Nat} {ti : Tok} {m : Str → Option Value} (b : FrB D Kd kd i ti m) : mB D Kd kd i ti m = m := by
  funext z
  show (if z = sKind then some kd else if z = sAt then some (.int (i : Int) ti) else if z = sRows then some (.ref D) else if z = sKinds then some (.ref Kd) else m z) = m z
  by_cases h1 : z = sKind
  · rw [if_pos h1, h1, b.2.2.1]
  · rw [if_neg h1]
    by_cases h2 : z = sAt
    · rw [if_pos h2, h2, b.2.2.2]
    · rw [if_neg h2]
      by_cases h3 : z = sRows
      · rw [if_pos h3, h3, b.1]
      · rw [if_neg h3]
        by_cases h4 : z = sKinds
        · rw [if_pos h4, h4, b.2.1]
        · rw [if_neg h4]
theorem FrB.fr {h₀ h : Heap} {L : Addr} {D Kd : Addr} {kd : Value} {i : Nat} {ti : Tok} {m : Str → Option Value} (b : FrB D Kd kd i ti m) (F : Fr h₀ L h m) : Fr h₀ L h (mB D Kd kd i ti m) := by rw [b.eq]; exact F
theorem FrB.fr1 {h₀ h : Heap} {L : Addr} {x : Str} {a : Option Value} {D Kd : Addr} {kd : Value} {i : Nat} {ti : Tok} {m : Str → Option Value} (b : FrB D Kd kd i ti m) (F : Fr h₀ L h (fun z => if z = x then a else m z)) : Fr h₀ L h (fun z => if z = x then a else mB D Kd kd i ti m z) := by rw [b.eq]; exact F
def HereJ (w : World) (D Kd : Addr) (kd : Value) (ia : Nat) (ti : Tok) (st c1 c2 : Addr) (base : List (Addr × Obj)) (xs : List Str) (i : Nat) (m : Str → Option Value) (news : List (Addr × Obj)) : Prop :=
  FrB D Kd kd ia ti m ∧ ∃ v made, m sHere = some v ∧ TokM w made v ((xs.take i).foldl stepN []) ∧ (∀ p ∈ made, p ∈ news) ∧ (∀ p ∈ base, p ∈ news) ∧ Off st c1 c2 made
theorem HereJ.zero {w : World} {D Kd : Addr} {kd : Value} {ia : Nat} {ti : Tok} {st c1 c2 nb : Addr} {base big : List (Addr × Obj)} {xs : List Str} {vs' rv ys9 : List Value} {xsl : List (List Str)} {m : Str → Option Value} (_b : Big w st c1 c2 nb D Kd vs' rv ys9 xsl big) (f : FrB D Kd kd ia ti m) (h : m sHere = some (.ref 65)) :
    HereJ w D Kd kd ia ti st c1 c2 base xs 0 m base := ⟨f, .ref 65, [], h, .inl ⟨rfl, rfl⟩, (fun p hp => nomatch hp), (fun p hp => hp), Off.nil⟩
theorem HereJ.next {w : World} {D Kd : Addr} {kd : Value} {ia : Nat} {ti : Tok} {st c1 c2 : Addr} {base news made' : List (Addr × Obj)} {xs : List Str} {i : Nat} {m : Str → Option Value} {y : Str} {r : Value} (f : FrB D Kd kd ia ti m) (hm : m sHere = some r) (hy : xs[i]? = some y) (t : TokM w made' r (stepN ((xs.take i).foldl stepN []) y)) (hsub : ∀ p ∈ base, p ∈ news) (ho : Off st c1 c2 made') :
    HereJ w D Kd kd ia ti st c1 c2 base xs (i + 1) m (made' ++ news) := by
  refine ⟨f, r, made', hm, ?_, fun p hp => List.mem_append_left _ hp, fun p hp => List.mem_append_right _ (hsub p hp), ho⟩
  rw [List.take_add_one, hy, List.foldl_append]; exact t
theorem mem_here {p : Addr × Obj} {made own news : List (Addr × Obj)} (h : p ∈ own ++ (made ++ news)) : p ∈ made ++ (own ++ news) := by
  simp only [List.mem_append] at h ⊢
  rcases h with h | h | h <;> simp [h]
section
variable {prog : Program} {w : World} {A : Around} {E : Value → Shared → Prop} {s : Shared} {h₀ : Heap} {L : Addr} {m : Str → Option Value} {news : List (Addr × Obj)}
theorem add_tupS {t b : Addr} {vs ws : List Value} {Q : Value → Shared → Prop} (F : Fr h₀ L s.heap m) (N : News h₀ L s.heap news) (ht : IsTup s.heap t vs.toArray) (hb : IsTup s.heap b ws.toArray) (hv : vs ≠ []) (hz : vs.length + ws.length ≤ 1000)
    (h : ∀ r h', Fr h₀ L h' m → News h₀ L h' news → IsTup h' r (vs ++ ws).toArray → Q (.ref r) { s with heap := h' }) : wpAny (model prog w) A (binaryOp .Add (.ref t) (.ref b)) Q E s :=
  add_tuples F N ht hb (fun q => absurd q hv) (fun _ q => by
    have k := h t s.heap F N (by rw [q, List.append_nil]; exact ht)
    exact k) (fun _ _ h' F' N' => h _ h' F' (fun p hp => N' p (.tail _ hp)) ⟨_, (N' _ (.head _)).1, rfl, _, rfl⟩) (by rw [sizeLine_eq]; omega)
end
end Mine
namespace Mine
theorem TokM.all {w : World} {l : List (Addr × Obj)} {v : Value} {xs : List Str} (t : TokM w l v xs) : ∃ x dx tx tk vs n, v = .ref x ∧ SA vs xs ∧ ∀ h, (Mine.hd.heap_39 w.params).In h → (∀ p ∈ l, h.get? p.1 = some p.2) → h.get? x = some (instTok dx) ∧ h.get? dx = some (dictTok w tk tx) ∧ h.get? tx = some (tupOf vs n) := by
  rcases t with ⟨rfl, rfl⟩ | ⟨rfl, rfl⟩ | ⟨rfl, rfl⟩ | ⟨x, dx, tx, tk, vs, e, a, b, c, d⟩
  · exact ⟨65, 64, 66, 254, _, _, rfl, .nil, fun h X _ => ⟨X _ _ rfl, X _ _ rfl, X _ _ rfl⟩⟩
  · exact ⟨69, 68, 70, 261, _, _, rfl, .cons (.cons .nil), fun h X _ => ⟨X _ _ rfl, X _ _ rfl, X _ _ rfl⟩⟩
  · exact ⟨73, 72, 74, 268, _, _, rfl, .cons (.cons .nil), fun h X _ => ⟨X _ _ rfl, X _ _ rfl, X _ _ rfl⟩⟩
  · exact ⟨x, dx, tx, tk, vs, 0, e, d, fun h _ k => ⟨k _ a, k _ b, k _ c⟩⟩
inductive TM (w : World) (made : List (Addr × Obj)) : List Value → List (List Str) → Prop
  | nil : TM w made [] []
  | cons {t : Addr} {us : List Value} {xs : List Str} {vs : List Value} {xss : List (List Str)} : (∀ h, (Mine.hd.heap_39 w.params).In h → (∀ p ∈ made, h.get? p.1 = some p.2) → IsTup h t us.toArray) → SA us xs → TM w made vs xss → TM w made (.ref t :: vs) (xs :: xss)
theorem TM.ts {w : World} {made : List (Addr × Obj)} {vs : List Value} {xss : List (List Str)} {h : Heap} (a : TM w made vs xss) (X : (Mine.hd.heap_39 w.params).In h) (k : ∀ p ∈ made, h.get? p.1 = some p.2) : TS h vs xss := by
  induction a with
  | nil => exact .nil
  | cons i q _ ih => exact .cons (i h X k) q ih
theorem TM.snoc {w : World} {made : List (Addr × Obj)} {vs : List Value} {xss : List (List Str)} {t : Addr} {us : List Value} {xs : List Str} (a : TM w made vs xss) (i : ∀ h, (Mine.hd.heap_39 w.params).In h → (∀ p ∈ made, h.get? p.1 = some p.2) → IsTup h t us.toArray) (q : SA us xs) : TM w made (vs ++ [.ref t]) (xss ++ [xs]) := by
  induction a with
  | nil => exact .cons i q .nil
  | cons i' q' _ ih => exact .cons i' q' ih
theorem TM.mono {w : World} {made made' : List (Addr × Obj)} {vs : List Value} {xss : List (List Str)} (s : ∀ p ∈ made, p ∈ made') (a : TM w made vs xss) : TM w made' vs xss := by
  induction a with
  | nil => exact .nil
  | cons i q _ ih => exact .cons (fun h X k => i h X fun p hp => k p (s p hp)) q ih
abbrev pres (ds : List Str) (n : Nat) : List (List Str) := (List.range n).map fun j => ds.take j
theorem pres_succ (ds : List Str) (n : Nat) : pres ds (n + 1) = pres ds n ++ [ds.take n] := by simp [pres, List.range_succ]
def PreJ (w : World) (made base : List (Addr × Obj)) (ds : List Str) (i : Nat) (ys : List Value) (nws : List (Addr × Obj)) : Prop := nws = base ∧ TM w made ys (pres ds i)
def DueJ (w : World) (dr : Addr) (dvs : List Value) (base : List (Addr × Obj)) (ds : List Str) (i : Nat) (ys : List Value) (nws : List (Addr × Obj)) : Prop := ∃ made, nws = made ++ base ∧ TM w (made ++ [(dr, tupOf dvs)]) ys (pres ds i)
theorem PreJ.zero {w : World} {made base : List (Addr × Obj)} {ds : List Str} : PreJ w made base ds 0 [] base := ⟨rfl, .nil⟩
theorem DueJ.zero {w : World} {dr : Addr} {dvs : List Value} {base : List (Addr × Obj)} {ds : List Str} : DueJ w dr dvs base ds 0 [] base := ⟨[], rfl, .nil⟩
theorem PreJ.more {w : World} {made base : List (Addr × Obj)} {ds : List Str} {i : Nat} {ys : List Value} {t : Addr} {us : List Value} (a : TM w made ys (pres ds i)) (k : ∀ h, (Mine.hd.heap_39 w.params).In h → (∀ p ∈ made, h.get? p.1 = some p.2) → IsTup h t us.toArray) (q : SA us (ds.take i)) : PreJ w made base ds (i + 1) (ys ++ [.ref t]) base := ⟨rfl, by rw [pres_succ]; exact a.snoc k q⟩
theorem DueJ.more {w : World} {dr r : Addr} {dvs : List Value} {base made3 made : List (Addr × Obj)} {ds : List Str} {i : Nat} {ys : List Value} (hd : SA dvs ds) (a : TM w (made3 ++ [(dr, tupOf dvs)]) ys (pres ds i))
    (hm : (made = [] ∧ r = dr ∧ dvs.length ≤ i) ∨ made = [(r, ({ cls := .type "tuple", data := .seq (dvs.take i).toArray } : Obj))]) : DueJ w dr dvs base ds (i + 1) (ys ++ [.ref r]) (made ++ (made3 ++ base)) := by
  refine ⟨made ++ made3, by rw [List.append_assoc], ?_⟩
  rw [pres_succ, List.append_assoc]
  refine (a.mono fun p hp => List.mem_append_right _ hp).snoc (us := dvs.take i) (fun h X k => ?_) (hd.take i)
  rcases hm with ⟨_, rfl, hl⟩ | rfl
  · rw [List.take_of_length_le hl]
    exact ⟨_, k (r, tupOf dvs) (by simp), rfl, _, rfl⟩
  · exact ⟨_, k _ (.head _), rfl, _, rfl⟩
theorem mem_due {p i c d : Addr × Obj} {made l : List (Addr × Obj)} (h : p ∈ i :: c :: d :: (made ++ l)) : p ∈ made ++ (i :: c :: d :: l) := by
  simp only [List.mem_append, List.mem_cons] at h ⊢
  rcases h with h | h | h | h | h <;> simp [h]
theorem due_end {h₀ h : Heap} {L I C D : Addr} {oI oC oD : Obj} {made l : List (Addr × Obj)} (N : News h₀ L h ((I, oI) :: (C, oC) :: (D, oD) :: l)) (fr : ∀ p ∈ made, h.get? p.1 = none) (off : LCg.Off3 I C D l) : LCg.Off3 I C D (made ++ l) :=
  off3_made (fun q hq p hp e => by
    have := (N p (List.mem_append_left l hp)).1
    rw [← e, fr q hq] at this; cases this) off
theorem mem_pre {p d b s x y : Addr × Obj} {r l : List (Addr × Obj)} (h : p ∈ s :: x :: y :: d :: (r ++ l)) : p ∈ d :: (b :: r ++ s :: x :: y :: l) := by
  simp only [List.cons_append, List.mem_append, List.mem_cons] at h ⊢
  rcases h with h | h | h | h | h | h <;> simp [h]
theorem mem_turn {p i c d s x y z : Addr × Obj} {m l : List (Addr × Obj)} (h : p ∈ i :: c :: d :: s :: x :: y :: z :: (m ++ l)) : p ∈ i :: c :: d :: (m ++ (s :: x :: y :: z :: l)) := by
  simp only [List.mem_append, List.mem_cons] at h ⊢
  rcases h with h | h | h | h | h | h | h | h | h <;> simp [h]
theorem mem_turn2 {p i c d s x y z : Addr × Obj} {n m l : List (Addr × Obj)} (h : p ∈ i :: c :: d :: (n ++ (m ++ (s :: x :: y :: z :: l)))) : p ∈ n ++ (i :: c :: d :: s :: x :: y :: z :: (m ++ l)) := by
  simp only [List.mem_append, List.mem_cons] at h ⊢
  rcases h with h | h | h | h | h | h | h | h | h | h <;> simp [h]
theorem pres_ok {ds : List Str} (h : Ok ds) (n : Nat) : ∀ xs ∈ pres ds n, Ok xs := by
  intro xs hx x hm
  obtain ⟨j, _, rfl⟩ := List.mem_map.mp hx
  exact h x (List.mem_of_mem_take hm)
theorem mem_back9 {p d s x y z : Addr × Obj} {m r l : List (Addr × Obj)} (h : p ∈ s :: x :: y :: l) : p ∈ d :: (m ++ (s :: x :: y :: z :: (r ++ l))) := by
  simp only [List.mem_append, List.mem_cons] at h ⊢
  rcases h with h | h | h | h <;> simp [h]

def ThereJ (D Kd : Addr) (kd : Value) (ia : Nat) (ti : Tok) (base : List (Addr × Obj)) (m : Str → Option Value) (news : List (Addr × Obj)) : Prop := FrB D Kd kd ia ti m ∧ news = base
end Mine
namespace Mine
abbrev bads : List Str := [Str.ofString "", Str.ofString "x", Str.ofString "9", Str.ofString "name", Str.ofString "_Text"]
theorem bad_facts : ∀ y ∈ bads, y.length ≤ 100 ∧ (y.length = 0 ∨ Txt.isupper (Txt.item y 0) = false) ∧ 46 ∉ y.cps.toList ∧ (y.length = 0 → y = Str.ofString "") := by
  have h : (bads.all fun y => decide (y.length ≤ 100) && (decide (y.length = 0) || !Txt.isupper (Txt.item y 0)) && !y.cps.toList.contains 46 && (!decide (y.length = 0) || decide (y = Str.ofString ""))) = true := by decide +kernel
  intro y hy
  have := List.all_eq_true.mp h y hy
  simp only [Bool.and_eq_true, Bool.or_eq_true, decide_eq_true_eq, Bool.not_eq_true', List.contains_eq_mem, decide_eq_false_iff_not] at this
  refine ⟨this.1.1.1, this.1.1.2, this.1.2, fun h0 => ?_⟩
  rcases this.2 with h | h
  · exact absurd h0 h
  · exact h
theorem join_eqJ (xs : List Str) : (Txt.join sDot xs).cps.toList = Tx.J 46 (xs.map (·.cps.toList)) := by
  have e0 : sDot = ⟨#[46]⟩ := by decide +kernel
  have e1 : Txt.join sDot xs = Str.join sDot xs := StrLaws.glued_eq_join _ _
  rw [e1, e0, join_J]
theorem join_two (p q : Str) (r : List Str) : (Txt.join sDot (p :: q :: r)).length ≠ 0 := by
  have h : (Txt.join sDot (p :: q :: r)).cps.toList = Tx.J 46 ((p :: q :: r).map (·.cps.toList)) := join_eqJ _
  intro e
  have e2 : (Txt.join sDot (p :: q :: r)).cps.toList.length = 0 := by simpa [Str.length] using e
  rw [h] at e2
  simp [Tx.J] at e2
theorem join_one (p : Str) : Txt.join sDot [p] = p := by
  have h : (Txt.join sDot [p]).cps.toList = Tx.J 46 ([p].map (·.cps.toList)) := join_eqJ _
  have h2 : (Txt.join sDot [p]).cps.toList = p.cps.toList := by rw [h]; rfl
  cases hj : Txt.join sDot [p] with
  | mk a =>
    rw [hj] at h2
    cases p with
    | mk b => simp only at h2; rw [Array.toList_inj.mp h2]
theorem join_bad {xs : List Str} {y : Str} {k : Nat} (h : xs ≠ [] ∨ y.length ≠ 0) : (Txt.join sDot (xs.take k ++ y :: xs.drop k)).length ≠ 0 := by
  by_cases hx : xs = []
  · subst hx
    rcases h with h | h
    · exact absurd rfl h
    · simpa [join_one] using h
  · rcases hp : xs.take k with _ | ⟨p, r⟩
    · rcases hq : xs.drop k with _ | ⟨q, r2⟩
      · exact absurd (by rw [← List.take_append_drop k xs, hp, hq]; rfl) hx
      · exact join_two _ _ _
    · rcases r with _ | ⟨q, r2⟩
      · exact join_two _ _ _
      · exact join_two _ _ _

section
variable {prog : Program} {w : World} {A : Around} {E : Value → Shared → Prop} {s : Shared} {h₀ : Heap} {L l : Addr} {m : Str → Option Value} {news : List (Addr × Obj)} {value slice : Expr} {vs : List Value} {k : Nat} {u : Tok} {Q : Value → Shared → Prop}
theorem list_upto (F : Fr h₀ L s.heap m) (N : News h₀ L s.heap news) (hl : s.heap.IsList l vs.toArray)
    (h : ∀ D h', Fr h₀ L h' m → News h₀ L h' ((D, listOf (vs.take k).toArray 0) :: news) → (∀ p ∈ news, p.1 < D) → Q (.ref D) { s with heap := h' })
    (hs : subscripted slice false (.ref l) (.ref s.heap.objs.size) = operate [.ref s.heap.objs.size, .ref l] (getItem (.ref l) (.ref s.heap.objs.size)) := by with_unfolding_all rfl) (hz : vs.length ≤ 1000) :
    wpAny (model prog w) A (subscriptTail value slice (.ref l) (.ref s.heap.objs.size)) Q E { s with heap := s.heap.push { cls := .type "slice", data := .fields #[.none, .int (k : Int) u, .none] } } :=
  kba_turn (value' := .Name "x" ⟨0, 0, 0, 0⟩) (fun _ => rfl) (kmk_slice F N hl .none (.int _ _) (fun D h' F' N' hlt => h D h' F' (by rw [slicePick_upto'] at N'; exact N') hlt) hs (fun _ => rfl) (by rw [List.size_toArray, sizeLine_eq]; omega))
theorem list_from (F : Fr h₀ L s.heap m) (N : News h₀ L s.heap news) (hl : s.heap.IsList l vs.toArray)
    (h : ∀ D h', Fr h₀ L h' m → News h₀ L h' ((D, listOf (vs.drop k).toArray 0) :: news) → (∀ p ∈ news, p.1 < D) → Q (.ref D) { s with heap := h' })
    (hs : subscripted slice false (.ref l) (.ref s.heap.objs.size) = operate [.ref s.heap.objs.size, .ref l] (getItem (.ref l) (.ref s.heap.objs.size)) := by with_unfolding_all rfl) (hz : vs.length ≤ 1000) :
    wpAny (model prog w) A (subscriptTail value slice (.ref l) (.ref s.heap.objs.size)) Q E { s with heap := s.heap.push { cls := .type "slice", data := .fields #[.int (k : Int) u, .none, .none] } } :=
  kba_turn (value' := .Name "x" ⟨0, 0, 0, 0⟩) (fun _ => rfl) (kmk_slice F N hl (.int _ _) .none (fun D h' F' N' hlt => h D h' F' (by rw [slicePick_from'] at N'; exact N') hlt) hs (fun _ => rfl) (by rw [List.size_toArray, sizeLine_eq]; omega))
end
def BadJ (D Kd : Addr) (kd : Value) (ia : Nat) (ti : Tok) (sn : Nat) (tsp : Tok) (base : List (Addr × Obj)) (m : Str → Option Value) (news : List (Addr × Obj)) : Prop := FrB D Kd kd ia ti m ∧ m (Str.ofString "spot") = some (.int (sn : Int) tsp) ∧ news = base
theorem law_own2 {st c1 c2 l : Addr} {os o1 o2 : Obj} {big own : List (Addr × Obj)} {wr : List Addr} (h1 : st ≠ l) (h2 : c1 ≠ l) (h3 : c2 ≠ l) (hown : ∀ p ∈ own, p.1 ∈ wr ∨ p.1 = l) (hoff : ∀ p ∈ (st, os) :: (c1, o1) :: (c2, o2) :: big, p.1 ∉ wr) : Off st c1 c2 own :=
  ⟨fun q hq e => (hown q hq).elim (fun h => hoff _ (.head _) (e ▸ h)) (fun h => h1 (e ▸ h)), fun q hq e => (hown q hq).elim (fun h => hoff _ (.tail _ (.head _)) (e ▸ h)) (fun h => h2 (e ▸ h)), fun q hq e => (hown q hq).elim (fun h => hoff _ (.tail _ (.tail _ (.head _))) (e ▸ h)) (fun h => h3 (e ▸ h))⟩
theorem bad_len {xs : List Str} {y : Str} {k : Nat} (hx : ∀ x ∈ xs, x.length ≤ 100) (hy : y.length ≤ 100) : ∀ z ∈ xs.take k ++ [y] ++ xs.drop k, z.length ≤ 100 := by
  intro z hz
  simp only [List.mem_append, List.mem_singleton] at hz
  rcases hz with (h | h) | h
  · exact hx z (List.mem_of_mem_take h)
  · rw [h]; exact hy
  · exact hx z (List.mem_of_mem_drop h)
theorem bad_dot {xs : List Str} {y : Str} {k : Nat} (hx : ∀ x ∈ xs, 46 ∉ x.cps.toList) (hy : 46 ∉ y.cps.toList) : ∀ z ∈ xs.take k ++ y :: xs.drop k, 46 ∉ z.cps.toList := by
  intro z hz
  simp only [List.mem_append, List.mem_cons] at hz
  rcases hz with h | h | h
  · exact hx z (List.mem_of_mem_take h)
  · rw [h]; exact hy
  · exact hx z (List.mem_of_mem_drop h)
theorem bad_list (xs : List Str) (y : Str) (k : Nat) : xs.take k ++ [y] ++ xs.drop k = xs.take k ++ y :: xs.drop k := by simp
theorem bad_text {xs : List Str} {y : Str} {k : Nat} (hx : ∀ x ∈ xs, x.length ≤ 100) (hy : y.length ≤ 100) (hl : xs.length ≤ 5) : (Txt.join sDot (xs.take k ++ y :: xs.drop k)).length ≤ 10000 := by
  rw [← bad_list]
  refine Nat.le_trans (join_len (bad_len hx hy)) ?_
  simp only [List.length_append, List.length_take, List.length_drop, List.length_cons, List.length_nil]
  omega
theorem mem_end {p s a b d : Addr × Obj} {own made big : List (Addr × Obj)} (h : p ∈ own ++ (s :: a :: b :: big)) : p ∈ s :: a :: b :: (made ++ (d :: (own ++ big))) := by
  simp only [List.mem_append, List.mem_cons] at h ⊢
  rcases h with h | h | h | h | h <;> simp [h]
theorem off_end {st c1 c2 : Addr} {os os' o1 o2 o2' : Obj} {big : List (Addr × Obj)} {wr : List Addr} (hoff : ∀ p ∈ (st, os) :: (c1, o1) :: (c2, o2) :: big, p.1 ∉ wr) : ∀ p ∈ (st, os') :: (c1, o1) :: (c2, o2') :: big, p.1 ∉ wr := by
  intro p hp
  simp only [List.mem_cons] at hp
  rcases hp with rfl | rfl | rfl | h
  · exact hoff (st, os) (.head _)
  · exact hoff _ (.tail _ (.head _))
  · exact hoff (c2, o2) (.tail _ (.tail _ (.head _)))
  · exact hoff _ (.tail _ (.tail _ (.tail _ h)))
end Mine
namespace Mine
local macro_rules | `(tactic| k_all) => `(tactic| assumption)
local macro_rules | `(tactic| k_all) => `(tactic| (exact fun p hp => Nat.ne_of_lt (ktn_ltOf (by assumption) p hp)))
local macro_rules | `(tactic| k_inst) => `(tactic| exact InstAt.up (by assumption) (Fr.keep (by k_asm)))
local macro_rules | `(tactic| walk_at "StarOf ref") => `(tactic| (k_here; k_dflt (refine' star_heap ?k1 ?k2 ?m ?z ?_; (case k1 => k_asm); (case k2 => k_asm); (case m => is_tup); (case z => (rw [sizeLine_eq]; (try simp only [List.length_append, List.length_cons, List.length_nil]); omega)); k_whole); intro h' F' N' kst'; (try k_sweep); try dsimp only [List.nil_append, List.cons_append]))
local macro_rules | `(tactic| walk_at "call ref") => `(tactic| (k_here; k_dflt (refine' new_spec _ _ _ _ _ _ _ _ _ _ _ _ _ _ _ _ _ _ _ _ _ _ _ _ _ ?k1 ?k2 ?k3 ?k4 ?k5 ?k6 ?kd ?ku ?kz ?_; (case k1 => k_asm); (case k2 => k_asm); (case k3 => k_asm); (case k4 => k_asm); (case k5 => k_asm); (case k6 => first | exact rfl | assumption); (case kd => ktr_room); (case ku => ktr_units); (case kz => ((try simp only [List.length_append, List.length_cons, List.length_nil]); omega)); k_whole); intro x' dx' tx' tk' h' tk'' l1 l2 l3 F' N' kp' fr'; (try k_lt l1); (try k_lt2 l2); (try k_lt2 l3); (try dsimp only); (try k_unmd); (try k_fold)))
local macro_rules | `(tactic| walk_at "truthy ref") => `(tactic| (k_here; (with_reducible show wpAny _ _ (truthy (Value.ref _)) _ _ _); k_dflt (refine' tup_truthy ?F ?D ?z ?_; (case F => k_asm); (case D => assumption); (case z => (try simp only [List.length_append, List.length_cons, List.length_nil]); omega); k_whole); (try simp only [List.isEmpty_cons, List.isEmpty_nil, Bool.not_false, Bool.not_true])))
local macro_rules | `(tactic| walk_at "callWith ref") => `(tactic| (k_here; (with_reducible show wpAny _ _ (callWith _ (Value.ref _) _ (backTo _ (starEach (Expr.Starred _ _ :: _ :: _) _)) []) _ _ _); k_dflt (refine' callWith_S3 ?k1 ?k2 ?_; (case k1 => k_asm); (case k2 => k_is); k_whole)))
local macro_rules | `(tactic| walk_at "compareOp In str ref") => `(tactic| (k_here; (with_reducible show wpAny _ _ (compareOp CmpOp.In (Value.str _ _) (Value.ref _)) _ _ _); k_dflt (refine' topIn_K ?F ?X ?l ?k ?e ?lo ?_; (case F => k_asm); (case X => k_asm); (case l => k_is); (case k => k_keys); (case e => assumption); (case lo => rfl); k_whole); (try simp only [Option.isSome_none, Option.isSome_some])))
local macro_rules | `(tactic| walk_at "exec Raise some none") => `(tactic| refine AE.Raise_ae rfl ?_)
local macro_rules | `(tactic| walk_at "call type:AttributeError") => `(tactic| (k_here; refine AE.call_ae (fun h' e' hx' => ?_) (by size_fits)))
local macro_rules | `(tactic| k_inst) => `(tactic| assumption)
local macro_rules | `(tactic| walk_at "call builtin:len") => `(tactic| (k_here; (with_reducible show wpAny _ _ (call (Value.builtin "len") [Value.ref _]) _ _ _); (refine PyProof.Rows.len_tuple (by is_tup) (by simp only [List.size_toArray, List.length_append, List.length_cons, List.length_nil]; omega) ?_); (try simp only [List.size_toArray])))
local macro_rules | `(tactic| walk_at "call builtin:list.append") => `(tactic| (k_here; (with_reducible show wpAny _ _ (call (Value.builtin _) [Value.ref _, _]) _ _ _); k_dflt (refine' append_K ?k1 ?k2 ?k3 ?_ ?z; (case k1 => k_asm); (case k2 => k_asm); (case k3 => k_upd); (case z => (simp only [List.size_toArray, List.length_append, List.length_cons, List.length_nil]; rw [sizeLine_eq]; omega)); k_whole); intro h' F' N'; (try k_sweep)))
set_option maxHeartbeats 400000000 in
theorem lawH : PySem.Challenge.rw_ev0002_01.Holds := Mine.hd (by w_strict (
  k_go0
  (all_goals try k_fold)
  repeat' ((fail_if_success (with_reducible show wpAny _ _ (pyIter _) _ _ _)); (fail_if_success (with_reducible show wpAny _ _ (call (Value.ref 102) _) _ _ _)); (first | (k_unfold; (try dsimp only)) | (k_end; wrow_close) | walk1 | (dsimp only; walk1) | (leave1; walk_say "STEP leave1"; try dsimp only) | fail "no step"))
  rename World => w
  rename (_ = Data.cell _) => cR
  obtain ⟨x1, e1⟩ : ∃ c, _ = Data.cell c := ⟨_, cR⟩
  clear cR
  revert e1
  rename (_ = Data.cell _) => cL
  obtain ⟨x2, e2⟩ : ∃ c, _ = Data.cell c := ⟨_, cL⟩
  clear cL
  intro e1
  rename CellsAre _ _ _ => yy
  rename Dflts _ _ _ _ _ _ => dd
  rename Fr _ _ _ _ => FF
  obtain ⟨m0, F0⟩ : ∃ m0, Fr _ _ _ m0 := ⟨_, FF⟩
  clear yy dd FF
  rename (News _ _ _ _) => N0
  rename Heap.IsList _ _ _ => hl0
  rename IntsAre _ _ => hi0
  rename Heap.CodeRec _ _ _ => cc
  clear cc
  refine state_spec _ _ _ _ _ _ _ _ _ _ _ _ _ _ _ _ _ _ _ _ _ _ _ _ _ _ _ (by k_asm) (by k_asm) (by k_asm) (by k_asm) (by k_asm) rfl (by ktr_room) (by ktr_units) (by exact stays_list F0.keep hl0) hi0 (by omega) ?_
  intro st nb t0 vs' ns' rest h2 tk2 A2 hi2 hn3 hn27 hnb2 hrest hnb
  have F2 := A2.F
  have N2 := A2.N
  dsimp only
  obtain ⟨rest0, N3, hnbm, hoff, hs1, hs2⟩ := law_open N0 A2 hrest hnb
  clear F0 N0 A2 N2 hrest rest
  repeat' ((fail_if_success (with_reducible show wpAny _ _ (pyIter _) _ _ _)); (fail_if_success (with_reducible show wpAny _ _ (storeName _ _ _) _ _ _)); (first | (k_unfold; (try dsimp only)) | (k_end; wrow_close) | walk1 | (dsimp only; walk1) | (leave1; walk_say "STEP leave1"; try dsimp only) | fail "no step"))
  refine storeX_C (by k_asm) N3 (by rfl) (UpdF.tail hs1 (UpdF.head (fun q hq => (List.mem_cons.mp hq).elim (fun e => by rw [e]; exact Nat.succ_ne_self _) (hoff.b q)))) e1 ?_
  intro h3 o1 F3 N4 d1
  clear e1 x1 N3 F2
  dsimp only at N4 ⊢
  repeat' ((fail_if_success (with_reducible show wpAny _ _ (pyIter _) _ _ _)); (fail_if_success (with_reducible show wpAny _ _ (exec (Stmt.Assign _ (Expr.ListComp _ _ _ _) _) _) _ _ _)); (first | (k_unfold; (try dsimp only)) | (k_end; wrow_close) | walk1 | (dsimp only; walk1) | (leave1; walk_say "STEP leave1"; try dsimp only) | fail "no step"))
  rename (News _ _ _ _) => N4
  rename (Fr _ _ _ _) => F3
  rename (_ = Data.cell (some (Value.ref _))) => d1
  rename (_ ∈ _) => hnbm
  rename (Off _ _ _ _) => hoff
  rename (∀ x ∈ _, 0 ≤ x ∧ x < 1000003) => hnb2
  rename (IntsAre _ _) => hi2
  rename (Below _ _ _ _) => B0
  k_dflt (refine LCg.Assign_ListComp_U (F₀ := by k_asm) (by rfl) (by with_unfolding_all rfl) (by rfl) (by decide) (by rfl) (by decide) (by rfl) (by rfl) (by rfl) ?_)
  repeat' ((fail_if_success (with_reducible show wpAny _ _ (pyIter _) _ _ _)); (fail_if_success (with_reducible show wpAny _ _ (call (Value.ref 97) _) _ _ _)); (first | (k_unfold; (try dsimp only)) | (k_end; wrow_close) | walk1 | (dsimp only; walk1) | (leave1; walk_say "STEP leave1"; try dsimp only) | fail "no step"))
  have hl5 := News.isList N4 (.tail _ (.tail _ (.tail _ hnbm)))
  refine next_spec _ _ _ _ _ _ _ _ _ _ _ _ _ _ _ _ _ _ _ _ _ _ _ _ _ _ _ _ _ _ _ _ _ B0 (by k_asm) (by k_asm) N4 (by k_asm) rfl (by ktr_room) (by ktr_units) (hne_law hs1 hs2 hoff) hl5 hnb hi2 (by omega) (by omega) hnb2 (by omega) (by decide) (by decide) (by decide) ?_
  intro r5 t5 tr5 h5 tk5 r5lo r5hi F5 N5 k5
  dsimp only
  clear F3 N4 hl5 k5
  repeat' ((fail_if_success (with_reducible show wpAny _ _ (pyIter _) _ _ _)); (fail_if_success (with_reducible show LCg.CompSrc _ _ _ _ _ _ _ _ _ _ _ _ _ _)); (first | (k_unfold; (try dsimp only)) | (k_end; wrow_close) | walk1 | (dsimp only; walk1) | (leave1; walk_say "STEP leave1"; try dsimp only) | fail "no step"))
  rename IsRange _ _ _ _ _ _ _ _ => hr
  obtain ⟨n, rfl⟩ := Int.eq_ofNat_of_zero_le r5lo
  refine LCg.CompSrc.range rfl (by k_asm) (by k_asm) hr (small_one (by omega) (by omega) (by omega) (by omega)) (n := n + 2) (by rw [show (2 + (n : Int)) = ((n + 2 : Nat) : Int) by omega]; exact range_size _) (by rw [sizeLine_eq]; omega) (fun gg => ?_)
  refine comp_rest (RowJ st _ _ nb _ _ rest0) (RowJ.zero (by decide)) ?_ ?_
  · rintro i ys _ v I oI C oC D m₂ h9 tk9 E' hi9 ⟨at1, t1, made, xss, ha1, ha2, rfl, hR, hxl, hgood, hmoff⟩ ⟨t9, rfl⟩ hC hx F9 N9 off ne
    have off3 := off_block (oI := oI) (oC := oC) (oD := LCg.lst ys) off
    repeat' ((fail_if_success (with_reducible show wpAny _ _ (call (Value.ref 108) _) _ _ _)); (first | (k_unfold; (try dsimp only)) | (k_end; wrow_close) | walk1 | (dsimp only; walk1) | (leave1; walk_say "STEP leave1"; try dsimp only) | fail "no step"))
    refine row_spec _ _ _ _ _ _ _ _ _ _ _ _ _ _ _ _ _ _ _ _ _ _ _ _ _ _ at1 _ _ _ _ B0 (by k_asm) (by k_asm) (fun p hp => N9 p (mem_back3 (a := [(I, oI), (C, oC), (D, LCg.lst ys)]) hp)) (by k_asm) rfl (by ktr_room) (by ktr_units) (hne_law hs1 hs2 (off3.app (hmoff.app hoff))) (by exact News.isList N9 (.tail _ (.tail _ (.tail _ (.tail _ (.tail _ (.tail _ (List.mem_append_right _ hnbm)))))))) hnb hi2 (by omega) (by omega) hnb2 (by omega) (by omega) ?_
    intro rl lv xs at2 t2 h6 tk6 hat1 hat2 F6 N6 hS hxs hxm k6 hrl hfr
    dsimp only
    have e9 := row_end (rl := rl) (o := LCg.lst lv) (os' := listOf [.ref nb, .int at2 t2].toArray 0) N9 hfr off
    exact LCg.CompEnd.intro (by assumption) N6 _ (fun p hp => mem_row hp) e9.1 trivial (RowJ.more ha1 ha2 hat1 hat2 hR hxl hgood hmoff e9.2 hS hxs hxm)
  · rintro ys _ ⟨at1, t1, made, xss, ha1, ha2, rfl, hR, hxl, hgood, hmoff⟩
    clear hr
    unfold LCg.FinA
    intro D h6 tk6 F6 N6 o6
    have hD := Off.one (o := LCg.lst ys) (Ne.symm o6.1) (Ne.symm o6.2.1) (Ne.symm o6.2.2.1)
    dsimp only
    have hRl := hR.length
    obtain _ | @⟨rl0, lv0, k0, xs0, ys, xss, hm0, hS0, hR0⟩ := hR
    · simp at hxl
    repeat' ((fail_if_success (with_reducible show wpAny _ _ (pyIter _) _ _ _)); (fail_if_success (with_reducible show wpAny _ _ (call (Value.ref 97) _) _ _ _)); (first | (k_unfold; (try dsimp only)) | (k_end; wrow_close) | walk1 | (dsimp only; walk1) | (leave1; walk_say "STEP leave1"; try dsimp only) | fail "no step"))
    refine next_spec _ _ _ _ _ _ _ _ _ _ _ _ _ _ _ _ _ _ _ _ _ _ _ _ st nb at1 7 _ _ _ _ _ B0 (by k_asm) (by k_asm) (news_front (a := [_]) N6) (by k_asm) rfl (by ktr_room) (by ktr_units) ?_ (by exact News.isList N6 (.tail _ (.tail _ (.tail _ (.tail _ (List.mem_append_right _ hnbm)))))) hnb hi2 (by omega) (by omega) hnb2 (by omega) (by omega) (by decide) (by decide) ?_
    · exact fun q hq => (List.mem_cons.mp hq).elim (fun e => by rw [e]; exact hD.a _ (.head _)) (hne_law hs1 hs2 (hmoff.app hoff) q)
    intro r7 t7 tr7 h7 tk7 r7lo r7hi F7 N7 k7
    clear k7 F6 N6
    have N8 : News _ _ _ (_ :: _ :: _ :: _ :: (made ++ rest0)) := N7
    clear N7
    dsimp only at N8 ⊢
    repeat' ((fail_if_success (with_reducible show wpAny _ _ (pyIter _) _ _ _)); (fail_if_success (with_reducible show wpAny _ _ (subscriptTail _ _ _ _) _ _ _)); (first | (k_unfold; (try dsimp only)) | (k_end; wrow_close) | walk1 | (dsimp only; walk1) | (leave1; walk_say "STEP leave1"; try dsimp only) | fail "no step"))
    k_dflt (refine' names_item ?F ?X ?l ?h0 ?hk ?len ?all ?_; (case F => k_asm); (case X => k_asm); (case l => k_is); (case h0 => exact r7lo); (case hk => exact r7hi); (case len => exact rfl); (case all => decide); k_whole)
    intro x7 tx7 hx7
    repeat' ((fail_if_success (with_reducible show wpAny _ _ (pyIter _) _ _ _)); (fail_if_success (with_reducible show wpAny _ _ (binaryOp _ _ _) _ _ _)); (first | (k_unfold; (try dsimp only)) | (k_end; wrow_close) | walk1 | (dsimp only; walk1) | (leave1; walk_say "STEP leave1"; try dsimp only) | fail "no step"))
    rename (News _ _ _ (_ :: _ :: _)) => N9
    have hS0l := hS0.length
    have hxs0 := hgood xs0 (.head _)
    have hys : ys.length ≤ 8 := by have := hR0.length; simp only [List.length_cons] at hxl; omega
    k_dflt (refine add_listsG (by k_asm) N9 (News.isList N9 (.tail _ (.tail _ (.tail _ (.tail _ (.tail _ (List.mem_append_left _ hm0))))))) (News.isList N9 (by k_mem)) (by simp only [List.length_cons, List.length_nil]; omega) (fun R h9 F9 N9' hlt9 hlt8 => ?_))
    clear N9
    dsimp only
    have n1 : R ≠ st := Ne.symm (Nat.ne_of_lt (hlt9 _ (.tail _ (.head _))))
    have nD : D ≠ R := Nat.ne_of_lt (hlt9 _ (.tail _ (.tail _ (.head _))))
    have n2 := Ne.symm (Nat.ne_of_lt (hlt9 _ (.tail _ (.tail _ (.tail _ (.head _))))))
    have n3 := Ne.symm (Nat.ne_of_lt (hlt9 _ (.tail _ (.tail _ (.tail _ (.tail _ (.head _)))))))
    have hRo : Off st _ _ [(R, listOf (lv0 ++ [Value.str x7 tx7]).toArray 0)] := Off.one n1 n2 n3
    have hoffD := off1_mem o6
    have N10 : News _ _ _ ((D, _) :: (st, _) :: (_, _) :: (_, _) :: (((R, listOf (lv0 ++ [Value.str x7 tx7]).toArray 0) :: made) ++ rest0)) := fun p hp => N9' p (by
      simp only [List.mem_cons, List.cons_append] at hp ⊢
      rcases hp with h | h | h | h | h | h
      · exact .inr (.inr (.inr (.inl h)))
      · exact .inr (.inr (.inl h))
      · exact .inr (.inr (.inr (.inr (.inl h))))
      · exact .inr (.inr (.inr (.inr (.inr (.inl h)))))
      · exact .inl h
      · exact .inr (.inr (.inr (.inr (.inr (.inr h))))))
    clear N9' hlt9 hlt8
    repeat' ((fail_if_success (with_reducible show wpAny _ _ (pyIter _) _ _ _)); (fail_if_success (with_reducible show wpAny _ _ (call (Value.builtin _) _) _ _ _)); (first | (k_unfold; (try dsimp only)) | (k_end; wrow_close) | walk1 | (dsimp only; walk1) | (leave1; walk_say "STEP leave1"; try dsimp only) | fail "no step"))
    k_dflt (refine append_K (by k_asm) N10 (.head (fun p hp => ?_)) ?_ (by simp only [List.size_toArray, List.length_cons]; rw [sizeLine_eq]; omega))
    · simp only [List.mem_cons, List.cons_append] at hp
      rcases hp with h | h | h | h | h
      · rw [h]; exact Ne.symm (hD.a _ (.head _))
      · rw [h]; exact hoffD _ (.tail _ (.head _))
      · rw [h]; exact hoffD _ (.tail _ (.tail _ (.head _)))
      · rw [h]; exact Ne.symm nD
      · exact hoffD _ (.tail _ (.tail _ (.tail _ h)))
    intro h10 F10 N11
    clear N10
    have eR := rows_end (k := 0) (R := R) (t7 := tx7) hm0 hS0 hR0 hgood hx7
    have hrl : (Value.ref rl0 :: ys ++ [Value.ref R]).length = n + 3 := by simp only [List.length_append, List.length_cons, List.length_nil] at hRl hxl ⊢; omega
    rw [List.push_toArray] at N11
    have hmo := hRo.app hmoff
    have N12 := N11
    clear N11 hoffD o6
    revert eR hrl N12
    generalize (Value.ref rl0 :: ys ++ [Value.ref R]) = rv
    generalize (xs0 :: xss ++ [xs0 ++ [x7]]) = xsl
    intro eR hrl N12
    dsimp only
    repeat' ((fail_if_success (with_reducible show wpAny _ _ (pyIter _) _ _ _)); (fail_if_success (with_reducible show wpAny _ _ (exec (Stmt.Assign _ (Expr.ListComp _ _ _ _) _) _) _ _ _)); (first | (k_unfold; (try dsimp only)) | (k_end; wrow_close) | walk1 | (dsimp only; walk1) | (leave1; walk_say "STEP leave1"; try dsimp only) | fail "no step"))
    k_dflt (refine LCg.Assign_ListComp_U (F₀ := by k_asm) (by rfl) (by with_unfolding_all rfl) (by rfl) (by decide) (by rfl) (by decide) (by rfl) (by rfl) (by rfl) ?_)
    repeat' ((fail_if_success (with_reducible show wpAny _ _ (pyIter _) _ _ _)); (fail_if_success (with_reducible show LCg.CompSrc _ _ _ _ _ _ _ _ _ _ _ _ _ _)); (first | (k_unfold; (try dsimp only)) | (k_end; wrow_close) | walk1 | (dsimp only; walk1) | (leave1; walk_say "STEP leave1"; try dsimp only) | fail "no step"))
    rename (News _ _ _ ((D, _) :: _)) => N13
    have hxl9 : xsl.length = n + 3 := by rw [← hrl]; exact eR.1.length.symm
    refine LCg.CompSrc.ledger rfl (by k_asm) N13 (.head _) (by rw [List.size_toArray, hrl, sizeLine_eq]; omega) (fun gg => ?_)
    refine comp_rest (KindJ w D _ st _ _ _ _ _ _ xsl) ⟨[], rfl, by simp; exact .nil, Off.nil, by simp⟩ ?_ ?_
    · rintro i ys9 _ v I oI C oC D9 m₂ h9 tk9 E' hi9 ⟨made9, rfl, hK, hmo9, hmD⟩ hv hC hx F9 N9 off ne
      have hv' : rv[i]? = some v := by simpa using hv
      obtain ⟨rl, lv, k, xs, rfl, hmr, hSr, hxr⟩ := eR.1.get hv'
      have hgr := eR.2 xs (List.mem_of_getElem? hxr)
      repeat' ((fail_if_success (with_reducible show wpAny _ _ (call (Value.builtin "str.join") _) _ _ _)); (first | (k_unfold; (try dsimp only)) | (k_end; wrow_close) | walk1 | (dsimp only; walk1) | (leave1; walk_say "STEP leave1"; try dsimp only) | fail "no step"))
      k_dflt (refine join_listW (News.isList N9 (.tail _ (.tail _ (.tail _ (.tail _ (.tail _ (.tail _ (.tail _ (List.mem_append_right _ (List.mem_append_left _ hmr))))))))) ) hSr.are dot_len (join_weight (good_up hgr.2).2.2.1 (by have := hgr.1; omega)) (fun t8 k8 => ?_))
      dsimp only
      repeat' ((fail_if_success (with_reducible show wpAny _ _ (pyIter _) _ _ _)); (fail_if_success (with_reducible show wpAny _ _ (call (Value.ref 90) _) _ _ _)); (first | (k_unfold; (try dsimp only)) | (k_end; wrow_close) | walk1 | (dsimp only; walk1) | (leave1; walk_say "STEP leave1"; try dsimp only) | fail "no step"))
      refine stt_row w _ _ _ _ _ _ _ _ _ _ _ _ _ _ _ _ _ _ _ _ _ _ _ _ _ B0 (by k_asm) (by k_asm) N9 (by k_asm) rfl (by ktr_room) (by ktr_units) (by have := hgr.1; omega) hgr.2 ?_
      intro r8 made8 h8 tk8 A8 ht8
      dsimp only
      have e8 := kind_end N9 A8 off
      have F8 := A8.F
      have N8 := A8.N
      exact LCg.CompEnd.intro F8 N8 _ (fun p hp => mem_kind hp) e8.1 (.inr ⟨_, .head _, rfl, _, rfl⟩) (KindJ.more hK hmo9 hmD e8.2.1 e8.2.2 ht8 hxr)
    · rintro ys9 _ ⟨made9, rfl, hK, hmo9, hmD⟩
      unfold LCg.FinA
      intro Kd h6 tk6 F6 N6' o6'
      have hKo := Off.one (o := LCg.lst ys9) (Ne.symm o6'.2.1) (Ne.symm o6'.2.2.1) (Ne.symm o6'.2.2.2.1)
      rw [List.size_toArray, hrl, ← hxl9, List.take_length] at hK
      dsimp only
      clear N13
      have hB : Big w st _ _ nb D Kd _ rv ys9 xsl ((Kd, LCg.lst ys9) :: (D, listOf rv.toArray ((Value.ref rl0 :: ys).length + 1)) :: (made9 ++ (((R, listOf (lv0 ++ [Value.str x7 tx7]).toArray 0) :: made) ++ rest0))) :=
        { k := .head _, d := ⟨_, .tail _ (.head _)⟩, b := .tail _ (.tail _ (List.mem_append_right _ (List.mem_append_right _ hnbm)))
          off := hKo.app ((Off.one (hD.a _ (.head _)) (hD.b _ (.head _)) (hD.c _ (.head _))).app (hmo9.app (hmo.app hoff)))
          rows := eR.1.mono fun p hp => .tail _ (.tail _ (List.mem_append_right _ (List.mem_append_left _ hp)))
          kinds := hK.mono fun p hp => .tail _ (.tail _ (List.mem_append_left _ hp))
          good := eR.2, s1 := hs1, s2 := hs2, s3 := Nat.ne_of_lt (Nat.lt_succ_self _) }
      have N9 : News _ _ _ (_ :: _ :: _ :: (Kd, LCg.lst ys9) :: (D, listOf rv.toArray ((Value.ref rl0 :: ys).length + 1)) :: (made9 ++ (((R, listOf (lv0 ++ [Value.str x7 tx7]).toArray 0) :: made) ++ rest0))) := fun p hp => N6' p (mem_two hp)
      clear N6' hKo hK hmo9 hmD hmo eR o6' hoff hnbm
      revert hB N9
      generalize (Kd, LCg.lst ys9) :: (D, listOf rv.toArray ((Value.ref rl0 :: ys).length + 1)) :: (made9 ++ (((R, listOf (lv0 ++ [Value.str x7 tx7]).toArray 0) :: made) ++ rest0)) = big
      intro hB N9
      repeat' ((fail_if_success (with_reducible show wpAny _ _ (pyIter _) _ _ _)); (fail_if_success (with_reducible show wpAny _ _ (exec (Stmt.For _ _ _ _ _) _) _ _ _)); (first | (k_unfold; (try dsimp only)) | (k_end; wrow_close) | walk1 | (dsimp only; walk1) | (leave1; walk_say "STEP leave1"; try dsimp only) | fail "no step"))
      (with_unfolding_all refine' For_invVF F6 ?k1 ?k2 ?_; (case k1 => exact rfl); (case k2 => exact rfl))
      repeat' ((fail_if_success (with_reducible show wpAny _ _ (pyIter _) _ _ _)); (fail_if_success (with_reducible show wpAny _ _ (call (Value.builtin "len") _) _ _ _)); (first | (k_unfold; (try dsimp only)) | (k_end; wrow_close) | walk1 | (dsimp only; walk1) | (leave1; walk_say "STEP leave1"; try dsimp only) | fail "no step"))
      obtain ⟨kD, hDm⟩ := hB.d
      have hsz : rv.toArray.size = n + 3 := by rw [List.size_toArray, hrl]
      refine len_list (News.isList N9 (.tail _ (.tail _ (.tail _ hDm)))) (by rw [hsz]; omega) ?_
      rw [hsz]
      dsimp only
      repeat' ((fail_if_success (with_reducible show wpAny _ _ (pyIter _) _ _ _)); (first | (k_unfold; (try dsimp only)) | (k_end; wrow_close) | walk1 | (dsimp only; walk1) | (leave1; walk_say "STEP leave1"; try dsimp only) | fail "no step"))
      rename IsRange _ _ _ _ _ _ _ _ => hr
      rename Fr _ _ _ _ => F9
      rename News _ _ _ _ => N10
      refine iter_rangeW (n := n + 3) (LawJ st _ _ nb D Kd _ big) rfl hr (small_one (by omega) (by omega) (by omega) (by omega)) (range_size (n + 3)) F9 N10 ⟨rfl, rfl, _, _, _, _, ?_, ?_, rfl, e2⟩ ?_ ?_
      · omega
      · omega
      · intro i ti m₁ news₁ h2 tk2 own wr hi hJ hoff9 hnew hown hW F2 N2
        obtain ⟨hm1, hm2, at2, t2', o2, x2', ha1', ha2', rfl, e2'⟩ := hJ
        rw [Int.zero_add] at F2
        have F3 := fr_under (fr_under F2 hm2) (y := sRows) ((if_neg (by decide)).trans hm1)
        have hown9 := law_own hB hown hoff9
        have hB9 := hB.up hown9
        have N3 : News _ _ _ (_ :: _ :: _ :: (own ++ big)) := fun p hp => N2 p (mem_law hp)
        clear F2 N2 F9 N10 hr
        rename Frag.In _ _ => KX
        obtain ⟨rl, lv, k, xs, kd, erl, hmr, hSr, hxr, hgr, ekd, htk⟩ := hB9.row (i := i) (by omega)
        obtain ⟨kD9, hDm9⟩ := hB9.d
        repeat' ((fail_if_success (with_reducible show wpAny _ _ (pyIter _) _ _ _)); (fail_if_success (with_reducible show wpAny _ _ (subscriptTail _ _ _ _) _ _ _)); (first | (k_unfold; (try dsimp only)) | (k_end; wrow_close) | walk1 | (dsimp only; walk1) | (leave1; walk_say "STEP leave1"; try dsimp only) | fail "no step"))
        refine list_item (by exact News.isList N3 (.tail _ (.tail _ (.tail _ hB9.k)))) (by omega) ekd ?_
        repeat' ((fail_if_success (with_reducible show wpAny _ _ (pyIter _) _ _ _)); (fail_if_success (with_reducible show wpAny _ _ (subscriptTail _ _ _ _) _ _ _)); (first | (k_unfold; (try dsimp only)) | (k_end; wrow_close) | walk1 | (dsimp only; walk1) | (leave1; walk_say "STEP leave1"; try dsimp only) | fail "no step"))
        refine list_item (by exact News.isList N3 (.tail _ (.tail _ (.tail _ hDm9)))) (by omega) erl ?_
        repeat' ((fail_if_success (with_reducible show wpAny _ _ (pyIter _) _ _ _)); (fail_if_success (with_reducible show wpAny _ _ (call (Value.ref 115) _) _ _ _)); (first | (k_unfold; (try dsimp only)) | (k_end; wrow_close) | walk1 | (dsimp only; walk1) | (leave1; walk_say "STEP leave1"; try dsimp only) | fail "no step"))
        refine whole_spec w _ _ _ _ _ _ _ _ _ _ _ _ _ _ _ _ _ _ _ _ _ _ _ _ _ xs B0 (by k_asm) (by k_asm) N3 (by k_asm) rfl (by ktr_room) (by ktr_units) (by exact News.isList N3 (.tail _ (.tail _ (.tail _ hmr)))) hSr hgr.1 hgr.2 ?_
        intro dr dvs h4 tk4 A4 hdv
        have F4 := A4.F
        have N4 := A4.N
        have hdo : Off st _ _ [(dr, tupOf dvs)] := Off.of N3 A4.fresh
        have N5 : News _ _ _ (_ :: _ :: _ :: ((dr, tupOf dvs) :: (own ++ big))) := fun p hp => N4 p (mem_back3 (a := [_]) hp)
        clear F3 N3 N4 A4
        dsimp only
        repeat' ((fail_if_success (with_reducible show wpAny _ _ (pyIter _) _ _ _)); (fail_if_success (with_reducible show wpAny _ _ (storeName _ (Str.ofString "due") _) _ _ _)); (fail_if_success (with_reducible show wpAny _ _ (eval (Expr.Name (Str.ofString "Token") _) _) _ _ _)); (first | (k_unfold; (try dsimp only)) | (k_end; wrow_close) | walk1 | (dsimp only; walk1) | (leave1; walk_say "STEP leave1"; try dsimp only) | fail "no step"))
        rename (News _ _ _ (_ :: _ :: _ :: _)) => N6
        have N7 : News _ _ _ ((st, _) :: _ :: _ :: ((dr, tupOf dvs) :: (own ++ big))) := fun p hp => N6 p (.tail _ hp)
        clear N6
        have hB5 := hB9.up hdo
        refine storeX_C (by k_asm) N7 (by rfl) (UpdF.tail hs2 (UpdF.tail hB9.s3 (UpdF.head hB5.off.c))) e2' ?_
        intro h5 o3 F5 N8 d3
        dsimp only at N8 ⊢
        clear N7 e2'
        repeat' ((fail_if_success (with_reducible show wpAny _ _ (pyIter _) _ _ _)); (fail_if_success (with_reducible show wpAny _ _ (exec (Stmt.For _ _ _ _ _) _) _ _ _)); (first | (k_unfold; (try dsimp only)) | (k_end; wrow_close) | walk1 | (dsimp only; walk1) | (leave1; walk_say "STEP leave1"; try dsimp only) | fail "no step"))
        rename (Fr _ _ _ _) => F6
        (with_unfolding_all refine' For_invVF F6 ?k1 ?k2 ?_; (case k1 => exact rfl); (case k2 => exact rfl))
        repeat' ((fail_if_success (with_reducible show wpAny _ _ (pyIter _) _ _ _)); (fail_if_success (with_reducible show wpAny _ _ (subscriptTail _ _ _ _) _ _ _)); (first | (k_unfold; (try dsimp only)) | (k_end; wrow_close) | walk1 | (dsimp only; walk1) | (leave1; walk_say "STEP leave1"; try dsimp only) | fail "no step"))
        refine list_item (by exact News.isList (by k_asm) (.tail _ (.tail _ (.tail _ (.tail _ hDm9))))) (by omega) erl ?_
        repeat' ((fail_if_success (with_reducible show wpAny _ _ (pyIter _) _ _ _)); (first | (k_unfold; (try dsimp only)) | (k_end; wrow_close) | walk1 | (dsimp only; walk1) | (leave1; walk_say "STEP leave1"; try dsimp only) | fail "no step"))
        rename (Fr _ _ _ _) => F6
        rename (News _ _ _ _) => N9
        refine iter_listW (HereJ w D Kd kd i ti st _ _ _ xs) rfl F6 N9 (by exact News.isList N9 (.tail _ (.tail _ (.tail _ (.tail _ hmr))))) (HereJ.zero hB5 ⟨rfl, rfl, rfl, rfl⟩ rfl) ?_ ?_
        · clear F6
          intro i2 v m₂ news₂ h6 tk6 own2 wr2 hv hJ hoff2 hnew2 _ _ F7 N10
          obtain ⟨hfb, nv, made2, hm3, ht, hsub, hsub2, hmo2⟩ := hJ
          obtain ⟨y, ty, hy, rfl⟩ := hSr.get hv
          have hy' := hgr.2 _ (List.mem_of_getElem? hy)
          have F8 := fr_under (hfb.fr1 F7) (y := sHere) ((congrFun hfb.eq _).trans hm3)
          have hlen := fold_len (xs.take i2) []
          have hlen2 : (xs.take i2).length ≤ 5 := by rw [List.length_take]; have := hgr.1; omega
          simp only [List.length_nil] at hlen
          have X2 := KX.keeps (Fr.keep F8)
          have hT := TokM.heap X2 (fun p hp => (N10 p (List.mem_append_right _ (hsub p hp))).1) ht
          have hT0 := hT
          obtain ⟨xa, dxa, txa, tka, vs, n9, rfl, q1, q2, q3, hvs⟩ := hT
          have I9 : InstAt h6 xa (instTok dxa) 59 (some (dictTok w tka txa)) := ⟨q1, rfl, rfl, q2⟩
          clear F7
          repeat' ((fail_if_success (with_reducible show wpAny _ _ (pyIter _) _ _ _)); (fail_if_success (with_reducible show wpAny _ _ (call (Value.ref 49) _) _ _ _)); (first | (k_unfold; (try dsimp only)) | (k_end; wrow_close) | walk1 | (dsimp only; walk1) | (leave1; walk_say "STEP leave1"; try dsimp only) | fail "no step"))
          refine child_good w _ _ _ _ _ _ _ _ _ _ _ _ _ _ _ _ _ _ _ _ _ _ (own2 ++ news₂) _ y ty _ B0 (by k_asm) (by k_asm) (by k_asm) (by k_asm) rfl (by ktr_room) (by ktr_units) hT0 (by omega) (name_up hy') ?_
          intro r made' h7 tk7 A3 ht3
          have F10 := A3.F
          have N11 := A3.N
          dsimp only
          clear F8
          repeat' ((fail_if_success (with_reducible show wpAny _ _ (pyIter _) _ _ _)); (first | (k_unfold; (try dsimp only)) | (k_end; wrow_close) | walk1 | (dsimp only; walk1) | (leave1; walk_say "STEP leave1"; try dsimp only) | fail "no step"))
          rename (News _ _ _ (made' ++ (own2 ++ news₂))) => N12
          show TurnE _ _ _ _ _ _ _
          refine TurnE.intro (by k_asm) (news₂ := made' ++ news₂) (fun p hp => N12 p (mem_here hp)) (fun p hp => (List.mem_append.mp hp).elim (fun hp => hnew2 _ (A3.fresh p hp)) (hoff2 p)) (HereJ.next ⟨rfl, rfl, rfl, rfl⟩ rfl hy ht3 hsub2 (Off.of (fun p hp => N10 p (List.mem_append_right _ (hsub2 p hp))) A3.fresh))
        · intro m₂ news₂ h6 tk6 hJ F7 N10
          obtain ⟨hfb, hv, made2, hm3, ht, hsub, hsub2, hmo2⟩ := hJ
          have F8 := fr_name (hfb.fr F7) (y := sHere) ((congrFun hfb.eq _).trans hm3)
          rw [hSr.length, List.take_length] at ht
          have N11 : News _ _ _ (_ :: _ :: _ :: (made2 ++ ((dr, tupOf dvs) :: (own ++ big)))) := fun p hp => N10 p ((List.mem_append.mp (mem_back3 (a := made2) hp)).elim (hsub p) (hsub2 p))
          have hB6 := hB5.up hmo2
          clear F7 F6 N9 N10 hsub hsub2 hfb hm3
          have X2 := KX.keeps (Fr.keep F8)
          have hdm : (dr, tupOf dvs) ∈ made2 ++ ((dr, tupOf dvs) :: (own ++ big)) := List.mem_append_right _ (.head _)
          have htk6 : TokM w (made2 ++ ((dr, tupOf dvs) :: (own ++ big))) kd (due xs) := htk.mono fun p hp => List.mem_append_right _ (.tail _ hp)
          have ht6 : TokM w (made2 ++ ((dr, tupOf dvs) :: (own ++ big))) hv (due xs) := ht.mono fun p hp => List.mem_append_left _ hp
          have hK1 := TokM.heap X2 (fun p hp => (N11 p (.tail _ (.tail _ (.tail _ hp)))).1) htk6
          have hK2 := TokM.heap X2 (fun p hp => (N11 p (.tail _ (.tail _ (.tail _ hp)))).1) ht6
          have hK1' := hK1
          obtain ⟨xa, dxa, txa, tka, vs1, n1, rfl, q1, q2, q3, hvs1⟩ := hK1
          obtain ⟨xh, dxh, txh, tkh, vs2, n2, rfl, p1, p2, p3, hvs2⟩ := hK2
          have I1 : InstAt _ xa (instTok dxa) 59 (some (dictTok w tka txa)) := ⟨q1, rfl, rfl, q2⟩
          have I2 : InstAt _ xh (instTok dxh) 59 (some (dictTok w tkh txh)) := ⟨p1, rfl, rfl, p2⟩
          have It1 : IsTup _ txa vs1.toArray := ⟨_, q3, rfl, _, rfl⟩
          have It2 : IsTup _ txh vs2.toArray := ⟨_, p3, rfl, _, rfl⟩
          have Itd : IsTup _ dr dvs.toArray := ⟨_, (N11 _ (.tail _ (.tail _ (.tail _ hdm)))).1, rfl, _, rfl⟩
          have hdn := due_names xs [] (fun _ h => nomatch h) hgr.2
          have gd := good_up hdn
          have hdl := due_len hgr.1
          have hdvl : dvs.length = (due xs).length := hdv.length
          repeat' ((fail_if_success (with_reducible show wpAny _ _ (pyIter _) _ _ _)); (fail_if_success (with_reducible show wpAny _ _ (compareOp _ _ _) _ _ _)); (first | (k_unfold; (try dsimp only)) | (k_end; wrow_close) | walk1 | (dsimp only; walk1) | (leave1; walk_say "STEP leave1"; try dsimp only) | fail "no step"))
          refine tup_ne It1 Itd hvs1 hdv gd.2.2.2 gd.2.2.2 (by ktr_units) ?_
          rw [show (!decide (due xs = List.foldl stepN [] xs)) = false from by simp]
          repeat' ((fail_if_success (with_reducible show wpAny _ _ (pyIter _) _ _ _)); (fail_if_success (with_reducible show wpAny _ _ (compareOp _ _ _) _ _ _)); (first | (k_unfold; (try dsimp only)) | (k_end; wrow_close) | walk1 | (dsimp only; walk1) | (leave1; walk_say "STEP leave1"; try dsimp only) | fail "no step"))
          refine tup_ne It2 Itd hvs2 hdv gd.2.2.2 gd.2.2.2 (by ktr_units) ?_
          rw [show (!decide (due xs = List.foldl stepN [] xs)) = false from by simp]
          repeat' ((fail_if_success (with_reducible show wpAny _ _ (pyIter _) _ _ _)); (fail_if_success (with_reducible show wpAny _ _ (compareOp _ _ _) _ _ _)); (fail_if_success (with_reducible show wpAny _ _ (call (Value.ref 56) _) _ _ _)); (first | (k_unfold; (try dsimp only)) | (k_end; wrow_close) | walk1 | (dsimp only; walk1) | (leave1; walk_say "STEP leave1"; try dsimp only) | fail "no step"))
          refine repr_spec w _ _ _ _ _ _ _ _ _ _ _ _ _ _ _ _ _ _ _ _ _ _ _ _ _ B0 (by k_asm) (by k_asm) N11 (by k_asm) rfl (by ktr_room) (by ktr_units) hK1' (by omega) gd.2.2.1 ?_
          intro h7 tr7 tk7 A7
          have F9 := A7.F
          have N12 : News _ _ _ (_ :: _ :: _ :: (made2 ++ ((dr, tupOf dvs) :: (own ++ big)))) := A7.N
          clear A7 F8 N11 I1 I2 It1 It2 hK1'
          dsimp only [StrBack]
          (try refine ⟨rfl, ?_⟩)
          (try dsimp only)
          repeat' ((fail_if_success (with_reducible show wpAny _ _ (pyIter _) _ _ _)); (fail_if_success (with_reducible show wpAny _ _ (compareOp _ _ _) _ _ _)); (fail_if_success (with_reducible show wpAny _ _ (binaryOp _ _ _) _ _ _)); (first | (k_unfold; (try dsimp only)) | (k_end; wrow_close) | walk1 | (dsimp only; walk1) | (leave1; walk_say "STEP leave1"; try dsimp only) | fail "no step"))
          rename (News _ _ _ (_ :: _ :: _ :: _ :: _)) => N13
          k_dflt (refine add_tupS (by k_asm) N13 ⟨_, (N13 _ (.head _)).1, rfl, _, rfl⟩ ⟨_, (N13 _ (.tail _ (.tail _ (.tail _ (.tail _ hdm))))).1, rfl, _, rfl⟩ (List.cons_ne_nil _ _) (by simp only [List.length_cons, List.length_nil]; omega) ?_)
          intro rt h8 F10 N14 It8
          dsimp only
          repeat' ((fail_if_success (with_reducible show wpAny _ _ (pyIter _) _ _ _)); (fail_if_success (with_reducible show wpAny _ _ (compareOp _ _ _) _ _ _)); (fail_if_success (with_reducible show wpAny _ _ (call (Value.builtin "str.join") _) _ _ _)); (first | (k_unfold; (try dsimp only)) | (k_end; wrow_close) | walk1 | (dsimp only; walk1) | (leave1; walk_say "STEP leave1"; try dsimp only) | fail "no step"))
          have hS8 := fun t => (SA.cons (t := t) hdv : SA ([Value.str sTok t] ++ dvs) (sTok :: due xs))
          have htn : ∀ x ∈ sTok :: due xs, x ∈ lawNames := fun x hx => (List.mem_cons.mp hx).elim (fun e => by rw [e]; decide) (hdn x)
          have gt := good_up htn
          refine join_tupleW It8 (hS8 _).are dot_len (join_weight gt.2.2.1 (by simp only [List.length_cons]; omega)) (fun t9 k9 => ?_)
          have N15 : News _ _ _ (_ :: _ :: _ :: (made2 ++ ((dr, tupOf dvs) :: (own ++ big)))) := fun p hp => N14 p (.tail _ hp)
          clear N14 It8 hS8
          dsimp only
          repeat' ((fail_if_success (with_reducible show wpAny _ _ (pyIter _) _ _ _)); (fail_if_success (with_reducible show wpAny _ _ (eval (Expr.ListComp _ _ _ _) _) _ _ _)); (first | (k_unfold; (try dsimp only)) | (k_end; wrow_close) | walk1 | (dsimp only; walk1) | (leave1; walk_say "STEP leave1"; try dsimp only) | fail "no step"))
          · rename ((_ != _) = true) => hb
            exact absurd hb (by simp)
          rename ((_ != _) = false) => hb
          clear hb
          rename (Fr _ _ _ _) => F11
          have X3 := KX.keeps (Fr.keep F11)
          have hK3 := TokM.heap X3 (fun p hp => (N15 p (.tail _ (.tail _ (.tail _ hp)))).1) htk6
          have hK3' := hK3
          obtain ⟨xa', dxa', txa', tka', vs3, n3, e3, r1, r2, r3, hvs3⟩ := hK3'
          cases e3
          have I3 : InstAt _ xa (instTok dxa') 59 (some (dictTok w tka' txa')) := ⟨r1, rfl, rfl, r2⟩
          k_dflt (refine LCg.ListComp_U (F₀ := by k_asm) (by rfl) (by decide) (by rfl) (by decide) (by rfl) ?_)
          repeat' ((fail_if_success (with_reducible show wpAny _ _ (pyIter _) _ _ _)); (fail_if_success (with_reducible show wpAny _ _ (call (Value.ref 35) _) _ _ _)); (first | (k_unfold; (try dsimp only)) | (k_end; wrow_close) | walk1 | (dsimp only; walk1) | (leave1; walk_say "STEP leave1"; try dsimp only) | fail "no step"))
          refine split_spec w _ _ _ _ _ _ _ _ _ _ _ _ _ _ _ _ _ _ _ _ _ _ _ _ _ B0 (by k_asm) (by k_asm) N15 (by k_asm) rfl (by ktr_room) (by ktr_units) hK3 (by omega) ?_
          intro bl refs nn rest9 h9 tk9 A9 hP
          have F12 := A9.F
          have N16 := A9.N
          dsimp only
          clear F11 I3 hK3 r1 r2 r3
          repeat' ((fail_if_success (with_reducible show wpAny _ _ (pyIter _) _ _ _)); (fail_if_success (with_reducible show LCg.CompSrc _ _ _ _ _ _ _ _ _ _ _ _ _ _)); (first | (k_unfold; (try dsimp only)) | (k_end; wrow_close) | walk1 | (dsimp only; walk1) | (leave1; walk_say "STEP leave1"; try dsimp only) | fail "no step"))
          refine LCg.CompSrc.ledger rfl (by k_asm) N16 (.head _) (by rw [List.size_toArray, hP.1, sizeLine_eq]; omega) (fun gg => ?_)
          refine comp_rest (PreJ w rest9 _ (due xs)) PreJ.zero ?_ ?_
          · rintro i9 ys8 _ v I oI C oC D9 m9 h10 tk10 E' hi9 ⟨rfl, hTM⟩ hv hC hx F13 N17 off ne
            have hv' : refs[i9]? = some v := by simpa using hv
            obtain ⟨x9, dx9, tx9, tk9', vs9, n9', rfl, hvs9, hall⟩ := (hP.2 _ _ hv').all
            have hin := hall _ (KX.keeps (Fr.keep F13)) (fun p hp => (N17 p (.tail _ (.tail _ (.tail _ (.tail _ (List.mem_append_left _ hp)))))).1)
            have I9 : InstAt _ x9 (instTok dx9) 59 (some (dictTok w tk9' tx9)) := ⟨hin.1, rfl, rfl, hin.2.1⟩
            repeat' ((fail_if_success (with_reducible show wpAny _ _ (pyIter _) _ _ _)); (fail_if_success (with_reducible show LCg.CompEnd _ _ _ _ _ _ _ _ _ _ _ _ _ _)); (first | (k_unfold; (try dsimp only)) | (k_end; wrow_close) | walk1 | (dsimp only; walk1) | (leave1; walk_say "STEP leave1"; try dsimp only) | fail "no step"))
            exact LCg.CompEnd.intro (by k_asm) N17 _ (fun p hp => hp) off (.inr ⟨_, .head _, rfl, _, rfl⟩) (PreJ.more hTM (fun h X k => ⟨_, (hall h X k).2.2, rfl, _, rfl⟩) hvs9)
          · rintro ys8 _ ⟨rfl, hTM⟩
            rw [List.size_toArray, hP.1] at hTM
            unfold LCg.FinE
            intro D1 h10 tk10 F13 N17 o17
            dsimp only
            have N18 : News _ _ _ (_ :: _ :: _ :: (D1, LCg.lst ys8) :: (rest9 ++ (made2 ++ ((dr, tupOf dvs) :: (own ++ big))))) := fun p hp => N17 p (mem_pre hp)
            clear N16 A9 N17 o17 F12
            repeat' ((fail_if_success (with_reducible show wpAny _ _ (pyIter _) _ _ _)); (fail_if_success (with_reducible show wpAny _ _ (eval (Expr.ListComp _ _ _ _) _) _ _ _)); (first | (k_unfold; (try dsimp only)) | (k_end; wrow_close) | walk1 | (dsimp only; walk1) | (leave1; walk_say "STEP leave1"; try dsimp only) | fail "no step"))
            k_dflt (refine LCg.ListComp_U (F₀ := by k_asm) (by rfl) (by decide) (by rfl) (by decide) (by rfl) ?_)
            repeat' ((fail_if_success (with_reducible show wpAny _ _ (pyIter _) _ _ _)); (fail_if_success (with_reducible show wpAny _ _ (call (Value.builtin "len") _) _ _ _)); (first | (k_unfold; (try dsimp only)) | (k_end; wrow_close) | walk1 | (dsimp only; walk1) | (leave1; walk_say "STEP leave1"; try dsimp only) | fail "no step"))
            have hdm2 : (dr, tupOf dvs) ∈ rest9 ++ (made2 ++ ((dr, tupOf dvs) :: (own ++ big))) := List.mem_append_right _ hdm
            refine PyProof.Rows.len_tuple ⟨_, (N18 _ (.tail _ (.tail _ (.tail _ (.tail _ hdm2))))).1, rfl, _, rfl⟩ (by rw [List.size_toArray]; omega) ?_
            rw [show dvs.toArray.size = (due xs).length from by rw [List.size_toArray, hdvl]]
            dsimp only
            repeat' ((fail_if_success (with_reducible show wpAny _ _ (pyIter _) _ _ _)); (fail_if_success (with_reducible show LCg.CompSrc _ _ _ _ _ _ _ _ _ _ _ _ _ _)); (first | (k_unfold; (try dsimp only)) | (k_end; wrow_close) | walk1 | (dsimp only; walk1) | (leave1; walk_say "STEP leave1"; try dsimp only) | fail "no step"))
            rename IsRange _ _ _ _ _ _ _ _ => hr
            rename (News _ _ _ (_ :: _ :: _ :: _ :: _)) => N19
            refine LCg.CompSrc.range rfl (by k_asm) N19 hr (small_one (by omega) (by omega) (by omega) (by omega)) (n := (due xs).length + 1) (by rw [show ((due xs).length : Int) + 1 = (((due xs).length + 1 : Nat) : Int) by omega]; exact range_size _) (by rw [sizeLine_eq]; omega) (fun gg => ?_)
            refine comp_rest (DueJ w dr dvs _ (due xs)) DueJ.zero ?_ ?_
            · rintro i9 ys7 _ v I oI C oC D9 m9 h11 tk11 E' hi9 ⟨made3, rfl, hTM3⟩ ⟨t11, rfl⟩ hC hx F14 N20 off ne
              rw [Int.zero_add] at hx
              have N21 : News _ _ _ (_ :: _ :: _ :: _ :: _ :: _ :: _ :: (made3 ++ (rest9 ++ (made2 ++ ((dr, tupOf dvs) :: (own ++ big)))))) := fun p hp => N20 p (mem_turn hp)
              have Itd9 : IsTup _ dr dvs.toArray := ⟨_, (N21 _ (.tail _ (.tail _ (.tail _ (.tail _ (.tail _ (.tail _ (.tail _ (List.mem_append_right _ hdm2))))))))).1, rfl, _, rfl⟩
              clear N19 hr
              repeat' ((fail_if_success (with_reducible show wpAny _ _ (pyIter _) _ _ _)); (fail_if_success (with_reducible show wpAny _ _ (subscriptTail _ (Expr.Slice _ _ _ _) _ _) _ _ _)); (first | (k_unfold; (try dsimp only)) | (k_end; wrow_close) | walk1 | (dsimp only; walk1) | (leave1; walk_say "STEP leave1"; try dsimp only) | fail "no step"))
              k_dflt (refine slice_tuple_any (by k_asm) (by k_asm) Itd9 (fun r h12 made12 F15 N22 k12 fr12 hm12 It12 => ?_) (by with_unfolding_all rfl) (by rw [sizeLine_eq]; omega))
              have e12 := due_end N20 fr12 off
              exact LCg.CompEnd.intro (by k_asm) N22 _ (fun p hp => mem_turn2 hp) e12 trivial (DueJ.more hdv hTM3 hm12)
            · rintro ys7 _ ⟨made3, rfl, hTM3⟩
              unfold LCg.FinE
              intro D2 h11 tk11 F14 N20 o20
              dsimp only
              have X5 := KX.keeps (Fr.keep F14)
              refine tups_ne (News.isList N20 (.tail _ (List.mem_append_right _ (.tail _ (.tail _ (.tail _ (.head _))))))) (News.isList N20 (.head _)) (hTM.ts X5 (fun p hp => (N20 p (.tail _ (List.mem_append_right _ (.tail _ (.tail _ (.tail _ (.tail _ (List.mem_append_left _ hp)))))))).1)) (hTM3.ts X5 (fun p hp => (N20 p (.tail _ ((List.mem_append.mp hp).elim (fun h => List.mem_append_left _ h) (fun h => List.mem_append_right _ (.tail _ (.tail _ (.tail _ (.tail _ ((List.mem_singleton.mp h) ▸ hdm2)))))))) ).1)) (pres_ok gd.2.2.2 _) (pres_ok gd.2.2.2 _) (by ktr_units) ?_
              rw [show (!decide (pres (due xs) ((due xs).length + 1) = pres (due xs) ((due xs).length + 1))) = false from by simp]
              have N23 : News _ _ _ (_ :: _ :: _ :: (made2 ++ ((dr, tupOf dvs) :: (own ++ big)))) := fun p hp => N20 p (mem_back9 hp)
              clear N20 o20 hr N19
              have X6 := KX.keeps (Fr.keep F14)
              have hK6 := TokM.heap X6 (fun p hp => (N23 p (.tail _ (.tail _ (.tail _ hp)))).1) htk6
              have hK6' := hK6
              obtain ⟨xa6, dxa6, txa6, tka6, vs6, n6, e6, r1, r2, r3, hvs6⟩ := hK6'
              cases e6
              have I6 : InstAt _ xa (instTok dxa6) 59 (some (dictTok w tka6 txa6)) := ⟨r1, rfl, rfl, r2⟩
              repeat' ((fail_if_success (with_reducible show wpAny _ _ (pyIter _) _ _ _)); (fail_if_success (with_reducible show wpAny _ _ (call (Value.ref 56) _) _ _ _)); (first | (k_unfold; (try dsimp only)) | (k_end; wrow_close) | walk1 | (dsimp only; walk1) | (leave1; walk_say "STEP leave1"; try dsimp only) | fail "no step"))
              refine repr_spec w _ _ _ _ _ _ _ _ _ _ _ _ _ _ _ _ _ _ _ _ _ _ _ _ _ B0 (by k_asm) (by k_asm) N23 (by k_asm) rfl (by ktr_room) (by ktr_units) hK6 (by omega) gd.2.2.1 ?_
              intro h13 tr13 tk13 A13
              have F15 := A13.F
              have N24 : News _ _ _ (_ :: _ :: _ :: (made2 ++ ((dr, tupOf dvs) :: (own ++ big)))) := A13.N
              clear A13 F14 N23
              dsimp only [StrBack]
              (try refine ⟨rfl, ?_⟩)
              (try dsimp only)
              repeat' ((fail_if_success (with_reducible show wpAny _ _ (pyIter _) _ _ _)); (fail_if_success (with_reducible show wpAny _ _ (call (Value.ref 90) _) _ _ _)); (first | (k_unfold; (try dsimp only)) | (k_end; wrow_close) | walk1 | (dsimp only; walk1) | (leave1; walk_say "STEP leave1"; try dsimp only) | fail "no step"))
              refine stt_row w _ _ _ _ _ _ _ _ _ _ _ _ _ _ _ _ _ _ _ _ _ _ _ _ (sTok :: due xs) B0 (by k_asm) (by k_asm) N24 (by k_asm) rfl (by ktr_room) (by ktr_units) (by simp only [List.length_cons]; omega) htn ?_
              intro r14 made14 h14 tk14 A14 ht14
              rw [due_tok] at ht14
              have F16 := A14.F
              have N25 := A14.N
              obtain ⟨x9, dx9, tx9, tk9', vs9, n9', rfl, hvs9, hall⟩ := ht14.all
              have hin := hall _ (KX.keeps (Fr.keep F16)) (fun p hp => (N25 p (List.mem_append_left _ hp)).1)
              have I9 : InstAt _ x9 (instTok dx9) 59 (some (dictTok w tk9' tx9)) := ⟨hin.1, rfl, rfl, hin.2.1⟩
              have N26 : News _ _ _ (_ :: _ :: _ :: (made2 ++ ((dr, tupOf dvs) :: (own ++ big)))) := fun p hp => N25 p (List.mem_append_right _ hp)
              clear F15 N24 A14 N25
              dsimp only
              repeat' ((fail_if_success (with_reducible show wpAny _ _ (pyIter _) _ _ _)); (fail_if_success (with_reducible show wpAny _ _ (compareOp _ _ _) _ _ _)); (fail_if_success (with_reducible show wpAny _ _ (call (Value.ref 90) _) _ _ _)); (first | (k_unfold; (try dsimp only)) | (k_end; wrow_close) | walk1 | (dsimp only; walk1) | (leave1; walk_say "STEP leave1"; try dsimp only) | fail "no step"))
              refine tup_ne ⟨_, hin.2.2, rfl, _, rfl⟩ ⟨_, (N26 _ (.tail _ (.tail _ (.tail _ hdm)))).1, rfl, _, rfl⟩ hvs9 hdv gd.2.2.2 gd.2.2.2 (by ktr_units) ?_
              rw [show (!decide (due xs = List.foldl stepN [] xs)) = false from by simp]
              repeat' ((fail_if_success (with_reducible show wpAny _ _ (pyIter _) _ _ _)); (fail_if_success (with_reducible show wpAny _ _ (compareOp _ _ _) _ _ _)); (fail_if_success (with_reducible show wpAny _ _ (call (Value.ref 90) _) _ _ _)); (first | (k_unfold; (try dsimp only)) | (k_end; wrow_close) | walk1 | (dsimp only; walk1) | (leave1; walk_say "STEP leave1"; try dsimp only) | fail "no step"))
              have hK7 := TokM.heap (KX.keeps (Fr.keep F16)) (fun p hp => (N26 p (.tail _ (.tail _ (.tail _ hp)))).1) htk6
              refine stt_tok w _ _ _ _ _ _ _ _ _ _ _ _ _ _ _ _ _ _ _ _ _ _ _ _ (due xs) B0 (by k_asm) (by k_asm) N26 (by k_asm) rfl (by ktr_room) (by ktr_units) hK7 ?_
              intro h15 tk15 A15
              have F17 := A15.F
              have N27 : News _ _ _ (_ :: _ :: _ :: (made2 ++ ((dr, tupOf dvs) :: (own ++ big)))) := A15.N
              clear A15 F16 N26 I9 hin
              dsimp only
              repeat' ((fail_if_success (with_reducible show wpAny _ _ (pyIter _) _ _ _)); (fail_if_success (with_reducible show wpAny _ _ (exec (Stmt.For _ _ _ _ _) _) _ _ _)); (first | (k_unfold; (try dsimp only)) | (k_end; wrow_close) | walk1 | (dsimp only; walk1) | (leave1; walk_say "STEP leave1"; try dsimp only) | fail "no step"))
              clear r1 r2 r3 hvs6 hK6 hK7 hall ht14 hvs9 X5 X6
              (with_unfolding_all refine' For_invVF F17 ?k1 ?k2 ?_; (case k1 => exact rfl); (case k2 => exact rfl))
              repeat' ((fail_if_success (with_reducible show wpAny _ _ (pyIter _) _ _ _)); (fail_if_success (with_reducible show wpAny _ _ (call (Value.builtin "len") _) _ _ _)); (first | (k_unfold; (try dsimp only)) | (k_end; wrow_close) | walk1 | (dsimp only; walk1) | (leave1; walk_say "STEP leave1"; try dsimp only) | fail "no step"))
              obtain ⟨kD6, hDm6⟩ := hB6.d
              refine len_list (News.isList N27 (.tail _ (.tail _ (.tail _ hDm6)))) (by rw [hsz]; omega) ?_
              rw [hsz]
              dsimp only
              repeat' ((fail_if_success (with_reducible show wpAny _ _ (pyIter _) _ _ _)); (first | (k_unfold; (try dsimp only)) | (k_end; wrow_close) | walk1 | (dsimp only; walk1) | (leave1; walk_say "STEP leave1"; try dsimp only) | fail "no step"))
              rename IsRange _ _ _ _ _ _ _ _ => hr
              rename Fr _ _ _ _ => F18
              rename News _ _ _ _ => N28
              refine iter_rangeW (n := n + 3) (fun _ => ThereJ D Kd (.ref xa) i ti _) rfl hr (small_one (by omega) (by omega) (by omega) (by omega)) (range_size (n + 3)) F18 N28 ⟨⟨rfl, rfl, rfl, rfl⟩, rfl⟩ ?_ ?_
              · intro i3 t3 m₃ news₃ h16 tk16 own3 wr3 hi3 hJ hoff3 hnew3 hown3 _ F19 N29
                obtain ⟨hfb3, rfl⟩ := hJ
                rw [Int.zero_add] at F19
                have F20 := hfb3.fr1 F19
                have hown3' := law_own hB6 hown3 hoff3
                have hB7 := hB6.up hown3'
                have N30 : News _ _ _ (_ :: _ :: _ :: (own3 ++ (made2 ++ ((dr, tupOf dvs) :: (own ++ big))))) := fun p hp => N29 p (mem_law hp)
                have hdm3 : (dr, tupOf dvs) ∈ own3 ++ (made2 ++ ((dr, tupOf dvs) :: (own ++ big))) := List.mem_append_right _ hdm
                clear F19 N29 F18 N28 hr
                obtain ⟨rl3, lv3, k3, xs3, kd3, erl3, hm3, hS3, hx3, hg3, ek3, ht3⟩ := hB7.row (i := i3) (by omega)
                obtain ⟨kD7, hDm7⟩ := hB7.d
                repeat' ((fail_if_success (with_reducible show wpAny _ _ (pyIter _) _ _ _)); (fail_if_success (with_reducible show wpAny _ _ (subscriptTail _ _ _ _) _ _ _)); (first | (k_unfold; (try dsimp only)) | (k_end; wrow_close) | walk1 | (dsimp only; walk1) | (leave1; walk_say "STEP leave1"; try dsimp only) | fail "no step"))
                refine list_item (by exact News.isList N30 (.tail _ (.tail _ (.tail _ hDm7)))) (by omega) erl3 ?_
                repeat' ((fail_if_success (with_reducible show wpAny _ _ (pyIter _) _ _ _)); (fail_if_success (with_reducible show wpAny _ _ (call (Value.ref 115) _) _ _ _)); (first | (k_unfold; (try dsimp only)) | (k_end; wrow_close) | walk1 | (dsimp only; walk1) | (leave1; walk_say "STEP leave1"; try dsimp only) | fail "no step"))
                refine whole_spec w _ _ _ _ _ _ _ _ _ _ _ _ _ _ _ _ _ _ _ _ _ _ _ _ _ xs3 B0 (by k_asm) (by k_asm) N30 (by k_asm) rfl (by ktr_room) (by ktr_units) (by exact News.isList N30 (.tail _ (.tail _ (.tail _ hm3)))) hS3 hg3.1 hg3.2 ?_
                intro dr3 dvs3 h17 tk17 A17 hdv3
                have F21 := A17.F
                have N31 := A17.N
                clear A17 F20 N30
                dsimp only
                repeat' ((fail_if_success (with_reducible show wpAny _ _ (pyIter _) _ _ _)); (fail_if_success (with_reducible show wpAny _ _ (call (Value.builtin "len") _) _ _ _)); (first | (k_unfold; (try dsimp only)) | (k_end; wrow_close) | walk1 | (dsimp only; walk1) | (leave1; walk_say "STEP leave1"; try dsimp only) | fail "no step"))
                refine PyProof.Rows.len_tuple ⟨_, (N31 _ (.tail _ (.tail _ (.tail _ (.tail _ hdm3))))).1, rfl, _, rfl⟩ (by rw [List.size_toArray]; omega) ?_
                rw [show dvs.toArray.size = (due xs).length from by rw [List.size_toArray, hdvl]]
                dsimp only
                have It3 : IsTup _ dr3 dvs3.toArray := ⟨_, (N31 _ (.head _)).1, rfl, _, rfl⟩
                have hdn3 := due_names xs3 [] (fun _ h => nomatch h) hg3.2
                have gd3 := good_up hdn3
                have hdl3 := due_len hg3.1
                have hdvl3 : dvs3.length = (due xs3).length := hdv3.length
                repeat' ((fail_if_success (with_reducible show wpAny _ _ (pyIter _) _ _ _)); (fail_if_success (with_reducible show wpAny _ _ (subscriptTail _ (Expr.Slice _ _ _ _) _ _) _ _ _)); (first | (k_unfold; (try dsimp only)) | (k_end; wrow_close) | walk1 | (dsimp only; walk1) | (leave1; walk_say "STEP leave1"; try dsimp only) | fail "no step"))
                k_dflt (refine slice_tuple_any (by k_asm) (by k_asm) It3 (fun r18 h18 made18 F22 N32 k18 fr18 hm18 It18 => ?_) (by with_unfolding_all rfl) (by rw [sizeLine_eq]; omega))
                dsimp only
                repeat' ((fail_if_success (with_reducible show wpAny _ _ (pyIter _) _ _ _)); (fail_if_success (with_reducible show wpAny _ _ (compareOp _ _ _) _ _ _)); (first | (k_unfold; (try dsimp only)) | (k_end; wrow_close) | walk1 | (dsimp only; walk1) | (leave1; walk_say "STEP leave1"; try dsimp only) | fail "no step"))
                have N33 : News _ _ _ (_ :: _ :: _ :: (own3 ++ (made2 ++ ((dr, tupOf dvs) :: (own ++ big))))) := fun p hp => N32 p (List.mem_append_right _ (.tail _ hp))
                refine tup_eq It18 ⟨_, (N33 _ (.tail _ (.tail _ (.tail _ hdm3)))).1, rfl, _, rfl⟩ (hdv3.take _) hdv (fun x hx => gd3.2.2.2 x (List.mem_of_mem_take hx)) gd.2.2.2 (by ktr_units) ?_
                clear N32 N31 F21
                obtain ⟨bb, hbb⟩ : ∃ b, b = decide ((due xs3).take (due xs).length = due xs) := ⟨_, rfl⟩
                rw [show decide (List.take (due xs).length (List.foldl stepN [] xs3) = List.foldl stepN [] xs) = bb from hbb.symm]
                (try dsimp only)
                repeat' ((fail_if_success (with_reducible show wpAny _ _ (pyIter _) _ _ _)); (fail_if_success (with_reducible show wpAny _ _ (subscriptTail _ _ _ _) _ _ _)); (first | (k_unfold; (try dsimp only)) | (k_end; wrow_close) | walk1 | (dsimp only; walk1) | (leave1; walk_say "STEP leave1"; try dsimp only) | fail "no step"))
                rename Fr _ _ _ _ => F23
                rename News _ _ _ _ => N34
                have hka : TokM w (own3 ++ (made2 ++ ((dr, tupOf dvs) :: (own ++ big)))) (.ref xa) (due xs) := htk6.mono fun p hp => List.mem_append_right _ hp
                refine list_item (by exact News.isList N34 (.tail _ (.tail _ (.tail _ hB7.k)))) (by omega) ek3 ?_
                have X7 := KX.keeps (Fr.keep F23)
                have hKa := TokM.heap X7 (fun p hp => (N34 p (.tail _ (.tail _ (.tail _ hp)))).1) hka
                have hKb := TokM.heap X7 (fun p hp => (N34 p (.tail _ (.tail _ (.tail _ hp)))).1) ht3
                have hKa' := hKa
                have hKb' := hKb
                obtain ⟨xa7, dxa7, txa7, tka7, vs7, n7, e7, r1, r2, r3, hvs7⟩ := hKa'
                cases e7
                obtain ⟨xb7, dxb7, txb7, tkb7, vsb7, nb7, rfl, s1', s2', s3', hvsb7⟩ := hKb'
                have I7 : InstAt _ xa (instTok dxa7) 59 (some (dictTok w tka7 txa7)) := ⟨r1, rfl, rfl, r2⟩
                have I8 : InstAt _ xb7 (instTok dxb7) 59 (some (dictTok w tkb7 txb7)) := ⟨s1', rfl, rfl, s2'⟩
                clear r1 r2 r3 s1' s2' s3'
                repeat' ((fail_if_success (with_reducible show wpAny _ _ (pyIter _) _ _ _)); (fail_if_success (with_reducible show wpAny _ _ (call (Value.ref 42) _) _ _ _)); (first | (k_unfold; (try dsimp only)) | (k_end; wrow_close) | walk1 | (dsimp only; walk1) | (leave1; walk_say "STEP leave1"; try dsimp only) | fail "no step"))
                refine cont_spec w _ _ _ _ _ _ _ _ _ _ _ _ _ _ _ _ _ _ _ _ _ _ _ _ _ (due xs) (due xs3) B0 (by k_asm) (by k_asm) N34 (by k_asm) rfl (by ktr_room) (by ktr_units) hKa hKb (by omega) (by omega) gd.2.2.2 gd3.2.2.2 ?_
                intro h19 tk19 A19
                have F24 := A19.F
                have N35 : News _ _ _ (_ :: _ :: _ :: (own3 ++ (made2 ++ ((dr, tupOf dvs) :: (own ++ big))))) := A19.N
                clear A19 F23 N34 I7 I8 hKa hKb
                rw [← hbb]
                (try dsimp only)
                repeat' ((fail_if_success (with_reducible show wpAny _ _ (pyIter _) _ _ _)); (fail_if_success (with_reducible show wpAny _ _ (subscriptTail _ _ _ _) _ _ _)); (first | (k_unfold; (try dsimp only)) | (k_end; wrow_close) | walk1 | (dsimp only; walk1) | (leave1; walk_say "STEP leave1"; try dsimp only) | fail "no step"))
                · rename ((_ != _) = true) => hb
                  exact absurd hb (by simp)
                rename ((_ != _) = false) => hb
                clear hb
                refine list_item (by exact News.isList N35 (.tail _ (.tail _ (.tail _ hB7.k)))) (by omega) ek3 ?_
                have X8 := KX.keeps (Fr.keep F24)
                have hKa := TokM.heap X8 (fun p hp => (N35 p (.tail _ (.tail _ (.tail _ hp)))).1) hka
                have hKb := TokM.heap X8 (fun p hp => (N35 p (.tail _ (.tail _ (.tail _ hp)))).1) ht3
                repeat' ((fail_if_success (with_reducible show wpAny _ _ (pyIter _) _ _ _)); (fail_if_success (with_reducible show wpAny _ _ (call (Value.ref 83) _) _ _ _)); (first | (k_unfold; (try dsimp only)) | (k_end; wrow_close) | walk1 | (dsimp only; walk1) | (leave1; walk_say "STEP leave1"; try dsimp only) | fail "no step"))
                refine sub_spec w _ _ _ _ _ _ _ _ _ _ _ _ _ _ _ _ _ _ _ _ _ _ _ _ _ (due xs) (due xs3) B0 (by k_asm) (by k_asm) N35 (by k_asm) rfl (by ktr_room) (by ktr_units) hKa hKb (by omega) (by omega) gd.2.2.2 gd3.2.2.2 ?_
                intro h20 tk20 A20
                have F25 := A20.F
                have N36 : News _ _ _ (_ :: _ :: _ :: (own3 ++ (made2 ++ ((dr, tupOf dvs) :: (own ++ big))))) := A20.N
                clear A20 F24 N35 hKa hKb
                rw [← hbb]
                (try dsimp only)
                repeat' ((fail_if_success (with_reducible show wpAny _ _ (pyIter _) _ _ _)); (first | (k_unfold; (try dsimp only)) | (k_end; wrow_close) | walk1 | (dsimp only; walk1) | (leave1; walk_say "STEP leave1"; try dsimp only) | fail "no step"))
                · rename ((_ != _) = true) => hb
                  exact absurd hb (by simp)
                show TurnE _ _ _ _ _ _ _
                exact TurnE.intro (by k_asm) (fun p hp => N36 p (mem_front3 hp)) hoff3 ⟨⟨rfl, rfl, rfl, rfl⟩, rfl⟩
              · intro m₃ news₃ h16 tk16 hJ F19 N29
                obtain ⟨hfb3, rfl⟩ := hJ
                have F20 := hfb3.fr F19
                clear F19 F18 N28 hr
                (try dsimp only)
                repeat' ((fail_if_success (with_reducible show wpAny _ _ (pyIter _) _ _ _)); (fail_if_success (with_reducible show wpAny _ _ (exec (Stmt.Assign _ _ _) _) _ _ _)); (first | (k_unfold; (try dsimp only)) | (k_end; wrow_close) | walk1 | (dsimp only; walk1) | (leave1; walk_say "STEP leave1"; try dsimp only) | fail "no step"))
                repeat' ((fail_if_success (with_reducible show wpAny _ _ (pyIter _) _ _ _)); (fail_if_success (with_reducible show wpAny _ _ (subscriptTail _ _ _ _) _ _ _)); (first | (k_unfold; (try dsimp only)) | (k_end; wrow_close) | walk1 | (dsimp only; walk1) | (leave1; walk_say "STEP leave1"; try dsimp only) | fail "no step"))
                refine list_item (by exact News.isList N29 (.tail _ (.tail _ (.tail _ (List.mem_append_right _ (.tail _ hDm9)))))) (by omega) erl ?_
                repeat' ((fail_if_success (with_reducible show wpAny _ _ (pyIter _) _ _ _)); (fail_if_success (with_reducible show wpAny _ _ (call (Value.builtin "len") _) _ _ _)); (first | (k_unfold; (try dsimp only)) | (k_end; wrow_close) | walk1 | (dsimp only; walk1) | (leave1; walk_say "STEP leave1"; try dsimp only) | fail "no step"))
                have hmr6 : (rl, listOf lv.toArray k) ∈ made2 ++ ((dr, tupOf dvs) :: (own ++ big)) := List.mem_append_right _ (.tail _ hmr)
                have hSrl := hSr.length
                refine len_list (News.isList N29 (.tail _ (.tail _ (.tail _ hmr6)))) (by rw [List.size_toArray]; have := hgr.1; omega) ?_
                rw [show lv.toArray.size = xs.length from by rw [List.size_toArray, hSrl]]
                dsimp only
                repeat' ((fail_if_success (with_reducible show wpAny _ _ (pyIter _) _ _ _)); (fail_if_success (with_reducible show wpAny _ _ (call (Value.ref 97) _) _ _ _)); (first | (k_unfold; (try dsimp only)) | (k_end; wrow_close) | walk1 | (dsimp only; walk1) | (leave1; walk_say "STEP leave1"; try dsimp only) | fail "no step"))
                refine next_spec _ _ _ _ _ _ _ _ _ _ _ _ _ _ _ _ _ _ _ _ _ _ _ _ st nb at2 _ _ _ _ _ _ B0 (by k_asm) (by k_asm) N29 (by k_asm) rfl (by ktr_room) (by ktr_units) (hne_law hs1 hs2 hB6.off) (by exact News.isList N29 (.tail _ (.tail _ (.tail _ hB6.b)))) hnb hi2 (by omega) (by omega) hnb2 (by omega) (by omega) (by omega) (by have := hgr.1; omega) ?_
                intro sp t17 tsp h17 tk17 splo sphi F21 N30 k17
                clear k17 F20 N29
                obtain ⟨sn, rfl⟩ := Int.eq_ofNat_of_zero_le splo
                dsimp only
                repeat' ((fail_if_success (with_reducible show wpAny _ _ (pyIter _) _ _ _)); (fail_if_success (with_reducible show wpAny _ _ (exec (Stmt.For _ _ _ _ _) _) _ _ _)); (first | (k_unfold; (try dsimp only)) | (k_end; wrow_close) | walk1 | (dsimp only; walk1) | (leave1; walk_say "STEP leave1"; try dsimp only) | fail "no step"))
                rename Fr _ _ _ _ => F22
                rename News _ _ _ _ => N31
                (with_unfolding_all refine' For_invVF F22 ?k1 ?k2 ?_; (case k1 => exact rfl); (case k2 => exact rfl))
                repeat' ((fail_if_success (with_reducible show wpAny _ _ (pyIter _) _ _ _)); (first | (k_unfold; (try dsimp only)) | (k_end; wrow_close) | walk1 | (dsimp only; walk1) | (leave1; walk_say "STEP leave1"; try dsimp only) | fail "no step"))
                rename (_ ∧ _ ∧ _ ∧ AllLt _ _) => hl1
                rename Fr _ _ _ _ => F23
                rename News _ _ _ _ => N32
                have hSb := fun a b c d e => (SA.cons (t := a) (SA.cons (t := b) (SA.cons (t := c) (SA.cons (t := d) (SA.one (t := e))))) : SA [.str (Str.ofString "") a, .str (Str.ofString "x") b, .str (Str.ofString "9") c, .str (Str.ofString "name") d, .str (Str.ofString "_Text") e] bads)
                refine iter_listW (fun _ => BadJ D Kd (.ref xa) i ti sn tsp _) rfl F23 (fun p hp => N32 p (.tail _ hp)) (News.isList N32 (.head _)) ⟨⟨rfl, rfl, rfl, rfl⟩, rfl, rfl⟩ ?_ ?_
                · intro i4 v m₄ news₄ h18 tk18 own4 wr4 hv hJ hoff4 hnew4 hown4 _ F24 N33
                  obtain ⟨hfb4, hms, rfl⟩ := hJ
                  obtain ⟨y, ty, hy, rfl⟩ := (hSb _ _ _ _ _).get hv
                  have bf := bad_facts y (List.mem_of_getElem? hy)
                  have F25 := fr_under (hfb4.fr1 F24) (y := Str.ofString "spot") ((congrFun hfb4.eq _).trans hms)
                  have hown4' := law_own2 (Nat.ne_of_lt hl1.1) (Nat.ne_of_lt hl1.2.1) (Nat.ne_of_lt hl1.2.2.1) hown4 hoff4
                  have hB7 := hB6.up hown4'
                  obtain ⟨kD7, hDm7⟩ := hB7.d
                  have hmr7 : (rl, listOf lv.toArray k) ∈ own4 ++ (made2 ++ ((dr, tupOf dvs) :: (own ++ big))) := List.mem_append_right _ hmr6
                  have N34 : News _ _ _ (_ :: _ :: _ :: (own4 ++ (made2 ++ ((dr, tupOf dvs) :: (own ++ big))))) := fun p hp => N33 p (mem_law hp)
                  have hgr1 := hgr.1
                  have gx := good_up hgr.2
                  clear F24 N33 F23 N32 hl1
                  by_cases hy0 : y = Str.ofString ""
                  · subst hy0
                    repeat' ((fail_if_success (with_reducible show wpAny _ _ (pyIter _) _ _ _)); (fail_if_success (with_reducible show wpAny _ _ (subscriptTail _ _ _ _) _ _ _)); (first | (k_unfold; (try dsimp only)) | (k_end; wrow_close) | walk1 | (dsimp only; walk1) | (leave1; walk_say "STEP leave1"; try dsimp only) | fail "no step"))
                    refine list_item (by exact News.isList N34 (.tail _ (.tail _ (.tail _ hDm7)))) (by omega) erl ?_
                    repeat' ((fail_if_success (with_reducible show wpAny _ _ (pyIter _) _ _ _)); (fail_if_success (with_reducible show wpAny _ _ (compareOp _ _ _) _ _ _)); (first | (k_unfold; (try dsimp only)) | (k_end; wrow_close) | walk1 | (dsimp only; walk1) | (leave1; walk_say "STEP leave1"; try dsimp only) | fail "no step"))
                    rename News _ _ _ _ => N35
                    rename Fr _ _ _ _ => F26
                    by_cases hx0 : xs = []
                    · refine lst_ne (ws := []) (News.isList N35 (.tail _ (.tail _ (.tail _ (.tail _ hmr7))))) (News.isList N35 (.head _)) hSr .nil gx.2.2.2 (fun _ h => nomatch h) (by ktr_units) ?_
                      rw [show (!decide (xs = [])) = false from by rw [hx0]; rfl]
                      (try dsimp only)
                      repeat' ((fail_if_success (with_reducible show wpAny _ _ (pyIter _) _ _ _)); (first | (k_unfold; (try dsimp only)) | (k_end; wrow_close) | walk1 | (dsimp only; walk1) | (leave1; walk_say "STEP leave1"; try dsimp only) | fail "no step"))
                      show TurnE _ _ _ _ _ _ _
                      exact TurnE.intro (by k_asm) (fun p hp => N35 p (.tail _ (mem_front3 hp))) hoff4 ⟨⟨rfl, rfl, rfl, rfl⟩, rfl, rfl⟩
                    refine lst_ne (ws := []) (News.isList N35 (.tail _ (.tail _ (.tail _ (.tail _ hmr7))))) (News.isList N35 (.head _)) hSr .nil gx.2.2.2 (fun _ h => nomatch h) (by ktr_units) ?_
                    rw [show (!decide (xs = [])) = true from by rw [decide_eq_false hx0]; rfl]
                    (try dsimp only)
                    have N36 : News _ _ _ (_ :: _ :: _ :: (own4 ++ (made2 ++ ((dr, tupOf dvs) :: (own ++ big))))) := fun p hp => N35 p (.tail _ hp)
                    have hne : xs ≠ [] ∨ (Str.ofString "").length ≠ 0 := .inl hx0
                    clear N35
                    repeat' ((fail_if_success (with_reducible show wpAny _ _ (pyIter _) _ _ _)); (fail_if_success (with_reducible show wpAny _ _ (subscriptTail _ _ _ _) _ _ _)); (first | (k_unfold; (try dsimp only)) | (k_end; wrow_close) | walk1 | (dsimp only; walk1) | (leave1; walk_say "STEP leave1"; try dsimp only) | fail "no step"))
                    refine list_item (by exact News.isList N36 (.tail _ (.tail _ (.tail _ hDm7)))) (by omega) erl ?_
                    repeat' ((fail_if_success (with_reducible show wpAny _ _ (pyIter _) _ _ _)); (fail_if_success (with_reducible show wpAny _ _ (subscriptTail _ (Expr.Slice _ _ _ _) _ _) _ _ _)); (first | (k_unfold; (try dsimp only)) | (k_end; wrow_close) | walk1 | (dsimp only; walk1) | (leave1; walk_say "STEP leave1"; try dsimp only) | fail "no step"))
                    k_dflt (refine list_upto (k := sn) (by k_asm) (by k_asm) (News.isList N36 (.tail _ (.tail _ (.tail _ hmr7)))) ?_ (by with_unfolding_all rfl) (by omega))
                    intro E1 h19 F27 N37 hlt37
                    clear N36
                    dsimp only
                    repeat' ((fail_if_success (with_reducible show wpAny _ _ (pyIter _) _ _ _)); (fail_if_success (with_reducible show wpAny _ _ (binaryOp _ _ _) _ _ _)); (first | (k_unfold; (try dsimp only)) | (k_end; wrow_close) | walk1 | (dsimp only; walk1) | (leave1; walk_say "STEP leave1"; try dsimp only) | fail "no step"))
                    rename (News _ _ _ (_ :: _ :: _)) => N38
                    k_dflt (refine add_listsG (by k_asm) N38 (News.isList N38 (by k_mem)) (News.isList N38 (by k_mem)) (by simp only [List.length_cons, List.length_nil, List.length_take]; omega) (fun E2 h20 F28 N39 hlt39 hlt40 => ?_))
                    dsimp only
                    repeat' ((fail_if_success (with_reducible show wpAny _ _ (pyIter _) _ _ _)); (fail_if_success (with_reducible show wpAny _ _ (subscriptTail _ _ _ _) _ _ _)); (first | (k_unfold; (try dsimp only)) | (k_end; wrow_close) | walk1 | (dsimp only; walk1) | (leave1; walk_say "STEP leave1"; try dsimp only) | fail "no step"))
                    refine list_item (by exact News.isList N39 (.tail _ (.tail _ (.tail _ (.tail _ (.tail _ (.tail _ hDm7))))))) (by omega) erl ?_
                    repeat' ((fail_if_success (with_reducible show wpAny _ _ (pyIter _) _ _ _)); (fail_if_success (with_reducible show wpAny _ _ (subscriptTail _ (Expr.Slice _ _ _ _) _ _) _ _ _)); (first | (k_unfold; (try dsimp only)) | (k_end; wrow_close) | walk1 | (dsimp only; walk1) | (leave1; walk_say "STEP leave1"; try dsimp only) | fail "no step"))
                    k_dflt (refine list_from (k := sn) (by k_asm) (by k_asm) (News.isList N39 (.tail _ (.tail _ (.tail _ (.tail _ (.tail _ (.tail _ hmr7))))))) ?_ (by with_unfolding_all rfl) (by omega))
                    intro E3 h21 F29 N41 hlt41
                    clear N39 hlt37 hlt39 hlt40
                    dsimp only
                    repeat' ((fail_if_success (with_reducible show wpAny _ _ (pyIter _) _ _ _)); (fail_if_success (with_reducible show wpAny _ _ (binaryOp _ _ _) _ _ _)); (first | (k_unfold; (try dsimp only)) | (k_end; wrow_close) | walk1 | (dsimp only; walk1) | (leave1; walk_say "STEP leave1"; try dsimp only) | fail "no step"))
                    k_dflt (refine add_listsG (by k_asm) N41 (News.isList N41 (.tail _ (.head _))) (News.isList N41 (.head _)) (by simp only [List.length_append, List.length_cons, List.length_nil, List.length_take, List.length_drop]; omega) (fun E4 h22 F30 N42 hlt42 hlt43 => ?_))
                    clear N41 hlt41
                    dsimp only
                    repeat' ((fail_if_success (with_reducible show wpAny _ _ (pyIter _) _ _ _)); (fail_if_success (with_reducible show wpAny _ _ (call (Value.builtin "str.join") _) _ _ _)); (first | (k_unfold; (try dsimp only)) | (k_end; wrow_close) | walk1 | (dsimp only; walk1) | (leave1; walk_say "STEP leave1"; try dsimp only) | fail "no step"))
                    have hSt := fun t => (((hSr.take sn).append (SA.one (x := Str.ofString "") (t := t))).append (hSr.drop sn))
                    refine join_listW (News.isList N42 (.head _)) (hSt _).are dot_len (join_weight (bad_len gx.2.2.1 bf.1) (by simp only [List.length_append, List.length_cons, List.length_nil, List.length_take, List.length_drop]; omega)) (fun t23 k23 => ?_)
                    have N43 : News _ _ _ (_ :: _ :: _ :: (own4 ++ (made2 ++ ((dr, tupOf dvs) :: (own ++ big))))) := fun p hp => N42 p (.tail _ (.tail _ (.tail _ (.tail _ (.tail _ hp)))))
                    clear N42 hlt42 hlt43 hSt
                    dsimp only
                    repeat' ((fail_if_success (with_reducible show wpAny _ _ (pyIter _) _ _ _)); (fail_if_success (with_reducible show wpAny _ _ (call (Value.ref 122) _) _ _ _)); (first | (k_unfold; (try dsimp only)) | (k_end; wrow_close) | walk1 | (dsimp only; walk1) | (leave1; walk_say "STEP leave1"; try dsimp only) | fail "no step"))
                    refine leads_bad w _ _ _ _ _ _ _ _ _ _ _ _ _ _ _ _ _ _ _ _ _ _ _ _ (xs.take sn) _ (xs.drop sn) B0 (by k_asm) (by k_asm) N43 (by k_asm) rfl (by k_asm) (by k_asm) (by ktr_room) (by ktr_units) (by rw [bad_list]) (by rw [bad_list]; exact join_bad hne) (by rw [bad_list]; exact bad_text gx.2.2.1 bf.1 hgr1) (by rw [List.length_take]; omega) (fun z hz => gx.1 z (List.mem_of_mem_take hz)) (bad_dot gx.2.1 bf.2.2.1) bf.1 bf.2.1 ?_
                    intro h24 tk24 F31 N44 k24
                    clear k24 N43
                    dsimp only
                    repeat' ((fail_if_success (with_reducible show wpAny _ _ (pyIter _) _ _ _)); (first | (k_unfold; (try dsimp only)) | (k_end; wrow_close) | walk1 | (dsimp only; walk1) | (leave1; walk_say "STEP leave1"; try dsimp only) | fail "no step"))
                    show TurnE _ _ _ _ _ _ _
                    exact TurnE.intro (by k_asm) (fun p hp => N44 p (mem_front3 hp)) hoff4 ⟨⟨rfl, rfl, rfl, rfl⟩, rfl, rfl⟩
                  · have hne : xs ≠ [] ∨ y.length ≠ 0 := .inr fun h => hy0 (bf.2.2.2 h)
                    repeat' ((fail_if_success (with_reducible show wpAny _ _ (pyIter _) _ _ _)); (fail_if_success (with_reducible show wpAny _ _ (subscriptTail _ _ _ _) _ _ _)); (first | (k_unfold; (try dsimp only)) | (k_end; wrow_close) | walk1 | (dsimp only; walk1) | (leave1; walk_say "STEP leave1"; try dsimp only) | fail "no step"))
                    all_goals (first | (rename ((_ != _) = false) => hb; exact absurd hb (by simp [hy0])) | skip)
                    rename ((_ != _) = true) => hb
                    clear hb
                    rename News _ _ _ _ => N36
                    refine list_item (by exact News.isList N36 (.tail _ (.tail _ (.tail _ hDm7)))) (by omega) erl ?_
                    repeat' ((fail_if_success (with_reducible show wpAny _ _ (pyIter _) _ _ _)); (fail_if_success (with_reducible show wpAny _ _ (subscriptTail _ (Expr.Slice _ _ _ _) _ _) _ _ _)); (first | (k_unfold; (try dsimp only)) | (k_end; wrow_close) | walk1 | (dsimp only; walk1) | (leave1; walk_say "STEP leave1"; try dsimp only) | fail "no step"))
                    k_dflt (refine list_upto (k := sn) (by k_asm) (by k_asm) (News.isList N36 (.tail _ (.tail _ (.tail _ hmr7)))) ?_ (by with_unfolding_all rfl) (by omega))
                    intro E1 h19 F27 N37 hlt37
                    clear N36
                    dsimp only
                    repeat' ((fail_if_success (with_reducible show wpAny _ _ (pyIter _) _ _ _)); (fail_if_success (with_reducible show wpAny _ _ (binaryOp _ _ _) _ _ _)); (first | (k_unfold; (try dsimp only)) | (k_end; wrow_close) | walk1 | (dsimp only; walk1) | (leave1; walk_say "STEP leave1"; try dsimp only) | fail "no step"))
                    rename (News _ _ _ (_ :: _ :: _)) => N38
                    k_dflt (refine add_listsG (by k_asm) N38 (News.isList N38 (by k_mem)) (News.isList N38 (by k_mem)) (by simp only [List.length_cons, List.length_nil, List.length_take]; omega) (fun E2 h20 F28 N39 hlt39 hlt40 => ?_))
                    dsimp only
                    repeat' ((fail_if_success (with_reducible show wpAny _ _ (pyIter _) _ _ _)); (fail_if_success (with_reducible show wpAny _ _ (subscriptTail _ _ _ _) _ _ _)); (first | (k_unfold; (try dsimp only)) | (k_end; wrow_close) | walk1 | (dsimp only; walk1) | (leave1; walk_say "STEP leave1"; try dsimp only) | fail "no step"))
                    refine list_item (by exact News.isList N39 (.tail _ (.tail _ (.tail _ (.tail _ (.tail _ (.tail _ hDm7))))))) (by omega) erl ?_
                    repeat' ((fail_if_success (with_reducible show wpAny _ _ (pyIter _) _ _ _)); (fail_if_success (with_reducible show wpAny _ _ (subscriptTail _ (Expr.Slice _ _ _ _) _ _) _ _ _)); (first | (k_unfold; (try dsimp only)) | (k_end; wrow_close) | walk1 | (dsimp only; walk1) | (leave1; walk_say "STEP leave1"; try dsimp only) | fail "no step"))
                    k_dflt (refine list_from (k := sn) (by k_asm) (by k_asm) (News.isList N39 (.tail _ (.tail _ (.tail _ (.tail _ (.tail _ (.tail _ hmr7))))))) ?_ (by with_unfolding_all rfl) (by omega))
                    intro E3 h21 F29 N41 hlt41
                    clear N39 hlt37 hlt39 hlt40
                    dsimp only
                    repeat' ((fail_if_success (with_reducible show wpAny _ _ (pyIter _) _ _ _)); (fail_if_success (with_reducible show wpAny _ _ (binaryOp _ _ _) _ _ _)); (first | (k_unfold; (try dsimp only)) | (k_end; wrow_close) | walk1 | (dsimp only; walk1) | (leave1; walk_say "STEP leave1"; try dsimp only) | fail "no step"))
                    k_dflt (refine add_listsG (by k_asm) N41 (News.isList N41 (.tail _ (.head _))) (News.isList N41 (.head _)) (by simp only [List.length_append, List.length_cons, List.length_nil, List.length_take, List.length_drop]; omega) (fun E4 h22 F30 N42 hlt42 hlt43 => ?_))
                    clear N41 hlt41
                    dsimp only
                    repeat' ((fail_if_success (with_reducible show wpAny _ _ (pyIter _) _ _ _)); (fail_if_success (with_reducible show wpAny _ _ (call (Value.builtin "str.join") _) _ _ _)); (first | (k_unfold; (try dsimp only)) | (k_end; wrow_close) | walk1 | (dsimp only; walk1) | (leave1; walk_say "STEP leave1"; try dsimp only) | fail "no step"))
                    have hSt := fun t => (((hSr.take sn).append (SA.one (x := y) (t := t))).append (hSr.drop sn))
                    refine join_listW (News.isList N42 (.head _)) (hSt _).are dot_len (join_weight (bad_len gx.2.2.1 bf.1) (by simp only [List.length_append, List.length_cons, List.length_nil, List.length_take, List.length_drop]; omega)) (fun t23 k23 => ?_)
                    have N43 : News _ _ _ (_ :: _ :: _ :: (own4 ++ (made2 ++ ((dr, tupOf dvs) :: (own ++ big))))) := fun p hp => N42 p (.tail _ (.tail _ (.tail _ (.tail _ (.tail _ hp)))))
                    clear N42 hlt42 hlt43 hSt
                    dsimp only
                    repeat' ((fail_if_success (with_reducible show wpAny _ _ (pyIter _) _ _ _)); (fail_if_success (with_reducible show wpAny _ _ (call (Value.ref 122) _) _ _ _)); (first | (k_unfold; (try dsimp only)) | (k_end; wrow_close) | walk1 | (dsimp only; walk1) | (leave1; walk_say "STEP leave1"; try dsimp only) | fail "no step"))
                    refine leads_bad w _ _ _ _ _ _ _ _ _ _ _ _ _ _ _ _ _ _ _ _ _ _ _ _ (xs.take sn) _ (xs.drop sn) B0 (by k_asm) (by k_asm) N43 (by k_asm) rfl (by k_asm) (by k_asm) (by ktr_room) (by ktr_units) (by rw [bad_list]) (by rw [bad_list]; exact join_bad hne) (by rw [bad_list]; exact bad_text gx.2.2.1 bf.1 hgr1) (by rw [List.length_take]; omega) (fun z hz => gx.1 z (List.mem_of_mem_take hz)) (bad_dot gx.2.1 bf.2.2.1) bf.1 bf.2.1 ?_
                    intro h24 tk24 F31 N44 k24
                    clear k24 N43
                    dsimp only
                    repeat' ((fail_if_success (with_reducible show wpAny _ _ (pyIter _) _ _ _)); (first | (k_unfold; (try dsimp only)) | (k_end; wrow_close) | walk1 | (dsimp only; walk1) | (leave1; walk_say "STEP leave1"; try dsimp only) | fail "no step"))
                    show TurnE _ _ _ _ _ _ _
                    exact TurnE.intro (by k_asm) (fun p hp => N44 p (mem_front3 hp)) hoff4 ⟨⟨rfl, rfl, rfl, rfl⟩, rfl, rfl⟩
                · intro m₄ news₄ h18 tk18 hJ F24 N33
                  obtain ⟨hfb4, hms, rfl⟩ := hJ
                  have F25 := hfb4.fr F24
                  clear F24 F23 N32
                  (try dsimp only)
                  repeat' ((fail_if_success (with_reducible show wpAny _ _ (pyIter _) _ _ _)); (first | (k_unfold; (try dsimp only)) | (k_end; wrow_close) | walk1 | (dsimp only; walk1) | (leave1; walk_say "STEP leave1"; try dsimp only) | fail "no step"))
                  show TurnE _ _ _ _ _ _ _
                  exact TurnE.intro (by k_asm) (fun p hp => N33 p (mem_end hp)) (off_end hoff9) ⟨rfl, rfl, _, _, _, _, by omega, by omega, rfl, d3⟩
      · intro m₁ news₁ h2 tk2 hJ F2 N2
        obtain ⟨hm1, hm2, at2, t2', o2, x2', ha1', ha2', rfl, e2'⟩ := hJ
        have F3 := fr_name (fr_name F2 hm2) (y := sRows) ((if_neg (by decide)).trans hm1)
        clear F2 F9 N10 hr
        rename Frag.In _ _ => KX
        repeat' ((fail_if_success (with_reducible show wpAny _ _ (pyIter _) _ _ _)); (fail_if_success (with_reducible show wpAny _ _ (call (Value.ref 90) _) _ _ _)); (first | (k_unfold; (try dsimp only)) | (k_end; wrow_close) | walk1 | (dsimp only; walk1) | (leave1; walk_say "STEP leave1"; try dsimp only) | fail "no step"))
        refine stt_empty w _ _ _ _ _ _ _ _ _ _ _ _ _ _ _ _ _ _ _ _ _ _ _ _ B0 (by k_asm) (by k_asm) N2 (by k_asm) rfl (by ktr_room) (by ktr_units) ?_
        intro h8 tk8 A8
        have F4 := A8.F
        have N4 : News _ _ _ (_ :: _ :: _ :: big) := A8.N
        clear A8 F3 N2
        dsimp only
        repeat' ((fail_if_success (with_reducible show wpAny _ _ (pyIter _) _ _ _)); (fail_if_success (with_reducible show wpAny _ _ (call (Value.ref 42) _) _ _ _)); (fail_if_success (with_reducible show wpAny _ _ (subscriptTail _ _ _ _) _ _ _)); (fail_if_success (with_reducible show wpAny _ _ (compareOp _ _ _) _ _ _)); (first | (k_unfold; (try dsimp only)) | (k_end; wrow_close) | walk1 | (dsimp only; walk1) | (leave1; walk_say "STEP leave1"; try dsimp only) | fail "no step"))
        rename Fr _ _ _ _ => F5
        rename News _ _ _ _ => N5
        have X5 := KX.keeps (Fr.keep F5)
        refine tup_eq (vs := []) (ws := []) (xs := []) (ys := []) ⟨_, X5 66 _ rfl, rfl, _, rfl⟩ ⟨_, (N5 _ (.head _)).1, rfl, _, rfl⟩ .nil .nil (fun _ h => nomatch h) (fun _ h => nomatch h) (by ktr_units) ?_
        rw [show decide (([] : List Str) = []) = true from rfl]
        (try dsimp only)
        have N6 : News _ _ _ (_ :: _ :: _ :: big) := fun p hp => N5 p (.tail _ hp)
        clear N5 X5
        repeat' ((fail_if_success (with_reducible show wpAny _ _ (pyIter _) _ _ _)); (fail_if_success (with_reducible show wpAny _ _ (call (Value.ref 42) _) _ _ _)); (fail_if_success (with_reducible show wpAny _ _ (subscriptTail _ _ _ _) _ _ _)); (fail_if_success (with_reducible show wpAny _ _ (compareOp _ _ _) _ _ _)); (first | (k_unfold; (try dsimp only)) | (k_end; wrow_close) | walk1 | (dsimp only; walk1) | (leave1; walk_say "STEP leave1"; try dsimp only) | fail "no step"))
        rename Fr _ _ _ _ => F7
        rename News _ _ _ _ => N7
        have X7 := KX.keeps (Fr.keep F7)
        refine tup_eq (vs := []) (ws := []) (xs := []) (ys := []) ⟨_, X7 66 _ rfl, rfl, _, rfl⟩ ⟨_, (N7 _ (.head _)).1, rfl, _, rfl⟩ .nil .nil (fun _ h => nomatch h) (fun _ h => nomatch h) (by ktr_units) ?_
        rw [show decide (([] : List Str) = []) = true from rfl]
        (try dsimp only)
        have N8 : News _ _ _ (_ :: _ :: _ :: big) := fun p hp => N7 p (.tail _ hp)
        clear N7 X7
        repeat' ((fail_if_success (with_reducible show wpAny _ _ (pyIter _) _ _ _)); (fail_if_success (with_reducible show wpAny _ _ (call (Value.ref 42) _) _ _ _)); (fail_if_success (with_reducible show wpAny _ _ (subscriptTail _ _ _ _) _ _ _)); (first | (k_unfold; (try dsimp only)) | (k_end; wrow_close) | walk1 | (dsimp only; walk1) | (leave1; walk_say "STEP leave1"; try dsimp only) | fail "no step"))
        obtain ⟨rl, lv, k, xs, kd, erl, hmr, hSr, hxr, hgr, ekd, htk⟩ := hB.row (i := 0) (by omega)
        refine list_item (i := 0) (by exact News.isList N8 (.tail _ (.tail _ (.tail _ hB.k)))) (by omega) ekd ?_
        have X9 := KX.keeps (Fr.keep F7)
        have hKa : TokH w _ (.ref 65) [] := TokM.heap X9 (l := big) (fun p hp => (N8 p (.tail _ (.tail _ (.tail _ hp)))).1) (.inl ⟨rfl, rfl⟩)
        have hKb := TokM.heap X9 (fun p hp => (N8 p (.tail _ (.tail _ (.tail _ hp)))).1) htk
        have hKb' := hKb
        obtain ⟨xb7, dxb7, txb7, tkb7, vsb7, nb7, rfl, s1', s2', s3', hvsb7⟩ := hKb'
        have I8 : InstAt _ xb7 (instTok dxb7) 59 (some (dictTok w tkb7 txb7)) := ⟨s1', rfl, rfl, s2'⟩
        have gd3 := good_up (due_names xs [] (fun _ h => nomatch h) hgr.2)
        have hdl3 := due_len hgr.1
        repeat' ((fail_if_success (with_reducible show wpAny _ _ (pyIter _) _ _ _)); (fail_if_success (with_reducible show wpAny _ _ (call (Value.ref 42) _) _ _ _)); (first | (k_unfold; (try dsimp only)) | (k_end; wrow_close) | walk1 | (dsimp only; walk1) | (leave1; walk_say "STEP leave1"; try dsimp only) | fail "no step"))
        refine cont_spec w _ _ _ _ _ _ _ _ _ _ _ _ _ _ _ _ _ _ _ _ _ _ _ _ _ [] (due xs) B0 (by k_asm) (by k_asm) N8 (by k_asm) rfl (by ktr_room) (by ktr_units) hKa hKb (by decide) (by omega) (fun _ h => nomatch h) gd3.2.2.2 ?_
        intro h19 tk19 A19
        have F24 := A19.F
        have N35 := A19.N
        rw [show decide (List.take ([] : List Str).length (due xs) = []) = true from by simp]
        (try dsimp only)
        repeat' ((fail_if_success (with_reducible show wpAny _ _ (pyIter _) _ _ _)); (first | (k_unfold; (try dsimp only)) | (k_end; wrow_close) | walk1 | (dsimp only; walk1) | (leave1; walk_say "STEP leave1"; try dsimp only) | fail "no step"))))
end Mine
theorem PySem.Challenge.cw_ev0002_01_holds : PySem.Challenge.rw_ev0002_01.Holds := by
  exact Mine.lawH
