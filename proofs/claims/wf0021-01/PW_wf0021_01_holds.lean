import PyProof.Rows.All
import Wide.All
import OpenK.AllK
import Wide.FinOn
import KE.KxIndex
import KE.KxTruthy
import KE.KPairTest
import PySem.Challenge.RW_wf0021_01
open PySem PySem.W PyProof.Rows
set_option Elab.async false
set_option maxRecDepth 100000
set_option maxHeartbeats 20000000
namespace Mine
open_top hd for PySem.Challenge.rw_wf0021_01
open PySem PySem.W PyProof.Rows PySem.Calls
abbrev PR : Program := PySem.Challenge.rw_wf0021_01.row.prog
theorem bb {P : Prop} (h : ∀ G : Prop, (P → G) → G) : P := h P id
theorem While_invK {prog : Program} {w : World} {A : Around} {E : Value → Shared → Prop} {Q : Flow → Shared → Prop} {s : Shared} {env : Env} {h₀ : Heap} {L : Addr} {test : Expr} {body : List Stmt} {pos : Pos} {m : Str → Option Value} {news : List (Addr × Obj)} (J : Nat → (Str → Option Value) → List (Addr × Obj) → Prop) {n₀ : Nat}
    (F : Fr h₀ L s.heap m) (N : News h₀ L s.heap news) (hJ : J n₀ m news)
    (turn : ∀ (K : Nat → (Str → Option Value) → List (Addr × Obj) → Prop), (∀ n m nx, J n m nx → K n m nx) → ∀ n m₁ news₁ h₁ tk₁, Fr h₀ L h₁ m₁ → News h₀ L h₁ news₁ → J n m₁ news₁ →
      wpAny (model prog w) A (isTrue test env (eval test env)) (fun b s₂ =>
        if b = true then wpAny (model prog w) A (execs body env) (WhileStep h₀ L s K n) E s₂ else Q .next s₂) E { s with heap := h₁, toks := tk₁ })
    (hE : PassesOwn (model prog w) A env E := by passes_own) :
    wpAny (model prog w) A (exec (.While test body [] pos) env) Q E s := While_inv J F N hJ (turn J fun _ _ _ h => h) hE
abbrev TP (mean : ExcName → Option Value) (mg mb : Str → Option Value) (h : Heap) : Prop := Top Mine.hd.view_39 (looseW Mine.hd.view_39 []) mean mg mb h

theorem enter {w : World} {A : Around} {s : Shared} {E : Value → Shared → Prop} {Q : Value → Shared → Prop} {mean : ExcName → Option Value} {mg mb : Str → Option Value}
    {name qual : Str} {params : Arguments} {body : List Stmt} {scope : Scope} {dV kV doc pm cdv ct oc : Value} {an od : Option Addr} {osl : Array (Option Value)} {f : Addr} {args : List Value} {binds : List (Str × Value)}
    (X : (hd.heap_39 w.params).In s.heap) (T : TP mean mg mb s.heap)
    (ho : (hd.heap_39 w.params).lookup f = some ⟨oc, od, .func (fnOf name qual params body scope dV kV doc pm an cdv ct), osl⟩) (hcd : codeIn (hd.heap_39 w.params) cdv qual = true) (hroom : A.depth < recursionLimit)
    (hbind : BindsTo s (fnOf name qual params body scope dV kV doc pm an cdv ct) ⟨args, []⟩ binds) (hloc : ∀ y ∈ binds, scope.names.lookup y.1 = some .local)
    (h : ∀ h₁, Fr s.heap s.heap.objs.size h₁ (fun y => binds.reverse.lookup y) → News s.heap s.heap.objs.size h₁ [] →
      wpAny (model PR w) (A.deeper (envOf qual scope s.heap.objs.size f cdv)) (execs body (envOf qual scope s.heap.objs.size f cdv))
        (fun fl s' => Q (match fl with | .ret v => v | _ => .none) s') (fun _ _ => False)
        { s with heap := h₁, toks := s.toks + binds.length })
    (hco : scope.isCoroutine = false) (hgen : scope.isGenerator = false) (hk : scope.kind = .function)
    (hcell : ∀ x ∈ scope.names, x.2 ≠ .cell) : wpAny (model PR w) A (call (.ref f) args) Q E s := by
  refine wpAny_call ?_
  refine codeAny_call_def (fd := fnOf name qual params body scope dV kV doc pm an cdv ct) (body := body) (binds := binds) hroom (X _ _ ho) rfl T.nolimit (codeRec_of X hcd) rfl hbind hcell hloc (fun h₁ hns hk₁ => ?_) hco hgen hk
  have F : Fr s.heap s.heap.objs.size h₁ (fun y => binds.reverse.lookup y) := ⟨hns, hk₁, Nat.le_refl _⟩
  exact wpAny_mono (h h₁ F News.nil) (fun _ _ x => x) (fun _ _ x => x.elim)

theorem enterH {w : World} {A : Around} {h₀ : Heap} {s : Shared} {E : Value → Shared → Prop} {Q : Value → Shared → Prop} {mean : ExcName → Option Value} {mg mb : Str → Option Value} (hid : List (Addr × Obj))
    {name qual : Str} {params : Arguments} {body : List Stmt} {scope : Scope} {dV kV doc pm cdv ct oc : Value} {an od : Option Addr} {osl : Array (Option Value)} {f : Addr} {args : List Value} {binds : List (Str × Value)}
    (X : (hd.heap_39 w.params).In h₀) (T : TP mean mg mb h₀) (hk₀ : ∀ b o, h₀.get? b = some o → s.heap.get? b = some o) (hN : ∀ p ∈ hid, s.heap.get? p.1 = some p.2 ∧ h₀.get? p.1 = none)
    (ho : (hd.heap_39 w.params).lookup f = some ⟨oc, od, .func (fnOf name qual params body scope dV kV doc pm an cdv ct), osl⟩) (hcd : codeIn (hd.heap_39 w.params) cdv qual = true) (hroom : A.depth < recursionLimit)
    (hbind : BindsTo s (fnOf name qual params body scope dV kV doc pm an cdv ct) ⟨args, []⟩ binds) (hloc : ∀ y ∈ binds, scope.names.lookup y.1 = some .local)
    (h : ∀ g h₁, (∀ b o, g.get? b = some o → s.heap.get? b = some o) → (∀ b o, s.heap.get? b = some o → b ∉ hid.map (·.1) → g.get? b = some o) → (hd.heap_39 w.params).In g → TP mean mg mb g →
      Fr g s.heap.objs.size h₁ (fun y => binds.reverse.lookup y) → News g s.heap.objs.size h₁ hid →
      wpAny (model PR w) (A.deeper (envOf qual scope s.heap.objs.size f cdv)) (execs body (envOf qual scope s.heap.objs.size f cdv))
        (fun fl s' => Q (match fl with | .ret v => v | _ => .none) s') (fun _ _ => False)
        { s with heap := h₁, toks := s.toks + binds.length })
    (hco : scope.isCoroutine = false) (hgen : scope.isGenerator = false) (hk : scope.kind = .function)
    (hcell : ∀ x ∈ scope.names, x.2 ≠ .cell) : wpAny (model PR w) A (call (.ref f) args) Q E s := by
  refine wpAny_call ?_
  have X' := X.keeps hk₀
  have T' : TP mean mg mb s.heap := T.keeps hk₀
  refine codeAny_call_def (fd := fnOf name qual params body scope dV kV doc pm an cdv ct) (body := body) (binds := binds) hroom (X' _ _ ho) rfl T'.nolimit (codeRec_of X' hcd) rfl hbind hcell hloc (fun h₁ hns hk₁ => ?_) hco hgen hk
  have kg : ∀ b o, h₀.get? b = some o → (hideAll s.heap (hid.map (·.1))).get? b = some o := fun b o e => hideAll_get _ (hk₀ b o e) fun q => by
    obtain ⟨p, hp, rfl⟩ := List.mem_map.mp q
    rw [(hN p hp).2] at e; cases e
  refine wpAny_mono (h (hideAll s.heap (hid.map (·.1))) h₁ (fun b o e => of_hideAll _ e) (fun b o e n => hideAll_get _ e n) (X.keeps kg) (T.keeps kg)
    ⟨hns, fun b o e => hk₁ b o (of_hideAll _ e), Nat.le_of_eq (hideAll_size _ _)⟩
    (fun p hp => ⟨hk₁ _ _ (hN p hp).1, Nat.ne_of_lt (Heap.lt_size (hN p hp).1), hideAll_none _ (List.mem_map_of_mem hp)⟩)) (fun _ _ x => x) (fun _ _ x => x.elim)

theorem upd1 {h₀ h : Heap} {L a : Addr} {m : Str → Option Value} {rest : List (Addr × Obj)} {o o' : Obj} {h' : Heap} (F : Fr h₀ L h m) (N : News h₀ L h ((a, o) :: rest)) (hs : Heap.SameBut a h h') (ho : h'.get? a = some o')
    (hr : ∀ p ∈ rest, p.1 ≠ a) : Fr h₀ L h' m ∧ News h₀ L h' ((a, o') :: rest) := by
  have D := N (a, o) (.head _)
  refine ⟨F.change hs D.2.1 D.2.2, fun p hp => ?_⟩
  rcases List.mem_cons.mp hp with rfl | hp
  · exact ⟨ho, D.2⟩
  · have P := N p (.tail _ hp)
    exact ⟨(hs.2 p.1 (hr p hp)).trans P.1, P.2⟩

theorem know {h₀ h : Heap} {L : Addr} {m : Str → Option Value} {y : Str} {v : Value} (hv : m y = some v) (F : Fr h₀ L h m) : Fr h₀ L h (fun z => if z = y then some v else m z) := by
  have e : (fun z => if z = y then some v else m z) = m := by
    funext z
    by_cases h : z = y
    · rw [if_pos h, h, hv]
    · rw [if_neg h]
  rw [e]; exact F
theorem off {x y : Str} {v v' : Value} {m : Str → Option Value} (hv : m y = some v') (h : decide (y = x) = false := by rfl) : (fun z => if z = x then some v else m z) y = some v' := by
  show (if y = x then some v else m y) = some v'
  rw [if_neg (of_decide_eq_false h)]; exact hv

theorem know1 {h₀ h : Heap} {L : Addr} {m : Str → Option Value} {y1 : Str} {v1 : Value} (F : Fr h₀ L h m) (h1 : m y1 = some v1) : Fr h₀ L h (fun z => if z = y1 then some v1 else m z) := know h1 F
theorem know3 {h₀ h : Heap} {L : Addr} {m : Str → Option Value} {y1 y2 y3 : Str} {v1 v2 v3 : Value} (F : Fr h₀ L h m) (h1 : m y1 = some v1) (h2 : m y2 = some v2) (h3 : m y3 = some v3) : Fr h₀ L h (fun z => if z = y1 then some v1 else if z = y2 then some v2 else if z = y3 then some v3 else m z) := by
  have e : (fun z => if z = y1 then some v1 else if z = y2 then some v2 else if z = y3 then some v3 else m z) = m := by
    funext z
    repeat' split
    all_goals (try subst_vars)
    all_goals (first | rfl | exact Eq.symm (by assumption))
  rw [e]; exact F
theorem know4 {h₀ h : Heap} {L : Addr} {m : Str → Option Value} {y1 y2 y3 y4 : Str} {v1 v2 v3 v4 : Value} (F : Fr h₀ L h m) (h1 : m y1 = some v1) (h2 : m y2 = some v2) (h3 : m y3 = some v3) (h4 : m y4 = some v4) : Fr h₀ L h (fun z => if z = y1 then some v1 else if z = y2 then some v2 else if z = y3 then some v3 else if z = y4 then some v4 else m z) := by
  have e : (fun z => if z = y1 then some v1 else if z = y2 then some v2 else if z = y3 then some v3 else if z = y4 then some v4 else m z) = m := by
    funext z
    repeat' split
    all_goals (try subst_vars)
    all_goals (first | rfl | exact Eq.symm (by assumption))
  rw [e]; exact F
theorem know5 {h₀ h : Heap} {L : Addr} {m : Str → Option Value} {y1 y2 y3 y4 y5 : Str} {v1 v2 v3 v4 v5 : Value} (F : Fr h₀ L h m) (h1 : m y1 = some v1) (h2 : m y2 = some v2) (h3 : m y3 = some v3) (h4 : m y4 = some v4) (h5 : m y5 = some v5) : Fr h₀ L h (fun z => if z = y1 then some v1 else if z = y2 then some v2 else if z = y3 then some v3 else if z = y4 then some v4 else if z = y5 then some v5 else m z) := by
  have e : (fun z => if z = y1 then some v1 else if z = y2 then some v2 else if z = y3 then some v3 else if z = y4 then some v4 else if z = y5 then some v5 else m z) = m := by
    funext z
    repeat' split
    all_goals (try subst_vars)
    all_goals (first | rfl | exact Eq.symm (by assumption))
  rw [e]; exact F
theorem know8 {h₀ h : Heap} {L : Addr} {m : Str → Option Value} {y1 y2 y3 y4 y5 y6 y7 y8 : Str} {v1 v2 v3 v4 v5 v6 v7 v8 : Value} (F : Fr h₀ L h m) (h1 : m y1 = some v1) (h2 : m y2 = some v2) (h3 : m y3 = some v3) (h4 : m y4 = some v4) (h5 : m y5 = some v5) (h6 : m y6 = some v6) (h7 : m y7 = some v7) (h8 : m y8 = some v8) : Fr h₀ L h (fun z => if z = y1 then some v1 else if z = y2 then some v2 else if z = y3 then some v3 else if z = y4 then some v4 else if z = y5 then some v5 else if z = y6 then some v6 else if z = y7 then some v7 else if z = y8 then some v8 else m z) := by
  have e : (fun z => if z = y1 then some v1 else if z = y2 then some v2 else if z = y3 then some v3 else if z = y4 then some v4 else if z = y5 then some v5 else if z = y6 then some v6 else if z = y7 then some v7 else if z = y8 then some v8 else m z) = m := by
    funext z
    repeat' split
    all_goals (try subst_vars)
    all_goals (first | rfl | exact Eq.symm (by assumption))
  rw [e]; exact F
theorem ex_int {o : Option Value} {a b : Int} {t : Tok} (h : o = some (.int a t)) (e : a = b) : ∃ t, o = some (.int b t) := ⟨t, by rw [← e]; exact h⟩
abbrev Fills (_K : Params → Frag) (_r : OpenLaw) (P : Prop) : Prop := P
theorem enterC {w : World} {A : Around} {s : Shared} {E : Value → Shared → Prop} {Q : Value → Shared → Prop} {mean : ExcName → Option Value} {mg mb : Str → Option Value}
    {name : Str} {params : Arguments} {body : List Stmt} {scope : Scope} {pm cd doc : Value} {o : Obj} {f : Addr} {args : List Value} {binds : List (Str × Value)}
    (X : (hd.heap_39 w.params).In s.heap) (T : TP mean mg mb s.heap)
    (ho : (hd.heap_39 w.params).lookup f = some o) (hdata : o.data = .func (Calls.docDef name params body scope pm cd doc)) (hcd : codeIn (hd.heap_39 w.params) cd name = true) (hroom : A.depth < recursionLimit)
    (hbind : bindArgs (Calls.docDef name params body scope pm cd doc) ⟨args, []⟩ = pure binds)
    (hkind : ∀ n, ∀ x ∈ binds, scope.names.lookup x.1 = some .local ∨ (scope.names.lookup x.1 = some .cell ∧ ((cellsFrom n scope.names []).lookup x.1).isSome = true))
    (hnd : ((cellsFrom 0 scope.names []).map (·.1)).Nodup)
    (h : ∀ h₁ tk cells, Fr s.heap s.heap.objs.size h₁ (bindL (envOfC name scope s.heap.objs.size f cd).kindOf binds fun _ => none) → News s.heap s.heap.objs.size h₁ cells →
      CellsAre (bindC (envOfC name scope s.heap.objs.size f cd).kindOf binds fun _ => none) (cellsFrom (s.heap.objs.size + 1) scope.names []) cells →
      wpAny (model PR w) (A.deeper (envOfC name scope s.heap.objs.size f cd)) (execs body (envOfC name scope s.heap.objs.size f cd))
        (fun fl s' => Q (match fl with | .ret v => v | _ => .none) s') (fun _ _ => False) { s with heap := h₁, toks := tk })
    (hco : scope.isCoroutine = false) (hgen : scope.isGenerator = false) (hk : scope.kind = .function) : wpAny (model PR w) A (call (.ref f) args) Q E s :=
  wpAny_call (call_cellsN_ret hroom (X _ _ ho) hdata T.nolimit (codeRec_of X hcd) hbind (hkind _) hnd h hco hgen hk)
noncomputable def foldedF (base more : Int) (figs : List Int) : Int := figs.foldl (fun n f => n * base + f + more) 0
theorem folded_call {w : World} {A : Around} {s : Shared} {E : Value → Shared → Prop} {Q : Value → Shared → Prop} {mean : ExcName → Option Value} {mg mb : Str → Option Value}
    {l : Addr} {vs : List Value} {ns : List Int} {bs more : Int} {t1 t2 : Tok}
    (KX : (hd.heap_39 w.params).In s.heap) (T : TP mean mg mb s.heap) (hd : A.depth + 3 < recursionLimit) (hh : A.handled = none)
    (hl : s.heap.IsList l vs.toArray) (hi : IntsAre vs ns) (hb : 1 ≤ bs ∧ bs ≤ 64)
    (hQ : ∀ t h' tk', s.heap.StaysIn h' → Q (.int (foldedF bs more ns) t) { s with heap := h', toks := tk' }) :
    wpAny (model PR w) A (call (.ref 63) [.ref l, .int bs t1, .int more t2]) Q E s := by
  have dum : Fills Mine.hd.heap_39 PySem.Challenge.rw_wf0021_01 True := by k_fill; trivial
  refine enter KX T (by k_is) (by k_is) (by omega) (BindsTo.of_eq rfl) (locs rfl) ?_ rfl rfl rfl (by decide)
  intro h₁ F N
  dsimp only
  ((repeat' ((( ((( (fail_if_success (with_reducible show wpAny _ _ (exec (Stmt.For _ _ _ _ _) _) _ _ _)); (fail_if_success (with_reducible show wpAny _ _ (exec (Stmt.While _ _ _ _) _) _ _ _)); (fail_if_success (with_reducible show wpAny _ _ (pyIter (Value.ref _)) _ _ _)); (fail_if_success (with_reducible show wpAny _ _ (call (Value.ref _) _ _) _ _ _)); (fail_if_success (with_reducible show wpAny _ _ (call (Value.builtin "next") _ _) _ _ _)); (fail_if_success (with_reducible show wpAny _ _ (eval (Expr.ListComp _ _ _ _) _) _ _ _)); (fail_if_success (with_reducible show LCg.CompEnd _ _ _ _ _ _ _ _ _ _ _ _ _ _)); (fail_if_success (with_reducible show LoopStep3 _ _ _ _ _ _ _ _ _ _)); (fail_if_success (with_reducible show LoopStepV _ _ _ _ _ _ _ _ _ _)); skip))); (fail_if_success (with_reducible show wpAny _ _ (exec (Stmt.Assign _ (Expr.ListComp _ _ _ _) _) _) _ _ _)); (((first | ((with_reducible show wpAny _ _ (storeName _ _ _) _ _ _); dsimp only; walk1) | ((first | (k_unfold; (try dsimp only)) | (k_end; wrow_close) | walk1 | (dsimp only; walk1) | (leave1; walk_say "STEP leave1"; try dsimp only) | fail "no step"))))))))))
  refine For_invV s.heap rfl rfl ?_
  ((repeat' ((( ((( (fail_if_success (with_reducible show wpAny _ _ (exec (Stmt.For _ _ _ _ _) _) _ _ _)); (fail_if_success (with_reducible show wpAny _ _ (exec (Stmt.While _ _ _ _) _) _ _ _)); (fail_if_success (with_reducible show wpAny _ _ (pyIter (Value.ref _)) _ _ _)); (fail_if_success (with_reducible show wpAny _ _ (call (Value.ref _) _ _) _ _ _)); (fail_if_success (with_reducible show wpAny _ _ (call (Value.builtin "next") _ _) _ _ _)); (fail_if_success (with_reducible show wpAny _ _ (eval (Expr.ListComp _ _ _ _) _) _ _ _)); (fail_if_success (with_reducible show LCg.CompEnd _ _ _ _ _ _ _ _ _ _ _ _ _ _)); (fail_if_success (with_reducible show LoopStep3 _ _ _ _ _ _ _ _ _ _)); (fail_if_success (with_reducible show LoopStepV _ _ _ _ _ _ _ _ _ _)); skip))); (fail_if_success (with_reducible show wpAny _ _ (exec (Stmt.Assign _ (Expr.ListComp _ _ _ _) _) _) _ _ _)); (((first | ((with_reducible show wpAny _ _ (storeName _ _ _) _ _ _); dsimp only; walk1) | ((first | (k_unfold; (try dsimp only)) | (k_end; wrow_close) | walk1 | (dsimp only; walk1) | (leave1; walk_say "STEP leave1"; try dsimp only) | fail "no step"))))))))))
  rename Fr _ _ _ _ => F1
  rename News _ _ _ _ => N1
  refine iter_invN (fun i m _ => m (Str.ofString "base") = some (.int bs t1) ∧ m (Str.ofString "more") = some (.int more t2) ∧ ∃ t, m (Str.ofString "number") = some (.int (foldedF bs more (ns.take i)) t)) hh hl hi F1 N1 ⟨rfl, rfl, _, rfl⟩ ?_ ?_
  · intro i n t m₁ news₁ h tk own hi' _ _ hJ F N
    obtain ⟨hJ1, hJ2, t0, hJ3⟩ := hJ
    have F := know (off hJ1) (know (off hJ2) (know (off hJ3) F))
    clear F1 N1
    ((repeat' ((( ((( (fail_if_success (with_reducible show wpAny _ _ (exec (Stmt.For _ _ _ _ _) _) _ _ _)); (fail_if_success (with_reducible show wpAny _ _ (exec (Stmt.While _ _ _ _) _) _ _ _)); (fail_if_success (with_reducible show wpAny _ _ (pyIter (Value.ref _)) _ _ _)); (fail_if_success (with_reducible show wpAny _ _ (call (Value.ref _) _ _) _ _ _)); (fail_if_success (with_reducible show wpAny _ _ (call (Value.builtin "next") _ _) _ _ _)); (fail_if_success (with_reducible show wpAny _ _ (eval (Expr.ListComp _ _ _ _) _) _ _ _)); (fail_if_success (with_reducible show LCg.CompEnd _ _ _ _ _ _ _ _ _ _ _ _ _ _)); (fail_if_success (with_reducible show LoopStep3 _ _ _ _ _ _ _ _ _ _)); (fail_if_success (with_reducible show LoopStepV _ _ _ _ _ _ _ _ _ _)); skip))); (fail_if_success (with_reducible show wpAny _ _ (exec (Stmt.Assign _ (Expr.ListComp _ _ _ _) _) _) _ _ _)); (((first | ((with_reducible show wpAny _ _ (storeName _ _ _) _ _ _); dsimp only; walk1) | ((first | (k_unfold; (try dsimp only)) | (k_end; wrow_close) | walk1 | (dsimp only; walk1) | (leave1; walk_say "STEP leave1"; try dsimp only) | fail "no step"))))))))))
    refine InvEndN.intro (nx := []) (by assumption) (by assumption) ⟨rfl, rfl, ex_int rfl ?_⟩ rfl (fun _ h => nomatch h) (fun p hp => List.mem_append_right _ hp)
    rw [List.take_add_one, hi']
    simp only [foldedF, List.foldl_append, Option.toList_some, List.foldl_cons, List.foldl_nil]
  · intro m₁ news₁ h tk hJ F N
    obtain ⟨hJ1, hJ2, t0, hJ3⟩ := hJ
    have F := (know (hJ3) F)
    clear F1 N1
    ((repeat' ((( ((( (fail_if_success (with_reducible show wpAny _ _ (exec (Stmt.For _ _ _ _ _) _) _ _ _)); (fail_if_success (with_reducible show wpAny _ _ (exec (Stmt.While _ _ _ _) _) _ _ _)); (fail_if_success (with_reducible show wpAny _ _ (pyIter (Value.ref _)) _ _ _)); (fail_if_success (with_reducible show wpAny _ _ (call (Value.ref _) _ _) _ _ _)); (fail_if_success (with_reducible show wpAny _ _ (call (Value.builtin "next") _ _) _ _ _)); (fail_if_success (with_reducible show wpAny _ _ (eval (Expr.ListComp _ _ _ _) _) _ _ _)); (fail_if_success (with_reducible show LCg.CompEnd _ _ _ _ _ _ _ _ _ _ _ _ _ _)); (fail_if_success (with_reducible show LoopStep3 _ _ _ _ _ _ _ _ _ _)); (fail_if_success (with_reducible show LoopStepV _ _ _ _ _ _ _ _ _ _)); skip))); (fail_if_success (with_reducible show wpAny _ _ (exec (Stmt.Assign _ (Expr.ListComp _ _ _ _) _) _) _ _ _)); (((first | ((with_reducible show wpAny _ _ (storeName _ _ _) _ _ _); dsimp only; walk1) | ((first | (k_unfold; (try dsimp only)) | (k_end; wrow_close) | walk1 | (dsimp only; walk1) | (leave1; walk_say "STEP leave1"; try dsimp only) | fail "no step"))))))))))
    rw [List.take_length]
    exact hQ _ _ _ F.keep
noncomputable def leadF (one two : List Int) : Int := foldedF 16 0 one * (16 ^ two.length - 1) - foldedF 16 0 two * (16 ^ one.length - 1)
theorem pow16_bits {k : Nat} (h : k ≤ 12) : Builtin.Int.intBits (16 ^ k - 1) ≤ 64 := by
  have h1 : (16 : Int) ^ k ≤ 16 ^ 12 := by
    have : (16 : Nat) ^ k ≤ 16 ^ 12 := Nat.pow_le_pow_right (by decide) h
    exact_mod_cast this
  have h2 : (0 : Int) < 16 ^ k := Int.pow_pos (by decide)
  exact PySem.intBits_le_64 (by omega) (by omega)
theorem lead_call {w : World} {A : Around} {s : Shared} {E : Value → Shared → Prop} {Q : Value → Shared → Prop} {mean : ExcName → Option Value} {mg mb : Str → Option Value}
    {l : Addr} {vs : List Value} {ns : List Int} {l2 : Addr} {vs2 : List Value} {ns2 : List Int}
    (KX : (hd.heap_39 w.params).In s.heap) (T : TP mean mg mb s.heap) (hd : A.depth + 6 < recursionLimit) (hh : A.handled = none)
    (hl : s.heap.IsList l vs.toArray) (hi : IntsAre vs ns) (hlen : ns.length ≤ 12)
    (hl2 : s.heap.IsList l2 vs2.toArray) (hi2 : IntsAre vs2 ns2) (hlen2 : ns2.length ≤ 12)
    (hQ : ∀ t h' tk', s.heap.StaysIn h' → Q (.int (leadF ns ns2) t) { s with heap := h', toks := tk' }) :
    wpAny (model PR w) A (call (.ref 70) [.ref l, .ref l2]) Q E s := by
  have dum : Fills Mine.hd.heap_39 PySem.Challenge.rw_wf0021_01 True := by k_fill; trivial
  refine enter (binds := [(Str.ofString "one", .ref l), (Str.ofString "two", .ref l2)]) KX T (by k_is) (by k_is) (by omega) (BindsTo.of_eq rfl) (locs rfl) ?_ rfl rfl rfl (by decide)
  intro h₁ F N
  try dsimp only
  ((repeat' ((( ((( (fail_if_success (with_reducible show wpAny _ _ (exec (Stmt.For _ _ _ _ _) _) _ _ _)); (fail_if_success (with_reducible show wpAny _ _ (exec (Stmt.While _ _ _ _) _) _ _ _)); (fail_if_success (with_reducible show wpAny _ _ (pyIter (Value.ref _)) _ _ _)); (fail_if_success (with_reducible show wpAny _ _ (call (Value.ref _) _ _) _ _ _)); (fail_if_success (with_reducible show wpAny _ _ (call (Value.builtin "next") _ _) _ _ _)); (fail_if_success (with_reducible show wpAny _ _ (eval (Expr.ListComp _ _ _ _) _) _ _ _)); (fail_if_success (with_reducible show LCg.CompEnd _ _ _ _ _ _ _ _ _ _ _ _ _ _)); (fail_if_success (with_reducible show LoopStep3 _ _ _ _ _ _ _ _ _ _)); (fail_if_success (with_reducible show LoopStepV _ _ _ _ _ _ _ _ _ _)); skip))); (fail_if_success (with_reducible show wpAny _ _ (exec (Stmt.Assign _ (Expr.ListComp _ _ _ _) _) _) _ _ _)); (((first | ((with_reducible show wpAny _ _ (storeName _ _ _) _ _ _); dsimp only; walk1) | ((first | (k_unfold; (try dsimp only)) | (k_end; wrow_close) | walk1 | (dsimp only; walk1) | (leave1; walk_say "STEP leave1"; try dsimp only) | fail "no step"))))))))))
  rename Fr _ _ _ _ => F1
  rename News _ _ _ _ => N1
  refine folded_call (KX.keeps F1.keep) (T.keeps F1.keep) (by show A.depth + 1 + 3 < _; omega) hh (stays_list F1.keep hl) hi ⟨by decide, by decide⟩ (fun t h' tk' hk => ?_)
  have F2 := F1.after hk
  have N2 := N1.grown hk
  clear F1 N1
  ((repeat' ((( ((( (fail_if_success (with_reducible show wpAny _ _ (exec (Stmt.For _ _ _ _ _) _) _ _ _)); (fail_if_success (with_reducible show wpAny _ _ (exec (Stmt.While _ _ _ _) _) _ _ _)); (fail_if_success (with_reducible show wpAny _ _ (pyIter (Value.ref _)) _ _ _)); (fail_if_success (with_reducible show wpAny _ _ (call (Value.ref _) _ _) _ _ _)); (fail_if_success (with_reducible show wpAny _ _ (call (Value.builtin "next") _ _) _ _ _)); (fail_if_success (with_reducible show wpAny _ _ (eval (Expr.ListComp _ _ _ _) _) _ _ _)); (fail_if_success (with_reducible show LCg.CompEnd _ _ _ _ _ _ _ _ _ _ _ _ _ _)); (fail_if_success (with_reducible show LoopStep3 _ _ _ _ _ _ _ _ _ _)); (fail_if_success (with_reducible show LoopStepV _ _ _ _ _ _ _ _ _ _)); skip))); (fail_if_success (with_reducible show wpAny _ _ (exec (Stmt.Assign _ (Expr.ListComp _ _ _ _) _) _) _ _ _)); (((first | ((with_reducible show wpAny _ _ (storeName _ _ _) _ _ _); dsimp only; walk1) | ((first | (k_unfold; (try dsimp only)) | (k_end; wrow_close) | walk1 | (dsimp only; walk1) | (leave1; walk_say "STEP leave1"; try dsimp only) | fail "no step"))))))))))
  rw [Int.toNat_natCast]
  refine mul_int ?_ (IntMulOk.of_right (pow16_bits hlen2))
  try dsimp only
  ((repeat' ((( ((( (fail_if_success (with_reducible show wpAny _ _ (exec (Stmt.For _ _ _ _ _) _) _ _ _)); (fail_if_success (with_reducible show wpAny _ _ (exec (Stmt.While _ _ _ _) _) _ _ _)); (fail_if_success (with_reducible show wpAny _ _ (pyIter (Value.ref _)) _ _ _)); (fail_if_success (with_reducible show wpAny _ _ (call (Value.ref _) _ _) _ _ _)); (fail_if_success (with_reducible show wpAny _ _ (call (Value.builtin "next") _ _) _ _ _)); (fail_if_success (with_reducible show wpAny _ _ (eval (Expr.ListComp _ _ _ _) _) _ _ _)); (fail_if_success (with_reducible show LCg.CompEnd _ _ _ _ _ _ _ _ _ _ _ _ _ _)); (fail_if_success (with_reducible show LoopStep3 _ _ _ _ _ _ _ _ _ _)); (fail_if_success (with_reducible show LoopStepV _ _ _ _ _ _ _ _ _ _)); skip))); (fail_if_success (with_reducible show wpAny _ _ (exec (Stmt.Assign _ (Expr.ListComp _ _ _ _) _) _) _ _ _)); (((first | ((with_reducible show wpAny _ _ (storeName _ _ _) _ _ _); dsimp only; walk1) | ((first | (k_unfold; (try dsimp only)) | (k_end; wrow_close) | walk1 | (dsimp only; walk1) | (leave1; walk_say "STEP leave1"; try dsimp only) | fail "no step"))))))))))
  rename Fr _ _ _ _ => F1
  rename News _ _ _ _ => N1
  refine folded_call (KX.keeps F1.keep) (T.keeps F1.keep) (by show A.depth + 1 + 3 < _; omega) hh (stays_list F1.keep hl2) hi2 ⟨by decide, by decide⟩ (fun t h' tk' hk => ?_)
  have F2 := F1.after hk
  have N2 := N1.grown hk
  clear F1 N1
  ((repeat' ((( ((( (fail_if_success (with_reducible show wpAny _ _ (exec (Stmt.For _ _ _ _ _) _) _ _ _)); (fail_if_success (with_reducible show wpAny _ _ (exec (Stmt.While _ _ _ _) _) _ _ _)); (fail_if_success (with_reducible show wpAny _ _ (pyIter (Value.ref _)) _ _ _)); (fail_if_success (with_reducible show wpAny _ _ (call (Value.ref _) _ _) _ _ _)); (fail_if_success (with_reducible show wpAny _ _ (call (Value.builtin "next") _ _) _ _ _)); (fail_if_success (with_reducible show wpAny _ _ (eval (Expr.ListComp _ _ _ _) _) _ _ _)); (fail_if_success (with_reducible show LCg.CompEnd _ _ _ _ _ _ _ _ _ _ _ _ _ _)); (fail_if_success (with_reducible show LoopStep3 _ _ _ _ _ _ _ _ _ _)); (fail_if_success (with_reducible show LoopStepV _ _ _ _ _ _ _ _ _ _)); skip))); (fail_if_success (with_reducible show wpAny _ _ (exec (Stmt.Assign _ (Expr.ListComp _ _ _ _) _) _) _ _ _)); (((first | ((with_reducible show wpAny _ _ (storeName _ _ _) _ _ _); dsimp only; walk1) | ((first | (k_unfold; (try dsimp only)) | (k_end; wrow_close) | walk1 | (dsimp only; walk1) | (leave1; walk_say "STEP leave1"; try dsimp only) | fail "no step"))))))))))
  rw [Int.toNat_natCast]
  refine mul_int ?_ (IntMulOk.of_right (pow16_bits hlen))
  try dsimp only
  ((repeat' ((( ((( (fail_if_success (with_reducible show wpAny _ _ (exec (Stmt.For _ _ _ _ _) _) _ _ _)); (fail_if_success (with_reducible show wpAny _ _ (exec (Stmt.While _ _ _ _) _) _ _ _)); (fail_if_success (with_reducible show wpAny _ _ (pyIter (Value.ref _)) _ _ _)); (fail_if_success (with_reducible show wpAny _ _ (call (Value.ref _) _ _) _ _ _)); (fail_if_success (with_reducible show wpAny _ _ (call (Value.builtin "next") _ _) _ _ _)); (fail_if_success (with_reducible show wpAny _ _ (eval (Expr.ListComp _ _ _ _) _) _ _ _)); (fail_if_success (with_reducible show LCg.CompEnd _ _ _ _ _ _ _ _ _ _ _ _ _ _)); (fail_if_success (with_reducible show LoopStep3 _ _ _ _ _ _ _ _ _ _)); (fail_if_success (with_reducible show LoopStepV _ _ _ _ _ _ _ _ _ _)); skip))); (fail_if_success (with_reducible show wpAny _ _ (exec (Stmt.Assign _ (Expr.ListComp _ _ _ _) _) _) _ _ _)); (((first | ((with_reducible show wpAny _ _ (storeName _ _ _) _ _ _); dsimp only; walk1) | ((first | (k_unfold; (try dsimp only)) | (k_end; wrow_close) | walk1 | (dsimp only; walk1) | (leave1; walk_say "STEP leave1"; try dsimp only) | fail "no step"))))))))))
  exact hQ _ _ _ F2.keep
noncomputable def apI (n : Nat) : List Int := if _h : n = 0 then [] else apI (n / 16) ++ [((65 + n % 16 : Nat) : Int)]
termination_by n
decreasing_by omega
theorem apI_zero : apI 0 = [] := by unfold apI; simp
theorem apI_pos {n : Nat} (h : n ≠ 0) : apI n = apI (n / 16) ++ [((65 + n % 16 : Nat) : Int)] := by rw [apI]; simp [h]
theorem apI_len : ∀ d n, n < 16 ^ d → (apI n).length ≤ d
  | 0, n, h => by
    obtain rfl : n = 0 := by simpa using h
    simp [apI_zero]
  | d + 1, n, h => by
    by_cases h0 : n = 0
    · subst h0; simp [apI_zero]
    · rw [apI_pos h0, List.length_append, List.length_singleton]
      have := apI_len d (n / 16) (by rw [Nat.pow_succ] at h; omega)
      omega
theorem ap_cut : ∀ r : Fin 16, List.take (clipAt 16 (((r.val : Nat) : Int) + 1) - clipAt 16 ((r.val : Nat) : Int)) (List.drop (clipAt 16 ((r.val : Nat) : Int)) [65,66,67,68,69,70,71,72,73,74,75,76,77,78,79,80]) = [((65 + r.val : Nat) : Int)] := by decide
theorem ap_call {w : World} {A : Around} {s : Shared} {E : Value → Shared → Prop} {Q : Value → Shared → Prop} {mean : ExcName → Option Value} {mg mb : Str → Option Value}
    {n : Int} {t : Tok}
    (KX : (hd.heap_39 w.params).In s.heap) (T : TP mean mg mb s.heap) (hd : A.depth + 3 < recursionLimit) (hh : A.handled = none)
    (hn : n.natAbs < 16 ^ 13)
    (hQ : ∀ b t h' tk', KBw.bInts b = apI n.natAbs → s.heap.StaysIn h' → Q (.bytes b t) { s with heap := h', toks := tk' }) :
    wpAny (model PR w) A (call (.ref 35) [.int n t]) Q E s := by
  have dum : Fills Mine.hd.heap_39 PySem.Challenge.rw_wf0021_01 True := by k_fill; trivial
  obtain ⟨ah, ad, af, ag, au⟩ := A
  obtain rfl : ah = none := hh
  dsimp only at hd
  refine enter (binds := [(Str.ofString "num", .int n t)]) KX T (by k_is) (by k_is) (by show ad < recursionLimit; omega) (BindsTo.of_eq rfl) (locs rfl) ?_ rfl rfl rfl (by decide)
  intro h₁ F N
  try dsimp only
  ((repeat' ((( ((( (fail_if_success (with_reducible show wpAny _ _ (exec (Stmt.For _ _ _ _ _) _) _ _ _)); (fail_if_success (with_reducible show wpAny _ _ (exec (Stmt.While _ _ _ _) _) _ _ _)); (fail_if_success (with_reducible show wpAny _ _ (pyIter (Value.ref _)) _ _ _)); (fail_if_success (with_reducible show wpAny _ _ (call (Value.ref _) _ _) _ _ _)); (fail_if_success (with_reducible show wpAny _ _ (call (Value.builtin "next") _ _) _ _ _)); (fail_if_success (with_reducible show wpAny _ _ (eval (Expr.ListComp _ _ _ _) _) _ _ _)); (fail_if_success (with_reducible show LCg.CompEnd _ _ _ _ _ _ _ _ _ _ _ _ _ _)); (fail_if_success (with_reducible show LoopStep3 _ _ _ _ _ _ _ _ _ _)); (fail_if_success (with_reducible show LoopStepV _ _ _ _ _ _ _ _ _ _)); skip))); (fail_if_success (with_reducible show wpAny _ _ (exec (Stmt.Assign _ (Expr.ListComp _ _ _ _) _) _) _ _ _)); (((first | ((with_reducible show wpAny _ _ (storeName _ _ _) _ _ _); dsimp only; walk1) | ((first | (k_unfold; (try dsimp only)) | (k_end; wrow_close) | walk1 | (dsimp only; walk1) | (leave1; walk_say "STEP leave1"; try dsimp only) | fail "no step"))))))))))
  rename Fr _ _ _ _ => F1
  rename News _ _ _ _ => N1
  refine While_invK (fun k m _ => ∃ v : List Int, apI k ++ v = apI n.natAbs ∧ k ≤ n.natAbs ∧ v.length + (apI k).length ≤ 13 ∧ (∃ t, m (Str.ofString "num") = some (.int k t)) ∧ (∃ b t, m (Str.ofString "AP") = some (.bytes b t) ∧ KBw.bInts b = [65,66,67,68,69,70,71,72,73,74,75,76,77,78,79,80]) ∧ ∃ b t, m (Str.ofString "val") = some (.bytes b t) ∧ KBw.bInts b = v) F1 N1 (n₀ := n.natAbs) ?_ ?_
  · refine ⟨[], by simp, Nat.le_refl _, ?_, ?_, ⟨_, _, rfl, by decide⟩, ⟨_, _, rfl, by decide⟩⟩
    · have := apI_len 13 n.natAbs hn
      simpa using this
    refine ex_int rfl ?_
    split <;> omega
  intro K hK k m₁ news₁ h₁ tk₁ F N hj
  refine bb fun G hG => ?_
  obtain ⟨v, j1, j2, j3, ⟨tn, j4⟩, ⟨bA, ta, j5, j5'⟩, bv, tv, j6, j6'⟩ := hj
  refine hG ?_
  clear hG G
  have F := know3 F j4 j5 j6
  clear F1 N1
  ((repeat' ((( ((( (fail_if_success (with_reducible show wpAny _ _ (exec (Stmt.For _ _ _ _ _) _) _ _ _)); (fail_if_success (with_reducible show wpAny _ _ (exec (Stmt.While _ _ _ _) _) _ _ _)); (fail_if_success (with_reducible show wpAny _ _ (pyIter (Value.ref _)) _ _ _)); (fail_if_success (with_reducible show wpAny _ _ (call (Value.ref _) _ _) _ _ _)); (fail_if_success (with_reducible show wpAny _ _ (call (Value.builtin "next") _ _) _ _ _)); (fail_if_success (with_reducible show wpAny _ _ (eval (Expr.ListComp _ _ _ _) _) _ _ _)); (fail_if_success (with_reducible show LCg.CompEnd _ _ _ _ _ _ _ _ _ _ _ _ _ _)); (fail_if_success (with_reducible show LoopStep3 _ _ _ _ _ _ _ _ _ _)); (fail_if_success (with_reducible show LoopStepV _ _ _ _ _ _ _ _ _ _)); skip))); (fail_if_success (with_reducible show wpAny _ _ (exec (Stmt.Assign _ (Expr.ListComp _ _ _ _) _) _) _ _ _)); (((first | ((with_reducible show wpAny _ _ (storeName _ _ _) _ _ _); dsimp only; walk1) | ((first | (k_unfold; (try dsimp only)) | (k_end; wrow_close) | walk1 | (dsimp only; walk1) | (leave1; walk_say "STEP leave1"; try dsimp only) | fail "no step"))))))))))
  · rename KBw.bInts (_ ++ _) = _ => hb
    rename Fr _ _ _ _ => F1
    rename News _ _ _ _ => N1
    have hk0 : k ≠ 0 := by omega
    have e1 : (k : Int).fmod 16 = ((k % 16 : Nat) : Int) := by rw [Int.fmod_eq_emod_of_nonneg _ (by decide)]; omega
    have e2 : (k : Int).fdiv 16 = ((k / 16 : Nat) : Int) := by rw [Int.fdiv_eq_ediv_of_nonneg _ (by decide)]; omega
    rw [e1] at hb
    have hc := ap_cut ⟨k % 16, by omega⟩
    rw [show ([65,66,67,68,69,70,71,72,73,74,75,76,77,78,79,80] : List Int).length = 16 from rfl, hc] at hb
    rw [apI_pos hk0] at j1 j3
    refine WhileStep.intro (n' := k / 16) F1 N1 (by omega) (hK _ _ _ ⟨[((65 + k % 16 : Nat) : Int)] ++ v, ?_, by omega, ?_, ex_int rfl e2, ⟨_, _, rfl, j5'⟩, ⟨_, _, rfl, ?_⟩⟩)
    · simpa using j1
    · simp only [List.length_append, List.length_cons, List.length_nil] at j3 ⊢; omega
    · rw [e1]; exact hb
  · have hk0 : k = 0 := by omega
    subst hk0
    rw [apI_zero, List.nil_append] at j1
    exact hQ _ _ _ _ (j6'.trans j1) F.keep
open PySem PySem.W PyProof.Rows PySem.Calls Builtin
noncomputable def biter (b : Array UInt8) (t : Tok) (i : Nat) : Obj := { cls := .type "bytes_iterator", data := .fields #[.bytes b t, .int i 0] }
theorem b_next {w : World} {A : Around} {s : Shared} {E : Value → Shared → Prop} {Q : Value → Shared → Prop} {it : Addr} {b : Array UInt8} {t : Tok} {i : Nat} {c : Int}
    (hit : s.heap.get? it = some (biter b t i)) (hx : (KBw.bInts b)[i]? = some c)
    (h : ∀ h' u k, h'.get? it = some (biter b t (i + 1)) → Heap.SameBut it s.heap h' → Q (.int c u) { s with heap := h', toks := k }) :
    wpAny (model PR w) A (call (.builtin "next") [.ref it]) Q E s := by
  have hit' : KBw.IsBytesIter s.heap it b t i := ⟨_, hit, rfl, rfl⟩
  obtain ⟨u8, hu, rfl⟩ : ∃ u8, b[i]? = some u8 ∧ (u8.toNat : Int) = c := by
    simp only [KBw.bInts, List.getElem?_map, Array.getElem?_toList, Option.map_eq_some_iff] at hx
    exact hx
  refine call_function_entry (by decide +kernel) (by decide +kernel) kdk_entry_next (kdk_args_next _) ?_
  unfold Builtin.«next»
  refine wpAny_bind (m := someArgs "next" 1 2 _) (wpAny_of_eq (a := [Value.ref it]) (by first | rfl | kernel_rfl!) ?_)
  dsimp only
  refine wpAny_bind (wpAny_specialOf (name := Str.ofString "__next__") (KBw.iter_typeIs hit') KBw.slot_next.lookup ?_)
  refine wpAny_ite_split (fun hab => absurd hab (by decide)) (fun _ => ?_)
  refine wpAny_bind (wpAny_callSpecial?_slot (name := PySem.Str.ofString "__next__") (KBw.iter_typeIs hit') KBw.slot_next
    (wpAny_call_entry KBw.slot_next (KBw.iter_typeIs hit') KBw.entry_next ?_ (KBw.args_next _)))
  have hd : (biter b t i).data = .fields #[.bytes b t, .int i 0] := rfl
  show wpAny _ _ (field (.ref it) 0 >>= _) _ _ s
  refine wpAny_bind (wpAny_field hit hd (x := .bytes b t) rfl ?_)
  show wpAny _ _ (if (Value.bytes b t == Value.none) = true then _ else _) _ _ s
  rw [if_neg (show ¬ ((Value.bytes b t == Value.none) = true) from Bool.false_ne_true)]
  show wpAny _ _ (field (.ref it) 1 >>= _) _ _ s
  refine wpAny_bind (wpAny_field hit hd (x := .int i 0) rfl ?_)
  refine wpAny_bind (wpAny_of_eq (a := b) rfl ?_)
  simp only [Int.toNat_natCast, hu]
  refine wpAny_bind (wpAny_setField hit hd (by simp) (wpAny_bind (wpAny_mkInt (wpAny_pure ⟨_, rfl, wpAny_pure ⟨_, rfl, h _ _ _ ?_ (Heap.SameBut.update ..)⟩⟩))))
  refine (Heap.get?_update_self _ hit ?_).trans ?_
  · exact Obj.isFreed_of_fields (Obj.data_mapFields hd _)
  · simp [Obj.mapFields, biter, rawInt]
noncomputable def pvF (l : List Int) : Int := l.foldl (fun n c => n * 64 + c % 64) 0
theorem pvF_snoc (l : List Int) (c : Int) : pvF (l ++ [c]) = pvF l * 64 + c % 64 := by simp [pvF, List.foldl_append]
theorem pvF_bound : ∀ n (l : List Int), l.length = n → 0 ≤ pvF l ∧ pvF l < 64 ^ n
  | 0, l, h => by
    obtain rfl := List.length_eq_zero_iff.mp h
    simp [pvF]
  | n + 1, l, h => by
    have hne : l ≠ [] := by intro e; subst e; simp at h
    obtain ⟨r, c, rfl⟩ : ∃ r c, l = r ++ [c] := ⟨l.dropLast, l.getLast hne, (List.dropLast_concat_getLast hne).symm⟩
    have ih := pvF_bound n r (by simpa using h)
    have h1 : 0 ≤ c % 64 := Int.emod_nonneg _ (by decide)
    have h2 : c % 64 < 64 := Int.emod_lt_of_pos _ (by decide)
    rw [pvF_snoc, Int.pow_succ]
    generalize pvF r = v at *
    generalize (64 : Int) ^ n = k at *
    omega
theorem pvF_bits {l : List Int} (h : l.length ≤ 100) : (Builtin.Int.intBits (pvF l) : Int) + 6 ≤ 2 ^ 27 := by
  have hb := pvF_bound _ l rfl
  have h1 : (64 : Int) ^ l.length ≤ 64 ^ 100 := by
    have : (64 : Nat) ^ l.length ≤ 64 ^ 100 := Nat.pow_le_pow_right (by decide) h
    exact_mod_cast this
  have h2 : (pvF l).natAbs < 2 ^ 600 := by
    have e : (64 : Int) ^ 100 = 2 ^ 600 := by decide
    have h3 : pvF l < 2 ^ 600 := by rw [← e]; exact Int.lt_of_lt_of_le hb.2 h1
    have h4 : (((pvF l).natAbs : Nat) : Int) = pvF l := Int.natAbs_of_nonneg hb.1
    have h5 : (((pvF l).natAbs : Nat) : Int) < ((2 ^ 600 : Nat) : Int) := by rw [h4]; exact_mod_cast h3
    exact_mod_cast h5
  have := intBits_le_iff.mpr h2
  omega
theorem and64 : ∀ c : Fin 81, bitAnd (c.val : Int) 64 = if 64 ≤ c.val then 64 else 0 := by decide
theorem or_low {v c : Int} (hv : 0 ≤ v) : bitOr (v * 2 ^ (6 : Int).toNat) (c % 64) = v * 64 + c % 64 := by
  have h1 : 0 ≤ c % 64 := Int.emod_nonneg _ (by decide)
  have h2 : c % 64 < 64 := Int.emod_lt_of_pos _ (by decide)
  obtain ⟨a, rfl⟩ := Int.eq_ofNat_of_zero_le hv
  obtain ⟨d, hd⟩ := Int.eq_ofNat_of_zero_le h1
  rw [hd] at h2 ⊢
  have h3 : d < 2 ^ 6 := by omega
  have e : ((a : Nat) : Int) * (2 : Int) ^ (6 : Int).toNat = ((a <<< 6 : Nat) : Int) := by rw [Nat.shiftLeft_eq]; simp
  rw [e]
  have h4 := Nat.shiftLeft_add_eq_or_of_lt h3 a
  have h5 : bitOr ((a <<< 6 : Nat) : Int) ((d : Nat) : Int) = ((a <<< 6 ||| d : Nat) : Int) := by
    generalize a <<< 6 = q
    have nn : ∀ z : Nat, bitNot (bitNot (z : Int)) = z := by intro z; simp only [bitNot]; omega
    have ng : ∀ z : Nat, ¬ 0 ≤ bitNot (z : Int) := by intro z; simp only [bitNot]; omega
    unfold bitOr
    rw [bitAnd_nn (ng _) (ng _), nn, nn, nn, Int.toNat_natCast, Int.toNat_natCast]
  rw [h5, ← h4, Nat.shiftLeft_eq]
  omega
theorem varint_call {w : World} {A : Around} {h₀ : Heap} {s : Shared} {E : Value → Shared → Prop} {Q : Value → Shared → Prop} {mean : ExcName → Option Value} {mg mb : Str → Option Value}
    {it : Addr} {b : Array UInt8} {tb : Tok} {p : Nat} {cs : List Int}
    (KX : (hd.heap_39 w.params).In h₀) (T : TP mean mg mb h₀) (hk₀ : ∀ b o, h₀.get? b = some o → s.heap.get? b = some o) (hd : A.depth + 3 < recursionLimit) (hh : A.handled = none)
    (hit : s.heap.get? it = some (biter b tb p)) (hit0 : h₀.get? it = none)
    (hcl : cs.length ≤ 64) (hcs : ∀ c ∈ cs, 65 ≤ c ∧ c ≤ 80) (hb : ∀ i, i < cs.length + 1 → (KBw.bInts b)[p + i]? = (cs ++ [39])[i]?)
    (hQ : ∀ t h' tk', h'.get? it = some (biter b tb (p + (cs.length + 1))) → (∀ b o, b ≠ it → s.heap.get? b = some o → h'.get? b = some o) → Q (.int (pvF (cs ++ [39])) t) { s with heap := h', toks := tk' }) :
    wpAny (model PR w) A (call (.ref 21) [.ref it]) Q E s := by
  have dum : Fills Mine.hd.heap_39 PySem.Challenge.rw_wf0021_01 True := by k_fill; trivial
  obtain ⟨ah, ad, af, ag, au⟩ := A
  obtain rfl : ah = none := hh
  dsimp only at hd
  refine enterH (binds := [(Str.ofString "iterator", .ref it)]) [(it, biter b tb p)] KX T hk₀ (fun q hq => by obtain rfl := List.mem_singleton.mp hq; exact ⟨hit, hit0⟩) (by k_is) (by k_is) (by show ad < recursionLimit; omega) (BindsTo.of_eq rfl) (locs rfl) ?_ rfl rfl rfl (by decide)
  intro g h₁ hg1 hg2 KXg Tg F N
  try dsimp only
  ((repeat' ( (fail_if_success (with_reducible show wpAny _ _ (inplaceOp Operator.LShift _ _) _ _ _)); ((( ((( (fail_if_success (with_reducible show wpAny _ _ (exec (Stmt.For _ _ _ _ _) _) _ _ _)); (fail_if_success (with_reducible show wpAny _ _ (exec (Stmt.While _ _ _ _) _) _ _ _)); (fail_if_success (with_reducible show wpAny _ _ (pyIter (Value.ref _)) _ _ _)); (fail_if_success (with_reducible show wpAny _ _ (call (Value.ref _) _ _) _ _ _)); (fail_if_success (with_reducible show wpAny _ _ (call (Value.builtin "next") _ _) _ _ _)); (fail_if_success (with_reducible show wpAny _ _ (eval (Expr.ListComp _ _ _ _) _) _ _ _)); (fail_if_success (with_reducible show LCg.CompEnd _ _ _ _ _ _ _ _ _ _ _ _ _ _)); (fail_if_success (with_reducible show LoopStep3 _ _ _ _ _ _ _ _ _ _)); (fail_if_success (with_reducible show LoopStepV _ _ _ _ _ _ _ _ _ _)); skip))); (fail_if_success (with_reducible show wpAny _ _ (exec (Stmt.Assign _ (Expr.ListComp _ _ _ _) _) _) _ _ _)); (((first | ((with_reducible show wpAny _ _ (storeName _ _ _) _ _ _); dsimp only; walk1) | ((first | (k_unfold; (try dsimp only)) | (k_end; wrow_close) | walk1 | (dsimp only; walk1) | (leave1; walk_say "STEP leave1"; try dsimp only) | fail "no step")))))))))))
  rename Fr _ _ _ _ => F1
  rename News _ _ _ _ => N1
  refine b_next (N1 _ (.head _)).1 (c := (cs ++ [39])[0]'(by simp)) (by have := hb 0 (by omega); rw [Nat.add_zero] at this; rw [this]; simp) (fun h' u k hi' hs => ?_)
  obtain ⟨F2, N2⟩ := upd1 F1 N1 hs hi' (by simp)
  clear F1 N1
  ((repeat' ( (fail_if_success (with_reducible show wpAny _ _ (inplaceOp Operator.LShift _ _) _ _ _)); ((( ((( (fail_if_success (with_reducible show wpAny _ _ (exec (Stmt.For _ _ _ _ _) _) _ _ _)); (fail_if_success (with_reducible show wpAny _ _ (exec (Stmt.While _ _ _ _) _) _ _ _)); (fail_if_success (with_reducible show wpAny _ _ (pyIter (Value.ref _)) _ _ _)); (fail_if_success (with_reducible show wpAny _ _ (call (Value.ref _) _ _) _ _ _)); (fail_if_success (with_reducible show wpAny _ _ (call (Value.builtin "next") _ _) _ _ _)); (fail_if_success (with_reducible show wpAny _ _ (eval (Expr.ListComp _ _ _ _) _) _ _ _)); (fail_if_success (with_reducible show LCg.CompEnd _ _ _ _ _ _ _ _ _ _ _ _ _ _)); (fail_if_success (with_reducible show LoopStep3 _ _ _ _ _ _ _ _ _ _)); (fail_if_success (with_reducible show LoopStepV _ _ _ _ _ _ _ _ _ _)); skip))); (fail_if_success (with_reducible show wpAny _ _ (exec (Stmt.Assign _ (Expr.ListComp _ _ _ _) _) _) _ _ _)); (((first | ((with_reducible show wpAny _ _ (storeName _ _ _) _ _ _); dsimp only; walk1) | ((first | (k_unfold; (try dsimp only)) | (k_end; wrow_close) | walk1 | (dsimp only; walk1) | (leave1; walk_say "STEP leave1"; try dsimp only) | fail "no step")))))))))))
  rename Fr _ _ _ _ => F1
  rename News _ _ _ _ => N1
  refine While_invK (fun n m nx => ∃ j c, j + n = cs.length ∧ (cs ++ [39])[j]? = some c ∧ nx = [(it, biter b tb (p + (j + 1)))] ∧ m (Str.ofString "iterator") = some (.ref it) ∧ (∃ t, m (Str.ofString "b") = some (.int c t)) ∧ ∃ t, m (Str.ofString "val") = some (.int (pvF ((cs ++ [39]).take (j + 1))) t)) F1 N1 (n₀ := cs.length) ?_ ?_
  · refine ⟨0, (cs ++ [39])[0]'(by simp), by omega, by simp, rfl, rfl, ⟨_, rfl⟩, ?_⟩
    refine ex_int rfl ?_
    rw [bitAnd_m6]
    cases cs <;> simp [pvF]
  intro K hK k m₁ news₁ h₁ tk₁ F N hj
  refine bb fun G hG => ?_
  obtain ⟨j, c, j1, j2, j3, j4, ⟨tc, j5⟩, tv, j6⟩ := hj
  subst j3
  refine hG ?_
  clear hG G
  have F := know3 F j4 j5 j6
  clear F1 N1
  have hjl : j ≤ cs.length := by omega
  have hc : (j < cs.length → 65 ≤ c ∧ c ≤ 80) ∧ (j = cs.length → c = 39) := by
    constructor
    · intro hj
      rw [List.getElem?_append_left hj] at j2
      exact hcs c (List.mem_of_getElem? j2)
    · intro hj
      subst hj
      simp at j2
      omega
  have h64 : bitAnd c 64 = if j < cs.length then 64 else 0 := by
    rcases Nat.lt_or_eq_of_le hjl with hj | hj
    · have := hc.1 hj
      have e := and64 ⟨c.toNat, by omega⟩
      rw [show ((⟨c.toNat, by omega⟩ : Fin 81).val : Int) = c from by simp; omega] at e
      rw [e, if_pos hj, if_pos (by simp; omega)]
    · have := hc.2 hj
      subst this
      rw [if_neg (by omega)]
      decide
  have hlen : ((cs ++ [39]).take (j + 1)).length = j + 1 := by simp; omega
  ((repeat' ( (fail_if_success (with_reducible show wpAny _ _ (inplaceOp Operator.LShift _ _) _ _ _)); ((( ((( (fail_if_success (with_reducible show wpAny _ _ (exec (Stmt.For _ _ _ _ _) _) _ _ _)); (fail_if_success (with_reducible show wpAny _ _ (exec (Stmt.While _ _ _ _) _) _ _ _)); (fail_if_success (with_reducible show wpAny _ _ (pyIter (Value.ref _)) _ _ _)); (fail_if_success (with_reducible show wpAny _ _ (call (Value.ref _) _ _) _ _ _)); (fail_if_success (with_reducible show wpAny _ _ (call (Value.builtin "next") _ _) _ _ _)); (fail_if_success (with_reducible show wpAny _ _ (eval (Expr.ListComp _ _ _ _) _) _ _ _)); (fail_if_success (with_reducible show LCg.CompEnd _ _ _ _ _ _ _ _ _ _ _ _ _ _)); (fail_if_success (with_reducible show LoopStep3 _ _ _ _ _ _ _ _ _ _)); (fail_if_success (with_reducible show LoopStepV _ _ _ _ _ _ _ _ _ _)); skip))); (fail_if_success (with_reducible show wpAny _ _ (exec (Stmt.Assign _ (Expr.ListComp _ _ _ _) _) _) _ _ _)); (((first | ((with_reducible show wpAny _ _ (storeName _ _ _) _ _ _); dsimp only; walk1) | ((first | (k_unfold; (try dsimp only)) | (k_end; wrow_close) | walk1 | (dsimp only; walk1) | (leave1; walk_say "STEP leave1"; try dsimp only) | fail "no step")))))))))))
  · rename Fr _ _ _ _ => F1
    rename News _ _ _ _ => N1
    refine ilshift_int (by decide) (pvF_bits (by omega)) ?_
    try dsimp only
    have hj : j < cs.length := by
      rcases Nat.lt_or_eq_of_le hjl with hj | hj
      · exact hj
      · exfalso
        rw [if_neg (by omega)] at h64
        contradiction
    have hnx : (cs ++ [39])[j + 1]? = some ((cs ++ [39])[j + 1]'(by simp; omega)) := by simp
    ((repeat' ( (fail_if_success (with_reducible show wpAny _ _ (inplaceOp Operator.LShift _ _) _ _ _)); ((( ((( (fail_if_success (with_reducible show wpAny _ _ (exec (Stmt.For _ _ _ _ _) _) _ _ _)); (fail_if_success (with_reducible show wpAny _ _ (exec (Stmt.While _ _ _ _) _) _ _ _)); (fail_if_success (with_reducible show wpAny _ _ (pyIter (Value.ref _)) _ _ _)); (fail_if_success (with_reducible show wpAny _ _ (call (Value.ref _) _ _) _ _ _)); (fail_if_success (with_reducible show wpAny _ _ (call (Value.builtin "next") _ _) _ _ _)); (fail_if_success (with_reducible show wpAny _ _ (eval (Expr.ListComp _ _ _ _) _) _ _ _)); (fail_if_success (with_reducible show LCg.CompEnd _ _ _ _ _ _ _ _ _ _ _ _ _ _)); (fail_if_success (with_reducible show LoopStep3 _ _ _ _ _ _ _ _ _ _)); (fail_if_success (with_reducible show LoopStepV _ _ _ _ _ _ _ _ _ _)); skip))); (fail_if_success (with_reducible show wpAny _ _ (exec (Stmt.Assign _ (Expr.ListComp _ _ _ _) _) _) _ _ _)); (((first | ((with_reducible show wpAny _ _ (storeName _ _ _) _ _ _); dsimp only; walk1) | ((first | (k_unfold; (try dsimp only)) | (k_end; wrow_close) | walk1 | (dsimp only; walk1) | (leave1; walk_say "STEP leave1"; try dsimp only) | fail "no step")))))))))))
    rename Fr _ _ _ _ => F1
    rename News _ _ _ _ => N1
    refine b_next (N1 _ (.head _)).1 (c := (cs ++ [39])[j + 1]'(by simp; omega)) (by rw [hb (j + 1) (by omega)]; exact hnx) (fun h' u k hi' hs => ?_)
    obtain ⟨F2, N2⟩ := upd1 F1 N1 hs hi' (by simp)
    clear F1 N1
    ((repeat' ( (fail_if_success (with_reducible show wpAny _ _ (inplaceOp Operator.LShift _ _) _ _ _)); ((( ((( (fail_if_success (with_reducible show wpAny _ _ (exec (Stmt.For _ _ _ _ _) _) _ _ _)); (fail_if_success (with_reducible show wpAny _ _ (exec (Stmt.While _ _ _ _) _) _ _ _)); (fail_if_success (with_reducible show wpAny _ _ (pyIter (Value.ref _)) _ _ _)); (fail_if_success (with_reducible show wpAny _ _ (call (Value.ref _) _ _) _ _ _)); (fail_if_success (with_reducible show wpAny _ _ (call (Value.builtin "next") _ _) _ _ _)); (fail_if_success (with_reducible show wpAny _ _ (eval (Expr.ListComp _ _ _ _) _) _ _ _)); (fail_if_success (with_reducible show LCg.CompEnd _ _ _ _ _ _ _ _ _ _ _ _ _ _)); (fail_if_success (with_reducible show LoopStep3 _ _ _ _ _ _ _ _ _ _)); (fail_if_success (with_reducible show LoopStepV _ _ _ _ _ _ _ _ _ _)); skip))); (fail_if_success (with_reducible show wpAny _ _ (exec (Stmt.Assign _ (Expr.ListComp _ _ _ _) _) _) _ _ _)); (((first | ((with_reducible show wpAny _ _ (storeName _ _ _) _ _ _); dsimp only; walk1) | ((first | (k_unfold; (try dsimp only)) | (k_end; wrow_close) | walk1 | (dsimp only; walk1) | (leave1; walk_say "STEP leave1"; try dsimp only) | fail "no step")))))))))))
    rename Fr _ _ _ _ => F1
    rename News _ _ _ _ => N1
    have e : bitOr (pvF (List.take (j + 1) (cs ++ [39])) * 2 ^ (6 : Int).toNat) (bitAnd ((cs ++ [39])[j + 1]'(by simp; omega)) 63) = pvF (List.take (j + 1 + 1) (cs ++ [39])) := by
      rw [bitAnd_m6, or_low (pvF_bound _ _ rfl).1, List.take_add_one (i := j + 1), hnx, Option.toList_some, pvF_snoc]
    refine WhileStep.intro (n' := cs.length - (j + 1)) F1 N1 (by omega) (hK _ _ _ ⟨j + 1, (cs ++ [39])[j + 1]'(by simp; omega), by omega, hnx, by rw [Nat.add_assoc p], rfl, ⟨_, rfl⟩, ex_int rfl e⟩)
  · have hj : j = cs.length := by
      rcases Nat.lt_or_eq_of_le hjl with hj | hj
      · exfalso
        rw [if_pos hj] at h64
        omega
      · exact hj
    subst hj
    rw [List.take_of_length_le (by simp)]
    refine hQ _ _ _ (N _ (.head _)).1 (fun b' o hne e => F.keep b' o (hg2 b' o e ?_))
    simpa using hne
section
variable {w : World} {A : Around} {E : Value → Shared → Prop} {s : Shared} {h₀ : Heap} {L : Addr} {m : Str → Option Value} {env : Env}
theorem news_but1 {h h' : Heap} {a : Addr} {o o' : Obj} {pre post : List (Addr × Obj)} (N : News h₀ L h (pre ++ (a, o) :: post)) (hk : ∀ b o, b ≠ a → h.get? b = some o → h'.get? b = some o) (ho : h'.get? a = some o')
    (h1 : ∀ p ∈ pre, p.1 ≠ a) (h2 : ∀ p ∈ post, p.1 ≠ a) : News h₀ L h' (pre ++ (a, o') :: post) := fun p hp => by
  rcases List.mem_append.mp hp with q | q
  · have P := N p (List.mem_append_left _ q)
    exact ⟨hk _ _ (h1 p q) P.1, P.2⟩
  · rcases List.mem_cons.mp q with rfl | q
    · exact ⟨ho, (N (a, o) (List.mem_append_right _ (.head _))).2⟩
    · have P := N p (List.mem_append_right _ (.tail _ q))
      exact ⟨hk _ _ (h2 p q) P.1, P.2⟩
theorem fr_but1 {h h' : Heap} {a : Addr} (F : Fr h₀ L h m) (hk : ∀ b o, b ≠ a → h.get? b = some o → h'.get? b = some o) (hL : a ≠ L) (ha : h₀.get? a = none) : Fr h₀ L h' m :=
  LCg.fr_but (I := a) F (fun b o hb e => hk b o (by simpa using hb) e) (Ne.symm hL) ha
theorem news_sub {h : Heap} {l l' : List (Addr × Obj)} (N : News h₀ L h l) (hs : ∀ p ∈ l', p ∈ l) : News h₀ L h l' := fun p hp => N p (hs p hp)
theorem get_int {l : Addr} {vs : List Value} {ns : List Int} {n : Nat} {k : Int} {t : Tok} {Q : Value → Shared → Prop} (hl : s.heap.get? l = some (listOf vs.toArray n)) (hi : IntsAre vs ns) (h0 : 0 ≤ k) (hk : k < ns.length) (hfit : k < 2 ^ 63)
    (h : ∀ c u, ns[k.toNat]? = some c → Q (.int c u) s) : wpAny (model PR w) A (getItem (.ref l) (.int k t)) Q E s := by
  have hlt : k.toNat < ns.length := by omega
  obtain ⟨u, hu⟩ := hi.get k.toNat ns[k.toNat] (by simp [hlt])
  exact wpAny_getItem_list (x := .int ns[k.toNat] u) ⟨_, hl, rfl, n, rfl⟩ h0 hfit (by simpa using hu) (h _ _ (by simp [hlt]))
theorem list_set {l : Addr} {items : Array Value} {n : Nat} {k : Int} {t : Tok} {v : Value} {Q : Unit → Shared → Prop} (hl : s.heap.get? l = some (listOf items n)) (h0 : 0 ≤ k) (hfit : k < 2 ^ 63) (hn : k < items.size)
    (hQ : ∀ h', h'.get? l = some (listOf (items.setIfInBounds k.toNat v) n) → Heap.SameBut l s.heap h' → Q () { s with heap := h' }) :
    wpAny (model PR w) A (setItem (.ref l) (.int k t) v) Q E s := by
  have hL : s.heap.IsList l items := ⟨_, hl, rfl, n, rfl⟩
  obtain ⟨o, ho, hc, ne, hd⟩ := id hL
  obtain rfl : o = listOf items n := by rw [hl] at ho; exact (Option.some.inj ho).symm
  unfold setItem
  try with_reducible refine wpAny_holding ?_
  first | refine wpAny_bind (wpAny_pure ?_) | skip
  refine wpAny_bind (wpAny_sequenceKey hL.typeIs (by decide) ?_)
  refine wpAny_bind (wpAny_callSpecial?_slot (name := Str.ofString "__setitem__") hL.typeIs slot_list_setitem
    (wpAny_call_entry slot_list_setitem hL.typeIs entry_list_setitem ?_ (args_list_setitem _ _ _)))
  show wpAny _ _ (Builtin.List.listSubscript? (.int k t) >>= _) _ _ s
  refine wpAny_bind (wpAny_listSubscript_int (fitsIndex_of h0 hfit) ?_)
  clear hfit
  obtain ⟨j, rfl⟩ := Int.eq_ofNat_of_zero_le h0
  have hj : j < items.size := by omega
  have hx' : items[j]? = some items[j] := Array.getElem?_eq_getElem hj
  show wpAny _ _ ((seqItemAt l j >>= fun r => pure (r.map (j, ·))) >>= _) _ _ s
  refine wpAny_bind (wpAny_bind (wpAny_seqItemAt ho hd (wpAny_pure ?_)))
  rw [hx']
  show wpAny _ _ (setSeqItemAt l j v >>= _) _ _ s
  obtain ⟨n', hd'⟩ := Obj.data_mapSeq hd (·.setIfInBounds j v)
  have hfin : (s.heap.update l (Obj.mapSeq (·.setIfInBounds j v))).get? l = some (listOf (items.setIfInBounds j v) n) := by
    refine (Heap.get?_update_self _ ho (Obj.isFreed_of_seq hd')).trans ?_
    simp [Obj.mapSeq]
  refine wpAny_bind (wpAny_setSeqItemAt ho hd ?_)
  first
    | exact wpAny_bind (wpAny_pure (wpAny_pure ⟨.none, rfl, wpAny_pure (hQ _ hfin (Heap.SameBut.update ..))⟩))
    | exact wpAny_pure ⟨.none, rfl, wpAny_pure (hQ _ hfin (Heap.SameBut.update ..))⟩
theorem ints_set : ∀ {vs : List Value} {ns : List Int} {c : Int} {u : Tok} (j : Nat), IntsAre vs ns → IntsAre (vs.set j (.int c u)) (ns.set j c)
  | _, _, _, _, _, .nil => .nil
  | _, _, _, _, 0, .cons _ _ r => .cons _ _ r
  | _, _, _, _, j + 1, .cons _ _ r => .cons _ _ (ints_set j r)
noncomputable def CompIt (w : World) (A : Around) (h₀ : Heap) (L : Addr) (m : Str → Option Value) (env : Env) (elt : Expr) (x : Str) (scope : Scope) (cl : List (Str × Addr)) (Fin : Shared → List Value → List (Addr × Obj) → Prop) (it : Value) (s₂ : Shared) : Prop :=
  ∃ (I : Addr) (fp : List Addr) (n : Nat) (P : Nat → Value → Prop) (St : Nat → Heap → Prop) (S : List (Addr × Obj) → Prop) (news : List (Addr × Obj)), it = .ref I ∧ Walks PR w A I fp [I] n P St ∧ n ≤ sizeLine ∧
    (∀ i h, St i h → ∃ o, h.get? I = some o) ∧
    (∀ i h h' o nw, St i h → h.get? I = some o → h'.get? I = some o → (∀ b o, h₀.get? b = some o → h'.get? b = some o) → News h₀ L h' nw → S nw → St i h') ∧
    St 0 s₂.heap ∧ (∀ b ∈ fp, b < s₂.heap.objs.size) ∧ Fr h₀ L s₂.heap m ∧ News h₀ L s₂.heap news ∧ L ≠ I ∧ h₀.get? I = none ∧ (∀ p ∈ news, p.1 ≠ I) ∧ S news ∧
    LCg.CompRest PR w A h₀ L m env elt x scope cl s₂ S P (Fin s₂) n 0 [] news
theorem rest_inv {elt : Expr} {x : Str} {scope : Scope} {cl : List (Str × Addr)} {S : List (Addr × Obj) → Prop} {P : Nat → Value → Prop} {Fin : List Value → List (Addr × Obj) → Prop} {n : Nat}
    (J : Nat → List Value → List (Addr × Obj) → Prop) (fin : ∀ ys news, J n ys news → Fin ys news)
    (turn : ∀ i ys news v I oI C oC D m₂ h tk (E' : Value → Shared → Prop), i < n → P i v → J i ys news → LCg.NsObj oC m₂ → m₂ x = some v → Fr h₀ L h m → News h₀ L h ((I, oI) :: (C, oC) :: (D, LCg.lst ys) :: news) → LCg.Off3 I C D news → ((@Ne Nat I C) ∧ (@Ne Nat I D) ∧ (@Ne Nat C D)) →
      wpAny (model PR w) A (eval elt (compEnvC scope cl C env)) (LCg.CompEnd h₀ L m { s with heap := h, toks := tk } I oI C oC D (LCg.lst ys) S (fun y news' => J (i + 1) (ys ++ [y]) news')) E' { s with heap := h, toks := tk }) :
    ∀ k i ys news, i + k = n → J i ys news → LCg.CompRest PR w A h₀ L m env elt x scope cl s S P Fin k i ys news
  | 0, i, ys, news, hi, hJ => by
    obtain rfl : i = n := by omega
    exact LCg.CompRest.zero (fin _ _ hJ)
  | k + 1, i, ys, news, hi, hJ => by
    refine LCg.CompRest.succ fun v I oI C oC D m₂ h tk E' hP hC hx F N off ne => ?_
    refine wpAny_mono (turn i ys news v I oI C oC D m₂ h tk E' (by omega) hP hJ hC hx F N off ne) (fun y s' hy => ?_) fun _ _ e => e
    obtain ⟨h', tk', news', e, F', N', off', hS, hJ'⟩ := hy
    exact ⟨h', tk', news', e, F', N', off', hS, rest_inv J fin turn k (i + 1) (ys ++ [y]) news' (by omega) hJ'⟩
theorem rest_invK {elt : Expr} {x : Str} {scope : Scope} {cl : List (Str × Addr)} {S : List (Addr × Obj) → Prop} {P : Nat → Value → Prop} {Fin : List Value → List (Addr × Obj) → Prop} {n : Nat}
    (J : Nat → List Value → List (Addr × Obj) → Prop) (fin : ∀ ys news, J n ys news → Fin ys news)
    (turn : ∀ (K : Value → List (Addr × Obj) → Prop) (m' : Str → Option Value) (S' : List (Addr × Obj) → Prop) i ys news v I oI C oC D m₂ h tk (E' : Value → Shared → Prop), (∀ y nx, J (i + 1) (ys ++ [y]) nx → K y nx) → (∀ nx, S nx → S' nx) → i < n → P i v → J i ys news → LCg.NsObj oC m₂ → m₂ x = some v → Fr h₀ L h m' → News h₀ L h ((I, oI) :: (C, oC) :: (D, LCg.lst ys) :: news) → LCg.Off3 I C D news → ((@Ne Nat I C) ∧ (@Ne Nat I D) ∧ (@Ne Nat C D)) →
      wpAny (model PR w) A (eval elt (compEnvC scope cl C env)) (LCg.CompEnd h₀ L m' { s with heap := h, toks := tk } I oI C oC D (LCg.lst ys) S' K) E' { s with heap := h, toks := tk }) :
    ∀ k i ys news, i + k = n → J i ys news → LCg.CompRest PR w A h₀ L m env elt x scope cl s S P Fin k i ys news :=
  rest_inv J fin fun i ys news v I oI C oC D m₂ h tk E' h1 h2 h3 h4 h5 h6 h7 h8 h9 => turn (fun y nx => J (i + 1) (ys ++ [y]) nx) m S i ys news v I oI C oC D m₂ h tk E' (fun _ _ h => h) (fun _ h => h) h1 h2 h3 h4 h5 h6 h7 h8 h9

theorem comp_eval {elt iter : Expr} {x : Str} {px : Pos} {scope : Scope} {cl : List (Str × Addr)} {pos : Pos} {Q : Value → Shared → Prop} (_F₀ : Fr h₀ L s.heap m)
    (hclos : closureFor scope env = pure cl) (hcell : ∀ y ∈ scope.names, y.2 ≠ .cell) (hkind : scope.kind = .function)
    (hnames : ∀ y ∈ scope.names, y.2 = .local → scope.names.lookup y.1 = some .local) (hx : scope.names.lookup x = some .local)
    (h : wpAny (model PR w) A (eval iter env) (fun xv s₁ => wpAny (model PR w) A (pyIter xv) (CompIt w A h₀ L m env elt x scope cl (fun s₂ => LCg.FinE h₀ L m s₂ Q)) E s₁) E s)
    (hs : ∀ x, foldedSetIterable iter env x = pure x := by intro _; rfl) :
    wpAny (model PR w) A (eval (.ListComp elt [⟨.Name x px, iter, [], 0⟩] scope pos) env) Q E s := by
  rw [eval_ListComp]
  refine wpAny_comprehension_free (use := none) rfl hs hclos hkind hnames (wpAny_mono h (fun xv s₁ h₁ => wpAny_mono h₁ (fun it s₂ h₂ => ?_) fun _ _ e => e) fun _ _ e => e)
  obtain ⟨I, fp, n, P, St, S, news, rfl, W, hsz, hIo, hSt, hst, hfp, F, N, hLI, hI₀, off, hS, R⟩ := h₂
  refine LCg.block_U W hsz hIo hSt hcell hkind hx hst hfp F N hLI hI₀ off hS R ?_
  intro D C h' tk m' ys news' F' N' o1 hn hC₀ hD₀ hCL hDL hCD offC fin
  refine ⟨m', hn, fun h'' hs'' => fin D h'' tk (F'.change hs'' hCL hC₀) (fun p hp => ?_) o1⟩
  refine ⟨hs''.extBut _ _ ?_ (N' p hp).1, (N' p hp).2⟩
  rcases List.mem_cons.mp hp with rfl | hp
  · exact Ne.symm hCD
  · exact offC p hp

theorem comp_assign {elt iter : Expr} {x y : Str} {px py : Pos} {scope : Scope} {cl : List (Str × Addr)} {pos spos : Pos} {Q : Flow → Shared → Prop} (_F₀ : Fr h₀ L s.heap m) (hLe : env.locals = L)
    (hsw : swapsWith (.ListComp elt [⟨.Name x px, iter, [], 0⟩] scope pos) (some (.Name y py)) spos.line env = pure true)
    (hclos : closureFor scope env = pure cl) (hcell : ∀ z ∈ scope.names, z.2 ≠ .cell) (hkind : scope.kind = .function)
    (hnames : ∀ z ∈ scope.names, z.2 = .local → scope.names.lookup z.1 = some .local) (hx : scope.names.lookup x = some .local)
    (hy : env.kindOf y = some .local) (hp : (env.scope.kind == .class || (env.scope.kind == .module && env.locals != env.globals)) = false)
    (h : wpAny (model PR w) A (eval iter env) (fun xv s₁ => wpAny (model PR w) A (pyIter xv) (CompIt w A h₀ L m env elt x scope cl (fun s₂ => LCg.FinA h₀ L m s₂ y Q)) E s₁) E s)
    (hs : ∀ x, foldedSetIterable iter env x = pure x := by intro _; rfl) :
    wpAny (model PR w) A (exec (.Assign [.Name y py] (.ListComp elt [⟨.Name x px, iter, [], 0⟩] scope pos) spos) env) Q E s := by
  subst hLe
  rw [exec_Assign_Name_used _ _ _ _ hsw]
  refine wpAny_bind (wpAny_standAt (wpAny_bind ?_))
  show wpAny _ A (do let _ ← comprehension (.ListComp elt [⟨.Name x px, iter, [], 0⟩] scope pos) scope env _ (newList []) false (eval iter env) (some (assign (.Name y py) env))) _ _ s
  refine wpAny_bind (wpAny_mono (wpAny_comprehension_free (use := some (assign (.Name y py) env)) (Q := fun _ s' => Q .next s') rfl hs hclos hkind hnames
    (wpAny_mono h (fun xv s₁ h₁ => wpAny_mono h₁ (fun it s₂ h₂ => ?_) fun _ _ e => e) fun _ _ e => e)) (fun _ s' hq => wpAny_pure (wpAny_pure hq)) fun _ _ e => e)
  obtain ⟨I, fp, n, P, St, S, news, rfl, W, hsz, hIo, hSt, hst, hfp, F, N, hLI, hI₀, off, hS, R⟩ := h₂
  refine LCg.block_U W hsz hIo hSt hcell hkind hx hst hfp F N hLI hI₀ off hS R ?_
  intro D C h' tk m' ys news' F' N' o1 hn hC₀ hD₀ hCL hDL hCD offC fin
  show wpAny _ A (assign (.Name y py) env (.ref D)) _ _ _
  refine wpAny_assign_Name (wpAny_storeName_local hy F'.ns (fun h₂ hn₂ hs₂ => ?_) hp)
  have hL₀ : h₀.get? env.locals = none := Heap.get?_none_of_le F'.above
  have F₂ : Fr h₀ env.locals h₂ (fun z => if z = y then some (.ref D) else m z) := ⟨hn₂, fun b o e => hs₂.extBut b o (fun q => by rw [q, hL₀] at e; cases e) (F'.keep b o e), F'.above⟩
  refine ⟨m', hn.sameBut hs₂ hCL, fun h'' hs'' => fin D h'' _ (F₂.change hs'' hCL hC₀) (fun p hp => ?_) o1⟩
  have z : h₂.get? p.1 = some p.2 := hs₂.extBut _ _ (N' p hp).2.1 (N' p hp).1
  refine ⟨hs''.extBut _ _ ?_ z, (N' p hp).2⟩
  rcases List.mem_cons.mp hp with rfl | hp
  · exact Ne.symm hCD
  · exact offC p hp

section
variable {elt : Expr} {x : Str} {scope : Scope} {cl : List (Str × Addr)} {Fin : Shared → List Value → List (Addr × Obj) → Prop} {news : List (Addr × Obj)}
theorem it_bytes {b : Array UInt8} {t : Tok} (hh : A.handled = none) (F : Fr h₀ L s.heap m) (N : News h₀ L s.heap news) (hsz : b.size ≤ sizeLine)
    (R : ∀ h, LCg.CompRest PR w A h₀ L m env elt x scope cl { s with heap := h } (fun _ => True) (fun i v => ∃ c u, (KBw.bInts b)[i]? = some c ∧ v = .int c u) (Fin { s with heap := h }) b.size 0 [] news) :
    wpAny (model PR w) A (pyIter (.bytes b t)) (CompIt w A h₀ L m env elt x scope cl Fin) E s := by
  refine KBw.pyIter_bytes ?_
  have W := KBw.walks (prog := PR) (w := w) hh s.heap.objs.size b t
  have W' : Walks PR w A s.heap.objs.size [s.heap.objs.size] [s.heap.objs.size] b.size (fun i v => ∃ c u, (KBw.bInts b)[i]? = some c ∧ v = .int c u) (fun i h => KBw.IsBytesIter h s.heap.objs.size b t i) :=
    { sub := W.sub, frame := W.frame, done := W.done, self := W.self,
      item := fun i s Q E hi st hQ => W.item i s Q E hi st fun v h' tk hP => hQ v h' tk (by obtain ⟨c, u, hc, rfl⟩ := hP; exact ⟨_, u, KBw.ints_get hc, rfl⟩) }
  refine ⟨_, _, _, _, _, (fun _ => True), news, rfl, W', hsz, (fun i h st => by obtain ⟨o, e, _⟩ := st; exact ⟨o, e⟩), (fun i h h' o nw st e e' _ _ _ => by obtain ⟨o', q, r⟩ := st; rw [e] at q; cases q; exact ⟨o, e', r⟩), ⟨_, Heap.get?_push_size _ rfl, rfl, rfl⟩, (fun b hb => ?_),
    F.keeps (fun _ _ e => Heap.get?_push_of_some _ e), N.grown (fun _ _ e => Heap.get?_push_of_some _ e), Nat.ne_of_lt F.ns.lt, next_is_new F, (fun p hp => Nat.ne_of_lt (Heap.lt_size (N p hp).1)), trivial, R _⟩
  rw [List.mem_singleton.mp hb]
  show s.heap.objs.size < (s.heap.push _).objs.size
  rw [Heap.size_push]; exact Nat.lt_succ_self _
theorem it_str {y : Str} {t : Tok} (hh : A.handled = none) (F : Fr h₀ L s.heap m) (N : News h₀ L s.heap news) (hsz : y.cps.size ≤ sizeLine)
    (R : ∀ h, LCg.CompRest PR w A h₀ L m env elt x scope cl { s with heap := h } (fun _ => True) (SignAt y) (Fin { s with heap := h }) y.cps.size 0 [] news) :
    wpAny (model PR w) A (pyIter (.str y t)) (CompIt w A h₀ L m env elt x scope cl Fin) E s := by
  have go : ∀ n : String, Walks PR w A s.heap.objs.size [s.heap.objs.size] [s.heap.objs.size] y.cps.size (SignAt y) (fun i h => h.IsStrIter s.heap.objs.size n y t i) → ∀ o : Obj, (s.heap.push o).IsStrIter s.heap.objs.size n y t 0 →
      CompIt w A h₀ L m env elt x scope cl Fin (.ref s.heap.objs.size) { s with heap := s.heap.push o } := fun n W o hst => by
    refine ⟨_, _, _, _, _, (fun _ => True), news, rfl, W, hsz, (fun i h st => by obtain ⟨o, e, _⟩ := st; exact ⟨o, e⟩), (fun i h h' o nw st e e' _ _ _ => by obtain ⟨o', q, r⟩ := st; rw [e] at q; cases q; exact ⟨o, e', r⟩), hst, (fun b hb => ?_),
      F.keeps (fun _ _ e => Heap.get?_push_of_some _ e), N.grown (fun _ _ e => Heap.get?_push_of_some _ e), Nat.ne_of_lt F.ns.lt, next_is_new F, (fun p hp => Nat.ne_of_lt (Heap.lt_size (N p hp).1)), trivial, R _⟩
    rw [List.mem_singleton.mp hb]
    show s.heap.objs.size < (s.heap.push _).objs.size
    rw [Heap.size_push]; exact Nat.lt_succ_self _
  cases ha : y.cps.all (· < 128)
  · exact wpAny_pyIter_wide ha (go _ (Walks.strWide hh _ y t) _ ⟨_, Heap.get?_push_size _ rfl, rfl, rfl⟩)
  · exact wpAny_pyIter_ascii ha (go _ (Walks.strAscii hh _ y t) _ ⟨_, Heap.get?_push_size _ rfl, rfl, rfl⟩)
theorem it_range {r : Addr} {a b : Int} {t u v : Tok} {n : Nat} (hh : A.handled = none) (F : Fr h₀ L s.heap m) (N : News h₀ L s.heap news)
    (hr : IsRange s.heap r a b 1 t u v) (hsm : Builtin.Range.small a b 1 = true) (hn : Builtin.Range.rangeSize a b 1 = ((n : Nat) : Int)) (hsz : n ≤ sizeLine)
    (R : ∀ h, LCg.CompRest PR w A h₀ L m env elt x scope cl { s with heap := h } (fun _ => True) (fun i v => ∃ t, v = .int (a + (i : Int)) t) (Fin { s with heap := h }) n 0 [] news) :
    wpAny (model PR w) A (pyIter (.ref r)) (CompIt w A h₀ L m env elt x scope cl Fin) E s := by
  refine wpAny_pyIter_range hr hsm ?_
  refine ⟨_, _, _, _, _, (fun _ => True), news, rfl, LCg.range_walks hh a n, hsz, (fun i h st => ⟨_, st⟩), LCg.range_st, (by show IsRangeIter _ _ _ _ _; rw [hn]; simpa using Heap.get?_push_size _ rfl), (fun b hb => ?_),
    F.keeps (fun _ _ e => Heap.get?_push_of_some _ e), N.grown (fun _ _ e => Heap.get?_push_of_some _ e), Nat.ne_of_lt F.ns.lt, next_is_new F, (fun p hp => Nat.ne_of_lt (Heap.lt_size (N p hp).1)), trivial, R _⟩
  rw [List.mem_singleton.mp hb]
  show s.heap.objs.size < (s.heap.push _).objs.size
  rw [Heap.size_push]; exact Nat.lt_succ_self _
theorem it_list {ax : Addr} {its : Array Value} (hh : A.handled = none) (F : Fr h₀ L s.heap m) (N : News h₀ L s.heap news) (S : LCg.SrcAt h₀ ax its news) (hsz : its.size ≤ sizeLine)
    (R : ∀ h, LCg.CompRest PR w A h₀ L m env elt x scope cl { s with heap := h } (LCg.SrcAt h₀ ax its) (fun i v => its[i]? = some v) (Fin { s with heap := h }) its.size 0 [] news) :
    wpAny (model PR w) A (pyIter (.ref ax)) (CompIt w A h₀ L m env elt x scope cl Fin) E s := by
  have hl := S.list F.keep N
  have hlt : ax < s.heap.objs.size := by obtain ⟨_, e, _⟩ := hl; exact Heap.lt_size e
  refine wpAny_pyIter_list hl ?_
  refine ⟨_, _, _, _, _, _, news, rfl, Walks.list hh s.heap.objs.size ax (Nat.ne_of_lt hlt) its, hsz, (fun i h st => by obtain ⟨o, e, _⟩ := st.1; exact ⟨o, e⟩), LCg.list_st, ⟨⟨_, Heap.get?_push_size _ rfl, rfl, rfl⟩, hl.push _⟩, (fun b hb => ?_),
    F.keeps (fun _ _ e => Heap.get?_push_of_some _ e), N.grown (fun _ _ e => Heap.get?_push_of_some _ e), Nat.ne_of_lt F.ns.lt, next_is_new F, (fun p hp => Nat.ne_of_lt (Heap.lt_size (N p hp).1)), S, R _⟩
  show b < (s.heap.push _).objs.size
  rw [Heap.size_push]
  rcases List.mem_cons.mp hb with rfl | hb
  · exact Nat.lt_succ_self _
  · rw [List.mem_singleton.mp hb]; exact Nat.lt_succ_of_lt hlt
end
end
theorem bi_no_len : typeLookup (.type "bytes_iterator") "__len__" = pure none := by rw [typeLookup_type, builtinLookup_eq_fast]; kernel_rfl
theorem bi_hint : typeLookup (.type "bytes_iterator") "__length_hint__" = pure (some (.builtin "bytes_iterator.__length_hint__")) := by rw [typeLookup_type, builtinLookup_eq_fast]; kernel_rfl
theorem bi_sub : isSubtype (.type "bytes_iterator") (.type "bytes_iterator") = pure true := by rw [isSubtype_type]; kernel_rfl
theorem list_biter {w : World} {A : Around} {s : Shared} {E : Value → Shared → Prop} {Q : Value → Shared → Prop} {it : Addr} {b : Array UInt8} {t : Tok} (hh : A.handled = none)
    (hit : s.heap.get? it = some (biter b t b.size))
    (h : ∀ D c h' k, s.heap.get? D = none → h'.get? D = some (listOf #[] c) → (∀ a o, a ≠ it → s.heap.get? a = some o → h'.get? a = some o) → Q (.ref D) { s with heap := h', toks := k }) :
    wpAny (model PR w) A (call (.type "list") [.ref it]) Q E s := by
  have hlt := Heap.lt_size hit
  have hne : s.heap.objs.size ≠ it := fun e => Nat.lt_irrefl _ (e ▸ hlt)
  have hSf : s.heap.objs.size ∉ [it] := fun hm => hne (List.mem_singleton.mp hm)
  refine callType_codes (Q₁ := fun obj s₁ => obj = .ref s.heap.objs.size ∧ s₁ = { s with heap := s.heap.push { cls := .type "list", data := .seq #[] } }) F.called_list (F.typeCall_list_1 _) F.entry_list_init
    (code_list_new _ ⟨rfl, rfl⟩) fun obj s₁ h₁ => ?_
  obtain ⟨rfl, rfl⟩ := h₁
  have hS : (s.heap.push { cls := .type "list", data := .seq #[] }).get? s.heap.objs.size = some { cls := .type "list", data := .seq #[] } := Heap.get?_push_size _ rfl
  refine ⟨⟨_, hS, rfl⟩, F.args_list_init_2 _ _, ?_⟩
  show wpAny _ A.in1.in1 (do let old ← Builtin.List.listItems (.ref s.heap.objs.size); Builtin.List.listUpdate (.ref s.heap.objs.size) (fun _ => #[]); letGo old.toList.reverse; Builtin.List.listExtendWith (.ref s.heap.objs.size) (.ref it) .none) _ _ _
  refine wpAny_bind ?_
  unfold Builtin.List.listItems
  refine wpAny_bind (wpAny_seqItems hS rfl (wpAny_pure ?_))
  show wpAny _ A.in1.in1 (updateSeq s.heap.objs.size (fun _ => #[]) >>= fun _ => letGo (#[] : Array Value).toList.reverse >>= fun _ => Builtin.List.listExtendWith (.ref s.heap.objs.size) (.ref it) .none) _ _ _
  refine wpAny_bind (wpAny_updateSeq hS rfl ?_)
  have hS₂ := Heap.get?_update_self (Obj.mapSeq (fun _ => (#[] : Array Value))) hS rfl
  refine wpAny_bind (wpAny_letGo ?_)
  have hit₂ : ((s.heap.push { cls := .type "list", data := .seq #[] }).update s.heap.objs.size (Obj.mapSeq fun _ => #[])).get? it = some (biter b t b.size) := (Heap.get?_update_other _ _ hne).trans (Heap.get?_push_of_some _ hit)
  have hi₂ : KBw.IsBytesIter ((s.heap.push { cls := .type "list", data := .seq #[] }).update s.heap.objs.size (Obj.mapSeq fun _ => #[])) it b t b.size := ⟨_, hit₂, rfl, rfl⟩
  generalize hH : (s.heap.push { cls := .type "list", data := .seq #[] }).update s.heap.objs.size (Obj.mapSeq fun _ => #[]) = H at *
  unfold Builtin.List.listExtendWith
  have hT : Shared.TypeIs { s with heap := H } (.ref it) "bytes_iterator" := ⟨_, hit₂, rfl⟩
  refine wpAny_bind (wpAny_typeOf hT ?_)
  have h1 : Builtin.List.listSameRef (.ref s.heap.objs.size) (.ref it) = false := by simp [Builtin.List.listSameRef, hne]
  have h2 : (Value.type "bytes_iterator" == Value.type "list") = false := by decide
  have h3 : (Value.type "bytes_iterator" == Value.type "tuple") = false := by decide
  simp only [h1, h2, h3, Bool.or_false, Bool.false_eq_true, if_false]
  refine wpAny_bind (KBw.pyIter_self hi₂ ?_)
  refine wpAny_bind (wpAny_holding ?_)
  unfold Builtin.List.listLengthHint
  refine wpAny_bind (wpAny_specialOf hT bi_no_len ?_)
  show wpAny _ _ (specialOf (Value.ref it) (Str.ofString "__length_hint__") >>= _) _ _ _
  refine wpAny_bind (wpAny_specialOf hT bi_hint ?_)
  have hsub := bi_sub
  have e1 : splitId "bytes_iterator.__length_hint__" = some ("bytes_iterator", "__length_hint__") := by decide +kernel
  dsimp only
  simp only [e1]
  refine wpAny_bind (wpAny_isInstance (T := "bytes_iterator") (b := true) hT hsub ?_)
  simp only [Bool.not_true, Bool.false_eq_true, if_false]
  rw [if_pos (by decide +kernel), if_neg (by decide +kernel)]
  refine wpAny_pure ?_
  rw [if_neg (by decide +kernel)]
  have W0 : Walks PR w A.in1.in1 it [it] [it] 0 (fun _ _ => True) (fun _ h => KBw.IsBytesIter h it b t b.size) :=
    { sub := fun _ hb => hb
      frame := fun _ _ _ st hk => let ⟨o, ho, r⟩ := st; ⟨o, hk it (by simp) o ho, r⟩
      item := fun i s Q E hi => absurd hi (Nat.not_lt_zero _)
      done := fun s Q E st hQ => KBw.next_end hh st (by simp) fun h' he' => hQ h' s.toks fun b o hb e => he' b o (fun h => hb (by simp [h])) e
      self := fun _ _ _ _ st hQ => KBw.pyIter_self st hQ }
  have hS3 : H.get? s.heap.objs.size = some { cls := .type "list", dict := none, data := .seq #[] 0, slots := #[] } := hS₂
  refine wpAny_pure ⟨plainId_quiet F.plain_extend_loop _, codeAny_extend_loopS (n := 0) W0.toS (by decide) _ hSf _ 0 0 _ _ _ rfl (Nat.le_refl _) hi₂ hS3 (ItemsOf.nil _) fun s' acc' c' hm hS' hacc => ?_⟩
  have hacc0 : acc' = #[] := by
    have := hacc.1
    exact Array.eq_empty_of_size_eq_zero this
  subst hacc0
  obtain ⟨h', gens', drawn', toks', os'⟩ := s'
  obtain ⟨hm1, hm2, hm3, hm4, hm5⟩ := hm
  dsimp only at hm1 hm2 hm3 hm4 hS'
  subst hm2 hm3 hm4
  refine ⟨rfl, h s.heap.objs.size c' h' toks' ?_ hS' ?_⟩
  · cases e : s.heap.get? s.heap.objs.size with
    | none => rfl
    | some o => exact absurd (Heap.lt_size e) (Nat.lt_irrefl _)
  · intro a o hne' e
    have ha : a ≠ s.heap.objs.size := fun q => Nat.lt_irrefl _ (q ▸ Heap.lt_size e)
    refine hm1 a o (by simp [hne', ha]) ?_
    rw [← hH]
    exact (Heap.get?_update_other _ _ (Ne.symm ha)).trans (Heap.get?_push_of_some _ e)
theorem ints_append : ∀ {vs us : List Value} {ns ks : List Int}, IntsAre vs ns → IntsAre us ks → IntsAre (vs ++ us) (ns ++ ks)
  | _, _, _, _, .nil, h => h
  | _, _, _, _, .cons n t r, h => .cons n t (ints_append r h)
theorem ints_snoc {vs : List Value} {ns : List Int} {k : Int} {t : Tok} (h : IntsAre vs ns) : IntsAre (vs ++ [.int k t]) (ns ++ [k]) := ints_append h (.cons k t .nil)
theorem b_iter {w : World} {A : Around} {s : Shared} {E : Value → Shared → Prop} {Q : Value → Shared → Prop} {h₀ : Heap} {L : Addr} {m : Str → Option Value} {news : List (Addr × Obj)} {b : Array UInt8} {t : Tok}
    (F : Fr h₀ L s.heap m) (N : News h₀ L s.heap news) (h : ∀ I h' t, Fr h₀ L h' m → News h₀ L h' ((I, biter b t 0) :: news) → (∀ p ∈ news, p.1 < I) → Q (.ref I) { s with heap := h' }) :
    wpAny (model PR w) A (call (.builtin "iter") [.bytes b t]) Q E s := by
  refine call_function_entry (by decide +kernel) (by decide +kernel) kdk_entry_iter (kdk_args_iter _) ?_
  unfold Builtin.«iter»
  refine wpAny_bind (m := someArgs "iter" 1 2 _) (wpAny_of_eq (a := [Value.bytes b t]) (by first | rfl | kernel_rfl!) ?_)
  show wpAny _ _ (pyIter (.bytes b t) >>= _) _ _ _
  refine wpAny_bind (KBw.pyIter_bytes ?_)
  exact wpAny_pure ⟨_, rfl, h _ _ _ (F.push _) (News.push F N _ rfl) (fun p hp => Heap.lt_size (N p hp).1)⟩
theorem blocks_len : ∀ l : List (List Int), l.length ≤ (l.map (· ++ [39])).flatten.length
  | [] => by simp
  | a :: r => by
    have := blocks_len r
    simp only [List.map_cons, List.flatten_cons, List.length_append, List.length_cons, List.length_nil] at this ⊢
    omega
theorem blocks_at : ∀ (l : List (List Int)) (i : Nat) (cs : List Int), l[i]? = some cs → ∀ j, j < cs.length + 1 → (l.map (· ++ [39])).flatten[((l.take i).map (fun cs => cs.length + 1)).sum + j]? = (cs ++ [39])[j]?
  | [], _, _, h, _, _ => by simp at h
  | a :: r, 0, cs, h, j, hj => by
    obtain rfl : a = cs := by simpa using h
    simp only [List.take_zero, List.map_nil, List.sum_nil, Nat.zero_add, List.map_cons, List.flatten_cons]
    rw [List.getElem?_append_left (by simpa using hj)]
  | a :: r, i + 1, cs, h, j, hj => by
    have ih := blocks_at r i cs (by simpa using h) j hj
    simp only [List.take_succ_cons, List.map_cons, List.sum_cons, List.flatten_cons]
    rw [List.getElem?_append_right (by simp; omega)]
    rw [← ih]
    congr 1
    simp only [List.length_append, List.length_cons, List.length_nil]
    omega
theorem blocks_sum : ∀ (l : List (List Int)), (l.map (fun cs => cs.length + 1)).sum = (l.map (· ++ [39])).flatten.length
  | [] => rfl
  | a :: r => by
    have := blocks_sum r
    simp only [List.map_cons, List.sum_cons, List.flatten_cons, List.length_append, List.length_cons, List.length_nil, this]
theorem range_small {n : Int} (h : 0 ≤ n ∧ n ≤ 1000) : Builtin.Range.small 0 n 1 = true := by
  have f : ∀ k : Int, 0 ≤ k ∧ k ≤ 1000 → Builtin.Range.rangeFitsLong k = true := by
    intro k hk
    simp [Builtin.Range.rangeFitsLong]
    omega
  have h3 : Builtin.Range.rangeFitsLong (if 0 < n then n else 0) = true := f _ (by split <;> omega)
  unfold Builtin.Range.small Builtin.Range.rangeSize
  simp [f 0 (by omega), f 1 (by omega), f n h, h3]
theorem told_call {w : World} {A : Around} {s : Shared} {E : Value → Shared → Prop} {Q : Value → Shared → Prop} {mean : ExcName → Option Value} {mg mb : Str → Option Value}
    {text : Str} {tt : Tok} {many : Int} {tm : Tok} {blocks : List (List Int)}
    (KX : (hd.heap_39 w.params).In s.heap) (T : TP mean mg mb s.heap) (hd : A.depth + 6 < recursionLimit) (hu : A.units + 30 < cLine) (hh : A.handled = none) (hlen : text.cps.size ≤ 1000)
    (htext : text.cps.toList.map (fun c : Nat => (c : Int)) = (blocks.map (· ++ [39])).flatten) (hbl : ∀ cs ∈ blocks, cs.length ≤ 64 ∧ ∀ c ∈ cs, 65 ≤ c ∧ c ≤ 80) (hmany : many = blocks.length)
    (hQ : ∀ D vs c h' tk', s.heap.StaysIn h' → s.heap.get? D = none → h'.get? D = some (listOf (List.toArray vs) c) → IntsAre vs (blocks.map fun cs => pvF (cs ++ [39])) → Q (.ref D) { s with heap := h', toks := tk' }) :
    wpAny (model PR w) A (call (.ref 80) [.str text tt, .int many tm]) Q E s := by
  have dum : Fills Mine.hd.heap_39 PySem.Challenge.rw_wf0021_01 True := by k_fill; trivial
  obtain ⟨ah, ad, af, ag, au⟩ := A
  obtain rfl : ah = none := hh
  dsimp only at hd hu
  refine enterC (binds := [(Str.ofString "text", .str text tt), (Str.ofString "many", .int many tm)]) KX T (by k_is) rfl (by k_is) (by show ad < recursionLimit; omega) rfl (kindsX rfl) (by decide +kernel) ?_ rfl rfl rfl
  intro h₁ tk cells F N Y
  obtain ⟨o1, rfl, d1⟩ := CellsAre.one Y
  replace F : Fr s.heap s.heap.objs.size h₁ (fun y => if y = Str.ofString "many" then some (.int many tm) else if y = Str.ofString "text" then some (.str text tt) else none) := F
  replace d1 : o1.data = .cell none := d1
  clear Y
  try dsimp only
  ((repeat' ((( ((( (fail_if_success (with_reducible show wpAny _ _ (exec (Stmt.For _ _ _ _ _) _) _ _ _)); (fail_if_success (with_reducible show wpAny _ _ (exec (Stmt.While _ _ _ _) _) _ _ _)); (fail_if_success (with_reducible show wpAny _ _ (pyIter (Value.ref _)) _ _ _)); (fail_if_success (with_reducible show wpAny _ _ (call (Value.ref _) _ _) _ _ _)); (fail_if_success (with_reducible show wpAny _ _ (call (Value.builtin "next") _ _) _ _ _)); (fail_if_success (with_reducible show wpAny _ _ (eval (Expr.ListComp _ _ _ _) _) _ _ _)); (fail_if_success (with_reducible show LCg.CompEnd _ _ _ _ _ _ _ _ _ _ _ _ _ _)); (fail_if_success (with_reducible show LoopStep3 _ _ _ _ _ _ _ _ _ _)); (fail_if_success (with_reducible show LoopStepV _ _ _ _ _ _ _ _ _ _)); skip))); (fail_if_success (with_reducible show wpAny _ _ (exec (Stmt.Assign _ (Expr.ListComp _ _ _ _) _) _) _ _ _)); (((first | ((with_reducible show wpAny _ _ (storeName _ _ _) _ _ _); dsimp only; walk1) | ((first | (k_unfold; (try dsimp only)) | (k_end; wrow_close) | walk1 | (dsimp only; walk1) | (leave1; walk_say "STEP leave1"; try dsimp only) | fail "no step"))))))))))
  refine comp_eval F (by rfl) (by decide) (by rfl) (by decide) (by rfl) ?_
  ((repeat' ((( ((( (fail_if_success (with_reducible show wpAny _ _ (exec (Stmt.For _ _ _ _ _) _) _ _ _)); (fail_if_success (with_reducible show wpAny _ _ (exec (Stmt.While _ _ _ _) _) _ _ _)); (fail_if_success (with_reducible show wpAny _ _ (pyIter (Value.ref _)) _ _ _)); (fail_if_success (with_reducible show wpAny _ _ (call (Value.ref _) _ _) _ _ _)); (fail_if_success (with_reducible show wpAny _ _ (call (Value.builtin "next") _ _) _ _ _)); (fail_if_success (with_reducible show wpAny _ _ (eval (Expr.ListComp _ _ _ _) _) _ _ _)); (fail_if_success (with_reducible show LCg.CompEnd _ _ _ _ _ _ _ _ _ _ _ _ _ _)); (fail_if_success (with_reducible show LoopStep3 _ _ _ _ _ _ _ _ _ _)); (fail_if_success (with_reducible show LoopStepV _ _ _ _ _ _ _ _ _ _)); skip))); (fail_if_success (with_reducible show wpAny _ _ (exec (Stmt.Assign _ (Expr.ListComp _ _ _ _) _) _) _ _ _)); (((first | ((with_reducible show wpAny _ _ (storeName _ _ _) _ _ _); dsimp only; walk1) | ((first | (k_unfold; (try dsimp only)) | (k_end; wrow_close) | walk1 | (dsimp only; walk1) | (leave1; walk_say "STEP leave1"; try dsimp only) | fail "no step"))))))))))
  refine it_str rfl F N (by rw [sizeLine_eq]; omega) (fun h => ?_)
  refine rest_invK (fun i ys news => news = [(s.heap.objs.size + 1, o1)] ∧ IntsAre ys ((text.cps.toList.take i).map (fun c : Nat => (c : Int)))) ?_ ?_ _ 0 [] _ (Nat.zero_add _) ⟨rfl, .nil⟩
  · rintro ys news ⟨rfl, hJ⟩ D h2 tk2 F N _
    rw [List.take_of_length_le (by simp), htext] at hJ
    have hin : KBa.In (blocks.map (· ++ [39])).flatten := by
      intro n hn
      obtain ⟨l, hl, hnl⟩ := List.mem_flatten.mp hn
      obtain ⟨cs, hcs, rfl⟩ := List.mem_map.mp hl
      rcases List.mem_append.mp hnl with h | h
      · have := (hbl cs hcs).2 n h; omega
      · have := List.mem_singleton.mp h; omega
    have hln : (blocks.map (· ++ [39])).flatten.length = text.cps.size := by rw [← htext]; simp
    ((repeat' ((( ((( (fail_if_success (with_reducible show wpAny _ _ (exec (Stmt.For _ _ _ _ _) _) _ _ _)); (fail_if_success (with_reducible show wpAny _ _ (exec (Stmt.While _ _ _ _) _) _ _ _)); (fail_if_success (with_reducible show wpAny _ _ (pyIter (Value.ref _)) _ _ _)); (fail_if_success (with_reducible show wpAny _ _ (call (Value.ref _) _ _) _ _ _)); (fail_if_success (with_reducible show wpAny _ _ (call (Value.builtin "next") _ _) _ _ _)); (fail_if_success (with_reducible show wpAny _ _ (eval (Expr.ListComp _ _ _ _) _) _ _ _)); (fail_if_success (with_reducible show LCg.CompEnd _ _ _ _ _ _ _ _ _ _ _ _ _ _)); (fail_if_success (with_reducible show LoopStep3 _ _ _ _ _ _ _ _ _ _)); (fail_if_success (with_reducible show LoopStepV _ _ _ _ _ _ _ _ _ _)); skip))); (fail_if_success (with_reducible show wpAny _ _ (exec (Stmt.Assign _ (Expr.ListComp _ _ _ _) _) _) _ _ _)); (((first | ((with_reducible show wpAny _ _ (storeName _ _ _) _ _ _); dsimp only; walk1) | ((first | (k_unfold; (try dsimp only)) | (k_end; wrow_close) | walk1 | (dsimp only; walk1) | (leave1; walk_say "STEP leave1"; try dsimp only) | fail "no step"))))))))))
    have hbi := KBa.ints_make hin
    generalize byteArr (blocks.map (· ++ [39])).flatten = b at *
    rename Fr _ _ _ _ => F3
    rename News _ _ _ _ => N3
    refine b_iter F3 N3 ?_
    intro IT h' tb F N lt
    clear F3 N3
    ((repeat' ((( ((( (fail_if_success (with_reducible show wpAny _ _ (exec (Stmt.For _ _ _ _ _) _) _ _ _)); (fail_if_success (with_reducible show wpAny _ _ (exec (Stmt.While _ _ _ _) _) _ _ _)); (fail_if_success (with_reducible show wpAny _ _ (pyIter (Value.ref _)) _ _ _)); (fail_if_success (with_reducible show wpAny _ _ (call (Value.ref _) _ _) _ _ _)); (fail_if_success (with_reducible show wpAny _ _ (call (Value.builtin "next") _ _) _ _ _)); (fail_if_success (with_reducible show wpAny _ _ (eval (Expr.ListComp _ _ _ _) _) _ _ _)); (fail_if_success (with_reducible show LCg.CompEnd _ _ _ _ _ _ _ _ _ _ _ _ _ _)); (fail_if_success (with_reducible show LoopStep3 _ _ _ _ _ _ _ _ _ _)); (fail_if_success (with_reducible show LoopStepV _ _ _ _ _ _ _ _ _ _)); skip))); (fail_if_success (with_reducible show wpAny _ _ (exec (Stmt.Assign _ (Expr.ListComp _ _ _ _) _) _) _ _ _)); (((first | ((with_reducible show wpAny _ _ (storeName _ _ _) _ _ _); dsimp only; walk1) | ((first | (k_unfold; (try dsimp only)) | (k_end; wrow_close) | walk1 | (dsimp only; walk1) | (leave1; walk_say "STEP leave1"; try dsimp only) | fail "no step"))))))))))
    rename Fr _ _ _ _ => F3
    rename News _ _ _ _ => N3
    rename (_ : Obj).data = Data.cell (some _) => d3
    rename Obj => oc
    refine comp_assign F3 rfl (by rfl) (by rfl) (by decide) (by rfl) (by decide) (by rfl) (by rfl) (by rfl) ?_
    ((repeat' ((( ((( (fail_if_success (with_reducible show wpAny _ _ (exec (Stmt.For _ _ _ _ _) _) _ _ _)); (fail_if_success (with_reducible show wpAny _ _ (exec (Stmt.While _ _ _ _) _) _ _ _)); (fail_if_success (with_reducible show wpAny _ _ (pyIter (Value.ref _)) _ _ _)); (fail_if_success (with_reducible show wpAny _ _ (call (Value.ref _) _ _) _ _ _)); (fail_if_success (with_reducible show wpAny _ _ (call (Value.builtin "next") _ _) _ _ _)); (fail_if_success (with_reducible show wpAny _ _ (eval (Expr.ListComp _ _ _ _) _) _ _ _)); (fail_if_success (with_reducible show LCg.CompEnd _ _ _ _ _ _ _ _ _ _ _ _ _ _)); (fail_if_success (with_reducible show LoopStep3 _ _ _ _ _ _ _ _ _ _)); (fail_if_success (with_reducible show LoopStepV _ _ _ _ _ _ _ _ _ _)); skip))); (fail_if_success (with_reducible show wpAny _ _ (exec (Stmt.Assign _ (Expr.ListComp _ _ _ _) _) _) _ _ _)); (((first | ((with_reducible show wpAny _ _ (storeName _ _ _) _ _ _); dsimp only; walk1) | ((first | (k_unfold; (try dsimp only)) | (k_end; wrow_close) | walk1 | (dsimp only; walk1) | (leave1; walk_say "STEP leave1"; try dsimp only) | fail "no step"))))))))))
    rename Fr _ _ _ _ => F4
    rename News _ _ _ _ => N4
    rename IsRange _ _ _ _ _ _ _ _ => hr
    have hbs : blocks.length ≤ 1000 := by
      have := blocks_len blocks
      omega
    have hlc := lt _ (.tail _ (.head _))
    subst hmany
    refine it_range (n := blocks.length) rfl F4 (news_sub N4 (l' := [(IT, biter b tb 0), (s.heap.objs.size + 1, oc)]) ?_) hr ?_ ?_ (by rw [sizeLine_eq]; omega) (fun h => ?_)
    · intro p hp
      simp only [List.mem_cons, List.not_mem_nil, or_false] at hp
      rcases hp with rfl | rfl <;> simp
    · have hsm : (blocks.length : Int) ≤ 1000 := by omega
      exact range_small (by omega)
    · unfold Builtin.Range.rangeSize
      rw [if_pos (by decide)]
      split <;> omega
    refine rest_invK (fun i ys news => news = [(IT, biter b tb ((blocks.take i).map (fun cs => cs.length + 1)).sum), (s.heap.objs.size + 1, oc)] ∧ IntsAre ys ((blocks.take i).map (fun cs => pvF (cs ++ [39])))) ?_ ?_ _ 0 [] _ (Nat.zero_add _) ⟨rfl, .nil⟩
    · rintro ys news ⟨rfl, hJ⟩ D h2 tk2 F N od
      ((repeat' ((( ((( (fail_if_success (with_reducible show wpAny _ _ (exec (Stmt.For _ _ _ _ _) _) _ _ _)); (fail_if_success (with_reducible show wpAny _ _ (exec (Stmt.While _ _ _ _) _) _ _ _)); (fail_if_success (with_reducible show wpAny _ _ (pyIter (Value.ref _)) _ _ _)); (fail_if_success (with_reducible show wpAny _ _ (call (Value.ref _) _ _) _ _ _)); (fail_if_success (with_reducible show wpAny _ _ (call (Value.builtin "next") _ _) _ _ _)); (fail_if_success (with_reducible show wpAny _ _ (eval (Expr.ListComp _ _ _ _) _) _ _ _)); (fail_if_success (with_reducible show LCg.CompEnd _ _ _ _ _ _ _ _ _ _ _ _ _ _)); (fail_if_success (with_reducible show LoopStep3 _ _ _ _ _ _ _ _ _ _)); (fail_if_success (with_reducible show LoopStepV _ _ _ _ _ _ _ _ _ _)); skip))); (fail_if_success (with_reducible show wpAny _ _ (exec (Stmt.Assign _ (Expr.ListComp _ _ _ _) _) _) _ _ _)); (((first | ((with_reducible show wpAny _ _ (storeName _ _ _) _ _ _); dsimp only; walk1) | ((first | (k_unfold; (try dsimp only)) | (k_end; wrow_close) | walk1 | (dsimp only; walk1) | (leave1; walk_say "STEP leave1"; try dsimp only) | fail "no step"))))))))))
      rw [List.take_length] at N hJ
      have hps : (blocks.map (fun cs => cs.length + 1)).sum = b.size := by rw [blocks_sum, ← hbi, KBw.ints_length]
      rw [hps] at N
      have hnD : D ≠ IT := Ne.symm od.1
      refine list_biter rfl (N _ (.tail _ (.head _))).1 (fun D2 c2 h3 k3 hD0 hD2 hk3 => ?_)
      have F2 := fr_but1 F hk3 (N _ (.tail _ (.head _))).2.1 (N _ (.tail _ (.head _))).2.2
      have N2 : News s.heap s.heap.objs.size h3 [(D2, listOf (List.toArray []) c2), (D, LCg.lst ys)] := by
        intro p hp
        simp only [List.mem_cons, List.not_mem_nil, or_false] at hp
        rcases hp with rfl | rfl
        · refine ⟨hD2, fun e => ?_, ?_⟩
          · obtain ⟨oL, _, _, hL, _⟩ := F.ns
            dsimp only at e
            rw [e] at hD0
            have hL' : h2.get? s.heap.objs.size = some oL := hL
            rw [show h2.get? s.heap.objs.size = none from hD0] at hL'
            cases hL'
          · cases e : s.heap.get? D2 with
            | none => rfl
            | some o => have := F.keep _ _ e; rw [show h2.get? D2 = none from hD0] at this; cases this
        · exact ⟨hk3 _ _ hnD (N _ (.head _)).1, (N _ (.head _)).2⟩
      clear N F
      ((repeat' ((( ((( (fail_if_success (with_reducible show wpAny _ _ (exec (Stmt.For _ _ _ _ _) _) _ _ _)); (fail_if_success (with_reducible show wpAny _ _ (exec (Stmt.While _ _ _ _) _) _ _ _)); (fail_if_success (with_reducible show wpAny _ _ (pyIter (Value.ref _)) _ _ _)); (fail_if_success (with_reducible show wpAny _ _ (call (Value.ref _) _ _) _ _ _)); (fail_if_success (with_reducible show wpAny _ _ (call (Value.builtin "next") _ _) _ _ _)); (fail_if_success (with_reducible show wpAny _ _ (eval (Expr.ListComp _ _ _ _) _) _ _ _)); (fail_if_success (with_reducible show LCg.CompEnd _ _ _ _ _ _ _ _ _ _ _ _ _ _)); (fail_if_success (with_reducible show LoopStep3 _ _ _ _ _ _ _ _ _ _)); (fail_if_success (with_reducible show LoopStepV _ _ _ _ _ _ _ _ _ _)); skip))); (fail_if_success (with_reducible show wpAny _ _ (exec (Stmt.Assign _ (Expr.ListComp _ _ _ _) _) _) _ _ _)); (((first | ((with_reducible show wpAny _ _ (storeName _ _ _) _ _ _); dsimp only; walk1) | ((first | (k_unfold; (try dsimp only)) | (k_end; wrow_close) | walk1 | (dsimp only; walk1) | (leave1; walk_say "STEP leave1"; try dsimp only) | fail "no step"))))))))))
      rename IntsAre _ (_ ++ []) => hI
      rename Fr _ _ _ _ => F5
      rename News _ _ _ _ => N5
      rw [List.append_nil] at hI
      exact hQ _ _ 0 _ _ F5.keep (N5 _ (.head _)).2.2 (N5 _ (.head _)).1 hI
    · intro Kc mc Sc i ys news v I oI C oC D m₂ h tk E' hKc hSc hi hP hJ hC hx F N off ne
      obtain ⟨rfl, hJ⟩ := hJ
      obtain ⟨u, rfl⟩ := hP
      ((repeat' ((( ((( (fail_if_success (with_reducible show wpAny _ _ (exec (Stmt.For _ _ _ _ _) _) _ _ _)); (fail_if_success (with_reducible show wpAny _ _ (exec (Stmt.While _ _ _ _) _) _ _ _)); (fail_if_success (with_reducible show wpAny _ _ (pyIter (Value.ref _)) _ _ _)); (fail_if_success (with_reducible show wpAny _ _ (call (Value.ref _) _ _) _ _ _)); (fail_if_success (with_reducible show wpAny _ _ (call (Value.builtin "next") _ _) _ _ _)); (fail_if_success (with_reducible show wpAny _ _ (eval (Expr.ListComp _ _ _ _) _) _ _ _)); (fail_if_success (with_reducible show LCg.CompEnd _ _ _ _ _ _ _ _ _ _ _ _ _ _)); (fail_if_success (with_reducible show LoopStep3 _ _ _ _ _ _ _ _ _ _)); (fail_if_success (with_reducible show LoopStepV _ _ _ _ _ _ _ _ _ _)); skip))); (fail_if_success (with_reducible show wpAny _ _ (exec (Stmt.Assign _ (Expr.ListComp _ _ _ _) _) _) _ _ _)); (((first | ((with_reducible show wpAny _ _ (storeName _ _ _) _ _ _); dsimp only; walk1) | ((first | (k_unfold; (try dsimp only)) | (k_end; wrow_close) | walk1 | (dsimp only; walk1) | (leave1; walk_say "STEP leave1"; try dsimp only) | fail "no step"))))))))))
      have hbi' : blocks[i]? = some blocks[i] := by simp [hi]
      have hcs := hbl _ (List.mem_of_getElem? hbi')
      have hIT := N _ (.tail _ (.tail _ (.tail _ (.head _))))
      refine varint_call (cs := blocks[i]) KX T F.keep (by show ad + 1 + 3 < recursionLimit; omega) rfl hIT.1 hIT.2.2 hcs.1 hcs.2 (fun j hj => ?_) (fun t h' tk' hit' hk' => ?_)
      · rw [hbi]; exact blocks_at _ _ _ hbi' j hj
      · have F2 := fr_but1 F hk' hIT.2.1 hIT.2.2
        have o3 := off.mem _ (.head _)
        have N2 := news_but1 (pre := [(I, oI), (C, oC), (D, LCg.lst ys)]) N hk' hit' (by
          intro p hp
          simp only [List.mem_cons, List.not_mem_nil, or_false] at hp
          rcases hp with rfl | rfl | rfl
          · exact Ne.symm o3.1
          · exact Ne.symm o3.2.1
          · exact Ne.symm o3.2.2) (by
          intro p hp
          obtain rfl := List.mem_singleton.mp hp
          exact Nat.ne_of_lt hlc)
        refine LCg.CompEnd.intro F2 N2 _ (fun _ h => h) ⟨o3, off.2⟩ (hSc _ trivial) (hKc _ _ ⟨?_, ?_⟩)
        · rw [List.take_add_one, hbi', Option.toList_some, List.map_append, List.sum_append]
          simp
        · rw [List.take_add_one, hbi', Option.toList_some, List.map_append]
          exact ints_snoc hJ
  · intro Kc mc Sc i ys news v I oI C oC D m₂ h tk E' hKc hSc hi hP hJ hC hx F N off ne
    obtain ⟨rfl, hJ⟩ := hJ
    obtain ⟨c, u, hc, rfl⟩ := hP
    ((repeat' ((( ((( (fail_if_success (with_reducible show wpAny _ _ (exec (Stmt.For _ _ _ _ _) _) _ _ _)); (fail_if_success (with_reducible show wpAny _ _ (exec (Stmt.While _ _ _ _) _) _ _ _)); (fail_if_success (with_reducible show wpAny _ _ (pyIter (Value.ref _)) _ _ _)); (fail_if_success (with_reducible show wpAny _ _ (call (Value.ref _) _ _) _ _ _)); (fail_if_success (with_reducible show wpAny _ _ (call (Value.builtin "next") _ _) _ _ _)); (fail_if_success (with_reducible show wpAny _ _ (eval (Expr.ListComp _ _ _ _) _) _ _ _)); (fail_if_success (with_reducible show LCg.CompEnd _ _ _ _ _ _ _ _ _ _ _ _ _ _)); (fail_if_success (with_reducible show LoopStep3 _ _ _ _ _ _ _ _ _ _)); (fail_if_success (with_reducible show LoopStepV _ _ _ _ _ _ _ _ _ _)); skip))); (fail_if_success (with_reducible show wpAny _ _ (exec (Stmt.Assign _ (Expr.ListComp _ _ _ _) _) _) _ _ _)); (((first | ((with_reducible show wpAny _ _ (storeName _ _ _) _ _ _); dsimp only; walk1) | ((first | (k_unfold; (try dsimp only)) | (k_end; wrow_close) | walk1 | (dsimp only; walk1) | (leave1; walk_say "STEP leave1"; try dsimp only) | fail "no step"))))))))))
    refine LCg.CompEnd.intro F N _ (fun _ h => h) off (hSc _ trivial) (hKc _ _ ⟨rfl, ?_⟩)
    rw [List.take_add_one, Array.getElem?_toList, hc, Option.toList_some, List.map_append]
    exact ints_snoc hJ
theorem join_nil (ss : List Str) : (Txt.join (Str.ofString "") ss).cps.toList = (ss.map (fun x => x.cps.toList)).flatten := by
  have key : ∀ (l : List Str) (a : Array Nat), (l.foldl (fun acc p => acc ++ (Str.ofString "").cps ++ p.cps) a).toList = a.toList ++ (l.map (fun x => x.cps.toList)).flatten := by
    intro l
    induction l with
    | nil => intro a; simp
    | cons p r ih => intro a; rw [List.foldl_cons, ih]; simp [show (Str.ofString "").cps = #[] from rfl]
  cases ss with
  | nil => rfl
  | cons a r =>
    show (r.foldl (fun acc p => acc ++ (Str.ofString "").cps ++ p.cps) a.cps).toList = _
    rw [key]; simp
theorem strs_append : ∀ {vs us : List Value} {ns ks : List Str}, StrsAre vs ns → StrsAre us ks → StrsAre (vs ++ us) (ns ++ ks)
  | _, _, _, _, .nil, h => h
  | _, _, _, _, .cons n t r, h => .cons n t (strs_append r h)
theorem strs_snoc {vs : List Value} {ns : List Str} {k : Str} {t : Tok} (h : StrsAre vs ns) : StrsAre (vs ++ [.str k t]) (ns ++ [k]) := strs_append h (.cons k t .nil)
theorem letters_call {w : World} {A : Around} {s : Shared} {E : Value → Shared → Prop} {Q : Value → Shared → Prop} {mean : ExcName → Option Value} {mg mb : Str → Option Value}
    {n : Int} {tn : Tok}
    (KX : (hd.heap_39 w.params).In s.heap) (T : TP mean mg mb s.heap) (hd : A.depth + 6 < recursionLimit) (hu : A.units + 30 < cLine) (hh : A.handled = none) (hn : n.natAbs < 16 ^ 13)
    (hQ : ∀ (x : Str) t h' tk', s.heap.StaysIn h' → x.cps.toList.map (fun c : Nat => (c : Int)) = apI n.natAbs → Q (.str x t) { s with heap := h', toks := tk' }) :
    wpAny (model PR w) A (call (.ref 75) [.int n tn]) Q E s := by
  have dum : Fills Mine.hd.heap_39 PySem.Challenge.rw_wf0021_01 True := by k_fill; trivial
  obtain ⟨ah, ad, af, ag, au⟩ := A
  obtain rfl : ah = none := hh
  dsimp only at hd hu
  refine enter (binds := [(Str.ofString "number", .int n tn)]) KX T (by k_is) (by k_is) (by show ad < recursionLimit; omega) (BindsTo.of_eq rfl) (locs rfl) ?_ rfl rfl rfl (by decide)
  intro h₁ F N
  ((repeat' ((( ((( (fail_if_success (with_reducible show wpAny _ _ (exec (Stmt.For _ _ _ _ _) _) _ _ _)); (fail_if_success (with_reducible show wpAny _ _ (exec (Stmt.While _ _ _ _) _) _ _ _)); (fail_if_success (with_reducible show wpAny _ _ (pyIter (Value.ref _)) _ _ _)); (fail_if_success (with_reducible show wpAny _ _ (call (Value.ref _) _ _) _ _ _)); (fail_if_success (with_reducible show wpAny _ _ (call (Value.builtin "next") _ _) _ _ _)); (fail_if_success (with_reducible show wpAny _ _ (eval (Expr.ListComp _ _ _ _) _) _ _ _)); (fail_if_success (with_reducible show LCg.CompEnd _ _ _ _ _ _ _ _ _ _ _ _ _ _)); (fail_if_success (with_reducible show LoopStep3 _ _ _ _ _ _ _ _ _ _)); (fail_if_success (with_reducible show LoopStepV _ _ _ _ _ _ _ _ _ _)); skip))); (fail_if_success (with_reducible show wpAny _ _ (exec (Stmt.Assign _ (Expr.ListComp _ _ _ _) _) _) _ _ _)); (((first | ((with_reducible show wpAny _ _ (storeName _ _ _) _ _ _); dsimp only; walk1) | ((first | (k_unfold; (try dsimp only)) | (k_end; wrow_close) | walk1 | (dsimp only; walk1) | (leave1; walk_say "STEP leave1"; try dsimp only) | fail "no step"))))))))))
  refine comp_eval F (by rfl) (by decide) (by rfl) (by decide) (by rfl) ?_
  ((repeat' ((( ((( (fail_if_success (with_reducible show wpAny _ _ (exec (Stmt.For _ _ _ _ _) _) _ _ _)); (fail_if_success (with_reducible show wpAny _ _ (exec (Stmt.While _ _ _ _) _) _ _ _)); (fail_if_success (with_reducible show wpAny _ _ (pyIter (Value.ref _)) _ _ _)); (fail_if_success (with_reducible show wpAny _ _ (call (Value.ref _) _ _) _ _ _)); (fail_if_success (with_reducible show wpAny _ _ (call (Value.builtin "next") _ _) _ _ _)); (fail_if_success (with_reducible show wpAny _ _ (eval (Expr.ListComp _ _ _ _) _) _ _ _)); (fail_if_success (with_reducible show LCg.CompEnd _ _ _ _ _ _ _ _ _ _ _ _ _ _)); (fail_if_success (with_reducible show LoopStep3 _ _ _ _ _ _ _ _ _ _)); (fail_if_success (with_reducible show LoopStepV _ _ _ _ _ _ _ _ _ _)); skip))); (fail_if_success (with_reducible show wpAny _ _ (exec (Stmt.Assign _ (Expr.ListComp _ _ _ _) _) _) _ _ _)); (((first | ((with_reducible show wpAny _ _ (storeName _ _ _) _ _ _); dsimp only; walk1) | ((first | (k_unfold; (try dsimp only)) | (k_end; wrow_close) | walk1 | (dsimp only; walk1) | (leave1; walk_say "STEP leave1"; try dsimp only) | fail "no step"))))))))))
  refine ap_call (KX.keeps F.keep) (T.keeps F.keep) (by show ad + 1 + 3 < recursionLimit; omega) rfl hn (fun b t h' tk' hb hk => ?_)
  have F2 := F.after hk
  have N2 := N.grown hk
  have hbs : b.size ≤ 13 := by rw [← KBw.ints_length, hb]; exact apI_len 13 _ hn
  ((repeat' ((( ((( (fail_if_success (with_reducible show wpAny _ _ (exec (Stmt.For _ _ _ _ _) _) _ _ _)); (fail_if_success (with_reducible show wpAny _ _ (exec (Stmt.While _ _ _ _) _) _ _ _)); (fail_if_success (with_reducible show wpAny _ _ (pyIter (Value.ref _)) _ _ _)); (fail_if_success (with_reducible show wpAny _ _ (call (Value.ref _) _ _) _ _ _)); (fail_if_success (with_reducible show wpAny _ _ (call (Value.builtin "next") _ _) _ _ _)); (fail_if_success (with_reducible show wpAny _ _ (eval (Expr.ListComp _ _ _ _) _) _ _ _)); (fail_if_success (with_reducible show LCg.CompEnd _ _ _ _ _ _ _ _ _ _ _ _ _ _)); (fail_if_success (with_reducible show LoopStep3 _ _ _ _ _ _ _ _ _ _)); (fail_if_success (with_reducible show LoopStepV _ _ _ _ _ _ _ _ _ _)); skip))); (fail_if_success (with_reducible show wpAny _ _ (exec (Stmt.Assign _ (Expr.ListComp _ _ _ _) _) _) _ _ _)); (((first | ((with_reducible show wpAny _ _ (storeName _ _ _) _ _ _); dsimp only; walk1) | ((first | (k_unfold; (try dsimp only)) | (k_end; wrow_close) | walk1 | (dsimp only; walk1) | (leave1; walk_say "STEP leave1"; try dsimp only) | fail "no step"))))))))))
  refine it_bytes rfl F2 N2 (by rw [sizeLine_eq]; omega) (fun h => ?_)
  refine rest_inv (fun i ys news => news = [] ∧ ∃ ss : List Str, StrsAre ys ss ∧ (ss.map (fun x => x.cps.toList)).flatten.map (fun c : Nat => (c : Int)) = ((apI n.natAbs).take i)) ?_ ?_ _ 0 [] _ (Nat.zero_add _) ⟨rfl, [], .nil, by simp⟩
  · rintro ys news ⟨rfl, ss, hJ⟩ D h2 tk2 F N _
    ((repeat' ((( ((( (fail_if_success (with_reducible show wpAny _ _ (exec (Stmt.For _ _ _ _ _) _) _ _ _)); (fail_if_success (with_reducible show wpAny _ _ (exec (Stmt.While _ _ _ _) _) _ _ _)); (fail_if_success (with_reducible show wpAny _ _ (pyIter (Value.ref _)) _ _ _)); (fail_if_success (with_reducible show wpAny _ _ (call (Value.ref _) _ _) _ _ _)); (fail_if_success (with_reducible show wpAny _ _ (call (Value.builtin "next") _ _) _ _ _)); (fail_if_success (with_reducible show wpAny _ _ (eval (Expr.ListComp _ _ _ _) _) _ _ _)); (fail_if_success (with_reducible show LCg.CompEnd _ _ _ _ _ _ _ _ _ _ _ _ _ _)); (fail_if_success (with_reducible show LoopStep3 _ _ _ _ _ _ _ _ _ _)); (fail_if_success (with_reducible show LoopStepV _ _ _ _ _ _ _ _ _ _)); skip))); (fail_if_success (with_reducible show wpAny _ _ (exec (Stmt.Assign _ (Expr.ListComp _ _ _ _) _) _) _ _ _)); (((first | ((with_reducible show wpAny _ _ (storeName _ _ _) _ _ _); dsimp only; walk1) | ((first | (k_unfold; (try dsimp only)) | (k_end; wrow_close) | walk1 | (dsimp only; walk1) | (leave1; walk_say "STEP leave1"; try dsimp only) | fail "no step"))))))))))
    have hl : (ss.map (·.length)).sum ≤ 13 := by
      have e := congrArg List.length hJ.2
      simp only [List.length_map, List.length_take, List.length_flatten, List.map_map, Function.comp_def, Array.length_toList] at e
      have := apI_len 13 _ hn
      simp only [Str.length]
      omega
    refine join_list (N.isList (.head _)) (by simpa using hJ.1) (by rw [show (Str.ofString "").length = 0 from rfl]; omega) (fun t' k => ?_)
    refine hQ _ _ _ _ F.keep ?_
    rw [join_nil, hJ.2, List.take_of_length_le (by rw [← hb, KBw.ints_length]; exact Nat.le_refl _)]
  · intro i ys news v I oI C oC D m₂ h tk E' hi hP hJ hC hx F N off ne
    obtain ⟨rfl, hJ⟩ := hJ
    obtain ⟨c, u, hc, rfl⟩ := hP
    have hcr := KBw.ints_in (List.mem_of_getElem? hc)
    ((repeat' ((( ((( (fail_if_success (with_reducible show wpAny _ _ (exec (Stmt.For _ _ _ _ _) _) _ _ _)); (fail_if_success (with_reducible show wpAny _ _ (exec (Stmt.While _ _ _ _) _) _ _ _)); (fail_if_success (with_reducible show wpAny _ _ (pyIter (Value.ref _)) _ _ _)); (fail_if_success (with_reducible show wpAny _ _ (call (Value.ref _) _ _) _ _ _)); (fail_if_success (with_reducible show wpAny _ _ (call (Value.builtin "next") _ _) _ _ _)); (fail_if_success (with_reducible show wpAny _ _ (eval (Expr.ListComp _ _ _ _) _) _ _ _)); (fail_if_success (with_reducible show LCg.CompEnd _ _ _ _ _ _ _ _ _ _ _ _ _ _)); (fail_if_success (with_reducible show LoopStep3 _ _ _ _ _ _ _ _ _ _)); (fail_if_success (with_reducible show LoopStepV _ _ _ _ _ _ _ _ _ _)); skip))); (fail_if_success (with_reducible show wpAny _ _ (exec (Stmt.Assign _ (Expr.ListComp _ _ _ _) _) _) _ _ _)); (((first | ((with_reducible show wpAny _ _ (storeName _ _ _) _ _ _); dsimp only; walk1) | ((first | (k_unfold; (try dsimp only)) | (k_end; wrow_close) | walk1 | (dsimp only; walk1) | (leave1; walk_say "STEP leave1"; try dsimp only) | fail "no step"))))))))))
    obtain ⟨ss, hs1, hs2⟩ := hJ
    rw [hb] at hc
    refine LCg.CompEnd.intro F N _ (fun _ h => h) off trivial ⟨rfl, ss ++ [⟨#[c.toNat]⟩], strs_snoc hs1, ?_⟩
    rw [List.take_add_one, hc, Option.toList_some, List.map_append, List.flatten_append, List.map_append, hs2]
    simp
    omega
noncomputable def posF : List Nat → Nat → List Nat
  | [], _ => []
  | c :: r, k => if c = 39 then k :: posF r (k + 1) else posF r (k + 1)
theorem posF_app : ∀ (a : List Nat) (r : List Nat) (k : Nat), 39 ∉ a → posF (a ++ r) k = posF r (k + a.length)
  | [], _, _, _ => rfl
  | c :: a, r, k, h => by
    have h1 : c ≠ 39 := fun e => h (by simp [e])
    have h2 : 39 ∉ a := fun e => h (List.mem_cons_of_mem _ e)
    simp only [List.cons_append, posF, if_neg h1, List.length_cons]
    rw [posF_app a r (k + 1) h2]
    congr 1; omega
theorem occ_run (x : Str) (lim : Nat) : ∀ (n k : Nat) (st : Array Nat × Nat), k + n = x.length + 1 → st.snd ≤ k →
    (forIn (List.range' k n) st (StrLaws.occBody x ⟨#[39]⟩ x.length lim)).run.fst.toList = st.fst.toList ++ (posF (x.cps.toList.drop k) k).take (lim - st.fst.size)
  | 0, k, st, hk, _ => by
    have : x.cps.toList.drop k = [] := List.drop_of_length_le (by simp [Str.length] at hk ⊢; omega)
    rw [this]
    simp [posF]
  | n + 1, k, st, hk, hs => by
    rw [List.range'_succ, List.forIn_cons]
    have hsub := StrLaws.subAt_one x 39 k
    by_cases hx : x.cps.toList[k]? = some 39
    · have hd : x.cps.toList.drop k = 39 :: x.cps.toList.drop (k + 1) := by
        obtain ⟨hl, he⟩ := List.getElem?_eq_some_iff.mp hx
        rw [List.drop_eq_getElem_cons hl, he]
      obtain ⟨h1, h2⟩ := hsub.mpr hx
      by_cases hl : st.fst.size < lim
      · have hc : ((st.fst.size < lim ∧ st.snd ≤ k) ∧ k + (⟨#[39]⟩ : Str).length ≤ x.length) ∧ Builtin.Str.subAt x ⟨#[39]⟩ k = true := ⟨⟨⟨hl, hs⟩, h1⟩, h2⟩
        unfold StrLaws.occBody
        rw [if_pos hc]
        have ih := occ_run x lim n (k + 1) (st.fst.push k, k + 1) (by omega) (Nat.le_refl _)
        refine Eq.trans ih ?_
        rw [hd]
        simp only [posF, if_true, Array.size_push, Array.toList_push]
        obtain ⟨d, hd'⟩ : ∃ d, lim - st.fst.size = d + 1 := ⟨lim - st.fst.size - 1, by omega⟩
        rw [hd', show lim - (st.fst.size + 1) = d by omega, List.take_succ_cons]
        simp
      · have hc : ¬ (((st.fst.size < lim ∧ st.snd ≤ k) ∧ k + (⟨#[39]⟩ : Str).length ≤ x.length) ∧ Builtin.Str.subAt x ⟨#[39]⟩ k = true) := fun h => hl h.1.1.1
        unfold StrLaws.occBody
        rw [if_neg hc]
        refine Eq.trans (occ_run x lim n (k + 1) (st.fst, st.snd) (by omega) (by dsimp only; omega)) ?_
        dsimp only
        rw [show lim - st.fst.size = 0 by omega, List.take_zero, List.take_zero]
    · have hc : ¬ (((st.fst.size < lim ∧ st.snd ≤ k) ∧ k + (⟨#[39]⟩ : Str).length ≤ x.length) ∧ Builtin.Str.subAt x ⟨#[39]⟩ k = true) := fun h => hx (hsub.mp ⟨h.1.2, h.2⟩)
      unfold StrLaws.occBody
      rw [if_neg hc]
      refine Eq.trans (occ_run x lim n (k + 1) (st.fst, st.snd) (by omega) (by dsimp only; omega)) ?_
      dsimp only
      congr 2
      cases hg : x.cps.toList[k]? with
      | none =>
        have hl : x.cps.toList.length ≤ k := by simpa using hg
        rw [List.drop_of_length_le hl, List.drop_of_length_le (by omega)]
        rfl
      | some c =>
        obtain ⟨hl, he⟩ := List.getElem?_eq_some_iff.mp hg
        rw [List.drop_eq_getElem_cons hl, he]
        have hne : c ≠ 39 := fun e => hx (by rw [hg, e])
        simp only [posF, if_neg hne]
theorem occ_tick (x : Str) (lim : Nat) : Builtin.Str.occurrences x (Str.ofString "'") 0 x.length lim = (posF x.cps.toList 0).take lim := by
  rw [StrLaws.occ_eq]
  have := occ_run x lim (x.length + 1) 0 (#[], 0) (by omega) (Nat.le_refl _)
  rw [List.drop_zero] at this
  exact this.trans (by simp)
theorem kind_pos (x : Str) : 1 ≤ Builtin.Str.strKind x := by unfold Builtin.Str.strKind; split <;> (try split) <;> omega
theorem split_at {x : Str} (hl : 1 ≤ x.length) {ps : List Nat} (hp : (posF x.cps.toList 0).take 2 = ps) (hne : ps ≠ []) : Txt.splitMax x (Str.ofString "'") 2 = Builtin.Str.partsBetween x ps 1 := by
  have e1 : (decide (x.length < (Str.ofString "'").length) || decide (Builtin.Str.strKind x < Builtin.Str.strKind (Str.ofString "'"))) = false := by
    have h1 : (Str.ofString "'").length = 1 := rfl
    have h2 : Builtin.Str.strKind (Str.ofString "'") = 1 := by decide +kernel
    have := kind_pos x
    rw [h1, h2, decide_eq_false (by omega), decide_eq_false (by omega)]; rfl
  unfold Txt.splitMax
  rw [if_neg (by rw [e1]; exact Bool.false_ne_true), show limitOf x 2 = 2 from rfl, occ_tick, hp]
  rw [if_neg (by simpa using hne)]
  rfl
theorem split3 {x : Str} {a b c : List Nat} (hx : x.cps.toList = a ++ 39 :: (b ++ 39 :: c)) (ha : 39 ∉ a) (hb : 39 ∉ b) : Txt.splitMax x (Str.ofString "'") 2 = [⟨a.toArray⟩, ⟨b.toArray⟩, ⟨c.toArray⟩] := by
  have hlen : x.length = a.length + 1 + (b.length + 1 + c.length) := by
    have := congrArg List.length hx
    simp only [Array.length_toList, List.length_append, List.length_cons] at this
    simp only [Str.length]; omega
  have hp : (posF x.cps.toList 0).take 2 = [a.length, a.length + 1 + b.length] := by
    rw [hx, posF_app _ _ _ ha]
    simp only [posF, if_true, Nat.zero_add]
    rw [posF_app _ _ _ hb]
    simp only [posF, if_true, List.take_succ_cons, List.take_zero]
  rw [split_at (by omega) hp (by simp)]
  have ex : ∀ {s : Str} {l : List Nat}, s.cps.toList = l → s = ⟨l.toArray⟩ := by
    intro s l h; subst h; cases s; simp
  simp only [Builtin.Str.partsBetween, List.map_cons, List.map_nil, List.cons_append, List.nil_append, List.zip_cons_cons, List.zip_nil_right, hlen]
  have d1 : x.cps.toList.drop (a.length + 1) = b ++ 39 :: c := by rw [hx]; simp
  have d2 : x.cps.toList.drop (a.length + 1 + b.length + 1) = c := by
    have : a ++ 39 :: (b ++ 39 :: c) = (a ++ 39 :: (b ++ [39])) ++ c := by simp
    rw [hx, this, List.drop_left' (by simp; omega)]
  refine congr (congrArg List.cons (ex ?_)) (congr (congrArg List.cons (ex ?_)) (congr (congrArg List.cons (ex ?_)) rfl))
  · rw [StrLaws.strSub_toList, hx]; simp
  · rw [StrLaws.strSub_toList, d1, show a.length + 1 + b.length - (a.length + 1) = b.length by omega]; simp
  · rw [StrLaws.strSub_toList, d2]; exact List.take_of_length_le (by omega)
theorem split2 {x : Str} {a : List Nat} (hx : x.cps.toList = a ++ [39]) (ha : 39 ∉ a) : (Txt.splitMax x (Str.ofString "'") 2).length = 2 := by
  have hlen : x.length = a.length + 1 := by
    have := congrArg List.length hx
    simpa [Str.length] using this
  have hp : (posF x.cps.toList 0).take 2 = [a.length] := by
    rw [hx, posF_app _ _ _ ha]
    simp [posF]
  rw [split_at (by omega) hp (by simp)]
  simp [Builtin.Str.partsBetween]
theorem strValues_len (l : List (Str × Tok)) : (strValues l).toArray.size = (l.map (·.1)).length := by simp [strValues]
theorem decode3_call {w : World} {A : Around} {s : Shared} {E : Value → Shared → Prop} {Q : Value → Shared → Prop} {mean : ExcName → Option Value} {mg mb : Str → Option Value}
    {x : Str} {tx : Tok} {a b c : List Nat}
    (KX : (hd.heap_39 w.params).In s.heap) (T : TP mean mg mb s.heap) (hd : A.depth + 3 < recursionLimit) (hu : A.units + 20 < cLine) (hh : A.handled = none) (hxs : x.cps.size ≤ 1000)
    (hx : x.cps.toList = a ++ 39 :: (b ++ 39 :: c)) (ha : 39 ∉ a) (hb : 39 ∉ b)
    (hQ : ∀ D vs k h' tk', s.heap.StaysIn h' → s.heap.get? D = none → h'.get? D = some (listOf (List.toArray vs) k) → StrsAre vs [⟨a.toArray⟩, ⟨b.toArray⟩, ⟨c.toArray⟩] → Q (.ref D) { s with heap := h', toks := tk' }) :
    wpAny (model PR w) A (call (.ref 28) [.str x tx]) Q E s := by
  have dum : Fills Mine.hd.heap_39 PySem.Challenge.rw_wf0021_01 True := by k_fill; trivial
  obtain ⟨ah, ad, af, ag, au⟩ := A
  obtain rfl : ah = none := hh
  dsimp only at hd hu
  refine enter (binds := [(Str.ofString "s", .str x tx)]) KX T (by k_is) (by k_is) (by show ad < recursionLimit; omega) (BindsTo.of_eq rfl) (locs rfl) ?_ rfl rfl rfl (by decide)
  intro h₁ F N
  have hsm := split3 hx ha hb
  ((repeat' ( (fail_if_success (with_reducible show wpAny _ _ (call (Value.builtin "len") [Value.ref _]) _ _ _)); ((( ((( (fail_if_success (with_reducible show wpAny _ _ (exec (Stmt.For _ _ _ _ _) _) _ _ _)); (fail_if_success (with_reducible show wpAny _ _ (exec (Stmt.While _ _ _ _) _) _ _ _)); (fail_if_success (with_reducible show wpAny _ _ (pyIter (Value.ref _)) _ _ _)); (fail_if_success (with_reducible show wpAny _ _ (call (Value.ref _) _ _) _ _ _)); (fail_if_success (with_reducible show wpAny _ _ (call (Value.builtin "next") _ _) _ _ _)); (fail_if_success (with_reducible show wpAny _ _ (eval (Expr.ListComp _ _ _ _) _) _ _ _)); (fail_if_success (with_reducible show LCg.CompEnd _ _ _ _ _ _ _ _ _ _ _ _ _ _)); (fail_if_success (with_reducible show LoopStep3 _ _ _ _ _ _ _ _ _ _)); (fail_if_success (with_reducible show LoopStepV _ _ _ _ _ _ _ _ _ _)); skip))); (fail_if_success (with_reducible show wpAny _ _ (exec (Stmt.Assign _ (Expr.ListComp _ _ _ _) _) _) _ _ _)); (((first | ((with_reducible show wpAny _ _ (storeName _ _ _) _ _ _); dsimp only; walk1) | ((first | (k_unfold; (try dsimp only)) | (k_end; wrow_close) | walk1 | (dsimp only; walk1) | (leave1; walk_say "STEP leave1"; try dsimp only) | fail "no step")))))))))))
  rename Fr _ _ _ _ => F1
  rename News _ _ _ _ => N1
  rename List.map _ _ = Txt.splitMax _ _ _ => hl
  rename StrsAre _ _ => hst
  rw [hl, hsm] at hst
  have hz := strValues_len ‹List (Str × Tok)›
  rw [hl, hsm] at hz
  replace hz : (strValues ‹List (Str × Tok)›).toArray.size = 3 := hz
  refine call_len_list (News.isList N1 (.head _)) (by rw [hz]; decide) ?_
  rw [hz]
  ((repeat' ( (fail_if_success (with_reducible show wpAny _ _ (call (Value.builtin "len") [Value.ref _]) _ _ _)); ((( ((( (fail_if_success (with_reducible show wpAny _ _ (exec (Stmt.For _ _ _ _ _) _) _ _ _)); (fail_if_success (with_reducible show wpAny _ _ (exec (Stmt.While _ _ _ _) _) _ _ _)); (fail_if_success (with_reducible show wpAny _ _ (pyIter (Value.ref _)) _ _ _)); (fail_if_success (with_reducible show wpAny _ _ (call (Value.ref _) _ _) _ _ _)); (fail_if_success (with_reducible show wpAny _ _ (call (Value.builtin "next") _ _) _ _ _)); (fail_if_success (with_reducible show wpAny _ _ (eval (Expr.ListComp _ _ _ _) _) _ _ _)); (fail_if_success (with_reducible show LCg.CompEnd _ _ _ _ _ _ _ _ _ _ _ _ _ _)); (fail_if_success (with_reducible show LoopStep3 _ _ _ _ _ _ _ _ _ _)); (fail_if_success (with_reducible show LoopStepV _ _ _ _ _ _ _ _ _ _)); skip))); (fail_if_success (with_reducible show wpAny _ _ (exec (Stmt.Assign _ (Expr.ListComp _ _ _ _) _) _) _ _ _)); (((first | ((with_reducible show wpAny _ _ (storeName _ _ _) _ _ _); dsimp only; walk1) | ((first | (k_unfold; (try dsimp only)) | (k_end; wrow_close) | walk1 | (dsimp only; walk1) | (leave1; walk_say "STEP leave1"; try dsimp only) | fail "no step")))))))))))
  exact hQ _ _ 0 _ _ F1.keep (N1 _ (.head _)).2.2 (N1 _ (.head _)).1 hst
theorem decode1_call {w : World} {A : Around} {s : Shared} {E : Value → Shared → Prop} {Q : Value → Shared → Prop} {mean : ExcName → Option Value} {mg mb : Str → Option Value}
    {x : Str} {tx : Tok} {a : List Nat}
    (KX : (hd.heap_39 w.params).In s.heap) (T : TP mean mg mb s.heap) (hd : A.depth + 3 < recursionLimit) (hu : A.units + 20 < cLine) (hh : A.handled = none) (hxs : x.cps.size ≤ 1000)
    (hx : x.cps.toList = a ++ [39]) (ha : 39 ∉ a)
    (hQ : ∀ D h' tk', s.heap.StaysIn h' → s.heap.get? D = none → h'.get? D = some { cls := .type "tuple", data := .seq #[.none, .none, .str x tx] } → Q (.ref D) { s with heap := h', toks := tk' }) :
    wpAny (model PR w) A (call (.ref 28) [.str x tx]) Q E s := by
  have dum : Fills Mine.hd.heap_39 PySem.Challenge.rw_wf0021_01 True := by k_fill; trivial
  obtain ⟨ah, ad, af, ag, au⟩ := A
  obtain rfl : ah = none := hh
  dsimp only at hd hu
  refine enter (binds := [(Str.ofString "s", .str x tx)]) KX T (by k_is) (by k_is) (by show ad < recursionLimit; omega) (BindsTo.of_eq rfl) (locs rfl) ?_ rfl rfl rfl (by decide)
  intro h₁ F N
  have hsm := split2 hx ha
  ((repeat' ( (fail_if_success (with_reducible show wpAny _ _ (call (Value.builtin "len") [Value.ref _]) _ _ _)); ((( ((( (fail_if_success (with_reducible show wpAny _ _ (exec (Stmt.For _ _ _ _ _) _) _ _ _)); (fail_if_success (with_reducible show wpAny _ _ (exec (Stmt.While _ _ _ _) _) _ _ _)); (fail_if_success (with_reducible show wpAny _ _ (pyIter (Value.ref _)) _ _ _)); (fail_if_success (with_reducible show wpAny _ _ (call (Value.ref _) _ _) _ _ _)); (fail_if_success (with_reducible show wpAny _ _ (call (Value.builtin "next") _ _) _ _ _)); (fail_if_success (with_reducible show wpAny _ _ (eval (Expr.ListComp _ _ _ _) _) _ _ _)); (fail_if_success (with_reducible show LCg.CompEnd _ _ _ _ _ _ _ _ _ _ _ _ _ _)); (fail_if_success (with_reducible show LoopStep3 _ _ _ _ _ _ _ _ _ _)); (fail_if_success (with_reducible show LoopStepV _ _ _ _ _ _ _ _ _ _)); skip))); (fail_if_success (with_reducible show wpAny _ _ (exec (Stmt.Assign _ (Expr.ListComp _ _ _ _) _) _) _ _ _)); (((first | ((with_reducible show wpAny _ _ (storeName _ _ _) _ _ _); dsimp only; walk1) | ((first | (k_unfold; (try dsimp only)) | (k_end; wrow_close) | walk1 | (dsimp only; walk1) | (leave1; walk_say "STEP leave1"; try dsimp only) | fail "no step")))))))))))
  rename Fr _ _ _ _ => F1
  rename News _ _ _ _ => N1
  rename List.map _ _ = Txt.splitMax _ _ _ => hl
  have hz := strValues_len ‹List (Str × Tok)›
  rw [hl, hsm] at hz
  refine call_len_list (News.isList N1 (.head _)) (by rw [hz]; decide) ?_
  rw [hz]
  ((repeat' ( (fail_if_success (with_reducible show wpAny _ _ (call (Value.builtin "len") [Value.ref _]) _ _ _)); ((( ((( (fail_if_success (with_reducible show wpAny _ _ (exec (Stmt.For _ _ _ _ _) _) _ _ _)); (fail_if_success (with_reducible show wpAny _ _ (exec (Stmt.While _ _ _ _) _) _ _ _)); (fail_if_success (with_reducible show wpAny _ _ (pyIter (Value.ref _)) _ _ _)); (fail_if_success (with_reducible show wpAny _ _ (call (Value.ref _) _ _) _ _ _)); (fail_if_success (with_reducible show wpAny _ _ (call (Value.builtin "next") _ _) _ _ _)); (fail_if_success (with_reducible show wpAny _ _ (eval (Expr.ListComp _ _ _ _) _) _ _ _)); (fail_if_success (with_reducible show LCg.CompEnd _ _ _ _ _ _ _ _ _ _ _ _ _ _)); (fail_if_success (with_reducible show LoopStep3 _ _ _ _ _ _ _ _ _ _)); (fail_if_success (with_reducible show LoopStepV _ _ _ _ _ _ _ _ _ _)); skip))); (fail_if_success (with_reducible show wpAny _ _ (exec (Stmt.Assign _ (Expr.ListComp _ _ _ _) _) _) _ _ _)); (((first | ((with_reducible show wpAny _ _ (storeName _ _ _) _ _ _); dsimp only; walk1) | ((first | (k_unfold; (try dsimp only)) | (k_end; wrow_close) | walk1 | (dsimp only; walk1) | (leave1; walk_say "STEP leave1"; try dsimp only) | fail "no step")))))))))))
  rename Fr _ _ _ _ => F2
  rename News _ _ _ _ => N2
  exact hQ _ _ _ F2.keep (N2 _ (.head _)).2.2 (N2 _ (.head _)).1
noncomputable def figF (lo hi : Int) (n : Nat) : List Int := if _h : n ≤ 1 then [] else figF lo hi (n / 2) ++ [if n % 2 = 1 then hi else lo]
termination_by n
decreasing_by omega
theorem figF_le {lo hi : Int} {n : Nat} (h : n ≤ 1) : figF lo hi n = [] := by rw [figF]; simp [h]
theorem figF_gt {lo hi : Int} {n : Nat} (h : 1 < n) : figF lo hi n = figF lo hi (n / 2) ++ [if n % 2 = 1 then hi else lo] := by rw [figF]; simp [Nat.not_le.mpr h]
theorem figF_len {lo hi : Int} : ∀ d n, n < 2 ^ (d + 1) → (figF lo hi n).length ≤ d
  | 0, n, h => by rw [figF_le (by simpa using Nat.le_of_lt_succ h)]; simp
  | d + 1, n, h => by
    by_cases h0 : n ≤ 1
    · rw [figF_le h0]; simp
    · rw [figF_gt (by omega), List.length_append, List.length_singleton]
      have := figF_len (lo := lo) (hi := hi) d (n / 2) (by rw [Nat.pow_succ] at h; omega)
      omega
theorem ints4 {vs : List Value} {ns : List Int} (h : IntsAre vs ns) (hn : ns.length = 4) : ∃ a b c d t u v x, vs = [.int a t, .int b u, .int c v, .int d x] := by
  cases h with
  | nil => simp at hn
  | cons a t h => cases h with
    | nil => simp at hn
    | cons b u h => cases h with
      | nil => simp at hn
      | cons c v h => cases h with
        | nil => simp at hn
        | cons d x h => cases h with
          | nil => exact ⟨a, b, c, d, t, u, v, x, rfl⟩
          | cons => simp at hn
theorem news_h4 {h₀ h : Heap} {L : Addr} {a b c d : Addr × Obj} {R : List (Addr × Obj)} (N : News h₀ L h (a :: b :: c :: d :: R)) : News h₀ L h (a :: R) := fun p hp => by
  rcases List.mem_cons.mp hp with rfl | hp
  · exact N _ (.head _)
  · exact N _ (.tail _ (.tail _ (.tail _ (.tail _ hp))))
section
variable {w : World} {A : Around} {h₀ : Heap} {env : Env} {body : List Stmt} {Q : Flow → Shared → Prop} {E : Value → Shared → Prop} {s₂ : Shared} {I : Addr} {fp wr : List Addr} {n : Nat} {St : Nat → Heap → Prop} {m : Str → Option Value}
theorem pairAt3_K {xi xc : Str} {Pt : Nat → Array Value → Prop} {Mid : Nat → Addr → Heap → Prop} (P2 : Nat → Value → Value → Prop) (news : List (Addr × Obj)) (J : Nat → (Str → Option Value) → List (Addr × Obj) → Prop)
    (W : WalksT PR w A I fp wr n Pt St Mid) (h2 : ∀ i vals, Pt i vals → ∃ v0 v1, vals = #[v0, v1] ∧ P2 i v0 v1) (h3 : env.locals ∉ fp) (h4 : ∀ b ∈ wr, h₀.get? b = none) (h5 : ∀ p ∈ news, p.1 ∉ wr) (h6 : St 0 s₂.heap)
    (F : Fr h₀ env.locals s₂.heap m) (N : News h₀ env.locals s₂.heap news) (h0 : J 0 m news)
    (turn : ∀ (K : (Str → Option Value) → List (Addr × Obj) → Prop) (R : Value → Shared → Prop) (S : Shared → Prop) i v0 v1 m₁ news₁ h tk own, (∀ m nx, J (i + 1) m nx → K m nx) → i < n → P2 i v0 v1 → J i m₁ news₁ → (∀ p ∈ own, p.1 ∈ fp) →
      Fr h₀ env.locals h (fun y => if y = xc then some v1 else if y = xi then some v0 else m₁ y) → News h₀ env.locals h (own ++ news₁) →
      wpAny (model PR w) A (execs body env) (LoopStep3 h₀ env.locals own news₁ K { s₂ with heap := h, toks := tk } R S) E { s₂ with heap := h, toks := tk })
    (done : ∀ h' tk m' news', J n m' news' → Fr h₀ env.locals h' m' → News h₀ env.locals h' news' → Q .next { s₂ with heap := h', toks := tk }) : PairAt3 PR w A h₀ env xi xc body Q E (.ref I) s₂ :=
  ⟨I, fp, wr, n, Pt, St, Mid, P2, m, news, J, rfl, W, h2, h3, h4, h5, h6, F, N, h0, fun i v0 v1 m₁ news₁ s₁ own e hi hP hJ _ hown F₁ N₁ => by
    obtain ⟨h, tk, rfl⟩ := e
    exact turn _ _ _ i v0 v1 m₁ news₁ h tk own (fun _ _ h => h) hi hP hJ hown F₁ N₁, fun h' tk m' news' F' N' _ hJ => done h' tk m' news' hJ F' N'⟩
theorem loopAtV_K {x : Str} {P : Nat → Value → Prop} (news : List (Addr × Obj)) (J : Nat → (Str → Option Value) → List (Addr × Obj) → Prop)
    (W : Walks PR w A I fp wr n P St) (h3 : env.locals ∉ fp) (h4 : ∀ b ∈ wr, h₀.get? b = none) (h5 : ∀ p ∈ news, p.1 ∉ wr) (h6 : St 0 s₂.heap)
    (F : Fr h₀ env.locals s₂.heap m) (N : News h₀ env.locals s₂.heap news) (h0 : J 0 m news)
    (turn : ∀ (K : (Str → Option Value) → List (Addr × Obj) → Prop) (R : Value → Shared → Prop) (S : Shared → Prop) i v m₁ news₁ h tk own, (∀ m nx, J (i + 1) m nx → K m nx) → i < n → P i v → J i m₁ news₁ → (∀ p ∈ news₁, p.1 ∉ wr) → (∀ p ∈ own, p.1 ∈ fp) →
      (∀ b ∈ fp, h₀.get? b = none → ∀ o, h.get? b = some o → (b, o) ∈ own) → St (i + 1) h →
      Fr h₀ env.locals h (fun y => if y = x then some v else m₁ y) → News h₀ env.locals h (own ++ news₁) →
      wpAny (model PR w) A (execs body env) (LoopStepV h₀ env.locals wr own K { s₂ with heap := h, toks := tk } R S) E { s₂ with heap := h, toks := tk })
    (done : ∀ h' tk m' news', J n m' news' → Fr h₀ env.locals h' m' → News h₀ env.locals h' news' → Q .next { s₂ with heap := h', toks := tk }) : LoopAtV PR w A h₀ env x body Q E (.ref I) s₂ :=
  ⟨I, fp, wr, n, P, St, m, news, J, rfl, W, h3, h4, h5, h6, F, N, h0, fun i v m₁ news₁ s₁ own e hi hP hJ hnw hown _ hall hst F₁ N₁ => by
    obtain ⟨h, tk, rfl⟩ := e
    exact turn _ _ _ i v m₁ news₁ h tk own (fun _ _ h => h) hi hP hJ hnw hown hall hst F₁ N₁, fun h' tk m' news' F' N' _ hJ => done h' tk m' news' hJ F' N'⟩
end
theorem three_call {w : World} {A : Around} {s : Shared} {E : Value → Shared → Prop} {Q : Value → Shared → Prop} {mean : ExcName → Option Value} {mg mb : Str → Option Value}
    {l : Addr} {vs : List Value} {ns : List Int}
    (KX : (hd.heap_39 w.params).In s.heap) (T : TP mean mg mb s.heap) (hd : A.depth + 3 < recursionLimit) (hu : A.units + 20 < cLine) (hh : A.handled = none)
    (hl : s.heap.IsList l vs.toArray) (hi : IntsAre vs ns) (hlen : ns.length ≤ 1048576)
    (hQ : ∀ (lo hi : Int) (n0 n1 n2 : Nat) (v0 v1 v2 : List Value) (a0 a1 a2 D : Addr) (c c0 c1 c2 : Nat) h' tk', s.heap.StaysIn h' → 1 ≤ lo → lo ≤ 7 → lo + 1 ≤ hi → hi ≤ lo + 8 →
      2 ≤ n0 → n0 ≤ 31 → 2 ≤ n1 → n1 ≤ 31 → 2 ≤ n2 → n2 ≤ 31 →
      s.heap.get? D = none → s.heap.get? a0 = none → s.heap.get? a1 = none → s.heap.get? a2 = none →
      h'.get? D = some (listOf #[.ref a0, .ref a1, .ref a2] c) → h'.get? a0 = some (listOf (List.toArray v0) c0) → h'.get? a1 = some (listOf (List.toArray v1) c1) → h'.get? a2 = some (listOf (List.toArray v2) c2) →
      IntsAre v0 (figF lo hi n0) → IntsAre v1 (figF lo hi n1) → IntsAre v2 (figF lo hi n2) → Q (.ref D) { s with heap := h', toks := tk' }) :
    wpAny (model PR w) A (call (.ref 56) [.ref l]) Q E s := by
  have dum : Fills Mine.hd.heap_39 PySem.Challenge.rw_wf0021_01 True := by k_fill; trivial
  obtain ⟨ah, ad, af, ag, au⟩ := A
  obtain rfl : ah = none := hh
  dsimp only at hd hu
  refine enter (binds := [(Str.ofString "script", .ref l)]) KX T (by k_is) (by k_is) (by show ad < recursionLimit; omega) (BindsTo.of_eq rfl) (locs rfl) ?_ rfl rfl rfl (by decide)
  intro h₁ F N
  ((repeat' ( (fail_if_success (with_reducible show wpAny _ _ (call (Value.type "enumerate") _) _ _ _)); (fail_if_success (with_reducible show wpAny _ _ (call (Value.builtin "list.append") _) _ _ _)); (fail_if_success (with_reducible show wpAny _ _ (getItem (Value.ref _) (Value.int _ _)) _ _ _)); (fail_if_success (with_reducible show wpAny _ _ (setItem (Value.ref _) (Value.int _ _) _) _ _ _)); (fail_if_success (with_reducible show wpAny _ _ (execs (Stmt.Assign _ (Expr.List List.nil _) _ :: _) _) _ _ _)); ((( ((( (fail_if_success (with_reducible show wpAny _ _ (exec (Stmt.For _ _ _ _ _) _) _ _ _)); (fail_if_success (with_reducible show wpAny _ _ (exec (Stmt.While _ _ _ _) _) _ _ _)); (fail_if_success (with_reducible show wpAny _ _ (pyIter (Value.ref _)) _ _ _)); (fail_if_success (with_reducible show wpAny _ _ (call (Value.ref _) _ _) _ _ _)); (fail_if_success (with_reducible show wpAny _ _ (call (Value.builtin "next") _ _) _ _ _)); (fail_if_success (with_reducible show wpAny _ _ (eval (Expr.ListComp _ _ _ _) _) _ _ _)); (fail_if_success (with_reducible show LCg.CompEnd _ _ _ _ _ _ _ _ _ _ _ _ _ _)); (fail_if_success (with_reducible show LoopStep3 _ _ _ _ _ _ _ _ _ _)); (fail_if_success (with_reducible show LoopStepV _ _ _ _ _ _ _ _ _ _)); skip))); (fail_if_success (with_reducible show wpAny _ _ (exec (Stmt.Assign _ (Expr.ListComp _ _ _ _) _) _) _ _ _)); (((first | ((with_reducible show wpAny _ _ (storeName _ _ _) _ _ _); dsimp only; walk1) | ((first | (k_unfold; (try dsimp only)) | (k_end; wrow_close) | walk1 | (dsimp only; walk1) | (leave1; walk_say "STEP leave1"; try dsimp only) | fail "no step")))))))))))
  rename Fr _ _ _ _ => F1
  rename News _ _ _ _ => N1
  rename_i ca _ _ _
  refine For_pair3 s.heap rfl (by rfl) (by rfl) (by rfl) ?_ (by intro _; rfl)
  ((repeat' ( (fail_if_success (with_reducible show wpAny _ _ (call (Value.type "enumerate") _) _ _ _)); (fail_if_success (with_reducible show wpAny _ _ (call (Value.builtin "list.append") _) _ _ _)); (fail_if_success (with_reducible show wpAny _ _ (getItem (Value.ref _) (Value.int _ _)) _ _ _)); (fail_if_success (with_reducible show wpAny _ _ (setItem (Value.ref _) (Value.int _ _) _) _ _ _)); (fail_if_success (with_reducible show wpAny _ _ (execs (Stmt.Assign _ (Expr.List List.nil _) _ :: _) _) _ _ _)); ((( ((( (fail_if_success (with_reducible show wpAny _ _ (exec (Stmt.For _ _ _ _ _) _) _ _ _)); (fail_if_success (with_reducible show wpAny _ _ (exec (Stmt.While _ _ _ _) _) _ _ _)); (fail_if_success (with_reducible show wpAny _ _ (pyIter (Value.ref _)) _ _ _)); (fail_if_success (with_reducible show wpAny _ _ (call (Value.ref _) _ _) _ _ _)); (fail_if_success (with_reducible show wpAny _ _ (call (Value.builtin "next") _ _) _ _ _)); (fail_if_success (with_reducible show wpAny _ _ (eval (Expr.ListComp _ _ _ _) _) _ _ _)); (fail_if_success (with_reducible show LCg.CompEnd _ _ _ _ _ _ _ _ _ _ _ _ _ _)); (fail_if_success (with_reducible show LoopStep3 _ _ _ _ _ _ _ _ _ _)); (fail_if_success (with_reducible show LoopStepV _ _ _ _ _ _ _ _ _ _)); skip))); (fail_if_success (with_reducible show wpAny _ _ (exec (Stmt.Assign _ (Expr.ListComp _ _ _ _) _) _) _ _ _)); (((first | ((with_reducible show wpAny _ _ (storeName _ _ _) _ _ _); dsimp only; walk1) | ((first | (k_unfold; (try dsimp only)) | (k_end; wrow_close) | walk1 | (dsimp only; walk1) | (leave1; walk_say "STEP leave1"; try dsimp only) | fail "no step")))))))))))
  rename Fr _ _ _ _ => F2
  rename News _ _ _ _ => N2
  rename IntsAre _ _ => hw
  rename List Value => ws
  refine call_enumerate_list (News.isList N2 (.head _)) (fun h' he hit hsz hk => ?_)
  have F3 := F2.after hk
  have N3 := N2.grown hk
  try clear F1 N1
  refine wpAny_pyIter_enum he ?_
  have hlt : ∀ p ∈ _, _ := fun p hp => Heap.lt_size (N2 p hp).1
  have hD := ltN (hlt _ (.head _))
  have hcl := ltN (hlt _ (.tail _ (.head _)))
  have hLs := ltN F2.ns.lt
  dsimp only at hD hcl hLs he hit hsz
  have hno : ∀ a, s.heap.objs.size ≤ a → s.heap.get? a = none := fun a ha => Heap.get?_none_of_le ha
  refine pairAt3_K (fun i v0 v1 => (∃ t, v0 = .int i t) ∧ ws.toArray[i]? = some v1) [(ca, _)] (fun i m news => m (Str.ofString "cells") = some (.ref ca) ∧ ∃ cvs cs n, IntsAre cvs cs ∧ cs.length = 4 ∧ news = [(ca, listOf (List.toArray cvs) n)]) (WalksT.enumerate rfl _ _ _ (Nat.succ_ne_self _) (Nat.ne_of_lt (Nat.lt_succ_of_lt hD)) (Nat.ne_of_lt hD) ws.toArray) ?_ ?_ ?_ ?_ ⟨⟨_, he⟩, hit, (News.isList N3 (.head _))⟩ F3 (news_sub N3 (fun p hp => .tail _ hp)) ⟨rfl, _, [1, 4, 24, 0], _, .cons _ _ (.cons _ _ (.cons _ _ (.cons _ _ .nil))), rfl, rfl⟩ ?_ ?_
  · rintro i vals ⟨t, x, hx, rfl⟩
    exact ⟨_, _, rfl, ⟨t, rfl⟩, hx⟩
  · show s.heap.objs.size ∉ _
    simp only [List.mem_cons, List.not_mem_nil, or_false, not_or]
    exact ⟨Nat.ne_of_lt (Nat.lt_succ_of_lt hLs), Nat.ne_of_lt hLs, Ne.symm (N2 _ (.head _)).2.1⟩
  · intro b hb
    simp only [List.mem_cons, List.not_mem_nil, or_false] at hb
    rcases hb with rfl | rfl
    · exact hno _ (by omega)
    · exact hno _ (by omega)
  · intro p hp
    obtain rfl := List.mem_singleton.mp hp
    simp only [List.mem_cons, List.not_mem_nil, or_false, not_or]
    exact ⟨Nat.ne_of_lt (Nat.lt_succ_of_lt hcl), Nat.ne_of_lt hcl⟩
  · intro Kt Rt St i v0 v1 m₁ news₁ hh₁ tk₁ own hKt hin hP hj hown F N
    refine bb fun G hG => ?_
    obtain ⟨⟨t, rfl⟩, hx⟩ := hP
    obtain ⟨hm, cvs, cs, n, hcv, hc4, rfl⟩ := hj
    have hx' : ws[i]? = some v1 := by simpa using hx
    obtain ⟨k, u, rfl⟩ : ∃ k u, v1 = .int k u := by
      obtain ⟨k, u, e, _⟩ := hw.at _ _ hx'
      exact ⟨k, u, e⟩
    refine hG ?_
    clear hG G
    have F := know1 (y1 := Str.ofString "cells") F hm
    try clear F2 N2 F3 N3
    have hlen := hcv.length
    have hoff : ∀ p ∈ own, p.1 ≠ ca := by
      intro p hp e
      have hm' := hown p hp
      rw [e] at hm'
      simp only [List.mem_cons, List.not_mem_nil, or_false] at hm'
      rcases hm' with e | e | e
      · exact absurd e (Nat.ne_of_lt (Nat.lt_succ_of_lt hcl))
      · exact absurd e (Nat.ne_of_lt hcl)
      · exact absurd e (Nat.ne_of_lt (by assumption))
    have hj0 : 0 ≤ (i : Int).fmod 4 := by rw [Int.fmod_eq_emod_of_nonneg _ (by decide)]; omega
    have hj1 : (i : Int).fmod 4 < 4 := by rw [Int.fmod_eq_emod_of_nonneg _ (by decide)]; omega
    ((repeat' ( (fail_if_success (with_reducible show wpAny _ _ (call (Value.type "enumerate") _) _ _ _)); (fail_if_success (with_reducible show wpAny _ _ (call (Value.builtin "list.append") _) _ _ _)); (fail_if_success (with_reducible show wpAny _ _ (getItem (Value.ref _) (Value.int _ _)) _ _ _)); (fail_if_success (with_reducible show wpAny _ _ (setItem (Value.ref _) (Value.int _ _) _) _ _ _)); (fail_if_success (with_reducible show wpAny _ _ (execs (Stmt.Assign _ (Expr.List List.nil _) _ :: _) _) _ _ _)); ((( ((( (fail_if_success (with_reducible show wpAny _ _ (exec (Stmt.For _ _ _ _ _) _) _ _ _)); (fail_if_success (with_reducible show wpAny _ _ (exec (Stmt.While _ _ _ _) _) _ _ _)); (fail_if_success (with_reducible show wpAny _ _ (pyIter (Value.ref _)) _ _ _)); (fail_if_success (with_reducible show wpAny _ _ (call (Value.ref _) _ _) _ _ _)); (fail_if_success (with_reducible show wpAny _ _ (call (Value.builtin "next") _ _) _ _ _)); (fail_if_success (with_reducible show wpAny _ _ (eval (Expr.ListComp _ _ _ _) _) _ _ _)); (fail_if_success (with_reducible show LCg.CompEnd _ _ _ _ _ _ _ _ _ _ _ _ _ _)); (fail_if_success (with_reducible show LoopStep3 _ _ _ _ _ _ _ _ _ _)); (fail_if_success (with_reducible show LoopStepV _ _ _ _ _ _ _ _ _ _)); skip))); (fail_if_success (with_reducible show wpAny _ _ (exec (Stmt.Assign _ (Expr.ListComp _ _ _ _) _) _) _ _ _)); (((first | ((with_reducible show wpAny _ _ (storeName _ _ _) _ _ _); dsimp only; walk1) | ((first | (k_unfold; (try dsimp only)) | (k_end; wrow_close) | walk1 | (dsimp only; walk1) | (leave1; walk_say "STEP leave1"; try dsimp only) | fail "no step")))))))))))
    refine get_int (N _ (List.mem_append_right _ (.head _))).1 hcv hj0 (by rw [hc4]; exact hj1) (by omega) (fun c u hc => ?_)
    ((repeat' ( (fail_if_success (with_reducible show wpAny _ _ (call (Value.type "enumerate") _) _ _ _)); (fail_if_success (with_reducible show wpAny _ _ (call (Value.builtin "list.append") _) _ _ _)); (fail_if_success (with_reducible show wpAny _ _ (getItem (Value.ref _) (Value.int _ _)) _ _ _)); (fail_if_success (with_reducible show wpAny _ _ (setItem (Value.ref _) (Value.int _ _) _) _ _ _)); (fail_if_success (with_reducible show wpAny _ _ (execs (Stmt.Assign _ (Expr.List List.nil _) _ :: _) _) _ _ _)); ((( ((( (fail_if_success (with_reducible show wpAny _ _ (exec (Stmt.For _ _ _ _ _) _) _ _ _)); (fail_if_success (with_reducible show wpAny _ _ (exec (Stmt.While _ _ _ _) _) _ _ _)); (fail_if_success (with_reducible show wpAny _ _ (pyIter (Value.ref _)) _ _ _)); (fail_if_success (with_reducible show wpAny _ _ (call (Value.ref _) _ _) _ _ _)); (fail_if_success (with_reducible show wpAny _ _ (call (Value.builtin "next") _ _) _ _ _)); (fail_if_success (with_reducible show wpAny _ _ (eval (Expr.ListComp _ _ _ _) _) _ _ _)); (fail_if_success (with_reducible show LCg.CompEnd _ _ _ _ _ _ _ _ _ _ _ _ _ _)); (fail_if_success (with_reducible show LoopStep3 _ _ _ _ _ _ _ _ _ _)); (fail_if_success (with_reducible show LoopStepV _ _ _ _ _ _ _ _ _ _)); skip))); (fail_if_success (with_reducible show wpAny _ _ (exec (Stmt.Assign _ (Expr.ListComp _ _ _ _) _) _) _ _ _)); (((first | ((with_reducible show wpAny _ _ (storeName _ _ _) _ _ _); dsimp only; walk1) | ((first | (k_unfold; (try dsimp only)) | (k_end; wrow_close) | walk1 | (dsimp only; walk1) | (leave1; walk_say "STEP leave1"; try dsimp only) | fail "no step")))))))))))
    refine list_set (N _ (List.mem_append_right _ (.head _))).1 hj0 (by omega) (by rw [List.size_toArray, hlen, hc4]; exact hj1) (fun h4 ho4 hs4 => ?_)
    have hp := N _ (List.mem_append_right _ (.head _))
    have F4 := F.change hs4 hp.2.1 hp.2.2
    have N4 := news_but1 N (fun b o hb e => hs4.extBut b o hb e) ho4 hoff (by simp)
    clear F N
    ((repeat' ( (fail_if_success (with_reducible show wpAny _ _ (call (Value.type "enumerate") _) _ _ _)); (fail_if_success (with_reducible show wpAny _ _ (call (Value.builtin "list.append") _) _ _ _)); (fail_if_success (with_reducible show wpAny _ _ (getItem (Value.ref _) (Value.int _ _)) _ _ _)); (fail_if_success (with_reducible show wpAny _ _ (setItem (Value.ref _) (Value.int _ _) _) _ _ _)); (fail_if_success (with_reducible show wpAny _ _ (execs (Stmt.Assign _ (Expr.List List.nil _) _ :: _) _) _ _ _)); ((( ((( (fail_if_success (with_reducible show wpAny _ _ (exec (Stmt.For _ _ _ _ _) _) _ _ _)); (fail_if_success (with_reducible show wpAny _ _ (exec (Stmt.While _ _ _ _) _) _ _ _)); (fail_if_success (with_reducible show wpAny _ _ (pyIter (Value.ref _)) _ _ _)); (fail_if_success (with_reducible show wpAny _ _ (call (Value.ref _) _ _) _ _ _)); (fail_if_success (with_reducible show wpAny _ _ (call (Value.builtin "next") _ _) _ _ _)); (fail_if_success (with_reducible show wpAny _ _ (eval (Expr.ListComp _ _ _ _) _) _ _ _)); (fail_if_success (with_reducible show LCg.CompEnd _ _ _ _ _ _ _ _ _ _ _ _ _ _)); (fail_if_success (with_reducible show LoopStep3 _ _ _ _ _ _ _ _ _ _)); (fail_if_success (with_reducible show LoopStepV _ _ _ _ _ _ _ _ _ _)); skip))); (fail_if_success (with_reducible show wpAny _ _ (exec (Stmt.Assign _ (Expr.ListComp _ _ _ _) _) _) _ _ _)); (((first | ((with_reducible show wpAny _ _ (storeName _ _ _) _ _ _); dsimp only; walk1) | ((first | (k_unfold; (try dsimp only)) | (k_end; wrow_close) | walk1 | (dsimp only; walk1) | (leave1; walk_say "STEP leave1"; try dsimp only) | fail "no step")))))))))))
    rw [List.setIfInBounds_toArray] at N4
    exact LoopStep2.intro (Jn := Kt) F4 N4 rfl (hKt _ _ ⟨rfl, _, _, n, ints_set _ hcv, by rw [List.length_set]; exact hc4, rfl⟩)
  · intro h' tk m' news' hj F N
    refine bb fun G hG => ?_
    obtain ⟨hm, cvs, cs, n, hcv, hc4, rfl⟩ := hj
    obtain ⟨c0, c1, c2, c3, t0, t1, t2, t3, rfl⟩ := ints4 hcv hc4
    refine hG ?_
    clear hG G
    clear hcv hc4 he hit hsz hk hlt hD hcl hLs hw
    have F := know1 F hm
    try clear F2 N2 F3 N3
    dsimp only
    ((repeat' ( (fail_if_success (with_reducible show wpAny _ _ (call (Value.type "enumerate") _) _ _ _)); (fail_if_success (with_reducible show wpAny _ _ (call (Value.builtin "list.append") _) _ _ _)); (fail_if_success (with_reducible show wpAny _ _ (getItem (Value.ref _) (Value.int _ _)) _ _ _)); (fail_if_success (with_reducible show wpAny _ _ (setItem (Value.ref _) (Value.int _ _) _) _ _ _)); (fail_if_success (with_reducible show wpAny _ _ (execs (Stmt.Assign _ (Expr.List List.nil _) _ :: _) _) _ _ _)); ((( ((( (fail_if_success (with_reducible show wpAny _ _ (exec (Stmt.For _ _ _ _ _) _) _ _ _)); (fail_if_success (with_reducible show wpAny _ _ (exec (Stmt.While _ _ _ _) _) _ _ _)); (fail_if_success (with_reducible show wpAny _ _ (pyIter (Value.ref _)) _ _ _)); (fail_if_success (with_reducible show wpAny _ _ (call (Value.ref _) _ _) _ _ _)); (fail_if_success (with_reducible show wpAny _ _ (call (Value.builtin "next") _ _) _ _ _)); (fail_if_success (with_reducible show wpAny _ _ (eval (Expr.ListComp _ _ _ _) _) _ _ _)); (fail_if_success (with_reducible show LCg.CompEnd _ _ _ _ _ _ _ _ _ _ _ _ _ _)); (fail_if_success (with_reducible show LoopStep3 _ _ _ _ _ _ _ _ _ _)); (fail_if_success (with_reducible show LoopStepV _ _ _ _ _ _ _ _ _ _)); skip))); (fail_if_success (with_reducible show wpAny _ _ (exec (Stmt.Assign _ (Expr.ListComp _ _ _ _) _) _) _ _ _)); (((first | ((with_reducible show wpAny _ _ (storeName _ _ _) _ _ _); dsimp only; walk1) | ((first | (k_unfold; (try dsimp only)) | (k_end; wrow_close) | walk1 | (dsimp only; walk1) | (leave1; walk_say "STEP leave1"; try dsimp only) | fail "no step")))))))))))
    refine wpAny_execs_cons ?_
    rename Fr _ _ _ _ => F1
    rename News _ _ _ _ => N1
    have e3 : [c0, c1, c2, c3].getD (Int.toNat 3) 0 = c3 := rfl
    rw [e3] at F1
    have hlo1 : 1 ≤ 1 + c3.fmod 7 ∧ 1 + c3.fmod 7 ≤ 7 := by rw [Int.fmod_eq_emod_of_nonneg _ (by decide)]; omega
    have hhi1 : 1 + c3.fmod 7 + 1 ≤ 1 + c3.fmod 7 + 1 + (c3.fdiv 7).fmod 8 ∧ 1 + c3.fmod 7 + 1 + (c3.fdiv 7).fmod 8 ≤ 1 + c3.fmod 7 + 8 := by
      rw [Int.fmod_eq_emod_of_nonneg (c3.fdiv 7) (by decide)]; omega
    obtain ⟨hi, hhi⟩ : ∃ z, z = 1 + c3.fmod 7 + 1 + (c3.fdiv 7).fmod 8 := ⟨_, rfl⟩
    obtain ⟨lo, hlo⟩ : ∃ z, z = 1 + c3.fmod 7 := ⟨_, rfl⟩
    rw [← hhi] at F1 hhi1
    rw [← hlo] at F1 hlo1 hhi1
    clear hhi hlo
    ((repeat' ( (fail_if_success (with_reducible show wpAny _ _ (call (Value.type "enumerate") _) _ _ _)); (fail_if_success (with_reducible show wpAny _ _ (call (Value.builtin "list.append") _) _ _ _)); (fail_if_success (with_reducible show wpAny _ _ (getItem (Value.ref _) (Value.int _ _)) _ _ _)); (fail_if_success (with_reducible show wpAny _ _ (setItem (Value.ref _) (Value.int _ _) _) _ _ _)); (fail_if_success (with_reducible show wpAny _ _ (execs (Stmt.Assign _ (Expr.List List.nil _) _ :: _) _) _ _ _)); ((( ((( (fail_if_success (with_reducible show wpAny _ _ (exec (Stmt.For _ _ _ _ _) _) _ _ _)); (fail_if_success (with_reducible show wpAny _ _ (exec (Stmt.While _ _ _ _) _) _ _ _)); (fail_if_success (with_reducible show wpAny _ _ (pyIter (Value.ref _)) _ _ _)); (fail_if_success (with_reducible show wpAny _ _ (call (Value.ref _) _ _) _ _ _)); (fail_if_success (with_reducible show wpAny _ _ (call (Value.builtin "next") _ _) _ _ _)); (fail_if_success (with_reducible show wpAny _ _ (eval (Expr.ListComp _ _ _ _) _) _ _ _)); (fail_if_success (with_reducible show LCg.CompEnd _ _ _ _ _ _ _ _ _ _ _ _ _ _)); (fail_if_success (with_reducible show LoopStep3 _ _ _ _ _ _ _ _ _ _)); (fail_if_success (with_reducible show LoopStepV _ _ _ _ _ _ _ _ _ _)); skip))); (fail_if_success (with_reducible show wpAny _ _ (exec (Stmt.Assign _ (Expr.ListComp _ _ _ _) _) _) _ _ _)); (((first | ((with_reducible show wpAny _ _ (storeName _ _ _) _ _ _); dsimp only; walk1) | ((first | (k_unfold; (try dsimp only)) | (k_end; wrow_close) | walk1 | (dsimp only; walk1) | (leave1; walk_say "STEP leave1"; try dsimp only) | fail "no step")))))))))))
    rename Fr _ _ _ _ => F2
    rename News _ _ _ _ => N2
    refine For_invV s.heap (by rfl) (by rfl) ?_
    ((repeat' ( (fail_if_success (with_reducible show wpAny _ _ (call (Value.type "enumerate") _) _ _ _)); (fail_if_success (with_reducible show wpAny _ _ (call (Value.builtin "list.append") _) _ _ _)); (fail_if_success (with_reducible show wpAny _ _ (getItem (Value.ref _) (Value.int _ _)) _ _ _)); (fail_if_success (with_reducible show wpAny _ _ (setItem (Value.ref _) (Value.int _ _) _) _ _ _)); (fail_if_success (with_reducible show wpAny _ _ (execs (Stmt.Assign _ (Expr.List List.nil _) _ :: _) _) _ _ _)); ((( ((( (fail_if_success (with_reducible show wpAny _ _ (exec (Stmt.For _ _ _ _ _) _) _ _ _)); (fail_if_success (with_reducible show wpAny _ _ (exec (Stmt.While _ _ _ _) _) _ _ _)); (fail_if_success (with_reducible show wpAny _ _ (pyIter (Value.ref _)) _ _ _)); (fail_if_success (with_reducible show wpAny _ _ (call (Value.ref _) _ _) _ _ _)); (fail_if_success (with_reducible show wpAny _ _ (call (Value.builtin "next") _ _) _ _ _)); (fail_if_success (with_reducible show wpAny _ _ (eval (Expr.ListComp _ _ _ _) _) _ _ _)); (fail_if_success (with_reducible show LCg.CompEnd _ _ _ _ _ _ _ _ _ _ _ _ _ _)); (fail_if_success (with_reducible show LoopStep3 _ _ _ _ _ _ _ _ _ _)); (fail_if_success (with_reducible show LoopStepV _ _ _ _ _ _ _ _ _ _)); skip))); (fail_if_success (with_reducible show wpAny _ _ (exec (Stmt.Assign _ (Expr.ListComp _ _ _ _) _) _) _ _ _)); (((first | ((with_reducible show wpAny _ _ (storeName _ _ _) _ _ _); dsimp only; walk1) | ((first | (k_unfold; (try dsimp only)) | (k_end; wrow_close) | walk1 | (dsimp only; walk1) | (leave1; walk_say "STEP leave1"; try dsimp only) | fail "no step")))))))))))
    rename Fr _ _ _ _ => F3
    rename News _ _ _ _ => N3
    rename_i ta _ _ _ D3 _ _
    have hta := (N3 _ (.tail _ (.head _)))
    have hD3 := (N3 _ (.head _))
    have hls : ∀ p ∈ _, _ := fun p hp => ltN (Heap.lt_size (N3 p hp).1)
    have hta1 := hls _ (.tail _ (.head _))
    have hD31 := hls _ (.head _)
    have hLs := ltN F3.ns.lt
    dsimp only at hta1 hD31 hLs
    refine wpAny_pyIter_list (News.isList N3 (.head _)) ?_
    refine loopAtV_K [(ta, listOf #[] 0)] (fun i m news => (∃ t, m (Str.ofString "low") = some (.int lo t)) ∧ (∃ t, m (Str.ofString "high") = some (.int hi t)) ∧ m (Str.ofString "three") = some (.ref ta) ∧
      ∃ (ls : List (Addr × List Value × Nat)) (k : Nat), ls.length = i ∧ news = (ta, listOf (List.toArray (ls.map fun p => Value.ref p.1)) k) :: ls.map (fun p => (p.1, listOf (List.toArray p.2.1) p.2.2)) ∧
        ∀ (j : Nat) p, ls[j]? = some p → p.1 ≠ ta ∧ ∃ c t, [Value.int c0 t0, Value.int c1 t1, Value.int c2 t2][j]? = some (.int c t) ∧ IntsAre p.2.1 (figF lo hi (2 + c.fmod 30).toNat))
      (Walks.list (prog := PR) (w := w) rfl _ _ (Nat.ne_of_lt hD31) _) ?_ ?_ ?_ ⟨⟨_, Heap.get?_push_size _ rfl, rfl, rfl⟩, (News.isList N3 (.head _)).push _⟩ (F3.push _) (fun p hp => ?_) ⟨⟨_, rfl⟩, ⟨_, rfl⟩, rfl, [], 0, rfl, rfl, by simp⟩ ?_ ?_
    · show s.heap.objs.size ∉ _
      simp only [List.mem_cons, List.not_mem_nil, or_false, not_or]
      exact ⟨Nat.ne_of_lt hLs, Ne.symm hD3.2.1⟩
    · intro b hb
      rw [List.mem_singleton.mp hb]
      exact next_is_new F3
    · intro p hp
      obtain rfl := List.mem_singleton.mp hp
      simp only [List.mem_cons, List.not_mem_nil, or_false]
      exact Nat.ne_of_lt hta1
    · obtain rfl := List.mem_singleton.mp hp
      exact ⟨Heap.get?_push_of_some _ hta.1, hta.2⟩
    · intro Kt Rt St i v m₁ news₁ hh₁ tk₁ own hKt hin hP hj hnw hown hall hst F N
      refine bb fun G hG => ?_
      obtain ⟨⟨tl, j1⟩, ⟨th, j2⟩, j3, ls, k, j4, rfl, j5⟩ := hj
      try dsimp only at hP hst F N hall
      obtain ⟨c, u, rfl⟩ : ∃ c u, v = .int c u := by
        match i, hP with
        | 0, hP => exact ⟨c0, t0, by simpa using hP.symm⟩
        | 1, hP => exact ⟨c1, t1, by simpa using hP.symm⟩
        | 2, hP => exact ⟨c2, t2, by simpa using hP.symm⟩
        | k + 3, hP => simp at hP
      refine hG ?_
      clear hG G
      have hmem : (ta, listOf (List.toArray (ls.map fun p => Value.ref p.1)) k) ∈ own ++ (ta, listOf (List.toArray (ls.map fun p => Value.ref p.1)) k) :: ls.map (fun p => (p.1, listOf (List.toArray p.2.1) p.2.2)) := List.mem_append_right _ (.head _)
      generalize hR : own ++ (ta, listOf (List.toArray (ls.map fun p => Value.ref p.1)) k) :: ls.map (fun p => (p.1, listOf (List.toArray p.2.1) p.2.2)) = R at N hmem
      have hc0 : 2 ≤ 2 + c.fmod 30 ∧ 2 + c.fmod 30 ≤ 31 := by rw [Int.fmod_eq_emod_of_nonneg _ (by decide)]; omega
      have F := know3 (y1 := Str.ofString "low") (y2 := Str.ofString "high") (y3 := Str.ofString "three") F (by exact j1) (by exact j2) (by exact j3)
      ((repeat' ( (fail_if_success (with_reducible show wpAny _ _ (call (Value.type "enumerate") _) _ _ _)); (fail_if_success (with_reducible show wpAny _ _ (call (Value.builtin "list.append") _) _ _ _)); (fail_if_success (with_reducible show wpAny _ _ (getItem (Value.ref _) (Value.int _ _)) _ _ _)); (fail_if_success (with_reducible show wpAny _ _ (setItem (Value.ref _) (Value.int _ _) _) _ _ _)); (fail_if_success (with_reducible show wpAny _ _ (execs (Stmt.Assign _ (Expr.List List.nil _) _ :: _) _) _ _ _)); ((( ((( (fail_if_success (with_reducible show wpAny _ _ (exec (Stmt.For _ _ _ _ _) _) _ _ _)); (fail_if_success (with_reducible show wpAny _ _ (exec (Stmt.While _ _ _ _) _) _ _ _)); (fail_if_success (with_reducible show wpAny _ _ (pyIter (Value.ref _)) _ _ _)); (fail_if_success (with_reducible show wpAny _ _ (call (Value.ref _) _ _) _ _ _)); (fail_if_success (with_reducible show wpAny _ _ (call (Value.builtin "next") _ _) _ _ _)); (fail_if_success (with_reducible show wpAny _ _ (eval (Expr.ListComp _ _ _ _) _) _ _ _)); (fail_if_success (with_reducible show LCg.CompEnd _ _ _ _ _ _ _ _ _ _ _ _ _ _)); (fail_if_success (with_reducible show LoopStep3 _ _ _ _ _ _ _ _ _ _)); (fail_if_success (with_reducible show LoopStepV _ _ _ _ _ _ _ _ _ _)); skip))); (fail_if_success (with_reducible show wpAny _ _ (exec (Stmt.Assign _ (Expr.ListComp _ _ _ _) _) _) _ _ _)); (((first | ((with_reducible show wpAny _ _ (storeName _ _ _) _ _ _); dsimp only; walk1) | ((first | (k_unfold; (try dsimp only)) | (k_end; wrow_close) | walk1 | (dsimp only; walk1) | (leave1; walk_say "STEP leave1"; try dsimp only) | fail "no step")))))))))))
      refine wpAny_execs_cons ?_
      ((repeat' ( (fail_if_success (with_reducible show wpAny _ _ (call (Value.type "enumerate") _) _ _ _)); (fail_if_success (with_reducible show wpAny _ _ (call (Value.builtin "list.append") _) _ _ _)); (fail_if_success (with_reducible show wpAny _ _ (getItem (Value.ref _) (Value.int _ _)) _ _ _)); (fail_if_success (with_reducible show wpAny _ _ (setItem (Value.ref _) (Value.int _ _) _) _ _ _)); (fail_if_success (with_reducible show wpAny _ _ (execs (Stmt.Assign _ (Expr.List List.nil _) _ :: _) _) _ _ _)); ((( ((( (fail_if_success (with_reducible show wpAny _ _ (exec (Stmt.For _ _ _ _ _) _) _ _ _)); (fail_if_success (with_reducible show wpAny _ _ (exec (Stmt.While _ _ _ _) _) _ _ _)); (fail_if_success (with_reducible show wpAny _ _ (pyIter (Value.ref _)) _ _ _)); (fail_if_success (with_reducible show wpAny _ _ (call (Value.ref _) _ _) _ _ _)); (fail_if_success (with_reducible show wpAny _ _ (call (Value.builtin "next") _ _) _ _ _)); (fail_if_success (with_reducible show wpAny _ _ (eval (Expr.ListComp _ _ _ _) _) _ _ _)); (fail_if_success (with_reducible show LCg.CompEnd _ _ _ _ _ _ _ _ _ _ _ _ _ _)); (fail_if_success (with_reducible show LoopStep3 _ _ _ _ _ _ _ _ _ _)); (fail_if_success (with_reducible show LoopStepV _ _ _ _ _ _ _ _ _ _)); skip))); (fail_if_success (with_reducible show wpAny _ _ (exec (Stmt.Assign _ (Expr.ListComp _ _ _ _) _) _) _ _ _)); (((first | ((with_reducible show wpAny _ _ (storeName _ _ _) _ _ _); dsimp only; walk1) | ((first | (k_unfold; (try dsimp only)) | (k_end; wrow_close) | walk1 | (dsimp only; walk1) | (leave1; walk_say "STEP leave1"; try dsimp only) | fail "no step")))))))))))
      rename Fr _ _ _ _ => F4
      rename News _ _ _ _ => N4
      have hn0 : (2 + c.fmod 30) = ((2 + c.fmod 30).toNat : Int) := by omega
      generalize hn0' : (2 + c.fmod 30).toNat = n0 at hn0
      rw [hn0] at F4
      have hn31 : 2 ≤ n0 ∧ n0 ≤ 31 := by omega
      have hRl : ∀ p ∈ R, p.1 ≠ _ := fun p hp e => absurd (by assumption : ∀ p ∈ R, p.1 < _) (fun H => absurd (H p hp) (by rw [e]; exact Nat.lt_irrefl _))
      refine While_invK (fun v m nx => ∃ fa fvs fs fn, figF lo hi v ++ fs = figF lo hi n0 ∧ v ≤ n0 ∧ 1 ≤ v ∧ IntsAre fvs fs ∧ nx = (fa, listOf (List.toArray fvs) fn) :: R ∧ (∀ p ∈ R, p.1 ≠ fa) ∧ (∃ t, m (Str.ofString "left") = some (.int v t)) ∧ m (Str.ofString "figures") = some (.ref fa) ∧ m (Str.ofString "low") = some (.int lo tl) ∧ m (Str.ofString "high") = some (.int hi th) ∧ m (Str.ofString "three") = some (.ref ta)) F4 N4 (n₀ := n0) ?_ ?_
      · exact ⟨_, [], [], 0, by simp, Nat.le_refl _, by omega, .nil, rfl, hRl, ⟨_, rfl⟩, rfl, rfl, rfl, rfl⟩
      clear F N F4 N4 hRl
      intro Kw hKw v m₂ news₂ h₂ tk₂ F N hj
      refine bb fun G hG => ?_
      obtain ⟨fa, fvs, fs, fn, g1, g2, g3, g4, g5, g6, ⟨t7, g7⟩, g8, g9, g10, g11⟩ := hj
      subst g5
      refine hG ?_
      clear hG G
      have F := know5 (y1 := Str.ofString "left") (y2 := Str.ofString "figures") (y3 := Str.ofString "low") (y4 := Str.ofString "high") (y5 := Str.ofString "three") F (by exact g7) (by exact g8) (by exact g9) (by exact g10) (by exact g11)
      have hfl := figF_len (lo := lo) (hi := hi) 4 n0 (by omega)
      rw [← g1, List.length_append] at hfl
      have hfl2 : fvs.length ≤ 4 := by have := g4.length; omega
      have N : News _ _ _ ((ta, listOf (List.toArray (ls.map fun p => Value.ref p.1)) k) :: (fa, listOf (List.toArray fvs) fn) :: R) := fun p hp => by
        rcases List.mem_cons.mp hp with rfl | hp
        · exact N _ (.tail _ hmem)
        · exact N _ hp
      ((repeat' ( (fail_if_success (with_reducible show wpAny _ _ (call (Value.type "enumerate") _) _ _ _)); (fail_if_success (with_reducible show wpAny _ _ (call (Value.builtin "list.append") _) _ _ _)); (fail_if_success (with_reducible show wpAny _ _ (getItem (Value.ref _) (Value.int _ _)) _ _ _)); (fail_if_success (with_reducible show wpAny _ _ (setItem (Value.ref _) (Value.int _ _) _) _ _ _)); (fail_if_success (with_reducible show wpAny _ _ (execs (Stmt.Assign _ (Expr.List List.nil _) _ :: _) _) _ _ _)); ((( ((( (fail_if_success (with_reducible show wpAny _ _ (exec (Stmt.For _ _ _ _ _) _) _ _ _)); (fail_if_success (with_reducible show wpAny _ _ (exec (Stmt.While _ _ _ _) _) _ _ _)); (fail_if_success (with_reducible show wpAny _ _ (pyIter (Value.ref _)) _ _ _)); (fail_if_success (with_reducible show wpAny _ _ (call (Value.ref _) _ _) _ _ _)); (fail_if_success (with_reducible show wpAny _ _ (call (Value.builtin "next") _ _) _ _ _)); (fail_if_success (with_reducible show wpAny _ _ (eval (Expr.ListComp _ _ _ _) _) _ _ _)); (fail_if_success (with_reducible show LCg.CompEnd _ _ _ _ _ _ _ _ _ _ _ _ _ _)); (fail_if_success (with_reducible show LoopStep3 _ _ _ _ _ _ _ _ _ _)); (fail_if_success (with_reducible show LoopStepV _ _ _ _ _ _ _ _ _ _)); skip))); (fail_if_success (with_reducible show wpAny _ _ (exec (Stmt.Assign _ (Expr.ListComp _ _ _ _) _) _) _ _ _)); (((first | ((with_reducible show wpAny _ _ (storeName _ _ _) _ _ _); dsimp only; walk1) | ((first | (k_unfold; (try dsimp only)) | (k_end; wrow_close) | walk1 | (dsimp only; walk1) | (leave1; walk_say "STEP leave1"; try dsimp only) | fail "no step")))))))))))
      · rename 1 < (v : Int) => hv1
        rename (v : Int).fmod 2 = 1 => hodd
        rename IntsAre _ ([hi] ++ fs) => hI
        rename Fr _ _ _ _ => F5
        rename News _ _ _ _ => N5
        rename _ ∧ _ ∧ _ ∧ AllLt _ _ => hAll
        have hodd' : v % 2 = 1 := by rw [Int.fmod_eq_emod_of_nonneg _ (by decide)] at hodd; omega
        have hv2 : 1 < v := by omega
        rw [figF_gt hv2, if_pos hodd', List.append_assoc] at g1
        refine WhileStep.intro (n' := v / 2) F5 (news_h4 N5) (by omega) (hKw _ _ _ ⟨_, _, _, _, g1, by omega, by omega, hI, rfl, fun p hp => Nat.ne_of_lt (ktn_ltOf hAll.2.2.2 p hp), ex_int rfl (by rw [Int.fdiv_eq_ediv_of_nonneg _ (by decide)]; omega), rfl, rfl, rfl, rfl⟩)
      · rename 1 < (v : Int) => hv1
        rename (v : Int).fmod 2 ≠ 1 => hodd
        rename IntsAre _ ([lo] ++ fs) => hI
        rename Fr _ _ _ _ => F5
        rename News _ _ _ _ => N5
        rename _ ∧ _ ∧ _ ∧ AllLt _ _ => hAll
        have hodd' : ¬ v % 2 = 1 := by rw [Int.fmod_eq_emod_of_nonneg _ (by decide)] at hodd; omega
        have hv2 : 1 < v := by omega
        rw [figF_gt hv2, if_neg hodd', List.append_assoc] at g1
        refine WhileStep.intro (n' := v / 2) F5 (news_h4 N5) (by omega) (hKw _ _ _ ⟨_, _, _, _, g1, by omega, by omega, hI, rfl, fun p hp => Nat.ne_of_lt (ktn_ltOf hAll.2.2.2 p hp), ex_int rfl (by rw [Int.fdiv_eq_ediv_of_nonneg _ (by decide)]; omega), rfl, rfl, rfl, rfl⟩)
      · rename ¬ 1 < (v : Int) => hv1
        rw [figF_le (by omega), List.nil_append] at g1
        subst g1
        have hfa : fa ≠ ta := fun e => g6 _ hmem e.symm
        have hta' := N _ (.head _)
        refine append_at (hsz := by simp; show ls.length ≤ sizeLine; rw [j4]; have hin3 : i < 3 := hin; exact Nat.le_trans (Nat.le_of_lt hin3) (by decide)) hta'.1 fun h₅ hs₅ ho₅ => ?_
        have F5 := F.change hs₅ hta'.2.1 hta'.2.2
        have N5 : News s.heap s.heap.objs.size h₂ (own ++ (ta, listOf (List.toArray (ls.map fun p => Value.ref p.1)) k) :: (ls ++ [(fa, fvs, fn)]).map (fun p => (p.1, listOf (List.toArray p.2.1) p.2.2))) := fun p hp => by
          rw [List.map_append, ← List.cons_append, ← List.append_assoc, hR] at hp
          rcases List.mem_append.mp hp with hp | hp
          · exact N _ (.tail _ (.tail _ hp))
          · obtain rfl := List.mem_singleton.mp hp
            exact N _ (.tail _ (.head _))
        have hown' : ∀ p ∈ own, p.1 ≠ ta := by
          intro p hp e
          have := hown p hp
          rw [e] at this
          simp only [List.mem_cons, List.not_mem_nil, or_false] at this
          rcases this with e | e
          · exact absurd e (Nat.ne_of_lt hta1)
          · have : ta < D3 ∧ ca < D3 := by assumption
            exact absurd e (Nat.ne_of_lt this.1)
        have hls' : ∀ p ∈ (ls ++ [(fa, fvs, fn)]).map (fun p => (p.1, listOf (List.toArray p.2.1) p.2.2)), p.1 ≠ ta := by
          intro p hp
          rw [List.map_append] at hp
          rcases List.mem_append.mp hp with hp | hp
          · obtain ⟨q, hq, rfl⟩ := List.mem_map.mp hp
            obtain ⟨j, hj⟩ := List.getElem?_of_mem hq
            exact (j5 j q hj).1
          · obtain rfl := List.mem_singleton.mp hp
            exact hfa
        have N6 := news_but1 N5 (fun b o hb e => hs₅.extBut b o hb e) ho₅ hown' hls'
        rw [List.push_toArray, show (ls.map fun p => Value.ref p.1) ++ [Value.ref fa] = (ls ++ [(fa, fvs, fn)]).map fun p => Value.ref p.1 by simp] at N6
        clear N N5 F
        ((repeat' ( (fail_if_success (with_reducible show wpAny _ _ (call (Value.type "enumerate") _) _ _ _)); (fail_if_success (with_reducible show wpAny _ _ (call (Value.builtin "list.append") _) _ _ _)); (fail_if_success (with_reducible show wpAny _ _ (getItem (Value.ref _) (Value.int _ _)) _ _ _)); (fail_if_success (with_reducible show wpAny _ _ (setItem (Value.ref _) (Value.int _ _) _) _ _ _)); (fail_if_success (with_reducible show wpAny _ _ (execs (Stmt.Assign _ (Expr.List List.nil _) _ :: _) _) _ _ _)); ((( ((( (fail_if_success (with_reducible show wpAny _ _ (exec (Stmt.For _ _ _ _ _) _) _ _ _)); (fail_if_success (with_reducible show wpAny _ _ (exec (Stmt.While _ _ _ _) _) _ _ _)); (fail_if_success (with_reducible show wpAny _ _ (pyIter (Value.ref _)) _ _ _)); (fail_if_success (with_reducible show wpAny _ _ (call (Value.ref _) _ _) _ _ _)); (fail_if_success (with_reducible show wpAny _ _ (call (Value.builtin "next") _ _) _ _ _)); (fail_if_success (with_reducible show wpAny _ _ (eval (Expr.ListComp _ _ _ _) _) _ _ _)); (fail_if_success (with_reducible show LCg.CompEnd _ _ _ _ _ _ _ _ _ _ _ _ _ _)); (fail_if_success (with_reducible show LoopStep3 _ _ _ _ _ _ _ _ _ _)); (fail_if_success (with_reducible show LoopStepV _ _ _ _ _ _ _ _ _ _)); skip))); (fail_if_success (with_reducible show wpAny _ _ (exec (Stmt.Assign _ (Expr.ListComp _ _ _ _) _) _) _ _ _)); (((first | ((with_reducible show wpAny _ _ (storeName _ _ _) _ _ _); dsimp only; walk1) | ((first | (k_unfold; (try dsimp only)) | (k_end; wrow_close) | walk1 | (dsimp only; walk1) | (leave1; walk_say "STEP leave1"; try dsimp only) | fail "no step")))))))))))
        refine LoopStepV.next (LoopStepU.intro (news₂ := (ta, listOf (List.toArray ((ls ++ [(fa, fvs, fn)]).map fun p => Value.ref p.1)) (k + 1)) :: (ls ++ [(fa, fvs, fn)]).map (fun p : Addr × List Value × Nat => (p.1, listOf (List.toArray p.2.1) p.2.2))) F5 (by exact N6) (fun p hp => ?_) (hKt _ _ ⟨⟨_, rfl⟩, ⟨_, rfl⟩, rfl, ls ++ [(fa, fvs, fn)], k + 1, by simp [j4], rfl, ?_⟩))
        · rcases List.mem_cons.mp hp with rfl | hp
          · exact hnw (ta, listOf (List.toArray (ls.map fun p => Value.ref p.1)) k) (.head _)
          · rw [List.map_append] at hp
            rcases List.mem_append.mp hp with hp | hp
            · exact hnw _ (.tail _ hp)
            · obtain rfl := List.mem_singleton.mp hp
              intro hx
              obtain ⟨o, ho, _⟩ := hst.1
              have hx' := List.mem_singleton.mp hx
              have hio := hall _ (.head _) (hno _ (Nat.le_of_lt hLs)) o ho
              exact g6 _ (by rw [← hR]; exact List.mem_append_left _ hio) hx'.symm
        · intro j p hj
          by_cases hlt : j < ls.length
          · rw [List.getElem?_append_left hlt] at hj
            exact j5 j p hj
          · rw [List.getElem?_append_right (by omega)] at hj
            have hj0 : j - ls.length = 0 := by
              rcases Nat.eq_zero_or_pos (j - ls.length) with e | e
              · exact e
              · rw [List.getElem?_eq_none (by simp; omega)] at hj
                cases hj
            have hji : j = i := by omega
            subst hji
            rw [hj0] at hj
            obtain rfl := Option.some.inj hj
            exact ⟨hfa, c, u, by simpa using hP, by rw [hn0']; exact g4⟩
    · intro h' tk m' news' hj F N
      refine bb fun G hG => ?_
      obtain ⟨⟨tl, j1⟩, ⟨th, j2⟩, j3, ls, k, j4, rfl, j5⟩ := hj
      match ls, j4 with
      | [x0, x1, x2], _ =>
        obtain ⟨_, y0, q0, e0, i0⟩ := j5 0 x0 rfl
        obtain ⟨_, y1, q1, e1, i1⟩ := j5 1 x1 rfl
        obtain ⟨_, y2, q2, e2, i2⟩ := j5 2 x2 rfl
        refine hG ?_
        clear hG G
        have hb : ∀ z : Int, 2 ≤ (2 + z.fmod 30).toNat ∧ (2 + z.fmod 30).toNat ≤ 31 := fun z => by rw [Int.fmod_eq_emod_of_nonneg _ (by decide)]; omega
        have F := know1 (y1 := Str.ofString "three") F (by exact j3)
        dsimp only
        ((repeat' ( (fail_if_success (with_reducible show wpAny _ _ (call (Value.type "enumerate") _) _ _ _)); (fail_if_success (with_reducible show wpAny _ _ (call (Value.builtin "list.append") _) _ _ _)); (fail_if_success (with_reducible show wpAny _ _ (getItem (Value.ref _) (Value.int _ _)) _ _ _)); (fail_if_success (with_reducible show wpAny _ _ (setItem (Value.ref _) (Value.int _ _) _) _ _ _)); (fail_if_success (with_reducible show wpAny _ _ (execs (Stmt.Assign _ (Expr.List List.nil _) _ :: _) _) _ _ _)); ((( ((( (fail_if_success (with_reducible show wpAny _ _ (exec (Stmt.For _ _ _ _ _) _) _ _ _)); (fail_if_success (with_reducible show wpAny _ _ (exec (Stmt.While _ _ _ _) _) _ _ _)); (fail_if_success (with_reducible show wpAny _ _ (pyIter (Value.ref _)) _ _ _)); (fail_if_success (with_reducible show wpAny _ _ (call (Value.ref _) _ _) _ _ _)); (fail_if_success (with_reducible show wpAny _ _ (call (Value.builtin "next") _ _) _ _ _)); (fail_if_success (with_reducible show wpAny _ _ (eval (Expr.ListComp _ _ _ _) _) _ _ _)); (fail_if_success (with_reducible show LCg.CompEnd _ _ _ _ _ _ _ _ _ _ _ _ _ _)); (fail_if_success (with_reducible show LoopStep3 _ _ _ _ _ _ _ _ _ _)); (fail_if_success (with_reducible show LoopStepV _ _ _ _ _ _ _ _ _ _)); skip))); (fail_if_success (with_reducible show wpAny _ _ (exec (Stmt.Assign _ (Expr.ListComp _ _ _ _) _) _) _ _ _)); (((first | ((with_reducible show wpAny _ _ (storeName _ _ _) _ _ _); dsimp only; walk1) | ((first | (k_unfold; (try dsimp only)) | (k_end; wrow_close) | walk1 | (dsimp only; walk1) | (leave1; walk_say "STEP leave1"; try dsimp only) | fail "no step")))))))))))
        have m0 := N _ (.head _)
        have m1 := N _ (.tail _ (.head _))
        have m2 := N _ (.tail _ (.tail _ (.head _)))
        have m3 := N _ (.tail _ (.tail _ (.tail _ (.head _))))
        exact hQ lo hi _ _ _ _ _ _ _ _ _ ta _ _ _ _ _ _ F.keep hlo1.1 hlo1.2 hhi1.1 hhi1.2 (hb y0).1 (hb y0).2 (hb y1).1 (hb y1).2 (hb y2).1 (hb y2).2 m0.2.2 m1.2.2 m2.2.2 m3.2.2 m0.1 m1.1 m2.1 m3.1 i0 i1 i2
theorem low1 : ∀ p : Fin 81, (65 ≤ p.val ∨ p.val = 39) → Txt.lower ⟨#[p.val]⟩ = ⟨#[if 65 ≤ p.val then p.val + 32 else p.val]⟩ := by decide +kernel
noncomputable def okC (p : Nat) : Prop := (65 ≤ p ∧ p ≤ 80) ∨ p = 39
theorem low2 {p : Nat} (h : okC p) : Txt.lower ⟨#[p]⟩ = ⟨#[if 65 ≤ p then p + 32 else p]⟩ := by
  have h81 : p < 81 := by unfold okC at h; omega
  exact low1 ⟨p, h81⟩ (by unfold okC at h; simp only; omega)
theorem low_ne {p q : Nat} (hp : okC p) (hq : okC q) (h : p ≠ q) : Txt.lower ⟨#[p]⟩ ≠ Txt.lower ⟨#[q]⟩ := by
  rw [low2 hp, low2 hq]
  intro e
  have e : (if 65 ≤ p then p + 32 else p) = (if 65 ≤ q then q + 32 else q) := by simpa using e
  unfold okC at hp hq
  split at e <;> split at e <;> omega
theorem subst_call {w : World} {A : Around} {s : Shared} {E : Value → Shared → Prop} {Q : Value → Shared → Prop} {mean : ExcName → Option Value} {mg mb : Str → Option Value}
    {p q : Nat} {t1 t2 : Tok}
    (KX : (hd.heap_39 w.params).In s.heap) (T : TP mean mg mb s.heap) (hd : A.depth + 3 < recursionLimit) (hh : A.handled = none)
    (hp : okC p) (hq : okC q)
    (hQ : ∀ t h' tk', s.heap.StaysIn h' → Q (.int (if p = q then 0 else 2) t) { s with heap := h', toks := tk' }) :
    wpAny (model PR w) A (call (.ref 42) [.str ⟨#[p]⟩ t1, .str ⟨#[q]⟩ t2]) Q E s := by
  have dum : Fills Mine.hd.heap_39 PySem.Challenge.rw_wf0021_01 True := by k_fill; trivial
  obtain ⟨ah, ad, af, ag, au⟩ := A
  obtain rfl : ah = none := hh
  dsimp only at hd
  refine enter (binds := [(Str.ofString "ch_a", .str ⟨#[p]⟩ t1), (Str.ofString "ch_b", .str ⟨#[q]⟩ t2)]) KX T (by k_is) (by k_is) (by show ad < recursionLimit; omega) (BindsTo.of_eq rfl) (locs rfl) ?_ rfl rfl rfl (by decide)
  intro h₁ F N
  ((repeat' ( (fail_if_success (with_reducible show wpAny _ _ (call (Value.builtin "str.lower") _) _ _ _)); ((( ((( (fail_if_success (with_reducible show wpAny _ _ (exec (Stmt.For _ _ _ _ _) _) _ _ _)); (fail_if_success (with_reducible show wpAny _ _ (exec (Stmt.While _ _ _ _) _) _ _ _)); (fail_if_success (with_reducible show wpAny _ _ (pyIter (Value.ref _)) _ _ _)); (fail_if_success (with_reducible show wpAny _ _ (call (Value.ref _) _ _) _ _ _)); (fail_if_success (with_reducible show wpAny _ _ (call (Value.builtin "next") _ _) _ _ _)); (fail_if_success (with_reducible show wpAny _ _ (eval (Expr.ListComp _ _ _ _) _) _ _ _)); (fail_if_success (with_reducible show LCg.CompEnd _ _ _ _ _ _ _ _ _ _ _ _ _ _)); (fail_if_success (with_reducible show LoopStep3 _ _ _ _ _ _ _ _ _ _)); (fail_if_success (with_reducible show LoopStepV _ _ _ _ _ _ _ _ _ _)); skip))); (fail_if_success (with_reducible show wpAny _ _ (exec (Stmt.Assign _ (Expr.ListComp _ _ _ _) _) _) _ _ _)); (((first | ((with_reducible show wpAny _ _ (storeName _ _ _) _ _ _); dsimp only; walk1) | ((first | (k_unfold; (try dsimp only)) | (k_end; wrow_close) | walk1 | (dsimp only; walk1) | (leave1; walk_say "STEP leave1"; try dsimp only) | fail "no step")))))))))))
  · rename (_ == _) = true => he
    have he' : p = q := by simpa using he
    have h0 := hQ
    rw [if_pos he'] at h0
    exact h0 _ _ _ F.keep
  · rename (_ == _) = false => he
    have he' : p ≠ q := by simpa using he
    have hne := low_ne hp hq he'
    dsimp only
    refine SC.lower (by rw [low2 hp]; rfl) ?_
    ((repeat' ( (fail_if_success (with_reducible show wpAny _ _ (call (Value.builtin "str.lower") _) _ _ _)); ((( ((( (fail_if_success (with_reducible show wpAny _ _ (exec (Stmt.For _ _ _ _ _) _) _ _ _)); (fail_if_success (with_reducible show wpAny _ _ (exec (Stmt.While _ _ _ _) _) _ _ _)); (fail_if_success (with_reducible show wpAny _ _ (pyIter (Value.ref _)) _ _ _)); (fail_if_success (with_reducible show wpAny _ _ (call (Value.ref _) _ _) _ _ _)); (fail_if_success (with_reducible show wpAny _ _ (call (Value.builtin "next") _ _) _ _ _)); (fail_if_success (with_reducible show wpAny _ _ (eval (Expr.ListComp _ _ _ _) _) _ _ _)); (fail_if_success (with_reducible show LCg.CompEnd _ _ _ _ _ _ _ _ _ _ _ _ _ _)); (fail_if_success (with_reducible show LoopStep3 _ _ _ _ _ _ _ _ _ _)); (fail_if_success (with_reducible show LoopStepV _ _ _ _ _ _ _ _ _ _)); skip))); (fail_if_success (with_reducible show wpAny _ _ (exec (Stmt.Assign _ (Expr.ListComp _ _ _ _) _) _) _ _ _)); (((first | ((with_reducible show wpAny _ _ (storeName _ _ _) _ _ _); dsimp only; walk1) | ((first | (k_unfold; (try dsimp only)) | (k_end; wrow_close) | walk1 | (dsimp only; walk1) | (leave1; walk_say "STEP leave1"; try dsimp only) | fail "no step")))))))))))
    dsimp only
    refine SC.lower (by rw [low2 hq]; rfl) ?_
    ((repeat' ( (fail_if_success (with_reducible show wpAny _ _ (call (Value.builtin "str.lower") _) _ _ _)); ((( ((( (fail_if_success (with_reducible show wpAny _ _ (exec (Stmt.For _ _ _ _ _) _) _ _ _)); (fail_if_success (with_reducible show wpAny _ _ (exec (Stmt.While _ _ _ _) _) _ _ _)); (fail_if_success (with_reducible show wpAny _ _ (pyIter (Value.ref _)) _ _ _)); (fail_if_success (with_reducible show wpAny _ _ (call (Value.ref _) _ _) _ _ _)); (fail_if_success (with_reducible show wpAny _ _ (call (Value.builtin "next") _ _) _ _ _)); (fail_if_success (with_reducible show wpAny _ _ (eval (Expr.ListComp _ _ _ _) _) _ _ _)); (fail_if_success (with_reducible show LCg.CompEnd _ _ _ _ _ _ _ _ _ _ _ _ _ _)); (fail_if_success (with_reducible show LoopStep3 _ _ _ _ _ _ _ _ _ _)); (fail_if_success (with_reducible show LoopStepV _ _ _ _ _ _ _ _ _ _)); skip))); (fail_if_success (with_reducible show wpAny _ _ (exec (Stmt.Assign _ (Expr.ListComp _ _ _ _) _) _) _ _ _)); (((first | ((with_reducible show wpAny _ _ (storeName _ _ _) _ _ _); dsimp only; walk1) | ((first | (k_unfold; (try dsimp only)) | (k_end; wrow_close) | walk1 | (dsimp only; walk1) | (leave1; walk_say "STEP leave1"; try dsimp only) | fail "no step")))))))))))
    · rename (_ == _) = true => he2
      exact absurd (by simpa using he2) hne
    · have h0 := hQ
      rw [if_neg he'] at h0
      exact h0 _ _ _ F.keep
abbrev mkS (l : List Nat) : Str := ⟨l.toArray⟩
theorem mkS_len (l : List Nat) : (mkS l).length = l.length := by simp [Str.length]
theorem sl_from {l : List Nat} {k : Nat} (h : k ≤ l.length) : Txt.slice (mkS l) (some (k : Int)) none = mkS (l.drop k) := by
  rw [slice_from_eq (b := l.length) (by omega) (by rw [mkS_len]; omega) (by rw [mkS_len])]
  congr 2
  rw [List.take_of_length_le]
  · simp
  · simp
theorem sl_to {l : List Nat} {k : Nat} (h0 : 0 < k) (h : k ≤ l.length) : Txt.slice (mkS l) none (some (-(k : Int))) = mkS (l.take (l.length - k)) := by
  have e := slice_closes_to_neg (x := mkS l) (j := -(k : Int)) (k := ((l.length - k : Nat) : Int)) (by omega) (by rw [mkS_len]; omega) (by rw [mkS_len]; omega)
  rw [eq_of_beq e]
  simp
theorem sl_nn (x : Str) : Txt.slice x none none = x := by
  unfold Txt.slice
  have : (Builtin.Str.strSliceIndices none none 1 x.length).length = x.length := by
    unfold Builtin.Str.strSliceIndices sliceRange
    simp
    split <;> omega
  rw [this]
  simp
theorem it_pos {l : List Nat} {k : Nat} (h : k < l.length) : Txt.item (mkS l) (k : Int) = mkS [l.getD k 0] := by
  have e := item_closes (x := mkS l) (i := (k : Int)) ⟨by omega, by rw [mkS_len]; omega⟩
  rw [eq_of_beq e]
  simp [Array.getD, List.getD, h]
theorem it_neg {l : List Nat} {k : Nat} (h0 : 0 < k) (h : k ≤ l.length) : Txt.item (mkS l) (-(k : Int)) = mkS [l.getD (l.length - k) 0] := by
  have e := item_closes_neg (x := mkS l) (i := -(k : Int)) (j := ((l.length - k : Nat) : Int)) (by omega) (by rw [mkS_len]; omega) (by rw [mkS_len]; omega)
  rw [eq_of_beq e]
  have hl : l.length - k < l.length := by omega
  simp [Array.getD, List.getD, hl]
theorem item_call {prog : Program} {w : World} {A : Around} {E : Value → Shared → Prop} {s : Shared} {l : List Nat} {k : Int} {t u : Tok} {Q : Value → Shared → Prop} {value slice : Expr} (hl : l.length ≤ 1000)
    (h0 : -(l.length : Int) ≤ k) (h1 : k < l.length) (h : ∀ t' tk', Q (.str (mkS [l.getD (if 0 ≤ k then k else l.length + k).toNat 0]) t') { s with toks := tk' })
    (hs : subscripted slice false (.str (mkS l) t) (.int k u) = operate [.str (mkS l) t, .int k u] (getItem (.str (mkS l) t) (.int k u)) := by with_unfolding_all rfl)
    (ht : ∀ r, letTemporaryGo value (.str (mkS l) t) r = pure () := by intro _; with_unfolding_all rfl) :
    wpAny (model prog w) A (subscriptTail value slice (.str (mkS l) t) (.int k u)) Q E s := by
  refine KXi.item (n := l.length) (mkS_len l) h0 h1 (by omega) (fun _ => ?_) hs ht
  by_cases hk : 0 ≤ k
  · have e := it_pos (l := l) (k := k.toNat) (by omega)
    rw [show ((k.toNat : Nat) : Int) = k by omega] at e
    rw [e]
    have := h s.toks (s.toks + 1)
    rw [if_pos hk] at this
    exact this
  · have e := it_neg (l := l) (k := (-k).toNat) (by omega) (by omega)
    rw [show (-(((-k).toNat : Nat) : Int)) = k by omega] at e
    rw [e]
    have := h s.toks (s.toks + 1)
    rw [if_neg hk, show ((l.length : Int) + k).toNat = l.length - (-k).toNat by omega] at this
    exact this
theorem truthy_call {prog : Program} {w : World} {A : Around} {E : Value → Shared → Prop} {s : Shared} {l : List Nat} {t : Tok} {Q : Bool → Shared → Prop} (hl : l.length ≤ 1000) (hn : l ≠ [])
    (h : ∀ tk', Q true { s with toks := tk' }) : wpAny (model prog w) A (PySem.truthy (.str (mkS l) t)) Q E s :=
  KXt.truthy_pos (K := 1000) (by rw [mkS_len]; exact List.length_pos_iff.mpr hn) (by rw [mkS_len]; exact hl) (by omega) h
noncomputable def BIG : Nat := 9223372036854775807
noncomputable def dpIn {α : Type} [DecidableEq α] (bc : α) : List α → List Nat → Nat → Nat → Nat → List Nat × Nat × Nat
  | x :: xs, r :: rs, d, res, mn =>
    let res' := min (min res r + 2) (d + if bc = x then 0 else 2)
    let o := dpIn bc xs rs r res' (min mn res')
    (res' :: o.1, o.2)
  | _, _, _, res, mn => ([], res, mn)
noncomputable def dpOut {α : Type} [DecidableEq α] (a : List α) (mc : Nat) : List α → Nat → List Nat → Nat → Nat
  | [], _, _, res => res
  | bc :: bs, k, row, _ =>
    let r := dpIn bc a row (2 * k) (2 * k) BIG
    if mc < r.2.2 then mc + 1 else dpOut a mc bs (k + 1) r.1 r.2.1
noncomputable def row0 (n : Nat) : List Nat := (List.range n).map fun i => 2 + 2 * i
noncomputable def levD {α : Type} [DecidableEq α] (a b : List α) (mc : Nat) : Nat := dpOut a mc b 0 (row0 a.length) 0
theorem dpIn_len {α : Type} [DecidableEq α] {bc : α} : ∀ {a : List α} {row : List Nat} {d res mn : Nat}, row.length = a.length → (dpIn bc a row d res mn).1.length = a.length
  | [], [], _, _, _, _ => rfl
  | x :: xs, r :: rs, d, res, mn, h => by
    simp only [dpIn, List.length_cons]
    rw [dpIn_len (by simpa using h)]
section
variable {w : World} {A : Around} {E : Value → Shared → Prop} {s : Shared} {h₀ : Heap} {m : Str → Option Value} {news : List (Addr × Obj)} {env : Env}
theorem iter_rangeV {r : Addr} {t u v : Tok} {n : Nat} {x : Str} {body : List Stmt} {Q : Flow → Shared → Prop} (J : Nat → (Str → Option Value) → List (Addr × Obj) → Prop) (hh : A.handled = none)
    (hr : IsRange s.heap r 0 (n : Int) 1 t u v) (hn : n ≤ 1000) (F : Fr h₀ env.locals s.heap m) (N : News h₀ env.locals s.heap news) (hj : J 0 m news)
    (turn : ∀ i t m₁ news₁ h tk own I (K : (Str → Option Value) → List (Addr × Obj) → Prop) (R : Value → Shared → Prop) (S : Shared → Prop), (∀ m nx, J (i + 1) m nx → K m nx) → (∀ v s', Q (.ret v) s' → R v s') → i < n → J i m₁ news₁ → (∀ p ∈ news₁, p.1 ∉ [I]) → (∀ p ∈ own, p.1 ∈ [I]) → Fr h₀ env.locals h (fun y => if y = x then some (.int (i : Int) t) else m₁ y) → News h₀ env.locals h (own ++ news₁) →
      wpAny (model PR w) A (execs body env) (LoopStepV h₀ env.locals [I] own K { s with heap := h, toks := tk } R S) E { s with heap := h, toks := tk })
    (done : ∀ m₁ news₁ h tk, J n m₁ news₁ → Fr h₀ env.locals h m₁ → News h₀ env.locals h news₁ → Q .next { s with heap := h, toks := tk }) :
    wpAny (model PR w) A (pyIter (.ref r)) (fun it s₂ => LoopAtV PR w A h₀ env x body Q E it s₂) E s := by
  have hsm : Builtin.Range.small 0 (n : Int) 1 = true := range_small (by omega)
  have hsz : Builtin.Range.rangeSize 0 (n : Int) 1 = (n : Int) := by
    unfold Builtin.Range.rangeSize
    rw [if_pos (by decide)]
    split <;> omega
  refine wpAny_pyIter_range hr hsm ?_
  refine ⟨_, _, _, n, _, _, m, news, J, rfl, Walks.range hh s.heap.objs.size 0 1 n, ?_, ?_, ?_, ?_, F.push _, (fun p hp => ⟨Heap.get?_push_of_some _ (N p hp).1, (N p hp).2⟩), hj, ?_, ?_⟩
  · intro hm
    exact absurd F.ns.lt ((List.mem_singleton.mp hm) ▸ Nat.lt_irrefl _)
  · intro b hb
    rw [List.mem_singleton.mp hb]
    exact next_is_new F
  · intro p hp hI
    exact absurd (Heap.lt_size (N p hp).1) ((List.mem_singleton.mp hI) ▸ Nat.lt_irrefl _)
  · show IsRangeIter _ _ _ _ _
    rw [hsz]
    simpa using Heap.get?_push_size _ rfl
  · rintro i v m₁ news₁ s₁ own ⟨h, tk, rfl⟩ hi ⟨t, et⟩ hJ hoff hown _ _ _ F₁ N₁
    have e : (0 : Int) + (i : Int) * 1 = (i : Int) := by omega
    rw [et, e] at F₁
    exact turn i t m₁ news₁ h tk own _ _ _ _ (fun _ _ h => h) (fun _ _ h => h) hi hJ hoff hown F₁ N₁
  · intro h' tk m' news' F' N' _ hJ
    exact done m' news' h' tk hJ F' N'
theorem ints_items {g : Nat → Int} : ∀ (l : List Value) (k : Nat), (∀ (j : Nat) (v : Value), l[j]? = some v → ∃ t, v = Value.int (g (k + j)) t) → IntsAre l ((List.range' k l.length).map g)
  | [], _, _ => .nil
  | x :: l, k, h => by
    obtain ⟨t, rfl⟩ := h 0 x rfl
    have := ints_items l (k + 1) (fun j v hj => by
      have := h (j + 1) v (by simpa using hj)
      rw [show k + (j + 1) = k + 1 + j by omega] at this
      exact this)
    exact .cons _ _ this
theorem list_range2 {r : Addr} {t u v : Tok} {n : Nat} {L : Addr} {Q : Value → Shared → Prop} (hh : A.handled = none) (F : Fr h₀ L s.heap m) (N : News h₀ L s.heap news)
    (hr : IsRange s.heap r 2 (2 * ((n : Int) + 1)) 2 t u v) (hn : n ≤ 1000)
    (hQ : ∀ D h' tk (ys : List Value) c, Fr h₀ L h' m → News h₀ L h' ((D, listOf (List.toArray ys) c) :: news) → IntsAre ys ((row0 n).map (fun k : Nat => (k : Int))) → Q (.ref D) { s with heap := h', toks := tk }) :
    wpAny (model PR w) A (call (.type "list") [.ref r]) Q E s := by
  have hsz : Builtin.Range.rangeSize 2 (2 * ((n : Int) + 1)) 2 = (n : Int) := by
    unfold Builtin.Range.rangeSize
    rw [if_pos (by decide)]
    split <;> omega
  have hsm : Builtin.Range.small 2 (2 * ((n : Int) + 1)) 2 = true := by
    have f : ∀ k : Int, 0 ≤ k ∧ k ≤ 3000 → Builtin.Range.rangeFitsLong k = true := by
      intro k hk
      simp [Builtin.Range.rangeFitsLong]
      omega
    unfold Builtin.Range.small
    rw [hsz, f 2 (by decide), f _ (by omega), f (n : Int) (by omega), if_pos (by decide), f (2 * ((n : Int) + 1) + (2 - 1)) (by omega)]
    simp
  refine call_list_range hh hr hsm hsz (by omega) fun h' tk acc' c' hk hS' hacc => ?_
  have hi : IntsAre acc'.toList ((List.range' 0 acc'.toList.length).map fun i : Nat => (2 : Int) + i * 2) := ints_items _ 0 (fun j v hj => by
    obtain ⟨t, e⟩ := hacc.2 j v (by simpa using hj)
    exact ⟨t, by rw [e]; simp⟩)
  refine hQ _ h' tk acc'.toList c' (F.after hk) (fun p hp => ?_) ?_
  · rcases List.mem_cons.mp hp with rfl | hp
    · exact ⟨by simpa using hS', Ne.symm (Nat.ne_of_lt F.ns.lt), next_is_new F⟩
    · exact N.grown hk p hp
  · have e : (List.range' 0 acc'.toList.length).map (fun i : Nat => (2 : Int) + i * 2) = (row0 n).map (fun k : Nat => (k : Int)) := by
      rw [Array.length_toList, hacc.1, row0, List.map_map, List.range_eq_range']
      apply List.map_congr_left
      intro k _
      simp
      omega
    rw [← e]
    exact hi
end
theorem le_line {n : Nat} (h : n ≤ 40) : n ≤ sizeLine := Nat.le_trans h (by decide)
theorem le_th {n : Nat} (h : n ≤ 40) : n ≤ 1000 := Nat.le_trans h (by decide)
theorem ne_len {l : List Nat} {k : Nat} (h : k + 1 ≤ l.length) : l ≠ [] := fun e => by rw [e] at h; exact absurd h (Nat.not_succ_le_zero k)
theorem take_le {l : List Nat} {k n : Nat} (h : l.length ≤ n) : (l.take k).length ≤ n := by rw [List.length_take]; omega
theorem take_ne {l : List Nat} {k : Nat} (h : k + 1 ≤ l.length) : l.take (l.length - k) ≠ [] := List.ne_nil_of_length_pos (by rw [List.length_take]; omega)
theorem same_len {pr a b po : List Nat} {n : Nat} (hab : b.length = a.length) (h : (pr ++ (a ++ po)).length ≤ n) : (pr ++ (b ++ po)).length ≤ n := by simp only [List.length_append] at h ⊢; rw [hab]; exact h
theorem app_le {pr l : List Nat} {n : Nat} (h : (pr ++ l).length ≤ n) : l.length ≤ n := by simp only [List.length_append] at h; exact Nat.le_trans (Nat.le_add_left _ _) h
theorem left_le {l po : List Nat} {n : Nat} (h : (l ++ po).length ≤ n) : l.length ≤ n := by simp only [List.length_append] at h; exact Nat.le_trans (Nat.le_add_right _ _) h
theorem len_lt {pr a po : List Nat} (h : 0 < a.length) : pr.length < (pr ++ (a ++ po)).length := by simp only [List.length_append]; omega
theorem po_lt {a po : List Nat} (h : 0 < a.length) : po.length + 1 ≤ (a ++ po).length := by simp only [List.length_append]; omega
theorem dec1 {k n p : Nat} (h : k + n = p) (hk : k < p) : n - 1 < n := by omega
theorem dec2 {k n p : Nat} (h : k + n = p) (hk : k < p) : k + 1 + (n - 1) = p := by omega
theorem ci (k : Nat) : (k : Int) + 1 = ((k + 1 : Nat) : Int) := rfl
theorem cneg (k : Nat) : -(k : Int) - 1 = -((k + 1 : Nat) : Int) := by omega
theorem neg_ne {k : Nat} (h : ¬ k = 0) : -(k : Int) ≠ 0 := by omega
theorem two_eq (i : Nat) : (i : Int) * 2 = ((2 * i : Nat) : Int) := by omega
theorem nil_no {i n : Nat} (h : ([] : List Nat).length + i = n) (hi : i < n) : False := by simp at h; omega
theorem zero_of {r n : Nat} (h : r + n = n) : r = 0 := by omega
theorem step_len {r i n : Nat} (h : r + 1 + i = n) : r + (i + 1) = n := by omega
theorem in_len {d r i : Nat} (h : d = i) : i < d + (r + 1) := by omega
theorem fit63 {i n : Nat} (hi : i < n) (hn : n ≤ 40) : (i : Int) < 2 ^ 63 := by omega
theorem len_call {prog : Program} {w : World} {A : Around} {E : Value → Shared → Prop} {s : Shared} {l : List Nat} {t : Tok} {Q : Value → Shared → Prop} (hl : l.length ≤ 1000)
    (h : ∀ t' tk', Q (.int (l.length : Int) t') { s with toks := tk' }) : wpAny (model prog w) A (call (.builtin "len") [.str (mkS l) t]) Q E s :=
  P.len_str (by rw [mkS_len]; omega) (by rw [mkS_len]; exact h _ _)
noncomputable def AsgEnd (s : Shared) (m : Str → Option Value) (nm x : Str) (f : Flow) (s' : Shared) : Prop := f = .next ∧ ∃ h tk, s' = { s with heap := h, toks := tk } ∧ (∃ m' t, Fr s.heap s.heap.objs.size h m' ∧ m' nm = some (.str x t) ∧ ∀ y, y ≠ nm → m' y = m y) ∧ News s.heap s.heap.objs.size h []
noncomputable def TestEnd (s : Shared) (m : Str → Option Value) (c bb : Bool) (s' : Shared) : Prop := ∃ h tk, s' = { s with heap := h, toks := tk } ∧ (∃ m', Fr s.heap s.heap.objs.size h m' ∧ ∀ y, m' y = m y) ∧ News s.heap s.heap.objs.size h [] ∧ bb = c
theorem cut1 {la lb lp l1 l2 : Nat} (k : Nat) (h1 : l1 = la + lp) (h2 : l2 = lb + lp) (hab : lb = la) : l1 - (k + 1) - la = l2 - (k + 1) - lb := by subst h1 h2 hab; rfl
theorem cut2 {la lp l1 k : Nat} (h1 : l1 = la + lp) (hk : ¬ k < lp) (hk2 : k ≤ lp) : l1 - (k + 1) = la - 1 := by omega
theorem cut3 {la lp l1 k : Nat} (h1 : l1 = la + lp) (hk : k < lp) : la ≤ l1 - (k + 1) := by omega
theorem cut4 {la lp l1 k : Nat} (h1 : l1 = la + lp) (hk : ¬ k < lp) (h0 : 0 < la) : l1 - (k + 1) < la := by omega
theorem er_eq {res r d cost rr : Nat} (hrr : min (min res r + 2) (d + cost) = rr) : (if (d : Int) + (cost : Int) < (if (r : Int) < (res : Int) then (r : Int) else (res : Int)) + 2 then (d : Int) + (cost : Int) else (if (r : Int) < (res : Int) then (r : Int) else (res : Int)) + 2) = (rr : Int) := by
  split <;> split <;> omega
theorem idx_neg {l k : Nat} (h : k + 1 ≤ l) : l - (k + 1) = ((l : Int) + (-(k : Int) - 1)).toNat := by omega
theorem idx_neg0 {l : Nat} (h : 0 + 1 ≤ l) : l - (0 + 1) = ((l : Int) + ((0 : Int) - 1)).toNat := by omega
theorem idx_no (k : Nat) : ¬ (0 : Int) ≤ -(k : Int) - 1 := by omega
theorem idx_no0 : ¬ (0 : Int) ≤ (0 : Int) - 1 := by decide
theorem idx_lo {l k : Nat} (h : k + 1 ≤ l) : -(l : Int) ≤ -(k : Int) - 1 := by omega
theorem idx_hi (l k : Nat) : -(k : Int) - 1 < (l : Int) := by omega
theorem idx_lo0 {l : Nat} (h : 0 + 1 ≤ l) : -(l : Int) ≤ (0 : Int) - 1 := by omega
theorem idx_hi0 (l : Nat) : (0 : Int) - 1 < (l : Int) := by omega
theorem pos_lo (l k : Nat) : -(l : Int) ≤ (k : Int) := by omega
theorem pos_hi {l k : Nat} (h : k < l) : (k : Int) < (l : Int) := by omega
theorem drop_ne {l : List Nat} {k : Nat} (h : k < l.length) : l.drop k ≠ [] := List.ne_nil_of_length_pos (by rw [List.length_drop]; omega)
theorem drop_le {l : List Nat} {k n : Nat} (h : l.length ≤ n) : (l.drop k).length ≤ n := by rw [List.length_drop]; omega
theorem gd_pre {l z : List Nat} {k : Nat} (h : k < l.length) : (l ++ z).getD k 0 = l.getD k 0 := by
  simp [List.getD, List.getElem?_append_left h]
theorem gd_post {l z : List Nat} {k : Nat} (h : l.length ≤ k) : (l ++ z).getD k 0 = z.getD (k - l.length) 0 := by
  simp [List.getD, List.getElem?_append_right h]
theorem mk1 {x y : Nat} : (mkS [x] == mkS [y]) = true ↔ x = y := by simp [mkS]
theorem mk1f {x y : Nat} : (mkS [x] == mkS [y]) = false ↔ x ≠ y := by simp [mkS]
theorem pre_go {pr a b po : List Nat} {k : Nat} (hk : k ≤ pr.length) (hpa : 0 < a.length) (hpb : 0 < b.length) (h0 : a.getD 0 0 ≠ b.getD 0 0) (he : (pr ++ (a ++ po)).getD k 0 = (pr ++ (b ++ po)).getD k 0) : k < pr.length := by
  rcases Nat.lt_or_eq_of_le hk with h | h
  · exact h
  · subst h
    rw [gd_post (Nat.le_refl _), gd_post (Nat.le_refl _), Nat.sub_self, gd_pre hpa, gd_pre hpb] at he
    exact absurd he h0
theorem pre_stop {pr l l' : List Nat} {k : Nat} (hk : k ≤ pr.length) (he : (pr ++ l).getD k 0 ≠ (pr ++ l').getD k 0) : k = pr.length := by
  rcases Nat.lt_or_eq_of_le hk with h | h
  · rw [gd_pre h, gd_pre h] at he
    exact absurd rfl he
  · exact h
theorem post_end {a b po : List Nat} {k : Nat} (hab : b.length = a.length) (hpa : 0 < a.length) (h1 : a.getD (a.length - 1) 0 ≠ b.getD (b.length - 1) 0) (hjk : k ≤ po.length) (z : Bool) (z1 : z = true → (a ++ po).getD ((a ++ po).length - (k + 1)) 0 = (b ++ po).getD ((b ++ po).length - (k + 1)) 0)
    (z2 : z = false → (a ++ po).getD ((a ++ po).length - (k + 1)) 0 ≠ (b ++ po).getD ((b ++ po).length - (k + 1)) 0) : z = decide (k < po.length) := by
  have hza := List.length_append (as := a) (bs := po)
  have hzb := List.length_append (as := b) (bs := po)
  by_cases hk : k < po.length
  · rw [gd_post (l := a) (cut3 hza hk), gd_post (l := b) (cut3 hzb hk), cut1 k hza hzb hab] at z2
    cases z with
    | true => simp [hk]
    | false => exact absurd rfl (z2 rfl)
  · rw [gd_pre (l := a) (cut4 hza hk hpa), gd_pre (l := b) (cut4 hzb hk (by rw [hab]; exact hpa)), cut2 hza hk hjk, cut2 hzb hk hjk] at z1
    cases z with
    | true => exact absurd (z1 rfl) h1
    | false => simp [hk]
theorem leven_call {w : World} {A : Around} {s : Shared} {E : Value → Shared → Prop} {Q : Value → Shared → Prop} {mean : ExcName → Option Value} {mg mb : Str → Option Value}
    {t1 t2 t3 : Tok} {mc : Nat} {pr a b po : List Nat}
    (KX : (hd.heap_39 w.params).In s.heap) (T : TP mean mg mb s.heap) (hd : A.depth + 5 < recursionLimit) (hu : A.units + 30 < cLine) (hh : A.handled = none)
    (hab : b.length = a.length) (ha0 : a ≠ []) (h0 : a.getD 0 0 ≠ b.getD 0 0) (h1 : a.getD (a.length - 1) 0 ≠ b.getD (b.length - 1) 0)
    (hz : (pr ++ (a ++ po)).length ≤ 40) (hcx : ∀ c ∈ a, okC c) (hcy : ∀ c ∈ b, okC c) (hmc : mc ≤ 1000)
    (hQ : ∀ t h' tk', s.heap.StaysIn h' → Q (.int (levD a b mc : Nat) t) { s with heap := h', toks := tk' }) :
    wpAny (model PR w) A (call (.ref 49) [.str (mkS (pr ++ (a ++ po))) t1, .str (mkS (pr ++ (b ++ po))) t2, .int mc t3]) Q E s := by
  have dum : Fills Mine.hd.heap_39 PySem.Challenge.rw_wf0021_01 True := by k_fill; trivial
  obtain ⟨ah, ad, af, ag, au⟩ := A
  obtain rfl : ah = none := hh
  dsimp only at hd hu
  have hpa := List.length_pos_iff.mpr ha0
  have hpb : 0 < b.length := by rw [hab]; exact hpa
  have hz2 := same_len hab hz
  have hpA : pr.length < (pr ++ (a ++ po)).length := len_lt hpa
  have hpB : pr.length < (pr ++ (b ++ po)).length := len_lt hpb
  refine enter (binds := [(Str.ofString "a", .str (mkS (pr ++ (a ++ po))) t1), (Str.ofString "b", .str (mkS (pr ++ (b ++ po))) t2), (Str.ofString "max_cost", .int mc t3)]) KX T (by k_is) (by k_is) (Nat.lt_of_le_of_lt (Nat.le_add_right ad 5) hd) (BindsTo.of_eq rfl) (locs rfl) ?_ rfl rfl rfl (by decide)
  intro h₁ F N
  ((repeat' ( (fail_if_success (with_reducible show wpAny _ _ (truthy (Value.str _ _)) _ _ _)); (fail_if_success (with_reducible show wpAny _ _ (call (Value.builtin "len") _) _ _ _)); (fail_if_success (with_reducible show wpAny _ _ (call (Value.type "list") _) _ _ _)); (fail_if_success (with_reducible show wpAny _ _ (getItem (Value.ref _) (Value.int _ _)) _ _ _)); (fail_if_success (with_reducible show wpAny _ _ (setItem (Value.ref _) (Value.int _ _) _) _ _ _)); (fail_if_success (with_reducible show wpAny _ _ (execs (Stmt.Assign _ (Expr.Subscript _ (Expr.Slice none (some (Expr.BoolOp _ _ _)) none _) _) _ :: _) _) _ _ _)); (fail_if_success (with_reducible show wpAny _ _ (subscriptTail _ (Expr.Slice none (some (Expr.BoolOp _ _ _)) none _) _ _) _ _ _)); (fail_if_success (with_reducible show wpAny _ _ (subscriptTail _ _ (Value.str _ _) (Value.int _ _)) _ _ _)); ((( ((( (fail_if_success (with_reducible show wpAny _ _ (exec (Stmt.For _ _ _ _ _) _) _ _ _)); (fail_if_success (with_reducible show wpAny _ _ (exec (Stmt.While _ _ _ _) _) _ _ _)); (fail_if_success (with_reducible show wpAny _ _ (pyIter (Value.ref _)) _ _ _)); (fail_if_success (with_reducible show wpAny _ _ (call (Value.ref _) _ _) _ _ _)); (fail_if_success (with_reducible show wpAny _ _ (call (Value.builtin "next") _ _) _ _ _)); (fail_if_success (with_reducible show wpAny _ _ (eval (Expr.ListComp _ _ _ _) _) _ _ _)); (fail_if_success (with_reducible show LCg.CompEnd _ _ _ _ _ _ _ _ _ _ _ _ _ _)); (fail_if_success (with_reducible show LoopStep3 _ _ _ _ _ _ _ _ _ _)); (fail_if_success (with_reducible show LoopStepV _ _ _ _ _ _ _ _ _ _)); skip))); (fail_if_success (with_reducible show wpAny _ _ (exec (Stmt.Assign _ (Expr.ListComp _ _ _ _) _) _) _ _ _)); (((first | ((with_reducible show wpAny _ _ (storeName _ _ _) _ _ _); dsimp only; walk1) | ((first | (k_unfold; (try dsimp only)) | (k_end; wrow_close) | walk1 | (dsimp only; walk1) | (leave1; walk_say "STEP leave1"; try dsimp only) | fail "no step")))))))))))
  · rename (_ == _) = true => he
    exfalso
    have he' : pr ++ (a ++ po) = pr ++ (b ++ po) := by simpa [mkS] using he
    have he2 : a = b := by simpa using he'
    exact h0 (by rw [he2])
  rename Fr _ _ _ _ => F1
  rename News _ _ _ _ => N1
  refine While_invK (fun n m nx => nx = [] ∧ ∃ k, k + n = pr.length ∧ m (Str.ofString "a") = some (.str (mkS (pr ++ (a ++ po))) t1) ∧ m (Str.ofString "b") = some (.str (mkS (pr ++ (b ++ po))) t2) ∧ m (Str.ofString "max_cost") = some (.int mc t3) ∧ ∃ t, m (Str.ofString "pre") = some (.int k t)) F1 N1 (n₀ := pr.length) ?_ ?_
  · exact ⟨rfl, 0, by simp, rfl, rfl, rfl, _, rfl⟩
  intro K hK n m₁ news₁ h₁ tk₁ F N hj
  refine bb fun G hG => ?_
  obtain ⟨jn, k, j0, j1, j2, j3, t, j4⟩ := hj
  refine hG ?_
  clear hG G
  subst jn
  have F := know4 F j1 j2 j3 j4
  clear F1 N1
  ((repeat' ( (fail_if_success (with_reducible show wpAny _ _ (truthy (Value.str _ _)) _ _ _)); (fail_if_success (with_reducible show wpAny _ _ (call (Value.builtin "len") _) _ _ _)); (fail_if_success (with_reducible show wpAny _ _ (call (Value.type "list") _) _ _ _)); (fail_if_success (with_reducible show wpAny _ _ (getItem (Value.ref _) (Value.int _ _)) _ _ _)); (fail_if_success (with_reducible show wpAny _ _ (setItem (Value.ref _) (Value.int _ _) _) _ _ _)); (fail_if_success (with_reducible show wpAny _ _ (execs (Stmt.Assign _ (Expr.Subscript _ (Expr.Slice none (some (Expr.BoolOp _ _ _)) none _) _) _ :: _) _) _ _ _)); (fail_if_success (with_reducible show wpAny _ _ (subscriptTail _ (Expr.Slice none (some (Expr.BoolOp _ _ _)) none _) _ _) _ _ _)); (fail_if_success (with_reducible show wpAny _ _ (subscriptTail _ _ (Value.str _ _) (Value.int _ _)) _ _ _)); ((( ((( (fail_if_success (with_reducible show wpAny _ _ (exec (Stmt.For _ _ _ _ _) _) _ _ _)); (fail_if_success (with_reducible show wpAny _ _ (exec (Stmt.While _ _ _ _) _) _ _ _)); (fail_if_success (with_reducible show wpAny _ _ (pyIter (Value.ref _)) _ _ _)); (fail_if_success (with_reducible show wpAny _ _ (call (Value.ref _) _ _) _ _ _)); (fail_if_success (with_reducible show wpAny _ _ (call (Value.builtin "next") _ _) _ _ _)); (fail_if_success (with_reducible show wpAny _ _ (eval (Expr.ListComp _ _ _ _) _) _ _ _)); (fail_if_success (with_reducible show LCg.CompEnd _ _ _ _ _ _ _ _ _ _ _ _ _ _)); (fail_if_success (with_reducible show LoopStep3 _ _ _ _ _ _ _ _ _ _)); (fail_if_success (with_reducible show LoopStepV _ _ _ _ _ _ _ _ _ _)); skip))); (fail_if_success (with_reducible show wpAny _ _ (exec (Stmt.Assign _ (Expr.ListComp _ _ _ _) _) _) _ _ _)); (((first | ((with_reducible show wpAny _ _ (storeName _ _ _) _ _ _); dsimp only; walk1) | ((first | (k_unfold; (try dsimp only)) | (k_end; wrow_close) | walk1 | (dsimp only; walk1) | (leave1; walk_say "STEP leave1"; try dsimp only) | fail "no step")))))))))))
  have hA : (pr ++ (a ++ po)).length ≤ 1000 := Nat.le_trans hz (by decide)
  have hB : (pr ++ (b ++ po)).length ≤ 1000 := Nat.le_trans hz2 (by decide)
  have hkp : k ≤ pr.length := Nat.le.intro j0
  have hkA := Nat.lt_of_le_of_lt hkp hpA
  have hkB := Nat.lt_of_le_of_lt hkp hpB
  rw [sl_from (Nat.le_of_lt hkA)]
  refine truthy_call (drop_le hA) (drop_ne hkA) fun _ => ?_
  dsimp only
  ((repeat' ( (fail_if_success (with_reducible show wpAny _ _ (truthy (Value.str _ _)) _ _ _)); (fail_if_success (with_reducible show wpAny _ _ (call (Value.builtin "len") _) _ _ _)); (fail_if_success (with_reducible show wpAny _ _ (call (Value.type "list") _) _ _ _)); (fail_if_success (with_reducible show wpAny _ _ (getItem (Value.ref _) (Value.int _ _)) _ _ _)); (fail_if_success (with_reducible show wpAny _ _ (setItem (Value.ref _) (Value.int _ _) _) _ _ _)); (fail_if_success (with_reducible show wpAny _ _ (execs (Stmt.Assign _ (Expr.Subscript _ (Expr.Slice none (some (Expr.BoolOp _ _ _)) none _) _) _ :: _) _) _ _ _)); (fail_if_success (with_reducible show wpAny _ _ (subscriptTail _ (Expr.Slice none (some (Expr.BoolOp _ _ _)) none _) _ _) _ _ _)); (fail_if_success (with_reducible show wpAny _ _ (subscriptTail _ _ (Value.str _ _) (Value.int _ _)) _ _ _)); ((( ((( (fail_if_success (with_reducible show wpAny _ _ (exec (Stmt.For _ _ _ _ _) _) _ _ _)); (fail_if_success (with_reducible show wpAny _ _ (exec (Stmt.While _ _ _ _) _) _ _ _)); (fail_if_success (with_reducible show wpAny _ _ (pyIter (Value.ref _)) _ _ _)); (fail_if_success (with_reducible show wpAny _ _ (call (Value.ref _) _ _) _ _ _)); (fail_if_success (with_reducible show wpAny _ _ (call (Value.builtin "next") _ _) _ _ _)); (fail_if_success (with_reducible show wpAny _ _ (eval (Expr.ListComp _ _ _ _) _) _ _ _)); (fail_if_success (with_reducible show LCg.CompEnd _ _ _ _ _ _ _ _ _ _ _ _ _ _)); (fail_if_success (with_reducible show LoopStep3 _ _ _ _ _ _ _ _ _ _)); (fail_if_success (with_reducible show LoopStepV _ _ _ _ _ _ _ _ _ _)); skip))); (fail_if_success (with_reducible show wpAny _ _ (exec (Stmt.Assign _ (Expr.ListComp _ _ _ _) _) _) _ _ _)); (((first | ((with_reducible show wpAny _ _ (storeName _ _ _) _ _ _); dsimp only; walk1) | ((first | (k_unfold; (try dsimp only)) | (k_end; wrow_close) | walk1 | (dsimp only; walk1) | (leave1; walk_say "STEP leave1"; try dsimp only) | fail "no step")))))))))))
  rw [sl_from (Nat.le_of_lt hkB)]
  refine truthy_call (drop_le hB) (drop_ne hkB) fun _ => ?_
  dsimp only
  ((repeat' ( (fail_if_success (with_reducible show wpAny _ _ (truthy (Value.str _ _)) _ _ _)); (fail_if_success (with_reducible show wpAny _ _ (call (Value.builtin "len") _) _ _ _)); (fail_if_success (with_reducible show wpAny _ _ (call (Value.type "list") _) _ _ _)); (fail_if_success (with_reducible show wpAny _ _ (getItem (Value.ref _) (Value.int _ _)) _ _ _)); (fail_if_success (with_reducible show wpAny _ _ (setItem (Value.ref _) (Value.int _ _) _) _ _ _)); (fail_if_success (with_reducible show wpAny _ _ (execs (Stmt.Assign _ (Expr.Subscript _ (Expr.Slice none (some (Expr.BoolOp _ _ _)) none _) _) _ :: _) _) _ _ _)); (fail_if_success (with_reducible show wpAny _ _ (subscriptTail _ (Expr.Slice none (some (Expr.BoolOp _ _ _)) none _) _ _) _ _ _)); (fail_if_success (with_reducible show wpAny _ _ (subscriptTail _ _ (Value.str _ _) (Value.int _ _)) _ _ _)); ((( ((( (fail_if_success (with_reducible show wpAny _ _ (exec (Stmt.For _ _ _ _ _) _) _ _ _)); (fail_if_success (with_reducible show wpAny _ _ (exec (Stmt.While _ _ _ _) _) _ _ _)); (fail_if_success (with_reducible show wpAny _ _ (pyIter (Value.ref _)) _ _ _)); (fail_if_success (with_reducible show wpAny _ _ (call (Value.ref _) _ _) _ _ _)); (fail_if_success (with_reducible show wpAny _ _ (call (Value.builtin "next") _ _) _ _ _)); (fail_if_success (with_reducible show wpAny _ _ (eval (Expr.ListComp _ _ _ _) _) _ _ _)); (fail_if_success (with_reducible show LCg.CompEnd _ _ _ _ _ _ _ _ _ _ _ _ _ _)); (fail_if_success (with_reducible show LoopStep3 _ _ _ _ _ _ _ _ _ _)); (fail_if_success (with_reducible show LoopStepV _ _ _ _ _ _ _ _ _ _)); skip))); (fail_if_success (with_reducible show wpAny _ _ (exec (Stmt.Assign _ (Expr.ListComp _ _ _ _) _) _) _ _ _)); (((first | ((with_reducible show wpAny _ _ (storeName _ _ _) _ _ _); dsimp only; walk1) | ((first | (k_unfold; (try dsimp only)) | (k_end; wrow_close) | walk1 | (dsimp only; walk1) | (leave1; walk_say "STEP leave1"; try dsimp only) | fail "no step")))))))))))
  refine item_call hA (pos_lo _ _) (pos_hi hkA) fun _ _ => ?_
  dsimp only
  ((repeat' ( (fail_if_success (with_reducible show wpAny _ _ (truthy (Value.str _ _)) _ _ _)); (fail_if_success (with_reducible show wpAny _ _ (call (Value.builtin "len") _) _ _ _)); (fail_if_success (with_reducible show wpAny _ _ (call (Value.type "list") _) _ _ _)); (fail_if_success (with_reducible show wpAny _ _ (getItem (Value.ref _) (Value.int _ _)) _ _ _)); (fail_if_success (with_reducible show wpAny _ _ (setItem (Value.ref _) (Value.int _ _) _) _ _ _)); (fail_if_success (with_reducible show wpAny _ _ (execs (Stmt.Assign _ (Expr.Subscript _ (Expr.Slice none (some (Expr.BoolOp _ _ _)) none _) _) _ :: _) _) _ _ _)); (fail_if_success (with_reducible show wpAny _ _ (subscriptTail _ (Expr.Slice none (some (Expr.BoolOp _ _ _)) none _) _ _) _ _ _)); (fail_if_success (with_reducible show wpAny _ _ (subscriptTail _ _ (Value.str _ _) (Value.int _ _)) _ _ _)); ((( ((( (fail_if_success (with_reducible show wpAny _ _ (exec (Stmt.For _ _ _ _ _) _) _ _ _)); (fail_if_success (with_reducible show wpAny _ _ (exec (Stmt.While _ _ _ _) _) _ _ _)); (fail_if_success (with_reducible show wpAny _ _ (pyIter (Value.ref _)) _ _ _)); (fail_if_success (with_reducible show wpAny _ _ (call (Value.ref _) _ _) _ _ _)); (fail_if_success (with_reducible show wpAny _ _ (call (Value.builtin "next") _ _) _ _ _)); (fail_if_success (with_reducible show wpAny _ _ (eval (Expr.ListComp _ _ _ _) _) _ _ _)); (fail_if_success (with_reducible show LCg.CompEnd _ _ _ _ _ _ _ _ _ _ _ _ _ _)); (fail_if_success (with_reducible show LoopStep3 _ _ _ _ _ _ _ _ _ _)); (fail_if_success (with_reducible show LoopStepV _ _ _ _ _ _ _ _ _ _)); skip))); (fail_if_success (with_reducible show wpAny _ _ (exec (Stmt.Assign _ (Expr.ListComp _ _ _ _) _) _) _ _ _)); (((first | ((with_reducible show wpAny _ _ (storeName _ _ _) _ _ _); dsimp only; walk1) | ((first | (k_unfold; (try dsimp only)) | (k_end; wrow_close) | walk1 | (dsimp only; walk1) | (leave1; walk_say "STEP leave1"; try dsimp only) | fail "no step")))))))))))
  refine item_call hB (pos_lo _ _) (pos_hi hkB) fun _ _ => ?_
  dsimp only
  ((repeat' ( (fail_if_success (with_reducible show wpAny _ _ (truthy (Value.str _ _)) _ _ _)); (fail_if_success (with_reducible show wpAny _ _ (call (Value.builtin "len") _) _ _ _)); (fail_if_success (with_reducible show wpAny _ _ (call (Value.type "list") _) _ _ _)); (fail_if_success (with_reducible show wpAny _ _ (getItem (Value.ref _) (Value.int _ _)) _ _ _)); (fail_if_success (with_reducible show wpAny _ _ (setItem (Value.ref _) (Value.int _ _) _) _ _ _)); (fail_if_success (with_reducible show wpAny _ _ (execs (Stmt.Assign _ (Expr.Subscript _ (Expr.Slice none (some (Expr.BoolOp _ _ _)) none _) _) _ :: _) _) _ _ _)); (fail_if_success (with_reducible show wpAny _ _ (subscriptTail _ (Expr.Slice none (some (Expr.BoolOp _ _ _)) none _) _ _) _ _ _)); (fail_if_success (with_reducible show wpAny _ _ (subscriptTail _ _ (Value.str _ _) (Value.int _ _)) _ _ _)); ((( ((( (fail_if_success (with_reducible show wpAny _ _ (exec (Stmt.For _ _ _ _ _) _) _ _ _)); (fail_if_success (with_reducible show wpAny _ _ (exec (Stmt.While _ _ _ _) _) _ _ _)); (fail_if_success (with_reducible show wpAny _ _ (pyIter (Value.ref _)) _ _ _)); (fail_if_success (with_reducible show wpAny _ _ (call (Value.ref _) _ _) _ _ _)); (fail_if_success (with_reducible show wpAny _ _ (call (Value.builtin "next") _ _) _ _ _)); (fail_if_success (with_reducible show wpAny _ _ (eval (Expr.ListComp _ _ _ _) _) _ _ _)); (fail_if_success (with_reducible show LCg.CompEnd _ _ _ _ _ _ _ _ _ _ _ _ _ _)); (fail_if_success (with_reducible show LoopStep3 _ _ _ _ _ _ _ _ _ _)); (fail_if_success (with_reducible show LoopStepV _ _ _ _ _ _ _ _ _ _)); skip))); (fail_if_success (with_reducible show wpAny _ _ (exec (Stmt.Assign _ (Expr.ListComp _ _ _ _) _) _) _ _ _)); (((first | ((with_reducible show wpAny _ _ (storeName _ _ _) _ _ _); dsimp only; walk1) | ((first | (k_unfold; (try dsimp only)) | (k_end; wrow_close) | walk1 | (dsimp only; walk1) | (leave1; walk_say "STEP leave1"; try dsimp only) | fail "no step")))))))))))
  clear hA hB hkA hkB
  · rename (_ == _) = true => he
    have he := mk1.mp he
    simp only [if_pos (Int.natCast_nonneg k), Int.toNat_natCast] at he
    have hk := pre_go hkp hpa hpb h0 he
    rename Fr _ _ _ _ => F5
    rename News _ _ _ _ => N5
    exact WhileStep.intro (n' := n - 1) F5 N5 (dec1 j0 hk) (hK _ _ _ ⟨rfl, k + 1, dec2 j0 hk, rfl, rfl, rfl, ex_int rfl (ci k)⟩)
  rename (_ == _) = false => he
  have he := mk1f.mp he
  simp only [if_pos (Int.natCast_nonneg k), Int.toNat_natCast] at he
  obtain rfl := pre_stop hkp he
  rename Fr _ _ _ _ => F1
  rename News _ _ _ _ => N1
  rw [sl_from (Nat.le_of_lt hpA), List.drop_left, sl_from (Nat.le_of_lt hpB), List.drop_left] at F1
  replace hz := app_le hz
  replace hz2 := app_le hz2
  replace hpA : po.length + 1 ≤ (a ++ po).length := po_lt hpa
  replace hpB : po.length + 1 ≤ (b ++ po).length := po_lt hpb
  clear hkp
  refine While_invK (fun n m nx => nx = [] ∧ ∃ k, k + n = po.length ∧ (∃ t, m (Str.ofString "a") = some (.str (mkS (a ++ po)) t)) ∧ (∃ t, m (Str.ofString "b") = some (.str (mkS (b ++ po)) t)) ∧ m (Str.ofString "max_cost") = some (.int mc t3) ∧ ∃ t, m (Str.ofString "post") = some (.int (-(k : Int)) t)) F1 N1 (n₀ := po.length) ?_ ?_
  · exact ⟨rfl, 0, by simp, ⟨_, rfl⟩, ⟨_, rfl⟩, rfl, ex_int rfl (by simp)⟩
  clear F1 N1 he j0 j1 j2 j3 j4 n m₁ t
  intro K hK n m₁ news₁ h₁ tk₁ F N hj
  refine bb fun G hG => ?_
  obtain ⟨jn, k, j0, ⟨t4, j1⟩, ⟨t5, j2⟩, j3, t, j4⟩ := hj
  refine hG ?_
  clear hG G
  subst jn
  have hjk : k ≤ po.length := Nat.le.intro j0
  have hA := le_th hz
  have hB := le_th hz2
  have hkA : k + 1 ≤ (a ++ po).length := Nat.le_trans (Nat.succ_le_succ hjk) hpA
  have hkB : k + 1 ≤ (b ++ po).length := Nat.le_trans (Nat.succ_le_succ hjk) hpB
  refine wpAny_mono (Q := TestEnd s m₁ (decide (k < po.length))) ?_ ?_ (fun _ _ x => x)
  · have fin := post_end hab hpa h1 hjk
    clear hab hpa hpb h0 h1 hpA hpB hjk j0
    by_cases hk0 : k = 0
    · subst hk0
      have j4 : m₁ (Str.ofString "post") = some (.int 0 t) := by simpa using j4
      have F := know4 F j1 j2 j3 j4
      ((repeat' ( (fail_if_success (with_reducible show wpAny _ _ (truthy (Value.str _ _)) _ _ _)); (fail_if_success (with_reducible show wpAny _ _ (call (Value.builtin "len") _) _ _ _)); (fail_if_success (with_reducible show wpAny _ _ (call (Value.type "list") _) _ _ _)); (fail_if_success (with_reducible show wpAny _ _ (getItem (Value.ref _) (Value.int _ _)) _ _ _)); (fail_if_success (with_reducible show wpAny _ _ (setItem (Value.ref _) (Value.int _ _) _) _ _ _)); (fail_if_success (with_reducible show wpAny _ _ (execs (Stmt.Assign _ (Expr.Subscript _ (Expr.Slice none (some (Expr.BoolOp _ _ _)) none _) _) _ :: _) _) _ _ _)); (fail_if_success (with_reducible show wpAny _ _ (subscriptTail _ (Expr.Slice none (some (Expr.BoolOp _ _ _)) none _) _ _) _ _ _)); (fail_if_success (with_reducible show wpAny _ _ (subscriptTail _ _ (Value.str _ _) (Value.int _ _)) _ _ _)); ((( ((( (fail_if_success (with_reducible show wpAny _ _ (exec (Stmt.For _ _ _ _ _) _) _ _ _)); (fail_if_success (with_reducible show wpAny _ _ (exec (Stmt.While _ _ _ _) _) _ _ _)); (fail_if_success (with_reducible show wpAny _ _ (pyIter (Value.ref _)) _ _ _)); (fail_if_success (with_reducible show wpAny _ _ (call (Value.ref _) _ _) _ _ _)); (fail_if_success (with_reducible show wpAny _ _ (call (Value.builtin "next") _ _) _ _ _)); (fail_if_success (with_reducible show wpAny _ _ (eval (Expr.ListComp _ _ _ _) _) _ _ _)); (fail_if_success (with_reducible show LCg.CompEnd _ _ _ _ _ _ _ _ _ _ _ _ _ _)); (fail_if_success (with_reducible show LoopStep3 _ _ _ _ _ _ _ _ _ _)); (fail_if_success (with_reducible show LoopStepV _ _ _ _ _ _ _ _ _ _)); skip))); (fail_if_success (with_reducible show wpAny _ _ (exec (Stmt.Assign _ (Expr.ListComp _ _ _ _) _) _) _ _ _)); (((first | ((with_reducible show wpAny _ _ (storeName _ _ _) _ _ _); dsimp only; walk1) | ((first | (k_unfold; (try dsimp only)) | (k_end; wrow_close) | walk1 | (dsimp only; walk1) | (leave1; walk_say "STEP leave1"; try dsimp only) | fail "no step")))))))))))
      (((with_reducible rename Fr _ _ _ _ => F'); (with_reducible rename News _ _ _ _ => N'); (refine slice_strN_nn (hsz := by rw [mkS_len]; exact le_line (by assumption)) (s := ⟨_, _, _, _, _⟩) F' N' fun _ _ _ _ _ => ?_); clear F' N'; rw [sl_nn]; try dsimp only))
      ((first | refine truthy_call (le_th (by assumption)) (ne_len (by assumption)) fun _ => ?_ | refine truthy_call (take_le (le_th (by assumption))) (take_ne (by assumption)) fun _ => ?_); dsimp only)
      ((repeat' ( (fail_if_success (with_reducible show wpAny _ _ (truthy (Value.str _ _)) _ _ _)); (fail_if_success (with_reducible show wpAny _ _ (call (Value.builtin "len") _) _ _ _)); (fail_if_success (with_reducible show wpAny _ _ (call (Value.type "list") _) _ _ _)); (fail_if_success (with_reducible show wpAny _ _ (getItem (Value.ref _) (Value.int _ _)) _ _ _)); (fail_if_success (with_reducible show wpAny _ _ (setItem (Value.ref _) (Value.int _ _) _) _ _ _)); (fail_if_success (with_reducible show wpAny _ _ (execs (Stmt.Assign _ (Expr.Subscript _ (Expr.Slice none (some (Expr.BoolOp _ _ _)) none _) _) _ :: _) _) _ _ _)); (fail_if_success (with_reducible show wpAny _ _ (subscriptTail _ (Expr.Slice none (some (Expr.BoolOp _ _ _)) none _) _ _) _ _ _)); (fail_if_success (with_reducible show wpAny _ _ (subscriptTail _ _ (Value.str _ _) (Value.int _ _)) _ _ _)); ((( ((( (fail_if_success (with_reducible show wpAny _ _ (exec (Stmt.For _ _ _ _ _) _) _ _ _)); (fail_if_success (with_reducible show wpAny _ _ (exec (Stmt.While _ _ _ _) _) _ _ _)); (fail_if_success (with_reducible show wpAny _ _ (pyIter (Value.ref _)) _ _ _)); (fail_if_success (with_reducible show wpAny _ _ (call (Value.ref _) _ _) _ _ _)); (fail_if_success (with_reducible show wpAny _ _ (call (Value.builtin "next") _ _) _ _ _)); (fail_if_success (with_reducible show wpAny _ _ (eval (Expr.ListComp _ _ _ _) _) _ _ _)); (fail_if_success (with_reducible show LCg.CompEnd _ _ _ _ _ _ _ _ _ _ _ _ _ _)); (fail_if_success (with_reducible show LoopStep3 _ _ _ _ _ _ _ _ _ _)); (fail_if_success (with_reducible show LoopStepV _ _ _ _ _ _ _ _ _ _)); skip))); (fail_if_success (with_reducible show wpAny _ _ (exec (Stmt.Assign _ (Expr.ListComp _ _ _ _) _) _) _ _ _)); (((first | ((with_reducible show wpAny _ _ (storeName _ _ _) _ _ _); dsimp only; walk1) | ((first | (k_unfold; (try dsimp only)) | (k_end; wrow_close) | walk1 | (dsimp only; walk1) | (leave1; walk_say "STEP leave1"; try dsimp only) | fail "no step")))))))))))
      (((with_reducible rename Fr _ _ _ _ => F'); (with_reducible rename News _ _ _ _ => N'); (refine slice_strN_nn (hsz := by rw [mkS_len]; exact le_line (by assumption)) (s := ⟨_, _, _, _, _⟩) F' N' fun _ _ _ _ _ => ?_); clear F' N'; rw [sl_nn]; try dsimp only))
      ((first | refine truthy_call (le_th (by assumption)) (ne_len (by assumption)) fun _ => ?_ | refine truthy_call (take_le (le_th (by assumption))) (take_ne (by assumption)) fun _ => ?_); dsimp only)
      ((repeat' ( (fail_if_success (with_reducible show wpAny _ _ (truthy (Value.str _ _)) _ _ _)); (fail_if_success (with_reducible show wpAny _ _ (call (Value.builtin "len") _) _ _ _)); (fail_if_success (with_reducible show wpAny _ _ (call (Value.type "list") _) _ _ _)); (fail_if_success (with_reducible show wpAny _ _ (getItem (Value.ref _) (Value.int _ _)) _ _ _)); (fail_if_success (with_reducible show wpAny _ _ (setItem (Value.ref _) (Value.int _ _) _) _ _ _)); (fail_if_success (with_reducible show wpAny _ _ (execs (Stmt.Assign _ (Expr.Subscript _ (Expr.Slice none (some (Expr.BoolOp _ _ _)) none _) _) _ :: _) _) _ _ _)); (fail_if_success (with_reducible show wpAny _ _ (subscriptTail _ (Expr.Slice none (some (Expr.BoolOp _ _ _)) none _) _ _) _ _ _)); (fail_if_success (with_reducible show wpAny _ _ (subscriptTail _ _ (Value.str _ _) (Value.int _ _)) _ _ _)); ((( ((( (fail_if_success (with_reducible show wpAny _ _ (exec (Stmt.For _ _ _ _ _) _) _ _ _)); (fail_if_success (with_reducible show wpAny _ _ (exec (Stmt.While _ _ _ _) _) _ _ _)); (fail_if_success (with_reducible show wpAny _ _ (pyIter (Value.ref _)) _ _ _)); (fail_if_success (with_reducible show wpAny _ _ (call (Value.ref _) _ _) _ _ _)); (fail_if_success (with_reducible show wpAny _ _ (call (Value.builtin "next") _ _) _ _ _)); (fail_if_success (with_reducible show wpAny _ _ (eval (Expr.ListComp _ _ _ _) _) _ _ _)); (fail_if_success (with_reducible show LCg.CompEnd _ _ _ _ _ _ _ _ _ _ _ _ _ _)); (fail_if_success (with_reducible show LoopStep3 _ _ _ _ _ _ _ _ _ _)); (fail_if_success (with_reducible show LoopStepV _ _ _ _ _ _ _ _ _ _)); skip))); (fail_if_success (with_reducible show wpAny _ _ (exec (Stmt.Assign _ (Expr.ListComp _ _ _ _) _) _) _ _ _)); (((first | ((with_reducible show wpAny _ _ (storeName _ _ _) _ _ _); dsimp only; walk1) | ((first | (k_unfold; (try dsimp only)) | (k_end; wrow_close) | walk1 | (dsimp only; walk1) | (leave1; walk_say "STEP leave1"; try dsimp only) | fail "no step")))))))))))
      refine item_call hA (idx_lo0 hkA) (idx_hi0 _) fun _ _ => ?_
      dsimp only
      ((repeat' ( (fail_if_success (with_reducible show wpAny _ _ (truthy (Value.str _ _)) _ _ _)); (fail_if_success (with_reducible show wpAny _ _ (call (Value.builtin "len") _) _ _ _)); (fail_if_success (with_reducible show wpAny _ _ (call (Value.type "list") _) _ _ _)); (fail_if_success (with_reducible show wpAny _ _ (getItem (Value.ref _) (Value.int _ _)) _ _ _)); (fail_if_success (with_reducible show wpAny _ _ (setItem (Value.ref _) (Value.int _ _) _) _ _ _)); (fail_if_success (with_reducible show wpAny _ _ (execs (Stmt.Assign _ (Expr.Subscript _ (Expr.Slice none (some (Expr.BoolOp _ _ _)) none _) _) _ :: _) _) _ _ _)); (fail_if_success (with_reducible show wpAny _ _ (subscriptTail _ (Expr.Slice none (some (Expr.BoolOp _ _ _)) none _) _ _) _ _ _)); (fail_if_success (with_reducible show wpAny _ _ (subscriptTail _ _ (Value.str _ _) (Value.int _ _)) _ _ _)); ((( ((( (fail_if_success (with_reducible show wpAny _ _ (exec (Stmt.For _ _ _ _ _) _) _ _ _)); (fail_if_success (with_reducible show wpAny _ _ (exec (Stmt.While _ _ _ _) _) _ _ _)); (fail_if_success (with_reducible show wpAny _ _ (pyIter (Value.ref _)) _ _ _)); (fail_if_success (with_reducible show wpAny _ _ (call (Value.ref _) _ _) _ _ _)); (fail_if_success (with_reducible show wpAny _ _ (call (Value.builtin "next") _ _) _ _ _)); (fail_if_success (with_reducible show wpAny _ _ (eval (Expr.ListComp _ _ _ _) _) _ _ _)); (fail_if_success (with_reducible show LCg.CompEnd _ _ _ _ _ _ _ _ _ _ _ _ _ _)); (fail_if_success (with_reducible show LoopStep3 _ _ _ _ _ _ _ _ _ _)); (fail_if_success (with_reducible show LoopStepV _ _ _ _ _ _ _ _ _ _)); skip))); (fail_if_success (with_reducible show wpAny _ _ (exec (Stmt.Assign _ (Expr.ListComp _ _ _ _) _) _) _ _ _)); (((first | ((with_reducible show wpAny _ _ (storeName _ _ _) _ _ _); dsimp only; walk1) | ((first | (k_unfold; (try dsimp only)) | (k_end; wrow_close) | walk1 | (dsimp only; walk1) | (leave1; walk_say "STEP leave1"; try dsimp only) | fail "no step")))))))))))
      refine item_call hB (idx_lo0 hkB) (idx_hi0 _) fun _ _ => ?_
      dsimp only
      ((repeat' ( (fail_if_success (with_reducible show wpAny _ _ (truthy (Value.str _ _)) _ _ _)); (fail_if_success (with_reducible show wpAny _ _ (call (Value.builtin "len") _) _ _ _)); (fail_if_success (with_reducible show wpAny _ _ (call (Value.type "list") _) _ _ _)); (fail_if_success (with_reducible show wpAny _ _ (getItem (Value.ref _) (Value.int _ _)) _ _ _)); (fail_if_success (with_reducible show wpAny _ _ (setItem (Value.ref _) (Value.int _ _) _) _ _ _)); (fail_if_success (with_reducible show wpAny _ _ (execs (Stmt.Assign _ (Expr.Subscript _ (Expr.Slice none (some (Expr.BoolOp _ _ _)) none _) _) _ :: _) _) _ _ _)); (fail_if_success (with_reducible show wpAny _ _ (subscriptTail _ (Expr.Slice none (some (Expr.BoolOp _ _ _)) none _) _ _) _ _ _)); (fail_if_success (with_reducible show wpAny _ _ (subscriptTail _ _ (Value.str _ _) (Value.int _ _)) _ _ _)); ((( ((( (fail_if_success (with_reducible show wpAny _ _ (exec (Stmt.For _ _ _ _ _) _) _ _ _)); (fail_if_success (with_reducible show wpAny _ _ (exec (Stmt.While _ _ _ _) _) _ _ _)); (fail_if_success (with_reducible show wpAny _ _ (pyIter (Value.ref _)) _ _ _)); (fail_if_success (with_reducible show wpAny _ _ (call (Value.ref _) _ _) _ _ _)); (fail_if_success (with_reducible show wpAny _ _ (call (Value.builtin "next") _ _) _ _ _)); (fail_if_success (with_reducible show wpAny _ _ (eval (Expr.ListComp _ _ _ _) _) _ _ _)); (fail_if_success (with_reducible show LCg.CompEnd _ _ _ _ _ _ _ _ _ _ _ _ _ _)); (fail_if_success (with_reducible show LoopStep3 _ _ _ _ _ _ _ _ _ _)); (fail_if_success (with_reducible show LoopStepV _ _ _ _ _ _ _ _ _ _)); skip))); (fail_if_success (with_reducible show wpAny _ _ (exec (Stmt.Assign _ (Expr.ListComp _ _ _ _) _) _) _ _ _)); (((first | ((with_reducible show wpAny _ _ (storeName _ _ _) _ _ _); dsimp only; walk1) | ((first | (k_unfold; (try dsimp only)) | (k_end; wrow_close) | walk1 | (dsimp only; walk1) | (leave1; walk_say "STEP leave1"; try dsimp only) | fail "no step")))))))))))
      all_goals
        rename Fr _ _ _ _ => F9
        rename News _ _ _ _ => N9
        refine ⟨_, _, rfl, ⟨_, F9, fun y => ?_⟩, N9, ?_⟩
        · repeat' split
          all_goals first | (subst_vars; first | exact j1.symm | exact j2.symm | exact j3.symm | exact j4.symm) | rfl
        · refine fin _ (fun e => ?_) (fun e => ?_)
          · first
            | exact absurd e (by decide)
            | (rename (_ == _) = true => he
               have he := mk1.mp he
               rw [if_neg idx_no0, if_neg idx_no0] at he
               rw [idx_neg0 hkA, idx_neg0 hkB]
               exact he)
          · first
            | exact absurd e (by decide)
            | (rename (_ == _) = false => he
               have he := mk1f.mp he
               rw [if_neg idx_no0, if_neg idx_no0] at he
               rw [idx_neg0 hkA, idx_neg0 hkB]
               exact he)
    · have F := know4 F j1 j2 j3 j4
      ((repeat' ( (fail_if_success (with_reducible show wpAny _ _ (truthy (Value.str _ _)) _ _ _)); (fail_if_success (with_reducible show wpAny _ _ (call (Value.builtin "len") _) _ _ _)); (fail_if_success (with_reducible show wpAny _ _ (call (Value.type "list") _) _ _ _)); (fail_if_success (with_reducible show wpAny _ _ (getItem (Value.ref _) (Value.int _ _)) _ _ _)); (fail_if_success (with_reducible show wpAny _ _ (setItem (Value.ref _) (Value.int _ _) _) _ _ _)); (fail_if_success (with_reducible show wpAny _ _ (execs (Stmt.Assign _ (Expr.Subscript _ (Expr.Slice none (some (Expr.BoolOp _ _ _)) none _) _) _ :: _) _) _ _ _)); (fail_if_success (with_reducible show wpAny _ _ (subscriptTail _ (Expr.Slice none (some (Expr.BoolOp _ _ _)) none _) _ _) _ _ _)); (fail_if_success (with_reducible show wpAny _ _ (subscriptTail _ _ (Value.str _ _) (Value.int _ _)) _ _ _)); ((( ((( (fail_if_success (with_reducible show wpAny _ _ (exec (Stmt.For _ _ _ _ _) _) _ _ _)); (fail_if_success (with_reducible show wpAny _ _ (exec (Stmt.While _ _ _ _) _) _ _ _)); (fail_if_success (with_reducible show wpAny _ _ (pyIter (Value.ref _)) _ _ _)); (fail_if_success (with_reducible show wpAny _ _ (call (Value.ref _) _ _) _ _ _)); (fail_if_success (with_reducible show wpAny _ _ (call (Value.builtin "next") _ _) _ _ _)); (fail_if_success (with_reducible show wpAny _ _ (eval (Expr.ListComp _ _ _ _) _) _ _ _)); (fail_if_success (with_reducible show LCg.CompEnd _ _ _ _ _ _ _ _ _ _ _ _ _ _)); (fail_if_success (with_reducible show LoopStep3 _ _ _ _ _ _ _ _ _ _)); (fail_if_success (with_reducible show LoopStepV _ _ _ _ _ _ _ _ _ _)); skip))); (fail_if_success (with_reducible show wpAny _ _ (exec (Stmt.Assign _ (Expr.ListComp _ _ _ _) _) _) _ _ _)); (((first | ((with_reducible show wpAny _ _ (storeName _ _ _) _ _ _); dsimp only; walk1) | ((first | (k_unfold; (try dsimp only)) | (k_end; wrow_close) | walk1 | (dsimp only; walk1) | (leave1; walk_say "STEP leave1"; try dsimp only) | fail "no step")))))))))))
      · (((with_reducible rename Fr _ _ _ _ => F'); (with_reducible rename News _ _ _ _ => N'); (refine slice_strN_ns (hsz := by rw [mkS_len]; exact le_line (by assumption)) (s := ⟨_, _, _, _, _⟩) F' N' fun _ _ _ _ _ => ?_); clear F' N'; rw [sl_to (Nat.pos_of_ne_zero (by assumption)) (Nat.le_of_succ_le (by assumption))]; try dsimp only))
        ((first | refine truthy_call (le_th (by assumption)) (ne_len (by assumption)) fun _ => ?_ | refine truthy_call (take_le (le_th (by assumption))) (take_ne (by assumption)) fun _ => ?_); dsimp only)
        ((repeat' ( (fail_if_success (with_reducible show wpAny _ _ (truthy (Value.str _ _)) _ _ _)); (fail_if_success (with_reducible show wpAny _ _ (call (Value.builtin "len") _) _ _ _)); (fail_if_success (with_reducible show wpAny _ _ (call (Value.type "list") _) _ _ _)); (fail_if_success (with_reducible show wpAny _ _ (getItem (Value.ref _) (Value.int _ _)) _ _ _)); (fail_if_success (with_reducible show wpAny _ _ (setItem (Value.ref _) (Value.int _ _) _) _ _ _)); (fail_if_success (with_reducible show wpAny _ _ (execs (Stmt.Assign _ (Expr.Subscript _ (Expr.Slice none (some (Expr.BoolOp _ _ _)) none _) _) _ :: _) _) _ _ _)); (fail_if_success (with_reducible show wpAny _ _ (subscriptTail _ (Expr.Slice none (some (Expr.BoolOp _ _ _)) none _) _ _) _ _ _)); (fail_if_success (with_reducible show wpAny _ _ (subscriptTail _ _ (Value.str _ _) (Value.int _ _)) _ _ _)); ((( ((( (fail_if_success (with_reducible show wpAny _ _ (exec (Stmt.For _ _ _ _ _) _) _ _ _)); (fail_if_success (with_reducible show wpAny _ _ (exec (Stmt.While _ _ _ _) _) _ _ _)); (fail_if_success (with_reducible show wpAny _ _ (pyIter (Value.ref _)) _ _ _)); (fail_if_success (with_reducible show wpAny _ _ (call (Value.ref _) _ _) _ _ _)); (fail_if_success (with_reducible show wpAny _ _ (call (Value.builtin "next") _ _) _ _ _)); (fail_if_success (with_reducible show wpAny _ _ (eval (Expr.ListComp _ _ _ _) _) _ _ _)); (fail_if_success (with_reducible show LCg.CompEnd _ _ _ _ _ _ _ _ _ _ _ _ _ _)); (fail_if_success (with_reducible show LoopStep3 _ _ _ _ _ _ _ _ _ _)); (fail_if_success (with_reducible show LoopStepV _ _ _ _ _ _ _ _ _ _)); skip))); (fail_if_success (with_reducible show wpAny _ _ (exec (Stmt.Assign _ (Expr.ListComp _ _ _ _) _) _) _ _ _)); (((first | ((with_reducible show wpAny _ _ (storeName _ _ _) _ _ _); dsimp only; walk1) | ((first | (k_unfold; (try dsimp only)) | (k_end; wrow_close) | walk1 | (dsimp only; walk1) | (leave1; walk_say "STEP leave1"; try dsimp only) | fail "no step")))))))))))
        · (((with_reducible rename Fr _ _ _ _ => F'); (with_reducible rename News _ _ _ _ => N'); (refine slice_strN_ns (hsz := by rw [mkS_len]; exact le_line (by assumption)) (s := ⟨_, _, _, _, _⟩) F' N' fun _ _ _ _ _ => ?_); clear F' N'; rw [sl_to (Nat.pos_of_ne_zero (by assumption)) (Nat.le_of_succ_le (by assumption))]; try dsimp only))
          ((first | refine truthy_call (le_th (by assumption)) (ne_len (by assumption)) fun _ => ?_ | refine truthy_call (take_le (le_th (by assumption))) (take_ne (by assumption)) fun _ => ?_); dsimp only)
          ((repeat' ( (fail_if_success (with_reducible show wpAny _ _ (truthy (Value.str _ _)) _ _ _)); (fail_if_success (with_reducible show wpAny _ _ (call (Value.builtin "len") _) _ _ _)); (fail_if_success (with_reducible show wpAny _ _ (call (Value.type "list") _) _ _ _)); (fail_if_success (with_reducible show wpAny _ _ (getItem (Value.ref _) (Value.int _ _)) _ _ _)); (fail_if_success (with_reducible show wpAny _ _ (setItem (Value.ref _) (Value.int _ _) _) _ _ _)); (fail_if_success (with_reducible show wpAny _ _ (execs (Stmt.Assign _ (Expr.Subscript _ (Expr.Slice none (some (Expr.BoolOp _ _ _)) none _) _) _ :: _) _) _ _ _)); (fail_if_success (with_reducible show wpAny _ _ (subscriptTail _ (Expr.Slice none (some (Expr.BoolOp _ _ _)) none _) _ _) _ _ _)); (fail_if_success (with_reducible show wpAny _ _ (subscriptTail _ _ (Value.str _ _) (Value.int _ _)) _ _ _)); ((( ((( (fail_if_success (with_reducible show wpAny _ _ (exec (Stmt.For _ _ _ _ _) _) _ _ _)); (fail_if_success (with_reducible show wpAny _ _ (exec (Stmt.While _ _ _ _) _) _ _ _)); (fail_if_success (with_reducible show wpAny _ _ (pyIter (Value.ref _)) _ _ _)); (fail_if_success (with_reducible show wpAny _ _ (call (Value.ref _) _ _) _ _ _)); (fail_if_success (with_reducible show wpAny _ _ (call (Value.builtin "next") _ _) _ _ _)); (fail_if_success (with_reducible show wpAny _ _ (eval (Expr.ListComp _ _ _ _) _) _ _ _)); (fail_if_success (with_reducible show LCg.CompEnd _ _ _ _ _ _ _ _ _ _ _ _ _ _)); (fail_if_success (with_reducible show LoopStep3 _ _ _ _ _ _ _ _ _ _)); (fail_if_success (with_reducible show LoopStepV _ _ _ _ _ _ _ _ _ _)); skip))); (fail_if_success (with_reducible show wpAny _ _ (exec (Stmt.Assign _ (Expr.ListComp _ _ _ _) _) _) _ _ _)); (((first | ((with_reducible show wpAny _ _ (storeName _ _ _) _ _ _); dsimp only; walk1) | ((first | (k_unfold; (try dsimp only)) | (k_end; wrow_close) | walk1 | (dsimp only; walk1) | (leave1; walk_say "STEP leave1"; try dsimp only) | fail "no step")))))))))))
          refine item_call hA (idx_lo hkA) (idx_hi _ _) fun _ _ => ?_
          dsimp only
          ((repeat' ( (fail_if_success (with_reducible show wpAny _ _ (truthy (Value.str _ _)) _ _ _)); (fail_if_success (with_reducible show wpAny _ _ (call (Value.builtin "len") _) _ _ _)); (fail_if_success (with_reducible show wpAny _ _ (call (Value.type "list") _) _ _ _)); (fail_if_success (with_reducible show wpAny _ _ (getItem (Value.ref _) (Value.int _ _)) _ _ _)); (fail_if_success (with_reducible show wpAny _ _ (setItem (Value.ref _) (Value.int _ _) _) _ _ _)); (fail_if_success (with_reducible show wpAny _ _ (execs (Stmt.Assign _ (Expr.Subscript _ (Expr.Slice none (some (Expr.BoolOp _ _ _)) none _) _) _ :: _) _) _ _ _)); (fail_if_success (with_reducible show wpAny _ _ (subscriptTail _ (Expr.Slice none (some (Expr.BoolOp _ _ _)) none _) _ _) _ _ _)); (fail_if_success (with_reducible show wpAny _ _ (subscriptTail _ _ (Value.str _ _) (Value.int _ _)) _ _ _)); ((( ((( (fail_if_success (with_reducible show wpAny _ _ (exec (Stmt.For _ _ _ _ _) _) _ _ _)); (fail_if_success (with_reducible show wpAny _ _ (exec (Stmt.While _ _ _ _) _) _ _ _)); (fail_if_success (with_reducible show wpAny _ _ (pyIter (Value.ref _)) _ _ _)); (fail_if_success (with_reducible show wpAny _ _ (call (Value.ref _) _ _) _ _ _)); (fail_if_success (with_reducible show wpAny _ _ (call (Value.builtin "next") _ _) _ _ _)); (fail_if_success (with_reducible show wpAny _ _ (eval (Expr.ListComp _ _ _ _) _) _ _ _)); (fail_if_success (with_reducible show LCg.CompEnd _ _ _ _ _ _ _ _ _ _ _ _ _ _)); (fail_if_success (with_reducible show LoopStep3 _ _ _ _ _ _ _ _ _ _)); (fail_if_success (with_reducible show LoopStepV _ _ _ _ _ _ _ _ _ _)); skip))); (fail_if_success (with_reducible show wpAny _ _ (exec (Stmt.Assign _ (Expr.ListComp _ _ _ _) _) _) _ _ _)); (((first | ((with_reducible show wpAny _ _ (storeName _ _ _) _ _ _); dsimp only; walk1) | ((first | (k_unfold; (try dsimp only)) | (k_end; wrow_close) | walk1 | (dsimp only; walk1) | (leave1; walk_say "STEP leave1"; try dsimp only) | fail "no step")))))))))))
          refine item_call hB (idx_lo hkB) (idx_hi _ _) fun _ _ => ?_
          dsimp only
          ((repeat' ( (fail_if_success (with_reducible show wpAny _ _ (truthy (Value.str _ _)) _ _ _)); (fail_if_success (with_reducible show wpAny _ _ (call (Value.builtin "len") _) _ _ _)); (fail_if_success (with_reducible show wpAny _ _ (call (Value.type "list") _) _ _ _)); (fail_if_success (with_reducible show wpAny _ _ (getItem (Value.ref _) (Value.int _ _)) _ _ _)); (fail_if_success (with_reducible show wpAny _ _ (setItem (Value.ref _) (Value.int _ _) _) _ _ _)); (fail_if_success (with_reducible show wpAny _ _ (execs (Stmt.Assign _ (Expr.Subscript _ (Expr.Slice none (some (Expr.BoolOp _ _ _)) none _) _) _ :: _) _) _ _ _)); (fail_if_success (with_reducible show wpAny _ _ (subscriptTail _ (Expr.Slice none (some (Expr.BoolOp _ _ _)) none _) _ _) _ _ _)); (fail_if_success (with_reducible show wpAny _ _ (subscriptTail _ _ (Value.str _ _) (Value.int _ _)) _ _ _)); ((( ((( (fail_if_success (with_reducible show wpAny _ _ (exec (Stmt.For _ _ _ _ _) _) _ _ _)); (fail_if_success (with_reducible show wpAny _ _ (exec (Stmt.While _ _ _ _) _) _ _ _)); (fail_if_success (with_reducible show wpAny _ _ (pyIter (Value.ref _)) _ _ _)); (fail_if_success (with_reducible show wpAny _ _ (call (Value.ref _) _ _) _ _ _)); (fail_if_success (with_reducible show wpAny _ _ (call (Value.builtin "next") _ _) _ _ _)); (fail_if_success (with_reducible show wpAny _ _ (eval (Expr.ListComp _ _ _ _) _) _ _ _)); (fail_if_success (with_reducible show LCg.CompEnd _ _ _ _ _ _ _ _ _ _ _ _ _ _)); (fail_if_success (with_reducible show LoopStep3 _ _ _ _ _ _ _ _ _ _)); (fail_if_success (with_reducible show LoopStepV _ _ _ _ _ _ _ _ _ _)); skip))); (fail_if_success (with_reducible show wpAny _ _ (exec (Stmt.Assign _ (Expr.ListComp _ _ _ _) _) _) _ _ _)); (((first | ((with_reducible show wpAny _ _ (storeName _ _ _) _ _ _); dsimp only; walk1) | ((first | (k_unfold; (try dsimp only)) | (k_end; wrow_close) | walk1 | (dsimp only; walk1) | (leave1; walk_say "STEP leave1"; try dsimp only) | fail "no step")))))))))))
          all_goals
            rename Fr _ _ _ _ => F9
            rename News _ _ _ _ => N9
            refine ⟨_, _, rfl, ⟨_, F9, fun y => ?_⟩, N9, ?_⟩
            · repeat' split
              all_goals first | (subst_vars; first | exact j1.symm | exact j2.symm | exact j3.symm | exact j4.symm) | rfl
            · refine fin _ (fun e => ?_) (fun e => ?_)
              · first
                | exact absurd e (by decide)
                | (rename (_ == _) = true => he
                   have he := mk1.mp he
                   rw [if_neg (idx_no k), if_neg (idx_no k)] at he
                   rw [idx_neg hkA, idx_neg hkB]
                   exact he)
              · first
                | exact absurd e (by decide)
                | (rename (_ == _) = false => he
                   have he := mk1f.mp he
                   rw [if_neg (idx_no k), if_neg (idx_no k)] at he
                   rw [idx_neg hkA, idx_neg hkB]
                   exact he)
        · rename -(k : Int) = 0 => e
          exact absurd e (neg_ne hk0)
      · rename -(k : Int) = 0 => e
        exact absurd e (neg_ne hk0)
  intro z s' hj
  refine Mine.bb fun G hG => ?_
  obtain ⟨h₂, tk₂, rfl, ⟨m₂, F, hm₂⟩, N, rfl⟩ := hj
  refine hG ?_
  clear hG G
  replace j1 := (hm₂ _).trans j1
  replace j2 := (hm₂ _).trans j2
  replace j3 := (hm₂ _).trans j3
  replace j4 := (hm₂ _).trans j4
  clear hm₂
  by_cases hk : k < po.length
  · rw [if_pos (by simpa using hk)]
    have F := know4 F j1 j2 j3 j4
    ((repeat' ( (fail_if_success (with_reducible show wpAny _ _ (truthy (Value.str _ _)) _ _ _)); (fail_if_success (with_reducible show wpAny _ _ (call (Value.builtin "len") _) _ _ _)); (fail_if_success (with_reducible show wpAny _ _ (call (Value.type "list") _) _ _ _)); (fail_if_success (with_reducible show wpAny _ _ (getItem (Value.ref _) (Value.int _ _)) _ _ _)); (fail_if_success (with_reducible show wpAny _ _ (setItem (Value.ref _) (Value.int _ _) _) _ _ _)); (fail_if_success (with_reducible show wpAny _ _ (execs (Stmt.Assign _ (Expr.Subscript _ (Expr.Slice none (some (Expr.BoolOp _ _ _)) none _) _) _ :: _) _) _ _ _)); (fail_if_success (with_reducible show wpAny _ _ (subscriptTail _ (Expr.Slice none (some (Expr.BoolOp _ _ _)) none _) _ _) _ _ _)); (fail_if_success (with_reducible show wpAny _ _ (subscriptTail _ _ (Value.str _ _) (Value.int _ _)) _ _ _)); ((( ((( (fail_if_success (with_reducible show wpAny _ _ (exec (Stmt.For _ _ _ _ _) _) _ _ _)); (fail_if_success (with_reducible show wpAny _ _ (exec (Stmt.While _ _ _ _) _) _ _ _)); (fail_if_success (with_reducible show wpAny _ _ (pyIter (Value.ref _)) _ _ _)); (fail_if_success (with_reducible show wpAny _ _ (call (Value.ref _) _ _) _ _ _)); (fail_if_success (with_reducible show wpAny _ _ (call (Value.builtin "next") _ _) _ _ _)); (fail_if_success (with_reducible show wpAny _ _ (eval (Expr.ListComp _ _ _ _) _) _ _ _)); (fail_if_success (with_reducible show LCg.CompEnd _ _ _ _ _ _ _ _ _ _ _ _ _ _)); (fail_if_success (with_reducible show LoopStep3 _ _ _ _ _ _ _ _ _ _)); (fail_if_success (with_reducible show LoopStepV _ _ _ _ _ _ _ _ _ _)); skip))); (fail_if_success (with_reducible show wpAny _ _ (exec (Stmt.Assign _ (Expr.ListComp _ _ _ _) _) _) _ _ _)); (((first | ((with_reducible show wpAny _ _ (storeName _ _ _) _ _ _); dsimp only; walk1) | ((first | (k_unfold; (try dsimp only)) | (k_end; wrow_close) | walk1 | (dsimp only; walk1) | (leave1; walk_say "STEP leave1"; try dsimp only) | fail "no step")))))))))))
    rename Fr _ _ _ _ => F5
    rename News _ _ _ _ => N5
    exact WhileStep.intro (n' := n - 1) F5 N5 (dec1 j0 hk) (hK _ _ _ ⟨rfl, k + 1, dec2 j0 hk, ⟨_, rfl⟩, ⟨_, rfl⟩, rfl, ex_int rfl (cneg k)⟩)
  rw [if_neg (by simpa using hk)]
  obtain rfl : k = po.length := Nat.le_antisymm hjk (Nat.not_lt.mp hk)
  clear hA hB hjk hk hpA hpB hK j0
  dsimp only
  ((repeat' ( (fail_if_success (with_reducible show wpAny _ _ (truthy (Value.str _ _)) _ _ _)); (fail_if_success (with_reducible show wpAny _ _ (call (Value.builtin "len") _) _ _ _)); (fail_if_success (with_reducible show wpAny _ _ (call (Value.type "list") _) _ _ _)); (fail_if_success (with_reducible show wpAny _ _ (getItem (Value.ref _) (Value.int _ _)) _ _ _)); (fail_if_success (with_reducible show wpAny _ _ (setItem (Value.ref _) (Value.int _ _) _) _ _ _)); (fail_if_success (with_reducible show wpAny _ _ (execs (Stmt.Assign _ (Expr.Subscript _ (Expr.Slice none (some (Expr.BoolOp _ _ _)) none _) _) _ :: _) _) _ _ _)); (fail_if_success (with_reducible show wpAny _ _ (subscriptTail _ (Expr.Slice none (some (Expr.BoolOp _ _ _)) none _) _ _) _ _ _)); (fail_if_success (with_reducible show wpAny _ _ (subscriptTail _ _ (Value.str _ _) (Value.int _ _)) _ _ _)); ((( ((( (fail_if_success (with_reducible show wpAny _ _ (exec (Stmt.For _ _ _ _ _) _) _ _ _)); (fail_if_success (with_reducible show wpAny _ _ (exec (Stmt.While _ _ _ _) _) _ _ _)); (fail_if_success (with_reducible show wpAny _ _ (pyIter (Value.ref _)) _ _ _)); (fail_if_success (with_reducible show wpAny _ _ (call (Value.ref _) _ _) _ _ _)); (fail_if_success (with_reducible show wpAny _ _ (call (Value.builtin "next") _ _) _ _ _)); (fail_if_success (with_reducible show wpAny _ _ (eval (Expr.ListComp _ _ _ _) _) _ _ _)); (fail_if_success (with_reducible show LCg.CompEnd _ _ _ _ _ _ _ _ _ _ _ _ _ _)); (fail_if_success (with_reducible show LoopStep3 _ _ _ _ _ _ _ _ _ _)); (fail_if_success (with_reducible show LoopStepV _ _ _ _ _ _ _ _ _ _)); skip))); (fail_if_success (with_reducible show wpAny _ _ (exec (Stmt.Assign _ (Expr.ListComp _ _ _ _) _) _) _ _ _)); (((first | ((with_reducible show wpAny _ _ (storeName _ _ _) _ _ _); dsimp only; walk1) | ((first | (k_unfold; (try dsimp only)) | (k_end; wrow_close) | walk1 | (dsimp only; walk1) | (leave1; walk_say "STEP leave1"; try dsimp only) | fail "no step")))))))))))
  refine wpAny_execs_cons ?_
  refine wpAny_mono (Q := AsgEnd s m₂ (Str.ofString "a") (mkS a)) ?_ ?_ (fun _ _ x => x)
  · by_cases hk0 : po.length = 0
    · have j4 : m₂ (Str.ofString "post") = some (.int 0 t) := by simpa [hk0] using j4
      have F := know4 F j1 j2 j3 j4
      ((repeat' ( (fail_if_success (with_reducible show wpAny _ _ (truthy (Value.str _ _)) _ _ _)); (fail_if_success (with_reducible show wpAny _ _ (call (Value.builtin "len") _) _ _ _)); (fail_if_success (with_reducible show wpAny _ _ (call (Value.type "list") _) _ _ _)); (fail_if_success (with_reducible show wpAny _ _ (getItem (Value.ref _) (Value.int _ _)) _ _ _)); (fail_if_success (with_reducible show wpAny _ _ (setItem (Value.ref _) (Value.int _ _) _) _ _ _)); (fail_if_success (with_reducible show wpAny _ _ (execs (Stmt.Assign _ (Expr.Subscript _ (Expr.Slice none (some (Expr.BoolOp _ _ _)) none _) _) _ :: _) _) _ _ _)); (fail_if_success (with_reducible show wpAny _ _ (subscriptTail _ (Expr.Slice none (some (Expr.BoolOp _ _ _)) none _) _ _) _ _ _)); (fail_if_success (with_reducible show wpAny _ _ (subscriptTail _ _ (Value.str _ _) (Value.int _ _)) _ _ _)); ((( ((( (fail_if_success (with_reducible show wpAny _ _ (exec (Stmt.For _ _ _ _ _) _) _ _ _)); (fail_if_success (with_reducible show wpAny _ _ (exec (Stmt.While _ _ _ _) _) _ _ _)); (fail_if_success (with_reducible show wpAny _ _ (pyIter (Value.ref _)) _ _ _)); (fail_if_success (with_reducible show wpAny _ _ (call (Value.ref _) _ _) _ _ _)); (fail_if_success (with_reducible show wpAny _ _ (call (Value.builtin "next") _ _) _ _ _)); (fail_if_success (with_reducible show wpAny _ _ (eval (Expr.ListComp _ _ _ _) _) _ _ _)); (fail_if_success (with_reducible show LCg.CompEnd _ _ _ _ _ _ _ _ _ _ _ _ _ _)); (fail_if_success (with_reducible show LoopStep3 _ _ _ _ _ _ _ _ _ _)); (fail_if_success (with_reducible show LoopStepV _ _ _ _ _ _ _ _ _ _)); skip))); (fail_if_success (with_reducible show wpAny _ _ (exec (Stmt.Assign _ (Expr.ListComp _ _ _ _) _) _) _ _ _)); (((first | ((with_reducible show wpAny _ _ (storeName _ _ _) _ _ _); dsimp only; walk1) | ((first | (k_unfold; (try dsimp only)) | (k_end; wrow_close) | walk1 | (dsimp only; walk1) | (leave1; walk_say "STEP leave1"; try dsimp only) | fail "no step")))))))))))
      (((with_reducible rename Fr _ _ _ _ => F'); (with_reducible rename News _ _ _ _ => N'); (refine slice_strN_nn (hsz := by rw [mkS_len]; exact le_line (by assumption)) (s := ⟨_, _, _, _, _⟩) F' N' fun _ _ _ _ _ => ?_); clear F' N'; rw [sl_nn]; try dsimp only))
      rw [show a ++ po = a by rw [List.length_eq_zero_iff.mp hk0, List.append_nil]]
      ((repeat' ( (fail_if_success (with_reducible show wpAny _ _ (truthy (Value.str _ _)) _ _ _)); (fail_if_success (with_reducible show wpAny _ _ (call (Value.builtin "len") _) _ _ _)); (fail_if_success (with_reducible show wpAny _ _ (call (Value.type "list") _) _ _ _)); (fail_if_success (with_reducible show wpAny _ _ (getItem (Value.ref _) (Value.int _ _)) _ _ _)); (fail_if_success (with_reducible show wpAny _ _ (setItem (Value.ref _) (Value.int _ _) _) _ _ _)); (fail_if_success (with_reducible show wpAny _ _ (execs (Stmt.Assign _ (Expr.Subscript _ (Expr.Slice none (some (Expr.BoolOp _ _ _)) none _) _) _ :: _) _) _ _ _)); (fail_if_success (with_reducible show wpAny _ _ (subscriptTail _ (Expr.Slice none (some (Expr.BoolOp _ _ _)) none _) _ _) _ _ _)); (fail_if_success (with_reducible show wpAny _ _ (subscriptTail _ _ (Value.str _ _) (Value.int _ _)) _ _ _)); ((( ((( (fail_if_success (with_reducible show wpAny _ _ (exec (Stmt.For _ _ _ _ _) _) _ _ _)); (fail_if_success (with_reducible show wpAny _ _ (exec (Stmt.While _ _ _ _) _) _ _ _)); (fail_if_success (with_reducible show wpAny _ _ (pyIter (Value.ref _)) _ _ _)); (fail_if_success (with_reducible show wpAny _ _ (call (Value.ref _) _ _) _ _ _)); (fail_if_success (with_reducible show wpAny _ _ (call (Value.builtin "next") _ _) _ _ _)); (fail_if_success (with_reducible show wpAny _ _ (eval (Expr.ListComp _ _ _ _) _) _ _ _)); (fail_if_success (with_reducible show LCg.CompEnd _ _ _ _ _ _ _ _ _ _ _ _ _ _)); (fail_if_success (with_reducible show LoopStep3 _ _ _ _ _ _ _ _ _ _)); (fail_if_success (with_reducible show LoopStepV _ _ _ _ _ _ _ _ _ _)); skip))); (fail_if_success (with_reducible show wpAny _ _ (exec (Stmt.Assign _ (Expr.ListComp _ _ _ _) _) _) _ _ _)); (((first | ((with_reducible show wpAny _ _ (storeName _ _ _) _ _ _); dsimp only; walk1) | ((first | (k_unfold; (try dsimp only)) | (k_end; wrow_close) | walk1 | (dsimp only; walk1) | (leave1; walk_say "STEP leave1"; try dsimp only) | fail "no step")))))))))))
      rename Fr _ _ _ _ => F9
      rename News _ _ _ _ => N9
      refine ⟨rfl, _, _, rfl, ⟨_, _, F9, rfl, fun y hy => ?_⟩, N9⟩
      rw [if_neg hy]
      repeat' split
      all_goals first | (subst_vars; first | exact (j1).symm | exact (j2).symm | exact (j3).symm | exact j4.symm) | rfl
    · have F := know4 F j1 j2 j3 j4
      ((repeat' ( (fail_if_success (with_reducible show wpAny _ _ (truthy (Value.str _ _)) _ _ _)); (fail_if_success (with_reducible show wpAny _ _ (call (Value.builtin "len") _) _ _ _)); (fail_if_success (with_reducible show wpAny _ _ (call (Value.type "list") _) _ _ _)); (fail_if_success (with_reducible show wpAny _ _ (getItem (Value.ref _) (Value.int _ _)) _ _ _)); (fail_if_success (with_reducible show wpAny _ _ (setItem (Value.ref _) (Value.int _ _) _) _ _ _)); (fail_if_success (with_reducible show wpAny _ _ (execs (Stmt.Assign _ (Expr.Subscript _ (Expr.Slice none (some (Expr.BoolOp _ _ _)) none _) _) _ :: _) _) _ _ _)); (fail_if_success (with_reducible show wpAny _ _ (subscriptTail _ (Expr.Slice none (some (Expr.BoolOp _ _ _)) none _) _ _) _ _ _)); (fail_if_success (with_reducible show wpAny _ _ (subscriptTail _ _ (Value.str _ _) (Value.int _ _)) _ _ _)); ((( ((( (fail_if_success (with_reducible show wpAny _ _ (exec (Stmt.For _ _ _ _ _) _) _ _ _)); (fail_if_success (with_reducible show wpAny _ _ (exec (Stmt.While _ _ _ _) _) _ _ _)); (fail_if_success (with_reducible show wpAny _ _ (pyIter (Value.ref _)) _ _ _)); (fail_if_success (with_reducible show wpAny _ _ (call (Value.ref _) _ _) _ _ _)); (fail_if_success (with_reducible show wpAny _ _ (call (Value.builtin "next") _ _) _ _ _)); (fail_if_success (with_reducible show wpAny _ _ (eval (Expr.ListComp _ _ _ _) _) _ _ _)); (fail_if_success (with_reducible show LCg.CompEnd _ _ _ _ _ _ _ _ _ _ _ _ _ _)); (fail_if_success (with_reducible show LoopStep3 _ _ _ _ _ _ _ _ _ _)); (fail_if_success (with_reducible show LoopStepV _ _ _ _ _ _ _ _ _ _)); skip))); (fail_if_success (with_reducible show wpAny _ _ (exec (Stmt.Assign _ (Expr.ListComp _ _ _ _) _) _) _ _ _)); (((first | ((with_reducible show wpAny _ _ (storeName _ _ _) _ _ _); dsimp only; walk1) | ((first | (k_unfold; (try dsimp only)) | (k_end; wrow_close) | walk1 | (dsimp only; walk1) | (leave1; walk_say "STEP leave1"; try dsimp only) | fail "no step")))))))))))
      · (((with_reducible rename Fr _ _ _ _ => F'); (with_reducible rename News _ _ _ _ => N'); (refine slice_strN_ns (hsz := by rw [mkS_len]; exact le_line (by assumption)) (s := ⟨_, _, _, _, _⟩) F' N' fun _ _ _ _ _ => ?_); clear F' N'; rw [sl_to (Nat.pos_of_ne_zero (by assumption)) (Nat.le_of_succ_le (by assumption))]; try dsimp only))
        rw [show (a ++ po).take ((a ++ po).length - po.length) = a by rw [List.length_append, Nat.add_sub_cancel, List.take_left]]
        ((repeat' ( (fail_if_success (with_reducible show wpAny _ _ (truthy (Value.str _ _)) _ _ _)); (fail_if_success (with_reducible show wpAny _ _ (call (Value.builtin "len") _) _ _ _)); (fail_if_success (with_reducible show wpAny _ _ (call (Value.type "list") _) _ _ _)); (fail_if_success (with_reducible show wpAny _ _ (getItem (Value.ref _) (Value.int _ _)) _ _ _)); (fail_if_success (with_reducible show wpAny _ _ (setItem (Value.ref _) (Value.int _ _) _) _ _ _)); (fail_if_success (with_reducible show wpAny _ _ (execs (Stmt.Assign _ (Expr.Subscript _ (Expr.Slice none (some (Expr.BoolOp _ _ _)) none _) _) _ :: _) _) _ _ _)); (fail_if_success (with_reducible show wpAny _ _ (subscriptTail _ (Expr.Slice none (some (Expr.BoolOp _ _ _)) none _) _ _) _ _ _)); (fail_if_success (with_reducible show wpAny _ _ (subscriptTail _ _ (Value.str _ _) (Value.int _ _)) _ _ _)); ((( ((( (fail_if_success (with_reducible show wpAny _ _ (exec (Stmt.For _ _ _ _ _) _) _ _ _)); (fail_if_success (with_reducible show wpAny _ _ (exec (Stmt.While _ _ _ _) _) _ _ _)); (fail_if_success (with_reducible show wpAny _ _ (pyIter (Value.ref _)) _ _ _)); (fail_if_success (with_reducible show wpAny _ _ (call (Value.ref _) _ _) _ _ _)); (fail_if_success (with_reducible show wpAny _ _ (call (Value.builtin "next") _ _) _ _ _)); (fail_if_success (with_reducible show wpAny _ _ (eval (Expr.ListComp _ _ _ _) _) _ _ _)); (fail_if_success (with_reducible show LCg.CompEnd _ _ _ _ _ _ _ _ _ _ _ _ _ _)); (fail_if_success (with_reducible show LoopStep3 _ _ _ _ _ _ _ _ _ _)); (fail_if_success (with_reducible show LoopStepV _ _ _ _ _ _ _ _ _ _)); skip))); (fail_if_success (with_reducible show wpAny _ _ (exec (Stmt.Assign _ (Expr.ListComp _ _ _ _) _) _) _ _ _)); (((first | ((with_reducible show wpAny _ _ (storeName _ _ _) _ _ _); dsimp only; walk1) | ((first | (k_unfold; (try dsimp only)) | (k_end; wrow_close) | walk1 | (dsimp only; walk1) | (leave1; walk_say "STEP leave1"; try dsimp only) | fail "no step")))))))))))
        rename Fr _ _ _ _ => F9
        rename News _ _ _ _ => N9
        refine ⟨rfl, _, _, rfl, ⟨_, _, F9, rfl, fun y hy => ?_⟩, N9⟩
        rw [if_neg hy]
        repeat' split
        all_goals first | (subst_vars; first | exact (j1).symm | exact (j2).symm | exact (j3).symm | exact (j4).symm) | rfl
      · rename -(po.length : Int) = 0 => e
        exact absurd e (neg_ne hk0)
  intro f s' hj
  refine bb fun G hG => ?_
  obtain ⟨rfl, h₃, tk₃, rfl, ⟨m₃, t6, F, i1, hm₃⟩, N⟩ := hj
  refine hG ?_
  clear hG G
  replace j2 := (hm₃ (Str.ofString "b") (by decide)).trans j2
  replace j3 := (hm₃ (Str.ofString "max_cost") (by decide)).trans j3
  replace j4 := (hm₃ (Str.ofString "post") (by decide)).trans j4
  dsimp only
  ((repeat' ( (fail_if_success (with_reducible show wpAny _ _ (truthy (Value.str _ _)) _ _ _)); (fail_if_success (with_reducible show wpAny _ _ (call (Value.builtin "len") _) _ _ _)); (fail_if_success (with_reducible show wpAny _ _ (call (Value.type "list") _) _ _ _)); (fail_if_success (with_reducible show wpAny _ _ (getItem (Value.ref _) (Value.int _ _)) _ _ _)); (fail_if_success (with_reducible show wpAny _ _ (setItem (Value.ref _) (Value.int _ _) _) _ _ _)); (fail_if_success (with_reducible show wpAny _ _ (execs (Stmt.Assign _ (Expr.Subscript _ (Expr.Slice none (some (Expr.BoolOp _ _ _)) none _) _) _ :: _) _) _ _ _)); (fail_if_success (with_reducible show wpAny _ _ (subscriptTail _ (Expr.Slice none (some (Expr.BoolOp _ _ _)) none _) _ _) _ _ _)); (fail_if_success (with_reducible show wpAny _ _ (subscriptTail _ _ (Value.str _ _) (Value.int _ _)) _ _ _)); ((( ((( (fail_if_success (with_reducible show wpAny _ _ (exec (Stmt.For _ _ _ _ _) _) _ _ _)); (fail_if_success (with_reducible show wpAny _ _ (exec (Stmt.While _ _ _ _) _) _ _ _)); (fail_if_success (with_reducible show wpAny _ _ (pyIter (Value.ref _)) _ _ _)); (fail_if_success (with_reducible show wpAny _ _ (call (Value.ref _) _ _) _ _ _)); (fail_if_success (with_reducible show wpAny _ _ (call (Value.builtin "next") _ _) _ _ _)); (fail_if_success (with_reducible show wpAny _ _ (eval (Expr.ListComp _ _ _ _) _) _ _ _)); (fail_if_success (with_reducible show LCg.CompEnd _ _ _ _ _ _ _ _ _ _ _ _ _ _)); (fail_if_success (with_reducible show LoopStep3 _ _ _ _ _ _ _ _ _ _)); (fail_if_success (with_reducible show LoopStepV _ _ _ _ _ _ _ _ _ _)); skip))); (fail_if_success (with_reducible show wpAny _ _ (exec (Stmt.Assign _ (Expr.ListComp _ _ _ _) _) _) _ _ _)); (((first | ((with_reducible show wpAny _ _ (storeName _ _ _) _ _ _); dsimp only; walk1) | ((first | (k_unfold; (try dsimp only)) | (k_end; wrow_close) | walk1 | (dsimp only; walk1) | (leave1; walk_say "STEP leave1"; try dsimp only) | fail "no step")))))))))))
  refine wpAny_execs_cons ?_
  refine wpAny_mono (Q := AsgEnd s m₃ (Str.ofString "b") (mkS b)) ?_ ?_ (fun _ _ x => x)
  · by_cases hk0 : po.length = 0
    · have j4 : m₃ (Str.ofString "post") = some (.int 0 t) := by simpa [hk0] using j4
      have F := know4 F i1 j2 j3 j4
      ((repeat' ( (fail_if_success (with_reducible show wpAny _ _ (truthy (Value.str _ _)) _ _ _)); (fail_if_success (with_reducible show wpAny _ _ (call (Value.builtin "len") _) _ _ _)); (fail_if_success (with_reducible show wpAny _ _ (call (Value.type "list") _) _ _ _)); (fail_if_success (with_reducible show wpAny _ _ (getItem (Value.ref _) (Value.int _ _)) _ _ _)); (fail_if_success (with_reducible show wpAny _ _ (setItem (Value.ref _) (Value.int _ _) _) _ _ _)); (fail_if_success (with_reducible show wpAny _ _ (execs (Stmt.Assign _ (Expr.Subscript _ (Expr.Slice none (some (Expr.BoolOp _ _ _)) none _) _) _ :: _) _) _ _ _)); (fail_if_success (with_reducible show wpAny _ _ (subscriptTail _ (Expr.Slice none (some (Expr.BoolOp _ _ _)) none _) _ _) _ _ _)); (fail_if_success (with_reducible show wpAny _ _ (subscriptTail _ _ (Value.str _ _) (Value.int _ _)) _ _ _)); ((( ((( (fail_if_success (with_reducible show wpAny _ _ (exec (Stmt.For _ _ _ _ _) _) _ _ _)); (fail_if_success (with_reducible show wpAny _ _ (exec (Stmt.While _ _ _ _) _) _ _ _)); (fail_if_success (with_reducible show wpAny _ _ (pyIter (Value.ref _)) _ _ _)); (fail_if_success (with_reducible show wpAny _ _ (call (Value.ref _) _ _) _ _ _)); (fail_if_success (with_reducible show wpAny _ _ (call (Value.builtin "next") _ _) _ _ _)); (fail_if_success (with_reducible show wpAny _ _ (eval (Expr.ListComp _ _ _ _) _) _ _ _)); (fail_if_success (with_reducible show LCg.CompEnd _ _ _ _ _ _ _ _ _ _ _ _ _ _)); (fail_if_success (with_reducible show LoopStep3 _ _ _ _ _ _ _ _ _ _)); (fail_if_success (with_reducible show LoopStepV _ _ _ _ _ _ _ _ _ _)); skip))); (fail_if_success (with_reducible show wpAny _ _ (exec (Stmt.Assign _ (Expr.ListComp _ _ _ _) _) _) _ _ _)); (((first | ((with_reducible show wpAny _ _ (storeName _ _ _) _ _ _); dsimp only; walk1) | ((first | (k_unfold; (try dsimp only)) | (k_end; wrow_close) | walk1 | (dsimp only; walk1) | (leave1; walk_say "STEP leave1"; try dsimp only) | fail "no step")))))))))))
      (((with_reducible rename Fr _ _ _ _ => F'); (with_reducible rename News _ _ _ _ => N'); (refine slice_strN_nn (hsz := by rw [mkS_len]; exact le_line (by assumption)) (s := ⟨_, _, _, _, _⟩) F' N' fun _ _ _ _ _ => ?_); clear F' N'; rw [sl_nn]; try dsimp only))
      rw [show b ++ po = b by rw [List.length_eq_zero_iff.mp hk0, List.append_nil]]
      ((repeat' ( (fail_if_success (with_reducible show wpAny _ _ (truthy (Value.str _ _)) _ _ _)); (fail_if_success (with_reducible show wpAny _ _ (call (Value.builtin "len") _) _ _ _)); (fail_if_success (with_reducible show wpAny _ _ (call (Value.type "list") _) _ _ _)); (fail_if_success (with_reducible show wpAny _ _ (getItem (Value.ref _) (Value.int _ _)) _ _ _)); (fail_if_success (with_reducible show wpAny _ _ (setItem (Value.ref _) (Value.int _ _) _) _ _ _)); (fail_if_success (with_reducible show wpAny _ _ (execs (Stmt.Assign _ (Expr.Subscript _ (Expr.Slice none (some (Expr.BoolOp _ _ _)) none _) _) _ :: _) _) _ _ _)); (fail_if_success (with_reducible show wpAny _ _ (subscriptTail _ (Expr.Slice none (some (Expr.BoolOp _ _ _)) none _) _ _) _ _ _)); (fail_if_success (with_reducible show wpAny _ _ (subscriptTail _ _ (Value.str _ _) (Value.int _ _)) _ _ _)); ((( ((( (fail_if_success (with_reducible show wpAny _ _ (exec (Stmt.For _ _ _ _ _) _) _ _ _)); (fail_if_success (with_reducible show wpAny _ _ (exec (Stmt.While _ _ _ _) _) _ _ _)); (fail_if_success (with_reducible show wpAny _ _ (pyIter (Value.ref _)) _ _ _)); (fail_if_success (with_reducible show wpAny _ _ (call (Value.ref _) _ _) _ _ _)); (fail_if_success (with_reducible show wpAny _ _ (call (Value.builtin "next") _ _) _ _ _)); (fail_if_success (with_reducible show wpAny _ _ (eval (Expr.ListComp _ _ _ _) _) _ _ _)); (fail_if_success (with_reducible show LCg.CompEnd _ _ _ _ _ _ _ _ _ _ _ _ _ _)); (fail_if_success (with_reducible show LoopStep3 _ _ _ _ _ _ _ _ _ _)); (fail_if_success (with_reducible show LoopStepV _ _ _ _ _ _ _ _ _ _)); skip))); (fail_if_success (with_reducible show wpAny _ _ (exec (Stmt.Assign _ (Expr.ListComp _ _ _ _) _) _) _ _ _)); (((first | ((with_reducible show wpAny _ _ (storeName _ _ _) _ _ _); dsimp only; walk1) | ((first | (k_unfold; (try dsimp only)) | (k_end; wrow_close) | walk1 | (dsimp only; walk1) | (leave1; walk_say "STEP leave1"; try dsimp only) | fail "no step")))))))))))
      rename Fr _ _ _ _ => F9
      rename News _ _ _ _ => N9
      refine ⟨rfl, _, _, rfl, ⟨_, _, F9, rfl, fun y hy => ?_⟩, N9⟩
      rw [if_neg hy]
      repeat' split
      all_goals first | (subst_vars; first | exact (i1).symm | exact (j2).symm | exact (j3).symm | exact j4.symm) | rfl
    · have F := know4 F i1 j2 j3 j4
      ((repeat' ( (fail_if_success (with_reducible show wpAny _ _ (truthy (Value.str _ _)) _ _ _)); (fail_if_success (with_reducible show wpAny _ _ (call (Value.builtin "len") _) _ _ _)); (fail_if_success (with_reducible show wpAny _ _ (call (Value.type "list") _) _ _ _)); (fail_if_success (with_reducible show wpAny _ _ (getItem (Value.ref _) (Value.int _ _)) _ _ _)); (fail_if_success (with_reducible show wpAny _ _ (setItem (Value.ref _) (Value.int _ _) _) _ _ _)); (fail_if_success (with_reducible show wpAny _ _ (execs (Stmt.Assign _ (Expr.Subscript _ (Expr.Slice none (some (Expr.BoolOp _ _ _)) none _) _) _ :: _) _) _ _ _)); (fail_if_success (with_reducible show wpAny _ _ (subscriptTail _ (Expr.Slice none (some (Expr.BoolOp _ _ _)) none _) _ _) _ _ _)); (fail_if_success (with_reducible show wpAny _ _ (subscriptTail _ _ (Value.str _ _) (Value.int _ _)) _ _ _)); ((( ((( (fail_if_success (with_reducible show wpAny _ _ (exec (Stmt.For _ _ _ _ _) _) _ _ _)); (fail_if_success (with_reducible show wpAny _ _ (exec (Stmt.While _ _ _ _) _) _ _ _)); (fail_if_success (with_reducible show wpAny _ _ (pyIter (Value.ref _)) _ _ _)); (fail_if_success (with_reducible show wpAny _ _ (call (Value.ref _) _ _) _ _ _)); (fail_if_success (with_reducible show wpAny _ _ (call (Value.builtin "next") _ _) _ _ _)); (fail_if_success (with_reducible show wpAny _ _ (eval (Expr.ListComp _ _ _ _) _) _ _ _)); (fail_if_success (with_reducible show LCg.CompEnd _ _ _ _ _ _ _ _ _ _ _ _ _ _)); (fail_if_success (with_reducible show LoopStep3 _ _ _ _ _ _ _ _ _ _)); (fail_if_success (with_reducible show LoopStepV _ _ _ _ _ _ _ _ _ _)); skip))); (fail_if_success (with_reducible show wpAny _ _ (exec (Stmt.Assign _ (Expr.ListComp _ _ _ _) _) _) _ _ _)); (((first | ((with_reducible show wpAny _ _ (storeName _ _ _) _ _ _); dsimp only; walk1) | ((first | (k_unfold; (try dsimp only)) | (k_end; wrow_close) | walk1 | (dsimp only; walk1) | (leave1; walk_say "STEP leave1"; try dsimp only) | fail "no step")))))))))))
      · (((with_reducible rename Fr _ _ _ _ => F'); (with_reducible rename News _ _ _ _ => N'); (refine slice_strN_ns (hsz := by rw [mkS_len]; exact le_line (by assumption)) (s := ⟨_, _, _, _, _⟩) F' N' fun _ _ _ _ _ => ?_); clear F' N'; rw [sl_to (Nat.pos_of_ne_zero (by assumption)) (Nat.le_of_succ_le (by assumption))]; try dsimp only))
        rw [show (b ++ po).take ((b ++ po).length - po.length) = b by rw [List.length_append, Nat.add_sub_cancel, List.take_left]]
        ((repeat' ( (fail_if_success (with_reducible show wpAny _ _ (truthy (Value.str _ _)) _ _ _)); (fail_if_success (with_reducible show wpAny _ _ (call (Value.builtin "len") _) _ _ _)); (fail_if_success (with_reducible show wpAny _ _ (call (Value.type "list") _) _ _ _)); (fail_if_success (with_reducible show wpAny _ _ (getItem (Value.ref _) (Value.int _ _)) _ _ _)); (fail_if_success (with_reducible show wpAny _ _ (setItem (Value.ref _) (Value.int _ _) _) _ _ _)); (fail_if_success (with_reducible show wpAny _ _ (execs (Stmt.Assign _ (Expr.Subscript _ (Expr.Slice none (some (Expr.BoolOp _ _ _)) none _) _) _ :: _) _) _ _ _)); (fail_if_success (with_reducible show wpAny _ _ (subscriptTail _ (Expr.Slice none (some (Expr.BoolOp _ _ _)) none _) _ _) _ _ _)); (fail_if_success (with_reducible show wpAny _ _ (subscriptTail _ _ (Value.str _ _) (Value.int _ _)) _ _ _)); ((( ((( (fail_if_success (with_reducible show wpAny _ _ (exec (Stmt.For _ _ _ _ _) _) _ _ _)); (fail_if_success (with_reducible show wpAny _ _ (exec (Stmt.While _ _ _ _) _) _ _ _)); (fail_if_success (with_reducible show wpAny _ _ (pyIter (Value.ref _)) _ _ _)); (fail_if_success (with_reducible show wpAny _ _ (call (Value.ref _) _ _) _ _ _)); (fail_if_success (with_reducible show wpAny _ _ (call (Value.builtin "next") _ _) _ _ _)); (fail_if_success (with_reducible show wpAny _ _ (eval (Expr.ListComp _ _ _ _) _) _ _ _)); (fail_if_success (with_reducible show LCg.CompEnd _ _ _ _ _ _ _ _ _ _ _ _ _ _)); (fail_if_success (with_reducible show LoopStep3 _ _ _ _ _ _ _ _ _ _)); (fail_if_success (with_reducible show LoopStepV _ _ _ _ _ _ _ _ _ _)); skip))); (fail_if_success (with_reducible show wpAny _ _ (exec (Stmt.Assign _ (Expr.ListComp _ _ _ _) _) _) _ _ _)); (((first | ((with_reducible show wpAny _ _ (storeName _ _ _) _ _ _); dsimp only; walk1) | ((first | (k_unfold; (try dsimp only)) | (k_end; wrow_close) | walk1 | (dsimp only; walk1) | (leave1; walk_say "STEP leave1"; try dsimp only) | fail "no step")))))))))))
        rename Fr _ _ _ _ => F9
        rename News _ _ _ _ => N9
        refine ⟨rfl, _, _, rfl, ⟨_, _, F9, rfl, fun y hy => ?_⟩, N9⟩
        rw [if_neg hy]
        repeat' split
        all_goals first | (subst_vars; first | exact (i1).symm | exact (j2).symm | exact (j3).symm | exact (j4).symm) | rfl
      · rename -(po.length : Int) = 0 => e
        exact absurd e (neg_ne hk0)
  intro f s' hj
  refine bb fun G hG => ?_
  obtain ⟨rfl, h₄, tk₄, rfl, ⟨m₄, t7, F, i2, hm₄⟩, N⟩ := hj
  refine hG ?_
  clear hG G
  replace i1 := (hm₄ (Str.ofString "a") (by decide)).trans i1
  replace j3 := (hm₄ (Str.ofString "max_cost") (by decide)).trans j3
  clear j1 j2 j4 hm₃ hm₄ h0 h1 hkA hkB
  replace hz := left_le hz
  replace hz2 := left_le hz2
  have F := know3 (y1 := Str.ofString "a") (y2 := Str.ofString "b") (y3 := Str.ofString "max_cost") F (by exact i1) (by exact i2) (by exact j3)
  dsimp only
  ((repeat' ( (fail_if_success (with_reducible show wpAny _ _ (truthy (Value.str _ _)) _ _ _)); (fail_if_success (with_reducible show wpAny _ _ (call (Value.builtin "len") _) _ _ _)); (fail_if_success (with_reducible show wpAny _ _ (call (Value.type "list") _) _ _ _)); (fail_if_success (with_reducible show wpAny _ _ (getItem (Value.ref _) (Value.int _ _)) _ _ _)); (fail_if_success (with_reducible show wpAny _ _ (setItem (Value.ref _) (Value.int _ _) _) _ _ _)); (fail_if_success (with_reducible show wpAny _ _ (execs (Stmt.Assign _ (Expr.Subscript _ (Expr.Slice none (some (Expr.BoolOp _ _ _)) none _) _) _ :: _) _) _ _ _)); (fail_if_success (with_reducible show wpAny _ _ (subscriptTail _ (Expr.Slice none (some (Expr.BoolOp _ _ _)) none _) _ _) _ _ _)); (fail_if_success (with_reducible show wpAny _ _ (subscriptTail _ _ (Value.str _ _) (Value.int _ _)) _ _ _)); ((( ((( (fail_if_success (with_reducible show wpAny _ _ (exec (Stmt.For _ _ _ _ _) _) _ _ _)); (fail_if_success (with_reducible show wpAny _ _ (exec (Stmt.While _ _ _ _) _) _ _ _)); (fail_if_success (with_reducible show wpAny _ _ (pyIter (Value.ref _)) _ _ _)); (fail_if_success (with_reducible show wpAny _ _ (call (Value.ref _) _ _) _ _ _)); (fail_if_success (with_reducible show wpAny _ _ (call (Value.builtin "next") _ _) _ _ _)); (fail_if_success (with_reducible show wpAny _ _ (eval (Expr.ListComp _ _ _ _) _) _ _ _)); (fail_if_success (with_reducible show LCg.CompEnd _ _ _ _ _ _ _ _ _ _ _ _ _ _)); (fail_if_success (with_reducible show LoopStep3 _ _ _ _ _ _ _ _ _ _)); (fail_if_success (with_reducible show LoopStepV _ _ _ _ _ _ _ _ _ _)); skip))); (fail_if_success (with_reducible show wpAny _ _ (exec (Stmt.Assign _ (Expr.ListComp _ _ _ _) _) _) _ _ _)); (((first | ((with_reducible show wpAny _ _ (storeName _ _ _) _ _ _); dsimp only; walk1) | ((first | (k_unfold; (try dsimp only)) | (k_end; wrow_close) | walk1 | (dsimp only; walk1) | (leave1; walk_say "STEP leave1"; try dsimp only) | fail "no step")))))))))))
  ((first | refine truthy_call (le_th (by assumption)) (ne_len (by assumption)) fun _ => ?_ | refine truthy_call (take_le (le_th (by assumption))) (take_ne (by assumption)) fun _ => ?_); dsimp only)
  ((repeat' ( (fail_if_success (with_reducible show wpAny _ _ (truthy (Value.str _ _)) _ _ _)); (fail_if_success (with_reducible show wpAny _ _ (call (Value.builtin "len") _) _ _ _)); (fail_if_success (with_reducible show wpAny _ _ (call (Value.type "list") _) _ _ _)); (fail_if_success (with_reducible show wpAny _ _ (getItem (Value.ref _) (Value.int _ _)) _ _ _)); (fail_if_success (with_reducible show wpAny _ _ (setItem (Value.ref _) (Value.int _ _) _) _ _ _)); (fail_if_success (with_reducible show wpAny _ _ (execs (Stmt.Assign _ (Expr.Subscript _ (Expr.Slice none (some (Expr.BoolOp _ _ _)) none _) _) _ :: _) _) _ _ _)); (fail_if_success (with_reducible show wpAny _ _ (subscriptTail _ (Expr.Slice none (some (Expr.BoolOp _ _ _)) none _) _ _) _ _ _)); (fail_if_success (with_reducible show wpAny _ _ (subscriptTail _ _ (Value.str _ _) (Value.int _ _)) _ _ _)); ((( ((( (fail_if_success (with_reducible show wpAny _ _ (exec (Stmt.For _ _ _ _ _) _) _ _ _)); (fail_if_success (with_reducible show wpAny _ _ (exec (Stmt.While _ _ _ _) _) _ _ _)); (fail_if_success (with_reducible show wpAny _ _ (pyIter (Value.ref _)) _ _ _)); (fail_if_success (with_reducible show wpAny _ _ (call (Value.ref _) _ _) _ _ _)); (fail_if_success (with_reducible show wpAny _ _ (call (Value.builtin "next") _ _) _ _ _)); (fail_if_success (with_reducible show wpAny _ _ (eval (Expr.ListComp _ _ _ _) _) _ _ _)); (fail_if_success (with_reducible show LCg.CompEnd _ _ _ _ _ _ _ _ _ _ _ _ _ _)); (fail_if_success (with_reducible show LoopStep3 _ _ _ _ _ _ _ _ _ _)); (fail_if_success (with_reducible show LoopStepV _ _ _ _ _ _ _ _ _ _)); skip))); (fail_if_success (with_reducible show wpAny _ _ (exec (Stmt.Assign _ (Expr.ListComp _ _ _ _) _) _) _ _ _)); (((first | ((with_reducible show wpAny _ _ (storeName _ _ _) _ _ _); dsimp only; walk1) | ((first | (k_unfold; (try dsimp only)) | (k_end; wrow_close) | walk1 | (dsimp only; walk1) | (leave1; walk_say "STEP leave1"; try dsimp only) | fail "no step")))))))))))
  ((first | refine truthy_call (le_th (by assumption)) (ne_len (by assumption)) fun _ => ?_ | refine truthy_call (take_le (le_th (by assumption))) (take_ne (by assumption)) fun _ => ?_); dsimp only)
  ((repeat' ( (fail_if_success (with_reducible show wpAny _ _ (truthy (Value.str _ _)) _ _ _)); (fail_if_success (with_reducible show wpAny _ _ (call (Value.builtin "len") _) _ _ _)); (fail_if_success (with_reducible show wpAny _ _ (call (Value.type "list") _) _ _ _)); (fail_if_success (with_reducible show wpAny _ _ (getItem (Value.ref _) (Value.int _ _)) _ _ _)); (fail_if_success (with_reducible show wpAny _ _ (setItem (Value.ref _) (Value.int _ _) _) _ _ _)); (fail_if_success (with_reducible show wpAny _ _ (execs (Stmt.Assign _ (Expr.Subscript _ (Expr.Slice none (some (Expr.BoolOp _ _ _)) none _) _) _ :: _) _) _ _ _)); (fail_if_success (with_reducible show wpAny _ _ (subscriptTail _ (Expr.Slice none (some (Expr.BoolOp _ _ _)) none _) _ _) _ _ _)); (fail_if_success (with_reducible show wpAny _ _ (subscriptTail _ _ (Value.str _ _) (Value.int _ _)) _ _ _)); ((( ((( (fail_if_success (with_reducible show wpAny _ _ (exec (Stmt.For _ _ _ _ _) _) _ _ _)); (fail_if_success (with_reducible show wpAny _ _ (exec (Stmt.While _ _ _ _) _) _ _ _)); (fail_if_success (with_reducible show wpAny _ _ (pyIter (Value.ref _)) _ _ _)); (fail_if_success (with_reducible show wpAny _ _ (call (Value.ref _) _ _) _ _ _)); (fail_if_success (with_reducible show wpAny _ _ (call (Value.builtin "next") _ _) _ _ _)); (fail_if_success (with_reducible show wpAny _ _ (eval (Expr.ListComp _ _ _ _) _) _ _ _)); (fail_if_success (with_reducible show LCg.CompEnd _ _ _ _ _ _ _ _ _ _ _ _ _ _)); (fail_if_success (with_reducible show LoopStep3 _ _ _ _ _ _ _ _ _ _)); (fail_if_success (with_reducible show LoopStepV _ _ _ _ _ _ _ _ _ _)); skip))); (fail_if_success (with_reducible show wpAny _ _ (exec (Stmt.Assign _ (Expr.ListComp _ _ _ _) _) _) _ _ _)); (((first | ((with_reducible show wpAny _ _ (storeName _ _ _) _ _ _); dsimp only; walk1) | ((first | (k_unfold; (try dsimp only)) | (k_end; wrow_close) | walk1 | (dsimp only; walk1) | (leave1; walk_say "STEP leave1"; try dsimp only) | fail "no step")))))))))))
  ((refine len_call (le_th (by assumption)) fun _ _ => ?_; dsimp only))
  ((repeat' ( (fail_if_success (with_reducible show wpAny _ _ (truthy (Value.str _ _)) _ _ _)); (fail_if_success (with_reducible show wpAny _ _ (call (Value.builtin "len") _) _ _ _)); (fail_if_success (with_reducible show wpAny _ _ (call (Value.type "list") _) _ _ _)); (fail_if_success (with_reducible show wpAny _ _ (getItem (Value.ref _) (Value.int _ _)) _ _ _)); (fail_if_success (with_reducible show wpAny _ _ (setItem (Value.ref _) (Value.int _ _) _) _ _ _)); (fail_if_success (with_reducible show wpAny _ _ (execs (Stmt.Assign _ (Expr.Subscript _ (Expr.Slice none (some (Expr.BoolOp _ _ _)) none _) _) _ :: _) _) _ _ _)); (fail_if_success (with_reducible show wpAny _ _ (subscriptTail _ (Expr.Slice none (some (Expr.BoolOp _ _ _)) none _) _ _) _ _ _)); (fail_if_success (with_reducible show wpAny _ _ (subscriptTail _ _ (Value.str _ _) (Value.int _ _)) _ _ _)); ((( ((( (fail_if_success (with_reducible show wpAny _ _ (exec (Stmt.For _ _ _ _ _) _) _ _ _)); (fail_if_success (with_reducible show wpAny _ _ (exec (Stmt.While _ _ _ _) _) _ _ _)); (fail_if_success (with_reducible show wpAny _ _ (pyIter (Value.ref _)) _ _ _)); (fail_if_success (with_reducible show wpAny _ _ (call (Value.ref _) _ _) _ _ _)); (fail_if_success (with_reducible show wpAny _ _ (call (Value.builtin "next") _ _) _ _ _)); (fail_if_success (with_reducible show wpAny _ _ (eval (Expr.ListComp _ _ _ _) _) _ _ _)); (fail_if_success (with_reducible show LCg.CompEnd _ _ _ _ _ _ _ _ _ _ _ _ _ _)); (fail_if_success (with_reducible show LoopStep3 _ _ _ _ _ _ _ _ _ _)); (fail_if_success (with_reducible show LoopStepV _ _ _ _ _ _ _ _ _ _)); skip))); (fail_if_success (with_reducible show wpAny _ _ (exec (Stmt.Assign _ (Expr.ListComp _ _ _ _) _) _) _ _ _)); (((first | ((with_reducible show wpAny _ _ (storeName _ _ _) _ _ _); dsimp only; walk1) | ((first | (k_unfold; (try dsimp only)) | (k_end; wrow_close) | walk1 | (dsimp only; walk1) | (leave1; walk_say "STEP leave1"; try dsimp only) | fail "no step")))))))))))
  ((refine len_call (le_th (by assumption)) fun _ _ => ?_; dsimp only))
  ((repeat' ( (fail_if_success (with_reducible show wpAny _ _ (truthy (Value.str _ _)) _ _ _)); (fail_if_success (with_reducible show wpAny _ _ (call (Value.builtin "len") _) _ _ _)); (fail_if_success (with_reducible show wpAny _ _ (call (Value.type "list") _) _ _ _)); (fail_if_success (with_reducible show wpAny _ _ (getItem (Value.ref _) (Value.int _ _)) _ _ _)); (fail_if_success (with_reducible show wpAny _ _ (setItem (Value.ref _) (Value.int _ _) _) _ _ _)); (fail_if_success (with_reducible show wpAny _ _ (execs (Stmt.Assign _ (Expr.Subscript _ (Expr.Slice none (some (Expr.BoolOp _ _ _)) none _) _) _ :: _) _) _ _ _)); (fail_if_success (with_reducible show wpAny _ _ (subscriptTail _ (Expr.Slice none (some (Expr.BoolOp _ _ _)) none _) _ _) _ _ _)); (fail_if_success (with_reducible show wpAny _ _ (subscriptTail _ _ (Value.str _ _) (Value.int _ _)) _ _ _)); ((( ((( (fail_if_success (with_reducible show wpAny _ _ (exec (Stmt.For _ _ _ _ _) _) _ _ _)); (fail_if_success (with_reducible show wpAny _ _ (exec (Stmt.While _ _ _ _) _) _ _ _)); (fail_if_success (with_reducible show wpAny _ _ (pyIter (Value.ref _)) _ _ _)); (fail_if_success (with_reducible show wpAny _ _ (call (Value.ref _) _ _) _ _ _)); (fail_if_success (with_reducible show wpAny _ _ (call (Value.builtin "next") _ _) _ _ _)); (fail_if_success (with_reducible show wpAny _ _ (eval (Expr.ListComp _ _ _ _) _) _ _ _)); (fail_if_success (with_reducible show LCg.CompEnd _ _ _ _ _ _ _ _ _ _ _ _ _ _)); (fail_if_success (with_reducible show LoopStep3 _ _ _ _ _ _ _ _ _ _)); (fail_if_success (with_reducible show LoopStepV _ _ _ _ _ _ _ _ _ _)); skip))); (fail_if_success (with_reducible show wpAny _ _ (exec (Stmt.Assign _ (Expr.ListComp _ _ _ _) _) _) _ _ _)); (((first | ((with_reducible show wpAny _ _ (storeName _ _ _) _ _ _); dsimp only; walk1) | ((first | (k_unfold; (try dsimp only)) | (k_end; wrow_close) | walk1 | (dsimp only; walk1) | (leave1; walk_say "STEP leave1"; try dsimp only) | fail "no step")))))))))))
  ((refine len_call (le_th (by assumption)) fun _ _ => ?_; dsimp only))
  ((repeat' ( (fail_if_success (with_reducible show wpAny _ _ (truthy (Value.str _ _)) _ _ _)); (fail_if_success (with_reducible show wpAny _ _ (call (Value.builtin "len") _) _ _ _)); (fail_if_success (with_reducible show wpAny _ _ (call (Value.type "list") _) _ _ _)); (fail_if_success (with_reducible show wpAny _ _ (getItem (Value.ref _) (Value.int _ _)) _ _ _)); (fail_if_success (with_reducible show wpAny _ _ (setItem (Value.ref _) (Value.int _ _) _) _ _ _)); (fail_if_success (with_reducible show wpAny _ _ (execs (Stmt.Assign _ (Expr.Subscript _ (Expr.Slice none (some (Expr.BoolOp _ _ _)) none _) _) _ :: _) _) _ _ _)); (fail_if_success (with_reducible show wpAny _ _ (subscriptTail _ (Expr.Slice none (some (Expr.BoolOp _ _ _)) none _) _ _) _ _ _)); (fail_if_success (with_reducible show wpAny _ _ (subscriptTail _ _ (Value.str _ _) (Value.int _ _)) _ _ _)); ((( ((( (fail_if_success (with_reducible show wpAny _ _ (exec (Stmt.For _ _ _ _ _) _) _ _ _)); (fail_if_success (with_reducible show wpAny _ _ (exec (Stmt.While _ _ _ _) _) _ _ _)); (fail_if_success (with_reducible show wpAny _ _ (pyIter (Value.ref _)) _ _ _)); (fail_if_success (with_reducible show wpAny _ _ (call (Value.ref _) _ _) _ _ _)); (fail_if_success (with_reducible show wpAny _ _ (call (Value.builtin "next") _ _) _ _ _)); (fail_if_success (with_reducible show wpAny _ _ (eval (Expr.ListComp _ _ _ _) _) _ _ _)); (fail_if_success (with_reducible show LCg.CompEnd _ _ _ _ _ _ _ _ _ _ _ _ _ _)); (fail_if_success (with_reducible show LoopStep3 _ _ _ _ _ _ _ _ _ _)); (fail_if_success (with_reducible show LoopStepV _ _ _ _ _ _ _ _ _ _)); skip))); (fail_if_success (with_reducible show wpAny _ _ (exec (Stmt.Assign _ (Expr.ListComp _ _ _ _) _) _) _ _ _)); (((first | ((with_reducible show wpAny _ _ (storeName _ _ _) _ _ _); dsimp only; walk1) | ((first | (k_unfold; (try dsimp only)) | (k_end; wrow_close) | walk1 | (dsimp only; walk1) | (leave1; walk_say "STEP leave1"; try dsimp only) | fail "no step")))))))))))
  all_goals try (exfalso; omega)
  ((refine len_call (le_th (by assumption)) fun _ _ => ?_; dsimp only))
  ((repeat' ( (fail_if_success (with_reducible show wpAny _ _ (truthy (Value.str _ _)) _ _ _)); (fail_if_success (with_reducible show wpAny _ _ (call (Value.builtin "len") _) _ _ _)); (fail_if_success (with_reducible show wpAny _ _ (call (Value.type "list") _) _ _ _)); (fail_if_success (with_reducible show wpAny _ _ (getItem (Value.ref _) (Value.int _ _)) _ _ _)); (fail_if_success (with_reducible show wpAny _ _ (setItem (Value.ref _) (Value.int _ _) _) _ _ _)); (fail_if_success (with_reducible show wpAny _ _ (execs (Stmt.Assign _ (Expr.Subscript _ (Expr.Slice none (some (Expr.BoolOp _ _ _)) none _) _) _ :: _) _) _ _ _)); (fail_if_success (with_reducible show wpAny _ _ (subscriptTail _ (Expr.Slice none (some (Expr.BoolOp _ _ _)) none _) _ _) _ _ _)); (fail_if_success (with_reducible show wpAny _ _ (subscriptTail _ _ (Value.str _ _) (Value.int _ _)) _ _ _)); ((( ((( (fail_if_success (with_reducible show wpAny _ _ (exec (Stmt.For _ _ _ _ _) _) _ _ _)); (fail_if_success (with_reducible show wpAny _ _ (exec (Stmt.While _ _ _ _) _) _ _ _)); (fail_if_success (with_reducible show wpAny _ _ (pyIter (Value.ref _)) _ _ _)); (fail_if_success (with_reducible show wpAny _ _ (call (Value.ref _) _ _) _ _ _)); (fail_if_success (with_reducible show wpAny _ _ (call (Value.builtin "next") _ _) _ _ _)); (fail_if_success (with_reducible show wpAny _ _ (eval (Expr.ListComp _ _ _ _) _) _ _ _)); (fail_if_success (with_reducible show LCg.CompEnd _ _ _ _ _ _ _ _ _ _ _ _ _ _)); (fail_if_success (with_reducible show LoopStep3 _ _ _ _ _ _ _ _ _ _)); (fail_if_success (with_reducible show LoopStepV _ _ _ _ _ _ _ _ _ _)); skip))); (fail_if_success (with_reducible show wpAny _ _ (exec (Stmt.Assign _ (Expr.ListComp _ _ _ _) _) _) _ _ _)); (((first | ((with_reducible show wpAny _ _ (storeName _ _ _) _ _ _); dsimp only; walk1) | ((first | (k_unfold; (try dsimp only)) | (k_end; wrow_close) | walk1 | (dsimp only; walk1) | (leave1; walk_say "STEP leave1"; try dsimp only) | fail "no step")))))))))))
  ((refine len_call (le_th (by assumption)) fun _ _ => ?_; dsimp only))
  ((repeat' ( (fail_if_success (with_reducible show wpAny _ _ (truthy (Value.str _ _)) _ _ _)); (fail_if_success (with_reducible show wpAny _ _ (call (Value.builtin "len") _) _ _ _)); (fail_if_success (with_reducible show wpAny _ _ (call (Value.type "list") _) _ _ _)); (fail_if_success (with_reducible show wpAny _ _ (getItem (Value.ref _) (Value.int _ _)) _ _ _)); (fail_if_success (with_reducible show wpAny _ _ (setItem (Value.ref _) (Value.int _ _) _) _ _ _)); (fail_if_success (with_reducible show wpAny _ _ (execs (Stmt.Assign _ (Expr.Subscript _ (Expr.Slice none (some (Expr.BoolOp _ _ _)) none _) _) _ :: _) _) _ _ _)); (fail_if_success (with_reducible show wpAny _ _ (subscriptTail _ (Expr.Slice none (some (Expr.BoolOp _ _ _)) none _) _ _) _ _ _)); (fail_if_success (with_reducible show wpAny _ _ (subscriptTail _ _ (Value.str _ _) (Value.int _ _)) _ _ _)); ((( ((( (fail_if_success (with_reducible show wpAny _ _ (exec (Stmt.For _ _ _ _ _) _) _ _ _)); (fail_if_success (with_reducible show wpAny _ _ (exec (Stmt.While _ _ _ _) _) _ _ _)); (fail_if_success (with_reducible show wpAny _ _ (pyIter (Value.ref _)) _ _ _)); (fail_if_success (with_reducible show wpAny _ _ (call (Value.ref _) _ _) _ _ _)); (fail_if_success (with_reducible show wpAny _ _ (call (Value.builtin "next") _ _) _ _ _)); (fail_if_success (with_reducible show wpAny _ _ (eval (Expr.ListComp _ _ _ _) _) _ _ _)); (fail_if_success (with_reducible show LCg.CompEnd _ _ _ _ _ _ _ _ _ _ _ _ _ _)); (fail_if_success (with_reducible show LoopStep3 _ _ _ _ _ _ _ _ _ _)); (fail_if_success (with_reducible show LoopStepV _ _ _ _ _ _ _ _ _ _)); skip))); (fail_if_success (with_reducible show wpAny _ _ (exec (Stmt.Assign _ (Expr.ListComp _ _ _ _) _) _) _ _ _)); (((first | ((with_reducible show wpAny _ _ (storeName _ _ _) _ _ _); dsimp only; walk1) | ((first | (k_unfold; (try dsimp only)) | (k_end; wrow_close) | walk1 | (dsimp only; walk1) | (leave1; walk_say "STEP leave1"; try dsimp only) | fail "no step")))))))))))
  all_goals try (exfalso; omega)
  ((refine len_call (le_th (by assumption)) fun _ _ => ?_; dsimp only))
  ((repeat' ( (fail_if_success (with_reducible show wpAny _ _ (truthy (Value.str _ _)) _ _ _)); (fail_if_success (with_reducible show wpAny _ _ (call (Value.builtin "len") _) _ _ _)); (fail_if_success (with_reducible show wpAny _ _ (call (Value.type "list") _) _ _ _)); (fail_if_success (with_reducible show wpAny _ _ (getItem (Value.ref _) (Value.int _ _)) _ _ _)); (fail_if_success (with_reducible show wpAny _ _ (setItem (Value.ref _) (Value.int _ _) _) _ _ _)); (fail_if_success (with_reducible show wpAny _ _ (execs (Stmt.Assign _ (Expr.Subscript _ (Expr.Slice none (some (Expr.BoolOp _ _ _)) none _) _) _ :: _) _) _ _ _)); (fail_if_success (with_reducible show wpAny _ _ (subscriptTail _ (Expr.Slice none (some (Expr.BoolOp _ _ _)) none _) _ _) _ _ _)); (fail_if_success (with_reducible show wpAny _ _ (subscriptTail _ _ (Value.str _ _) (Value.int _ _)) _ _ _)); ((( ((( (fail_if_success (with_reducible show wpAny _ _ (exec (Stmt.For _ _ _ _ _) _) _ _ _)); (fail_if_success (with_reducible show wpAny _ _ (exec (Stmt.While _ _ _ _) _) _ _ _)); (fail_if_success (with_reducible show wpAny _ _ (pyIter (Value.ref _)) _ _ _)); (fail_if_success (with_reducible show wpAny _ _ (call (Value.ref _) _ _) _ _ _)); (fail_if_success (with_reducible show wpAny _ _ (call (Value.builtin "next") _ _) _ _ _)); (fail_if_success (with_reducible show wpAny _ _ (eval (Expr.ListComp _ _ _ _) _) _ _ _)); (fail_if_success (with_reducible show LCg.CompEnd _ _ _ _ _ _ _ _ _ _ _ _ _ _)); (fail_if_success (with_reducible show LoopStep3 _ _ _ _ _ _ _ _ _ _)); (fail_if_success (with_reducible show LoopStepV _ _ _ _ _ _ _ _ _ _)); skip))); (fail_if_success (with_reducible show wpAny _ _ (exec (Stmt.Assign _ (Expr.ListComp _ _ _ _) _) _) _ _ _)); (((first | ((with_reducible show wpAny _ _ (storeName _ _ _) _ _ _); dsimp only; walk1) | ((first | (k_unfold; (try dsimp only)) | (k_end; wrow_close) | walk1 | (dsimp only; walk1) | (leave1; walk_say "STEP leave1"; try dsimp only) | fail "no step")))))))))))
  ((refine len_call (le_th (by assumption)) fun _ _ => ?_; dsimp only))
  ((repeat' ( (fail_if_success (with_reducible show wpAny _ _ (truthy (Value.str _ _)) _ _ _)); (fail_if_success (with_reducible show wpAny _ _ (call (Value.builtin "len") _) _ _ _)); (fail_if_success (with_reducible show wpAny _ _ (call (Value.type "list") _) _ _ _)); (fail_if_success (with_reducible show wpAny _ _ (getItem (Value.ref _) (Value.int _ _)) _ _ _)); (fail_if_success (with_reducible show wpAny _ _ (setItem (Value.ref _) (Value.int _ _) _) _ _ _)); (fail_if_success (with_reducible show wpAny _ _ (execs (Stmt.Assign _ (Expr.Subscript _ (Expr.Slice none (some (Expr.BoolOp _ _ _)) none _) _) _ :: _) _) _ _ _)); (fail_if_success (with_reducible show wpAny _ _ (subscriptTail _ (Expr.Slice none (some (Expr.BoolOp _ _ _)) none _) _ _) _ _ _)); (fail_if_success (with_reducible show wpAny _ _ (subscriptTail _ _ (Value.str _ _) (Value.int _ _)) _ _ _)); ((( ((( (fail_if_success (with_reducible show wpAny _ _ (exec (Stmt.For _ _ _ _ _) _) _ _ _)); (fail_if_success (with_reducible show wpAny _ _ (exec (Stmt.While _ _ _ _) _) _ _ _)); (fail_if_success (with_reducible show wpAny _ _ (pyIter (Value.ref _)) _ _ _)); (fail_if_success (with_reducible show wpAny _ _ (call (Value.ref _) _ _) _ _ _)); (fail_if_success (with_reducible show wpAny _ _ (call (Value.builtin "next") _ _) _ _ _)); (fail_if_success (with_reducible show wpAny _ _ (eval (Expr.ListComp _ _ _ _) _) _ _ _)); (fail_if_success (with_reducible show LCg.CompEnd _ _ _ _ _ _ _ _ _ _ _ _ _ _)); (fail_if_success (with_reducible show LoopStep3 _ _ _ _ _ _ _ _ _ _)); (fail_if_success (with_reducible show LoopStepV _ _ _ _ _ _ _ _ _ _)); skip))); (fail_if_success (with_reducible show wpAny _ _ (exec (Stmt.Assign _ (Expr.ListComp _ _ _ _) _) _) _ _ _)); (((first | ((with_reducible show wpAny _ _ (storeName _ _ _) _ _ _); dsimp only; walk1) | ((first | (k_unfold; (try dsimp only)) | (k_end; wrow_close) | walk1 | (dsimp only; walk1) | (leave1; walk_say "STEP leave1"; try dsimp only) | fail "no step")))))))))))
  rename Fr _ _ _ _ => F5
  rename News _ _ _ _ => N5
  rename IsRange _ _ _ _ _ _ _ _ => R5
  refine list_range2 rfl F5 N5 R5 (le_th hz) fun D h₅ tk₅ ys c F6 N6 hys => ?_
  clear F5 N5 R5 F N i1 i2 j3
  dsimp only
  ((repeat' ( (fail_if_success (with_reducible show wpAny _ _ (truthy (Value.str _ _)) _ _ _)); (fail_if_success (with_reducible show wpAny _ _ (call (Value.builtin "len") _) _ _ _)); (fail_if_success (with_reducible show wpAny _ _ (call (Value.type "list") _) _ _ _)); (fail_if_success (with_reducible show wpAny _ _ (getItem (Value.ref _) (Value.int _ _)) _ _ _)); (fail_if_success (with_reducible show wpAny _ _ (setItem (Value.ref _) (Value.int _ _) _) _ _ _)); (fail_if_success (with_reducible show wpAny _ _ (execs (Stmt.Assign _ (Expr.Subscript _ (Expr.Slice none (some (Expr.BoolOp _ _ _)) none _) _) _ :: _) _) _ _ _)); (fail_if_success (with_reducible show wpAny _ _ (subscriptTail _ (Expr.Slice none (some (Expr.BoolOp _ _ _)) none _) _ _) _ _ _)); (fail_if_success (with_reducible show wpAny _ _ (subscriptTail _ _ (Value.str _ _) (Value.int _ _)) _ _ _)); ((( ((( (fail_if_success (with_reducible show wpAny _ _ (exec (Stmt.For _ _ _ _ _) _) _ _ _)); (fail_if_success (with_reducible show wpAny _ _ (exec (Stmt.While _ _ _ _) _) _ _ _)); (fail_if_success (with_reducible show wpAny _ _ (pyIter (Value.ref _)) _ _ _)); (fail_if_success (with_reducible show wpAny _ _ (call (Value.ref _) _ _) _ _ _)); (fail_if_success (with_reducible show wpAny _ _ (call (Value.builtin "next") _ _) _ _ _)); (fail_if_success (with_reducible show wpAny _ _ (eval (Expr.ListComp _ _ _ _) _) _ _ _)); (fail_if_success (with_reducible show LCg.CompEnd _ _ _ _ _ _ _ _ _ _ _ _ _ _)); (fail_if_success (with_reducible show LoopStep3 _ _ _ _ _ _ _ _ _ _)); (fail_if_success (with_reducible show LoopStepV _ _ _ _ _ _ _ _ _ _)); skip))); (fail_if_success (with_reducible show wpAny _ _ (exec (Stmt.Assign _ (Expr.ListComp _ _ _ _) _) _) _ _ _)); (((first | ((with_reducible show wpAny _ _ (storeName _ _ _) _ _ _); dsimp only; walk1) | ((first | (k_unfold; (try dsimp only)) | (k_end; wrow_close) | walk1 | (dsimp only; walk1) | (leave1; walk_say "STEP leave1"; try dsimp only) | fail "no step")))))))))))
  rename Fr _ _ _ _ => F7
  rename News _ _ _ _ => N7
  refine For_invV s.heap (by rfl) (by rfl) ?_
  ((repeat' ( (fail_if_success (with_reducible show wpAny _ _ (truthy (Value.str _ _)) _ _ _)); (fail_if_success (with_reducible show wpAny _ _ (call (Value.builtin "len") _) _ _ _)); (fail_if_success (with_reducible show wpAny _ _ (call (Value.type "list") _) _ _ _)); (fail_if_success (with_reducible show wpAny _ _ (getItem (Value.ref _) (Value.int _ _)) _ _ _)); (fail_if_success (with_reducible show wpAny _ _ (setItem (Value.ref _) (Value.int _ _) _) _ _ _)); (fail_if_success (with_reducible show wpAny _ _ (execs (Stmt.Assign _ (Expr.Subscript _ (Expr.Slice none (some (Expr.BoolOp _ _ _)) none _) _) _ :: _) _) _ _ _)); (fail_if_success (with_reducible show wpAny _ _ (subscriptTail _ (Expr.Slice none (some (Expr.BoolOp _ _ _)) none _) _ _) _ _ _)); (fail_if_success (with_reducible show wpAny _ _ (subscriptTail _ _ (Value.str _ _) (Value.int _ _)) _ _ _)); ((( ((( (fail_if_success (with_reducible show wpAny _ _ (exec (Stmt.For _ _ _ _ _) _) _ _ _)); (fail_if_success (with_reducible show wpAny _ _ (exec (Stmt.While _ _ _ _) _) _ _ _)); (fail_if_success (with_reducible show wpAny _ _ (pyIter (Value.ref _)) _ _ _)); (fail_if_success (with_reducible show wpAny _ _ (call (Value.ref _) _ _) _ _ _)); (fail_if_success (with_reducible show wpAny _ _ (call (Value.builtin "next") _ _) _ _ _)); (fail_if_success (with_reducible show wpAny _ _ (eval (Expr.ListComp _ _ _ _) _) _ _ _)); (fail_if_success (with_reducible show LCg.CompEnd _ _ _ _ _ _ _ _ _ _ _ _ _ _)); (fail_if_success (with_reducible show LoopStep3 _ _ _ _ _ _ _ _ _ _)); (fail_if_success (with_reducible show LoopStepV _ _ _ _ _ _ _ _ _ _)); skip))); (fail_if_success (with_reducible show wpAny _ _ (exec (Stmt.Assign _ (Expr.ListComp _ _ _ _) _) _) _ _ _)); (((first | ((with_reducible show wpAny _ _ (storeName _ _ _) _ _ _); dsimp only; walk1) | ((first | (k_unfold; (try dsimp only)) | (k_end; wrow_close) | walk1 | (dsimp only; walk1) | (leave1; walk_say "STEP leave1"; try dsimp only) | fail "no step")))))))))))
  ((refine len_call (le_th (by assumption)) fun _ _ => ?_; dsimp only))
  ((repeat' ( (fail_if_success (with_reducible show wpAny _ _ (truthy (Value.str _ _)) _ _ _)); (fail_if_success (with_reducible show wpAny _ _ (call (Value.builtin "len") _) _ _ _)); (fail_if_success (with_reducible show wpAny _ _ (call (Value.type "list") _) _ _ _)); (fail_if_success (with_reducible show wpAny _ _ (getItem (Value.ref _) (Value.int _ _)) _ _ _)); (fail_if_success (with_reducible show wpAny _ _ (setItem (Value.ref _) (Value.int _ _) _) _ _ _)); (fail_if_success (with_reducible show wpAny _ _ (execs (Stmt.Assign _ (Expr.Subscript _ (Expr.Slice none (some (Expr.BoolOp _ _ _)) none _) _) _ :: _) _) _ _ _)); (fail_if_success (with_reducible show wpAny _ _ (subscriptTail _ (Expr.Slice none (some (Expr.BoolOp _ _ _)) none _) _ _) _ _ _)); (fail_if_success (with_reducible show wpAny _ _ (subscriptTail _ _ (Value.str _ _) (Value.int _ _)) _ _ _)); ((( ((( (fail_if_success (with_reducible show wpAny _ _ (exec (Stmt.For _ _ _ _ _) _) _ _ _)); (fail_if_success (with_reducible show wpAny _ _ (exec (Stmt.While _ _ _ _) _) _ _ _)); (fail_if_success (with_reducible show wpAny _ _ (pyIter (Value.ref _)) _ _ _)); (fail_if_success (with_reducible show wpAny _ _ (call (Value.ref _) _ _) _ _ _)); (fail_if_success (with_reducible show wpAny _ _ (call (Value.builtin "next") _ _) _ _ _)); (fail_if_success (with_reducible show wpAny _ _ (eval (Expr.ListComp _ _ _ _) _) _ _ _)); (fail_if_success (with_reducible show LCg.CompEnd _ _ _ _ _ _ _ _ _ _ _ _ _ _)); (fail_if_success (with_reducible show LoopStep3 _ _ _ _ _ _ _ _ _ _)); (fail_if_success (with_reducible show LoopStepV _ _ _ _ _ _ _ _ _ _)); skip))); (fail_if_success (with_reducible show wpAny _ _ (exec (Stmt.Assign _ (Expr.ListComp _ _ _ _) _) _) _ _ _)); (((first | ((with_reducible show wpAny _ _ (storeName _ _ _) _ _ _); dsimp only; walk1) | ((first | (k_unfold; (try dsimp only)) | (k_end; wrow_close) | walk1 | (dsimp only; walk1) | (leave1; walk_say "STEP leave1"; try dsimp only) | fail "no step")))))))))))
  rename Fr _ _ _ _ => F8
  rename News _ _ _ _ => N8
  rename IsRange _ _ _ _ _ _ _ _ => R8
  refine iter_rangeV (fun i m nx => ∃ vs rn row res, nx = [(D, listOf (List.toArray vs) rn)] ∧ IntsAre vs (row.map fun k : Nat => (k : Int)) ∧ row.length = a.length ∧ dpOut a mc (b.drop i) i row res = levD a b mc ∧ m (Str.ofString "a") = some (.str (mkS a) t6) ∧ m (Str.ofString "b") = some (.str (mkS b) t7) ∧ m (Str.ofString "max_cost") = some (.int mc t3) ∧ m (Str.ofString "row") = some (.ref D) ∧ ∃ t, m (Str.ofString "result") = some (.int (res : Nat) t)) rfl R8 (le_th hz2) F8 N8 ⟨_, _, _, 0, rfl, hys, by simp [row0], by rw [List.drop_zero]; rfl, rfl, rfl, rfl, rfl, _, rfl⟩ ?_ ?_
  · clear F8 N8 R8 hys
    try clear F6
    try clear N6
    try clear F7
    try clear N7
    intro i t m₁ news₁ h tk own I K R S hK hR hi hj hoff hown F N
    refine bb fun G hG => ?_
    obtain ⟨vs, rn, row, res, rfl, hvs, hrow, hdp, j1, j2, j3, j4, tr, j5⟩ := hj
    refine hG ?_
    clear hG G
    have F := know5 (y1 := Str.ofString "a") (y2 := Str.ofString "b") (y3 := Str.ofString "max_cost") (y4 := Str.ofString "row") (y5 := Str.ofString "result") F (by exact j1) (by exact j2) (by exact j3) (by exact j4) (by exact j5)
    ((repeat' ( (fail_if_success (with_reducible show wpAny _ _ (truthy (Value.str _ _)) _ _ _)); (fail_if_success (with_reducible show wpAny _ _ (call (Value.builtin "len") _) _ _ _)); (fail_if_success (with_reducible show wpAny _ _ (call (Value.type "list") _) _ _ _)); (fail_if_success (with_reducible show wpAny _ _ (getItem (Value.ref _) (Value.int _ _)) _ _ _)); (fail_if_success (with_reducible show wpAny _ _ (setItem (Value.ref _) (Value.int _ _) _) _ _ _)); (fail_if_success (with_reducible show wpAny _ _ (execs (Stmt.Assign _ (Expr.Subscript _ (Expr.Slice none (some (Expr.BoolOp _ _ _)) none _) _) _ :: _) _) _ _ _)); (fail_if_success (with_reducible show wpAny _ _ (subscriptTail _ (Expr.Slice none (some (Expr.BoolOp _ _ _)) none _) _ _) _ _ _)); (fail_if_success (with_reducible show wpAny _ _ (subscriptTail _ _ (Value.str _ _) (Value.int _ _)) _ _ _)); ((( ((( (fail_if_success (with_reducible show wpAny _ _ (exec (Stmt.For _ _ _ _ _) _) _ _ _)); (fail_if_success (with_reducible show wpAny _ _ (exec (Stmt.While _ _ _ _) _) _ _ _)); (fail_if_success (with_reducible show wpAny _ _ (pyIter (Value.ref _)) _ _ _)); (fail_if_success (with_reducible show wpAny _ _ (call (Value.ref _) _ _) _ _ _)); (fail_if_success (with_reducible show wpAny _ _ (call (Value.builtin "next") _ _) _ _ _)); (fail_if_success (with_reducible show wpAny _ _ (eval (Expr.ListComp _ _ _ _) _) _ _ _)); (fail_if_success (with_reducible show LCg.CompEnd _ _ _ _ _ _ _ _ _ _ _ _ _ _)); (fail_if_success (with_reducible show LoopStep3 _ _ _ _ _ _ _ _ _ _)); (fail_if_success (with_reducible show LoopStepV _ _ _ _ _ _ _ _ _ _)); skip))); (fail_if_success (with_reducible show wpAny _ _ (exec (Stmt.Assign _ (Expr.ListComp _ _ _ _) _) _) _ _ _)); (((first | ((with_reducible show wpAny _ _ (storeName _ _ _) _ _ _); dsimp only; walk1) | ((first | (k_unfold; (try dsimp only)) | (k_end; wrow_close) | walk1 | (dsimp only; walk1) | (leave1; walk_say "STEP leave1"; try dsimp only) | fail "no step")))))))))))
    refine item_call (le_th hz2) (pos_lo _ _) (pos_hi hi) fun _ _ => ?_
    rw [if_pos (Int.natCast_nonneg i), Int.toNat_natCast]
    dsimp only
    ((repeat' ( (fail_if_success (with_reducible show wpAny _ _ (truthy (Value.str _ _)) _ _ _)); (fail_if_success (with_reducible show wpAny _ _ (call (Value.builtin "len") _) _ _ _)); (fail_if_success (with_reducible show wpAny _ _ (call (Value.type "list") _) _ _ _)); (fail_if_success (with_reducible show wpAny _ _ (getItem (Value.ref _) (Value.int _ _)) _ _ _)); (fail_if_success (with_reducible show wpAny _ _ (setItem (Value.ref _) (Value.int _ _) _) _ _ _)); (fail_if_success (with_reducible show wpAny _ _ (execs (Stmt.Assign _ (Expr.Subscript _ (Expr.Slice none (some (Expr.BoolOp _ _ _)) none _) _) _ :: _) _) _ _ _)); (fail_if_success (with_reducible show wpAny _ _ (subscriptTail _ (Expr.Slice none (some (Expr.BoolOp _ _ _)) none _) _ _) _ _ _)); (fail_if_success (with_reducible show wpAny _ _ (subscriptTail _ _ (Value.str _ _) (Value.int _ _)) _ _ _)); ((( ((( (fail_if_success (with_reducible show wpAny _ _ (exec (Stmt.For _ _ _ _ _) _) _ _ _)); (fail_if_success (with_reducible show wpAny _ _ (exec (Stmt.While _ _ _ _) _) _ _ _)); (fail_if_success (with_reducible show wpAny _ _ (pyIter (Value.ref _)) _ _ _)); (fail_if_success (with_reducible show wpAny _ _ (call (Value.ref _) _ _) _ _ _)); (fail_if_success (with_reducible show wpAny _ _ (call (Value.builtin "next") _ _) _ _ _)); (fail_if_success (with_reducible show wpAny _ _ (eval (Expr.ListComp _ _ _ _) _) _ _ _)); (fail_if_success (with_reducible show LCg.CompEnd _ _ _ _ _ _ _ _ _ _ _ _ _ _)); (fail_if_success (with_reducible show LoopStep3 _ _ _ _ _ _ _ _ _ _)); (fail_if_success (with_reducible show LoopStepV _ _ _ _ _ _ _ _ _ _)); skip))); (fail_if_success (with_reducible show wpAny _ _ (exec (Stmt.Assign _ (Expr.ListComp _ _ _ _) _) _) _ _ _)); (((first | ((with_reducible show wpAny _ _ (storeName _ _ _) _ _ _); dsimp only; walk1) | ((first | (k_unfold; (try dsimp only)) | (k_end; wrow_close) | walk1 | (dsimp only; walk1) | (leave1; walk_say "STEP leave1"; try dsimp only) | fail "no step")))))))))))
    rename Fr _ _ _ _ => F1
    rename News _ _ _ _ => N1
    refine For_invV s.heap (by rfl) (by rfl) ?_
    ((repeat' ( (fail_if_success (with_reducible show wpAny _ _ (truthy (Value.str _ _)) _ _ _)); (fail_if_success (with_reducible show wpAny _ _ (call (Value.builtin "len") _) _ _ _)); (fail_if_success (with_reducible show wpAny _ _ (call (Value.type "list") _) _ _ _)); (fail_if_success (with_reducible show wpAny _ _ (getItem (Value.ref _) (Value.int _ _)) _ _ _)); (fail_if_success (with_reducible show wpAny _ _ (setItem (Value.ref _) (Value.int _ _) _) _ _ _)); (fail_if_success (with_reducible show wpAny _ _ (execs (Stmt.Assign _ (Expr.Subscript _ (Expr.Slice none (some (Expr.BoolOp _ _ _)) none _) _) _ :: _) _) _ _ _)); (fail_if_success (with_reducible show wpAny _ _ (subscriptTail _ (Expr.Slice none (some (Expr.BoolOp _ _ _)) none _) _ _) _ _ _)); (fail_if_success (with_reducible show wpAny _ _ (subscriptTail _ _ (Value.str _ _) (Value.int _ _)) _ _ _)); ((( ((( (fail_if_success (with_reducible show wpAny _ _ (exec (Stmt.For _ _ _ _ _) _) _ _ _)); (fail_if_success (with_reducible show wpAny _ _ (exec (Stmt.While _ _ _ _) _) _ _ _)); (fail_if_success (with_reducible show wpAny _ _ (pyIter (Value.ref _)) _ _ _)); (fail_if_success (with_reducible show wpAny _ _ (call (Value.ref _) _ _) _ _ _)); (fail_if_success (with_reducible show wpAny _ _ (call (Value.builtin "next") _ _) _ _ _)); (fail_if_success (with_reducible show wpAny _ _ (eval (Expr.ListComp _ _ _ _) _) _ _ _)); (fail_if_success (with_reducible show LCg.CompEnd _ _ _ _ _ _ _ _ _ _ _ _ _ _)); (fail_if_success (with_reducible show LoopStep3 _ _ _ _ _ _ _ _ _ _)); (fail_if_success (with_reducible show LoopStepV _ _ _ _ _ _ _ _ _ _)); skip))); (fail_if_success (with_reducible show wpAny _ _ (exec (Stmt.Assign _ (Expr.ListComp _ _ _ _) _) _) _ _ _)); (((first | ((with_reducible show wpAny _ _ (storeName _ _ _) _ _ _); dsimp only; walk1) | ((first | (k_unfold; (try dsimp only)) | (k_end; wrow_close) | walk1 | (dsimp only; walk1) | (leave1; walk_say "STEP leave1"; try dsimp only) | fail "no step")))))))))))
    ((refine len_call (le_th (by assumption)) fun _ _ => ?_; dsimp only))
    ((repeat' ( (fail_if_success (with_reducible show wpAny _ _ (truthy (Value.str _ _)) _ _ _)); (fail_if_success (with_reducible show wpAny _ _ (call (Value.builtin "len") _) _ _ _)); (fail_if_success (with_reducible show wpAny _ _ (call (Value.type "list") _) _ _ _)); (fail_if_success (with_reducible show wpAny _ _ (getItem (Value.ref _) (Value.int _ _)) _ _ _)); (fail_if_success (with_reducible show wpAny _ _ (setItem (Value.ref _) (Value.int _ _) _) _ _ _)); (fail_if_success (with_reducible show wpAny _ _ (execs (Stmt.Assign _ (Expr.Subscript _ (Expr.Slice none (some (Expr.BoolOp _ _ _)) none _) _) _ :: _) _) _ _ _)); (fail_if_success (with_reducible show wpAny _ _ (subscriptTail _ (Expr.Slice none (some (Expr.BoolOp _ _ _)) none _) _ _) _ _ _)); (fail_if_success (with_reducible show wpAny _ _ (subscriptTail _ _ (Value.str _ _) (Value.int _ _)) _ _ _)); ((( ((( (fail_if_success (with_reducible show wpAny _ _ (exec (Stmt.For _ _ _ _ _) _) _ _ _)); (fail_if_success (with_reducible show wpAny _ _ (exec (Stmt.While _ _ _ _) _) _ _ _)); (fail_if_success (with_reducible show wpAny _ _ (pyIter (Value.ref _)) _ _ _)); (fail_if_success (with_reducible show wpAny _ _ (call (Value.ref _) _ _) _ _ _)); (fail_if_success (with_reducible show wpAny _ _ (call (Value.builtin "next") _ _) _ _ _)); (fail_if_success (with_reducible show wpAny _ _ (eval (Expr.ListComp _ _ _ _) _) _ _ _)); (fail_if_success (with_reducible show LCg.CompEnd _ _ _ _ _ _ _ _ _ _ _ _ _ _)); (fail_if_success (with_reducible show LoopStep3 _ _ _ _ _ _ _ _ _ _)); (fail_if_success (with_reducible show LoopStepV _ _ _ _ _ _ _ _ _ _)); skip))); (fail_if_success (with_reducible show wpAny _ _ (exec (Stmt.Assign _ (Expr.ListComp _ _ _ _) _) _) _ _ _)); (((first | ((with_reducible show wpAny _ _ (storeName _ _ _) _ _ _); dsimp only; walk1) | ((first | (k_unfold; (try dsimp only)) | (k_end; wrow_close) | walk1 | (dsimp only; walk1) | (leave1; walk_say "STEP leave1"; try dsimp only) | fail "no step")))))))))))
    rename Fr _ _ _ _ => F8
    rename News _ _ _ _ => N8
    rename IsRange _ _ _ _ _ _ _ _ => R8
    have hib : i < b.length := hi
    have hok : okC (b.getD i 0) := hcy _ (by simp [List.getD, List.getElem?_eq_getElem hib])
    have hI : ∀ p ∈ own, p.1 ≠ D := fun p hp e => hoff _ (.head _) (by have := hown p hp; rw [e] at this; exact this)
    have hoff0 : D ∉ [I] := hoff _ (.head _)
    generalize hbc : b.getD i 0 = bc at F8 hok
    have two := two_eq i
    refine iter_rangeV (fun i' m nx => ∃ vs rn dn rest d res mn, nx = own ++ [(D, listOf (List.toArray vs) rn)] ∧ IntsAre vs ((dn ++ rest).map fun k : Nat => (k : Int)) ∧ dn.length = i' ∧ rest.length + i' = a.length ∧
      (dn ++ (dpIn bc (a.drop i') rest d res mn).1, (dpIn bc (a.drop i') rest d res mn).2) = dpIn bc a row (2 * i) (2 * i) BIG ∧ m (Str.ofString "a") = some (.str (mkS a) t6) ∧ m (Str.ofString "b") = some (.str (mkS b) t7) ∧ m (Str.ofString "max_cost") = some (.int mc t3) ∧ m (Str.ofString "row") = some (.ref D) ∧
      (∃ t, m (Str.ofString "bchar") = some (.str (mkS [bc]) t)) ∧ (∃ t, m (Str.ofString "distance") = some (.int (d : Nat) t)) ∧ (∃ t, m (Str.ofString "result") = some (.int (res : Nat) t)) ∧ (∃ t, m (Str.ofString "minimum") = some (.int (mn : Nat) t))) rfl R8 (le_th hz) F8 N8
      ⟨vs, rn, [], row, 2 * i, 2 * i, BIG, rfl, hvs, rfl, hrow, by simp, rfl, rfl, rfl, rfl, ⟨_, rfl⟩, ex_int rfl two, ex_int rfl two, ⟨_, rfl⟩⟩ ?_ ?_
    · clear F8 N8 R8 j1 j2 j3 j4 j5 hvs hdp F N hQ
      intro i' t' m₂ news₂ h₂ tk₂ own2 I2 K2 R2 S2 hK2 hR2 hi' hj hoff2 hown2 F N
      clear hK hR
      refine bb fun G hG => ?_
      obtain ⟨vs, rn, dn, rest, d, res, mn, rfl, hvs, hdn, hrest, hdi, j1, j2, j3, j4, ⟨t8, j5⟩, ⟨t9, j6⟩, ⟨t10, j7⟩, t11, j8⟩ := hj
      refine hG ?_
      clear hG G
      have F := know8 (y1 := Str.ofString "a") (y2 := Str.ofString "b") (y3 := Str.ofString "max_cost") (y4 := Str.ofString "row") (y5 := Str.ofString "bchar") (y6 := Str.ofString "distance") (y7 := Str.ofString "result") (y8 := Str.ofString "minimum") F (by exact j1) (by exact j2) (by exact j3) (by exact j4) (by exact j5) (by exact j6) (by exact j7) (by exact j8)
      have hI2 : ∀ p ∈ own2, p.1 ≠ D := fun p hp e => hoff2 _ (List.mem_append_right _ (.head _)) (by have := hown2 p hp; rw [e] at this; exact this)
      have hmem : (D, listOf (List.toArray vs) rn) ∈ own2 ++ (own ++ [(D, listOf (List.toArray vs) rn)]) := List.mem_append_right _ (List.mem_append_right _ (.head _))
      ((repeat' ( (fail_if_success (with_reducible show wpAny _ _ (truthy (Value.str _ _)) _ _ _)); (fail_if_success (with_reducible show wpAny _ _ (call (Value.builtin "len") _) _ _ _)); (fail_if_success (with_reducible show wpAny _ _ (call (Value.type "list") _) _ _ _)); (fail_if_success (with_reducible show wpAny _ _ (getItem (Value.ref _) (Value.int _ _)) _ _ _)); (fail_if_success (with_reducible show wpAny _ _ (setItem (Value.ref _) (Value.int _ _) _) _ _ _)); (fail_if_success (with_reducible show wpAny _ _ (execs (Stmt.Assign _ (Expr.Subscript _ (Expr.Slice none (some (Expr.BoolOp _ _ _)) none _) _) _ :: _) _) _ _ _)); (fail_if_success (with_reducible show wpAny _ _ (subscriptTail _ (Expr.Slice none (some (Expr.BoolOp _ _ _)) none _) _ _) _ _ _)); (fail_if_success (with_reducible show wpAny _ _ (subscriptTail _ _ (Value.str _ _) (Value.int _ _)) _ _ _)); ((( ((( (fail_if_success (with_reducible show wpAny _ _ (exec (Stmt.For _ _ _ _ _) _) _ _ _)); (fail_if_success (with_reducible show wpAny _ _ (exec (Stmt.While _ _ _ _) _) _ _ _)); (fail_if_success (with_reducible show wpAny _ _ (pyIter (Value.ref _)) _ _ _)); (fail_if_success (with_reducible show wpAny _ _ (call (Value.ref _) _ _) _ _ _)); (fail_if_success (with_reducible show wpAny _ _ (call (Value.builtin "next") _ _) _ _ _)); (fail_if_success (with_reducible show wpAny _ _ (eval (Expr.ListComp _ _ _ _) _) _ _ _)); (fail_if_success (with_reducible show LCg.CompEnd _ _ _ _ _ _ _ _ _ _ _ _ _ _)); (fail_if_success (with_reducible show LoopStep3 _ _ _ _ _ _ _ _ _ _)); (fail_if_success (with_reducible show LoopStepV _ _ _ _ _ _ _ _ _ _)); skip))); (fail_if_success (with_reducible show wpAny _ _ (exec (Stmt.Assign _ (Expr.ListComp _ _ _ _) _) _) _ _ _)); (((first | ((with_reducible show wpAny _ _ (storeName _ _ _) _ _ _); dsimp only; walk1) | ((first | (k_unfold; (try dsimp only)) | (k_end; wrow_close) | walk1 | (dsimp only; walk1) | (leave1; walk_say "STEP leave1"; try dsimp only) | fail "no step")))))))))))
      refine item_call (le_th hz) (pos_lo _ _) (pos_hi hi') fun _ _ => ?_
      rw [if_pos (Int.natCast_nonneg i'), Int.toNat_natCast]
      dsimp only
      ((repeat' ( (fail_if_success (with_reducible show wpAny _ _ (truthy (Value.str _ _)) _ _ _)); (fail_if_success (with_reducible show wpAny _ _ (call (Value.builtin "len") _) _ _ _)); (fail_if_success (with_reducible show wpAny _ _ (call (Value.type "list") _) _ _ _)); (fail_if_success (with_reducible show wpAny _ _ (getItem (Value.ref _) (Value.int _ _)) _ _ _)); (fail_if_success (with_reducible show wpAny _ _ (setItem (Value.ref _) (Value.int _ _) _) _ _ _)); (fail_if_success (with_reducible show wpAny _ _ (execs (Stmt.Assign _ (Expr.Subscript _ (Expr.Slice none (some (Expr.BoolOp _ _ _)) none _) _) _ :: _) _) _ _ _)); (fail_if_success (with_reducible show wpAny _ _ (subscriptTail _ (Expr.Slice none (some (Expr.BoolOp _ _ _)) none _) _ _) _ _ _)); (fail_if_success (with_reducible show wpAny _ _ (subscriptTail _ _ (Value.str _ _) (Value.int _ _)) _ _ _)); ((( ((( (fail_if_success (with_reducible show wpAny _ _ (exec (Stmt.For _ _ _ _ _) _) _ _ _)); (fail_if_success (with_reducible show wpAny _ _ (exec (Stmt.While _ _ _ _) _) _ _ _)); (fail_if_success (with_reducible show wpAny _ _ (pyIter (Value.ref _)) _ _ _)); (fail_if_success (with_reducible show wpAny _ _ (call (Value.ref _) _ _) _ _ _)); (fail_if_success (with_reducible show wpAny _ _ (call (Value.builtin "next") _ _) _ _ _)); (fail_if_success (with_reducible show wpAny _ _ (eval (Expr.ListComp _ _ _ _) _) _ _ _)); (fail_if_success (with_reducible show LCg.CompEnd _ _ _ _ _ _ _ _ _ _ _ _ _ _)); (fail_if_success (with_reducible show LoopStep3 _ _ _ _ _ _ _ _ _ _)); (fail_if_success (with_reducible show LoopStepV _ _ _ _ _ _ _ _ _ _)); skip))); (fail_if_success (with_reducible show wpAny _ _ (exec (Stmt.Assign _ (Expr.ListComp _ _ _ _) _) _) _ _ _)); (((first | ((with_reducible show wpAny _ _ (storeName _ _ _) _ _ _); dsimp only; walk1) | ((first | (k_unfold; (try dsimp only)) | (k_end; wrow_close) | walk1 | (dsimp only; walk1) | (leave1; walk_say "STEP leave1"; try dsimp only) | fail "no step")))))))))))
      rename Fr _ _ _ _ => F9
      rename News _ _ _ _ => N9
      have hia : i' < a.length := hi'
      have hok2 : okC (a.getD i' 0) := hcx _ (by simp [List.getD, List.getElem?_eq_getElem hia])
      refine subst_call (KX.keeps F9.keep) (T.keeps F9.keep) (Nat.lt_of_succ_lt hd) rfl hok hok2 fun t12 h12 tk12 hk => ?_
      have F10 := F9.after hk
      have N10 := N9.grown hk
      clear F9 N9
      match rest, hrest, hdi, hvs with
      | [], hrest, _, _ => exact (nil_no hrest hia).elim
      | r :: rs, hrest, hdi, hvs =>
      obtain ⟨cost, hcost⟩ : ∃ cost : Nat, (if bc = a.getD i' 0 then 0 else 2) = cost := ⟨_, rfl⟩
      have hcost' : (if bc = a.getD i' 0 then (0 : Int) else 2) = (cost : Int) := by rw [← hcost]; split <;> rfl
      rw [hcost']
      dsimp only
      ((repeat' ( (fail_if_success (with_reducible show wpAny _ _ (truthy (Value.str _ _)) _ _ _)); (fail_if_success (with_reducible show wpAny _ _ (call (Value.builtin "len") _) _ _ _)); (fail_if_success (with_reducible show wpAny _ _ (call (Value.type "list") _) _ _ _)); (fail_if_success (with_reducible show wpAny _ _ (getItem (Value.ref _) (Value.int _ _)) _ _ _)); (fail_if_success (with_reducible show wpAny _ _ (setItem (Value.ref _) (Value.int _ _) _) _ _ _)); (fail_if_success (with_reducible show wpAny _ _ (execs (Stmt.Assign _ (Expr.Subscript _ (Expr.Slice none (some (Expr.BoolOp _ _ _)) none _) _) _ :: _) _) _ _ _)); (fail_if_success (with_reducible show wpAny _ _ (subscriptTail _ (Expr.Slice none (some (Expr.BoolOp _ _ _)) none _) _ _) _ _ _)); (fail_if_success (with_reducible show wpAny _ _ (subscriptTail _ _ (Value.str _ _) (Value.int _ _)) _ _ _)); ((( ((( (fail_if_success (with_reducible show wpAny _ _ (exec (Stmt.For _ _ _ _ _) _) _ _ _)); (fail_if_success (with_reducible show wpAny _ _ (exec (Stmt.While _ _ _ _) _) _ _ _)); (fail_if_success (with_reducible show wpAny _ _ (pyIter (Value.ref _)) _ _ _)); (fail_if_success (with_reducible show wpAny _ _ (call (Value.ref _) _ _) _ _ _)); (fail_if_success (with_reducible show wpAny _ _ (call (Value.builtin "next") _ _) _ _ _)); (fail_if_success (with_reducible show wpAny _ _ (eval (Expr.ListComp _ _ _ _) _) _ _ _)); (fail_if_success (with_reducible show LCg.CompEnd _ _ _ _ _ _ _ _ _ _ _ _ _ _)); (fail_if_success (with_reducible show LoopStep3 _ _ _ _ _ _ _ _ _ _)); (fail_if_success (with_reducible show LoopStepV _ _ _ _ _ _ _ _ _ _)); skip))); (fail_if_success (with_reducible show wpAny _ _ (exec (Stmt.Assign _ (Expr.ListComp _ _ _ _) _) _) _ _ _)); (((first | ((with_reducible show wpAny _ _ (storeName _ _ _) _ _ _); dsimp only; walk1) | ((first | (k_unfold; (try dsimp only)) | (k_end; wrow_close) | walk1 | (dsimp only; walk1) | (leave1; walk_say "STEP leave1"; try dsimp only) | fail "no step")))))))))))
      rename Fr _ _ _ _ => F11
      rename News _ _ _ _ => N11
      have eg : ((dn ++ r :: rs).map fun k : Nat => (k : Int)).getD ((i' : Int)).toNat 0 = (r : Int) := by
        rw [Int.toNat_natCast, List.getD, List.getElem?_map, List.getElem?_append_right (Nat.le_of_eq hdn), hdn, Nat.sub_self]
        rfl
      rw [eg] at F11 ⊢
      obtain ⟨rr, hrr⟩ : ∃ rr : Nat, min (min res r + 2) (d + cost) = rr := ⟨_, rfl⟩
      have er := er_eq (res := res) (r := r) (d := d) hrr
      rw [er] at F11 ⊢
      have hvl := hvs.length
      simp only [List.length_map, List.length_append, List.length_cons] at hvl hrest
      refine list_set (N11 _ hmem).1 (Int.natCast_nonneg _) (fit63 hia hz) (by rw [List.size_toArray, hvl]; exact pos_hi (in_len hdn)) (fun h4 ho4 hs4 => ?_)
      have hp := N11 _ hmem
      have F12 := F11.change hs4 hp.2.1 hp.2.2
      rw [← List.append_assoc] at N11
      have N12 := news_but1 N11 (fun b o hb e => hs4.extBut b o hb e) ho4 (fun p hp => by
        rcases List.mem_append.mp hp with hp | hp
        · exact hI2 p hp
        · exact hI p hp) (by simp)
      rw [List.append_assoc, List.setIfInBounds_toArray] at N12
      clear F11 N11 ho4 hs4 eg er hp
      have hset : ((dn ++ r :: rs).map fun k : Nat => (k : Int)).set ((i' : Int)).toNat (rr : Int) = ((dn ++ [rr]) ++ rs).map fun k : Nat => (k : Int) := by
        rw [Int.toNat_natCast, List.map_append, List.set_append_right _ _ (by rw [List.length_map]; exact Nat.le_of_eq hdn), List.length_map, hdn, Nat.sub_self]
        simp
      rw [List.drop_eq_getElem_cons hia] at hdi
      have hca : (if bc = a[i'] then 0 else 2) = cost := by rw [← hcost]; simp [List.getD, List.getElem?_eq_getElem hia]
      simp only [dpIn, hca, hrr] at hdi
      ((repeat' ( (fail_if_success (with_reducible show wpAny _ _ (truthy (Value.str _ _)) _ _ _)); (fail_if_success (with_reducible show wpAny _ _ (call (Value.builtin "len") _) _ _ _)); (fail_if_success (with_reducible show wpAny _ _ (call (Value.type "list") _) _ _ _)); (fail_if_success (with_reducible show wpAny _ _ (getItem (Value.ref _) (Value.int _ _)) _ _ _)); (fail_if_success (with_reducible show wpAny _ _ (setItem (Value.ref _) (Value.int _ _) _) _ _ _)); (fail_if_success (with_reducible show wpAny _ _ (execs (Stmt.Assign _ (Expr.Subscript _ (Expr.Slice none (some (Expr.BoolOp _ _ _)) none _) _) _ :: _) _) _ _ _)); (fail_if_success (with_reducible show wpAny _ _ (subscriptTail _ (Expr.Slice none (some (Expr.BoolOp _ _ _)) none _) _ _) _ _ _)); (fail_if_success (with_reducible show wpAny _ _ (subscriptTail _ _ (Value.str _ _) (Value.int _ _)) _ _ _)); ((( ((( (fail_if_success (with_reducible show wpAny _ _ (exec (Stmt.For _ _ _ _ _) _) _ _ _)); (fail_if_success (with_reducible show wpAny _ _ (exec (Stmt.While _ _ _ _) _) _ _ _)); (fail_if_success (with_reducible show wpAny _ _ (pyIter (Value.ref _)) _ _ _)); (fail_if_success (with_reducible show wpAny _ _ (call (Value.ref _) _ _) _ _ _)); (fail_if_success (with_reducible show wpAny _ _ (call (Value.builtin "next") _ _) _ _ _)); (fail_if_success (with_reducible show wpAny _ _ (eval (Expr.ListComp _ _ _ _) _) _ _ _)); (fail_if_success (with_reducible show LCg.CompEnd _ _ _ _ _ _ _ _ _ _ _ _ _ _)); (fail_if_success (with_reducible show LoopStep3 _ _ _ _ _ _ _ _ _ _)); (fail_if_success (with_reducible show LoopStepV _ _ _ _ _ _ _ _ _ _)); skip))); (fail_if_success (with_reducible show wpAny _ _ (exec (Stmt.Assign _ (Expr.ListComp _ _ _ _) _) _) _ _ _)); (((first | ((with_reducible show wpAny _ _ (storeName _ _ _) _ _ _); dsimp only; walk1) | ((first | (k_unfold; (try dsimp only)) | (k_end; wrow_close) | walk1 | (dsimp only; walk1) | (leave1; walk_say "STEP leave1"; try dsimp only) | fail "no step")))))))))))
      · rename (_ : Int) < _ => hlt
        rename Fr _ _ _ _ => F13
        rename News _ _ _ _ => N13
        refine LoopStepV.next (LoopStepU.intro (news₂ := own ++ [_]) F13 N13 ?_ (hK2 _ _ ⟨_, rn, dn ++ [rr], rs, r, rr, _, rfl, by rw [← hset]; exact ints_set _ hvs, by simp [hdn], step_len hrest, by rw [List.append_assoc]; exact hdi, rfl, rfl, rfl, rfl, ⟨_, rfl⟩, ⟨_, rfl⟩, ⟨_, rfl⟩, ex_int rfl (by omega)⟩))
        intro p hp
        rcases List.mem_append.mp hp with hp | hp
        · exact hoff2 p (List.mem_append_left _ hp)
        · rw [List.mem_singleton.mp hp]
          exact hoff2 (D, listOf (List.toArray vs) rn) (List.mem_append_right _ (.head _))
      · rename ¬ (_ : Int) < _ => hlt
        rename Fr _ _ _ _ => F13
        rename News _ _ _ _ => N13
        refine LoopStepV.next (LoopStepU.intro (news₂ := own ++ [_]) F13 N13 ?_ (hK2 _ _ ⟨_, rn, dn ++ [rr], rs, r, rr, _, rfl, by rw [← hset]; exact ints_set _ hvs, by simp [hdn], step_len hrest, by rw [List.append_assoc]; exact hdi, rfl, rfl, rfl, rfl, ⟨_, rfl⟩, ⟨_, rfl⟩, ⟨_, rfl⟩, ex_int rfl (by omega)⟩))
        intro p hp
        rcases List.mem_append.mp hp with hp | hp
        · exact hoff2 p (List.mem_append_left _ hp)
        · rw [List.mem_singleton.mp hp]
          exact hoff2 (D, listOf (List.toArray vs) rn) (List.mem_append_right _ (.head _))
    · intro m₂ news₂ h₂ tk₂ hj F N
      refine bb fun G hG => ?_
      obtain ⟨vs, rn, dn, rest, d, res, mn, rfl, hvs, hdn, hrest, hdi, j1, j2, j3, j4, ⟨t8, j5⟩, ⟨t9, j6⟩, ⟨t10, j7⟩, t11, j8⟩ := hj
      refine hG ?_
      clear hG G
      have F := know8 (y1 := Str.ofString "a") (y2 := Str.ofString "b") (y3 := Str.ofString "max_cost") (y4 := Str.ofString "row") (y5 := Str.ofString "bchar") (y6 := Str.ofString "distance") (y7 := Str.ofString "result") (y8 := Str.ofString "minimum") F (by exact j1) (by exact j2) (by exact j3) (by exact j4) (by exact j5) (by exact j6) (by exact j7) (by exact j8)
      rw [List.drop_eq_getElem_cons hib, show b[i] = bc by rw [← hbc]; simp [List.getD, List.getElem?_eq_getElem hib]] at hdp
      rw [List.drop_of_length_le (Nat.le_refl _)] at hdi
      have hr0 : rest = [] := List.length_eq_zero_iff.mp (zero_of hrest)
      subst hr0
      simp only [dpIn, List.append_nil] at hdi hvs
      simp only [dpOut, ← hdi] at hdp
      dsimp only
      ((repeat' ( (fail_if_success (with_reducible show wpAny _ _ (truthy (Value.str _ _)) _ _ _)); (fail_if_success (with_reducible show wpAny _ _ (call (Value.builtin "len") _) _ _ _)); (fail_if_success (with_reducible show wpAny _ _ (call (Value.type "list") _) _ _ _)); (fail_if_success (with_reducible show wpAny _ _ (getItem (Value.ref _) (Value.int _ _)) _ _ _)); (fail_if_success (with_reducible show wpAny _ _ (setItem (Value.ref _) (Value.int _ _) _) _ _ _)); (fail_if_success (with_reducible show wpAny _ _ (execs (Stmt.Assign _ (Expr.Subscript _ (Expr.Slice none (some (Expr.BoolOp _ _ _)) none _) _) _ :: _) _) _ _ _)); (fail_if_success (with_reducible show wpAny _ _ (subscriptTail _ (Expr.Slice none (some (Expr.BoolOp _ _ _)) none _) _ _) _ _ _)); (fail_if_success (with_reducible show wpAny _ _ (subscriptTail _ _ (Value.str _ _) (Value.int _ _)) _ _ _)); ((( ((( (fail_if_success (with_reducible show wpAny _ _ (exec (Stmt.For _ _ _ _ _) _) _ _ _)); (fail_if_success (with_reducible show wpAny _ _ (exec (Stmt.While _ _ _ _) _) _ _ _)); (fail_if_success (with_reducible show wpAny _ _ (pyIter (Value.ref _)) _ _ _)); (fail_if_success (with_reducible show wpAny _ _ (call (Value.ref _) _ _) _ _ _)); (fail_if_success (with_reducible show wpAny _ _ (call (Value.builtin "next") _ _) _ _ _)); (fail_if_success (with_reducible show wpAny _ _ (eval (Expr.ListComp _ _ _ _) _) _ _ _)); (fail_if_success (with_reducible show LCg.CompEnd _ _ _ _ _ _ _ _ _ _ _ _ _ _)); (fail_if_success (with_reducible show LoopStep3 _ _ _ _ _ _ _ _ _ _)); (fail_if_success (with_reducible show LoopStepV _ _ _ _ _ _ _ _ _ _)); skip))); (fail_if_success (with_reducible show wpAny _ _ (exec (Stmt.Assign _ (Expr.ListComp _ _ _ _) _) _) _ _ _)); (((first | ((with_reducible show wpAny _ _ (storeName _ _ _) _ _ _); dsimp only; walk1) | ((first | (k_unfold; (try dsimp only)) | (k_end; wrow_close) | walk1 | (dsimp only; walk1) | (leave1; walk_say "STEP leave1"; try dsimp only) | fail "no step")))))))))))
      · rename (_ : Int) < _ => hlt
        rw [if_pos (Int.ofNat_lt.mp hlt)] at hdp
        refine LoopStepV.ret (hR _ _ ?_)
        have := hQ
        rw [← hdp] at this
        have := this
        rw [show ((mc + 1 : Nat) : Int) = (mc : Int) + 1 from rfl] at this
        rename Fr _ _ _ _ => F9
        exact this _ _ _ F9.keep
      · rename ¬ (_ : Int) < _ => hlt
        rw [if_neg (fun h => hlt (Int.ofNat_lt.mpr h))] at hdp
        rename Fr _ _ _ _ => F9
        rename News _ _ _ _ => N9
        exact LoopStepV.next (LoopStepU.intro F9 N9 (fun p hp => by rw [List.mem_singleton.mp hp]; exact hoff0) (hK _ _ ⟨_, _, _, _, rfl, hvs, hdn, hdp, rfl, rfl, rfl, rfl, _, rfl⟩))
  · intro m₁ news₁ h tk hj F N
    refine bb fun G hG => ?_
    obtain ⟨vs, rn, row, res, rfl, hvs, hrow, hdp, j1, j2, j3, j4, tr, j5⟩ := hj
    refine hG ?_
    clear hG G
    have F := know1 (y1 := Str.ofString "result") F (by exact j5)
    dsimp only
    ((repeat' ( (fail_if_success (with_reducible show wpAny _ _ (truthy (Value.str _ _)) _ _ _)); (fail_if_success (with_reducible show wpAny _ _ (call (Value.builtin "len") _) _ _ _)); (fail_if_success (with_reducible show wpAny _ _ (call (Value.type "list") _) _ _ _)); (fail_if_success (with_reducible show wpAny _ _ (getItem (Value.ref _) (Value.int _ _)) _ _ _)); (fail_if_success (with_reducible show wpAny _ _ (setItem (Value.ref _) (Value.int _ _) _) _ _ _)); (fail_if_success (with_reducible show wpAny _ _ (execs (Stmt.Assign _ (Expr.Subscript _ (Expr.Slice none (some (Expr.BoolOp _ _ _)) none _) _) _ :: _) _) _ _ _)); (fail_if_success (with_reducible show wpAny _ _ (subscriptTail _ (Expr.Slice none (some (Expr.BoolOp _ _ _)) none _) _ _) _ _ _)); (fail_if_success (with_reducible show wpAny _ _ (subscriptTail _ _ (Value.str _ _) (Value.int _ _)) _ _ _)); ((( ((( (fail_if_success (with_reducible show wpAny _ _ (exec (Stmt.For _ _ _ _ _) _) _ _ _)); (fail_if_success (with_reducible show wpAny _ _ (exec (Stmt.While _ _ _ _) _) _ _ _)); (fail_if_success (with_reducible show wpAny _ _ (pyIter (Value.ref _)) _ _ _)); (fail_if_success (with_reducible show wpAny _ _ (call (Value.ref _) _ _) _ _ _)); (fail_if_success (with_reducible show wpAny _ _ (call (Value.builtin "next") _ _) _ _ _)); (fail_if_success (with_reducible show wpAny _ _ (eval (Expr.ListComp _ _ _ _) _) _ _ _)); (fail_if_success (with_reducible show LCg.CompEnd _ _ _ _ _ _ _ _ _ _ _ _ _ _)); (fail_if_success (with_reducible show LoopStep3 _ _ _ _ _ _ _ _ _ _)); (fail_if_success (with_reducible show LoopStepV _ _ _ _ _ _ _ _ _ _)); skip))); (fail_if_success (with_reducible show wpAny _ _ (exec (Stmt.Assign _ (Expr.ListComp _ _ _ _) _) _) _ _ _)); (((first | ((with_reducible show wpAny _ _ (storeName _ _ _) _ _ _); dsimp only; walk1) | ((first | (k_unfold; (try dsimp only)) | (k_end; wrow_close) | walk1 | (dsimp only; walk1) | (leave1; walk_say "STEP leave1"; try dsimp only) | fail "no step")))))))))))
    rw [List.drop_of_length_le (Nat.le_refl _)] at hdp
    have := hQ tr
    rw [← hdp] at this
    exact this _ _ F.keep
theorem leven_same {w : World} {A : Around} {s : Shared} {E : Value → Shared → Prop} {Q : Value → Shared → Prop} {mean : ExcName → Option Value} {mg mb : Str → Option Value}
    {t1 t2 t3 : Tok} {mc : Int} {x : Str}
    (KX : (hd.heap_39 w.params).In s.heap) (T : TP mean mg mb s.heap) (hd : A.depth + 5 < recursionLimit) (hh : A.handled = none)
    (hQ : ∀ t h' tk', s.heap.StaysIn h' → Q (.int 0 t) { s with heap := h', toks := tk' }) :
    wpAny (model PR w) A (call (.ref 49) [.str x t1, .str x t2, .int mc t3]) Q E s := by
  have dum : Fills Mine.hd.heap_39 PySem.Challenge.rw_wf0021_01 True := by k_fill; trivial
  obtain ⟨ah, ad, af, ag, au⟩ := A
  obtain rfl : ah = none := hh
  dsimp only at hd
  refine enter (binds := [(Str.ofString "a", .str x t1), (Str.ofString "b", .str x t2), (Str.ofString "max_cost", .int mc t3)]) KX T (by k_is) (by k_is) (by show ad < recursionLimit; omega) (BindsTo.of_eq rfl) (locs rfl) ?_ rfl rfl rfl (by decide)
  intro h₁ F N
  ((repeat' ((( ((( (fail_if_success (with_reducible show wpAny _ _ (exec (Stmt.For _ _ _ _ _) _) _ _ _)); (fail_if_success (with_reducible show wpAny _ _ (exec (Stmt.While _ _ _ _) _) _ _ _)); (fail_if_success (with_reducible show wpAny _ _ (pyIter (Value.ref _)) _ _ _)); (fail_if_success (with_reducible show wpAny _ _ (call (Value.ref _) _ _) _ _ _)); (fail_if_success (with_reducible show wpAny _ _ (call (Value.builtin "next") _ _) _ _ _)); (fail_if_success (with_reducible show wpAny _ _ (eval (Expr.ListComp _ _ _ _) _) _ _ _)); (fail_if_success (with_reducible show LCg.CompEnd _ _ _ _ _ _ _ _ _ _ _ _ _ _)); (fail_if_success (with_reducible show LoopStep3 _ _ _ _ _ _ _ _ _ _)); (fail_if_success (with_reducible show LoopStepV _ _ _ _ _ _ _ _ _ _)); skip))); (fail_if_success (with_reducible show wpAny _ _ (exec (Stmt.Assign _ (Expr.ListComp _ _ _ _) _) _) _ _ _)); (((first | ((with_reducible show wpAny _ _ (storeName _ _ _) _ _ _); dsimp only; walk1) | ((first | (k_unfold; (try dsimp only)) | (k_end; wrow_close) | walk1 | (dsimp only; walk1) | (leave1; walk_say "STEP leave1"; try dsimp only) | fail "no step"))))))))))
  all_goals first
    | exact hQ _ _ _ F.keep
    | (rename (_ == _) = false => he; simp at he)
theorem news_new {h₀ h h' : Heap} {L a : Addr} {m : Str → Option Value} {o : Obj} (F : Fr h₀ L h m) (g : h.get? a = none) (e : h'.get? a = some o) : h'.get? (a, o).1 = some (a, o).2 ∧ (a, o).1 ≠ L ∧ h₀.get? (a, o).1 = none := by
  refine ⟨e, fun q => ?_, ?_⟩
  · obtain ⟨x, y, z⟩ := F.ns
    simp only at q
    subst q
    simp_all
  · cases q : h₀.get? a with
    | none => rfl
    | some x => have := F.keep _ _ q; simp_all
theorem new_apart {h₀ h : Heap} {L a : Addr} {l : List (Addr × Obj)} (N : News h₀ L h l) (g : h.get? a = none) : ∀ p ∈ l, a ≠ p.1 := fun p hp e => by
  have := (N p hp).1
  rw [← e, g] at this
  cases this
theorem foldedF_snoc (b m : Int) (l : List Int) (f : Int) : foldedF b m (l ++ [f]) = foldedF b m l * b + f + m := by
  simp [foldedF, List.foldl_append]
theorem snoc_ind {α : Type} {P : List α → Prop} (h0 : P []) (h1 : ∀ l a, P l → P (l ++ [a])) : ∀ l, P l := by
  intro l
  rw [← List.reverse_reverse l]
  induction l.reverse with
  | nil => exact h0
  | cons a t ih => rw [List.reverse_cons]; exact h1 _ _ ih
theorem folded16_bounds : ∀ (l : List Int), (∀ f ∈ l, 0 ≤ f ∧ f ≤ 15) → 0 ≤ foldedF 16 0 l ∧ foldedF 16 0 l < 16 ^ l.length := by
  refine snoc_ind (fun _ => by simp [foldedF]) ?_
  intro l a ih h
  obtain ⟨i1, i2⟩ := ih (fun f hf => h f (List.mem_append_left _ hf))
  have ha := h a (List.mem_append_right _ (.head _))
  rw [foldedF_snoc, List.length_append, List.length_singleton, Int.pow_succ]
  omega
theorem figF_mem {lo hi : Int} : ∀ (n : Nat) (f : Int), f ∈ figF lo hi n → f = lo ∨ f = hi := by
  intro n
  induction n using Nat.strongRecOn with
  | _ n ih =>
    intro f hf
    by_cases h : n ≤ 1
    · rw [figF_le h] at hf; cases hf
    · rw [figF_gt (by omega)] at hf
      rcases List.mem_append.mp hf with hf | hf
      · exact ih (n / 2) (by omega) f hf
      · rw [List.mem_singleton.mp hf]
        split
        · exact .inr rfl
        · exact .inl rfl
theorem figF_in {lo hi : Int} (l1 : 1 ≤ lo) (l2 : lo ≤ 7) (l3 : lo + 1 ≤ hi) (l4 : hi ≤ lo + 8) {n : Nat} : ∀ f ∈ figF lo hi n, 1 ≤ f ∧ f ≤ 15 := by
  intro f hf
  rcases figF_mem n f hf with rfl | rfl <;> omega
theorem figF_ne {lo hi : Int} {n : Nat} (h : 2 ≤ n) : figF lo hi n ≠ [] := by
  rw [figF_gt (by omega)]; simp
theorem pow16_le {a b : Nat} (h : a ≤ b) : (16 : Int) ^ a ≤ 16 ^ b := by
  have := Nat.pow_le_pow_right (n := 16) (by decide) h
  exact_mod_cast this
theorem fold13 {lo hi : Int} (l1 : 1 ≤ lo) (l2 : lo ≤ 7) (l3 : lo + 1 ≤ hi) (l4 : hi ≤ lo + 8) {n : Nat} (hn : n ≤ 31) : (foldedF 16 0 (figF lo hi n)).natAbs < 16 ^ 13 := by
  obtain ⟨b1, b2⟩ := folded16_bounds (figF lo hi n) (fun f hf => by have := figF_in l1 l2 l3 l4 f hf; omega)
  have hl := figF_len (lo := lo) (hi := hi) 4 n (by omega)
  have := pow16_le (show (figF lo hi n).length ≤ 4 from hl)
  have e : (16 : Int) ^ 4 = 65536 := by decide
  have e2 : 16 ^ 13 = 4503599627370496 := by decide
  omega
theorem neg_pow_abs (k : Nat) (x : Int) : ((-1) ^ k * x).natAbs = x.natAbs := by
  rw [Int.natAbs_mul, Int.natAbs_pow]
  simp
noncomputable def bitsG : Nat → Nat → List Bool
  | 0, _ => []
  | f + 1, n => if n ≤ 1 then [] else bitsG f (n / 2) ++ [n % 2 == 1]
noncomputable def bitsF (n : Nat) : List Bool := bitsG 5 n
noncomputable def cutPre {α : Type} [DecidableEq α] : List α → List α → List α × List α × List α
  | x :: xs, y :: ys => if x = y then let r := cutPre xs ys; (x :: r.1, r.2) else ([], x :: xs, y :: ys)
  | xs, ys => ([], xs, ys)
noncomputable def ham {α : Type} [DecidableEq α] : List α → List α → Nat
  | x :: xs, y :: ys => (if x = y then 0 else 1) + ham xs ys
  | _, _ => 0
noncomputable def core {α : Type} [DecidableEq α] (a b : List α) : List α × List α :=
  let r := cutPre a b
  let q := cutPre r.2.1.reverse r.2.2.reverse
  (q.2.1.reverse, q.2.2.reverse)
noncomputable def okPair (n1 n2 : Nat) : Bool :=
  let a := bitsF n1 ++ bitsF n2
  let b := bitsF n2 ++ bitsF n1
  if a = b then true else
    let most := 2 * min (min (2 * (bitsF n1).length) (2 * (bitsF n2).length)) (ham a b)
    let c := core a b
    let z := levD c.1 c.2 most
    decide (4 ≤ most ∧ 4 ≤ z ∧ z ≤ most)
theorem dpOut_more {α : Type} [DecidableEq α] (a : List α) (mc p : Nat) : ∀ (b : List α) (k : Nat) (row : List Nat) (res : Nat), dpOut a mc b k row res ≤ mc → dpOut a (mc + p) b k row res = dpOut a mc b k row res
  | [], _, _, _, _ => rfl
  | bc :: bs, k, row, res, h => by
    simp only [dpOut] at h ⊢
    by_cases hm : mc < (dpIn bc a row (2 * k) (2 * k) BIG).2.2
    · rw [if_pos hm] at h
      omega
    · rw [if_neg hm] at h ⊢
      rw [if_neg (by omega)]
      exact dpOut_more a mc p bs (k + 1) _ _ h
theorem levD_more {α : Type} [DecidableEq α] {a b : List α} {mc : Nat} (p : Nat) (h : levD a b mc ≤ mc) : levD a b (mc + p) = levD a b mc := dpOut_more a mc p b 0 _ _ h
noncomputable def cmin (a b : Nat) : Nat := @Bool.rec (fun _ => Nat) b a (Nat.ble a b)
noncomputable def beqB (x y : Bool) : Bool := @Bool.rec (fun _ => Bool) (@Bool.rec (fun _ => Bool) true false y) y x
noncomputable def dpInF (bc : Bool) (a : List Bool) : List Nat → Nat → Nat → Nat → (List Nat → Nat → Nat → Nat) → Nat :=
  @List.rec Bool (fun _ => List Nat → Nat → Nat → Nat → (List Nat → Nat → Nat → Nat) → Nat) (fun _ _ res mn k => k [] res mn)
    (fun x _ ih row d res mn k => @List.rec Nat (fun _ => Nat) (k [] res mn)
      (fun r rs _ => (fun res' => ih rs r res' (cmin mn res') (fun l => k (res' :: l))) (cmin (Nat.add (cmin res r) 2) (Nat.add d (@Bool.rec (fun _ => Nat) 2 0 (beqB bc x))))) row) a
noncomputable def dpOutF (a : List Bool) (mc : Nat) (b : List Bool) : Nat → List Nat → Nat → Nat :=
  @List.rec Bool (fun _ => Nat → List Nat → Nat → Nat) (fun _ _ res => res)
    (fun bc _ ih k row _ => dpInF bc a row (Nat.mul 2 k) (Nat.mul 2 k) BIG (fun r res mn => @Bool.rec (fun _ => Nat) (ih (Nat.succ k) r res) (Nat.succ mc) (Nat.ble (Nat.succ mc) mn))) b
theorem cmin_eq (a b : Nat) : cmin a b = min a b := by
  unfold cmin
  cases h : Nat.ble a b with
  | true => exact (Nat.min_eq_left (Nat.le_of_ble_eq_true h)).symm
  | false => exact (Nat.min_eq_right (Nat.le_of_lt (Nat.lt_of_not_le fun e => by rw [Nat.ble_eq_true_of_le e] at h; cases h))).symm
theorem dpInF_eq (bc : Bool) : ∀ (a : List Bool) (row : List Nat) (d res mn : Nat) (k : List Nat → Nat → Nat → Nat), dpInF bc a row d res mn k = k (dpIn bc a row d res mn).1 (dpIn bc a row d res mn).2.1 (dpIn bc a row d res mn).2.2
  | [], _, _, _, _, _ => rfl
  | _ :: _, [], _, _, _, _ => rfl
  | x :: xs, r :: rs, d, res, mn, k => by
    have e : (@Bool.rec (fun _ => Nat) 2 0 (beqB bc x)) = if bc = x then 0 else 2 := by cases bc <;> cases x <;> rfl
    have ih := fun (k : List Nat → Nat → Nat → Nat) => dpInF_eq bc xs rs r (min (min res r + 2) (d + if bc = x then 0 else 2)) (min mn (min (min res r + 2) (d + if bc = x then 0 else 2))) k
    show dpInF bc xs rs r _ _ _ = _
    rw [e, cmin_eq, cmin_eq, cmin_eq]
    exact ih _
theorem ble_rec (m n P Q : Nat) : @Bool.rec (fun _ => Nat) P Q (Nat.ble (Nat.succ m) n) = if m < n then Q else P := by
  cases h : Nat.ble (Nat.succ m) n with
  | true => exact (if_pos (Nat.le_of_ble_eq_true h)).symm
  | false => exact (if_neg (fun e : Nat.succ m ≤ n => by rw [Nat.ble_eq_true_of_le e] at h; cases h)).symm
theorem dpOutF_eq (a : List Bool) (mc : Nat) : ∀ (b : List Bool) (k : Nat) (row : List Nat) (res : Nat), dpOutF a mc b k row res = dpOut a mc b k row res
  | [], _, _, _ => rfl
  | bc :: bs, k, row, res => by
    show dpInF bc a row _ _ _ _ = _
    rw [dpInF_eq]
    refine (ble_rec _ _ _ _).trans ?_
    show (if _ then _ else dpOutF a mc bs (k + 1) _ _) = _
    rw [dpOutF_eq a mc bs]
    rfl
noncomputable def levF (a b : List Bool) (mc : Nat) : Nat := dpOutF a mc b 0 (row0 a.length) 0
theorem levF_eq (a b : List Bool) (mc : Nat) : levF a b mc = levD a b mc := dpOutF_eq a mc b 0 _ 0
noncomputable def okPairF (n1 n2 : Nat) : Bool :=
  let a := bitsF n1 ++ bitsF n2
  let b := bitsF n2 ++ bitsF n1
  if a = b then true else
    let most := 2 * min (min (2 * (bitsF n1).length) (2 * (bitsF n2).length)) (ham a b)
    let c := core a b
    let z := levF c.1 c.2 most
    decide (4 ≤ most ∧ 4 ≤ z ∧ z ≤ most)
theorem okPairF_eq (n1 n2 : Nat) : okPairF n1 n2 = okPair n1 n2 := by
  unfold okPairF okPair
  simp only [levF_eq]
noncomputable def okRow (i : Nat) : Bool := (List.range 30).all fun j => okPairF i (j + 2)
theorem okRows0 : ((List.range 6).all fun i => okRow (i + 2)) = true := by decide +kernel
theorem okRows1 : ((List.range 6).all fun i => okRow (i + 8)) = true := by decide +kernel
theorem okRows2 : ((List.range 6).all fun i => okRow (i + 14)) = true := by decide +kernel
theorem okRows3 : ((List.range 6).all fun i => okRow (i + 20)) = true := by decide +kernel
theorem okRows4 : ((List.range 6).all fun i => okRow (i + 26)) = true := by decide +kernel
theorem okRow_at {c i : Nat} (h : ((List.range 6).all fun i => okRow (i + c)) = true) (h1 : c ≤ i) (h2 : i < c + 6) : okRow i = true := by
  have := List.all_eq_true.mp h (i - c) (List.mem_range.mpr (by omega))
  rwa [Nat.sub_add_cancel h1] at this
theorem okPair_true {i j : Nat} (hi : 2 ≤ i) (hi2 : i < 32) (hj : 2 ≤ j) (hj2 : j < 32) : okPair i j = true := by
  have h : okRow i = true := by
    by_cases h1 : i < 8
    · exact okRow_at okRows0 hi h1
    by_cases h2 : i < 14
    · exact okRow_at okRows1 (Nat.not_lt.mp h1) h2
    by_cases h3 : i < 20
    · exact okRow_at okRows2 (Nat.not_lt.mp h2) h3
    by_cases h4 : i < 26
    · exact okRow_at okRows3 (Nat.not_lt.mp h3) h4
    · exact okRow_at okRows4 (Nat.not_lt.mp h4) hi2
  have := List.all_eq_true.mp h (j - 2) (List.mem_range.mpr (by omega))
  rwa [Nat.sub_add_cancel hj, okPairF_eq] at this
theorem dpIn_map {α β : Type} [DecidableEq α] [DecidableEq β] {f : α → β} (hf : ∀ x y, f x = f y → x = y) (bc : α) : ∀ (a : List α) (row : List Nat) (d res mn : Nat), dpIn (f bc) (a.map f) row d res mn = dpIn bc a row d res mn
  | [], [], _, _, _ => rfl
  | [], _ :: _, _, _, _ => rfl
  | _ :: _, [], _, _, _ => rfl
  | x :: xs, r :: rs, d, res, mn => by
    have e : (if f bc = f x then 0 else 2) = (if bc = x then 0 else 2) := by
      by_cases h : bc = x
      · rw [h]; simp
      · rw [if_neg h, if_neg (fun q => h (hf _ _ q))]
    simp only [List.map_cons, dpIn, e, dpIn_map hf bc xs]
theorem dpOut_map {α β : Type} [DecidableEq α] [DecidableEq β] {f : α → β} (hf : ∀ x y, f x = f y → x = y) (a : List α) (mc : Nat) : ∀ (b : List α) (k : Nat) (row : List Nat) (res : Nat), dpOut (a.map f) mc (b.map f) k row res = dpOut a mc b k row res
  | [], _, _, _ => rfl
  | bc :: bs, k, row, res => by
    simp only [List.map_cons, dpOut, dpIn_map hf, dpOut_map hf a mc bs]
theorem levD_map {α β : Type} [DecidableEq α] [DecidableEq β] {f : α → β} (hf : ∀ x y, f x = f y → x = y) (a b : List α) (mc : Nat) : levD (a.map f) (b.map f) mc = levD a b mc := by
  unfold levD
  rw [List.length_map, dpOut_map hf]
theorem ham_map {α β : Type} [DecidableEq α] [DecidableEq β] {f : α → β} (hf : ∀ x y, f x = f y → x = y) : ∀ (a b : List α), ham (a.map f) (b.map f) = ham a b
  | [], [] => rfl
  | [], _ :: _ => rfl
  | _ :: _, [] => rfl
  | x :: xs, y :: ys => by
    have e : (if f x = f y then 0 else 1) = (if x = y then 0 else 1) := by
      by_cases h : x = y
      · rw [h]; simp
      · rw [if_neg h, if_neg (fun q => h (hf _ _ q))]
    simp only [List.map_cons, ham, e, ham_map hf xs ys]
theorem ham_app {α : Type} [DecidableEq α] : ∀ (a b c : List α), a.length = b.length → ham (a ++ c) (b ++ c) = ham a b
  | [], [], c, _ => by
    induction c with
    | nil => rfl
    | cons x xs ih => simp only [List.nil_append, ham] at ih ⊢; simp [ih]
  | x :: xs, y :: ys, c, h => by
    simp only [List.cons_append, ham]
    rw [ham_app xs ys c (by simpa using h)]
theorem cutPre_spec {α : Type} [DecidableEq α] : ∀ (a b : List α), a = (cutPre a b).1 ++ (cutPre a b).2.1 ∧ b = (cutPre a b).1 ++ (cutPre a b).2.2 ∧ ((cutPre a b).2.1 = [] ∨ (cutPre a b).2.2 = [] ∨ (cutPre a b).2.1.head? ≠ (cutPre a b).2.2.head?)
  | [], [] => ⟨rfl, rfl, .inl rfl⟩
  | [], _ :: _ => ⟨rfl, rfl, .inl rfl⟩
  | _ :: _, [] => ⟨rfl, rfl, .inr (.inl rfl)⟩
  | x :: xs, y :: ys => by
    by_cases h : x = y
    · subst h
      have := cutPre_spec xs ys
      simp only [cutPre, if_true, List.cons_append, List.cons.injEq, true_and]
      exact this
    · simp only [cutPre, if_neg h, List.nil_append, true_and]
      exact .inr (.inr (by simpa using h))
theorem core_spec {α : Type} [DecidableEq α] {a b : List α} (hl : a.length = b.length) (hne : a ≠ b) :
    ∃ pr po, a = pr ++ ((core a b).1 ++ po) ∧ b = pr ++ ((core a b).2 ++ po) ∧ (core a b).1.length = (core a b).2.length ∧ (core a b).1 ≠ [] ∧ (core a b).1.head? ≠ (core a b).2.head? ∧ (core a b).1.getLast? ≠ (core a b).2.getLast? := by
  obtain ⟨e1, e2, e3⟩ := cutPre_spec a b
  generalize hr : cutPre a b = r at e1 e2 e3
  obtain ⟨pr, x, y⟩ := r
  dsimp only at e1 e2 e3
  obtain ⟨f1, f2, f3⟩ := cutPre_spec x.reverse y.reverse
  have hcore : core a b = ((cutPre x.reverse y.reverse).2.1.reverse, (cutPre x.reverse y.reverse).2.2.reverse) := by
    unfold core
    rw [hr]
  rw [hcore]
  generalize cutPre x.reverse y.reverse = q at f1 f2 f3
  obtain ⟨z, u, v⟩ := q
  dsimp only at f1 f2 f3 ⊢
  have g1 : x = u.reverse ++ z.reverse := by
    have := congrArg List.reverse f1
    simpa using this
  have g2 : y = v.reverse ++ z.reverse := by
    have := congrArg List.reverse f2
    simpa using this
  subst g1 g2
  have hlen : u.length = v.length := by
    rw [e1, e2] at hl
    simp only [List.length_append, List.length_reverse] at hl
    omega
  have hu : u ≠ [] := by
    intro e
    subst e
    have : v = [] := List.length_eq_zero_iff.mp hlen.symm
    subst this
    exact hne (by rw [e1, e2])
  have hv : v ≠ [] := by
    intro e
    subst e
    exact hu (List.length_eq_zero_iff.mp hlen)
  refine ⟨pr, z.reverse, e1, e2, by simpa using hlen, by simpa using hu, ?_, ?_⟩
  · rcases e3 with e | e | e
    · simp [hu] at e
    · simp [hv] at e
    · have hh : ∀ (l k : List α), l ≠ [] → (l ++ k).head? = l.head? := by
        intro l k h
        cases l with
        | nil => exact absurd rfl h
        | cons => rfl
      rw [hh _ _ (by simpa using hu), hh _ _ (by simpa using hv)] at e
      exact e
  · rcases f3 with e | e | e
    · exact absurd e hu
    · exact absurd e hv
    · rw [List.getLast?_reverse, List.getLast?_reverse]
      exact e
theorem apI_folded : ∀ (l : List Int), (∀ f ∈ l, 1 ≤ f ∧ f ≤ 15) → apI (foldedF 16 0 l).natAbs = l.map (fun f => f + 65) := by
  refine snoc_ind (fun _ => by simp [foldedF, apI_zero]) ?_
  intro l a ih h
  have hl : ∀ f ∈ l, 1 ≤ f ∧ f ≤ 15 := fun f hf => h f (List.mem_append_left _ hf)
  have ha := h a (List.mem_append_right _ (.head _))
  obtain ⟨b1, _⟩ := folded16_bounds l (fun f hf => by have := hl f hf; omega)
  rw [foldedF_snoc]
  have e0 : (foldedF 16 0 l * 16 + a + 0).natAbs ≠ 0 := by omega
  rw [apI_pos e0, show (foldedF 16 0 l * 16 + a + 0).natAbs / 16 = (foldedF 16 0 l).natAbs by omega, ih hl, List.map_append]
  congr 1
  simp only [List.map_cons, List.map_nil, List.cons.injEq, and_true]
  omega
theorem pvF_folded : ∀ (l : List Int), (∀ f ∈ l, 1 ≤ f ∧ f ≤ 15) → pvF (l.map fun f => f + 65) = foldedF 64 1 l := by
  refine snoc_ind (fun _ => by simp [foldedF, pvF]) ?_
  intro l a ih h
  have ha := h a (List.mem_append_right _ (.head _))
  rw [foldedF_snoc, List.map_append, List.map_singleton, pvF_snoc, ih (fun f hf => h f (List.mem_append_left _ hf))]
  omega
theorem pvF_tick (l : List Int) (h : ∀ f ∈ l, 1 ≤ f ∧ f ≤ 15) : pvF ((l.map fun f => f + 65) ++ [39]) = foldedF 64 1 l * 64 + 39 := by
  rw [pvF_snoc, pvF_folded l h]
  rfl
noncomputable def P6 : List (Nat × Nat × Nat) := [(0,1,2),(0,2,1),(1,0,2),(1,2,0),(2,0,1),(2,1,0)]
noncomputable def figK (lo hi : Int) (n0 n1 n2 : Nat) (k : Nat) : List Int := figF lo hi (if k = 0 then n0 else if k = 1 then n1 else n2)
noncomputable def rowK (g : Nat → List Int) (t : Nat × Nat × Nat) : List Int := ((g t.1 ++ g t.2.1 ++ g t.2.2).map fun f => f + 65) ++ [39]
noncomputable def wholeK (g : Nat → List Int) (t : Nat × Nat × Nat) : Int := foldedF 64 1 (g t.1 ++ g t.2.1 ++ g t.2.2) * 64 + 39
section
variable {w : World} {A : Around} {E : Value → Shared → Prop} {s : Shared} {h₀ : Heap} {m : Str → Option Value} {news : List (Addr × Obj)} {env : Env}
theorem iter_listV {ax : Addr} {items : Array Value} {c : Nat} {x : Str} {body : List Stmt} {Q : Flow → Shared → Prop} (J : Nat → (Str → Option Value) → List (Addr × Obj) → Prop) (hh : A.handled = none)
    (hl : s.heap.get? ax = some (listOf items c)) (hax : ax ≠ env.locals) (F : Fr h₀ env.locals s.heap m) (N : News h₀ env.locals s.heap news) (hj : J 0 m news)
    (turn : ∀ (i : Nat) v m₁ news₁ h tk own I (K : (Str → Option Value) → List (Addr × Obj) → Prop) (R : Value → Shared → Prop) (S : Shared → Prop), (∀ m nx, J (i + 1) m nx → K m nx) → (∀ v s', Q (.ret v) s' → R v s') → i < items.size → items[i]? = some v → J i m₁ news₁ → (∀ p ∈ news₁, p.1 ∉ [I]) → (∀ p ∈ own, p.1 ∈ [I, ax]) → Fr h₀ env.locals h (fun y => if y = x then some v else m₁ y) → News h₀ env.locals h (own ++ news₁) →
      wpAny (model PR w) A (execs body env) (LoopStepV h₀ env.locals [I] own K { s with heap := h, toks := tk } R S) E { s with heap := h, toks := tk })
    (done : ∀ m₁ news₁ h tk, J items.size m₁ news₁ → Fr h₀ env.locals h m₁ → News h₀ env.locals h news₁ → Q .next { s with heap := h, toks := tk }) :
    wpAny (model PR w) A (pyIter (.ref ax)) (fun it s₂ => LoopAtV PR w A h₀ env x body Q E it s₂) E s := by
  have hL : s.heap.IsList ax items := ⟨_, hl, rfl, c, rfl⟩
  have hlt : ax < s.heap.objs.size := Heap.lt_size hl
  refine wpAny_pyIter_list hL ?_
  refine ⟨_, _, _, items.size, _, _, m, news, J, rfl, Walks.list hh s.heap.objs.size ax (Nat.ne_of_lt hlt) items, ?_, ?_, ?_, ⟨⟨_, Heap.get?_push_size _ rfl, rfl, rfl⟩, hL.push _⟩, F.push _, (fun p hp => ⟨Heap.get?_push_of_some _ (N p hp).1, (N p hp).2⟩), hj, ?_, ?_⟩
  · intro hm
    simp only [List.mem_cons, List.not_mem_nil, or_false] at hm
    rcases hm with e | e
    · exact absurd F.ns.lt (e ▸ Nat.lt_irrefl _)
    · exact hax e.symm
  · intro b hb
    rw [List.mem_singleton.mp hb]
    exact next_is_new F
  · intro p hp hI
    exact absurd (Heap.lt_size (N p hp).1) ((List.mem_singleton.mp hI) ▸ Nat.lt_irrefl _)
  · rintro i v m₁ news₁ s₁ own ⟨h, tk, rfl⟩ hi hv hJ hoff hown _ _ _ F₁ N₁
    exact turn i v m₁ news₁ h tk own _ _ _ _ (fun _ _ h => h) (fun _ _ h => h) hi hv hJ hoff hown F₁ N₁
  · intro h' tk m' news' F' N' _ hJ
    exact done m' news' h' tk hJ F' N'
end
theorem split_two {h₀ h : Heap} {L : Addr} {a b : Addr × Obj} {B : List (Addr × Obj)} (N : News h₀ L h (a :: b :: B)) : ∃ B', B' = B ∧ News h₀ L h (a :: b :: B') := ⟨B, rfl, N⟩
noncomputable def ltr (l : List Int) : List Nat := l.map fun f => (f + 65).toNat
theorem ltr_cast {l : List Int} (h : ∀ f ∈ l, 1 ≤ f ∧ f ≤ 15) : (ltr l).map (fun c : Nat => (c : Int)) = l.map (· + 65) := by
  unfold ltr
  rw [List.map_map]
  apply List.map_congr_left
  intro f hf
  have := h f hf
  simp only [Function.comp]
  omega
theorem cast_inj : ∀ {a b : List Nat}, a.map (fun c : Nat => (c : Int)) = b.map (fun c : Nat => (c : Int)) → a = b
  | [], [], _ => rfl
  | [], _ :: _, h => by simp at h
  | _ :: _, [], h => by simp at h
  | x :: xs, y :: ys, h => by
    simp only [List.map_cons, List.cons.injEq] at h
    rw [cast_inj h.2]
    have : x = y := by omega
    rw [this]
theorem str_ltr {x : Str} {l : List Int} (h : ∀ f ∈ l, 1 ≤ f ∧ f ≤ 15) (e : x.cps.toList.map (fun c : Nat => (c : Int)) = l.map (· + 65)) : x = mkS (ltr l) := by
  have : x.cps.toList = ltr l := cast_inj (e.trans (ltr_cast h).symm)
  cases x
  simp only at this
  simp [← this]
theorem ltr_ok {l : List Int} (h : ∀ f ∈ l, 1 ≤ f ∧ f ≤ 15) : ∀ c ∈ ltr l, 66 ≤ c ∧ c ≤ 80 := by
  intro c hc
  obtain ⟨f, hf, rfl⟩ := List.mem_map.mp hc
  have := h f hf
  omega
theorem ltr_39 {l : List Int} (h : ∀ f ∈ l, 1 ≤ f ∧ f ≤ 15) : 39 ∉ ltr l := fun e => by
  have := ltr_ok h 39 e
  omega
theorem ltr_len (l : List Int) : (ltr l).length = l.length := by simp [ltr]
theorem ltr_app (a b : List Int) : ltr (a ++ b) = ltr a ++ ltr b := by simp [ltr]
theorem figK_in {lo hi : Int} {n0 n1 n2 : Nat} (l1 : 1 ≤ lo) (l2 : lo ≤ 7) (l3 : lo + 1 ≤ hi) (l4 : hi ≤ lo + 8) : ∀ k, ∀ f ∈ figK lo hi n0 n1 n2 k, 1 ≤ f ∧ f ≤ 15 := fun k f hf => figF_in l1 l2 l3 l4 f hf
theorem figK_len {lo hi : Int} {n0 n1 n2 : Nat} (h0 : n0 ≤ 31) (h1 : n1 ≤ 31) (h2 : n2 ≤ 31) : ∀ k, (figK lo hi n0 n1 n2 k).length ≤ 4 := fun k => by
  unfold figK
  refine figF_len 4 _ ?_
  split
  · omega
  · split <;> omega
theorem figK_ne {lo hi : Int} {n0 n1 n2 : Nat} (h0 : 2 ≤ n0) (h1 : 2 ≤ n1) (h2 : 2 ≤ n2) : ∀ k, 1 ≤ (figK lo hi n0 n1 n2 k).length := fun k => by
  unfold figK
  refine List.length_pos_iff.mpr (figF_ne ?_)
  split
  · omega
  · split <;> omega
theorem strs_at : ∀ {vs : List Value} {ns : List Str}, StrsAre vs ns → ∀ (k : Nat) (x : Str), ns[k]? = some x → ∃ t, vs[k]? = some (.str x t)
  | _, _, .cons n t r, 0, x, h => by
    obtain rfl : n = x := by simpa using h
    exact ⟨t, rfl⟩
  | _, _, .cons n t r, k + 1, x, h => by
    obtain ⟨t', e⟩ := strs_at r k x (by simpa using h)
    exact ⟨t', by simpa using e⟩
  | _, _, .nil, k, x, h => by simp at h
theorem words_at {vs : List Value} {ws : List Str} {g : Nat → List Int} (h : StrsAre vs ws) (hl : ws.length = 3) (hg : ∀ k, ∀ f ∈ g k, 1 ≤ f ∧ f ≤ 15)
    (hw : ∀ (j : Nat) x, ws[j]? = some x → x.cps.toList.map (fun c : Nat => (c : Int)) = apI (foldedF 16 0 (g j)).natAbs) : ∀ r, r < 3 → ∃ t, vs[r]? = some (.str (mkS (ltr (g r))) t) := fun r hr => by
  have e : ws[r]? = some ws[r] := by simp [hl, hr]
  have h2 := hw r _ e
  rw [apI_folded _ (hg r)] at h2
  rw [← str_ltr (hg r) h2]
  exact strs_at h r _ e
theorem words_get {ws : List Str} {g : Nat → List Int} (hl : ws.length = 3) (hg : ∀ k, ∀ f ∈ g k, 1 ≤ f ∧ f ≤ 15)
    (hw : ∀ (j : Nat) x, ws[j]? = some x → x.cps.toList.map (fun c : Nat => (c : Int)) = apI (foldedF 16 0 (g j)).natAbs) : ∀ r : Nat, r < 3 → ws.getD ((r : Int)).toNat Str.empty = mkS (ltr (g r)) := fun r hr => by
  have e : ws[r]? = some ws[r] := by simp [hl, hr]
  have h2 := hw r _ e
  rw [apI_folded _ (hg r)] at h2
  rw [Int.toNat_natCast, List.getD, e, Option.getD_some]
  exact str_ltr (hg r) h2
theorem join_tick (ss : List Str) : (Txt.join (Str.ofString "'") ss).cps.toList = match ss with | [] => [] | a :: r => a.cps.toList ++ (r.map (fun x => 39 :: x.cps.toList)).flatten := by
  have key : ∀ (l : List Str) (a : Array Nat), (l.foldl (fun acc p => acc ++ (Str.ofString "'").cps ++ p.cps) a).toList = a.toList ++ (l.map (fun x => 39 :: x.cps.toList)).flatten := by
    intro l
    induction l with
    | nil => intro a; simp
    | cons p r ih => intro a; rw [List.foldl_cons, ih]; simp [show (Str.ofString "'").cps = #[39] from rfl]
  cases ss with
  | nil => rfl
  | cons a r =>
    show (r.foldl (fun acc p => acc ++ (Str.ofString "'").cps ++ p.cps) a.cps).toList = _
    rw [key]
theorem join3 (a b c : List Nat) : Txt.join (Str.ofString "'") [mkS a, mkS b, mkS c] = mkS (a ++ 39 :: (b ++ 39 :: c)) := by
  have := join_tick [mkS a, mkS b, mkS c]
  simp only [List.map_cons, List.map_nil, List.flatten_cons, List.flatten_nil, List.append_nil, List.cons_append] at this
  cases h : Txt.join (Str.ofString "'") [mkS a, mkS b, mkS c]
  rw [h] at this
  simp only at this
  simp [mkS, ← this]
section
variable {w : World} {A : Around} {E : Value → Shared → Prop} {s : Shared}
theorem ne_self {a b : Value} {d : PyData} {as bs : List Addr} {Q : Value → Shared → Prop} (ra : Reads s.heap a d as) (rb : Reads s.heap b d bs) (hs : SeqAt.shaped d = true) (hu : A.units + 64 < cLine) (h : Q (.bool false) s) :
    wpAny (model PR w) A (compareOp .NotEq a b) Q E s := by
  refine ne_dataH ra rb hs hs hu ?_
  rw [SeqAt.eqv_refl d (SeqAt.canLay_of_shaped hs)]
  exact h
theorem strs_carried : ∀ {vs : List Value} {ns : List Str}, StrsAre vs ns → CarriedAll vs (ns.map PyData.str)
  | _, _, .nil => .nil
  | _, _, .cons _ t r => .cons (.str _ t) (strs_carried r)
theorem strs_depth : ∀ ns : List Str, PyData.depthAll (ns.map PyData.str) = 0
  | [] => rfl
  | _ :: r => by simp [PyData.depthAll, PyData.depth, strs_depth r]
theorem strs_lay : ∀ ns : List Str, (∀ x ∈ ns, PyData.strOk x = true) → PyData.canLayAll0 (ns.map PyData.str) = true
  | [], _ => rfl
  | a :: r, h => by
    simp only [List.map_cons, PyData.canLayAll0, PyData.canLay0, Bool.and_eq_true]
    exact ⟨h a (.head _), strs_lay r fun x hx => h x (.tail _ hx)⟩
theorem ne_strs {a b : Addr} {xs ys : List Value} {ns : List Str} {Q : Value → Shared → Prop} (ha : s.heap.IsList a xs.toArray) (hb : s.heap.IsList b ys.toArray) (hx : StrsAre xs ns) (hy : StrsAre ys ns)
    (hok : ∀ x ∈ ns, PyData.strOk x = true) (hu : A.units + 64 < cLine) (h : Q (.bool false) s) : wpAny (model PR w) A (compareOp .NotEq (.ref a) (.ref b)) Q E s :=
  ne_self (reads_newData ha (strs_carried hx)) (reads_newData hb (strs_carried hy)) (by simp [SeqAt.shaped, PyData.canLay0, PyData.depth, strs_lay ns hok, strs_depth]) hu h
theorem ne_ints {a b : Addr} {xs ys : List Value} {ns : List Int} {Q : Value → Shared → Prop} (ha : s.heap.IsList a xs.toArray) (hb : s.heap.IsList b ys.toArray) (hx : IntsAre xs ns) (hy : IntsAre ys ns)
    (hu : A.units + 64 < cLine) (h : Q (.bool false) s) : wpAny (model PR w) A (compareOp .NotEq (.ref a) (.ref b)) Q E s :=
  ne_self (reads_newData ha (ke_carried hx)) (reads_newData hb (ke_carried hy)) (ke_shaped_ints _) hu h
end
theorem ok_mkS {l : List Nat} (h : ∀ c ∈ l, c ≤ 80) : PyData.strOk (mkS l) = true := by
  unfold PyData.strOk
  simp only [mkS, List.all_toArray, List.all_eq_true, decide_eq_true_eq]
  intro c hc
  have := h c hc
  omega
theorem mkS_add (a : List Nat) : mkS a ++ Str.ofString "'" = mkS (a ++ [39]) := by
  show Str.mk (a.toArray ++ #[39]) = _
  simp [mkS]
theorem sub_at {w : World} {A : Around} {E : Value → Shared → Prop} {s : Shared} {value slice : Expr} {l : Addr} {vs : List Value} {n : Nat} {k : Nat} {t : Tok} {v : Value} {Q : Value → Shared → Prop}
    (hl : s.heap.get? l = some (listOf vs.toArray n)) (hv : vs[k]? = some v) (hk : k < 1000) (h : Q v s)
    (hs : subscripted slice false (.ref l) (.int (k : Int) t) = operate [.ref l, .int (k : Int) t] (getItem (.ref l) (.int (k : Int) t)) := by with_unfolding_all rfl) :
    wpAny (model PR w) A (subscriptTail value slice (.ref l) (.int (k : Int) t)) Q E s :=
  have hL : s.heap.IsList l vs.toArray := ⟨_, hl, rfl, n, rfl⟩
  tail_any hL.typeIs slot_list_getitem.lookup (wpAny_getItem_list hL (by omega) (by omega) (by simpa using hv) h) hs
theorem blocks_ok {g : Nat → List Int} (g1 : ∀ k, ∀ f ∈ g k, 1 ≤ f ∧ f ≤ 15) (g2 : ∀ k, (g k).length ≤ 4) (a b c : Nat) : ∀ cs ∈ [(g a).map (· + 65), (g b).map (· + 65), (g c).map (· + 65)], cs.length ≤ 64 ∧ ∀ x ∈ cs, 65 ≤ x ∧ x ≤ 80 := by
  have key : ∀ k, ((g k).map (· + 65)).length ≤ 64 ∧ ∀ x ∈ (g k).map (· + 65), 65 ≤ x ∧ x ≤ 80 := fun k => by
    refine ⟨by rw [List.length_map]; have := g2 k; omega, fun x hx => ?_⟩
    obtain ⟨f, hf, rfl⟩ := List.mem_map.mp hx
    have := g1 k f hf
    omega
  intro cs h
  simp only [List.mem_cons, List.not_mem_nil, or_false] at h
  rcases h with rfl | rfl | rfl <;> exact key _
theorem told3 {g : Nat → List Int} (g1 : ∀ k, ∀ f ∈ g k, 1 ≤ f ∧ f ≤ 15) (a b c : Nat) : (mkS (ltr (g a) ++ 39 :: (ltr (g b) ++ 39 :: (ltr (g c) ++ [39])))).cps.toList.map (fun c : Nat => (c : Int)) = ([(g a).map (· + 65), (g b).map (· + 65), (g c).map (· + 65)].map (· ++ [39])).flatten := by
  have ha := ltr_cast (g1 a)
  have hb := ltr_cast (g1 b)
  have hc := ltr_cast (g1 c)
  simp only [List.map_append, List.map_cons, List.map_nil, ha, hb, hc, List.flatten_cons, List.flatten_nil]
  simp
theorem told3_vals {g : Nat → List Int} (g1 : ∀ k, ∀ f ∈ g k, 1 ≤ f ∧ f ≤ 15) (a b c : Nat) : ([(g a).map (· + 65), (g b).map (· + 65), (g c).map (· + 65)].map fun cs => pvF (cs ++ [39])) = [a, b, c].map fun r => foldedF 64 1 (g r) * 64 + 39 := by
  simp only [List.map_cons, List.map_nil, pvF_tick _ (g1 _)]
theorem join0 (a b c : List Nat) : Txt.join (Str.ofString "") [mkS a, mkS b, mkS c] = mkS (a ++ (b ++ c)) := by
  have := Mine.join_nil [mkS a, mkS b, mkS c]
  simp only [List.map_cons, List.map_nil, List.flatten_cons, List.flatten_nil, List.append_nil] at this
  cases h : Txt.join (Str.ofString "") [mkS a, mkS b, mkS c]
  rw [h] at this
  simp only at this
  simp [mkS, ← this]
theorem ne_none3 {w : World} {A : Around} {E : Value → Shared → Prop} {s : Shared} {a b : Addr} {x : Str} {t u : Tok} {o o' : Obj} {n n' : Nat} {Q : Value → Shared → Prop} (ha : s.heap.get? a = some o) (hb : s.heap.get? b = some o') (ca : o.cls = .type "tuple") (cb : o'.cls = .type "tuple")
    (da : o.data = .seq #[.none, .none, .str x t] n) (db : o'.data = .seq #[.none, .none, .str x u] n')
    (hok : PyData.strOk x = true) (hu : A.units + 64 < cLine) (h : Q (.bool false) s) : wpAny (model PR w) A (compareOp .NotEq (.ref a) (.ref b)) Q E s :=
  ne_self (d := .tuple [.none, .none, .str x]) (reads_tuple_at ha ca da (.cons .none (.cons .none (.cons (.str _ _) .nil)))) (reads_tuple_at hb cb db (.cons .none (.cons .none (.cons (.str _ _) .nil)))) (by simp [SeqAt.shaped, PyData.canLay0, PyData.canLayAll0, PyData.depth, PyData.depthAll, hok]) hu h
theorem foldA {A : List Int} (h : ∀ f ∈ A, 1 ≤ f ∧ f ≤ 15) (hl : A.length ≤ 12) : (foldedF 16 0 A).natAbs < 16 ^ 13 := by
  obtain ⟨b1, b2⟩ := folded16_bounds A (fun f hf => by have := h f hf; omega)
  have := pow16_le hl
  have e : (16 : Int) ^ 12 = 281474976710656 := by decide
  have e2 : 16 ^ 13 = 4503599627370496 := by decide
  omega
theorem cut_row (A : List Int) : Txt.slice (mkS (ltr A ++ [39])) none (some (-(1 : Int))) = mkS (ltr A) := by
  have := sl_to (l := ltr A ++ [39]) (k := 1) (by decide) (by simp)
  rw [show (-((1 : Nat) : Int)) = -1 from rfl] at this
  rw [this]
  simp
theorem u8_inj : ∀ {a b : List UInt8}, a.map (fun u => (u.toNat : Int)) = b.map (fun u => (u.toNat : Int)) → a = b
  | [], [], _ => rfl
  | [], _ :: _, h => by simp at h
  | _ :: _, [], h => by simp at h
  | x :: xs, y :: ys, h => by
    simp only [List.map_cons, List.cons.injEq] at h
    rw [u8_inj h.2]
    have : x.toNat = y.toNat := by omega
    rw [UInt8.toNat_inj.mp this]
theorem bInts_eq {a b : Array UInt8} (h : KBw.bInts a = KBw.bInts b) : a = b := by
  have : a.toList = b.toList := u8_inj h
  cases a; cases b
  simpa using this
theorem ne_bytes_self {w : World} {A : Around} {E : Value → Shared → Prop} {s : Shared} {b c : Array UInt8} {t u : Tok} {Q : Value → Shared → Prop} (e : KBw.bInts b = KBw.bInts c) (h : Q (.bool false) s) :
    wpAny (model PR w) A (compareOp .NotEq (.bytes b t) (.bytes c u)) Q E s := by
  refine ne_bytes ?_
  rw [bInts_eq e]
  simpa using h
theorem told1 {A : List Int} (h : ∀ f ∈ A, 1 ≤ f ∧ f ≤ 15) : (mkS (ltr A ++ [39])).cps.toList.map (fun c : Nat => (c : Int)) = ([A.map (· + 65)].map (· ++ [39])).flatten := by
  have := ltr_cast h
  simp only [List.map_append, List.map_cons, List.map_nil, this, List.flatten_cons, List.flatten_nil]
  simp
theorem block1_ok {A : List Int} (h : ∀ f ∈ A, 1 ≤ f ∧ f ≤ 15) (hl : A.length ≤ 12) : ∀ cs ∈ [A.map (· + 65)], cs.length ≤ 64 ∧ ∀ x ∈ cs, 65 ≤ x ∧ x ≤ 80 := by
  intro cs hcs
  rw [List.mem_singleton.mp hcs]
  refine ⟨by rw [List.length_map]; omega, fun x hx => ?_⟩
  obtain ⟨f, hf, rfl⟩ := List.mem_map.mp hx
  have := h f hf
  omega
theorem told1_vals {A : List Int} (h : ∀ f ∈ A, 1 ≤ f ∧ f ≤ 15) : ([A.map (· + 65)].map fun cs => pvF (cs ++ [39])) = [foldedF 64 1 A * 64 + 39] := by
  simp only [List.map_cons, List.map_nil, pvF_tick _ h]
theorem rows_step {g : Nat → List Int} {rs : List Str} {i : Nat} {q : Nat × Nat × Nat} {A : List Int} (hl : rs.length = i) (hP : P6[i]? = some q) (hA : g q.1 ++ g q.2.1 ++ g q.2.2 = A) (h1 : ∀ f ∈ A, 1 ≤ f ∧ f ≤ 15)
    (h : ∀ (j : Nat) x t, rs[j]? = some x → P6[j]? = some t → x.cps.toList.map (fun c : Nat => (c : Int)) = rowK g t) :
    ∀ (j : Nat) x t, (rs ++ [mkS (ltr A ++ [39])])[j]? = some x → P6[j]? = some t → x.cps.toList.map (fun c : Nat => (c : Int)) = rowK g t := by
  intro j x t hj ht
  by_cases hlt : j < rs.length
  · rw [List.getElem?_append_left hlt] at hj
    exact h j x t hj ht
  · rw [List.getElem?_append_right (by omega)] at hj
    have hj0 : j - rs.length = 0 := by
      rcases Nat.eq_zero_or_pos (j - rs.length) with e | e
      · exact e
      · rw [List.getElem?_eq_none (by simp; omega)] at hj
        cases hj
    have hji : j = i := by omega
    subst hji
    rw [hj0] at hj
    obtain rfl := Option.some.inj hj
    rw [hP] at ht
    obtain rfl := Option.some.inj ht
    rw [rowK, hA]
    have := ltr_cast h1
    simp only [List.map_append, this, List.map_cons, List.map_nil]
    rfl
theorem wholes_step {g : Nat → List Int} {wv : List Value} {i : Nat} {q : Nat × Nat × Nat} {A : List Int} {t : Tok} (hP : P6[i]? = some q) (hA : g q.1 ++ g q.2.1 ++ g q.2.2 = A) (h : IntsAre wv ((P6.take i).map (wholeK g))) :
    IntsAre (wv ++ [.int (foldedF 64 1 A * 64 + 39) t]) ((P6.take (i + 1)).map (wholeK g)) := by
  rw [List.take_add_one, hP, Option.toList_some, List.map_append, List.map_cons, List.map_nil, wholeK, hA]
  exact ints_snoc h
noncomputable def lst (ms : List Int) : PyData := .list (ms.map PyData.int)
theorem lst_lay (ms : List Int) : (lst ms).canLay0 = true := SeqAt.canLay_of_shaped (ke_shaped_ints ms)
theorem lsts_lay : ∀ dO : List (List Int), PyData.canLayAll0 (dO.map lst) = true
  | [] => rfl
  | a :: r => by simp only [List.map_cons, PyData.canLayAll0, lst_lay, lsts_lay r, Bool.and_true]
theorem lst_depth (ms : List Int) : (lst ms).depth ≤ 1 := by simp [lst, PyData.depth, ke_depthAll]
theorem lst_eqv (a b : List Int) : PyData.eqv (lst a) (lst b) = decide (a = b) := by
  simp only [lst, PyData.eqv, ked_eqvAll]
theorem index_lists {w : World} {A : Around} {E : Value → Shared → Prop} {s : Shared} {l x : Addr} {es : List Value} {n : Nat} {dO : List (List Int)} {ms : List Int} {j : Nat} {as bs : List Addr} {Q : Value → Shared → Prop}
    (hl : s.heap.get? l = some (listOf es.toArray n)) (rs : ReadsAll s.heap es (dO.map lst) as) (rx : Reads s.heap (.ref x) (lst ms) bs) (hj : dO[j]? = some ms) (hno : ∀ k, k < j → dO[k]? ≠ some ms)
    (hu : A.units + 64 < cLine) (hj2 : j < 1000) (h : Q (.int (j : Nat) s.toks) { s with toks := s.toks + 1 }) :
    wpAny (model PR w) A (call (.builtin "list.index") [.ref l, .ref x]) Q E s := by
  have hm := SeqAt.readsAll_map _ _ _ (lsts_lay dO) rs
  have hlen : es.length = dO.length := by
    have := congrArg List.length hm
    simpa using this
  obtain ⟨hjl, hje⟩ := List.getElem?_eq_some_iff.mp hj
  have at_ : ∀ k (hk : k < es.length), SeqAt.readOf s.heap es[k] = lst (dO[k]'(by omega)) := fun k hk => by
    have := congrArg (fun z => z[k]?) hm
    simp only [List.getElem?_map, List.getElem?_eq_getElem hk, List.getElem?_eq_getElem (show k < dO.length by omega), Option.map_some] at this
    exact Option.some.inj this
  refine call_meets PySem.F.slot_list_index ⟨_, hl, rfl⟩ PySem.F.entry_list_index (PySem.F.args_list_index_2 _ _)
    (SeqAt.list_indexAt l es.toArray n none #[] (.ref x) (fun y => PyData.eqv (SeqAt.readOf s.heap y) (lst ms)) j (by simpa [hlen] using hjl) (by omega) ?_ ?_) ⟨hl, SeqAt.items_eqAt (by simpa using rs) rx (lsts_lay dO) (lst_lay ms) ?_, h⟩
  · show PyData.eqv (SeqAt.readOf s.heap es[j]) (lst ms) = true
    rw [at_ j (by omega), hje, lst_eqv]
    simp
  · intro k hk hlt
    have hk' : k < es.length := by simpa using hk
    show PyData.eqv (SeqAt.readOf s.heap es[k]) (lst ms) = false
    rw [at_ k hk', lst_eqv]
    have := hno k hlt
    rw [List.getElem?_eq_getElem (show k < dO.length by omega)] at this
    simpa using this
  · have h1 := Nat.min_le_right (PyData.depthAll (dO.map lst)) (lst ms).depth
    have h2 := lst_depth ms
    show A.units + 1 + _ < cLine
    omega
noncomputable def P6L : List (List Int) := [[0, 1, 2], [0, 2, 1], [1, 0, 2], [1, 2, 0], [2, 0, 1], [2, 1, 0]]
theorem p6 : ∀ i, i < 6 → ∃ q0 q1 q2 iq il : Nat, P6[i]? = some (q0, q1, q2) ∧ q0 < 3 ∧ q1 < 3 ∧ q2 < 3 ∧ iq < 6 ∧ il < 6 ∧ P6[iq]? = some (q1, q0, q2) ∧ P6[il]? = some (q1, q2, q0) ∧
    P6L[iq]? = some [(q1 : Int), (q0 : Int), (q2 : Int)] ∧ P6L[il]? = some [(q1 : Int), (q2 : Int), (q0 : Int)] ∧ (∀ k, k < iq → P6L[k]? ≠ some [(q1 : Int), (q0 : Int), (q2 : Int)]) ∧ (∀ k, k < il → P6L[k]? ≠ some [(q1 : Int), (q2 : Int), (q0 : Int)])
  | 0, _ => ⟨0, 1, 2, 2, 3, by decide⟩
  | 1, _ => ⟨0, 2, 1, 4, 5, by decide⟩
  | 2, _ => ⟨1, 0, 2, 0, 1, by decide⟩
  | 3, _ => ⟨1, 2, 0, 5, 4, by decide⟩
  | 4, _ => ⟨2, 0, 1, 1, 0, by decide⟩
  | 5, _ => ⟨2, 1, 0, 3, 2, by decide⟩
  | n + 6, h => absurd h (by omega)
noncomputable def rowS (g : Nat → List Int) (t : Nat × Nat × Nat) : Str := mkS (ltr (g t.1 ++ g t.2.1 ++ g t.2.2) ++ [39])
theorem rowS_of {g : Nat → List Int} (g1 : ∀ k, ∀ f ∈ g k, 1 ≤ f ∧ f ≤ 15) {x : Str} {t : Nat × Nat × Nat} (h : x.cps.toList.map (fun c : Nat => (c : Int)) = rowK g t) : x = rowS g t := by
  have hA : ∀ f ∈ g t.1 ++ g t.2.1 ++ g t.2.2, 1 ≤ f ∧ f ≤ 15 := by
    intro f hf
    rcases List.mem_append.mp hf with hf | hf
    · rcases List.mem_append.mp hf with hf | hf <;> exact g1 _ f hf
    · exact g1 _ f hf
  have e : (ltr (g t.1 ++ g t.2.1 ++ g t.2.2) ++ [39]).map (fun c : Nat => (c : Int)) = rowK g t := by
    rw [List.map_append, ltr_cast hA]
    rfl
  have := cast_inj (h.trans e.symm)
  cases x
  simp only at this
  unfold rowS mkS
  rw [← this]
theorem rows_get {g : Nat → List Int} (g1 : ∀ k, ∀ f ∈ g k, 1 ≤ f ∧ f ≤ 15) {rv : List Value} {rs : List Str} (hrs : StrsAre rv rs) (hl : rs.length = 6)
    (hw : ∀ (j : Nat) x t, rs[j]? = some x → P6[j]? = some t → x.cps.toList.map (fun c : Nat => (c : Int)) = rowK g t) {k : Nat} {t : Nat × Nat × Nat} (hk : k < 6) (ht : P6[k]? = some t) : ∃ u, rv[k]? = some (.str (rowS g t) u) := by
  have e : rs[k]? = some rs[k] := by simp [hl, hk]
  have h := rowS_of g1 (hw k _ t e ht)
  obtain ⟨u, hu⟩ := strs_at hrs k _ e
  exact ⟨u, by rw [hu, h]⟩
theorem wholes_get {g : Nat → List Int} {wv : List Value} (h : IntsAre wv (P6.map (wholeK g))) {k : Nat} {t : Nat × Nat × Nat} (ht : P6[k]? = some t) : ∃ u, wv[k]? = some (.int (wholeK g t) u) :=
  h.get k _ (by rw [List.getElem?_map, ht]; rfl)
noncomputable abbrev f16 (l : List Int) : Int := foldedF 16 0 l
noncomputable abbrev f64 (l : List Int) : Int := foldedF 64 1 l
theorem folded_app (b m : Int) (x : List Int) : ∀ y : List Int, foldedF b m (x ++ y) = foldedF b m x * b ^ y.length + foldedF b m y := by
  refine snoc_ind ?_ ?_
  · simp [foldedF]
  · intro l a ih
    rw [← List.append_assoc, foldedF_snoc, ih, foldedF_snoc, List.length_append, List.length_singleton, Int.pow_succ]
    rw [Int.add_mul, Int.mul_assoc]
    omega
theorem lead_eq (a b : List Int) : leadF a b = f16 (a ++ b) - f16 (b ++ a) := by
  unfold leadF f16
  rw [folded_app, folded_app 16 0 b a, Int.mul_sub, Int.mul_sub]
  omega
noncomputable def dig (l : List Int) : Prop := ∀ f ∈ l, 1 ≤ f ∧ f ≤ 15
theorem dig_app {a b : List Int} (ha : dig a) (hb : dig b) : dig (a ++ b) := by
  intro f hf
  rcases List.mem_append.mp hf with hf | hf
  · exact ha f hf
  · exact hb f hf
theorem cmp_base : ∀ (n : Nat) (x y : List Int), x.length = n → y.length = n → dig x → dig y → (f16 x < f16 y ↔ f64 x < f64 y) ∧ (f16 y < f16 x ↔ f64 y < f64 x)
  | 0, x, y, hx, hy, _, _ => by
    obtain rfl := List.length_eq_zero_iff.mp hx
    obtain rfl := List.length_eq_zero_iff.mp hy
    simp [foldedF]
  | n + 1, x, y, hx, hy, dx, dy => by
    have hxe : x ≠ [] := by intro e; subst e; simp at hx
    have hye : y ≠ [] := by intro e; subst e; simp at hy
    obtain ⟨u, a, rfl⟩ : ∃ r c, x = r ++ [c] := ⟨x.dropLast, x.getLast hxe, (List.dropLast_concat_getLast hxe).symm⟩
    obtain ⟨v, b, rfl⟩ : ∃ r c, y = r ++ [c] := ⟨y.dropLast, y.getLast hye, (List.dropLast_concat_getLast hye).symm⟩
    have ih := cmp_base n u v (by simpa using hx) (by simpa using hy) (fun f hf => dx f (List.mem_append_left _ hf)) (fun f hf => dy f (List.mem_append_left _ hf))
    have ha := dx a (List.mem_append_right _ (.head _))
    have hb := dy b (List.mem_append_right _ (.head _))
    unfold f16 f64 at ih ⊢
    rw [foldedF_snoc, foldedF_snoc, foldedF_snoc, foldedF_snoc]
    omega
theorem pow_pos' (b : Int) (hb : 0 < b) (n : Nat) : 0 < b ^ n := Int.pow_pos hb
theorem lead_f64 {a b : List Int} (ha : dig a) (hb : dig b) : (0 < leadF a b ↔ f64 (b ++ a) < f64 (a ++ b)) ∧ (leadF a b < 0 ↔ f64 (a ++ b) < f64 (b ++ a)) := by
  have := cmp_base (a.length + b.length) (a ++ b) (b ++ a) (by simp) (by simp; omega) (dig_app ha hb) (dig_app hb ha)
  rw [lead_eq]
  omega
theorem mul_cmp {u v k : Int} (hk : 0 < k) : (u * k < v * k ↔ u < v) := ⟨fun h => Int.lt_of_mul_lt_mul_right h (Int.le_of_lt hk), fun h => Int.mul_lt_mul_of_pos_right h hk⟩
theorem swap1 {a b : List Int} (ha : dig a) (hb : dig b) (c : List Int) : (0 < leadF a b ↔ f64 (b ++ a ++ c) < f64 (a ++ b ++ c)) ∧ (leadF a b < 0 ↔ f64 (a ++ b ++ c) < f64 (b ++ a ++ c)) := by
  have h := lead_f64 ha hb
  unfold f64 at h ⊢
  rw [folded_app 64 1 (b ++ a), folded_app 64 1 (a ++ b)]
  have e := pow_pos' 64 (by decide) c.length
  have e1 := mul_cmp (u := foldedF 64 1 (b ++ a)) (v := foldedF 64 1 (a ++ b)) e
  have e2 := mul_cmp (u := foldedF 64 1 (a ++ b)) (v := foldedF 64 1 (b ++ a)) e
  omega
theorem swap2 {b c : List Int} (hb : dig b) (hc : dig c) (a : List Int) : (0 < leadF b c ↔ f64 (a ++ c ++ b) < f64 (a ++ b ++ c)) ∧ (leadF b c < 0 ↔ f64 (a ++ b ++ c) < f64 (a ++ c ++ b)) := by
  have h := lead_f64 hb hc
  unfold f64 at h ⊢
  rw [List.append_assoc, List.append_assoc, folded_app 64 1 a, folded_app 64 1 a (b ++ c), List.length_append, List.length_append, Nat.add_comm c.length]
  omega
theorem lead_trans {a b c : List Int} (hb : b ≠ []) (h1 : 0 ≤ leadF a b) (h2 : 0 ≤ leadF b c) : 0 ≤ leadF a c := by
  unfold leadF at *
  have hpos : ∀ l : List Int, 0 ≤ (16 : Int) ^ l.length - 1 := fun l => by have := pow_pos' 16 (by decide) l.length; omega
  have hbp : 0 < (16 : Int) ^ b.length - 1 := by
    cases b with
    | nil => exact absurd rfl hb
    | cons x r =>
      rw [List.length_cons, Int.pow_succ]
      have := pow_pos' 16 (by decide) r.length
      omega
  have ha := hpos a
  have hc := hpos c
  generalize (16 : Int) ^ a.length - 1 = A at *
  generalize (16 : Int) ^ b.length - 1 = B at *
  generalize (16 : Int) ^ c.length - 1 = C at *
  generalize foldedF 16 0 a = x at *
  generalize foldedF 16 0 b = y at *
  generalize foldedF 16 0 c = z at *
  have k1 : (y * A) * C ≤ (x * B) * C := Int.mul_le_mul_of_nonneg_right (by omega) hc
  have k2 : (z * B) * A ≤ (y * C) * A := Int.mul_le_mul_of_nonneg_right (by omega) ha
  have k3 : (y * A) * C = (y * C) * A := by rw [Int.mul_assoc, Int.mul_comm A C, ← Int.mul_assoc]
  have k4 : (z * B) * A = (z * A) * B := by rw [Int.mul_assoc, Int.mul_comm B A, ← Int.mul_assoc]
  have k5 : (x * B) * C = (x * C) * B := by rw [Int.mul_assoc, Int.mul_comm B C, ← Int.mul_assoc]
  have k6 : (z * A) * B ≤ (x * C) * B := by omega
  have := Int.le_of_mul_le_mul_right k6 hbp
  omega
theorem whole_eq (g : Nat → List Int) (t : Nat × Nat × Nat) : wholeK g t = f64 (g t.1 ++ g t.2.1 ++ g t.2.2) * 64 + 39 := rfl
theorem p6_perm : ∀ t ∈ P6, ∀ t' ∈ P6, t' = t ∨ t' = (t.1, t.2.2, t.2.1) ∨ t' = (t.2.1, t.1, t.2.2) ∨ t' = (t.2.1, t.2.2, t.1) ∨ t' = (t.2.2, t.1, t.2.1) ∨ t' = (t.2.2, t.2.1, t.1) := by decide
theorem p6_swaps : ∀ t ∈ P6, (t.1, t.2.2, t.2.1) ∈ P6 ∧ (t.2.1, t.1, t.2.2) ∈ P6 := by decide
theorem le_swap1 {a b : List Int} (ha : dig a) (hb : dig b) (c : List Int) (h : 0 ≤ leadF a b) : f64 (b ++ a ++ c) ≤ f64 (a ++ b ++ c) := Int.not_lt.mp fun e => Int.not_lt.mpr h ((swap1 ha hb c).2.mpr e)
theorem le_swap2 {b c : List Int} (hb : dig b) (hc : dig c) (a : List Int) (h : 0 ≤ leadF b c) : f64 (a ++ c ++ b) ≤ f64 (a ++ b ++ c) := Int.not_lt.mp fun e => Int.not_lt.mpr h ((swap2 hb hc a).2.mpr e)
theorem whole_le {x y : Int} (h : x ≤ y) : x * 64 + 39 ≤ y * 64 + 39 := by omega
theorem whole_lt {x y : Int} (h : x < y) : x * 64 + 39 < y * 64 + 39 := by omega
theorem max6 {g : Nat → List Int} (g1 : ∀ k, dig (g k)) (g3 : ∀ k, 1 ≤ (g k).length) {q0 q1 q2 : Nat} (hP : (q0, q1, q2) ∈ P6) {M : Int} (hM : M ∈ P6.map (wholeK g)) (hx : ∀ a ∈ P6.map (wholeK g), a ≤ M) :
    (wholeK g (q0, q1, q2) == M) = (decide (0 ≤ leadF (g q0) (g q1)) && decide (0 ≤ leadF (g q1) (g q2))) := by
  have ne : ∀ k, g k ≠ [] := fun k e => by have := g3 k; rw [e] at this; simp at this
  have le0 := hx _ (List.mem_map_of_mem hP)
  obtain ⟨m1, m2⟩ := p6_swaps _ hP
  have le1 := hx _ (List.mem_map_of_mem m1)
  have le2 := hx _ (List.mem_map_of_mem m2)
  clear hx
  by_cases h1 : 0 ≤ leadF (g q0) (g q1)
  · by_cases h2 : 0 ≤ leadF (g q1) (g q2)
    · rw [decide_eq_true h1, decide_eq_true h2, Bool.and_true]
      have h3 := lead_trans (ne q1) h1 h2
      obtain ⟨t, ht, rfl⟩ := List.mem_map.mp hM
      apply beq_iff_eq.mpr
      refine Int.le_antisymm le0 ?_
      have s1 := le_swap1 (g1 q0) (g1 q1) (g q2) h1
      have s2 := le_swap2 (g1 q1) (g1 q2) (g q0) h2
      have s3 := le_swap2 (g1 q0) (g1 q2) (g q1) h3
      have s4 := le_swap1 (g1 q0) (g1 q2) (g q1) h3
      have s5 := le_swap2 (g1 q0) (g1 q1) (g q2) h1
      rcases p6_perm _ hP t ht with rfl | rfl | rfl | rfl | rfl | rfl
      · exact Int.le_refl _
      · exact whole_le s2
      · exact whole_le s1
      · exact whole_le (Int.le_trans s3 s1)
      · exact whole_le (Int.le_trans s4 s2)
      · exact whole_le (Int.le_trans s5 (Int.le_trans s4 s2))
    · rw [decide_eq_false h2, Bool.and_false]
      apply beq_false_of_ne
      intro e
      rw [← e] at le1
      have := whole_lt ((swap2 (g1 q1) (g1 q2) (g q0)).2.mp (Int.not_le.mp h2))
      exact Int.not_le.mpr this le1
  · rw [decide_eq_false h1, Bool.false_and]
    apply beq_false_of_ne
    intro e
    rw [← e] at le2
    have := whole_lt ((swap1 (g1 q0) (g1 q1) (g q2)).2.mp (Int.not_le.mp h1))
    exact Int.not_le.mpr this le2
theorem law_swap {g : Nat → List Int} (g1 : ∀ k, dig (g k)) (q0 q1 q2 : Nat) : decide (wholeK g (q1, q0, q2) < wholeK g (q0, q1, q2)) = decide (0 < leadF (g q0) (g q1)) := by
  have s1 := swap1 (g1 q0) (g1 q1) (g q2)
  simp only [whole_eq]
  apply decide_eq_decide.mpr
  omega
theorem law_around {g : Nat → List Int} (g1 : ∀ k, dig (g k)) (q0 q1 q2 : Nat) : decide (wholeK g (q1, q2, q0) < wholeK g (q0, q1, q2)) = decide (0 < leadF (g q0) (g q1 ++ g q2)) ∧ decide (wholeK g (q0, q1, q2) < wholeK g (q1, q2, q0)) = decide (leadF (g q0) (g q1 ++ g q2) < 0) := by
  have s1 := lead_f64 (g1 q0) (dig_app (g1 q1) (g1 q2))
  simp only [whole_eq]
  rw [← List.append_assoc] at s1
  constructor <;> apply decide_eq_decide.mpr <;> omega
noncomputable def ValEnd (s₁ : Shared) (h₀ : Heap) (L : Addr) (m : Str → Option Value) (l : List (Addr × Obj)) (v w : Value) (s' : Shared) : Prop := w = v ∧ ∃ h tk, s' = { s₁ with heap := h, toks := tk } ∧ Fr h₀ L h m ∧ News h₀ L h l
theorem val_cut {M : Model} {A : Around} {s : Shared} {E : Value → Shared → Prop} {Q : Value → Shared → Prop} {x : Sem Value} {h₀ : Heap} {L : Addr} {m : Str → Option Value} {l : List (Addr × Obj)} (_F : Fr h₀ L s.heap m) (_N : News h₀ L s.heap l) (v : Value)
    (h1 : wpAny M A x (ValEnd s h₀ L m l v) E s) (h2 : ∀ h tk, Fr h₀ L h m → News h₀ L h l → Q v { s with heap := h, toks := tk }) : wpAny M A x Q E s :=
  wpAny_mono h1 (fun w s' ⟨e, h, tk, e2, F, N⟩ => by subst e; subst e2; exact h2 h tk F N) fun _ _ x => x
theorem ne_bool_same {w : World} {A : Around} {s : Shared} {E : Value → Shared → Prop} {Q : Value → Shared → Prop} {a b : Bool} (e : a = b) (h : Q (.bool false) s) : wpAny (model PR w) A (compareOp .NotEq (.bool a) (.bool b)) Q E s := by
  subst e
  refine ne_bool ?_
  simpa using h
theorem ne_bools2 {w : World} {A : Around} {E : Value → Shared → Prop} {s : Shared} {a b : Addr} {x y x' y' : Bool} {o o' : Obj} {n n' : Nat} {Q : Value → Shared → Prop} (ha : s.heap.get? a = some o) (hb : s.heap.get? b = some o') (ca : o.cls = .type "tuple") (cb : o'.cls = .type "tuple")
    (da : o.data = .seq #[.bool x, .bool y] n) (db : o'.data = .seq #[.bool x', .bool y'] n') (ex : x = x') (ey : y = y')
    (hu : A.units + 64 < cLine) (h : Q (.bool false) s) : wpAny (model PR w) A (compareOp .NotEq (.ref a) (.ref b)) Q E s := by
  subst ex ey
  exact ne_self (d := .tuple [.bool x, .bool y]) (reads_tuple_at ha ca da (.cons (.bool _) (.cons (.bool _) .nil))) (reads_tuple_at hb cb db (.cons (.bool _) (.cons (.bool _) .nil))) (by rfl) hu h
abbrev itO (x : Str) (t : Tok) (k : Nat) : Obj := { cls := .type "str_ascii_iterator", data := .fields #[.str x t, .int k 0] }
abbrev zH1 (h : Heap) (x : Str) (t : Tok) : Heap := h.push (itO x t 0)
abbrev zH2 (h : Heap) (x y : Str) (t u : Tok) : Heap := (zH1 h x t).push (itO y u 0)
abbrev zH3 (h : Heap) (x y : Str) (t u : Tok) : Heap := (zH2 h x y t u).push { cls := .type "tuple", data := .seq #[.ref h.objs.size, .ref (zH1 h x t).objs.size] }
abbrev zH4 (h : Heap) (x y : Str) (t u : Tok) : Heap := (zH3 h x y t u).push { cls := .type "tuple", data := .seq #[.none, .none] }
abbrev zH5 (h : Heap) (x y : Str) (t u : Tok) : Heap := (zH4 h x y t u).push { cls := .type "zip", data := .fields #[.none, .bool false, .bool false, .ref (zH2 h x y t u).objs.size, .ref (zH3 h x y t u).objs.size] }
theorem meets_zip_strs (x y : Str) (t u : Tok) (ax : x.cps.all (· < 128) = true) (ay : y.cps.all (· < 128) = true) :
    Meets (Builtin.«zip.__new__» ⟨[.type "zip", .str x t, .str y u], []⟩) (fun _ R s => R (.ok (.ret (.ref (zH4 s.heap x y t u).objs.size))) { s with heap := zH5 s.heap x y t u }) :=
  .of_wp fun prog w A R s h => by
    obtain ⟨hp, g, d, tk, os⟩ := s
    have hsub := sub_zip
    wp_walk using wpAny_pyIter_ascii ax, wpAny_pyIter_ascii ay
    exact ⟨_, rfl, h⟩
theorem call_zip_strs {w : World} {A : Around} {E : Value → Shared → Prop} {s : Shared} {x y : Str} {t u : Tok} {Q : Value → Shared → Prop} (ax : x.cps.all (· < 128) = true) (ay : y.cps.all (· < 128) = true)
    (h : Q (.ref (zH4 s.heap x y t u).objs.size) { s with heap := zH5 s.heap x y t u }) :
    wpAny (model PR w) A (call (.type "zip") [.str x t, .str y u]) Q E s := by
  refine callType_new F.called_zip (by decide) (F.typeCall_zip_2 _ _) (F.newCall_zip_2 _ _) (fun obj => F.args_object_init_3 obj _ _) F.entry_zip_new
    (meets_zip_strs x y t u ax ay) ?_
  exact ⟨⟨_, Heap.get?_push_size _ rfl, rfl⟩, h⟩
structure ZA (z TI TO i1 i2 : Addr) : Prop where
  a : TI ≠ z
  b : TO ≠ z
  c : i1 ≠ z
  d : i2 ≠ z
  e : TI ≠ TO
  f : TI ≠ i1
  g : TI ≠ i2
  h : TO ≠ i1
  i : TO ≠ i2
  j : i1 ≠ i2
noncomputable def ZSt (z TI TO i1 i2 : Addr) (x y : Str) (t u : Tok) (f0 : Value) (k : Nat) (h : Heap) : Prop :=
  IsZip h z TI TO f0 ∧ IsPair h TI (.ref i1) (.ref i2) ∧ (∃ a b, IsPair h TO a b) ∧ h.IsStrIter i1 "str_ascii_iterator" x t k ∧ h.IsStrIter i2 "str_ascii_iterator" y u k
section
variable {w : World} {A : Around} {E : Value → Shared → Prop} {s : Shared} {z TI TO i1 i2 : Addr} {x y : Str} {t u : Tok} {k : Nat}
theorem zs_item {c d : Nat} {Q : Value → Shared → Prop} (D : ZA z TI TO i1 i2) (st : ZSt z TI TO i1 i2 x y t u .none k s.heap) (hx : x.cps[k]? = some c) (hy : y.cps[k]? = some d)
    (hQ : ∀ (h' : Heap) (T : Addr) (tk : Nat), ZSt z TI TO i1 i2 x y t u (rawInt (T : Nat)) (k + 1) h' → (∃ v v', IsPair h' T (.str ⟨#[c]⟩ v) (.str ⟨#[d]⟩ v')) → s.heap.get? T = none → (∀ b o, b ≠ z → b ≠ TO → b ≠ i1 → b ≠ i2 → s.heap.get? b = some o → h'.get? b = some o) →
      Q (.ref T) { s with heap := h', toks := tk }) :
    wpAny (model PR w) A (Builtin.«zip.__next__» ⟨[.ref z], []⟩) (fun fin s' => ∃ v, fin = .done (.ret v) ∧ Q v s') E s := by
  obtain ⟨hz, hTI, ⟨pa, pb, hTO⟩, n1, n2⟩ := st
  show wpAny _ _ (field (.ref z) 2 >>= _) _ _ _
  refine wpAny_bind (wpAny_field hz rfl (x := .bool false) rfl ?_)
  show wpAny _ _ (field (.ref z) 3 >>= _) _ _ _
  refine wpAny_bind (wpAny_field hz rfl (x := .ref TI) rfl (wpAny_bind (wpAny_seqItems hTI rfl ?_)))
  show wpAny _ _ (Builtin.SmallTypes.ownedTupleIsFree (.ref z) >>= _) _ _ _
  unfold Builtin.SmallTypes.ownedTupleIsFree
  refine wpAny_bind (wpAny_bind (wpAny_field hz rfl (x := .none) rfl (wpAny_pure ?_)))
  simp only [if_true]
  refine wpAny_bind (wpAny_rule (wpAny_bind (wpAny_field hz rfl (x := .ref TO) rfl (wpAny_bind (wpAny_setField_rec hz (by simp) fun g1 hz1 e1 => wpAny_bind ?_)))))
  replace hz1 : IsZip g1 z TI TO .ellipsis := hz1
  simp only [List.zipIdx_cons, List.zipIdx_nil, List.forIn_cons, List.forIn_nil]
  refine wpAny_bind (wpAny_bind (wpAny_onRaise ?_))
  show wpAny _ _ (Builtin.SmallTypes.nextOf (.ref i1) >>= _) _ _ _
  refine wpAny_bind (wpAny_nextOf_ascii_item (n1.extBut e1.extBut D.c) hx fun g2 m1 e2 => wpAny_pure ?_)
  have t2 : IsPair g2 TO pa pb := e2.extBut _ _ D.h (e1.extBut _ _ D.b hTO)
  refine wpAny_bind (wpAny_seqItems t2 rfl (wpAny_bind (wpAny_updateSeq_pair t2 fun g3 t3 e3 => wpAny_bind (wpAny_letGo (wpAny_pure ?_)))))
  replace t3 : IsPair g3 TO _ pb := t3
  refine wpAny_bind (wpAny_bind (wpAny_onRaise ?_))
  show wpAny _ _ (Builtin.SmallTypes.nextOf (.ref i2) >>= _) _ _ _
  refine wpAny_bind (wpAny_nextOf_ascii_item (((n2.extBut e1.extBut D.d).extBut e2.extBut D.j.symm).extBut e3.extBut D.i.symm) hy fun g4 m2 e4 => wpAny_pure ?_)
  have t4 : IsPair g4 TO _ pb := e4.extBut _ _ D.i t3
  refine wpAny_bind (wpAny_seqItems t4 rfl (wpAny_bind (wpAny_updateSeq_pair t4 fun g5 t5 e5 => wpAny_bind (wpAny_letGo (wpAny_pure (wpAny_pure ?_))))))
  replace t5 : IsPair g5 TO _ _ := t5
  refine wpAny_bind (wpAny_seqItems t5 rfl (wpAny_bind (wpAny_newTuple ?_)))
  have hsz : g5.objs.size = s.heap.objs.size := by rw [e5.1, e4.1, e3.1, e2.1, e1.1]
  have up5 : ∀ b o, b ≠ z → b ≠ TO → b ≠ i1 → b ≠ i2 → s.heap.get? b = some o → g5.get? b = some o := fun b o b1 b2 b3 b4 q =>
    e5.extBut _ _ b2 (e4.extBut _ _ b4 (e3.extBut _ _ b2 (e2.extBut _ _ b3 (e1.extBut _ _ b1 q))))
  have z5 : IsZip g5 z TI TO .ellipsis := e5.extBut _ _ D.b.symm (e4.extBut _ _ D.d.symm (e3.extBut _ _ D.b.symm (e2.extBut _ _ D.c.symm hz1)))
  have m15 := ((m1.extBut e3.extBut D.h.symm).extBut e4.extBut D.j).extBut e5.extBut D.h.symm
  have m25 := m2.extBut e5.extBut D.i.symm
  have zlt : z < g5.objs.size := Heap.lt_size z5
  show wpAny _ _ (Builtin.SmallTypes.ownedTupleHandOut (.ref z) (.ref g5.objs.size) >>= _) _ _ _
  unfold Builtin.SmallTypes.ownedTupleHandOut
  refine wpAny_bind (wpAny_bind (wpAny_setField_rec (Heap.get?_push_of_some _ z5) (by simp) fun g7 z7 e7 => ?_))
  replace z7 : IsZip g7 z TI TO (rawInt g5.objs.size) := z7
  refine wpAny_setField_rec z7 (by simp) fun g8 z8 e8 => wpAny_pure ⟨_, rfl, ?_⟩
  replace z8 : IsZip g8 z TI TO (rawInt g5.objs.size) := z8
  have up8 : ∀ b o, b ≠ z → g5.get? b = some o → g8.get? b = some o := fun b o b1 q => e8.extBut _ _ b1 (e7.extBut _ _ b1 (Heap.get?_push_of_some _ q))
  refine hQ g8 g5.objs.size _ ⟨z8, up8 _ _ D.a (up5 _ _ D.a D.e D.f D.g hTI), ⟨_, _, up8 _ _ D.b t5⟩, ?_, ?_⟩ ⟨_, _, e8.extBut _ _ (Nat.ne_of_gt zlt) (e7.extBut _ _ (Nat.ne_of_gt zlt) (Heap.get?_push_size _ rfl))⟩ ?_ (fun b o b1 b2 b3 b4 q => up8 b o b1 (up5 b o b1 b2 b3 b4 q))
  · obtain ⟨o, q, r⟩ := m15
    exact ⟨o, up8 _ _ D.c q, r⟩
  · obtain ⟨o, q, r⟩ := m25
    exact ⟨o, up8 _ _ D.d q, r⟩
  · rw [hsz]
    cases q : s.heap.get? s.heap.objs.size with
    | none => rfl
    | some o => exact absurd (Heap.lt_size q) (Nat.lt_irrefl _)
theorem zs_end {Q : Fin → Shared → Prop} (hh : A.handled = none) (D : ZA z TI TO i1 i2) (st : ZSt z TI TO i1 i2 x y t u .none k s.heap) (hx : x.cps[k]? = none)
    (hE : ∀ h' e, (∀ b o, b ≠ z → b ≠ TO → b ≠ i1 → b ≠ i2 → s.heap.get? b = some o → h'.get? b = some o) → (∃ o, h'.get? e = some o ∧ o.cls = .type "StopIteration") → E (.ref e) { s with heap := h' }) :
    wpAny (model PR w) A (Builtin.«zip.__next__» ⟨[.ref z], []⟩) Q E s := by
  obtain ⟨hz, hTI, ⟨pa, pb, hTO⟩, n1, n2⟩ := st
  show wpAny _ _ (field (.ref z) 2 >>= _) _ _ _
  refine wpAny_bind (wpAny_field hz rfl (x := .bool false) rfl ?_)
  show wpAny _ _ (field (.ref z) 3 >>= _) _ _ _
  refine wpAny_bind (wpAny_field hz rfl (x := .ref TI) rfl (wpAny_bind (wpAny_seqItems hTI rfl ?_)))
  show wpAny _ _ (Builtin.SmallTypes.ownedTupleIsFree (.ref z) >>= _) _ _ _
  unfold Builtin.SmallTypes.ownedTupleIsFree
  refine wpAny_bind (wpAny_bind (wpAny_field hz rfl (x := .none) rfl (wpAny_pure ?_)))
  simp only [if_true]
  refine wpAny_bind (wpAny_rule (wpAny_bind (wpAny_field hz rfl (x := .ref TO) rfl (wpAny_bind (wpAny_setField_rec hz (by simp) fun g1 hz1 e1 => wpAny_bind ?_)))))
  replace hz1 : IsZip g1 z TI TO .ellipsis := hz1
  simp only [List.zipIdx_cons, List.zipIdx_nil, List.forIn_cons, List.forIn_nil]
  refine wpAny_bind (wpAny_bind (wpAny_onRaise ?_))
  show wpAny _ _ (Builtin.SmallTypes.nextOf (.ref i1) >>= _) _ _ _
  refine wpAny_bind (wpAny_nextOf_ascii_end hh (n1.extBut e1.extBut D.c) hx fun g2 e e2 he => ?_)
  obtain ⟨oe, hoe, hce⟩ := he
  have z2 : IsZip g2 z TI TO .ellipsis := e2 _ _ D.c.symm hz1
  have hez : e ≠ z := fun q => by subst q; rw [z2] at hoe; cases hoe; simp at hce
  exact wpAny_setField_rec z2 (by simp) fun g3 _ e3 => hE g3 e (fun b o b1 _ b3 _ q => e3.extBut _ _ b1 (e2 _ _ b3 (e1.extBut _ _ b1 q))) ⟨oe, e3.extBut _ _ hez hoe, hce⟩
theorem zs_next {c d : Nat} {Q : Option Value → Shared → Prop} (D : ZA z TI TO i1 i2) (st : ZSt z TI TO i1 i2 x y t u .none k s.heap) (hx : x.cps[k]? = some c) (hy : y.cps[k]? = some d)
    (hQ : ∀ (h' : Heap) (T : Addr) (tk : Nat), ZSt z TI TO i1 i2 x y t u (rawInt (T : Nat)) (k + 1) h' → (∃ v v', IsPair h' T (.str ⟨#[c]⟩ v) (.str ⟨#[d]⟩ v')) → s.heap.get? T = none → (∀ b o, b ≠ z → b ≠ TO → b ≠ i1 → b ≠ i2 → s.heap.get? b = some o → h'.get? b = some o) →
      Q (some (.ref T)) { s with heap := h', toks := tk }) : wpAny (model PR w) A (pyNext (.ref z)) Q E s := by
  have hT : s.TypeIs (.ref z) "zip" := ⟨_, st.1, rfl⟩
  unfold pyNext
  exact wpAny_bind (wpAny_attempt (wpAny_callSpecial?_slot (name := Str.ofString "__next__") hT F.slot_zip_next
    (wpAny_call_entry F.slot_zip_next hT F.entry_zip_next (zs_item D st hx hy fun h' T tk a1 a2 a3 a4 => wpAny_pure (hQ h' T tk a1 a2 a3 a4)) (F.args_zip_next_1 _))))
theorem zs_stop {Q : Option Value → Shared → Prop} (hh : A.handled = none) (D : ZA z TI TO i1 i2) (st : ZSt z TI TO i1 i2 x y t u .none k s.heap) (hx : x.cps[k]? = none)
    (hQ : ∀ h', (∀ b o, b ≠ z → b ≠ TO → b ≠ i1 → b ≠ i2 → s.heap.get? b = some o → h'.get? b = some o) → Q none { s with heap := h' }) : wpAny (model PR w) A (pyNext (.ref z)) Q E s := by
  have hT : s.TypeIs (.ref z) "zip" := ⟨_, st.1, rfl⟩
  unfold pyNext
  refine wpAny_bind (wpAny_attempt (wpAny_callSpecial?_slot (name := Str.ofString "__next__") hT F.slot_zip_next
    (wpAny_call_entry F.slot_zip_next hT F.entry_zip_next (zs_end hh D st hx fun h' e hk he => ?_) (F.args_zip_next_1 _))))
  obtain ⟨o, ho, hc⟩ := he
  exact wpAny_bind (wpAny_isInstance (T := "StopIteration") (b := true) ⟨o, ho, hc⟩ isSubtype_stop (wpAny_pure (hQ _ hk)))
end
theorem ham_snoc {α : Type} [DecidableEq α] : ∀ (a b : List α) (c d : α), a.length = b.length → ham (a ++ [c]) (b ++ [d]) = ham a b + if c = d then 0 else 1
  | [], [], c, d, _ => by simp [ham]
  | [], _ :: _, _, _, h => by simp at h
  | _ :: _, [], _, _, h => by simp at h
  | x :: xs, y :: ys, c, d, h => by
    simp only [List.cons_append, ham]
    rw [ham_snoc xs ys c d (by simpa using h)]
    omega
theorem ham_take {a b : List Nat} {i c d : Nat} (hl : a.length = b.length) (hc : a[i]? = some c) (hd : b[i]? = some d) : ham (a.take (i + 1)) (b.take (i + 1)) = ham (a.take i) (b.take i) + if c = d then 0 else 1 := by
  rw [List.take_add_one, List.take_add_one, hc, hd, Option.toList_some, Option.toList_some]
  exact ham_snoc _ _ c d (by simp [hl])
section
variable {w : World} {A : Around} {E : Value → Shared → Prop} {h₀ : Heap} {L : Addr} {m : Str → Option Value} {env : Env} {z TI TO i1 i2 : Addr} {x y : Str} {t u : Tok}
noncomputable def ZTurn (w : World) (A : Around) (h₀ : Heap) (L : Addr) (m : Str → Option Value) (env : Env) (c elt : Expr) (a b : Str) (scope : Scope) (cl : List (Str × Addr)) (s₂ : Shared) : Prop :=
  ∀ (C : Addr) (oC : Obj) (m₂ : Str → Option Value) (h : Heap) (tk : Nat) (p q : Nat) (v v' : Tok) (E' : Value → Shared → Prop), LCg.NsObj oC m₂ → m₂ a = some (.str ⟨#[p]⟩ v) → m₂ b = some (.str ⟨#[q]⟩ v') → Fr h₀ L h m → News h₀ L h [(C, oC)] →
    wpAny (model PR w) A (isTrue c (compEnvC scope cl C env) (eval c (compEnvC scope cl C env))) (fun ok s₃ => ok = decide (p ≠ q) ∧ ∃ tk', s₃ = { s₂ with heap := h, toks := tk' }) E' { s₂ with heap := h, toks := tk } ∧
    wpAny (model PR w) A (eval elt (compEnvC scope cl C env)) (fun _ s₃ => ∃ tk', s₃ = { s₂ with heap := h, toks := tk' }) E' { s₂ with heap := h, toks := tk }
theorem zip_block {elt iter c : Expr} {a b : Str} {pa pb tp : Pos} {kk : Nat} {scope : Scope} {cl : List (Str × Addr)} {pos : Pos} {s₂ : Shared} {news : List (Addr × Obj)} {RR : Value → Addr → Result → Shared → Prop}
    (hh : A.handled = none) (D : ZA z TI TO i1 i2) (st : ZSt z TI TO i1 i2 x y t u .none 0 s₂.heap) (hxy : x.cps.size = y.cps.size) (hsz : x.cps.size ≤ 1000)
    (hcell : ∀ y ∈ scope.names, y.2 ≠ .cell) (hkind : scope.kind = .function) (hxa : scope.names.lookup a = some .local) (hxb : scope.names.lookup b = some .local) (hab : ¬ a = b)
    (F : Fr h₀ L s₂.heap m) (N : News h₀ L s₂.heap news) (ap : ∀ b ∈ [z, TO, i1, i2], h₀.get? b = none ∧ b ≠ L ∧ ∀ p ∈ news, p.1 ≠ b)
    (turn : ZTurn w A h₀ L m env c elt a b scope cl s₂)
    (hRR : ∀ D C h tk m' ys, Fr h₀ L h m → News h₀ L h ((D, LCg.lst ys) :: news) → h.Ns C m' → h₀.get? C = none → h₀.get? D = none → C ≠ L → D ≠ L → C ≠ D → (∀ p ∈ news, p.1 ≠ C) → (∀ p ∈ news, p.1 ≠ D) → ys.length = ham x.cps.toList y.cps.toList → RR (.ref D) C (.ok .next) { s₂ with heap := h, toks := tk }) :
    wpAny (model PR w) A (newList []) (fun acc s₃ => wpAny (model PR w) A (newFunctionEnv scope env.globals cl [] env.qual none .none (some env)) (fun cenv s₄ =>
      codeAny (model PR w) A (.compStart (.ListComp elt [⟨.Tuple [.Name a pa, .Name b pb] kk tp, iter, [c], 0⟩] scope pos) 0 (.ref z) acc { cenv with scope := relabel scope env }) (RR acc cenv.locals) s₄) E s₃) E s₂ := by
  refine wpAny_newObj_type (wpAny_newFunctionEnv hcell (by intro y hy; simp at hy) (fun h₁ hns₁ hsb₁ => ?_) hkind)
  dsimp only at hns₁ hsb₁ ⊢
  generalize hH2 : s₂.heap.push { cls := .type "list", dict := none, data := .seq ([] : List Value).toArray } = H2 at hns₁ hsb₁ ⊢
  have hC : H2.objs.size = s₂.heap.objs.size + 1 := by rw [← hH2, Heap.size_push]
  have below : ∀ b o, s₂.heap.get? b = some o → b ≠ H2.objs.size ∧ b ≠ s₂.heap.objs.size := fun b o e => by
    have := Heap.lt_size e
    rw [hC]
    exact ⟨Nat.ne_of_lt (Nat.lt_succ_of_lt this), Nat.ne_of_lt this⟩
  have old : ∀ b o, s₂.heap.get? b = some o → h₁.get? b = some o := fun b o e => hsb₁.extBut b o (below b o e).1 (Heap.get?_push_of_some _ (hH2 ▸ Heap.get?_push_of_some _ e))
  have hDC : s₂.heap.objs.size ≠ H2.objs.size := by rw [hC]; exact Nat.ne_of_lt (Nat.lt_succ_self _)
  have hacc : h₁.get? s₂.heap.objs.size = some (LCg.lst []) := hsb₁.extBut _ _ hDC (Heap.get?_push_of_some _ (hH2 ▸ Heap.get?_push_size _ rfl))
  have fresh₀ : ∀ a, s₂.heap.objs.size ≤ a → h₀.get? a = none := fun a ha => by
    cases e : h₀.get? a with
    | none => rfl
    | some o' => exact absurd (Heap.lt_size (F.keep a o' e)) (Nat.not_lt.mpr ha)
  have hD₀ : h₀.get? s₂.heap.objs.size = none := fresh₀ _ (Nat.le_refl _)
  have hC₀ : h₀.get? H2.objs.size = none := fresh₀ _ (by rw [hC]; exact Nat.le_succ _)
  have hLlt : L < s₂.heap.objs.size := F.ns.lt
  have hDL : s₂.heap.objs.size ≠ L := Ne.symm (Nat.ne_of_lt hLlt)
  have hCL : H2.objs.size ≠ L := by rw [hC]; exact Ne.symm (Nat.ne_of_lt (Nat.lt_succ_of_lt hLlt))
  generalize hDd : s₂.heap.objs.size = Dd at *
  generalize H2.objs.size = Cc at *
  have nD : ∀ p ∈ news, p.1 ≠ Dd := fun p hp => (below _ _ (N p hp).1).2
  have nC : ∀ p ∈ news, p.1 ≠ Cc := fun p hp => (below _ _ (N p hp).1).1
  obtain ⟨sz, sTI, ⟨ta, tb, sTO⟩, ⟨o1, s1, r1⟩, ⟨o2, s2, r2⟩⟩ := id st
  have bz := below _ _ sz
  have bTI := below _ _ sTI
  have bTO := below _ _ sTO
  have b1 := below _ _ s1
  have b2 := below _ _ s2
  have az := ap z (.head _)
  have aTO := ap TO (.tail _ (.head _))
  have a1 := ap i1 (.tail _ (.tail _ (.head _)))
  have a2 := ap i2 (.tail _ (.tail _ (.tail _ (.head _))))
  have frame : ∀ {k : Nat} {h h' : Heap}, ZSt z TI TO i1 i2 x y t u .none k h → (∀ b o, b ≠ Cc → b ≠ Dd → h.get? b = some o → h'.get? b = some o) → ZSt z TI TO i1 i2 x y t u .none k h' := by
    rintro k h h' ⟨q1, q2, ⟨e1, e2, q3⟩, ⟨p1, q4, w1⟩, ⟨p2, q5, w2⟩⟩ kp
    exact ⟨kp _ _ bz.1 bz.2 q1, kp _ _ bTI.1 bTI.2 q2, ⟨e1, e2, kp _ _ bTO.1 bTO.2 q3⟩, ⟨p1, kp _ _ b1.1 b1.2 q4, w1⟩, ⟨p2, kp _ _ b2.1 b2.2 q5, w2⟩⟩
  have loop : ∀ s₃ : Shared, s₃ = { s₂ with heap := h₁, toks := s₂.toks + ([] : List (Str × Value)).length } →
      codeAny (model PR w) A (.compLoop (.ListComp elt [⟨.Tuple [.Name a pa, .Name b pb] kk tp, iter, [c], 0⟩] scope pos) 0 (.ref z) (.ref Dd) (compEnvC scope cl Cc env)) (RR (.ref Dd) Cc) s₃ := by
    rintro s₃ rfl
    refine kct_loop
      (fun n s' => ∃ h tk i ys m', s' = { s₂ with heap := h, toks := tk } ∧ i ≤ x.cps.size ∧ n = x.cps.size + 1 - i ∧ ys.length = ham (x.cps.toList.take i) (y.cps.toList.take i) ∧ ys.length ≤ i ∧ ZSt z TI TO i1 i2 x y t u .none i h ∧
        Fr h₀ L h m ∧ h.Ns Cc m' ∧ News h₀ L h ((Dd, LCg.lst ys) :: news)) ?_ (x.cps.size + 1)
      ⟨h₁, _, 0, [], _, rfl, Nat.zero_le _, rfl, by simp [ham], Nat.le_refl _, ?_, F.keeps old, hns₁, fun p hp => ?_⟩
    · rintro n s' ⟨h, tk, i, ys, m', rfl, hi, rfl, hyl, hyi, st', F', hn', N'⟩
      have upz : ∀ {h h' : Heap}, Fr h₀ L h m → (∀ b o, b ≠ z → b ≠ TO → b ≠ i1 → b ≠ i2 → h.get? b = some o → h'.get? b = some o) → Fr h₀ L h' m := fun F' hk =>
        ⟨F'.ns.at' fun o e => hk _ o (Ne.symm az.2.1) (Ne.symm aTO.2.1) (Ne.symm a1.2.1) (Ne.symm a2.2.1) e, fun b o e => hk b o (fun q => by rw [q, az.1] at e; cases e) (fun q => by rw [q, aTO.1] at e; cases e) (fun q => by rw [q, a1.1] at e; cases e) (fun q => by rw [q, a2.1] at e; cases e) (F'.keep b o e), F'.above⟩
      have upN : ∀ {h h' : Heap} {ys : List Value}, News h₀ L h ((Dd, LCg.lst ys) :: news) → (∀ b o, b ≠ z → b ≠ TO → b ≠ i1 → b ≠ i2 → h.get? b = some o → h'.get? b = some o) → News h₀ L h' ((Dd, LCg.lst ys) :: news) := fun N' hk p hp => by
        have P := N' p hp
        refine ⟨hk _ _ ?_ ?_ ?_ ?_ P.1, P.2⟩ <;> rcases List.mem_cons.mp hp with rfl | hp
        · exact Ne.symm bz.2
        · exact az.2.2 p hp
        · exact Ne.symm bTO.2
        · exact aTO.2.2 p hp
        · exact Ne.symm b1.2
        · exact a1.2.2 p hp
        · exact Ne.symm b2.2
        · exact a2.2.2 p hp
      by_cases hlt : i < x.cps.size
      · have hx : x.cps[i]? = some x.cps[i] := by simp [hlt]
        have hy : y.cps[i]? = some (y.cps[i]'(by omega)) := Array.getElem?_eq_getElem _
        generalize x.cps[i] = p at hx
        generalize y.cps[i]'(by omega) = q at hy
        refine zs_next D st' hx hy fun h₂ T tk₂ st₂ hT hT0 hk₂ => ?_
        obtain ⟨v, v', hT⟩ := hT
        obtain ⟨q1, q2, q3, q4, q5⟩ := st₂
        refine wpAny_letOwnedTupleGo_zip q1 fun h₃ hz₃ hs₃ => ?_
        have hTz : T ≠ z := fun e => by rw [e, st'.1] at hT0; cases hT0
        have k3 : ∀ b o, b ≠ z → b ≠ TO → b ≠ i1 → b ≠ i2 → h.get? b = some o → h₃.get? b = some o := fun b o c1 c2 c3 c4 e => hs₃.extBut b o c1 (hk₂ b o c1 c2 c3 c4 e)
        have hn3 : h₃.Ns Cc m' := hn'.at' fun o e => k3 _ o (Ne.symm bz.1) (Ne.symm bTO.1) (Ne.symm b1.1) (Ne.symm b2.1) e
        refine kcp_assign (env := compEnvC scope cl Cc env) hh ⟨_, hs₃.extBut _ _ hTz hT, rfl, 0, rfl⟩ (lookup_relabel_local hxa) (lookup_relabel_local hxb) (by simp [compEnvC, relabel, hkind]) hn3 fun h₄ tk₄ hn₄ hs₄ => ?_
        have F₃ := upz F' k3
        have N₃ := upN N' k3
        have F₄ : Fr h₀ L h₄ m := ⟨F₃.ns.at' fun o e => hs₄ _ o (Ne.symm hCL) e, fun b o e => hs₄ b o (fun q => by have q : b = Cc := q; rw [q, hC₀] at e; cases e) (F₃.keep b o e), F₃.above⟩
        have N₄ : News h₀ L h₄ ((Dd, LCg.lst ys) :: news) := fun p hp => by
          have P := N₃ p hp
          refine ⟨hs₄ _ _ ?_ P.1, P.2⟩
          rcases List.mem_cons.mp hp with rfl | hp
          · exact hDC
          · exact nC p hp
        have st₄ : ZSt z TI TO i1 i2 x y t u .none (i + 1) h₄ := by
          have e3 : ZSt z TI TO i1 i2 x y t u .none (i + 1) h₃ := by
            obtain ⟨ka, kb, q3⟩ := q3
            exact ⟨hz₃, hs₃.extBut _ _ D.a q2, ⟨ka, kb, hs₃.extBut _ _ D.b q3⟩, q4.extBut hs₃.extBut D.c, q5.extBut hs₃.extBut D.d⟩
          exact frame e3 fun b o c1 c2 e => hs₄ b o c1 e
        obtain ⟨oC, heC, hoC⟩ := LCg.ns_obj hn₄
        have NC : News h₀ L h₄ [(Cc, oC)] := fun p hp => by
          obtain rfl := List.mem_singleton.mp hp
          exact ⟨heC, hCL, hC₀⟩
        have htk := ham_take (a := x.cps.toList) (b := y.cps.toList) (by simpa using hxy) (by simpa using hx) (by simpa using hy)
        refine wpAny_mono (turn Cc oC _ h₄ tk₄ p q v v' _ hoC (by simp [hab]) (by simp) F₄ NC).1 (fun ok s₅ h₅ => ?_) fun _ _ e => e
        obtain ⟨rfl, tk₅, rfl⟩ := h₅
        by_cases hpq : p = q
        · rw [decide_eq_false (by simpa using hpq), if_neg (by decide)]
          exact ⟨x.cps.size + 1 - (i + 1), by omega, h₄, tk₅, i + 1, ys, _, rfl, hlt, rfl, by rw [htk, if_pos hpq, hyl]; rfl, Nat.le_succ_of_le hyi, st₄, F₄, hn₄, N₄⟩
        · rw [decide_eq_true (by simpa using hpq), if_pos rfl]
          refine wpAny_mono (turn Cc oC _ h₄ tk₅ p q v v' _ hoC (by simp [hab]) (by simp) F₄ NC).2 (fun v1 s₆ h₆ => ?_) fun _ _ e => e
          obtain ⟨tk₆, rfl⟩ := h₆
          refine append_at (hsz := by rw [List.size_toArray, sizeLine_eq]; omega) (N₄ _ (.head _)).1 fun h₇ hs₇ hD₇ => ?_
          refine ⟨x.cps.size + 1 - (i + 1), by omega, h₇, tk₆, i + 1, ys ++ [v1], _, rfl, hlt, rfl, by rw [htk, if_neg hpq, List.length_append, hyl]; rfl, by rw [List.length_append, List.length_singleton]; omega, frame st₄ fun b o c1 c2 e => hs₇.extBut b o c2 e, F₄.change hs₇ hDL hD₀, hn₄.sameBut hs₇ (Ne.symm hDC), fun p hp => ?_⟩
          rcases List.mem_cons.mp hp with rfl | hp
          · exact ⟨hD₇.trans (congrArg some (LCg.lst_snoc ys v1)), hDL, hD₀⟩
          · exact ⟨hs₇.extBut _ _ (nD p hp) (N₄ p (.tail _ hp)).1, (N₄ p (.tail _ hp)).2⟩
      · have hin : i = x.cps.size := Nat.le_antisymm hi (Nat.not_lt.mp hlt)
        subst hin
        refine zs_stop hh D st' (by simp) fun h₂ hk₂ => ?_
        have hn2 : h₂.Ns Cc m' := hn'.at' fun o e => hk₂ _ o (Ne.symm bz.1) (Ne.symm bTO.1) (Ne.symm b1.1) (Ne.symm b2.1) e
        refine hRR Dd Cc h₂ tk m' ys (upz F' hk₂) (upN N' hk₂) hn2 hC₀ hD₀ hCL hDL (Ne.symm hDC) nC nD ?_
        rw [hyl, List.take_of_length_le (by simp), List.take_of_length_le (by simp [hxy])]
    · exact frame st fun b o _ _ e => old b o e
    · rcases List.mem_cons.mp hp with rfl | hp
      · exact ⟨hacc, hDL, hD₀⟩
      · exact ⟨old _ _ (N p hp).1, (N p hp).2⟩
  exact codeAny_compStart_list (loop _ rfl) (wpAny_pyIter_zip (old _ _ sz) (loop _ rfl))
end
section
variable {w : World} {A : Around} {E : Value → Shared → Prop} {h₀ : Heap} {L : Addr} {m : Str → Option Value} {env : Env} {s : Shared}
noncomputable def ZipIt (w : World) (A : Around) (h₀ : Heap) (L : Addr) (m : Str → Option Value) (env : Env) (c elt : Expr) (a b : Str) (scope : Scope) (cl : List (Str × Addr)) (Q : Value → Shared → Prop) (it : Value) (s₂ : Shared) : Prop :=
  ∃ (z TI TO i1 i2 : Addr) (x y : Str) (t u : Tok) (news : List (Addr × Obj)), it = .ref z ∧ ZA z TI TO i1 i2 ∧ ZSt z TI TO i1 i2 x y t u .none 0 s₂.heap ∧ x.cps.size = y.cps.size ∧ x.cps.size ≤ 1000 ∧ Fr h₀ L s₂.heap m ∧ News h₀ L s₂.heap news ∧
    (∀ b ∈ [z, TO, i1, i2], h₀.get? b = none ∧ b ≠ L ∧ ∀ p ∈ news, p.1 ≠ b) ∧ ZTurn w A h₀ L m env c elt a b scope cl s₂ ∧
    ∀ D h tk ys, Fr h₀ L h m → News h₀ L h ((D, LCg.lst ys) :: news) → ys.length = ham x.cps.toList y.cps.toList → Q (.ref D) { s₂ with heap := h, toks := tk }
theorem zip_comp {elt iter c : Expr} {a b : Str} {pa pb tp : Pos} {kk : Nat} {scope : Scope} {cl : List (Str × Addr)} {pos : Pos} {Q : Value → Shared → Prop} (hh : A.handled = none) (_F₀ : Fr h₀ L s.heap m)
    (hclos : closureFor scope env = pure cl) (hcell : ∀ y ∈ scope.names, y.2 ≠ .cell) (hkind : scope.kind = .function)
    (hnames : ∀ y ∈ scope.names, y.2 = .local → scope.names.lookup y.1 = some .local) (hxa : scope.names.lookup a = some .local) (hxb : scope.names.lookup b = some .local) (hab : ¬ a = b)
    (h : wpAny (model PR w) A (eval iter env) (fun xv s₁ => wpAny (model PR w) A (pyIter xv) (ZipIt w A h₀ L m env c elt a b scope cl Q) E s₁) E s)
    (hs : ∀ x, foldedSetIterable iter env x = pure x := by intro _; rfl) :
    wpAny (model PR w) A (eval (.ListComp elt [⟨.Tuple [.Name a pa, .Name b pb] kk tp, iter, [c], 0⟩] scope pos) env) Q E s := by
  rw [eval_ListComp]
  refine wpAny_comprehension_free (use := none) rfl hs hclos hkind hnames (wpAny_mono h (fun xv s₁ h₁ => wpAny_mono h₁ (fun it s₂ h₂ => ?_) fun _ _ e => e) fun _ _ e => e)
  obtain ⟨z, TI, TO, i1, i2, x, y, t, u, news, rfl, D, st, hxy, hsz, F, N, ap, turn, fin⟩ := h₂
  refine zip_block hh D st hxy hsz hcell hkind hxa hxb hab F N ap turn ?_
  intro Dd C h' tk m' ys F' N' hn hC₀ hD₀ hCL hDL hCD nC nD hys
  refine ⟨m', hn, fun h'' hs'' => fin Dd h'' tk ys (F'.change hs'' hCL hC₀) (fun p hp => ?_) hys⟩
  refine ⟨hs''.extBut _ _ ?_ (N' p hp).1, (N' p hp).2⟩
  rcases List.mem_cons.mp hp with rfl | hp
  · exact Ne.symm hCD
  · exact nC p hp
theorem zip_it {elt c : Expr} {a b : Str} {scope : Scope} {cl : List (Str × Addr)} {Q : Value → Shared → Prop} {x y : Str} {t u : Tok} {news : List (Addr × Obj)} (F : Fr h₀ L s.heap m) (N : News h₀ L s.heap news)
    (ax : x.cps.all (· < 128) = true) (ay : y.cps.all (· < 128) = true) (hxy : x.cps.size = y.cps.size) (hsz : x.cps.size ≤ 1000)
    (turn : ∀ h, ZTurn w A h₀ L m env c elt a b scope cl { s with heap := h })
    (fin : ∀ D h tk ys, Fr h₀ L h m → News h₀ L h ((D, LCg.lst ys) :: news) → ys.length = ham x.cps.toList y.cps.toList → Q (.ref D) { s with heap := h, toks := tk }) :
    wpAny (model PR w) A (call (.type "zip") [.str x t, .str y u]) (fun xv s₁ => wpAny (model PR w) A (pyIter xv) (ZipIt w A h₀ L m env c elt a b scope cl Q) E s₁) E s := by
  refine call_zip_strs ax ay ?_
  have z1 : (zH1 s.heap x t).objs.size = s.heap.objs.size + 1 := Heap.size_push ..
  have z2 : (zH2 s.heap x y t u).objs.size = s.heap.objs.size + 2 := by rw [Heap.size_push, z1]
  have z3 : (zH3 s.heap x y t u).objs.size = s.heap.objs.size + 3 := by rw [Heap.size_push, z2]
  have z4 : (zH4 s.heap x y t u).objs.size = s.heap.objs.size + 4 := by rw [Heap.size_push, z3]
  have up : ∀ b o, s.heap.get? b = some o → (zH5 s.heap x y t u).get? b = some o := fun b o e =>
    Heap.get?_push_of_some _ (Heap.get?_push_of_some _ (Heap.get?_push_of_some _ (Heap.get?_push_of_some _ (Heap.get?_push_of_some _ e))))
  have g5 : (zH5 s.heap x y t u).get? (zH4 s.heap x y t u).objs.size = some _ := Heap.get?_push_size _ rfl
  have g4 : (zH5 s.heap x y t u).get? (zH3 s.heap x y t u).objs.size = some _ := Heap.get?_push_of_some _ (Heap.get?_push_size _ rfl)
  have g3 : (zH5 s.heap x y t u).get? (zH2 s.heap x y t u).objs.size = some _ := Heap.get?_push_of_some _ (Heap.get?_push_of_some _ (Heap.get?_push_size _ rfl))
  have g2 : (zH5 s.heap x y t u).get? (zH1 s.heap x t).objs.size = some _ := Heap.get?_push_of_some _ (Heap.get?_push_of_some _ (Heap.get?_push_of_some _ (Heap.get?_push_size _ rfl)))
  have g1 : (zH5 s.heap x y t u).get? s.heap.objs.size = some _ := Heap.get?_push_of_some _ (Heap.get?_push_of_some _ (Heap.get?_push_of_some _ (Heap.get?_push_of_some _ (Heap.get?_push_size _ rfl))))
  refine wpAny_pyIter_zip g5 ?_
  have new : ∀ k, h₀.get? (s.heap.objs.size + k) = none ∧ s.heap.objs.size + k ≠ L ∧ ∀ p ∈ news, p.1 ≠ s.heap.objs.size + k := fun k => by
    refine ⟨?_, Nat.ne_of_gt (Nat.lt_of_lt_of_le F.ns.lt (Nat.le_add_right _ _)), fun p hp => Nat.ne_of_lt (Nat.lt_of_lt_of_le (Heap.lt_size (N p hp).1) (Nat.le_add_right _ _))⟩
    cases e : h₀.get? (s.heap.objs.size + k) with
    | none => rfl
    | some o => exact absurd (Heap.lt_size (F.keep _ _ e)) (Nat.not_lt.mpr (Nat.le_add_right _ _))
  have ne : ∀ {i j : Nat}, i ≠ j → s.heap.objs.size + i ≠ s.heap.objs.size + j := fun h e => h (Nat.add_left_cancel e)
  rw [z2, z3, z4] at g5
  rw [z1, z2] at g3
  rw [z3] at g4
  rw [z1] at g2
  rw [z4]
  refine ⟨s.heap.objs.size + 4, s.heap.objs.size + 2, s.heap.objs.size + 3, s.heap.objs.size + 0, s.heap.objs.size + 1, x, y, t, u, news, rfl,
    ⟨ne (by decide), ne (by decide), ne (by decide), ne (by decide), ne (by decide), ne (by decide), ne (by decide), ne (by decide), ne (by decide), ne (by decide)⟩, ⟨g5, g3, ⟨_, _, g4⟩, ⟨_, g1, rfl, rfl⟩, ⟨_, g2, rfl, rfl⟩⟩, hxy, hsz, F.keeps up, N.grown up, fun b hb => ?_, turn _, fin⟩
  simp only [List.mem_cons, List.not_mem_nil, or_false] at hb
  rcases hb with rfl | rfl | rfl | rfl
  · exact new 4
  · exact new 3
  · exact new 0
  · exact new 1
end
theorem f16_inj : ∀ (n : Nat) (x y : List Int), x.length = n → y.length = n → dig x → dig y → f16 x = f16 y → x = y
  | 0, x, y, hx, hy, _, _, _ => by rw [List.length_eq_zero_iff.mp hx, List.length_eq_zero_iff.mp hy]
  | n + 1, x, y, hx, hy, dx, dy, e => by
    have hxe : x ≠ [] := by intro e; subst e; simp at hx
    have hye : y ≠ [] := by intro e; subst e; simp at hy
    obtain ⟨u, a, rfl⟩ : ∃ r c, x = r ++ [c] := ⟨x.dropLast, x.getLast hxe, (List.dropLast_concat_getLast hxe).symm⟩
    obtain ⟨v, b, rfl⟩ : ∃ r c, y = r ++ [c] := ⟨y.dropLast, y.getLast hye, (List.dropLast_concat_getLast hye).symm⟩
    have ha := dx a (List.mem_append_right _ (.head _))
    have hb := dy b (List.mem_append_right _ (.head _))
    unfold f16 at e
    rw [foldedF_snoc, foldedF_snoc] at e
    have ih := f16_inj n u v (by simpa using hx) (by simpa using hy) (fun f hf => dx f (List.mem_append_left _ hf)) (fun f hf => dy f (List.mem_append_left _ hf)) (by unfold f16; omega)
    rw [ih]
    have : a = b := by omega
    rw [this]
theorem rows_same {g : Nat → List Int} (g1 : ∀ k, dig (g k)) {q0 q1 : Nat} (q2 : Nat) (h : leadF (g q0) (g q1) = 0) : rowS g (q1, q0, q2) = rowS g (q0, q1, q2) := by
  rw [lead_eq] at h
  have e := f16_inj _ (g q0 ++ g q1) (g q1 ++ g q0) rfl (by simp; omega) (dig_app (g1 _) (g1 _)) (dig_app (g1 _) (g1 _)) (by omega)
  unfold rowS
  rw [e]
theorem figF_bits {lo hi : Int} : ∀ (d n : Nat), n < 2 ^ (d + 1) → figF lo hi n = (bitsG (d + 1) n).map fun b => if b then hi else lo
  | 0, n, h => by
    have h1 : n ≤ 1 := by simpa using Nat.le_of_lt_succ h
    rw [figF_le h1]
    simp [bitsG, h1]
  | d + 1, n, h => by
    by_cases h1 : n ≤ 1
    · rw [figF_le h1]
      simp [bitsG, h1]
    · have eb : bitsG (d + 1 + 1) n = bitsG (d + 1) (n / 2) ++ [n % 2 == 1] := by
        show (if n ≤ 1 then [] else bitsG (d + 1) (n / 2) ++ [n % 2 == 1]) = _
        rw [if_neg h1]
      rw [figF_gt (by omega), figF_bits d (n / 2) (by rw [Nat.pow_succ] at h; omega), eb, List.map_append]
      congr 1
      by_cases h2 : n % 2 = 1
      · simp [h2]
      · simp [h2]
noncomputable def numK (n0 n1 n2 k : Nat) : Nat := if k = 0 then n0 else if k = 1 then n1 else n2
theorem okPair_of {i j : Nat} (hi : 2 ≤ i) (hi2 : i ≤ 31) (hj : 2 ≤ j) (hj2 : j ≤ 31) : okPair i j = true :=
  okPair_true hi (Nat.lt_succ_of_le hi2) hj (Nat.lt_succ_of_le hj2)
theorem okPair_says {i j : Nat} (h : okPair i j = true) (hne : bitsF i ++ bitsF j ≠ bitsF j ++ bitsF i) {p most : Nat}
    (hm : most = 2 * min (min (2 * (bitsF i).length) (2 * (bitsF j).length)) (ham (bitsF i ++ bitsF j) (bitsF j ++ bitsF i))) :
    4 ≤ most ∧ 4 ≤ levD (core (bitsF i ++ bitsF j) (bitsF j ++ bitsF i)).1 (core (bitsF i ++ bitsF j) (bitsF j ++ bitsF i)).2 (most + p) ∧ levD (core (bitsF i ++ bitsF j) (bitsF j ++ bitsF i)).1 (core (bitsF i ++ bitsF j) (bitsF j ++ bitsF i)).2 (most + p) ≤ most := by
  unfold okPair at h
  simp only at h
  rw [if_neg hne, ← hm] at h
  have h := of_decide_eq_true h
  rw [levD_more p h.2.2]
  exact h
theorem head_ne {a b : List Nat} (ha : a ≠ []) (hl : b.length = a.length) (h : a.head? ≠ b.head?) : a.getD 0 0 ≠ b.getD 0 0 := by
  cases a with
  | nil => exact absurd rfl ha
  | cons x xs => cases b with
    | nil => simp at hl
    | cons y ys => simpa using h
theorem last_ne {a b : List Nat} (ha : a ≠ []) (hl : b.length = a.length) (h : a.getLast? ≠ b.getLast?) : a.getD (a.length - 1) 0 ≠ b.getD (b.length - 1) 0 := by
  have hb : b ≠ [] := fun e => by rw [e] at hl; exact ha (List.length_eq_zero_iff.mp hl.symm)
  have la := List.length_pos_iff.mpr ha
  have lb := List.length_pos_iff.mpr hb
  rw [List.getLast?_eq_getElem?, List.getLast?_eq_getElem?] at h
  intro e
  apply h
  have e1 : a[a.length - 1]? = some (a[a.length - 1]'(by omega)) := by simp
  have e2 : b[b.length - 1]? = some (b[b.length - 1]'(by omega)) := by simp
  rw [List.getD, List.getD, e1, e2] at e
  rw [e1, e2]
  simpa using e
theorem lev_rows {lo hi : Int} {n0 n1 n2 : Nat} {g : Nat → List Int} (hg : figK lo hi n0 n1 n2 = g) (l1 : 1 ≤ lo) (l2 : lo ≤ 7) (l3 : lo + 1 ≤ hi) (l4 : hi ≤ lo + 8) (p1 : 2 ≤ n0) (p2 : n0 ≤ 31) (p3 : 2 ≤ n1) (p4 : n1 ≤ 31) (p5 : 2 ≤ n2) (p6 : n2 ≤ 31)
    {q0 q1 : Nat} (q2 p : Nat) (hne : leadF (g q0) (g q1) ≠ 0) :
    ∃ pr a b po most, rowS g (q0, q1, q2) = mkS (pr ++ (a ++ po)) ∧ rowS g (q1, q0, q2) = mkS (pr ++ (b ++ po)) ∧ b.length = a.length ∧ a ≠ [] ∧ a.getD 0 0 ≠ b.getD 0 0 ∧ a.getD (a.length - 1) 0 ≠ b.getD (b.length - 1) 0 ∧
      (pr ++ (a ++ po)).length ≤ 40 ∧ (∀ c ∈ a, okC c) ∧ (∀ c ∈ b, okC c) ∧
      most = 2 * min (min (2 * (g q0).length) (2 * (g q1).length)) (ham (rowS g (q0, q1, q2)).cps.toList (rowS g (q1, q0, q2)).cps.toList) ∧ 4 ≤ most ∧ 4 ≤ levD a b (most + p) ∧ levD a b (most + p) ≤ most ∧ most ≤ 100 := by
  have g1 : ∀ k, dig (g k) := by rw [← hg]; exact figK_in l1 l2 l3 l4
  have g2 : ∀ k, (g k).length ≤ 4 := by rw [← hg]; exact figK_len p2 p4 p6
  have nb : ∀ k, 2 ≤ numK n0 n1 n2 k ∧ numK n0 n1 n2 k ≤ 31 := fun k => by
    unfold numK
    split
    · omega
    · split <;> omega
  have gb : ∀ k, g k = (bitsF (numK n0 n1 n2 k)).map fun b => if b then hi else lo := fun k => by
    rw [← hg]
    exact figF_bits 4 _ (by have := (nb k).2; unfold numK at this; omega)
  obtain ⟨ψ, hψ⟩ : ∃ ψ : Bool → Nat, ψ = fun b => ((if b then hi else lo) + 65).toNat := ⟨_, rfl⟩
  have inj : ∀ x y, ψ x = ψ y → x = y := by
    intro x y e
    rw [hψ] at e
    cases x <;> cases y <;> simp at e ⊢ <;> omega
  have lb : ∀ k, ltr (g k) = (bitsF (numK n0 n1 n2 k)).map ψ := fun k => by
    rw [gb k, hψ]
    unfold ltr
    rw [List.map_map]
    rfl
  have okψ : ∀ b, okC (ψ b) := fun b => by
    rw [hψ]
    left
    cases b <;> simp <;> omega
  generalize hi' : numK n0 n1 n2 q0 = i at *
  generalize hj' : numK n0 n1 n2 q1 = j at *
  have ni : 2 ≤ i ∧ i ≤ 31 := by rw [← hi']; exact nb q0
  have nj : 2 ≤ j ∧ j ≤ 31 := by rw [← hj']; exact nb q1
  have l0 : ltr (g q0) = (bitsF i).map ψ := by rw [← hi']; exact lb q0
  have l1' : ltr (g q1) = (bitsF j).map ψ := by rw [← hj']; exact lb q1
  have len0 : (g q0).length = (bitsF i).length := by rw [gb q0, hi']; simp
  have len1 : (g q1).length = (bitsF j).length := by rw [gb q1, hj']; simp
  have hbne : bitsF i ++ bitsF j ≠ bitsF j ++ bitsF i := fun e => by
    apply hne
    have e2 := congrArg (List.map fun b => if b then hi else lo) e
    rw [List.map_append, List.map_append, ← hi', ← hj', ← gb q0, ← gb q1] at e2
    rw [lead_eq, e2]
    omega
  have hll : (bitsF i ++ bitsF j).length = (bitsF j ++ bitsF i).length := by simp; omega
  obtain ⟨pr, po, e1, e2, c1, c2, c3, c4⟩ := core_spec hll hbne
  have hsay := fun most hm => okPair_says (okPair_of ni.1 ni.2 nj.1 nj.2) hbne (p := p) (most := most) hm
  generalize core (bitsF i ++ bitsF j) (bitsF j ++ bitsF i) = cc at *
  obtain ⟨ca, cb⟩ := cc
  dsimp only at *
  have r0 : (rowS g (q0, q1, q2)).cps.toList = (bitsF i ++ bitsF j).map ψ ++ (ltr (g q2) ++ [39]) := by
    simp only [rowS, mkS, ltr_app, l0, l1', List.map_append]
    simp
  have r1 : (rowS g (q1, q0, q2)).cps.toList = (bitsF j ++ bitsF i).map ψ ++ (ltr (g q2) ++ [39]) := by
    simp only [rowS, mkS, ltr_app, l0, l1', List.map_append]
    simp
  have hham : ham (rowS g (q0, q1, q2)).cps.toList (rowS g (q1, q0, q2)).cps.toList = ham (bitsF i ++ bitsF j) (bitsF j ++ bitsF i) := by
    rw [r0, r1, ham_app _ _ _ (by simpa using hll), ham_map inj]
  have s0 : rowS g (q0, q1, q2) = mkS (pr.map ψ ++ (ca.map ψ ++ (po.map ψ ++ (ltr (g q2) ++ [39])))) := by
    have : (rowS g (q0, q1, q2)).cps.toList = pr.map ψ ++ (ca.map ψ ++ (po.map ψ ++ (ltr (g q2) ++ [39]))) := by
      rw [r0, e1]; simp
    cases h : rowS g (q0, q1, q2)
    rw [h] at this
    simp only at this
    simp [mkS, ← this]
  have s1 : rowS g (q1, q0, q2) = mkS (pr.map ψ ++ (cb.map ψ ++ (po.map ψ ++ (ltr (g q2) ++ [39])))) := by
    have : (rowS g (q1, q0, q2)).cps.toList = pr.map ψ ++ (cb.map ψ ++ (po.map ψ ++ (ltr (g q2) ++ [39]))) := by
      rw [r1, e2]; simp
    cases h : rowS g (q1, q0, q2)
    rw [h] at this
    simp only at this
    simp [mkS, ← this]
  have hc : (cb.map ψ).length = (ca.map ψ).length := by simp [c1]
  have hcn : ca.map ψ ≠ [] := by simpa using c2
  obtain ⟨b1, b2, b3⟩ := hsay _ rfl
  have t0 := g2 q0
  have t1 := g2 q1
  have t2 := g2 q2
  have hlenr : (pr ++ (ca ++ po)).length = (bitsF i).length + (bitsF j).length := by rw [← e1]; simp
  simp only [List.length_append] at hlenr
  have mapne : ∀ {o o' : Option Bool}, o ≠ o' → o.map ψ ≠ o'.map ψ := by
    intro o o' h e
    apply h
    cases o <;> cases o' <;> simp at e ⊢
    exact inj _ _ e
  refine ⟨_, _, _, _, _, s0, s1, hc, hcn, head_ne hcn hc ?_, last_ne hcn hc ?_, ?_, ?_, ?_, rfl, ?_, ?_, ?_, ?_⟩
  · rw [List.head?_map, List.head?_map]
    exact mapne c3
  · rw [List.getLast?_map, List.getLast?_map]
    exact mapne c4
  · simp only [List.length_append, List.length_map, ltr_len, List.length_cons, List.length_nil]
    omega
  · intro c hc
    obtain ⟨b, _, rfl⟩ := List.mem_map.mp hc
    exact okψ b
  · intro c hc
    obtain ⟨b, _, rfl⟩ := List.mem_map.mp hc
    exact okψ b
  · rw [hham, len0, len1]; exact b1
  · rw [hham, len0, len1, levD_map inj]; exact b2
  · rw [hham, len0, len1, levD_map inj]; exact b3
  · omega
theorem rowS_size {g : Nat → List Int} (t : Nat × Nat × Nat) : (rowS g t).cps.size = (g t.1).length + (g t.2.1).length + (g t.2.2).length + 1 := by
  simp [rowS, mkS, ltr_len]
  omega
theorem rowS_ascii {g : Nat → List Int} (g1 : ∀ k, dig (g k)) (t : Nat × Nat × Nat) : (rowS g t).cps.all (· < 128) = true := by
  simp only [rowS, mkS, List.all_toArray, List.all_eq_true, decide_eq_true_eq]
  intro c hc
  rcases List.mem_append.mp hc with hc | hc
  · have := ltr_ok (dig_app (dig_app (g1 t.1) (g1 t.2.1)) (g1 t.2.2)) c hc
    omega
  · rw [List.mem_singleton.mp hc]; decide
theorem ne_sign (p q : Nat) : ((⟨#[p]⟩ : Str) != ⟨#[q]⟩) = decide (p ≠ q) := by
  by_cases h : p = q
  · subst h; simp
  · rw [decide_eq_true h]
    apply bne_iff_ne.mpr
    intro e
    exact h (by simpa using e)
theorem min2_call {w : World} {A : Around} {s : Shared} {E : Value → Shared → Prop} {a b : Int} {t u : Tok} {Q : Value → Shared → Prop} (hh : A.handled = none)
    (h : ∀ h' tk v, s.heap.StaysIn h' → Q (.int (min a b) v) { s with heap := h', toks := tk }) : wpAny (model PR w) A (call (.builtin "min") [.int a t, .int b u]) Q E s := by
  refine min_two_ints hh fun h' tk hk => ?_
  split
  · have e : b = min a b := by omega
    have := h h' tk u hk
    rw [← e] at this
    exact this
  · have e : a = min a b := by omega
    have := h h' tk t hk
    rw [← e] at this
    exact this
theorem min3_call {w : World} {A : Around} {s : Shared} {E : Value → Shared → Prop} {a b c : Int} {t u x : Tok} {Q : Value → Shared → Prop} (hh : A.handled = none)
    (h : ∀ h' tk v, s.heap.StaysIn h' → Q (.int (min (min a b) c) v) { s with heap := h', toks := tk }) : wpAny (model PR w) A (call (.builtin "min") [.int a t, .int b u, .int c x]) Q E s := by
  refine min_three_ints hh fun h' tk hk => ?_
  have key : ∀ {d : Int} v, d = min (min a b) c → Q (.int d v) { s with heap := h', toks := tk } := fun v e => by
    have := h h' tk v hk
    rw [← e] at this
    exact this
  split <;> split
  · exact key _ (by omega)
  · exact key _ (by omega)
  · exact key _ (by omega)
  · exact key _ (by omega)
theorem ham_le {α : Type} [DecidableEq α] : ∀ (a b : List α), ham a b ≤ a.length
  | [], _ => by simp [ham]
  | _ :: _, [] => by simp [ham]
  | x :: xs, y :: ys => by
    have := ham_le xs ys
    simp only [ham, List.length_cons]
    split <;> omega
theorem len_at {w : World} {A : Around} {s : Shared} {E : Value → Shared → Prop} {l : Addr} {vs : List Value} {k : Nat} {Q : Value → Shared → Prop} (hl : s.heap.IsList l vs.toArray) (hk : vs.length = k) (hk1 : k < 1000)
    (h : ∀ tk t, Q (.int (k : Nat) t) { s with toks := tk }) : wpAny (model PR w) A (call (.builtin "len") [.ref l]) Q E s := by
  subst hk
  refine call_len_list hl (by rw [List.size_toArray]; omega) ?_
  rw [List.size_toArray]
  exact h _ _
theorem law_holds : PySem.Challenge.rw_wf0021_01.Holds := hd (by
  w_strict (k_go0; (all_goals try k_fold); (
    rename Fr _ _ _ _ => F
    rename News _ _ _ _ => N
    rename CellsAre _ _ _ => X0
    rename_i ww wt dw dt
    rename Shared => s₁
    rename Heap.IsList _ _ _ => hL
    rename IntsAre _ _ => hI
    rename (Mine.hd.heap_39 _).In _ => KX
    rename Top _ _ _ _ _ _ => T
    rename ¬ ((63 : Int) < _) => hlen
    dsimp only at F N
    ((repeat' ((( ((( (fail_if_success (with_reducible show wpAny _ _ (exec (Stmt.For _ _ _ _ _) _) _ _ _)); (fail_if_success (with_reducible show wpAny _ _ (exec (Stmt.While _ _ _ _) _) _ _ _)); (fail_if_success (with_reducible show wpAny _ _ (pyIter (Value.ref _)) _ _ _)); (fail_if_success (with_reducible show wpAny _ _ (call (Value.ref _) _ _) _ _ _)); (fail_if_success (with_reducible show wpAny _ _ (call (Value.builtin "next") _ _) _ _ _)); (fail_if_success (with_reducible show wpAny _ _ (eval (Expr.ListComp _ _ _ _) _) _ _ _)); (fail_if_success (with_reducible show LCg.CompEnd _ _ _ _ _ _ _ _ _ _ _ _ _ _)); (fail_if_success (with_reducible show LoopStep3 _ _ _ _ _ _ _ _ _ _)); (fail_if_success (with_reducible show LoopStepV _ _ _ _ _ _ _ _ _ _)); skip))); (fail_if_success (with_reducible show wpAny _ _ (storeName _ (Str.ofString "three") _) _ _ _)); (fail_if_success (with_reducible show wpAny _ _ (storeName _ (Str.ofString "words") _) _ _ _)); (fail_if_success (with_reducible show wpAny _ _ (binaryOp Operator.Add (Value.str _ _) (Value.str _ _)) _ _ _)); (fail_if_success (with_reducible show wpAny _ _ (compareOp CmpOp.NotEq (Value.ref _) (Value.ref _)) _ _ _)); (fail_if_success (with_reducible show wpAny _ _ (compareOp CmpOp.NotEq (Value.bytes _ _) (Value.bytes _ _)) _ _ _)); (fail_if_success (with_reducible show wpAny _ _ (call (Value.builtin "list.append") _) _ _ _)); (fail_if_success (with_reducible show wpAny _ _ (compareOp CmpOp.NotEq (Value.bool _) (Value.bool _)) _ _ _)); (fail_if_success (with_reducible show wpAny _ _ (PySem.eval (Expr.BoolOp _ _ _) (envOfC _ _ _ _ _)) _ _ _)); (fail_if_success (with_reducible show ValEnd _ _ _ _ _ _ _ _)); (fail_if_success (with_reducible show wpAny _ _ (call (Value.builtin "max") _) _ _ _)); (fail_if_success (with_reducible show wpAny _ _ (call (Value.builtin "min") _) _ _ _)); (fail_if_success (with_reducible show wpAny _ _ (call (Value.builtin "list.index") _) _ _ _)); (fail_if_success (with_reducible show wpAny _ _ (subscriptTail _ _ (Value.ref _) (Value.int (List.getD _ _ _) _)) _ _ _)); (fail_if_success (with_reducible show wpAny _ _ (subscriptTail _ _ (Value.ref _) (Value.int (Nat.cast _) _)) _ _ _)); (fail_if_success (with_reducible show wpAny _ _ (subscriptTail _ _ (Value.str _ _) (Value.ref _)) _ _ _)); (fail_if_success (with_reducible show wpAny _ _ (subscriptTail (Expr.Name (Str.ofString "whole") _) _ _ _) _ _ _)); (first | (((with_reducible show wpAny _ _ (PySem.eval (Expr.Name _ _) (envOfC _ _ _ _ _)) _ _ _); name_kind "cell"; (rename News _ _ _ _ => N'); (refine ldCN N' (by rfl) (by k_mem) (by assumption) ?_); walk_say "m cell")) | ((first | ((with_reducible show wpAny _ _ (storeName _ _ _) _ _ _); dsimp only; walk1) | ((first | (k_unfold; (try dsimp only)) | (k_end; wrow_close) | walk1 | (dsimp only; walk1) | (leave1; walk_say "STEP leave1"; try dsimp only) | fail "no step"))))))))))
    have hkp := F.keep
    refine three_call (KX.keeps F.keep) (T.keeps F.keep) (by show 1 + claimMargin + 1 + 3 < recursionLimit; decide) (by show 4 + 3 + 20 < cLine; decide) rfl (hL.at fun o e => F.keep _ o e) hI (by omega) fun lo hi n0 n1 n2 v0 v1 v2 a0 a1 a2 D c c0 c1 c2 h' tk' hk l1 l2 l3 l4 p1 p2 p3 p4 p5 p6 gD g0 g1 g2 oD o0 o1 o2 i0 i1 i2 => ?_
    have F2 := F.after hk
    have N2 := N.grown hk
    have q0 := news_new F g0 o0
    have q1 := news_new F g1 o1
    have q2 := news_new F g2 o2
    have qD := news_new F gD oD
    have z0 := new_apart N g0
    have z1 := new_apart N g1
    have z2 := new_apart N g2
    have zD := new_apart N gD
    obtain ⟨m0, F⟩ : ∃ m0, Fr _ _ h' m0 := ⟨_, F2⟩
    have N3 : News _ _ _ ([(a0, listOf (List.toArray v0) c0), (a1, listOf (List.toArray v1) c1), (a2, listOf (List.toArray v2) c2), (D, listOf #[.ref a0, .ref a1, .ref a2] c), _] ++ [_]) := fun p hp => by
      rcases List.mem_cons.mp hp with rfl | hp
      · exact q0
      rcases List.mem_cons.mp hp with rfl | hp
      · exact q1
      rcases List.mem_cons.mp hp with rfl | hp
      · exact q2
      rcases List.mem_cons.mp hp with rfl | hp
      · exact qD
      exact N2 p hp
    dsimp only
    ((repeat' ((( ((( (fail_if_success (with_reducible show wpAny _ _ (exec (Stmt.For _ _ _ _ _) _) _ _ _)); (fail_if_success (with_reducible show wpAny _ _ (exec (Stmt.While _ _ _ _) _) _ _ _)); (fail_if_success (with_reducible show wpAny _ _ (pyIter (Value.ref _)) _ _ _)); (fail_if_success (with_reducible show wpAny _ _ (call (Value.ref _) _ _) _ _ _)); (fail_if_success (with_reducible show wpAny _ _ (call (Value.builtin "next") _ _) _ _ _)); (fail_if_success (with_reducible show wpAny _ _ (eval (Expr.ListComp _ _ _ _) _) _ _ _)); (fail_if_success (with_reducible show LCg.CompEnd _ _ _ _ _ _ _ _ _ _ _ _ _ _)); (fail_if_success (with_reducible show LoopStep3 _ _ _ _ _ _ _ _ _ _)); (fail_if_success (with_reducible show LoopStepV _ _ _ _ _ _ _ _ _ _)); skip))); (fail_if_success (with_reducible show wpAny _ _ (storeName _ (Str.ofString "three") _) _ _ _)); (fail_if_success (with_reducible show wpAny _ _ (storeName _ (Str.ofString "words") _) _ _ _)); (fail_if_success (with_reducible show wpAny _ _ (binaryOp Operator.Add (Value.str _ _) (Value.str _ _)) _ _ _)); (fail_if_success (with_reducible show wpAny _ _ (compareOp CmpOp.NotEq (Value.ref _) (Value.ref _)) _ _ _)); (fail_if_success (with_reducible show wpAny _ _ (compareOp CmpOp.NotEq (Value.bytes _ _) (Value.bytes _ _)) _ _ _)); (fail_if_success (with_reducible show wpAny _ _ (call (Value.builtin "list.append") _) _ _ _)); (fail_if_success (with_reducible show wpAny _ _ (compareOp CmpOp.NotEq (Value.bool _) (Value.bool _)) _ _ _)); (fail_if_success (with_reducible show wpAny _ _ (PySem.eval (Expr.BoolOp _ _ _) (envOfC _ _ _ _ _)) _ _ _)); (fail_if_success (with_reducible show ValEnd _ _ _ _ _ _ _ _)); (fail_if_success (with_reducible show wpAny _ _ (call (Value.builtin "max") _) _ _ _)); (fail_if_success (with_reducible show wpAny _ _ (call (Value.builtin "min") _) _ _ _)); (fail_if_success (with_reducible show wpAny _ _ (call (Value.builtin "list.index") _) _ _ _)); (fail_if_success (with_reducible show wpAny _ _ (subscriptTail _ _ (Value.ref _) (Value.int (List.getD _ _ _) _)) _ _ _)); (fail_if_success (with_reducible show wpAny _ _ (subscriptTail _ _ (Value.ref _) (Value.int (Nat.cast _) _)) _ _ _)); (fail_if_success (with_reducible show wpAny _ _ (subscriptTail _ _ (Value.str _ _) (Value.ref _)) _ _ _)); (fail_if_success (with_reducible show wpAny _ _ (subscriptTail (Expr.Name (Str.ofString "whole") _) _ _ _) _ _ _)); (first | (((with_reducible show wpAny _ _ (PySem.eval (Expr.Name _ _) (envOfC _ _ _ _ _)) _ _ _); name_kind "cell"; (rename News _ _ _ _ => N'); (refine ldCN N' (by rfl) (by k_mem) (by assumption) ?_); walk_say "m cell")) | ((first | ((with_reducible show wpAny _ _ (storeName _ _ _) _ _ _); dsimp only; walk1) | ((first | (k_unfold; (try dsimp only)) | (k_end; wrow_close) | walk1 | (dsimp only; walk1) | (leave1; walk_say "STEP leave1"; try dsimp only) | fail "no step"))))))))))
    clear F2 X0 g0 g1 g2 gD N2 q0 q1 q2 qD
    refine stCN F N3 (by rfl) dt (fun p hp => ?_) (by simp) fun h₂ ot F4 N4 dt2 => ?_
    · simp only [List.mem_cons, List.not_mem_nil, or_false] at hp
      rcases hp with rfl | rfl | rfl | rfl | rfl
      · exact z0 _ (.tail _ (.head _))
      · exact z1 _ (.tail _ (.head _))
      · exact z2 _ (.tail _ (.head _))
      · exact zD _ (.tail _ (.head _))
      · exact Nat.succ_ne_self _
    dsimp only
    ((repeat' ((( ((( (fail_if_success (with_reducible show wpAny _ _ (exec (Stmt.For _ _ _ _ _) _) _ _ _)); (fail_if_success (with_reducible show wpAny _ _ (exec (Stmt.While _ _ _ _) _) _ _ _)); (fail_if_success (with_reducible show wpAny _ _ (pyIter (Value.ref _)) _ _ _)); (fail_if_success (with_reducible show wpAny _ _ (call (Value.ref _) _ _) _ _ _)); (fail_if_success (with_reducible show wpAny _ _ (call (Value.builtin "next") _ _) _ _ _)); (fail_if_success (with_reducible show wpAny _ _ (eval (Expr.ListComp _ _ _ _) _) _ _ _)); (fail_if_success (with_reducible show LCg.CompEnd _ _ _ _ _ _ _ _ _ _ _ _ _ _)); (fail_if_success (with_reducible show LoopStep3 _ _ _ _ _ _ _ _ _ _)); (fail_if_success (with_reducible show LoopStepV _ _ _ _ _ _ _ _ _ _)); skip))); (fail_if_success (with_reducible show wpAny _ _ (storeName _ (Str.ofString "three") _) _ _ _)); (fail_if_success (with_reducible show wpAny _ _ (storeName _ (Str.ofString "words") _) _ _ _)); (fail_if_success (with_reducible show wpAny _ _ (binaryOp Operator.Add (Value.str _ _) (Value.str _ _)) _ _ _)); (fail_if_success (with_reducible show wpAny _ _ (compareOp CmpOp.NotEq (Value.ref _) (Value.ref _)) _ _ _)); (fail_if_success (with_reducible show wpAny _ _ (compareOp CmpOp.NotEq (Value.bytes _ _) (Value.bytes _ _)) _ _ _)); (fail_if_success (with_reducible show wpAny _ _ (call (Value.builtin "list.append") _) _ _ _)); (fail_if_success (with_reducible show wpAny _ _ (compareOp CmpOp.NotEq (Value.bool _) (Value.bool _)) _ _ _)); (fail_if_success (with_reducible show wpAny _ _ (PySem.eval (Expr.BoolOp _ _ _) (envOfC _ _ _ _ _)) _ _ _)); (fail_if_success (with_reducible show ValEnd _ _ _ _ _ _ _ _)); (fail_if_success (with_reducible show wpAny _ _ (call (Value.builtin "max") _) _ _ _)); (fail_if_success (with_reducible show wpAny _ _ (call (Value.builtin "min") _) _ _ _)); (fail_if_success (with_reducible show wpAny _ _ (call (Value.builtin "list.index") _) _ _ _)); (fail_if_success (with_reducible show wpAny _ _ (subscriptTail _ _ (Value.ref _) (Value.int (List.getD _ _ _) _)) _ _ _)); (fail_if_success (with_reducible show wpAny _ _ (subscriptTail _ _ (Value.ref _) (Value.int (Nat.cast _) _)) _ _ _)); (fail_if_success (with_reducible show wpAny _ _ (subscriptTail _ _ (Value.str _ _) (Value.ref _)) _ _ _)); (fail_if_success (with_reducible show wpAny _ _ (subscriptTail (Expr.Name (Str.ofString "whole") _) _ _ _) _ _ _)); (first | (((with_reducible show wpAny _ _ (PySem.eval (Expr.Name _ _) (envOfC _ _ _ _ _)) _ _ _); name_kind "cell"; (rename News _ _ _ _ => N'); (refine ldCN N' (by rfl) (by k_mem) (by assumption) ?_); walk_say "m cell")) | ((first | ((with_reducible show wpAny _ _ (storeName _ _ _) _ _ _); dsimp only; walk1) | ((first | (k_unfold; (try dsimp only)) | (k_end; wrow_close) | walk1 | (dsimp only; walk1) | (leave1; walk_say "STEP leave1"; try dsimp only) | fail "no step"))))))))))
    refine comp_eval (cl := [(Str.ofString "three", _)]) F4 (by rfl) (by decide) (by rfl) (by decide) (by rfl) ?_
    ((repeat' ((( ((( (fail_if_success (with_reducible show wpAny _ _ (exec (Stmt.For _ _ _ _ _) _) _ _ _)); (fail_if_success (with_reducible show wpAny _ _ (exec (Stmt.While _ _ _ _) _) _ _ _)); (fail_if_success (with_reducible show wpAny _ _ (pyIter (Value.ref _)) _ _ _)); (fail_if_success (with_reducible show wpAny _ _ (call (Value.ref _) _ _) _ _ _)); (fail_if_success (with_reducible show wpAny _ _ (call (Value.builtin "next") _ _) _ _ _)); (fail_if_success (with_reducible show wpAny _ _ (eval (Expr.ListComp _ _ _ _) _) _ _ _)); (fail_if_success (with_reducible show LCg.CompEnd _ _ _ _ _ _ _ _ _ _ _ _ _ _)); (fail_if_success (with_reducible show LoopStep3 _ _ _ _ _ _ _ _ _ _)); (fail_if_success (with_reducible show LoopStepV _ _ _ _ _ _ _ _ _ _)); skip))); (fail_if_success (with_reducible show wpAny _ _ (storeName _ (Str.ofString "three") _) _ _ _)); (fail_if_success (with_reducible show wpAny _ _ (storeName _ (Str.ofString "words") _) _ _ _)); (fail_if_success (with_reducible show wpAny _ _ (binaryOp Operator.Add (Value.str _ _) (Value.str _ _)) _ _ _)); (fail_if_success (with_reducible show wpAny _ _ (compareOp CmpOp.NotEq (Value.ref _) (Value.ref _)) _ _ _)); (fail_if_success (with_reducible show wpAny _ _ (compareOp CmpOp.NotEq (Value.bytes _ _) (Value.bytes _ _)) _ _ _)); (fail_if_success (with_reducible show wpAny _ _ (call (Value.builtin "list.append") _) _ _ _)); (fail_if_success (with_reducible show wpAny _ _ (compareOp CmpOp.NotEq (Value.bool _) (Value.bool _)) _ _ _)); (fail_if_success (with_reducible show wpAny _ _ (PySem.eval (Expr.BoolOp _ _ _) (envOfC _ _ _ _ _)) _ _ _)); (fail_if_success (with_reducible show ValEnd _ _ _ _ _ _ _ _)); (fail_if_success (with_reducible show wpAny _ _ (call (Value.builtin "max") _) _ _ _)); (fail_if_success (with_reducible show wpAny _ _ (call (Value.builtin "min") _) _ _ _)); (fail_if_success (with_reducible show wpAny _ _ (call (Value.builtin "list.index") _) _ _ _)); (fail_if_success (with_reducible show wpAny _ _ (subscriptTail _ _ (Value.ref _) (Value.int (List.getD _ _ _) _)) _ _ _)); (fail_if_success (with_reducible show wpAny _ _ (subscriptTail _ _ (Value.ref _) (Value.int (Nat.cast _) _)) _ _ _)); (fail_if_success (with_reducible show wpAny _ _ (subscriptTail _ _ (Value.str _ _) (Value.ref _)) _ _ _)); (fail_if_success (with_reducible show wpAny _ _ (subscriptTail (Expr.Name (Str.ofString "whole") _) _ _ _) _ _ _)); (first | (((with_reducible show wpAny _ _ (PySem.eval (Expr.Name _ _) (envOfC _ _ _ _ _)) _ _ _); name_kind "cell"; (rename News _ _ _ _ => N'); (refine ldCN N' (by rfl) (by k_mem) (by assumption) ?_); walk_say "m cell")) | ((first | ((with_reducible show wpAny _ _ (storeName _ _ _) _ _ _); dsimp only; walk1) | ((first | (k_unfold; (try dsimp only)) | (k_end; wrow_close) | walk1 | (dsimp only; walk1) | (leave1; walk_say "STEP leave1"; try dsimp only) | fail "no step"))))))))))
    rename Fr _ _ _ _ => F5
    rename News _ _ _ _ => N5
    rename IsRange _ _ _ _ _ _ _ _ => R5
    refine it_range rfl F5 N5 R5 (range_small (by omega)) (n := 3) (by decide) (by decide) (fun h => ?_)
    refine rest_invK (fun i ys news => news = [(a0, listOf (List.toArray v0) c0), (a1, listOf (List.toArray v1) c1), (a2, listOf (List.toArray v2) c2), (D, listOf #[.ref a0, .ref a1, .ref a2] c), (s₁.heap.objs.size + 1 + 1, ww), (s₁.heap.objs.size + 1, ot)] ∧ ∃ ws : List Str, StrsAre ys ws ∧ ws.length = i ∧ ∀ (j : Nat) x, ws[j]? = some x → x.cps.toList.map (fun c : Nat => (c : Int)) = apI (foldedF 16 0 (figF lo hi (if j = 0 then n0 else if j = 1 then n1 else n2))).natAbs) ?_ ?_ _ 0 [] _ (Nat.zero_add _) ⟨rfl, [], .nil, rfl, by simp⟩
    · intro ys news hj D2 h2 tk2 F N od
      refine bb fun G hG => ?_
      obtain ⟨rfl, ws, hws, hwl, hw⟩ := hj
      refine hG ?_
      clear hG G
      dsimp only
      ((repeat' ((( ((( (fail_if_success (with_reducible show wpAny _ _ (exec (Stmt.For _ _ _ _ _) _) _ _ _)); (fail_if_success (with_reducible show wpAny _ _ (exec (Stmt.While _ _ _ _) _) _ _ _)); (fail_if_success (with_reducible show wpAny _ _ (pyIter (Value.ref _)) _ _ _)); (fail_if_success (with_reducible show wpAny _ _ (call (Value.ref _) _ _) _ _ _)); (fail_if_success (with_reducible show wpAny _ _ (call (Value.builtin "next") _ _) _ _ _)); (fail_if_success (with_reducible show wpAny _ _ (eval (Expr.ListComp _ _ _ _) _) _ _ _)); (fail_if_success (with_reducible show LCg.CompEnd _ _ _ _ _ _ _ _ _ _ _ _ _ _)); (fail_if_success (with_reducible show LoopStep3 _ _ _ _ _ _ _ _ _ _)); (fail_if_success (with_reducible show LoopStepV _ _ _ _ _ _ _ _ _ _)); skip))); (fail_if_success (with_reducible show wpAny _ _ (storeName _ (Str.ofString "three") _) _ _ _)); (fail_if_success (with_reducible show wpAny _ _ (storeName _ (Str.ofString "words") _) _ _ _)); (fail_if_success (with_reducible show wpAny _ _ (binaryOp Operator.Add (Value.str _ _) (Value.str _ _)) _ _ _)); (fail_if_success (with_reducible show wpAny _ _ (compareOp CmpOp.NotEq (Value.ref _) (Value.ref _)) _ _ _)); (fail_if_success (with_reducible show wpAny _ _ (compareOp CmpOp.NotEq (Value.bytes _ _) (Value.bytes _ _)) _ _ _)); (fail_if_success (with_reducible show wpAny _ _ (call (Value.builtin "list.append") _) _ _ _)); (fail_if_success (with_reducible show wpAny _ _ (compareOp CmpOp.NotEq (Value.bool _) (Value.bool _)) _ _ _)); (fail_if_success (with_reducible show wpAny _ _ (PySem.eval (Expr.BoolOp _ _ _) (envOfC _ _ _ _ _)) _ _ _)); (fail_if_success (with_reducible show ValEnd _ _ _ _ _ _ _ _)); (fail_if_success (with_reducible show wpAny _ _ (call (Value.builtin "max") _) _ _ _)); (fail_if_success (with_reducible show wpAny _ _ (call (Value.builtin "min") _) _ _ _)); (fail_if_success (with_reducible show wpAny _ _ (call (Value.builtin "list.index") _) _ _ _)); (fail_if_success (with_reducible show wpAny _ _ (subscriptTail _ _ (Value.ref _) (Value.int (List.getD _ _ _) _)) _ _ _)); (fail_if_success (with_reducible show wpAny _ _ (subscriptTail _ _ (Value.ref _) (Value.int (Nat.cast _) _)) _ _ _)); (fail_if_success (with_reducible show wpAny _ _ (subscriptTail _ _ (Value.str _ _) (Value.ref _)) _ _ _)); (fail_if_success (with_reducible show wpAny _ _ (subscriptTail (Expr.Name (Str.ofString "whole") _) _ _ _) _ _ _)); (first | (((with_reducible show wpAny _ _ (PySem.eval (Expr.Name _ _) (envOfC _ _ _ _ _)) _ _ _); name_kind "cell"; (rename News _ _ _ _ => N'); (refine ldCN N' (by rfl) (by k_mem) (by assumption) ?_); walk_say "m cell")) | ((first | ((with_reducible show wpAny _ _ (storeName _ _ _) _ _ _); dsimp only; walk1) | ((first | (k_unfold; (try dsimp only)) | (k_end; wrow_close) | walk1 | (dsimp only; walk1) | (leave1; walk_say "STEP leave1"; try dsimp only) | fail "no step"))))))))))
      have N : News _ _ _ ([(D2, LCg.lst ys), (a0, listOf (List.toArray v0) c0), (a1, listOf (List.toArray v1) c1), (a2, listOf (List.toArray v2) c2), (D, listOf #[.ref a0, .ref a1, .ref a2] c)] ++ (s₁.heap.objs.size + 1 + 1, ww) :: [(s₁.heap.objs.size + 1, ot)]) := N
      refine stCN F N (by rfl) dw (fun p hp => ?_) (fun p hp => ?_) fun h₃ ow F6 N6 dw2 => ?_
      · simp only [List.mem_cons, List.not_mem_nil, or_false] at hp
        rcases hp with rfl | rfl | rfl | rfl | rfl
        · exact Ne.symm od.2.2.2.2.1
        · exact z0 _ (.head _)
        · exact z1 _ (.head _)
        · exact z2 _ (.head _)
        · exact zD _ (.head _)
      · rw [List.mem_singleton.mp hp]
        exact Ne.symm (Nat.succ_ne_self _)
      clear F N N3 N5 F5 R5
      dsimp only
      ((repeat' ((( ((( (fail_if_success (with_reducible show wpAny _ _ (exec (Stmt.For _ _ _ _ _) _) _ _ _)); (fail_if_success (with_reducible show wpAny _ _ (exec (Stmt.While _ _ _ _) _) _ _ _)); (fail_if_success (with_reducible show wpAny _ _ (pyIter (Value.ref _)) _ _ _)); (fail_if_success (with_reducible show wpAny _ _ (call (Value.ref _) _ _) _ _ _)); (fail_if_success (with_reducible show wpAny _ _ (call (Value.builtin "next") _ _) _ _ _)); (fail_if_success (with_reducible show wpAny _ _ (eval (Expr.ListComp _ _ _ _) _) _ _ _)); (fail_if_success (with_reducible show LCg.CompEnd _ _ _ _ _ _ _ _ _ _ _ _ _ _)); (fail_if_success (with_reducible show LoopStep3 _ _ _ _ _ _ _ _ _ _)); (fail_if_success (with_reducible show LoopStepV _ _ _ _ _ _ _ _ _ _)); skip))); (fail_if_success (with_reducible show wpAny _ _ (storeName _ (Str.ofString "three") _) _ _ _)); (fail_if_success (with_reducible show wpAny _ _ (storeName _ (Str.ofString "words") _) _ _ _)); (fail_if_success (with_reducible show wpAny _ _ (binaryOp Operator.Add (Value.str _ _) (Value.str _ _)) _ _ _)); (fail_if_success (with_reducible show wpAny _ _ (compareOp CmpOp.NotEq (Value.ref _) (Value.ref _)) _ _ _)); (fail_if_success (with_reducible show wpAny _ _ (compareOp CmpOp.NotEq (Value.bytes _ _) (Value.bytes _ _)) _ _ _)); (fail_if_success (with_reducible show wpAny _ _ (call (Value.builtin "list.append") _) _ _ _)); (fail_if_success (with_reducible show wpAny _ _ (compareOp CmpOp.NotEq (Value.bool _) (Value.bool _)) _ _ _)); (fail_if_success (with_reducible show wpAny _ _ (PySem.eval (Expr.BoolOp _ _ _) (envOfC _ _ _ _ _)) _ _ _)); (fail_if_success (with_reducible show ValEnd _ _ _ _ _ _ _ _)); (fail_if_success (with_reducible show wpAny _ _ (call (Value.builtin "max") _) _ _ _)); (fail_if_success (with_reducible show wpAny _ _ (call (Value.builtin "min") _) _ _ _)); (fail_if_success (with_reducible show wpAny _ _ (call (Value.builtin "list.index") _) _ _ _)); (fail_if_success (with_reducible show wpAny _ _ (subscriptTail _ _ (Value.ref _) (Value.int (List.getD _ _ _) _)) _ _ _)); (fail_if_success (with_reducible show wpAny _ _ (subscriptTail _ _ (Value.ref _) (Value.int (Nat.cast _) _)) _ _ _)); (fail_if_success (with_reducible show wpAny _ _ (subscriptTail _ _ (Value.str _ _) (Value.ref _)) _ _ _)); (fail_if_success (with_reducible show wpAny _ _ (subscriptTail (Expr.Name (Str.ofString "whole") _) _ _ _) _ _ _)); (first | (((with_reducible show wpAny _ _ (PySem.eval (Expr.Name _ _) (envOfC _ _ _ _ _)) _ _ _); name_kind "cell"; (rename News _ _ _ _ => N'); (refine ldCN N' (by rfl) (by k_mem) (by assumption) ?_); walk_say "m cell")) | ((first | ((with_reducible show wpAny _ _ (storeName _ _ _) _ _ _); dsimp only; walk1) | ((first | (k_unfold; (try dsimp only)) | (k_end; wrow_close) | walk1 | (dsimp only; walk1) | (leave1; walk_say "STEP leave1"; try dsimp only) | fail "no step"))))))))))
      rename Fr _ _ _ _ => F7
      rename News _ _ _ _ => N7
      rename_i e0 _ _ e1 _ _ e2 _ _ e3 _ _ e4 _ _ e5 _ _ od5 _ lod _ _ rws _ lrw _ whs _ lwh _
      have mO := N7 _ (.tail _ (.tail _ (.head _)))
      obtain ⟨B, hB, N7⟩ := split_two N7
      have bw : ∀ p ∈ B, p.1 < whs := by rw [hB]; exact ktn_ltOf lwh.2
      have br : ∀ p ∈ B, p.1 < rws := by rw [hB]; exact ktn_ltOf lrw
      obtain ⟨g, hg⟩ : ∃ g, figK lo hi n0 n1 n2 = g := ⟨_, rfl⟩
      have g1 : ∀ k, ∀ f ∈ g k, 1 ≤ f ∧ f ≤ 15 := by rw [← hg]; exact figK_in l1 l2 l3 l4
      have g2 : ∀ k, (g k).length ≤ 4 := by rw [← hg]; exact figK_len p2 p4 p6
      have g3 : ∀ k, 1 ≤ (g k).length := by rw [← hg]; exact figK_ne p1 p3 p5
      have hY : ∀ r, r < 3 → ∃ t, ys[r]? = some (.str (mkS (ltr (g r))) t) := words_at hws hwl g1 (fun j x hj => by rw [← hg]; exact hw j x hj)
      have hW : ∀ r : Nat, r < 3 → ws.getD ((r : Int)).toNat Str.empty = mkS (ltr (g r)) := words_get hwl g1 (fun j x hj => by rw [← hg]; exact hw j x hj)
      have hA : ∀ r, r < 3 → ∃ x u k, #[Value.ref a0, .ref a1, .ref a2][r]? = some (.ref x) ∧ (x, listOf (List.toArray u) k) ∈ B ∧ IntsAre u (g r) := by
        intro r hr
        rw [hB, ← hg]
        match r, hr with
        | 0, _ => exact ⟨a0, v0, c0, rfl, .tail _ (.tail _ (.tail _ (.tail _ (.tail _ (.tail _ (.tail _ (.tail _ (.head _)))))))), i0⟩
        | 1, _ => exact ⟨a1, v1, c1, rfl, .tail _ (.tail _ (.tail _ (.tail _ (.tail _ (.tail _ (.tail _ (.tail _ (.tail _ (.head _))))))))), i1⟩
        | 2, _ => exact ⟨a2, v2, c2, rfl, .tail _ (.tail _ (.tail _ (.tail _ (.tail _ (.tail _ (.tail _ (.tail _ (.tail _ (.tail _ (.head _)))))))))), i2⟩
      have hBs : ∀ p ∈ [(D2, LCg.lst ys), (D, listOf #[Value.ref a0, .ref a1, .ref a2] c), (s₁.heap.objs.size + 1 + 1, ow), (s₁.heap.objs.size + 1, ot)], p ∈ B := by
        intro p hp
        rw [hB]
        simp only [List.mem_cons, List.not_mem_nil, or_false] at hp
        rcases hp with rfl | rfl | rfl | rfl
        · exact .tail _ (.tail _ (.tail _ (.tail _ (.tail _ (.tail _ (.tail _ (.head _)))))))
        · exact .tail _ (.tail _ (.tail _ (.tail _ (.tail _ (.tail _ (.tail _ (.tail _ (.tail _ (.tail _ (.tail _ (.head _)))))))))))
        · exact .tail _ (.tail _ (.tail _ (.tail _ (.tail _ (.tail _ (.tail _ (.tail _ (.tail _ (.tail _ (.tail _ (.tail _ (.head _))))))))))))
        · exact .tail _ (.tail _ (.tail _ (.tail _ (.tail _ (.tail _ (.tail _ (.tail _ (.tail _ (.tail _ (.tail _ (.tail _ (.tail _ (.head _)))))))))))))
      have hE : ∀ (i q0 q1 q2 : Nat), i < 6 → P6[i]? = some (q0, q1, q2) → ∃ ea s0 s1 s2, [Value.ref e0, .ref e1, .ref e2, .ref e3, .ref e4, .ref e5][i]? = some (.ref ea) ∧ (ea, listOf #[.int (q0 : Int) s0, .int (q1 : Int) s1, .int (q2 : Int) s2] 0) ∈ B := by
        intro i q0 q1 q2 hi6 hP
        rw [hB]
        match i, hi6 with
        | 0, _ => cases hP; exact ⟨e0, _, _, _, rfl, .tail _ (.tail _ (.tail _ (.tail _ (.tail _ (.tail _ (.head _))))))⟩
        | 1, _ => cases hP; exact ⟨e1, _, _, _, rfl, .tail _ (.tail _ (.tail _ (.tail _ (.tail _ (.head _)))))⟩
        | 2, _ => cases hP; exact ⟨e2, _, _, _, rfl, .tail _ (.tail _ (.tail _ (.tail _ (.head _))))⟩
        | 3, _ => cases hP; exact ⟨e3, _, _, _, rfl, .tail _ (.tail _ (.tail _ (.head _)))⟩
        | 4, _ => cases hP; exact ⟨e4, _, _, _, rfl, .tail _ (.tail _ (.head _))⟩
        | 5, _ => cases hP; exact ⟨e5, _, _, _, rfl, .tail _ (.head _)⟩
      have hOd : (od5, listOf #[Value.ref e0, .ref e1, .ref e2, .ref e3, .ref e4, .ref e5] 0) ∈ B := by rw [hB]; exact .head _
      have hOrd : ∀ h' : Heap, (∀ p ∈ B, h'.get? p.1 = some p.2) → ∃ as, ReadsAll h' [Value.ref e0, .ref e1, .ref e2, .ref e3, .ref e4, .ref e5] (P6L.map lst) as := by
        intro h' hh
        rw [hB] at hh
        exact ⟨_, .cons (reads_newData ⟨_, hh _ (.tail _ (.tail _ (.tail _ (.tail _ (.tail _ (.tail _ (.head _))))))), rfl, 0, rfl⟩ (ke_carried (.cons _ _ (.cons _ _ (.cons _ _ .nil)))))
          (.cons (reads_newData ⟨_, hh _ (.tail _ (.tail _ (.tail _ (.tail _ (.tail _ (.head _)))))), rfl, 0, rfl⟩ (ke_carried (.cons _ _ (.cons _ _ (.cons _ _ .nil)))))
          (.cons (reads_newData ⟨_, hh _ (.tail _ (.tail _ (.tail _ (.tail _ (.head _))))), rfl, 0, rfl⟩ (ke_carried (.cons _ _ (.cons _ _ (.cons _ _ .nil)))))
          (.cons (reads_newData ⟨_, hh _ (.tail _ (.tail _ (.tail _ (.head _)))), rfl, 0, rfl⟩ (ke_carried (.cons _ _ (.cons _ _ (.cons _ _ .nil)))))
          (.cons (reads_newData ⟨_, hh _ (.tail _ (.tail _ (.head _))), rfl, 0, rfl⟩ (ke_carried (.cons _ _ (.cons _ _ (.cons _ _ .nil)))))
          (.cons (reads_newData ⟨_, hh _ (.tail _ (.head _)), rfl, 0, rfl⟩ (ke_carried (.cons _ _ (.cons _ _ (.cons _ _ .nil))))) .nil)))))⟩
      refine For_invV s₁.heap (by rfl) (by rfl) ?_
      ((repeat' ((( ((( (fail_if_success (with_reducible show wpAny _ _ (exec (Stmt.For _ _ _ _ _) _) _ _ _)); (fail_if_success (with_reducible show wpAny _ _ (exec (Stmt.While _ _ _ _) _) _ _ _)); (fail_if_success (with_reducible show wpAny _ _ (pyIter (Value.ref _)) _ _ _)); (fail_if_success (with_reducible show wpAny _ _ (call (Value.ref _) _ _) _ _ _)); (fail_if_success (with_reducible show wpAny _ _ (call (Value.builtin "next") _ _) _ _ _)); (fail_if_success (with_reducible show wpAny _ _ (eval (Expr.ListComp _ _ _ _) _) _ _ _)); (fail_if_success (with_reducible show LCg.CompEnd _ _ _ _ _ _ _ _ _ _ _ _ _ _)); (fail_if_success (with_reducible show LoopStep3 _ _ _ _ _ _ _ _ _ _)); (fail_if_success (with_reducible show LoopStepV _ _ _ _ _ _ _ _ _ _)); skip))); (fail_if_success (with_reducible show wpAny _ _ (storeName _ (Str.ofString "three") _) _ _ _)); (fail_if_success (with_reducible show wpAny _ _ (storeName _ (Str.ofString "words") _) _ _ _)); (fail_if_success (with_reducible show wpAny _ _ (binaryOp Operator.Add (Value.str _ _) (Value.str _ _)) _ _ _)); (fail_if_success (with_reducible show wpAny _ _ (compareOp CmpOp.NotEq (Value.ref _) (Value.ref _)) _ _ _)); (fail_if_success (with_reducible show wpAny _ _ (compareOp CmpOp.NotEq (Value.bytes _ _) (Value.bytes _ _)) _ _ _)); (fail_if_success (with_reducible show wpAny _ _ (call (Value.builtin "list.append") _) _ _ _)); (fail_if_success (with_reducible show wpAny _ _ (compareOp CmpOp.NotEq (Value.bool _) (Value.bool _)) _ _ _)); (fail_if_success (with_reducible show wpAny _ _ (PySem.eval (Expr.BoolOp _ _ _) (envOfC _ _ _ _ _)) _ _ _)); (fail_if_success (with_reducible show ValEnd _ _ _ _ _ _ _ _)); (fail_if_success (with_reducible show wpAny _ _ (call (Value.builtin "max") _) _ _ _)); (fail_if_success (with_reducible show wpAny _ _ (call (Value.builtin "min") _) _ _ _)); (fail_if_success (with_reducible show wpAny _ _ (call (Value.builtin "list.index") _) _ _ _)); (fail_if_success (with_reducible show wpAny _ _ (subscriptTail _ _ (Value.ref _) (Value.int (List.getD _ _ _) _)) _ _ _)); (fail_if_success (with_reducible show wpAny _ _ (subscriptTail _ _ (Value.ref _) (Value.int (Nat.cast _) _)) _ _ _)); (fail_if_success (with_reducible show wpAny _ _ (subscriptTail _ _ (Value.str _ _) (Value.ref _)) _ _ _)); (fail_if_success (with_reducible show wpAny _ _ (subscriptTail (Expr.Name (Str.ofString "whole") _) _ _ _) _ _ _)); (first | (((with_reducible show wpAny _ _ (PySem.eval (Expr.Name _ _) (envOfC _ _ _ _ _)) _ _ _); name_kind "cell"; (rename News _ _ _ _ => N'); (refine ldCN N' (by rfl) (by k_mem) (by assumption) ?_); walk_say "m cell")) | ((first | ((with_reducible show wpAny _ _ (storeName _ _ _) _ _ _); dsimp only; walk1) | ((first | (k_unfold; (try dsimp only)) | (k_end; wrow_close) | walk1 | (dsimp only; walk1) | (leave1; walk_say "STEP leave1"; try dsimp only) | fail "no step"))))))))))
      refine iter_listV (fun i m nx => ∃ wv k1 rv k2 rs, nx = (whs, listOf (List.toArray wv) k1) :: (rws, listOf (List.toArray rv) k2) :: B ∧ m (Str.ofString "rows") = some (.ref rws) ∧ m (Str.ofString "wholes") = some (.ref whs) ∧ m (Str.ofString "orders") = some (.ref od5) ∧
        StrsAre rv rs ∧ rs.length = i ∧ (∀ (j : Nat) x t, rs[j]? = some x → P6[j]? = some t → x.cps.toList.map (fun c : Nat => (c : Int)) = rowK g t) ∧ IntsAre wv ((P6.take i).map (wholeK g))) rfl mO.1 mO.2.1 F7 N7 ⟨[], 0, [], 0, [], rfl, rfl, rfl, rfl, .nil, rfl, by simp, .nil⟩ ?_ ?_
      · intro i v m₁ news₁ h tk own I Kt Rt St hKt hRt hi6 hv hj hoff hown F N
        refine bb fun G hG => ?_
        obtain ⟨wv, k1, rv, k2, rs, rfl, j1, j2, j3, hrs, hrl, hrw, hwv⟩ := hj
        obtain ⟨ea, q0, q1, q2, s0, s1, s2, rfl, hP, hmem, ho0, ho1, ho2⟩ : ∃ ea, ∃ q0 q1 q2 : Nat, ∃ s0 s1 s2 : Tok, v = .ref ea ∧ P6[i]? = some (q0, q1, q2) ∧ (ea, listOf #[.int (q0 : Int) s0, .int (q1 : Int) s1, .int (q2 : Int) s2] 0) ∈ B ∧ q0 < 3 ∧ q1 < 3 ∧ q2 < 3 := by
          rw [hB]
          match i, hi6, hv with
          | 0, _, hv => exact ⟨e0, 0, 1, 2, _, _, _, (Option.some.inj hv).symm, rfl, .tail _ (.tail _ (.tail _ (.tail _ (.tail _ (.tail _ (.head _)))))), by decide, by decide, by decide⟩
          | 1, _, hv => exact ⟨e1, 0, 2, 1, _, _, _, (Option.some.inj hv).symm, rfl, .tail _ (.tail _ (.tail _ (.tail _ (.tail _ (.head _))))), by decide, by decide, by decide⟩
          | 2, _, hv => exact ⟨e2, 1, 0, 2, _, _, _, (Option.some.inj hv).symm, rfl, .tail _ (.tail _ (.tail _ (.tail _ (.head _)))), by decide, by decide, by decide⟩
          | 3, _, hv => exact ⟨e3, 1, 2, 0, _, _, _, (Option.some.inj hv).symm, rfl, .tail _ (.tail _ (.tail _ (.head _))), by decide, by decide, by decide⟩
          | 4, _, hv => exact ⟨e4, 2, 0, 1, _, _, _, (Option.some.inj hv).symm, rfl, .tail _ (.tail _ (.head _)), by decide, by decide, by decide⟩
          | 5, _, hv => exact ⟨e5, 2, 1, 0, _, _, _, (Option.some.inj hv).symm, rfl, .tail _ (.head _), by decide, by decide, by decide⟩
        obtain ⟨y0, hy0⟩ := hY q0 ho0
        obtain ⟨y1, hy1⟩ := hY q1 ho1
        obtain ⟨y2, hy2⟩ := hY q2 ho2
        obtain ⟨x0, u0, f0, hx0, hm0, hu0⟩ := hA q0 ho0
        obtain ⟨x1, u1, f1, hx1, hm1, hu1⟩ := hA q1 ho1
        obtain ⟨x2, u2, f2, hx2, hm2, hu2⟩ := hA q2 ho2
        refine hG ?_
        clear hG G
        have N : News s₁.heap s₁.heap.objs.size h ((whs, listOf (List.toArray wv) k1) :: (rws, listOf (List.toArray rv) k2) :: (ea, listOf #[.int (q0 : Int) s0, .int (q1 : Int) s1, .int (q2 : Int) s2] 0) :: (D2, LCg.lst ys) :: (D, listOf #[Value.ref a0, .ref a1, .ref a2] c) ::
            (x0, listOf (List.toArray u0) f0) :: (x1, listOf (List.toArray u1) f1) :: (x2, listOf (List.toArray u2) f2) :: (s₁.heap.objs.size + 1 + 1, ow) :: (s₁.heap.objs.size + 1, ot) :: (own ++ (whs, listOf (List.toArray wv) k1) :: (rws, listOf (List.toArray rv) k2) :: B)) := by
          refine news_sub N fun p hp => ?_
          rcases List.mem_cons.mp hp with rfl | hp
          · exact List.mem_append_right _ (.head _)
          rcases List.mem_cons.mp hp with rfl | hp
          · exact List.mem_append_right _ (.tail _ (.head _))
          have hb : ∀ p ∈ B, p ∈ own ++ (whs, listOf (List.toArray wv) k1) :: (rws, listOf (List.toArray rv) k2) :: B := fun p hp => List.mem_append_right _ (.tail _ (.tail _ hp))
          rcases List.mem_cons.mp hp with rfl | hp
          · exact hb _ hmem
          rcases List.mem_cons.mp hp with rfl | hp
          · exact hb _ (hBs _ (.head _))
          rcases List.mem_cons.mp hp with rfl | hp
          · exact hb _ (hBs _ (.tail _ (.head _)))
          rcases List.mem_cons.mp hp with rfl | hp
          · exact hb _ hm0
          rcases List.mem_cons.mp hp with rfl | hp
          · exact hb _ hm1
          rcases List.mem_cons.mp hp with rfl | hp
          · exact hb _ hm2
          rcases List.mem_cons.mp hp with rfl | hp
          · exact hb _ (hBs _ (.tail _ (.tail _ (.head _))))
          rcases List.mem_cons.mp hp with rfl | hp
          · exact hb _ (hBs _ (.tail _ (.tail _ (.tail _ (.head _)))))
          exact hp
        replace F : Fr s₁.heap s₁.heap.objs.size h _ := F
        replace F := know3 (y1 := Str.ofString "rows") (y2 := Str.ofString "wholes") (y3 := Str.ofString "orders") F (off j1) (off j2) (off j3)
        clear mO F7 N7
        generalize hR : own ++ (whs, listOf (List.toArray wv) k1) :: (rws, listOf (List.toArray rv) k2) :: B = R at N
        generalize hLg : (whs, listOf (List.toArray wv) k1) :: (rws, listOf (List.toArray rv) k2) :: (ea, listOf #[.int (q0 : Int) s0, .int (q1 : Int) s1, .int (q2 : Int) s2] 0) :: (D2, LCg.lst ys) :: (D, listOf #[Value.ref a0, .ref a1, .ref a2] c) ::
            (x0, listOf (List.toArray u0) f0) :: (x1, listOf (List.toArray u1) f1) :: (x2, listOf (List.toArray u2) f2) :: (s₁.heap.objs.size + 1 + 1, ow) :: (s₁.heap.objs.size + 1, ot) :: R = Lg at N
        have hv3 : ∀ (j : Nat) v, (#[.int (q0 : Int) s0, .int (q1 : Int) s1, .int (q2 : Int) s2] : Array Value)[j]? = some v → j < 3 → ∃ r t, v = .int ((r : Nat) : Int) t ∧ r < 3 ∧ [q0, q1, q2][j]? = some r := by
          intro j v hj h3
          match j, h3 with
          | 0, _ => exact ⟨q0, s0, (Option.some.inj hj).symm, ho0, rfl⟩
          | 1, _ => exact ⟨q1, s1, (Option.some.inj hj).symm, ho1, rfl⟩
          | 2, _ => exact ⟨q2, s2, (Option.some.inj hj).symm, ho2, rfl⟩
        have hBR : ∀ p ∈ B, p ∈ R := fun p hp => by
          rw [← hR]
          exact List.mem_append_right _ (.tail _ (.tail _ hp))
        rw [← hLg] at N
        ((repeat' ((( ((( (fail_if_success (with_reducible show wpAny _ _ (exec (Stmt.For _ _ _ _ _) _) _ _ _)); (fail_if_success (with_reducible show wpAny _ _ (exec (Stmt.While _ _ _ _) _) _ _ _)); (fail_if_success (with_reducible show wpAny _ _ (pyIter (Value.ref _)) _ _ _)); (fail_if_success (with_reducible show wpAny _ _ (call (Value.ref _) _ _) _ _ _)); (fail_if_success (with_reducible show wpAny _ _ (call (Value.builtin "next") _ _) _ _ _)); (fail_if_success (with_reducible show wpAny _ _ (eval (Expr.ListComp _ _ _ _) _) _ _ _)); (fail_if_success (with_reducible show LCg.CompEnd _ _ _ _ _ _ _ _ _ _ _ _ _ _)); (fail_if_success (with_reducible show LoopStep3 _ _ _ _ _ _ _ _ _ _)); (fail_if_success (with_reducible show LoopStepV _ _ _ _ _ _ _ _ _ _)); skip))); (fail_if_success (with_reducible show wpAny _ _ (storeName _ (Str.ofString "three") _) _ _ _)); (fail_if_success (with_reducible show wpAny _ _ (storeName _ (Str.ofString "words") _) _ _ _)); (fail_if_success (with_reducible show wpAny _ _ (binaryOp Operator.Add (Value.str _ _) (Value.str _ _)) _ _ _)); (fail_if_success (with_reducible show wpAny _ _ (compareOp CmpOp.NotEq (Value.ref _) (Value.ref _)) _ _ _)); (fail_if_success (with_reducible show wpAny _ _ (compareOp CmpOp.NotEq (Value.bytes _ _) (Value.bytes _ _)) _ _ _)); (fail_if_success (with_reducible show wpAny _ _ (call (Value.builtin "list.append") _) _ _ _)); (fail_if_success (with_reducible show wpAny _ _ (compareOp CmpOp.NotEq (Value.bool _) (Value.bool _)) _ _ _)); (fail_if_success (with_reducible show wpAny _ _ (PySem.eval (Expr.BoolOp _ _ _) (envOfC _ _ _ _ _)) _ _ _)); (fail_if_success (with_reducible show ValEnd _ _ _ _ _ _ _ _)); (fail_if_success (with_reducible show wpAny _ _ (call (Value.builtin "max") _) _ _ _)); (fail_if_success (with_reducible show wpAny _ _ (call (Value.builtin "min") _) _ _ _)); (fail_if_success (with_reducible show wpAny _ _ (call (Value.builtin "list.index") _) _ _ _)); (fail_if_success (with_reducible show wpAny _ _ (subscriptTail _ _ (Value.ref _) (Value.int (List.getD _ _ _) _)) _ _ _)); (fail_if_success (with_reducible show wpAny _ _ (subscriptTail _ _ (Value.ref _) (Value.int (Nat.cast _) _)) _ _ _)); (fail_if_success (with_reducible show wpAny _ _ (subscriptTail _ _ (Value.str _ _) (Value.ref _)) _ _ _)); (fail_if_success (with_reducible show wpAny _ _ (subscriptTail (Expr.Name (Str.ofString "whole") _) _ _ _) _ _ _)); (first | (((with_reducible show wpAny _ _ (PySem.eval (Expr.Name _ _) (envOfC _ _ _ _ _)) _ _ _); name_kind "cell"; (rename News _ _ _ _ => N'); (refine ldCN N' (by rfl) (by k_mem) (by assumption) ?_); walk_say "m cell")) | ((first | ((with_reducible show wpAny _ _ (storeName _ _ _) _ _ _); dsimp only; walk1) | ((first | (k_unfold; (try dsimp only)) | (k_end; wrow_close) | walk1 | (dsimp only; walk1) | (leave1; walk_say "STEP leave1"; try dsimp only) | fail "no step"))))))))))
        refine comp_eval (cl := [(Str.ofString "words", _)]) F (by rfl) (by decide) (by rfl) (by decide) (by rfl) ?_
        ((repeat' ((( ((( (fail_if_success (with_reducible show wpAny _ _ (exec (Stmt.For _ _ _ _ _) _) _ _ _)); (fail_if_success (with_reducible show wpAny _ _ (exec (Stmt.While _ _ _ _) _) _ _ _)); (fail_if_success (with_reducible show wpAny _ _ (pyIter (Value.ref _)) _ _ _)); (fail_if_success (with_reducible show wpAny _ _ (call (Value.ref _) _ _) _ _ _)); (fail_if_success (with_reducible show wpAny _ _ (call (Value.builtin "next") _ _) _ _ _)); (fail_if_success (with_reducible show wpAny _ _ (eval (Expr.ListComp _ _ _ _) _) _ _ _)); (fail_if_success (with_reducible show LCg.CompEnd _ _ _ _ _ _ _ _ _ _ _ _ _ _)); (fail_if_success (with_reducible show LoopStep3 _ _ _ _ _ _ _ _ _ _)); (fail_if_success (with_reducible show LoopStepV _ _ _ _ _ _ _ _ _ _)); skip))); (fail_if_success (with_reducible show wpAny _ _ (storeName _ (Str.ofString "three") _) _ _ _)); (fail_if_success (with_reducible show wpAny _ _ (storeName _ (Str.ofString "words") _) _ _ _)); (fail_if_success (with_reducible show wpAny _ _ (binaryOp Operator.Add (Value.str _ _) (Value.str _ _)) _ _ _)); (fail_if_success (with_reducible show wpAny _ _ (compareOp CmpOp.NotEq (Value.ref _) (Value.ref _)) _ _ _)); (fail_if_success (with_reducible show wpAny _ _ (compareOp CmpOp.NotEq (Value.bytes _ _) (Value.bytes _ _)) _ _ _)); (fail_if_success (with_reducible show wpAny _ _ (call (Value.builtin "list.append") _) _ _ _)); (fail_if_success (with_reducible show wpAny _ _ (compareOp CmpOp.NotEq (Value.bool _) (Value.bool _)) _ _ _)); (fail_if_success (with_reducible show wpAny _ _ (PySem.eval (Expr.BoolOp _ _ _) (envOfC _ _ _ _ _)) _ _ _)); (fail_if_success (with_reducible show ValEnd _ _ _ _ _ _ _ _)); (fail_if_success (with_reducible show wpAny _ _ (call (Value.builtin "max") _) _ _ _)); (fail_if_success (with_reducible show wpAny _ _ (call (Value.builtin "min") _) _ _ _)); (fail_if_success (with_reducible show wpAny _ _ (call (Value.builtin "list.index") _) _ _ _)); (fail_if_success (with_reducible show wpAny _ _ (subscriptTail _ _ (Value.ref _) (Value.int (List.getD _ _ _) _)) _ _ _)); (fail_if_success (with_reducible show wpAny _ _ (subscriptTail _ _ (Value.ref _) (Value.int (Nat.cast _) _)) _ _ _)); (fail_if_success (with_reducible show wpAny _ _ (subscriptTail _ _ (Value.str _ _) (Value.ref _)) _ _ _)); (fail_if_success (with_reducible show wpAny _ _ (subscriptTail (Expr.Name (Str.ofString "whole") _) _ _ _) _ _ _)); (first | (((with_reducible show wpAny _ _ (PySem.eval (Expr.Name _ _) (envOfC _ _ _ _ _)) _ _ _); name_kind "cell"; (rename News _ _ _ _ => N'); (refine ldCN N' (by rfl) (by k_mem) (by assumption) ?_); walk_say "m cell")) | ((first | ((with_reducible show wpAny _ _ (storeName _ _ _) _ _ _); dsimp only; walk1) | ((first | (k_unfold; (try dsimp only)) | (k_end; wrow_close) | walk1 | (dsimp only; walk1) | (leave1; walk_say "STEP leave1"; try dsimp only) | fail "no step"))))))))))
        rw [hLg] at N
        refine it_list (its := #[.int (q0 : Int) s0, .int (q1 : Int) s1, .int (q2 : Int) s2]) rfl F N (.inr ⟨_, by rw [← hLg]; exact .tail _ (.tail _ (.head _)), rfl, 0, rfl⟩) (by rw [sizeLine_eq]; show 3 ≤ 16777216; decide) (fun h => ?_)
        have hSrc : LCg.SrcAt s₁.heap ea #[.int (q0 : Int) s0, .int (q1 : Int) s1, .int (q2 : Int) s2] Lg := .inr ⟨_, by rw [← hLg]; exact .tail _ (.tail _ (.head _)), rfl, 0, rfl⟩
        refine rest_invK (fun i zs news => news = Lg ∧ StrsAre zs (([q0, q1, q2].take i).map fun r => mkS (ltr (g r)))) ?_ ?_ _ 0 [] _ (Nat.zero_add _) ⟨rfl, .nil⟩
        · rintro zs news ⟨rfl, hzs⟩ D3 h4 tk4 F N od3
          replace hzs : StrsAre zs [mkS (ltr (g q0)), mkS (ltr (g q1)), mkS (ltr (g q2))] := hzs
          rw [← hLg] at N
          try dsimp only
          ((repeat' ((( ((( (fail_if_success (with_reducible show wpAny _ _ (exec (Stmt.For _ _ _ _ _) _) _ _ _)); (fail_if_success (with_reducible show wpAny _ _ (exec (Stmt.While _ _ _ _) _) _ _ _)); (fail_if_success (with_reducible show wpAny _ _ (pyIter (Value.ref _)) _ _ _)); (fail_if_success (with_reducible show wpAny _ _ (call (Value.ref _) _ _) _ _ _)); (fail_if_success (with_reducible show wpAny _ _ (call (Value.builtin "next") _ _) _ _ _)); (fail_if_success (with_reducible show wpAny _ _ (eval (Expr.ListComp _ _ _ _) _) _ _ _)); (fail_if_success (with_reducible show LCg.CompEnd _ _ _ _ _ _ _ _ _ _ _ _ _ _)); (fail_if_success (with_reducible show LoopStep3 _ _ _ _ _ _ _ _ _ _)); (fail_if_success (with_reducible show LoopStepV _ _ _ _ _ _ _ _ _ _)); skip))); (fail_if_success (with_reducible show wpAny _ _ (storeName _ (Str.ofString "three") _) _ _ _)); (fail_if_success (with_reducible show wpAny _ _ (storeName _ (Str.ofString "words") _) _ _ _)); (fail_if_success (with_reducible show wpAny _ _ (binaryOp Operator.Add (Value.str _ _) (Value.str _ _)) _ _ _)); (fail_if_success (with_reducible show wpAny _ _ (compareOp CmpOp.NotEq (Value.ref _) (Value.ref _)) _ _ _)); (fail_if_success (with_reducible show wpAny _ _ (compareOp CmpOp.NotEq (Value.bytes _ _) (Value.bytes _ _)) _ _ _)); (fail_if_success (with_reducible show wpAny _ _ (call (Value.builtin "list.append") _) _ _ _)); (fail_if_success (with_reducible show wpAny _ _ (compareOp CmpOp.NotEq (Value.bool _) (Value.bool _)) _ _ _)); (fail_if_success (with_reducible show wpAny _ _ (PySem.eval (Expr.BoolOp _ _ _) (envOfC _ _ _ _ _)) _ _ _)); (fail_if_success (with_reducible show ValEnd _ _ _ _ _ _ _ _)); (fail_if_success (with_reducible show wpAny _ _ (call (Value.builtin "max") _) _ _ _)); (fail_if_success (with_reducible show wpAny _ _ (call (Value.builtin "min") _) _ _ _)); (fail_if_success (with_reducible show wpAny _ _ (call (Value.builtin "list.index") _) _ _ _)); (fail_if_success (with_reducible show wpAny _ _ (subscriptTail _ _ (Value.ref _) (Value.int (List.getD _ _ _) _)) _ _ _)); (fail_if_success (with_reducible show wpAny _ _ (subscriptTail _ _ (Value.ref _) (Value.int (Nat.cast _) _)) _ _ _)); (fail_if_success (with_reducible show wpAny _ _ (subscriptTail _ _ (Value.str _ _) (Value.ref _)) _ _ _)); (fail_if_success (with_reducible show wpAny _ _ (subscriptTail (Expr.Name (Str.ofString "whole") _) _ _ _) _ _ _)); (first | (((with_reducible show wpAny _ _ (PySem.eval (Expr.Name _ _) (envOfC _ _ _ _ _)) _ _ _); name_kind "cell"; (rename News _ _ _ _ => N'); (refine ldCN N' (by rfl) (by k_mem) (by assumption) ?_); walk_say "m cell")) | ((first | ((with_reducible show wpAny _ _ (storeName _ _ _) _ _ _); dsimp only; walk1) | ((first | (k_unfold; (try dsimp only)) | (k_end; wrow_close) | walk1 | (dsimp only; walk1) | (leave1; walk_say "STEP leave1"; try dsimp only) | fail "no step"))))))))))
          refine join_list (N.isList (.head _)) (by simpa using hzs) (by simp [mkS_len, ltr_len, show (Str.ofString "'").length = 1 from rfl]; have := g2 q0; have := g2 q1; have := g2 q2; omega) (fun t' k => ?_)
          rw [join3]
          try dsimp only
          ((repeat' ((( ((( (fail_if_success (with_reducible show wpAny _ _ (exec (Stmt.For _ _ _ _ _) _) _ _ _)); (fail_if_success (with_reducible show wpAny _ _ (exec (Stmt.While _ _ _ _) _) _ _ _)); (fail_if_success (with_reducible show wpAny _ _ (pyIter (Value.ref _)) _ _ _)); (fail_if_success (with_reducible show wpAny _ _ (call (Value.ref _) _ _) _ _ _)); (fail_if_success (with_reducible show wpAny _ _ (call (Value.builtin "next") _ _) _ _ _)); (fail_if_success (with_reducible show wpAny _ _ (eval (Expr.ListComp _ _ _ _) _) _ _ _)); (fail_if_success (with_reducible show LCg.CompEnd _ _ _ _ _ _ _ _ _ _ _ _ _ _)); (fail_if_success (with_reducible show LoopStep3 _ _ _ _ _ _ _ _ _ _)); (fail_if_success (with_reducible show LoopStepV _ _ _ _ _ _ _ _ _ _)); skip))); (fail_if_success (with_reducible show wpAny _ _ (storeName _ (Str.ofString "three") _) _ _ _)); (fail_if_success (with_reducible show wpAny _ _ (storeName _ (Str.ofString "words") _) _ _ _)); (fail_if_success (with_reducible show wpAny _ _ (binaryOp Operator.Add (Value.str _ _) (Value.str _ _)) _ _ _)); (fail_if_success (with_reducible show wpAny _ _ (compareOp CmpOp.NotEq (Value.ref _) (Value.ref _)) _ _ _)); (fail_if_success (with_reducible show wpAny _ _ (compareOp CmpOp.NotEq (Value.bytes _ _) (Value.bytes _ _)) _ _ _)); (fail_if_success (with_reducible show wpAny _ _ (call (Value.builtin "list.append") _) _ _ _)); (fail_if_success (with_reducible show wpAny _ _ (compareOp CmpOp.NotEq (Value.bool _) (Value.bool _)) _ _ _)); (fail_if_success (with_reducible show wpAny _ _ (PySem.eval (Expr.BoolOp _ _ _) (envOfC _ _ _ _ _)) _ _ _)); (fail_if_success (with_reducible show ValEnd _ _ _ _ _ _ _ _)); (fail_if_success (with_reducible show wpAny _ _ (call (Value.builtin "max") _) _ _ _)); (fail_if_success (with_reducible show wpAny _ _ (call (Value.builtin "min") _) _ _ _)); (fail_if_success (with_reducible show wpAny _ _ (call (Value.builtin "list.index") _) _ _ _)); (fail_if_success (with_reducible show wpAny _ _ (subscriptTail _ _ (Value.ref _) (Value.int (List.getD _ _ _) _)) _ _ _)); (fail_if_success (with_reducible show wpAny _ _ (subscriptTail _ _ (Value.ref _) (Value.int (Nat.cast _) _)) _ _ _)); (fail_if_success (with_reducible show wpAny _ _ (subscriptTail _ _ (Value.str _ _) (Value.ref _)) _ _ _)); (fail_if_success (with_reducible show wpAny _ _ (subscriptTail (Expr.Name (Str.ofString "whole") _) _ _ _) _ _ _)); (first | (((with_reducible show wpAny _ _ (PySem.eval (Expr.Name _ _) (envOfC _ _ _ _ _)) _ _ _); name_kind "cell"; (rename News _ _ _ _ => N'); (refine ldCN N' (by rfl) (by k_mem) (by assumption) ?_); walk_say "m cell")) | ((first | ((with_reducible show wpAny _ _ (storeName _ _ _) _ _ _); dsimp only; walk1) | ((first | (k_unfold; (try dsimp only)) | (k_end; wrow_close) | walk1 | (dsimp only; walk1) | (leave1; walk_say "STEP leave1"; try dsimp only) | fail "no step"))))))))))
          have b0 := g2 q0
          have b1 := g2 q1
          have b2 := g2 q2
          refine add_str (fun _ _ => ?_) (by rw [mkS_len, sizeLine_eq, show (Str.ofString "'").length = 1 from rfl]; simp [ltr_len]; omega)
          rw [mkS_add, show ltr (g q0) ++ 39 :: (ltr (g q1) ++ 39 :: ltr (g q2)) ++ [39] = ltr (g q0) ++ 39 :: (ltr (g q1) ++ 39 :: (ltr (g q2) ++ [39])) by simp]
          try dsimp only
          ((repeat' ((( ((( (fail_if_success (with_reducible show wpAny _ _ (exec (Stmt.For _ _ _ _ _) _) _ _ _)); (fail_if_success (with_reducible show wpAny _ _ (exec (Stmt.While _ _ _ _) _) _ _ _)); (fail_if_success (with_reducible show wpAny _ _ (pyIter (Value.ref _)) _ _ _)); (fail_if_success (with_reducible show wpAny _ _ (call (Value.ref _) _ _) _ _ _)); (fail_if_success (with_reducible show wpAny _ _ (call (Value.builtin "next") _ _) _ _ _)); (fail_if_success (with_reducible show wpAny _ _ (eval (Expr.ListComp _ _ _ _) _) _ _ _)); (fail_if_success (with_reducible show LCg.CompEnd _ _ _ _ _ _ _ _ _ _ _ _ _ _)); (fail_if_success (with_reducible show LoopStep3 _ _ _ _ _ _ _ _ _ _)); (fail_if_success (with_reducible show LoopStepV _ _ _ _ _ _ _ _ _ _)); skip))); (fail_if_success (with_reducible show wpAny _ _ (storeName _ (Str.ofString "three") _) _ _ _)); (fail_if_success (with_reducible show wpAny _ _ (storeName _ (Str.ofString "words") _) _ _ _)); (fail_if_success (with_reducible show wpAny _ _ (binaryOp Operator.Add (Value.str _ _) (Value.str _ _)) _ _ _)); (fail_if_success (with_reducible show wpAny _ _ (compareOp CmpOp.NotEq (Value.ref _) (Value.ref _)) _ _ _)); (fail_if_success (with_reducible show wpAny _ _ (compareOp CmpOp.NotEq (Value.bytes _ _) (Value.bytes _ _)) _ _ _)); (fail_if_success (with_reducible show wpAny _ _ (call (Value.builtin "list.append") _) _ _ _)); (fail_if_success (with_reducible show wpAny _ _ (compareOp CmpOp.NotEq (Value.bool _) (Value.bool _)) _ _ _)); (fail_if_success (with_reducible show wpAny _ _ (PySem.eval (Expr.BoolOp _ _ _) (envOfC _ _ _ _ _)) _ _ _)); (fail_if_success (with_reducible show ValEnd _ _ _ _ _ _ _ _)); (fail_if_success (with_reducible show wpAny _ _ (call (Value.builtin "max") _) _ _ _)); (fail_if_success (with_reducible show wpAny _ _ (call (Value.builtin "min") _) _ _ _)); (fail_if_success (with_reducible show wpAny _ _ (call (Value.builtin "list.index") _) _ _ _)); (fail_if_success (with_reducible show wpAny _ _ (subscriptTail _ _ (Value.ref _) (Value.int (List.getD _ _ _) _)) _ _ _)); (fail_if_success (with_reducible show wpAny _ _ (subscriptTail _ _ (Value.ref _) (Value.int (Nat.cast _) _)) _ _ _)); (fail_if_success (with_reducible show wpAny _ _ (subscriptTail _ _ (Value.str _ _) (Value.ref _)) _ _ _)); (fail_if_success (with_reducible show wpAny _ _ (subscriptTail (Expr.Name (Str.ofString "whole") _) _ _ _) _ _ _)); (first | (((with_reducible show wpAny _ _ (PySem.eval (Expr.Name _ _) (envOfC _ _ _ _ _)) _ _ _); name_kind "cell"; (rename News _ _ _ _ => N'); (refine ldCN N' (by rfl) (by k_mem) (by assumption) ?_); walk_say "m cell")) | ((first | ((with_reducible show wpAny _ _ (storeName _ _ _) _ _ _); dsimp only; walk1) | ((first | (k_unfold; (try dsimp only)) | (k_end; wrow_close) | walk1 | (dsimp only; walk1) | (leave1; walk_say "STEP leave1"; try dsimp only) | fail "no step"))))))))))
          rename Fr _ _ _ _ => F6
          rename News _ _ _ _ => N6
          refine decode3_call (a := ltr (g q0)) (b := ltr (g q1)) (c := ltr (g q2) ++ [39]) (KX.keeps F6.keep) (T.keeps F6.keep) (by show 1 + claimMargin + 1 + 3 < recursionLimit; decide) (by show 4 + 3 + 20 < cLine; decide) rfl (by simp [mkS, ltr_len]; omega) rfl (ltr_39 (g1 _)) (ltr_39 (g1 _)) fun D5 vs5 k5 h5 tk5 hk5 hD5 hd5 hs5 => ?_
          have F7 := F6.after hk5
          have N7 : News _ _ _ ((D5, listOf (List.toArray vs5) k5) :: _) := fun p hp => by
            rcases List.mem_cons.mp hp with rfl | hp
            · exact news_new F6 hD5 hd5
            exact N6.grown hk5 p (.tail _ hp)
          (try clear F); (try clear N); clear F6 N6
          try dsimp only
          ((repeat' ((( ((( (fail_if_success (with_reducible show wpAny _ _ (exec (Stmt.For _ _ _ _ _) _) _ _ _)); (fail_if_success (with_reducible show wpAny _ _ (exec (Stmt.While _ _ _ _) _) _ _ _)); (fail_if_success (with_reducible show wpAny _ _ (pyIter (Value.ref _)) _ _ _)); (fail_if_success (with_reducible show wpAny _ _ (call (Value.ref _) _ _) _ _ _)); (fail_if_success (with_reducible show wpAny _ _ (call (Value.builtin "next") _ _) _ _ _)); (fail_if_success (with_reducible show wpAny _ _ (eval (Expr.ListComp _ _ _ _) _) _ _ _)); (fail_if_success (with_reducible show LCg.CompEnd _ _ _ _ _ _ _ _ _ _ _ _ _ _)); (fail_if_success (with_reducible show LoopStep3 _ _ _ _ _ _ _ _ _ _)); (fail_if_success (with_reducible show LoopStepV _ _ _ _ _ _ _ _ _ _)); skip))); (fail_if_success (with_reducible show wpAny _ _ (storeName _ (Str.ofString "three") _) _ _ _)); (fail_if_success (with_reducible show wpAny _ _ (storeName _ (Str.ofString "words") _) _ _ _)); (fail_if_success (with_reducible show wpAny _ _ (binaryOp Operator.Add (Value.str _ _) (Value.str _ _)) _ _ _)); (fail_if_success (with_reducible show wpAny _ _ (compareOp CmpOp.NotEq (Value.ref _) (Value.ref _)) _ _ _)); (fail_if_success (with_reducible show wpAny _ _ (compareOp CmpOp.NotEq (Value.bytes _ _) (Value.bytes _ _)) _ _ _)); (fail_if_success (with_reducible show wpAny _ _ (call (Value.builtin "list.append") _) _ _ _)); (fail_if_success (with_reducible show wpAny _ _ (compareOp CmpOp.NotEq (Value.bool _) (Value.bool _)) _ _ _)); (fail_if_success (with_reducible show wpAny _ _ (PySem.eval (Expr.BoolOp _ _ _) (envOfC _ _ _ _ _)) _ _ _)); (fail_if_success (with_reducible show ValEnd _ _ _ _ _ _ _ _)); (fail_if_success (with_reducible show wpAny _ _ (call (Value.builtin "max") _) _ _ _)); (fail_if_success (with_reducible show wpAny _ _ (call (Value.builtin "min") _) _ _ _)); (fail_if_success (with_reducible show wpAny _ _ (call (Value.builtin "list.index") _) _ _ _)); (fail_if_success (with_reducible show wpAny _ _ (subscriptTail _ _ (Value.ref _) (Value.int (List.getD _ _ _) _)) _ _ _)); (fail_if_success (with_reducible show wpAny _ _ (subscriptTail _ _ (Value.ref _) (Value.int (Nat.cast _) _)) _ _ _)); (fail_if_success (with_reducible show wpAny _ _ (subscriptTail _ _ (Value.str _ _) (Value.ref _)) _ _ _)); (fail_if_success (with_reducible show wpAny _ _ (subscriptTail (Expr.Name (Str.ofString "whole") _) _ _ _) _ _ _)); (first | (((with_reducible show wpAny _ _ (PySem.eval (Expr.Name _ _) (envOfC _ _ _ _ _)) _ _ _); name_kind "cell"; (rename News _ _ _ _ => N'); (refine ldCN N' (by rfl) (by k_mem) (by assumption) ?_); walk_say "m cell")) | ((first | ((with_reducible show wpAny _ _ (storeName _ _ _) _ _ _); dsimp only; walk1) | ((first | (k_unfold; (try dsimp only)) | (k_end; wrow_close) | walk1 | (dsimp only; walk1) | (leave1; walk_say "STEP leave1"; try dsimp only) | fail "no step"))))))))))
          rename News _ _ _ _ => N8
          refine sub_at (k := q0) (News.get N8 (a := D2) (o := LCg.lst ys) (by k_mem)) hy0 (by omega) ?_
          try dsimp only
          ((repeat' ((( ((( (fail_if_success (with_reducible show wpAny _ _ (exec (Stmt.For _ _ _ _ _) _) _ _ _)); (fail_if_success (with_reducible show wpAny _ _ (exec (Stmt.While _ _ _ _) _) _ _ _)); (fail_if_success (with_reducible show wpAny _ _ (pyIter (Value.ref _)) _ _ _)); (fail_if_success (with_reducible show wpAny _ _ (call (Value.ref _) _ _) _ _ _)); (fail_if_success (with_reducible show wpAny _ _ (call (Value.builtin "next") _ _) _ _ _)); (fail_if_success (with_reducible show wpAny _ _ (eval (Expr.ListComp _ _ _ _) _) _ _ _)); (fail_if_success (with_reducible show LCg.CompEnd _ _ _ _ _ _ _ _ _ _ _ _ _ _)); (fail_if_success (with_reducible show LoopStep3 _ _ _ _ _ _ _ _ _ _)); (fail_if_success (with_reducible show LoopStepV _ _ _ _ _ _ _ _ _ _)); skip))); (fail_if_success (with_reducible show wpAny _ _ (storeName _ (Str.ofString "three") _) _ _ _)); (fail_if_success (with_reducible show wpAny _ _ (storeName _ (Str.ofString "words") _) _ _ _)); (fail_if_success (with_reducible show wpAny _ _ (binaryOp Operator.Add (Value.str _ _) (Value.str _ _)) _ _ _)); (fail_if_success (with_reducible show wpAny _ _ (compareOp CmpOp.NotEq (Value.ref _) (Value.ref _)) _ _ _)); (fail_if_success (with_reducible show wpAny _ _ (compareOp CmpOp.NotEq (Value.bytes _ _) (Value.bytes _ _)) _ _ _)); (fail_if_success (with_reducible show wpAny _ _ (call (Value.builtin "list.append") _) _ _ _)); (fail_if_success (with_reducible show wpAny _ _ (compareOp CmpOp.NotEq (Value.bool _) (Value.bool _)) _ _ _)); (fail_if_success (with_reducible show wpAny _ _ (PySem.eval (Expr.BoolOp _ _ _) (envOfC _ _ _ _ _)) _ _ _)); (fail_if_success (with_reducible show ValEnd _ _ _ _ _ _ _ _)); (fail_if_success (with_reducible show wpAny _ _ (call (Value.builtin "max") _) _ _ _)); (fail_if_success (with_reducible show wpAny _ _ (call (Value.builtin "min") _) _ _ _)); (fail_if_success (with_reducible show wpAny _ _ (call (Value.builtin "list.index") _) _ _ _)); (fail_if_success (with_reducible show wpAny _ _ (subscriptTail _ _ (Value.ref _) (Value.int (List.getD _ _ _) _)) _ _ _)); (fail_if_success (with_reducible show wpAny _ _ (subscriptTail _ _ (Value.ref _) (Value.int (Nat.cast _) _)) _ _ _)); (fail_if_success (with_reducible show wpAny _ _ (subscriptTail _ _ (Value.str _ _) (Value.ref _)) _ _ _)); (fail_if_success (with_reducible show wpAny _ _ (subscriptTail (Expr.Name (Str.ofString "whole") _) _ _ _) _ _ _)); (first | (((with_reducible show wpAny _ _ (PySem.eval (Expr.Name _ _) (envOfC _ _ _ _ _)) _ _ _); name_kind "cell"; (rename News _ _ _ _ => N'); (refine ldCN N' (by rfl) (by k_mem) (by assumption) ?_); walk_say "m cell")) | ((first | ((with_reducible show wpAny _ _ (storeName _ _ _) _ _ _); dsimp only; walk1) | ((first | (k_unfold; (try dsimp only)) | (k_end; wrow_close) | walk1 | (dsimp only; walk1) | (leave1; walk_say "STEP leave1"; try dsimp only) | fail "no step"))))))))))
          rename News _ _ _ _ => N8
          refine sub_at (k := q1) (News.get N8 (a := D2) (o := LCg.lst ys) (by k_mem)) hy1 (by omega) ?_
          try dsimp only
          ((repeat' ((( ((( (fail_if_success (with_reducible show wpAny _ _ (exec (Stmt.For _ _ _ _ _) _) _ _ _)); (fail_if_success (with_reducible show wpAny _ _ (exec (Stmt.While _ _ _ _) _) _ _ _)); (fail_if_success (with_reducible show wpAny _ _ (pyIter (Value.ref _)) _ _ _)); (fail_if_success (with_reducible show wpAny _ _ (call (Value.ref _) _ _) _ _ _)); (fail_if_success (with_reducible show wpAny _ _ (call (Value.builtin "next") _ _) _ _ _)); (fail_if_success (with_reducible show wpAny _ _ (eval (Expr.ListComp _ _ _ _) _) _ _ _)); (fail_if_success (with_reducible show LCg.CompEnd _ _ _ _ _ _ _ _ _ _ _ _ _ _)); (fail_if_success (with_reducible show LoopStep3 _ _ _ _ _ _ _ _ _ _)); (fail_if_success (with_reducible show LoopStepV _ _ _ _ _ _ _ _ _ _)); skip))); (fail_if_success (with_reducible show wpAny _ _ (storeName _ (Str.ofString "three") _) _ _ _)); (fail_if_success (with_reducible show wpAny _ _ (storeName _ (Str.ofString "words") _) _ _ _)); (fail_if_success (with_reducible show wpAny _ _ (binaryOp Operator.Add (Value.str _ _) (Value.str _ _)) _ _ _)); (fail_if_success (with_reducible show wpAny _ _ (compareOp CmpOp.NotEq (Value.ref _) (Value.ref _)) _ _ _)); (fail_if_success (with_reducible show wpAny _ _ (compareOp CmpOp.NotEq (Value.bytes _ _) (Value.bytes _ _)) _ _ _)); (fail_if_success (with_reducible show wpAny _ _ (call (Value.builtin "list.append") _) _ _ _)); (fail_if_success (with_reducible show wpAny _ _ (compareOp CmpOp.NotEq (Value.bool _) (Value.bool _)) _ _ _)); (fail_if_success (with_reducible show wpAny _ _ (PySem.eval (Expr.BoolOp _ _ _) (envOfC _ _ _ _ _)) _ _ _)); (fail_if_success (with_reducible show ValEnd _ _ _ _ _ _ _ _)); (fail_if_success (with_reducible show wpAny _ _ (call (Value.builtin "max") _) _ _ _)); (fail_if_success (with_reducible show wpAny _ _ (call (Value.builtin "min") _) _ _ _)); (fail_if_success (with_reducible show wpAny _ _ (call (Value.builtin "list.index") _) _ _ _)); (fail_if_success (with_reducible show wpAny _ _ (subscriptTail _ _ (Value.ref _) (Value.int (List.getD _ _ _) _)) _ _ _)); (fail_if_success (with_reducible show wpAny _ _ (subscriptTail _ _ (Value.ref _) (Value.int (Nat.cast _) _)) _ _ _)); (fail_if_success (with_reducible show wpAny _ _ (subscriptTail _ _ (Value.str _ _) (Value.ref _)) _ _ _)); (fail_if_success (with_reducible show wpAny _ _ (subscriptTail (Expr.Name (Str.ofString "whole") _) _ _ _) _ _ _)); (first | (((with_reducible show wpAny _ _ (PySem.eval (Expr.Name _ _) (envOfC _ _ _ _ _)) _ _ _); name_kind "cell"; (rename News _ _ _ _ => N'); (refine ldCN N' (by rfl) (by k_mem) (by assumption) ?_); walk_say "m cell")) | ((first | ((with_reducible show wpAny _ _ (storeName _ _ _) _ _ _); dsimp only; walk1) | ((first | (k_unfold; (try dsimp only)) | (k_end; wrow_close) | walk1 | (dsimp only; walk1) | (leave1; walk_say "STEP leave1"; try dsimp only) | fail "no step"))))))))))
          rename News _ _ _ _ => N8
          refine sub_at (k := q2) (News.get N8 (a := D2) (o := LCg.lst ys) (by k_mem)) hy2 (by omega) ?_
          try dsimp only
          ((repeat' ((( ((( (fail_if_success (with_reducible show wpAny _ _ (exec (Stmt.For _ _ _ _ _) _) _ _ _)); (fail_if_success (with_reducible show wpAny _ _ (exec (Stmt.While _ _ _ _) _) _ _ _)); (fail_if_success (with_reducible show wpAny _ _ (pyIter (Value.ref _)) _ _ _)); (fail_if_success (with_reducible show wpAny _ _ (call (Value.ref _) _ _) _ _ _)); (fail_if_success (with_reducible show wpAny _ _ (call (Value.builtin "next") _ _) _ _ _)); (fail_if_success (with_reducible show wpAny _ _ (eval (Expr.ListComp _ _ _ _) _) _ _ _)); (fail_if_success (with_reducible show LCg.CompEnd _ _ _ _ _ _ _ _ _ _ _ _ _ _)); (fail_if_success (with_reducible show LoopStep3 _ _ _ _ _ _ _ _ _ _)); (fail_if_success (with_reducible show LoopStepV _ _ _ _ _ _ _ _ _ _)); skip))); (fail_if_success (with_reducible show wpAny _ _ (storeName _ (Str.ofString "three") _) _ _ _)); (fail_if_success (with_reducible show wpAny _ _ (storeName _ (Str.ofString "words") _) _ _ _)); (fail_if_success (with_reducible show wpAny _ _ (binaryOp Operator.Add (Value.str _ _) (Value.str _ _)) _ _ _)); (fail_if_success (with_reducible show wpAny _ _ (compareOp CmpOp.NotEq (Value.ref _) (Value.ref _)) _ _ _)); (fail_if_success (with_reducible show wpAny _ _ (compareOp CmpOp.NotEq (Value.bytes _ _) (Value.bytes _ _)) _ _ _)); (fail_if_success (with_reducible show wpAny _ _ (call (Value.builtin "list.append") _) _ _ _)); (fail_if_success (with_reducible show wpAny _ _ (compareOp CmpOp.NotEq (Value.bool _) (Value.bool _)) _ _ _)); (fail_if_success (with_reducible show wpAny _ _ (PySem.eval (Expr.BoolOp _ _ _) (envOfC _ _ _ _ _)) _ _ _)); (fail_if_success (with_reducible show ValEnd _ _ _ _ _ _ _ _)); (fail_if_success (with_reducible show wpAny _ _ (call (Value.builtin "max") _) _ _ _)); (fail_if_success (with_reducible show wpAny _ _ (call (Value.builtin "min") _) _ _ _)); (fail_if_success (with_reducible show wpAny _ _ (call (Value.builtin "list.index") _) _ _ _)); (fail_if_success (with_reducible show wpAny _ _ (subscriptTail _ _ (Value.ref _) (Value.int (List.getD _ _ _) _)) _ _ _)); (fail_if_success (with_reducible show wpAny _ _ (subscriptTail _ _ (Value.ref _) (Value.int (Nat.cast _) _)) _ _ _)); (fail_if_success (with_reducible show wpAny _ _ (subscriptTail _ _ (Value.str _ _) (Value.ref _)) _ _ _)); (fail_if_success (with_reducible show wpAny _ _ (subscriptTail (Expr.Name (Str.ofString "whole") _) _ _ _) _ _ _)); (first | (((with_reducible show wpAny _ _ (PySem.eval (Expr.Name _ _) (envOfC _ _ _ _ _)) _ _ _); name_kind "cell"; (rename News _ _ _ _ => N'); (refine ldCN N' (by rfl) (by k_mem) (by assumption) ?_); walk_say "m cell")) | ((first | ((with_reducible show wpAny _ _ (storeName _ _ _) _ _ _); dsimp only; walk1) | ((first | (k_unfold; (try dsimp only)) | (k_end; wrow_close) | walk1 | (dsimp only; walk1) | (leave1; walk_say "STEP leave1"; try dsimp only) | fail "no step"))))))))))
          refine add_str (fun _ _ => ?_) (by rw [mkS_len, sizeLine_eq, show (Str.ofString "'").length = 1 from rfl]; simp [ltr_len]; omega)
          rw [mkS_add]
          try dsimp only
          ((repeat' ((( ((( (fail_if_success (with_reducible show wpAny _ _ (exec (Stmt.For _ _ _ _ _) _) _ _ _)); (fail_if_success (with_reducible show wpAny _ _ (exec (Stmt.While _ _ _ _) _) _ _ _)); (fail_if_success (with_reducible show wpAny _ _ (pyIter (Value.ref _)) _ _ _)); (fail_if_success (with_reducible show wpAny _ _ (call (Value.ref _) _ _) _ _ _)); (fail_if_success (with_reducible show wpAny _ _ (call (Value.builtin "next") _ _) _ _ _)); (fail_if_success (with_reducible show wpAny _ _ (eval (Expr.ListComp _ _ _ _) _) _ _ _)); (fail_if_success (with_reducible show LCg.CompEnd _ _ _ _ _ _ _ _ _ _ _ _ _ _)); (fail_if_success (with_reducible show LoopStep3 _ _ _ _ _ _ _ _ _ _)); (fail_if_success (with_reducible show LoopStepV _ _ _ _ _ _ _ _ _ _)); skip))); (fail_if_success (with_reducible show wpAny _ _ (storeName _ (Str.ofString "three") _) _ _ _)); (fail_if_success (with_reducible show wpAny _ _ (storeName _ (Str.ofString "words") _) _ _ _)); (fail_if_success (with_reducible show wpAny _ _ (binaryOp Operator.Add (Value.str _ _) (Value.str _ _)) _ _ _)); (fail_if_success (with_reducible show wpAny _ _ (compareOp CmpOp.NotEq (Value.ref _) (Value.ref _)) _ _ _)); (fail_if_success (with_reducible show wpAny _ _ (compareOp CmpOp.NotEq (Value.bytes _ _) (Value.bytes _ _)) _ _ _)); (fail_if_success (with_reducible show wpAny _ _ (call (Value.builtin "list.append") _) _ _ _)); (fail_if_success (with_reducible show wpAny _ _ (compareOp CmpOp.NotEq (Value.bool _) (Value.bool _)) _ _ _)); (fail_if_success (with_reducible show wpAny _ _ (PySem.eval (Expr.BoolOp _ _ _) (envOfC _ _ _ _ _)) _ _ _)); (fail_if_success (with_reducible show ValEnd _ _ _ _ _ _ _ _)); (fail_if_success (with_reducible show wpAny _ _ (call (Value.builtin "max") _) _ _ _)); (fail_if_success (with_reducible show wpAny _ _ (call (Value.builtin "min") _) _ _ _)); (fail_if_success (with_reducible show wpAny _ _ (call (Value.builtin "list.index") _) _ _ _)); (fail_if_success (with_reducible show wpAny _ _ (subscriptTail _ _ (Value.ref _) (Value.int (List.getD _ _ _) _)) _ _ _)); (fail_if_success (with_reducible show wpAny _ _ (subscriptTail _ _ (Value.ref _) (Value.int (Nat.cast _) _)) _ _ _)); (fail_if_success (with_reducible show wpAny _ _ (subscriptTail _ _ (Value.str _ _) (Value.ref _)) _ _ _)); (fail_if_success (with_reducible show wpAny _ _ (subscriptTail (Expr.Name (Str.ofString "whole") _) _ _ _) _ _ _)); (first | (((with_reducible show wpAny _ _ (PySem.eval (Expr.Name _ _) (envOfC _ _ _ _ _)) _ _ _); name_kind "cell"; (rename News _ _ _ _ => N'); (refine ldCN N' (by rfl) (by k_mem) (by assumption) ?_); walk_say "m cell")) | ((first | ((with_reducible show wpAny _ _ (storeName _ _ _) _ _ _); dsimp only; walk1) | ((first | (k_unfold; (try dsimp only)) | (k_end; wrow_close) | walk1 | (dsimp only; walk1) | (leave1; walk_say "STEP leave1"; try dsimp only) | fail "no step"))))))))))
          rename News _ _ _ _ => N11
          have ok0 := ltr_ok (g1 q0)
          have ok1 := ltr_ok (g1 q1)
          have ok2 := ltr_ok (g1 q2)
          refine ne_strs (News.isList N11 (.tail _ (.head _))) (News.isList N11 (.head _)) hs5 (.cons _ _ (.cons _ _ (.cons _ _ .nil))) (fun x hx => ?_) (by show 4 + 3 + 64 < cLine; decide) ?_
          · simp only [List.mem_cons, List.not_mem_nil, or_false] at hx
            rcases hx with rfl | rfl | rfl
            · exact ok_mkS fun c hc => (ok0 c hc).2
            · exact ok_mkS fun c hc => (ok1 c hc).2
            · refine ok_mkS fun c hc => ?_
              rcases List.mem_append.mp hc with hc | hc
              · exact (ok2 c hc).2
              · rw [List.mem_singleton.mp hc]; decide
          try dsimp only
          ((repeat' ((( ((( (fail_if_success (with_reducible show wpAny _ _ (exec (Stmt.For _ _ _ _ _) _) _ _ _)); (fail_if_success (with_reducible show wpAny _ _ (exec (Stmt.While _ _ _ _) _) _ _ _)); (fail_if_success (with_reducible show wpAny _ _ (pyIter (Value.ref _)) _ _ _)); (fail_if_success (with_reducible show wpAny _ _ (call (Value.ref _) _ _) _ _ _)); (fail_if_success (with_reducible show wpAny _ _ (call (Value.builtin "next") _ _) _ _ _)); (fail_if_success (with_reducible show wpAny _ _ (eval (Expr.ListComp _ _ _ _) _) _ _ _)); (fail_if_success (with_reducible show LCg.CompEnd _ _ _ _ _ _ _ _ _ _ _ _ _ _)); (fail_if_success (with_reducible show LoopStep3 _ _ _ _ _ _ _ _ _ _)); (fail_if_success (with_reducible show LoopStepV _ _ _ _ _ _ _ _ _ _)); skip))); (fail_if_success (with_reducible show wpAny _ _ (storeName _ (Str.ofString "three") _) _ _ _)); (fail_if_success (with_reducible show wpAny _ _ (storeName _ (Str.ofString "words") _) _ _ _)); (fail_if_success (with_reducible show wpAny _ _ (binaryOp Operator.Add (Value.str _ _) (Value.str _ _)) _ _ _)); (fail_if_success (with_reducible show wpAny _ _ (compareOp CmpOp.NotEq (Value.ref _) (Value.ref _)) _ _ _)); (fail_if_success (with_reducible show wpAny _ _ (compareOp CmpOp.NotEq (Value.bytes _ _) (Value.bytes _ _)) _ _ _)); (fail_if_success (with_reducible show wpAny _ _ (call (Value.builtin "list.append") _) _ _ _)); (fail_if_success (with_reducible show wpAny _ _ (compareOp CmpOp.NotEq (Value.bool _) (Value.bool _)) _ _ _)); (fail_if_success (with_reducible show wpAny _ _ (PySem.eval (Expr.BoolOp _ _ _) (envOfC _ _ _ _ _)) _ _ _)); (fail_if_success (with_reducible show ValEnd _ _ _ _ _ _ _ _)); (fail_if_success (with_reducible show wpAny _ _ (call (Value.builtin "max") _) _ _ _)); (fail_if_success (with_reducible show wpAny _ _ (call (Value.builtin "min") _) _ _ _)); (fail_if_success (with_reducible show wpAny _ _ (call (Value.builtin "list.index") _) _ _ _)); (fail_if_success (with_reducible show wpAny _ _ (subscriptTail _ _ (Value.ref _) (Value.int (List.getD _ _ _) _)) _ _ _)); (fail_if_success (with_reducible show wpAny _ _ (subscriptTail _ _ (Value.ref _) (Value.int (Nat.cast _) _)) _ _ _)); (fail_if_success (with_reducible show wpAny _ _ (subscriptTail _ _ (Value.str _ _) (Value.ref _)) _ _ _)); (fail_if_success (with_reducible show wpAny _ _ (subscriptTail (Expr.Name (Str.ofString "whole") _) _ _ _) _ _ _)); (first | (((with_reducible show wpAny _ _ (PySem.eval (Expr.Name _ _) (envOfC _ _ _ _ _)) _ _ _); name_kind "cell"; (rename News _ _ _ _ => N'); (refine ldCN N' (by rfl) (by k_mem) (by assumption) ?_); walk_say "m cell")) | ((first | ((with_reducible show wpAny _ _ (storeName _ _ _) _ _ _); dsimp only; walk1) | ((first | (k_unfold; (try dsimp only)) | (k_end; wrow_close) | walk1 | (dsimp only; walk1) | (leave1; walk_say "STEP leave1"; try dsimp only) | fail "no step"))))))))))
          rename Fr _ _ _ _ => F11
          refine told_call (blocks := [(g q0).map (· + 65), (g q1).map (· + 65), (g q2).map (· + 65)]) (KX.keeps F11.keep) (T.keeps F11.keep) (by show 1 + claimMargin + 1 + 6 < recursionLimit; decide) (by show 4 + 3 + 30 < cLine; decide) rfl (by simp [mkS, ltr_len]; omega) (told3 g1 _ _ _) (blocks_ok g1 g2 _ _ _) rfl fun D6 vs6 k6 h6 tk6 hk6 hD6 hd6 hs6 => ?_
          rw [told3_vals g1] at hs6
          have F12 := F11.after hk6
          have N12 : News _ _ _ ((D6, listOf (List.toArray vs6) k6) :: (D5, listOf (List.toArray vs5) k5) :: _) := fun p hp => by
            rcases List.mem_cons.mp hp with rfl | hp
            · exact news_new F11 hD6 hd6
            exact N11.grown hk6 p (.tail _ hp)
          clear F11 N11
          try dsimp only
          ((repeat' ((( ((( (fail_if_success (with_reducible show wpAny _ _ (exec (Stmt.For _ _ _ _ _) _) _ _ _)); (fail_if_success (with_reducible show wpAny _ _ (exec (Stmt.While _ _ _ _) _) _ _ _)); (fail_if_success (with_reducible show wpAny _ _ (pyIter (Value.ref _)) _ _ _)); (fail_if_success (with_reducible show wpAny _ _ (call (Value.ref _) _ _) _ _ _)); (fail_if_success (with_reducible show wpAny _ _ (call (Value.builtin "next") _ _) _ _ _)); (fail_if_success (with_reducible show wpAny _ _ (eval (Expr.ListComp _ _ _ _) _) _ _ _)); (fail_if_success (with_reducible show LCg.CompEnd _ _ _ _ _ _ _ _ _ _ _ _ _ _)); (fail_if_success (with_reducible show LoopStep3 _ _ _ _ _ _ _ _ _ _)); (fail_if_success (with_reducible show LoopStepV _ _ _ _ _ _ _ _ _ _)); skip))); (fail_if_success (with_reducible show wpAny _ _ (storeName _ (Str.ofString "three") _) _ _ _)); (fail_if_success (with_reducible show wpAny _ _ (storeName _ (Str.ofString "words") _) _ _ _)); (fail_if_success (with_reducible show wpAny _ _ (binaryOp Operator.Add (Value.str _ _) (Value.str _ _)) _ _ _)); (fail_if_success (with_reducible show wpAny _ _ (compareOp CmpOp.NotEq (Value.ref _) (Value.ref _)) _ _ _)); (fail_if_success (with_reducible show wpAny _ _ (compareOp CmpOp.NotEq (Value.bytes _ _) (Value.bytes _ _)) _ _ _)); (fail_if_success (with_reducible show wpAny _ _ (call (Value.builtin "list.append") _) _ _ _)); (fail_if_success (with_reducible show wpAny _ _ (compareOp CmpOp.NotEq (Value.bool _) (Value.bool _)) _ _ _)); (fail_if_success (with_reducible show wpAny _ _ (PySem.eval (Expr.BoolOp _ _ _) (envOfC _ _ _ _ _)) _ _ _)); (fail_if_success (with_reducible show ValEnd _ _ _ _ _ _ _ _)); (fail_if_success (with_reducible show wpAny _ _ (call (Value.builtin "max") _) _ _ _)); (fail_if_success (with_reducible show wpAny _ _ (call (Value.builtin "min") _) _ _ _)); (fail_if_success (with_reducible show wpAny _ _ (call (Value.builtin "list.index") _) _ _ _)); (fail_if_success (with_reducible show wpAny _ _ (subscriptTail _ _ (Value.ref _) (Value.int (List.getD _ _ _) _)) _ _ _)); (fail_if_success (with_reducible show wpAny _ _ (subscriptTail _ _ (Value.ref _) (Value.int (Nat.cast _) _)) _ _ _)); (fail_if_success (with_reducible show wpAny _ _ (subscriptTail _ _ (Value.str _ _) (Value.ref _)) _ _ _)); (fail_if_success (with_reducible show wpAny _ _ (subscriptTail (Expr.Name (Str.ofString "whole") _) _ _ _) _ _ _)); (first | (((with_reducible show wpAny _ _ (PySem.eval (Expr.Name _ _) (envOfC _ _ _ _ _)) _ _ _); name_kind "cell"; (rename News _ _ _ _ => N'); (refine ldCN N' (by rfl) (by k_mem) (by assumption) ?_); walk_say "m cell")) | ((first | ((with_reducible show wpAny _ _ (storeName _ _ _) _ _ _); dsimp only; walk1) | ((first | (k_unfold; (try dsimp only)) | (k_end; wrow_close) | walk1 | (dsimp only; walk1) | (leave1; walk_say "STEP leave1"; try dsimp only) | fail "no step"))))))))))
          refine comp_eval (cl := [(Str.ofString "three", _)]) F12 (by rfl) (by decide) (by rfl) (by decide) (by rfl) ?_
          ((repeat' ((( ((( (fail_if_success (with_reducible show wpAny _ _ (exec (Stmt.For _ _ _ _ _) _) _ _ _)); (fail_if_success (with_reducible show wpAny _ _ (exec (Stmt.While _ _ _ _) _) _ _ _)); (fail_if_success (with_reducible show wpAny _ _ (pyIter (Value.ref _)) _ _ _)); (fail_if_success (with_reducible show wpAny _ _ (call (Value.ref _) _ _) _ _ _)); (fail_if_success (with_reducible show wpAny _ _ (call (Value.builtin "next") _ _) _ _ _)); (fail_if_success (with_reducible show wpAny _ _ (eval (Expr.ListComp _ _ _ _) _) _ _ _)); (fail_if_success (with_reducible show LCg.CompEnd _ _ _ _ _ _ _ _ _ _ _ _ _ _)); (fail_if_success (with_reducible show LoopStep3 _ _ _ _ _ _ _ _ _ _)); (fail_if_success (with_reducible show LoopStepV _ _ _ _ _ _ _ _ _ _)); skip))); (fail_if_success (with_reducible show wpAny _ _ (storeName _ (Str.ofString "three") _) _ _ _)); (fail_if_success (with_reducible show wpAny _ _ (storeName _ (Str.ofString "words") _) _ _ _)); (fail_if_success (with_reducible show wpAny _ _ (binaryOp Operator.Add (Value.str _ _) (Value.str _ _)) _ _ _)); (fail_if_success (with_reducible show wpAny _ _ (compareOp CmpOp.NotEq (Value.ref _) (Value.ref _)) _ _ _)); (fail_if_success (with_reducible show wpAny _ _ (compareOp CmpOp.NotEq (Value.bytes _ _) (Value.bytes _ _)) _ _ _)); (fail_if_success (with_reducible show wpAny _ _ (call (Value.builtin "list.append") _) _ _ _)); (fail_if_success (with_reducible show wpAny _ _ (compareOp CmpOp.NotEq (Value.bool _) (Value.bool _)) _ _ _)); (fail_if_success (with_reducible show wpAny _ _ (PySem.eval (Expr.BoolOp _ _ _) (envOfC _ _ _ _ _)) _ _ _)); (fail_if_success (with_reducible show ValEnd _ _ _ _ _ _ _ _)); (fail_if_success (with_reducible show wpAny _ _ (call (Value.builtin "max") _) _ _ _)); (fail_if_success (with_reducible show wpAny _ _ (call (Value.builtin "min") _) _ _ _)); (fail_if_success (with_reducible show wpAny _ _ (call (Value.builtin "list.index") _) _ _ _)); (fail_if_success (with_reducible show wpAny _ _ (subscriptTail _ _ (Value.ref _) (Value.int (List.getD _ _ _) _)) _ _ _)); (fail_if_success (with_reducible show wpAny _ _ (subscriptTail _ _ (Value.ref _) (Value.int (Nat.cast _) _)) _ _ _)); (fail_if_success (with_reducible show wpAny _ _ (subscriptTail _ _ (Value.str _ _) (Value.ref _)) _ _ _)); (fail_if_success (with_reducible show wpAny _ _ (subscriptTail (Expr.Name (Str.ofString "whole") _) _ _ _) _ _ _)); (first | (((with_reducible show wpAny _ _ (PySem.eval (Expr.Name _ _) (envOfC _ _ _ _ _)) _ _ _); name_kind "cell"; (rename News _ _ _ _ => N'); (refine ldCN N' (by rfl) (by k_mem) (by assumption) ?_); walk_say "m cell")) | ((first | ((with_reducible show wpAny _ _ (storeName _ _ _) _ _ _); dsimp only; walk1) | ((first | (k_unfold; (try dsimp only)) | (k_end; wrow_close) | walk1 | (dsimp only; walk1) | (leave1; walk_say "STEP leave1"; try dsimp only) | fail "no step"))))))))))
          generalize hLg2 : (D6, listOf (List.toArray vs6) k6) :: (D5, listOf (List.toArray vs5) k5) :: (whs, listOf (List.toArray wv) k1) :: _ = Lg2 at N12
          refine it_list (its := #[.int (q0 : Int) s0, .int (q1 : Int) s1, .int (q2 : Int) s2]) rfl F12 N12 (.inr ⟨_, by rw [← hLg2]; exact .tail _ (.tail _ (.tail _ (.tail _ (.head _)))), rfl, 0, rfl⟩) (by rw [sizeLine_eq]; show 3 ≤ 16777216; decide) (fun h => ?_)
          have hSrc2 : LCg.SrcAt s₁.heap ea #[.int (q0 : Int) s0, .int (q1 : Int) s1, .int (q2 : Int) s2] Lg2 := .inr ⟨_, by rw [← hLg2]; exact .tail _ (.tail _ (.tail _ (.tail _ (.head _)))), rfl, 0, rfl⟩
          refine rest_invK (fun i zs news => news = Lg2 ∧ IntsAre zs (([q0, q1, q2].take i).map fun r => foldedF 64 1 (g r) * 64 + 39)) ?_ ?_ _ 0 [] _ (Nat.zero_add _) ⟨rfl, .nil⟩
          · rintro zs2 news ⟨rfl, hzs2⟩ D7 h7 tk7 F N od7
            replace hzs2 : IntsAre zs2 ([q0, q1, q2].map fun r => foldedF 64 1 (g r) * 64 + 39) := hzs2
            rw [← hLg2] at N
            try dsimp only
            ((repeat' ((( ((( (fail_if_success (with_reducible show wpAny _ _ (exec (Stmt.For _ _ _ _ _) _) _ _ _)); (fail_if_success (with_reducible show wpAny _ _ (exec (Stmt.While _ _ _ _) _) _ _ _)); (fail_if_success (with_reducible show wpAny _ _ (pyIter (Value.ref _)) _ _ _)); (fail_if_success (with_reducible show wpAny _ _ (call (Value.ref _) _ _) _ _ _)); (fail_if_success (with_reducible show wpAny _ _ (call (Value.builtin "next") _ _) _ _ _)); (fail_if_success (with_reducible show wpAny _ _ (eval (Expr.ListComp _ _ _ _) _) _ _ _)); (fail_if_success (with_reducible show LCg.CompEnd _ _ _ _ _ _ _ _ _ _ _ _ _ _)); (fail_if_success (with_reducible show LoopStep3 _ _ _ _ _ _ _ _ _ _)); (fail_if_success (with_reducible show LoopStepV _ _ _ _ _ _ _ _ _ _)); skip))); (fail_if_success (with_reducible show wpAny _ _ (storeName _ (Str.ofString "three") _) _ _ _)); (fail_if_success (with_reducible show wpAny _ _ (storeName _ (Str.ofString "words") _) _ _ _)); (fail_if_success (with_reducible show wpAny _ _ (binaryOp Operator.Add (Value.str _ _) (Value.str _ _)) _ _ _)); (fail_if_success (with_reducible show wpAny _ _ (compareOp CmpOp.NotEq (Value.ref _) (Value.ref _)) _ _ _)); (fail_if_success (with_reducible show wpAny _ _ (compareOp CmpOp.NotEq (Value.bytes _ _) (Value.bytes _ _)) _ _ _)); (fail_if_success (with_reducible show wpAny _ _ (call (Value.builtin "list.append") _) _ _ _)); (fail_if_success (with_reducible show wpAny _ _ (compareOp CmpOp.NotEq (Value.bool _) (Value.bool _)) _ _ _)); (fail_if_success (with_reducible show wpAny _ _ (PySem.eval (Expr.BoolOp _ _ _) (envOfC _ _ _ _ _)) _ _ _)); (fail_if_success (with_reducible show ValEnd _ _ _ _ _ _ _ _)); (fail_if_success (with_reducible show wpAny _ _ (call (Value.builtin "max") _) _ _ _)); (fail_if_success (with_reducible show wpAny _ _ (call (Value.builtin "min") _) _ _ _)); (fail_if_success (with_reducible show wpAny _ _ (call (Value.builtin "list.index") _) _ _ _)); (fail_if_success (with_reducible show wpAny _ _ (subscriptTail _ _ (Value.ref _) (Value.int (List.getD _ _ _) _)) _ _ _)); (fail_if_success (with_reducible show wpAny _ _ (subscriptTail _ _ (Value.ref _) (Value.int (Nat.cast _) _)) _ _ _)); (fail_if_success (with_reducible show wpAny _ _ (subscriptTail _ _ (Value.str _ _) (Value.ref _)) _ _ _)); (fail_if_success (with_reducible show wpAny _ _ (subscriptTail (Expr.Name (Str.ofString "whole") _) _ _ _) _ _ _)); (first | (((with_reducible show wpAny _ _ (PySem.eval (Expr.Name _ _) (envOfC _ _ _ _ _)) _ _ _); name_kind "cell"; (rename News _ _ _ _ => N'); (refine ldCN N' (by rfl) (by k_mem) (by assumption) ?_); walk_say "m cell")) | ((first | ((with_reducible show wpAny _ _ (storeName _ _ _) _ _ _); dsimp only; walk1) | ((first | (k_unfold; (try dsimp only)) | (k_end; wrow_close) | walk1 | (dsimp only; walk1) | (leave1; walk_say "STEP leave1"; try dsimp only) | fail "no step"))))))))))
            refine ne_ints (News.isList N (.tail _ (.head _))) (News.isList N (.head _)) hs6 hzs2 (by show 4 + 3 + 64 < cLine; decide) ?_
            try dsimp only
            ((repeat' ((( ((( (fail_if_success (with_reducible show wpAny _ _ (exec (Stmt.For _ _ _ _ _) _) _ _ _)); (fail_if_success (with_reducible show wpAny _ _ (exec (Stmt.While _ _ _ _) _) _ _ _)); (fail_if_success (with_reducible show wpAny _ _ (pyIter (Value.ref _)) _ _ _)); (fail_if_success (with_reducible show wpAny _ _ (call (Value.ref _) _ _) _ _ _)); (fail_if_success (with_reducible show wpAny _ _ (call (Value.builtin "next") _ _) _ _ _)); (fail_if_success (with_reducible show wpAny _ _ (eval (Expr.ListComp _ _ _ _) _) _ _ _)); (fail_if_success (with_reducible show LCg.CompEnd _ _ _ _ _ _ _ _ _ _ _ _ _ _)); (fail_if_success (with_reducible show LoopStep3 _ _ _ _ _ _ _ _ _ _)); (fail_if_success (with_reducible show LoopStepV _ _ _ _ _ _ _ _ _ _)); skip))); (fail_if_success (with_reducible show wpAny _ _ (storeName _ (Str.ofString "three") _) _ _ _)); (fail_if_success (with_reducible show wpAny _ _ (storeName _ (Str.ofString "words") _) _ _ _)); (fail_if_success (with_reducible show wpAny _ _ (binaryOp Operator.Add (Value.str _ _) (Value.str _ _)) _ _ _)); (fail_if_success (with_reducible show wpAny _ _ (compareOp CmpOp.NotEq (Value.ref _) (Value.ref _)) _ _ _)); (fail_if_success (with_reducible show wpAny _ _ (compareOp CmpOp.NotEq (Value.bytes _ _) (Value.bytes _ _)) _ _ _)); (fail_if_success (with_reducible show wpAny _ _ (call (Value.builtin "list.append") _) _ _ _)); (fail_if_success (with_reducible show wpAny _ _ (compareOp CmpOp.NotEq (Value.bool _) (Value.bool _)) _ _ _)); (fail_if_success (with_reducible show wpAny _ _ (PySem.eval (Expr.BoolOp _ _ _) (envOfC _ _ _ _ _)) _ _ _)); (fail_if_success (with_reducible show ValEnd _ _ _ _ _ _ _ _)); (fail_if_success (with_reducible show wpAny _ _ (call (Value.builtin "max") _) _ _ _)); (fail_if_success (with_reducible show wpAny _ _ (call (Value.builtin "min") _) _ _ _)); (fail_if_success (with_reducible show wpAny _ _ (call (Value.builtin "list.index") _) _ _ _)); (fail_if_success (with_reducible show wpAny _ _ (subscriptTail _ _ (Value.ref _) (Value.int (List.getD _ _ _) _)) _ _ _)); (fail_if_success (with_reducible show wpAny _ _ (subscriptTail _ _ (Value.ref _) (Value.int (Nat.cast _) _)) _ _ _)); (fail_if_success (with_reducible show wpAny _ _ (subscriptTail _ _ (Value.str _ _) (Value.ref _)) _ _ _)); (fail_if_success (with_reducible show wpAny _ _ (subscriptTail (Expr.Name (Str.ofString "whole") _) _ _ _) _ _ _)); (first | (((with_reducible show wpAny _ _ (PySem.eval (Expr.Name _ _) (envOfC _ _ _ _ _)) _ _ _); name_kind "cell"; (rename News _ _ _ _ => N'); (refine ldCN N' (by rfl) (by k_mem) (by assumption) ?_); walk_say "m cell")) | ((first | ((with_reducible show wpAny _ _ (storeName _ _ _) _ _ _); dsimp only; walk1) | ((first | (k_unfold; (try dsimp only)) | (k_end; wrow_close) | walk1 | (dsimp only; walk1) | (leave1; walk_say "STEP leave1"; try dsimp only) | fail "no step"))))))))))
            refine join_list (ys := [mkS (ltr (g q0)), mkS (ltr (g q1)), mkS (ltr (g q2) ++ [39])]) (N.isList (.tail _ (.tail _ (.head _)))) (by simpa using hs5) (by rw [show (Str.ofString "").length = 0 from rfl]; simp [Str.length, ltr_len]; omega) (fun t' k => ?_)
            rw [join0, show ltr (g q0) ++ (ltr (g q1) ++ (ltr (g q2) ++ [39])) = ltr (g q0 ++ g q1 ++ g q2) ++ [39] by simp [ltr_app]]
            obtain ⟨A, hAd⟩ : ∃ A, g q0 ++ g q1 ++ g q2 = A := ⟨_, rfl⟩
            rw [hAd]
            have aA1 : ∀ f ∈ A, 1 ≤ f ∧ f ≤ 15 := by
              rw [← hAd]
              intro f hf
              rcases List.mem_append.mp hf with hf | hf
              · rcases List.mem_append.mp hf with hf | hf <;> exact g1 _ f hf
              · exact g1 _ f hf
            have aA2 : A.length ≤ 12 := by rw [← hAd]; simp only [List.length_append]; omega
            try dsimp only
            ((repeat' ((( ((( (fail_if_success (with_reducible show wpAny _ _ (exec (Stmt.For _ _ _ _ _) _) _ _ _)); (fail_if_success (with_reducible show wpAny _ _ (exec (Stmt.While _ _ _ _) _) _ _ _)); (fail_if_success (with_reducible show wpAny _ _ (pyIter (Value.ref _)) _ _ _)); (fail_if_success (with_reducible show wpAny _ _ (call (Value.ref _) _ _) _ _ _)); (fail_if_success (with_reducible show wpAny _ _ (call (Value.builtin "next") _ _) _ _ _)); (fail_if_success (with_reducible show wpAny _ _ (eval (Expr.ListComp _ _ _ _) _) _ _ _)); (fail_if_success (with_reducible show LCg.CompEnd _ _ _ _ _ _ _ _ _ _ _ _ _ _)); (fail_if_success (with_reducible show LoopStep3 _ _ _ _ _ _ _ _ _ _)); (fail_if_success (with_reducible show LoopStepV _ _ _ _ _ _ _ _ _ _)); skip))); (fail_if_success (with_reducible show wpAny _ _ (storeName _ (Str.ofString "three") _) _ _ _)); (fail_if_success (with_reducible show wpAny _ _ (storeName _ (Str.ofString "words") _) _ _ _)); (fail_if_success (with_reducible show wpAny _ _ (binaryOp Operator.Add (Value.str _ _) (Value.str _ _)) _ _ _)); (fail_if_success (with_reducible show wpAny _ _ (compareOp CmpOp.NotEq (Value.ref _) (Value.ref _)) _ _ _)); (fail_if_success (with_reducible show wpAny _ _ (compareOp CmpOp.NotEq (Value.bytes _ _) (Value.bytes _ _)) _ _ _)); (fail_if_success (with_reducible show wpAny _ _ (call (Value.builtin "list.append") _) _ _ _)); (fail_if_success (with_reducible show wpAny _ _ (compareOp CmpOp.NotEq (Value.bool _) (Value.bool _)) _ _ _)); (fail_if_success (with_reducible show wpAny _ _ (PySem.eval (Expr.BoolOp _ _ _) (envOfC _ _ _ _ _)) _ _ _)); (fail_if_success (with_reducible show ValEnd _ _ _ _ _ _ _ _)); (fail_if_success (with_reducible show wpAny _ _ (call (Value.builtin "max") _) _ _ _)); (fail_if_success (with_reducible show wpAny _ _ (call (Value.builtin "min") _) _ _ _)); (fail_if_success (with_reducible show wpAny _ _ (call (Value.builtin "list.index") _) _ _ _)); (fail_if_success (with_reducible show wpAny _ _ (subscriptTail _ _ (Value.ref _) (Value.int (List.getD _ _ _) _)) _ _ _)); (fail_if_success (with_reducible show wpAny _ _ (subscriptTail _ _ (Value.ref _) (Value.int (Nat.cast _) _)) _ _ _)); (fail_if_success (with_reducible show wpAny _ _ (subscriptTail _ _ (Value.str _ _) (Value.ref _)) _ _ _)); (fail_if_success (with_reducible show wpAny _ _ (subscriptTail (Expr.Name (Str.ofString "whole") _) _ _ _) _ _ _)); (first | (((with_reducible show wpAny _ _ (PySem.eval (Expr.Name _ _) (envOfC _ _ _ _ _)) _ _ _); name_kind "cell"; (rename News _ _ _ _ => N'); (refine ldCN N' (by rfl) (by k_mem) (by assumption) ?_); walk_say "m cell")) | ((first | ((with_reducible show wpAny _ _ (storeName _ _ _) _ _ _); dsimp only; walk1) | ((first | (k_unfold; (try dsimp only)) | (k_end; wrow_close) | walk1 | (dsimp only; walk1) | (leave1; walk_say "STEP leave1"; try dsimp only) | fail "no step"))))))))))
            rename Fr _ _ _ _ => F13
            rename News _ _ _ _ => N13
            refine decode1_call (a := ltr A) (KX.keeps F13.keep) (T.keeps F13.keep) (by show 1 + claimMargin + 1 + 3 < recursionLimit; decide) (by show 4 + 3 + 20 < cLine; decide) rfl (by simp [mkS, ltr_len]; omega) rfl (ltr_39 aA1) fun D8 h8 tk8 hk8 hD8 hd8 => ?_
            have F14 := F13.after hk8
            have N14 : News _ _ _ ((D8, { cls := .type "tuple", data := .seq #[.none, .none, .str (mkS (ltr A ++ [39])) t'] }) :: _) := fun p hp => by
              rcases List.mem_cons.mp hp with rfl | hp
              · exact news_new F13 hD8 hd8
              exact N13.grown hk8 p (.tail _ (.tail _ (.tail _ hp)))
            clear F13 N13
            try dsimp only
            ((repeat' ((( ((( (fail_if_success (with_reducible show wpAny _ _ (exec (Stmt.For _ _ _ _ _) _) _ _ _)); (fail_if_success (with_reducible show wpAny _ _ (exec (Stmt.While _ _ _ _) _) _ _ _)); (fail_if_success (with_reducible show wpAny _ _ (pyIter (Value.ref _)) _ _ _)); (fail_if_success (with_reducible show wpAny _ _ (call (Value.ref _) _ _) _ _ _)); (fail_if_success (with_reducible show wpAny _ _ (call (Value.builtin "next") _ _) _ _ _)); (fail_if_success (with_reducible show wpAny _ _ (eval (Expr.ListComp _ _ _ _) _) _ _ _)); (fail_if_success (with_reducible show LCg.CompEnd _ _ _ _ _ _ _ _ _ _ _ _ _ _)); (fail_if_success (with_reducible show LoopStep3 _ _ _ _ _ _ _ _ _ _)); (fail_if_success (with_reducible show LoopStepV _ _ _ _ _ _ _ _ _ _)); skip))); (fail_if_success (with_reducible show wpAny _ _ (storeName _ (Str.ofString "three") _) _ _ _)); (fail_if_success (with_reducible show wpAny _ _ (storeName _ (Str.ofString "words") _) _ _ _)); (fail_if_success (with_reducible show wpAny _ _ (binaryOp Operator.Add (Value.str _ _) (Value.str _ _)) _ _ _)); (fail_if_success (with_reducible show wpAny _ _ (compareOp CmpOp.NotEq (Value.ref _) (Value.ref _)) _ _ _)); (fail_if_success (with_reducible show wpAny _ _ (compareOp CmpOp.NotEq (Value.bytes _ _) (Value.bytes _ _)) _ _ _)); (fail_if_success (with_reducible show wpAny _ _ (call (Value.builtin "list.append") _) _ _ _)); (fail_if_success (with_reducible show wpAny _ _ (compareOp CmpOp.NotEq (Value.bool _) (Value.bool _)) _ _ _)); (fail_if_success (with_reducible show wpAny _ _ (PySem.eval (Expr.BoolOp _ _ _) (envOfC _ _ _ _ _)) _ _ _)); (fail_if_success (with_reducible show ValEnd _ _ _ _ _ _ _ _)); (fail_if_success (with_reducible show wpAny _ _ (call (Value.builtin "max") _) _ _ _)); (fail_if_success (with_reducible show wpAny _ _ (call (Value.builtin "min") _) _ _ _)); (fail_if_success (with_reducible show wpAny _ _ (call (Value.builtin "list.index") _) _ _ _)); (fail_if_success (with_reducible show wpAny _ _ (subscriptTail _ _ (Value.ref _) (Value.int (List.getD _ _ _) _)) _ _ _)); (fail_if_success (with_reducible show wpAny _ _ (subscriptTail _ _ (Value.ref _) (Value.int (Nat.cast _) _)) _ _ _)); (fail_if_success (with_reducible show wpAny _ _ (subscriptTail _ _ (Value.str _ _) (Value.ref _)) _ _ _)); (fail_if_success (with_reducible show wpAny _ _ (subscriptTail (Expr.Name (Str.ofString "whole") _) _ _ _) _ _ _)); (first | (((with_reducible show wpAny _ _ (PySem.eval (Expr.Name _ _) (envOfC _ _ _ _ _)) _ _ _); name_kind "cell"; (rename News _ _ _ _ => N'); (refine ldCN N' (by rfl) (by k_mem) (by assumption) ?_); walk_say "m cell")) | ((first | ((with_reducible show wpAny _ _ (storeName _ _ _) _ _ _); dsimp only; walk1) | ((first | (k_unfold; (try dsimp only)) | (k_end; wrow_close) | walk1 | (dsimp only; walk1) | (leave1; walk_say "STEP leave1"; try dsimp only) | fail "no step"))))))))))
            rename News _ _ _ _ => N15
            have okA : PyData.strOk (mkS (ltr A ++ [39])) = true := ok_mkS fun c hc => by
              rcases List.mem_append.mp hc with hc | hc
              · exact (ltr_ok aA1 c hc).2
              · rw [List.mem_singleton.mp hc]; decide
            refine ne_none3 (News.get N15 (a := D8) (.tail _ (.head _))) (News.get N15 (.head _)) rfl rfl rfl rfl okA (by show 4 + 3 + 64 < cLine; decide) ?_
            try dsimp only
            ((repeat' ((( ((( (fail_if_success (with_reducible show wpAny _ _ (exec (Stmt.For _ _ _ _ _) _) _ _ _)); (fail_if_success (with_reducible show wpAny _ _ (exec (Stmt.While _ _ _ _) _) _ _ _)); (fail_if_success (with_reducible show wpAny _ _ (pyIter (Value.ref _)) _ _ _)); (fail_if_success (with_reducible show wpAny _ _ (call (Value.ref _) _ _) _ _ _)); (fail_if_success (with_reducible show wpAny _ _ (call (Value.builtin "next") _ _) _ _ _)); (fail_if_success (with_reducible show wpAny _ _ (eval (Expr.ListComp _ _ _ _) _) _ _ _)); (fail_if_success (with_reducible show LCg.CompEnd _ _ _ _ _ _ _ _ _ _ _ _ _ _)); (fail_if_success (with_reducible show LoopStep3 _ _ _ _ _ _ _ _ _ _)); (fail_if_success (with_reducible show LoopStepV _ _ _ _ _ _ _ _ _ _)); skip))); (fail_if_success (with_reducible show wpAny _ _ (storeName _ (Str.ofString "three") _) _ _ _)); (fail_if_success (with_reducible show wpAny _ _ (storeName _ (Str.ofString "words") _) _ _ _)); (fail_if_success (with_reducible show wpAny _ _ (binaryOp Operator.Add (Value.str _ _) (Value.str _ _)) _ _ _)); (fail_if_success (with_reducible show wpAny _ _ (compareOp CmpOp.NotEq (Value.ref _) (Value.ref _)) _ _ _)); (fail_if_success (with_reducible show wpAny _ _ (compareOp CmpOp.NotEq (Value.bytes _ _) (Value.bytes _ _)) _ _ _)); (fail_if_success (with_reducible show wpAny _ _ (call (Value.builtin "list.append") _) _ _ _)); (fail_if_success (with_reducible show wpAny _ _ (compareOp CmpOp.NotEq (Value.bool _) (Value.bool _)) _ _ _)); (fail_if_success (with_reducible show wpAny _ _ (PySem.eval (Expr.BoolOp _ _ _) (envOfC _ _ _ _ _)) _ _ _)); (fail_if_success (with_reducible show ValEnd _ _ _ _ _ _ _ _)); (fail_if_success (with_reducible show wpAny _ _ (call (Value.builtin "max") _) _ _ _)); (fail_if_success (with_reducible show wpAny _ _ (call (Value.builtin "min") _) _ _ _)); (fail_if_success (with_reducible show wpAny _ _ (call (Value.builtin "list.index") _) _ _ _)); (fail_if_success (with_reducible show wpAny _ _ (subscriptTail _ _ (Value.ref _) (Value.int (List.getD _ _ _) _)) _ _ _)); (fail_if_success (with_reducible show wpAny _ _ (subscriptTail _ _ (Value.ref _) (Value.int (Nat.cast _) _)) _ _ _)); (fail_if_success (with_reducible show wpAny _ _ (subscriptTail _ _ (Value.str _ _) (Value.ref _)) _ _ _)); (fail_if_success (with_reducible show wpAny _ _ (subscriptTail (Expr.Name (Str.ofString "whole") _) _ _ _) _ _ _)); (first | (((with_reducible show wpAny _ _ (PySem.eval (Expr.Name _ _) (envOfC _ _ _ _ _)) _ _ _); name_kind "cell"; (rename News _ _ _ _ => N'); (refine ldCN N' (by rfl) (by k_mem) (by assumption) ?_); walk_say "m cell")) | ((first | ((with_reducible show wpAny _ _ (storeName _ _ _) _ _ _); dsimp only; walk1) | ((first | (k_unfold; (try dsimp only)) | (k_end; wrow_close) | walk1 | (dsimp only; walk1) | (leave1; walk_say "STEP leave1"; try dsimp only) | fail "no step"))))))))))
            rename News _ _ _ _ => N16
            refine sub_at (k := q0) (vs := [.ref a0, .ref a1, .ref a2]) (News.get N16 (a := D) (o := listOf #[.ref a0, .ref a1, .ref a2] c) (by k_mem)) (by simpa using hx0) (by omega) ?_
            try dsimp only
            ((repeat' ((( ((( (fail_if_success (with_reducible show wpAny _ _ (exec (Stmt.For _ _ _ _ _) _) _ _ _)); (fail_if_success (with_reducible show wpAny _ _ (exec (Stmt.While _ _ _ _) _) _ _ _)); (fail_if_success (with_reducible show wpAny _ _ (pyIter (Value.ref _)) _ _ _)); (fail_if_success (with_reducible show wpAny _ _ (call (Value.ref _) _ _) _ _ _)); (fail_if_success (with_reducible show wpAny _ _ (call (Value.builtin "next") _ _) _ _ _)); (fail_if_success (with_reducible show wpAny _ _ (eval (Expr.ListComp _ _ _ _) _) _ _ _)); (fail_if_success (with_reducible show LCg.CompEnd _ _ _ _ _ _ _ _ _ _ _ _ _ _)); (fail_if_success (with_reducible show LoopStep3 _ _ _ _ _ _ _ _ _ _)); (fail_if_success (with_reducible show LoopStepV _ _ _ _ _ _ _ _ _ _)); skip))); (fail_if_success (with_reducible show wpAny _ _ (storeName _ (Str.ofString "three") _) _ _ _)); (fail_if_success (with_reducible show wpAny _ _ (storeName _ (Str.ofString "words") _) _ _ _)); (fail_if_success (with_reducible show wpAny _ _ (binaryOp Operator.Add (Value.str _ _) (Value.str _ _)) _ _ _)); (fail_if_success (with_reducible show wpAny _ _ (compareOp CmpOp.NotEq (Value.ref _) (Value.ref _)) _ _ _)); (fail_if_success (with_reducible show wpAny _ _ (compareOp CmpOp.NotEq (Value.bytes _ _) (Value.bytes _ _)) _ _ _)); (fail_if_success (with_reducible show wpAny _ _ (call (Value.builtin "list.append") _) _ _ _)); (fail_if_success (with_reducible show wpAny _ _ (compareOp CmpOp.NotEq (Value.bool _) (Value.bool _)) _ _ _)); (fail_if_success (with_reducible show wpAny _ _ (PySem.eval (Expr.BoolOp _ _ _) (envOfC _ _ _ _ _)) _ _ _)); (fail_if_success (with_reducible show ValEnd _ _ _ _ _ _ _ _)); (fail_if_success (with_reducible show wpAny _ _ (call (Value.builtin "max") _) _ _ _)); (fail_if_success (with_reducible show wpAny _ _ (call (Value.builtin "min") _) _ _ _)); (fail_if_success (with_reducible show wpAny _ _ (call (Value.builtin "list.index") _) _ _ _)); (fail_if_success (with_reducible show wpAny _ _ (subscriptTail _ _ (Value.ref _) (Value.int (List.getD _ _ _) _)) _ _ _)); (fail_if_success (with_reducible show wpAny _ _ (subscriptTail _ _ (Value.ref _) (Value.int (Nat.cast _) _)) _ _ _)); (fail_if_success (with_reducible show wpAny _ _ (subscriptTail _ _ (Value.str _ _) (Value.ref _)) _ _ _)); (fail_if_success (with_reducible show wpAny _ _ (subscriptTail (Expr.Name (Str.ofString "whole") _) _ _ _) _ _ _)); (first | (((with_reducible show wpAny _ _ (PySem.eval (Expr.Name _ _) (envOfC _ _ _ _ _)) _ _ _); name_kind "cell"; (rename News _ _ _ _ => N'); (refine ldCN N' (by rfl) (by k_mem) (by assumption) ?_); walk_say "m cell")) | ((first | ((with_reducible show wpAny _ _ (storeName _ _ _) _ _ _); dsimp only; walk1) | ((first | (k_unfold; (try dsimp only)) | (k_end; wrow_close) | walk1 | (dsimp only; walk1) | (leave1; walk_say "STEP leave1"; try dsimp only) | fail "no step"))))))))))
            rename News _ _ _ _ => N17
            refine sub_at (k := q1) (vs := [.ref a0, .ref a1, .ref a2]) (News.get N17 (a := D) (o := listOf #[.ref a0, .ref a1, .ref a2] c) (by k_mem)) (by simpa using hx1) (by omega) ?_
            try dsimp only
            ((repeat' ((( ((( (fail_if_success (with_reducible show wpAny _ _ (exec (Stmt.For _ _ _ _ _) _) _ _ _)); (fail_if_success (with_reducible show wpAny _ _ (exec (Stmt.While _ _ _ _) _) _ _ _)); (fail_if_success (with_reducible show wpAny _ _ (pyIter (Value.ref _)) _ _ _)); (fail_if_success (with_reducible show wpAny _ _ (call (Value.ref _) _ _) _ _ _)); (fail_if_success (with_reducible show wpAny _ _ (call (Value.builtin "next") _ _) _ _ _)); (fail_if_success (with_reducible show wpAny _ _ (eval (Expr.ListComp _ _ _ _) _) _ _ _)); (fail_if_success (with_reducible show LCg.CompEnd _ _ _ _ _ _ _ _ _ _ _ _ _ _)); (fail_if_success (with_reducible show LoopStep3 _ _ _ _ _ _ _ _ _ _)); (fail_if_success (with_reducible show LoopStepV _ _ _ _ _ _ _ _ _ _)); skip))); (fail_if_success (with_reducible show wpAny _ _ (storeName _ (Str.ofString "three") _) _ _ _)); (fail_if_success (with_reducible show wpAny _ _ (storeName _ (Str.ofString "words") _) _ _ _)); (fail_if_success (with_reducible show wpAny _ _ (binaryOp Operator.Add (Value.str _ _) (Value.str _ _)) _ _ _)); (fail_if_success (with_reducible show wpAny _ _ (compareOp CmpOp.NotEq (Value.ref _) (Value.ref _)) _ _ _)); (fail_if_success (with_reducible show wpAny _ _ (compareOp CmpOp.NotEq (Value.bytes _ _) (Value.bytes _ _)) _ _ _)); (fail_if_success (with_reducible show wpAny _ _ (call (Value.builtin "list.append") _) _ _ _)); (fail_if_success (with_reducible show wpAny _ _ (compareOp CmpOp.NotEq (Value.bool _) (Value.bool _)) _ _ _)); (fail_if_success (with_reducible show wpAny _ _ (PySem.eval (Expr.BoolOp _ _ _) (envOfC _ _ _ _ _)) _ _ _)); (fail_if_success (with_reducible show ValEnd _ _ _ _ _ _ _ _)); (fail_if_success (with_reducible show wpAny _ _ (call (Value.builtin "max") _) _ _ _)); (fail_if_success (with_reducible show wpAny _ _ (call (Value.builtin "min") _) _ _ _)); (fail_if_success (with_reducible show wpAny _ _ (call (Value.builtin "list.index") _) _ _ _)); (fail_if_success (with_reducible show wpAny _ _ (subscriptTail _ _ (Value.ref _) (Value.int (List.getD _ _ _) _)) _ _ _)); (fail_if_success (with_reducible show wpAny _ _ (subscriptTail _ _ (Value.ref _) (Value.int (Nat.cast _) _)) _ _ _)); (fail_if_success (with_reducible show wpAny _ _ (subscriptTail _ _ (Value.str _ _) (Value.ref _)) _ _ _)); (fail_if_success (with_reducible show wpAny _ _ (subscriptTail (Expr.Name (Str.ofString "whole") _) _ _ _) _ _ _)); (first | (((with_reducible show wpAny _ _ (PySem.eval (Expr.Name _ _) (envOfC _ _ _ _ _)) _ _ _); name_kind "cell"; (rename News _ _ _ _ => N'); (refine ldCN N' (by rfl) (by k_mem) (by assumption) ?_); walk_say "m cell")) | ((first | ((with_reducible show wpAny _ _ (storeName _ _ _) _ _ _); dsimp only; walk1) | ((first | (k_unfold; (try dsimp only)) | (k_end; wrow_close) | walk1 | (dsimp only; walk1) | (leave1; walk_say "STEP leave1"; try dsimp only) | fail "no step"))))))))))
            rename News _ _ _ _ => N18
            refine sub_at (k := q2) (vs := [.ref a0, .ref a1, .ref a2]) (News.get N18 (a := D) (o := listOf #[.ref a0, .ref a1, .ref a2] c) (by k_mem)) (by simpa using hx2) (by omega) ?_
            try dsimp only
            ((repeat' ((( ((( (fail_if_success (with_reducible show wpAny _ _ (exec (Stmt.For _ _ _ _ _) _) _ _ _)); (fail_if_success (with_reducible show wpAny _ _ (exec (Stmt.While _ _ _ _) _) _ _ _)); (fail_if_success (with_reducible show wpAny _ _ (pyIter (Value.ref _)) _ _ _)); (fail_if_success (with_reducible show wpAny _ _ (call (Value.ref _) _ _) _ _ _)); (fail_if_success (with_reducible show wpAny _ _ (call (Value.builtin "next") _ _) _ _ _)); (fail_if_success (with_reducible show wpAny _ _ (eval (Expr.ListComp _ _ _ _) _) _ _ _)); (fail_if_success (with_reducible show LCg.CompEnd _ _ _ _ _ _ _ _ _ _ _ _ _ _)); (fail_if_success (with_reducible show LoopStep3 _ _ _ _ _ _ _ _ _ _)); (fail_if_success (with_reducible show LoopStepV _ _ _ _ _ _ _ _ _ _)); skip))); (fail_if_success (with_reducible show wpAny _ _ (storeName _ (Str.ofString "three") _) _ _ _)); (fail_if_success (with_reducible show wpAny _ _ (storeName _ (Str.ofString "words") _) _ _ _)); (fail_if_success (with_reducible show wpAny _ _ (binaryOp Operator.Add (Value.str _ _) (Value.str _ _)) _ _ _)); (fail_if_success (with_reducible show wpAny _ _ (compareOp CmpOp.NotEq (Value.ref _) (Value.ref _)) _ _ _)); (fail_if_success (with_reducible show wpAny _ _ (compareOp CmpOp.NotEq (Value.bytes _ _) (Value.bytes _ _)) _ _ _)); (fail_if_success (with_reducible show wpAny _ _ (call (Value.builtin "list.append") _) _ _ _)); (fail_if_success (with_reducible show wpAny _ _ (compareOp CmpOp.NotEq (Value.bool _) (Value.bool _)) _ _ _)); (fail_if_success (with_reducible show wpAny _ _ (PySem.eval (Expr.BoolOp _ _ _) (envOfC _ _ _ _ _)) _ _ _)); (fail_if_success (with_reducible show ValEnd _ _ _ _ _ _ _ _)); (fail_if_success (with_reducible show wpAny _ _ (call (Value.builtin "max") _) _ _ _)); (fail_if_success (with_reducible show wpAny _ _ (call (Value.builtin "min") _) _ _ _)); (fail_if_success (with_reducible show wpAny _ _ (call (Value.builtin "list.index") _) _ _ _)); (fail_if_success (with_reducible show wpAny _ _ (subscriptTail _ _ (Value.ref _) (Value.int (List.getD _ _ _) _)) _ _ _)); (fail_if_success (with_reducible show wpAny _ _ (subscriptTail _ _ (Value.ref _) (Value.int (Nat.cast _) _)) _ _ _)); (fail_if_success (with_reducible show wpAny _ _ (subscriptTail _ _ (Value.str _ _) (Value.ref _)) _ _ _)); (fail_if_success (with_reducible show wpAny _ _ (subscriptTail (Expr.Name (Str.ofString "whole") _) _ _ _) _ _ _)); (first | (((with_reducible show wpAny _ _ (PySem.eval (Expr.Name _ _) (envOfC _ _ _ _ _)) _ _ _); name_kind "cell"; (rename News _ _ _ _ => N'); (refine ldCN N' (by rfl) (by k_mem) (by assumption) ?_); walk_say "m cell")) | ((first | ((with_reducible show wpAny _ _ (storeName _ _ _) _ _ _); dsimp only; walk1) | ((first | (k_unfold; (try dsimp only)) | (k_end; wrow_close) | walk1 | (dsimp only; walk1) | (leave1; walk_say "STEP leave1"; try dsimp only) | fail "no step"))))))))))
            rename IntsAre _ (g q0 ++ g q1 ++ g q2) => hJA
            rw [hAd] at hJA
            rename Fr _ _ _ _ => F19
            rename News _ _ _ _ => N19
            refine folded_call (KX.keeps F19.keep) (T.keeps F19.keep) (by show 1 + claimMargin + 1 + 3 < recursionLimit; decide) rfl (News.isList N19 (.head _)) hJA (by decide) fun t9 h9 tk9 hk9 => ?_
            have F20 := F19.after hk9
            have N20 : News _ _ _ _ := fun p hp => N19.grown hk9 p (.tail _ (.tail _ (.tail _ (.tail _ hp))))
            clear F19 N19
            try dsimp only
            ((repeat' ((( ((( (fail_if_success (with_reducible show wpAny _ _ (exec (Stmt.For _ _ _ _ _) _) _ _ _)); (fail_if_success (with_reducible show wpAny _ _ (exec (Stmt.While _ _ _ _) _) _ _ _)); (fail_if_success (with_reducible show wpAny _ _ (pyIter (Value.ref _)) _ _ _)); (fail_if_success (with_reducible show wpAny _ _ (call (Value.ref _) _ _) _ _ _)); (fail_if_success (with_reducible show wpAny _ _ (call (Value.builtin "next") _ _) _ _ _)); (fail_if_success (with_reducible show wpAny _ _ (eval (Expr.ListComp _ _ _ _) _) _ _ _)); (fail_if_success (with_reducible show LCg.CompEnd _ _ _ _ _ _ _ _ _ _ _ _ _ _)); (fail_if_success (with_reducible show LoopStep3 _ _ _ _ _ _ _ _ _ _)); (fail_if_success (with_reducible show LoopStepV _ _ _ _ _ _ _ _ _ _)); skip))); (fail_if_success (with_reducible show wpAny _ _ (storeName _ (Str.ofString "three") _) _ _ _)); (fail_if_success (with_reducible show wpAny _ _ (storeName _ (Str.ofString "words") _) _ _ _)); (fail_if_success (with_reducible show wpAny _ _ (binaryOp Operator.Add (Value.str _ _) (Value.str _ _)) _ _ _)); (fail_if_success (with_reducible show wpAny _ _ (compareOp CmpOp.NotEq (Value.ref _) (Value.ref _)) _ _ _)); (fail_if_success (with_reducible show wpAny _ _ (compareOp CmpOp.NotEq (Value.bytes _ _) (Value.bytes _ _)) _ _ _)); (fail_if_success (with_reducible show wpAny _ _ (call (Value.builtin "list.append") _) _ _ _)); (fail_if_success (with_reducible show wpAny _ _ (compareOp CmpOp.NotEq (Value.bool _) (Value.bool _)) _ _ _)); (fail_if_success (with_reducible show wpAny _ _ (PySem.eval (Expr.BoolOp _ _ _) (envOfC _ _ _ _ _)) _ _ _)); (fail_if_success (with_reducible show ValEnd _ _ _ _ _ _ _ _)); (fail_if_success (with_reducible show wpAny _ _ (call (Value.builtin "max") _) _ _ _)); (fail_if_success (with_reducible show wpAny _ _ (call (Value.builtin "min") _) _ _ _)); (fail_if_success (with_reducible show wpAny _ _ (call (Value.builtin "list.index") _) _ _ _)); (fail_if_success (with_reducible show wpAny _ _ (subscriptTail _ _ (Value.ref _) (Value.int (List.getD _ _ _) _)) _ _ _)); (fail_if_success (with_reducible show wpAny _ _ (subscriptTail _ _ (Value.ref _) (Value.int (Nat.cast _) _)) _ _ _)); (fail_if_success (with_reducible show wpAny _ _ (subscriptTail _ _ (Value.str _ _) (Value.ref _)) _ _ _)); (fail_if_success (with_reducible show wpAny _ _ (subscriptTail (Expr.Name (Str.ofString "whole") _) _ _ _) _ _ _)); (first | (((with_reducible show wpAny _ _ (PySem.eval (Expr.Name _ _) (envOfC _ _ _ _ _)) _ _ _); name_kind "cell"; (rename News _ _ _ _ => N'); (refine ldCN N' (by rfl) (by k_mem) (by assumption) ?_); walk_say "m cell")) | ((first | ((with_reducible show wpAny _ _ (storeName _ _ _) _ _ _); dsimp only; walk1) | ((first | (k_unfold; (try dsimp only)) | (k_end; wrow_close) | walk1 | (dsimp only; walk1) | (leave1; walk_say "STEP leave1"; try dsimp only) | fail "no step"))))))))))
            rename Fr _ _ _ _ => F21
            rename News _ _ _ _ => N21
            refine ap_call (KX.keeps F21.keep) (T.keeps F21.keep) (by show 1 + claimMargin + 1 + 3 < recursionLimit; decide) rfl (foldA aA1 aA2) fun b10 t10 h10 tk10 hb10 hk10 => ?_
            rw [apI_folded A aA1] at hb10
            have F22 := F21.after hk10
            have N22 : News _ _ _ _ := N21.grown hk10
            clear F21 N21
            try dsimp only
            ((repeat' ((( ((( (fail_if_success (with_reducible show wpAny _ _ (exec (Stmt.For _ _ _ _ _) _) _ _ _)); (fail_if_success (with_reducible show wpAny _ _ (exec (Stmt.While _ _ _ _) _) _ _ _)); (fail_if_success (with_reducible show wpAny _ _ (pyIter (Value.ref _)) _ _ _)); (fail_if_success (with_reducible show wpAny _ _ (call (Value.ref _) _ _) _ _ _)); (fail_if_success (with_reducible show wpAny _ _ (call (Value.builtin "next") _ _) _ _ _)); (fail_if_success (with_reducible show wpAny _ _ (eval (Expr.ListComp _ _ _ _) _) _ _ _)); (fail_if_success (with_reducible show LCg.CompEnd _ _ _ _ _ _ _ _ _ _ _ _ _ _)); (fail_if_success (with_reducible show LoopStep3 _ _ _ _ _ _ _ _ _ _)); (fail_if_success (with_reducible show LoopStepV _ _ _ _ _ _ _ _ _ _)); skip))); (fail_if_success (with_reducible show wpAny _ _ (storeName _ (Str.ofString "three") _) _ _ _)); (fail_if_success (with_reducible show wpAny _ _ (storeName _ (Str.ofString "words") _) _ _ _)); (fail_if_success (with_reducible show wpAny _ _ (binaryOp Operator.Add (Value.str _ _) (Value.str _ _)) _ _ _)); (fail_if_success (with_reducible show wpAny _ _ (compareOp CmpOp.NotEq (Value.ref _) (Value.ref _)) _ _ _)); (fail_if_success (with_reducible show wpAny _ _ (compareOp CmpOp.NotEq (Value.bytes _ _) (Value.bytes _ _)) _ _ _)); (fail_if_success (with_reducible show wpAny _ _ (call (Value.builtin "list.append") _) _ _ _)); (fail_if_success (with_reducible show wpAny _ _ (compareOp CmpOp.NotEq (Value.bool _) (Value.bool _)) _ _ _)); (fail_if_success (with_reducible show wpAny _ _ (PySem.eval (Expr.BoolOp _ _ _) (envOfC _ _ _ _ _)) _ _ _)); (fail_if_success (with_reducible show ValEnd _ _ _ _ _ _ _ _)); (fail_if_success (with_reducible show wpAny _ _ (call (Value.builtin "max") _) _ _ _)); (fail_if_success (with_reducible show wpAny _ _ (call (Value.builtin "min") _) _ _ _)); (fail_if_success (with_reducible show wpAny _ _ (call (Value.builtin "list.index") _) _ _ _)); (fail_if_success (with_reducible show wpAny _ _ (subscriptTail _ _ (Value.ref _) (Value.int (List.getD _ _ _) _)) _ _ _)); (fail_if_success (with_reducible show wpAny _ _ (subscriptTail _ _ (Value.ref _) (Value.int (Nat.cast _) _)) _ _ _)); (fail_if_success (with_reducible show wpAny _ _ (subscriptTail _ _ (Value.str _ _) (Value.ref _)) _ _ _)); (fail_if_success (with_reducible show wpAny _ _ (subscriptTail (Expr.Name (Str.ofString "whole") _) _ _ _) _ _ _)); (first | (((with_reducible show wpAny _ _ (PySem.eval (Expr.Name _ _) (envOfC _ _ _ _ _)) _ _ _); name_kind "cell"; (rename News _ _ _ _ => N'); (refine ldCN N' (by rfl) (by k_mem) (by assumption) ?_); walk_say "m cell")) | ((first | ((with_reducible show wpAny _ _ (storeName _ _ _) _ _ _); dsimp only; walk1) | ((first | (k_unfold; (try dsimp only)) | (k_end; wrow_close) | walk1 | (dsimp only; walk1) | (leave1; walk_say "STEP leave1"; try dsimp only) | fail "no step"))))))))))
            refine comp_eval F22 (by rfl) (by decide) (by rfl) (by decide) (by rfl) ?_
            ((repeat' ((( ((( (fail_if_success (with_reducible show wpAny _ _ (exec (Stmt.For _ _ _ _ _) _) _ _ _)); (fail_if_success (with_reducible show wpAny _ _ (exec (Stmt.While _ _ _ _) _) _ _ _)); (fail_if_success (with_reducible show wpAny _ _ (pyIter (Value.ref _)) _ _ _)); (fail_if_success (with_reducible show wpAny _ _ (call (Value.ref _) _ _) _ _ _)); (fail_if_success (with_reducible show wpAny _ _ (call (Value.builtin "next") _ _) _ _ _)); (fail_if_success (with_reducible show wpAny _ _ (eval (Expr.ListComp _ _ _ _) _) _ _ _)); (fail_if_success (with_reducible show LCg.CompEnd _ _ _ _ _ _ _ _ _ _ _ _ _ _)); (fail_if_success (with_reducible show LoopStep3 _ _ _ _ _ _ _ _ _ _)); (fail_if_success (with_reducible show LoopStepV _ _ _ _ _ _ _ _ _ _)); skip))); (fail_if_success (with_reducible show wpAny _ _ (storeName _ (Str.ofString "three") _) _ _ _)); (fail_if_success (with_reducible show wpAny _ _ (storeName _ (Str.ofString "words") _) _ _ _)); (fail_if_success (with_reducible show wpAny _ _ (binaryOp Operator.Add (Value.str _ _) (Value.str _ _)) _ _ _)); (fail_if_success (with_reducible show wpAny _ _ (compareOp CmpOp.NotEq (Value.ref _) (Value.ref _)) _ _ _)); (fail_if_success (with_reducible show wpAny _ _ (compareOp CmpOp.NotEq (Value.bytes _ _) (Value.bytes _ _)) _ _ _)); (fail_if_success (with_reducible show wpAny _ _ (call (Value.builtin "list.append") _) _ _ _)); (fail_if_success (with_reducible show wpAny _ _ (compareOp CmpOp.NotEq (Value.bool _) (Value.bool _)) _ _ _)); (fail_if_success (with_reducible show wpAny _ _ (PySem.eval (Expr.BoolOp _ _ _) (envOfC _ _ _ _ _)) _ _ _)); (fail_if_success (with_reducible show ValEnd _ _ _ _ _ _ _ _)); (fail_if_success (with_reducible show wpAny _ _ (call (Value.builtin "max") _) _ _ _)); (fail_if_success (with_reducible show wpAny _ _ (call (Value.builtin "min") _) _ _ _)); (fail_if_success (with_reducible show wpAny _ _ (call (Value.builtin "list.index") _) _ _ _)); (fail_if_success (with_reducible show wpAny _ _ (subscriptTail _ _ (Value.ref _) (Value.int (List.getD _ _ _) _)) _ _ _)); (fail_if_success (with_reducible show wpAny _ _ (subscriptTail _ _ (Value.ref _) (Value.int (Nat.cast _) _)) _ _ _)); (fail_if_success (with_reducible show wpAny _ _ (subscriptTail _ _ (Value.str _ _) (Value.ref _)) _ _ _)); (fail_if_success (with_reducible show wpAny _ _ (subscriptTail (Expr.Name (Str.ofString "whole") _) _ _ _) _ _ _)); (first | (((with_reducible show wpAny _ _ (PySem.eval (Expr.Name _ _) (envOfC _ _ _ _ _)) _ _ _); name_kind "cell"; (rename News _ _ _ _ => N'); (refine ldCN N' (by rfl) (by k_mem) (by assumption) ?_); walk_say "m cell")) | ((first | ((with_reducible show wpAny _ _ (storeName _ _ _) _ _ _); dsimp only; walk1) | ((first | (k_unfold; (try dsimp only)) | (k_end; wrow_close) | walk1 | (dsimp only; walk1) | (leave1; walk_say "STEP leave1"; try dsimp only) | fail "no step"))))))))))
            refine slice_strN_ns (hsz := by rw [mkS_len, sizeLine_eq]; simp [ltr_len]; omega) (s := ⟨_, _, _, _, _⟩) F22 N22 ?_
            intro h11 t11 k11 F23 N23
            rw [cut_row]
            clear F22 N22
            try dsimp only
            ((repeat' ((( ((( (fail_if_success (with_reducible show wpAny _ _ (exec (Stmt.For _ _ _ _ _) _) _ _ _)); (fail_if_success (with_reducible show wpAny _ _ (exec (Stmt.While _ _ _ _) _) _ _ _)); (fail_if_success (with_reducible show wpAny _ _ (pyIter (Value.ref _)) _ _ _)); (fail_if_success (with_reducible show wpAny _ _ (call (Value.ref _) _ _) _ _ _)); (fail_if_success (with_reducible show wpAny _ _ (call (Value.builtin "next") _ _) _ _ _)); (fail_if_success (with_reducible show wpAny _ _ (eval (Expr.ListComp _ _ _ _) _) _ _ _)); (fail_if_success (with_reducible show LCg.CompEnd _ _ _ _ _ _ _ _ _ _ _ _ _ _)); (fail_if_success (with_reducible show LoopStep3 _ _ _ _ _ _ _ _ _ _)); (fail_if_success (with_reducible show LoopStepV _ _ _ _ _ _ _ _ _ _)); skip))); (fail_if_success (with_reducible show wpAny _ _ (storeName _ (Str.ofString "three") _) _ _ _)); (fail_if_success (with_reducible show wpAny _ _ (storeName _ (Str.ofString "words") _) _ _ _)); (fail_if_success (with_reducible show wpAny _ _ (binaryOp Operator.Add (Value.str _ _) (Value.str _ _)) _ _ _)); (fail_if_success (with_reducible show wpAny _ _ (compareOp CmpOp.NotEq (Value.ref _) (Value.ref _)) _ _ _)); (fail_if_success (with_reducible show wpAny _ _ (compareOp CmpOp.NotEq (Value.bytes _ _) (Value.bytes _ _)) _ _ _)); (fail_if_success (with_reducible show wpAny _ _ (call (Value.builtin "list.append") _) _ _ _)); (fail_if_success (with_reducible show wpAny _ _ (compareOp CmpOp.NotEq (Value.bool _) (Value.bool _)) _ _ _)); (fail_if_success (with_reducible show wpAny _ _ (PySem.eval (Expr.BoolOp _ _ _) (envOfC _ _ _ _ _)) _ _ _)); (fail_if_success (with_reducible show ValEnd _ _ _ _ _ _ _ _)); (fail_if_success (with_reducible show wpAny _ _ (call (Value.builtin "max") _) _ _ _)); (fail_if_success (with_reducible show wpAny _ _ (call (Value.builtin "min") _) _ _ _)); (fail_if_success (with_reducible show wpAny _ _ (call (Value.builtin "list.index") _) _ _ _)); (fail_if_success (with_reducible show wpAny _ _ (subscriptTail _ _ (Value.ref _) (Value.int (List.getD _ _ _) _)) _ _ _)); (fail_if_success (with_reducible show wpAny _ _ (subscriptTail _ _ (Value.ref _) (Value.int (Nat.cast _) _)) _ _ _)); (fail_if_success (with_reducible show wpAny _ _ (subscriptTail _ _ (Value.str _ _) (Value.ref _)) _ _ _)); (fail_if_success (with_reducible show wpAny _ _ (subscriptTail (Expr.Name (Str.ofString "whole") _) _ _ _) _ _ _)); (first | (((with_reducible show wpAny _ _ (PySem.eval (Expr.Name _ _) (envOfC _ _ _ _ _)) _ _ _); name_kind "cell"; (rename News _ _ _ _ => N'); (refine ldCN N' (by rfl) (by k_mem) (by assumption) ?_); walk_say "m cell")) | ((first | ((with_reducible show wpAny _ _ (storeName _ _ _) _ _ _); dsimp only; walk1) | ((first | (k_unfold; (try dsimp only)) | (k_end; wrow_close) | walk1 | (dsimp only; walk1) | (leave1; walk_say "STEP leave1"; try dsimp only) | fail "no step"))))))))))
            refine it_str rfl F23 N23 (by rw [sizeLine_eq]; simp [mkS, ltr_len]; omega) (fun h => ?_)
            generalize hLg3 : (whs, listOf (List.toArray wv) k1) :: _ = Lg3 at N23
            refine rest_invK (fun i zs news => news = Lg3 ∧ IntsAre zs (((ltr A).take i).map (fun c : Nat => (c : Int)))) ?_ ?_ _ 0 [] _ (Nat.zero_add _) ⟨rfl, .nil⟩
            · rintro zs3 news ⟨rfl, hzs3⟩ D12 h12 tk12 F N od12
              replace hzs3 : IntsAre zs3 (A.map (· + 65)) := by
                rw [List.take_of_length_le (by simp [mkS])] at hzs3
                rw [← ltr_cast aA1]
                exact hzs3
              have hin : KBa.In (A.map (· + 65)) := by
                intro n hn
                obtain ⟨f, hf, rfl⟩ := List.mem_map.mp hn
                have := aA1 f hf
                omega
              have hln : (A.map (· + 65)).length ≤ 12 := by rw [List.length_map]; exact aA2
              rw [← hLg3] at N
              try dsimp only
              ((repeat' ((( ((( (fail_if_success (with_reducible show wpAny _ _ (exec (Stmt.For _ _ _ _ _) _) _ _ _)); (fail_if_success (with_reducible show wpAny _ _ (exec (Stmt.While _ _ _ _) _) _ _ _)); (fail_if_success (with_reducible show wpAny _ _ (pyIter (Value.ref _)) _ _ _)); (fail_if_success (with_reducible show wpAny _ _ (call (Value.ref _) _ _) _ _ _)); (fail_if_success (with_reducible show wpAny _ _ (call (Value.builtin "next") _ _) _ _ _)); (fail_if_success (with_reducible show wpAny _ _ (eval (Expr.ListComp _ _ _ _) _) _ _ _)); (fail_if_success (with_reducible show LCg.CompEnd _ _ _ _ _ _ _ _ _ _ _ _ _ _)); (fail_if_success (with_reducible show LoopStep3 _ _ _ _ _ _ _ _ _ _)); (fail_if_success (with_reducible show LoopStepV _ _ _ _ _ _ _ _ _ _)); skip))); (fail_if_success (with_reducible show wpAny _ _ (storeName _ (Str.ofString "three") _) _ _ _)); (fail_if_success (with_reducible show wpAny _ _ (storeName _ (Str.ofString "words") _) _ _ _)); (fail_if_success (with_reducible show wpAny _ _ (binaryOp Operator.Add (Value.str _ _) (Value.str _ _)) _ _ _)); (fail_if_success (with_reducible show wpAny _ _ (compareOp CmpOp.NotEq (Value.ref _) (Value.ref _)) _ _ _)); (fail_if_success (with_reducible show wpAny _ _ (compareOp CmpOp.NotEq (Value.bytes _ _) (Value.bytes _ _)) _ _ _)); (fail_if_success (with_reducible show wpAny _ _ (call (Value.builtin "list.append") _) _ _ _)); (fail_if_success (with_reducible show wpAny _ _ (compareOp CmpOp.NotEq (Value.bool _) (Value.bool _)) _ _ _)); (fail_if_success (with_reducible show wpAny _ _ (PySem.eval (Expr.BoolOp _ _ _) (envOfC _ _ _ _ _)) _ _ _)); (fail_if_success (with_reducible show ValEnd _ _ _ _ _ _ _ _)); (fail_if_success (with_reducible show wpAny _ _ (call (Value.builtin "max") _) _ _ _)); (fail_if_success (with_reducible show wpAny _ _ (call (Value.builtin "min") _) _ _ _)); (fail_if_success (with_reducible show wpAny _ _ (call (Value.builtin "list.index") _) _ _ _)); (fail_if_success (with_reducible show wpAny _ _ (subscriptTail _ _ (Value.ref _) (Value.int (List.getD _ _ _) _)) _ _ _)); (fail_if_success (with_reducible show wpAny _ _ (subscriptTail _ _ (Value.ref _) (Value.int (Nat.cast _) _)) _ _ _)); (fail_if_success (with_reducible show wpAny _ _ (subscriptTail _ _ (Value.str _ _) (Value.ref _)) _ _ _)); (fail_if_success (with_reducible show wpAny _ _ (subscriptTail (Expr.Name (Str.ofString "whole") _) _ _ _) _ _ _)); (first | (((with_reducible show wpAny _ _ (PySem.eval (Expr.Name _ _) (envOfC _ _ _ _ _)) _ _ _); name_kind "cell"; (rename News _ _ _ _ => N'); (refine ldCN N' (by rfl) (by k_mem) (by assumption) ?_); walk_say "m cell")) | ((first | ((with_reducible show wpAny _ _ (storeName _ _ _) _ _ _); dsimp only; walk1) | ((first | (k_unfold; (try dsimp only)) | (k_end; wrow_close) | walk1 | (dsimp only; walk1) | (leave1; walk_say "STEP leave1"; try dsimp only) | fail "no step"))))))))))
              refine ne_bytes_self (hb10.trans (KBa.ints_make hin).symm) ?_
              try dsimp only
              ((repeat' ((( ((( (fail_if_success (with_reducible show wpAny _ _ (exec (Stmt.For _ _ _ _ _) _) _ _ _)); (fail_if_success (with_reducible show wpAny _ _ (exec (Stmt.While _ _ _ _) _) _ _ _)); (fail_if_success (with_reducible show wpAny _ _ (pyIter (Value.ref _)) _ _ _)); (fail_if_success (with_reducible show wpAny _ _ (call (Value.ref _) _ _) _ _ _)); (fail_if_success (with_reducible show wpAny _ _ (call (Value.builtin "next") _ _) _ _ _)); (fail_if_success (with_reducible show wpAny _ _ (eval (Expr.ListComp _ _ _ _) _) _ _ _)); (fail_if_success (with_reducible show LCg.CompEnd _ _ _ _ _ _ _ _ _ _ _ _ _ _)); (fail_if_success (with_reducible show LoopStep3 _ _ _ _ _ _ _ _ _ _)); (fail_if_success (with_reducible show LoopStepV _ _ _ _ _ _ _ _ _ _)); skip))); (fail_if_success (with_reducible show wpAny _ _ (storeName _ (Str.ofString "three") _) _ _ _)); (fail_if_success (with_reducible show wpAny _ _ (storeName _ (Str.ofString "words") _) _ _ _)); (fail_if_success (with_reducible show wpAny _ _ (binaryOp Operator.Add (Value.str _ _) (Value.str _ _)) _ _ _)); (fail_if_success (with_reducible show wpAny _ _ (compareOp CmpOp.NotEq (Value.ref _) (Value.ref _)) _ _ _)); (fail_if_success (with_reducible show wpAny _ _ (compareOp CmpOp.NotEq (Value.bytes _ _) (Value.bytes _ _)) _ _ _)); (fail_if_success (with_reducible show wpAny _ _ (call (Value.builtin "list.append") _) _ _ _)); (fail_if_success (with_reducible show wpAny _ _ (compareOp CmpOp.NotEq (Value.bool _) (Value.bool _)) _ _ _)); (fail_if_success (with_reducible show wpAny _ _ (PySem.eval (Expr.BoolOp _ _ _) (envOfC _ _ _ _ _)) _ _ _)); (fail_if_success (with_reducible show ValEnd _ _ _ _ _ _ _ _)); (fail_if_success (with_reducible show wpAny _ _ (call (Value.builtin "max") _) _ _ _)); (fail_if_success (with_reducible show wpAny _ _ (call (Value.builtin "min") _) _ _ _)); (fail_if_success (with_reducible show wpAny _ _ (call (Value.builtin "list.index") _) _ _ _)); (fail_if_success (with_reducible show wpAny _ _ (subscriptTail _ _ (Value.ref _) (Value.int (List.getD _ _ _) _)) _ _ _)); (fail_if_success (with_reducible show wpAny _ _ (subscriptTail _ _ (Value.ref _) (Value.int (Nat.cast _) _)) _ _ _)); (fail_if_success (with_reducible show wpAny _ _ (subscriptTail _ _ (Value.str _ _) (Value.ref _)) _ _ _)); (fail_if_success (with_reducible show wpAny _ _ (subscriptTail (Expr.Name (Str.ofString "whole") _) _ _ _) _ _ _)); (first | (((with_reducible show wpAny _ _ (PySem.eval (Expr.Name _ _) (envOfC _ _ _ _ _)) _ _ _); name_kind "cell"; (rename News _ _ _ _ => N'); (refine ldCN N' (by rfl) (by k_mem) (by assumption) ?_); walk_say "m cell")) | ((first | ((with_reducible show wpAny _ _ (storeName _ _ _) _ _ _); dsimp only; walk1) | ((first | (k_unfold; (try dsimp only)) | (k_end; wrow_close) | walk1 | (dsimp only; walk1) | (leave1; walk_say "STEP leave1"; try dsimp only) | fail "no step"))))))))))
              rename Fr _ _ _ _ => F24
              rename News _ _ _ _ => N24
              refine told_call (blocks := [A.map (· + 65)]) (KX.keeps F24.keep) (T.keeps F24.keep) (by show 1 + claimMargin + 1 + 6 < recursionLimit; decide) (by show 4 + 3 + 30 < cLine; decide) rfl (by simp [mkS, ltr_len]; omega) (told1 aA1) (block1_ok aA1 aA2) rfl fun D13 vs13 k13 h13 tk13 hk13 hD13 hd13 hs13 => ?_
              rw [told1_vals aA1] at hs13
              obtain ⟨t13, rfl⟩ : ∃ t, vs13 = [.int (foldedF 64 1 A * 64 + 39) t] := by
                cases hs13 with
                | cons _ t r => cases r; exact ⟨t, rfl⟩
              have F25 := F24.after hk13
              have N25 : News _ _ _ ((D13, listOf (List.toArray [.int (foldedF 64 1 A * 64 + 39) t13]) k13) :: _) := fun p hp => by
                rcases List.mem_cons.mp hp with rfl | hp
                · exact news_new F24 hD13 hd13
                exact N24.grown hk13 p (.tail _ hp)
              have ap13 := new_apart N24 hD13
              have d13r : D13 ≠ rws := ap13 _ (.tail _ (.tail _ (.head _)))
              have d13w : D13 ≠ whs := ap13 _ (.tail _ (.head _))
              clear F24 N24 ap13
              try dsimp only
              ((repeat' ((( ((( (fail_if_success (with_reducible show wpAny _ _ (exec (Stmt.For _ _ _ _ _) _) _ _ _)); (fail_if_success (with_reducible show wpAny _ _ (exec (Stmt.While _ _ _ _) _) _ _ _)); (fail_if_success (with_reducible show wpAny _ _ (pyIter (Value.ref _)) _ _ _)); (fail_if_success (with_reducible show wpAny _ _ (call (Value.ref _) _ _) _ _ _)); (fail_if_success (with_reducible show wpAny _ _ (call (Value.builtin "next") _ _) _ _ _)); (fail_if_success (with_reducible show wpAny _ _ (eval (Expr.ListComp _ _ _ _) _) _ _ _)); (fail_if_success (with_reducible show LCg.CompEnd _ _ _ _ _ _ _ _ _ _ _ _ _ _)); (fail_if_success (with_reducible show LoopStep3 _ _ _ _ _ _ _ _ _ _)); (fail_if_success (with_reducible show LoopStepV _ _ _ _ _ _ _ _ _ _)); skip))); (fail_if_success (with_reducible show wpAny _ _ (storeName _ (Str.ofString "three") _) _ _ _)); (fail_if_success (with_reducible show wpAny _ _ (storeName _ (Str.ofString "words") _) _ _ _)); (fail_if_success (with_reducible show wpAny _ _ (binaryOp Operator.Add (Value.str _ _) (Value.str _ _)) _ _ _)); (fail_if_success (with_reducible show wpAny _ _ (compareOp CmpOp.NotEq (Value.ref _) (Value.ref _)) _ _ _)); (fail_if_success (with_reducible show wpAny _ _ (compareOp CmpOp.NotEq (Value.bytes _ _) (Value.bytes _ _)) _ _ _)); (fail_if_success (with_reducible show wpAny _ _ (call (Value.builtin "list.append") _) _ _ _)); (fail_if_success (with_reducible show wpAny _ _ (compareOp CmpOp.NotEq (Value.bool _) (Value.bool _)) _ _ _)); (fail_if_success (with_reducible show wpAny _ _ (PySem.eval (Expr.BoolOp _ _ _) (envOfC _ _ _ _ _)) _ _ _)); (fail_if_success (with_reducible show ValEnd _ _ _ _ _ _ _ _)); (fail_if_success (with_reducible show wpAny _ _ (call (Value.builtin "max") _) _ _ _)); (fail_if_success (with_reducible show wpAny _ _ (call (Value.builtin "min") _) _ _ _)); (fail_if_success (with_reducible show wpAny _ _ (call (Value.builtin "list.index") _) _ _ _)); (fail_if_success (with_reducible show wpAny _ _ (subscriptTail _ _ (Value.ref _) (Value.int (List.getD _ _ _) _)) _ _ _)); (fail_if_success (with_reducible show wpAny _ _ (subscriptTail _ _ (Value.ref _) (Value.int (Nat.cast _) _)) _ _ _)); (fail_if_success (with_reducible show wpAny _ _ (subscriptTail _ _ (Value.str _ _) (Value.ref _)) _ _ _)); (fail_if_success (with_reducible show wpAny _ _ (subscriptTail (Expr.Name (Str.ofString "whole") _) _ _ _) _ _ _)); (first | (((with_reducible show wpAny _ _ (PySem.eval (Expr.Name _ _) (envOfC _ _ _ _ _)) _ _ _); name_kind "cell"; (rename News _ _ _ _ => N'); (refine ldCN N' (by rfl) (by k_mem) (by assumption) ?_); walk_say "m cell")) | ((first | ((with_reducible show wpAny _ _ (storeName _ _ _) _ _ _); dsimp only; walk1) | ((first | (k_unfold; (try dsimp only)) | (k_end; wrow_close) | walk1 | (dsimp only; walk1) | (leave1; walk_say "STEP leave1"; try dsimp only) | fail "no step"))))))))))
              rename Fr _ _ _ _ => F26
              rename News _ _ _ _ => N26
              have hIr : ∀ p ∈ own, p.1 ≠ rws := fun p hp e => by
                have h1 := hown p hp
                simp only [List.mem_cons, List.not_mem_nil, or_false] at h1
                rcases h1 with h1 | h1
                · exact hoff _ (.tail _ (.head _)) (by rw [← e, h1]; exact .head _)
                · have := br _ (by rw [hB]; exact .head _ : (od5, listOf #[Value.ref e0, .ref e1, .ref e2, .ref e3, .ref e4, .ref e5] 0) ∈ B)
                  exact absurd (h1.symm.trans e) (Nat.ne_of_lt this)
              have hIw : ∀ p ∈ own, p.1 ≠ whs := fun p hp e => by
                have h1 := hown p hp
                simp only [List.mem_cons, List.not_mem_nil, or_false] at h1
                rcases h1 with h1 | h1
                · exact hoff _ (.head _) (by rw [← e, h1]; exact .head _)
                · have := bw _ (by rw [hB]; exact .head _ : (od5, listOf #[Value.ref e0, .ref e1, .ref e2, .ref e3, .ref e4, .ref e5] 0) ∈ B)
                  exact absurd (h1.symm.trans e) (Nat.ne_of_lt this)
              have N27 := news_sub N26 (l' := [(D13, listOf (List.toArray [.int (foldedF 64 1 A * 64 + 39) t13]) k13), (whs, listOf (List.toArray wv) k1)] ++ (rws, listOf (List.toArray rv) k2) :: (own ++ B)) (fun p hp => by
                simp only [List.cons_append, List.nil_append, List.mem_cons] at hp
                rcases hp with rfl | rfl | rfl | hp
                · exact .head _
                · exact .tail _ (.head _)
                · exact .tail _ (.tail _ (.head _))
                · repeat (refine List.Mem.tail _ ?_)
                  rw [← hR]
                  rcases List.mem_append.mp hp with hp | hp
                  · exact List.mem_append_left _ hp
                  · exact List.mem_append_right _ (.tail _ (.tail _ hp)))
              have mr := N27 _ (.tail _ (.tail _ (.head _)))
              have hi6' : i < 6 := hi6
              have hzr : (List.toArray rv).size ≤ sizeLine := by
                rw [List.size_toArray, hrs.length, hrl, sizeLine_eq]
                omega
              refine append_at (hsz := hzr) mr.1 fun h14 hs14 ho14 => ?_
              have F28 := F26.change hs14 mr.2.1 mr.2.2
              have N28 := news_but1 N27 (fun b o hb e => hs14.extBut b o hb e) ho14 (fun p hp => by
                simp only [List.mem_cons, List.not_mem_nil, or_false] at hp
                rcases hp with rfl | rfl
                · exact d13r
                · exact Ne.symm (Nat.ne_of_lt lwh.1)) (fun p hp => by
                rcases List.mem_append.mp hp with hp | hp
                · exact hIr p hp
                · exact Nat.ne_of_lt (br p hp))
              rw [List.push_toArray] at N28
              simp only [List.cons_append, List.nil_append] at N28
              clear F26 N26 N27
              try dsimp only
              ((repeat' ((( ((( (fail_if_success (with_reducible show wpAny _ _ (exec (Stmt.For _ _ _ _ _) _) _ _ _)); (fail_if_success (with_reducible show wpAny _ _ (exec (Stmt.While _ _ _ _) _) _ _ _)); (fail_if_success (with_reducible show wpAny _ _ (pyIter (Value.ref _)) _ _ _)); (fail_if_success (with_reducible show wpAny _ _ (call (Value.ref _) _ _) _ _ _)); (fail_if_success (with_reducible show wpAny _ _ (call (Value.builtin "next") _ _) _ _ _)); (fail_if_success (with_reducible show wpAny _ _ (eval (Expr.ListComp _ _ _ _) _) _ _ _)); (fail_if_success (with_reducible show LCg.CompEnd _ _ _ _ _ _ _ _ _ _ _ _ _ _)); (fail_if_success (with_reducible show LoopStep3 _ _ _ _ _ _ _ _ _ _)); (fail_if_success (with_reducible show LoopStepV _ _ _ _ _ _ _ _ _ _)); skip))); (fail_if_success (with_reducible show wpAny _ _ (storeName _ (Str.ofString "three") _) _ _ _)); (fail_if_success (with_reducible show wpAny _ _ (storeName _ (Str.ofString "words") _) _ _ _)); (fail_if_success (with_reducible show wpAny _ _ (binaryOp Operator.Add (Value.str _ _) (Value.str _ _)) _ _ _)); (fail_if_success (with_reducible show wpAny _ _ (compareOp CmpOp.NotEq (Value.ref _) (Value.ref _)) _ _ _)); (fail_if_success (with_reducible show wpAny _ _ (compareOp CmpOp.NotEq (Value.bytes _ _) (Value.bytes _ _)) _ _ _)); (fail_if_success (with_reducible show wpAny _ _ (call (Value.builtin "list.append") _) _ _ _)); (fail_if_success (with_reducible show wpAny _ _ (compareOp CmpOp.NotEq (Value.bool _) (Value.bool _)) _ _ _)); (fail_if_success (with_reducible show wpAny _ _ (PySem.eval (Expr.BoolOp _ _ _) (envOfC _ _ _ _ _)) _ _ _)); (fail_if_success (with_reducible show ValEnd _ _ _ _ _ _ _ _)); (fail_if_success (with_reducible show wpAny _ _ (call (Value.builtin "max") _) _ _ _)); (fail_if_success (with_reducible show wpAny _ _ (call (Value.builtin "min") _) _ _ _)); (fail_if_success (with_reducible show wpAny _ _ (call (Value.builtin "list.index") _) _ _ _)); (fail_if_success (with_reducible show wpAny _ _ (subscriptTail _ _ (Value.ref _) (Value.int (List.getD _ _ _) _)) _ _ _)); (fail_if_success (with_reducible show wpAny _ _ (subscriptTail _ _ (Value.ref _) (Value.int (Nat.cast _) _)) _ _ _)); (fail_if_success (with_reducible show wpAny _ _ (subscriptTail _ _ (Value.str _ _) (Value.ref _)) _ _ _)); (fail_if_success (with_reducible show wpAny _ _ (subscriptTail (Expr.Name (Str.ofString "whole") _) _ _ _) _ _ _)); (first | (((with_reducible show wpAny _ _ (PySem.eval (Expr.Name _ _) (envOfC _ _ _ _ _)) _ _ _); name_kind "cell"; (rename News _ _ _ _ => N'); (refine ldCN N' (by rfl) (by k_mem) (by assumption) ?_); walk_say "m cell")) | ((first | ((with_reducible show wpAny _ _ (storeName _ _ _) _ _ _); dsimp only; walk1) | ((first | (k_unfold; (try dsimp only)) | (k_end; wrow_close) | walk1 | (dsimp only; walk1) | (leave1; walk_say "STEP leave1"; try dsimp only) | fail "no step"))))))))))
              rename News _ _ _ _ => N31
              refine sub_at (k := 0) (vs := [.int (foldedF 64 1 A * 64 + 39) t13]) (News.get N31 (a := D13) (o := listOf #[.int (foldedF 64 1 A * 64 + 39) t13] k13) (.head _)) rfl (by decide) ?_
              try dsimp only
              ((repeat' ((( ((( (fail_if_success (with_reducible show wpAny _ _ (exec (Stmt.For _ _ _ _ _) _) _ _ _)); (fail_if_success (with_reducible show wpAny _ _ (exec (Stmt.While _ _ _ _) _) _ _ _)); (fail_if_success (with_reducible show wpAny _ _ (pyIter (Value.ref _)) _ _ _)); (fail_if_success (with_reducible show wpAny _ _ (call (Value.ref _) _ _) _ _ _)); (fail_if_success (with_reducible show wpAny _ _ (call (Value.builtin "next") _ _) _ _ _)); (fail_if_success (with_reducible show wpAny _ _ (eval (Expr.ListComp _ _ _ _) _) _ _ _)); (fail_if_success (with_reducible show LCg.CompEnd _ _ _ _ _ _ _ _ _ _ _ _ _ _)); (fail_if_success (with_reducible show LoopStep3 _ _ _ _ _ _ _ _ _ _)); (fail_if_success (with_reducible show LoopStepV _ _ _ _ _ _ _ _ _ _)); skip))); (fail_if_success (with_reducible show wpAny _ _ (storeName _ (Str.ofString "three") _) _ _ _)); (fail_if_success (with_reducible show wpAny _ _ (storeName _ (Str.ofString "words") _) _ _ _)); (fail_if_success (with_reducible show wpAny _ _ (binaryOp Operator.Add (Value.str _ _) (Value.str _ _)) _ _ _)); (fail_if_success (with_reducible show wpAny _ _ (compareOp CmpOp.NotEq (Value.ref _) (Value.ref _)) _ _ _)); (fail_if_success (with_reducible show wpAny _ _ (compareOp CmpOp.NotEq (Value.bytes _ _) (Value.bytes _ _)) _ _ _)); (fail_if_success (with_reducible show wpAny _ _ (call (Value.builtin "list.append") _) _ _ _)); (fail_if_success (with_reducible show wpAny _ _ (compareOp CmpOp.NotEq (Value.bool _) (Value.bool _)) _ _ _)); (fail_if_success (with_reducible show wpAny _ _ (PySem.eval (Expr.BoolOp _ _ _) (envOfC _ _ _ _ _)) _ _ _)); (fail_if_success (with_reducible show ValEnd _ _ _ _ _ _ _ _)); (fail_if_success (with_reducible show wpAny _ _ (call (Value.builtin "max") _) _ _ _)); (fail_if_success (with_reducible show wpAny _ _ (call (Value.builtin "min") _) _ _ _)); (fail_if_success (with_reducible show wpAny _ _ (call (Value.builtin "list.index") _) _ _ _)); (fail_if_success (with_reducible show wpAny _ _ (subscriptTail _ _ (Value.ref _) (Value.int (List.getD _ _ _) _)) _ _ _)); (fail_if_success (with_reducible show wpAny _ _ (subscriptTail _ _ (Value.ref _) (Value.int (Nat.cast _) _)) _ _ _)); (fail_if_success (with_reducible show wpAny _ _ (subscriptTail _ _ (Value.str _ _) (Value.ref _)) _ _ _)); (fail_if_success (with_reducible show wpAny _ _ (subscriptTail (Expr.Name (Str.ofString "whole") _) _ _ _) _ _ _)); (first | (((with_reducible show wpAny _ _ (PySem.eval (Expr.Name _ _) (envOfC _ _ _ _ _)) _ _ _); name_kind "cell"; (rename News _ _ _ _ => N'); (refine ldCN N' (by rfl) (by k_mem) (by assumption) ?_); walk_say "m cell")) | ((first | ((with_reducible show wpAny _ _ (storeName _ _ _) _ _ _); dsimp only; walk1) | ((first | (k_unfold; (try dsimp only)) | (k_end; wrow_close) | walk1 | (dsimp only; walk1) | (leave1; walk_say "STEP leave1"; try dsimp only) | fail "no step"))))))))))
              rename Fr _ _ _ _ => F29
              rename News _ _ _ _ => N29
              replace N29 := news_sub N29 (l' := [(D13, listOf (List.toArray [.int (foldedF 64 1 A * 64 + 39) t13]) k13)] ++ (whs, listOf (List.toArray wv) k1) :: ((rws, listOf (List.toArray (rv ++ [.str (mkS (ltr A ++ [39])) t'])) (k2 + 1)) :: (own ++ B))) (fun p hp => by simpa using hp)
              have mw := N29 _ (.tail _ (.head _))
              have hzw : (List.toArray wv).size ≤ sizeLine := by
                rw [List.size_toArray, hwv.length, List.length_map, List.length_take, sizeLine_eq]
                omega
              refine append_at (hsz := hzw) mw.1 fun h15 hs15 ho15 => ?_
              have F30 := F29.change hs15 mw.2.1 mw.2.2
              have N30 := news_but1 N29 (fun b o hb e => hs15.extBut b o hb e) ho15 (fun p hp => by
                rw [List.mem_singleton.mp hp]
                exact d13w) (fun p hp => by
                rcases List.mem_cons.mp hp with rfl | hp
                · exact Nat.ne_of_lt lwh.1
                rcases List.mem_append.mp hp with hp | hp
                · exact hIw p hp
                · exact Nat.ne_of_lt (bw p hp))
              rw [List.push_toArray] at N30
              simp only [List.cons_append, List.nil_append] at N30
              clear F29 N29
              try dsimp only
              ((repeat' ((( ((( (fail_if_success (with_reducible show wpAny _ _ (exec (Stmt.For _ _ _ _ _) _) _ _ _)); (fail_if_success (with_reducible show wpAny _ _ (exec (Stmt.While _ _ _ _) _) _ _ _)); (fail_if_success (with_reducible show wpAny _ _ (pyIter (Value.ref _)) _ _ _)); (fail_if_success (with_reducible show wpAny _ _ (call (Value.ref _) _ _) _ _ _)); (fail_if_success (with_reducible show wpAny _ _ (call (Value.builtin "next") _ _) _ _ _)); (fail_if_success (with_reducible show wpAny _ _ (eval (Expr.ListComp _ _ _ _) _) _ _ _)); (fail_if_success (with_reducible show LCg.CompEnd _ _ _ _ _ _ _ _ _ _ _ _ _ _)); (fail_if_success (with_reducible show LoopStep3 _ _ _ _ _ _ _ _ _ _)); (fail_if_success (with_reducible show LoopStepV _ _ _ _ _ _ _ _ _ _)); skip))); (fail_if_success (with_reducible show wpAny _ _ (storeName _ (Str.ofString "three") _) _ _ _)); (fail_if_success (with_reducible show wpAny _ _ (storeName _ (Str.ofString "words") _) _ _ _)); (fail_if_success (with_reducible show wpAny _ _ (binaryOp Operator.Add (Value.str _ _) (Value.str _ _)) _ _ _)); (fail_if_success (with_reducible show wpAny _ _ (compareOp CmpOp.NotEq (Value.ref _) (Value.ref _)) _ _ _)); (fail_if_success (with_reducible show wpAny _ _ (compareOp CmpOp.NotEq (Value.bytes _ _) (Value.bytes _ _)) _ _ _)); (fail_if_success (with_reducible show wpAny _ _ (call (Value.builtin "list.append") _) _ _ _)); (fail_if_success (with_reducible show wpAny _ _ (compareOp CmpOp.NotEq (Value.bool _) (Value.bool _)) _ _ _)); (fail_if_success (with_reducible show wpAny _ _ (PySem.eval (Expr.BoolOp _ _ _) (envOfC _ _ _ _ _)) _ _ _)); (fail_if_success (with_reducible show ValEnd _ _ _ _ _ _ _ _)); (fail_if_success (with_reducible show wpAny _ _ (call (Value.builtin "max") _) _ _ _)); (fail_if_success (with_reducible show wpAny _ _ (call (Value.builtin "min") _) _ _ _)); (fail_if_success (with_reducible show wpAny _ _ (call (Value.builtin "list.index") _) _ _ _)); (fail_if_success (with_reducible show wpAny _ _ (subscriptTail _ _ (Value.ref _) (Value.int (List.getD _ _ _) _)) _ _ _)); (fail_if_success (with_reducible show wpAny _ _ (subscriptTail _ _ (Value.ref _) (Value.int (Nat.cast _) _)) _ _ _)); (fail_if_success (with_reducible show wpAny _ _ (subscriptTail _ _ (Value.str _ _) (Value.ref _)) _ _ _)); (fail_if_success (with_reducible show wpAny _ _ (subscriptTail (Expr.Name (Str.ofString "whole") _) _ _ _) _ _ _)); (first | (((with_reducible show wpAny _ _ (PySem.eval (Expr.Name _ _) (envOfC _ _ _ _ _)) _ _ _); name_kind "cell"; (rename News _ _ _ _ => N'); (refine ldCN N' (by rfl) (by k_mem) (by assumption) ?_); walk_say "m cell")) | ((first | ((with_reducible show wpAny _ _ (storeName _ _ _) _ _ _); dsimp only; walk1) | ((first | (k_unfold; (try dsimp only)) | (k_end; wrow_close) | walk1 | (dsimp only; walk1) | (leave1; walk_say "STEP leave1"; try dsimp only) | fail "no step"))))))))))
              rename Fr _ _ _ _ => F31
              rename News _ _ _ _ => N31
              refine LoopStepV.next (LoopStepU.intro (news₂ := (whs, listOf (List.toArray (wv ++ [.int (foldedF 64 1 A * 64 + 39) t13])) (k1 + 1)) :: (rws, listOf (List.toArray (rv ++ [.str (mkS (ltr A ++ [39])) t'])) (k2 + 1)) :: B) F31 (news_sub N31 fun p hp => ?_) (fun p hp => ?_)
                (hKt _ _ ⟨_, _, _, _, rs ++ [mkS (ltr A ++ [39])], rfl, rfl, rfl, rfl, strs_snoc hrs, by simp [hrl], rows_step hrl hP hAd aA1 hrw, wholes_step hP hAd hwv⟩))
              · rcases List.mem_append.mp hp with hp | hp
                · exact .tail _ (.tail _ (.tail _ (List.mem_append_left _ hp)))
                rcases List.mem_cons.mp hp with rfl | hp
                · exact .tail _ (.head _)
                rcases List.mem_cons.mp hp with rfl | hp
                · exact .tail _ (.tail _ (.head _))
                exact .tail _ (.tail _ (.tail _ (List.mem_append_right _ hp)))
              · rcases List.mem_cons.mp hp with rfl | hp
                · exact hoff (whs, listOf (List.toArray wv) k1) (.head _)
                rcases List.mem_cons.mp hp with rfl | hp
                · exact hoff (rws, listOf (List.toArray rv) k2) (.tail _ (.head _))
                exact hoff p (.tail _ (.tail _ hp))
            · rintro Kc mc Sc i3 zs3 news v I3 oI C oC D7 m₂ h7 tk7 E' hKc hSc hi3 hPv ⟨rfl, hzs3⟩ hC hx F N off ne
              obtain ⟨c, u, hc, rfl⟩ := hPv
              rw [← hLg3] at N
              have hcA := ltr_ok aA1 c (by simpa [mkS] using Array.mem_of_getElem? hc)
              try dsimp only
              ((repeat' ((( ((( (fail_if_success (with_reducible show wpAny _ _ (exec (Stmt.For _ _ _ _ _) _) _ _ _)); (fail_if_success (with_reducible show wpAny _ _ (exec (Stmt.While _ _ _ _) _) _ _ _)); (fail_if_success (with_reducible show wpAny _ _ (pyIter (Value.ref _)) _ _ _)); (fail_if_success (with_reducible show wpAny _ _ (call (Value.ref _) _ _) _ _ _)); (fail_if_success (with_reducible show wpAny _ _ (call (Value.builtin "next") _ _) _ _ _)); (fail_if_success (with_reducible show wpAny _ _ (eval (Expr.ListComp _ _ _ _) _) _ _ _)); (fail_if_success (with_reducible show LCg.CompEnd _ _ _ _ _ _ _ _ _ _ _ _ _ _)); (fail_if_success (with_reducible show LoopStep3 _ _ _ _ _ _ _ _ _ _)); (fail_if_success (with_reducible show LoopStepV _ _ _ _ _ _ _ _ _ _)); skip))); (fail_if_success (with_reducible show wpAny _ _ (storeName _ (Str.ofString "three") _) _ _ _)); (fail_if_success (with_reducible show wpAny _ _ (storeName _ (Str.ofString "words") _) _ _ _)); (fail_if_success (with_reducible show wpAny _ _ (binaryOp Operator.Add (Value.str _ _) (Value.str _ _)) _ _ _)); (fail_if_success (with_reducible show wpAny _ _ (compareOp CmpOp.NotEq (Value.ref _) (Value.ref _)) _ _ _)); (fail_if_success (with_reducible show wpAny _ _ (compareOp CmpOp.NotEq (Value.bytes _ _) (Value.bytes _ _)) _ _ _)); (fail_if_success (with_reducible show wpAny _ _ (call (Value.builtin "list.append") _) _ _ _)); (fail_if_success (with_reducible show wpAny _ _ (compareOp CmpOp.NotEq (Value.bool _) (Value.bool _)) _ _ _)); (fail_if_success (with_reducible show wpAny _ _ (PySem.eval (Expr.BoolOp _ _ _) (envOfC _ _ _ _ _)) _ _ _)); (fail_if_success (with_reducible show ValEnd _ _ _ _ _ _ _ _)); (fail_if_success (with_reducible show wpAny _ _ (call (Value.builtin "max") _) _ _ _)); (fail_if_success (with_reducible show wpAny _ _ (call (Value.builtin "min") _) _ _ _)); (fail_if_success (with_reducible show wpAny _ _ (call (Value.builtin "list.index") _) _ _ _)); (fail_if_success (with_reducible show wpAny _ _ (subscriptTail _ _ (Value.ref _) (Value.int (List.getD _ _ _) _)) _ _ _)); (fail_if_success (with_reducible show wpAny _ _ (subscriptTail _ _ (Value.ref _) (Value.int (Nat.cast _) _)) _ _ _)); (fail_if_success (with_reducible show wpAny _ _ (subscriptTail _ _ (Value.str _ _) (Value.ref _)) _ _ _)); (fail_if_success (with_reducible show wpAny _ _ (subscriptTail (Expr.Name (Str.ofString "whole") _) _ _ _) _ _ _)); (first | (((with_reducible show wpAny _ _ (PySem.eval (Expr.Name _ _) (envOfC _ _ _ _ _)) _ _ _); name_kind "cell"; (rename News _ _ _ _ => N'); (refine ldCN N' (by rfl) (by k_mem) (by assumption) ?_); walk_say "m cell")) | ((first | ((with_reducible show wpAny _ _ (storeName _ _ _) _ _ _); dsimp only; walk1) | ((first | (k_unfold; (try dsimp only)) | (k_end; wrow_close) | walk1 | (dsimp only; walk1) | (leave1; walk_say "STEP leave1"; try dsimp only) | fail "no step"))))))))))
              rw [hLg3] at N
              refine LCg.CompEnd.intro F N _ (fun _ h => h) off (hSc _ trivial) (hKc _ _ ⟨rfl, ?_⟩)
              rw [List.take_add_one, show (ltr A)[i3]? = some c by simpa [mkS] using hc, Option.toList_some, List.map_append]
              exact ints_snoc hzs3
          · rintro Kc mc Sc i3 zs2 news v I3 oI C oC D7 m₂ h7 tk7 E' hKc hSc hi3 hPv ⟨rfl, hzs2⟩ hC hx F N off ne
            obtain ⟨r, t, rfl, hr3, hr⟩ := hv3 _ _ hPv hi3
            obtain ⟨xr, ur, fr, hxr, hmr, hur⟩ := hA r hr3
            rw [← hLg2] at N
            dsimp only at *
            ((repeat' ((( ((( (fail_if_success (with_reducible show wpAny _ _ (exec (Stmt.For _ _ _ _ _) _) _ _ _)); (fail_if_success (with_reducible show wpAny _ _ (exec (Stmt.While _ _ _ _) _) _ _ _)); (fail_if_success (with_reducible show wpAny _ _ (pyIter (Value.ref _)) _ _ _)); (fail_if_success (with_reducible show wpAny _ _ (call (Value.ref _) _ _) _ _ _)); (fail_if_success (with_reducible show wpAny _ _ (call (Value.builtin "next") _ _) _ _ _)); (fail_if_success (with_reducible show wpAny _ _ (eval (Expr.ListComp _ _ _ _) _) _ _ _)); (fail_if_success (with_reducible show LCg.CompEnd _ _ _ _ _ _ _ _ _ _ _ _ _ _)); (fail_if_success (with_reducible show LoopStep3 _ _ _ _ _ _ _ _ _ _)); (fail_if_success (with_reducible show LoopStepV _ _ _ _ _ _ _ _ _ _)); skip))); (fail_if_success (with_reducible show wpAny _ _ (storeName _ (Str.ofString "three") _) _ _ _)); (fail_if_success (with_reducible show wpAny _ _ (storeName _ (Str.ofString "words") _) _ _ _)); (fail_if_success (with_reducible show wpAny _ _ (binaryOp Operator.Add (Value.str _ _) (Value.str _ _)) _ _ _)); (fail_if_success (with_reducible show wpAny _ _ (compareOp CmpOp.NotEq (Value.ref _) (Value.ref _)) _ _ _)); (fail_if_success (with_reducible show wpAny _ _ (compareOp CmpOp.NotEq (Value.bytes _ _) (Value.bytes _ _)) _ _ _)); (fail_if_success (with_reducible show wpAny _ _ (call (Value.builtin "list.append") _) _ _ _)); (fail_if_success (with_reducible show wpAny _ _ (compareOp CmpOp.NotEq (Value.bool _) (Value.bool _)) _ _ _)); (fail_if_success (with_reducible show wpAny _ _ (PySem.eval (Expr.BoolOp _ _ _) (envOfC _ _ _ _ _)) _ _ _)); (fail_if_success (with_reducible show ValEnd _ _ _ _ _ _ _ _)); (fail_if_success (with_reducible show wpAny _ _ (call (Value.builtin "max") _) _ _ _)); (fail_if_success (with_reducible show wpAny _ _ (call (Value.builtin "min") _) _ _ _)); (fail_if_success (with_reducible show wpAny _ _ (call (Value.builtin "list.index") _) _ _ _)); (fail_if_success (with_reducible show wpAny _ _ (subscriptTail _ _ (Value.ref _) (Value.int (List.getD _ _ _) _)) _ _ _)); (fail_if_success (with_reducible show wpAny _ _ (subscriptTail _ _ (Value.ref _) (Value.int (Nat.cast _) _)) _ _ _)); (fail_if_success (with_reducible show wpAny _ _ (subscriptTail _ _ (Value.str _ _) (Value.ref _)) _ _ _)); (fail_if_success (with_reducible show wpAny _ _ (subscriptTail (Expr.Name (Str.ofString "whole") _) _ _ _) _ _ _)); (first | (((with_reducible show wpAny _ _ (PySem.eval (Expr.Name _ _) (envOfC _ _ _ _ _)) _ _ _); name_kind "cell"; (rename News _ _ _ _ => N'); (refine ldCN N' (by rfl) (by k_mem) (by assumption) ?_); walk_say "m cell")) | ((first | ((with_reducible show wpAny _ _ (storeName _ _ _) _ _ _); dsimp only; walk1) | ((first | (k_unfold; (try dsimp only)) | (k_end; wrow_close) | walk1 | (dsimp only; walk1) | (leave1; walk_say "STEP leave1"; try dsimp only) | fail "no step"))))))))))
            refine sub_at (vs := [.ref a0, .ref a1, .ref a2]) (News.get N (a := D) (o := listOf #[.ref a0, .ref a1, .ref a2] c) (by k_mem)) (by simpa using hxr) (by omega) ?_
            try dsimp only
            ((repeat' ((( ((( (fail_if_success (with_reducible show wpAny _ _ (exec (Stmt.For _ _ _ _ _) _) _ _ _)); (fail_if_success (with_reducible show wpAny _ _ (exec (Stmt.While _ _ _ _) _) _ _ _)); (fail_if_success (with_reducible show wpAny _ _ (pyIter (Value.ref _)) _ _ _)); (fail_if_success (with_reducible show wpAny _ _ (call (Value.ref _) _ _) _ _ _)); (fail_if_success (with_reducible show wpAny _ _ (call (Value.builtin "next") _ _) _ _ _)); (fail_if_success (with_reducible show wpAny _ _ (eval (Expr.ListComp _ _ _ _) _) _ _ _)); (fail_if_success (with_reducible show LCg.CompEnd _ _ _ _ _ _ _ _ _ _ _ _ _ _)); (fail_if_success (with_reducible show LoopStep3 _ _ _ _ _ _ _ _ _ _)); (fail_if_success (with_reducible show LoopStepV _ _ _ _ _ _ _ _ _ _)); skip))); (fail_if_success (with_reducible show wpAny _ _ (storeName _ (Str.ofString "three") _) _ _ _)); (fail_if_success (with_reducible show wpAny _ _ (storeName _ (Str.ofString "words") _) _ _ _)); (fail_if_success (with_reducible show wpAny _ _ (binaryOp Operator.Add (Value.str _ _) (Value.str _ _)) _ _ _)); (fail_if_success (with_reducible show wpAny _ _ (compareOp CmpOp.NotEq (Value.ref _) (Value.ref _)) _ _ _)); (fail_if_success (with_reducible show wpAny _ _ (compareOp CmpOp.NotEq (Value.bytes _ _) (Value.bytes _ _)) _ _ _)); (fail_if_success (with_reducible show wpAny _ _ (call (Value.builtin "list.append") _) _ _ _)); (fail_if_success (with_reducible show wpAny _ _ (compareOp CmpOp.NotEq (Value.bool _) (Value.bool _)) _ _ _)); (fail_if_success (with_reducible show wpAny _ _ (PySem.eval (Expr.BoolOp _ _ _) (envOfC _ _ _ _ _)) _ _ _)); (fail_if_success (with_reducible show ValEnd _ _ _ _ _ _ _ _)); (fail_if_success (with_reducible show wpAny _ _ (call (Value.builtin "max") _) _ _ _)); (fail_if_success (with_reducible show wpAny _ _ (call (Value.builtin "min") _) _ _ _)); (fail_if_success (with_reducible show wpAny _ _ (call (Value.builtin "list.index") _) _ _ _)); (fail_if_success (with_reducible show wpAny _ _ (subscriptTail _ _ (Value.ref _) (Value.int (List.getD _ _ _) _)) _ _ _)); (fail_if_success (with_reducible show wpAny _ _ (subscriptTail _ _ (Value.ref _) (Value.int (Nat.cast _) _)) _ _ _)); (fail_if_success (with_reducible show wpAny _ _ (subscriptTail _ _ (Value.str _ _) (Value.ref _)) _ _ _)); (fail_if_success (with_reducible show wpAny _ _ (subscriptTail (Expr.Name (Str.ofString "whole") _) _ _ _) _ _ _)); (first | (((with_reducible show wpAny _ _ (PySem.eval (Expr.Name _ _) (envOfC _ _ _ _ _)) _ _ _); name_kind "cell"; (rename News _ _ _ _ => N'); (refine ldCN N' (by rfl) (by k_mem) (by assumption) ?_); walk_say "m cell")) | ((first | ((with_reducible show wpAny _ _ (storeName _ _ _) _ _ _); dsimp only; walk1) | ((first | (k_unfold; (try dsimp only)) | (k_end; wrow_close) | walk1 | (dsimp only; walk1) | (leave1; walk_say "STEP leave1"; try dsimp only) | fail "no step"))))))))))
            rename Fr _ _ _ _ => F13
            rename News _ _ _ _ => N13
            refine folded_call (KX.keeps F13.keep) (T.keeps F13.keep) (by show 1 + claimMargin + 1 + 3 < recursionLimit; decide) rfl (News.isList N13 (by (repeat (refine List.Mem.tail _ ?_)); exact hBR _ hmr)) hur (by decide) fun t5 h5 tk5 hk5 => ?_
            have F14 := F13.after hk5
            have N14 := N13.grown hk5
            clear F13 N13
            try dsimp only
            ((repeat' ((( ((( (fail_if_success (with_reducible show wpAny _ _ (exec (Stmt.For _ _ _ _ _) _) _ _ _)); (fail_if_success (with_reducible show wpAny _ _ (exec (Stmt.While _ _ _ _) _) _ _ _)); (fail_if_success (with_reducible show wpAny _ _ (pyIter (Value.ref _)) _ _ _)); (fail_if_success (with_reducible show wpAny _ _ (call (Value.ref _) _ _) _ _ _)); (fail_if_success (with_reducible show wpAny _ _ (call (Value.builtin "next") _ _) _ _ _)); (fail_if_success (with_reducible show wpAny _ _ (eval (Expr.ListComp _ _ _ _) _) _ _ _)); (fail_if_success (with_reducible show LCg.CompEnd _ _ _ _ _ _ _ _ _ _ _ _ _ _)); (fail_if_success (with_reducible show LoopStep3 _ _ _ _ _ _ _ _ _ _)); (fail_if_success (with_reducible show LoopStepV _ _ _ _ _ _ _ _ _ _)); skip))); (fail_if_success (with_reducible show wpAny _ _ (storeName _ (Str.ofString "three") _) _ _ _)); (fail_if_success (with_reducible show wpAny _ _ (storeName _ (Str.ofString "words") _) _ _ _)); (fail_if_success (with_reducible show wpAny _ _ (binaryOp Operator.Add (Value.str _ _) (Value.str _ _)) _ _ _)); (fail_if_success (with_reducible show wpAny _ _ (compareOp CmpOp.NotEq (Value.ref _) (Value.ref _)) _ _ _)); (fail_if_success (with_reducible show wpAny _ _ (compareOp CmpOp.NotEq (Value.bytes _ _) (Value.bytes _ _)) _ _ _)); (fail_if_success (with_reducible show wpAny _ _ (call (Value.builtin "list.append") _) _ _ _)); (fail_if_success (with_reducible show wpAny _ _ (compareOp CmpOp.NotEq (Value.bool _) (Value.bool _)) _ _ _)); (fail_if_success (with_reducible show wpAny _ _ (PySem.eval (Expr.BoolOp _ _ _) (envOfC _ _ _ _ _)) _ _ _)); (fail_if_success (with_reducible show ValEnd _ _ _ _ _ _ _ _)); (fail_if_success (with_reducible show wpAny _ _ (call (Value.builtin "max") _) _ _ _)); (fail_if_success (with_reducible show wpAny _ _ (call (Value.builtin "min") _) _ _ _)); (fail_if_success (with_reducible show wpAny _ _ (call (Value.builtin "list.index") _) _ _ _)); (fail_if_success (with_reducible show wpAny _ _ (subscriptTail _ _ (Value.ref _) (Value.int (List.getD _ _ _) _)) _ _ _)); (fail_if_success (with_reducible show wpAny _ _ (subscriptTail _ _ (Value.ref _) (Value.int (Nat.cast _) _)) _ _ _)); (fail_if_success (with_reducible show wpAny _ _ (subscriptTail _ _ (Value.str _ _) (Value.ref _)) _ _ _)); (fail_if_success (with_reducible show wpAny _ _ (subscriptTail (Expr.Name (Str.ofString "whole") _) _ _ _) _ _ _)); (first | (((with_reducible show wpAny _ _ (PySem.eval (Expr.Name _ _) (envOfC _ _ _ _ _)) _ _ _); name_kind "cell"; (rename News _ _ _ _ => N'); (refine ldCN N' (by rfl) (by k_mem) (by assumption) ?_); walk_say "m cell")) | ((first | ((with_reducible show wpAny _ _ (storeName _ _ _) _ _ _); dsimp only; walk1) | ((first | (k_unfold; (try dsimp only)) | (k_end; wrow_close) | walk1 | (dsimp only; walk1) | (leave1; walk_say "STEP leave1"; try dsimp only) | fail "no step"))))))))))
            rw [hLg2] at N14
            refine LCg.CompEnd.intro F14 N14 _ (fun _ h => h) off (hSc _ hSrc2) (hKc _ _ ⟨rfl, ?_⟩)
            rw [List.take_add_one, hr, Option.toList_some, List.map_append]
            exact ints_snoc hzs2
        · rintro Kc mc Sc i3 zs news v I3 oI C oC D3 m₂ h4 tk4 E' hKc hSc hi3 hPv ⟨rfl, hzs⟩ hC hx F N off ne
          obtain ⟨r, t, rfl, hr3, hr⟩ := hv3 _ _ hPv hi3
          obtain ⟨y, hy⟩ := hY r hr3
          rw [← hLg] at N
          dsimp only at *
          ((repeat' ((( ((( (fail_if_success (with_reducible show wpAny _ _ (exec (Stmt.For _ _ _ _ _) _) _ _ _)); (fail_if_success (with_reducible show wpAny _ _ (exec (Stmt.While _ _ _ _) _) _ _ _)); (fail_if_success (with_reducible show wpAny _ _ (pyIter (Value.ref _)) _ _ _)); (fail_if_success (with_reducible show wpAny _ _ (call (Value.ref _) _ _) _ _ _)); (fail_if_success (with_reducible show wpAny _ _ (call (Value.builtin "next") _ _) _ _ _)); (fail_if_success (with_reducible show wpAny _ _ (eval (Expr.ListComp _ _ _ _) _) _ _ _)); (fail_if_success (with_reducible show LCg.CompEnd _ _ _ _ _ _ _ _ _ _ _ _ _ _)); (fail_if_success (with_reducible show LoopStep3 _ _ _ _ _ _ _ _ _ _)); (fail_if_success (with_reducible show LoopStepV _ _ _ _ _ _ _ _ _ _)); skip))); (fail_if_success (with_reducible show wpAny _ _ (storeName _ (Str.ofString "three") _) _ _ _)); (fail_if_success (with_reducible show wpAny _ _ (storeName _ (Str.ofString "words") _) _ _ _)); (fail_if_success (with_reducible show wpAny _ _ (binaryOp Operator.Add (Value.str _ _) (Value.str _ _)) _ _ _)); (fail_if_success (with_reducible show wpAny _ _ (compareOp CmpOp.NotEq (Value.ref _) (Value.ref _)) _ _ _)); (fail_if_success (with_reducible show wpAny _ _ (compareOp CmpOp.NotEq (Value.bytes _ _) (Value.bytes _ _)) _ _ _)); (fail_if_success (with_reducible show wpAny _ _ (call (Value.builtin "list.append") _) _ _ _)); (fail_if_success (with_reducible show wpAny _ _ (compareOp CmpOp.NotEq (Value.bool _) (Value.bool _)) _ _ _)); (fail_if_success (with_reducible show wpAny _ _ (PySem.eval (Expr.BoolOp _ _ _) (envOfC _ _ _ _ _)) _ _ _)); (fail_if_success (with_reducible show ValEnd _ _ _ _ _ _ _ _)); (fail_if_success (with_reducible show wpAny _ _ (call (Value.builtin "max") _) _ _ _)); (fail_if_success (with_reducible show wpAny _ _ (call (Value.builtin "min") _) _ _ _)); (fail_if_success (with_reducible show wpAny _ _ (call (Value.builtin "list.index") _) _ _ _)); (fail_if_success (with_reducible show wpAny _ _ (subscriptTail _ _ (Value.ref _) (Value.int (List.getD _ _ _) _)) _ _ _)); (fail_if_success (with_reducible show wpAny _ _ (subscriptTail _ _ (Value.ref _) (Value.int (Nat.cast _) _)) _ _ _)); (fail_if_success (with_reducible show wpAny _ _ (subscriptTail _ _ (Value.str _ _) (Value.ref _)) _ _ _)); (fail_if_success (with_reducible show wpAny _ _ (subscriptTail (Expr.Name (Str.ofString "whole") _) _ _ _) _ _ _)); (first | (((with_reducible show wpAny _ _ (PySem.eval (Expr.Name _ _) (envOfC _ _ _ _ _)) _ _ _); name_kind "cell"; (rename News _ _ _ _ => N'); (refine ldCN N' (by rfl) (by k_mem) (by assumption) ?_); walk_say "m cell")) | ((first | ((with_reducible show wpAny _ _ (storeName _ _ _) _ _ _); dsimp only; walk1) | ((first | (k_unfold; (try dsimp only)) | (k_end; wrow_close) | walk1 | (dsimp only; walk1) | (leave1; walk_say "STEP leave1"; try dsimp only) | fail "no step"))))))))))
          refine sub_at (News.get N (a := D2) (o := LCg.lst ys) (by k_mem)) hy (by omega) ?_
          try dsimp only
          ((repeat' ((( ((( (fail_if_success (with_reducible show wpAny _ _ (exec (Stmt.For _ _ _ _ _) _) _ _ _)); (fail_if_success (with_reducible show wpAny _ _ (exec (Stmt.While _ _ _ _) _) _ _ _)); (fail_if_success (with_reducible show wpAny _ _ (pyIter (Value.ref _)) _ _ _)); (fail_if_success (with_reducible show wpAny _ _ (call (Value.ref _) _ _) _ _ _)); (fail_if_success (with_reducible show wpAny _ _ (call (Value.builtin "next") _ _) _ _ _)); (fail_if_success (with_reducible show wpAny _ _ (eval (Expr.ListComp _ _ _ _) _) _ _ _)); (fail_if_success (with_reducible show LCg.CompEnd _ _ _ _ _ _ _ _ _ _ _ _ _ _)); (fail_if_success (with_reducible show LoopStep3 _ _ _ _ _ _ _ _ _ _)); (fail_if_success (with_reducible show LoopStepV _ _ _ _ _ _ _ _ _ _)); skip))); (fail_if_success (with_reducible show wpAny _ _ (storeName _ (Str.ofString "three") _) _ _ _)); (fail_if_success (with_reducible show wpAny _ _ (storeName _ (Str.ofString "words") _) _ _ _)); (fail_if_success (with_reducible show wpAny _ _ (binaryOp Operator.Add (Value.str _ _) (Value.str _ _)) _ _ _)); (fail_if_success (with_reducible show wpAny _ _ (compareOp CmpOp.NotEq (Value.ref _) (Value.ref _)) _ _ _)); (fail_if_success (with_reducible show wpAny _ _ (compareOp CmpOp.NotEq (Value.bytes _ _) (Value.bytes _ _)) _ _ _)); (fail_if_success (with_reducible show wpAny _ _ (call (Value.builtin "list.append") _) _ _ _)); (fail_if_success (with_reducible show wpAny _ _ (compareOp CmpOp.NotEq (Value.bool _) (Value.bool _)) _ _ _)); (fail_if_success (with_reducible show wpAny _ _ (PySem.eval (Expr.BoolOp _ _ _) (envOfC _ _ _ _ _)) _ _ _)); (fail_if_success (with_reducible show ValEnd _ _ _ _ _ _ _ _)); (fail_if_success (with_reducible show wpAny _ _ (call (Value.builtin "max") _) _ _ _)); (fail_if_success (with_reducible show wpAny _ _ (call (Value.builtin "min") _) _ _ _)); (fail_if_success (with_reducible show wpAny _ _ (call (Value.builtin "list.index") _) _ _ _)); (fail_if_success (with_reducible show wpAny _ _ (subscriptTail _ _ (Value.ref _) (Value.int (List.getD _ _ _) _)) _ _ _)); (fail_if_success (with_reducible show wpAny _ _ (subscriptTail _ _ (Value.ref _) (Value.int (Nat.cast _) _)) _ _ _)); (fail_if_success (with_reducible show wpAny _ _ (subscriptTail _ _ (Value.str _ _) (Value.ref _)) _ _ _)); (fail_if_success (with_reducible show wpAny _ _ (subscriptTail (Expr.Name (Str.ofString "whole") _) _ _ _) _ _ _)); (first | (((with_reducible show wpAny _ _ (PySem.eval (Expr.Name _ _) (envOfC _ _ _ _ _)) _ _ _); name_kind "cell"; (rename News _ _ _ _ => N'); (refine ldCN N' (by rfl) (by k_mem) (by assumption) ?_); walk_say "m cell")) | ((first | ((with_reducible show wpAny _ _ (storeName _ _ _) _ _ _); dsimp only; walk1) | ((first | (k_unfold; (try dsimp only)) | (k_end; wrow_close) | walk1 | (dsimp only; walk1) | (leave1; walk_say "STEP leave1"; try dsimp only) | fail "no step"))))))))))
          rw [hLg] at N
          refine LCg.CompEnd.intro F N _ (fun _ h => h) off (hSc _ hSrc) (hKc _ _ ⟨rfl, ?_⟩)
          rw [List.take_add_one, hr, Option.toList_some, List.map_append]
          exact strs_snoc hzs
      · intro m₁ news₁ h tk hj F N
        refine bb fun G hG => ?_
        obtain ⟨wv, k1, rv, k2, rs, rfl, j1, j2, j3, hrs, hrl, hrw, hwv⟩ := hj
        refine hG ?_
        clear hG G
        replace F : Fr s₁.heap s₁.heap.objs.size h _ := F
        replace F := know3 (y1 := Str.ofString "rows") (y2 := Str.ofString "wholes") (y3 := Str.ofString "orders") F j1 j2 j3
        replace hrl : rs.length = 6 := hrl
        replace hwv : IntsAre wv (P6.map (wholeK g)) := hwv
        clear mO F7 N7
        try dsimp only
        ((repeat' ((( ((( (fail_if_success (with_reducible show wpAny _ _ (exec (Stmt.For _ _ _ _ _) _) _ _ _)); (fail_if_success (with_reducible show wpAny _ _ (exec (Stmt.While _ _ _ _) _) _ _ _)); (fail_if_success (with_reducible show wpAny _ _ (pyIter (Value.ref _)) _ _ _)); (fail_if_success (with_reducible show wpAny _ _ (call (Value.ref _) _ _) _ _ _)); (fail_if_success (with_reducible show wpAny _ _ (call (Value.builtin "next") _ _) _ _ _)); (fail_if_success (with_reducible show wpAny _ _ (eval (Expr.ListComp _ _ _ _) _) _ _ _)); (fail_if_success (with_reducible show LCg.CompEnd _ _ _ _ _ _ _ _ _ _ _ _ _ _)); (fail_if_success (with_reducible show LoopStep3 _ _ _ _ _ _ _ _ _ _)); (fail_if_success (with_reducible show LoopStepV _ _ _ _ _ _ _ _ _ _)); skip))); (fail_if_success (with_reducible show wpAny _ _ (storeName _ (Str.ofString "three") _) _ _ _)); (fail_if_success (with_reducible show wpAny _ _ (storeName _ (Str.ofString "words") _) _ _ _)); (fail_if_success (with_reducible show wpAny _ _ (binaryOp Operator.Add (Value.str _ _) (Value.str _ _)) _ _ _)); (fail_if_success (with_reducible show wpAny _ _ (compareOp CmpOp.NotEq (Value.ref _) (Value.ref _)) _ _ _)); (fail_if_success (with_reducible show wpAny _ _ (compareOp CmpOp.NotEq (Value.bytes _ _) (Value.bytes _ _)) _ _ _)); (fail_if_success (with_reducible show wpAny _ _ (call (Value.builtin "list.append") _) _ _ _)); (fail_if_success (with_reducible show wpAny _ _ (compareOp CmpOp.NotEq (Value.bool _) (Value.bool _)) _ _ _)); (fail_if_success (with_reducible show wpAny _ _ (PySem.eval (Expr.BoolOp _ _ _) (envOfC _ _ _ _ _)) _ _ _)); (fail_if_success (with_reducible show ValEnd _ _ _ _ _ _ _ _)); (fail_if_success (with_reducible show wpAny _ _ (call (Value.builtin "max") _) _ _ _)); (fail_if_success (with_reducible show wpAny _ _ (call (Value.builtin "min") _) _ _ _)); (fail_if_success (with_reducible show wpAny _ _ (call (Value.builtin "list.index") _) _ _ _)); (fail_if_success (with_reducible show wpAny _ _ (subscriptTail _ _ (Value.ref _) (Value.int (List.getD _ _ _) _)) _ _ _)); (fail_if_success (with_reducible show wpAny _ _ (subscriptTail _ _ (Value.ref _) (Value.int (Nat.cast _) _)) _ _ _)); (fail_if_success (with_reducible show wpAny _ _ (subscriptTail _ _ (Value.str _ _) (Value.ref _)) _ _ _)); (fail_if_success (with_reducible show wpAny _ _ (subscriptTail (Expr.Name (Str.ofString "whole") _) _ _ _) _ _ _)); (first | (((with_reducible show wpAny _ _ (PySem.eval (Expr.Name _ _) (envOfC _ _ _ _ _)) _ _ _); name_kind "cell"; (rename News _ _ _ _ => N'); (refine ldCN N' (by rfl) (by k_mem) (by assumption) ?_); walk_say "m cell")) | ((first | ((with_reducible show wpAny _ _ (storeName _ _ _) _ _ _); dsimp only; walk1) | ((first | (k_unfold; (try dsimp only)) | (k_end; wrow_close) | walk1 | (dsimp only; walk1) | (leave1; walk_say "STEP leave1"; try dsimp only) | fail "no step"))))))))))
        refine For_invV s₁.heap (by rfl) (by rfl) ?_
        ((repeat' ((( ((( (fail_if_success (with_reducible show wpAny _ _ (exec (Stmt.For _ _ _ _ _) _) _ _ _)); (fail_if_success (with_reducible show wpAny _ _ (exec (Stmt.While _ _ _ _) _) _ _ _)); (fail_if_success (with_reducible show wpAny _ _ (pyIter (Value.ref _)) _ _ _)); (fail_if_success (with_reducible show wpAny _ _ (call (Value.ref _) _ _) _ _ _)); (fail_if_success (with_reducible show wpAny _ _ (call (Value.builtin "next") _ _) _ _ _)); (fail_if_success (with_reducible show wpAny _ _ (eval (Expr.ListComp _ _ _ _) _) _ _ _)); (fail_if_success (with_reducible show LCg.CompEnd _ _ _ _ _ _ _ _ _ _ _ _ _ _)); (fail_if_success (with_reducible show LoopStep3 _ _ _ _ _ _ _ _ _ _)); (fail_if_success (with_reducible show LoopStepV _ _ _ _ _ _ _ _ _ _)); skip))); (fail_if_success (with_reducible show wpAny _ _ (storeName _ (Str.ofString "three") _) _ _ _)); (fail_if_success (with_reducible show wpAny _ _ (storeName _ (Str.ofString "words") _) _ _ _)); (fail_if_success (with_reducible show wpAny _ _ (binaryOp Operator.Add (Value.str _ _) (Value.str _ _)) _ _ _)); (fail_if_success (with_reducible show wpAny _ _ (compareOp CmpOp.NotEq (Value.ref _) (Value.ref _)) _ _ _)); (fail_if_success (with_reducible show wpAny _ _ (compareOp CmpOp.NotEq (Value.bytes _ _) (Value.bytes _ _)) _ _ _)); (fail_if_success (with_reducible show wpAny _ _ (call (Value.builtin "list.append") _) _ _ _)); (fail_if_success (with_reducible show wpAny _ _ (compareOp CmpOp.NotEq (Value.bool _) (Value.bool _)) _ _ _)); (fail_if_success (with_reducible show wpAny _ _ (PySem.eval (Expr.BoolOp _ _ _) (envOfC _ _ _ _ _)) _ _ _)); (fail_if_success (with_reducible show ValEnd _ _ _ _ _ _ _ _)); (fail_if_success (with_reducible show wpAny _ _ (call (Value.builtin "max") _) _ _ _)); (fail_if_success (with_reducible show wpAny _ _ (call (Value.builtin "min") _) _ _ _)); (fail_if_success (with_reducible show wpAny _ _ (call (Value.builtin "list.index") _) _ _ _)); (fail_if_success (with_reducible show wpAny _ _ (subscriptTail _ _ (Value.ref _) (Value.int (List.getD _ _ _) _)) _ _ _)); (fail_if_success (with_reducible show wpAny _ _ (subscriptTail _ _ (Value.ref _) (Value.int (Nat.cast _) _)) _ _ _)); (fail_if_success (with_reducible show wpAny _ _ (subscriptTail _ _ (Value.str _ _) (Value.ref _)) _ _ _)); (fail_if_success (with_reducible show wpAny _ _ (subscriptTail (Expr.Name (Str.ofString "whole") _) _ _ _) _ _ _)); (first | (((with_reducible show wpAny _ _ (PySem.eval (Expr.Name _ _) (envOfC _ _ _ _ _)) _ _ _); name_kind "cell"; (rename News _ _ _ _ => N'); (refine ldCN N' (by rfl) (by k_mem) (by assumption) ?_); walk_say "m cell")) | ((first | ((with_reducible show wpAny _ _ (storeName _ _ _) _ _ _); dsimp only; walk1) | ((first | (k_unfold; (try dsimp only)) | (k_end; wrow_close) | walk1 | (dsimp only; walk1) | (leave1; walk_say "STEP leave1"; try dsimp only) | fail "no step"))))))))))
        rename Fr _ _ _ _ => F8
        rename News _ _ _ _ => N8
        rename IsRange _ _ _ _ _ _ _ _ => R8
        refine iter_rangeV (n := 6) (fun i m nx => nx = (whs, listOf (List.toArray wv) k1) :: (rws, listOf (List.toArray rv) k2) :: B ∧ m (Str.ofString "rows") = some (.ref rws) ∧ m (Str.ofString "wholes") = some (.ref whs) ∧ m (Str.ofString "orders") = some (.ref od5)) rfl R8 (by decide) F8 (news_sub N8 (l' := (whs, listOf (List.toArray wv) k1) :: (rws, listOf (List.toArray rv) k2) :: B) (fun p hp => ?_)) ⟨rfl, rfl, rfl, rfl⟩ ?_ ?_
        · exact hp
        · intro i ti m₂ news₂ h5 tk5 own I Kt Rt St hKt hRt hi6 hj hoff hown F N
          refine bb fun G hG => ?_
          obtain ⟨rfl, j1, j2, j3⟩ := hj
          obtain ⟨q0, q1, q2, iq, il, hP, ho0, ho1, ho2, hiq, hil, hPq, hPl, hLq, hLl, hNq, hNl⟩ := Mine.p6 i hi6
          obtain ⟨ea, s0, s1, s2, hea, hem⟩ := hE i q0 q1 q2 hi6 hP
          obtain ⟨x0, u0, f0, hx0, hm0, hu0⟩ := hA q0 ho0
          obtain ⟨x1, u1, f1, hx1, hm1, hu1⟩ := hA q1 ho1
          obtain ⟨x2, u2, f2, hx2, hm2, hu2⟩ := hA q2 ho2
          obtain ⟨wt0, hw0⟩ := wholes_get hwv hP
          obtain ⟨wt1, hw1⟩ := wholes_get hwv hPq
          obtain ⟨wt2, hw2⟩ := wholes_get hwv hPl
          obtain ⟨rt0, hr0⟩ := rows_get g1 hrs hrl hrw hi6 hP
          obtain ⟨rt1, hr1⟩ := rows_get g1 hrs hrl hrw hiq hPq
          refine hG ?_
          clear hG G
          have b0 := g2 q0
          have b1 := g2 q1
          have b2 := g2 q2
          have hb : ∀ p ∈ B, p ∈ own ++ (whs, listOf (List.toArray wv) k1) :: (rws, listOf (List.toArray rv) k2) :: B := fun p hp => List.mem_append_right _ (.tail _ (.tail _ hp))
          have N : News s₁.heap s₁.heap.objs.size h5 ((whs, listOf (List.toArray wv) k1) :: (rws, listOf (List.toArray rv) k2) :: (ea, listOf #[.int (q0 : Int) s0, .int (q1 : Int) s1, .int (q2 : Int) s2] 0) :: (od5, listOf #[Value.ref e0, .ref e1, .ref e2, .ref e3, .ref e4, .ref e5] 0) ::
              (D, listOf #[Value.ref a0, .ref a1, .ref a2] c) :: (x0, listOf (List.toArray u0) f0) :: (x1, listOf (List.toArray u1) f1) :: (x2, listOf (List.toArray u2) f2) :: (s₁.heap.objs.size + 1, ot) :: (own ++ (whs, listOf (List.toArray wv) k1) :: (rws, listOf (List.toArray rv) k2) :: B)) := by
            refine news_sub N fun p hp => ?_
            rcases List.mem_cons.mp hp with rfl | hp
            · exact List.mem_append_right _ (.head _)
            rcases List.mem_cons.mp hp with rfl | hp
            · exact List.mem_append_right _ (.tail _ (.head _))
            rcases List.mem_cons.mp hp with rfl | hp
            · exact hb _ hem
            rcases List.mem_cons.mp hp with rfl | hp
            · exact hb _ hOd
            rcases List.mem_cons.mp hp with rfl | hp
            · exact hb _ (hBs _ (.tail _ (.head _)))
            rcases List.mem_cons.mp hp with rfl | hp
            · exact hb _ hm0
            rcases List.mem_cons.mp hp with rfl | hp
            · exact hb _ hm1
            rcases List.mem_cons.mp hp with rfl | hp
            · exact hb _ hm2
            rcases List.mem_cons.mp hp with rfl | hp
            · exact hb _ (hBs _ (.tail _ (.tail _ (.tail _ (.head _)))))
            exact hp
          replace F : Fr s₁.heap s₁.heap.objs.size h5 _ := F
          replace F := know3 (y1 := Str.ofString "rows") (y2 := Str.ofString "wholes") (y3 := Str.ofString "orders") F (off j1) (off j2) (off j3)
          generalize hR : own ++ (whs, listOf (List.toArray wv) k1) :: (rws, listOf (List.toArray rv) k2) :: B = R at N hb
          clear F8 N8 R8
          try dsimp only
          ((repeat' ((( ((( (fail_if_success (with_reducible show wpAny _ _ (exec (Stmt.For _ _ _ _ _) _) _ _ _)); (fail_if_success (with_reducible show wpAny _ _ (exec (Stmt.While _ _ _ _) _) _ _ _)); (fail_if_success (with_reducible show wpAny _ _ (pyIter (Value.ref _)) _ _ _)); (fail_if_success (with_reducible show wpAny _ _ (call (Value.ref _) _ _) _ _ _)); (fail_if_success (with_reducible show wpAny _ _ (call (Value.builtin "next") _ _) _ _ _)); (fail_if_success (with_reducible show wpAny _ _ (eval (Expr.ListComp _ _ _ _) _) _ _ _)); (fail_if_success (with_reducible show LCg.CompEnd _ _ _ _ _ _ _ _ _ _ _ _ _ _)); (fail_if_success (with_reducible show LoopStep3 _ _ _ _ _ _ _ _ _ _)); (fail_if_success (with_reducible show LoopStepV _ _ _ _ _ _ _ _ _ _)); skip))); (fail_if_success (with_reducible show wpAny _ _ (storeName _ (Str.ofString "three") _) _ _ _)); (fail_if_success (with_reducible show wpAny _ _ (storeName _ (Str.ofString "words") _) _ _ _)); (fail_if_success (with_reducible show wpAny _ _ (binaryOp Operator.Add (Value.str _ _) (Value.str _ _)) _ _ _)); (fail_if_success (with_reducible show wpAny _ _ (compareOp CmpOp.NotEq (Value.ref _) (Value.ref _)) _ _ _)); (fail_if_success (with_reducible show wpAny _ _ (compareOp CmpOp.NotEq (Value.bytes _ _) (Value.bytes _ _)) _ _ _)); (fail_if_success (with_reducible show wpAny _ _ (call (Value.builtin "list.append") _) _ _ _)); (fail_if_success (with_reducible show wpAny _ _ (compareOp CmpOp.NotEq (Value.bool _) (Value.bool _)) _ _ _)); (fail_if_success (with_reducible show wpAny _ _ (PySem.eval (Expr.BoolOp _ _ _) (envOfC _ _ _ _ _)) _ _ _)); (fail_if_success (with_reducible show ValEnd _ _ _ _ _ _ _ _)); (fail_if_success (with_reducible show wpAny _ _ (call (Value.builtin "max") _) _ _ _)); (fail_if_success (with_reducible show wpAny _ _ (call (Value.builtin "min") _) _ _ _)); (fail_if_success (with_reducible show wpAny _ _ (call (Value.builtin "list.index") _) _ _ _)); (fail_if_success (with_reducible show wpAny _ _ (subscriptTail _ _ (Value.ref _) (Value.int (List.getD _ _ _) _)) _ _ _)); (fail_if_success (with_reducible show wpAny _ _ (subscriptTail _ _ (Value.ref _) (Value.int (Nat.cast _) _)) _ _ _)); (fail_if_success (with_reducible show wpAny _ _ (subscriptTail _ _ (Value.str _ _) (Value.ref _)) _ _ _)); (fail_if_success (with_reducible show wpAny _ _ (subscriptTail (Expr.Name (Str.ofString "whole") _) _ _ _) _ _ _)); (first | (((with_reducible show wpAny _ _ (PySem.eval (Expr.Name _ _) (envOfC _ _ _ _ _)) _ _ _); name_kind "cell"; (rename News _ _ _ _ => N'); (refine ldCN N' (by rfl) (by k_mem) (by assumption) ?_); walk_say "m cell")) | ((first | ((with_reducible show wpAny _ _ (storeName _ _ _) _ _ _); dsimp only; walk1) | ((first | (k_unfold; (try dsimp only)) | (k_end; wrow_close) | walk1 | (dsimp only; walk1) | (leave1; walk_say "STEP leave1"; try dsimp only) | fail "no step"))))))))))
          refine sub_at (k := i) (vs := [Value.ref e0, .ref e1, .ref e2, .ref e3, .ref e4, .ref e5]) (News.get N (a := od5) (o := listOf #[Value.ref e0, .ref e1, .ref e2, .ref e3, .ref e4, .ref e5] 0) (by k_mem)) hea (by omega) ?_
          try dsimp only
          ((repeat' ((( ((( (fail_if_success (with_reducible show wpAny _ _ (exec (Stmt.For _ _ _ _ _) _) _ _ _)); (fail_if_success (with_reducible show wpAny _ _ (exec (Stmt.While _ _ _ _) _) _ _ _)); (fail_if_success (with_reducible show wpAny _ _ (pyIter (Value.ref _)) _ _ _)); (fail_if_success (with_reducible show wpAny _ _ (call (Value.ref _) _ _) _ _ _)); (fail_if_success (with_reducible show wpAny _ _ (call (Value.builtin "next") _ _) _ _ _)); (fail_if_success (with_reducible show wpAny _ _ (eval (Expr.ListComp _ _ _ _) _) _ _ _)); (fail_if_success (with_reducible show LCg.CompEnd _ _ _ _ _ _ _ _ _ _ _ _ _ _)); (fail_if_success (with_reducible show LoopStep3 _ _ _ _ _ _ _ _ _ _)); (fail_if_success (with_reducible show LoopStepV _ _ _ _ _ _ _ _ _ _)); skip))); (fail_if_success (with_reducible show wpAny _ _ (storeName _ (Str.ofString "three") _) _ _ _)); (fail_if_success (with_reducible show wpAny _ _ (storeName _ (Str.ofString "words") _) _ _ _)); (fail_if_success (with_reducible show wpAny _ _ (binaryOp Operator.Add (Value.str _ _) (Value.str _ _)) _ _ _)); (fail_if_success (with_reducible show wpAny _ _ (compareOp CmpOp.NotEq (Value.ref _) (Value.ref _)) _ _ _)); (fail_if_success (with_reducible show wpAny _ _ (compareOp CmpOp.NotEq (Value.bytes _ _) (Value.bytes _ _)) _ _ _)); (fail_if_success (with_reducible show wpAny _ _ (call (Value.builtin "list.append") _) _ _ _)); (fail_if_success (with_reducible show wpAny _ _ (compareOp CmpOp.NotEq (Value.bool _) (Value.bool _)) _ _ _)); (fail_if_success (with_reducible show wpAny _ _ (PySem.eval (Expr.BoolOp _ _ _) (envOfC _ _ _ _ _)) _ _ _)); (fail_if_success (with_reducible show ValEnd _ _ _ _ _ _ _ _)); (fail_if_success (with_reducible show wpAny _ _ (call (Value.builtin "max") _) _ _ _)); (fail_if_success (with_reducible show wpAny _ _ (call (Value.builtin "min") _) _ _ _)); (fail_if_success (with_reducible show wpAny _ _ (call (Value.builtin "list.index") _) _ _ _)); (fail_if_success (with_reducible show wpAny _ _ (subscriptTail _ _ (Value.ref _) (Value.int (List.getD _ _ _) _)) _ _ _)); (fail_if_success (with_reducible show wpAny _ _ (subscriptTail _ _ (Value.ref _) (Value.int (Nat.cast _) _)) _ _ _)); (fail_if_success (with_reducible show wpAny _ _ (subscriptTail _ _ (Value.str _ _) (Value.ref _)) _ _ _)); (fail_if_success (with_reducible show wpAny _ _ (subscriptTail (Expr.Name (Str.ofString "whole") _) _ _ _) _ _ _)); (first | (((with_reducible show wpAny _ _ (PySem.eval (Expr.Name _ _) (envOfC _ _ _ _ _)) _ _ _); name_kind "cell"; (rename News _ _ _ _ => N'); (refine ldCN N' (by rfl) (by k_mem) (by assumption) ?_); walk_say "m cell")) | ((first | ((with_reducible show wpAny _ _ (storeName _ _ _) _ _ _); dsimp only; walk1) | ((first | (k_unfold; (try dsimp only)) | (k_end; wrow_close) | walk1 | (dsimp only; walk1) | (leave1; walk_say "STEP leave1"; try dsimp only) | fail "no step"))))))))))
          rename News _ _ _ _ => N9
          refine sub_at (k := q0) (vs := [.ref a0, .ref a1, .ref a2]) (News.get N9 (a := D) (o := listOf #[.ref a0, .ref a1, .ref a2] c) (by k_mem)) (by simpa using hx0) (by omega) ?_
          try dsimp only
          ((repeat' ((( ((( (fail_if_success (with_reducible show wpAny _ _ (exec (Stmt.For _ _ _ _ _) _) _ _ _)); (fail_if_success (with_reducible show wpAny _ _ (exec (Stmt.While _ _ _ _) _) _ _ _)); (fail_if_success (with_reducible show wpAny _ _ (pyIter (Value.ref _)) _ _ _)); (fail_if_success (with_reducible show wpAny _ _ (call (Value.ref _) _ _) _ _ _)); (fail_if_success (with_reducible show wpAny _ _ (call (Value.builtin "next") _ _) _ _ _)); (fail_if_success (with_reducible show wpAny _ _ (eval (Expr.ListComp _ _ _ _) _) _ _ _)); (fail_if_success (with_reducible show LCg.CompEnd _ _ _ _ _ _ _ _ _ _ _ _ _ _)); (fail_if_success (with_reducible show LoopStep3 _ _ _ _ _ _ _ _ _ _)); (fail_if_success (with_reducible show LoopStepV _ _ _ _ _ _ _ _ _ _)); skip))); (fail_if_success (with_reducible show wpAny _ _ (storeName _ (Str.ofString "three") _) _ _ _)); (fail_if_success (with_reducible show wpAny _ _ (storeName _ (Str.ofString "words") _) _ _ _)); (fail_if_success (with_reducible show wpAny _ _ (binaryOp Operator.Add (Value.str _ _) (Value.str _ _)) _ _ _)); (fail_if_success (with_reducible show wpAny _ _ (compareOp CmpOp.NotEq (Value.ref _) (Value.ref _)) _ _ _)); (fail_if_success (with_reducible show wpAny _ _ (compareOp CmpOp.NotEq (Value.bytes _ _) (Value.bytes _ _)) _ _ _)); (fail_if_success (with_reducible show wpAny _ _ (call (Value.builtin "list.append") _) _ _ _)); (fail_if_success (with_reducible show wpAny _ _ (compareOp CmpOp.NotEq (Value.bool _) (Value.bool _)) _ _ _)); (fail_if_success (with_reducible show wpAny _ _ (PySem.eval (Expr.BoolOp _ _ _) (envOfC _ _ _ _ _)) _ _ _)); (fail_if_success (with_reducible show ValEnd _ _ _ _ _ _ _ _)); (fail_if_success (with_reducible show wpAny _ _ (call (Value.builtin "max") _) _ _ _)); (fail_if_success (with_reducible show wpAny _ _ (call (Value.builtin "min") _) _ _ _)); (fail_if_success (with_reducible show wpAny _ _ (call (Value.builtin "list.index") _) _ _ _)); (fail_if_success (with_reducible show wpAny _ _ (subscriptTail _ _ (Value.ref _) (Value.int (List.getD _ _ _) _)) _ _ _)); (fail_if_success (with_reducible show wpAny _ _ (subscriptTail _ _ (Value.ref _) (Value.int (Nat.cast _) _)) _ _ _)); (fail_if_success (with_reducible show wpAny _ _ (subscriptTail _ _ (Value.str _ _) (Value.ref _)) _ _ _)); (fail_if_success (with_reducible show wpAny _ _ (subscriptTail (Expr.Name (Str.ofString "whole") _) _ _ _) _ _ _)); (first | (((with_reducible show wpAny _ _ (PySem.eval (Expr.Name _ _) (envOfC _ _ _ _ _)) _ _ _); name_kind "cell"; (rename News _ _ _ _ => N'); (refine ldCN N' (by rfl) (by k_mem) (by assumption) ?_); walk_say "m cell")) | ((first | ((with_reducible show wpAny _ _ (storeName _ _ _) _ _ _); dsimp only; walk1) | ((first | (k_unfold; (try dsimp only)) | (k_end; wrow_close) | walk1 | (dsimp only; walk1) | (leave1; walk_say "STEP leave1"; try dsimp only) | fail "no step"))))))))))
          rename News _ _ _ _ => N9
          refine sub_at (k := q1) (vs := [.ref a0, .ref a1, .ref a2]) (News.get N9 (a := D) (o := listOf #[.ref a0, .ref a1, .ref a2] c) (by k_mem)) (by simpa using hx1) (by omega) ?_
          try dsimp only
          ((repeat' ((( ((( (fail_if_success (with_reducible show wpAny _ _ (exec (Stmt.For _ _ _ _ _) _) _ _ _)); (fail_if_success (with_reducible show wpAny _ _ (exec (Stmt.While _ _ _ _) _) _ _ _)); (fail_if_success (with_reducible show wpAny _ _ (pyIter (Value.ref _)) _ _ _)); (fail_if_success (with_reducible show wpAny _ _ (call (Value.ref _) _ _) _ _ _)); (fail_if_success (with_reducible show wpAny _ _ (call (Value.builtin "next") _ _) _ _ _)); (fail_if_success (with_reducible show wpAny _ _ (eval (Expr.ListComp _ _ _ _) _) _ _ _)); (fail_if_success (with_reducible show LCg.CompEnd _ _ _ _ _ _ _ _ _ _ _ _ _ _)); (fail_if_success (with_reducible show LoopStep3 _ _ _ _ _ _ _ _ _ _)); (fail_if_success (with_reducible show LoopStepV _ _ _ _ _ _ _ _ _ _)); skip))); (fail_if_success (with_reducible show wpAny _ _ (storeName _ (Str.ofString "three") _) _ _ _)); (fail_if_success (with_reducible show wpAny _ _ (storeName _ (Str.ofString "words") _) _ _ _)); (fail_if_success (with_reducible show wpAny _ _ (binaryOp Operator.Add (Value.str _ _) (Value.str _ _)) _ _ _)); (fail_if_success (with_reducible show wpAny _ _ (compareOp CmpOp.NotEq (Value.ref _) (Value.ref _)) _ _ _)); (fail_if_success (with_reducible show wpAny _ _ (compareOp CmpOp.NotEq (Value.bytes _ _) (Value.bytes _ _)) _ _ _)); (fail_if_success (with_reducible show wpAny _ _ (call (Value.builtin "list.append") _) _ _ _)); (fail_if_success (with_reducible show wpAny _ _ (compareOp CmpOp.NotEq (Value.bool _) (Value.bool _)) _ _ _)); (fail_if_success (with_reducible show wpAny _ _ (PySem.eval (Expr.BoolOp _ _ _) (envOfC _ _ _ _ _)) _ _ _)); (fail_if_success (with_reducible show ValEnd _ _ _ _ _ _ _ _)); (fail_if_success (with_reducible show wpAny _ _ (call (Value.builtin "max") _) _ _ _)); (fail_if_success (with_reducible show wpAny _ _ (call (Value.builtin "min") _) _ _ _)); (fail_if_success (with_reducible show wpAny _ _ (call (Value.builtin "list.index") _) _ _ _)); (fail_if_success (with_reducible show wpAny _ _ (subscriptTail _ _ (Value.ref _) (Value.int (List.getD _ _ _) _)) _ _ _)); (fail_if_success (with_reducible show wpAny _ _ (subscriptTail _ _ (Value.ref _) (Value.int (Nat.cast _) _)) _ _ _)); (fail_if_success (with_reducible show wpAny _ _ (subscriptTail _ _ (Value.str _ _) (Value.ref _)) _ _ _)); (fail_if_success (with_reducible show wpAny _ _ (subscriptTail (Expr.Name (Str.ofString "whole") _) _ _ _) _ _ _)); (first | (((with_reducible show wpAny _ _ (PySem.eval (Expr.Name _ _) (envOfC _ _ _ _ _)) _ _ _); name_kind "cell"; (rename News _ _ _ _ => N'); (refine ldCN N' (by rfl) (by k_mem) (by assumption) ?_); walk_say "m cell")) | ((first | ((with_reducible show wpAny _ _ (storeName _ _ _) _ _ _); dsimp only; walk1) | ((first | (k_unfold; (try dsimp only)) | (k_end; wrow_close) | walk1 | (dsimp only; walk1) | (leave1; walk_say "STEP leave1"; try dsimp only) | fail "no step"))))))))))
          rename Fr _ _ _ _ => F9
          rename News _ _ _ _ => N9
          refine lead_call (KX.keeps F9.keep) (T.keeps F9.keep) (by show 1 + claimMargin + 1 + 6 < recursionLimit; decide) rfl (News.isList N9 (a := x0) (items := List.toArray u0) (n := f0) (by k_mem)) hu0 (by omega) (News.isList N9 (a := x1) (items := List.toArray u1) (n := f1) (by k_mem)) hu1 (by omega) fun t61 h61 tk61 hk61 => ?_
          have F10 := F9.after hk61
          have N10 : News _ _ _ _ := N9.grown hk61
          clear F9 N9
          try dsimp only
          ((repeat' ((( ((( (fail_if_success (with_reducible show wpAny _ _ (exec (Stmt.For _ _ _ _ _) _) _ _ _)); (fail_if_success (with_reducible show wpAny _ _ (exec (Stmt.While _ _ _ _) _) _ _ _)); (fail_if_success (with_reducible show wpAny _ _ (pyIter (Value.ref _)) _ _ _)); (fail_if_success (with_reducible show wpAny _ _ (call (Value.ref _) _ _) _ _ _)); (fail_if_success (with_reducible show wpAny _ _ (call (Value.builtin "next") _ _) _ _ _)); (fail_if_success (with_reducible show wpAny _ _ (eval (Expr.ListComp _ _ _ _) _) _ _ _)); (fail_if_success (with_reducible show LCg.CompEnd _ _ _ _ _ _ _ _ _ _ _ _ _ _)); (fail_if_success (with_reducible show LoopStep3 _ _ _ _ _ _ _ _ _ _)); (fail_if_success (with_reducible show LoopStepV _ _ _ _ _ _ _ _ _ _)); skip))); (fail_if_success (with_reducible show wpAny _ _ (storeName _ (Str.ofString "three") _) _ _ _)); (fail_if_success (with_reducible show wpAny _ _ (storeName _ (Str.ofString "words") _) _ _ _)); (fail_if_success (with_reducible show wpAny _ _ (binaryOp Operator.Add (Value.str _ _) (Value.str _ _)) _ _ _)); (fail_if_success (with_reducible show wpAny _ _ (compareOp CmpOp.NotEq (Value.ref _) (Value.ref _)) _ _ _)); (fail_if_success (with_reducible show wpAny _ _ (compareOp CmpOp.NotEq (Value.bytes _ _) (Value.bytes _ _)) _ _ _)); (fail_if_success (with_reducible show wpAny _ _ (call (Value.builtin "list.append") _) _ _ _)); (fail_if_success (with_reducible show wpAny _ _ (compareOp CmpOp.NotEq (Value.bool _) (Value.bool _)) _ _ _)); (fail_if_success (with_reducible show wpAny _ _ (PySem.eval (Expr.BoolOp _ _ _) (envOfC _ _ _ _ _)) _ _ _)); (fail_if_success (with_reducible show ValEnd _ _ _ _ _ _ _ _)); (fail_if_success (with_reducible show wpAny _ _ (call (Value.builtin "max") _) _ _ _)); (fail_if_success (with_reducible show wpAny _ _ (call (Value.builtin "min") _) _ _ _)); (fail_if_success (with_reducible show wpAny _ _ (call (Value.builtin "list.index") _) _ _ _)); (fail_if_success (with_reducible show wpAny _ _ (subscriptTail _ _ (Value.ref _) (Value.int (List.getD _ _ _) _)) _ _ _)); (fail_if_success (with_reducible show wpAny _ _ (subscriptTail _ _ (Value.ref _) (Value.int (Nat.cast _) _)) _ _ _)); (fail_if_success (with_reducible show wpAny _ _ (subscriptTail _ _ (Value.str _ _) (Value.ref _)) _ _ _)); (fail_if_success (with_reducible show wpAny _ _ (subscriptTail (Expr.Name (Str.ofString "whole") _) _ _ _) _ _ _)); (first | (((with_reducible show wpAny _ _ (PySem.eval (Expr.Name _ _) (envOfC _ _ _ _ _)) _ _ _); name_kind "cell"; (rename News _ _ _ _ => N'); (refine ldCN N' (by rfl) (by k_mem) (by assumption) ?_); walk_say "m cell")) | ((first | ((with_reducible show wpAny _ _ (storeName _ _ _) _ _ _); dsimp only; walk1) | ((first | (k_unfold; (try dsimp only)) | (k_end; wrow_close) | walk1 | (dsimp only; walk1) | (leave1; walk_say "STEP leave1"; try dsimp only) | fail "no step"))))))))))
          rename News _ _ _ _ => N9
          refine sub_at (k := q1) (vs := [.ref a0, .ref a1, .ref a2]) (News.get N9 (a := D) (o := listOf #[.ref a0, .ref a1, .ref a2] c) (by k_mem)) (by simpa using hx1) (by omega) ?_
          try dsimp only
          ((repeat' ((( ((( (fail_if_success (with_reducible show wpAny _ _ (exec (Stmt.For _ _ _ _ _) _) _ _ _)); (fail_if_success (with_reducible show wpAny _ _ (exec (Stmt.While _ _ _ _) _) _ _ _)); (fail_if_success (with_reducible show wpAny _ _ (pyIter (Value.ref _)) _ _ _)); (fail_if_success (with_reducible show wpAny _ _ (call (Value.ref _) _ _) _ _ _)); (fail_if_success (with_reducible show wpAny _ _ (call (Value.builtin "next") _ _) _ _ _)); (fail_if_success (with_reducible show wpAny _ _ (eval (Expr.ListComp _ _ _ _) _) _ _ _)); (fail_if_success (with_reducible show LCg.CompEnd _ _ _ _ _ _ _ _ _ _ _ _ _ _)); (fail_if_success (with_reducible show LoopStep3 _ _ _ _ _ _ _ _ _ _)); (fail_if_success (with_reducible show LoopStepV _ _ _ _ _ _ _ _ _ _)); skip))); (fail_if_success (with_reducible show wpAny _ _ (storeName _ (Str.ofString "three") _) _ _ _)); (fail_if_success (with_reducible show wpAny _ _ (storeName _ (Str.ofString "words") _) _ _ _)); (fail_if_success (with_reducible show wpAny _ _ (binaryOp Operator.Add (Value.str _ _) (Value.str _ _)) _ _ _)); (fail_if_success (with_reducible show wpAny _ _ (compareOp CmpOp.NotEq (Value.ref _) (Value.ref _)) _ _ _)); (fail_if_success (with_reducible show wpAny _ _ (compareOp CmpOp.NotEq (Value.bytes _ _) (Value.bytes _ _)) _ _ _)); (fail_if_success (with_reducible show wpAny _ _ (call (Value.builtin "list.append") _) _ _ _)); (fail_if_success (with_reducible show wpAny _ _ (compareOp CmpOp.NotEq (Value.bool _) (Value.bool _)) _ _ _)); (fail_if_success (with_reducible show wpAny _ _ (PySem.eval (Expr.BoolOp _ _ _) (envOfC _ _ _ _ _)) _ _ _)); (fail_if_success (with_reducible show ValEnd _ _ _ _ _ _ _ _)); (fail_if_success (with_reducible show wpAny _ _ (call (Value.builtin "max") _) _ _ _)); (fail_if_success (with_reducible show wpAny _ _ (call (Value.builtin "min") _) _ _ _)); (fail_if_success (with_reducible show wpAny _ _ (call (Value.builtin "list.index") _) _ _ _)); (fail_if_success (with_reducible show wpAny _ _ (subscriptTail _ _ (Value.ref _) (Value.int (List.getD _ _ _) _)) _ _ _)); (fail_if_success (with_reducible show wpAny _ _ (subscriptTail _ _ (Value.ref _) (Value.int (Nat.cast _) _)) _ _ _)); (fail_if_success (with_reducible show wpAny _ _ (subscriptTail _ _ (Value.str _ _) (Value.ref _)) _ _ _)); (fail_if_success (with_reducible show wpAny _ _ (subscriptTail (Expr.Name (Str.ofString "whole") _) _ _ _) _ _ _)); (first | (((with_reducible show wpAny _ _ (PySem.eval (Expr.Name _ _) (envOfC _ _ _ _ _)) _ _ _); name_kind "cell"; (rename News _ _ _ _ => N'); (refine ldCN N' (by rfl) (by k_mem) (by assumption) ?_); walk_say "m cell")) | ((first | ((with_reducible show wpAny _ _ (storeName _ _ _) _ _ _); dsimp only; walk1) | ((first | (k_unfold; (try dsimp only)) | (k_end; wrow_close) | walk1 | (dsimp only; walk1) | (leave1; walk_say "STEP leave1"; try dsimp only) | fail "no step"))))))))))
          rename News _ _ _ _ => N9
          refine sub_at (k := q2) (vs := [.ref a0, .ref a1, .ref a2]) (News.get N9 (a := D) (o := listOf #[.ref a0, .ref a1, .ref a2] c) (by k_mem)) (by simpa using hx2) (by omega) ?_
          try dsimp only
          ((repeat' ((( ((( (fail_if_success (with_reducible show wpAny _ _ (exec (Stmt.For _ _ _ _ _) _) _ _ _)); (fail_if_success (with_reducible show wpAny _ _ (exec (Stmt.While _ _ _ _) _) _ _ _)); (fail_if_success (with_reducible show wpAny _ _ (pyIter (Value.ref _)) _ _ _)); (fail_if_success (with_reducible show wpAny _ _ (call (Value.ref _) _ _) _ _ _)); (fail_if_success (with_reducible show wpAny _ _ (call (Value.builtin "next") _ _) _ _ _)); (fail_if_success (with_reducible show wpAny _ _ (eval (Expr.ListComp _ _ _ _) _) _ _ _)); (fail_if_success (with_reducible show LCg.CompEnd _ _ _ _ _ _ _ _ _ _ _ _ _ _)); (fail_if_success (with_reducible show LoopStep3 _ _ _ _ _ _ _ _ _ _)); (fail_if_success (with_reducible show LoopStepV _ _ _ _ _ _ _ _ _ _)); skip))); (fail_if_success (with_reducible show wpAny _ _ (storeName _ (Str.ofString "three") _) _ _ _)); (fail_if_success (with_reducible show wpAny _ _ (storeName _ (Str.ofString "words") _) _ _ _)); (fail_if_success (with_reducible show wpAny _ _ (binaryOp Operator.Add (Value.str _ _) (Value.str _ _)) _ _ _)); (fail_if_success (with_reducible show wpAny _ _ (compareOp CmpOp.NotEq (Value.ref _) (Value.ref _)) _ _ _)); (fail_if_success (with_reducible show wpAny _ _ (compareOp CmpOp.NotEq (Value.bytes _ _) (Value.bytes _ _)) _ _ _)); (fail_if_success (with_reducible show wpAny _ _ (call (Value.builtin "list.append") _) _ _ _)); (fail_if_success (with_reducible show wpAny _ _ (compareOp CmpOp.NotEq (Value.bool _) (Value.bool _)) _ _ _)); (fail_if_success (with_reducible show wpAny _ _ (PySem.eval (Expr.BoolOp _ _ _) (envOfC _ _ _ _ _)) _ _ _)); (fail_if_success (with_reducible show ValEnd _ _ _ _ _ _ _ _)); (fail_if_success (with_reducible show wpAny _ _ (call (Value.builtin "max") _) _ _ _)); (fail_if_success (with_reducible show wpAny _ _ (call (Value.builtin "min") _) _ _ _)); (fail_if_success (with_reducible show wpAny _ _ (call (Value.builtin "list.index") _) _ _ _)); (fail_if_success (with_reducible show wpAny _ _ (subscriptTail _ _ (Value.ref _) (Value.int (List.getD _ _ _) _)) _ _ _)); (fail_if_success (with_reducible show wpAny _ _ (subscriptTail _ _ (Value.ref _) (Value.int (Nat.cast _) _)) _ _ _)); (fail_if_success (with_reducible show wpAny _ _ (subscriptTail _ _ (Value.str _ _) (Value.ref _)) _ _ _)); (fail_if_success (with_reducible show wpAny _ _ (subscriptTail (Expr.Name (Str.ofString "whole") _) _ _ _) _ _ _)); (first | (((with_reducible show wpAny _ _ (PySem.eval (Expr.Name _ _) (envOfC _ _ _ _ _)) _ _ _); name_kind "cell"; (rename News _ _ _ _ => N'); (refine ldCN N' (by rfl) (by k_mem) (by assumption) ?_); walk_say "m cell")) | ((first | ((with_reducible show wpAny _ _ (storeName _ _ _) _ _ _); dsimp only; walk1) | ((first | (k_unfold; (try dsimp only)) | (k_end; wrow_close) | walk1 | (dsimp only; walk1) | (leave1; walk_say "STEP leave1"; try dsimp only) | fail "no step"))))))))))
          rename Fr _ _ _ _ => F9
          rename News _ _ _ _ => N9
          refine lead_call (KX.keeps F9.keep) (T.keeps F9.keep) (by show 1 + claimMargin + 1 + 6 < recursionLimit; decide) rfl (News.isList N9 (a := x1) (items := List.toArray u1) (n := f1) (by k_mem)) hu1 (by omega) (News.isList N9 (a := x2) (items := List.toArray u2) (n := f2) (by k_mem)) hu2 (by omega) fun t62 h62 tk62 hk62 => ?_
          have F10 := F9.after hk62
          have N10 : News _ _ _ _ := N9.grown hk62
          clear F9 N9
          try dsimp only
          ((repeat' ((( ((( (fail_if_success (with_reducible show wpAny _ _ (exec (Stmt.For _ _ _ _ _) _) _ _ _)); (fail_if_success (with_reducible show wpAny _ _ (exec (Stmt.While _ _ _ _) _) _ _ _)); (fail_if_success (with_reducible show wpAny _ _ (pyIter (Value.ref _)) _ _ _)); (fail_if_success (with_reducible show wpAny _ _ (call (Value.ref _) _ _) _ _ _)); (fail_if_success (with_reducible show wpAny _ _ (call (Value.builtin "next") _ _) _ _ _)); (fail_if_success (with_reducible show wpAny _ _ (eval (Expr.ListComp _ _ _ _) _) _ _ _)); (fail_if_success (with_reducible show LCg.CompEnd _ _ _ _ _ _ _ _ _ _ _ _ _ _)); (fail_if_success (with_reducible show LoopStep3 _ _ _ _ _ _ _ _ _ _)); (fail_if_success (with_reducible show LoopStepV _ _ _ _ _ _ _ _ _ _)); skip))); (fail_if_success (with_reducible show wpAny _ _ (storeName _ (Str.ofString "three") _) _ _ _)); (fail_if_success (with_reducible show wpAny _ _ (storeName _ (Str.ofString "words") _) _ _ _)); (fail_if_success (with_reducible show wpAny _ _ (binaryOp Operator.Add (Value.str _ _) (Value.str _ _)) _ _ _)); (fail_if_success (with_reducible show wpAny _ _ (compareOp CmpOp.NotEq (Value.ref _) (Value.ref _)) _ _ _)); (fail_if_success (with_reducible show wpAny _ _ (compareOp CmpOp.NotEq (Value.bytes _ _) (Value.bytes _ _)) _ _ _)); (fail_if_success (with_reducible show wpAny _ _ (call (Value.builtin "list.append") _) _ _ _)); (fail_if_success (with_reducible show wpAny _ _ (compareOp CmpOp.NotEq (Value.bool _) (Value.bool _)) _ _ _)); (fail_if_success (with_reducible show wpAny _ _ (PySem.eval (Expr.BoolOp _ _ _) (envOfC _ _ _ _ _)) _ _ _)); (fail_if_success (with_reducible show ValEnd _ _ _ _ _ _ _ _)); (fail_if_success (with_reducible show wpAny _ _ (call (Value.builtin "max") _) _ _ _)); (fail_if_success (with_reducible show wpAny _ _ (call (Value.builtin "min") _) _ _ _)); (fail_if_success (with_reducible show wpAny _ _ (call (Value.builtin "list.index") _) _ _ _)); (fail_if_success (with_reducible show wpAny _ _ (subscriptTail _ _ (Value.ref _) (Value.int (List.getD _ _ _) _)) _ _ _)); (fail_if_success (with_reducible show wpAny _ _ (subscriptTail _ _ (Value.ref _) (Value.int (Nat.cast _) _)) _ _ _)); (fail_if_success (with_reducible show wpAny _ _ (subscriptTail _ _ (Value.str _ _) (Value.ref _)) _ _ _)); (fail_if_success (with_reducible show wpAny _ _ (subscriptTail (Expr.Name (Str.ofString "whole") _) _ _ _) _ _ _)); (first | (((with_reducible show wpAny _ _ (PySem.eval (Expr.Name _ _) (envOfC _ _ _ _ _)) _ _ _); name_kind "cell"; (rename News _ _ _ _ => N'); (refine ldCN N' (by rfl) (by k_mem) (by assumption) ?_); walk_say "m cell")) | ((first | ((with_reducible show wpAny _ _ (storeName _ _ _) _ _ _); dsimp only; walk1) | ((first | (k_unfold; (try dsimp only)) | (k_end; wrow_close) | walk1 | (dsimp only; walk1) | (leave1; walk_say "STEP leave1"; try dsimp only) | fail "no step"))))))))))
          rename News _ _ _ _ => N9
          refine sub_at (k := i) (vs := wv) (News.get N9 (a := whs) (o := listOf (List.toArray wv) k1) (by k_mem)) hw0 (by omega) ?_
          try dsimp only
          ((repeat' ((( ((( (fail_if_success (with_reducible show wpAny _ _ (exec (Stmt.For _ _ _ _ _) _) _ _ _)); (fail_if_success (with_reducible show wpAny _ _ (exec (Stmt.While _ _ _ _) _) _ _ _)); (fail_if_success (with_reducible show wpAny _ _ (pyIter (Value.ref _)) _ _ _)); (fail_if_success (with_reducible show wpAny _ _ (call (Value.ref _) _ _) _ _ _)); (fail_if_success (with_reducible show wpAny _ _ (call (Value.builtin "next") _ _) _ _ _)); (fail_if_success (with_reducible show wpAny _ _ (eval (Expr.ListComp _ _ _ _) _) _ _ _)); (fail_if_success (with_reducible show LCg.CompEnd _ _ _ _ _ _ _ _ _ _ _ _ _ _)); (fail_if_success (with_reducible show LoopStep3 _ _ _ _ _ _ _ _ _ _)); (fail_if_success (with_reducible show LoopStepV _ _ _ _ _ _ _ _ _ _)); skip))); (fail_if_success (with_reducible show wpAny _ _ (storeName _ (Str.ofString "three") _) _ _ _)); (fail_if_success (with_reducible show wpAny _ _ (storeName _ (Str.ofString "words") _) _ _ _)); (fail_if_success (with_reducible show wpAny _ _ (binaryOp Operator.Add (Value.str _ _) (Value.str _ _)) _ _ _)); (fail_if_success (with_reducible show wpAny _ _ (compareOp CmpOp.NotEq (Value.ref _) (Value.ref _)) _ _ _)); (fail_if_success (with_reducible show wpAny _ _ (compareOp CmpOp.NotEq (Value.bytes _ _) (Value.bytes _ _)) _ _ _)); (fail_if_success (with_reducible show wpAny _ _ (call (Value.builtin "list.append") _) _ _ _)); (fail_if_success (with_reducible show wpAny _ _ (compareOp CmpOp.NotEq (Value.bool _) (Value.bool _)) _ _ _)); (fail_if_success (with_reducible show wpAny _ _ (PySem.eval (Expr.BoolOp _ _ _) (envOfC _ _ _ _ _)) _ _ _)); (fail_if_success (with_reducible show ValEnd _ _ _ _ _ _ _ _)); (fail_if_success (with_reducible show wpAny _ _ (call (Value.builtin "max") _) _ _ _)); (fail_if_success (with_reducible show wpAny _ _ (call (Value.builtin "min") _) _ _ _)); (fail_if_success (with_reducible show wpAny _ _ (call (Value.builtin "list.index") _) _ _ _)); (fail_if_success (with_reducible show wpAny _ _ (subscriptTail _ _ (Value.ref _) (Value.int (List.getD _ _ _) _)) _ _ _)); (fail_if_success (with_reducible show wpAny _ _ (subscriptTail _ _ (Value.ref _) (Value.int (Nat.cast _) _)) _ _ _)); (fail_if_success (with_reducible show wpAny _ _ (subscriptTail _ _ (Value.str _ _) (Value.ref _)) _ _ _)); (fail_if_success (with_reducible show wpAny _ _ (subscriptTail (Expr.Name (Str.ofString "whole") _) _ _ _) _ _ _)); (first | (((with_reducible show wpAny _ _ (PySem.eval (Expr.Name _ _) (envOfC _ _ _ _ _)) _ _ _); name_kind "cell"; (rename News _ _ _ _ => N'); (refine ldCN N' (by rfl) (by k_mem) (by assumption) ?_); walk_say "m cell")) | ((first | ((with_reducible show wpAny _ _ (storeName _ _ _) _ _ _); dsimp only; walk1) | ((first | (k_unfold; (try dsimp only)) | (k_end; wrow_close) | walk1 | (dsimp only; walk1) | (leave1; walk_say "STEP leave1"; try dsimp only) | fail "no step"))))))))))
          rename Fr _ _ _ _ => F9
          rename News _ _ _ _ => N9
          refine max_list_N rfl F9 N9 (News.isList N9 (.head _)) hwv (by rw [List.length_map]; decide) fun h63 M tM tk63 F10 N10 hM hMx => ?_
          clear F9 N9
          try dsimp only
          ((repeat' ((( ((( (fail_if_success (with_reducible show wpAny _ _ (exec (Stmt.For _ _ _ _ _) _) _ _ _)); (fail_if_success (with_reducible show wpAny _ _ (exec (Stmt.While _ _ _ _) _) _ _ _)); (fail_if_success (with_reducible show wpAny _ _ (pyIter (Value.ref _)) _ _ _)); (fail_if_success (with_reducible show wpAny _ _ (call (Value.ref _) _ _) _ _ _)); (fail_if_success (with_reducible show wpAny _ _ (call (Value.builtin "next") _ _) _ _ _)); (fail_if_success (with_reducible show wpAny _ _ (eval (Expr.ListComp _ _ _ _) _) _ _ _)); (fail_if_success (with_reducible show LCg.CompEnd _ _ _ _ _ _ _ _ _ _ _ _ _ _)); (fail_if_success (with_reducible show LoopStep3 _ _ _ _ _ _ _ _ _ _)); (fail_if_success (with_reducible show LoopStepV _ _ _ _ _ _ _ _ _ _)); skip))); (fail_if_success (with_reducible show wpAny _ _ (storeName _ (Str.ofString "three") _) _ _ _)); (fail_if_success (with_reducible show wpAny _ _ (storeName _ (Str.ofString "words") _) _ _ _)); (fail_if_success (with_reducible show wpAny _ _ (binaryOp Operator.Add (Value.str _ _) (Value.str _ _)) _ _ _)); (fail_if_success (with_reducible show wpAny _ _ (compareOp CmpOp.NotEq (Value.ref _) (Value.ref _)) _ _ _)); (fail_if_success (with_reducible show wpAny _ _ (compareOp CmpOp.NotEq (Value.bytes _ _) (Value.bytes _ _)) _ _ _)); (fail_if_success (with_reducible show wpAny _ _ (call (Value.builtin "list.append") _) _ _ _)); (fail_if_success (with_reducible show wpAny _ _ (compareOp CmpOp.NotEq (Value.bool _) (Value.bool _)) _ _ _)); (fail_if_success (with_reducible show wpAny _ _ (PySem.eval (Expr.BoolOp _ _ _) (envOfC _ _ _ _ _)) _ _ _)); (fail_if_success (with_reducible show ValEnd _ _ _ _ _ _ _ _)); (fail_if_success (with_reducible show wpAny _ _ (call (Value.builtin "max") _) _ _ _)); (fail_if_success (with_reducible show wpAny _ _ (call (Value.builtin "min") _) _ _ _)); (fail_if_success (with_reducible show wpAny _ _ (call (Value.builtin "list.index") _) _ _ _)); (fail_if_success (with_reducible show wpAny _ _ (subscriptTail _ _ (Value.ref _) (Value.int (List.getD _ _ _) _)) _ _ _)); (fail_if_success (with_reducible show wpAny _ _ (subscriptTail _ _ (Value.ref _) (Value.int (Nat.cast _) _)) _ _ _)); (fail_if_success (with_reducible show wpAny _ _ (subscriptTail _ _ (Value.str _ _) (Value.ref _)) _ _ _)); (fail_if_success (with_reducible show wpAny _ _ (subscriptTail (Expr.Name (Str.ofString "whole") _) _ _ _) _ _ _)); (first | (((with_reducible show wpAny _ _ (PySem.eval (Expr.Name _ _) (envOfC _ _ _ _ _)) _ _ _); name_kind "cell"; (rename News _ _ _ _ => N'); (refine ldCN N' (by rfl) (by k_mem) (by assumption) ?_); walk_say "m cell")) | ((first | ((with_reducible show wpAny _ _ (storeName _ _ _) _ _ _); dsimp only; walk1) | ((first | (k_unfold; (try dsimp only)) | (k_end; wrow_close) | walk1 | (dsimp only; walk1) | (leave1; walk_say "STEP leave1"; try dsimp only) | fail "no step"))))))))))
          have hmx := max6 g1 g3 (List.mem_of_getElem? hP) hM hMx
          refine val_cut F10 N10 (.bool (decide (0 ≤ leadF (g q0) (g q1)) && decide (0 ≤ leadF (g q1) (g q2)))) ?_ fun h64 tk64 F11 N11 => ?_
          · walk1
            ((repeat' ((( ((( (fail_if_success (with_reducible show wpAny _ _ (exec (Stmt.For _ _ _ _ _) _) _ _ _)); (fail_if_success (with_reducible show wpAny _ _ (exec (Stmt.While _ _ _ _) _) _ _ _)); (fail_if_success (with_reducible show wpAny _ _ (pyIter (Value.ref _)) _ _ _)); (fail_if_success (with_reducible show wpAny _ _ (call (Value.ref _) _ _) _ _ _)); (fail_if_success (with_reducible show wpAny _ _ (call (Value.builtin "next") _ _) _ _ _)); (fail_if_success (with_reducible show wpAny _ _ (eval (Expr.ListComp _ _ _ _) _) _ _ _)); (fail_if_success (with_reducible show LCg.CompEnd _ _ _ _ _ _ _ _ _ _ _ _ _ _)); (fail_if_success (with_reducible show LoopStep3 _ _ _ _ _ _ _ _ _ _)); (fail_if_success (with_reducible show LoopStepV _ _ _ _ _ _ _ _ _ _)); skip))); (fail_if_success (with_reducible show wpAny _ _ (storeName _ (Str.ofString "three") _) _ _ _)); (fail_if_success (with_reducible show wpAny _ _ (storeName _ (Str.ofString "words") _) _ _ _)); (fail_if_success (with_reducible show wpAny _ _ (binaryOp Operator.Add (Value.str _ _) (Value.str _ _)) _ _ _)); (fail_if_success (with_reducible show wpAny _ _ (compareOp CmpOp.NotEq (Value.ref _) (Value.ref _)) _ _ _)); (fail_if_success (with_reducible show wpAny _ _ (compareOp CmpOp.NotEq (Value.bytes _ _) (Value.bytes _ _)) _ _ _)); (fail_if_success (with_reducible show wpAny _ _ (call (Value.builtin "list.append") _) _ _ _)); (fail_if_success (with_reducible show wpAny _ _ (compareOp CmpOp.NotEq (Value.bool _) (Value.bool _)) _ _ _)); (fail_if_success (with_reducible show wpAny _ _ (PySem.eval (Expr.BoolOp _ _ _) (envOfC _ _ _ _ _)) _ _ _)); (fail_if_success (with_reducible show ValEnd _ _ _ _ _ _ _ _)); (fail_if_success (with_reducible show wpAny _ _ (call (Value.builtin "max") _) _ _ _)); (fail_if_success (with_reducible show wpAny _ _ (call (Value.builtin "min") _) _ _ _)); (fail_if_success (with_reducible show wpAny _ _ (call (Value.builtin "list.index") _) _ _ _)); (fail_if_success (with_reducible show wpAny _ _ (subscriptTail _ _ (Value.ref _) (Value.int (List.getD _ _ _) _)) _ _ _)); (fail_if_success (with_reducible show wpAny _ _ (subscriptTail _ _ (Value.ref _) (Value.int (Nat.cast _) _)) _ _ _)); (fail_if_success (with_reducible show wpAny _ _ (subscriptTail _ _ (Value.str _ _) (Value.ref _)) _ _ _)); (fail_if_success (with_reducible show wpAny _ _ (subscriptTail (Expr.Name (Str.ofString "whole") _) _ _ _) _ _ _)); (first | (((with_reducible show wpAny _ _ (PySem.eval (Expr.Name _ _) (envOfC _ _ _ _ _)) _ _ _); name_kind "cell"; (rename News _ _ _ _ => N'); (refine ldCN N' (by rfl) (by k_mem) (by assumption) ?_); walk_say "m cell")) | ((first | ((with_reducible show wpAny _ _ (storeName _ _ _) _ _ _); dsimp only; walk1) | ((first | (k_unfold; (try dsimp only)) | (k_end; wrow_close) | walk1 | (dsimp only; walk1) | (leave1; walk_say "STEP leave1"; try dsimp only) | fail "no step"))))))))))
            · walk1
              ((repeat' ((( ((( (fail_if_success (with_reducible show wpAny _ _ (exec (Stmt.For _ _ _ _ _) _) _ _ _)); (fail_if_success (with_reducible show wpAny _ _ (exec (Stmt.While _ _ _ _) _) _ _ _)); (fail_if_success (with_reducible show wpAny _ _ (pyIter (Value.ref _)) _ _ _)); (fail_if_success (with_reducible show wpAny _ _ (call (Value.ref _) _ _) _ _ _)); (fail_if_success (with_reducible show wpAny _ _ (call (Value.builtin "next") _ _) _ _ _)); (fail_if_success (with_reducible show wpAny _ _ (eval (Expr.ListComp _ _ _ _) _) _ _ _)); (fail_if_success (with_reducible show LCg.CompEnd _ _ _ _ _ _ _ _ _ _ _ _ _ _)); (fail_if_success (with_reducible show LoopStep3 _ _ _ _ _ _ _ _ _ _)); (fail_if_success (with_reducible show LoopStepV _ _ _ _ _ _ _ _ _ _)); skip))); (fail_if_success (with_reducible show wpAny _ _ (storeName _ (Str.ofString "three") _) _ _ _)); (fail_if_success (with_reducible show wpAny _ _ (storeName _ (Str.ofString "words") _) _ _ _)); (fail_if_success (with_reducible show wpAny _ _ (binaryOp Operator.Add (Value.str _ _) (Value.str _ _)) _ _ _)); (fail_if_success (with_reducible show wpAny _ _ (compareOp CmpOp.NotEq (Value.ref _) (Value.ref _)) _ _ _)); (fail_if_success (with_reducible show wpAny _ _ (compareOp CmpOp.NotEq (Value.bytes _ _) (Value.bytes _ _)) _ _ _)); (fail_if_success (with_reducible show wpAny _ _ (call (Value.builtin "list.append") _) _ _ _)); (fail_if_success (with_reducible show wpAny _ _ (compareOp CmpOp.NotEq (Value.bool _) (Value.bool _)) _ _ _)); (fail_if_success (with_reducible show wpAny _ _ (PySem.eval (Expr.BoolOp _ _ _) (envOfC _ _ _ _ _)) _ _ _)); (fail_if_success (with_reducible show ValEnd _ _ _ _ _ _ _ _)); (fail_if_success (with_reducible show wpAny _ _ (call (Value.builtin "max") _) _ _ _)); (fail_if_success (with_reducible show wpAny _ _ (call (Value.builtin "min") _) _ _ _)); (fail_if_success (with_reducible show wpAny _ _ (call (Value.builtin "list.index") _) _ _ _)); (fail_if_success (with_reducible show wpAny _ _ (subscriptTail _ _ (Value.ref _) (Value.int (List.getD _ _ _) _)) _ _ _)); (fail_if_success (with_reducible show wpAny _ _ (subscriptTail _ _ (Value.ref _) (Value.int (Nat.cast _) _)) _ _ _)); (fail_if_success (with_reducible show wpAny _ _ (subscriptTail _ _ (Value.str _ _) (Value.ref _)) _ _ _)); (fail_if_success (with_reducible show wpAny _ _ (subscriptTail (Expr.Name (Str.ofString "whole") _) _ _ _) _ _ _)); (first | (((with_reducible show wpAny _ _ (PySem.eval (Expr.Name _ _) (envOfC _ _ _ _ _)) _ _ _); name_kind "cell"; (rename News _ _ _ _ => N'); (refine ldCN N' (by rfl) (by k_mem) (by assumption) ?_); walk_say "m cell")) | ((first | ((with_reducible show wpAny _ _ (storeName _ _ _) _ _ _); dsimp only; walk1) | ((first | (k_unfold; (try dsimp only)) | (k_end; wrow_close) | walk1 | (dsimp only; walk1) | (leave1; walk_say "STEP leave1"; try dsimp only) | fail "no step"))))))))))
              rename 0 ≤ leadF (g q0) (g q1) => hq
              exact ⟨by rw [decide_eq_true hq]; rfl, _, _, rfl, by assumption, by assumption⟩
            · rename ¬ 0 ≤ leadF (g q0) (g q1) => hq
              exact ⟨by rw [decide_eq_false hq]; rfl, _, _, rfl, by assumption, by assumption⟩
          clear F10 N10
          try dsimp only
          ((repeat' ((( ((( (fail_if_success (with_reducible show wpAny _ _ (exec (Stmt.For _ _ _ _ _) _) _ _ _)); (fail_if_success (with_reducible show wpAny _ _ (exec (Stmt.While _ _ _ _) _) _ _ _)); (fail_if_success (with_reducible show wpAny _ _ (pyIter (Value.ref _)) _ _ _)); (fail_if_success (with_reducible show wpAny _ _ (call (Value.ref _) _ _) _ _ _)); (fail_if_success (with_reducible show wpAny _ _ (call (Value.builtin "next") _ _) _ _ _)); (fail_if_success (with_reducible show wpAny _ _ (eval (Expr.ListComp _ _ _ _) _) _ _ _)); (fail_if_success (with_reducible show LCg.CompEnd _ _ _ _ _ _ _ _ _ _ _ _ _ _)); (fail_if_success (with_reducible show LoopStep3 _ _ _ _ _ _ _ _ _ _)); (fail_if_success (with_reducible show LoopStepV _ _ _ _ _ _ _ _ _ _)); skip))); (fail_if_success (with_reducible show wpAny _ _ (storeName _ (Str.ofString "three") _) _ _ _)); (fail_if_success (with_reducible show wpAny _ _ (storeName _ (Str.ofString "words") _) _ _ _)); (fail_if_success (with_reducible show wpAny _ _ (binaryOp Operator.Add (Value.str _ _) (Value.str _ _)) _ _ _)); (fail_if_success (with_reducible show wpAny _ _ (compareOp CmpOp.NotEq (Value.ref _) (Value.ref _)) _ _ _)); (fail_if_success (with_reducible show wpAny _ _ (compareOp CmpOp.NotEq (Value.bytes _ _) (Value.bytes _ _)) _ _ _)); (fail_if_success (with_reducible show wpAny _ _ (call (Value.builtin "list.append") _) _ _ _)); (fail_if_success (with_reducible show wpAny _ _ (compareOp CmpOp.NotEq (Value.bool _) (Value.bool _)) _ _ _)); (fail_if_success (with_reducible show wpAny _ _ (PySem.eval (Expr.BoolOp _ _ _) (envOfC _ _ _ _ _)) _ _ _)); (fail_if_success (with_reducible show ValEnd _ _ _ _ _ _ _ _)); (fail_if_success (with_reducible show wpAny _ _ (call (Value.builtin "max") _) _ _ _)); (fail_if_success (with_reducible show wpAny _ _ (call (Value.builtin "min") _) _ _ _)); (fail_if_success (with_reducible show wpAny _ _ (call (Value.builtin "list.index") _) _ _ _)); (fail_if_success (with_reducible show wpAny _ _ (subscriptTail _ _ (Value.ref _) (Value.int (List.getD _ _ _) _)) _ _ _)); (fail_if_success (with_reducible show wpAny _ _ (subscriptTail _ _ (Value.ref _) (Value.int (Nat.cast _) _)) _ _ _)); (fail_if_success (with_reducible show wpAny _ _ (subscriptTail _ _ (Value.str _ _) (Value.ref _)) _ _ _)); (fail_if_success (with_reducible show wpAny _ _ (subscriptTail (Expr.Name (Str.ofString "whole") _) _ _ _) _ _ _)); (first | (((with_reducible show wpAny _ _ (PySem.eval (Expr.Name _ _) (envOfC _ _ _ _ _)) _ _ _); name_kind "cell"; (rename News _ _ _ _ => N'); (refine ldCN N' (by rfl) (by k_mem) (by assumption) ?_); walk_say "m cell")) | ((first | ((with_reducible show wpAny _ _ (storeName _ _ _) _ _ _); dsimp only; walk1) | ((first | (k_unfold; (try dsimp only)) | (k_end; wrow_close) | walk1 | (dsimp only; walk1) | (leave1; walk_say "STEP leave1"; try dsimp only) | fail "no step"))))))))))
          refine ne_bool_same hmx ?_
          try dsimp only
          ((repeat' ((( ((( (fail_if_success (with_reducible show wpAny _ _ (exec (Stmt.For _ _ _ _ _) _) _ _ _)); (fail_if_success (with_reducible show wpAny _ _ (exec (Stmt.While _ _ _ _) _) _ _ _)); (fail_if_success (with_reducible show wpAny _ _ (pyIter (Value.ref _)) _ _ _)); (fail_if_success (with_reducible show wpAny _ _ (call (Value.ref _) _ _) _ _ _)); (fail_if_success (with_reducible show wpAny _ _ (call (Value.builtin "next") _ _) _ _ _)); (fail_if_success (with_reducible show wpAny _ _ (eval (Expr.ListComp _ _ _ _) _) _ _ _)); (fail_if_success (with_reducible show LCg.CompEnd _ _ _ _ _ _ _ _ _ _ _ _ _ _)); (fail_if_success (with_reducible show LoopStep3 _ _ _ _ _ _ _ _ _ _)); (fail_if_success (with_reducible show LoopStepV _ _ _ _ _ _ _ _ _ _)); skip))); (fail_if_success (with_reducible show wpAny _ _ (storeName _ (Str.ofString "three") _) _ _ _)); (fail_if_success (with_reducible show wpAny _ _ (storeName _ (Str.ofString "words") _) _ _ _)); (fail_if_success (with_reducible show wpAny _ _ (binaryOp Operator.Add (Value.str _ _) (Value.str _ _)) _ _ _)); (fail_if_success (with_reducible show wpAny _ _ (compareOp CmpOp.NotEq (Value.ref _) (Value.ref _)) _ _ _)); (fail_if_success (with_reducible show wpAny _ _ (compareOp CmpOp.NotEq (Value.bytes _ _) (Value.bytes _ _)) _ _ _)); (fail_if_success (with_reducible show wpAny _ _ (call (Value.builtin "list.append") _) _ _ _)); (fail_if_success (with_reducible show wpAny _ _ (compareOp CmpOp.NotEq (Value.bool _) (Value.bool _)) _ _ _)); (fail_if_success (with_reducible show wpAny _ _ (PySem.eval (Expr.BoolOp _ _ _) (envOfC _ _ _ _ _)) _ _ _)); (fail_if_success (with_reducible show ValEnd _ _ _ _ _ _ _ _)); (fail_if_success (with_reducible show wpAny _ _ (call (Value.builtin "max") _) _ _ _)); (fail_if_success (with_reducible show wpAny _ _ (call (Value.builtin "min") _) _ _ _)); (fail_if_success (with_reducible show wpAny _ _ (call (Value.builtin "list.index") _) _ _ _)); (fail_if_success (with_reducible show wpAny _ _ (subscriptTail _ _ (Value.ref _) (Value.int (List.getD _ _ _) _)) _ _ _)); (fail_if_success (with_reducible show wpAny _ _ (subscriptTail _ _ (Value.ref _) (Value.int (Nat.cast _) _)) _ _ _)); (fail_if_success (with_reducible show wpAny _ _ (subscriptTail _ _ (Value.str _ _) (Value.ref _)) _ _ _)); (fail_if_success (with_reducible show wpAny _ _ (subscriptTail (Expr.Name (Str.ofString "whole") _) _ _ _) _ _ _)); (first | (((with_reducible show wpAny _ _ (PySem.eval (Expr.Name _ _) (envOfC _ _ _ _ _)) _ _ _); name_kind "cell"; (rename News _ _ _ _ => N'); (refine ldCN N' (by rfl) (by k_mem) (by assumption) ?_); walk_say "m cell")) | ((first | ((with_reducible show wpAny _ _ (storeName _ _ _) _ _ _); dsimp only; walk1) | ((first | (k_unfold; (try dsimp only)) | (k_end; wrow_close) | walk1 | (dsimp only; walk1) | (leave1; walk_say "STEP leave1"; try dsimp only) | fail "no step"))))))))))
          rename Fr _ _ _ _ => F12
          rename News _ _ _ _ => N12
          obtain ⟨as12, hrd⟩ := hOrd _ (fun p hp => (N12 p (by (repeat (refine List.Mem.tail _ ?_)); exact hb p hp)).1)
          refine index_lists (es := [Value.ref e0, .ref e1, .ref e2, .ref e3, .ref e4, .ref e5]) (News.get N12 (a := od5) (o := listOf #[Value.ref e0, .ref e1, .ref e2, .ref e3, .ref e4, .ref e5] 0) (by k_mem)) hrd (reads_newData (News.isList N12 (.head _)) (ke_carried (.cons _ _ (.cons _ _ (.cons _ _ .nil))))) hLq hNq (by show 4 + 3 + 64 < cLine; decide) (by omega) ?_
          replace N12 := news_sub N12 (fun p hp => List.Mem.tail _ hp)
          try dsimp only
          ((repeat' ((( ((( (fail_if_success (with_reducible show wpAny _ _ (exec (Stmt.For _ _ _ _ _) _) _ _ _)); (fail_if_success (with_reducible show wpAny _ _ (exec (Stmt.While _ _ _ _) _) _ _ _)); (fail_if_success (with_reducible show wpAny _ _ (pyIter (Value.ref _)) _ _ _)); (fail_if_success (with_reducible show wpAny _ _ (call (Value.ref _) _ _) _ _ _)); (fail_if_success (with_reducible show wpAny _ _ (call (Value.builtin "next") _ _) _ _ _)); (fail_if_success (with_reducible show wpAny _ _ (eval (Expr.ListComp _ _ _ _) _) _ _ _)); (fail_if_success (with_reducible show LCg.CompEnd _ _ _ _ _ _ _ _ _ _ _ _ _ _)); (fail_if_success (with_reducible show LoopStep3 _ _ _ _ _ _ _ _ _ _)); (fail_if_success (with_reducible show LoopStepV _ _ _ _ _ _ _ _ _ _)); skip))); (fail_if_success (with_reducible show wpAny _ _ (storeName _ (Str.ofString "three") _) _ _ _)); (fail_if_success (with_reducible show wpAny _ _ (storeName _ (Str.ofString "words") _) _ _ _)); (fail_if_success (with_reducible show wpAny _ _ (binaryOp Operator.Add (Value.str _ _) (Value.str _ _)) _ _ _)); (fail_if_success (with_reducible show wpAny _ _ (compareOp CmpOp.NotEq (Value.ref _) (Value.ref _)) _ _ _)); (fail_if_success (with_reducible show wpAny _ _ (compareOp CmpOp.NotEq (Value.bytes _ _) (Value.bytes _ _)) _ _ _)); (fail_if_success (with_reducible show wpAny _ _ (call (Value.builtin "list.append") _) _ _ _)); (fail_if_success (with_reducible show wpAny _ _ (compareOp CmpOp.NotEq (Value.bool _) (Value.bool _)) _ _ _)); (fail_if_success (with_reducible show wpAny _ _ (PySem.eval (Expr.BoolOp _ _ _) (envOfC _ _ _ _ _)) _ _ _)); (fail_if_success (with_reducible show ValEnd _ _ _ _ _ _ _ _)); (fail_if_success (with_reducible show wpAny _ _ (call (Value.builtin "max") _) _ _ _)); (fail_if_success (with_reducible show wpAny _ _ (call (Value.builtin "min") _) _ _ _)); (fail_if_success (with_reducible show wpAny _ _ (call (Value.builtin "list.index") _) _ _ _)); (fail_if_success (with_reducible show wpAny _ _ (subscriptTail _ _ (Value.ref _) (Value.int (List.getD _ _ _) _)) _ _ _)); (fail_if_success (with_reducible show wpAny _ _ (subscriptTail _ _ (Value.ref _) (Value.int (Nat.cast _) _)) _ _ _)); (fail_if_success (with_reducible show wpAny _ _ (subscriptTail _ _ (Value.str _ _) (Value.ref _)) _ _ _)); (fail_if_success (with_reducible show wpAny _ _ (subscriptTail (Expr.Name (Str.ofString "whole") _) _ _ _) _ _ _)); (first | (((with_reducible show wpAny _ _ (PySem.eval (Expr.Name _ _) (envOfC _ _ _ _ _)) _ _ _); name_kind "cell"; (rename News _ _ _ _ => N'); (refine ldCN N' (by rfl) (by k_mem) (by assumption) ?_); walk_say "m cell")) | ((first | ((with_reducible show wpAny _ _ (storeName _ _ _) _ _ _); dsimp only; walk1) | ((first | (k_unfold; (try dsimp only)) | (k_end; wrow_close) | walk1 | (dsimp only; walk1) | (leave1; walk_say "STEP leave1"; try dsimp only) | fail "no step"))))))))))
          rename News _ _ _ _ => N9
          refine sub_at (k := i) (vs := wv) (News.get N9 (a := whs) (o := listOf (List.toArray wv) k1) (by k_mem)) hw0 (by omega) ?_
          try dsimp only
          ((repeat' ((( ((( (fail_if_success (with_reducible show wpAny _ _ (exec (Stmt.For _ _ _ _ _) _) _ _ _)); (fail_if_success (with_reducible show wpAny _ _ (exec (Stmt.While _ _ _ _) _) _ _ _)); (fail_if_success (with_reducible show wpAny _ _ (pyIter (Value.ref _)) _ _ _)); (fail_if_success (with_reducible show wpAny _ _ (call (Value.ref _) _ _) _ _ _)); (fail_if_success (with_reducible show wpAny _ _ (call (Value.builtin "next") _ _) _ _ _)); (fail_if_success (with_reducible show wpAny _ _ (eval (Expr.ListComp _ _ _ _) _) _ _ _)); (fail_if_success (with_reducible show LCg.CompEnd _ _ _ _ _ _ _ _ _ _ _ _ _ _)); (fail_if_success (with_reducible show LoopStep3 _ _ _ _ _ _ _ _ _ _)); (fail_if_success (with_reducible show LoopStepV _ _ _ _ _ _ _ _ _ _)); skip))); (fail_if_success (with_reducible show wpAny _ _ (storeName _ (Str.ofString "three") _) _ _ _)); (fail_if_success (with_reducible show wpAny _ _ (storeName _ (Str.ofString "words") _) _ _ _)); (fail_if_success (with_reducible show wpAny _ _ (binaryOp Operator.Add (Value.str _ _) (Value.str _ _)) _ _ _)); (fail_if_success (with_reducible show wpAny _ _ (compareOp CmpOp.NotEq (Value.ref _) (Value.ref _)) _ _ _)); (fail_if_success (with_reducible show wpAny _ _ (compareOp CmpOp.NotEq (Value.bytes _ _) (Value.bytes _ _)) _ _ _)); (fail_if_success (with_reducible show wpAny _ _ (call (Value.builtin "list.append") _) _ _ _)); (fail_if_success (with_reducible show wpAny _ _ (compareOp CmpOp.NotEq (Value.bool _) (Value.bool _)) _ _ _)); (fail_if_success (with_reducible show wpAny _ _ (PySem.eval (Expr.BoolOp _ _ _) (envOfC _ _ _ _ _)) _ _ _)); (fail_if_success (with_reducible show ValEnd _ _ _ _ _ _ _ _)); (fail_if_success (with_reducible show wpAny _ _ (call (Value.builtin "max") _) _ _ _)); (fail_if_success (with_reducible show wpAny _ _ (call (Value.builtin "min") _) _ _ _)); (fail_if_success (with_reducible show wpAny _ _ (call (Value.builtin "list.index") _) _ _ _)); (fail_if_success (with_reducible show wpAny _ _ (subscriptTail _ _ (Value.ref _) (Value.int (List.getD _ _ _) _)) _ _ _)); (fail_if_success (with_reducible show wpAny _ _ (subscriptTail _ _ (Value.ref _) (Value.int (Nat.cast _) _)) _ _ _)); (fail_if_success (with_reducible show wpAny _ _ (subscriptTail _ _ (Value.str _ _) (Value.ref _)) _ _ _)); (fail_if_success (with_reducible show wpAny _ _ (subscriptTail (Expr.Name (Str.ofString "whole") _) _ _ _) _ _ _)); (first | (((with_reducible show wpAny _ _ (PySem.eval (Expr.Name _ _) (envOfC _ _ _ _ _)) _ _ _); name_kind "cell"; (rename News _ _ _ _ => N'); (refine ldCN N' (by rfl) (by k_mem) (by assumption) ?_); walk_say "m cell")) | ((first | ((with_reducible show wpAny _ _ (storeName _ _ _) _ _ _); dsimp only; walk1) | ((first | (k_unfold; (try dsimp only)) | (k_end; wrow_close) | walk1 | (dsimp only; walk1) | (leave1; walk_say "STEP leave1"; try dsimp only) | fail "no step"))))))))))
          rename News _ _ _ _ => N9
          refine sub_at (k := iq) (vs := wv) (News.get N9 (a := whs) (o := listOf (List.toArray wv) k1) (by k_mem)) hw1 (by omega) ?_
          try dsimp only
          ((repeat' ((( ((( (fail_if_success (with_reducible show wpAny _ _ (exec (Stmt.For _ _ _ _ _) _) _ _ _)); (fail_if_success (with_reducible show wpAny _ _ (exec (Stmt.While _ _ _ _) _) _ _ _)); (fail_if_success (with_reducible show wpAny _ _ (pyIter (Value.ref _)) _ _ _)); (fail_if_success (with_reducible show wpAny _ _ (call (Value.ref _) _ _) _ _ _)); (fail_if_success (with_reducible show wpAny _ _ (call (Value.builtin "next") _ _) _ _ _)); (fail_if_success (with_reducible show wpAny _ _ (eval (Expr.ListComp _ _ _ _) _) _ _ _)); (fail_if_success (with_reducible show LCg.CompEnd _ _ _ _ _ _ _ _ _ _ _ _ _ _)); (fail_if_success (with_reducible show LoopStep3 _ _ _ _ _ _ _ _ _ _)); (fail_if_success (with_reducible show LoopStepV _ _ _ _ _ _ _ _ _ _)); skip))); (fail_if_success (with_reducible show wpAny _ _ (storeName _ (Str.ofString "three") _) _ _ _)); (fail_if_success (with_reducible show wpAny _ _ (storeName _ (Str.ofString "words") _) _ _ _)); (fail_if_success (with_reducible show wpAny _ _ (binaryOp Operator.Add (Value.str _ _) (Value.str _ _)) _ _ _)); (fail_if_success (with_reducible show wpAny _ _ (compareOp CmpOp.NotEq (Value.ref _) (Value.ref _)) _ _ _)); (fail_if_success (with_reducible show wpAny _ _ (compareOp CmpOp.NotEq (Value.bytes _ _) (Value.bytes _ _)) _ _ _)); (fail_if_success (with_reducible show wpAny _ _ (call (Value.builtin "list.append") _) _ _ _)); (fail_if_success (with_reducible show wpAny _ _ (compareOp CmpOp.NotEq (Value.bool _) (Value.bool _)) _ _ _)); (fail_if_success (with_reducible show wpAny _ _ (PySem.eval (Expr.BoolOp _ _ _) (envOfC _ _ _ _ _)) _ _ _)); (fail_if_success (with_reducible show ValEnd _ _ _ _ _ _ _ _)); (fail_if_success (with_reducible show wpAny _ _ (call (Value.builtin "max") _) _ _ _)); (fail_if_success (with_reducible show wpAny _ _ (call (Value.builtin "min") _) _ _ _)); (fail_if_success (with_reducible show wpAny _ _ (call (Value.builtin "list.index") _) _ _ _)); (fail_if_success (with_reducible show wpAny _ _ (subscriptTail _ _ (Value.ref _) (Value.int (List.getD _ _ _) _)) _ _ _)); (fail_if_success (with_reducible show wpAny _ _ (subscriptTail _ _ (Value.ref _) (Value.int (Nat.cast _) _)) _ _ _)); (fail_if_success (with_reducible show wpAny _ _ (subscriptTail _ _ (Value.str _ _) (Value.ref _)) _ _ _)); (fail_if_success (with_reducible show wpAny _ _ (subscriptTail (Expr.Name (Str.ofString "whole") _) _ _ _) _ _ _)); (first | (((with_reducible show wpAny _ _ (PySem.eval (Expr.Name _ _) (envOfC _ _ _ _ _)) _ _ _); name_kind "cell"; (rename News _ _ _ _ => N'); (refine ldCN N' (by rfl) (by k_mem) (by assumption) ?_); walk_say "m cell")) | ((first | ((with_reducible show wpAny _ _ (storeName _ _ _) _ _ _); dsimp only; walk1) | ((first | (k_unfold; (try dsimp only)) | (k_end; wrow_close) | walk1 | (dsimp only; walk1) | (leave1; walk_say "STEP leave1"; try dsimp only) | fail "no step"))))))))))
          refine ne_bool_same (law_swap g1 q0 q1 q2) ?_
          try dsimp only
          ((repeat' ((( ((( (fail_if_success (with_reducible show wpAny _ _ (exec (Stmt.For _ _ _ _ _) _) _ _ _)); (fail_if_success (with_reducible show wpAny _ _ (exec (Stmt.While _ _ _ _) _) _ _ _)); (fail_if_success (with_reducible show wpAny _ _ (pyIter (Value.ref _)) _ _ _)); (fail_if_success (with_reducible show wpAny _ _ (call (Value.ref _) _ _) _ _ _)); (fail_if_success (with_reducible show wpAny _ _ (call (Value.builtin "next") _ _) _ _ _)); (fail_if_success (with_reducible show wpAny _ _ (eval (Expr.ListComp _ _ _ _) _) _ _ _)); (fail_if_success (with_reducible show LCg.CompEnd _ _ _ _ _ _ _ _ _ _ _ _ _ _)); (fail_if_success (with_reducible show LoopStep3 _ _ _ _ _ _ _ _ _ _)); (fail_if_success (with_reducible show LoopStepV _ _ _ _ _ _ _ _ _ _)); skip))); (fail_if_success (with_reducible show wpAny _ _ (storeName _ (Str.ofString "three") _) _ _ _)); (fail_if_success (with_reducible show wpAny _ _ (storeName _ (Str.ofString "words") _) _ _ _)); (fail_if_success (with_reducible show wpAny _ _ (binaryOp Operator.Add (Value.str _ _) (Value.str _ _)) _ _ _)); (fail_if_success (with_reducible show wpAny _ _ (compareOp CmpOp.NotEq (Value.ref _) (Value.ref _)) _ _ _)); (fail_if_success (with_reducible show wpAny _ _ (compareOp CmpOp.NotEq (Value.bytes _ _) (Value.bytes _ _)) _ _ _)); (fail_if_success (with_reducible show wpAny _ _ (call (Value.builtin "list.append") _) _ _ _)); (fail_if_success (with_reducible show wpAny _ _ (compareOp CmpOp.NotEq (Value.bool _) (Value.bool _)) _ _ _)); (fail_if_success (with_reducible show wpAny _ _ (PySem.eval (Expr.BoolOp _ _ _) (envOfC _ _ _ _ _)) _ _ _)); (fail_if_success (with_reducible show ValEnd _ _ _ _ _ _ _ _)); (fail_if_success (with_reducible show wpAny _ _ (call (Value.builtin "max") _) _ _ _)); (fail_if_success (with_reducible show wpAny _ _ (call (Value.builtin "min") _) _ _ _)); (fail_if_success (with_reducible show wpAny _ _ (call (Value.builtin "list.index") _) _ _ _)); (fail_if_success (with_reducible show wpAny _ _ (subscriptTail _ _ (Value.ref _) (Value.int (List.getD _ _ _) _)) _ _ _)); (fail_if_success (with_reducible show wpAny _ _ (subscriptTail _ _ (Value.ref _) (Value.int (Nat.cast _) _)) _ _ _)); (fail_if_success (with_reducible show wpAny _ _ (subscriptTail _ _ (Value.str _ _) (Value.ref _)) _ _ _)); (fail_if_success (with_reducible show wpAny _ _ (subscriptTail (Expr.Name (Str.ofString "whole") _) _ _ _) _ _ _)); (first | (((with_reducible show wpAny _ _ (PySem.eval (Expr.Name _ _) (envOfC _ _ _ _ _)) _ _ _); name_kind "cell"; (rename News _ _ _ _ => N'); (refine ldCN N' (by rfl) (by k_mem) (by assumption) ?_); walk_say "m cell")) | ((first | ((with_reducible show wpAny _ _ (storeName _ _ _) _ _ _); dsimp only; walk1) | ((first | (k_unfold; (try dsimp only)) | (k_end; wrow_close) | walk1 | (dsimp only; walk1) | (leave1; walk_say "STEP leave1"; try dsimp only) | fail "no step"))))))))))
          rename News _ _ _ _ => N9
          refine sub_at (k := q0) (vs := [.ref a0, .ref a1, .ref a2]) (News.get N9 (a := D) (o := listOf #[.ref a0, .ref a1, .ref a2] c) (by k_mem)) (by simpa using hx0) (by omega) ?_
          try dsimp only
          ((repeat' ((( ((( (fail_if_success (with_reducible show wpAny _ _ (exec (Stmt.For _ _ _ _ _) _) _ _ _)); (fail_if_success (with_reducible show wpAny _ _ (exec (Stmt.While _ _ _ _) _) _ _ _)); (fail_if_success (with_reducible show wpAny _ _ (pyIter (Value.ref _)) _ _ _)); (fail_if_success (with_reducible show wpAny _ _ (call (Value.ref _) _ _) _ _ _)); (fail_if_success (with_reducible show wpAny _ _ (call (Value.builtin "next") _ _) _ _ _)); (fail_if_success (with_reducible show wpAny _ _ (eval (Expr.ListComp _ _ _ _) _) _ _ _)); (fail_if_success (with_reducible show LCg.CompEnd _ _ _ _ _ _ _ _ _ _ _ _ _ _)); (fail_if_success (with_reducible show LoopStep3 _ _ _ _ _ _ _ _ _ _)); (fail_if_success (with_reducible show LoopStepV _ _ _ _ _ _ _ _ _ _)); skip))); (fail_if_success (with_reducible show wpAny _ _ (storeName _ (Str.ofString "three") _) _ _ _)); (fail_if_success (with_reducible show wpAny _ _ (storeName _ (Str.ofString "words") _) _ _ _)); (fail_if_success (with_reducible show wpAny _ _ (binaryOp Operator.Add (Value.str _ _) (Value.str _ _)) _ _ _)); (fail_if_success (with_reducible show wpAny _ _ (compareOp CmpOp.NotEq (Value.ref _) (Value.ref _)) _ _ _)); (fail_if_success (with_reducible show wpAny _ _ (compareOp CmpOp.NotEq (Value.bytes _ _) (Value.bytes _ _)) _ _ _)); (fail_if_success (with_reducible show wpAny _ _ (call (Value.builtin "list.append") _) _ _ _)); (fail_if_success (with_reducible show wpAny _ _ (compareOp CmpOp.NotEq (Value.bool _) (Value.bool _)) _ _ _)); (fail_if_success (with_reducible show wpAny _ _ (PySem.eval (Expr.BoolOp _ _ _) (envOfC _ _ _ _ _)) _ _ _)); (fail_if_success (with_reducible show ValEnd _ _ _ _ _ _ _ _)); (fail_if_success (with_reducible show wpAny _ _ (call (Value.builtin "max") _) _ _ _)); (fail_if_success (with_reducible show wpAny _ _ (call (Value.builtin "min") _) _ _ _)); (fail_if_success (with_reducible show wpAny _ _ (call (Value.builtin "list.index") _) _ _ _)); (fail_if_success (with_reducible show wpAny _ _ (subscriptTail _ _ (Value.ref _) (Value.int (List.getD _ _ _) _)) _ _ _)); (fail_if_success (with_reducible show wpAny _ _ (subscriptTail _ _ (Value.ref _) (Value.int (Nat.cast _) _)) _ _ _)); (fail_if_success (with_reducible show wpAny _ _ (subscriptTail _ _ (Value.str _ _) (Value.ref _)) _ _ _)); (fail_if_success (with_reducible show wpAny _ _ (subscriptTail (Expr.Name (Str.ofString "whole") _) _ _ _) _ _ _)); (first | (((with_reducible show wpAny _ _ (PySem.eval (Expr.Name _ _) (envOfC _ _ _ _ _)) _ _ _); name_kind "cell"; (rename News _ _ _ _ => N'); (refine ldCN N' (by rfl) (by k_mem) (by assumption) ?_); walk_say "m cell")) | ((first | ((with_reducible show wpAny _ _ (storeName _ _ _) _ _ _); dsimp only; walk1) | ((first | (k_unfold; (try dsimp only)) | (k_end; wrow_close) | walk1 | (dsimp only; walk1) | (leave1; walk_say "STEP leave1"; try dsimp only) | fail "no step"))))))))))
          rename News _ _ _ _ => N9
          refine sub_at (k := q1) (vs := [.ref a0, .ref a1, .ref a2]) (News.get N9 (a := D) (o := listOf #[.ref a0, .ref a1, .ref a2] c) (by k_mem)) (by simpa using hx1) (by omega) ?_
          try dsimp only
          ((repeat' ((( ((( (fail_if_success (with_reducible show wpAny _ _ (exec (Stmt.For _ _ _ _ _) _) _ _ _)); (fail_if_success (with_reducible show wpAny _ _ (exec (Stmt.While _ _ _ _) _) _ _ _)); (fail_if_success (with_reducible show wpAny _ _ (pyIter (Value.ref _)) _ _ _)); (fail_if_success (with_reducible show wpAny _ _ (call (Value.ref _) _ _) _ _ _)); (fail_if_success (with_reducible show wpAny _ _ (call (Value.builtin "next") _ _) _ _ _)); (fail_if_success (with_reducible show wpAny _ _ (eval (Expr.ListComp _ _ _ _) _) _ _ _)); (fail_if_success (with_reducible show LCg.CompEnd _ _ _ _ _ _ _ _ _ _ _ _ _ _)); (fail_if_success (with_reducible show LoopStep3 _ _ _ _ _ _ _ _ _ _)); (fail_if_success (with_reducible show LoopStepV _ _ _ _ _ _ _ _ _ _)); skip))); (fail_if_success (with_reducible show wpAny _ _ (storeName _ (Str.ofString "three") _) _ _ _)); (fail_if_success (with_reducible show wpAny _ _ (storeName _ (Str.ofString "words") _) _ _ _)); (fail_if_success (with_reducible show wpAny _ _ (binaryOp Operator.Add (Value.str _ _) (Value.str _ _)) _ _ _)); (fail_if_success (with_reducible show wpAny _ _ (compareOp CmpOp.NotEq (Value.ref _) (Value.ref _)) _ _ _)); (fail_if_success (with_reducible show wpAny _ _ (compareOp CmpOp.NotEq (Value.bytes _ _) (Value.bytes _ _)) _ _ _)); (fail_if_success (with_reducible show wpAny _ _ (call (Value.builtin "list.append") _) _ _ _)); (fail_if_success (with_reducible show wpAny _ _ (compareOp CmpOp.NotEq (Value.bool _) (Value.bool _)) _ _ _)); (fail_if_success (with_reducible show wpAny _ _ (PySem.eval (Expr.BoolOp _ _ _) (envOfC _ _ _ _ _)) _ _ _)); (fail_if_success (with_reducible show ValEnd _ _ _ _ _ _ _ _)); (fail_if_success (with_reducible show wpAny _ _ (call (Value.builtin "max") _) _ _ _)); (fail_if_success (with_reducible show wpAny _ _ (call (Value.builtin "min") _) _ _ _)); (fail_if_success (with_reducible show wpAny _ _ (call (Value.builtin "list.index") _) _ _ _)); (fail_if_success (with_reducible show wpAny _ _ (subscriptTail _ _ (Value.ref _) (Value.int (List.getD _ _ _) _)) _ _ _)); (fail_if_success (with_reducible show wpAny _ _ (subscriptTail _ _ (Value.ref _) (Value.int (Nat.cast _) _)) _ _ _)); (fail_if_success (with_reducible show wpAny _ _ (subscriptTail _ _ (Value.str _ _) (Value.ref _)) _ _ _)); (fail_if_success (with_reducible show wpAny _ _ (subscriptTail (Expr.Name (Str.ofString "whole") _) _ _ _) _ _ _)); (first | (((with_reducible show wpAny _ _ (PySem.eval (Expr.Name _ _) (envOfC _ _ _ _ _)) _ _ _); name_kind "cell"; (rename News _ _ _ _ => N'); (refine ldCN N' (by rfl) (by k_mem) (by assumption) ?_); walk_say "m cell")) | ((first | ((with_reducible show wpAny _ _ (storeName _ _ _) _ _ _); dsimp only; walk1) | ((first | (k_unfold; (try dsimp only)) | (k_end; wrow_close) | walk1 | (dsimp only; walk1) | (leave1; walk_say "STEP leave1"; try dsimp only) | fail "no step"))))))))))
          rename News _ _ _ _ => N9
          refine sub_at (k := q2) (vs := [.ref a0, .ref a1, .ref a2]) (News.get N9 (a := D) (o := listOf #[.ref a0, .ref a1, .ref a2] c) (by k_mem)) (by simpa using hx2) (by omega) ?_
          try dsimp only
          ((repeat' ((( ((( (fail_if_success (with_reducible show wpAny _ _ (exec (Stmt.For _ _ _ _ _) _) _ _ _)); (fail_if_success (with_reducible show wpAny _ _ (exec (Stmt.While _ _ _ _) _) _ _ _)); (fail_if_success (with_reducible show wpAny _ _ (pyIter (Value.ref _)) _ _ _)); (fail_if_success (with_reducible show wpAny _ _ (call (Value.ref _) _ _) _ _ _)); (fail_if_success (with_reducible show wpAny _ _ (call (Value.builtin "next") _ _) _ _ _)); (fail_if_success (with_reducible show wpAny _ _ (eval (Expr.ListComp _ _ _ _) _) _ _ _)); (fail_if_success (with_reducible show LCg.CompEnd _ _ _ _ _ _ _ _ _ _ _ _ _ _)); (fail_if_success (with_reducible show LoopStep3 _ _ _ _ _ _ _ _ _ _)); (fail_if_success (with_reducible show LoopStepV _ _ _ _ _ _ _ _ _ _)); skip))); (fail_if_success (with_reducible show wpAny _ _ (storeName _ (Str.ofString "three") _) _ _ _)); (fail_if_success (with_reducible show wpAny _ _ (storeName _ (Str.ofString "words") _) _ _ _)); (fail_if_success (with_reducible show wpAny _ _ (binaryOp Operator.Add (Value.str _ _) (Value.str _ _)) _ _ _)); (fail_if_success (with_reducible show wpAny _ _ (compareOp CmpOp.NotEq (Value.ref _) (Value.ref _)) _ _ _)); (fail_if_success (with_reducible show wpAny _ _ (compareOp CmpOp.NotEq (Value.bytes _ _) (Value.bytes _ _)) _ _ _)); (fail_if_success (with_reducible show wpAny _ _ (call (Value.builtin "list.append") _) _ _ _)); (fail_if_success (with_reducible show wpAny _ _ (compareOp CmpOp.NotEq (Value.bool _) (Value.bool _)) _ _ _)); (fail_if_success (with_reducible show wpAny _ _ (PySem.eval (Expr.BoolOp _ _ _) (envOfC _ _ _ _ _)) _ _ _)); (fail_if_success (with_reducible show ValEnd _ _ _ _ _ _ _ _)); (fail_if_success (with_reducible show wpAny _ _ (call (Value.builtin "max") _) _ _ _)); (fail_if_success (with_reducible show wpAny _ _ (call (Value.builtin "min") _) _ _ _)); (fail_if_success (with_reducible show wpAny _ _ (call (Value.builtin "list.index") _) _ _ _)); (fail_if_success (with_reducible show wpAny _ _ (subscriptTail _ _ (Value.ref _) (Value.int (List.getD _ _ _) _)) _ _ _)); (fail_if_success (with_reducible show wpAny _ _ (subscriptTail _ _ (Value.ref _) (Value.int (Nat.cast _) _)) _ _ _)); (fail_if_success (with_reducible show wpAny _ _ (subscriptTail _ _ (Value.str _ _) (Value.ref _)) _ _ _)); (fail_if_success (with_reducible show wpAny _ _ (subscriptTail (Expr.Name (Str.ofString "whole") _) _ _ _) _ _ _)); (first | (((with_reducible show wpAny _ _ (PySem.eval (Expr.Name _ _) (envOfC _ _ _ _ _)) _ _ _); name_kind "cell"; (rename News _ _ _ _ => N'); (refine ldCN N' (by rfl) (by k_mem) (by assumption) ?_); walk_say "m cell")) | ((first | ((with_reducible show wpAny _ _ (storeName _ _ _) _ _ _); dsimp only; walk1) | ((first | (k_unfold; (try dsimp only)) | (k_end; wrow_close) | walk1 | (dsimp only; walk1) | (leave1; walk_say "STEP leave1"; try dsimp only) | fail "no step"))))))))))
          rename IntsAre _ (g q1 ++ g q2) => hJ12
          rename Fr _ _ _ _ => F9
          rename News _ _ _ _ => N9
          refine lead_call (KX.keeps F9.keep) (T.keeps F9.keep) (by show 1 + claimMargin + 1 + 6 < recursionLimit; decide) rfl (News.isList N9 (a := x0) (items := List.toArray u0) (n := f0) (by k_mem)) hu0 (by omega) (News.isList N9 (.head _)) hJ12 (by rw [List.length_append]; omega) fun t65 h65 tk65 hk65 => ?_
          have F10 := F9.after hk65
          have N10 : News _ _ _ _ := fun p hp => N9.grown hk65 p (.tail _ hp)
          clear F9 N9
          try dsimp only
          ((repeat' ((( ((( (fail_if_success (with_reducible show wpAny _ _ (exec (Stmt.For _ _ _ _ _) _) _ _ _)); (fail_if_success (with_reducible show wpAny _ _ (exec (Stmt.While _ _ _ _) _) _ _ _)); (fail_if_success (with_reducible show wpAny _ _ (pyIter (Value.ref _)) _ _ _)); (fail_if_success (with_reducible show wpAny _ _ (call (Value.ref _) _ _) _ _ _)); (fail_if_success (with_reducible show wpAny _ _ (call (Value.builtin "next") _ _) _ _ _)); (fail_if_success (with_reducible show wpAny _ _ (eval (Expr.ListComp _ _ _ _) _) _ _ _)); (fail_if_success (with_reducible show LCg.CompEnd _ _ _ _ _ _ _ _ _ _ _ _ _ _)); (fail_if_success (with_reducible show LoopStep3 _ _ _ _ _ _ _ _ _ _)); (fail_if_success (with_reducible show LoopStepV _ _ _ _ _ _ _ _ _ _)); skip))); (fail_if_success (with_reducible show wpAny _ _ (storeName _ (Str.ofString "three") _) _ _ _)); (fail_if_success (with_reducible show wpAny _ _ (storeName _ (Str.ofString "words") _) _ _ _)); (fail_if_success (with_reducible show wpAny _ _ (binaryOp Operator.Add (Value.str _ _) (Value.str _ _)) _ _ _)); (fail_if_success (with_reducible show wpAny _ _ (compareOp CmpOp.NotEq (Value.ref _) (Value.ref _)) _ _ _)); (fail_if_success (with_reducible show wpAny _ _ (compareOp CmpOp.NotEq (Value.bytes _ _) (Value.bytes _ _)) _ _ _)); (fail_if_success (with_reducible show wpAny _ _ (call (Value.builtin "list.append") _) _ _ _)); (fail_if_success (with_reducible show wpAny _ _ (compareOp CmpOp.NotEq (Value.bool _) (Value.bool _)) _ _ _)); (fail_if_success (with_reducible show wpAny _ _ (PySem.eval (Expr.BoolOp _ _ _) (envOfC _ _ _ _ _)) _ _ _)); (fail_if_success (with_reducible show ValEnd _ _ _ _ _ _ _ _)); (fail_if_success (with_reducible show wpAny _ _ (call (Value.builtin "max") _) _ _ _)); (fail_if_success (with_reducible show wpAny _ _ (call (Value.builtin "min") _) _ _ _)); (fail_if_success (with_reducible show wpAny _ _ (call (Value.builtin "list.index") _) _ _ _)); (fail_if_success (with_reducible show wpAny _ _ (subscriptTail _ _ (Value.ref _) (Value.int (List.getD _ _ _) _)) _ _ _)); (fail_if_success (with_reducible show wpAny _ _ (subscriptTail _ _ (Value.ref _) (Value.int (Nat.cast _) _)) _ _ _)); (fail_if_success (with_reducible show wpAny _ _ (subscriptTail _ _ (Value.str _ _) (Value.ref _)) _ _ _)); (fail_if_success (with_reducible show wpAny _ _ (subscriptTail (Expr.Name (Str.ofString "whole") _) _ _ _) _ _ _)); (first | (((with_reducible show wpAny _ _ (PySem.eval (Expr.Name _ _) (envOfC _ _ _ _ _)) _ _ _); name_kind "cell"; (rename News _ _ _ _ => N'); (refine ldCN N' (by rfl) (by k_mem) (by assumption) ?_); walk_say "m cell")) | ((first | ((with_reducible show wpAny _ _ (storeName _ _ _) _ _ _); dsimp only; walk1) | ((first | (k_unfold; (try dsimp only)) | (k_end; wrow_close) | walk1 | (dsimp only; walk1) | (leave1; walk_say "STEP leave1"; try dsimp only) | fail "no step"))))))))))
          rename News _ _ _ _ => N12
          obtain ⟨as12, hrd⟩ := hOrd _ (fun p hp => (N12 p (by (repeat (refine List.Mem.tail _ ?_)); exact hb p hp)).1)
          refine index_lists (es := [Value.ref e0, .ref e1, .ref e2, .ref e3, .ref e4, .ref e5]) (News.get N12 (a := od5) (o := listOf #[Value.ref e0, .ref e1, .ref e2, .ref e3, .ref e4, .ref e5] 0) (by k_mem)) hrd (reads_newData (News.isList N12 (.head _)) (ke_carried (.cons _ _ (.cons _ _ (.cons _ _ .nil))))) hLl hNl (by show 4 + 3 + 64 < cLine; decide) (by omega) ?_
          replace N12 := news_sub N12 (fun p hp => List.Mem.tail _ hp)
          try dsimp only
          ((repeat' ((( ((( (fail_if_success (with_reducible show wpAny _ _ (exec (Stmt.For _ _ _ _ _) _) _ _ _)); (fail_if_success (with_reducible show wpAny _ _ (exec (Stmt.While _ _ _ _) _) _ _ _)); (fail_if_success (with_reducible show wpAny _ _ (pyIter (Value.ref _)) _ _ _)); (fail_if_success (with_reducible show wpAny _ _ (call (Value.ref _) _ _) _ _ _)); (fail_if_success (with_reducible show wpAny _ _ (call (Value.builtin "next") _ _) _ _ _)); (fail_if_success (with_reducible show wpAny _ _ (eval (Expr.ListComp _ _ _ _) _) _ _ _)); (fail_if_success (with_reducible show LCg.CompEnd _ _ _ _ _ _ _ _ _ _ _ _ _ _)); (fail_if_success (with_reducible show LoopStep3 _ _ _ _ _ _ _ _ _ _)); (fail_if_success (with_reducible show LoopStepV _ _ _ _ _ _ _ _ _ _)); skip))); (fail_if_success (with_reducible show wpAny _ _ (storeName _ (Str.ofString "three") _) _ _ _)); (fail_if_success (with_reducible show wpAny _ _ (storeName _ (Str.ofString "words") _) _ _ _)); (fail_if_success (with_reducible show wpAny _ _ (binaryOp Operator.Add (Value.str _ _) (Value.str _ _)) _ _ _)); (fail_if_success (with_reducible show wpAny _ _ (compareOp CmpOp.NotEq (Value.ref _) (Value.ref _)) _ _ _)); (fail_if_success (with_reducible show wpAny _ _ (compareOp CmpOp.NotEq (Value.bytes _ _) (Value.bytes _ _)) _ _ _)); (fail_if_success (with_reducible show wpAny _ _ (call (Value.builtin "list.append") _) _ _ _)); (fail_if_success (with_reducible show wpAny _ _ (compareOp CmpOp.NotEq (Value.bool _) (Value.bool _)) _ _ _)); (fail_if_success (with_reducible show wpAny _ _ (PySem.eval (Expr.BoolOp _ _ _) (envOfC _ _ _ _ _)) _ _ _)); (fail_if_success (with_reducible show ValEnd _ _ _ _ _ _ _ _)); (fail_if_success (with_reducible show wpAny _ _ (call (Value.builtin "max") _) _ _ _)); (fail_if_success (with_reducible show wpAny _ _ (call (Value.builtin "min") _) _ _ _)); (fail_if_success (with_reducible show wpAny _ _ (call (Value.builtin "list.index") _) _ _ _)); (fail_if_success (with_reducible show wpAny _ _ (subscriptTail _ _ (Value.ref _) (Value.int (List.getD _ _ _) _)) _ _ _)); (fail_if_success (with_reducible show wpAny _ _ (subscriptTail _ _ (Value.ref _) (Value.int (Nat.cast _) _)) _ _ _)); (fail_if_success (with_reducible show wpAny _ _ (subscriptTail _ _ (Value.str _ _) (Value.ref _)) _ _ _)); (fail_if_success (with_reducible show wpAny _ _ (subscriptTail (Expr.Name (Str.ofString "whole") _) _ _ _) _ _ _)); (first | (((with_reducible show wpAny _ _ (PySem.eval (Expr.Name _ _) (envOfC _ _ _ _ _)) _ _ _); name_kind "cell"; (rename News _ _ _ _ => N'); (refine ldCN N' (by rfl) (by k_mem) (by assumption) ?_); walk_say "m cell")) | ((first | ((with_reducible show wpAny _ _ (storeName _ _ _) _ _ _); dsimp only; walk1) | ((first | (k_unfold; (try dsimp only)) | (k_end; wrow_close) | walk1 | (dsimp only; walk1) | (leave1; walk_say "STEP leave1"; try dsimp only) | fail "no step"))))))))))
          rename News _ _ _ _ => N9
          refine sub_at (k := il) (vs := wv) (News.get N9 (a := whs) (o := listOf (List.toArray wv) k1) (by k_mem)) hw2 (by omega) ?_
          try dsimp only
          ((repeat' ((( ((( (fail_if_success (with_reducible show wpAny _ _ (exec (Stmt.For _ _ _ _ _) _) _ _ _)); (fail_if_success (with_reducible show wpAny _ _ (exec (Stmt.While _ _ _ _) _) _ _ _)); (fail_if_success (with_reducible show wpAny _ _ (pyIter (Value.ref _)) _ _ _)); (fail_if_success (with_reducible show wpAny _ _ (call (Value.ref _) _ _) _ _ _)); (fail_if_success (with_reducible show wpAny _ _ (call (Value.builtin "next") _ _) _ _ _)); (fail_if_success (with_reducible show wpAny _ _ (eval (Expr.ListComp _ _ _ _) _) _ _ _)); (fail_if_success (with_reducible show LCg.CompEnd _ _ _ _ _ _ _ _ _ _ _ _ _ _)); (fail_if_success (with_reducible show LoopStep3 _ _ _ _ _ _ _ _ _ _)); (fail_if_success (with_reducible show LoopStepV _ _ _ _ _ _ _ _ _ _)); skip))); (fail_if_success (with_reducible show wpAny _ _ (storeName _ (Str.ofString "three") _) _ _ _)); (fail_if_success (with_reducible show wpAny _ _ (storeName _ (Str.ofString "words") _) _ _ _)); (fail_if_success (with_reducible show wpAny _ _ (binaryOp Operator.Add (Value.str _ _) (Value.str _ _)) _ _ _)); (fail_if_success (with_reducible show wpAny _ _ (compareOp CmpOp.NotEq (Value.ref _) (Value.ref _)) _ _ _)); (fail_if_success (with_reducible show wpAny _ _ (compareOp CmpOp.NotEq (Value.bytes _ _) (Value.bytes _ _)) _ _ _)); (fail_if_success (with_reducible show wpAny _ _ (call (Value.builtin "list.append") _) _ _ _)); (fail_if_success (with_reducible show wpAny _ _ (compareOp CmpOp.NotEq (Value.bool _) (Value.bool _)) _ _ _)); (fail_if_success (with_reducible show wpAny _ _ (PySem.eval (Expr.BoolOp _ _ _) (envOfC _ _ _ _ _)) _ _ _)); (fail_if_success (with_reducible show ValEnd _ _ _ _ _ _ _ _)); (fail_if_success (with_reducible show wpAny _ _ (call (Value.builtin "max") _) _ _ _)); (fail_if_success (with_reducible show wpAny _ _ (call (Value.builtin "min") _) _ _ _)); (fail_if_success (with_reducible show wpAny _ _ (call (Value.builtin "list.index") _) _ _ _)); (fail_if_success (with_reducible show wpAny _ _ (subscriptTail _ _ (Value.ref _) (Value.int (List.getD _ _ _) _)) _ _ _)); (fail_if_success (with_reducible show wpAny _ _ (subscriptTail _ _ (Value.ref _) (Value.int (Nat.cast _) _)) _ _ _)); (fail_if_success (with_reducible show wpAny _ _ (subscriptTail _ _ (Value.str _ _) (Value.ref _)) _ _ _)); (fail_if_success (with_reducible show wpAny _ _ (subscriptTail (Expr.Name (Str.ofString "whole") _) _ _ _) _ _ _)); (first | (((with_reducible show wpAny _ _ (PySem.eval (Expr.Name _ _) (envOfC _ _ _ _ _)) _ _ _); name_kind "cell"; (rename News _ _ _ _ => N'); (refine ldCN N' (by rfl) (by k_mem) (by assumption) ?_); walk_say "m cell")) | ((first | ((with_reducible show wpAny _ _ (storeName _ _ _) _ _ _); dsimp only; walk1) | ((first | (k_unfold; (try dsimp only)) | (k_end; wrow_close) | walk1 | (dsimp only; walk1) | (leave1; walk_say "STEP leave1"; try dsimp only) | fail "no step"))))))))))
          rename News _ _ _ _ => N9
          refine sub_at (k := i) (vs := wv) (News.get N9 (a := whs) (o := listOf (List.toArray wv) k1) (by k_mem)) hw0 (by omega) ?_
          try dsimp only
          ((repeat' ((( ((( (fail_if_success (with_reducible show wpAny _ _ (exec (Stmt.For _ _ _ _ _) _) _ _ _)); (fail_if_success (with_reducible show wpAny _ _ (exec (Stmt.While _ _ _ _) _) _ _ _)); (fail_if_success (with_reducible show wpAny _ _ (pyIter (Value.ref _)) _ _ _)); (fail_if_success (with_reducible show wpAny _ _ (call (Value.ref _) _ _) _ _ _)); (fail_if_success (with_reducible show wpAny _ _ (call (Value.builtin "next") _ _) _ _ _)); (fail_if_success (with_reducible show wpAny _ _ (eval (Expr.ListComp _ _ _ _) _) _ _ _)); (fail_if_success (with_reducible show LCg.CompEnd _ _ _ _ _ _ _ _ _ _ _ _ _ _)); (fail_if_success (with_reducible show LoopStep3 _ _ _ _ _ _ _ _ _ _)); (fail_if_success (with_reducible show LoopStepV _ _ _ _ _ _ _ _ _ _)); skip))); (fail_if_success (with_reducible show wpAny _ _ (storeName _ (Str.ofString "three") _) _ _ _)); (fail_if_success (with_reducible show wpAny _ _ (storeName _ (Str.ofString "words") _) _ _ _)); (fail_if_success (with_reducible show wpAny _ _ (binaryOp Operator.Add (Value.str _ _) (Value.str _ _)) _ _ _)); (fail_if_success (with_reducible show wpAny _ _ (compareOp CmpOp.NotEq (Value.ref _) (Value.ref _)) _ _ _)); (fail_if_success (with_reducible show wpAny _ _ (compareOp CmpOp.NotEq (Value.bytes _ _) (Value.bytes _ _)) _ _ _)); (fail_if_success (with_reducible show wpAny _ _ (call (Value.builtin "list.append") _) _ _ _)); (fail_if_success (with_reducible show wpAny _ _ (compareOp CmpOp.NotEq (Value.bool _) (Value.bool _)) _ _ _)); (fail_if_success (with_reducible show wpAny _ _ (PySem.eval (Expr.BoolOp _ _ _) (envOfC _ _ _ _ _)) _ _ _)); (fail_if_success (with_reducible show ValEnd _ _ _ _ _ _ _ _)); (fail_if_success (with_reducible show wpAny _ _ (call (Value.builtin "max") _) _ _ _)); (fail_if_success (with_reducible show wpAny _ _ (call (Value.builtin "min") _) _ _ _)); (fail_if_success (with_reducible show wpAny _ _ (call (Value.builtin "list.index") _) _ _ _)); (fail_if_success (with_reducible show wpAny _ _ (subscriptTail _ _ (Value.ref _) (Value.int (List.getD _ _ _) _)) _ _ _)); (fail_if_success (with_reducible show wpAny _ _ (subscriptTail _ _ (Value.ref _) (Value.int (Nat.cast _) _)) _ _ _)); (fail_if_success (with_reducible show wpAny _ _ (subscriptTail _ _ (Value.str _ _) (Value.ref _)) _ _ _)); (fail_if_success (with_reducible show wpAny _ _ (subscriptTail (Expr.Name (Str.ofString "whole") _) _ _ _) _ _ _)); (first | (((with_reducible show wpAny _ _ (PySem.eval (Expr.Name _ _) (envOfC _ _ _ _ _)) _ _ _); name_kind "cell"; (rename News _ _ _ _ => N'); (refine ldCN N' (by rfl) (by k_mem) (by assumption) ?_); walk_say "m cell")) | ((first | ((with_reducible show wpAny _ _ (storeName _ _ _) _ _ _); dsimp only; walk1) | ((first | (k_unfold; (try dsimp only)) | (k_end; wrow_close) | walk1 | (dsimp only; walk1) | (leave1; walk_say "STEP leave1"; try dsimp only) | fail "no step"))))))))))
          rename News _ _ _ _ => N9
          refine sub_at (k := i) (vs := wv) (News.get N9 (a := whs) (o := listOf (List.toArray wv) k1) (by k_mem)) hw0 (by omega) ?_
          try dsimp only
          ((repeat' ((( ((( (fail_if_success (with_reducible show wpAny _ _ (exec (Stmt.For _ _ _ _ _) _) _ _ _)); (fail_if_success (with_reducible show wpAny _ _ (exec (Stmt.While _ _ _ _) _) _ _ _)); (fail_if_success (with_reducible show wpAny _ _ (pyIter (Value.ref _)) _ _ _)); (fail_if_success (with_reducible show wpAny _ _ (call (Value.ref _) _ _) _ _ _)); (fail_if_success (with_reducible show wpAny _ _ (call (Value.builtin "next") _ _) _ _ _)); (fail_if_success (with_reducible show wpAny _ _ (eval (Expr.ListComp _ _ _ _) _) _ _ _)); (fail_if_success (with_reducible show LCg.CompEnd _ _ _ _ _ _ _ _ _ _ _ _ _ _)); (fail_if_success (with_reducible show LoopStep3 _ _ _ _ _ _ _ _ _ _)); (fail_if_success (with_reducible show LoopStepV _ _ _ _ _ _ _ _ _ _)); skip))); (fail_if_success (with_reducible show wpAny _ _ (storeName _ (Str.ofString "three") _) _ _ _)); (fail_if_success (with_reducible show wpAny _ _ (storeName _ (Str.ofString "words") _) _ _ _)); (fail_if_success (with_reducible show wpAny _ _ (binaryOp Operator.Add (Value.str _ _) (Value.str _ _)) _ _ _)); (fail_if_success (with_reducible show wpAny _ _ (compareOp CmpOp.NotEq (Value.ref _) (Value.ref _)) _ _ _)); (fail_if_success (with_reducible show wpAny _ _ (compareOp CmpOp.NotEq (Value.bytes _ _) (Value.bytes _ _)) _ _ _)); (fail_if_success (with_reducible show wpAny _ _ (call (Value.builtin "list.append") _) _ _ _)); (fail_if_success (with_reducible show wpAny _ _ (compareOp CmpOp.NotEq (Value.bool _) (Value.bool _)) _ _ _)); (fail_if_success (with_reducible show wpAny _ _ (PySem.eval (Expr.BoolOp _ _ _) (envOfC _ _ _ _ _)) _ _ _)); (fail_if_success (with_reducible show ValEnd _ _ _ _ _ _ _ _)); (fail_if_success (with_reducible show wpAny _ _ (call (Value.builtin "max") _) _ _ _)); (fail_if_success (with_reducible show wpAny _ _ (call (Value.builtin "min") _) _ _ _)); (fail_if_success (with_reducible show wpAny _ _ (call (Value.builtin "list.index") _) _ _ _)); (fail_if_success (with_reducible show wpAny _ _ (subscriptTail _ _ (Value.ref _) (Value.int (List.getD _ _ _) _)) _ _ _)); (fail_if_success (with_reducible show wpAny _ _ (subscriptTail _ _ (Value.ref _) (Value.int (Nat.cast _) _)) _ _ _)); (fail_if_success (with_reducible show wpAny _ _ (subscriptTail _ _ (Value.str _ _) (Value.ref _)) _ _ _)); (fail_if_success (with_reducible show wpAny _ _ (subscriptTail (Expr.Name (Str.ofString "whole") _) _ _ _) _ _ _)); (first | (((with_reducible show wpAny _ _ (PySem.eval (Expr.Name _ _) (envOfC _ _ _ _ _)) _ _ _); name_kind "cell"; (rename News _ _ _ _ => N'); (refine ldCN N' (by rfl) (by k_mem) (by assumption) ?_); walk_say "m cell")) | ((first | ((with_reducible show wpAny _ _ (storeName _ _ _) _ _ _); dsimp only; walk1) | ((first | (k_unfold; (try dsimp only)) | (k_end; wrow_close) | walk1 | (dsimp only; walk1) | (leave1; walk_say "STEP leave1"; try dsimp only) | fail "no step"))))))))))
          rename News _ _ _ _ => N13
          obtain ⟨lw1, lw2⟩ := law_around g1 q0 q1 q2
          refine ne_bools2 (News.get N13 (.tail _ (.head _))) (News.get N13 (.head _)) rfl rfl rfl rfl lw1 lw2 (by show 4 + 3 + 64 < cLine; decide) ?_
          replace N13 := news_sub N13 (fun p hp => List.Mem.tail _ (.tail _ hp))
          try dsimp only
          ((repeat' ((( ((( (fail_if_success (with_reducible show wpAny _ _ (exec (Stmt.For _ _ _ _ _) _) _ _ _)); (fail_if_success (with_reducible show wpAny _ _ (exec (Stmt.While _ _ _ _) _) _ _ _)); (fail_if_success (with_reducible show wpAny _ _ (pyIter (Value.ref _)) _ _ _)); (fail_if_success (with_reducible show wpAny _ _ (call (Value.ref _) _ _) _ _ _)); (fail_if_success (with_reducible show wpAny _ _ (call (Value.builtin "next") _ _) _ _ _)); (fail_if_success (with_reducible show wpAny _ _ (eval (Expr.ListComp _ _ _ _) _) _ _ _)); (fail_if_success (with_reducible show LCg.CompEnd _ _ _ _ _ _ _ _ _ _ _ _ _ _)); (fail_if_success (with_reducible show LoopStep3 _ _ _ _ _ _ _ _ _ _)); (fail_if_success (with_reducible show LoopStepV _ _ _ _ _ _ _ _ _ _)); skip))); (fail_if_success (with_reducible show wpAny _ _ (storeName _ (Str.ofString "three") _) _ _ _)); (fail_if_success (with_reducible show wpAny _ _ (storeName _ (Str.ofString "words") _) _ _ _)); (fail_if_success (with_reducible show wpAny _ _ (binaryOp Operator.Add (Value.str _ _) (Value.str _ _)) _ _ _)); (fail_if_success (with_reducible show wpAny _ _ (compareOp CmpOp.NotEq (Value.ref _) (Value.ref _)) _ _ _)); (fail_if_success (with_reducible show wpAny _ _ (compareOp CmpOp.NotEq (Value.bytes _ _) (Value.bytes _ _)) _ _ _)); (fail_if_success (with_reducible show wpAny _ _ (call (Value.builtin "list.append") _) _ _ _)); (fail_if_success (with_reducible show wpAny _ _ (compareOp CmpOp.NotEq (Value.bool _) (Value.bool _)) _ _ _)); (fail_if_success (with_reducible show wpAny _ _ (PySem.eval (Expr.BoolOp _ _ _) (envOfC _ _ _ _ _)) _ _ _)); (fail_if_success (with_reducible show ValEnd _ _ _ _ _ _ _ _)); (fail_if_success (with_reducible show wpAny _ _ (call (Value.builtin "max") _) _ _ _)); (fail_if_success (with_reducible show wpAny _ _ (call (Value.builtin "min") _) _ _ _)); (fail_if_success (with_reducible show wpAny _ _ (call (Value.builtin "list.index") _) _ _ _)); (fail_if_success (with_reducible show wpAny _ _ (subscriptTail _ _ (Value.ref _) (Value.int (List.getD _ _ _) _)) _ _ _)); (fail_if_success (with_reducible show wpAny _ _ (subscriptTail _ _ (Value.ref _) (Value.int (Nat.cast _) _)) _ _ _)); (fail_if_success (with_reducible show wpAny _ _ (subscriptTail _ _ (Value.str _ _) (Value.ref _)) _ _ _)); (fail_if_success (with_reducible show wpAny _ _ (subscriptTail (Expr.Name (Str.ofString "whole") _) _ _ _) _ _ _)); (first | (((with_reducible show wpAny _ _ (PySem.eval (Expr.Name _ _) (envOfC _ _ _ _ _)) _ _ _); name_kind "cell"; (rename News _ _ _ _ => N'); (refine ldCN N' (by rfl) (by k_mem) (by assumption) ?_); walk_say "m cell")) | ((first | ((with_reducible show wpAny _ _ (storeName _ _ _) _ _ _); dsimp only; walk1) | ((first | (k_unfold; (try dsimp only)) | (k_end; wrow_close) | walk1 | (dsimp only; walk1) | (leave1; walk_say "STEP leave1"; try dsimp only) | fail "no step"))))))))))
          · rename Fr _ _ _ _ => F9
            refine zip_comp rfl F9 (by rfl) (by decide) (by rfl) (by decide) (by rfl) (by rfl) (by decide) ?_
            ((repeat' ((( ((( (fail_if_success (with_reducible show wpAny _ _ (exec (Stmt.For _ _ _ _ _) _) _ _ _)); (fail_if_success (with_reducible show wpAny _ _ (exec (Stmt.While _ _ _ _) _) _ _ _)); (fail_if_success (with_reducible show wpAny _ _ (pyIter (Value.ref _)) _ _ _)); (fail_if_success (with_reducible show wpAny _ _ (call (Value.ref _) _ _) _ _ _)); (fail_if_success (with_reducible show wpAny _ _ (call (Value.builtin "next") _ _) _ _ _)); (fail_if_success (with_reducible show wpAny _ _ (eval (Expr.ListComp _ _ _ _) _) _ _ _)); (fail_if_success (with_reducible show LCg.CompEnd _ _ _ _ _ _ _ _ _ _ _ _ _ _)); (fail_if_success (with_reducible show LoopStep3 _ _ _ _ _ _ _ _ _ _)); (fail_if_success (with_reducible show LoopStepV _ _ _ _ _ _ _ _ _ _)); skip))); (fail_if_success (with_reducible show wpAny _ _ (storeName _ (Str.ofString "three") _) _ _ _)); (fail_if_success (with_reducible show wpAny _ _ (storeName _ (Str.ofString "words") _) _ _ _)); (fail_if_success (with_reducible show wpAny _ _ (binaryOp Operator.Add (Value.str _ _) (Value.str _ _)) _ _ _)); (fail_if_success (with_reducible show wpAny _ _ (compareOp CmpOp.NotEq (Value.ref _) (Value.ref _)) _ _ _)); (fail_if_success (with_reducible show wpAny _ _ (compareOp CmpOp.NotEq (Value.bytes _ _) (Value.bytes _ _)) _ _ _)); (fail_if_success (with_reducible show wpAny _ _ (call (Value.builtin "list.append") _) _ _ _)); (fail_if_success (with_reducible show wpAny _ _ (compareOp CmpOp.NotEq (Value.bool _) (Value.bool _)) _ _ _)); (fail_if_success (with_reducible show wpAny _ _ (PySem.eval (Expr.BoolOp _ _ _) (envOfC _ _ _ _ _)) _ _ _)); (fail_if_success (with_reducible show ValEnd _ _ _ _ _ _ _ _)); (fail_if_success (with_reducible show wpAny _ _ (call (Value.builtin "max") _) _ _ _)); (fail_if_success (with_reducible show wpAny _ _ (call (Value.builtin "min") _) _ _ _)); (fail_if_success (with_reducible show wpAny _ _ (call (Value.builtin "list.index") _) _ _ _)); (fail_if_success (with_reducible show wpAny _ _ (subscriptTail _ _ (Value.ref _) (Value.int (List.getD _ _ _) _)) _ _ _)); (fail_if_success (with_reducible show wpAny _ _ (subscriptTail _ _ (Value.ref _) (Value.int (Nat.cast _) _)) _ _ _)); (fail_if_success (with_reducible show wpAny _ _ (subscriptTail _ _ (Value.str _ _) (Value.ref _)) _ _ _)); (fail_if_success (with_reducible show wpAny _ _ (subscriptTail (Expr.Name (Str.ofString "whole") _) _ _ _) _ _ _)); (first | (((with_reducible show wpAny _ _ (PySem.eval (Expr.Name _ _) (envOfC _ _ _ _ _)) _ _ _); name_kind "cell"; (rename News _ _ _ _ => N'); (refine ldCN N' (by rfl) (by k_mem) (by assumption) ?_); walk_say "m cell")) | ((first | ((with_reducible show wpAny _ _ (storeName _ _ _) _ _ _); dsimp only; walk1) | ((first | (k_unfold; (try dsimp only)) | (k_end; wrow_close) | walk1 | (dsimp only; walk1) | (leave1; walk_say "STEP leave1"; try dsimp only) | fail "no step"))))))))))
            rename News _ _ _ _ => N9
            refine sub_at (k := i) (vs := rv) (News.get N9 (a := rws) (o := listOf (List.toArray rv) k2) (by k_mem)) hr0 (by omega) ?_
            try dsimp only
            ((repeat' ((( ((( (fail_if_success (with_reducible show wpAny _ _ (exec (Stmt.For _ _ _ _ _) _) _ _ _)); (fail_if_success (with_reducible show wpAny _ _ (exec (Stmt.While _ _ _ _) _) _ _ _)); (fail_if_success (with_reducible show wpAny _ _ (pyIter (Value.ref _)) _ _ _)); (fail_if_success (with_reducible show wpAny _ _ (call (Value.ref _) _ _) _ _ _)); (fail_if_success (with_reducible show wpAny _ _ (call (Value.builtin "next") _ _) _ _ _)); (fail_if_success (with_reducible show wpAny _ _ (eval (Expr.ListComp _ _ _ _) _) _ _ _)); (fail_if_success (with_reducible show LCg.CompEnd _ _ _ _ _ _ _ _ _ _ _ _ _ _)); (fail_if_success (with_reducible show LoopStep3 _ _ _ _ _ _ _ _ _ _)); (fail_if_success (with_reducible show LoopStepV _ _ _ _ _ _ _ _ _ _)); skip))); (fail_if_success (with_reducible show wpAny _ _ (storeName _ (Str.ofString "three") _) _ _ _)); (fail_if_success (with_reducible show wpAny _ _ (storeName _ (Str.ofString "words") _) _ _ _)); (fail_if_success (with_reducible show wpAny _ _ (binaryOp Operator.Add (Value.str _ _) (Value.str _ _)) _ _ _)); (fail_if_success (with_reducible show wpAny _ _ (compareOp CmpOp.NotEq (Value.ref _) (Value.ref _)) _ _ _)); (fail_if_success (with_reducible show wpAny _ _ (compareOp CmpOp.NotEq (Value.bytes _ _) (Value.bytes _ _)) _ _ _)); (fail_if_success (with_reducible show wpAny _ _ (call (Value.builtin "list.append") _) _ _ _)); (fail_if_success (with_reducible show wpAny _ _ (compareOp CmpOp.NotEq (Value.bool _) (Value.bool _)) _ _ _)); (fail_if_success (with_reducible show wpAny _ _ (PySem.eval (Expr.BoolOp _ _ _) (envOfC _ _ _ _ _)) _ _ _)); (fail_if_success (with_reducible show ValEnd _ _ _ _ _ _ _ _)); (fail_if_success (with_reducible show wpAny _ _ (call (Value.builtin "max") _) _ _ _)); (fail_if_success (with_reducible show wpAny _ _ (call (Value.builtin "min") _) _ _ _)); (fail_if_success (with_reducible show wpAny _ _ (call (Value.builtin "list.index") _) _ _ _)); (fail_if_success (with_reducible show wpAny _ _ (subscriptTail _ _ (Value.ref _) (Value.int (List.getD _ _ _) _)) _ _ _)); (fail_if_success (with_reducible show wpAny _ _ (subscriptTail _ _ (Value.ref _) (Value.int (Nat.cast _) _)) _ _ _)); (fail_if_success (with_reducible show wpAny _ _ (subscriptTail _ _ (Value.str _ _) (Value.ref _)) _ _ _)); (fail_if_success (with_reducible show wpAny _ _ (subscriptTail (Expr.Name (Str.ofString "whole") _) _ _ _) _ _ _)); (first | (((with_reducible show wpAny _ _ (PySem.eval (Expr.Name _ _) (envOfC _ _ _ _ _)) _ _ _); name_kind "cell"; (rename News _ _ _ _ => N'); (refine ldCN N' (by rfl) (by k_mem) (by assumption) ?_); walk_say "m cell")) | ((first | ((with_reducible show wpAny _ _ (storeName _ _ _) _ _ _); dsimp only; walk1) | ((first | (k_unfold; (try dsimp only)) | (k_end; wrow_close) | walk1 | (dsimp only; walk1) | (leave1; walk_say "STEP leave1"; try dsimp only) | fail "no step"))))))))))
            rename News _ _ _ _ => N9
            refine sub_at (k := iq) (vs := rv) (News.get N9 (a := rws) (o := listOf (List.toArray rv) k2) (by k_mem)) hr1 (by omega) ?_
            try dsimp only
            ((repeat' ((( ((( (fail_if_success (with_reducible show wpAny _ _ (exec (Stmt.For _ _ _ _ _) _) _ _ _)); (fail_if_success (with_reducible show wpAny _ _ (exec (Stmt.While _ _ _ _) _) _ _ _)); (fail_if_success (with_reducible show wpAny _ _ (pyIter (Value.ref _)) _ _ _)); (fail_if_success (with_reducible show wpAny _ _ (call (Value.ref _) _ _) _ _ _)); (fail_if_success (with_reducible show wpAny _ _ (call (Value.builtin "next") _ _) _ _ _)); (fail_if_success (with_reducible show wpAny _ _ (eval (Expr.ListComp _ _ _ _) _) _ _ _)); (fail_if_success (with_reducible show LCg.CompEnd _ _ _ _ _ _ _ _ _ _ _ _ _ _)); (fail_if_success (with_reducible show LoopStep3 _ _ _ _ _ _ _ _ _ _)); (fail_if_success (with_reducible show LoopStepV _ _ _ _ _ _ _ _ _ _)); skip))); (fail_if_success (with_reducible show wpAny _ _ (storeName _ (Str.ofString "three") _) _ _ _)); (fail_if_success (with_reducible show wpAny _ _ (storeName _ (Str.ofString "words") _) _ _ _)); (fail_if_success (with_reducible show wpAny _ _ (binaryOp Operator.Add (Value.str _ _) (Value.str _ _)) _ _ _)); (fail_if_success (with_reducible show wpAny _ _ (compareOp CmpOp.NotEq (Value.ref _) (Value.ref _)) _ _ _)); (fail_if_success (with_reducible show wpAny _ _ (compareOp CmpOp.NotEq (Value.bytes _ _) (Value.bytes _ _)) _ _ _)); (fail_if_success (with_reducible show wpAny _ _ (call (Value.builtin "list.append") _) _ _ _)); (fail_if_success (with_reducible show wpAny _ _ (compareOp CmpOp.NotEq (Value.bool _) (Value.bool _)) _ _ _)); (fail_if_success (with_reducible show wpAny _ _ (PySem.eval (Expr.BoolOp _ _ _) (envOfC _ _ _ _ _)) _ _ _)); (fail_if_success (with_reducible show ValEnd _ _ _ _ _ _ _ _)); (fail_if_success (with_reducible show wpAny _ _ (call (Value.builtin "max") _) _ _ _)); (fail_if_success (with_reducible show wpAny _ _ (call (Value.builtin "min") _) _ _ _)); (fail_if_success (with_reducible show wpAny _ _ (call (Value.builtin "list.index") _) _ _ _)); (fail_if_success (with_reducible show wpAny _ _ (subscriptTail _ _ (Value.ref _) (Value.int (List.getD _ _ _) _)) _ _ _)); (fail_if_success (with_reducible show wpAny _ _ (subscriptTail _ _ (Value.ref _) (Value.int (Nat.cast _) _)) _ _ _)); (fail_if_success (with_reducible show wpAny _ _ (subscriptTail _ _ (Value.str _ _) (Value.ref _)) _ _ _)); (fail_if_success (with_reducible show wpAny _ _ (subscriptTail (Expr.Name (Str.ofString "whole") _) _ _ _) _ _ _)); (first | (((with_reducible show wpAny _ _ (PySem.eval (Expr.Name _ _) (envOfC _ _ _ _ _)) _ _ _); name_kind "cell"; (rename News _ _ _ _ => N'); (refine ldCN N' (by rfl) (by k_mem) (by assumption) ?_); walk_say "m cell")) | ((first | ((with_reducible show wpAny _ _ (storeName _ _ _) _ _ _); dsimp only; walk1) | ((first | (k_unfold; (try dsimp only)) | (k_end; wrow_close) | walk1 | (dsimp only; walk1) | (leave1; walk_say "STEP leave1"; try dsimp only) | fail "no step"))))))))))
            rename Fr _ _ _ _ => F10
            rename News _ _ _ _ => N10
            refine zip_it F10 N10 (rowS_ascii g1 _) (rowS_ascii g1 _) (by rw [rowS_size, rowS_size]; dsimp only; omega) (by rw [rowS_size]; dsimp only; omega) (fun hz => ?_) fun D20 h20 tk20 ys20 F11 N11 hys => ?_
            · intro C oC m₃ hc3 tkc pp qq v v' E' hC ha3 hb3 FC NC
              clear F10 N10
              try dsimp only
              constructor
              · ((repeat' ((( ((( (fail_if_success (with_reducible show wpAny _ _ (exec (Stmt.For _ _ _ _ _) _) _ _ _)); (fail_if_success (with_reducible show wpAny _ _ (exec (Stmt.While _ _ _ _) _) _ _ _)); (fail_if_success (with_reducible show wpAny _ _ (pyIter (Value.ref _)) _ _ _)); (fail_if_success (with_reducible show wpAny _ _ (call (Value.ref _) _ _) _ _ _)); (fail_if_success (with_reducible show wpAny _ _ (call (Value.builtin "next") _ _) _ _ _)); (fail_if_success (with_reducible show wpAny _ _ (eval (Expr.ListComp _ _ _ _) _) _ _ _)); (fail_if_success (with_reducible show LCg.CompEnd _ _ _ _ _ _ _ _ _ _ _ _ _ _)); (fail_if_success (with_reducible show LoopStep3 _ _ _ _ _ _ _ _ _ _)); (fail_if_success (with_reducible show LoopStepV _ _ _ _ _ _ _ _ _ _)); skip))); (fail_if_success (with_reducible show wpAny _ _ (storeName _ (Str.ofString "three") _) _ _ _)); (fail_if_success (with_reducible show wpAny _ _ (storeName _ (Str.ofString "words") _) _ _ _)); (fail_if_success (with_reducible show wpAny _ _ (binaryOp Operator.Add (Value.str _ _) (Value.str _ _)) _ _ _)); (fail_if_success (with_reducible show wpAny _ _ (compareOp CmpOp.NotEq (Value.ref _) (Value.ref _)) _ _ _)); (fail_if_success (with_reducible show wpAny _ _ (compareOp CmpOp.NotEq (Value.bytes _ _) (Value.bytes _ _)) _ _ _)); (fail_if_success (with_reducible show wpAny _ _ (call (Value.builtin "list.append") _) _ _ _)); (fail_if_success (with_reducible show wpAny _ _ (compareOp CmpOp.NotEq (Value.bool _) (Value.bool _)) _ _ _)); (fail_if_success (with_reducible show wpAny _ _ (PySem.eval (Expr.BoolOp _ _ _) (envOfC _ _ _ _ _)) _ _ _)); (fail_if_success (with_reducible show ValEnd _ _ _ _ _ _ _ _)); (fail_if_success (with_reducible show wpAny _ _ (call (Value.builtin "max") _) _ _ _)); (fail_if_success (with_reducible show wpAny _ _ (call (Value.builtin "min") _) _ _ _)); (fail_if_success (with_reducible show wpAny _ _ (call (Value.builtin "list.index") _) _ _ _)); (fail_if_success (with_reducible show wpAny _ _ (subscriptTail _ _ (Value.ref _) (Value.int (List.getD _ _ _) _)) _ _ _)); (fail_if_success (with_reducible show wpAny _ _ (subscriptTail _ _ (Value.ref _) (Value.int (Nat.cast _) _)) _ _ _)); (fail_if_success (with_reducible show wpAny _ _ (subscriptTail _ _ (Value.str _ _) (Value.ref _)) _ _ _)); (fail_if_success (with_reducible show wpAny _ _ (subscriptTail (Expr.Name (Str.ofString "whole") _) _ _ _) _ _ _)); (first | (((with_reducible show wpAny _ _ (PySem.eval (Expr.Name _ _) (envOfC _ _ _ _ _)) _ _ _); name_kind "cell"; (rename News _ _ _ _ => N'); (refine ldCN N' (by rfl) (by k_mem) (by assumption) ?_); walk_say "m cell")) | ((first | ((with_reducible show wpAny _ _ (storeName _ _ _) _ _ _); dsimp only; walk1) | ((first | (k_unfold; (try dsimp only)) | (k_end; wrow_close) | walk1 | (dsimp only; walk1) | (leave1; walk_say "STEP leave1"; try dsimp only) | fail "no step"))))))))))
                exact ne_sign _ _
              · ((repeat' ((( ((( (fail_if_success (with_reducible show wpAny _ _ (exec (Stmt.For _ _ _ _ _) _) _ _ _)); (fail_if_success (with_reducible show wpAny _ _ (exec (Stmt.While _ _ _ _) _) _ _ _)); (fail_if_success (with_reducible show wpAny _ _ (pyIter (Value.ref _)) _ _ _)); (fail_if_success (with_reducible show wpAny _ _ (call (Value.ref _) _ _) _ _ _)); (fail_if_success (with_reducible show wpAny _ _ (call (Value.builtin "next") _ _) _ _ _)); (fail_if_success (with_reducible show wpAny _ _ (eval (Expr.ListComp _ _ _ _) _) _ _ _)); (fail_if_success (with_reducible show LCg.CompEnd _ _ _ _ _ _ _ _ _ _ _ _ _ _)); (fail_if_success (with_reducible show LoopStep3 _ _ _ _ _ _ _ _ _ _)); (fail_if_success (with_reducible show LoopStepV _ _ _ _ _ _ _ _ _ _)); skip))); (fail_if_success (with_reducible show wpAny _ _ (storeName _ (Str.ofString "three") _) _ _ _)); (fail_if_success (with_reducible show wpAny _ _ (storeName _ (Str.ofString "words") _) _ _ _)); (fail_if_success (with_reducible show wpAny _ _ (binaryOp Operator.Add (Value.str _ _) (Value.str _ _)) _ _ _)); (fail_if_success (with_reducible show wpAny _ _ (compareOp CmpOp.NotEq (Value.ref _) (Value.ref _)) _ _ _)); (fail_if_success (with_reducible show wpAny _ _ (compareOp CmpOp.NotEq (Value.bytes _ _) (Value.bytes _ _)) _ _ _)); (fail_if_success (with_reducible show wpAny _ _ (call (Value.builtin "list.append") _) _ _ _)); (fail_if_success (with_reducible show wpAny _ _ (compareOp CmpOp.NotEq (Value.bool _) (Value.bool _)) _ _ _)); (fail_if_success (with_reducible show wpAny _ _ (PySem.eval (Expr.BoolOp _ _ _) (envOfC _ _ _ _ _)) _ _ _)); (fail_if_success (with_reducible show ValEnd _ _ _ _ _ _ _ _)); (fail_if_success (with_reducible show wpAny _ _ (call (Value.builtin "max") _) _ _ _)); (fail_if_success (with_reducible show wpAny _ _ (call (Value.builtin "min") _) _ _ _)); (fail_if_success (with_reducible show wpAny _ _ (call (Value.builtin "list.index") _) _ _ _)); (fail_if_success (with_reducible show wpAny _ _ (subscriptTail _ _ (Value.ref _) (Value.int (List.getD _ _ _) _)) _ _ _)); (fail_if_success (with_reducible show wpAny _ _ (subscriptTail _ _ (Value.ref _) (Value.int (Nat.cast _) _)) _ _ _)); (fail_if_success (with_reducible show wpAny _ _ (subscriptTail _ _ (Value.str _ _) (Value.ref _)) _ _ _)); (fail_if_success (with_reducible show wpAny _ _ (subscriptTail (Expr.Name (Str.ofString "whole") _) _ _ _) _ _ _)); (first | (((with_reducible show wpAny _ _ (PySem.eval (Expr.Name _ _) (envOfC _ _ _ _ _)) _ _ _); name_kind "cell"; (rename News _ _ _ _ => N'); (refine ldCN N' (by rfl) (by k_mem) (by assumption) ?_); walk_say "m cell")) | ((first | ((with_reducible show wpAny _ _ (storeName _ _ _) _ _ _); dsimp only; walk1) | ((first | (k_unfold; (try dsimp only)) | (k_end; wrow_close) | walk1 | (dsimp only; walk1) | (leave1; walk_say "STEP leave1"; try dsimp only) | fail "no step"))))))))))
            clear F10 N10
            try dsimp only
            ((repeat' ( (fail_if_success (with_reducible show wpAny _ _ (exec (Stmt.For _ _ _ _ _) _) _ _ _)); (fail_if_success (with_reducible show wpAny _ _ (exec (Stmt.While _ _ _ _) _) _ _ _)); (fail_if_success (with_reducible show wpAny _ _ (pyIter (Value.ref _)) _ _ _)); (fail_if_success (with_reducible show wpAny _ _ (call (Value.ref _) _ _) _ _ _)); (fail_if_success (with_reducible show wpAny _ _ (call (Value.builtin "next") _ _) _ _ _)); (fail_if_success (with_reducible show wpAny _ _ (eval (Expr.ListComp _ _ _ _) _) _ _ _)); (fail_if_success (with_reducible show LoopStep3 _ _ _ _ _ _ _ _ _ _)); (fail_if_success (with_reducible show LoopStepV _ _ _ _ _ _ _ _ _ _)); (fail_if_success (with_reducible show LCg.CompEnd _ _ _ _ _ _ _ _ _ _ _ _ _ _)); (fail_if_success (with_reducible show wpAny _ _ (storeName _ (Str.ofString "three") _) _ _ _)); (fail_if_success (with_reducible show wpAny _ _ (storeName _ (Str.ofString "words") _) _ _ _)); (fail_if_success (with_reducible show wpAny _ _ (binaryOp Operator.Add (Value.str _ _) (Value.str _ _)) _ _ _)); (fail_if_success (with_reducible show wpAny _ _ (compareOp CmpOp.NotEq (Value.ref _) (Value.ref _)) _ _ _)); (fail_if_success (with_reducible show wpAny _ _ (compareOp CmpOp.NotEq (Value.bytes _ _) (Value.bytes _ _)) _ _ _)); (fail_if_success (with_reducible show wpAny _ _ (call (Value.builtin "list.append") _) _ _ _)); (fail_if_success (with_reducible show wpAny _ _ (compareOp CmpOp.NotEq (Value.bool _) (Value.bool _)) _ _ _)); (fail_if_success (with_reducible show wpAny _ _ (PySem.eval (Expr.BoolOp _ _ _) (envOfC _ _ _ _ _)) _ _ _)); (fail_if_success (with_reducible show ValEnd _ _ _ _ _ _ _ _)); (fail_if_success (with_reducible show wpAny _ _ (call (Value.builtin "max") _) _ _ _)); (fail_if_success (with_reducible show wpAny _ _ (call (Value.builtin "min") _) _ _ _)); (fail_if_success (with_reducible show wpAny _ _ (call (Value.builtin "list.index") _) _ _ _)); (fail_if_success (with_reducible show wpAny _ _ (subscriptTail _ _ (Value.ref _) (Value.int (List.getD _ _ _) _)) _ _ _)); (fail_if_success (with_reducible show wpAny _ _ (subscriptTail _ _ (Value.ref _) (Value.int (Nat.cast _) _)) _ _ _)); (fail_if_success (with_reducible show wpAny _ _ (subscriptTail _ _ (Value.str _ _) (Value.ref _)) _ _ _)); (fail_if_success (with_reducible show wpAny _ _ (subscriptTail (Expr.Name (Str.ofString "whole") _) _ _ _) _ _ _)); (fail_if_success (with_reducible show wpAny _ _ (call (Value.builtin "len") _) _ _ _)); (fail_if_success (with_reducible show wpAny _ _ (binaryOp Operator.Mult _ _) _ _ _)); (first | (((with_reducible show wpAny _ _ (PySem.eval (Expr.Name _ _) (envOfC _ _ _ _ _)) _ _ _); name_kind "cell"; (rename News _ _ _ _ => N'); (refine ldCN N' (by rfl) (by k_mem) (by assumption) ?_); walk_say "m cell")) | ((with_reducible show wpAny _ _ (storeName _ _ _) _ _ _); dsimp only; walk1) | (k_unfold; (try dsimp only)) | (k_end; wrow_close) | walk1 | (dsimp only; walk1) | (leave1; walk_say "STEP leave1"; try dsimp only) | fail "no step"))))
            refine len_at (News.isList N11 (.head _)) hys (by have := ham_le (rowS g (q0, q1, q2)).cps.toList (rowS g (q1, q0, q2)).cps.toList; rw [Array.length_toList, rowS_size] at this; dsimp only at this; omega) fun tkl tl => ?_
            replace N11 := news_sub N11 (fun p hp => List.Mem.tail _ hp)
            try dsimp only
            ((repeat' ( (fail_if_success (with_reducible show wpAny _ _ (exec (Stmt.For _ _ _ _ _) _) _ _ _)); (fail_if_success (with_reducible show wpAny _ _ (exec (Stmt.While _ _ _ _) _) _ _ _)); (fail_if_success (with_reducible show wpAny _ _ (pyIter (Value.ref _)) _ _ _)); (fail_if_success (with_reducible show wpAny _ _ (call (Value.ref _) _ _) _ _ _)); (fail_if_success (with_reducible show wpAny _ _ (call (Value.builtin "next") _ _) _ _ _)); (fail_if_success (with_reducible show wpAny _ _ (eval (Expr.ListComp _ _ _ _) _) _ _ _)); (fail_if_success (with_reducible show LoopStep3 _ _ _ _ _ _ _ _ _ _)); (fail_if_success (with_reducible show LoopStepV _ _ _ _ _ _ _ _ _ _)); (fail_if_success (with_reducible show LCg.CompEnd _ _ _ _ _ _ _ _ _ _ _ _ _ _)); (fail_if_success (with_reducible show wpAny _ _ (storeName _ (Str.ofString "three") _) _ _ _)); (fail_if_success (with_reducible show wpAny _ _ (storeName _ (Str.ofString "words") _) _ _ _)); (fail_if_success (with_reducible show wpAny _ _ (binaryOp Operator.Add (Value.str _ _) (Value.str _ _)) _ _ _)); (fail_if_success (with_reducible show wpAny _ _ (compareOp CmpOp.NotEq (Value.ref _) (Value.ref _)) _ _ _)); (fail_if_success (with_reducible show wpAny _ _ (compareOp CmpOp.NotEq (Value.bytes _ _) (Value.bytes _ _)) _ _ _)); (fail_if_success (with_reducible show wpAny _ _ (call (Value.builtin "list.append") _) _ _ _)); (fail_if_success (with_reducible show wpAny _ _ (compareOp CmpOp.NotEq (Value.bool _) (Value.bool _)) _ _ _)); (fail_if_success (with_reducible show wpAny _ _ (PySem.eval (Expr.BoolOp _ _ _) (envOfC _ _ _ _ _)) _ _ _)); (fail_if_success (with_reducible show ValEnd _ _ _ _ _ _ _ _)); (fail_if_success (with_reducible show wpAny _ _ (call (Value.builtin "max") _) _ _ _)); (fail_if_success (with_reducible show wpAny _ _ (call (Value.builtin "min") _) _ _ _)); (fail_if_success (with_reducible show wpAny _ _ (call (Value.builtin "list.index") _) _ _ _)); (fail_if_success (with_reducible show wpAny _ _ (subscriptTail _ _ (Value.ref _) (Value.int (List.getD _ _ _) _)) _ _ _)); (fail_if_success (with_reducible show wpAny _ _ (subscriptTail _ _ (Value.ref _) (Value.int (Nat.cast _) _)) _ _ _)); (fail_if_success (with_reducible show wpAny _ _ (subscriptTail _ _ (Value.str _ _) (Value.ref _)) _ _ _)); (fail_if_success (with_reducible show wpAny _ _ (subscriptTail (Expr.Name (Str.ofString "whole") _) _ _ _) _ _ _)); (fail_if_success (with_reducible show wpAny _ _ (call (Value.builtin "len") _) _ _ _)); (fail_if_success (with_reducible show wpAny _ _ (binaryOp Operator.Mult _ _) _ _ _)); (first | (((with_reducible show wpAny _ _ (PySem.eval (Expr.Name _ _) (envOfC _ _ _ _ _)) _ _ _); name_kind "cell"; (rename News _ _ _ _ => N'); (refine ldCN N' (by rfl) (by k_mem) (by assumption) ?_); walk_say "m cell")) | ((with_reducible show wpAny _ _ (storeName _ _ _) _ _ _); dsimp only; walk1) | (k_unfold; (try dsimp only)) | (k_end; wrow_close) | walk1 | (dsimp only; walk1) | (leave1; walk_say "STEP leave1"; try dsimp only) | fail "no step"))))
            rename News _ _ _ _ => N9
            refine sub_at (k := q0) (vs := [.ref a0, .ref a1, .ref a2]) (News.get N9 (a := D) (o := listOf #[.ref a0, .ref a1, .ref a2] c) (by k_mem)) (by simpa using hx0) (by omega) ?_
            try dsimp only
            ((repeat' ( (fail_if_success (with_reducible show wpAny _ _ (exec (Stmt.For _ _ _ _ _) _) _ _ _)); (fail_if_success (with_reducible show wpAny _ _ (exec (Stmt.While _ _ _ _) _) _ _ _)); (fail_if_success (with_reducible show wpAny _ _ (pyIter (Value.ref _)) _ _ _)); (fail_if_success (with_reducible show wpAny _ _ (call (Value.ref _) _ _) _ _ _)); (fail_if_success (with_reducible show wpAny _ _ (call (Value.builtin "next") _ _) _ _ _)); (fail_if_success (with_reducible show wpAny _ _ (eval (Expr.ListComp _ _ _ _) _) _ _ _)); (fail_if_success (with_reducible show LoopStep3 _ _ _ _ _ _ _ _ _ _)); (fail_if_success (with_reducible show LoopStepV _ _ _ _ _ _ _ _ _ _)); (fail_if_success (with_reducible show LCg.CompEnd _ _ _ _ _ _ _ _ _ _ _ _ _ _)); (fail_if_success (with_reducible show wpAny _ _ (storeName _ (Str.ofString "three") _) _ _ _)); (fail_if_success (with_reducible show wpAny _ _ (storeName _ (Str.ofString "words") _) _ _ _)); (fail_if_success (with_reducible show wpAny _ _ (binaryOp Operator.Add (Value.str _ _) (Value.str _ _)) _ _ _)); (fail_if_success (with_reducible show wpAny _ _ (compareOp CmpOp.NotEq (Value.ref _) (Value.ref _)) _ _ _)); (fail_if_success (with_reducible show wpAny _ _ (compareOp CmpOp.NotEq (Value.bytes _ _) (Value.bytes _ _)) _ _ _)); (fail_if_success (with_reducible show wpAny _ _ (call (Value.builtin "list.append") _) _ _ _)); (fail_if_success (with_reducible show wpAny _ _ (compareOp CmpOp.NotEq (Value.bool _) (Value.bool _)) _ _ _)); (fail_if_success (with_reducible show wpAny _ _ (PySem.eval (Expr.BoolOp _ _ _) (envOfC _ _ _ _ _)) _ _ _)); (fail_if_success (with_reducible show ValEnd _ _ _ _ _ _ _ _)); (fail_if_success (with_reducible show wpAny _ _ (call (Value.builtin "max") _) _ _ _)); (fail_if_success (with_reducible show wpAny _ _ (call (Value.builtin "min") _) _ _ _)); (fail_if_success (with_reducible show wpAny _ _ (call (Value.builtin "list.index") _) _ _ _)); (fail_if_success (with_reducible show wpAny _ _ (subscriptTail _ _ (Value.ref _) (Value.int (List.getD _ _ _) _)) _ _ _)); (fail_if_success (with_reducible show wpAny _ _ (subscriptTail _ _ (Value.ref _) (Value.int (Nat.cast _) _)) _ _ _)); (fail_if_success (with_reducible show wpAny _ _ (subscriptTail _ _ (Value.str _ _) (Value.ref _)) _ _ _)); (fail_if_success (with_reducible show wpAny _ _ (subscriptTail (Expr.Name (Str.ofString "whole") _) _ _ _) _ _ _)); (fail_if_success (with_reducible show wpAny _ _ (call (Value.builtin "len") _) _ _ _)); (fail_if_success (with_reducible show wpAny _ _ (binaryOp Operator.Mult _ _) _ _ _)); (first | (((with_reducible show wpAny _ _ (PySem.eval (Expr.Name _ _) (envOfC _ _ _ _ _)) _ _ _); name_kind "cell"; (rename News _ _ _ _ => N'); (refine ldCN N' (by rfl) (by k_mem) (by assumption) ?_); walk_say "m cell")) | ((with_reducible show wpAny _ _ (storeName _ _ _) _ _ _); dsimp only; walk1) | (k_unfold; (try dsimp only)) | (k_end; wrow_close) | walk1 | (dsimp only; walk1) | (leave1; walk_say "STEP leave1"; try dsimp only) | fail "no step"))))
            rename News _ _ _ _ => N9
            refine len_at (News.isList N9 (a := x0) (items := List.toArray u0) (n := f0) (by k_mem)) hu0.length (by omega) fun tkl0 tl0 => ?_
            try dsimp only
            ((repeat' ( (fail_if_success (with_reducible show wpAny _ _ (exec (Stmt.For _ _ _ _ _) _) _ _ _)); (fail_if_success (with_reducible show wpAny _ _ (exec (Stmt.While _ _ _ _) _) _ _ _)); (fail_if_success (with_reducible show wpAny _ _ (pyIter (Value.ref _)) _ _ _)); (fail_if_success (with_reducible show wpAny _ _ (call (Value.ref _) _ _) _ _ _)); (fail_if_success (with_reducible show wpAny _ _ (call (Value.builtin "next") _ _) _ _ _)); (fail_if_success (with_reducible show wpAny _ _ (eval (Expr.ListComp _ _ _ _) _) _ _ _)); (fail_if_success (with_reducible show LoopStep3 _ _ _ _ _ _ _ _ _ _)); (fail_if_success (with_reducible show LoopStepV _ _ _ _ _ _ _ _ _ _)); (fail_if_success (with_reducible show LCg.CompEnd _ _ _ _ _ _ _ _ _ _ _ _ _ _)); (fail_if_success (with_reducible show wpAny _ _ (storeName _ (Str.ofString "three") _) _ _ _)); (fail_if_success (with_reducible show wpAny _ _ (storeName _ (Str.ofString "words") _) _ _ _)); (fail_if_success (with_reducible show wpAny _ _ (binaryOp Operator.Add (Value.str _ _) (Value.str _ _)) _ _ _)); (fail_if_success (with_reducible show wpAny _ _ (compareOp CmpOp.NotEq (Value.ref _) (Value.ref _)) _ _ _)); (fail_if_success (with_reducible show wpAny _ _ (compareOp CmpOp.NotEq (Value.bytes _ _) (Value.bytes _ _)) _ _ _)); (fail_if_success (with_reducible show wpAny _ _ (call (Value.builtin "list.append") _) _ _ _)); (fail_if_success (with_reducible show wpAny _ _ (compareOp CmpOp.NotEq (Value.bool _) (Value.bool _)) _ _ _)); (fail_if_success (with_reducible show wpAny _ _ (PySem.eval (Expr.BoolOp _ _ _) (envOfC _ _ _ _ _)) _ _ _)); (fail_if_success (with_reducible show ValEnd _ _ _ _ _ _ _ _)); (fail_if_success (with_reducible show wpAny _ _ (call (Value.builtin "max") _) _ _ _)); (fail_if_success (with_reducible show wpAny _ _ (call (Value.builtin "min") _) _ _ _)); (fail_if_success (with_reducible show wpAny _ _ (call (Value.builtin "list.index") _) _ _ _)); (fail_if_success (with_reducible show wpAny _ _ (subscriptTail _ _ (Value.ref _) (Value.int (List.getD _ _ _) _)) _ _ _)); (fail_if_success (with_reducible show wpAny _ _ (subscriptTail _ _ (Value.ref _) (Value.int (Nat.cast _) _)) _ _ _)); (fail_if_success (with_reducible show wpAny _ _ (subscriptTail _ _ (Value.str _ _) (Value.ref _)) _ _ _)); (fail_if_success (with_reducible show wpAny _ _ (subscriptTail (Expr.Name (Str.ofString "whole") _) _ _ _) _ _ _)); (fail_if_success (with_reducible show wpAny _ _ (call (Value.builtin "len") _) _ _ _)); (fail_if_success (with_reducible show wpAny _ _ (binaryOp Operator.Mult _ _) _ _ _)); (first | (((with_reducible show wpAny _ _ (PySem.eval (Expr.Name _ _) (envOfC _ _ _ _ _)) _ _ _); name_kind "cell"; (rename News _ _ _ _ => N'); (refine ldCN N' (by rfl) (by k_mem) (by assumption) ?_); walk_say "m cell")) | ((with_reducible show wpAny _ _ (storeName _ _ _) _ _ _); dsimp only; walk1) | (k_unfold; (try dsimp only)) | (k_end; wrow_close) | walk1 | (dsimp only; walk1) | (leave1; walk_say "STEP leave1"; try dsimp only) | fail "no step"))))
            refine mul_int ?_ (IntMulOk.of_right (PySem.intBits_le_64 (by omega) (by omega)))
            try dsimp only
            ((repeat' ( (fail_if_success (with_reducible show wpAny _ _ (exec (Stmt.For _ _ _ _ _) _) _ _ _)); (fail_if_success (with_reducible show wpAny _ _ (exec (Stmt.While _ _ _ _) _) _ _ _)); (fail_if_success (with_reducible show wpAny _ _ (pyIter (Value.ref _)) _ _ _)); (fail_if_success (with_reducible show wpAny _ _ (call (Value.ref _) _ _) _ _ _)); (fail_if_success (with_reducible show wpAny _ _ (call (Value.builtin "next") _ _) _ _ _)); (fail_if_success (with_reducible show wpAny _ _ (eval (Expr.ListComp _ _ _ _) _) _ _ _)); (fail_if_success (with_reducible show LoopStep3 _ _ _ _ _ _ _ _ _ _)); (fail_if_success (with_reducible show LoopStepV _ _ _ _ _ _ _ _ _ _)); (fail_if_success (with_reducible show LCg.CompEnd _ _ _ _ _ _ _ _ _ _ _ _ _ _)); (fail_if_success (with_reducible show wpAny _ _ (storeName _ (Str.ofString "three") _) _ _ _)); (fail_if_success (with_reducible show wpAny _ _ (storeName _ (Str.ofString "words") _) _ _ _)); (fail_if_success (with_reducible show wpAny _ _ (binaryOp Operator.Add (Value.str _ _) (Value.str _ _)) _ _ _)); (fail_if_success (with_reducible show wpAny _ _ (compareOp CmpOp.NotEq (Value.ref _) (Value.ref _)) _ _ _)); (fail_if_success (with_reducible show wpAny _ _ (compareOp CmpOp.NotEq (Value.bytes _ _) (Value.bytes _ _)) _ _ _)); (fail_if_success (with_reducible show wpAny _ _ (call (Value.builtin "list.append") _) _ _ _)); (fail_if_success (with_reducible show wpAny _ _ (compareOp CmpOp.NotEq (Value.bool _) (Value.bool _)) _ _ _)); (fail_if_success (with_reducible show wpAny _ _ (PySem.eval (Expr.BoolOp _ _ _) (envOfC _ _ _ _ _)) _ _ _)); (fail_if_success (with_reducible show ValEnd _ _ _ _ _ _ _ _)); (fail_if_success (with_reducible show wpAny _ _ (call (Value.builtin "max") _) _ _ _)); (fail_if_success (with_reducible show wpAny _ _ (call (Value.builtin "min") _) _ _ _)); (fail_if_success (with_reducible show wpAny _ _ (call (Value.builtin "list.index") _) _ _ _)); (fail_if_success (with_reducible show wpAny _ _ (subscriptTail _ _ (Value.ref _) (Value.int (List.getD _ _ _) _)) _ _ _)); (fail_if_success (with_reducible show wpAny _ _ (subscriptTail _ _ (Value.ref _) (Value.int (Nat.cast _) _)) _ _ _)); (fail_if_success (with_reducible show wpAny _ _ (subscriptTail _ _ (Value.str _ _) (Value.ref _)) _ _ _)); (fail_if_success (with_reducible show wpAny _ _ (subscriptTail (Expr.Name (Str.ofString "whole") _) _ _ _) _ _ _)); (fail_if_success (with_reducible show wpAny _ _ (call (Value.builtin "len") _) _ _ _)); (fail_if_success (with_reducible show wpAny _ _ (binaryOp Operator.Mult _ _) _ _ _)); (first | (((with_reducible show wpAny _ _ (PySem.eval (Expr.Name _ _) (envOfC _ _ _ _ _)) _ _ _); name_kind "cell"; (rename News _ _ _ _ => N'); (refine ldCN N' (by rfl) (by k_mem) (by assumption) ?_); walk_say "m cell")) | ((with_reducible show wpAny _ _ (storeName _ _ _) _ _ _); dsimp only; walk1) | (k_unfold; (try dsimp only)) | (k_end; wrow_close) | walk1 | (dsimp only; walk1) | (leave1; walk_say "STEP leave1"; try dsimp only) | fail "no step"))))
            rename News _ _ _ _ => N9
            refine sub_at (k := q1) (vs := [.ref a0, .ref a1, .ref a2]) (News.get N9 (a := D) (o := listOf #[.ref a0, .ref a1, .ref a2] c) (by k_mem)) (by simpa using hx1) (by omega) ?_
            try dsimp only
            ((repeat' ( (fail_if_success (with_reducible show wpAny _ _ (exec (Stmt.For _ _ _ _ _) _) _ _ _)); (fail_if_success (with_reducible show wpAny _ _ (exec (Stmt.While _ _ _ _) _) _ _ _)); (fail_if_success (with_reducible show wpAny _ _ (pyIter (Value.ref _)) _ _ _)); (fail_if_success (with_reducible show wpAny _ _ (call (Value.ref _) _ _) _ _ _)); (fail_if_success (with_reducible show wpAny _ _ (call (Value.builtin "next") _ _) _ _ _)); (fail_if_success (with_reducible show wpAny _ _ (eval (Expr.ListComp _ _ _ _) _) _ _ _)); (fail_if_success (with_reducible show LoopStep3 _ _ _ _ _ _ _ _ _ _)); (fail_if_success (with_reducible show LoopStepV _ _ _ _ _ _ _ _ _ _)); (fail_if_success (with_reducible show LCg.CompEnd _ _ _ _ _ _ _ _ _ _ _ _ _ _)); (fail_if_success (with_reducible show wpAny _ _ (storeName _ (Str.ofString "three") _) _ _ _)); (fail_if_success (with_reducible show wpAny _ _ (storeName _ (Str.ofString "words") _) _ _ _)); (fail_if_success (with_reducible show wpAny _ _ (binaryOp Operator.Add (Value.str _ _) (Value.str _ _)) _ _ _)); (fail_if_success (with_reducible show wpAny _ _ (compareOp CmpOp.NotEq (Value.ref _) (Value.ref _)) _ _ _)); (fail_if_success (with_reducible show wpAny _ _ (compareOp CmpOp.NotEq (Value.bytes _ _) (Value.bytes _ _)) _ _ _)); (fail_if_success (with_reducible show wpAny _ _ (call (Value.builtin "list.append") _) _ _ _)); (fail_if_success (with_reducible show wpAny _ _ (compareOp CmpOp.NotEq (Value.bool _) (Value.bool _)) _ _ _)); (fail_if_success (with_reducible show wpAny _ _ (PySem.eval (Expr.BoolOp _ _ _) (envOfC _ _ _ _ _)) _ _ _)); (fail_if_success (with_reducible show ValEnd _ _ _ _ _ _ _ _)); (fail_if_success (with_reducible show wpAny _ _ (call (Value.builtin "max") _) _ _ _)); (fail_if_success (with_reducible show wpAny _ _ (call (Value.builtin "min") _) _ _ _)); (fail_if_success (with_reducible show wpAny _ _ (call (Value.builtin "list.index") _) _ _ _)); (fail_if_success (with_reducible show wpAny _ _ (subscriptTail _ _ (Value.ref _) (Value.int (List.getD _ _ _) _)) _ _ _)); (fail_if_success (with_reducible show wpAny _ _ (subscriptTail _ _ (Value.ref _) (Value.int (Nat.cast _) _)) _ _ _)); (fail_if_success (with_reducible show wpAny _ _ (subscriptTail _ _ (Value.str _ _) (Value.ref _)) _ _ _)); (fail_if_success (with_reducible show wpAny _ _ (subscriptTail (Expr.Name (Str.ofString "whole") _) _ _ _) _ _ _)); (fail_if_success (with_reducible show wpAny _ _ (call (Value.builtin "len") _) _ _ _)); (fail_if_success (with_reducible show wpAny _ _ (binaryOp Operator.Mult _ _) _ _ _)); (first | (((with_reducible show wpAny _ _ (PySem.eval (Expr.Name _ _) (envOfC _ _ _ _ _)) _ _ _); name_kind "cell"; (rename News _ _ _ _ => N'); (refine ldCN N' (by rfl) (by k_mem) (by assumption) ?_); walk_say "m cell")) | ((with_reducible show wpAny _ _ (storeName _ _ _) _ _ _); dsimp only; walk1) | (k_unfold; (try dsimp only)) | (k_end; wrow_close) | walk1 | (dsimp only; walk1) | (leave1; walk_say "STEP leave1"; try dsimp only) | fail "no step"))))
            rename News _ _ _ _ => N9
            refine len_at (News.isList N9 (a := x1) (items := List.toArray u1) (n := f1) (by k_mem)) hu1.length (by omega) fun tkl1 tl1 => ?_
            try dsimp only
            ((repeat' ( (fail_if_success (with_reducible show wpAny _ _ (exec (Stmt.For _ _ _ _ _) _) _ _ _)); (fail_if_success (with_reducible show wpAny _ _ (exec (Stmt.While _ _ _ _) _) _ _ _)); (fail_if_success (with_reducible show wpAny _ _ (pyIter (Value.ref _)) _ _ _)); (fail_if_success (with_reducible show wpAny _ _ (call (Value.ref _) _ _) _ _ _)); (fail_if_success (with_reducible show wpAny _ _ (call (Value.builtin "next") _ _) _ _ _)); (fail_if_success (with_reducible show wpAny _ _ (eval (Expr.ListComp _ _ _ _) _) _ _ _)); (fail_if_success (with_reducible show LoopStep3 _ _ _ _ _ _ _ _ _ _)); (fail_if_success (with_reducible show LoopStepV _ _ _ _ _ _ _ _ _ _)); (fail_if_success (with_reducible show LCg.CompEnd _ _ _ _ _ _ _ _ _ _ _ _ _ _)); (fail_if_success (with_reducible show wpAny _ _ (storeName _ (Str.ofString "three") _) _ _ _)); (fail_if_success (with_reducible show wpAny _ _ (storeName _ (Str.ofString "words") _) _ _ _)); (fail_if_success (with_reducible show wpAny _ _ (binaryOp Operator.Add (Value.str _ _) (Value.str _ _)) _ _ _)); (fail_if_success (with_reducible show wpAny _ _ (compareOp CmpOp.NotEq (Value.ref _) (Value.ref _)) _ _ _)); (fail_if_success (with_reducible show wpAny _ _ (compareOp CmpOp.NotEq (Value.bytes _ _) (Value.bytes _ _)) _ _ _)); (fail_if_success (with_reducible show wpAny _ _ (call (Value.builtin "list.append") _) _ _ _)); (fail_if_success (with_reducible show wpAny _ _ (compareOp CmpOp.NotEq (Value.bool _) (Value.bool _)) _ _ _)); (fail_if_success (with_reducible show wpAny _ _ (PySem.eval (Expr.BoolOp _ _ _) (envOfC _ _ _ _ _)) _ _ _)); (fail_if_success (with_reducible show ValEnd _ _ _ _ _ _ _ _)); (fail_if_success (with_reducible show wpAny _ _ (call (Value.builtin "max") _) _ _ _)); (fail_if_success (with_reducible show wpAny _ _ (call (Value.builtin "min") _) _ _ _)); (fail_if_success (with_reducible show wpAny _ _ (call (Value.builtin "list.index") _) _ _ _)); (fail_if_success (with_reducible show wpAny _ _ (subscriptTail _ _ (Value.ref _) (Value.int (List.getD _ _ _) _)) _ _ _)); (fail_if_success (with_reducible show wpAny _ _ (subscriptTail _ _ (Value.ref _) (Value.int (Nat.cast _) _)) _ _ _)); (fail_if_success (with_reducible show wpAny _ _ (subscriptTail _ _ (Value.str _ _) (Value.ref _)) _ _ _)); (fail_if_success (with_reducible show wpAny _ _ (subscriptTail (Expr.Name (Str.ofString "whole") _) _ _ _) _ _ _)); (fail_if_success (with_reducible show wpAny _ _ (call (Value.builtin "len") _) _ _ _)); (fail_if_success (with_reducible show wpAny _ _ (binaryOp Operator.Mult _ _) _ _ _)); (first | (((with_reducible show wpAny _ _ (PySem.eval (Expr.Name _ _) (envOfC _ _ _ _ _)) _ _ _); name_kind "cell"; (rename News _ _ _ _ => N'); (refine ldCN N' (by rfl) (by k_mem) (by assumption) ?_); walk_say "m cell")) | ((with_reducible show wpAny _ _ (storeName _ _ _) _ _ _); dsimp only; walk1) | (k_unfold; (try dsimp only)) | (k_end; wrow_close) | walk1 | (dsimp only; walk1) | (leave1; walk_say "STEP leave1"; try dsimp only) | fail "no step"))))
            refine mul_int ?_ (IntMulOk.of_right (PySem.intBits_le_64 (by omega) (by omega)))
            try dsimp only
            ((repeat' ( (fail_if_success (with_reducible show wpAny _ _ (exec (Stmt.For _ _ _ _ _) _) _ _ _)); (fail_if_success (with_reducible show wpAny _ _ (exec (Stmt.While _ _ _ _) _) _ _ _)); (fail_if_success (with_reducible show wpAny _ _ (pyIter (Value.ref _)) _ _ _)); (fail_if_success (with_reducible show wpAny _ _ (call (Value.ref _) _ _) _ _ _)); (fail_if_success (with_reducible show wpAny _ _ (call (Value.builtin "next") _ _) _ _ _)); (fail_if_success (with_reducible show wpAny _ _ (eval (Expr.ListComp _ _ _ _) _) _ _ _)); (fail_if_success (with_reducible show LoopStep3 _ _ _ _ _ _ _ _ _ _)); (fail_if_success (with_reducible show LoopStepV _ _ _ _ _ _ _ _ _ _)); (fail_if_success (with_reducible show LCg.CompEnd _ _ _ _ _ _ _ _ _ _ _ _ _ _)); (fail_if_success (with_reducible show wpAny _ _ (storeName _ (Str.ofString "three") _) _ _ _)); (fail_if_success (with_reducible show wpAny _ _ (storeName _ (Str.ofString "words") _) _ _ _)); (fail_if_success (with_reducible show wpAny _ _ (binaryOp Operator.Add (Value.str _ _) (Value.str _ _)) _ _ _)); (fail_if_success (with_reducible show wpAny _ _ (compareOp CmpOp.NotEq (Value.ref _) (Value.ref _)) _ _ _)); (fail_if_success (with_reducible show wpAny _ _ (compareOp CmpOp.NotEq (Value.bytes _ _) (Value.bytes _ _)) _ _ _)); (fail_if_success (with_reducible show wpAny _ _ (call (Value.builtin "list.append") _) _ _ _)); (fail_if_success (with_reducible show wpAny _ _ (compareOp CmpOp.NotEq (Value.bool _) (Value.bool _)) _ _ _)); (fail_if_success (with_reducible show wpAny _ _ (PySem.eval (Expr.BoolOp _ _ _) (envOfC _ _ _ _ _)) _ _ _)); (fail_if_success (with_reducible show ValEnd _ _ _ _ _ _ _ _)); (fail_if_success (with_reducible show wpAny _ _ (call (Value.builtin "max") _) _ _ _)); (fail_if_success (with_reducible show wpAny _ _ (call (Value.builtin "min") _) _ _ _)); (fail_if_success (with_reducible show wpAny _ _ (call (Value.builtin "list.index") _) _ _ _)); (fail_if_success (with_reducible show wpAny _ _ (subscriptTail _ _ (Value.ref _) (Value.int (List.getD _ _ _) _)) _ _ _)); (fail_if_success (with_reducible show wpAny _ _ (subscriptTail _ _ (Value.ref _) (Value.int (Nat.cast _) _)) _ _ _)); (fail_if_success (with_reducible show wpAny _ _ (subscriptTail _ _ (Value.str _ _) (Value.ref _)) _ _ _)); (fail_if_success (with_reducible show wpAny _ _ (subscriptTail (Expr.Name (Str.ofString "whole") _) _ _ _) _ _ _)); (fail_if_success (with_reducible show wpAny _ _ (call (Value.builtin "len") _) _ _ _)); (fail_if_success (with_reducible show wpAny _ _ (binaryOp Operator.Mult _ _) _ _ _)); (first | (((with_reducible show wpAny _ _ (PySem.eval (Expr.Name _ _) (envOfC _ _ _ _ _)) _ _ _); name_kind "cell"; (rename News _ _ _ _ => N'); (refine ldCN N' (by rfl) (by k_mem) (by assumption) ?_); walk_say "m cell")) | ((with_reducible show wpAny _ _ (storeName _ _ _) _ _ _); dsimp only; walk1) | (k_unfold; (try dsimp only)) | (k_end; wrow_close) | walk1 | (dsimp only; walk1) | (leave1; walk_say "STEP leave1"; try dsimp only) | fail "no step"))))
            rename Fr _ _ _ _ => F9
            rename News _ _ _ _ => N9
            rename leadF (g q0) (g q1) ≠ 0 => hz0
            refine bb fun G hG => ?_
            obtain ⟨pr, aa, ab, po, most, hs0, hs1, z1, z2, z3, z4, z5, z6, z7, hmost, z8, z9, z10, z11⟩ := lev_rows hg l1 l2 l3 l4 p1 p2 p3 p4 p5 p6 q2 i hz0
            refine hG ?_
            clear hG G
            refine min3_call rfl fun h22 tk22 v22 hk22 => ?_
            have F12 := F9.after hk22
            have N12 : News _ _ _ _ := N9.grown hk22
            clear F9 N9
            have emost : (2 * min (min (2 * ((g q0).length : Int)) (2 * ((g q1).length : Int))) ((ham (rowS g (q0, q1, q2)).cps.toList (rowS g (q1, q0, q2)).cps.toList : Nat) : Int)) = ((most : Nat) : Int) := by rw [hmost]; omega
            try dsimp only
            ((repeat' ( (fail_if_success (with_reducible show wpAny _ _ (exec (Stmt.For _ _ _ _ _) _) _ _ _)); (fail_if_success (with_reducible show wpAny _ _ (exec (Stmt.While _ _ _ _) _) _ _ _)); (fail_if_success (with_reducible show wpAny _ _ (pyIter (Value.ref _)) _ _ _)); (fail_if_success (with_reducible show wpAny _ _ (call (Value.ref _) _ _) _ _ _)); (fail_if_success (with_reducible show wpAny _ _ (call (Value.builtin "next") _ _) _ _ _)); (fail_if_success (with_reducible show wpAny _ _ (eval (Expr.ListComp _ _ _ _) _) _ _ _)); (fail_if_success (with_reducible show LoopStep3 _ _ _ _ _ _ _ _ _ _)); (fail_if_success (with_reducible show LoopStepV _ _ _ _ _ _ _ _ _ _)); (fail_if_success (with_reducible show LCg.CompEnd _ _ _ _ _ _ _ _ _ _ _ _ _ _)); (fail_if_success (with_reducible show wpAny _ _ (storeName _ (Str.ofString "three") _) _ _ _)); (fail_if_success (with_reducible show wpAny _ _ (storeName _ (Str.ofString "words") _) _ _ _)); (fail_if_success (with_reducible show wpAny _ _ (binaryOp Operator.Add (Value.str _ _) (Value.str _ _)) _ _ _)); (fail_if_success (with_reducible show wpAny _ _ (compareOp CmpOp.NotEq (Value.ref _) (Value.ref _)) _ _ _)); (fail_if_success (with_reducible show wpAny _ _ (compareOp CmpOp.NotEq (Value.bytes _ _) (Value.bytes _ _)) _ _ _)); (fail_if_success (with_reducible show wpAny _ _ (call (Value.builtin "list.append") _) _ _ _)); (fail_if_success (with_reducible show wpAny _ _ (compareOp CmpOp.NotEq (Value.bool _) (Value.bool _)) _ _ _)); (fail_if_success (with_reducible show wpAny _ _ (PySem.eval (Expr.BoolOp _ _ _) (envOfC _ _ _ _ _)) _ _ _)); (fail_if_success (with_reducible show ValEnd _ _ _ _ _ _ _ _)); (fail_if_success (with_reducible show wpAny _ _ (call (Value.builtin "max") _) _ _ _)); (fail_if_success (with_reducible show wpAny _ _ (call (Value.builtin "min") _) _ _ _)); (fail_if_success (with_reducible show wpAny _ _ (call (Value.builtin "list.index") _) _ _ _)); (fail_if_success (with_reducible show wpAny _ _ (subscriptTail _ _ (Value.ref _) (Value.int (List.getD _ _ _) _)) _ _ _)); (fail_if_success (with_reducible show wpAny _ _ (subscriptTail _ _ (Value.ref _) (Value.int (Nat.cast _) _)) _ _ _)); (fail_if_success (with_reducible show wpAny _ _ (subscriptTail _ _ (Value.str _ _) (Value.ref _)) _ _ _)); (fail_if_success (with_reducible show wpAny _ _ (subscriptTail (Expr.Name (Str.ofString "whole") _) _ _ _) _ _ _)); (fail_if_success (with_reducible show wpAny _ _ (call (Value.builtin "len") _) _ _ _)); (fail_if_success (with_reducible show wpAny _ _ (binaryOp Operator.Mult _ _) _ _ _)); (first | (((with_reducible show wpAny _ _ (PySem.eval (Expr.Name _ _) (envOfC _ _ _ _ _)) _ _ _); name_kind "cell"; (rename News _ _ _ _ => N'); (refine ldCN N' (by rfl) (by k_mem) (by assumption) ?_); walk_say "m cell")) | ((with_reducible show wpAny _ _ (storeName _ _ _) _ _ _); dsimp only; walk1) | (k_unfold; (try dsimp only)) | (k_end; wrow_close) | walk1 | (dsimp only; walk1) | (leave1; walk_say "STEP leave1"; try dsimp only) | fail "no step"))))
            refine mul_int ?_ (IntMulOk.of_right (PySem.intBits_le_64 (by omega) (by omega)))
            rw [emost]
            try dsimp only
            ((repeat' ((( ((( (fail_if_success (with_reducible show wpAny _ _ (exec (Stmt.For _ _ _ _ _) _) _ _ _)); (fail_if_success (with_reducible show wpAny _ _ (exec (Stmt.While _ _ _ _) _) _ _ _)); (fail_if_success (with_reducible show wpAny _ _ (pyIter (Value.ref _)) _ _ _)); (fail_if_success (with_reducible show wpAny _ _ (call (Value.ref _) _ _) _ _ _)); (fail_if_success (with_reducible show wpAny _ _ (call (Value.builtin "next") _ _) _ _ _)); (fail_if_success (with_reducible show wpAny _ _ (eval (Expr.ListComp _ _ _ _) _) _ _ _)); (fail_if_success (with_reducible show LCg.CompEnd _ _ _ _ _ _ _ _ _ _ _ _ _ _)); (fail_if_success (with_reducible show LoopStep3 _ _ _ _ _ _ _ _ _ _)); (fail_if_success (with_reducible show LoopStepV _ _ _ _ _ _ _ _ _ _)); skip))); (fail_if_success (with_reducible show wpAny _ _ (storeName _ (Str.ofString "three") _) _ _ _)); (fail_if_success (with_reducible show wpAny _ _ (storeName _ (Str.ofString "words") _) _ _ _)); (fail_if_success (with_reducible show wpAny _ _ (binaryOp Operator.Add (Value.str _ _) (Value.str _ _)) _ _ _)); (fail_if_success (with_reducible show wpAny _ _ (compareOp CmpOp.NotEq (Value.ref _) (Value.ref _)) _ _ _)); (fail_if_success (with_reducible show wpAny _ _ (compareOp CmpOp.NotEq (Value.bytes _ _) (Value.bytes _ _)) _ _ _)); (fail_if_success (with_reducible show wpAny _ _ (call (Value.builtin "list.append") _) _ _ _)); (fail_if_success (with_reducible show wpAny _ _ (compareOp CmpOp.NotEq (Value.bool _) (Value.bool _)) _ _ _)); (fail_if_success (with_reducible show wpAny _ _ (PySem.eval (Expr.BoolOp _ _ _) (envOfC _ _ _ _ _)) _ _ _)); (fail_if_success (with_reducible show ValEnd _ _ _ _ _ _ _ _)); (fail_if_success (with_reducible show wpAny _ _ (call (Value.builtin "max") _) _ _ _)); (fail_if_success (with_reducible show wpAny _ _ (call (Value.builtin "min") _) _ _ _)); (fail_if_success (with_reducible show wpAny _ _ (call (Value.builtin "list.index") _) _ _ _)); (fail_if_success (with_reducible show wpAny _ _ (subscriptTail _ _ (Value.ref _) (Value.int (List.getD _ _ _) _)) _ _ _)); (fail_if_success (with_reducible show wpAny _ _ (subscriptTail _ _ (Value.ref _) (Value.int (Nat.cast _) _)) _ _ _)); (fail_if_success (with_reducible show wpAny _ _ (subscriptTail _ _ (Value.str _ _) (Value.ref _)) _ _ _)); (fail_if_success (with_reducible show wpAny _ _ (subscriptTail (Expr.Name (Str.ofString "whole") _) _ _ _) _ _ _)); (first | (((with_reducible show wpAny _ _ (PySem.eval (Expr.Name _ _) (envOfC _ _ _ _ _)) _ _ _); name_kind "cell"; (rename News _ _ _ _ => N'); (refine ldCN N' (by rfl) (by k_mem) (by assumption) ?_); walk_say "m cell")) | ((first | ((with_reducible show wpAny _ _ (storeName _ _ _) _ _ _); dsimp only; walk1) | ((first | (k_unfold; (try dsimp only)) | (k_end; wrow_close) | walk1 | (dsimp only; walk1) | (leave1; walk_say "STEP leave1"; try dsimp only) | fail "no step"))))))))))
            rename News _ _ _ _ => N9
            refine sub_at (k := i) (vs := rv) (News.get N9 (a := rws) (o := listOf (List.toArray rv) k2) (by k_mem)) hr0 (by omega) ?_
            try dsimp only
            ((repeat' ((( ((( (fail_if_success (with_reducible show wpAny _ _ (exec (Stmt.For _ _ _ _ _) _) _ _ _)); (fail_if_success (with_reducible show wpAny _ _ (exec (Stmt.While _ _ _ _) _) _ _ _)); (fail_if_success (with_reducible show wpAny _ _ (pyIter (Value.ref _)) _ _ _)); (fail_if_success (with_reducible show wpAny _ _ (call (Value.ref _) _ _) _ _ _)); (fail_if_success (with_reducible show wpAny _ _ (call (Value.builtin "next") _ _) _ _ _)); (fail_if_success (with_reducible show wpAny _ _ (eval (Expr.ListComp _ _ _ _) _) _ _ _)); (fail_if_success (with_reducible show LCg.CompEnd _ _ _ _ _ _ _ _ _ _ _ _ _ _)); (fail_if_success (with_reducible show LoopStep3 _ _ _ _ _ _ _ _ _ _)); (fail_if_success (with_reducible show LoopStepV _ _ _ _ _ _ _ _ _ _)); skip))); (fail_if_success (with_reducible show wpAny _ _ (storeName _ (Str.ofString "three") _) _ _ _)); (fail_if_success (with_reducible show wpAny _ _ (storeName _ (Str.ofString "words") _) _ _ _)); (fail_if_success (with_reducible show wpAny _ _ (binaryOp Operator.Add (Value.str _ _) (Value.str _ _)) _ _ _)); (fail_if_success (with_reducible show wpAny _ _ (compareOp CmpOp.NotEq (Value.ref _) (Value.ref _)) _ _ _)); (fail_if_success (with_reducible show wpAny _ _ (compareOp CmpOp.NotEq (Value.bytes _ _) (Value.bytes _ _)) _ _ _)); (fail_if_success (with_reducible show wpAny _ _ (call (Value.builtin "list.append") _) _ _ _)); (fail_if_success (with_reducible show wpAny _ _ (compareOp CmpOp.NotEq (Value.bool _) (Value.bool _)) _ _ _)); (fail_if_success (with_reducible show wpAny _ _ (PySem.eval (Expr.BoolOp _ _ _) (envOfC _ _ _ _ _)) _ _ _)); (fail_if_success (with_reducible show ValEnd _ _ _ _ _ _ _ _)); (fail_if_success (with_reducible show wpAny _ _ (call (Value.builtin "max") _) _ _ _)); (fail_if_success (with_reducible show wpAny _ _ (call (Value.builtin "min") _) _ _ _)); (fail_if_success (with_reducible show wpAny _ _ (call (Value.builtin "list.index") _) _ _ _)); (fail_if_success (with_reducible show wpAny _ _ (subscriptTail _ _ (Value.ref _) (Value.int (List.getD _ _ _) _)) _ _ _)); (fail_if_success (with_reducible show wpAny _ _ (subscriptTail _ _ (Value.ref _) (Value.int (Nat.cast _) _)) _ _ _)); (fail_if_success (with_reducible show wpAny _ _ (subscriptTail _ _ (Value.str _ _) (Value.ref _)) _ _ _)); (fail_if_success (with_reducible show wpAny _ _ (subscriptTail (Expr.Name (Str.ofString "whole") _) _ _ _) _ _ _)); (first | (((with_reducible show wpAny _ _ (PySem.eval (Expr.Name _ _) (envOfC _ _ _ _ _)) _ _ _); name_kind "cell"; (rename News _ _ _ _ => N'); (refine ldCN N' (by rfl) (by k_mem) (by assumption) ?_); walk_say "m cell")) | ((first | ((with_reducible show wpAny _ _ (storeName _ _ _) _ _ _); dsimp only; walk1) | ((first | (k_unfold; (try dsimp only)) | (k_end; wrow_close) | walk1 | (dsimp only; walk1) | (leave1; walk_say "STEP leave1"; try dsimp only) | fail "no step"))))))))))
            rename News _ _ _ _ => N9
            refine sub_at (k := iq) (vs := rv) (News.get N9 (a := rws) (o := listOf (List.toArray rv) k2) (by k_mem)) hr1 (by omega) ?_
            try dsimp only
            ((repeat' ((( ((( (fail_if_success (with_reducible show wpAny _ _ (exec (Stmt.For _ _ _ _ _) _) _ _ _)); (fail_if_success (with_reducible show wpAny _ _ (exec (Stmt.While _ _ _ _) _) _ _ _)); (fail_if_success (with_reducible show wpAny _ _ (pyIter (Value.ref _)) _ _ _)); (fail_if_success (with_reducible show wpAny _ _ (call (Value.ref _) _ _) _ _ _)); (fail_if_success (with_reducible show wpAny _ _ (call (Value.builtin "next") _ _) _ _ _)); (fail_if_success (with_reducible show wpAny _ _ (eval (Expr.ListComp _ _ _ _) _) _ _ _)); (fail_if_success (with_reducible show LCg.CompEnd _ _ _ _ _ _ _ _ _ _ _ _ _ _)); (fail_if_success (with_reducible show LoopStep3 _ _ _ _ _ _ _ _ _ _)); (fail_if_success (with_reducible show LoopStepV _ _ _ _ _ _ _ _ _ _)); skip))); (fail_if_success (with_reducible show wpAny _ _ (storeName _ (Str.ofString "three") _) _ _ _)); (fail_if_success (with_reducible show wpAny _ _ (storeName _ (Str.ofString "words") _) _ _ _)); (fail_if_success (with_reducible show wpAny _ _ (binaryOp Operator.Add (Value.str _ _) (Value.str _ _)) _ _ _)); (fail_if_success (with_reducible show wpAny _ _ (compareOp CmpOp.NotEq (Value.ref _) (Value.ref _)) _ _ _)); (fail_if_success (with_reducible show wpAny _ _ (compareOp CmpOp.NotEq (Value.bytes _ _) (Value.bytes _ _)) _ _ _)); (fail_if_success (with_reducible show wpAny _ _ (call (Value.builtin "list.append") _) _ _ _)); (fail_if_success (with_reducible show wpAny _ _ (compareOp CmpOp.NotEq (Value.bool _) (Value.bool _)) _ _ _)); (fail_if_success (with_reducible show wpAny _ _ (PySem.eval (Expr.BoolOp _ _ _) (envOfC _ _ _ _ _)) _ _ _)); (fail_if_success (with_reducible show ValEnd _ _ _ _ _ _ _ _)); (fail_if_success (with_reducible show wpAny _ _ (call (Value.builtin "max") _) _ _ _)); (fail_if_success (with_reducible show wpAny _ _ (call (Value.builtin "min") _) _ _ _)); (fail_if_success (with_reducible show wpAny _ _ (call (Value.builtin "list.index") _) _ _ _)); (fail_if_success (with_reducible show wpAny _ _ (subscriptTail _ _ (Value.ref _) (Value.int (List.getD _ _ _) _)) _ _ _)); (fail_if_success (with_reducible show wpAny _ _ (subscriptTail _ _ (Value.ref _) (Value.int (Nat.cast _) _)) _ _ _)); (fail_if_success (with_reducible show wpAny _ _ (subscriptTail _ _ (Value.str _ _) (Value.ref _)) _ _ _)); (fail_if_success (with_reducible show wpAny _ _ (subscriptTail (Expr.Name (Str.ofString "whole") _) _ _ _) _ _ _)); (first | (((with_reducible show wpAny _ _ (PySem.eval (Expr.Name _ _) (envOfC _ _ _ _ _)) _ _ _); name_kind "cell"; (rename News _ _ _ _ => N'); (refine ldCN N' (by rfl) (by k_mem) (by assumption) ?_); walk_say "m cell")) | ((first | ((with_reducible show wpAny _ _ (storeName _ _ _) _ _ _); dsimp only; walk1) | ((first | (k_unfold; (try dsimp only)) | (k_end; wrow_close) | walk1 | (dsimp only; walk1) | (leave1; walk_say "STEP leave1"; try dsimp only) | fail "no step"))))))))))
            rename Fr _ _ _ _ => F13
            rename News _ _ _ _ => N13
            rw [hs0, hs1, show ((most : Nat) : Int) + ((i : Nat) : Int) = ((most + i : Nat) : Int) from rfl]
            refine leven_call (KX.keeps F13.keep) (T.keeps F13.keep) (by show 1 + claimMargin + 1 + 5 < recursionLimit; decide) (by show 4 + 3 + 30 < cLine; decide) rfl z1 z2 z3 z4 z5 z6 z7 (by omega) fun t23 h23 tk23 hk23 => ?_
            have F14 := F13.after hk23
            have N14 : News _ _ _ _ := N13.grown hk23
            clear F13 N13
            generalize levD aa ab (most + i) = cost at *
            try dsimp only
            ((repeat' ((( ((( (fail_if_success (with_reducible show wpAny _ _ (exec (Stmt.For _ _ _ _ _) _) _ _ _)); (fail_if_success (with_reducible show wpAny _ _ (exec (Stmt.While _ _ _ _) _) _ _ _)); (fail_if_success (with_reducible show wpAny _ _ (pyIter (Value.ref _)) _ _ _)); (fail_if_success (with_reducible show wpAny _ _ (call (Value.ref _) _ _) _ _ _)); (fail_if_success (with_reducible show wpAny _ _ (call (Value.builtin "next") _ _) _ _ _)); (fail_if_success (with_reducible show wpAny _ _ (eval (Expr.ListComp _ _ _ _) _) _ _ _)); (fail_if_success (with_reducible show LCg.CompEnd _ _ _ _ _ _ _ _ _ _ _ _ _ _)); (fail_if_success (with_reducible show LoopStep3 _ _ _ _ _ _ _ _ _ _)); (fail_if_success (with_reducible show LoopStepV _ _ _ _ _ _ _ _ _ _)); skip))); (fail_if_success (with_reducible show wpAny _ _ (storeName _ (Str.ofString "three") _) _ _ _)); (fail_if_success (with_reducible show wpAny _ _ (storeName _ (Str.ofString "words") _) _ _ _)); (fail_if_success (with_reducible show wpAny _ _ (binaryOp Operator.Add (Value.str _ _) (Value.str _ _)) _ _ _)); (fail_if_success (with_reducible show wpAny _ _ (compareOp CmpOp.NotEq (Value.ref _) (Value.ref _)) _ _ _)); (fail_if_success (with_reducible show wpAny _ _ (compareOp CmpOp.NotEq (Value.bytes _ _) (Value.bytes _ _)) _ _ _)); (fail_if_success (with_reducible show wpAny _ _ (call (Value.builtin "list.append") _) _ _ _)); (fail_if_success (with_reducible show wpAny _ _ (compareOp CmpOp.NotEq (Value.bool _) (Value.bool _)) _ _ _)); (fail_if_success (with_reducible show wpAny _ _ (PySem.eval (Expr.BoolOp _ _ _) (envOfC _ _ _ _ _)) _ _ _)); (fail_if_success (with_reducible show ValEnd _ _ _ _ _ _ _ _)); (fail_if_success (with_reducible show wpAny _ _ (call (Value.builtin "max") _) _ _ _)); (fail_if_success (with_reducible show wpAny _ _ (call (Value.builtin "min") _) _ _ _)); (fail_if_success (with_reducible show wpAny _ _ (call (Value.builtin "list.index") _) _ _ _)); (fail_if_success (with_reducible show wpAny _ _ (subscriptTail _ _ (Value.ref _) (Value.int (List.getD _ _ _) _)) _ _ _)); (fail_if_success (with_reducible show wpAny _ _ (subscriptTail _ _ (Value.ref _) (Value.int (Nat.cast _) _)) _ _ _)); (fail_if_success (with_reducible show wpAny _ _ (subscriptTail _ _ (Value.str _ _) (Value.ref _)) _ _ _)); (fail_if_success (with_reducible show wpAny _ _ (subscriptTail (Expr.Name (Str.ofString "whole") _) _ _ _) _ _ _)); (first | (((with_reducible show wpAny _ _ (PySem.eval (Expr.Name _ _) (envOfC _ _ _ _ _)) _ _ _); name_kind "cell"; (rename News _ _ _ _ => N'); (refine ldCN N' (by rfl) (by k_mem) (by assumption) ?_); walk_say "m cell")) | ((first | ((with_reducible show wpAny _ _ (storeName _ _ _) _ _ _); dsimp only; walk1) | ((first | (k_unfold; (try dsimp only)) | (k_end; wrow_close) | walk1 | (dsimp only; walk1) | (leave1; walk_say "STEP leave1"; try dsimp only) | fail "no step"))))))))))
            rename Fr _ _ _ _ => F14
            rename News _ _ _ _ => N14
            refine min2_call rfl fun h24 tk24 v24 hk24 => ?_
            have F15 := F14.after hk24
            have N15 : News _ _ _ _ := N14.grown hk24
            clear F14 N14
            try dsimp only
            ((repeat' ((( ((( (fail_if_success (with_reducible show wpAny _ _ (exec (Stmt.For _ _ _ _ _) _) _ _ _)); (fail_if_success (with_reducible show wpAny _ _ (exec (Stmt.While _ _ _ _) _) _ _ _)); (fail_if_success (with_reducible show wpAny _ _ (pyIter (Value.ref _)) _ _ _)); (fail_if_success (with_reducible show wpAny _ _ (call (Value.ref _) _ _) _ _ _)); (fail_if_success (with_reducible show wpAny _ _ (call (Value.builtin "next") _ _) _ _ _)); (fail_if_success (with_reducible show wpAny _ _ (eval (Expr.ListComp _ _ _ _) _) _ _ _)); (fail_if_success (with_reducible show LCg.CompEnd _ _ _ _ _ _ _ _ _ _ _ _ _ _)); (fail_if_success (with_reducible show LoopStep3 _ _ _ _ _ _ _ _ _ _)); (fail_if_success (with_reducible show LoopStepV _ _ _ _ _ _ _ _ _ _)); skip))); (fail_if_success (with_reducible show wpAny _ _ (storeName _ (Str.ofString "three") _) _ _ _)); (fail_if_success (with_reducible show wpAny _ _ (storeName _ (Str.ofString "words") _) _ _ _)); (fail_if_success (with_reducible show wpAny _ _ (binaryOp Operator.Add (Value.str _ _) (Value.str _ _)) _ _ _)); (fail_if_success (with_reducible show wpAny _ _ (compareOp CmpOp.NotEq (Value.ref _) (Value.ref _)) _ _ _)); (fail_if_success (with_reducible show wpAny _ _ (compareOp CmpOp.NotEq (Value.bytes _ _) (Value.bytes _ _)) _ _ _)); (fail_if_success (with_reducible show wpAny _ _ (call (Value.builtin "list.append") _) _ _ _)); (fail_if_success (with_reducible show wpAny _ _ (compareOp CmpOp.NotEq (Value.bool _) (Value.bool _)) _ _ _)); (fail_if_success (with_reducible show wpAny _ _ (PySem.eval (Expr.BoolOp _ _ _) (envOfC _ _ _ _ _)) _ _ _)); (fail_if_success (with_reducible show ValEnd _ _ _ _ _ _ _ _)); (fail_if_success (with_reducible show wpAny _ _ (call (Value.builtin "max") _) _ _ _)); (fail_if_success (with_reducible show wpAny _ _ (call (Value.builtin "min") _) _ _ _)); (fail_if_success (with_reducible show wpAny _ _ (call (Value.builtin "list.index") _) _ _ _)); (fail_if_success (with_reducible show wpAny _ _ (subscriptTail _ _ (Value.ref _) (Value.int (List.getD _ _ _) _)) _ _ _)); (fail_if_success (with_reducible show wpAny _ _ (subscriptTail _ _ (Value.ref _) (Value.int (Nat.cast _) _)) _ _ _)); (fail_if_success (with_reducible show wpAny _ _ (subscriptTail _ _ (Value.str _ _) (Value.ref _)) _ _ _)); (fail_if_success (with_reducible show wpAny _ _ (subscriptTail (Expr.Name (Str.ofString "whole") _) _ _ _) _ _ _)); (first | (((with_reducible show wpAny _ _ (PySem.eval (Expr.Name _ _) (envOfC _ _ _ _ _)) _ _ _); name_kind "cell"; (rename News _ _ _ _ => N'); (refine ldCN N' (by rfl) (by k_mem) (by assumption) ?_); walk_say "m cell")) | ((first | ((with_reducible show wpAny _ _ (storeName _ _ _) _ _ _); dsimp only; walk1) | ((first | (k_unfold; (try dsimp only)) | (k_end; wrow_close) | walk1 | (dsimp only; walk1) | (leave1; walk_say "STEP leave1"; try dsimp only) | fail "no step"))))))))))
            refine LoopStepV.next (LoopStepU.intro (news₂ := (whs, listOf (List.toArray wv) k1) :: (rws, listOf (List.toArray rv) k2) :: B) F15 (by rw [hR]; exact news_sub N15 fun p hp => by (repeat (refine List.Mem.tail _ ?_)); exact hp) hoff (hKt _ _ ⟨rfl, rfl, rfl, rfl⟩))
          · rename News _ _ _ _ => N9
            refine sub_at (k := i) (vs := rv) (News.get N9 (a := rws) (o := listOf (List.toArray rv) k2) (by k_mem)) hr0 (by omega) ?_
            try dsimp only
            ((repeat' ((( ((( (fail_if_success (with_reducible show wpAny _ _ (exec (Stmt.For _ _ _ _ _) _) _ _ _)); (fail_if_success (with_reducible show wpAny _ _ (exec (Stmt.While _ _ _ _) _) _ _ _)); (fail_if_success (with_reducible show wpAny _ _ (pyIter (Value.ref _)) _ _ _)); (fail_if_success (with_reducible show wpAny _ _ (call (Value.ref _) _ _) _ _ _)); (fail_if_success (with_reducible show wpAny _ _ (call (Value.builtin "next") _ _) _ _ _)); (fail_if_success (with_reducible show wpAny _ _ (eval (Expr.ListComp _ _ _ _) _) _ _ _)); (fail_if_success (with_reducible show LCg.CompEnd _ _ _ _ _ _ _ _ _ _ _ _ _ _)); (fail_if_success (with_reducible show LoopStep3 _ _ _ _ _ _ _ _ _ _)); (fail_if_success (with_reducible show LoopStepV _ _ _ _ _ _ _ _ _ _)); skip))); (fail_if_success (with_reducible show wpAny _ _ (storeName _ (Str.ofString "three") _) _ _ _)); (fail_if_success (with_reducible show wpAny _ _ (storeName _ (Str.ofString "words") _) _ _ _)); (fail_if_success (with_reducible show wpAny _ _ (binaryOp Operator.Add (Value.str _ _) (Value.str _ _)) _ _ _)); (fail_if_success (with_reducible show wpAny _ _ (compareOp CmpOp.NotEq (Value.ref _) (Value.ref _)) _ _ _)); (fail_if_success (with_reducible show wpAny _ _ (compareOp CmpOp.NotEq (Value.bytes _ _) (Value.bytes _ _)) _ _ _)); (fail_if_success (with_reducible show wpAny _ _ (call (Value.builtin "list.append") _) _ _ _)); (fail_if_success (with_reducible show wpAny _ _ (compareOp CmpOp.NotEq (Value.bool _) (Value.bool _)) _ _ _)); (fail_if_success (with_reducible show wpAny _ _ (PySem.eval (Expr.BoolOp _ _ _) (envOfC _ _ _ _ _)) _ _ _)); (fail_if_success (with_reducible show ValEnd _ _ _ _ _ _ _ _)); (fail_if_success (with_reducible show wpAny _ _ (call (Value.builtin "max") _) _ _ _)); (fail_if_success (with_reducible show wpAny _ _ (call (Value.builtin "min") _) _ _ _)); (fail_if_success (with_reducible show wpAny _ _ (call (Value.builtin "list.index") _) _ _ _)); (fail_if_success (with_reducible show wpAny _ _ (subscriptTail _ _ (Value.ref _) (Value.int (List.getD _ _ _) _)) _ _ _)); (fail_if_success (with_reducible show wpAny _ _ (subscriptTail _ _ (Value.ref _) (Value.int (Nat.cast _) _)) _ _ _)); (fail_if_success (with_reducible show wpAny _ _ (subscriptTail _ _ (Value.str _ _) (Value.ref _)) _ _ _)); (fail_if_success (with_reducible show wpAny _ _ (subscriptTail (Expr.Name (Str.ofString "whole") _) _ _ _) _ _ _)); (first | (((with_reducible show wpAny _ _ (PySem.eval (Expr.Name _ _) (envOfC _ _ _ _ _)) _ _ _); name_kind "cell"; (rename News _ _ _ _ => N'); (refine ldCN N' (by rfl) (by k_mem) (by assumption) ?_); walk_say "m cell")) | ((first | ((with_reducible show wpAny _ _ (storeName _ _ _) _ _ _); dsimp only; walk1) | ((first | (k_unfold; (try dsimp only)) | (k_end; wrow_close) | walk1 | (dsimp only; walk1) | (leave1; walk_say "STEP leave1"; try dsimp only) | fail "no step"))))))))))
            rename News _ _ _ _ => N9
            refine sub_at (k := iq) (vs := rv) (News.get N9 (a := rws) (o := listOf (List.toArray rv) k2) (by k_mem)) hr1 (by omega) ?_
            try dsimp only
            ((repeat' ((( ((( (fail_if_success (with_reducible show wpAny _ _ (exec (Stmt.For _ _ _ _ _) _) _ _ _)); (fail_if_success (with_reducible show wpAny _ _ (exec (Stmt.While _ _ _ _) _) _ _ _)); (fail_if_success (with_reducible show wpAny _ _ (pyIter (Value.ref _)) _ _ _)); (fail_if_success (with_reducible show wpAny _ _ (call (Value.ref _) _ _) _ _ _)); (fail_if_success (with_reducible show wpAny _ _ (call (Value.builtin "next") _ _) _ _ _)); (fail_if_success (with_reducible show wpAny _ _ (eval (Expr.ListComp _ _ _ _) _) _ _ _)); (fail_if_success (with_reducible show LCg.CompEnd _ _ _ _ _ _ _ _ _ _ _ _ _ _)); (fail_if_success (with_reducible show LoopStep3 _ _ _ _ _ _ _ _ _ _)); (fail_if_success (with_reducible show LoopStepV _ _ _ _ _ _ _ _ _ _)); skip))); (fail_if_success (with_reducible show wpAny _ _ (storeName _ (Str.ofString "three") _) _ _ _)); (fail_if_success (with_reducible show wpAny _ _ (storeName _ (Str.ofString "words") _) _ _ _)); (fail_if_success (with_reducible show wpAny _ _ (binaryOp Operator.Add (Value.str _ _) (Value.str _ _)) _ _ _)); (fail_if_success (with_reducible show wpAny _ _ (compareOp CmpOp.NotEq (Value.ref _) (Value.ref _)) _ _ _)); (fail_if_success (with_reducible show wpAny _ _ (compareOp CmpOp.NotEq (Value.bytes _ _) (Value.bytes _ _)) _ _ _)); (fail_if_success (with_reducible show wpAny _ _ (call (Value.builtin "list.append") _) _ _ _)); (fail_if_success (with_reducible show wpAny _ _ (compareOp CmpOp.NotEq (Value.bool _) (Value.bool _)) _ _ _)); (fail_if_success (with_reducible show wpAny _ _ (PySem.eval (Expr.BoolOp _ _ _) (envOfC _ _ _ _ _)) _ _ _)); (fail_if_success (with_reducible show ValEnd _ _ _ _ _ _ _ _)); (fail_if_success (with_reducible show wpAny _ _ (call (Value.builtin "max") _) _ _ _)); (fail_if_success (with_reducible show wpAny _ _ (call (Value.builtin "min") _) _ _ _)); (fail_if_success (with_reducible show wpAny _ _ (call (Value.builtin "list.index") _) _ _ _)); (fail_if_success (with_reducible show wpAny _ _ (subscriptTail _ _ (Value.ref _) (Value.int (List.getD _ _ _) _)) _ _ _)); (fail_if_success (with_reducible show wpAny _ _ (subscriptTail _ _ (Value.ref _) (Value.int (Nat.cast _) _)) _ _ _)); (fail_if_success (with_reducible show wpAny _ _ (subscriptTail _ _ (Value.str _ _) (Value.ref _)) _ _ _)); (fail_if_success (with_reducible show wpAny _ _ (subscriptTail (Expr.Name (Str.ofString "whole") _) _ _ _) _ _ _)); (first | (((with_reducible show wpAny _ _ (PySem.eval (Expr.Name _ _) (envOfC _ _ _ _ _)) _ _ _); name_kind "cell"; (rename News _ _ _ _ => N'); (refine ldCN N' (by rfl) (by k_mem) (by assumption) ?_); walk_say "m cell")) | ((first | ((with_reducible show wpAny _ _ (storeName _ _ _) _ _ _); dsimp only; walk1) | ((first | (k_unfold; (try dsimp only)) | (k_end; wrow_close) | walk1 | (dsimp only; walk1) | (leave1; walk_say "STEP leave1"; try dsimp only) | fail "no step"))))))))))
            rename leadF (g q0) (g q1) = 0 => hz0
            rename Fr _ _ _ _ => F10
            rename News _ _ _ _ => N10
            rw [rows_same g1 q2 hz0]
            refine leven_same (KX.keeps F10.keep) (T.keeps F10.keep) (by show 1 + claimMargin + 1 + 5 < recursionLimit; decide) rfl fun t21 h21 tk21 hk21 => ?_
            have F11 := F10.after hk21
            have N11 : News _ _ _ _ := N10.grown hk21
            clear F10 N10
            try dsimp only
            ((repeat' ((( ((( (fail_if_success (with_reducible show wpAny _ _ (exec (Stmt.For _ _ _ _ _) _) _ _ _)); (fail_if_success (with_reducible show wpAny _ _ (exec (Stmt.While _ _ _ _) _) _ _ _)); (fail_if_success (with_reducible show wpAny _ _ (pyIter (Value.ref _)) _ _ _)); (fail_if_success (with_reducible show wpAny _ _ (call (Value.ref _) _ _) _ _ _)); (fail_if_success (with_reducible show wpAny _ _ (call (Value.builtin "next") _ _) _ _ _)); (fail_if_success (with_reducible show wpAny _ _ (eval (Expr.ListComp _ _ _ _) _) _ _ _)); (fail_if_success (with_reducible show LCg.CompEnd _ _ _ _ _ _ _ _ _ _ _ _ _ _)); (fail_if_success (with_reducible show LoopStep3 _ _ _ _ _ _ _ _ _ _)); (fail_if_success (with_reducible show LoopStepV _ _ _ _ _ _ _ _ _ _)); skip))); (fail_if_success (with_reducible show wpAny _ _ (storeName _ (Str.ofString "three") _) _ _ _)); (fail_if_success (with_reducible show wpAny _ _ (storeName _ (Str.ofString "words") _) _ _ _)); (fail_if_success (with_reducible show wpAny _ _ (binaryOp Operator.Add (Value.str _ _) (Value.str _ _)) _ _ _)); (fail_if_success (with_reducible show wpAny _ _ (compareOp CmpOp.NotEq (Value.ref _) (Value.ref _)) _ _ _)); (fail_if_success (with_reducible show wpAny _ _ (compareOp CmpOp.NotEq (Value.bytes _ _) (Value.bytes _ _)) _ _ _)); (fail_if_success (with_reducible show wpAny _ _ (call (Value.builtin "list.append") _) _ _ _)); (fail_if_success (with_reducible show wpAny _ _ (compareOp CmpOp.NotEq (Value.bool _) (Value.bool _)) _ _ _)); (fail_if_success (with_reducible show wpAny _ _ (PySem.eval (Expr.BoolOp _ _ _) (envOfC _ _ _ _ _)) _ _ _)); (fail_if_success (with_reducible show ValEnd _ _ _ _ _ _ _ _)); (fail_if_success (with_reducible show wpAny _ _ (call (Value.builtin "max") _) _ _ _)); (fail_if_success (with_reducible show wpAny _ _ (call (Value.builtin "min") _) _ _ _)); (fail_if_success (with_reducible show wpAny _ _ (call (Value.builtin "list.index") _) _ _ _)); (fail_if_success (with_reducible show wpAny _ _ (subscriptTail _ _ (Value.ref _) (Value.int (List.getD _ _ _) _)) _ _ _)); (fail_if_success (with_reducible show wpAny _ _ (subscriptTail _ _ (Value.ref _) (Value.int (Nat.cast _) _)) _ _ _)); (fail_if_success (with_reducible show wpAny _ _ (subscriptTail _ _ (Value.str _ _) (Value.ref _)) _ _ _)); (fail_if_success (with_reducible show wpAny _ _ (subscriptTail (Expr.Name (Str.ofString "whole") _) _ _ _) _ _ _)); (first | (((with_reducible show wpAny _ _ (PySem.eval (Expr.Name _ _) (envOfC _ _ _ _ _)) _ _ _); name_kind "cell"; (rename News _ _ _ _ => N'); (refine ldCN N' (by rfl) (by k_mem) (by assumption) ?_); walk_say "m cell")) | ((first | ((with_reducible show wpAny _ _ (storeName _ _ _) _ _ _); dsimp only; walk1) | ((first | (k_unfold; (try dsimp only)) | (k_end; wrow_close) | walk1 | (dsimp only; walk1) | (leave1; walk_say "STEP leave1"; try dsimp only) | fail "no step"))))))))))
            rename Fr _ _ _ _ => F14
            rename News _ _ _ _ => N14
            refine min2_call rfl fun h24 tk24 v24 hk24 => ?_
            have F15 := F14.after hk24
            have N15 : News _ _ _ _ := N14.grown hk24
            clear F14 N14
            try dsimp only
            ((repeat' ((( ((( (fail_if_success (with_reducible show wpAny _ _ (exec (Stmt.For _ _ _ _ _) _) _ _ _)); (fail_if_success (with_reducible show wpAny _ _ (exec (Stmt.While _ _ _ _) _) _ _ _)); (fail_if_success (with_reducible show wpAny _ _ (pyIter (Value.ref _)) _ _ _)); (fail_if_success (with_reducible show wpAny _ _ (call (Value.ref _) _ _) _ _ _)); (fail_if_success (with_reducible show wpAny _ _ (call (Value.builtin "next") _ _) _ _ _)); (fail_if_success (with_reducible show wpAny _ _ (eval (Expr.ListComp _ _ _ _) _) _ _ _)); (fail_if_success (with_reducible show LCg.CompEnd _ _ _ _ _ _ _ _ _ _ _ _ _ _)); (fail_if_success (with_reducible show LoopStep3 _ _ _ _ _ _ _ _ _ _)); (fail_if_success (with_reducible show LoopStepV _ _ _ _ _ _ _ _ _ _)); skip))); (fail_if_success (with_reducible show wpAny _ _ (storeName _ (Str.ofString "three") _) _ _ _)); (fail_if_success (with_reducible show wpAny _ _ (storeName _ (Str.ofString "words") _) _ _ _)); (fail_if_success (with_reducible show wpAny _ _ (binaryOp Operator.Add (Value.str _ _) (Value.str _ _)) _ _ _)); (fail_if_success (with_reducible show wpAny _ _ (compareOp CmpOp.NotEq (Value.ref _) (Value.ref _)) _ _ _)); (fail_if_success (with_reducible show wpAny _ _ (compareOp CmpOp.NotEq (Value.bytes _ _) (Value.bytes _ _)) _ _ _)); (fail_if_success (with_reducible show wpAny _ _ (call (Value.builtin "list.append") _) _ _ _)); (fail_if_success (with_reducible show wpAny _ _ (compareOp CmpOp.NotEq (Value.bool _) (Value.bool _)) _ _ _)); (fail_if_success (with_reducible show wpAny _ _ (PySem.eval (Expr.BoolOp _ _ _) (envOfC _ _ _ _ _)) _ _ _)); (fail_if_success (with_reducible show ValEnd _ _ _ _ _ _ _ _)); (fail_if_success (with_reducible show wpAny _ _ (call (Value.builtin "max") _) _ _ _)); (fail_if_success (with_reducible show wpAny _ _ (call (Value.builtin "min") _) _ _ _)); (fail_if_success (with_reducible show wpAny _ _ (call (Value.builtin "list.index") _) _ _ _)); (fail_if_success (with_reducible show wpAny _ _ (subscriptTail _ _ (Value.ref _) (Value.int (List.getD _ _ _) _)) _ _ _)); (fail_if_success (with_reducible show wpAny _ _ (subscriptTail _ _ (Value.ref _) (Value.int (Nat.cast _) _)) _ _ _)); (fail_if_success (with_reducible show wpAny _ _ (subscriptTail _ _ (Value.str _ _) (Value.ref _)) _ _ _)); (fail_if_success (with_reducible show wpAny _ _ (subscriptTail (Expr.Name (Str.ofString "whole") _) _ _ _) _ _ _)); (first | (((with_reducible show wpAny _ _ (PySem.eval (Expr.Name _ _) (envOfC _ _ _ _ _)) _ _ _); name_kind "cell"; (rename News _ _ _ _ => N'); (refine ldCN N' (by rfl) (by k_mem) (by assumption) ?_); walk_say "m cell")) | ((first | ((with_reducible show wpAny _ _ (storeName _ _ _) _ _ _); dsimp only; walk1) | ((first | (k_unfold; (try dsimp only)) | (k_end; wrow_close) | walk1 | (dsimp only; walk1) | (leave1; walk_say "STEP leave1"; try dsimp only) | fail "no step"))))))))))
            refine LoopStepV.next (LoopStepU.intro (news₂ := (whs, listOf (List.toArray wv) k1) :: (rws, listOf (List.toArray rv) k2) :: B) F15 (by rw [hR]; exact news_sub N15 fun p hp => by (repeat (refine List.Mem.tail _ ?_)); exact hp) hoff (hKt _ _ ⟨rfl, rfl, rfl, rfl⟩))
          · rename Fr _ _ _ _ => F9
            refine LoopStepV.next (LoopStepU.intro (news₂ := (whs, listOf (List.toArray wv) k1) :: (rws, listOf (List.toArray rv) k2) :: B) F9 (by rw [hR]; exact news_sub N13 fun p hp => by (repeat (refine List.Mem.tail _ ?_)); exact hp) hoff (hKt _ _ ⟨rfl, rfl, rfl, rfl⟩))
        · rintro m₂ news₂ h5 tk5 ⟨rfl, j1, j2, j3⟩ F N
          (try clear hrs); (try clear hrw); (try clear hwv); (try clear hrl); (try clear hE); (try clear hOd); (try clear hOrd); (try clear hBs); (try clear hA); (try clear hW); (try clear hY); (try clear hws); (try clear hw); (try clear hwl); (try clear hB); (try clear bw); (try clear br); (try clear lwh); (try clear lrw); (try clear lod); (try clear od); (try clear dw2); (try clear dt2); (try clear dw); (try clear dt); (try clear i0); (try clear i1); (try clear i2); (try clear o0); (try clear o1); (try clear o2); (try clear oD); (try clear z0); (try clear z1); (try clear z2); (try clear zD); (try clear hg); (try clear g1); (try clear g2); (try clear g3)
          try dsimp only
          ((repeat' ((( ((( (fail_if_success (with_reducible show wpAny _ _ (exec (Stmt.For _ _ _ _ _) _) _ _ _)); (fail_if_success (with_reducible show wpAny _ _ (exec (Stmt.While _ _ _ _) _) _ _ _)); (fail_if_success (with_reducible show wpAny _ _ (pyIter (Value.ref _)) _ _ _)); (fail_if_success (with_reducible show wpAny _ _ (call (Value.ref _) _ _) _ _ _)); (fail_if_success (with_reducible show wpAny _ _ (call (Value.builtin "next") _ _) _ _ _)); (fail_if_success (with_reducible show wpAny _ _ (eval (Expr.ListComp _ _ _ _) _) _ _ _)); (fail_if_success (with_reducible show LCg.CompEnd _ _ _ _ _ _ _ _ _ _ _ _ _ _)); (fail_if_success (with_reducible show LoopStep3 _ _ _ _ _ _ _ _ _ _)); (fail_if_success (with_reducible show LoopStepV _ _ _ _ _ _ _ _ _ _)); skip))); (fail_if_success (with_reducible show wpAny _ _ (storeName _ (Str.ofString "three") _) _ _ _)); (fail_if_success (with_reducible show wpAny _ _ (storeName _ (Str.ofString "words") _) _ _ _)); (fail_if_success (with_reducible show wpAny _ _ (binaryOp Operator.Add (Value.str _ _) (Value.str _ _)) _ _ _)); (fail_if_success (with_reducible show wpAny _ _ (compareOp CmpOp.NotEq (Value.ref _) (Value.ref _)) _ _ _)); (fail_if_success (with_reducible show wpAny _ _ (compareOp CmpOp.NotEq (Value.bytes _ _) (Value.bytes _ _)) _ _ _)); (fail_if_success (with_reducible show wpAny _ _ (call (Value.builtin "list.append") _) _ _ _)); (fail_if_success (with_reducible show wpAny _ _ (compareOp CmpOp.NotEq (Value.bool _) (Value.bool _)) _ _ _)); (fail_if_success (with_reducible show wpAny _ _ (PySem.eval (Expr.BoolOp _ _ _) (envOfC _ _ _ _ _)) _ _ _)); (fail_if_success (with_reducible show ValEnd _ _ _ _ _ _ _ _)); (fail_if_success (with_reducible show wpAny _ _ (call (Value.builtin "max") _) _ _ _)); (fail_if_success (with_reducible show wpAny _ _ (call (Value.builtin "min") _) _ _ _)); (fail_if_success (with_reducible show wpAny _ _ (call (Value.builtin "list.index") _) _ _ _)); (fail_if_success (with_reducible show wpAny _ _ (subscriptTail _ _ (Value.ref _) (Value.int (List.getD _ _ _) _)) _ _ _)); (fail_if_success (with_reducible show wpAny _ _ (subscriptTail _ _ (Value.ref _) (Value.int (Nat.cast _) _)) _ _ _)); (fail_if_success (with_reducible show wpAny _ _ (subscriptTail _ _ (Value.str _ _) (Value.ref _)) _ _ _)); (fail_if_success (with_reducible show wpAny _ _ (subscriptTail (Expr.Name (Str.ofString "whole") _) _ _ _) _ _ _)); (first | (((with_reducible show wpAny _ _ (PySem.eval (Expr.Name _ _) (envOfC _ _ _ _ _)) _ _ _); name_kind "cell"; (rename News _ _ _ _ => N'); (refine ldCN N' (by rfl) (by k_mem) (by assumption) ?_); walk_say "m cell")) | ((first | ((with_reducible show wpAny _ _ (storeName _ _ _) _ _ _); dsimp only; walk1) | ((first | (k_unfold; (try dsimp only)) | (k_end; wrow_close) | walk1 | (dsimp only; walk1) | (leave1; walk_say "STEP leave1"; try dsimp only) | fail "no step"))))))))))
    · rintro Kc mc Sc i ys news v I oI C oC D2 m₂ h3 tk E' hKc hSc hi3 hP ⟨rfl, ws, hws, hwl, hw⟩ hC hx F N off ne
      obtain ⟨t, rfl⟩ := hP
      match i, hi3 with
      | 0, _ =>
        dsimp only at *
        ((repeat' ((( ((( (fail_if_success (with_reducible show wpAny _ _ (exec (Stmt.For _ _ _ _ _) _) _ _ _)); (fail_if_success (with_reducible show wpAny _ _ (exec (Stmt.While _ _ _ _) _) _ _ _)); (fail_if_success (with_reducible show wpAny _ _ (pyIter (Value.ref _)) _ _ _)); (fail_if_success (with_reducible show wpAny _ _ (call (Value.ref _) _ _) _ _ _)); (fail_if_success (with_reducible show wpAny _ _ (call (Value.builtin "next") _ _) _ _ _)); (fail_if_success (with_reducible show wpAny _ _ (eval (Expr.ListComp _ _ _ _) _) _ _ _)); (fail_if_success (with_reducible show LCg.CompEnd _ _ _ _ _ _ _ _ _ _ _ _ _ _)); (fail_if_success (with_reducible show LoopStep3 _ _ _ _ _ _ _ _ _ _)); (fail_if_success (with_reducible show LoopStepV _ _ _ _ _ _ _ _ _ _)); skip))); (fail_if_success (with_reducible show wpAny _ _ (storeName _ (Str.ofString "three") _) _ _ _)); (fail_if_success (with_reducible show wpAny _ _ (storeName _ (Str.ofString "words") _) _ _ _)); (fail_if_success (with_reducible show wpAny _ _ (binaryOp Operator.Add (Value.str _ _) (Value.str _ _)) _ _ _)); (fail_if_success (with_reducible show wpAny _ _ (compareOp CmpOp.NotEq (Value.ref _) (Value.ref _)) _ _ _)); (fail_if_success (with_reducible show wpAny _ _ (compareOp CmpOp.NotEq (Value.bytes _ _) (Value.bytes _ _)) _ _ _)); (fail_if_success (with_reducible show wpAny _ _ (call (Value.builtin "list.append") _) _ _ _)); (fail_if_success (with_reducible show wpAny _ _ (compareOp CmpOp.NotEq (Value.bool _) (Value.bool _)) _ _ _)); (fail_if_success (with_reducible show wpAny _ _ (PySem.eval (Expr.BoolOp _ _ _) (envOfC _ _ _ _ _)) _ _ _)); (fail_if_success (with_reducible show ValEnd _ _ _ _ _ _ _ _)); (fail_if_success (with_reducible show wpAny _ _ (call (Value.builtin "max") _) _ _ _)); (fail_if_success (with_reducible show wpAny _ _ (call (Value.builtin "min") _) _ _ _)); (fail_if_success (with_reducible show wpAny _ _ (call (Value.builtin "list.index") _) _ _ _)); (fail_if_success (with_reducible show wpAny _ _ (subscriptTail _ _ (Value.ref _) (Value.int (List.getD _ _ _) _)) _ _ _)); (fail_if_success (with_reducible show wpAny _ _ (subscriptTail _ _ (Value.ref _) (Value.int (Nat.cast _) _)) _ _ _)); (fail_if_success (with_reducible show wpAny _ _ (subscriptTail _ _ (Value.str _ _) (Value.ref _)) _ _ _)); (fail_if_success (with_reducible show wpAny _ _ (subscriptTail (Expr.Name (Str.ofString "whole") _) _ _ _) _ _ _)); (first | (((with_reducible show wpAny _ _ (PySem.eval (Expr.Name _ _) (envOfC _ _ _ _ _)) _ _ _); name_kind "cell"; (rename News _ _ _ _ => N'); (refine ldCN N' (by rfl) (by k_mem) (by assumption) ?_); walk_say "m cell")) | ((first | ((with_reducible show wpAny _ _ (storeName _ _ _) _ _ _); dsimp only; walk1) | ((first | (k_unfold; (try dsimp only)) | (k_end; wrow_close) | walk1 | (dsimp only; walk1) | (leave1; walk_say "STEP leave1"; try dsimp only) | fail "no step"))))))))))
        refine folded_call (KX.keeps F.keep) (T.keeps F.keep) (by show 1 + claimMargin + 1 + 3 < recursionLimit; decide) rfl (N.isList (.tail _ (.tail _ (.tail _ (.head _))))) i0 (by decide) fun t5 h5 tk5 hk5 => ?_
        have F6 := F.after hk5
        have N6 := N.grown hk5
        clear F N
        dsimp only
        ((repeat' ((( ((( (fail_if_success (with_reducible show wpAny _ _ (exec (Stmt.For _ _ _ _ _) _) _ _ _)); (fail_if_success (with_reducible show wpAny _ _ (exec (Stmt.While _ _ _ _) _) _ _ _)); (fail_if_success (with_reducible show wpAny _ _ (pyIter (Value.ref _)) _ _ _)); (fail_if_success (with_reducible show wpAny _ _ (call (Value.ref _) _ _) _ _ _)); (fail_if_success (with_reducible show wpAny _ _ (call (Value.builtin "next") _ _) _ _ _)); (fail_if_success (with_reducible show wpAny _ _ (eval (Expr.ListComp _ _ _ _) _) _ _ _)); (fail_if_success (with_reducible show LCg.CompEnd _ _ _ _ _ _ _ _ _ _ _ _ _ _)); (fail_if_success (with_reducible show LoopStep3 _ _ _ _ _ _ _ _ _ _)); (fail_if_success (with_reducible show LoopStepV _ _ _ _ _ _ _ _ _ _)); skip))); (fail_if_success (with_reducible show wpAny _ _ (storeName _ (Str.ofString "three") _) _ _ _)); (fail_if_success (with_reducible show wpAny _ _ (storeName _ (Str.ofString "words") _) _ _ _)); (fail_if_success (with_reducible show wpAny _ _ (binaryOp Operator.Add (Value.str _ _) (Value.str _ _)) _ _ _)); (fail_if_success (with_reducible show wpAny _ _ (compareOp CmpOp.NotEq (Value.ref _) (Value.ref _)) _ _ _)); (fail_if_success (with_reducible show wpAny _ _ (compareOp CmpOp.NotEq (Value.bytes _ _) (Value.bytes _ _)) _ _ _)); (fail_if_success (with_reducible show wpAny _ _ (call (Value.builtin "list.append") _) _ _ _)); (fail_if_success (with_reducible show wpAny _ _ (compareOp CmpOp.NotEq (Value.bool _) (Value.bool _)) _ _ _)); (fail_if_success (with_reducible show wpAny _ _ (PySem.eval (Expr.BoolOp _ _ _) (envOfC _ _ _ _ _)) _ _ _)); (fail_if_success (with_reducible show ValEnd _ _ _ _ _ _ _ _)); (fail_if_success (with_reducible show wpAny _ _ (call (Value.builtin "max") _) _ _ _)); (fail_if_success (with_reducible show wpAny _ _ (call (Value.builtin "min") _) _ _ _)); (fail_if_success (with_reducible show wpAny _ _ (call (Value.builtin "list.index") _) _ _ _)); (fail_if_success (with_reducible show wpAny _ _ (subscriptTail _ _ (Value.ref _) (Value.int (List.getD _ _ _) _)) _ _ _)); (fail_if_success (with_reducible show wpAny _ _ (subscriptTail _ _ (Value.ref _) (Value.int (Nat.cast _) _)) _ _ _)); (fail_if_success (with_reducible show wpAny _ _ (subscriptTail _ _ (Value.str _ _) (Value.ref _)) _ _ _)); (fail_if_success (with_reducible show wpAny _ _ (subscriptTail (Expr.Name (Str.ofString "whole") _) _ _ _) _ _ _)); (first | (((with_reducible show wpAny _ _ (PySem.eval (Expr.Name _ _) (envOfC _ _ _ _ _)) _ _ _); name_kind "cell"; (rename News _ _ _ _ => N'); (refine ldCN N' (by rfl) (by k_mem) (by assumption) ?_); walk_say "m cell")) | ((first | ((with_reducible show wpAny _ _ (storeName _ _ _) _ _ _); dsimp only; walk1) | ((first | (k_unfold; (try dsimp only)) | (k_end; wrow_close) | walk1 | (dsimp only; walk1) | (leave1; walk_say "STEP leave1"; try dsimp only) | fail "no step"))))))))))
        refine letters_call (KX.keeps F6.keep) (T.keeps F6.keep) (by show 1 + claimMargin + 1 + 6 < recursionLimit; decide) (by show 4 + 3 + 30 < cLine; decide) rfl (by rw [neg_pow_abs]; exact fold13 l1 l2 l3 l4 p2) fun x t6 h6 tk6 hk6 hx6 => ?_
        rw [neg_pow_abs] at hx6
        have F7 := F6.after hk6
        have N7 := N6.grown hk6
        dsimp only
        ((repeat' ((( ((( (fail_if_success (with_reducible show wpAny _ _ (exec (Stmt.For _ _ _ _ _) _) _ _ _)); (fail_if_success (with_reducible show wpAny _ _ (exec (Stmt.While _ _ _ _) _) _ _ _)); (fail_if_success (with_reducible show wpAny _ _ (pyIter (Value.ref _)) _ _ _)); (fail_if_success (with_reducible show wpAny _ _ (call (Value.ref _) _ _) _ _ _)); (fail_if_success (with_reducible show wpAny _ _ (call (Value.builtin "next") _ _) _ _ _)); (fail_if_success (with_reducible show wpAny _ _ (eval (Expr.ListComp _ _ _ _) _) _ _ _)); (fail_if_success (with_reducible show LCg.CompEnd _ _ _ _ _ _ _ _ _ _ _ _ _ _)); (fail_if_success (with_reducible show LoopStep3 _ _ _ _ _ _ _ _ _ _)); (fail_if_success (with_reducible show LoopStepV _ _ _ _ _ _ _ _ _ _)); skip))); (fail_if_success (with_reducible show wpAny _ _ (storeName _ (Str.ofString "three") _) _ _ _)); (fail_if_success (with_reducible show wpAny _ _ (storeName _ (Str.ofString "words") _) _ _ _)); (fail_if_success (with_reducible show wpAny _ _ (binaryOp Operator.Add (Value.str _ _) (Value.str _ _)) _ _ _)); (fail_if_success (with_reducible show wpAny _ _ (compareOp CmpOp.NotEq (Value.ref _) (Value.ref _)) _ _ _)); (fail_if_success (with_reducible show wpAny _ _ (compareOp CmpOp.NotEq (Value.bytes _ _) (Value.bytes _ _)) _ _ _)); (fail_if_success (with_reducible show wpAny _ _ (call (Value.builtin "list.append") _) _ _ _)); (fail_if_success (with_reducible show wpAny _ _ (compareOp CmpOp.NotEq (Value.bool _) (Value.bool _)) _ _ _)); (fail_if_success (with_reducible show wpAny _ _ (PySem.eval (Expr.BoolOp _ _ _) (envOfC _ _ _ _ _)) _ _ _)); (fail_if_success (with_reducible show ValEnd _ _ _ _ _ _ _ _)); (fail_if_success (with_reducible show wpAny _ _ (call (Value.builtin "max") _) _ _ _)); (fail_if_success (with_reducible show wpAny _ _ (call (Value.builtin "min") _) _ _ _)); (fail_if_success (with_reducible show wpAny _ _ (call (Value.builtin "list.index") _) _ _ _)); (fail_if_success (with_reducible show wpAny _ _ (subscriptTail _ _ (Value.ref _) (Value.int (List.getD _ _ _) _)) _ _ _)); (fail_if_success (with_reducible show wpAny _ _ (subscriptTail _ _ (Value.ref _) (Value.int (Nat.cast _) _)) _ _ _)); (fail_if_success (with_reducible show wpAny _ _ (subscriptTail _ _ (Value.str _ _) (Value.ref _)) _ _ _)); (fail_if_success (with_reducible show wpAny _ _ (subscriptTail (Expr.Name (Str.ofString "whole") _) _ _ _) _ _ _)); (first | (((with_reducible show wpAny _ _ (PySem.eval (Expr.Name _ _) (envOfC _ _ _ _ _)) _ _ _); name_kind "cell"; (rename News _ _ _ _ => N'); (refine ldCN N' (by rfl) (by k_mem) (by assumption) ?_); walk_say "m cell")) | ((first | ((with_reducible show wpAny _ _ (storeName _ _ _) _ _ _); dsimp only; walk1) | ((first | (k_unfold; (try dsimp only)) | (k_end; wrow_close) | walk1 | (dsimp only; walk1) | (leave1; walk_say "STEP leave1"; try dsimp only) | fail "no step"))))))))))
        refine LCg.CompEnd.intro F7 N7 _ (fun _ h => h) off (hSc _ trivial) (hKc _ _ ⟨rfl, ws ++ [x], strs_snoc hws, by simp [hwl], fun j y hj => ?_⟩)
        by_cases hlt : j < ws.length
        · rw [List.getElem?_append_left hlt] at hj
          exact hw j y hj
        · rw [List.getElem?_append_right (by omega)] at hj
          have hj0 : j - ws.length = 0 := by
            rcases Nat.eq_zero_or_pos (j - ws.length) with e | e
            · exact e
            · rw [List.getElem?_eq_none (by simp; omega)] at hj
              cases hj
          obtain rfl : j = 0 := by omega
          rw [hj0] at hj
          obtain rfl := Option.some.inj hj
          exact hx6
      | 1, _ =>
        dsimp only at *
        ((repeat' ((( ((( (fail_if_success (with_reducible show wpAny _ _ (exec (Stmt.For _ _ _ _ _) _) _ _ _)); (fail_if_success (with_reducible show wpAny _ _ (exec (Stmt.While _ _ _ _) _) _ _ _)); (fail_if_success (with_reducible show wpAny _ _ (pyIter (Value.ref _)) _ _ _)); (fail_if_success (with_reducible show wpAny _ _ (call (Value.ref _) _ _) _ _ _)); (fail_if_success (with_reducible show wpAny _ _ (call (Value.builtin "next") _ _) _ _ _)); (fail_if_success (with_reducible show wpAny _ _ (eval (Expr.ListComp _ _ _ _) _) _ _ _)); (fail_if_success (with_reducible show LCg.CompEnd _ _ _ _ _ _ _ _ _ _ _ _ _ _)); (fail_if_success (with_reducible show LoopStep3 _ _ _ _ _ _ _ _ _ _)); (fail_if_success (with_reducible show LoopStepV _ _ _ _ _ _ _ _ _ _)); skip))); (fail_if_success (with_reducible show wpAny _ _ (storeName _ (Str.ofString "three") _) _ _ _)); (fail_if_success (with_reducible show wpAny _ _ (storeName _ (Str.ofString "words") _) _ _ _)); (fail_if_success (with_reducible show wpAny _ _ (binaryOp Operator.Add (Value.str _ _) (Value.str _ _)) _ _ _)); (fail_if_success (with_reducible show wpAny _ _ (compareOp CmpOp.NotEq (Value.ref _) (Value.ref _)) _ _ _)); (fail_if_success (with_reducible show wpAny _ _ (compareOp CmpOp.NotEq (Value.bytes _ _) (Value.bytes _ _)) _ _ _)); (fail_if_success (with_reducible show wpAny _ _ (call (Value.builtin "list.append") _) _ _ _)); (fail_if_success (with_reducible show wpAny _ _ (compareOp CmpOp.NotEq (Value.bool _) (Value.bool _)) _ _ _)); (fail_if_success (with_reducible show wpAny _ _ (PySem.eval (Expr.BoolOp _ _ _) (envOfC _ _ _ _ _)) _ _ _)); (fail_if_success (with_reducible show ValEnd _ _ _ _ _ _ _ _)); (fail_if_success (with_reducible show wpAny _ _ (call (Value.builtin "max") _) _ _ _)); (fail_if_success (with_reducible show wpAny _ _ (call (Value.builtin "min") _) _ _ _)); (fail_if_success (with_reducible show wpAny _ _ (call (Value.builtin "list.index") _) _ _ _)); (fail_if_success (with_reducible show wpAny _ _ (subscriptTail _ _ (Value.ref _) (Value.int (List.getD _ _ _) _)) _ _ _)); (fail_if_success (with_reducible show wpAny _ _ (subscriptTail _ _ (Value.ref _) (Value.int (Nat.cast _) _)) _ _ _)); (fail_if_success (with_reducible show wpAny _ _ (subscriptTail _ _ (Value.str _ _) (Value.ref _)) _ _ _)); (fail_if_success (with_reducible show wpAny _ _ (subscriptTail (Expr.Name (Str.ofString "whole") _) _ _ _) _ _ _)); (first | (((with_reducible show wpAny _ _ (PySem.eval (Expr.Name _ _) (envOfC _ _ _ _ _)) _ _ _); name_kind "cell"; (rename News _ _ _ _ => N'); (refine ldCN N' (by rfl) (by k_mem) (by assumption) ?_); walk_say "m cell")) | ((first | ((with_reducible show wpAny _ _ (storeName _ _ _) _ _ _); dsimp only; walk1) | ((first | (k_unfold; (try dsimp only)) | (k_end; wrow_close) | walk1 | (dsimp only; walk1) | (leave1; walk_say "STEP leave1"; try dsimp only) | fail "no step"))))))))))
        refine folded_call (KX.keeps F.keep) (T.keeps F.keep) (by show 1 + claimMargin + 1 + 3 < recursionLimit; decide) rfl (N.isList (.tail _ (.tail _ (.tail _ (.tail _ (.head _)))))) i1 (by decide) fun t5 h5 tk5 hk5 => ?_
        have F6 := F.after hk5
        have N6 := N.grown hk5
        clear F N
        dsimp only
        ((repeat' ((( ((( (fail_if_success (with_reducible show wpAny _ _ (exec (Stmt.For _ _ _ _ _) _) _ _ _)); (fail_if_success (with_reducible show wpAny _ _ (exec (Stmt.While _ _ _ _) _) _ _ _)); (fail_if_success (with_reducible show wpAny _ _ (pyIter (Value.ref _)) _ _ _)); (fail_if_success (with_reducible show wpAny _ _ (call (Value.ref _) _ _) _ _ _)); (fail_if_success (with_reducible show wpAny _ _ (call (Value.builtin "next") _ _) _ _ _)); (fail_if_success (with_reducible show wpAny _ _ (eval (Expr.ListComp _ _ _ _) _) _ _ _)); (fail_if_success (with_reducible show LCg.CompEnd _ _ _ _ _ _ _ _ _ _ _ _ _ _)); (fail_if_success (with_reducible show LoopStep3 _ _ _ _ _ _ _ _ _ _)); (fail_if_success (with_reducible show LoopStepV _ _ _ _ _ _ _ _ _ _)); skip))); (fail_if_success (with_reducible show wpAny _ _ (storeName _ (Str.ofString "three") _) _ _ _)); (fail_if_success (with_reducible show wpAny _ _ (storeName _ (Str.ofString "words") _) _ _ _)); (fail_if_success (with_reducible show wpAny _ _ (binaryOp Operator.Add (Value.str _ _) (Value.str _ _)) _ _ _)); (fail_if_success (with_reducible show wpAny _ _ (compareOp CmpOp.NotEq (Value.ref _) (Value.ref _)) _ _ _)); (fail_if_success (with_reducible show wpAny _ _ (compareOp CmpOp.NotEq (Value.bytes _ _) (Value.bytes _ _)) _ _ _)); (fail_if_success (with_reducible show wpAny _ _ (call (Value.builtin "list.append") _) _ _ _)); (fail_if_success (with_reducible show wpAny _ _ (compareOp CmpOp.NotEq (Value.bool _) (Value.bool _)) _ _ _)); (fail_if_success (with_reducible show wpAny _ _ (PySem.eval (Expr.BoolOp _ _ _) (envOfC _ _ _ _ _)) _ _ _)); (fail_if_success (with_reducible show ValEnd _ _ _ _ _ _ _ _)); (fail_if_success (with_reducible show wpAny _ _ (call (Value.builtin "max") _) _ _ _)); (fail_if_success (with_reducible show wpAny _ _ (call (Value.builtin "min") _) _ _ _)); (fail_if_success (with_reducible show wpAny _ _ (call (Value.builtin "list.index") _) _ _ _)); (fail_if_success (with_reducible show wpAny _ _ (subscriptTail _ _ (Value.ref _) (Value.int (List.getD _ _ _) _)) _ _ _)); (fail_if_success (with_reducible show wpAny _ _ (subscriptTail _ _ (Value.ref _) (Value.int (Nat.cast _) _)) _ _ _)); (fail_if_success (with_reducible show wpAny _ _ (subscriptTail _ _ (Value.str _ _) (Value.ref _)) _ _ _)); (fail_if_success (with_reducible show wpAny _ _ (subscriptTail (Expr.Name (Str.ofString "whole") _) _ _ _) _ _ _)); (first | (((with_reducible show wpAny _ _ (PySem.eval (Expr.Name _ _) (envOfC _ _ _ _ _)) _ _ _); name_kind "cell"; (rename News _ _ _ _ => N'); (refine ldCN N' (by rfl) (by k_mem) (by assumption) ?_); walk_say "m cell")) | ((first | ((with_reducible show wpAny _ _ (storeName _ _ _) _ _ _); dsimp only; walk1) | ((first | (k_unfold; (try dsimp only)) | (k_end; wrow_close) | walk1 | (dsimp only; walk1) | (leave1; walk_say "STEP leave1"; try dsimp only) | fail "no step"))))))))))
        refine letters_call (KX.keeps F6.keep) (T.keeps F6.keep) (by show 1 + claimMargin + 1 + 6 < recursionLimit; decide) (by show 4 + 3 + 30 < cLine; decide) rfl (by rw [neg_pow_abs]; exact fold13 l1 l2 l3 l4 p4) fun x t6 h6 tk6 hk6 hx6 => ?_
        rw [neg_pow_abs] at hx6
        have F7 := F6.after hk6
        have N7 := N6.grown hk6
        dsimp only
        ((repeat' ((( ((( (fail_if_success (with_reducible show wpAny _ _ (exec (Stmt.For _ _ _ _ _) _) _ _ _)); (fail_if_success (with_reducible show wpAny _ _ (exec (Stmt.While _ _ _ _) _) _ _ _)); (fail_if_success (with_reducible show wpAny _ _ (pyIter (Value.ref _)) _ _ _)); (fail_if_success (with_reducible show wpAny _ _ (call (Value.ref _) _ _) _ _ _)); (fail_if_success (with_reducible show wpAny _ _ (call (Value.builtin "next") _ _) _ _ _)); (fail_if_success (with_reducible show wpAny _ _ (eval (Expr.ListComp _ _ _ _) _) _ _ _)); (fail_if_success (with_reducible show LCg.CompEnd _ _ _ _ _ _ _ _ _ _ _ _ _ _)); (fail_if_success (with_reducible show LoopStep3 _ _ _ _ _ _ _ _ _ _)); (fail_if_success (with_reducible show LoopStepV _ _ _ _ _ _ _ _ _ _)); skip))); (fail_if_success (with_reducible show wpAny _ _ (storeName _ (Str.ofString "three") _) _ _ _)); (fail_if_success (with_reducible show wpAny _ _ (storeName _ (Str.ofString "words") _) _ _ _)); (fail_if_success (with_reducible show wpAny _ _ (binaryOp Operator.Add (Value.str _ _) (Value.str _ _)) _ _ _)); (fail_if_success (with_reducible show wpAny _ _ (compareOp CmpOp.NotEq (Value.ref _) (Value.ref _)) _ _ _)); (fail_if_success (with_reducible show wpAny _ _ (compareOp CmpOp.NotEq (Value.bytes _ _) (Value.bytes _ _)) _ _ _)); (fail_if_success (with_reducible show wpAny _ _ (call (Value.builtin "list.append") _) _ _ _)); (fail_if_success (with_reducible show wpAny _ _ (compareOp CmpOp.NotEq (Value.bool _) (Value.bool _)) _ _ _)); (fail_if_success (with_reducible show wpAny _ _ (PySem.eval (Expr.BoolOp _ _ _) (envOfC _ _ _ _ _)) _ _ _)); (fail_if_success (with_reducible show ValEnd _ _ _ _ _ _ _ _)); (fail_if_success (with_reducible show wpAny _ _ (call (Value.builtin "max") _) _ _ _)); (fail_if_success (with_reducible show wpAny _ _ (call (Value.builtin "min") _) _ _ _)); (fail_if_success (with_reducible show wpAny _ _ (call (Value.builtin "list.index") _) _ _ _)); (fail_if_success (with_reducible show wpAny _ _ (subscriptTail _ _ (Value.ref _) (Value.int (List.getD _ _ _) _)) _ _ _)); (fail_if_success (with_reducible show wpAny _ _ (subscriptTail _ _ (Value.ref _) (Value.int (Nat.cast _) _)) _ _ _)); (fail_if_success (with_reducible show wpAny _ _ (subscriptTail _ _ (Value.str _ _) (Value.ref _)) _ _ _)); (fail_if_success (with_reducible show wpAny _ _ (subscriptTail (Expr.Name (Str.ofString "whole") _) _ _ _) _ _ _)); (first | (((with_reducible show wpAny _ _ (PySem.eval (Expr.Name _ _) (envOfC _ _ _ _ _)) _ _ _); name_kind "cell"; (rename News _ _ _ _ => N'); (refine ldCN N' (by rfl) (by k_mem) (by assumption) ?_); walk_say "m cell")) | ((first | ((with_reducible show wpAny _ _ (storeName _ _ _) _ _ _); dsimp only; walk1) | ((first | (k_unfold; (try dsimp only)) | (k_end; wrow_close) | walk1 | (dsimp only; walk1) | (leave1; walk_say "STEP leave1"; try dsimp only) | fail "no step"))))))))))
        refine LCg.CompEnd.intro F7 N7 _ (fun _ h => h) off (hSc _ trivial) (hKc _ _ ⟨rfl, ws ++ [x], strs_snoc hws, by simp [hwl], fun j y hj => ?_⟩)
        by_cases hlt : j < ws.length
        · rw [List.getElem?_append_left hlt] at hj
          exact hw j y hj
        · rw [List.getElem?_append_right (by omega)] at hj
          have hj0 : j - ws.length = 0 := by
            rcases Nat.eq_zero_or_pos (j - ws.length) with e | e
            · exact e
            · rw [List.getElem?_eq_none (by simp; omega)] at hj
              cases hj
          obtain rfl : j = 1 := by omega
          rw [hj0] at hj
          obtain rfl := Option.some.inj hj
          exact hx6
      | 2, _ =>
        dsimp only at *
        ((repeat' ((( ((( (fail_if_success (with_reducible show wpAny _ _ (exec (Stmt.For _ _ _ _ _) _) _ _ _)); (fail_if_success (with_reducible show wpAny _ _ (exec (Stmt.While _ _ _ _) _) _ _ _)); (fail_if_success (with_reducible show wpAny _ _ (pyIter (Value.ref _)) _ _ _)); (fail_if_success (with_reducible show wpAny _ _ (call (Value.ref _) _ _) _ _ _)); (fail_if_success (with_reducible show wpAny _ _ (call (Value.builtin "next") _ _) _ _ _)); (fail_if_success (with_reducible show wpAny _ _ (eval (Expr.ListComp _ _ _ _) _) _ _ _)); (fail_if_success (with_reducible show LCg.CompEnd _ _ _ _ _ _ _ _ _ _ _ _ _ _)); (fail_if_success (with_reducible show LoopStep3 _ _ _ _ _ _ _ _ _ _)); (fail_if_success (with_reducible show LoopStepV _ _ _ _ _ _ _ _ _ _)); skip))); (fail_if_success (with_reducible show wpAny _ _ (storeName _ (Str.ofString "three") _) _ _ _)); (fail_if_success (with_reducible show wpAny _ _ (storeName _ (Str.ofString "words") _) _ _ _)); (fail_if_success (with_reducible show wpAny _ _ (binaryOp Operator.Add (Value.str _ _) (Value.str _ _)) _ _ _)); (fail_if_success (with_reducible show wpAny _ _ (compareOp CmpOp.NotEq (Value.ref _) (Value.ref _)) _ _ _)); (fail_if_success (with_reducible show wpAny _ _ (compareOp CmpOp.NotEq (Value.bytes _ _) (Value.bytes _ _)) _ _ _)); (fail_if_success (with_reducible show wpAny _ _ (call (Value.builtin "list.append") _) _ _ _)); (fail_if_success (with_reducible show wpAny _ _ (compareOp CmpOp.NotEq (Value.bool _) (Value.bool _)) _ _ _)); (fail_if_success (with_reducible show wpAny _ _ (PySem.eval (Expr.BoolOp _ _ _) (envOfC _ _ _ _ _)) _ _ _)); (fail_if_success (with_reducible show ValEnd _ _ _ _ _ _ _ _)); (fail_if_success (with_reducible show wpAny _ _ (call (Value.builtin "max") _) _ _ _)); (fail_if_success (with_reducible show wpAny _ _ (call (Value.builtin "min") _) _ _ _)); (fail_if_success (with_reducible show wpAny _ _ (call (Value.builtin "list.index") _) _ _ _)); (fail_if_success (with_reducible show wpAny _ _ (subscriptTail _ _ (Value.ref _) (Value.int (List.getD _ _ _) _)) _ _ _)); (fail_if_success (with_reducible show wpAny _ _ (subscriptTail _ _ (Value.ref _) (Value.int (Nat.cast _) _)) _ _ _)); (fail_if_success (with_reducible show wpAny _ _ (subscriptTail _ _ (Value.str _ _) (Value.ref _)) _ _ _)); (fail_if_success (with_reducible show wpAny _ _ (subscriptTail (Expr.Name (Str.ofString "whole") _) _ _ _) _ _ _)); (first | (((with_reducible show wpAny _ _ (PySem.eval (Expr.Name _ _) (envOfC _ _ _ _ _)) _ _ _); name_kind "cell"; (rename News _ _ _ _ => N'); (refine ldCN N' (by rfl) (by k_mem) (by assumption) ?_); walk_say "m cell")) | ((first | ((with_reducible show wpAny _ _ (storeName _ _ _) _ _ _); dsimp only; walk1) | ((first | (k_unfold; (try dsimp only)) | (k_end; wrow_close) | walk1 | (dsimp only; walk1) | (leave1; walk_say "STEP leave1"; try dsimp only) | fail "no step"))))))))))
        refine folded_call (KX.keeps F.keep) (T.keeps F.keep) (by show 1 + claimMargin + 1 + 3 < recursionLimit; decide) rfl (N.isList (.tail _ (.tail _ (.tail _ (.tail _ (.tail _ (.head _))))))) i2 (by decide) fun t5 h5 tk5 hk5 => ?_
        have F6 := F.after hk5
        have N6 := N.grown hk5
        clear F N
        dsimp only
        ((repeat' ((( ((( (fail_if_success (with_reducible show wpAny _ _ (exec (Stmt.For _ _ _ _ _) _) _ _ _)); (fail_if_success (with_reducible show wpAny _ _ (exec (Stmt.While _ _ _ _) _) _ _ _)); (fail_if_success (with_reducible show wpAny _ _ (pyIter (Value.ref _)) _ _ _)); (fail_if_success (with_reducible show wpAny _ _ (call (Value.ref _) _ _) _ _ _)); (fail_if_success (with_reducible show wpAny _ _ (call (Value.builtin "next") _ _) _ _ _)); (fail_if_success (with_reducible show wpAny _ _ (eval (Expr.ListComp _ _ _ _) _) _ _ _)); (fail_if_success (with_reducible show LCg.CompEnd _ _ _ _ _ _ _ _ _ _ _ _ _ _)); (fail_if_success (with_reducible show LoopStep3 _ _ _ _ _ _ _ _ _ _)); (fail_if_success (with_reducible show LoopStepV _ _ _ _ _ _ _ _ _ _)); skip))); (fail_if_success (with_reducible show wpAny _ _ (storeName _ (Str.ofString "three") _) _ _ _)); (fail_if_success (with_reducible show wpAny _ _ (storeName _ (Str.ofString "words") _) _ _ _)); (fail_if_success (with_reducible show wpAny _ _ (binaryOp Operator.Add (Value.str _ _) (Value.str _ _)) _ _ _)); (fail_if_success (with_reducible show wpAny _ _ (compareOp CmpOp.NotEq (Value.ref _) (Value.ref _)) _ _ _)); (fail_if_success (with_reducible show wpAny _ _ (compareOp CmpOp.NotEq (Value.bytes _ _) (Value.bytes _ _)) _ _ _)); (fail_if_success (with_reducible show wpAny _ _ (call (Value.builtin "list.append") _) _ _ _)); (fail_if_success (with_reducible show wpAny _ _ (compareOp CmpOp.NotEq (Value.bool _) (Value.bool _)) _ _ _)); (fail_if_success (with_reducible show wpAny _ _ (PySem.eval (Expr.BoolOp _ _ _) (envOfC _ _ _ _ _)) _ _ _)); (fail_if_success (with_reducible show ValEnd _ _ _ _ _ _ _ _)); (fail_if_success (with_reducible show wpAny _ _ (call (Value.builtin "max") _) _ _ _)); (fail_if_success (with_reducible show wpAny _ _ (call (Value.builtin "min") _) _ _ _)); (fail_if_success (with_reducible show wpAny _ _ (call (Value.builtin "list.index") _) _ _ _)); (fail_if_success (with_reducible show wpAny _ _ (subscriptTail _ _ (Value.ref _) (Value.int (List.getD _ _ _) _)) _ _ _)); (fail_if_success (with_reducible show wpAny _ _ (subscriptTail _ _ (Value.ref _) (Value.int (Nat.cast _) _)) _ _ _)); (fail_if_success (with_reducible show wpAny _ _ (subscriptTail _ _ (Value.str _ _) (Value.ref _)) _ _ _)); (fail_if_success (with_reducible show wpAny _ _ (subscriptTail (Expr.Name (Str.ofString "whole") _) _ _ _) _ _ _)); (first | (((with_reducible show wpAny _ _ (PySem.eval (Expr.Name _ _) (envOfC _ _ _ _ _)) _ _ _); name_kind "cell"; (rename News _ _ _ _ => N'); (refine ldCN N' (by rfl) (by k_mem) (by assumption) ?_); walk_say "m cell")) | ((first | ((with_reducible show wpAny _ _ (storeName _ _ _) _ _ _); dsimp only; walk1) | ((first | (k_unfold; (try dsimp only)) | (k_end; wrow_close) | walk1 | (dsimp only; walk1) | (leave1; walk_say "STEP leave1"; try dsimp only) | fail "no step"))))))))))
        refine letters_call (KX.keeps F6.keep) (T.keeps F6.keep) (by show 1 + claimMargin + 1 + 6 < recursionLimit; decide) (by show 4 + 3 + 30 < cLine; decide) rfl (by rw [neg_pow_abs]; exact fold13 l1 l2 l3 l4 p6) fun x t6 h6 tk6 hk6 hx6 => ?_
        rw [neg_pow_abs] at hx6
        have F7 := F6.after hk6
        have N7 := N6.grown hk6
        dsimp only
        ((repeat' ((( ((( (fail_if_success (with_reducible show wpAny _ _ (exec (Stmt.For _ _ _ _ _) _) _ _ _)); (fail_if_success (with_reducible show wpAny _ _ (exec (Stmt.While _ _ _ _) _) _ _ _)); (fail_if_success (with_reducible show wpAny _ _ (pyIter (Value.ref _)) _ _ _)); (fail_if_success (with_reducible show wpAny _ _ (call (Value.ref _) _ _) _ _ _)); (fail_if_success (with_reducible show wpAny _ _ (call (Value.builtin "next") _ _) _ _ _)); (fail_if_success (with_reducible show wpAny _ _ (eval (Expr.ListComp _ _ _ _) _) _ _ _)); (fail_if_success (with_reducible show LCg.CompEnd _ _ _ _ _ _ _ _ _ _ _ _ _ _)); (fail_if_success (with_reducible show LoopStep3 _ _ _ _ _ _ _ _ _ _)); (fail_if_success (with_reducible show LoopStepV _ _ _ _ _ _ _ _ _ _)); skip))); (fail_if_success (with_reducible show wpAny _ _ (storeName _ (Str.ofString "three") _) _ _ _)); (fail_if_success (with_reducible show wpAny _ _ (storeName _ (Str.ofString "words") _) _ _ _)); (fail_if_success (with_reducible show wpAny _ _ (binaryOp Operator.Add (Value.str _ _) (Value.str _ _)) _ _ _)); (fail_if_success (with_reducible show wpAny _ _ (compareOp CmpOp.NotEq (Value.ref _) (Value.ref _)) _ _ _)); (fail_if_success (with_reducible show wpAny _ _ (compareOp CmpOp.NotEq (Value.bytes _ _) (Value.bytes _ _)) _ _ _)); (fail_if_success (with_reducible show wpAny _ _ (call (Value.builtin "list.append") _) _ _ _)); (fail_if_success (with_reducible show wpAny _ _ (compareOp CmpOp.NotEq (Value.bool _) (Value.bool _)) _ _ _)); (fail_if_success (with_reducible show wpAny _ _ (PySem.eval (Expr.BoolOp _ _ _) (envOfC _ _ _ _ _)) _ _ _)); (fail_if_success (with_reducible show ValEnd _ _ _ _ _ _ _ _)); (fail_if_success (with_reducible show wpAny _ _ (call (Value.builtin "max") _) _ _ _)); (fail_if_success (with_reducible show wpAny _ _ (call (Value.builtin "min") _) _ _ _)); (fail_if_success (with_reducible show wpAny _ _ (call (Value.builtin "list.index") _) _ _ _)); (fail_if_success (with_reducible show wpAny _ _ (subscriptTail _ _ (Value.ref _) (Value.int (List.getD _ _ _) _)) _ _ _)); (fail_if_success (with_reducible show wpAny _ _ (subscriptTail _ _ (Value.ref _) (Value.int (Nat.cast _) _)) _ _ _)); (fail_if_success (with_reducible show wpAny _ _ (subscriptTail _ _ (Value.str _ _) (Value.ref _)) _ _ _)); (fail_if_success (with_reducible show wpAny _ _ (subscriptTail (Expr.Name (Str.ofString "whole") _) _ _ _) _ _ _)); (first | (((with_reducible show wpAny _ _ (PySem.eval (Expr.Name _ _) (envOfC _ _ _ _ _)) _ _ _); name_kind "cell"; (rename News _ _ _ _ => N'); (refine ldCN N' (by rfl) (by k_mem) (by assumption) ?_); walk_say "m cell")) | ((first | ((with_reducible show wpAny _ _ (storeName _ _ _) _ _ _); dsimp only; walk1) | ((first | (k_unfold; (try dsimp only)) | (k_end; wrow_close) | walk1 | (dsimp only; walk1) | (leave1; walk_say "STEP leave1"; try dsimp only) | fail "no step"))))))))))
        refine LCg.CompEnd.intro F7 N7 _ (fun _ h => h) off (hSc _ trivial) (hKc _ _ ⟨rfl, ws ++ [x], strs_snoc hws, by simp [hwl], fun j y hj => ?_⟩)
        by_cases hlt : j < ws.length
        · rw [List.getElem?_append_left hlt] at hj
          exact hw j y hj
        · rw [List.getElem?_append_right (by omega)] at hj
          have hj0 : j - ws.length = 0 := by
            rcases Nat.eq_zero_or_pos (j - ws.length) with e | e
            · exact e
            · rw [List.getElem?_eq_none (by simp; omega)] at hj
              cases hj
          obtain rfl : j = 2 := by omega
          rw [hj0] at hj
          obtain rfl := Option.some.inj hj
          exact hx6
    )))
end Mine
theorem PySem.Challenge.cw_wf0021_01_holds : PySem.Challenge.rw_wf0021_01.Holds := by
  exact Mine.law_holds
