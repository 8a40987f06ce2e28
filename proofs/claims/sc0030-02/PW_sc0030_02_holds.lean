import PyProof.Rows.All
import Wide.All
import OpenK.AllK
import Wide.FinOn
import Lean
import PySem.Challenge.RW_sc0030_02
open PySem PySem.W PyProof.Rows PySem.Calls
set_option Elab.async false
set_option maxRecDepth 100000
namespace Mine
set_option maxHeartbeats 8000000 in
open_top hd for PySem.Challenge.rw_sc0030_02
theorem lines_off : True := by
  w_top off
  trivial
section
def Hold (P : Prop) : Prop := P
theorem hold_in {P : Prop} (h : Hold P) : P := h
theorem hold_out {P : Prop} (h : P) : Hold P := h

/-- what a def hands back: the value, what stands of the objects it was given to write, and the new ones -/
def Back (g : Heap) (L' : Addr) (s : Shared) (W : List (Addr × Obj)) (Post : Value → List (Addr × Obj) → Prop) (v : Value) (s' : Shared) : Prop :=
  ∃ m' W' h' tk', s' = { s with heap := h', toks := tk' } ∧ Fr g L' h' m' ∧ News g L' h' W' ∧ (∀ p ∈ W', p.1 ∈ W.map (·.1) ∨ L' < p.1) ∧ Post v W'
theorem Back.mk {g : Heap} {L' : Addr} {s : Shared} {W : List (Addr × Obj)} {Post : Value → List (Addr × Obj) → Prop} {v : Value} {m' : Str → Option Value} {W' : List (Addr × Obj)} {h' : Heap} {tk' : Nat}
    (F : Fr g L' h' m') (N : News g L' h' W') (hf : ∀ p ∈ W', p.1 ∈ W.map (·.1) ∨ L' < p.1) (hp : Post v W') : Back g L' s W Post v { s with heap := h', toks := tk' } := ⟨m', W', h', tk', rfl, F, N, hf, hp⟩

theorem Back.mk' {g : Heap} {L' : Addr} {s : Shared} {W : List (Addr × Obj)} {Post : Value → List (Addr × Obj) → Prop} {v : Value} {m' : Str → Option Value} {W' big : List (Addr × Obj)} {h' : Heap} {tk' : Nat}
    (hp : Post v W') (F : Fr g L' h' m') (N : News g L' h' big) (hs : ∀ p ∈ W', p ∈ big) (hf : ∀ p ∈ W', p.1 ∈ W.map (·.1) ∨ L' < p.1) : Back g L' s W Post v { s with heap := h', toks := tk' } := ⟨m', W', h', tk', rfl, F, fun p hp => N p (hs p hp), hf, hp⟩

/-- the contract of a def: W: the objects that it may write -/
def Spec (prog : Program) (K : World → Frag) (w : World) (f : Addr) (vs : List Value) (d u : Nat) (W : List (Addr × Obj)) (Post : Value → List (Addr × Obj) → Prop) : Prop :=
  ∀ (rest : List (Addr × Obj)) (loose : List Str) (mean : ExcName → Option Value) (mg mb : Str → Option Value) (dp un : Nat) (gd : Option (List Code)) (cn : Str) (cs : Scope) (a : Addr) (ccd : Value) (cl : List (Str × Addr)) (outer : List Env) (A₀ : Around) (base h₀ : Heap) (L : Addr) (m : Str → Option Value) (s : Shared) (Q E : Value → Shared → Prop),
    Below A₀ base outer h₀ → Fr h₀ L s.heap m → (K w).In h₀ → News h₀ L s.heap (W ++ rest) → (∀ p ∈ W, ∀ q ∈ rest, p.1 ≠ q.1) → Top topProg loose mean mg mb h₀ → cs.kind = .function → dp + d < recursionLimit → un + u < cLine →
    (∀ r W' h' tk', Post r W' → Fr h₀ L h' m → News h₀ L h' (W' ++ rest) → (∀ p ∈ W', p.1 ∈ W.map (·.1) ∨ ∀ q ∈ rest, q.1 < p.1) → Q r { s with heap := h', toks := tk' }) →
    codeAny (model prog w) (ktrTop dp un gd cn cs L a ccd cl outer) (.call (.ref f) ⟨vs, []⟩) (fun r s' => match r with | .ok (.ret v) => Q v s' | .ok _ => False | .error e => E e s') s

section
variable {prog : Program} {w : World} {K : World → Frag} {f : Addr} {vs : List Value} {d u : Nat} {W : List (Addr × Obj)} {Post : Value → List (Addr × Obj) → Prop}
  {name qual : Str} {params : Arguments} {body : List Stmt} {scope : Scope} {dV kV doc pm cdv ct oc : Value} {an od : Option Addr} {osl : Array (Option Value)} {binds : List (Str × Value)}

theorem back_end {base h₀ : Heap} {outer : List Env} {A A₀ : Around} {L : Addr} {m : Str → Option Value} {s : Shared} {rest : List (Addr × Obj)} {env : Env} {Q : Value → Shared → Prop}
    (B : Below A₀ base outer h₀) (F : Fr h₀ L s.heap m) (N : News h₀ L s.heap (W ++ rest)) (hdis : ∀ p ∈ W, ∀ q ∈ rest, p.1 ≠ q.1) (hA : A.frames = some (env :: outer)) (hf : env.frame = some L) (hke : env.scope.kind = .function)
    (hret : ∀ r W' h' tk', Post r W' → Fr h₀ L h' m → News h₀ L h' (W' ++ rest) → (∀ p ∈ W', p.1 ∈ W.map (·.1) ∨ ∀ q ∈ rest, q.1 < p.1) → Q r { s with heap := h', toks := tk' })
    {v : Value} {s' : Shared} (hb : Back (hideAll s.heap (W.map (·.1))) s.heap.objs.size s W Post v s') : Q v s' := by
  obtain ⟨m', W', h', tk', rfl, F', N', hf', hp⟩ := hb
  have NW : News h₀ L s.heap W := fun p hp => N p (List.mem_append_left _ hp)
  obtain ⟨FG, BG, st, lv⟩ := groundX (A := A) (env := env) (R := fun r s' => ∀ v, r = .ok (.ret v) → s'.heap = h' → Fr h₀ L h' m ∧ News h₀ L h' W') B F NW hA hf hke
  have key := lv v { s with heap := h', toks := tk' } ⟨_, m', W', F', N', fun a b v e1 e2 => ⟨a, b⟩⟩ v rfl rfl
  refine hret v W' h' tk' hp key.1 (fun p hp => ?_) (fun p hp => (hf' p hp).imp id fun hlt q hq => Nat.lt_trans (Heap.lt_size (N q (List.mem_append_right _ hq)).1) hlt)
  rcases List.mem_append.mp hp with h | h
  · exact key.2 p h
  · have hN := N p (List.mem_append_right _ h)
    refine ⟨F'.keep _ _ (hideAll_get _ hN.1 fun q => ?_), hN.2⟩
    obtain ⟨x, hx, e⟩ := List.mem_map.mp q
    exact hdis x hx p h e

theorem spec_plain (ho : (K w).lookup f = some ⟨oc, od, .func (fnOf name qual params body scope dV kV doc pm an cdv ct), osl⟩) (hcd : codeIn (K w) cdv qual = true) (h1 : 0 < d)
    (hbind : bindArgs (fnOf name qual params body scope dV kV doc pm an cdv ct) ⟨vs, []⟩ = pure binds) (hloc : ∀ y ∈ binds, scope.names.lookup y.1 = some .local)
    (hcell : ∀ x ∈ scope.names, x.2 ≠ .cell) (hco : scope.isCoroutine = false) (hgen : scope.isGenerator = false) (hk : scope.kind = .function)
    (h : ∀ (loose : List Str) (mean : ExcName → Option Value) (mg mb : Str → Option Value) (dp un : Nat) (gd : Option (List Code)) (env : Env) (outer : List Env) (base g : Heap) (L' : Addr) (h₁ : Heap) (s : Shared) (tk : Nat),
      Fr g L' h₁ (fun y => binds.reverse.lookup y) → News g L' h₁ W → Below { handled := none, depth := dp, frames := some (env :: outer), guards := gd, units := un } base (env :: outer) g → (K w).In g → Top topProg loose mean mg mb g → (∀ p ∈ W, p.1 < L') → dp + d < recursionLimit → un + u < cLine →
      wpAny (model prog w) (ktrTop (dp + 1) (un + 3) gd qual scope L' f cdv [] (env :: outer)) (execs body (envOf qual scope L' f cdv))
        (fun fl s' => Back g L' s W Post (match fl with | .ret v => v | _ => .none) s') (fun _ _ => False) { s with heap := h₁, toks := tk }) :
    Spec prog K w f vs d u W Post := by
  intro rest loose mean mg mb dp un gd cn cs a ccd cl outer A₀ base h₀ L m s Q E B F X N hdis T hcs hd hu hret
  have NW : News h₀ L s.heap W := fun p hp => N p (List.mem_append_left _ hp)
  obtain ⟨FG, BG, st, lv⟩ := groundX (A := ktrTop dp un gd cn cs L a ccd cl outer) (env := envX cn cs L a ccd cl) (R := fun _ _ => True) B F NW rfl rfl hcs
  refine codeAny_call_def (fd := fnOf name qual params body scope dV kV doc pm an cdv ct) (body := body) (binds := binds) (by show dp < recursionLimit; omega) ((X.keeps F.keep) _ _ ho) rfl (T.nolimit.keeps F.keep) (codeRec_of (X.keeps F.keep) hcd) rfl (BindsTo.of_eq hbind) hcell hloc (fun h₁ hns hk₁ => ?_) hco hgen hk
  refine wpAny_mono (h loose mean mg mb dp un gd (envX cn cs L a ccd cl) outer base (hideAll s.heap (W.map (·.1))) s.heap.objs.size h₁ s _ ⟨hns, fun b o e => hk₁ b o (of_hideAll _ e), Nat.le_of_eq (hideAll_size _ _)⟩
    (fun p hp => ⟨hk₁ _ _ (NW p hp).1, Nat.ne_of_lt (Heap.lt_size (NW p hp).1), hideAll_none _ (List.mem_map_of_mem hp)⟩) BG (X.keeps fun b o e => st b o e) (T.keeps fun b o e => st b o e) (fun p hp => Heap.lt_size (NW p hp).1) hd hu) (fun fl s' hb => ?_) fun _ _ x => x.elim
  exact back_end (A := ktrTop dp un gd cn cs L a ccd cl outer) (env := envX cn cs L a ccd cl) B F N hdis rfl rfl hcs hret hb
theorem spec_cells (ho : (K w).lookup f = some ⟨oc, od, .func (fnOf name qual params body scope dV kV doc pm an cdv ct), osl⟩) (hcd : codeIn (K w) cdv qual = true) (h1 : 0 < d)
    (hbind : bindArgs (fnOf name qual params body scope dV kV doc pm an cdv ct) ⟨vs, []⟩ = pure binds) (hkind : (binds.all fun y => scope.names.lookup y.1 == some .local || scope.names.lookup y.1 == some .cell) = true)
    (hnd : ((cellsFrom 0 scope.names []).map (·.1)).Nodup) (hco : scope.isCoroutine = false) (hgen : scope.isGenerator = false) (hk : scope.kind = .function)
    (h : ∀ (loose : List Str) (mean : ExcName → Option Value) (mg mb : Str → Option Value) (dp un : Nat) (gd : Option (List Code)) (env : Env) (outer : List Env) (base g : Heap) (L' : Addr) (h₁ : Heap) (s : Shared) (tk : Nat) (cells : List (Addr × Obj)),
      Fr g L' h₁ (bindL (envOfC qual scope L' f cdv).kindOf binds fun _ => none) → News g L' h₁ (cells ++ W) → CellsAre (bindC (envOfC qual scope L' f cdv).kindOf binds fun _ => none) (cellsFrom (L' + 1) scope.names []) cells →
      Below { handled := none, depth := dp, frames := some (env :: outer), guards := gd, units := un } base (env :: outer) g → (K w).In g → Top topProg loose mean mg mb g → (∀ p ∈ W, p.1 < L') → dp + d < recursionLimit → un + u < cLine →
      wpAny (model prog w) (ktrTop (dp + 1) (un + 3) gd qual scope L' f cdv (cellsFrom (L' + 1) scope.names []) (env :: outer)) (execs body (envOfC qual scope L' f cdv))
        (fun fl s' => Back g L' s W Post (match fl with | .ret v => v | _ => .none) s') (fun _ _ => False) { s with heap := h₁, toks := tk }) :
    Spec prog K w f vs d u W Post := by
  intro rest loose mean mg mb dp un gd cn cs a ccd cl outer A₀ base h₀ L m s Q E B F X N hdis T hcs hd hu hret
  have NW : News h₀ L s.heap W := fun p hp => N p (List.mem_append_left _ hp)
  obtain ⟨FG, BG, st, lv⟩ := groundX (A := ktrTop dp un gd cn cs L a ccd cl outer) (env := envX cn cs L a ccd cl) (R := fun _ _ => True) B F NW rfl rfl hcs
  refine codeAny_call_function (by show dp < recursionLimit; omega) ((X.keeps F.keep) _ _ ho) rfl hco hgen rfl (codeRec_of (X.keeps F.keep) hcd) (BindsTo.of_eq hbind _ _ _ _ ?_)
  refine wpAny_newFunctionEnv_cells hk (kindsX hkind _) fun env' he s' x => ?_
  subst he
  refine ⟨(T.nolimit.keeps F.keep).keeps x.toInCall.keep, codeAny_func ?_⟩
  obtain ⟨h₁, tk, rfl, _⟩ := x.done
  have hk₁ := x.toInCall.keep
  obtain ⟨cells, NC, Y⟩ := Cl.news (h₀ := s.heap) (Nat.le_refl _) fun n c hm => ⟨x.cell n c (lookup_of_mem_nodup (cellsFrom_names scope.names 0 (s.heap.objs.size + 1) [] [] rfl ▸ hnd) hm), x.above n c hm⟩
  refine wpAny_mono (h loose mean mg mb dp un gd (envX cn cs L a ccd cl) outer base (hideAll s.heap (W.map (·.1))) s.heap.objs.size h₁ s tk cells ⟨x.toInCall.ns, fun b o e => hk₁ b o (of_hideAll _ e), Nat.le_of_eq (hideAll_size _ _)⟩ (fun p hp => ?_) Y
    BG (X.keeps fun b o e => st b o e) (T.keeps fun b o e => st b o e) (fun p hp => Heap.lt_size (NW p hp).1) hd hu) (fun fl s' hb => ?_) fun _ _ x => x.elim
  · rcases List.mem_append.mp hp with hp | hp
    · refine ⟨(NC p hp).1, (NC p hp).2.1, ?_⟩
      cases q : (hideAll s.heap (W.map (·.1))).get? p.1 with
      | none => rfl
      | some o => have := of_hideAll _ q; rw [(NC p hp).2.2] at this; cases this
    · exact ⟨hk₁ _ _ (NW p hp).1, Nat.ne_of_lt (Heap.lt_size (NW p hp).1), hideAll_none _ (List.mem_map_of_mem hp)⟩
  · exact back_end (A := ktrTop dp un gd cn cs L a ccd cl outer) (env := envX cn cs L a ccd cl) B F N hdis rfl rfl hcs hret hb
theorem spec_lam {el : Expr} {pml ctl : Value} {c' : Addr} {cll : List (Str × Addr)} {oc' : Obj} {cvs : Array Value} {ct' : Tok}
    (ho : (f, kla_obj name qual params el scope cll pml c' ctl) ∈ W) (hoc : (c', oc') ∈ W) (hdc : oc'.data = .fields cvs) (hcv : cvs[1]? = some (.str qual ct')) (h1 : 0 < d)
    (hbind : bindArgs (kla_fn name qual params el scope cll pml (.ref c') ctl) ⟨vs, []⟩ = pure binds) (hloc : ∀ y ∈ binds, scope.names.lookup y.1 = some .local)
    (hcell : ∀ x ∈ scope.names, x.2 ≠ .cell) (hco : scope.isCoroutine = false) (hgen : scope.isGenerator = false) (hk : scope.kind = .function)
    (h : ∀ (loose : List Str) (mean : ExcName → Option Value) (mg mb : Str → Option Value) (dp un : Nat) (gd : Option (List Code)) (env : Env) (outer : List Env) (base g : Heap) (L' : Addr) (h₁ : Heap) (s : Shared) (tk : Nat),
      Fr g L' h₁ (fun y => binds.reverse.lookup y) → News g L' h₁ W → Below { handled := none, depth := dp, frames := some (env :: outer), guards := gd, units := un } base (env :: outer) g → (K w).In g → Top topProg loose mean mg mb g → (∀ p ∈ W, p.1 < L') → dp + d < recursionLimit → un + u < cLine →
      wpAny (model prog w) (ktrTop (dp + 1) (un + 3) gd qual scope L' f (.ref c') cll (env :: outer)) (eval el (envX qual scope L' f (.ref c') cll))
        (fun v s' => Back g L' s W Post v s') (fun _ _ => False) { s with heap := h₁, toks := tk }) :
    Spec prog K w f vs d u W Post := by
  intro rest loose mean mg mb dp un gd cn cs a ccd cl outer A₀ base h₀ L m s Q E B F X N hdis T hcs hd hu hret
  have NW : News h₀ L s.heap W := fun p hp => N p (List.mem_append_left _ hp)
  obtain ⟨FG, BG, st, lv⟩ := groundX (A := ktrTop dp un gd cn cs L a ccd cl outer) (env := envX cn cs L a ccd cl) (R := fun _ _ => True) B F NW rfl rfl hcs
  refine kla_callFunE (by show dp < recursionLimit; omega) (NW _ ho).1 rfl hco hgen rfl (codeRec_news NW hoc hdc hcv) ?_
  rw [hbind]
  refine wpAny_pure (wpAny_newFunctionEnv hcell hloc (fun h₁ hns hsb => ⟨((T.nolimit).keeps F.keep).fresh _ hsb, ?_⟩) hk)
  have hk₁ : ∀ b o, s.heap.get? b = some o → h₁.get? b = some o := fun b o e => hsb.extBut b o (Nat.ne_of_lt (Heap.lt_size e)) (Heap.get?_push_of_some _ e)
  show codeAny _ _ (.expr el (envX qual scope s.heap.objs.size f (.ref c') cll)) _ _
  refine kla_codeExpr (wpAny_mono (h loose mean mg mb dp un gd (envX cn cs L a ccd cl) outer base (hideAll s.heap (W.map (·.1))) s.heap.objs.size h₁ s _ ⟨hns, fun b o e => hk₁ b o (of_hideAll _ e), Nat.le_of_eq (hideAll_size _ _)⟩
    (fun p hp => ⟨hk₁ _ _ (NW p hp).1, Nat.ne_of_lt (Heap.lt_size (NW p hp).1), hideAll_none _ (List.mem_map_of_mem hp)⟩) BG (X.keeps fun b o e => st b o e) (T.keeps fun b o e => st b o e) (fun p hp => Heap.lt_size (NW p hp).1) hd hu) (fun v s' hb => ?_) fun _ _ x => x.elim)
  exact back_end (A := ktrTop dp un gd cn cs L a ccd cl outer) (env := envX cn cs L a ccd cl) B F N hdis rfl rfl hcs hret hb
end

section
variable {prog : Program} {w : World} {A : Around} {E : Value → Shared → Prop} {s : Shared} {h₀ : Heap} {L : Addr} {m : Str → Option Value} {news : List (Addr × Obj)} {Q : Value → Shared → Prop}
theorem news_to {h h' : Heap} (_F : Fr h₀ L h m) (N : News h₀ L h news) (hk : ∀ b o, h.get? b = some o → h'.get? b = some o) {D : Addr} {o : Obj} (hD : h'.get? D = some o) (hn : D ≠ L) (h0 : h₀.get? D = none) : News h₀ L h' ((D, o) :: news) := fun p hp => by
  rcases List.mem_cons.mp hp with rfl | hp
  · exact ⟨hD, hn, h0⟩
  · exact ⟨hk _ _ (N p hp).1, (N p hp).2⟩
theorem list_strN {x : Str} {t : Tok} (hh : A.handled = none) (F : Fr h₀ L s.heap m) (N : News h₀ L s.heap news)
    (hQ : ∀ D (ys : List Value) c h' tk, Fr h₀ L h' m → News h₀ L h' ((D, PySem.W.listOf ys.toArray c) :: news) → (∀ p ∈ news, p.1 < D) → L < D → StrsAre ys (signs x) → Q (.ref D) { s with heap := h', toks := tk }) (hsz : x.length ≤ sizeLine) :
    wpAny (model prog w) A (call (.type "list") [.str x t]) Q E s := by
  refine call_list_str hh x t (hn := hsz) fun h' tk acc' c' hk hS' hacc => ?_
  have hlt : L < s.heap.objs.size := F.ns.lt
  refine hQ s.heap.objs.size acc'.toList c' h' tk (F.keeps hk) (news_to F N hk (by simpa using hS') (Nat.ne_of_gt hlt) ?_) (fun p hp => Heap.lt_size (N p hp).1) hlt ?_
  · cases e : h₀.get? s.heap.objs.size with
    | none => rfl
    | some o => exact absurd (Heap.lt_size (F.keep _ _ e)) (Nat.lt_irrefl _)
  · refine StrsAre.ofCarried (carriedAll_of_get _ _ (by simp [hacc.1, signs]) fun j v hv => ?_)
    obtain ⟨c, u, hc, rfl⟩ := hacc.2 j v (by simpa using hv)
    exact ⟨.str ⟨#[c]⟩, by simp [signs, hc], .str _ _⟩
end
theorem strs_get {xs : List Value} {ns : List Str} (h : StrsAre xs ns) : ∀ (j : Nat) (hj : j < xs.length), ∃ t, xs[j] = .str (ns.getD j Str.empty) t := by
  induction h with
  | nil => intro j hj; exact absurd hj (Nat.not_lt_zero _)
  | cons y t _ ih =>
    intro j hj
    cases j with
    | zero => exact ⟨t, rfl⟩
    | succ j => exact ih j (by simpa using hj)
theorem all_getD_eq : ∀ (ns ms : List Str), ns.length = ms.length → ((List.range ns.length).all fun j => ns.getD j Str.empty == ms.getD j Str.empty) = decide (ns = ms) := by
  intro ns ms hl
  rw [Bool.eq_iff_iff]
  simp only [List.all_eq_true, List.mem_range, beq_iff_eq, decide_eq_true_eq]
  constructor
  · intro h
    refine List.ext_getElem hl fun i h1 h2 => ?_
    have := h i h1
    simpa [List.getD_eq_getElem?_getD, h1, h2] using this
  · rintro rfl i _; rfl
section
variable {prog : Program} {w : World} {A : Around} {E : Value → Shared → Prop} {s : Shared} {a b : Addr} {xs ys : List Value} {ns ms : List Str} {Q : Value → Shared → Prop}
theorem strs_items {A' : Around} (hi : StrsAre xs ns) (hj : StrsAre ys ms) : ∀ j (h1 : j < xs.toArray.size) (h2 : j < ys.toArray.size), SeqAt.EqAt A' s xs.toArray[j] ys.toArray[j] (ns.getD j Str.empty == ms.getD j Str.empty) := fun j h1 h2 => by
  obtain ⟨t, e⟩ := strs_get hi j (by simpa using h1)
  obtain ⟨u, e'⟩ := strs_get hj j (by simpa using h2)
  simp only [List.getElem_toArray, e, e']
  exact SeqAt.EqAt.str_str _ _ _ _
theorem strs_eq (ha : s.heap.IsList a xs.toArray) (hb : s.heap.IsList b ys.toArray) (hi : StrsAre xs ns) (hj : StrsAre ys ms) (hu : A.units + 64 < cLine) (h : Q (.bool (decide (ns = ms))) s) :
    wpAny (model prog w) A (compareOp .Eq (.ref a) (.ref b)) Q E s := by
  have hu' : A.units < cLine := by omega
  have l1 := hi.length
  have l2 := hj.length
  by_cases hl : ns.length = ms.length
  · refine SeqAt.eq_listAt ha hb (by simp; omega) hu' (strs_items hi hj) ?_
    rw [List.size_toArray, l1, all_getD_eq _ _ hl]; exact h
  · refine SeqAt.eq_list_lengthsAt ha hb (by simp; omega) hu' ?_
    rwa [decide_eq_false (fun e => hl (by rw [e]))] at h
theorem strs_ne (ha : s.heap.IsList a xs.toArray) (hb : s.heap.IsList b ys.toArray) (hi : StrsAre xs ns) (hj : StrsAre ys ms) (hu : A.units + 64 < cLine) (h : Q (.bool (!decide (ns = ms))) s) :
    wpAny (model prog w) A (compareOp .NotEq (.ref a) (.ref b)) Q E s := by
  have hu' : A.units < cLine := by omega
  have l1 := hi.length
  have l2 := hj.length
  by_cases hl : ns.length = ms.length
  · refine SeqAt.RcNeAt.lists ha hb (by simp; omega) hu' (strs_items hi hj) prog w E Q ?_
    rw [List.size_toArray, l1, all_getD_eq _ _ hl]; exact h
  · refine SeqAt.RcNeAt.lists_lengths ha hb (by simp; omega) hu' prog w E Q ?_
    rwa [decide_eq_false (fun e => hl (by rw [e]))] at h
end
section
variable {prog : Program} {w : World} {A : Around} {E : Value → Shared → Prop} {s : Shared} {a b : Addr} {xs ys : List Value} {ns ms : List Str} {Q : Value → Shared → Prop}
theorem strs_ne_nil (ha : s.heap.IsList a ([] : List Value).toArray) (hb : s.heap.IsList b ([] : List Value).toArray) (hu : A.units + 64 < cLine) (h : Q (.bool false) s) :
    wpAny (model prog w) A (compareOp .NotEq (.ref a) (.ref b)) Q E s := strs_ne ha hb .nil .nil hu h
theorem strs_ne_cons {x : Value} (ha : s.heap.IsList a (x :: xs).toArray) (hb : s.heap.IsList b ([] : List Value).toArray) (hi : StrsAre (x :: xs) ns) (hu : A.units + 64 < cLine) (h : Q (.bool true) s) :
    wpAny (model prog w) A (compareOp .NotEq (.ref a) (.ref b)) Q E s := by
  refine strs_ne ha hb hi .nil hu ?_
  cases hi; exact h
end
section
variable {prog : Program} {w : World} {A : Around} {E : Value → Shared → Prop} {s : Shared} {h₀ : Heap} {L D : Addr} {m : Str → Option Value} {news news' : List (Addr × Obj)}
theorem pop_first {u : Tok} {q : List Value} {y : Value} {n : Nat} {Q : Value → Shared → Prop} (F : Fr h₀ L s.heap m) (N : News h₀ L s.heap news) (U : Upd D (PySem.W.listOf (y :: q).toArray n) (PySem.W.listOf q.toArray (n + 1)) news news')
    (hz : q.length + 1 ≤ sizeLine) (h : ∀ h', Fr h₀ L h' m → News h₀ L h' news' → Q y { s with heap := h' }) : wpAny (model prog w) A (call (.builtin "list.pop") [.ref D, .int 0 u]) Q E s :=
  kl_popAt (k := 0) (p := []) (q := q) (y := y) F N rfl (by simp [seqIndex?]) rfl U (by simpa using hz) h
end
section
variable {prog : Program} {w : World} {K : World → Frag} {f : Addr} {vs : List Value} {d u : Nat} {W : List (Addr × Obj)} {Post : Value → List (Addr × Obj) → Prop}
theorem Spec.use (S : Spec prog K w f vs d u W Post) {big : List (Addr × Obj)} (rest : List (Addr × Obj)) {loose : List Str} {mean : ExcName → Option Value} {mg mb : Str → Option Value} {dp un : Nat} {gd : Option (List Code)} {cn : Str} {cs : Scope} {a : Addr} {ccd : Value} {cl : List (Str × Addr)} {outer : List Env} {A₀ : Around} {base h₀ : Heap} {L : Addr} {m : Str → Option Value} {s : Shared} {Q E : Value → Shared → Prop}
    (B : Below A₀ base outer h₀) (F : Fr h₀ L s.heap m) (X : (K w).In h₀) (N : News h₀ L s.heap big) (T : Top topProg loose mean mg mb h₀) (hk : cs.kind = .function) (hsub : ∀ p ∈ W ++ rest, p ∈ big) (hdis : ∀ p ∈ W, ∀ q ∈ rest, p.1 ≠ q.1) (hd : dp + d < recursionLimit) (hu : un + u < cLine)
    (hret : ∀ r W' h' tk', Post r W' → Fr h₀ L h' m → News h₀ L h' (W' ++ rest) → (∀ p ∈ W', p.1 ∈ W.map (·.1) ∨ ∀ q ∈ rest, q.1 < p.1) → Q r { s with heap := h', toks := tk' }) :
    wpAny (model prog w) (ktrTop dp un gd cn cs L a ccd cl outer) (call (.ref f) vs) Q E s :=
  wpAny_call (S rest loose mean mg mb dp un gd cn cs a ccd cl outer A₀ base h₀ L m s Q E B F X (fun p hp => N p (hsub p hp)) hdis T hk hd hu hret)
/-- a def that writes nothing of the caller's and leaves nothing behind -/
theorem Spec.pure {R : Value → Prop} (S : Spec prog K w f vs d u [] (fun r W' => R r ∧ W' = [])) {big : List (Addr × Obj)} {loose : List Str} {mean : ExcName → Option Value} {mg mb : Str → Option Value} {dp un : Nat} {gd : Option (List Code)} {cn : Str} {cs : Scope} {a : Addr} {ccd : Value} {cl : List (Str × Addr)} {outer : List Env} {A₀ : Around} {base h₀ : Heap} {L : Addr} {m : Str → Option Value} {s : Shared} {Q E : Value → Shared → Prop}
    (B : Below A₀ base outer h₀) (F : Fr h₀ L s.heap m) (X : (K w).In h₀) (N : News h₀ L s.heap big) (T : Top topProg loose mean mg mb h₀) (hk : cs.kind = .function) (hd : dp + d < recursionLimit) (hu : un + u < cLine)
    (hret : ∀ r h' tk', R r → Fr h₀ L h' m → News h₀ L h' big → Q r { s with heap := h', toks := tk' }) :
    wpAny (model prog w) (ktrTop dp un gd cn cs L a ccd cl outer) (call (.ref f) vs) Q E s :=
  Spec.use S big B F X N T hk (fun _ hp => hp) (fun _ hp => nomatch hp) hd hu fun r W' h' tk' hp F' N' _ => by
    obtain ⟨hr, rfl⟩ := hp
    exact hret r h' tk' hr F' N'
end

theorem fr_to {h₀ h : Heap} {L : Addr} {m m' : Str → Option Value} (F : Fr h₀ L h m) (e : ∀ y, m y = m' y) : Fr h₀ L h m' := (funext e : m = m') ▸ F
/-- a loop's turn is done: the word holds again, its measure lower -/
def Again (I : Nat → Shared → Prop) (n : Nat) (s : Shared) : Prop := ∃ m, m < n ∧ I m s
section
variable {prog : Program} {w : World} {A : Around} {s : Shared} {env : Env}
theorem for_inv {it : Value} {x : Str} {px : Pos} {body : List Stmt} {Q : Flow → Shared → Prop} {R : Result → Shared → Prop} (I : Nat → Shared → Prop) (hx : env.kindOf x = some .local)
    (hp : (env.scope.kind == .class || (env.scope.kind == .module && env.locals != env.globals)) = false) (hR : ∀ f s, Q f s → R (.ok f) s)
    (turn : ∀ n s, I n s → wpAny (model prog w) A (pyNext it) (fun r s₁ => match r with
      | none => Q .next s₁
      | some v => wpAny (model prog w) A (storeName env x v) (fun _ s₂ => wpAny (model prog w) A (execs body env) (fun f s₃ => match f with
          | .next => Again I n s₃
          | .cont => Again I n s₃
          | .brk => Q .next s₃
          | .ret v => Q (.ret v) s₃) (fun _ _ => False) s₂) (fun _ _ => False) s₁) (fun _ _ => False) s)
    (n : Nat) (h : I n s) : codeAny (model prog w) A (.forLoop (.Name x px) it body [] env) R s := by
  refine codeAny_forLoop I (fun n s hI => wpAny_noRaise (wpAny_mono (turn n s hI) (fun r s₁ h₁ => ?_) fun _ _ x => x)) n h
  cases r with
  | none => exact wpAny_execs_nil (hR _ _ h₁)
  | some v =>
    refine wpAny_noRaise (wpAny_assign_Name (wpAny_mono h₁ (fun _ s₂ h₂ => wpAny_noRaise (wpAny_mono h₂ (fun f s₃ h₃ => ?_) fun _ _ x => x)) fun _ _ x => x))
    cases f with
    | next => exact h₃
    | cont => exact h₃
    | brk => exact hR _ _ h₃
    | ret v => exact hR _ _ h₃
theorem while_inv {test : Expr} {body : List Stmt} {Q : Flow → Shared → Prop} {R : Result → Shared → Prop} (I : Nat → Shared → Prop) (hR : ∀ f s, Q f s → R (.ok f) s)
    (turn : ∀ n s, I n s → wpAny (model prog w) A (isTrue test env (eval test env)) (fun b s₂ =>
        if b then wpAny (model prog w) A (execs body env) (fun f s₃ => match f with
            | .next => Again I n s₃
            | .cont => Again I n s₃
            | .brk => Q .next s₃
            | .ret v => Q (.ret v) s₃) (fun _ _ => False) s₂
        else Q .next s₂) (fun _ _ => False) s)
    (n : Nat) (h : I n s) : codeAny (model prog w) A (.whileLoop test body [] env) R s := by
  refine codeAny_whileLoop I (fun n s hI => wpAny_noRaise (wpAny_mono (turn n s hI) (fun b s₂ h₂ => ?_) fun _ _ x => x)) n h
  cases b with
  | true =>
    refine wpAny_noRaise (wpAny_mono h₂ (fun f s₃ h₃ => ?_) fun _ _ x => x)
    cases f with
    | next => exact h₃
    | cont => exact h₃
    | brk => exact hR _ _ h₃
    | ret v => exact hR _ _ h₃
  | false => exact wpAny_execs_nil (hR _ _ h₂)
end
section
variable {M : Model} {A : Around} {E : Value → Shared → Prop} {s : Shared} {env : Env} {x : Str} {pos : Pos} {v : Value} {Q : Value → Shared → Prop}
theorem nameG_B {h₀ : Heap} {L : Addr} {m mg mb : Str → Option Value} {K : Frag} {p : Program} {loose : List Str} (F : Fr h₀ L s.heap m) (X : K.In h₀) (T : TopRead p loose mg mb h₀) (e : nsIn K mainGlobals x = some none) (hv : bootBuiltins x = some v) (hn : x ≠ "__name__") (h : Q v s)
    (hg : env.globals = mainGlobals) (hb : env.builtins = builtinsNs) (hk : env.scope.kind = .function) (hx : env.kindOf x = some .globalImplicit) (hd : (x == ("__debug__" : Str)) = false) : wpAny M A (eval (.Name x pos) env) Q E s :=
  Name_function_global hk hx (loadGlobal_builtin (env := env) (by rw [hg]; exact T.g.keeps F.keep) (mg_none_of X T.g e) (by rw [hb]; exact T.b.keeps F.keep) ((T.builtins x hn).trans hv) h) hd
theorem name_loc {C : Addr} {m : Str → Option Value} (hn : s.heap.Ns C m) (hm : m x = some v) (h : Q v s) (hC : env.locals = C) (hk : env.scope.kind = .function) (hx : env.kindOf x = some .local) (hd : (x == ("__debug__" : Str)) = false) : wpAny M A (eval (.Name x pos) env) Q E s := by
  subst hC; exact wpAny_Name (wpAny_loadName_local hk hx hn hm h) hd
theorem name_locS {C : Addr} {m : Str → Option Value} (hC : env.locals = C) (hk : env.scope.kind = .function) (hx : env.kindOf x = some .local) (hd : (x == ("__debug__" : Str)) = false) (hn : s.heap.Ns C m) (hm : m x = some v) (h : Q v s) : wpAny M A (eval (.Name x pos) env) Q E s := name_loc hn hm h hC hk hx hd
theorem nameG_BS {h₀ : Heap} {L : Addr} {m mg mb : Str → Option Value} {K : Frag} {p : Program} {loose : List Str} (hg : env.globals = mainGlobals) (hb : env.builtins = builtinsNs) (hk : env.scope.kind = .function) (hx : env.kindOf x = some .globalImplicit) (hd : (x == ("__debug__" : Str)) = false) (F : Fr h₀ L s.heap m) (X : K.In h₀) (T : TopRead p loose mg mb h₀) (e : nsIn K mainGlobals x = some none) (hv : bootBuiltins x = some v) (hn : x ≠ "__name__") (h : Q v s) : wpAny M A (eval (.Name x pos) env) Q E s := nameG_B F X T e hv hn h hg hb hk hx hd
end

end
local macro_rules | `(tactic| k_room) => `(tactic| ktr_room)
local macro_rules | `(tactic| ke_room) => `(tactic| (show _ < _; ktr_units))
local macro_rules | `(tactic| k_in) => `(tactic| first | k_in_fast | exact Frag.In.keeps (by with_reducible assumption) (Fr.keep (by with_reducible assumption)))
local macro_rules | `(tactic| k_ne) => `(tactic| first | (refine neN ?_; (try dsimp only); first | (with_reducible assumption) | (refine Ne.symm ?_; with_reducible assumption) | (refine Nat.ne_of_lt ?_; with_reducible assumption) | (refine Nat.ne_of_gt ?_; with_reducible assumption) | omega))
local macro_rules | `(tactic| walk_at "execs cons") => `(tactic| k_fold)
section

def Reader (w : World) (fr : Addr) (sl : Addr) (RO : List (Addr × Obj)) : Prop :=
  ∀ (vs : List Value) (us : List Str) (c : Nat) (t : Tok), StrsAre vs us → us.length ≤ 1000 → Spec PySem.Challenge.rw_sc0030_02.row.prog (fun w => Mine.hd.heap_39 w.params) w fr [.int 1 t] 2 90 ((sl, PySem.W.listOf vs.toArray c) :: RO) (fun r W' => ∃ c2, match vs with
    | [] => (∃ t, r = .str "" t) ∧ W' = (sl, PySem.W.listOf #[] c2) :: RO
    | v :: vs' => r = v ∧ W' = (sl, PySem.W.listOf vs'.toArray c2) :: RO)
set_option genInjectivity false in
set_option genSizeOf false in
structure LexAt where
  pb : Nat
  lx : Nat
  dlx : Nat
  fr : Nat
  cd : Nat
  pb0 : Nat
  st : Nat
  dst : Nat
  sl : Nat
  cell : Nat
  k1 : Tok
  k2 : Tok
  k3 : Tok
  k4 : Tok
  t3 : Tok
  j1 : Tok
  j2 : Tok
  j3 : Tok
  j4 : Tok
  j5 : Tok
  u1 : Tok
  u3 : Tok
  rf : FuncData
  oc : Obj
  co : Obj
abbrev lexDict (w : World) (a : LexAt) (n : Int) (t : Tok) : Obj := dictOf [⟨PyData.keyHash w.params (Str.ofString "lineno"), .str (Str.ofString "lineno") a.k1, .int n t⟩, ⟨PyData.keyHash w.params (Str.ofString "instream"), .str (Str.ofString "instream") a.k2, .ref a.st⟩,
  ⟨PyData.keyHash w.params (Str.ofString "whitespace"), .str (Str.ofString "whitespace") a.k3, .str (Str.ofString "\n\t\r ") a.t3⟩, ⟨PyData.keyHash w.params (Str.ofString "pushback"), .str (Str.ofString "pushback") a.k4, .ref a.pb⟩] 4
abbrev strDict (w : World) (a : LexAt) : Obj := dictOf [⟨PyData.keyHash w.params (Str.ofString "lineno"), .str (Str.ofString "lineno") a.j1, .int 1 a.u1⟩, ⟨PyData.keyHash w.params (Str.ofString "instream"), .str (Str.ofString "instream") a.j2, .none⟩,
  ⟨PyData.keyHash w.params (Str.ofString "whitespace"), .str (Str.ofString "whitespace") a.j3, .str (Str.ofString "\n\t\r ") a.u3⟩, ⟨PyData.keyHash w.params (Str.ofString "pushback"), .str (Str.ofString "pushback") a.j4, .ref a.pb0⟩, ⟨PyData.keyHash w.params (Str.ofString "read"), .str (Str.ofString "read") a.j5, .ref a.fr⟩] 5
/-- the lexer's objects: n the line, q the waiting words, cs the signs not yet read -/
abbrev LexW (w : World) (a : LexAt) (q : List Value) (cq : Nat) (n : Int) (tn : Tok) (cs : List Value) (cc : Nat) : List (Addr × Obj) :=
  [(a.pb, PySem.W.listOf q.toArray cq), (a.lx, instObj 52 a.dlx), (a.dlx, lexDict w a n tn), (a.fr, ({ cls := .type "function", data := .func a.rf } : Obj)), (a.cd, a.oc), (a.pb0, PySem.W.listOf #[] 0), (a.st, instObj 52 a.dst), (a.dst, strDict w a), (a.sl, PySem.W.listOf cs.toArray cc), (a.cell, a.co)]
def LexOk (w : World) (a : LexAt) : Prop :=
  (a.cell < a.sl ∧ a.sl < a.dst ∧ a.dst < a.st ∧ a.st < a.pb0 ∧ a.pb0 < a.cd ∧ a.cd < a.fr ∧ a.fr < a.dlx ∧ a.dlx < a.lx ∧ a.lx < a.pb) ∧ Reader w a.fr a.sl [(a.fr, ({ cls := .type "function", data := .func a.rf } : Obj)), (a.cd, a.oc), (a.cell, a.co)]

theorem lex_in {w : World} {a : LexAt} (ok : LexOk w a) {q : List Value} {cq : Nat} {n : Int} {tn : Tok} {cs : List Value} {cc : Nat} : ∀ p ∈ LexW w a q cq n tn cs cc, @LE.le Nat _ a.cell p.1 ∧ @LE.le Nat _ p.1 a.pb := by
  obtain ⟨⟨o1, o2, o3, o4, o5, o6, o7, o8, o9⟩, -⟩ := ok
  have u1 := Nat.le_of_lt o1
  have u2 := Nat.le_trans u1 (Nat.le_of_lt o2)
  have u3 := Nat.le_trans u2 (Nat.le_of_lt o3)
  have u4 := Nat.le_trans u3 (Nat.le_of_lt o4)
  have u5 := Nat.le_trans u4 (Nat.le_of_lt o5)
  have u6 := Nat.le_trans u5 (Nat.le_of_lt o6)
  have u7 := Nat.le_trans u6 (Nat.le_of_lt o7)
  have u8 := Nat.le_trans u7 (Nat.le_of_lt o8)
  have d9 := Nat.le_of_lt o9
  have d8 := Nat.le_trans (Nat.le_of_lt o8) d9
  have d7 := Nat.le_trans (Nat.le_of_lt o7) d8
  have d6 := Nat.le_trans (Nat.le_of_lt o6) d7
  have d5 := Nat.le_trans (Nat.le_of_lt o5) d6
  have d4 := Nat.le_trans (Nat.le_of_lt o4) d5
  have d3 := Nat.le_trans (Nat.le_of_lt o3) d4
  have d2 := Nat.le_trans (Nat.le_of_lt o2) d3
  exact List.forall_mem_cons.mpr ⟨⟨Nat.le_trans u8 d9, Nat.le_refl _⟩, List.forall_mem_cons.mpr ⟨⟨u8, d9⟩, List.forall_mem_cons.mpr ⟨⟨u7, d8⟩, List.forall_mem_cons.mpr ⟨⟨u6, d7⟩, List.forall_mem_cons.mpr ⟨⟨u5, d6⟩, List.forall_mem_cons.mpr ⟨⟨u4, d5⟩, List.forall_mem_cons.mpr ⟨⟨u3, d4⟩, List.forall_mem_cons.mpr ⟨⟨u2, d3⟩, List.forall_mem_cons.mpr ⟨⟨u1, d2⟩, List.forall_mem_cons.mpr ⟨⟨Nat.le_refl _, Nat.le_trans u1 d2⟩, List.forall_mem_nil _⟩⟩⟩⟩⟩⟩⟩⟩⟩⟩
/-- the lexer's objects lie where they lay -/
theorem lex_same {w : World} {a : LexAt} {q q' : List Value} {cq cq' : Nat} {n n' : Int} {tn tn' : Tok} {cs cs' : List Value} {cc cc' : Nat} {L : Addr} : ∀ p ∈ LexW w a q' cq' n' tn' cs' cc', p.1 ∈ (LexW w a q cq n tn cs cc).map (·.1) ∨ L < p.1 := fun _ hp => .inl (List.mem_map_of_mem (f := (·.1)) hp)
theorem lex_dis {w : World} {a : LexAt} (ok : LexOk w a) {q : List Value} {cq : Nat} {n : Int} {tn : Tok} {cs : List Value} {cc : Nat} {rest : List (Addr × Obj)} (h : ∀ r ∈ rest, @LT.lt Nat _ r.1 a.cell ∨ @LT.lt Nat _ a.pb r.1) : ∀ p ∈ LexW w a q cq n tn cs cc, ∀ r ∈ rest, p.1 ≠ r.1 := fun p hp r hr e => by
  obtain ⟨h1, h2⟩ := lex_in ok p hp
  rcases h r hr with h3 | h3 <;> rw [e] at h1 h2
  · exact Nat.lt_irrefl _ (Nat.lt_of_le_of_lt h1 h3)
  · exact Nat.lt_irrefl _ (Nat.lt_of_le_of_lt h2 h3)

def LexerPost (w : World) (x : Str) (r : Value) (W' : List (Addr × Obj)) : Prop := ∀ Z : Value → List (Addr × Obj) → Prop, (∀ a cq tn ys cc ps, StrsAre ys (signs x) → LexOk w a → @LT.lt Nat _ 72 a.cell → Z (.ref a.lx) (LexW w a [] cq 1 tn ys cc ++ [(72, tabObj ps)])) → Z r W'
theorem lexer_all {w : World} {x : Str} {Z : Value → List (Addr × Obj) → Heap → Nat → Prop} (d : ∀ h' tk' a cq tn ys cc ps, StrsAre ys (signs x) → LexOk w a → @LT.lt Nat _ 72 a.cell → Z (.ref a.lx) (LexW w a [] cq 1 tn ys cc ++ [(72, tabObj ps)]) h' tk') : ∀ r W' h' tk', LexerPost w x r W' → Z r W' h' tk' := fun _ _ h' tk' hp => hp (fun r W' => Z r W' h' tk') (d h' tk')
theorem LexerPost.mk {w : World} {x : Str} {a : LexAt} {cq tn cc : Nat} {ys : List Value} {ps : Array Value} (h1 : StrsAre ys (signs x)) (h2 : LexOk w a) (h3 : @LT.lt Nat _ 72 a.cell) : LexerPost w x (.ref a.lx) (LexW w a [] cq 1 tn ys cc ++ [(72, tabObj ps)]) := fun _ k => k _ _ _ _ _ _ h1 h2 h3
local macro_rules | `(tactic| k_ne) => `(tactic| first | (refine neN ?_; (try dsimp only); first | (with_reducible assumption) | (refine Ne.symm ?_; with_reducible assumption) | (refine Nat.ne_of_lt ?_; with_reducible assumption) | (refine Nat.ne_of_gt ?_; with_reducible assumption) | (refine Nat.ne_of_lt ?_; (apply And.left; iterate 12 (first | done | with_reducible assumption | apply And.right)); done) | (refine Nat.ne_of_gt ?_; (apply And.left; iterate 12 (first | done | with_reducible assumption | apply And.right)); done) | omega))
set_option maxHeartbeats 8000000 in
theorem lexer_spec (w : World) (x : Str) (t : Tok) (hx : x.length ≤ 100) : Spec PySem.Challenge.rw_sc0030_02.row.prog (fun w => Mine.hd.heap_39 w.params) w 77 [.str x t] 3 90 [(72, tabObj #[])] (LexerPost w x) := by
  ((k_fill; k_dflt (refine' spec_cells ?k6_6 ?k7_6 ?h1_6 ?k9_6 ?kB_6 ?kD_6 ?c2_6 ?c3_6 ?c4_6 ?_; (case k6_6 => k_is); (case k7_6 => k_is); (case h1_6 => first | decide | exact Nat.succ_pos _); (case k9_6 => exact rfl); (case kB_6 => exact rfl); (case kD_6 => decide +kernel); (case c2_6 => exact rfl); (case c3_6 => exact rfl); (case c4_6 => exact rfl); k_whole)))
  intro loose mean mg mb dp un gd env outer base g L' h₁ s tk cells F' N' Y' B' X' T' lW hd hu
  try dsimp only at X'
  k_cells Y'
  try simp only [List.cons_append, List.nil_append] at N'
  try dsimp only
  try k_fold
  try k_lt lW
  have kM := kstMark
  k_with_none
  have hC9 := codeHd_of_K (c := 76) (P := 72) X' (by kernel_rfl)
  (repeat' (first |  (k_unfold; (try dsimp only)) | (k_here; (with_reducible show wpAny _ _ (eval (Expr.Name _ _) (compEnv _ _ _)) _ _ _); k_dflt (first | (refine name_locS rfl rfl rfl (by decide) (by with_reducible assumption) (by assumption) ?_; k_whole) | (refine nameG_BS rfl rfl rfl rfl (by decide) (by k_asm) (by k_asm) (by k_asm) (by k_is) (by boot_fast) (by decide) ?_; k_whole))) | (k_here; (with_reducible show wpAny _ _ (call (Value.type _) [Value.str _ _]) _ _ _); k_dflt (refine list_strN rfl (by k_asm) (by k_asm) ?_ (by rw [sizeLine_eq]; omega)); intro D9 ys9 c9 h9 tk9 F9 N9 l9 m9 hS9; (try k_lt l9); (try k_sweep)) | (k_here; (with_reducible show wpAny _ _ (compareOp CmpOp.NotEq (Value.ref _) (Value.ref _)) _ _ _); k_dflt (first | refine strs_ne_nil (by is_list) (by is_list) (by ke_room) ?_ | refine strs_ne_cons (by is_list) (by is_list) (by k_asm) (by ke_room) ?_ | refine strs_ne (by is_list) (by is_list) (by first | k_asm | exact StrsAre.nil) (by first | exact StrsAre.nil | k_asm) (by ke_room) ?_)) | (k_here; (with_reducible show wpAny _ _ (compareOp CmpOp.Eq (Value.ref _) (Value.ref _)) _ _ _); k_dflt (refine strs_eq (by is_list) (by is_list) (by first | k_asm | exact StrsAre.nil) (by first | exact StrsAre.nil | k_asm) (by ke_room) ?_)) | (k_here; (with_reducible show wpAny _ _ (call (Value.builtin _) [Value.ref _, Value.int 0 _]) _ _ _); k_dflt (refine pop_first (by k_asm) (by k_asm) (by k_upd) (by (rw [sizeLine_eq]; (try have hL9 := PyProof.Rows.StrsAre.length (by assumption)); (try simp only [List.length_cons] at *); omega)) ?_; k_whole); intro h9 F9 N9; (try k_sweep)) | (k_here; (with_reducible show wpAny _ _ (call (Value.builtin "len") [Value.str _ _]) _ _ _); refine len_str (by omega) ?_) | (k_here; (with_reducible show wpAny _ _ (call (Value.builtin "len") [Value.ref _]) _ _ _); k_dflt (refine len_strsA (by is_list) (by assumption) (by ((try simp only [List.length_map]); omega)) ?_; k_whole); (try simp only [List.length_map])) | walk1 | (dsimp only; walk1) | (dsimp only; k_unfold; (try dsimp only)) | fail "no step"))
  refine Back.mk (by assumption) (by assumption) ?_ ?_
  · (repeat (first | exact List.forall_mem_nil _ | refine List.forall_mem_cons.mpr ⟨by first | (left; simp only [List.map_cons, List.mem_cons, true_or, or_true]; done) | (right; refine ltN ?_; (try dsimp only); omega), ?_⟩))
  refine LexerPost.mk (a := ⟨_, _, _, _, _, _, _, _, _, _, _, _, _, _, _, _, _, _, _, _, _, _, _, _, _⟩) (by assumption) ⟨⟨?_, ?_, ?_, ?_, ?_, ?_, ?_, ?_, ?_⟩, ?_⟩ ?_
  rotate_right
  · (try dsimp only); omega
  iterate 9 (refine ltN ?_; (try dsimp only); omega)
  repeat (rename Fr _ _ _ _ => zz; clear zz)
  repeat (rename News _ _ _ _ => zz; clear zz)
  repeat (rename Frag.In _ _ => zz; clear zz)
  repeat (rename Top _ _ _ _ _ _ => zz; clear zz)
  repeat (rename Below _ _ _ _ => zz; clear zz)
  repeat (rename CodeHd _ _ _ => zz; clear zz)
  intro vs us c t hvs hlen
  dsimp only
  refine spec_lam (by k_mem) (by k_mem) (by assumption) (by assumption) (by decide) rfl (locs rfl) (by decide) rfl rfl rfl ?_
  intro loose mean mg mb dp un gd env outer base g L' h₁ s tk F' N' B' X' T' lW hd hu
  try dsimp only at X'
  have hC9 := codeHd_of_K (c := 76) (P := 72) X' (by kernel_rfl)
  try k_lt lW
  cases hvs with
  | nil =>
    (repeat' (first |  (k_unfold; (try dsimp only)) | (k_here; (with_reducible show wpAny _ _ (eval (Expr.Name _ _) (compEnv _ _ _)) _ _ _); k_dflt (first | (refine name_locS rfl rfl rfl (by decide) (by with_reducible assumption) (by assumption) ?_; k_whole) | (refine nameG_BS rfl rfl rfl rfl (by decide) (by k_asm) (by k_asm) (by k_asm) (by k_is) (by boot_fast) (by decide) ?_; k_whole))) | (k_here; (with_reducible show wpAny _ _ (call (Value.type _) [Value.str _ _]) _ _ _); k_dflt (refine list_strN rfl (by k_asm) (by k_asm) ?_ (by rw [sizeLine_eq]; omega)); intro D9 ys9 c9 h9 tk9 F9 N9 l9 m9 hS9; (try k_lt l9); (try k_sweep)) | (k_here; (with_reducible show wpAny _ _ (compareOp CmpOp.NotEq (Value.ref _) (Value.ref _)) _ _ _); k_dflt (first | refine strs_ne_nil (by is_list) (by is_list) (by ke_room) ?_ | refine strs_ne_cons (by is_list) (by is_list) (by k_asm) (by ke_room) ?_ | refine strs_ne (by is_list) (by is_list) (by first | k_asm | exact StrsAre.nil) (by first | exact StrsAre.nil | k_asm) (by ke_room) ?_)) | (k_here; (with_reducible show wpAny _ _ (compareOp CmpOp.Eq (Value.ref _) (Value.ref _)) _ _ _); k_dflt (refine strs_eq (by is_list) (by is_list) (by first | k_asm | exact StrsAre.nil) (by first | exact StrsAre.nil | k_asm) (by ke_room) ?_)) | (k_here; (with_reducible show wpAny _ _ (call (Value.builtin _) [Value.ref _, Value.int 0 _]) _ _ _); k_dflt (refine pop_first (by k_asm) (by k_asm) (by k_upd) (by (rw [sizeLine_eq]; (try have hL9 := PyProof.Rows.StrsAre.length (by assumption)); (try simp only [List.length_cons] at *); omega)) ?_; k_whole); intro h9 F9 N9; (try k_sweep)) | (k_here; (with_reducible show wpAny _ _ (call (Value.builtin "len") [Value.str _ _]) _ _ _); refine len_str (by omega) ?_) | (k_here; (with_reducible show wpAny _ _ (call (Value.builtin "len") [Value.ref _]) _ _ _); k_dflt (refine len_strsA (by is_list) (by assumption) (by ((try simp only [List.length_map]); omega)) ?_; k_whole); (try simp only [List.length_map])) | walk1 | (dsimp only; walk1) | (dsimp only; k_unfold; (try dsimp only)) | fail "no step"))
    refine Back.mk' ⟨c, ⟨_, rfl⟩, rfl⟩ (by assumption) (by assumption) ?_ ?_
    · (repeat (first | exact List.forall_mem_nil _ | refine List.forall_mem_cons.mpr ⟨by k_mem, ?_⟩))
    · (repeat (first | exact List.forall_mem_nil _ | refine List.forall_mem_cons.mpr ⟨by first | (left; simp only [List.map_cons, List.mem_cons, true_or, or_true]; done) | (right; refine ltN ?_; (try dsimp only); omega), ?_⟩))
  | cons y t' hvs =>
    have hvs2 := StrsAre.cons y t' hvs
    (repeat' (first |  (k_unfold; (try dsimp only)) | (k_here; (with_reducible show wpAny _ _ (eval (Expr.Name _ _) (compEnv _ _ _)) _ _ _); k_dflt (first | (refine name_locS rfl rfl rfl (by decide) (by with_reducible assumption) (by assumption) ?_; k_whole) | (refine nameG_BS rfl rfl rfl rfl (by decide) (by k_asm) (by k_asm) (by k_asm) (by k_is) (by boot_fast) (by decide) ?_; k_whole))) | (k_here; (with_reducible show wpAny _ _ (call (Value.type _) [Value.str _ _]) _ _ _); k_dflt (refine list_strN rfl (by k_asm) (by k_asm) ?_ (by rw [sizeLine_eq]; omega)); intro D9 ys9 c9 h9 tk9 F9 N9 l9 m9 hS9; (try k_lt l9); (try k_sweep)) | (k_here; (with_reducible show wpAny _ _ (compareOp CmpOp.NotEq (Value.ref _) (Value.ref _)) _ _ _); k_dflt (first | refine strs_ne_nil (by is_list) (by is_list) (by ke_room) ?_ | refine strs_ne_cons (by is_list) (by is_list) (by k_asm) (by ke_room) ?_ | refine strs_ne (by is_list) (by is_list) (by first | k_asm | exact StrsAre.nil) (by first | exact StrsAre.nil | k_asm) (by ke_room) ?_)) | (k_here; (with_reducible show wpAny _ _ (compareOp CmpOp.Eq (Value.ref _) (Value.ref _)) _ _ _); k_dflt (refine strs_eq (by is_list) (by is_list) (by first | k_asm | exact StrsAre.nil) (by first | exact StrsAre.nil | k_asm) (by ke_room) ?_)) | (k_here; (with_reducible show wpAny _ _ (call (Value.builtin _) [Value.ref _, Value.int 0 _]) _ _ _); k_dflt (refine pop_first (by k_asm) (by k_asm) (by k_upd) (by (rw [sizeLine_eq]; (try have hL9 := PyProof.Rows.StrsAre.length (by assumption)); (try simp only [List.length_cons] at *); omega)) ?_; k_whole); intro h9 F9 N9; (try k_sweep)) | (k_here; (with_reducible show wpAny _ _ (call (Value.builtin "len") [Value.str _ _]) _ _ _); refine len_str (by omega) ?_) | (k_here; (with_reducible show wpAny _ _ (call (Value.builtin "len") [Value.ref _]) _ _ _); k_dflt (refine len_strsA (by is_list) (by assumption) (by ((try simp only [List.length_map]); omega)) ?_; k_whole); (try simp only [List.length_map])) | walk1 | (dsimp only; walk1) | (dsimp only; k_unfold; (try dsimp only)) | fail "no step"))
    refine Back.mk' ⟨c + 1, rfl, rfl⟩ (by assumption) (by assumption) ?_ ?_
    · (repeat (first | exact List.forall_mem_nil _ | refine List.forall_mem_cons.mpr ⟨by k_mem, ?_⟩))
    · (repeat (first | exact List.forall_mem_nil _ | refine List.forall_mem_cons.mpr ⟨by first | (left; simp only [List.map_cons, List.mem_cons, true_or, or_true]; done) | (right; refine ltN ?_; (try dsimp only); omega), ?_⟩))

end
section
local macro_rules | `(tactic| walk_at "pad") => `(tactic| fail)
def PushPost (w : World) (a : LexAt) (q : List Value) (n : Int) (tn : Tok) (cs : List Value) (cc : Nat) (y : Str) (t : Tok) (r : Value) (W' : List (Addr × Obj)) : Prop := ∀ Z : Value → List (Addr × Obj) → Prop, (∀ cq', Z .none (LexW w a (q ++ [.str y t]) cq' n tn cs cc)) → Z r W'
theorem push_all {w : World} {a : LexAt} {q : List Value} {n : Int} {tn : Tok} {cs : List Value} {cc : Nat} {y : Str} {t : Tok} {Z : Value → List (Addr × Obj) → Heap → Nat → Prop} (d : ∀ h' tk' cq', Z .none (LexW w a (q ++ [.str y t]) cq' n tn cs cc) h' tk') : ∀ r W' h' tk', PushPost w a q n tn cs cc y t r W' → Z r W' h' tk' := fun _ _ h' tk' hp => hp (fun r W' => Z r W' h' tk') (d h' tk')
set_option maxHeartbeats 8000000 in
theorem push_spec (w : World) (a : LexAt) (ok : LexOk w a) (q : List Value) (cq : Nat) (n : Int) (tn : Tok) (cs : List Value) (cc : Nat) (y : Str) (t : Tok) (hq : q.length ≤ 1000) :
    Spec PySem.Challenge.rw_sc0030_02.row.prog (fun w => Mine.hd.heap_39 w.params) w 49 [.ref a.lx, .str y t] 2 90 (LexW w a q cq n tn cs cc) (PushPost w a q n tn cs cc y t) := by
  obtain ⟨⟨o1, o2, o3, o4, o5, o6, o7, o8, o9⟩, -⟩ := ok
  ((k_fill; k_dflt (refine' spec_plain ?k6_10 ?k7_10 ?h1_10 ?k9_10 ?kB_10 ?c5_10 ?c2_10 ?c3_10 ?c4_10 ?_; (case k6_10 => k_is); (case k7_10 => k_is); (case h1_10 => first | decide | exact Nat.succ_pos _); (case k9_10 => exact rfl); (case kB_10 => exact locs rfl); (case c5_10 => decide); (case c2_10 => exact rfl); (case c3_10 => exact rfl); (case c4_10 => exact rfl); k_whole)))
  intro loose mean mg mb dp un gd env outer base g L' h₁ s tk F' N' B' X' T' lW hd hu
  try dsimp only at X'
  try dsimp only
  try k_fold
  try k_lt lW
  have kM := kstMark
  k_with_none
  (repeat' (first |  (k_unfold; (try dsimp only)) | (k_here; (with_reducible show wpAny _ _ (eval (Expr.Name _ _) (compEnv _ _ _)) _ _ _); k_dflt (first | (refine name_locS rfl rfl rfl (by decide) (by with_reducible assumption) (by assumption) ?_; k_whole) | (refine nameG_BS rfl rfl rfl rfl (by decide) (by k_asm) (by k_asm) (by k_asm) (by k_is) (by boot_fast) (by decide) ?_; k_whole))) | (k_here; (with_reducible show wpAny _ _ (call (Value.type _) [Value.str _ _]) _ _ _); k_dflt (refine list_strN rfl (by k_asm) (by k_asm) ?_ (by rw [sizeLine_eq]; omega)); intro D9 ys9 c9 h9 tk9 F9 N9 l9 m9 hS9; (try k_lt l9); (try k_sweep)) | (k_here; (with_reducible show wpAny _ _ (compareOp CmpOp.NotEq (Value.ref _) (Value.ref _)) _ _ _); k_dflt (first | refine strs_ne_nil (by is_list) (by is_list) (by ke_room) ?_ | refine strs_ne_cons (by is_list) (by is_list) (by k_asm) (by ke_room) ?_ | refine strs_ne (by is_list) (by is_list) (by first | k_asm | exact StrsAre.nil) (by first | exact StrsAre.nil | k_asm) (by ke_room) ?_)) | (k_here; (with_reducible show wpAny _ _ (compareOp CmpOp.Eq (Value.ref _) (Value.ref _)) _ _ _); k_dflt (refine strs_eq (by is_list) (by is_list) (by first | k_asm | exact StrsAre.nil) (by first | exact StrsAre.nil | k_asm) (by ke_room) ?_)) | (k_here; (with_reducible show wpAny _ _ (call (Value.builtin _) [Value.ref _, Value.int 0 _]) _ _ _); k_dflt (refine pop_first (by k_asm) (by k_asm) (by k_upd) (by (rw [sizeLine_eq]; (try have hL9 := PyProof.Rows.StrsAre.length (by assumption)); (try simp only [List.length_cons] at *); omega)) ?_; k_whole); intro h9 F9 N9; (try k_sweep)) | (k_here; (with_reducible show wpAny _ _ (call (Value.builtin "len") [Value.str _ _]) _ _ _); refine len_str (by omega) ?_) | (k_here; (with_reducible show wpAny _ _ (call (Value.builtin "len") [Value.ref _]) _ _ _); k_dflt (refine len_strsA (by is_list) (by assumption) (by ((try simp only [List.length_map]); omega)) ?_; k_whole); (try simp only [List.length_map])) | walk1 | (dsimp only; walk1) | (dsimp only; k_unfold; (try dsimp only)) | fail "no step"))
  rename News _ _ _ _ => N2
  try simp only [List.push_toArray] at N2
  refine Back.mk' (fun _ k => k (cq + 1)) (by assumption) N2 ?_ lex_same
  (repeat (first | exact List.forall_mem_nil _ | refine List.forall_mem_cons.mpr ⟨by k_mem, ?_⟩))

set_option maxHeartbeats 8000000 in
theorem tok_spec1 (w : World) (a : LexAt) (ok : LexOk w a) (q : List Value) (cq : Nat) (n : Int) (tn : Tok) (cs : List Value) (cc : Nat) (y : Str) (t : Tok) (hq : q.length ≤ 1000) :
    Spec PySem.Challenge.rw_sc0030_02.row.prog (fun w => Mine.hd.heap_39 w.params) w 42 [.ref a.lx] 2 90 (LexW w a (.str y t :: q) cq n tn cs cc) (fun r W' => r = .str y t ∧ ∃ cq', W' = LexW w a q cq' n tn cs cc) := by
  obtain ⟨⟨o1, o2, o3, o4, o5, o6, o7, o8, o9⟩, -⟩ := ok
  ((k_fill; k_dflt (refine' spec_plain ?k6_8 ?k7_8 ?h1_8 ?k9_8 ?kB_8 ?c5_8 ?c2_8 ?c3_8 ?c4_8 ?_; (case k6_8 => k_is); (case k7_8 => k_is); (case h1_8 => first | decide | exact Nat.succ_pos _); (case k9_8 => exact rfl); (case kB_8 => exact locs rfl); (case c5_8 => decide); (case c2_8 => exact rfl); (case c3_8 => exact rfl); (case c4_8 => exact rfl); k_whole)))
  intro loose mean mg mb dp un gd env outer base g L' h₁ s tk F' N' B' X' T' lW hd hu
  try dsimp only at X'
  try dsimp only
  try k_fold
  try k_lt lW
  have kM := kstMark
  k_with_none
  (repeat' (first |  (k_unfold; (try dsimp only)) | (k_here; (with_reducible show wpAny _ _ (eval (Expr.Name _ _) (compEnv _ _ _)) _ _ _); k_dflt (first | (refine name_locS rfl rfl rfl (by decide) (by with_reducible assumption) (by assumption) ?_; k_whole) | (refine nameG_BS rfl rfl rfl rfl (by decide) (by k_asm) (by k_asm) (by k_asm) (by k_is) (by boot_fast) (by decide) ?_; k_whole))) | (k_here; (with_reducible show wpAny _ _ (call (Value.type _) [Value.str _ _]) _ _ _); k_dflt (refine list_strN rfl (by k_asm) (by k_asm) ?_ (by rw [sizeLine_eq]; omega)); intro D9 ys9 c9 h9 tk9 F9 N9 l9 m9 hS9; (try k_lt l9); (try k_sweep)) | (k_here; (with_reducible show wpAny _ _ (compareOp CmpOp.NotEq (Value.ref _) (Value.ref _)) _ _ _); k_dflt (first | refine strs_ne_nil (by is_list) (by is_list) (by ke_room) ?_ | refine strs_ne_cons (by is_list) (by is_list) (by k_asm) (by ke_room) ?_ | refine strs_ne (by is_list) (by is_list) (by first | k_asm | exact StrsAre.nil) (by first | exact StrsAre.nil | k_asm) (by ke_room) ?_)) | (k_here; (with_reducible show wpAny _ _ (compareOp CmpOp.Eq (Value.ref _) (Value.ref _)) _ _ _); k_dflt (refine strs_eq (by is_list) (by is_list) (by first | k_asm | exact StrsAre.nil) (by first | exact StrsAre.nil | k_asm) (by ke_room) ?_)) | (k_here; (with_reducible show wpAny _ _ (call (Value.builtin _) [Value.ref _, Value.int 0 _]) _ _ _); k_dflt (refine pop_first (by k_asm) (by k_asm) (by k_upd) (by (rw [sizeLine_eq]; (try have hL9 := PyProof.Rows.StrsAre.length (by assumption)); (try simp only [List.length_cons] at *); omega)) ?_; k_whole); intro h9 F9 N9; (try k_sweep)) | (k_here; (with_reducible show wpAny _ _ (call (Value.builtin "len") [Value.str _ _]) _ _ _); refine len_str (by omega) ?_) | (k_here; (with_reducible show wpAny _ _ (call (Value.builtin "len") [Value.ref _]) _ _ _); k_dflt (refine len_strsA (by is_list) (by assumption) (by ((try simp only [List.length_map]); omega)) ?_; k_whole); (try simp only [List.length_map])) | walk1 | (dsimp only; walk1) | (dsimp only; k_unfold; (try dsimp only)) | fail "no step"))
  refine Back.mk' ⟨rfl, cq + 1, rfl⟩ (by assumption) (by assumption) ?_ lex_same
  (repeat (first | exact List.forall_mem_nil _ | refine List.forall_mem_cons.mpr ⟨by k_mem, ?_⟩))

end
section
/-- the reader's objects and the lexer's others -/
theorem reader_dis {w : World} {a : LexAt} (ok : LexOk w a) {o1 o2 o3 o4 o5 o6 o7 o8 o9 o10 : Obj} : ∀ p ∈ [(a.sl, o1), (a.fr, o2), (a.cd, o3), (a.cell, o4)], ∀ q ∈ [(a.pb, o5), (a.lx, o6), (a.dlx, o7), (a.pb0, o8), (a.st, o9), (a.dst, o10)], p.1 ≠ q.1 := by
  obtain ⟨⟨c1, c2, c3, c4, c5, c6, c7, c8, c9⟩, -⟩ := ok
  have t1 := Nat.lt_trans c2 c3
  have t2 := Nat.lt_trans t1 c4
  have t3 := Nat.lt_trans (Nat.lt_trans t2 c5) (Nat.lt_trans c6 c7)
  have t4 := Nat.lt_trans t3 c8
  have t5 := Nat.lt_trans t4 c9
  have f2 := Nat.lt_trans c7 c8
  have f3 := Nat.lt_trans f2 c9
  have g1 := Nat.lt_trans c6 c7
  have g2 := Nat.lt_trans c6 f2
  have g3 := Nat.lt_trans c6 f3
  have e4 := c5
  have e5 := Nat.lt_trans c4 c5
  have e6 := Nat.lt_trans c3 e5
  have h {x y : Nat} (H : x < y) : x ≠ y := Nat.ne_of_lt H
  have h' {x y : Nat} (H : x < y) : y ≠ x := Nat.ne_of_gt H
  have six {P : Nat → Prop} (h1 : P a.pb) (h2 : P a.lx) (h3 : P a.dlx) (h4 : P a.pb0) (h5 : P a.st) (h6 : P a.dst) : ∀ q ∈ [(a.pb, o5), (a.lx, o6), (a.dlx, o7), (a.pb0, o8), (a.st, o9), (a.dst, o10)], P q.1 :=
    List.forall_mem_cons.mpr ⟨h1, List.forall_mem_cons.mpr ⟨h2, List.forall_mem_cons.mpr ⟨h3, List.forall_mem_cons.mpr ⟨h4, List.forall_mem_cons.mpr ⟨h5, List.forall_mem_cons.mpr ⟨h6, List.forall_mem_nil _⟩⟩⟩⟩⟩⟩
  exact List.forall_mem_cons.mpr ⟨six (P := fun z => a.sl ≠ z) (h t5) (h t4) (h t3) (h t2) (h t1) (h c2),
    List.forall_mem_cons.mpr ⟨six (P := fun z => a.fr ≠ z) (h f3) (h f2) (h c7) (h' (Nat.lt_trans c5 c6)) (h' (Nat.lt_trans e5 c6)) (h' (Nat.lt_trans e6 c6)),
    List.forall_mem_cons.mpr ⟨six (P := fun z => a.cd ≠ z) (h g3) (h g2) (h g1) (h' e4) (h' e5) (h' e6),
    List.forall_mem_cons.mpr ⟨six (P := fun z => a.cell ≠ z) (h (Nat.lt_trans c1 t5)) (h (Nat.lt_trans c1 t4)) (h (Nat.lt_trans c1 t3)) (h (Nat.lt_trans c1 t2)) (h (Nat.lt_trans c1 t1)) (h (Nat.lt_trans c1 c2)), List.forall_mem_nil _⟩⟩⟩⟩
set_option maxHeartbeats 8000000 in
theorem read_spec (w : World) (a : LexAt) (ok : LexOk w a) (q : List Value) (cq : Nat) (n : Int) (tn : Tok) (cs : List Value) (us : List Str) (cc : Nat) (hcs : StrsAre cs us) (hlen : us.length ≤ 1000) :
    Spec PySem.Challenge.rw_sc0030_02.row.prog (fun w => Mine.hd.heap_39 w.params) w 35 [.ref a.lx] 4 100 (LexW w a q cq n tn cs cc) (fun r W' => ∃ tn' cc', match cs, us with
      | v :: cs', y :: _ => r = v ∧ W' = LexW w a q cq (n + if y = "\n" then 1 else 0) tn' cs' cc'
      | _, _ => (∃ t, r = .str "" t) ∧ W' = LexW w a q cq n tn' [] cc') := by
  have hR := ok.2
  obtain ⟨⟨-, o2, o3, o4, o5, o6, o7, o8, o9⟩, -⟩ := id ok
  have x1 := Nat.lt_trans o8 o9
  have x2 := Nat.lt_trans o6 o7
  have x3 := Nat.lt_trans o5 x2
  have x4 := Nat.lt_trans o4 x3
  have x5 := Nat.lt_trans o3 x4
  have x6 := Nat.lt_trans o2 x5
  have x7 := Nat.lt_trans ok.1.1 x6
  clear o2 o3 o4 o5 o6 o9
  ((k_fill; k_dflt (refine' spec_plain ?k6_15 ?k7_15 ?h1_15 ?k9_15 ?kB_15 ?c5_15 ?c2_15 ?c3_15 ?c4_15 ?_; (case k6_15 => k_is); (case k7_15 => k_is); (case h1_15 => first | decide | exact Nat.succ_pos _); (case k9_15 => exact rfl); (case kB_15 => exact locs rfl); (case c5_15 => decide); (case c2_15 => exact rfl); (case c3_15 => exact rfl); (case c4_15 => exact rfl); k_whole)))
  intro loose mean mg mb dp un gd env outer base g L' h₁ s tk F' N' B' X' T' lW hd hu
  try dsimp only at X'
  try dsimp only
  try k_fold
  try k_lt lW
  have kM := kstMark
  have hC9 := codeHd_of_K (c := 76) (P := 72) X' (by kernel_rfl)
  k_with_none
  (repeat' (first |  (k_unfold; (try dsimp only)) | (k_here; (with_reducible show wpAny _ _ (eval (Expr.Name _ _) (compEnv _ _ _)) _ _ _); k_dflt (first | (refine name_locS rfl rfl rfl (by decide) (by with_reducible assumption) (by assumption) ?_; k_whole) | (refine nameG_BS rfl rfl rfl rfl (by decide) (by k_asm) (by k_asm) (by k_asm) (by k_is) (by boot_fast) (by decide) ?_; k_whole))) | (k_here; (with_reducible show wpAny _ _ (call (Value.type _) [Value.str _ _]) _ _ _); k_dflt (refine list_strN rfl (by k_asm) (by k_asm) ?_ (by rw [sizeLine_eq]; omega)); intro D9 ys9 c9 h9 tk9 F9 N9 l9 m9 hS9; (try k_lt l9); (try k_sweep)) | (k_here; (with_reducible show wpAny _ _ (compareOp CmpOp.NotEq (Value.ref _) (Value.ref _)) _ _ _); k_dflt (first | refine strs_ne_nil (by is_list) (by is_list) (by ke_room) ?_ | refine strs_ne_cons (by is_list) (by is_list) (by k_asm) (by ke_room) ?_ | refine strs_ne (by is_list) (by is_list) (by first | k_asm | exact StrsAre.nil) (by first | exact StrsAre.nil | k_asm) (by ke_room) ?_)) | (k_here; (with_reducible show wpAny _ _ (compareOp CmpOp.Eq (Value.ref _) (Value.ref _)) _ _ _); k_dflt (refine strs_eq (by is_list) (by is_list) (by first | k_asm | exact StrsAre.nil) (by first | exact StrsAre.nil | k_asm) (by ke_room) ?_)) | (k_here; (with_reducible show wpAny _ _ (call (Value.builtin _) [Value.ref _, Value.int 0 _]) _ _ _); k_dflt (refine pop_first (by k_asm) (by k_asm) (by k_upd) (by (rw [sizeLine_eq]; (try have hL9 := PyProof.Rows.StrsAre.length (by assumption)); (try simp only [List.length_cons] at *); omega)) ?_; k_whole); intro h9 F9 N9; (try k_sweep)) | (k_here; (with_reducible show wpAny _ _ (call (Value.builtin "len") [Value.str _ _]) _ _ _); refine len_str (by omega) ?_) | (k_here; (with_reducible show wpAny _ _ (call (Value.builtin "len") [Value.ref _]) _ _ _); k_dflt (refine len_strsA (by is_list) (by assumption) (by ((try simp only [List.length_map]); omega)) ?_; k_whole); (try simp only [List.length_map])) | walk1 | (dsimp only; walk1) | (dsimp only; k_unfold; (try dsimp only)) | fail "no step"))
  refine Spec.use (hR cs us cc _ hcs hlen) [(a.pb, PySem.W.listOf q.toArray cq), (a.lx, instObj 52 a.dlx), (a.dlx, lexDict w a n tn), (a.pb0, PySem.W.listOf #[] 0), (a.st, instObj 52 a.dst), (a.dst, strDict w a)]
    (by assumption) (by assumption) (by assumption) (by assumption) (by assumption) rfl (by (repeat (first | exact List.forall_mem_nil _ | refine List.forall_mem_cons.mpr ⟨by k_mem, ?_⟩))) (reader_dis ok) (by omega) (by omega) ?_
  intro r W' h' tk' hp F2 N2 hf
  clear N' F' hf
  cases hcs with
  | nil =>
    obtain ⟨c2, ⟨t2, rfl⟩, rfl⟩ := hp
    (repeat' (first |  (k_unfold; (try dsimp only)) | (k_here; (with_reducible show wpAny _ _ (eval (Expr.Name _ _) (compEnv _ _ _)) _ _ _); k_dflt (first | (refine name_locS rfl rfl rfl (by decide) (by with_reducible assumption) (by assumption) ?_; k_whole) | (refine nameG_BS rfl rfl rfl rfl (by decide) (by k_asm) (by k_asm) (by k_asm) (by k_is) (by boot_fast) (by decide) ?_; k_whole))) | (k_here; (with_reducible show wpAny _ _ (call (Value.type _) [Value.str _ _]) _ _ _); k_dflt (refine list_strN rfl (by k_asm) (by k_asm) ?_ (by rw [sizeLine_eq]; omega)); intro D9 ys9 c9 h9 tk9 F9 N9 l9 m9 hS9; (try k_lt l9); (try k_sweep)) | (k_here; (with_reducible show wpAny _ _ (compareOp CmpOp.NotEq (Value.ref _) (Value.ref _)) _ _ _); k_dflt (first | refine strs_ne_nil (by is_list) (by is_list) (by ke_room) ?_ | refine strs_ne_cons (by is_list) (by is_list) (by k_asm) (by ke_room) ?_ | refine strs_ne (by is_list) (by is_list) (by first | k_asm | exact StrsAre.nil) (by first | exact StrsAre.nil | k_asm) (by ke_room) ?_)) | (k_here; (with_reducible show wpAny _ _ (compareOp CmpOp.Eq (Value.ref _) (Value.ref _)) _ _ _); k_dflt (refine strs_eq (by is_list) (by is_list) (by first | k_asm | exact StrsAre.nil) (by first | exact StrsAre.nil | k_asm) (by ke_room) ?_)) | (k_here; (with_reducible show wpAny _ _ (call (Value.builtin _) [Value.ref _, Value.int 0 _]) _ _ _); k_dflt (refine pop_first (by k_asm) (by k_asm) (by k_upd) (by (rw [sizeLine_eq]; (try have hL9 := PyProof.Rows.StrsAre.length (by assumption)); (try simp only [List.length_cons] at *); omega)) ?_; k_whole); intro h9 F9 N9; (try k_sweep)) | (k_here; (with_reducible show wpAny _ _ (call (Value.builtin "len") [Value.str _ _]) _ _ _); refine len_str (by omega) ?_) | (k_here; (with_reducible show wpAny _ _ (call (Value.builtin "len") [Value.ref _]) _ _ _); k_dflt (refine len_strsA (by is_list) (by assumption) (by ((try simp only [List.length_map]); omega)) ?_; k_whole); (try simp only [List.length_map])) | walk1 | (dsimp only; walk1) | (dsimp only; k_unfold; (try dsimp only)) | fail "no step"))
    refine Back.mk' ⟨tn, c2, ⟨_, rfl⟩, rfl⟩ (by assumption) (by assumption) ?_ lex_same
    (repeat (first | exact List.forall_mem_nil _ | refine List.forall_mem_cons.mpr ⟨by k_mem, ?_⟩))
  | cons y t' hcs =>
    obtain ⟨c2, rfl, rfl⟩ := hp
    (repeat' (first |  (k_unfold; (try dsimp only)) | (k_here; (with_reducible show wpAny _ _ (eval (Expr.Name _ _) (compEnv _ _ _)) _ _ _); k_dflt (first | (refine name_locS rfl rfl rfl (by decide) (by with_reducible assumption) (by assumption) ?_; k_whole) | (refine nameG_BS rfl rfl rfl rfl (by decide) (by k_asm) (by k_asm) (by k_asm) (by k_is) (by boot_fast) (by decide) ?_; k_whole))) | (k_here; (with_reducible show wpAny _ _ (call (Value.type _) [Value.str _ _]) _ _ _); k_dflt (refine list_strN rfl (by k_asm) (by k_asm) ?_ (by rw [sizeLine_eq]; omega)); intro D9 ys9 c9 h9 tk9 F9 N9 l9 m9 hS9; (try k_lt l9); (try k_sweep)) | (k_here; (with_reducible show wpAny _ _ (compareOp CmpOp.NotEq (Value.ref _) (Value.ref _)) _ _ _); k_dflt (first | refine strs_ne_nil (by is_list) (by is_list) (by ke_room) ?_ | refine strs_ne_cons (by is_list) (by is_list) (by k_asm) (by ke_room) ?_ | refine strs_ne (by is_list) (by is_list) (by first | k_asm | exact StrsAre.nil) (by first | exact StrsAre.nil | k_asm) (by ke_room) ?_)) | (k_here; (with_reducible show wpAny _ _ (compareOp CmpOp.Eq (Value.ref _) (Value.ref _)) _ _ _); k_dflt (refine strs_eq (by is_list) (by is_list) (by first | k_asm | exact StrsAre.nil) (by first | exact StrsAre.nil | k_asm) (by ke_room) ?_)) | (k_here; (with_reducible show wpAny _ _ (call (Value.builtin _) [Value.ref _, Value.int 0 _]) _ _ _); k_dflt (refine pop_first (by k_asm) (by k_asm) (by k_upd) (by (rw [sizeLine_eq]; (try have hL9 := PyProof.Rows.StrsAre.length (by assumption)); (try simp only [List.length_cons] at *); omega)) ?_; k_whole); intro h9 F9 N9; (try k_sweep)) | (k_here; (with_reducible show wpAny _ _ (call (Value.builtin "len") [Value.str _ _]) _ _ _); refine len_str (by omega) ?_) | (k_here; (with_reducible show wpAny _ _ (call (Value.builtin "len") [Value.ref _]) _ _ _); k_dflt (refine len_strsA (by is_list) (by assumption) (by ((try simp only [List.length_map]); omega)) ?_; k_whole); (try simp only [List.length_map])) | walk1 | (dsimp only; walk1) | (dsimp only; k_unfold; (try dsimp only)) | fail "no step"))
    · with_reducible rename (y == _) = true => hy
      have e : (if y = Str.ofString "\n" then (1 : Int) else 0) = 1 := if_pos (eq_of_beq hy)
      refine Back.mk' (W' := LexW w a q cq (n + 1) ?tn _ c2) ⟨?tn, c2, rfl, by rw [e]⟩ (by assumption) (by assumption) ?sub ?fre
      case sub => (repeat (first | exact List.forall_mem_nil _ | refine List.forall_mem_cons.mpr ⟨by k_mem, ?_⟩))
      case fre => exact lex_same
    · with_reducible rename (y == _) = false => hy
      have e : (if y = Str.ofString "\n" then (1 : Int) else 0) = 0 := if_neg fun h => by rw [h, beq_self_eq_true] at hy; cases hy
      refine Back.mk' (W' := LexW w a q cq n tn _ c2) ⟨tn, c2, rfl, by rw [e, Int.add_zero]⟩ (by assumption) (by assumption) ?_ lex_same
      (repeat (first | exact List.forall_mem_nil _ | refine List.forall_mem_cons.mpr ⟨by k_mem, ?_⟩))

end
section
abbrev citObj (q z ended : Value) : Obj := { cls := .type "callable_iterator", data := .fields #[q, z, ended] }
theorem lookup_method_call : typeLookup (.type "method") "__call__" = pure (some (.builtin "method.__call__")) := by rw [typeLookup_type, builtinLookup_eq_fast]; kernel_rfl
theorem slot_cit_next : Slot "callable_iterator" "__next__" "callable_iterator.__next__" :=
  .of (owner := "callable_iterator") (n := "__next__") (by rw [typeLookup_type, builtinLookup_eq_fast]; kernel_rfl) (by decide +kernel) (by decide +kernel) (by decide +kernel)
    (by first | exact .inl (by decide +kernel) | exact .inr (by decide +kernel)) (by rw [isSubtype_type]; kernel_rfl)
theorem entry_cit_next : entryFor table "callable_iterator.__next__" = some Builtin.«callable_iterator.__next__» := entryFor_of_fast (by kernel_rfl)
theorem args_cit_next (a : Value) : argsOk "callable_iterator.__next__" ⟨[a], []⟩ := by unfold argsOk; kernel_rfl
theorem entry_iter2 : entryFor table "iter" = some Builtin.«iter» := entryFor_of_fast (by kernel_rfl)
theorem args_iter2 (a b : Value) : argsOk "iter" ⟨[a, b], []⟩ := by unfold argsOk; kernel_rfl
section
variable {prog : Program} {w : World} {A : Around} {E : Value → Shared → Prop} {s : Shared}
theorem iter_two {q : Addr} {f self z : Value} {h₀ : Heap} {L : Addr} {m : Str → Option Value} {news : List (Addr × Obj)} {Q : Value → Shared → Prop} (F : Fr h₀ L s.heap m) (N : News h₀ L s.heap news) (hq : (q, methodObj f self) ∈ news)
    (h : ∀ it h', Fr h₀ L h' m → News h₀ L h' ((it, citObj (.ref q) z (.bool false)) :: news) → (∀ p ∈ news, p.1 < it) → L < it → Q (.ref it) { s with heap := h' }) :
    wpAny (model prog w) A (call (.builtin "iter") [.ref q, z]) Q E s := by
  refine Calls.call_function_entry (by decide +kernel) (by decide +kernel) entry_iter2 (args_iter2 _ _) ?_
  unfold Builtin.«iter»
  refine wpAny_bind (wpAny_of_eq (a := [.ref q, z]) rfl ?_)
  dsimp only
  refine wpAny_bind (wpAny_specialOf ⟨_, N.get hq, rfl⟩ lookup_method_call ?_)
  refine wpAny_bind (wpAny_rule ?_)
  unfold newFields
  exact wpAny_bind (wpAny_newObj_type (wpAny_pure ⟨_, rfl, h _ _ (F.push _) (N.push F _) (fun p hp => Heap.lt_size (N p hp).1) F.ns.lt⟩) (by size_fits))

theorem wpAny_callBorrowed {f : Value} {pos : List Value} {M : Model} {Q : Value → Shared → Prop} (h : wpAny M A (call f pos) Q E s) : wpAny M A (callBorrowed f pos) Q E s := by
  intro Γ p hΓ
  have h1 := h Γ p hΓ
  unfold call at h1
  rw [Sem.wp_runValue] at h1
  unfold callBorrowed
  rw [Sem.wp_call]
  refine wpCode_mono (fun r s' h2 => ?_) h1
  cases r with
  | error e => exact h2
  | ok fl => cases fl <;> exact h2

theorem stop_iter {α : Type} {M : Model} {Q : α → Shared → Prop} (hh : A.handled = none) (h : ∀ h' e, (∀ b o, s.heap.get? b = some o → h'.get? b = some o) → (∃ o, h'.get? e = some o ∧ o.cls = .type "StopIteration") → E (.ref e) { s with heap := h' }) :
    wpAny M A (Builtin.SmallTypes.stopIteration : Sem α) Q E s := by
  unfold Builtin.SmallTypes.stopIteration
  refine wpAny_bind ?_
  simp only [newExc, newTuple]
  refine wpAny_bind (wpAny_newObj_type ?_ (by size_fits))
  refine wpAny_bind (m := firstArgMember _ _) (wpAny_of_eq (a := Value.none) (by first | rfl | (simp only [firstArgMember]; rfl)) ?_)
  refine wpAny_newObj_type ?_ (by size_fits)
  refine wpAny_raiseNew_none hh ?_
  exact h _ _ (fun b o e => Heap.get?_push_of_some _ (Heap.get?_push_of_some _ e)) ⟨_, Heap.get?_push_size _ rfl, rfl⟩

theorem cit_borrows {q f : Addr} {self : Value} {fo : Obj} {fd : FuncData} {M : Model} {Q : Bool → Shared → Prop} (hq : s.heap.get? q = some (methodObj (.ref f) self)) (hf : s.heap.get? f = some fo) (hfd : fo.data = .func fd) (h : Q true s) :
    wpAny M A (borrowsExactly (.ref q)) Q E s := by
  unfold borrowsExactly
  dsimp only
  refine wpAny_bind (wpAny_load hq ?_)
  dsimp only
  show wpAny M A (do match (← load f).data with | .func _ => pure true | _ => pure false) Q E s
  refine wpAny_bind (wpAny_load hf ?_)
  rw [hfd]
  exact wpAny_pure h

end
section
variable {prog : Program} {w : World} {A : Around} {E : Value → Shared → Prop} {s : Shared}
theorem cit_end {M : Model} {it q f : Addr} {self z : Value} {fo : Obj} {fd : FuncData} {busy : Code → Bool} {Q : Unit → Shared → Prop} (ho : s.heap.get? it = some (citObj (.ref q) z (.bool false))) (hq : s.heap.get? q = some (methodObj (.ref f) self)) (hf : s.heap.get? f = some fo) (hfd : fo.data = .func fd)
    (h : ∀ h', (∀ b o, b ≠ it → s.heap.get? b = some o → h'.get? b = some o) → h'.get? it = some (citObj .none .none (.bool true)) → Q () { s with heap := h' }) :
    wpAny M A (do slotLetsGo "callable_iterator.__next__" (← field (.ref it) 0) busy; setField (.ref it) 0 .none; setField (.ref it) 1 .none; setField (.ref it) 2 (.bool true)) Q E s := by
  refine wpAny_bind (wpAny_field ho rfl (x := .ref q) rfl ?_)
  refine wpAny_bind ?_
  unfold slotLetsGo
  dsimp only
  refine wpAny_bind (cit_borrows hq hf hfd ?_)
  rw [if_pos rfl]
  refine wpAny_pure ?_
  refine wpAny_bind (wpAny_setField ho rfl (by show 0 < 3; decide) ?_)
  have e1 : (s.heap.update it (Obj.mapFields (·.setIfInBounds 0 .none))).get? it = some (citObj .none z (.bool false)) := by rw [Heap.get?_update_self _ ho rfl]; rfl
  refine wpAny_bind (wpAny_setField e1 rfl (by show 1 < 3; decide) ?_)
  have e2 : ((s.heap.update it (Obj.mapFields (·.setIfInBounds 0 .none))).update it (Obj.mapFields (·.setIfInBounds 1 .none))).get? it = some (citObj .none .none (.bool false)) := by rw [Heap.get?_update_self _ e1 rfl]; rfl
  refine wpAny_setField e2 rfl (by show 2 < 3; decide) ?_
  refine h _ (fun b o hb e => ?_) (by rw [Heap.get?_update_self _ e2 rfl]; rfl)
  rw [Heap.get?_update_ne _ _ _ _ hb, Heap.get?_update_ne _ _ _ _ hb, Heap.get?_update_ne _ _ _ _ hb]
  exact e

theorem cit_next {it q f : Addr} {self : Value} {z : Str} {tz : Tok} {fo : Obj} {fd : FuncData} {Q : Option Value → Shared → Prop} (hh : A.handled = none) (ho : s.heap.get? it = some (citObj (.ref q) (.str z tz) (.bool false))) (hq : s.heap.get? q = some (methodObj (.ref f) self)) (hf : s.heap.get? f = some fo) (hfd : fo.data = .func fd)
    (hc : wpAny (model prog w) A.in1 (call (.ref q) []) (fun r s₁ => ∃ y t, r = .str y t ∧ s₁.heap.get? it = some (citObj (.ref q) (.str z tz) (.bool false)) ∧ s₁.heap.get? q = some (methodObj (.ref f) self) ∧ s₁.heap.get? f = some fo ∧
      (y = z → ∀ h', (∀ b o, b ≠ it → s₁.heap.get? b = some o → h'.get? b = some o) → h'.get? it = some (citObj .none .none (.bool true)) → Q none { s₁ with heap := h' }) ∧ (y ≠ z → Q (some r) s₁)) (fun _ _ => False) s) :
    wpAny (model prog w) A (pyNext (.ref it)) Q E s := by
  have hT : s.TypeIs (.ref it) "callable_iterator" := ⟨_, ho, rfl⟩
  unfold pyNext
  refine wpAny_bind (wpAny_attempt (wpAny_callSpecial?_slot (name := Str.ofString "__next__") hT slot_cit_next
    (wpAny_call_entry slot_cit_next hT entry_cit_next ?_ (args_cit_next _))))
  unfold Builtin.«callable_iterator.__next__»
  refine wpAny_bind (wpAny_of_eq (a := (.ref it, [])) rfl ?_)
  dsimp only
  refine wpAny_bind (wpAny_field ho rfl (x := .bool false) rfl ?_)
  show wpAny _ _ (if (Value.bool false == Value.bool true) = true then _ else _) _ _ s
  rw [if_neg (show ¬ (Value.bool false == Value.bool true) = true from Bool.false_ne_true)]
  refine wpAny_bind (wpAny_field ho rfl (x := .ref q) rfl ?_)
  refine wpAny_bind (wpAny_attempt ?_)
  unfold callOutOfASlot
  refine wpAny_bind (cit_borrows hq hf hfd ?_)
  rw [if_pos rfl]
  refine wpAny_callBorrowed (wpAny_mono hc (fun r s₁ hr => ?_) fun _ _ x => x.elim)
  obtain ⟨y, t, rfl, ho1, hq1, hf1, hz, hnz⟩ := hr
  dsimp only
  refine wpAny_bind (wpAny_field ho1 rfl (x := .bool false) rfl ?_)
  show wpAny _ _ (if (Value.bool false == Value.bool true) = true then _ else _) _ _ s₁
  rw [if_neg (show ¬ (Value.bool false == Value.bool true) = true from Bool.false_ne_true)]
  refine wpAny_bind (wpAny_field ho1 rfl (x := .str z tz) rfl ?_)
  refine wpAny_bind (wpAny_holding (SeqAt.EqAt.str_str _ _ _ _ prog w _ _ ?_))
  by_cases e : y = z
  · rw [show (z == y) = true from by rw [e]; exact beq_self_eq_true _]
    show wpAny _ _ (if (!true) = true then _ else _) _ _ s₁
    rw [if_neg (show ¬ (!true) = true from Bool.false_ne_true)]
    refine wpAny_bind (wpAny_rule ?_)
    refine wpAny_bind (cit_end ho1 hq1 hf1 hfd fun h' hk hit => ?_)
    refine stop_iter hh fun h2 e2 hk2 hT' => ?_
    refine wpAny_bind (wpAny_isInstance (T := "StopIteration") (b := true) hT' isSubtype_stop ?_)
    exact wpAny_pure (hz e h2 (fun b o hb eb => hk2 b o (hk b o hb eb)) (hk2 _ _ hit))
  · rw [show (z == y) = false from by rw [Bool.eq_false_iff]; intro h; exact e (eq_of_beq h).symm]
    show wpAny _ _ (if (!false) = true then _ else _) _ _ s₁
    rw [if_pos (show (!false) = true from rfl)]
    exact wpAny_bind (wpAny_pure (wpAny_pure ⟨_, rfl, wpAny_pure (hnz e)⟩))
end

end
section
theorem slot_cit_iter : Slot "callable_iterator" "__iter__" "callable_iterator.__iter__" :=
  .of (owner := "callable_iterator") (n := "__iter__") (by rw [typeLookup_type, builtinLookup_eq_fast]; kernel_rfl) (by decide +kernel) (by decide +kernel) (by decide +kernel)
    (by first | exact .inl (by decide +kernel) | exact .inr (by decide +kernel)) (by rw [isSubtype_type]; kernel_rfl)
theorem entry_cit_iter : entryFor table "callable_iterator.__iter__" = some Builtin.«dict_keyiterator.__iter__» :=
  entryFor_alias (id' := "dict_keyiterator.__iter__") (by kernel_rfl) rfl (by decide +kernel) (by kernel_rfl)
theorem args_cit_iter (a : Value) : argsOk "callable_iterator.__iter__" ⟨[a], []⟩ := by unfold argsOk; kernel_rfl
theorem cit_iter {prog : Program} {w : World} {A : Around} {E : Value → Shared → Prop} {s : Shared} {it : Addr} {a b c : Value} {Q : Value → Shared → Prop} (ho : s.heap.get? it = some (citObj a b c)) (h : Q (.ref it) s) : wpAny (model prog w) A (pyIter (.ref it)) Q E s := by
  have hT : s.TypeIs (.ref it) "callable_iterator" := ⟨_, ho, rfl⟩
  refine wpAny_pyIter_slot hT slot_cit_iter (wpAny_call_entry slot_cit_iter hT entry_cit_iter ?_ (args_cit_iter _))
  show wpAny _ _ (ret (.ref it)) _ _ s
  exact wpAny_pure ⟨_, rfl, "callable_iterator", _, hT, slot_cit_next.lookup, h⟩

theorem fr_but {g h h2 : Heap} {L it : Addr} {m : Str → Option Value} (F : Fr g L h m) (hk : ∀ b o, b ≠ it → h.get? b = some o → h2.get? b = some o) (h1 : it ≠ L) (h0 : g.get? it = none) : Fr g L h2 m :=
  ⟨F.ns.at' fun o e => hk _ o (Ne.symm h1) e, fun b o e => hk b o (fun q => by rw [q, h0] at e; cases e) (F.keep b o e), F.above⟩
abbrev ItW (a : LexAt) (it q : Addr) (tz : Tok) : List (Addr × Obj) := [(it, citObj (.ref q) (.str (Str.ofString "") tz) (.bool false)), (q, methodObj (.ref 35) (.ref a.lx))]
theorem read_next {w : World} {a : LexAt} (ok : LexOk w a) {cq : Nat} {n : Int} {tn : Tok} {cs : List Value} {us : List Str} {cc : Nat} (hcs : StrsAre cs us) (hlen : us.length ≤ 1000) {it q : Nat} {tz : Tok}
    {loose : List Str} {mean : ExcName → Option Value} {mg mb : Str → Option Value} {dp un : Nat} {gd : Option (List Code)} {cn : Str} {csc : Scope} {fa : Addr} {ccd : Value} {cl : List (Str × Addr)} {outer : List Env} {A₀ : Around} {base g : Heap} {L : Addr} {m : Str → Option Value} {s : Shared} {Q : Option Value → Shared → Prop} {E : Value → Shared → Prop}
    (B : Below A₀ base outer g) (F : Fr g L s.heap m) (X : (Mine.hd.heap_39 w.params).In g) (N : News g L s.heap (ItW a it q tz ++ LexW w a [] cq n tn cs cc)) (T : Top topProg loose mean mg mb g) (hk : csc.kind = .function) (hd : dp + 4 < recursionLimit) (hu : un + 104 < cLine)
    (ho : a.pb < q ∧ q < it)
    (hnil : us = [] → ∀ h' tk tn' cc', Fr g L h' m → News g L h' ((it, citObj .none .none (.bool true)) :: LexW w a [] cq n tn' [] cc') → Q none { s with heap := h', toks := tk })
    (hcons : ∀ y r, us = y :: r → y ≠ Str.ofString "" ∧ ∀ t cs' h' tk tn' cc', StrsAre cs' r → Fr g L h' m → News g L h' (ItW a it q tz ++ LexW w a [] cq (n + if y = "\n" then 1 else 0) tn' cs' cc') → Q (some (.str y t)) { s with heap := h', toks := tk }) :
    wpAny (model PySem.Challenge.rw_sc0030_02.row.prog w) (ktrTop dp un gd cn csc L fa ccd cl outer) (pyNext (.ref it)) Q E s := by
  have hit := (N (it, citObj (.ref q) (.str (Str.ofString "") tz) (.bool false)) (.head _)).1
  have hq := (N (q, methodObj (.ref 35) (.ref a.lx)) (.tail _ (.head _))).1
  obtain ⟨fo, fd, hfo, hfd⟩ : ∃ fo fd, (Mine.hd.heap_39 w.params).lookup 35 = some fo ∧ fo.data = .func fd := ⟨_, _, rfl, rfl⟩
  have hf := (X.keeps F.keep) _ _ hfo
  obtain ⟨⟨o1, o2, o3, o4, o5, o6, o7, o8, o9⟩, hR⟩ := id ok
  refine cit_next rfl hit hq hf hfd (wpAny_call (method_call hq ?_))
  have hdis : ∀ p ∈ LexW w a [] cq n tn cs cc, ∀ r ∈ ItW a it q tz, p.1 ≠ r.1 := by ((refine lex_dis (by assumption) ?_; repeat (first | exact List.forall_mem_nil _ | refine List.forall_mem_cons.mpr ⟨by first | (left; (try dsimp only); with_reducible assumption) | (right; (try dsimp only); with_reducible assumption) | (left; (try dsimp only); omega) | (right; (try dsimp only); omega), ?_⟩)))
  have hdis2 : ∀ tn' cc', ∀ p ∈ LexW w a [] cq n tn' [] cc', p.1 ≠ it := fun tn' cc' p hp e => Nat.lt_irrefl _ (Nat.lt_of_le_of_lt (Nat.le_trans (Nat.le_of_eq e.symm) (lex_in ok p hp).2) (Nat.lt_trans ho.1 ho.2))
  refine read_spec w a ok [] cq n tn cs us cc hcs hlen (ItW a it q tz) loose mean mg mb dp (un + 1) gd cn csc fa ccd cl outer A₀ base g L m s _ _ B F X (fun p hp => N p (by
    rcases List.mem_append.mp hp with h | h
    · exact List.mem_append_right _ h
    · exact List.mem_append_left _ h)) ?_ T hk hd (by omega) ?_
  · ((refine lex_dis (by assumption) ?_; repeat (first | exact List.forall_mem_nil _ | refine List.forall_mem_cons.mpr ⟨by first | (left; (try dsimp only); with_reducible assumption) | (right; (try dsimp only); with_reducible assumption) | (left; (try dsimp only); omega) | (right; (try dsimp only); omega), ?_⟩)))
  intro r W' h' tk' hp F' N' _
  obtain ⟨tn', cc', hp⟩ := hp
  cases hcs with
  | nil =>
    obtain ⟨⟨t, rfl⟩, rfl⟩ := hp
    have g1 := N' (it, citObj (.ref q) (.str (Str.ofString "") tz) (.bool false)) (List.mem_append_right _ (.head _))
    have g2 := N' (q, methodObj (.ref 35) (.ref a.lx)) (List.mem_append_right _ (.tail _ (.head _)))
    refine ⟨_, t, rfl, g1.1, g2.1, F'.keep _ _ (X _ _ hfo), fun _ h2 hk2 hit2 => ?_, fun hn => absurd rfl hn⟩
    refine hnil rfl h2 tk' tn' cc' (fr_but F' hk2 g1.2.1 g1.2.2) fun p hp => ?_
    rcases List.mem_cons.mp hp with rfl | hp
    · exact ⟨hit2, g1.2.1, g1.2.2⟩
    · have z := N' p (List.mem_append_left _ hp)
      exact ⟨hk2 _ _ (hdis2 tn' cc' p hp) z.1, z.2⟩
  | cons y t hr =>
    obtain ⟨rfl, rfl⟩ := hp
    have g1 := N' (it, citObj (.ref q) (.str (Str.ofString "") tz) (.bool false)) (List.mem_append_right _ (.head _))
    have g2 := N' (q, methodObj (.ref 35) (.ref a.lx)) (List.mem_append_right _ (.tail _ (.head _)))
    obtain ⟨hne, hc⟩ := hcons _ _ rfl
    refine ⟨y, t, rfl, g1.1, g2.1, F'.keep _ _ (X _ _ hfo), fun h => absurd h hne, fun _ => ?_⟩
    exact hc _ _ _ _ tn' cc' hr F' fun p hp => N' p (by
      rcases List.mem_append.mp hp with h | h
      · exact List.mem_append_right _ h
      · exact List.mem_append_left _ h)
def nlOf (y : Str) : Int := if y = Str.ofString "\n" then 1 else 0
abbrev tokFr (a : LexAt) (it : Addr) (chv : Option Value) (tok : Str) (tt : Tok) : Str → Option Value := fun y => if y = Str.ofString "ch" then chv else if y = Str.ofString "token" then some (.str tok tt) else if y = Str.ofString "fiter" then some (.ref it) else if y = Str.ofString "self" then some (.ref a.lx) else none
theorem tk_c {g h : Heap} {L : Addr} {a : LexAt} {it : Addr} {c0 : Option Value} {tok : Str} {tt : Tok} {v : Value} (F : Fr g L h (fun y => if y = Str.ofString "ch" then some v else tokFr a it c0 tok tt y)) : Fr g L h (tokFr a it (some v) tok tt) := fr_to F fun y => by
  by_cases h1 : y = Str.ofString "ch"
  · subst h1; kernel_rfl
  · simp only [tokFr, if_neg h1]
theorem tk_t {g h : Heap} {L : Addr} {a : LexAt} {it : Addr} {c0 : Option Value} {tok t2 : Str} {tt u2 : Tok} (F : Fr g L h (fun y => if y = Str.ofString "token" then some (.str t2 u2) else tokFr a it c0 tok tt y)) : Fr g L h (tokFr a it c0 t2 u2) := fr_to F fun y => by
  by_cases h1 : y = Str.ofString "token"
  · subst h1; kernel_rfl
  · simp only [tokFr, if_neg h1]
local macro_rules | `(tactic| walk_at "exec For Name Name cons nil") => `(tactic| refine hold_in ?_)
local macro_rules | `(tactic| walk_at "call ref") => `(tactic| ((with_reducible show wpAny _ _ (call (Value.ref 35) _) _ _ _); refine hold_in ?_))
def notWs (y : Str) : Bool := (Builtin.Str.occurrences (Str.ofString "\n\t\r ") y 0 (Str.ofString "\n\t\r ").length 1).isEmpty
abbrev QT : Str := Str.ofString "\""
abbrev BS : Str := Str.ofString "\\"
def run3 : Str → Int → List Str → Option (Str × Int × List Str)
  | _, _, [] => none
  | tok, n, [y] => if notWs y = false then some (tok, n + nlOf y, []) else none
  | tok, n, y :: e :: r => if notWs y = false then some (tok, n + nlOf y, e :: r) else if (y == BS) = true then run3 (tok ++ e) (n + nlOf y + nlOf e) r else run3 (tok ++ y) (n + nlOf y) (e :: r)
def run2 : Str → Int → List Str → Option (Str × Int × List Str)
  | _, _, [] => none
  | tok, n, [y] => if (y == QT) = true then some (tok, n + nlOf y, []) else none
  | tok, n, y :: e :: r => if (y == QT) = true then some (tok, n + nlOf y, e :: r) else if (y == BS) = true then run2 (tok ++ e) (n + nlOf y + nlOf e) r else run2 (tok ++ y) (n + nlOf y) (e :: r)
def run1 : Int → List Str → Option (Str × Int × List Str)
  | n, [] => some (Str.ofString "", n, [])
  | n, y :: r => if notWs y = false then run1 (n + nlOf y) r else if (y == QT) = true then run2 (Str.ofString "") (n + nlOf y) r else if (y == BS) = true then (match r with | [] => none | e :: r' => run3 (Str.ofString "" ++ e) (n + nlOf y + nlOf e) r') else run3 (Str.ofString "" ++ y) (n + nlOf y) r
theorem run3_ws {tok : Str} {n : Int} {y : Str} {r : List Str} (h : notWs y = false) : run3 tok n (y :: r) = some (tok, n + nlOf y, r) := by cases r <;> simp [run3, h]
theorem run3_bs {tok : Str} {n : Int} {y : Str} {r : List Str} {res} (h : notWs y = true) (hb : (y == BS) = true) (hr : run3 tok n (y :: r) = some res) : ∃ e r', r = e :: r' ∧ run3 (tok ++ e) (n + nlOf y + nlOf e) r' = some res := by
  cases r with
  | nil => simp [run3, h] at hr
  | cons e r' => exact ⟨e, r', rfl, by rw [run3, if_neg (by rw [h]; exact Bool.noConfusion), if_pos hb] at hr; exact hr⟩
theorem run3_add {tok : Str} {n : Int} {y : Str} {r : List Str} {res} (h : notWs y = true) (hb : (y == BS) = false) (hr : run3 tok n (y :: r) = some res) : run3 (tok ++ y) (n + nlOf y) r = some res := by
  cases r with
  | nil => simp [run3, h] at hr
  | cons e r' => rw [run3, if_neg (by rw [h]; exact Bool.noConfusion), if_neg (by rw [hb]; exact Bool.noConfusion)] at hr; exact hr
theorem run2_qt {tok : Str} {n : Int} {y : Str} {r : List Str} (h : (y == QT) = true) : run2 tok n (y :: r) = some (tok, n + nlOf y, r) := by cases r <;> simp only [run2, if_pos h]
theorem run2_bs {tok : Str} {n : Int} {y : Str} {r : List Str} {res} (h : (y == QT) = false) (hb : (y == BS) = true) (hr : run2 tok n (y :: r) = some res) : ∃ e r', r = e :: r' ∧ run2 (tok ++ e) (n + nlOf y + nlOf e) r' = some res := by
  cases r with
  | nil => rw [run2, if_neg (by rw [h]; exact Bool.noConfusion)] at hr; cases hr
  | cons e r' => exact ⟨e, r', rfl, by rw [run2, if_neg (by rw [h]; exact Bool.noConfusion), if_pos hb] at hr; exact hr⟩
theorem run2_add {tok : Str} {n : Int} {y : Str} {r : List Str} {res} (h : (y == QT) = false) (hb : (y == BS) = false) (hr : run2 tok n (y :: r) = some res) : run2 (tok ++ y) (n + nlOf y) r = some res := by
  cases r with
  | nil => rw [run2, if_neg (by rw [h]; exact Bool.noConfusion)] at hr; cases hr
  | cons e r' => rw [run2, if_neg (by rw [h]; exact Bool.noConfusion), if_neg (by rw [hb]; exact Bool.noConfusion)] at hr; exact hr
theorem run1_ws {n : Int} {y : Str} {r : List Str} {res} (h : notWs y = false) (hr : run1 n (y :: r) = some res) : run1 (n + nlOf y) r = some res := by unfold run1 at hr; rw [if_pos h] at hr; exact hr
theorem run1_qt {n : Int} {y : Str} {r : List Str} {res} (h : notWs y = true) (hq : (y == QT) = true) (hr : run1 n (y :: r) = some res) : run2 (Str.ofString "") (n + nlOf y) r = some res := by
  unfold run1 at hr
  rw [if_neg (by rw [h]; exact Bool.noConfusion), if_pos hq] at hr; exact hr
theorem run1_bs {n : Int} {y : Str} {r : List Str} {res} (h : notWs y = true) (hq : (y == QT) = false) (hb : (y == BS) = true) (hr : run1 n (y :: r) = some res) : ∃ e r', r = e :: r' ∧ run3 (Str.ofString "" ++ e) (n + nlOf y + nlOf e) r' = some res := by
  unfold run1 at hr
  rw [if_neg (by rw [h]; exact Bool.noConfusion), if_neg (by rw [hq]; exact Bool.noConfusion), if_pos hb] at hr
  cases r with
  | nil => cases hr
  | cons e r' => exact ⟨e, r', rfl, hr⟩
theorem run1_add {n : Int} {y : Str} {r : List Str} {res} (h : notWs y = true) (hq : (y == QT) = false) (hb : (y == BS) = false) (hr : run1 n (y :: r) = some res) : run3 (Str.ofString "" ++ y) (n + nlOf y) r = some res := by
  unfold run1 at hr
  rw [if_neg (by rw [h]; exact Bool.noConfusion), if_neg (by rw [hq]; exact Bool.noConfusion), if_neg (by rw [hb]; exact Bool.noConfusion)] at hr; exact hr
/-- the sign that a backslash stands for, or the sign itself -/
def eat (y : Str) (us : List Str) : Option (Str × Int × List Str) := if (y == BS) = true then (match us with | [] => none | e :: r => some (e, nlOf e, r)) else some (y, 0, us)
theorem run3_eat {tok : Str} {n : Int} {y : Str} {r : List Str} {res} (h : notWs y = true) (hr : run3 tok n (y :: r) = some res) : ∃ c k r2, eat y r = some (c, k, r2) ∧ run3 (tok ++ c) (n + nlOf y + k) r2 = some res := by
  cases hb : (y == BS) with
  | true =>
    obtain ⟨e, r', rfl, hr'⟩ := run3_bs h hb hr
    exact ⟨e, nlOf e, r', by unfold eat; rw [if_pos hb], hr'⟩
  | false =>
    have hy : nlOf y = nlOf y + 0 := (Int.add_zero _).symm
    exact ⟨y, 0, r, by unfold eat; rw [if_neg (by rw [hb]; exact Bool.noConfusion)], by rw [Int.add_zero]; exact run3_add h hb hr⟩
theorem run2_eat {tok : Str} {n : Int} {y : Str} {r : List Str} {res} (h : (y == QT) = false) (hr : run2 tok n (y :: r) = some res) : ∃ c k r2, eat y r = some (c, k, r2) ∧ run2 (tok ++ c) (n + nlOf y + k) r2 = some res := by
  cases hb : (y == BS) with
  | true =>
    obtain ⟨e, r', rfl, hr'⟩ := run2_bs h hb hr
    exact ⟨e, nlOf e, r', by unfold eat; rw [if_pos hb], hr'⟩
  | false => exact ⟨y, 0, r, by unfold eat; rw [if_neg (by rw [hb]; exact Bool.noConfusion)], by rw [Int.add_zero]; exact run2_add h hb hr⟩
theorem run1_eat {n : Int} {y : Str} {r : List Str} {res} (h : notWs y = true) (hq : (y == QT) = false) (hr : run1 n (y :: r) = some res) : ∃ c k r2, eat y r = some (c, k, r2) ∧ run3 (Str.ofString "" ++ c) (n + nlOf y + k) r2 = some res := by
  cases hb : (y == BS) with
  | true =>
    obtain ⟨e, r', rfl, hr'⟩ := run1_bs h hq hb hr
    exact ⟨e, nlOf e, r', by unfold eat; rw [if_pos hb], hr'⟩
  | false => exact ⟨y, 0, r, by unfold eat; rw [if_neg (by rw [hb]; exact Bool.noConfusion)], by rw [Int.add_zero]; exact run1_add h hq hb hr⟩
theorem eat_ok {y c : Str} {us r : List Str} {k : Int} (h : eat y us = some (c, k, r)) (hy : y.length = 1) (ho : ∀ z ∈ us, z.length = 1) : c.length = 1 ∧ r.length ≤ us.length ∧ ∀ z ∈ r, z.length = 1 := by
  unfold eat at h
  by_cases hb : (y == BS) = true
  · rw [if_pos hb] at h
    cases us with
    | nil => cases h
    | cons e r' =>
      cases h
      exact ⟨ho _ (.head _), Nat.le_succ _, fun z hz => ho z (.tail _ hz)⟩
  · rw [if_neg hb] at h
    cases h
    exact ⟨hy, Nat.le_refl _, ho⟩
theorem eat_bs {y c : Str} {us r : List Str} {k : Int} (hb : (y == BS) = true) (h : eat y us = some (c, k, r)) : us = c :: r ∧ k = nlOf c := by
  unfold eat at h
  rw [if_pos hb] at h
  cases us with
  | nil => cases h
  | cons e r' => cases h; exact ⟨rfl, rfl⟩
theorem eat_no {y c : Str} {us r : List Str} {k : Int} (hb : (y == BS) = false) (h : eat y us = some (c, k, r)) : c = y ∧ k = 0 ∧ r = us := by
  unfold eat at h
  rw [if_neg (by rw [hb]; exact Bool.noConfusion)] at h
  cases h; exact ⟨rfl, rfl, rfl⟩
theorem tok_sz {t c : Str} {r r2 : Nat} (hc : c.length = 1) (h2 : r2 ≤ r) (h : t.length + (r + 1) ≤ 1000) : (t ++ c).length + r2 ≤ 1000 := by rw [Str.length_append, hc]; omega
theorem tok_sz2 {t c : Str} {r : Nat} (hc : c.length = 1) (h : t.length + (r + 1) ≤ 1000) : t.length + c.length ≤ sizeLine := by rw [hc, sizeLine_eq]; omega
theorem strs_cons {e : Str} {r : List Str} {vs : List Value} (h : StrsAre vs (e :: r)) : ∃ t vs', vs = .str e t :: vs' ∧ StrsAre vs' r := by cases h with | cons _ t h => exact ⟨t, _, rfl, h⟩
theorem swap_in {W rest : List (Addr × Obj)} : ∀ p ∈ W ++ rest, p ∈ rest ++ W := fun _ hp => List.mem_append.mpr (List.mem_append.mp hp).symm
set_option maxHeartbeats 8000000 in
theorem bs_step {w : World} {a : LexAt} (ok : LexOk w a) {p1 p2 p3 p4 p5 p6 p7 p8 p9 : Pos} {loose : List Str} {mean : ExcName → Option Value} {mg mb : Str → Option Value} {dp un : Nat} {gd : Option (List Code)} {fa : Addr} {ccd : Value} {outer : List Env} {A₀ : Around} {base g : Heap} {L it q : Nat} {tz tt ty : Tok} {tok y c : Str} {k n : Int} {us r : List Str} {cs : List Value} {cq : Nat} {tn : Tok} {cc : Nat} {s : Shared} {Q : Flow → Shared → Prop} {E : Value → Shared → Prop}
    (B : Below A₀ base outer g) (F : Fr g L s.heap (tokFr a it (some (.str y ty)) tok tt)) (X : (Mine.hd.heap_39 w.params).In g) (N : News g L s.heap (ItW a it q tz ++ LexW w a [] cq n tn cs cc)) (T : Top topProg loose mean mg mb g) (hd : dp + 4 < recursionLimit) (hu : un + 104 < cLine) (ho : a.pb < q ∧ q < it) (hcs : StrsAre cs us) (hlen : us.length ≤ 1000) (he : eat y us = some (c, k, r)) {pl : Sem Bool}
    (hpl : eval (.Call (.Attribute (.Name (Str.ofString "self") p5) (Str.ofString "_read_char") p6) [] [] p7) (envOf (Str.ofString "_netrclex.get_token") { kind := ScopeKind.function, names := [(Str.ofString "self", NameKind.local), (Str.ofString "token", NameKind.local), (Str.ofString "fiter", NameKind.local), (Str.ofString "ch", NameKind.local), (Str.ofString "iter", NameKind.globalImplicit)], isGenerator := false, isCoroutine := false } L fa ccd) = (do
      let ov ← eval (.Name (Str.ofString "self") p5) (envOf (Str.ofString "_netrclex.get_token") { kind := ScopeKind.function, names := [(Str.ofString "self", NameKind.local), (Str.ofString "token", NameKind.local), (Str.ofString "fiter", NameKind.local), (Str.ofString "ch", NameKind.local), (Str.ofString "iter", NameKind.globalImplicit)], isGenerator := false, isCoroutine := false } L fa ccd)
      standAt p6.atName
      let (f, first) ← holding [ov] (getMethod ov (Str.ofString "_read_char") pl)
      callWith p7 f first (backTo p7 (starEach [] (envOf (Str.ofString "_netrclex.get_token") { kind := ScopeKind.function, names := [(Str.ofString "self", NameKind.local), (Str.ofString "token", NameKind.local), (Str.ofString "fiter", NameKind.local), (Str.ofString "ch", NameKind.local), (Str.ofString "iter", NameKind.globalImplicit)], isGenerator := false, isCoroutine := false } L fa ccd))) []))
    (h : ∀ tc tn' cs' cc' h' tk', StrsAre cs' r → Fr g L h' (tokFr a it (some (.str c tc)) tok tt) → News g L h' (ItW a it q tz ++ LexW w a [] cq (n + k) tn' cs' cc') → Q .next { s with heap := h', toks := tk' }) :
    wpAny (model PySem.Challenge.rw_sc0030_02.row.prog w) (ktrTop dp un gd (Str.ofString "_netrclex.get_token") { kind := ScopeKind.function, names := [(Str.ofString "self", NameKind.local), (Str.ofString "token", NameKind.local), (Str.ofString "fiter", NameKind.local), (Str.ofString "ch", NameKind.local), (Str.ofString "iter", NameKind.globalImplicit)], isGenerator := false, isCoroutine := false } L fa ccd [] outer) (exec (.If (.Compare (.Name (Str.ofString "ch") p1) [.Eq] [.Constant (.str (Str.ofString "\\")) 0 p2] p3) [.Assign [.Name (Str.ofString "ch") p4] (.Call (.Attribute (.Name (Str.ofString "self") p5) (Str.ofString "_read_char") p6) [] [] p7) p8] [] p9) (envOf (Str.ofString "_netrclex.get_token") { kind := ScopeKind.function, names := [(Str.ofString "self", NameKind.local), (Str.ofString "token", NameKind.local), (Str.ofString "fiter", NameKind.local), (Str.ofString "ch", NameKind.local), (Str.ofString "iter", NameKind.globalImplicit)], isGenerator := false, isCoroutine := false } L fa ccd)) Q E s := by
  revert X
  k_fill
  intro X
  have kM := kstMark
  have hC9 := codeHd_of_K (c := 76) (P := 72) X (by kernel_rfl)
  k_with_none
  refine wpAny_If ?_
  (repeat' (first |  (k_unfold; (try dsimp only)) | ((with_reducible show wpAny _ _ (eval (Expr.Call (Expr.Attribute _ (Str.ofString "_read_char") _) _ _ _) _) _ _ _); refine MethodCall_ ?_ (by with_reducible assumption)) | ((with_reducible show wpAny _ _ (inplaceOp Operator.Add (Value.str _ _) (Value.str _ _)) _ _ _); refine SBL.iadd (hsz := by assumption) ?_; intro _ _ _) | ((with_reducible show wpAny _ _ (exec (Stmt.If (Expr.Compare _ [CmpOp.Eq] _ _) [Stmt.Assign _ _ _] [] _) _) _ _ _); refine hold_in ?_) | (k_here; (with_reducible show wpAny _ _ (eval (Expr.Name _ _) (compEnv _ _ _)) _ _ _); k_dflt (first | (refine name_locS rfl rfl rfl (by decide) (by with_reducible assumption) (by assumption) ?_; k_whole) | (refine nameG_BS rfl rfl rfl rfl (by decide) (by k_asm) (by k_asm) (by k_asm) (by k_is) (by boot_fast) (by decide) ?_; k_whole))) | (k_here; (with_reducible show wpAny _ _ (call (Value.type _) [Value.str _ _]) _ _ _); k_dflt (refine list_strN rfl (by k_asm) (by k_asm) ?_ (by rw [sizeLine_eq]; omega)); intro D9 ys9 c9 h9 tk9 F9 N9 l9 m9 hS9; (try k_lt l9); (try k_sweep)) | (k_here; (with_reducible show wpAny _ _ (compareOp CmpOp.NotEq (Value.ref _) (Value.ref _)) _ _ _); k_dflt (first | refine strs_ne_nil (by is_list) (by is_list) (by ke_room) ?_ | refine strs_ne_cons (by is_list) (by is_list) (by k_asm) (by ke_room) ?_ | refine strs_ne (by is_list) (by is_list) (by first | k_asm | exact StrsAre.nil) (by first | exact StrsAre.nil | k_asm) (by ke_room) ?_)) | (k_here; (with_reducible show wpAny _ _ (compareOp CmpOp.Eq (Value.ref _) (Value.ref _)) _ _ _); k_dflt (refine strs_eq (by is_list) (by is_list) (by first | k_asm | exact StrsAre.nil) (by first | exact StrsAre.nil | k_asm) (by ke_room) ?_)) | (k_here; (with_reducible show wpAny _ _ (call (Value.builtin _) [Value.ref _, Value.int 0 _]) _ _ _); k_dflt (refine pop_first (by k_asm) (by k_asm) (by k_upd) (by (rw [sizeLine_eq]; (try have hL9 := PyProof.Rows.StrsAre.length (by assumption)); (try simp only [List.length_cons] at *); omega)) ?_; k_whole); intro h9 F9 N9; (try k_sweep)) | (k_here; (with_reducible show wpAny _ _ (call (Value.builtin "len") [Value.str _ _]) _ _ _); refine len_str (by omega) ?_) | (k_here; (with_reducible show wpAny _ _ (call (Value.builtin "len") [Value.ref _]) _ _ _); k_dflt (refine len_strsA (by is_list) (by assumption) (by ((try simp only [List.length_map]); omega)) ?_; k_whole); (try simp only [List.length_map])) | walk1 | (dsimp only; walk1) | (dsimp only; k_unfold; (try dsimp only)) | fail "no step"))
  · obtain ⟨rfl, rfl⟩ := eat_bs (by assumption) he
    obtain ⟨t2, cs2, rfl, hcs2⟩ := strs_cons hcs
    refine hold_out ?_
    refine Spec.use (read_spec w a ok [] cq n tn _ _ cc (StrsAre.cons c t2 hcs2) hlen) (ItW a it q tz) B (by assumption) X (by assumption) T rfl swap_in ?_ (by omega) (by omega) ?_
    · exact lex_dis ok (List.forall_mem_cons.mpr ⟨.inr (Nat.lt_trans ho.1 ho.2), List.forall_mem_cons.mpr ⟨.inr ho.1, List.forall_mem_nil _⟩⟩)
    intro rv W' h2 tk2 hp F4 N4 _
    obtain ⟨tn2, cc2, rfl, rfl⟩ := hp
    clear N F
    (repeat' (first |  (k_unfold; (try dsimp only)) | ((with_reducible show wpAny _ _ (eval (Expr.Call (Expr.Attribute _ (Str.ofString "_read_char") _) _ _ _) _) _ _ _); refine MethodCall_ ?_ (by with_reducible assumption)) | ((with_reducible show wpAny _ _ (inplaceOp Operator.Add (Value.str _ _) (Value.str _ _)) _ _ _); refine SBL.iadd (hsz := by assumption) ?_; intro _ _ _) | ((with_reducible show wpAny _ _ (exec (Stmt.If (Expr.Compare _ [CmpOp.Eq] _ _) [Stmt.Assign _ _ _] [] _) _) _ _ _); refine hold_in ?_) | (k_here; (with_reducible show wpAny _ _ (eval (Expr.Name _ _) (compEnv _ _ _)) _ _ _); k_dflt (first | (refine name_locS rfl rfl rfl (by decide) (by with_reducible assumption) (by assumption) ?_; k_whole) | (refine nameG_BS rfl rfl rfl rfl (by decide) (by k_asm) (by k_asm) (by k_asm) (by k_is) (by boot_fast) (by decide) ?_; k_whole))) | (k_here; (with_reducible show wpAny _ _ (call (Value.type _) [Value.str _ _]) _ _ _); k_dflt (refine list_strN rfl (by k_asm) (by k_asm) ?_ (by rw [sizeLine_eq]; omega)); intro D9 ys9 c9 h9 tk9 F9 N9 l9 m9 hS9; (try k_lt l9); (try k_sweep)) | (k_here; (with_reducible show wpAny _ _ (compareOp CmpOp.NotEq (Value.ref _) (Value.ref _)) _ _ _); k_dflt (first | refine strs_ne_nil (by is_list) (by is_list) (by ke_room) ?_ | refine strs_ne_cons (by is_list) (by is_list) (by k_asm) (by ke_room) ?_ | refine strs_ne (by is_list) (by is_list) (by first | k_asm | exact StrsAre.nil) (by first | exact StrsAre.nil | k_asm) (by ke_room) ?_)) | (k_here; (with_reducible show wpAny _ _ (compareOp CmpOp.Eq (Value.ref _) (Value.ref _)) _ _ _); k_dflt (refine strs_eq (by is_list) (by is_list) (by first | k_asm | exact StrsAre.nil) (by first | exact StrsAre.nil | k_asm) (by ke_room) ?_)) | (k_here; (with_reducible show wpAny _ _ (call (Value.builtin _) [Value.ref _, Value.int 0 _]) _ _ _); k_dflt (refine pop_first (by k_asm) (by k_asm) (by k_upd) (by (rw [sizeLine_eq]; (try have hL9 := PyProof.Rows.StrsAre.length (by assumption)); (try simp only [List.length_cons] at *); omega)) ?_; k_whole); intro h9 F9 N9; (try k_sweep)) | (k_here; (with_reducible show wpAny _ _ (call (Value.builtin "len") [Value.str _ _]) _ _ _); refine len_str (by omega) ?_) | (k_here; (with_reducible show wpAny _ _ (call (Value.builtin "len") [Value.ref _]) _ _ _); k_dflt (refine len_strsA (by is_list) (by assumption) (by ((try simp only [List.length_map]); omega)) ?_; k_whole); (try simp only [List.length_map])) | walk1 | (dsimp only; walk1) | (dsimp only; k_unfold; (try dsimp only)) | fail "no step"))
    rename News _ _ _ _ => N7
    exact h _ _ _ _ _ _ hcs2 (tk_c (by assumption)) (fun p hp => N7 p (swap_in p hp))
  · obtain ⟨rfl, rfl, rfl⟩ := eat_no (by assumption) he
    exact h _ _ _ _ _ _ hcs F (by rw [Int.add_zero]; exact N)
def TokPost (w : World) (a : LexAt) (t0 : Str) (n0 : Int) (rest : List Str) (r : Value) (W' : List (Addr × Obj)) : Prop := ∀ Z : Value → List (Addr × Obj) → Prop, (∀ tt cq' tn' cs' cc', StrsAre cs' rest → Z (.str t0 tt) (LexW w a [] cq' n0 tn' cs' cc')) → Z r W'
theorem tok_all {w : World} {a : LexAt} {t0 : Str} {n0 : Int} {rest : List Str} {Z : Value → List (Addr × Obj) → Heap → Nat → Prop} (d : ∀ h' tk' tt cq' tn' cs' cc', StrsAre cs' rest → Z (.str t0 tt) (LexW w a [] cq' n0 tn' cs' cc') h' tk') : ∀ r W' h' tk', TokPost w a t0 n0 rest r W' → Z r W' h' tk' := fun _ _ h' tk' hp => hp (fun r W' => Z r W' h' tk') (d h' tk')
theorem TokPost.mk {w : World} {a : LexAt} {t0 t1 : Str} {n0 n1 : Int} {rest r1 : List Str} {tt cq' tn' cc' : Nat} {cs' : List Value} (ht : t1 = t0) (hn : n1 = n0) (hr : r1 = rest) (hc : StrsAre cs' r1) : TokPost w a t0 n0 rest (.str t1 tt) (LexW w a [] cq' n1 tn' cs' cc') := by
  subst ht; subst hn; subst hr
  exact fun Z k => k _ _ _ _ _ hc
def tokI (w : World) (a : LexAt) (it q : Addr) (tz : Tok) (g : Heap) (L' : Addr) (s : Shared) (P : Str → Int → List Str → Prop) (k : Nat) (s1 : Shared) : Prop :=
  ∀ Z : Nat → Shared → Prop, (∀ (tok : Str) (n : Int) (us : List Str) (cs : List Value) (tn cc cq tt : Nat) (chv : Option Value) (h : Heap) (tk : Nat), StrsAre cs us → us.length ≤ 1000 → (∀ y ∈ us, y.length = 1) → tok.length + us.length ≤ 1000 → P tok n us →
    Fr g L' h (tokFr a it chv tok tt) → News g L' h (ItW a it q tz ++ LexW w a [] cq n tn cs cc) → Z us.length { s with heap := h, toks := tk }) → Z k s1
theorem tokI_use {w : World} {a : LexAt} {it q : Addr} {tz : Tok} {g : Heap} {L' : Addr} {s : Shared} {P : Str → Int → List Str → Prop} {k : Nat} {s1 : Shared} (h : tokI w a it q tz g L' s P k s1) {Z : Nat → Shared → Prop} (d : ∀ (tok : Str) (n : Int) (us : List Str) (cs : List Value) (tn cc cq tt : Nat) (chv : Option Value) (h : Heap) (tk : Nat), StrsAre cs us → us.length ≤ 1000 → (∀ y ∈ us, y.length = 1) → tok.length + us.length ≤ 1000 → P tok n us →
    Fr g L' h (tokFr a it chv tok tt) → News g L' h (ItW a it q tz ++ LexW w a [] cq n tn cs cc) → Z us.length { s with heap := h, toks := tk }) : Z k s1 := h Z d
theorem tokI_mk {w : World} {a : LexAt} {it q : Addr} {tz : Tok} {g : Heap} {L' : Addr} {s : Shared} {P : Str → Int → List Str → Prop} {tok : Str} {n : Int} {us : List Str} {cs : List Value} {tn cc cq tt : Nat} {chv : Option Value} {h : Heap} {tk : Nat} (N : News g L' h (ItW a it q tz ++ LexW w a [] cq n tn cs cc)) (hP : P tok n us) (hcs : StrsAre cs us) (hlen : us.length ≤ 1000) (hone : ∀ y ∈ us, y.length = 1) (hsz : tok.length + us.length ≤ 1000)
    (F : Fr g L' h (tokFr a it chv tok tt)) : tokI w a it q tz g L' s P us.length { s with heap := h, toks := tk } := fun _ d => d tok n us cs tn cc cq tt chv h tk hcs hlen hone hsz hP F N
theorem Again.mk {I : Nat → Shared → Prop} {n m : Nat} {s : Shared} (h : m < n) (hI : I m s) : Again I n s := ⟨m, h, hI⟩
/-- the loops' common turn: no sign left, or one more -/
theorem turn_next {w : World} {a : LexAt} (ok : LexOk w a) {it q : Nat} {tz : Tok} {loose : List Str} {mean : ExcName → Option Value} {mg mb : Str → Option Value} {dp un : Nat} {gd : Option (List Code)} {cn : Str} {csc : Scope} {fa : Addr} {ccd : Value} {cl : List (Str × Addr)} {outer : List Env} {A₀ : Around} {base g : Heap} {L : Addr} {s : Shared} {P : Str → Int → List Str → Prop} {Q : Nat → Option Value → Shared → Prop} {E : Value → Shared → Prop}
    (B : Below A₀ base outer g) (X : (Mine.hd.heap_39 w.params).In g) (T : Top topProg loose mean mg mb g) (hk : csc.kind = .function) (hd : dp + 4 < recursionLimit) (hu : un + 104 < cLine) (ho : a.pb < q ∧ q < it)
    (hnil : ∀ tok n tt chv cq h' tk tn' cc', P tok n [] → Fr g L h' (tokFr a it chv tok tt) → News g L h' ((it, citObj .none .none (.bool true)) :: LexW w a [] cq n tn' [] cc') → Q 0 none { s with heap := h', toks := tk })
    (hcons : ∀ tok n y r tt chv cq t cs' h' tk tn' cc', P tok n (y :: r) → y.length = 1 → r.length ≤ 1000 → (∀ z ∈ r, z.length = 1) → tok.length + (r.length + 1) ≤ 1000 → StrsAre cs' r → Fr g L h' (tokFr a it chv tok tt) → News g L h' (ItW a it q tz ++ LexW w a [] cq (n + nlOf y) tn' cs' cc') → Q (r.length + 1) (some (.str y t)) { s with heap := h', toks := tk }) :
    ∀ k s1, tokI w a it q tz g L s P k s1 → wpAny (model PySem.Challenge.rw_sc0030_02.row.prog w) (ktrTop dp un gd cn csc L fa ccd cl outer) (pyNext (.ref it)) (Q k) E s1 := by
  intro k s1 hI
  refine tokI_use hI (Z := fun k s1 => wpAny (model PySem.Challenge.rw_sc0030_02.row.prog w) (ktrTop dp un gd cn csc L fa ccd cl outer) (pyNext (.ref it)) (Q k) E s1) ?_
  intro tok n us cs tn cc cq tt chv h tk hcs hlen hone hsz hP F N
  refine read_next ok hcs hlen B F X N T hk hd hu ho ?_ ?_
  · rintro rfl h' tk' tn' cc' F3 N3
    exact hnil tok n tt chv cq h' tk' tn' cc' hP F3 N3
  · rintro y r rfl
    have hy1 : y.length = 1 := hone _ (List.Mem.head _)
    exact ⟨fun e => absurd (by rw [e] at hy1; exact hy1) (show ¬ (Str.ofString "").length = 1 from by decide), fun t cs' h' tk' tn' cc' hcs' F3 N3 => hcons tok n y r tt chv cq t cs' h' tk' tn' cc' hP hy1 (Nat.le_of_succ_le hlen) (fun y hy => hone y (List.Mem.tail _ hy)) hsz hcs' F3 N3⟩
set_option maxHeartbeats 16000000 in
theorem tok_spec2 (w : World) (a : LexAt) (ok : LexOk w a) (cq : Nat) (n : Int) (tn : Tok) (cs : List Value) (us : List Str) (cc : Nat) (hcs : StrsAre cs us) (hlen : us.length ≤ 900) (hone : ∀ y ∈ us, y.length = 1) (t0 : Str) (n0 : Int) (rest : List Str) (hrun : run1 n us = some (t0, n0, rest)) :
    Spec PySem.Challenge.rw_sc0030_02.row.prog (fun w => Mine.hd.heap_39 w.params) w 42 [.ref a.lx] 6 120 (LexW w a [] cq n tn cs cc) (TokPost w a t0 n0 rest) := by
  ((k_fill; k_dflt (refine' spec_plain ?k6_18 ?k7_18 ?h1_18 ?k9_18 ?kB_18 ?c5_18 ?c2_18 ?c3_18 ?c4_18 ?_; (case k6_18 => k_is); (case k7_18 => k_is); (case h1_18 => first | decide | exact Nat.succ_pos _); (case k9_18 => exact rfl); (case kB_18 => exact locs rfl); (case c5_18 => decide); (case c2_18 => exact rfl); (case c3_18 => exact rfl); (case c4_18 => exact rfl); k_whole)))
  intro loose mean mg mb dp un gd env outer base g L' h₁ s tk F' N' B' X' T' lW hd hu
  try dsimp only at X'
  try dsimp only
  try k_fold
  try k_lt lW
  have kM := kstMark
  have hC9 := codeHd_of_K (c := 76) (P := 72) X' (by kernel_rfl)
  k_with_none
  (repeat' (first |  (k_unfold; (try dsimp only)) | ((with_reducible show wpAny _ _ (eval (Expr.Call (Expr.Attribute _ (Str.ofString "_read_char") _) _ _ _) _) _ _ _); refine MethodCall_ ?_ (by with_reducible assumption)) | ((with_reducible show wpAny _ _ (inplaceOp Operator.Add (Value.str _ _) (Value.str _ _)) _ _ _); refine SBL.iadd (hsz := by assumption) ?_; intro _ _ _) | ((with_reducible show wpAny _ _ (exec (Stmt.If (Expr.Compare _ [CmpOp.Eq] _ _) [Stmt.Assign _ _ _] [] _) _) _ _ _); refine hold_in ?_) | (k_here; (with_reducible show wpAny _ _ (eval (Expr.Name _ _) (compEnv _ _ _)) _ _ _); k_dflt (first | (refine name_locS rfl rfl rfl (by decide) (by with_reducible assumption) (by assumption) ?_; k_whole) | (refine nameG_BS rfl rfl rfl rfl (by decide) (by k_asm) (by k_asm) (by k_asm) (by k_is) (by boot_fast) (by decide) ?_; k_whole))) | (k_here; (with_reducible show wpAny _ _ (call (Value.type _) [Value.str _ _]) _ _ _); k_dflt (refine list_strN rfl (by k_asm) (by k_asm) ?_ (by rw [sizeLine_eq]; omega)); intro D9 ys9 c9 h9 tk9 F9 N9 l9 m9 hS9; (try k_lt l9); (try k_sweep)) | (k_here; (with_reducible show wpAny _ _ (compareOp CmpOp.NotEq (Value.ref _) (Value.ref _)) _ _ _); k_dflt (first | refine strs_ne_nil (by is_list) (by is_list) (by ke_room) ?_ | refine strs_ne_cons (by is_list) (by is_list) (by k_asm) (by ke_room) ?_ | refine strs_ne (by is_list) (by is_list) (by first | k_asm | exact StrsAre.nil) (by first | exact StrsAre.nil | k_asm) (by ke_room) ?_)) | (k_here; (with_reducible show wpAny _ _ (compareOp CmpOp.Eq (Value.ref _) (Value.ref _)) _ _ _); k_dflt (refine strs_eq (by is_list) (by is_list) (by first | k_asm | exact StrsAre.nil) (by first | exact StrsAre.nil | k_asm) (by ke_room) ?_)) | (k_here; (with_reducible show wpAny _ _ (call (Value.builtin _) [Value.ref _, Value.int 0 _]) _ _ _); k_dflt (refine pop_first (by k_asm) (by k_asm) (by k_upd) (by (rw [sizeLine_eq]; (try have hL9 := PyProof.Rows.StrsAre.length (by assumption)); (try simp only [List.length_cons] at *); omega)) ?_; k_whole); intro h9 F9 N9; (try k_sweep)) | (k_here; (with_reducible show wpAny _ _ (call (Value.builtin "len") [Value.str _ _]) _ _ _); refine len_str (by omega) ?_) | (k_here; (with_reducible show wpAny _ _ (call (Value.builtin "len") [Value.ref _]) _ _ _); k_dflt (refine len_strsA (by is_list) (by assumption) (by ((try simp only [List.length_map]); omega)) ?_; k_whole); (try simp only [List.length_map])) | walk1 | (dsimp only; walk1) | (dsimp only; k_unfold; (try dsimp only)) | fail "no step"))
  k_dflt (refine iter_two (by k_asm) (by k_asm) (by k_mem) ?_)
  intro it h1 F1 N1 l1 l2
  k_lt l1
  have hqz : ∃ q tz : Nat, News g L' h1 (ItW a it q tz ++ LexW w a [] cq n tn cs cc) ∧ a.pb < q ∧ q < it := by
    refine' ⟨_, _, fun p hp => N1 p ?sub, ?o1, ?o2⟩
    case sub => revert p hp; (repeat (first | exact List.forall_mem_nil _ | refine List.forall_mem_cons.mpr ⟨by k_mem, ?_⟩))
    all_goals omega
  obtain ⟨q, tz, N1', hq1, hq2⟩ := hqz
  clear N1 l1
  (repeat' (first |  (k_unfold; (try dsimp only)) | ((with_reducible show wpAny _ _ (eval (Expr.Call (Expr.Attribute _ (Str.ofString "_read_char") _) _ _ _) _) _ _ _); refine MethodCall_ ?_ (by with_reducible assumption)) | ((with_reducible show wpAny _ _ (inplaceOp Operator.Add (Value.str _ _) (Value.str _ _)) _ _ _); refine SBL.iadd (hsz := by assumption) ?_; intro _ _ _) | ((with_reducible show wpAny _ _ (exec (Stmt.If (Expr.Compare _ [CmpOp.Eq] _ _) [Stmt.Assign _ _ _] [] _) _) _ _ _); refine hold_in ?_) | (k_here; (with_reducible show wpAny _ _ (eval (Expr.Name _ _) (compEnv _ _ _)) _ _ _); k_dflt (first | (refine name_locS rfl rfl rfl (by decide) (by with_reducible assumption) (by assumption) ?_; k_whole) | (refine nameG_BS rfl rfl rfl rfl (by decide) (by k_asm) (by k_asm) (by k_asm) (by k_is) (by boot_fast) (by decide) ?_; k_whole))) | (k_here; (with_reducible show wpAny _ _ (call (Value.type _) [Value.str _ _]) _ _ _); k_dflt (refine list_strN rfl (by k_asm) (by k_asm) ?_ (by rw [sizeLine_eq]; omega)); intro D9 ys9 c9 h9 tk9 F9 N9 l9 m9 hS9; (try k_lt l9); (try k_sweep)) | (k_here; (with_reducible show wpAny _ _ (compareOp CmpOp.NotEq (Value.ref _) (Value.ref _)) _ _ _); k_dflt (first | refine strs_ne_nil (by is_list) (by is_list) (by ke_room) ?_ | refine strs_ne_cons (by is_list) (by is_list) (by k_asm) (by ke_room) ?_ | refine strs_ne (by is_list) (by is_list) (by first | k_asm | exact StrsAre.nil) (by first | exact StrsAre.nil | k_asm) (by ke_room) ?_)) | (k_here; (with_reducible show wpAny _ _ (compareOp CmpOp.Eq (Value.ref _) (Value.ref _)) _ _ _); k_dflt (refine strs_eq (by is_list) (by is_list) (by first | k_asm | exact StrsAre.nil) (by first | exact StrsAre.nil | k_asm) (by ke_room) ?_)) | (k_here; (with_reducible show wpAny _ _ (call (Value.builtin _) [Value.ref _, Value.int 0 _]) _ _ _); k_dflt (refine pop_first (by k_asm) (by k_asm) (by k_upd) (by (rw [sizeLine_eq]; (try have hL9 := PyProof.Rows.StrsAre.length (by assumption)); (try simp only [List.length_cons] at *); omega)) ?_; k_whole); intro h9 F9 N9; (try k_sweep)) | (k_here; (with_reducible show wpAny _ _ (call (Value.builtin "len") [Value.str _ _]) _ _ _); refine len_str (by omega) ?_) | (k_here; (with_reducible show wpAny _ _ (call (Value.builtin "len") [Value.ref _]) _ _ _); k_dflt (refine len_strsA (by is_list) (by assumption) (by ((try simp only [List.length_map]); omega)) ?_; k_whole); (try simp only [List.length_map])) | walk1 | (dsimp only; walk1) | (dsimp only; k_unfold; (try dsimp only)) | fail "no step"))
  refine hold_out ?_
  refine wpAny_For ?_
  walk1
  rename News _ _ _ _ => N1
  refine cit_iter (N1.get (List.Mem.head _)) ?_
  refine' for_inv (tokI w a it q tz g L' s (fun tok n us => tok = Str.ofString "" ∧ run1 n us = some (t0, n0, rest))) rfl rfl (fun _ _ h => h) ?turn us.length ?init
  case init =>
    refine' tokI_mk (chv := none) (tt := ?tt) N1 ⟨rfl, hrun⟩ hcs (by omega) hone (by rw [show (Str.ofString "").length = 0 from rfl]; omega) ?fr
    case fr => ((refine fr_to (by assumption) (fun y => ?_); by_cases h1 : y = Str.ofString "ch"; (subst h1; rfl); by_cases h2 : y = Str.ofString "token"; (subst h2; rfl); by_cases h3 : y = Str.ofString "fiter"; (subst h3; rfl); by_cases h4 : y = Str.ofString "self"; (subst h4; rfl); (simp only [if_neg h1, if_neg h2, if_neg h3, if_neg h4]); (try (show (match y == Str.ofString "self" with | true => some (Value.ref _) | false => none) = none; rw [beq_eq_false_iff_ne.mpr h4]))))
  case turn =>
    clear N1 hcs hlen hone hrun
    refine turn_next ok B' X' T' rfl (by omega) (by omega) ⟨hq1, hq2⟩ ?_ ?_
    · rintro tok n tt chv cq2 h' tk' tn' cc' ⟨rfl, hrun⟩ F3 N3
      obtain ⟨e1, e2, e3⟩ : Str.ofString "" = t0 ∧ n = n0 ∧ [] = rest := by simpa [run1] using hrun
      dsimp only
      (repeat' (first |  (k_unfold; (try dsimp only)) | ((with_reducible show wpAny _ _ (eval (Expr.Call (Expr.Attribute _ (Str.ofString "_read_char") _) _ _ _) _) _ _ _); refine MethodCall_ ?_ (by with_reducible assumption)) | ((with_reducible show wpAny _ _ (inplaceOp Operator.Add (Value.str _ _) (Value.str _ _)) _ _ _); refine SBL.iadd (hsz := by assumption) ?_; intro _ _ _) | ((with_reducible show wpAny _ _ (exec (Stmt.If (Expr.Compare _ [CmpOp.Eq] _ _) [Stmt.Assign _ _ _] [] _) _) _ _ _); refine hold_in ?_) | (k_here; (with_reducible show wpAny _ _ (eval (Expr.Name _ _) (compEnv _ _ _)) _ _ _); k_dflt (first | (refine name_locS rfl rfl rfl (by decide) (by with_reducible assumption) (by assumption) ?_; k_whole) | (refine nameG_BS rfl rfl rfl rfl (by decide) (by k_asm) (by k_asm) (by k_asm) (by k_is) (by boot_fast) (by decide) ?_; k_whole))) | (k_here; (with_reducible show wpAny _ _ (call (Value.type _) [Value.str _ _]) _ _ _); k_dflt (refine list_strN rfl (by k_asm) (by k_asm) ?_ (by rw [sizeLine_eq]; omega)); intro D9 ys9 c9 h9 tk9 F9 N9 l9 m9 hS9; (try k_lt l9); (try k_sweep)) | (k_here; (with_reducible show wpAny _ _ (compareOp CmpOp.NotEq (Value.ref _) (Value.ref _)) _ _ _); k_dflt (first | refine strs_ne_nil (by is_list) (by is_list) (by ke_room) ?_ | refine strs_ne_cons (by is_list) (by is_list) (by k_asm) (by ke_room) ?_ | refine strs_ne (by is_list) (by is_list) (by first | k_asm | exact StrsAre.nil) (by first | exact StrsAre.nil | k_asm) (by ke_room) ?_)) | (k_here; (with_reducible show wpAny _ _ (compareOp CmpOp.Eq (Value.ref _) (Value.ref _)) _ _ _); k_dflt (refine strs_eq (by is_list) (by is_list) (by first | k_asm | exact StrsAre.nil) (by first | exact StrsAre.nil | k_asm) (by ke_room) ?_)) | (k_here; (with_reducible show wpAny _ _ (call (Value.builtin _) [Value.ref _, Value.int 0 _]) _ _ _); k_dflt (refine pop_first (by k_asm) (by k_asm) (by k_upd) (by (rw [sizeLine_eq]; (try have hL9 := PyProof.Rows.StrsAre.length (by assumption)); (try simp only [List.length_cons] at *); omega)) ?_; k_whole); intro h9 F9 N9; (try k_sweep)) | (k_here; (with_reducible show wpAny _ _ (call (Value.builtin "len") [Value.str _ _]) _ _ _); refine len_str (by omega) ?_) | (k_here; (with_reducible show wpAny _ _ (call (Value.builtin "len") [Value.ref _]) _ _ _); k_dflt (refine len_strsA (by is_list) (by assumption) (by ((try simp only [List.length_map]); omega)) ?_; k_whole); (try simp only [List.length_map])) | walk1 | (dsimp only; walk1) | (dsimp only; k_unfold; (try dsimp only)) | fail "no step"))
      exact Back.mk' (TokPost.mk e1 e2 e3 StrsAre.nil) (by assumption) N3 (fun p hp => List.mem_cons_of_mem _ hp) lex_same
    · rintro tok n y r tt chv cq2 t cs' h' tk' tn' cc' ⟨rfl, hrun⟩ hy1 hlr hone' hsz hcs' F3 N3
      dsimp only
      (repeat' (first |  (k_unfold; (try dsimp only)) | ((with_reducible show wpAny _ _ (eval (Expr.Call (Expr.Attribute _ (Str.ofString "_read_char") _) _ _ _) _) _ _ _); refine MethodCall_ ?_ (by with_reducible assumption)) | ((with_reducible show wpAny _ _ (inplaceOp Operator.Add (Value.str _ _) (Value.str _ _)) _ _ _); refine SBL.iadd (hsz := by assumption) ?_; intro _ _ _) | ((with_reducible show wpAny _ _ (exec (Stmt.If (Expr.Compare _ [CmpOp.Eq] _ _) [Stmt.Assign _ _ _] [] _) _) _ _ _); refine hold_in ?_) | (k_here; (with_reducible show wpAny _ _ (eval (Expr.Name _ _) (compEnv _ _ _)) _ _ _); k_dflt (first | (refine name_locS rfl rfl rfl (by decide) (by with_reducible assumption) (by assumption) ?_; k_whole) | (refine nameG_BS rfl rfl rfl rfl (by decide) (by k_asm) (by k_asm) (by k_asm) (by k_is) (by boot_fast) (by decide) ?_; k_whole))) | (k_here; (with_reducible show wpAny _ _ (call (Value.type _) [Value.str _ _]) _ _ _); k_dflt (refine list_strN rfl (by k_asm) (by k_asm) ?_ (by rw [sizeLine_eq]; omega)); intro D9 ys9 c9 h9 tk9 F9 N9 l9 m9 hS9; (try k_lt l9); (try k_sweep)) | (k_here; (with_reducible show wpAny _ _ (compareOp CmpOp.NotEq (Value.ref _) (Value.ref _)) _ _ _); k_dflt (first | refine strs_ne_nil (by is_list) (by is_list) (by ke_room) ?_ | refine strs_ne_cons (by is_list) (by is_list) (by k_asm) (by ke_room) ?_ | refine strs_ne (by is_list) (by is_list) (by first | k_asm | exact StrsAre.nil) (by first | exact StrsAre.nil | k_asm) (by ke_room) ?_)) | (k_here; (with_reducible show wpAny _ _ (compareOp CmpOp.Eq (Value.ref _) (Value.ref _)) _ _ _); k_dflt (refine strs_eq (by is_list) (by is_list) (by first | k_asm | exact StrsAre.nil) (by first | exact StrsAre.nil | k_asm) (by ke_room) ?_)) | (k_here; (with_reducible show wpAny _ _ (call (Value.builtin _) [Value.ref _, Value.int 0 _]) _ _ _); k_dflt (refine pop_first (by k_asm) (by k_asm) (by k_upd) (by (rw [sizeLine_eq]; (try have hL9 := PyProof.Rows.StrsAre.length (by assumption)); (try simp only [List.length_cons] at *); omega)) ?_; k_whole); intro h9 F9 N9; (try k_sweep)) | (k_here; (with_reducible show wpAny _ _ (call (Value.builtin "len") [Value.str _ _]) _ _ _); refine len_str (by omega) ?_) | (k_here; (with_reducible show wpAny _ _ (call (Value.builtin "len") [Value.ref _]) _ _ _); k_dflt (refine len_strsA (by is_list) (by assumption) (by ((try simp only [List.length_map]); omega)) ?_; k_whole); (try simp only [List.length_map])) | walk1 | (dsimp only; walk1) | (dsimp only; k_unfold; (try dsimp only)) | fail "no step"))
      · have hrun' := run1_qt (by assumption) (by assumption) hrun
        refine hold_out ?_
        refine wpAny_For ?_
        walk1
        rename News _ _ _ _ => N5
        refine cit_iter (N5.get (by k_mem)) ?_
        refine' for_inv (tokI w a it q tz g L' s (fun tok n us => run2 tok n us = some (t0, n0, rest))) rfl rfl (fun _ _ h => h) ?turn _ ?init
        case init => exact tokI_mk (P := fun tok n us => run2 tok n us = some (t0, n0, rest)) N5 hrun' hcs' hlr hone' (Nat.le_of_succ_le hsz) (tk_c (by assumption))
        case turn =>
          (try clear N3); (try clear F3)
          clear N5 hcs' hlr hone' hsz hrun hrun' hy1
          refine turn_next ok B' X' T' rfl (by omega) (by omega) ⟨hq1, hq2⟩ ?_ ?_
          · intro tok n tt chv cq2 h' tk' tn' cc' hrun
            cases hrun
          · intro tok n y r tt chv cq2 t cs' h' tk' tn' cc' hrun hy1 hlr hone' hsz hcs' F3 N3
            dsimp only
            (repeat' (first |  (k_unfold; (try dsimp only)) | ((with_reducible show wpAny _ _ (eval (Expr.Call (Expr.Attribute _ (Str.ofString "_read_char") _) _ _ _) _) _ _ _); refine MethodCall_ ?_ (by with_reducible assumption)) | ((with_reducible show wpAny _ _ (inplaceOp Operator.Add (Value.str _ _) (Value.str _ _)) _ _ _); refine SBL.iadd (hsz := by assumption) ?_; intro _ _ _) | ((with_reducible show wpAny _ _ (exec (Stmt.If (Expr.Compare _ [CmpOp.Eq] _ _) [Stmt.Assign _ _ _] [] _) _) _ _ _); refine hold_in ?_) | (k_here; (with_reducible show wpAny _ _ (eval (Expr.Name _ _) (compEnv _ _ _)) _ _ _); k_dflt (first | (refine name_locS rfl rfl rfl (by decide) (by with_reducible assumption) (by assumption) ?_; k_whole) | (refine nameG_BS rfl rfl rfl rfl (by decide) (by k_asm) (by k_asm) (by k_asm) (by k_is) (by boot_fast) (by decide) ?_; k_whole))) | (k_here; (with_reducible show wpAny _ _ (call (Value.type _) [Value.str _ _]) _ _ _); k_dflt (refine list_strN rfl (by k_asm) (by k_asm) ?_ (by rw [sizeLine_eq]; omega)); intro D9 ys9 c9 h9 tk9 F9 N9 l9 m9 hS9; (try k_lt l9); (try k_sweep)) | (k_here; (with_reducible show wpAny _ _ (compareOp CmpOp.NotEq (Value.ref _) (Value.ref _)) _ _ _); k_dflt (first | refine strs_ne_nil (by is_list) (by is_list) (by ke_room) ?_ | refine strs_ne_cons (by is_list) (by is_list) (by k_asm) (by ke_room) ?_ | refine strs_ne (by is_list) (by is_list) (by first | k_asm | exact StrsAre.nil) (by first | exact StrsAre.nil | k_asm) (by ke_room) ?_)) | (k_here; (with_reducible show wpAny _ _ (compareOp CmpOp.Eq (Value.ref _) (Value.ref _)) _ _ _); k_dflt (refine strs_eq (by is_list) (by is_list) (by first | k_asm | exact StrsAre.nil) (by first | exact StrsAre.nil | k_asm) (by ke_room) ?_)) | (k_here; (with_reducible show wpAny _ _ (call (Value.builtin _) [Value.ref _, Value.int 0 _]) _ _ _); k_dflt (refine pop_first (by k_asm) (by k_asm) (by k_upd) (by (rw [sizeLine_eq]; (try have hL9 := PyProof.Rows.StrsAre.length (by assumption)); (try simp only [List.length_cons] at *); omega)) ?_; k_whole); intro h9 F9 N9; (try k_sweep)) | (k_here; (with_reducible show wpAny _ _ (call (Value.builtin "len") [Value.str _ _]) _ _ _); refine len_str (by omega) ?_) | (k_here; (with_reducible show wpAny _ _ (call (Value.builtin "len") [Value.ref _]) _ _ _); k_dflt (refine len_strsA (by is_list) (by assumption) (by ((try simp only [List.length_map]); omega)) ?_; k_whole); (try simp only [List.length_map])) | walk1 | (dsimp only; walk1) | (dsimp only; k_unfold; (try dsimp only)) | fail "no step"))
            · have hw := run2_qt (tok := tok) (n := n) (y := y) (r := r) (by assumption)
              rw [hw] at hrun
              obtain ⟨e1, e2, e3⟩ : tok = t0 ∧ n + nlOf y = n0 ∧ r = rest := by simpa using hrun
              rename News _ _ _ _ => N6
              exact Back.mk' (TokPost.mk e1 e2 e3 hcs') (by assumption) N6 (fun p hp => List.mem_append_right _ hp) lex_same
            · obtain ⟨c, j, r2, he, hrun'⟩ := run2_eat (by assumption) hrun
              obtain ⟨hc1, hr2, hone2⟩ := eat_ok he hy1 hone'
              have hsz3 := tok_sz2 hc1 hsz
              refine hold_out ?_
              rename News _ _ _ _ => N6
              refine bs_step ok B' (tk_c (by assumption)) X' N6 T' (by omega) (by omega) ⟨hq1, hq2⟩ hcs' hlr he rfl ?_
              (try clear N3); (try clear F3); clear N6
              intro tc tn2 cs2 cc2 h2 tk2 hcs2 F4 N4
              try dsimp only
              (repeat' (first |  (k_unfold; (try dsimp only)) | ((with_reducible show wpAny _ _ (eval (Expr.Call (Expr.Attribute _ (Str.ofString "_read_char") _) _ _ _) _) _ _ _); refine MethodCall_ ?_ (by with_reducible assumption)) | ((with_reducible show wpAny _ _ (inplaceOp Operator.Add (Value.str _ _) (Value.str _ _)) _ _ _); refine SBL.iadd (hsz := by assumption) ?_; intro _ _ _) | ((with_reducible show wpAny _ _ (exec (Stmt.If (Expr.Compare _ [CmpOp.Eq] _ _) [Stmt.Assign _ _ _] [] _) _) _ _ _); refine hold_in ?_) | (k_here; (with_reducible show wpAny _ _ (eval (Expr.Name _ _) (compEnv _ _ _)) _ _ _); k_dflt (first | (refine name_locS rfl rfl rfl (by decide) (by with_reducible assumption) (by assumption) ?_; k_whole) | (refine nameG_BS rfl rfl rfl rfl (by decide) (by k_asm) (by k_asm) (by k_asm) (by k_is) (by boot_fast) (by decide) ?_; k_whole))) | (k_here; (with_reducible show wpAny _ _ (call (Value.type _) [Value.str _ _]) _ _ _); k_dflt (refine list_strN rfl (by k_asm) (by k_asm) ?_ (by rw [sizeLine_eq]; omega)); intro D9 ys9 c9 h9 tk9 F9 N9 l9 m9 hS9; (try k_lt l9); (try k_sweep)) | (k_here; (with_reducible show wpAny _ _ (compareOp CmpOp.NotEq (Value.ref _) (Value.ref _)) _ _ _); k_dflt (first | refine strs_ne_nil (by is_list) (by is_list) (by ke_room) ?_ | refine strs_ne_cons (by is_list) (by is_list) (by k_asm) (by ke_room) ?_ | refine strs_ne (by is_list) (by is_list) (by first | k_asm | exact StrsAre.nil) (by first | exact StrsAre.nil | k_asm) (by ke_room) ?_)) | (k_here; (with_reducible show wpAny _ _ (compareOp CmpOp.Eq (Value.ref _) (Value.ref _)) _ _ _); k_dflt (refine strs_eq (by is_list) (by is_list) (by first | k_asm | exact StrsAre.nil) (by first | exact StrsAre.nil | k_asm) (by ke_room) ?_)) | (k_here; (with_reducible show wpAny _ _ (call (Value.builtin _) [Value.ref _, Value.int 0 _]) _ _ _); k_dflt (refine pop_first (by k_asm) (by k_asm) (by k_upd) (by (rw [sizeLine_eq]; (try have hL9 := PyProof.Rows.StrsAre.length (by assumption)); (try simp only [List.length_cons] at *); omega)) ?_; k_whole); intro h9 F9 N9; (try k_sweep)) | (k_here; (with_reducible show wpAny _ _ (call (Value.builtin "len") [Value.str _ _]) _ _ _); refine len_str (by omega) ?_) | (k_here; (with_reducible show wpAny _ _ (call (Value.builtin "len") [Value.ref _]) _ _ _); k_dflt (refine len_strsA (by is_list) (by assumption) (by ((try simp only [List.length_map]); omega)) ?_; k_whole); (try simp only [List.length_map])) | walk1 | (dsimp only; walk1) | (dsimp only; k_unfold; (try dsimp only)) | fail "no step"))
              exact Again.mk (Nat.lt_succ_of_le hr2) (tokI_mk (by assumption) hrun' hcs2 (Nat.le_trans hr2 hlr) hone2 (tok_sz hc1 hr2 hsz) (tk_t (by assumption)))
      · obtain ⟨c, j, r2, he, hrun'⟩ := run1_eat (by assumption) (by assumption) hrun
        obtain ⟨hc1, hr2, hone2⟩ := eat_ok he hy1 hone'
        have hsz3 := tok_sz2 hc1 hsz
        refine hold_out ?_
        rename News _ _ _ _ => N6
        refine bs_step ok B' (tk_c (by assumption)) X' N6 T' (by omega) (by omega) ⟨hq1, hq2⟩ hcs' hlr he rfl ?_
        (try clear N3); (try clear F3); clear N6
        intro tc tn2 cs2 cc2 h2 tk2 hcs2 F4 N4
        try dsimp only
        (repeat' (first |  (k_unfold; (try dsimp only)) | ((with_reducible show wpAny _ _ (eval (Expr.Call (Expr.Attribute _ (Str.ofString "_read_char") _) _ _ _) _) _ _ _); refine MethodCall_ ?_ (by with_reducible assumption)) | ((with_reducible show wpAny _ _ (inplaceOp Operator.Add (Value.str _ _) (Value.str _ _)) _ _ _); refine SBL.iadd (hsz := by assumption) ?_; intro _ _ _) | ((with_reducible show wpAny _ _ (exec (Stmt.If (Expr.Compare _ [CmpOp.Eq] _ _) [Stmt.Assign _ _ _] [] _) _) _ _ _); refine hold_in ?_) | (k_here; (with_reducible show wpAny _ _ (eval (Expr.Name _ _) (compEnv _ _ _)) _ _ _); k_dflt (first | (refine name_locS rfl rfl rfl (by decide) (by with_reducible assumption) (by assumption) ?_; k_whole) | (refine nameG_BS rfl rfl rfl rfl (by decide) (by k_asm) (by k_asm) (by k_asm) (by k_is) (by boot_fast) (by decide) ?_; k_whole))) | (k_here; (with_reducible show wpAny _ _ (call (Value.type _) [Value.str _ _]) _ _ _); k_dflt (refine list_strN rfl (by k_asm) (by k_asm) ?_ (by rw [sizeLine_eq]; omega)); intro D9 ys9 c9 h9 tk9 F9 N9 l9 m9 hS9; (try k_lt l9); (try k_sweep)) | (k_here; (with_reducible show wpAny _ _ (compareOp CmpOp.NotEq (Value.ref _) (Value.ref _)) _ _ _); k_dflt (first | refine strs_ne_nil (by is_list) (by is_list) (by ke_room) ?_ | refine strs_ne_cons (by is_list) (by is_list) (by k_asm) (by ke_room) ?_ | refine strs_ne (by is_list) (by is_list) (by first | k_asm | exact StrsAre.nil) (by first | exact StrsAre.nil | k_asm) (by ke_room) ?_)) | (k_here; (with_reducible show wpAny _ _ (compareOp CmpOp.Eq (Value.ref _) (Value.ref _)) _ _ _); k_dflt (refine strs_eq (by is_list) (by is_list) (by first | k_asm | exact StrsAre.nil) (by first | exact StrsAre.nil | k_asm) (by ke_room) ?_)) | (k_here; (with_reducible show wpAny _ _ (call (Value.builtin _) [Value.ref _, Value.int 0 _]) _ _ _); k_dflt (refine pop_first (by k_asm) (by k_asm) (by k_upd) (by (rw [sizeLine_eq]; (try have hL9 := PyProof.Rows.StrsAre.length (by assumption)); (try simp only [List.length_cons] at *); omega)) ?_; k_whole); intro h9 F9 N9; (try k_sweep)) | (k_here; (with_reducible show wpAny _ _ (call (Value.builtin "len") [Value.str _ _]) _ _ _); refine len_str (by omega) ?_) | (k_here; (with_reducible show wpAny _ _ (call (Value.builtin "len") [Value.ref _]) _ _ _); k_dflt (refine len_strsA (by is_list) (by assumption) (by ((try simp only [List.length_map]); omega)) ?_; k_whole); (try simp only [List.length_map])) | walk1 | (dsimp only; walk1) | (dsimp only; k_unfold; (try dsimp only)) | fail "no step"))
        refine hold_out ?_
        refine wpAny_For ?_
        walk1
        rename News _ _ _ _ => N5
        refine cit_iter (N5.get (by k_mem)) ?_
        refine' for_inv (tokI w a it q tz g L' s (fun tok n us => run3 tok n us = some (t0, n0, rest))) rfl rfl (fun _ _ h => h) ?turn _ ?init
        case init => exact tokI_mk (P := fun tok n us => run3 tok n us = some (t0, n0, rest)) N5 hrun' hcs2 (Nat.le_trans hr2 hlr) hone2 (tok_sz hc1 hr2 hsz) (tk_t (by assumption))
        case turn =>
          (try clear N4); (try clear F4)
          clear N5 hcs' hcs2 hlr hone' hone2 hsz hsz3 hrun hrun' hy1 hc1 hr2 he
          refine turn_next ok B' X' T' rfl (by omega) (by omega) ⟨hq1, hq2⟩ ?_ ?_
          · intro tok n tt chv cq2 h' tk' tn' cc' hrun
            cases hrun
          · intro tok n y r tt chv cq2 t cs' h' tk' tn' cc' hrun hy1 hlr hone' hsz hcs' F3 N3
            dsimp only
            (repeat' (first |  (k_unfold; (try dsimp only)) | ((with_reducible show wpAny _ _ (eval (Expr.Call (Expr.Attribute _ (Str.ofString "_read_char") _) _ _ _) _) _ _ _); refine MethodCall_ ?_ (by with_reducible assumption)) | ((with_reducible show wpAny _ _ (inplaceOp Operator.Add (Value.str _ _) (Value.str _ _)) _ _ _); refine SBL.iadd (hsz := by assumption) ?_; intro _ _ _) | ((with_reducible show wpAny _ _ (exec (Stmt.If (Expr.Compare _ [CmpOp.Eq] _ _) [Stmt.Assign _ _ _] [] _) _) _ _ _); refine hold_in ?_) | (k_here; (with_reducible show wpAny _ _ (eval (Expr.Name _ _) (compEnv _ _ _)) _ _ _); k_dflt (first | (refine name_locS rfl rfl rfl (by decide) (by with_reducible assumption) (by assumption) ?_; k_whole) | (refine nameG_BS rfl rfl rfl rfl (by decide) (by k_asm) (by k_asm) (by k_asm) (by k_is) (by boot_fast) (by decide) ?_; k_whole))) | (k_here; (with_reducible show wpAny _ _ (call (Value.type _) [Value.str _ _]) _ _ _); k_dflt (refine list_strN rfl (by k_asm) (by k_asm) ?_ (by rw [sizeLine_eq]; omega)); intro D9 ys9 c9 h9 tk9 F9 N9 l9 m9 hS9; (try k_lt l9); (try k_sweep)) | (k_here; (with_reducible show wpAny _ _ (compareOp CmpOp.NotEq (Value.ref _) (Value.ref _)) _ _ _); k_dflt (first | refine strs_ne_nil (by is_list) (by is_list) (by ke_room) ?_ | refine strs_ne_cons (by is_list) (by is_list) (by k_asm) (by ke_room) ?_ | refine strs_ne (by is_list) (by is_list) (by first | k_asm | exact StrsAre.nil) (by first | exact StrsAre.nil | k_asm) (by ke_room) ?_)) | (k_here; (with_reducible show wpAny _ _ (compareOp CmpOp.Eq (Value.ref _) (Value.ref _)) _ _ _); k_dflt (refine strs_eq (by is_list) (by is_list) (by first | k_asm | exact StrsAre.nil) (by first | exact StrsAre.nil | k_asm) (by ke_room) ?_)) | (k_here; (with_reducible show wpAny _ _ (call (Value.builtin _) [Value.ref _, Value.int 0 _]) _ _ _); k_dflt (refine pop_first (by k_asm) (by k_asm) (by k_upd) (by (rw [sizeLine_eq]; (try have hL9 := PyProof.Rows.StrsAre.length (by assumption)); (try simp only [List.length_cons] at *); omega)) ?_; k_whole); intro h9 F9 N9; (try k_sweep)) | (k_here; (with_reducible show wpAny _ _ (call (Value.builtin "len") [Value.str _ _]) _ _ _); refine len_str (by omega) ?_) | (k_here; (with_reducible show wpAny _ _ (call (Value.builtin "len") [Value.ref _]) _ _ _); k_dflt (refine len_strsA (by is_list) (by assumption) (by ((try simp only [List.length_map]); omega)) ?_; k_whole); (try simp only [List.length_map])) | walk1 | (dsimp only; walk1) | (dsimp only; k_unfold; (try dsimp only)) | fail "no step"))
            · obtain ⟨c, j, r2, he, hrun'⟩ := run3_eat (by assumption) hrun
              obtain ⟨hc1, hr2, hone2⟩ := eat_ok he hy1 hone'
              have hsz3 := tok_sz2 hc1 hsz
              refine hold_out ?_
              rename News _ _ _ _ => N6
              refine bs_step ok B' (tk_c (by assumption)) X' N6 T' (by omega) (by omega) ⟨hq1, hq2⟩ hcs' hlr he rfl ?_
              (try clear N3); (try clear F3); clear N6
              intro tc tn2 cs2 cc2 h2 tk2 hcs2 F4 N4
              try dsimp only
              (repeat' (first |  (k_unfold; (try dsimp only)) | ((with_reducible show wpAny _ _ (eval (Expr.Call (Expr.Attribute _ (Str.ofString "_read_char") _) _ _ _) _) _ _ _); refine MethodCall_ ?_ (by with_reducible assumption)) | ((with_reducible show wpAny _ _ (inplaceOp Operator.Add (Value.str _ _) (Value.str _ _)) _ _ _); refine SBL.iadd (hsz := by assumption) ?_; intro _ _ _) | ((with_reducible show wpAny _ _ (exec (Stmt.If (Expr.Compare _ [CmpOp.Eq] _ _) [Stmt.Assign _ _ _] [] _) _) _ _ _); refine hold_in ?_) | (k_here; (with_reducible show wpAny _ _ (eval (Expr.Name _ _) (compEnv _ _ _)) _ _ _); k_dflt (first | (refine name_locS rfl rfl rfl (by decide) (by with_reducible assumption) (by assumption) ?_; k_whole) | (refine nameG_BS rfl rfl rfl rfl (by decide) (by k_asm) (by k_asm) (by k_asm) (by k_is) (by boot_fast) (by decide) ?_; k_whole))) | (k_here; (with_reducible show wpAny _ _ (call (Value.type _) [Value.str _ _]) _ _ _); k_dflt (refine list_strN rfl (by k_asm) (by k_asm) ?_ (by rw [sizeLine_eq]; omega)); intro D9 ys9 c9 h9 tk9 F9 N9 l9 m9 hS9; (try k_lt l9); (try k_sweep)) | (k_here; (with_reducible show wpAny _ _ (compareOp CmpOp.NotEq (Value.ref _) (Value.ref _)) _ _ _); k_dflt (first | refine strs_ne_nil (by is_list) (by is_list) (by ke_room) ?_ | refine strs_ne_cons (by is_list) (by is_list) (by k_asm) (by ke_room) ?_ | refine strs_ne (by is_list) (by is_list) (by first | k_asm | exact StrsAre.nil) (by first | exact StrsAre.nil | k_asm) (by ke_room) ?_)) | (k_here; (with_reducible show wpAny _ _ (compareOp CmpOp.Eq (Value.ref _) (Value.ref _)) _ _ _); k_dflt (refine strs_eq (by is_list) (by is_list) (by first | k_asm | exact StrsAre.nil) (by first | exact StrsAre.nil | k_asm) (by ke_room) ?_)) | (k_here; (with_reducible show wpAny _ _ (call (Value.builtin _) [Value.ref _, Value.int 0 _]) _ _ _); k_dflt (refine pop_first (by k_asm) (by k_asm) (by k_upd) (by (rw [sizeLine_eq]; (try have hL9 := PyProof.Rows.StrsAre.length (by assumption)); (try simp only [List.length_cons] at *); omega)) ?_; k_whole); intro h9 F9 N9; (try k_sweep)) | (k_here; (with_reducible show wpAny _ _ (call (Value.builtin "len") [Value.str _ _]) _ _ _); refine len_str (by omega) ?_) | (k_here; (with_reducible show wpAny _ _ (call (Value.builtin "len") [Value.ref _]) _ _ _); k_dflt (refine len_strsA (by is_list) (by assumption) (by ((try simp only [List.length_map]); omega)) ?_; k_whole); (try simp only [List.length_map])) | walk1 | (dsimp only; walk1) | (dsimp only; k_unfold; (try dsimp only)) | fail "no step"))
              exact Again.mk (Nat.lt_succ_of_le hr2) (tokI_mk (by assumption) hrun' hcs2 (Nat.le_trans hr2 hlr) hone2 (tok_sz hc1 hr2 hsz) (tk_t (by assumption)))
            · have hw := run3_ws (tok := tok) (n := n) (y := y) (r := r) (by assumption)
              rw [hw] at hrun
              obtain ⟨e1, e2, e3⟩ : tok = t0 ∧ n + nlOf y = n0 ∧ r = rest := by simpa using hrun
              rename News _ _ _ _ => N6
              exact Back.mk' (TokPost.mk e1 e2 e3 hcs') (by assumption) N6 (fun p hp => List.mem_append_right _ hp) lex_same
      · have hrun' := run1_ws (by assumption) hrun
        try dsimp only
        rename News _ _ _ _ => N6
        exact Again.mk (Nat.lt_succ_self _) (tokI_mk N6 ⟨rfl, hrun'⟩ hcs' hlr hone' (Nat.le_of_succ_le hsz) (tk_c (by assumption)))

end
section
theorem ex1 {α : Sort _} {P : α → Prop} {G : Prop} (h : ∃ a, P a) (k : ∀ a, P a → G) : G := let ⟨a, h⟩ := h; k a h
theorem ex2 {α β : Sort _} {P : α → β → Prop} {G : Prop} (h : ∃ a b, P a b) (k : ∀ a b, P a b → G) : G := let ⟨a, b, h⟩ := h; k a b h
theorem and2 {a b G : Prop} (h : a ∧ b) (k : a → b → G) : G := k h.1 h.2
theorem and3 {a b c G : Prop} (h : a ∧ b ∧ c) (k : a → b → c → G) : G := k h.1 h.2.1 h.2.2
theorem and4 {a b c d G : Prop} (h : a ∧ b ∧ c ∧ d) (k : a → b → c → d → G) : G := k h.1 h.2.1 h.2.2.1 h.2.2.2
theorem and5 {a b c d e G : Prop} (h : a ∧ b ∧ c ∧ d ∧ e) (k : a → b → c → d → e → G) : G := k h.1 h.2.1 h.2.2.1 h.2.2.2.1 h.2.2.2.2
theorem fix_all {X : List (Addr × Obj)} {A : Prop} {Z : List (Addr × Obj) → Prop} (d : A → Z X) : ∀ nx, nx = X ∧ A → Z nx := fun _ h => h.1 ▸ d h.2
theorem vint_all {n : Int} {Z : Value → Prop} (d : ∀ t, Z (.int n t)) : ∀ v, (∃ t, v = .int n t) → Z v := fun _ ⟨t, e⟩ => e ▸ d t
theorem str_all {x : Str} {Z : Value → Heap → Nat → Prop} (d : ∀ h' tk' t, Z (.str x t) h' tk') : ∀ r h' tk', (∃ t, r = .str x t) → Z r h' tk' := fun _ h' tk' ⟨t, e⟩ => e ▸ d h' tk' t
theorem eq_all {v : Value} {Z : Value → Heap → Nat → Prop} (d : ∀ h' tk', Z v h' tk') : ∀ r h' tk', r = v → Z r h' tk' := fun _ h' tk' e => e ▸ d h' tk'
theorem int_all {x : Int} {Z : Value → Heap → Nat → Prop} (d : ∀ h' tk' t, Z (.int x t) h' tk') : ∀ r h' tk', (∃ t, r = .int x t) → Z r h' tk' := fun _ h' tk' ⟨t, e⟩ => e ▸ d h' tk' t
def numOf (l : List Int) : Int := l.foldl (fun a c => a * 16 + c - 65) 0
theorem numOf_snoc (l : List Int) (c : Int) : numOf (l ++ [c]) = numOf l * 16 + c - 65 := by simp [numOf]
set_option maxHeartbeats 8000000 in
theorem number_spec (w : World) (x : Str) (t : Tok) : Spec PySem.Challenge.rw_sc0030_02.row.prog (fun w => Mine.hd.heap_39 w.params) w 89 [.str x t] 2 90 [] (fun r W' => (∃ t, r = .int (numOf (KStt.codes x)) t) ∧ W' = []) := by
  ((k_fill; k_dflt (refine' spec_plain ?k6_21 ?k7_21 ?h1_21 ?k9_21 ?kB_21 ?c5_21 ?c2_21 ?c3_21 ?c4_21 ?_; (case k6_21 => k_is); (case k7_21 => k_is); (case h1_21 => first | decide | exact Nat.succ_pos _); (case k9_21 => exact rfl); (case kB_21 => exact locs rfl); (case c5_21 => decide); (case c2_21 => exact rfl); (case c3_21 => exact rfl); (case c4_21 => exact rfl); k_whole)))
  intro loose mean mg mb dp un gd env outer base g L' h₁ s tk F' N' B' X' T' lW hd hu
  try dsimp only at X'
  try dsimp only
  try k_fold
  try k_lt lW
  have kM := kstMark
  k_with_none
  k_with "pyIter str" => k_state (fun pre n => n = numOf pre) "number"
  k_with "state" => rfl
  (repeat' (first |  (k_unfold; (try dsimp only)) | (k_here; (with_reducible show wpAny _ _ (eval (Expr.Name _ _) (compEnv _ _ _)) _ _ _); k_dflt (first | (refine name_locS rfl rfl rfl (by decide) (by with_reducible assumption) (by assumption) ?_; k_whole) | (refine nameG_BS rfl rfl rfl rfl (by decide) (by k_asm) (by k_asm) (by k_asm) (by k_is) (by boot_fast) (by decide) ?_; k_whole))) | (k_here; (with_reducible show wpAny _ _ (call (Value.type _) [Value.str _ _]) _ _ _); k_dflt (refine list_strN rfl (by k_asm) (by k_asm) ?_ (by rw [sizeLine_eq]; omega)); intro D9 ys9 c9 h9 tk9 F9 N9 l9 m9 hS9; (try k_lt l9); (try k_sweep)) | (k_here; (with_reducible show wpAny _ _ (compareOp CmpOp.NotEq (Value.ref _) (Value.ref _)) _ _ _); k_dflt (first | refine strs_ne_nil (by is_list) (by is_list) (by ke_room) ?_ | refine strs_ne_cons (by is_list) (by is_list) (by k_asm) (by ke_room) ?_ | refine strs_ne (by is_list) (by is_list) (by first | k_asm | exact StrsAre.nil) (by first | exact StrsAre.nil | k_asm) (by ke_room) ?_)) | (k_here; (with_reducible show wpAny _ _ (compareOp CmpOp.Eq (Value.ref _) (Value.ref _)) _ _ _); k_dflt (refine strs_eq (by is_list) (by is_list) (by first | k_asm | exact StrsAre.nil) (by first | exact StrsAre.nil | k_asm) (by ke_room) ?_)) | (k_here; (with_reducible show wpAny _ _ (call (Value.builtin _) [Value.ref _, Value.int 0 _]) _ _ _); k_dflt (refine pop_first (by k_asm) (by k_asm) (by k_upd) (by (rw [sizeLine_eq]; (try have hL9 := PyProof.Rows.StrsAre.length (by assumption)); (try simp only [List.length_cons] at *); omega)) ?_; k_whole); intro h9 F9 N9; (try k_sweep)) | (k_here; (with_reducible show wpAny _ _ (call (Value.builtin "len") [Value.str _ _]) _ _ _); refine len_str (by omega) ?_) | (k_here; (with_reducible show wpAny _ _ (call (Value.builtin "len") [Value.ref _]) _ _ _); k_dflt (refine len_strsA (by is_list) (by assumption) (by ((try simp only [List.length_map]); omega)) ?_; k_whole); (try simp only [List.length_map])) | walk1 | (dsimp only; walk1) | (dsimp only; k_unfold; (try dsimp only)) | fail "no step"))
  · with_reducible rename _ = numOf _ => hN
    refine kst_end (⟨_, _⟩ : Int × Tok) (by assumption) (by assumption) (by first | kst_in | kst_inAny) (by first | (intro p hp; kst_mem) | kst_anyIn) (by rfl) (by kst_facts) (by kst_all) (by kst_same) ?_
    show _ = numOf _
    rw [numOf_snoc, ← hN]
  · with_reducible rename _ = numOf _ => hN
    exact Back.mk' ⟨⟨_, by rw [hN]⟩, rfl⟩ (by assumption) (by assumption) (fun _ h => nomatch h) (fun _ h => nomatch h)

end
section
local macro_rules | `(tactic| walk_at "exec While Name cons nil") => `(tactic| refine hold_in ?_)
theorem bytes_add {prog : Program} {w : World} {A : Around} {E : Value → Shared → Prop} {s : Shared} {b c : Array UInt8} {t u : Tok} {Q : Value → Shared → Prop} (hsz : b.size + c.size ≤ 16777216) (h : ∀ t' k, Q (.bytes (b.toList ++ c.toList).toArray t') { s with toks := k }) : wpAny (model prog w) A (binaryOp .Add (.bytes b t) (.bytes c u)) Q E s := by
  have := bytes_add_K (prog := prog) (w := w) (A := A) (E := E) (s := s) (b := b.toList) (c := c.toList) (t := t) (u := u) (Q := Q) (by simpa using hsz) rfl h
  simpa using this
abbrev apBytes : Array UInt8 := #[65, 66, 67, 68, 69, 70, 71, 72, 73, 74, 75, 76, 77, 78, 79, 80]
def apL (n : Nat) : List UInt8 := if h : n = 0 then [] else apL (n / 16) ++ [(65 + n % 16).toUInt8]
termination_by n
decreasing_by omega
theorem apL_zero : apL 0 = [] := by unfold apL; rfl
theorem apL_step {n : Nat} (h : n ≠ 0) : apL n = apL (n / 16) ++ [(65 + n % 16).toUInt8] := by
  conv => lhs; unfold apL
  rw [dif_neg h]
theorem pick_ap : ∀ m : Nat, m < 16 → KBy.picked apBytes (some (m : Int)) (some ((m : Int) + 1)) = #[(65 + m).toUInt8] := by decide
abbrev apFr (mo : Option Value) (n : Int) (tn : Tok) (b : Array UInt8) (tb tp : Tok) : Str → Option Value := fun y => if y = Str.ofString "mod" then mo else if y = Str.ofString "num" then some (.int n tn) else if y = Str.ofString "val" then some (.bytes b tb) else if y = Str.ofString "AP" then some (.bytes apBytes tp) else none
def apI (g : Heap) (L' : Addr) (s : Shared) (P : Nat → Array UInt8 → Prop) (k : Nat) (s1 : Shared) : Prop :=
  ∃ (b : Array UInt8) (mo : Option Value) (tn tb tp : Tok) (h : Heap) (tk : Nat), s1 = { s with heap := h, toks := tk } ∧ P k b ∧ Fr g L' h (apFr mo k tn b tb tp)
theorem apI_mk {g : Heap} {L' : Addr} {s : Shared} {P : Nat → Array UInt8 → Prop} {k : Nat} {b : Array UInt8} {mo : Option Value} {tn tb tp : Tok} {h : Heap} {tk : Nat} (hP : P k b) (F : Fr g L' h (apFr mo k tn b tb tp)) : apI g L' s P k { s with heap := h, toks := tk } := ⟨b, mo, tn, tb, tp, h, tk, rfl, hP, F⟩
set_option maxHeartbeats 8000000 in
theorem ap_spec (w : World) (z : Int) (t : Tok) (hz : (apL z.natAbs).length ≤ 1000) : Spec PySem.Challenge.rw_sc0030_02.row.prog (fun w => Mine.hd.heap_39 w.params) w 70 [.int z t] 2 90 [] (fun r W' => (∃ b t, r = .bytes b t ∧ b.toList = apL z.natAbs) ∧ W' = []) := by
  ((k_fill; k_dflt (refine' spec_plain ?k6_24 ?k7_24 ?h1_24 ?k9_24 ?kB_24 ?c5_24 ?c2_24 ?c3_24 ?c4_24 ?_; (case k6_24 => k_is); (case k7_24 => k_is); (case h1_24 => first | decide | exact Nat.succ_pos _); (case k9_24 => exact rfl); (case kB_24 => exact locs rfl); (case c5_24 => decide); (case c2_24 => exact rfl); (case c3_24 => exact rfl); (case c4_24 => exact rfl); k_whole)))
  intro loose mean mg mb dp un gd env outer base g L' h₁ s tk F' N' B' X' T' lW hd hu
  try dsimp only at X'
  try dsimp only
  try k_fold
  try k_lt lW
  have kM := kstMark
  k_with_none
  (repeat' (first |  (k_unfold; (try dsimp only)) | ((with_reducible show wpAny _ _ (binaryOp Operator.Add (Value.bytes _ _) (Value.bytes _ _)) _ _ _); refine bytes_add (by assumption) ?_; intro _ _) | (k_here; (with_reducible show wpAny _ _ (subscriptTail _ (Expr.Slice _ _ none _) (Value.bytes _ _) (Value.ref _)) _ _ _); (rename Fr _ _ _ _ => F'); (rename News _ _ _ _ => N'); k_dflt (refine KBc.slice_K (s := ⟨_, _, _, _, _⟩) F' N' rfl (by constructor) (by constructor) (by decide) ?_); intro h' t' k' F' N' kbcK; (try k_sweep)) | (k_here; (with_reducible show wpAny _ _ (eval (Expr.Name _ _) (compEnv _ _ _)) _ _ _); k_dflt (first | (refine name_locS rfl rfl rfl (by decide) (by with_reducible assumption) (by assumption) ?_; k_whole) | (refine nameG_BS rfl rfl rfl rfl (by decide) (by k_asm) (by k_asm) (by k_asm) (by k_is) (by boot_fast) (by decide) ?_; k_whole))) | (k_here; (with_reducible show wpAny _ _ (call (Value.type _) [Value.str _ _]) _ _ _); k_dflt (refine list_strN rfl (by k_asm) (by k_asm) ?_ (by rw [sizeLine_eq]; omega)); intro D9 ys9 c9 h9 tk9 F9 N9 l9 m9 hS9; (try k_lt l9); (try k_sweep)) | (k_here; (with_reducible show wpAny _ _ (compareOp CmpOp.NotEq (Value.ref _) (Value.ref _)) _ _ _); k_dflt (first | refine strs_ne_nil (by is_list) (by is_list) (by ke_room) ?_ | refine strs_ne_cons (by is_list) (by is_list) (by k_asm) (by ke_room) ?_ | refine strs_ne (by is_list) (by is_list) (by first | k_asm | exact StrsAre.nil) (by first | exact StrsAre.nil | k_asm) (by ke_room) ?_)) | (k_here; (with_reducible show wpAny _ _ (compareOp CmpOp.Eq (Value.ref _) (Value.ref _)) _ _ _); k_dflt (refine strs_eq (by is_list) (by is_list) (by first | k_asm | exact StrsAre.nil) (by first | exact StrsAre.nil | k_asm) (by ke_room) ?_)) | (k_here; (with_reducible show wpAny _ _ (call (Value.builtin _) [Value.ref _, Value.int 0 _]) _ _ _); k_dflt (refine pop_first (by k_asm) (by k_asm) (by k_upd) (by (rw [sizeLine_eq]; (try have hL9 := PyProof.Rows.StrsAre.length (by assumption)); (try simp only [List.length_cons] at *); omega)) ?_; k_whole); intro h9 F9 N9; (try k_sweep)) | (k_here; (with_reducible show wpAny _ _ (call (Value.builtin "len") [Value.str _ _]) _ _ _); refine len_str (by omega) ?_) | (k_here; (with_reducible show wpAny _ _ (call (Value.builtin "len") [Value.ref _]) _ _ _); k_dflt (refine len_strsA (by is_list) (by assumption) (by ((try simp only [List.length_map]); omega)) ?_; k_whole); (try simp only [List.length_map])) | walk1 | (dsimp only; walk1) | (dsimp only; k_unfold; (try dsimp only)) | fail "no step"))
  refine hold_out ?_
  refine wpAny_While ?_
  have ez : (if z < 0 then -z else z) = (z.natAbs : Int) := by split <;> omega
  refine' while_inv (apI g L' s (fun n b => apL n ++ b.toList = apL z.natAbs)) (fun _ _ h => h) ?turn z.natAbs ?init
  case init =>
    refine' apI_mk (mo := none) (b := #[]) (tn := ?t1) (tb := ?t2) (tp := ?t3) (by simp) ?fr
    case fr => rw [← ez]; ((refine fr_to (by assumption) (fun y => ?_); by_cases h1 : y = Str.ofString "mod"; (subst h1; rfl); by_cases h2 : y = Str.ofString "num"; (subst h2; rfl); by_cases h3 : y = Str.ofString "val"; (subst h3; rfl); by_cases h4 : y = Str.ofString "AP"; (subst h4; rfl); (simp only [if_neg h1, if_neg h2, if_neg h3, if_neg h4]); (try (show (match y == Str.ofString "num" with | true => some _ | false => none) = none; rw [beq_eq_false_iff_ne.mpr h2]))))
  case turn =>
    rintro n s1 ⟨b, mo, tn, tb, tp, h, tk, rfl, hP, F2⟩
    replace hP : apL n ++ b.toList = apL z.natAbs := hP
    have N2 : News g L' h [] := News.nil
    have hlb : (apL n).length + b.size ≤ 1000 := by
      have := congrArg List.length hP
      rw [List.length_append, Array.length_toList] at this
      exact Nat.le_trans (Nat.le_of_eq this) hz
    have hm : ((n : Int).fmod 16) = ((n % 16 : Nat) : Int) := by rw [Int.fmod_eq_emod_of_nonneg _ (by decide)]; omega
    have hd2 : ((n : Int).fdiv 16) = ((n / 16 : Nat) : Int) := by rw [Int.fdiv_eq_ediv_of_nonneg _ (by decide)]; omega
    have hsz : (KBy.picked apBytes (some ((n : Int).fmod 16)) (some ((n : Int).fmod 16 + 1))).size + b.size ≤ 16777216 := by
      rw [hm, pick_ap _ (Nat.mod_lt _ (by decide))]
      show 1 + b.size ≤ _
      omega
    (repeat' (first |  (k_unfold; (try dsimp only)) | ((with_reducible show wpAny _ _ (binaryOp Operator.Add (Value.bytes _ _) (Value.bytes _ _)) _ _ _); refine bytes_add (by assumption) ?_; intro _ _) | (k_here; (with_reducible show wpAny _ _ (subscriptTail _ (Expr.Slice _ _ none _) (Value.bytes _ _) (Value.ref _)) _ _ _); (rename Fr _ _ _ _ => F'); (rename News _ _ _ _ => N'); k_dflt (refine KBc.slice_K (s := ⟨_, _, _, _, _⟩) F' N' rfl (by constructor) (by constructor) (by decide) ?_); intro h' t' k' F' N' kbcK; (try k_sweep)) | (k_here; (with_reducible show wpAny _ _ (eval (Expr.Name _ _) (compEnv _ _ _)) _ _ _); k_dflt (first | (refine name_locS rfl rfl rfl (by decide) (by with_reducible assumption) (by assumption) ?_; k_whole) | (refine nameG_BS rfl rfl rfl rfl (by decide) (by k_asm) (by k_asm) (by k_asm) (by k_is) (by boot_fast) (by decide) ?_; k_whole))) | (k_here; (with_reducible show wpAny _ _ (call (Value.type _) [Value.str _ _]) _ _ _); k_dflt (refine list_strN rfl (by k_asm) (by k_asm) ?_ (by rw [sizeLine_eq]; omega)); intro D9 ys9 c9 h9 tk9 F9 N9 l9 m9 hS9; (try k_lt l9); (try k_sweep)) | (k_here; (with_reducible show wpAny _ _ (compareOp CmpOp.NotEq (Value.ref _) (Value.ref _)) _ _ _); k_dflt (first | refine strs_ne_nil (by is_list) (by is_list) (by ke_room) ?_ | refine strs_ne_cons (by is_list) (by is_list) (by k_asm) (by ke_room) ?_ | refine strs_ne (by is_list) (by is_list) (by first | k_asm | exact StrsAre.nil) (by first | exact StrsAre.nil | k_asm) (by ke_room) ?_)) | (k_here; (with_reducible show wpAny _ _ (compareOp CmpOp.Eq (Value.ref _) (Value.ref _)) _ _ _); k_dflt (refine strs_eq (by is_list) (by is_list) (by first | k_asm | exact StrsAre.nil) (by first | exact StrsAre.nil | k_asm) (by ke_room) ?_)) | (k_here; (with_reducible show wpAny _ _ (call (Value.builtin _) [Value.ref _, Value.int 0 _]) _ _ _); k_dflt (refine pop_first (by k_asm) (by k_asm) (by k_upd) (by (rw [sizeLine_eq]; (try have hL9 := PyProof.Rows.StrsAre.length (by assumption)); (try simp only [List.length_cons] at *); omega)) ?_; k_whole); intro h9 F9 N9; (try k_sweep)) | (k_here; (with_reducible show wpAny _ _ (call (Value.builtin "len") [Value.str _ _]) _ _ _); refine len_str (by omega) ?_) | (k_here; (with_reducible show wpAny _ _ (call (Value.builtin "len") [Value.ref _]) _ _ _); k_dflt (refine len_strsA (by is_list) (by assumption) (by ((try simp only [List.length_map]); omega)) ?_; k_whole); (try simp only [List.length_map])) | walk1 | (dsimp only; walk1) | (dsimp only; k_unfold; (try dsimp only)) | fail "no step"))
    · have hn : n ≠ 0 := by omega
      rw [hm, pick_ap _ (Nat.mod_lt _ (by decide)), hd2] at *
      refine' Again.mk (m := n / 16) ?lt (apI_mk (b := ([(65 + n % 16).toUInt8] ++ b.toList).toArray) (tn := ?r1) (tb := ?r2) (tp := ?r3) (mo := ?mo) ?hp ?fr)
      case lt => omega
      case hp => rw [apL_step hn, List.append_assoc] at hP; exact hP
      case fr => ((refine fr_to (by assumption) (fun y => ?_); by_cases h1 : y = Str.ofString "mod"; (subst h1; rfl); by_cases h2 : y = Str.ofString "num"; (subst h2; rfl); by_cases h3 : y = Str.ofString "val"; (subst h3; rfl); by_cases h4 : y = Str.ofString "AP"; (subst h4; rfl); (simp only [if_neg h1, if_neg h2, if_neg h3, if_neg h4]); (try (show (match y == Str.ofString "num" with | true => some _ | false => none) = none; rw [beq_eq_false_iff_ne.mpr h2]))))
    · have hn : n = 0 := by omega
      subst hn
      rw [apL_zero] at hP
      exact Back.mk' ⟨⟨b, _, rfl, hP⟩, rfl⟩ (by assumption) (by assumption) (fun _ h => nomatch h) (fun _ h => nomatch h)

end
section
theorem paired_snd {α β : Type} {F : α → β → Prop} {l₁ : List α} {l₂ : List β} (h : Paired F l₁ l₂) : ∀ {j : Nat} {y : β}, l₂[j]? = some y → ∃ v, l₁[j]? = some v ∧ F v y := by
  induction h with
  | nil => intro j y e; cases e
  | cons hab _ ih =>
    intro j y e
    cases j with
    | zero => simp only [List.getElem?_cons_zero, Option.some.injEq] at e; subst e; exact ⟨_, rfl, hab⟩
    | succ j => exact ih (by simpa using e)
theorem strs_of_get {ys : List Value} {ss : List Str} (hl : ys.length = ss.length) (h : ∀ (j : Nat) (y : Value), ys[j]? = some y → ∃ (x : Str) (t : Tok), ss[j]? = some x ∧ y = .str x t) : StrsAre ys ss := by
  refine StrsAre.ofCarried (carriedAll_of_get _ _ (by simpa using hl) fun j v hv => ?_)
  obtain ⟨x, t, hx, rfl⟩ := h j v hv
  exact ⟨.str x, by simp [hx], .str _ _⟩
/-- a block over bytes: each int makes one text -/
theorem comp_bytes {prog : Program} {w : World} {A : Around} {E : Value → Shared → Prop} {s : Shared} {env : Env} {scope : Scope} {x : Str} {elt : Expr} {Q : Value → Shared → Prop} {b : Array UInt8} {t : Tok} {g : Heap} {L : Addr} {m : Str → Option Value} {news : List (Addr × Obj)} (f : UInt8 → Str)
    (hh : A.handled = none) (F : Fr g L s.heap m) (N : News g L s.heap news) (hsz : b.size ≤ sizeLine)
    (hel : ∀ C (c : UInt8) u s₃ m₃ E', s₃.heap.Ns C m₃ → m₃ x = some (.int (c.toNat : Int) u) → Fr g L s₃.heap m → News g L s₃.heap news → wpAny (model prog w) A (eval elt (compEnv scope C env)) (fun y s₄ => (∃ t, y = .str (f c) t) ∧ Keeps s₃ s₄) E' s₃)
    (hQ : ∀ D ys c h' tk, StrsAre ys (b.toList.map f) → Fr g L h' m → News g L h' ((D, PySem.W.listOf ys.toArray c) :: news) → (∀ p ∈ news, @Ne Nat p.1 D) → Q (.ref D) { s with heap := h', toks := tk }) :
    wpAny (model prog w) A (pyIter (.bytes b t)) (CompPost prog w A env scope x [] elt Q) E s := by
  refine KBw.pyIter_bytes ?_
  have hlt : L < s.heap.objs.size := F.ns.lt
  have old : ∀ b o, s.heap.get? b = some o → b ≠ s.heap.objs.size := fun b o e => Nat.ne_of_lt (Heap.lt_size e)
  refine ⟨fun _ => true, fun v y => ∀ (c : UInt8) u, v = .int (c.toNat : Int) u → ∃ t, y = .str (f c) t, _, _, _, b.size, _, _, rfl, KBw.walks hh _ b t, hsz, ⟨_, Heap.get?_push_size _ rfl, rfl, rfl⟩, ?_, ⟨?_, ?_⟩, ?_⟩
  · intro b hb
    rw [List.mem_singleton.mp hb, Heap.size_push]
    exact Nat.lt_succ_self _
  · intro C i v s₃ m₃ E' hP hn hm hk htk
    exact wpAny_pure ⟨rfl, s₃.heap, s₃.toks, rfl, fun _ _ e => e⟩
  · rintro C i v s₃ m₃ E' ⟨c, u, hc, rfl⟩ _ hn hm hk htk
    have hk3 : ∀ b o, s.heap.get? b = some o → s₃.heap.get? b = some o := fun b o e => hk b o (fun h => old b o e (List.mem_singleton.mp h)) (Heap.get?_push_of_some _ e)
    refine wpAny_mono (hel C c u s₃ m₃ E' hn hm (F.keeps hk3) (fun p hp => ⟨hk3 _ _ (N p hp).1, (N p hp).2⟩)) (fun y s₄ h => ⟨?_, h.2⟩) fun _ _ h => h
    rintro c' u' e
    have e1 : (c.toNat : Int) = (c'.toNat : Int) := by injection e
    have e2 : c = c' := by
      apply UInt8.toNat_inj.mp; omega
    subst e2; exact h.1
  · intro D h' tk ys vs hD hl hpl hlen hP hpair hk
    obtain ⟨c, hc⟩ := hpl
    have hk3 : ∀ b o, s.heap.get? b = some o → h'.get? b = some o := fun b o e => hk b o (fun h => old b o e (List.mem_singleton.mp h)) (Heap.get?_push_of_some _ e)
    have hDs : s.heap.get? D = none := by
      cases q : s.heap.get? D with
      | none => rfl
      | some o => rw [Heap.get?_push_of_some _ q] at hD; cases hD
    have hfv : vs.filter (fun _ => true) = vs := List.filter_eq_self.mpr fun _ _ => rfl
    rw [hfv] at hpair
    have hDL : D ≠ L := fun e => by
      obtain ⟨o, _, _, ho, _⟩ := F.ns
      rw [e, ho] at hDs; cases hDs
    have e : PySem.W.listOf ys c = PySem.W.listOf ys.toList.toArray c := by simp
    refine hQ D ys.toList c h' tk (strs_of_get ?_ fun j y hy => ?_) (F.keeps hk3) (news_to F N hk3 (e ▸ hc) hDL ?_) fun p hp q => ?_
    · rw [List.length_map, ← hpair.length, hlen, Array.length_toList]
    · obtain ⟨v, hv, hF⟩ := paired_snd hpair hy
      obtain ⟨c, u, hc, rfl⟩ := hP j v hv
      obtain ⟨t, rfl⟩ := hF c u rfl
      exact ⟨f c, t, by simp [hc], rfl⟩
    · cases q : g.get? D with
      | none => rfl
      | some o => rw [F.keep _ _ q] at hDs; cases hDs
    · have := (N p hp).1
      rw [q] at this
      rw [hDs] at this; cases this

local macro_rules | `(tactic| walk_at "call ref") => `(tactic| ((with_reducible show wpAny _ _ (call (Value.ref 70) _) _ _ _); refine hold_in ?_))
local macro_rules | `(tactic| walk_at "pyIter bytes") => `(tactic| refine hold_in ?_)
def charOf (c : UInt8) : Str := ⟨#[c.toNat]⟩
def writtenOf (n : Nat) : Str := ⟨((apL n).map UInt8.toNat).toArray⟩
theorem charOf_length (c : UInt8) : (charOf c).length = 1 := rfl
theorem sum_ones {α : Type} (f : α → Str) (h : ∀ a, (f a).length = 1) : ∀ l : List α, ((l.map f).map (·.length)).sum = l.length
  | [] => rfl
  | a :: r => by simp only [List.map_cons, List.sum_cons, h, sum_ones f h r, List.length_cons]; omega
theorem written_len {l : List UInt8} (h : l.length ≤ 1000) : ((l.map charOf).map (·.length)).sum + (l.map charOf).length * (Str.ofString "").length ≤ 16777216 := by
  rw [sum_ones _ charOf_length, show (Str.ofString "").length = 0 from rfl]; omega
theorem join_empty : ∀ ys : List Str, Txt.join (Str.ofString "") ys = ⟨(ys.flatMap (·.cps.toList)).toArray⟩ := by
  have key : ∀ (r : List Str) (acc : Array Nat), r.foldl (fun acc p => acc ++ (Str.ofString "").cps ++ p.cps) acc = acc ++ (r.flatMap (·.cps.toList)).toArray := by
    intro r
    induction r with
    | nil => intro acc; simp
    | cons y r ih =>
      intro acc
      rw [List.foldl_cons, ih, show (Str.ofString "").cps = #[] from rfl]
      apply Array.toList_inj.mp
      simp
  intro ys
  unfold Txt.join Builtin.Str.glued
  cases ys with
  | nil => rfl
  | cons y r =>
    show Str.mk (r.foldl _ y.cps) = _
    rw [key]
    congr 1
    apply Array.toList_inj.mp
    simp
theorem join_chars (l : List UInt8) : Txt.join (Str.ofString "") (l.map charOf) = ⟨(l.map UInt8.toNat).toArray⟩ := by
  rw [join_empty]
  congr 2
  induction l with
  | nil => rfl
  | cons c r ih => simp only [List.map_cons, List.flatMap_cons, ih]; rfl
set_option maxHeartbeats 8000000 in
theorem written_spec (w : World) (z : Int) (t : Tok) (hz : (apL z.natAbs).length ≤ 1000) : Spec PySem.Challenge.rw_sc0030_02.row.prog (fun w => Mine.hd.heap_39 w.params) w 82 [.int z t] 4 95 [] (fun r W' => (∃ t, r = .str (writtenOf z.natAbs) t) ∧ W' = []) := by
  ((k_fill; k_dflt (refine' spec_plain ?k6_25 ?k7_25 ?h1_25 ?k9_25 ?kB_25 ?c5_25 ?c2_25 ?c3_25 ?c4_25 ?_; (case k6_25 => k_is); (case k7_25 => k_is); (case h1_25 => first | decide | exact Nat.succ_pos _); (case k9_25 => exact rfl); (case kB_25 => exact locs rfl); (case c5_25 => decide); (case c2_25 => exact rfl); (case c3_25 => exact rfl); (case c4_25 => exact rfl); k_whole)))
  intro loose mean mg mb dp un gd env outer base g L' h₁ s tk F' N' B' X' T' lW hd hu
  try dsimp only at X'
  try dsimp only
  try k_fold
  try k_lt lW
  have kM := kstMark
  k_with_none
  (repeat' (first |  (k_unfold; (try dsimp only)) | (k_here; (with_reducible show wpAny _ _ (eval (Expr.Name _ _) (compEnv _ _ _)) _ _ _); k_dflt (first | (refine name_locS rfl rfl rfl (by decide) (by with_reducible assumption) (by assumption) ?_; k_whole) | (refine nameG_BS rfl rfl rfl rfl (by decide) (by k_asm) (by k_asm) (by k_asm) (by k_is) (by boot_fast) (by decide) ?_; k_whole))) | (k_here; (with_reducible show wpAny _ _ (call (Value.type _) [Value.str _ _]) _ _ _); k_dflt (refine list_strN rfl (by k_asm) (by k_asm) ?_ (by rw [sizeLine_eq]; omega)); intro D9 ys9 c9 h9 tk9 F9 N9 l9 m9 hS9; (try k_lt l9); (try k_sweep)) | (k_here; (with_reducible show wpAny _ _ (compareOp CmpOp.NotEq (Value.ref _) (Value.ref _)) _ _ _); k_dflt (first | refine strs_ne_nil (by is_list) (by is_list) (by ke_room) ?_ | refine strs_ne_cons (by is_list) (by is_list) (by k_asm) (by ke_room) ?_ | refine strs_ne (by is_list) (by is_list) (by first | k_asm | exact StrsAre.nil) (by first | exact StrsAre.nil | k_asm) (by ke_room) ?_)) | (k_here; (with_reducible show wpAny _ _ (compareOp CmpOp.Eq (Value.ref _) (Value.ref _)) _ _ _); k_dflt (refine strs_eq (by is_list) (by is_list) (by first | k_asm | exact StrsAre.nil) (by first | exact StrsAre.nil | k_asm) (by ke_room) ?_)) | (k_here; (with_reducible show wpAny _ _ (call (Value.builtin _) [Value.ref _, Value.int 0 _]) _ _ _); k_dflt (refine pop_first (by k_asm) (by k_asm) (by k_upd) (by (rw [sizeLine_eq]; (try have hL9 := PyProof.Rows.StrsAre.length (by assumption)); (try simp only [List.length_cons] at *); omega)) ?_; k_whole); intro h9 F9 N9; (try k_sweep)) | (k_here; (with_reducible show wpAny _ _ (call (Value.builtin "len") [Value.str _ _]) _ _ _); refine len_str (by omega) ?_) | (k_here; (with_reducible show wpAny _ _ (call (Value.builtin "len") [Value.ref _]) _ _ _); k_dflt (refine len_strsA (by is_list) (by assumption) (by ((try simp only [List.length_map]); omega)) ?_; k_whole); (try simp only [List.length_map])) | walk1 | (dsimp only; walk1) | (dsimp only; k_unfold; (try dsimp only)) | fail "no step"))
  refine hold_out ?_
  refine Spec.pure (ap_spec w z _ hz) (by assumption) (by assumption) (by assumption) (by assumption) (by assumption) rfl (by omega) (by omega) ?_
  rintro r h1 tk1 ⟨b, tb, rfl, hb⟩ F1 N1
  (repeat' (first |  (k_unfold; (try dsimp only)) | (k_here; (with_reducible show wpAny _ _ (eval (Expr.Name _ _) (compEnv _ _ _)) _ _ _); k_dflt (first | (refine name_locS rfl rfl rfl (by decide) (by with_reducible assumption) (by assumption) ?_; k_whole) | (refine nameG_BS rfl rfl rfl rfl (by decide) (by k_asm) (by k_asm) (by k_asm) (by k_is) (by boot_fast) (by decide) ?_; k_whole))) | (k_here; (with_reducible show wpAny _ _ (call (Value.type _) [Value.str _ _]) _ _ _); k_dflt (refine list_strN rfl (by k_asm) (by k_asm) ?_ (by rw [sizeLine_eq]; omega)); intro D9 ys9 c9 h9 tk9 F9 N9 l9 m9 hS9; (try k_lt l9); (try k_sweep)) | (k_here; (with_reducible show wpAny _ _ (compareOp CmpOp.NotEq (Value.ref _) (Value.ref _)) _ _ _); k_dflt (first | refine strs_ne_nil (by is_list) (by is_list) (by ke_room) ?_ | refine strs_ne_cons (by is_list) (by is_list) (by k_asm) (by ke_room) ?_ | refine strs_ne (by is_list) (by is_list) (by first | k_asm | exact StrsAre.nil) (by first | exact StrsAre.nil | k_asm) (by ke_room) ?_)) | (k_here; (with_reducible show wpAny _ _ (compareOp CmpOp.Eq (Value.ref _) (Value.ref _)) _ _ _); k_dflt (refine strs_eq (by is_list) (by is_list) (by first | k_asm | exact StrsAre.nil) (by first | exact StrsAre.nil | k_asm) (by ke_room) ?_)) | (k_here; (with_reducible show wpAny _ _ (call (Value.builtin _) [Value.ref _, Value.int 0 _]) _ _ _); k_dflt (refine pop_first (by k_asm) (by k_asm) (by k_upd) (by (rw [sizeLine_eq]; (try have hL9 := PyProof.Rows.StrsAre.length (by assumption)); (try simp only [List.length_cons] at *); omega)) ?_; k_whole); intro h9 F9 N9; (try k_sweep)) | (k_here; (with_reducible show wpAny _ _ (call (Value.builtin "len") [Value.str _ _]) _ _ _); refine len_str (by omega) ?_) | (k_here; (with_reducible show wpAny _ _ (call (Value.builtin "len") [Value.ref _]) _ _ _); k_dflt (refine len_strsA (by is_list) (by assumption) (by ((try simp only [List.length_map]); omega)) ?_; k_whole); (try simp only [List.length_map])) | walk1 | (dsimp only; walk1) | (dsimp only; k_unfold; (try dsimp only)) | fail "no step"))
  refine hold_out ?_
  refine comp_bytes charOf rfl (by assumption) (by assumption) (by rw [sizeLine_eq]; have := congrArg List.length hb; rw [Array.length_toList] at this; omega) ?_ ?_
  · intro C c u s₃ m₃ E' hn hm F3 N3
    (repeat' (first |  (k_unfold; (try dsimp only)) | (k_here; (with_reducible show wpAny _ _ (eval (Expr.Name _ _) (compEnv _ _ _)) _ _ _); k_dflt (first | (refine name_locS rfl rfl rfl (by decide) (by with_reducible assumption) (by assumption) ?_; k_whole) | (refine nameG_BS rfl rfl rfl rfl (by decide) (by k_asm) (by k_asm) (by k_asm) (by k_is) (by boot_fast) (by decide) ?_; k_whole))) | (k_here; (with_reducible show wpAny _ _ (call (Value.type _) [Value.str _ _]) _ _ _); k_dflt (refine list_strN rfl (by k_asm) (by k_asm) ?_ (by rw [sizeLine_eq]; omega)); intro D9 ys9 c9 h9 tk9 F9 N9 l9 m9 hS9; (try k_lt l9); (try k_sweep)) | (k_here; (with_reducible show wpAny _ _ (compareOp CmpOp.NotEq (Value.ref _) (Value.ref _)) _ _ _); k_dflt (first | refine strs_ne_nil (by is_list) (by is_list) (by ke_room) ?_ | refine strs_ne_cons (by is_list) (by is_list) (by k_asm) (by ke_room) ?_ | refine strs_ne (by is_list) (by is_list) (by first | k_asm | exact StrsAre.nil) (by first | exact StrsAre.nil | k_asm) (by ke_room) ?_)) | (k_here; (with_reducible show wpAny _ _ (compareOp CmpOp.Eq (Value.ref _) (Value.ref _)) _ _ _); k_dflt (refine strs_eq (by is_list) (by is_list) (by first | k_asm | exact StrsAre.nil) (by first | exact StrsAre.nil | k_asm) (by ke_room) ?_)) | (k_here; (with_reducible show wpAny _ _ (call (Value.builtin _) [Value.ref _, Value.int 0 _]) _ _ _); k_dflt (refine pop_first (by k_asm) (by k_asm) (by k_upd) (by (rw [sizeLine_eq]; (try have hL9 := PyProof.Rows.StrsAre.length (by assumption)); (try simp only [List.length_cons] at *); omega)) ?_; k_whole); intro h9 F9 N9; (try k_sweep)) | (k_here; (with_reducible show wpAny _ _ (call (Value.builtin "len") [Value.str _ _]) _ _ _); refine len_str (by omega) ?_) | (k_here; (with_reducible show wpAny _ _ (call (Value.builtin "len") [Value.ref _]) _ _ _); k_dflt (refine len_strsA (by is_list) (by assumption) (by ((try simp only [List.length_map]); omega)) ?_; k_whole); (try simp only [List.length_map])) | walk1 | (dsimp only; walk1) | (dsimp only; k_unfold; (try dsimp only)) | fail "no step"))
    refine chr_of_range (by omega) (by have := c.toNat_lt; omega) ?_
    exact ⟨⟨_, rfl⟩, s₃.heap, _, rfl, fun _ _ e => e⟩
  · intro D ys c h' tk hS F2 N2 l1
    (repeat' (first |  (k_unfold; (try dsimp only)) | (k_here; (with_reducible show wpAny _ _ (eval (Expr.Name _ _) (compEnv _ _ _)) _ _ _); k_dflt (first | (refine name_locS rfl rfl rfl (by decide) (by with_reducible assumption) (by assumption) ?_; k_whole) | (refine nameG_BS rfl rfl rfl rfl (by decide) (by k_asm) (by k_asm) (by k_asm) (by k_is) (by boot_fast) (by decide) ?_; k_whole))) | (k_here; (with_reducible show wpAny _ _ (call (Value.type _) [Value.str _ _]) _ _ _); k_dflt (refine list_strN rfl (by k_asm) (by k_asm) ?_ (by rw [sizeLine_eq]; omega)); intro D9 ys9 c9 h9 tk9 F9 N9 l9 m9 hS9; (try k_lt l9); (try k_sweep)) | (k_here; (with_reducible show wpAny _ _ (compareOp CmpOp.NotEq (Value.ref _) (Value.ref _)) _ _ _); k_dflt (first | refine strs_ne_nil (by is_list) (by is_list) (by ke_room) ?_ | refine strs_ne_cons (by is_list) (by is_list) (by k_asm) (by ke_room) ?_ | refine strs_ne (by is_list) (by is_list) (by first | k_asm | exact StrsAre.nil) (by first | exact StrsAre.nil | k_asm) (by ke_room) ?_)) | (k_here; (with_reducible show wpAny _ _ (compareOp CmpOp.Eq (Value.ref _) (Value.ref _)) _ _ _); k_dflt (refine strs_eq (by is_list) (by is_list) (by first | k_asm | exact StrsAre.nil) (by first | exact StrsAre.nil | k_asm) (by ke_room) ?_)) | (k_here; (with_reducible show wpAny _ _ (call (Value.builtin _) [Value.ref _, Value.int 0 _]) _ _ _); k_dflt (refine pop_first (by k_asm) (by k_asm) (by k_upd) (by (rw [sizeLine_eq]; (try have hL9 := PyProof.Rows.StrsAre.length (by assumption)); (try simp only [List.length_cons] at *); omega)) ?_; k_whole); intro h9 F9 N9; (try k_sweep)) | (k_here; (with_reducible show wpAny _ _ (call (Value.builtin "len") [Value.str _ _]) _ _ _); refine len_str (by omega) ?_) | (k_here; (with_reducible show wpAny _ _ (call (Value.builtin "len") [Value.ref _]) _ _ _); k_dflt (refine len_strsA (by is_list) (by assumption) (by ((try simp only [List.length_map]); omega)) ?_; k_whole); (try simp only [List.length_map])) | walk1 | (dsimp only; walk1) | (dsimp only; k_unfold; (try dsimp only)) | fail "no step"))
    refine join_list (ys := b.toList.map charOf) (by is_list) (by simpa using hS) (by rw [hb]; exact written_len hz) ?_
    intro t' k
    rw [hb, join_chars]
    (repeat' (first |  (k_unfold; (try dsimp only)) | (k_here; (with_reducible show wpAny _ _ (eval (Expr.Name _ _) (compEnv _ _ _)) _ _ _); k_dflt (first | (refine name_locS rfl rfl rfl (by decide) (by with_reducible assumption) (by assumption) ?_; k_whole) | (refine nameG_BS rfl rfl rfl rfl (by decide) (by k_asm) (by k_asm) (by k_asm) (by k_is) (by boot_fast) (by decide) ?_; k_whole))) | (k_here; (with_reducible show wpAny _ _ (call (Value.type _) [Value.str _ _]) _ _ _); k_dflt (refine list_strN rfl (by k_asm) (by k_asm) ?_ (by rw [sizeLine_eq]; omega)); intro D9 ys9 c9 h9 tk9 F9 N9 l9 m9 hS9; (try k_lt l9); (try k_sweep)) | (k_here; (with_reducible show wpAny _ _ (compareOp CmpOp.NotEq (Value.ref _) (Value.ref _)) _ _ _); k_dflt (first | refine strs_ne_nil (by is_list) (by is_list) (by ke_room) ?_ | refine strs_ne_cons (by is_list) (by is_list) (by k_asm) (by ke_room) ?_ | refine strs_ne (by is_list) (by is_list) (by first | k_asm | exact StrsAre.nil) (by first | exact StrsAre.nil | k_asm) (by ke_room) ?_)) | (k_here; (with_reducible show wpAny _ _ (compareOp CmpOp.Eq (Value.ref _) (Value.ref _)) _ _ _); k_dflt (refine strs_eq (by is_list) (by is_list) (by first | k_asm | exact StrsAre.nil) (by first | exact StrsAre.nil | k_asm) (by ke_room) ?_)) | (k_here; (with_reducible show wpAny _ _ (call (Value.builtin _) [Value.ref _, Value.int 0 _]) _ _ _); k_dflt (refine pop_first (by k_asm) (by k_asm) (by k_upd) (by (rw [sizeLine_eq]; (try have hL9 := PyProof.Rows.StrsAre.length (by assumption)); (try simp only [List.length_cons] at *); omega)) ?_; k_whole); intro h9 F9 N9; (try k_sweep)) | (k_here; (with_reducible show wpAny _ _ (call (Value.builtin "len") [Value.str _ _]) _ _ _); refine len_str (by omega) ?_) | (k_here; (with_reducible show wpAny _ _ (call (Value.builtin "len") [Value.ref _]) _ _ _); k_dflt (refine len_strsA (by is_list) (by assumption) (by ((try simp only [List.length_map]); omega)) ?_; k_whole); (try simp only [List.length_map])) | walk1 | (dsimp only; walk1) | (dsimp only; k_unfold; (try dsimp only)) | fail "no step"))
    exact Back.mk' ⟨⟨_, rfl⟩, rfl⟩ (by assumption) (by assumption) (fun _ h => nomatch h) (fun _ h => nomatch h)

end
section
theorem occ_skip (x y : Str) (hi limit : Nat) : ∀ (l r : List Nat) (st : Array Nat × Nat), (∀ i ∈ l, limit ≤ st.1.size ∨ i < st.2 ∨ hi < i + y.length ∨ Builtin.Str.subAt x y i = false) → (forIn (l ++ r) st (StrLaws.occBody x y hi limit)) = forIn r st (StrLaws.occBody x y hi limit)
  | [], r, st, _ => rfl
  | a :: l, r, st, h => by
    have ha := h a (.head _)
    rw [List.cons_append, List.forIn_cons]
    have hc : ¬ (((st.fst.size < limit ∧ st.snd ≤ a) ∧ a + y.length ≤ hi) ∧ Builtin.Str.subAt x y a = true) := by
      rintro ⟨⟨⟨h1, h2⟩, h3⟩, h4⟩
      rcases ha with h | h | h | h
      · omega
      · omega
      · omega
      · rw [h] at h4; cases h4
    unfold StrLaws.occBody
    rw [if_neg hc]
    exact occ_skip x y hi limit l r st fun i hi' => h i (.tail _ hi')
theorem occ_take {x y : Str} {hi limit a : Nat} {r : List Nat} {st : Array Nat × Nat} (h1 : st.1.size < limit) (h2 : st.2 ≤ a) (h3 : a + y.length ≤ hi) (h4 : Builtin.Str.subAt x y a = true) : forIn (a :: r) st (StrLaws.occBody x y hi limit) = forIn r (st.1.push a, a + y.length) (StrLaws.occBody x y hi limit) := by
  rw [List.forIn_cons]
  unfold StrLaws.occBody
  rw [if_pos ⟨⟨⟨h1, h2⟩, h3⟩, h4⟩]
  rfl
theorem range_at {a n k : Nat} (h : k < n) : List.range' a n = List.range' a k ++ (a + k) :: List.range' (a + k + 1) (n - k - 1) := by
  have : n = k + ((n - k - 1) + 1) := by omega
  conv => lhs; rw [this, ← List.range'_append_1]
  rfl
abbrev dots : Str := Str.ofString "..."
theorem occ_two {x y : Str} {hi limit a b : Nat} (hy : 0 < y.length) (hl : 2 ≤ limit) (ha : StrLaws.At x y hi a) (hb : StrLaws.At x y hi b) (hab : a + y.length ≤ b)
    (hn : ∀ i, i < a ∨ (a + y.length ≤ i ∧ i < b) ∨ b + y.length ≤ i → ¬ StrLaws.At x y hi i) : Builtin.Str.occurrences x y 0 hi limit = [a, b] := by
  have nf : ∀ i, i < a ∨ (a + y.length ≤ i ∧ i < b) ∨ b + y.length ≤ i → hi < i + y.length ∨ Builtin.Str.subAt x y i = false := fun i h => by
    have := hn i h
    by_cases q : i + y.length ≤ hi
    · right
      cases e : Builtin.Str.subAt x y i with
      | false => rfl
      | true => exact absurd ⟨q, e⟩ this
    · left; omega
  have h1 := ha.1
  have h2 := hb.1
  rw [StrLaws.occ_eq, range_at (k := a) (by omega), occ_skip]
  · rw [Nat.zero_add, occ_take (by show 0 < _; omega) (by exact Nat.zero_le _) ha.1 ha.2]
    have e : List.range' (a + 1) (hi + 1 - 0 - a - 1) = List.range' (a + 1) (b - (a + 1)) ++ b :: List.range' (b + 1) (hi + 1 - 0 - a - 1 - (b - (a + 1)) - 1) := by
      rw [range_at (k := b - (a + 1)) (by omega)]
      have : a + 1 + (b - (a + 1)) = b := by omega
      rw [this]
    rw [e, occ_skip, occ_take (by show 1 < _; omega) (by exact hab) hb.1 hb.2]
    · have e3 : ∀ l : List Nat, forIn l = forIn (m := Id) (β := Array Nat × Nat) (l ++ []) := by intro l; rw [List.append_nil]
      rw [e3, occ_skip]
      · rfl
      · intro i h
        have := List.mem_range'_1.mp h
        dsimp only
        by_cases q : i < b + y.length
        · right; left; exact q
        · right; right; exact nf i (by omega)
    · intro i h
      have := List.mem_range'_1.mp h
      dsimp only
      by_cases q : i < a + y.length
      · right; left; exact q
      · right; right; exact nf i (by omega)
  · intro i h
    have := List.mem_range'_1.mp h
    right; right; exact nf i (by omega)
theorem occ_one {x y : Str} {lo hi limit a : Nat} (hl : 1 ≤ limit) (hlo : lo ≤ a) (ha : StrLaws.At x y hi a)
    (hn : ∀ i, (lo ≤ i ∧ i < a) ∨ (a + y.length ≤ i ∧ a < i ∧ 1 < limit) → ¬ StrLaws.At x y hi i) : Builtin.Str.occurrences x y lo hi limit = [a] := by
  have nf : ∀ i, (lo ≤ i ∧ i < a) ∨ (a + y.length ≤ i ∧ a < i ∧ 1 < limit) → hi < i + y.length ∨ Builtin.Str.subAt x y i = false := fun i h => by
    have := hn i h
    by_cases q : i + y.length ≤ hi
    · right
      cases e : Builtin.Str.subAt x y i with
      | false => rfl
      | true => exact absurd ⟨q, e⟩ this
    · left; omega
  have h1 := ha.1
  rw [StrLaws.occ_eq, range_at (k := a - lo) (by omega), occ_skip]
  · have e : lo + (a - lo) = a := by omega
    rw [e, occ_take (by show 0 < _; omega) (by exact hlo) ha.1 ha.2]
    have e3 : ∀ l : List Nat, forIn l = forIn (m := Id) (β := Array Nat × Nat) (l ++ []) := by intro l; rw [List.append_nil]
    rw [e3, occ_skip]
    · rfl
    · intro i h
      have := List.mem_range'_1.mp h
      dsimp only
      by_cases q2 : 1 < limit
      · by_cases q : i < a + y.length
        · right; left; exact q
        · right; right; exact nf i (by omega)
      · left; show limit ≤ 1; omega
  · intro i h
    have := List.mem_range'_1.mp h
    right; right; exact nf i (by omega)
theorem at_dots {x : Str} {n i : Nat} (h : StrLaws.At x dots n i) : x.cps.toList[i]? = some 46 ∧ x.cps.toList[i + 1]? = some 46 ∧ x.cps.toList[i + 2]? = some 46 := by
  have h2 := h.2
  rw [StrLaws.subAt_eq] at h2
  have h3 : (x.cps.toList.drop i).take 3 = [46, 46, 46] := eq_of_beq h2
  have k : ∀ j, j < 3 → ((x.cps.toList.drop i).take 3)[j]? = x.cps.toList[i + j]? := fun j hj => by rw [List.getElem?_take, if_pos hj, List.getElem?_drop]
  have a := k 0 (by omega); have b := k 1 (by omega); have c := k 2 (by omega)
  rw [h3] at a b c
  exact ⟨a.symm, b.symm, c.symm⟩
theorem dots_at {x : Str} {i : Nat} {n : Nat} (hn : i + 3 ≤ n) (h : (x.cps.toList.drop i).take 3 = [46, 46, 46]) : StrLaws.At x dots n i := by
  refine ⟨hn, ?_⟩
  rw [StrLaws.subAt_eq]
  show ((x.cps.toList.drop i).take 3 == [46, 46, 46]) = true
  rw [h]; rfl
theorem sub_mk (x : Str) (i j : Nat) : Builtin.Str.strSub x i j = ⟨((x.cps.toList.drop i).take (j - i)).toArray⟩ := by
  apply StrLaws.mk_of_toList
  exact StrLaws.strSub_toList x i j
theorem kind_low (x : Str) (h : x.length ≥ 3) : (decide (x.length < dots.length) || decide (Builtin.Str.strKind x < Builtin.Str.strKind dots)) = false := by
  have e : Builtin.Str.strKind dots = 1 := by decide +kernel
  have e2 : dots.length = 3 := rfl
  have : 1 ≤ Builtin.Str.strKind x := by unfold Builtin.Str.strKind; split; (· decide); split <;> decide
  rw [e, e2]
  simp only [Bool.or_eq_false_iff, decide_eq_false_iff_not]
  omega
theorem split_of (x : Str) (h : x.length ≥ 3) {cuts : List Nat} (hc : Builtin.Str.occurrences x dots 0 x.length (x.length + 1) = cuts) (hne : cuts ≠ []) : Txt.split x dots = StrLaws.partsFrom x 3 0 cuts := by
  unfold Txt.split
  rw [kind_low x h, hc, StrLaws.partsBetween_eq]
  cases cuts with
  | nil => exact absurd rfl hne
  | cons a r => rfl
abbrev ofL (l : List Nat) : Str := ⟨l.toArray⟩
theorem get_mid {p : List Nat} (hp : ∀ c ∈ p, c ≠ 46) {r q : List Nat} {i : Nat} (h : i < p.length) (k : (q ++ (p ++ r))[q.length + i]? = some 46) : False := by
  rw [List.getElem?_append_right (by omega), Nat.add_sub_cancel_left, List.getElem?_append_left h] at k
  exact hp _ (List.mem_of_getElem? k) rfl
theorem split_mid {x : Str} {p : List Nat} (hp : ∀ c ∈ p, c ≠ 46) (hx : x.cps.toList = [46, 46, 46] ++ (p ++ [46, 46, 46])) : Txt.split x dots = [ofL [], ofL p, ofL []] := by
  have hl : x.length = p.length + 6 := by
    show x.cps.size = _
    rw [← Array.length_toList, hx]; simp only [List.length_append, List.length_cons, List.length_nil]; omega
  have hd : dots.length = 3 := rfl
  rw [split_of x (by omega) (cuts := [0, 3 + p.length]) (occ_two (by decide) (by omega) (dots_at (by omega) (by rw [hx]; rfl)) (dots_at (by omega) ?_) (by omega) ?_) (by simp)]
  · unfold StrLaws.partsFrom StrLaws.partsFrom StrLaws.partsFrom
    simp only [sub_mk, hx, hl]
    have e1 : List.take (3 + p.length - (0 + 3)) (List.drop (0 + 3) ([46, 46, 46] ++ (p ++ [46, 46, 46]))) = p := by
      show List.take (3 + p.length - 3) (p ++ [46, 46, 46]) = p
      rw [Nat.add_sub_cancel_left, List.take_left]
    have e2 : List.take (p.length + 6 - (3 + p.length + 3)) (List.drop (3 + p.length + 3) ([46, 46, 46] ++ (p ++ [46, 46, 46]))) = [] := by
      have : p.length + 6 - (3 + p.length + 3) = 0 := by omega
      rw [this]; rfl
    rw [e1, e2]
    rfl
  · rw [hx]
    have : List.drop (3 + p.length) ([46, 46, 46] ++ (p ++ [46, 46, 46])) = [46, 46, 46] := by
      rw [← List.drop_drop]; show List.drop p.length (p ++ [46, 46, 46]) = _
      rw [List.drop_left]
    rw [this]; rfl
  · intro i hi ⟨h1, h2⟩
    rw [hd] at hi
    have hd2 : i + 3 ≤ x.length := h1
    obtain ⟨k, _⟩ := at_dots (n := x.length) ⟨h1, h2⟩
    rw [hx] at k
    have hi2 : 3 ≤ i ∧ i - 3 < p.length := by omega
    exact get_mid hp hi2.2 (q := [46, 46, 46]) (r := [46, 46, 46]) (by rw [← k]; congr 1; show 3 + _ = _; omega)
theorem split_pre {x : Str} {p : List Nat} (hp : ∀ c ∈ p, c ≠ 46) (hx : x.cps.toList = [46, 46, 46] ++ p) : Txt.split x dots = [ofL [], ofL p] := by
  have hl : x.length = p.length + 3 := by
    show x.cps.size = _
    rw [← Array.length_toList, hx]; simp only [List.length_append, List.length_cons, List.length_nil]; omega
  have hd : dots.length = 3 := rfl
  rw [split_of x (by omega) (cuts := [0]) (occ_one (by omega) (by omega) (dots_at (by omega) (by rw [hx]; rfl)) ?_) (by simp)]
  · unfold StrLaws.partsFrom StrLaws.partsFrom
    simp only [sub_mk, hx, hl]
    have e1 : List.take (p.length + 3 - (0 + 3)) (List.drop (0 + 3) ([46, 46, 46] ++ p)) = p := by
      show List.take (p.length + 3 - 3) p = p
      rw [Nat.add_sub_cancel, List.take_length]
    rw [e1]
    rfl
  · intro i hi ⟨h1, h2⟩
    rw [hd] at hi
    have hd2 : i + 3 ≤ x.length := h1
    obtain ⟨k, _⟩ := at_dots (n := x.length) ⟨h1, h2⟩
    rw [hx] at k
    have hi2 : 3 ≤ i ∧ i - 3 < p.length := by omega
    exact get_mid hp hi2.2 (q := [46, 46, 46]) (r := []) (by rw [← k]; rw [List.append_nil]; congr 1; show 3 + _ = _; omega)
theorem split_post {x : Str} {p : List Nat} (hp : ∀ c ∈ p, c ≠ 46) (hx : x.cps.toList = p ++ [46, 46, 46]) : Txt.split x dots = [ofL p, ofL []] := by
  have hl : x.length = p.length + 3 := by
    show x.cps.size = _
    rw [← Array.length_toList, hx]; simp only [List.length_append, List.length_cons, List.length_nil]
  have hd : dots.length = 3 := rfl
  rw [split_of x (by omega) (cuts := [p.length]) (occ_one (by omega) (by omega) (dots_at (by omega) (by rw [hx, List.drop_left]; rfl)) ?_) (by simp)]
  · unfold StrLaws.partsFrom StrLaws.partsFrom
    simp only [sub_mk, hx, hl]
    have e1 : List.take (p.length - 0) (List.drop 0 (p ++ [46, 46, 46])) = p := by
      rw [Nat.sub_zero, List.drop_zero, List.take_left]
    rw [e1, Nat.sub_self]
    rfl
  · intro i hi ⟨h1, h2⟩
    rw [hd] at hi
    have hd2 : i + 3 ≤ x.length := h1
    obtain ⟨k, _⟩ := at_dots (n := x.length) ⟨h1, h2⟩
    rw [hx] at k
    have hi2 : i < p.length := by omega
    exact get_mid hp hi2 (q := []) (r := [46, 46, 46]) (by rw [← k, List.nil_append]; congr 1; simp)
theorem dots_in {x : Str} {i : Nat} (h : StrLaws.At x dots x.length i) : (Builtin.Str.occurrences x dots 0 x.length 1).isEmpty = false := by
  have := (StrLaws.found_iff x dots).mpr ⟨i, h.1, h.2⟩
  simpa using this
def inB {α : Type} [BEq α] (p : List α) : List α → Bool
  | [] => p.isEmpty
  | c :: r => p.isPrefixOf (c :: r) || inB p r
theorem prefix_take {α : Type} [BEq α] [LawfulBEq α] (p g : List α) : p.isPrefixOf g = true ↔ p.length ≤ g.length ∧ g.take p.length = p := by
  rw [List.isPrefixOf_iff_prefix]
  constructor
  · intro h; exact ⟨h.length_le, (List.prefix_iff_eq_take.mp h).symm⟩
  · intro h; exact List.prefix_iff_eq_take.mpr h.2.symm
theorem inB_iff {α : Type} [BEq α] [LawfulBEq α] (p : List α) : ∀ g : List α, inB p g = true ↔ ∃ i, i + p.length ≤ g.length ∧ (g.drop i).take p.length = p
  | [] => by
    unfold inB
    constructor
    · intro h
      have : p = [] := by simpa using h
      subst this; exact ⟨0, by simp⟩
    · rintro ⟨i, h, _⟩
      have : p.length = 0 := by simp only [List.length_nil] at h; omega
      simpa using List.length_eq_zero_iff.mp this
  | c :: r => by
    unfold inB
    rw [Bool.or_eq_true, prefix_take, inB_iff p r]
    constructor
    · rintro (h | ⟨i, h1, h2⟩)
      · exact ⟨0, by simpa using h.1, by simpa using h.2⟩
      · exact ⟨i + 1, by simp only [List.length_cons]; omega, by simpa using h2⟩
    · rintro ⟨i, h1, h2⟩
      cases i with
      | zero => exact .inl ⟨by simpa using h1, by simpa using h2⟩
      | succ i => exact .inr ⟨i, by simp only [List.length_cons] at h1; omega, by simpa using h2⟩
theorem starts_eq (x y : Str) : Txt.startswith x y = y.cps.toList.isPrefixOf x.cps.toList := by
  rw [Bool.eq_iff_iff, prefix_take]
  unfold Txt.startswith
  rw [StrLaws.subAt_eq]
  simp only [Bool.and_eq_true, decide_eq_true_eq, beq_iff_eq, List.drop_zero, Nat.zero_add, Array.length_toList]
  exact Iff.rfl
theorem ends_eq (x y : Str) : Txt.endswith x y = y.cps.toList.isSuffixOf x.cps.toList := by
  rw [Bool.eq_iff_iff, List.isSuffixOf_iff_suffix, List.suffix_iff_eq_drop]
  unfold Txt.endswith
  rw [StrLaws.subAt_eq]
  simp only [Bool.and_eq_true, decide_eq_true_eq, beq_iff_eq, Nat.zero_add, Array.length_toList]
  show _ ≤ x.cps.size ∧ _ ↔ _
  unfold Str.length
  constructor
  · rintro ⟨h1, h2⟩
    rw [List.take_of_length_le (by simp only [List.length_drop, Array.length_toList]; omega)] at h2
    exact h2.symm
  · intro h
    have hl := congrArg List.length h
    simp only [List.length_drop, Array.length_toList] at hl
    have h1 : y.cps.size ≤ x.cps.size := by omega
    refine ⟨h1, ?_⟩
    rw [← h, List.take_of_length_le (by simp only [Array.length_toList]; omega)]
def find4 (x y : Str) (i j : Int) : Int := match Builtin.Str.occurrences x y (PySem.fromIndex x.length i) (min (PySem.fromIndex x.length j) x.length) 1 with | k :: _ => (k : Int) | [] => -1
theorem gives_find4 (x y : Str) (i j : Int) (t u v v' : Tok) : PySem.Gives (Builtin.«str.find» ⟨[.str x t, .str y u, .int i v, .int j v'], []⟩) (.int (find4 x y i j)) := by
  unfold find4
  show PySem.Gives (match Builtin.Str.occurrences x y (PySem.fromIndex x.length i) (min (PySem.fromIndex x.length j) x.length) 1 with | k :: _ => retInt k | [] => (do rule "str.find.not-found"; retInt (-1))) _
  cases Builtin.Str.occurrences x y (PySem.fromIndex x.length i) (min (PySem.fromIndex x.length j) x.length) 1 with
  | nil => exact .rule (.of_eq rfl)
  | cons k _ => exact .of_eq rfl
theorem find4_call {prog : Program} {w : World} {A : Around} {E : Value → Shared → Prop} {s : Shared} {x y : Str} {t u v v' : Tok} {i j : Int} {Q : Value → Shared → Prop} (hq : Q (.int (find4 x y i j) s.toks) { s with toks := s.toks + 1 }) : wpAny (model prog w) A (call (.builtin "str.find") [.str x t, .str y u, .int i v, .int j v']) Q E s :=
  PySem.call_gives PySem.F.slot_str_find (PySem.typeIs_str _ _ _) PySem.F.entry_str_find (PySem.F.args_str_find_4 _ _ _ _) (gives_find4 x y i j t u v v') hq
theorem from_nat (n i : Nat) : PySem.fromIndex n (i : Int) = i := by
  unfold PySem.fromIndex
  have : ¬ ((i : Int) < 0) := by omega
  rw [if_neg this]; omega
theorem find4_none {x : Str} {i j : Nat} (h : i ≤ j) (hj : j ≤ x.length) : find4 x (ofL []) (i : Int) (j : Int) = (i : Int) := by
  unfold find4
  rw [from_nat, from_nat, Nat.min_eq_left hj, occ_one (a := i) (by omega) (by omega) ⟨h, ?_⟩ (fun k hk => ?_)]
  · rw [StrLaws.subAt_eq]; show ((List.take 0 _) == []) = true; rfl
  · have h0 : (ofL []).length = 0 := rfl
    rw [h0] at hk
    rcases hk with hk | hk <;> omega
theorem find4_some {x : Str} {p g : List Nat} (hx : x.cps.toList = g) :
    (inB p g = false ∧ find4 x (ofL p) 0 (g.length : Int) = -1) ∨ ∃ i : Nat, inB p g = true ∧ find4 x (ofL p) 0 (g.length : Int) = (i : Int) ∧ i + p.length ≤ g.length := by
  have hl : x.length = g.length := by rw [← hx, Array.length_toList]; rfl
  have hAt : ∀ i, StrLaws.At x (ofL p) x.length i ↔ i + p.length ≤ g.length ∧ (g.drop i).take p.length = p := fun i => by
    unfold StrLaws.At
    rw [StrLaws.subAt_eq, hx, hl]
    show i + p.length ≤ _ ∧ ((List.take p.length _ == p) = true) ↔ _
    rw [beq_iff_eq]
  unfold find4
  have h0 := from_nat x.length 0
  rw [← hl, from_nat, Nat.min_self]
  rw [show ((0 : Nat) : Int) = 0 from rfl] at h0
  rw [h0]
  rcases StrLaws.occ_head_from x (ofL p) 0 1 (by omega) with ⟨e, hn⟩ | ⟨i, r, e, _, ha, _⟩
  · left
    rw [e]
    refine ⟨?_, rfl⟩
    cases q : inB p g with
    | false => rfl
    | true =>
      obtain ⟨i, h1, h2⟩ := (inB_iff p g).mp q
      exact absurd ((hAt i).mpr ⟨h1, h2⟩) (hn i (by omega))
  · right
    rw [e]
    have := (hAt i).mp ha
    exact ⟨i, (inB_iff p g).mpr ⟨i, this.1, this.2⟩, rfl, by omega⟩
theorem dots_app (p : List Nat) : (Str.ofString "..." ++ ofL p).cps.toList = [46, 46, 46] ++ p := by
  rw [Str.cps_append, Array.toList_append]; rfl
theorem app_dots (p : List Nat) : (ofL p ++ Str.ofString "...").cps.toList = p ++ [46, 46, 46] := by
  rw [Str.cps_append, Array.toList_append]; rfl
theorem dots_app_dots (p : List Nat) : (Str.ofString "..." ++ ofL p ++ Str.ofString "...").cps.toList = [46, 46, 46] ++ (p ++ [46, 46, 46]) := by
  rw [Str.cps_append, Str.cps_append, Array.toList_append, Array.toList_append, List.append_assoc]; rfl
theorem slice_mid (l : List Nat) (a b : Nat) (h : a ≤ b) (hb : b ≤ l.length) : Txt.slice (ofL l) (some (a : Int)) (some (b : Int)) = ofL ((l.drop a).take (b - a)) :=
  (StrLaws.sliceText_plain (x := ofL l) ⟨by omega, by omega, by show (b : Int) ≤ (l.length : Int); omega⟩).trans (by
    have e1 : ((a : Nat) : Int).toNat = a := by omega
    have e2 : ((b : Int) - (a : Int)).toNat = b - a := by omega
    rw [e1, e2])
theorem slice_to (l : List Nat) (n : Nat) (hn : n ≤ l.length) : Txt.slice (ofL l) none (some (n : Int)) = ofL (l.take n) :=
  (StrLaws.sliceText_to (x := ofL l) ⟨by omega, by show (n : Int) ≤ (l.length : Int); omega⟩).trans (by
    have e2 : ((n : Int) - 0).toNat = n := by omega
    rw [e2]; rfl)
theorem slice_from (l : List Nat) (n : Nat) (hn : n ≤ l.length) : Txt.slice (ofL l) (some (n : Int)) none = ofL (l.drop n) :=
  (StrLaws.sliceText_from (x := ofL l) ⟨by omega, by show (n : Int) ≤ (l.length : Int); omega⟩).trans (by
    have e1 : ((n : Nat) : Int).toNat = n := by omega
    have e2 : (((ofL l).cps.toList.length : Int) - (n : Int)).toNat = l.length - n := by show ((l.length : Int) - _).toNat = _; omega
    rw [e1, e2]
    show ofL _ = _
    rw [List.take_of_length_le (by rw [List.length_drop]; exact Nat.le_refl _)])
theorem slice_in (l : List Nat) (h : 2 ≤ l.length) : Txt.slice (ofL l) (some 1) (some (-1)) = ofL ((l.drop 1).take (l.length - 2)) := by
  have e := StrLaws.sliceText_neg_hi (ofL l) (some 1) (j := -1) (by decide) (by show -(l.length : Int) ≤ -1; omega)
  have e3 : ((-1 : Int) + ((ofL l).length : Int)) = ((l.length - 1 : Nat) : Int) := by show (-1 : Int) + (l.length : Int) = _; omega
  rw [e3] at e
  refine e.trans ?_
  have := slice_mid l 1 (l.length - 1) (by omega) (by omega)
  have e4 : l.length - 1 - 1 = l.length - 2 := by omega
  rw [e4] at this
  exact this

end
section
local macro_rules | `(tactic| walk_at "call builtin:str.split") => `(tactic| refine hold_in ?_)
local macro_rules | `(tactic| walk_at "call builtin:str.startswith") => `(tactic| (refine SC.startswith ?_))
local macro_rules | `(tactic| walk_at "call builtin:str.endswith") => `(tactic| (refine SC.endswith ?_))
local macro_rules | `(tactic| walk_at "call builtin:str.find") => `(tactic| refine hold_in ?_)
set_option pp.maxSteps 3000
set_option maxHeartbeats 8000000 in
theorem ell_mid (w : World) (x y : Str) (p gl : List Nat) (t t' : Tok) (hp : ∀ c ∈ p, c ≠ 46) (hx : x.cps.toList = [46, 46, 46] ++ (p ++ [46, 46, 46])) (hy : y.cps.toList = gl) (hl : p.length ≤ 100) (hg : gl.length ≤ 100) : Spec PySem.Challenge.rw_sc0030_02.row.prog (fun w => Mine.hd.heap_39 w.params) w 63 [.str x t, .str y t'] 2 90 [] (fun r W' => r = .bool (inB p gl) ∧ W' = []) := by
  ((k_fill; k_dflt (refine' spec_plain ?k6_28 ?k7_28 ?h1_28 ?k9_28 ?kB_28 ?c5_28 ?c2_28 ?c3_28 ?c4_28 ?_; (case k6_28 => k_is); (case k7_28 => k_is); (case h1_28 => first | decide | exact Nat.succ_pos _); (case k9_28 => exact rfl); (case kB_28 => exact locs rfl); (case c5_28 => decide); (case c2_28 => exact rfl); (case c3_28 => exact rfl); (case c4_28 => exact rfl); k_whole)))
  intro loose mean mg mb dp un gd env outer base g L' h₁ s tk F' N' B' X' T' lW hd hu
  try dsimp only at X'
  try dsimp only
  try k_fold
  try k_lt lW
  have kM := kstMark
  k_with_none
  have hxl : x.length = p.length + 6 := by
    show x.cps.size = _
    rw [← Array.length_toList, hx]; simp only [List.length_append, List.length_cons, List.length_nil]; omega
  have hyl : y.length = gl.length := by rw [← hy, Array.length_toList]; rfl
  have hin : (Builtin.Str.occurrences x (Str.ofString "...") 0 x.length 1).isEmpty = false := dots_in (i := 0) (dots_at (by omega) (by rw [hx]; rfl))
  (repeat' (first |  (k_unfold; (try dsimp only)) | (k_here; (with_reducible show wpAny _ _ (eval (Expr.Name _ _) (compEnv _ _ _)) _ _ _); k_dflt (first | (refine name_locS rfl rfl rfl (by decide) (by with_reducible assumption) (by assumption) ?_; k_whole) | (refine nameG_BS rfl rfl rfl rfl (by decide) (by k_asm) (by k_asm) (by k_asm) (by k_is) (by boot_fast) (by decide) ?_; k_whole))) | (k_here; (with_reducible show wpAny _ _ (call (Value.type _) [Value.str _ _]) _ _ _); k_dflt (refine list_strN rfl (by k_asm) (by k_asm) ?_ (by rw [sizeLine_eq]; omega)); intro D9 ys9 c9 h9 tk9 F9 N9 l9 m9 hS9; (try k_lt l9); (try k_sweep)) | (k_here; (with_reducible show wpAny _ _ (compareOp CmpOp.NotEq (Value.ref _) (Value.ref _)) _ _ _); k_dflt (first | refine strs_ne_nil (by is_list) (by is_list) (by ke_room) ?_ | refine strs_ne_cons (by is_list) (by is_list) (by k_asm) (by ke_room) ?_ | refine strs_ne (by is_list) (by is_list) (by first | k_asm | exact StrsAre.nil) (by first | exact StrsAre.nil | k_asm) (by ke_room) ?_)) | (k_here; (with_reducible show wpAny _ _ (compareOp CmpOp.Eq (Value.ref _) (Value.ref _)) _ _ _); k_dflt (refine strs_eq (by is_list) (by is_list) (by first | k_asm | exact StrsAre.nil) (by first | exact StrsAre.nil | k_asm) (by ke_room) ?_)) | (k_here; (with_reducible show wpAny _ _ (call (Value.builtin _) [Value.ref _, Value.int 0 _]) _ _ _); k_dflt (refine pop_first (by k_asm) (by k_asm) (by k_upd) (by (rw [sizeLine_eq]; (try have hL9 := PyProof.Rows.StrsAre.length (by assumption)); (try simp only [List.length_cons] at *); omega)) ?_; k_whole); intro h9 F9 N9; (try k_sweep)) | (k_here; (with_reducible show wpAny _ _ (call (Value.builtin "len") [Value.str _ _]) _ _ _); refine len_str (by omega) ?_) | (k_here; (with_reducible show wpAny _ _ (call (Value.builtin "len") [Value.ref _]) _ _ _); k_dflt (refine len_strsA (by is_list) (by assumption) (by ((try simp only [List.length_map]); omega)) ?_; k_whole); (try simp only [List.length_map])) | walk1 | (dsimp only; walk1) | (dsimp only; k_unfold; (try dsimp only)) | fail "no step"))
  refine hold_out ?_
  refine KSpl.split1 (by k_asm) (by k_asm) (by decide) ?_ (by rw [sizeLine_eq]; omega)
  intro D' l' h' k' e' a' F' N' l1
  rw [split_mid hp hx] at e'
  kspl_open e'
  simp only [strValues, List.map_cons, List.map_nil] at N' a'
  try k_lt l1
  have hel : (ofL []).length = 0 := rfl
  have hpl : (ofL p).length = p.length := rfl
  have hf0 : find4 y (ofL []) 0 (y.length : Int) = 0 := find4_none (i := 0) (by omega) (Nat.le_refl _)
  (repeat' (first |  (k_unfold; (try dsimp only)) | (k_here; (with_reducible show wpAny _ _ (eval (Expr.Name _ _) (compEnv _ _ _)) _ _ _); k_dflt (first | (refine name_locS rfl rfl rfl (by decide) (by with_reducible assumption) (by assumption) ?_; k_whole) | (refine nameG_BS rfl rfl rfl rfl (by decide) (by k_asm) (by k_asm) (by k_asm) (by k_is) (by boot_fast) (by decide) ?_; k_whole))) | (k_here; (with_reducible show wpAny _ _ (call (Value.type _) [Value.str _ _]) _ _ _); k_dflt (refine list_strN rfl (by k_asm) (by k_asm) ?_ (by rw [sizeLine_eq]; omega)); intro D9 ys9 c9 h9 tk9 F9 N9 l9 m9 hS9; (try k_lt l9); (try k_sweep)) | (k_here; (with_reducible show wpAny _ _ (compareOp CmpOp.NotEq (Value.ref _) (Value.ref _)) _ _ _); k_dflt (first | refine strs_ne_nil (by is_list) (by is_list) (by ke_room) ?_ | refine strs_ne_cons (by is_list) (by is_list) (by k_asm) (by ke_room) ?_ | refine strs_ne (by is_list) (by is_list) (by first | k_asm | exact StrsAre.nil) (by first | exact StrsAre.nil | k_asm) (by ke_room) ?_)) | (k_here; (with_reducible show wpAny _ _ (compareOp CmpOp.Eq (Value.ref _) (Value.ref _)) _ _ _); k_dflt (refine strs_eq (by is_list) (by is_list) (by first | k_asm | exact StrsAre.nil) (by first | exact StrsAre.nil | k_asm) (by ke_room) ?_)) | (k_here; (with_reducible show wpAny _ _ (call (Value.builtin _) [Value.ref _, Value.int 0 _]) _ _ _); k_dflt (refine pop_first (by k_asm) (by k_asm) (by k_upd) (by (rw [sizeLine_eq]; (try have hL9 := PyProof.Rows.StrsAre.length (by assumption)); (try simp only [List.length_cons] at *); omega)) ?_; k_whole); intro h9 F9 N9; (try k_sweep)) | (k_here; (with_reducible show wpAny _ _ (call (Value.builtin "len") [Value.str _ _]) _ _ _); refine len_str (by omega) ?_) | (k_here; (with_reducible show wpAny _ _ (call (Value.builtin "len") [Value.ref _]) _ _ _); k_dflt (refine len_strsA (by is_list) (by assumption) (by ((try simp only [List.length_map]); omega)) ?_; k_whole); (try simp only [List.length_map])) | walk1 | (dsimp only; walk1) | (dsimp only; k_unfold; (try dsimp only)) | fail "no step"))
  refine hold_out ?_
  refine find4_call ?_
  rw [hf0]
  (repeat' (first |  (k_unfold; (try dsimp only)) | (k_here; (with_reducible show wpAny _ _ (eval (Expr.Name _ _) (compEnv _ _ _)) _ _ _); k_dflt (first | (refine name_locS rfl rfl rfl (by decide) (by with_reducible assumption) (by assumption) ?_; k_whole) | (refine nameG_BS rfl rfl rfl rfl (by decide) (by k_asm) (by k_asm) (by k_asm) (by k_is) (by boot_fast) (by decide) ?_; k_whole))) | (k_here; (with_reducible show wpAny _ _ (call (Value.type _) [Value.str _ _]) _ _ _); k_dflt (refine list_strN rfl (by k_asm) (by k_asm) ?_ (by rw [sizeLine_eq]; omega)); intro D9 ys9 c9 h9 tk9 F9 N9 l9 m9 hS9; (try k_lt l9); (try k_sweep)) | (k_here; (with_reducible show wpAny _ _ (compareOp CmpOp.NotEq (Value.ref _) (Value.ref _)) _ _ _); k_dflt (first | refine strs_ne_nil (by is_list) (by is_list) (by ke_room) ?_ | refine strs_ne_cons (by is_list) (by is_list) (by k_asm) (by ke_room) ?_ | refine strs_ne (by is_list) (by is_list) (by first | k_asm | exact StrsAre.nil) (by first | exact StrsAre.nil | k_asm) (by ke_room) ?_)) | (k_here; (with_reducible show wpAny _ _ (compareOp CmpOp.Eq (Value.ref _) (Value.ref _)) _ _ _); k_dflt (refine strs_eq (by is_list) (by is_list) (by first | k_asm | exact StrsAre.nil) (by first | exact StrsAre.nil | k_asm) (by ke_room) ?_)) | (k_here; (with_reducible show wpAny _ _ (call (Value.builtin _) [Value.ref _, Value.int 0 _]) _ _ _); k_dflt (refine pop_first (by k_asm) (by k_asm) (by k_upd) (by (rw [sizeLine_eq]; (try have hL9 := PyProof.Rows.StrsAre.length (by assumption)); (try simp only [List.length_cons] at *); omega)) ?_; k_whole); intro h9 F9 N9; (try k_sweep)) | (k_here; (with_reducible show wpAny _ _ (call (Value.builtin "len") [Value.str _ _]) _ _ _); refine len_str (by omega) ?_) | (k_here; (with_reducible show wpAny _ _ (call (Value.builtin "len") [Value.ref _]) _ _ _); k_dflt (refine len_strsA (by is_list) (by assumption) (by ((try simp only [List.length_map]); omega)) ?_; k_whole); (try simp only [List.length_map])) | walk1 | (dsimp only; walk1) | (dsimp only; k_unfold; (try dsimp only)) | fail "no step"))
  refine hold_out ?_
  refine find4_call ?_
  have e0 : (0 : Int) + ((ofL []).length : Int) = 0 := rfl
  rw [e0]
  rcases find4_some (p := p) hy with ⟨hi, e⟩ | ⟨i, hi, e, hle⟩
  · rw [hyl, e]
    (repeat' (first |  (k_unfold; (try dsimp only)) | (k_here; (with_reducible show wpAny _ _ (eval (Expr.Name _ _) (compEnv _ _ _)) _ _ _); k_dflt (first | (refine name_locS rfl rfl rfl (by decide) (by with_reducible assumption) (by assumption) ?_; k_whole) | (refine nameG_BS rfl rfl rfl rfl (by decide) (by k_asm) (by k_asm) (by k_asm) (by k_is) (by boot_fast) (by decide) ?_; k_whole))) | (k_here; (with_reducible show wpAny _ _ (call (Value.type _) [Value.str _ _]) _ _ _); k_dflt (refine list_strN rfl (by k_asm) (by k_asm) ?_ (by rw [sizeLine_eq]; omega)); intro D9 ys9 c9 h9 tk9 F9 N9 l9 m9 hS9; (try k_lt l9); (try k_sweep)) | (k_here; (with_reducible show wpAny _ _ (compareOp CmpOp.NotEq (Value.ref _) (Value.ref _)) _ _ _); k_dflt (first | refine strs_ne_nil (by is_list) (by is_list) (by ke_room) ?_ | refine strs_ne_cons (by is_list) (by is_list) (by k_asm) (by ke_room) ?_ | refine strs_ne (by is_list) (by is_list) (by first | k_asm | exact StrsAre.nil) (by first | exact StrsAre.nil | k_asm) (by ke_room) ?_)) | (k_here; (with_reducible show wpAny _ _ (compareOp CmpOp.Eq (Value.ref _) (Value.ref _)) _ _ _); k_dflt (refine strs_eq (by is_list) (by is_list) (by first | k_asm | exact StrsAre.nil) (by first | exact StrsAre.nil | k_asm) (by ke_room) ?_)) | (k_here; (with_reducible show wpAny _ _ (call (Value.builtin _) [Value.ref _, Value.int 0 _]) _ _ _); k_dflt (refine pop_first (by k_asm) (by k_asm) (by k_upd) (by (rw [sizeLine_eq]; (try have hL9 := PyProof.Rows.StrsAre.length (by assumption)); (try simp only [List.length_cons] at *); omega)) ?_; k_whole); intro h9 F9 N9; (try k_sweep)) | (k_here; (with_reducible show wpAny _ _ (call (Value.builtin "len") [Value.str _ _]) _ _ _); refine len_str (by omega) ?_) | (k_here; (with_reducible show wpAny _ _ (call (Value.builtin "len") [Value.ref _]) _ _ _); k_dflt (refine len_strsA (by is_list) (by assumption) (by ((try simp only [List.length_map]); omega)) ?_; k_whole); (try simp only [List.length_map])) | walk1 | (dsimp only; walk1) | (dsimp only; k_unfold; (try dsimp only)) | fail "no step"))
    exact Back.mk' ⟨by rw [hi], rfl⟩ (by assumption) (by assumption) (fun _ h => nomatch h) (fun _ h => nomatch h)
  · rw [hyl, e]
    (repeat' (first |  (k_unfold; (try dsimp only)) | (k_here; (with_reducible show wpAny _ _ (eval (Expr.Name _ _) (compEnv _ _ _)) _ _ _); k_dflt (first | (refine name_locS rfl rfl rfl (by decide) (by with_reducible assumption) (by assumption) ?_; k_whole) | (refine nameG_BS rfl rfl rfl rfl (by decide) (by k_asm) (by k_asm) (by k_asm) (by k_is) (by boot_fast) (by decide) ?_; k_whole))) | (k_here; (with_reducible show wpAny _ _ (call (Value.type _) [Value.str _ _]) _ _ _); k_dflt (refine list_strN rfl (by k_asm) (by k_asm) ?_ (by rw [sizeLine_eq]; omega)); intro D9 ys9 c9 h9 tk9 F9 N9 l9 m9 hS9; (try k_lt l9); (try k_sweep)) | (k_here; (with_reducible show wpAny _ _ (compareOp CmpOp.NotEq (Value.ref _) (Value.ref _)) _ _ _); k_dflt (first | refine strs_ne_nil (by is_list) (by is_list) (by ke_room) ?_ | refine strs_ne_cons (by is_list) (by is_list) (by k_asm) (by ke_room) ?_ | refine strs_ne (by is_list) (by is_list) (by first | k_asm | exact StrsAre.nil) (by first | exact StrsAre.nil | k_asm) (by ke_room) ?_)) | (k_here; (with_reducible show wpAny _ _ (compareOp CmpOp.Eq (Value.ref _) (Value.ref _)) _ _ _); k_dflt (refine strs_eq (by is_list) (by is_list) (by first | k_asm | exact StrsAre.nil) (by first | exact StrsAre.nil | k_asm) (by ke_room) ?_)) | (k_here; (with_reducible show wpAny _ _ (call (Value.builtin _) [Value.ref _, Value.int 0 _]) _ _ _); k_dflt (refine pop_first (by k_asm) (by k_asm) (by k_upd) (by (rw [sizeLine_eq]; (try have hL9 := PyProof.Rows.StrsAre.length (by assumption)); (try simp only [List.length_cons] at *); omega)) ?_; k_whole); intro h9 F9 N9; (try k_sweep)) | (k_here; (with_reducible show wpAny _ _ (call (Value.builtin "len") [Value.str _ _]) _ _ _); refine len_str (by omega) ?_) | (k_here; (with_reducible show wpAny _ _ (call (Value.builtin "len") [Value.ref _]) _ _ _); k_dflt (refine len_strsA (by is_list) (by assumption) (by ((try simp only [List.length_map]); omega)) ?_; k_whole); (try simp only [List.length_map])) | walk1 | (dsimp only; walk1) | (dsimp only; k_unfold; (try dsimp only)) | fail "no step"))
    refine hold_out ?_
    refine find4_call ?_
    have e2 : ((i : Int) + ((ofL p).length : Int)) = ((i + p.length : Nat) : Int) := by rw [hpl]; omega
    rw [e2, find4_none (by omega) (by omega)]
    (repeat' (first |  (k_unfold; (try dsimp only)) | (k_here; (with_reducible show wpAny _ _ (eval (Expr.Name _ _) (compEnv _ _ _)) _ _ _); k_dflt (first | (refine name_locS rfl rfl rfl (by decide) (by with_reducible assumption) (by assumption) ?_; k_whole) | (refine nameG_BS rfl rfl rfl rfl (by decide) (by k_asm) (by k_asm) (by k_asm) (by k_is) (by boot_fast) (by decide) ?_; k_whole))) | (k_here; (with_reducible show wpAny _ _ (call (Value.type _) [Value.str _ _]) _ _ _); k_dflt (refine list_strN rfl (by k_asm) (by k_asm) ?_ (by rw [sizeLine_eq]; omega)); intro D9 ys9 c9 h9 tk9 F9 N9 l9 m9 hS9; (try k_lt l9); (try k_sweep)) | (k_here; (with_reducible show wpAny _ _ (compareOp CmpOp.NotEq (Value.ref _) (Value.ref _)) _ _ _); k_dflt (first | refine strs_ne_nil (by is_list) (by is_list) (by ke_room) ?_ | refine strs_ne_cons (by is_list) (by is_list) (by k_asm) (by ke_room) ?_ | refine strs_ne (by is_list) (by is_list) (by first | k_asm | exact StrsAre.nil) (by first | exact StrsAre.nil | k_asm) (by ke_room) ?_)) | (k_here; (with_reducible show wpAny _ _ (compareOp CmpOp.Eq (Value.ref _) (Value.ref _)) _ _ _); k_dflt (refine strs_eq (by is_list) (by is_list) (by first | k_asm | exact StrsAre.nil) (by first | exact StrsAre.nil | k_asm) (by ke_room) ?_)) | (k_here; (with_reducible show wpAny _ _ (call (Value.builtin _) [Value.ref _, Value.int 0 _]) _ _ _); k_dflt (refine pop_first (by k_asm) (by k_asm) (by k_upd) (by (rw [sizeLine_eq]; (try have hL9 := PyProof.Rows.StrsAre.length (by assumption)); (try simp only [List.length_cons] at *); omega)) ?_; k_whole); intro h9 F9 N9; (try k_sweep)) | (k_here; (with_reducible show wpAny _ _ (call (Value.builtin "len") [Value.str _ _]) _ _ _); refine len_str (by omega) ?_) | (k_here; (with_reducible show wpAny _ _ (call (Value.builtin "len") [Value.ref _]) _ _ _); k_dflt (refine len_strsA (by is_list) (by assumption) (by ((try simp only [List.length_map]); omega)) ?_; k_whole); (try simp only [List.length_map])) | walk1 | (dsimp only; walk1) | (dsimp only; k_unfold; (try dsimp only)) | fail "no step"))
    exact Back.mk' ⟨by rw [hi], rfl⟩ (by assumption) (by assumption) (fun _ h => nomatch h) (fun _ h => nomatch h)
set_option maxHeartbeats 8000000 in
theorem ell_pre (w : World) (x y : Str) (p gl : List Nat) (t t' : Tok) (hp : ∀ c ∈ p, c ≠ 46) (hx : x.cps.toList = [46, 46, 46] ++ p) (hy : y.cps.toList = gl) (hpn : 1 ≤ p.length) (hl : p.length ≤ 100) (hg : gl.length ≤ 100) : Spec PySem.Challenge.rw_sc0030_02.row.prog (fun w => Mine.hd.heap_39 w.params) w 63 [.str x t, .str y t'] 2 90 [] (fun r W' => r = .bool (p.isSuffixOf gl) ∧ W' = []) := by
  ((k_fill; k_dflt (refine' spec_plain ?k6_27 ?k7_27 ?h1_27 ?k9_27 ?kB_27 ?c5_27 ?c2_27 ?c3_27 ?c4_27 ?_; (case k6_27 => k_is); (case k7_27 => k_is); (case h1_27 => first | decide | exact Nat.succ_pos _); (case k9_27 => exact rfl); (case kB_27 => exact locs rfl); (case c5_27 => decide); (case c2_27 => exact rfl); (case c3_27 => exact rfl); (case c4_27 => exact rfl); k_whole)))
  intro loose mean mg mb dp un gd env outer base g L' h₁ s tk F' N' B' X' T' lW hd hu
  try dsimp only at X'
  try dsimp only
  try k_fold
  try k_lt lW
  have kM := kstMark
  k_with_none
  have hxl : x.length = p.length + 3 := by
    show x.cps.size = _
    rw [← Array.length_toList, hx]; simp only [List.length_append, List.length_cons, List.length_nil]; omega
  have hyl : y.length = gl.length := by rw [← hy, Array.length_toList]; rfl
  have hin : (Builtin.Str.occurrences x (Str.ofString "...") 0 x.length 1).isEmpty = false := dots_in (i := 0) (dots_at (by omega) (by rw [hx]; rfl))
  (repeat' (first |  (k_unfold; (try dsimp only)) | ((with_reducible show wpAny _ _ (truthy (Value.str _ _)) _ _ _); refine KXt.truthy_pos (by with_reducible assumption) (by with_reducible assumption) (by decide) ?_; intro _) | (k_here; (with_reducible show wpAny _ _ (eval (Expr.Name _ _) (compEnv _ _ _)) _ _ _); k_dflt (first | (refine name_locS rfl rfl rfl (by decide) (by with_reducible assumption) (by assumption) ?_; k_whole) | (refine nameG_BS rfl rfl rfl rfl (by decide) (by k_asm) (by k_asm) (by k_asm) (by k_is) (by boot_fast) (by decide) ?_; k_whole))) | (k_here; (with_reducible show wpAny _ _ (call (Value.type _) [Value.str _ _]) _ _ _); k_dflt (refine list_strN rfl (by k_asm) (by k_asm) ?_ (by rw [sizeLine_eq]; omega)); intro D9 ys9 c9 h9 tk9 F9 N9 l9 m9 hS9; (try k_lt l9); (try k_sweep)) | (k_here; (with_reducible show wpAny _ _ (compareOp CmpOp.NotEq (Value.ref _) (Value.ref _)) _ _ _); k_dflt (first | refine strs_ne_nil (by is_list) (by is_list) (by ke_room) ?_ | refine strs_ne_cons (by is_list) (by is_list) (by k_asm) (by ke_room) ?_ | refine strs_ne (by is_list) (by is_list) (by first | k_asm | exact StrsAre.nil) (by first | exact StrsAre.nil | k_asm) (by ke_room) ?_)) | (k_here; (with_reducible show wpAny _ _ (compareOp CmpOp.Eq (Value.ref _) (Value.ref _)) _ _ _); k_dflt (refine strs_eq (by is_list) (by is_list) (by first | k_asm | exact StrsAre.nil) (by first | exact StrsAre.nil | k_asm) (by ke_room) ?_)) | (k_here; (with_reducible show wpAny _ _ (call (Value.builtin _) [Value.ref _, Value.int 0 _]) _ _ _); k_dflt (refine pop_first (by k_asm) (by k_asm) (by k_upd) (by (rw [sizeLine_eq]; (try have hL9 := PyProof.Rows.StrsAre.length (by assumption)); (try simp only [List.length_cons] at *); omega)) ?_; k_whole); intro h9 F9 N9; (try k_sweep)) | (k_here; (with_reducible show wpAny _ _ (call (Value.builtin "len") [Value.str _ _]) _ _ _); refine len_str (by omega) ?_) | (k_here; (with_reducible show wpAny _ _ (call (Value.builtin "len") [Value.ref _]) _ _ _); k_dflt (refine len_strsA (by is_list) (by assumption) (by ((try simp only [List.length_map]); omega)) ?_; k_whole); (try simp only [List.length_map])) | walk1 | (dsimp only; walk1) | (dsimp only; k_unfold; (try dsimp only)) | fail "no step"))
  refine hold_out ?_
  refine KSpl.split1 (by k_asm) (by k_asm) (by decide) ?_ (by rw [sizeLine_eq]; omega)
  intro D' l' h' k' e' a' F' N' l1
  rw [split_pre hp hx] at e'
  kspl_open e'
  simp only [strValues, List.map_cons, List.map_nil] at N' a'
  try k_lt l1
  have hel : (ofL []).length = 0 := rfl
  have hpl : (ofL p).length = p.length := rfl
  have hpp : 1 ≤ (ofL p).length := hpn
  have hpq : (ofL p).length ≤ 100 := hl
  have hes : Txt.endswith y (ofL p) = p.isSuffixOf gl := by rw [ends_eq, hy]
  have hle : p.isSuffixOf gl = true → p.length ≤ gl.length := fun h => (List.isSuffixOf_iff_suffix.mp h).length_le
  (repeat' (first |  (k_unfold; (try dsimp only)) | ((with_reducible show wpAny _ _ (truthy (Value.str _ _)) _ _ _); refine KXt.truthy_pos (by with_reducible assumption) (by with_reducible assumption) (by decide) ?_; intro _) | (k_here; (with_reducible show wpAny _ _ (eval (Expr.Name _ _) (compEnv _ _ _)) _ _ _); k_dflt (first | (refine name_locS rfl rfl rfl (by decide) (by with_reducible assumption) (by assumption) ?_; k_whole) | (refine nameG_BS rfl rfl rfl rfl (by decide) (by k_asm) (by k_asm) (by k_asm) (by k_is) (by boot_fast) (by decide) ?_; k_whole))) | (k_here; (with_reducible show wpAny _ _ (call (Value.type _) [Value.str _ _]) _ _ _); k_dflt (refine list_strN rfl (by k_asm) (by k_asm) ?_ (by rw [sizeLine_eq]; omega)); intro D9 ys9 c9 h9 tk9 F9 N9 l9 m9 hS9; (try k_lt l9); (try k_sweep)) | (k_here; (with_reducible show wpAny _ _ (compareOp CmpOp.NotEq (Value.ref _) (Value.ref _)) _ _ _); k_dflt (first | refine strs_ne_nil (by is_list) (by is_list) (by ke_room) ?_ | refine strs_ne_cons (by is_list) (by is_list) (by k_asm) (by ke_room) ?_ | refine strs_ne (by is_list) (by is_list) (by first | k_asm | exact StrsAre.nil) (by first | exact StrsAre.nil | k_asm) (by ke_room) ?_)) | (k_here; (with_reducible show wpAny _ _ (compareOp CmpOp.Eq (Value.ref _) (Value.ref _)) _ _ _); k_dflt (refine strs_eq (by is_list) (by is_list) (by first | k_asm | exact StrsAre.nil) (by first | exact StrsAre.nil | k_asm) (by ke_room) ?_)) | (k_here; (with_reducible show wpAny _ _ (call (Value.builtin _) [Value.ref _, Value.int 0 _]) _ _ _); k_dflt (refine pop_first (by k_asm) (by k_asm) (by k_upd) (by (rw [sizeLine_eq]; (try have hL9 := PyProof.Rows.StrsAre.length (by assumption)); (try simp only [List.length_cons] at *); omega)) ?_; k_whole); intro h9 F9 N9; (try k_sweep)) | (k_here; (with_reducible show wpAny _ _ (call (Value.builtin "len") [Value.str _ _]) _ _ _); refine len_str (by omega) ?_) | (k_here; (with_reducible show wpAny _ _ (call (Value.builtin "len") [Value.ref _]) _ _ _); k_dflt (refine len_strsA (by is_list) (by assumption) (by ((try simp only [List.length_map]); omega)) ?_; k_whole); (try simp only [List.length_map])) | walk1 | (dsimp only; walk1) | (dsimp only; k_unfold; (try dsimp only)) | fail "no step"))
  · with_reducible rename Txt.endswith y (ofL p) = true => ht
    have := hle (hes.symm.trans ht)
    omega
  · with_reducible rename Txt.endswith y (ofL p) = true => ht
    have h3 := hle (hes.symm.trans ht)
    refine hold_out ?_
    refine find4_call ?_
    have e2 : ((y.length : Int) - ((ofL p).length : Int)) = ((gl.length - p.length : Nat) : Int) := by omega
    have h4 := find4_none (x := y) (i := 0) (j := gl.length - p.length) (by omega) (by omega)
    rw [show ((0 : Nat) : Int) = 0 from rfl] at h4
    rw [e2, h4]
    (repeat' (first |  (k_unfold; (try dsimp only)) | ((with_reducible show wpAny _ _ (truthy (Value.str _ _)) _ _ _); refine KXt.truthy_pos (by with_reducible assumption) (by with_reducible assumption) (by decide) ?_; intro _) | (k_here; (with_reducible show wpAny _ _ (eval (Expr.Name _ _) (compEnv _ _ _)) _ _ _); k_dflt (first | (refine name_locS rfl rfl rfl (by decide) (by with_reducible assumption) (by assumption) ?_; k_whole) | (refine nameG_BS rfl rfl rfl rfl (by decide) (by k_asm) (by k_asm) (by k_asm) (by k_is) (by boot_fast) (by decide) ?_; k_whole))) | (k_here; (with_reducible show wpAny _ _ (call (Value.type _) [Value.str _ _]) _ _ _); k_dflt (refine list_strN rfl (by k_asm) (by k_asm) ?_ (by rw [sizeLine_eq]; omega)); intro D9 ys9 c9 h9 tk9 F9 N9 l9 m9 hS9; (try k_lt l9); (try k_sweep)) | (k_here; (with_reducible show wpAny _ _ (compareOp CmpOp.NotEq (Value.ref _) (Value.ref _)) _ _ _); k_dflt (first | refine strs_ne_nil (by is_list) (by is_list) (by ke_room) ?_ | refine strs_ne_cons (by is_list) (by is_list) (by k_asm) (by ke_room) ?_ | refine strs_ne (by is_list) (by is_list) (by first | k_asm | exact StrsAre.nil) (by first | exact StrsAre.nil | k_asm) (by ke_room) ?_)) | (k_here; (with_reducible show wpAny _ _ (compareOp CmpOp.Eq (Value.ref _) (Value.ref _)) _ _ _); k_dflt (refine strs_eq (by is_list) (by is_list) (by first | k_asm | exact StrsAre.nil) (by first | exact StrsAre.nil | k_asm) (by ke_room) ?_)) | (k_here; (with_reducible show wpAny _ _ (call (Value.builtin _) [Value.ref _, Value.int 0 _]) _ _ _); k_dflt (refine pop_first (by k_asm) (by k_asm) (by k_upd) (by (rw [sizeLine_eq]; (try have hL9 := PyProof.Rows.StrsAre.length (by assumption)); (try simp only [List.length_cons] at *); omega)) ?_; k_whole); intro h9 F9 N9; (try k_sweep)) | (k_here; (with_reducible show wpAny _ _ (call (Value.builtin "len") [Value.str _ _]) _ _ _); refine len_str (by omega) ?_) | (k_here; (with_reducible show wpAny _ _ (call (Value.builtin "len") [Value.ref _]) _ _ _); k_dflt (refine len_strsA (by is_list) (by assumption) (by ((try simp only [List.length_map]); omega)) ?_; k_whole); (try simp only [List.length_map])) | walk1 | (dsimp only; walk1) | (dsimp only; k_unfold; (try dsimp only)) | fail "no step"))
    exact Back.mk' ⟨by rw [← hes, ht], rfl⟩ (by assumption) (by assumption) (fun _ h => nomatch h) (fun _ h => nomatch h)
  · with_reducible rename Txt.endswith y (ofL p) = false => ht
    exact Back.mk' ⟨by rw [← hes, ht], rfl⟩ (by assumption) (by assumption) (fun _ h => nomatch h) (fun _ h => nomatch h)
set_option maxHeartbeats 8000000 in
theorem ell_post (w : World) (x y : Str) (p gl : List Nat) (t t' : Tok) (hp : ∀ c ∈ p, c ≠ 46) (hx : x.cps.toList = p ++ [46, 46, 46]) (hy : y.cps.toList = gl) (hpn : 1 ≤ p.length) (hl : p.length ≤ 100) (hg : gl.length ≤ 100) : Spec PySem.Challenge.rw_sc0030_02.row.prog (fun w => Mine.hd.heap_39 w.params) w 63 [.str x t, .str y t'] 2 90 [] (fun r W' => r = .bool (p.isPrefixOf gl) ∧ W' = []) := by
  ((k_fill; k_dflt (refine' spec_plain ?k6_26 ?k7_26 ?h1_26 ?k9_26 ?kB_26 ?c5_26 ?c2_26 ?c3_26 ?c4_26 ?_; (case k6_26 => k_is); (case k7_26 => k_is); (case h1_26 => first | decide | exact Nat.succ_pos _); (case k9_26 => exact rfl); (case kB_26 => exact locs rfl); (case c5_26 => decide); (case c2_26 => exact rfl); (case c3_26 => exact rfl); (case c4_26 => exact rfl); k_whole)))
  intro loose mean mg mb dp un gd env outer base g L' h₁ s tk F' N' B' X' T' lW hd hu
  try dsimp only at X'
  try dsimp only
  try k_fold
  try k_lt lW
  have kM := kstMark
  k_with_none
  have hxl : x.length = p.length + 3 := by
    show x.cps.size = _
    rw [← Array.length_toList, hx]; simp only [List.length_append, List.length_cons, List.length_nil]
  have hyl : y.length = gl.length := by rw [← hy, Array.length_toList]; rfl
  have hin : (Builtin.Str.occurrences x (Str.ofString "...") 0 x.length 1).isEmpty = false := dots_in (i := p.length) (dots_at (by omega) (by rw [hx, List.drop_left]; rfl))
  (repeat' (first |  (k_unfold; (try dsimp only)) | ((with_reducible show wpAny _ _ (truthy (Value.str _ _)) _ _ _); refine KXt.truthy_pos (by with_reducible assumption) (by with_reducible assumption) (by decide) ?_; intro _) | (k_here; (with_reducible show wpAny _ _ (eval (Expr.Name _ _) (compEnv _ _ _)) _ _ _); k_dflt (first | (refine name_locS rfl rfl rfl (by decide) (by with_reducible assumption) (by assumption) ?_; k_whole) | (refine nameG_BS rfl rfl rfl rfl (by decide) (by k_asm) (by k_asm) (by k_asm) (by k_is) (by boot_fast) (by decide) ?_; k_whole))) | (k_here; (with_reducible show wpAny _ _ (call (Value.type _) [Value.str _ _]) _ _ _); k_dflt (refine list_strN rfl (by k_asm) (by k_asm) ?_ (by rw [sizeLine_eq]; omega)); intro D9 ys9 c9 h9 tk9 F9 N9 l9 m9 hS9; (try k_lt l9); (try k_sweep)) | (k_here; (with_reducible show wpAny _ _ (compareOp CmpOp.NotEq (Value.ref _) (Value.ref _)) _ _ _); k_dflt (first | refine strs_ne_nil (by is_list) (by is_list) (by ke_room) ?_ | refine strs_ne_cons (by is_list) (by is_list) (by k_asm) (by ke_room) ?_ | refine strs_ne (by is_list) (by is_list) (by first | k_asm | exact StrsAre.nil) (by first | exact StrsAre.nil | k_asm) (by ke_room) ?_)) | (k_here; (with_reducible show wpAny _ _ (compareOp CmpOp.Eq (Value.ref _) (Value.ref _)) _ _ _); k_dflt (refine strs_eq (by is_list) (by is_list) (by first | k_asm | exact StrsAre.nil) (by first | exact StrsAre.nil | k_asm) (by ke_room) ?_)) | (k_here; (with_reducible show wpAny _ _ (call (Value.builtin _) [Value.ref _, Value.int 0 _]) _ _ _); k_dflt (refine pop_first (by k_asm) (by k_asm) (by k_upd) (by (rw [sizeLine_eq]; (try have hL9 := PyProof.Rows.StrsAre.length (by assumption)); (try simp only [List.length_cons] at *); omega)) ?_; k_whole); intro h9 F9 N9; (try k_sweep)) | (k_here; (with_reducible show wpAny _ _ (call (Value.builtin "len") [Value.str _ _]) _ _ _); refine len_str (by omega) ?_) | (k_here; (with_reducible show wpAny _ _ (call (Value.builtin "len") [Value.ref _]) _ _ _); k_dflt (refine len_strsA (by is_list) (by assumption) (by ((try simp only [List.length_map]); omega)) ?_; k_whole); (try simp only [List.length_map])) | walk1 | (dsimp only; walk1) | (dsimp only; k_unfold; (try dsimp only)) | fail "no step"))
  refine hold_out ?_
  refine KSpl.split1 (by k_asm) (by k_asm) (by decide) ?_ (by rw [sizeLine_eq]; omega)
  intro D' l' h' k' e' a' F' N' l1
  rw [split_post hp hx] at e'
  kspl_open e'
  simp only [strValues, List.map_cons, List.map_nil] at N' a'
  try k_lt l1
  have hel : (ofL []).length = 0 := rfl
  have hpl : (ofL p).length = p.length := rfl
  have hpp : 1 ≤ (ofL p).length := hpn
  have hpq : (ofL p).length ≤ 100 := hl
  have hes : Txt.startswith y (ofL p) = p.isPrefixOf gl := by rw [starts_eq, hy]
  have hle : p.isPrefixOf gl = true → p.length ≤ gl.length := fun h => (List.isPrefixOf_iff_prefix.mp h).length_le
  (repeat' (first |  (k_unfold; (try dsimp only)) | ((with_reducible show wpAny _ _ (truthy (Value.str _ _)) _ _ _); refine KXt.truthy_pos (by with_reducible assumption) (by with_reducible assumption) (by decide) ?_; intro _) | (k_here; (with_reducible show wpAny _ _ (eval (Expr.Name _ _) (compEnv _ _ _)) _ _ _); k_dflt (first | (refine name_locS rfl rfl rfl (by decide) (by with_reducible assumption) (by assumption) ?_; k_whole) | (refine nameG_BS rfl rfl rfl rfl (by decide) (by k_asm) (by k_asm) (by k_asm) (by k_is) (by boot_fast) (by decide) ?_; k_whole))) | (k_here; (with_reducible show wpAny _ _ (call (Value.type _) [Value.str _ _]) _ _ _); k_dflt (refine list_strN rfl (by k_asm) (by k_asm) ?_ (by rw [sizeLine_eq]; omega)); intro D9 ys9 c9 h9 tk9 F9 N9 l9 m9 hS9; (try k_lt l9); (try k_sweep)) | (k_here; (with_reducible show wpAny _ _ (compareOp CmpOp.NotEq (Value.ref _) (Value.ref _)) _ _ _); k_dflt (first | refine strs_ne_nil (by is_list) (by is_list) (by ke_room) ?_ | refine strs_ne_cons (by is_list) (by is_list) (by k_asm) (by ke_room) ?_ | refine strs_ne (by is_list) (by is_list) (by first | k_asm | exact StrsAre.nil) (by first | exact StrsAre.nil | k_asm) (by ke_room) ?_)) | (k_here; (with_reducible show wpAny _ _ (compareOp CmpOp.Eq (Value.ref _) (Value.ref _)) _ _ _); k_dflt (refine strs_eq (by is_list) (by is_list) (by first | k_asm | exact StrsAre.nil) (by first | exact StrsAre.nil | k_asm) (by ke_room) ?_)) | (k_here; (with_reducible show wpAny _ _ (call (Value.builtin _) [Value.ref _, Value.int 0 _]) _ _ _); k_dflt (refine pop_first (by k_asm) (by k_asm) (by k_upd) (by (rw [sizeLine_eq]; (try have hL9 := PyProof.Rows.StrsAre.length (by assumption)); (try simp only [List.length_cons] at *); omega)) ?_; k_whole); intro h9 F9 N9; (try k_sweep)) | (k_here; (with_reducible show wpAny _ _ (call (Value.builtin "len") [Value.str _ _]) _ _ _); refine len_str (by omega) ?_) | (k_here; (with_reducible show wpAny _ _ (call (Value.builtin "len") [Value.ref _]) _ _ _); k_dflt (refine len_strsA (by is_list) (by assumption) (by ((try simp only [List.length_map]); omega)) ?_; k_whole); (try simp only [List.length_map])) | walk1 | (dsimp only; walk1) | (dsimp only; k_unfold; (try dsimp only)) | fail "no step"))
  · with_reducible rename Txt.startswith y (ofL p) = true => ht
    have := hle (hes.symm.trans ht)
    omega
  · with_reducible rename Txt.startswith y (ofL p) = true => ht
    have h3 := hle (hes.symm.trans ht)
    refine hold_out ?_
    refine find4_call ?_
    have h4 := find4_none (x := y) (i := p.length) (j := y.length) (by omega) (by omega)
    rw [← hpl] at h4
    rw [h4]
    (repeat' (first |  (k_unfold; (try dsimp only)) | ((with_reducible show wpAny _ _ (truthy (Value.str _ _)) _ _ _); refine KXt.truthy_pos (by with_reducible assumption) (by with_reducible assumption) (by decide) ?_; intro _) | (k_here; (with_reducible show wpAny _ _ (eval (Expr.Name _ _) (compEnv _ _ _)) _ _ _); k_dflt (first | (refine name_locS rfl rfl rfl (by decide) (by with_reducible assumption) (by assumption) ?_; k_whole) | (refine nameG_BS rfl rfl rfl rfl (by decide) (by k_asm) (by k_asm) (by k_asm) (by k_is) (by boot_fast) (by decide) ?_; k_whole))) | (k_here; (with_reducible show wpAny _ _ (call (Value.type _) [Value.str _ _]) _ _ _); k_dflt (refine list_strN rfl (by k_asm) (by k_asm) ?_ (by rw [sizeLine_eq]; omega)); intro D9 ys9 c9 h9 tk9 F9 N9 l9 m9 hS9; (try k_lt l9); (try k_sweep)) | (k_here; (with_reducible show wpAny _ _ (compareOp CmpOp.NotEq (Value.ref _) (Value.ref _)) _ _ _); k_dflt (first | refine strs_ne_nil (by is_list) (by is_list) (by ke_room) ?_ | refine strs_ne_cons (by is_list) (by is_list) (by k_asm) (by ke_room) ?_ | refine strs_ne (by is_list) (by is_list) (by first | k_asm | exact StrsAre.nil) (by first | exact StrsAre.nil | k_asm) (by ke_room) ?_)) | (k_here; (with_reducible show wpAny _ _ (compareOp CmpOp.Eq (Value.ref _) (Value.ref _)) _ _ _); k_dflt (refine strs_eq (by is_list) (by is_list) (by first | k_asm | exact StrsAre.nil) (by first | exact StrsAre.nil | k_asm) (by ke_room) ?_)) | (k_here; (with_reducible show wpAny _ _ (call (Value.builtin _) [Value.ref _, Value.int 0 _]) _ _ _); k_dflt (refine pop_first (by k_asm) (by k_asm) (by k_upd) (by (rw [sizeLine_eq]; (try have hL9 := PyProof.Rows.StrsAre.length (by assumption)); (try simp only [List.length_cons] at *); omega)) ?_; k_whole); intro h9 F9 N9; (try k_sweep)) | (k_here; (with_reducible show wpAny _ _ (call (Value.builtin "len") [Value.str _ _]) _ _ _); refine len_str (by omega) ?_) | (k_here; (with_reducible show wpAny _ _ (call (Value.builtin "len") [Value.ref _]) _ _ _); k_dflt (refine len_strsA (by is_list) (by assumption) (by ((try simp only [List.length_map]); omega)) ?_; k_whole); (try simp only [List.length_map])) | walk1 | (dsimp only; walk1) | (dsimp only; k_unfold; (try dsimp only)) | fail "no step"))
    exact Back.mk' ⟨by rw [← hes, ht], rfl⟩ (by assumption) (by assumption) (fun _ h => nomatch h) (fun _ h => nomatch h)
  · with_reducible rename Txt.startswith y (ofL p) = false => ht
    exact Back.mk' ⟨by rw [← hes, ht], rfl⟩ (by assumption) (by assumption) (fun _ h => nomatch h) (fun _ h => nomatch h)

end
section
section
variable {prog : Program} {w : World} {A : Around} {E : Value → Shared → Prop} {s : Shared} {h₀ : Heap} {L : Addr} {m : Str → Option Value} {env : Env}
theorem compEnd_mono {s₁ s₂ : Shared} {I C D : Addr} {oI oC oD : Obj} {S : List (Addr × Obj) → Prop} {r r' : Value → List (Addr × Obj) → Prop} {y : Value} (h : LCg.CompEnd h₀ L m s₁ I oI C oC D oD S r y s₂) (hr : ∀ y nw, r y nw → r' y nw) : LCg.CompEnd h₀ L m s₁ I oI C oC D oD S r' y s₂ := by
  obtain ⟨h', tk, news', e, F, N, off, hS, hr'⟩ := h
  exact ⟨h', tk, news', e, F, N, off, hS, hr _ _ hr'⟩
theorem rest_inv {elt : Expr} {x : Str} {scope : Scope} {cl : List (Str × Addr)} {S : List (Addr × Obj) → Prop} {P : Nat → Value → Prop} {Fin : List Value → List (Addr × Obj) → Prop} (n : Nat) (Inv : Nat → List Value → List (Addr × Obj) → Prop)
    (turn : ∀ i ys news v I oI C oC D m₂ h tk (E' : Value → Shared → Prop), i < n → Inv i ys news → P i v → LCg.NsObj oC m₂ → m₂ x = some v → Fr h₀ L h m → News h₀ L h ((I, oI) :: (C, oC) :: (D, LCg.lst ys) :: news) → LCg.Off3 I C D news → ((@Ne Nat I C) ∧ (@Ne Nat I D) ∧ (@Ne Nat C D)) →
      wpAny (model prog w) A (eval elt (compEnvC scope cl C env)) (LCg.CompEnd h₀ L m { s with heap := h, toks := tk } I oI C oC D (LCg.lst ys) S (fun y news' => Inv (i + 1) (ys ++ [y]) news')) E' { s with heap := h, toks := tk })
    (fin : ∀ ys news, Inv n ys news → Fin ys news) : ∀ k i ys news, i + k = n → Inv i ys news → LCg.CompRest prog w A h₀ L m env elt x scope cl s S P Fin k i ys news
  | 0, i, ys, news, e, hI => by
    rw [Nat.add_zero] at e; subst e; exact fin ys news hI
  | k + 1, i, ys, news, e, hI => LCg.CompRest.succ fun v I oI C oC D m₂ h tk E' hP hC hx F N off ne =>
      wpAny_mono (turn i ys news v I oI C oC D m₂ h tk E' (by omega) hI hP hC hx F N off ne) (fun y s' h' => compEnd_mono h' fun y nw hn => rest_inv n Inv turn fin k (i + 1) _ nw (by omega) hn) fun _ _ e => e
end
section
variable {prog : Program} {w : World} {A : Around} {E : Value → Shared → Prop} {s : Shared} {h₀ : Heap} {L : Addr} {m : Str → Option Value} {env : Env}
theorem comp_U {elt iter : Expr} {x : Str} {px : Pos} {scope : Scope} {cl : List (Str × Addr)} {pos : Pos} {Q : Value → Shared → Prop} (F₀ : Fr h₀ L s.heap m)
    (hclos : closureFor scope env = pure cl) (hcell : ∀ y ∈ scope.names, y.2 ≠ .cell) (hkind : scope.kind = .function)
    (hnames : ∀ y ∈ scope.names, y.2 = .local → scope.names.lookup y.1 = some .local) (hx : scope.names.lookup x = some .local)
    (h : wpAny (model prog w) A (eval iter env) (fun xv s₁ => Hold (LCg.CompSrc prog w A h₀ L m env elt x scope cl (fun s₂ => LCg.FinE h₀ L m s₂ Q) xv s₁)) E s)
    (hs : ∀ x, foldedSetIterable iter env x = pure x := by intro _; rfl) :
    wpAny (model prog w) A (eval (.ListComp elt [⟨.Name x px, iter, [], 0⟩] scope pos) env) Q E s := LCg.ListComp_U F₀ hclos hcell hkind hnames hx h hs
end
theorem name_list {h : Heap} {a : Addr} {its : Array Value} (_ : h.IsList a its) : ∃ D, D = a := ⟨a, rfl⟩
theorem name_shared {s : Shared} {a : Addr} {o : Obj} (_ : s.heap.get? a = some o) : ∃ D, D = s := ⟨s, rfl⟩
theorem fmod_bd (a n : Int) (h : 0 < n) : 0 ≤ a.fmod n ∧ a.fmod n < n := by
  rw [Int.fmod_eq_emod_of_nonneg _ (Int.le_of_lt h)]
  exact ⟨Int.emod_nonneg _ (by omega), Int.emod_lt_of_pos _ h⟩
theorem ints_get {vs : List Value} {ns : List Int} (h : IntsAre vs ns) {i : Nat} {v : Value} (e : vs.toArray[i]? = some v) : ∃ n t, ns[i]? = some n ∧ v = .int n t := by
  induction h generalizing i with
  | nil => simp at e
  | cons n t _ ih =>
    cases i with
    | zero => simp at e; exact ⟨n, t, rfl, e.symm⟩
    | succ i => simp only [List.getElem?_toArray, List.getElem?_cons_succ] at e ⊢; exact ih (by simpa using e)
theorem name_head {g h : Heap} {L a : Addr} {o : Obj} {r : List (Addr × Obj)} (_ : News g L h ((a, o) :: r)) : ∃ D, D = a := ⟨a, rfl⟩
theorem take_snoc {α β : Type} {f : α → β} {xs : List α} {i : Nat} {n : α} (h : xs[i]? = some n) : (xs.take (i + 1)).map f = (xs.take i).map f ++ [f n] := by
  rw [List.take_add_one, h, Option.toList_some, List.map_append]; rfl
theorem join_ones {α : Type} (f : α → Nat) (xs : List α) : Txt.join (Str.ofString "") (xs.map fun x => ofL [f x]) = ofL (xs.map f) := by
  rw [join_empty]
  congr 2
  induction xs with
  | nil => rfl
  | cons c r ih => simp only [List.map_cons, List.flatMap_cons, List.cons_append, List.nil_append, ih]
end
section
theorem ofL_app (a b : List Nat) : ofL a ++ ofL b = ofL (a ++ b) := by
  show Str.mk (a.toArray ++ b.toArray) = _
  rw [List.append_toArray]
theorem let_facts : ∀ c : Fin 81, 66 ≤ c.val → notWs (ofL [c.val]) = true ∧ (ofL [c.val] == QT) = false ∧ (ofL [c.val] == BS) = false ∧ nlOf (ofL [c.val]) = 0 := by decide +kernel
theorem bs_facts : notWs BS = true ∧ (BS == QT) = false ∧ (BS == BS) = true ∧ nlOf BS = 0 := by decide +kernel
theorem qt_facts : notWs QT = true ∧ (QT == QT) = true ∧ nlOf QT = 0 := by decide +kernel
theorem let_fact {c : Nat} (h : 66 ≤ c ∧ c < 81) : notWs (ofL [c]) = true ∧ (ofL [c] == QT) = false ∧ (ofL [c] == BS) = false ∧ nlOf (ofL [c]) = 0 := let_facts ⟨c, h.2⟩ h.1
/-- a letter, with a backslash ahead of it or bare -/
def encOne (p : Nat × Bool) : List Str := if p.2 = true then [BS, ofL [p.1]] else [ofL [p.1]]
def encAll (l : List (Nat × Bool)) : List Str := l.flatMap encOne
theorem run3_enc : ∀ (l : List (Nat × Bool)) (tok : List Nat) (n : Int) (r : List Str), (∀ p ∈ l, 66 ≤ p.1 ∧ p.1 < 81) → r ≠ [] → run3 (ofL tok) n (encAll l ++ r) = run3 (ofL (tok ++ l.map (·.1))) n r
  | [], tok, n, r, _, _ => by simp [encAll]
  | (c, b) :: l, tok, n, r, h, hr => by
    obtain ⟨h1, h2, h3, h4⟩ := let_fact (h (c, b) (List.Mem.head _))
    obtain ⟨b1, b2, b3, b4⟩ := bs_facts
    have ih := run3_enc l (tok ++ [c]) n r (fun p hp => h p (List.Mem.tail _ hp)) hr
    have hne : encAll l ++ r ≠ [] := by simp [hr]
    rw [List.append_assoc] at ih
    obtain ⟨e, r', he⟩ := List.exists_cons_of_ne_nil hne
    cases b with
    | true =>
      show run3 (ofL tok) n (BS :: ofL [c] :: (encAll l ++ r)) = _
      rw [run3, if_neg (by rw [b1]; decide), if_pos b3, b4, h4, Int.add_zero, Int.add_zero, ofL_app]
      exact ih
    | false =>
      show run3 (ofL tok) n (ofL [c] :: (encAll l ++ r)) = _
      rw [he] at ih ⊢
      rw [run3, if_neg (by rw [h1]; decide), if_neg (by rw [h3]; decide), h4, Int.add_zero, ofL_app]
      exact ih
theorem run2_enc : ∀ (l : List (Nat × Bool)) (tok : List Nat) (n : Int) (r : List Str), (∀ p ∈ l, 66 ≤ p.1 ∧ p.1 < 81) → r ≠ [] → run2 (ofL tok) n (encAll l ++ r) = run2 (ofL (tok ++ l.map (·.1))) n r
  | [], tok, n, r, _, _ => by simp [encAll]
  | (c, b) :: l, tok, n, r, h, hr => by
    obtain ⟨h1, h2, h3, h4⟩ := let_fact (h (c, b) (List.Mem.head _))
    obtain ⟨b1, b2, b3, b4⟩ := bs_facts
    have ih := run2_enc l (tok ++ [c]) n r (fun p hp => h p (List.Mem.tail _ hp)) hr
    have hne : encAll l ++ r ≠ [] := by simp [hr]
    rw [List.append_assoc] at ih
    obtain ⟨e, r', he⟩ := List.exists_cons_of_ne_nil hne
    cases b with
    | true =>
      show run2 (ofL tok) n (BS :: ofL [c] :: (encAll l ++ r)) = _
      rw [run2, if_neg (by rw [b2]; decide), if_pos b3, b4, h4, Int.add_zero, Int.add_zero, ofL_app]
      exact ih
    | false =>
      show run2 (ofL tok) n (ofL [c] :: (encAll l ++ r)) = _
      rw [he] at ih ⊢
      rw [run2, if_neg (by rw [h2]; decide), if_neg (by rw [h3]; decide), h4, Int.add_zero, ofL_app]
      exact ih
theorem run1_bare (c : Nat) (b : Bool) (l : List (Nat × Bool)) (n : Int) (y : Str) (r : List Str) (h : ∀ p ∈ (c, b) :: l, 66 ≤ p.1 ∧ p.1 < 81) (hy : notWs y = false) : run1 n (encAll ((c, b) :: l) ++ y :: r) = some (ofL (c :: l.map (·.1)), n + nlOf y, r) := by
  obtain ⟨h1, h2, h3, h4⟩ := let_fact (h (c, b) (List.Mem.head _))
  obtain ⟨b1, b2, b3, b4⟩ := bs_facts
  have e := run3_enc l [c] n (y :: r) (fun p hp => h p (List.Mem.tail _ hp)) (by simp)
  have h0 : Str.ofString "" ++ ofL [c] = ofL [c] := ofL_app [] [c]
  cases b with
  | true =>
    show run1 n (BS :: ofL [c] :: (encAll l ++ y :: r)) = _
    unfold run1
    rw [if_neg (by rw [b1]; decide), if_neg (by rw [b2]; decide), if_pos b3]
    show run3 (Str.ofString "" ++ ofL [c]) (n + nlOf BS + nlOf (ofL [c])) (encAll l ++ y :: r) = _
    rw [h0, b4, h4, Int.add_zero, Int.add_zero, e, run3_ws hy]; rfl
  | false =>
    show run1 n (ofL [c] :: (encAll l ++ y :: r)) = _
    unfold run1
    rw [if_neg (by rw [h1]; decide), if_neg (by rw [h2]; decide), if_neg (by rw [h3]; decide), h0, h4, Int.add_zero, e, run3_ws hy]; rfl
theorem run1_quoted (l : List (Nat × Bool)) (n : Int) (r : List Str) (h : ∀ p ∈ l, 66 ≤ p.1 ∧ p.1 < 81) : run1 n (QT :: (encAll l ++ QT :: r)) = some (ofL (l.map (·.1)), n, r) := by
  obtain ⟨q1, q2, q3⟩ := qt_facts
  unfold run1
  rw [if_neg (by rw [q1]; decide), if_pos q2, q3, Int.add_zero, show Str.ofString "" = ofL [] from rfl, run2_enc l [] n (QT :: r) h (by simp), run2_qt q2, q3, Int.add_zero]; rfl
theorem run1_blank (n : Int) (y : Str) (hy : notWs y = false) : run1 n [y] = some (Str.ofString "", n + nlOf y, []) := by
  unfold run1
  rw [if_pos hy]; rfl
theorem signs_ofL (l : List Nat) : signs (ofL l) = l.map fun c => ofL [c] := rfl
theorem signs_one (x : Str) : ∀ y ∈ signs x, y.length = 1 := by
  intro y hy
  obtain ⟨c, _, rfl⟩ := List.mem_map.mp hy
  rfl
theorem signs_len (x : Str) : (signs x).length = x.length := by
  unfold signs; rw [List.length_map, Array.length_toList]; rfl

end
section
/-- the number that a word's letters spell to the base 16, A for 0 -/
def valN (u : List Nat) : Nat := u.foldl (fun a c => a * 16 + (c - 65)) 0
theorem valN_snoc (l : List Nat) (c : Nat) : valN (l ++ [c]) = valN l * 16 + (c - 65) := by simp [valN]
theorem foldl_val (r : List Nat) : ∀ a, r.foldl (fun a c => a * 16 + (c - 65)) a = a * 16 ^ r.length + valN r := by
  induction r with
  | nil => intro a; simp [valN]
  | cons c r ih =>
    intro a
    have h := ih (0 * 16 + (c - 65))
    have e : valN (c :: r) = r.foldl (fun a c => a * 16 + (c - 65)) (0 * 16 + (c - 65)) := rfl
    rw [List.foldl_cons, ih, e, h, List.length_cons, Nat.pow_succ]
    have : (a * 16 + (c - 65)) * 16 ^ r.length = a * (16 ^ r.length * 16) + (c - 65) * 16 ^ r.length := by
      rw [Nat.add_mul, Nat.mul_assoc, Nat.mul_comm 16]
    rw [this, Nat.zero_mul, Nat.zero_add]; omega
theorem valN_cons (c : Nat) (r : List Nat) : valN (c :: r) = (c - 65) * 16 ^ r.length + valN r := by
  show r.foldl _ (0 * 16 + (c - 65)) = _
  rw [foldl_val, Nat.zero_mul, Nat.zero_add]
theorem snoc_ind {P : List Nat → Prop} (h0 : P []) (h1 : ∀ l c, P l → P (l ++ [c])) : ∀ l, P l := by
  intro l
  have : ∀ m : List Nat, P m.reverse := by
    intro m
    induction m with
    | nil => exact h0
    | cons c r ih => rw [List.reverse_cons]; exact h1 _ _ ih
  simpa using this l.reverse
theorem numOf_val : ∀ u : List Nat, (∀ c ∈ u, 66 ≤ c ∧ c < 81) → numOf (KStt.codes (ofL u)) = (valN u : Int) := by
  intro u
  refine snoc_ind (P := fun u => (∀ c ∈ u, 66 ≤ c ∧ c < 81) → numOf (KStt.codes (ofL u)) = (valN u : Int)) (fun _ => rfl) ?_ u
  intro l c ih h
  have e : KStt.codes (ofL (l ++ [c])) = KStt.codes (ofL l) ++ [(c : Int)] := by simp [KStt.codes]
  have hc := h c (by simp)
  rw [e, numOf_snoc, ih fun x hx => h x (List.mem_append_left _ hx), valN_snoc]
  omega
theorem apL_val : ∀ u : List Nat, (∀ c ∈ u, 66 ≤ c ∧ c < 81) → apL (valN u) = u.map Nat.toUInt8 := by
  intro u
  refine snoc_ind (P := fun u => (∀ c ∈ u, 66 ≤ c ∧ c < 81) → apL (valN u) = u.map Nat.toUInt8) (fun _ => apL_zero) ?_ u
  intro l c ih h
  have hc := h c (by simp)
  have hn : valN (l ++ [c]) ≠ 0 := by rw [valN_snoc]; omega
  rw [apL_step hn, valN_snoc, show (valN l * 16 + (c - 65)) / 16 = valN l by omega, ih fun x hx => h x (List.mem_append_left _ hx), show 65 + (valN l * 16 + (c - 65)) % 16 = c by omega, List.map_append]
  rfl
theorem written_val (u : List Nat) (h : ∀ c ∈ u, 66 ≤ c ∧ c < 81) : writtenOf (valN u) = ofL u := by
  unfold writtenOf
  rw [apL_val u h, List.map_map]
  have : u.map (UInt8.toNat ∘ Nat.toUInt8) = u := by
    have : ∀ c ∈ u, (UInt8.toNat ∘ Nat.toUInt8) c = c := fun c hc => by
      have := h c hc
      show (Nat.toUInt8 c).toNat = c
      simp only [Nat.toUInt8, UInt8.toNat_ofNat']
      omega
    calc u.map (UInt8.toNat ∘ Nat.toUInt8) = u.map id := List.map_congr_left this
      _ = u := List.map_id u
  rw [this]
theorem apL_len (u : List Nat) (h : ∀ c ∈ u, 66 ≤ c ∧ c < 81) (hl : u.length ≤ 900) : (apL (valN u)).length ≤ 1000 := by
  rw [apL_val u h, List.length_map]; omega
end
section
theorem ofL_ne (u : List Nat) : (ofL u != Str.ofString "") = !u.isEmpty := by
  rw [show Str.ofString "" = ofL [] from rfl]
  cases u with
  | nil => rfl
  | cons c r =>
    show (!(ofL (c :: r) == ofL [])) = true
    rw [Bool.not_eq_true', beq_eq_false_iff_ne]
    intro e
    have := congrArg (fun x : Str => x.cps.toList) e
    cases this

end
section
section
variable {prog : Program} {w : World} {A : Around} {E : Value → Shared → Prop} {s : Shared} {env : Env} {h₀ : Heap} {L : Addr}
/-- a turn of a loop over a range ends: the word holds for the next turn -/
def TurnTo (h₀ : Heap) (L : Addr) (J : (Str → Option Value) → List (Addr × Obj) → Prop) (I : Addr) (oI : Obj) (s s₃ : Shared) : Prop :=
  ∀ Z : Shared → Prop, (∀ m₂ nx₂ h' tk', J m₂ nx₂ → Fr h₀ L h' m₂ → News h₀ L h' ((I, oI) :: nx₂) → (∀ p ∈ nx₂, p.1 ≠ I) → Z { s with heap := h', toks := tk' }) → Z s₃
theorem TurnTo.mk {J : (Str → Option Value) → List (Addr × Obj) → Prop} {I : Addr} {oI : Obj} {s : Shared} {m₂ : Str → Option Value} {nx₂ all : List (Addr × Obj)} {h' : Heap} {tk' : Nat} (hJ : J m₂ nx₂) (F : Fr h₀ L h' m₂) (N : News h₀ L h' all) (sub : ∀ p ∈ (I, oI) :: nx₂, p ∈ all) (off : ∀ p ∈ nx₂, p.1 ≠ I) :
    TurnTo h₀ L J I oI s { s with heap := h', toks := tk' } := fun _ d => d m₂ nx₂ h' tk' hJ F (fun p hp => N p (sub p hp)) off
theorem turn_all {J : (Str → Option Value) → List (Addr × Obj) → Prop} {I : Addr} {oI : Obj} {s : Shared} {Z : Shared → Prop} (d : ∀ m₂ nx₂ h' tk', J m₂ nx₂ → Fr h₀ L h' m₂ → News h₀ L h' ((I, oI) :: nx₂) → (∀ p ∈ nx₂, p.1 ≠ I) → Z { s with heap := h', toks := tk' }) : ∀ s₃, TurnTo h₀ L J I oI s s₃ → Z s₃ := fun _ h => h Z d
/-- the loop's own state: i turns are done -/
def LIt (h₀ : Heap) (L : Addr) (s : Shared) (J : Nat → (Str → Option Value) → List (Addr × Obj) → Prop) (n : Nat) (I : Addr) (st : Nat → Heap → Prop) (k : Nat) (s1 : Shared) : Prop :=
  ∀ Z : Nat → Shared → Prop, (∀ i m₁ nx h tk, i ≤ n → J i m₁ nx → Fr h₀ L h m₁ → News h₀ L h nx → (∀ p ∈ nx, p.1 ≠ I) → st i h → Z (n - i) { s with heap := h, toks := tk }) → Z k s1
theorem lit_all {s : Shared} {J : Nat → (Str → Option Value) → List (Addr × Obj) → Prop} {n : Nat} {I : Addr} {st : Nat → Heap → Prop} {Z : Nat → Shared → Prop} (d : ∀ i m₁ nx h tk, i ≤ n → J i m₁ nx → Fr h₀ L h m₁ → News h₀ L h nx → (∀ p ∈ nx, p.1 ≠ I) → st i h → Z (n - i) { s with heap := h, toks := tk }) : ∀ k s1, LIt h₀ L s J n I st k s1 → Z k s1 := fun _ _ h => h Z d
theorem LIt.mk {s : Shared} {J : Nat → (Str → Option Value) → List (Addr × Obj) → Prop} {n : Nat} {I : Addr} {st : Nat → Heap → Prop} {i : Nat} {m₁ : Str → Option Value} {nx : List (Addr × Obj)} {h : Heap} {tk : Nat} (hi : i ≤ n) (hJ : J i m₁ nx) (F : Fr h₀ L h m₁) (N : News h₀ L h nx) (off : ∀ p ∈ nx, p.1 ≠ I) (hst : st i h) : LIt h₀ L s J n I st (n - i) { s with heap := h, toks := tk } := fun _ d => d i m₁ nx h tk hi hJ F N off hst
theorem for_range {r : Addr} {a b : Int} {t u v : Tok} {n : Nat} {x : Str} {px : Pos} {body : List Stmt} {m : Str → Option Value} {news : List (Addr × Obj)} {Q : Flow → Shared → Prop} {R : Result → Shared → Prop} (J : Nat → (Str → Option Value) → List (Addr × Obj) → Prop)
    (hh : A.handled = none) (hR : ∀ f s, Q f s → R (.ok f) s)
    (hr : IsRange s.heap r a b 1 t u v) (hsm : Builtin.Range.small a b 1 = true) (hn : Builtin.Range.rangeSize a b 1 = ((n : Nat) : Int)) (F : Fr h₀ L s.heap m) (N : News h₀ L s.heap news) (hj : J 0 m news)
    (turn : ∀ (i : Nat) (t : Tok) m₁ nx h tk I oI, i < n → J i m₁ nx → Fr h₀ L h m₁ → News h₀ L h ((I, oI) :: nx) → (∀ p ∈ nx, p.1 ≠ I) →
      wpAny (model prog w) A (storeName env x (.int (a + (i : Int)) t)) (fun _ s₂ => wpAny (model prog w) A (execs body env) (fun f s₃ => match f with
          | .next => TurnTo h₀ L (J (i + 1)) I oI s s₃
          | .cont => TurnTo h₀ L (J (i + 1)) I oI s s₃
          | .brk => Q .next s₃
          | .ret v => Q (.ret v) s₃) (fun _ _ => False) s₂) (fun _ _ => False) { s with heap := h, toks := tk })
    (done : ∀ m₁ nx h tk, J n m₁ nx → Fr h₀ L h m₁ → News h₀ L h nx → Q .next { s with heap := h, toks := tk }) :
    wpAny (model prog w) A (pyIter (.ref r)) (fun it s₂ => codeAny (model prog w) A (.forLoop (.Name x px) it body [] env) R s₂) E s := by
  refine wpAny_pyIter_range hr hsm ?_
  have hIL : L ≠ s.heap.objs.size := Nat.ne_of_lt F.ns.lt
  have hI₀ : h₀.get? s.heap.objs.size = none := next_is_new F
  have W := LCg.range_walks (prog := prog) (w := w) (I := s.heap.objs.size) hh a n
  refine codeAny_forLoop (LIt h₀ L s J n s.heap.objs.size (fun i h => IsRangeIter h s.heap.objs.size (a + (i : Nat) * 1) ((n : Int) - (i : Nat)) 1))
    ?_ n (LIt.mk (i := 0) (tk := s.toks) (Nat.zero_le _) hj (F.keeps fun _ _ e => Heap.get?_push_of_some _ e) (N.grown fun _ _ e => Heap.get?_push_of_some _ e) (fun p hp => Nat.ne_of_lt (Heap.lt_size (N p hp).1)) (by show IsRangeIter _ _ _ _ _; rw [hn]; simpa using Heap.get?_push_size _ rfl))
  refine lit_all ?_
  intro i m₁ nx h tk hi hJ F₁ N₁ off hst
  refine wpAny_noRaise ?_
  by_cases hlt : i < n
  · refine W.item i _ _ _ hlt hst fun v h₂ tk₂ hPv hst₂ hk₂ => ?_
    obtain ⟨t, rfl⟩ := hPv
    obtain ⟨oI, hoI⟩ : ∃ oI, h₂.get? s.heap.objs.size = some oI := ⟨_, hst₂⟩
    have F₂ := LCg.fr_but F₁ hk₂ hIL hI₀
    have N₂ := LCg.news_but N₁ hk₂ off
    refine wpAny_noRaise (wpAny_assign_Name (wpAny_mono (turn i t m₁ nx h₂ tk₂ s.heap.objs.size oI hlt hJ F₂ (fun p hp => ?_) off) (fun _ s₂ h₂ => wpAny_noRaise (wpAny_mono h₂ (fun f s₃ h₃ => ?_) fun _ _ x => x)) fun _ _ x => x))
    · rcases List.mem_cons.mp hp with rfl | hp
      · exact ⟨hoI, Ne.symm hIL, hI₀⟩
      · exact N₂ p hp
    · have next : ∀ s₃, TurnTo h₀ L (J (i + 1)) s.heap.objs.size oI s s₃ → ∃ k', k' < n - i ∧ LIt h₀ L s J n s.heap.objs.size (fun i h => IsRangeIter h s.heap.objs.size (a + (i : Nat) * 1) ((n : Int) - (i : Nat)) 1) k' s₃ := turn_all fun m₂ nx₂ h' tk' hJ' F' N' off' =>
        ⟨n - (i + 1), by omega, LIt.mk hlt hJ' F' (fun p hp => N' p (.tail _ hp)) off' (by show h'.get? _ = some _; rw [(N' _ (.head _)).1, ← hoI]; exact hst₂)⟩
      cases f with
      | next => exact next _ h₃
      | cont => exact next _ h₃
      | brk => exact hR _ _ h₃
      | ret v => exact hR _ _ h₃
  · obtain rfl : i = n := Nat.le_antisymm hi (Nat.not_lt.mp hlt)
    refine W.done _ _ _ hst fun h₂ tk₂ hk₂ => ?_
    exact wpAny_execs_nil (hR _ _ (done _ _ _ _ hJ (LCg.fr_but F₁ hk₂ hIL hI₀) (LCg.news_but N₁ hk₂ off)))
end

end
section
section
variable {prog : Program} {w : World} {A : Around} {E : Value → Shared → Prop} {s : Shared} {env : Env} {h₀ : Heap} {L : Addr}
/-- a loop over a list that the call made and that its body leaves alone -/
theorem for_list {l : Addr} {vs : List Value} {nn : Nat} {x : Str} {px : Pos} {body : List Stmt} {m : Str → Option Value} {news : List (Addr × Obj)} {Q : Flow → Shared → Prop} {R : Result → Shared → Prop} (J : Nat → (Str → Option Value) → List (Addr × Obj) → Prop)
    (hh : A.handled = none) (hR : ∀ f s, Q f s → R (.ok f) s) (F : Fr h₀ L s.heap m) (N : News h₀ L s.heap news) (hm : (l, PySem.W.listOf vs.toArray nn) ∈ news) (hj : J 0 m news)
    (hk : ∀ i m₁ nx, J i m₁ nx → (l, PySem.W.listOf vs.toArray nn) ∈ nx)
    (turn : ∀ (i : Nat) (v : Value) m₁ nx h tk I oI, i < vs.length → vs[i]? = some v → J i m₁ nx → Fr h₀ L h m₁ → News h₀ L h ((I, oI) :: nx) → (∀ p ∈ nx, p.1 ≠ I) →
      wpAny (model prog w) A (storeName env x v) (fun _ s₂ => wpAny (model prog w) A (execs body env) (fun f s₃ => match f with
          | .next => TurnTo h₀ L (J (i + 1)) I oI s s₃
          | .cont => TurnTo h₀ L (J (i + 1)) I oI s s₃
          | .brk => Q .next s₃
          | .ret v => Q (.ret v) s₃) (fun _ _ => False) s₂) (fun _ _ => False) { s with heap := h, toks := tk })
    (done : ∀ m₁ nx h tk, J vs.length m₁ nx → Fr h₀ L h m₁ → News h₀ L h nx → Q .next { s with heap := h, toks := tk }) :
    wpAny (model prog w) A (pyIter (.ref l)) (fun it s₂ => codeAny (model prog w) A (.forLoop (.Name x px) it body [] env) R s₂) E s := by
  have hol := (N _ hm).1
  refine wpAny_pyIter_list ⟨_, hol, rfl, nn, rfl⟩ ?_
  have hIL : L ≠ s.heap.objs.size := Nat.ne_of_lt F.ns.lt
  have hI₀ : h₀.get? s.heap.objs.size = none := next_is_new F
  have hlI : l ≠ s.heap.objs.size := Nat.ne_of_lt (Heap.lt_size hol)
  have W := Walks.list (prog := prog) (w := w) hh s.heap.objs.size l hlI vs.toArray
  rw [List.size_toArray] at W
  refine codeAny_forLoop (LIt h₀ L s J vs.length s.heap.objs.size (fun i h => h.IsListIter s.heap.objs.size l i))
    ?_ vs.length (LIt.mk (i := 0) (tk := s.toks) (Nat.zero_le _) hj (F.keeps fun _ _ e => Heap.get?_push_of_some _ e) (N.grown fun _ _ e => Heap.get?_push_of_some _ e) (fun p hp => Nat.ne_of_lt (Heap.lt_size (N p hp).1)) ⟨_, Heap.get?_push_size _ rfl, rfl, rfl⟩)
  refine lit_all ?_
  intro i m₁ nx h tk hi hJ F₁ N₁ off hst
  refine wpAny_noRaise ?_
  have hll : h.IsList l vs.toArray := ⟨_, (N₁ _ (hk _ _ _ hJ)).1, rfl, nn, rfl⟩
  by_cases hlt : i < vs.length
  · refine W.item i _ _ _ hlt ⟨hst, hll⟩ fun v h₂ tk₂ hPv hst₂ hk₂ => ?_
    obtain ⟨oI, hoI, c1, c2⟩ := hst₂.1
    have F₂ := LCg.fr_but F₁ hk₂ hIL hI₀
    have N₂ := LCg.news_but N₁ hk₂ off
    refine wpAny_noRaise (wpAny_assign_Name (wpAny_mono (turn i v m₁ nx h₂ tk₂ s.heap.objs.size oI hlt (by simpa using hPv) hJ F₂ (fun p hp => ?_) off) (fun _ s₂ h₂ => wpAny_noRaise (wpAny_mono h₂ (fun f s₃ h₃ => ?_) fun _ _ x => x)) fun _ _ x => x))
    · rcases List.mem_cons.mp hp with rfl | hp
      · exact ⟨hoI, Ne.symm hIL, hI₀⟩
      · exact N₂ p hp
    · have next : ∀ s₃, TurnTo h₀ L (J (i + 1)) s.heap.objs.size oI s s₃ → ∃ k', k' < vs.length - i ∧ LIt h₀ L s J vs.length s.heap.objs.size (fun i h => h.IsListIter s.heap.objs.size l i) k' s₃ := turn_all fun m₂ nx₂ h' tk' hJ' F' N' off' =>
        ⟨vs.length - (i + 1), by omega, LIt.mk hlt hJ' F' (fun p hp => N' p (.tail _ hp)) off' ⟨oI, (N' _ (.head _)).1, c1, c2⟩⟩
      cases f with
      | next => exact next _ h₃
      | cont => exact next _ h₃
      | brk => exact hR _ _ h₃
      | ret v => exact hR _ _ h₃
  · obtain rfl : i = vs.length := Nat.le_antisymm hi (Nat.not_lt.mp hlt)
    refine W.done _ _ _ ⟨hst, hll⟩ fun h₂ tk₂ hk₂ => ?_
    exact wpAny_execs_nil (hR _ _ (done _ _ _ _ hJ (LCg.fr_but F₁ hk₂ hIL hI₀) (LCg.news_but N₁ hk₂ off)))
end

end
section
section
open PyProof.Rows.LCg PyProof.Rows.LCt
variable {prog : Program} {w : World} {A : Around} {E : Value → Shared → Prop} {s : Shared} {h₀ : Heap} {L : Addr} {m : Str → Option Value} {env : Env}
theorem rest_invT {ct elt : Expr} {x : Str} {scope : Scope} {cl : List (Str × Addr)} {S : List (Addr × Obj) → Prop} {P : Nat → Value → Prop} {Fin : List Value → List (Addr × Obj) → Prop} (n : Nat) (Inv : Nat → List Value → List (Addr × Obj) → Prop)
    (turn : ∀ i ys news v I oI C oC D m₂ h tk (E' : Value → Shared → Prop), i < n → Inv i ys news → P i v → NsObj oC m₂ → m₂ x = some v → Fr h₀ L h m → News h₀ L h ((I, oI) :: (C, oC) :: (D, lst ys) :: news) → Off3 I C D news → ((@Ne Nat I C) ∧ (@Ne Nat I D) ∧ (@Ne Nat C D)) →
      wpAny (model prog w) A (isTrue ct (compEnvC scope cl C env) (eval ct (compEnvC scope cl C env))) (fun ok s' => if ok = true then
        wpAny (model prog w) A (eval elt (compEnvC scope cl C env)) (CompEnd h₀ L m { s with heap := h, toks := tk } I oI C oC D (lst ys) S (fun y news' => Inv (i + 1) (ys ++ [y]) news')) E' s'
        else CompEnd h₀ L m { s with heap := h, toks := tk } I oI C oC D (lst ys) S (fun _ news' => Inv (i + 1) ys news') Value.none s') E' { s with heap := h, toks := tk })
    (fin : ∀ ys news, Inv n ys news → Fin ys news) : ∀ k i ys news, i + k = n → Inv i ys news → CompRestT prog w A h₀ L m env ct elt x scope cl s S P Fin k i ys news
  | 0, i, ys, news, e, hI => by
    rw [Nat.add_zero] at e; subst e; exact fin ys news hI
  | k + 1, i, ys, news, e, hI => CompRestT.succ fun v I oI C oC D m₂ h tk E' hP hC hx F N off ne =>
      wpAny_mono (turn i ys news v I oI C oC D m₂ h tk E' (by omega) hI hP hC hx F N off ne) (fun ok s' h' => by
        cases ok with
        | true => exact wpAny_mono h' (fun y s' h' => compEnd_mono h' fun y nw hn => rest_invT n Inv turn fin k (i + 1) _ nw (by omega) hn) fun _ _ e => e
        | false => rw [if_neg (by decide)] at h'; exact compEnd_mono h' fun y nw hn => rest_invT n Inv turn fin k (i + 1) _ nw (by omega) hn) fun _ _ e => e
end

end
section
local macro_rules | `(tactic| walk_at "call ref") => `(tactic| refine hold_in ?_)
set_option pp.maxSteps 3000
set_option maxHeartbeats 8000000 in
theorem within_spec (w : World) (p gl : List Nat) (t tg : Tok) (hp : p.length ≤ 90) (hg : gl.length ≤ 90) (h46 : ∀ c ∈ p, c ≠ 46) : Spec PySem.Challenge.rw_sc0030_02.row.prog (fun w => Mine.hd.heap_39 w.params) w 96 [.str (ofL p) t, .str (ofL gl) tg] 4 100 [] (fun r W' => r = .bool (inB p gl) ∧ W' = []) := by
  ((k_fill; k_dflt (refine' spec_plain ?k6_29 ?k7_29 ?h1_29 ?k9_29 ?kB_29 ?c5_29 ?c2_29 ?c3_29 ?c4_29 ?_; (case k6_29 => k_is); (case k7_29 => k_is); (case h1_29 => first | decide | exact Nat.succ_pos _); (case k9_29 => exact rfl); (case kB_29 => exact locs rfl); (case c5_29 => decide); (case c2_29 => exact rfl); (case c3_29 => exact rfl); (case c4_29 => exact rfl); k_whole)))
  intro loose mean mg mb dp un gd env outer base g L' h₁ s tk F' N' B' X' T' lW hd hu
  try dsimp only at X'
  try dsimp only
  try k_fold
  try k_lt lW
  have kM := kstMark
  k_with_none
  have hpl : (ofL p).length = p.length := rfl
  have hgl : (ofL gl).length = gl.length := rfl
  have d3 : (Str.ofString "...").length = 3 := rfl
  (repeat' (first |  (k_unfold; (try dsimp only)) | ((with_reducible show wpAny _ _ (binaryOp Operator.Add (Value.str _ _) (Value.str _ _)) _ _ _); refine SBL.add (hsz := by (rw [sizeLine_eq]; (try simp only [Str.length_append] at *); omega)) ?_; intro _ _ _) | (k_here; (with_reducible show wpAny _ _ (eval (Expr.Name _ _) (compEnv _ _ _)) _ _ _); k_dflt (first | (refine name_locS rfl rfl rfl (by decide) (by with_reducible assumption) (by assumption) ?_; k_whole) | (refine nameG_BS rfl rfl rfl rfl (by decide) (by k_asm) (by k_asm) (by k_asm) (by k_is) (by boot_fast) (by decide) ?_; k_whole))) | (k_here; (with_reducible show wpAny _ _ (call (Value.type _) [Value.str _ _]) _ _ _); k_dflt (refine list_strN rfl (by k_asm) (by k_asm) ?_ (by rw [sizeLine_eq]; omega)); intro D9 ys9 c9 h9 tk9 F9 N9 l9 m9 hS9; (try k_lt l9); (try k_sweep)) | (k_here; (with_reducible show wpAny _ _ (compareOp CmpOp.NotEq (Value.ref _) (Value.ref _)) _ _ _); k_dflt (first | refine strs_ne_nil (by is_list) (by is_list) (by ke_room) ?_ | refine strs_ne_cons (by is_list) (by is_list) (by k_asm) (by ke_room) ?_ | refine strs_ne (by is_list) (by is_list) (by first | k_asm | exact StrsAre.nil) (by first | exact StrsAre.nil | k_asm) (by ke_room) ?_)) | (k_here; (with_reducible show wpAny _ _ (compareOp CmpOp.Eq (Value.ref _) (Value.ref _)) _ _ _); k_dflt (refine strs_eq (by is_list) (by is_list) (by first | k_asm | exact StrsAre.nil) (by first | exact StrsAre.nil | k_asm) (by ke_room) ?_)) | (k_here; (with_reducible show wpAny _ _ (call (Value.builtin _) [Value.ref _, Value.int 0 _]) _ _ _); k_dflt (refine pop_first (by k_asm) (by k_asm) (by k_upd) (by (rw [sizeLine_eq]; (try have hL9 := PyProof.Rows.StrsAre.length (by assumption)); (try simp only [List.length_cons] at *); omega)) ?_; k_whole); intro h9 F9 N9; (try k_sweep)) | (k_here; (with_reducible show wpAny _ _ (call (Value.builtin "len") [Value.str _ _]) _ _ _); refine len_str (by omega) ?_) | (k_here; (with_reducible show wpAny _ _ (call (Value.builtin "len") [Value.ref _]) _ _ _); k_dflt (refine len_strsA (by is_list) (by assumption) (by ((try simp only [List.length_map]); omega)) ?_; k_whole); (try simp only [List.length_map])) | walk1 | (dsimp only; walk1) | (dsimp only; k_unfold; (try dsimp only)) | fail "no step"))
  refine hold_out ?_
  refine Spec.pure (ell_mid w _ _ p gl _ _ h46 (dots_app_dots _) rfl (by omega) (by omega)) (by assumption) (by assumption) (by assumption) (by assumption) (by assumption) rfl (by omega) (by omega) ?_
  rintro r h1 tk1 hr F1 N1
  try dsimp only
  cases hb : inB p gl with
  | true =>
    rw [hb] at hr
    subst hr
    (repeat' (first |  (k_unfold; (try dsimp only)) | ((with_reducible show wpAny _ _ (binaryOp Operator.Add (Value.str _ _) (Value.str _ _)) _ _ _); refine SBL.add (hsz := by (rw [sizeLine_eq]; (try simp only [Str.length_append] at *); omega)) ?_; intro _ _ _) | (k_here; (with_reducible show wpAny _ _ (eval (Expr.Name _ _) (compEnv _ _ _)) _ _ _); k_dflt (first | (refine name_locS rfl rfl rfl (by decide) (by with_reducible assumption) (by assumption) ?_; k_whole) | (refine nameG_BS rfl rfl rfl rfl (by decide) (by k_asm) (by k_asm) (by k_asm) (by k_is) (by boot_fast) (by decide) ?_; k_whole))) | (k_here; (with_reducible show wpAny _ _ (call (Value.type _) [Value.str _ _]) _ _ _); k_dflt (refine list_strN rfl (by k_asm) (by k_asm) ?_ (by rw [sizeLine_eq]; omega)); intro D9 ys9 c9 h9 tk9 F9 N9 l9 m9 hS9; (try k_lt l9); (try k_sweep)) | (k_here; (with_reducible show wpAny _ _ (compareOp CmpOp.NotEq (Value.ref _) (Value.ref _)) _ _ _); k_dflt (first | refine strs_ne_nil (by is_list) (by is_list) (by ke_room) ?_ | refine strs_ne_cons (by is_list) (by is_list) (by k_asm) (by ke_room) ?_ | refine strs_ne (by is_list) (by is_list) (by first | k_asm | exact StrsAre.nil) (by first | exact StrsAre.nil | k_asm) (by ke_room) ?_)) | (k_here; (with_reducible show wpAny _ _ (compareOp CmpOp.Eq (Value.ref _) (Value.ref _)) _ _ _); k_dflt (refine strs_eq (by is_list) (by is_list) (by first | k_asm | exact StrsAre.nil) (by first | exact StrsAre.nil | k_asm) (by ke_room) ?_)) | (k_here; (with_reducible show wpAny _ _ (call (Value.builtin _) [Value.ref _, Value.int 0 _]) _ _ _); k_dflt (refine pop_first (by k_asm) (by k_asm) (by k_upd) (by (rw [sizeLine_eq]; (try have hL9 := PyProof.Rows.StrsAre.length (by assumption)); (try simp only [List.length_cons] at *); omega)) ?_; k_whole); intro h9 F9 N9; (try k_sweep)) | (k_here; (with_reducible show wpAny _ _ (call (Value.builtin "len") [Value.str _ _]) _ _ _); refine len_str (by omega) ?_) | (k_here; (with_reducible show wpAny _ _ (call (Value.builtin "len") [Value.ref _]) _ _ _); k_dflt (refine len_strsA (by is_list) (by assumption) (by ((try simp only [List.length_map]); omega)) ?_; k_whole); (try simp only [List.length_map])) | walk1 | (dsimp only; walk1) | (dsimp only; k_unfold; (try dsimp only)) | fail "no step"))
    exact Back.mk' ⟨by rw [hb]; rfl, rfl⟩ F1 N1 (fun _ h => nomatch h) (fun _ h => nomatch h)
  | false =>
    rw [hb] at hr
    subst hr
    (repeat' (first |  (k_unfold; (try dsimp only)) | ((with_reducible show wpAny _ _ (binaryOp Operator.Add (Value.str _ _) (Value.str _ _)) _ _ _); refine SBL.add (hsz := by (rw [sizeLine_eq]; (try simp only [Str.length_append] at *); omega)) ?_; intro _ _ _) | (k_here; (with_reducible show wpAny _ _ (eval (Expr.Name _ _) (compEnv _ _ _)) _ _ _); k_dflt (first | (refine name_locS rfl rfl rfl (by decide) (by with_reducible assumption) (by assumption) ?_; k_whole) | (refine nameG_BS rfl rfl rfl rfl (by decide) (by k_asm) (by k_asm) (by k_asm) (by k_is) (by boot_fast) (by decide) ?_; k_whole))) | (k_here; (with_reducible show wpAny _ _ (call (Value.type _) [Value.str _ _]) _ _ _); k_dflt (refine list_strN rfl (by k_asm) (by k_asm) ?_ (by rw [sizeLine_eq]; omega)); intro D9 ys9 c9 h9 tk9 F9 N9 l9 m9 hS9; (try k_lt l9); (try k_sweep)) | (k_here; (with_reducible show wpAny _ _ (compareOp CmpOp.NotEq (Value.ref _) (Value.ref _)) _ _ _); k_dflt (first | refine strs_ne_nil (by is_list) (by is_list) (by ke_room) ?_ | refine strs_ne_cons (by is_list) (by is_list) (by k_asm) (by ke_room) ?_ | refine strs_ne (by is_list) (by is_list) (by first | k_asm | exact StrsAre.nil) (by first | exact StrsAre.nil | k_asm) (by ke_room) ?_)) | (k_here; (with_reducible show wpAny _ _ (compareOp CmpOp.Eq (Value.ref _) (Value.ref _)) _ _ _); k_dflt (refine strs_eq (by is_list) (by is_list) (by first | k_asm | exact StrsAre.nil) (by first | exact StrsAre.nil | k_asm) (by ke_room) ?_)) | (k_here; (with_reducible show wpAny _ _ (call (Value.builtin _) [Value.ref _, Value.int 0 _]) _ _ _); k_dflt (refine pop_first (by k_asm) (by k_asm) (by k_upd) (by (rw [sizeLine_eq]; (try have hL9 := PyProof.Rows.StrsAre.length (by assumption)); (try simp only [List.length_cons] at *); omega)) ?_; k_whole); intro h9 F9 N9; (try k_sweep)) | (k_here; (with_reducible show wpAny _ _ (call (Value.builtin "len") [Value.str _ _]) _ _ _); refine len_str (by omega) ?_) | (k_here; (with_reducible show wpAny _ _ (call (Value.builtin "len") [Value.ref _]) _ _ _); k_dflt (refine len_strsA (by is_list) (by assumption) (by ((try simp only [List.length_map]); omega)) ?_; k_whole); (try simp only [List.length_map])) | walk1 | (dsimp only; walk1) | (dsimp only; k_unfold; (try dsimp only)) | fail "no step"))
    exact Back.mk' ⟨by rw [hb]; rfl, rfl⟩ F1 N1 (fun _ h => nomatch h) (fun _ h => nomatch h)

end
section
local macro_rules | `(tactic| walk_at "call ref") => `(tactic| refine hold_in ?_)
local macro_rules | `(tactic| walk_at "exec For Name Name cons nil") => `(tactic| refine hold_in ?_)
local macro_rules | `(tactic| walk_at "pyIter ref") => `(tactic| ((with_reducible show wpAny _ _ (pyIter (Value.ref _)) (fun it s₂ => codeAny _ _ (Code.forLoop _ _ _ _ _) _ _) _ _); refine hold_in ?_))
set_option pp.maxSteps 3000
abbrev inner {α : Type} (l : List α) : List α := (l.drop 1).take (l.length - 2)
def retOf {α : Type} [BEq α] (part one : List α) : Bool := decide (one.length < part.length) && (one.isPrefixOf part && (one.isSuffixOf part && !inB one (inner part)))
def returnsL {α : Type} [BEq α] (ms : List (List α)) (part : List α) : Bool := ms.any (retOf part)
theorem any_take {α : Type} {f : α → Bool} {xs : List α} {i : Nat} {x : α} (h : xs[i]? = some x) (e : f x = false) (hA : (xs.take i).any f = false) : (xs.take (i + 1)).any f = false := by
  rw [List.take_add_one, h, Option.toList_some, List.any_append, hA, List.any_cons, e]; rfl
theorem any_of {α : Type} {f : α → Bool} {xs : List α} {i : Nat} {x : α} (h : xs[i]? = some x) (e : f x = true) : xs.any f = true := List.any_eq_true.mpr ⟨x, List.mem_of_getElem? h, e⟩
theorem strs_at {ys : List Value} {ms : List (List Nat)} (h : StrsAre ys (ms.map ofL)) {i : Nat} {v : Value} (e : ys[i]? = some v) : ∃ l t, ms[i]? = some l ∧ v = .str (ofL l) t := by
  have hl := h.length
  rw [List.length_map] at hl
  obtain ⟨hi, e1⟩ := List.getElem?_eq_some_iff.mp e
  obtain ⟨t, e2⟩ := strs_get h i hi
  have him : i < ms.length := by omega
  refine ⟨ms[i], t, by simp [him], ?_⟩
  rw [← e1, e2]
  congr 1
  simp [him]
abbrev rtFr (H : Addr) (part : List Nat) (tp : Tok) (mo : Option Value) : Str → Option Value := fun y => if y = Str.ofString "one" then mo else if y = Str.ofString "part" then some (.str (ofL part) tp) else if y = Str.ofString "mirrors" then some (.ref H) else none
theorem rt_fr {g h : Heap} {L H : Addr} {part : List Nat} {tp : Tok} {mo : Option Value} {v : Value} (F : Fr g L h (fun y => if y = Str.ofString "one" then some v else rtFr H part tp mo y)) : Fr g L h (rtFr H part tp (some v)) := fr_to F fun y => by
  by_cases h1 : y = Str.ofString "one"
  · simp only [rtFr, if_pos h1]
  · simp only [rtFr, if_neg h1]
set_option maxHeartbeats 8000000 in
theorem returns_spec (w : World) (H : Addr) (ms : List (List Nat)) (ys : List Value) (c : Nat) (part : List Nat) (tp : Tok) (hS : StrsAre ys (ms.map ofL)) (hms : ∀ l ∈ ms, l ≠ [] ∧ l.length ≤ 9 ∧ ∀ c ∈ l, c ≠ 46) (hp : part.length ≤ 9) (hp46 : ∀ c ∈ part, c ≠ 46) :
    Spec PySem.Challenge.rw_sc0030_02.row.prog (fun w => Mine.hd.heap_39 w.params) w 103 [.ref H, .str (ofL part) tp] 10 200 [(H, PySem.W.listOf ys.toArray c)] (fun r W' => r = .bool (returnsL ms part) ∧ W' = [(H, PySem.W.listOf ys.toArray c)]) := by
  ((k_fill; k_dflt (refine' spec_plain ?k6_34 ?k7_34 ?h1_34 ?k9_34 ?kB_34 ?c5_34 ?c2_34 ?c3_34 ?c4_34 ?_; (case k6_34 => k_is); (case k7_34 => k_is); (case h1_34 => first | decide | exact Nat.succ_pos _); (case k9_34 => exact rfl); (case kB_34 => exact locs rfl); (case c5_34 => decide); (case c2_34 => exact rfl); (case c3_34 => exact rfl); (case c4_34 => exact rfl); k_whole)))
  intro loose mean mg mb dp un gd env outer base g L' h₁ s tk F' N' B' X' T' lW hd hu
  try dsimp only at X'
  try dsimp only
  try k_fold
  try k_lt lW
  have kM := kstMark
  k_with_none
  (repeat' (first |  (k_unfold; (try dsimp only)) | ((with_reducible show wpAny _ _ (binaryOp Operator.Add (Value.str _ _) (Value.str _ _)) _ _ _); refine SBL.add (hsz := by (rw [sizeLine_eq]; (try simp only [Str.length_append] at *); omega)) ?_; intro _ _ _) | (k_here; (with_reducible show wpAny _ _ (eval (Expr.Name _ _) (compEnv _ _ _)) _ _ _); k_dflt (first | (refine name_locS rfl rfl rfl (by decide) (by with_reducible assumption) (by assumption) ?_; k_whole) | (refine nameG_BS rfl rfl rfl rfl (by decide) (by k_asm) (by k_asm) (by k_asm) (by k_is) (by boot_fast) (by decide) ?_; k_whole))) | (k_here; (with_reducible show wpAny _ _ (call (Value.type _) [Value.str _ _]) _ _ _); k_dflt (refine list_strN rfl (by k_asm) (by k_asm) ?_ (by rw [sizeLine_eq]; omega)); intro D9 ys9 c9 h9 tk9 F9 N9 l9 m9 hS9; (try k_lt l9); (try k_sweep)) | (k_here; (with_reducible show wpAny _ _ (compareOp CmpOp.NotEq (Value.ref _) (Value.ref _)) _ _ _); k_dflt (first | refine strs_ne_nil (by is_list) (by is_list) (by ke_room) ?_ | refine strs_ne_cons (by is_list) (by is_list) (by k_asm) (by ke_room) ?_ | refine strs_ne (by is_list) (by is_list) (by first | k_asm | exact StrsAre.nil) (by first | exact StrsAre.nil | k_asm) (by ke_room) ?_)) | (k_here; (with_reducible show wpAny _ _ (compareOp CmpOp.Eq (Value.ref _) (Value.ref _)) _ _ _); k_dflt (refine strs_eq (by is_list) (by is_list) (by first | k_asm | exact StrsAre.nil) (by first | exact StrsAre.nil | k_asm) (by ke_room) ?_)) | (k_here; (with_reducible show wpAny _ _ (call (Value.builtin _) [Value.ref _, Value.int 0 _]) _ _ _); k_dflt (refine pop_first (by k_asm) (by k_asm) (by k_upd) (by (rw [sizeLine_eq]; (try have hL9 := PyProof.Rows.StrsAre.length (by assumption)); (try simp only [List.length_cons] at *); omega)) ?_; k_whole); intro h9 F9 N9; (try k_sweep)) | (k_here; (with_reducible show wpAny _ _ (call (Value.builtin "len") [Value.str _ _]) _ _ _); refine len_str (by omega) ?_) | (k_here; (with_reducible show wpAny _ _ (call (Value.builtin "len") [Value.ref _]) _ _ _); k_dflt (refine len_strsA (by is_list) (by assumption) (by ((try simp only [List.length_map]); omega)) ?_; k_whole); (try simp only [List.length_map])) | walk1 | (dsimp only; walk1) | (dsimp only; k_unfold; (try dsimp only)) | fail "no step"))
  refine hold_out ?_
  refine wpAny_For ?_
  (repeat' (first |  (k_unfold; (try dsimp only)) | ((with_reducible show wpAny _ _ (binaryOp Operator.Add (Value.str _ _) (Value.str _ _)) _ _ _); refine SBL.add (hsz := by (rw [sizeLine_eq]; (try simp only [Str.length_append] at *); omega)) ?_; intro _ _ _) | (k_here; (with_reducible show wpAny _ _ (eval (Expr.Name _ _) (compEnv _ _ _)) _ _ _); k_dflt (first | (refine name_locS rfl rfl rfl (by decide) (by with_reducible assumption) (by assumption) ?_; k_whole) | (refine nameG_BS rfl rfl rfl rfl (by decide) (by k_asm) (by k_asm) (by k_asm) (by k_is) (by boot_fast) (by decide) ?_; k_whole))) | (k_here; (with_reducible show wpAny _ _ (call (Value.type _) [Value.str _ _]) _ _ _); k_dflt (refine list_strN rfl (by k_asm) (by k_asm) ?_ (by rw [sizeLine_eq]; omega)); intro D9 ys9 c9 h9 tk9 F9 N9 l9 m9 hS9; (try k_lt l9); (try k_sweep)) | (k_here; (with_reducible show wpAny _ _ (compareOp CmpOp.NotEq (Value.ref _) (Value.ref _)) _ _ _); k_dflt (first | refine strs_ne_nil (by is_list) (by is_list) (by ke_room) ?_ | refine strs_ne_cons (by is_list) (by is_list) (by k_asm) (by ke_room) ?_ | refine strs_ne (by is_list) (by is_list) (by first | k_asm | exact StrsAre.nil) (by first | exact StrsAre.nil | k_asm) (by ke_room) ?_)) | (k_here; (with_reducible show wpAny _ _ (compareOp CmpOp.Eq (Value.ref _) (Value.ref _)) _ _ _); k_dflt (refine strs_eq (by is_list) (by is_list) (by first | k_asm | exact StrsAre.nil) (by first | exact StrsAre.nil | k_asm) (by ke_room) ?_)) | (k_here; (with_reducible show wpAny _ _ (call (Value.builtin _) [Value.ref _, Value.int 0 _]) _ _ _); k_dflt (refine pop_first (by k_asm) (by k_asm) (by k_upd) (by (rw [sizeLine_eq]; (try have hL9 := PyProof.Rows.StrsAre.length (by assumption)); (try simp only [List.length_cons] at *); omega)) ?_; k_whole); intro h9 F9 N9; (try k_sweep)) | (k_here; (with_reducible show wpAny _ _ (call (Value.builtin "len") [Value.str _ _]) _ _ _); refine len_str (by omega) ?_) | (k_here; (with_reducible show wpAny _ _ (call (Value.builtin "len") [Value.ref _]) _ _ _); k_dflt (refine len_strsA (by is_list) (by assumption) (by ((try simp only [List.length_map]); omega)) ?_; k_whole); (try simp only [List.length_map])) | walk1 | (dsimp only; walk1) | (dsimp only; k_unfold; (try dsimp only)) | fail "no step"))
  refine hold_out ?_
  with_reducible rename Fr _ _ _ _ => F1
  with_reducible rename News _ _ _ _ => N1
  refine' for_list (m := rtFr H part tp none) (nn := c) (vs := ys) (news := [(H, PySem.W.listOf ys.toArray c)]) (fun i m nx => (ms.take i).any (retOf part) = false ∧ ∃ mo, m = rtFr H part tp mo ∧ nx = [(H, PySem.W.listOf ys.toArray c)]) (by rfl) (fun _ _ h => h) ?fr N1 (.head _) ⟨by simp, none, rfl, rfl⟩ ?hk ?turn ?done
  case fr =>
    refine fr_to F1 (fun y => ?_)
    by_cases h1 : y = Str.ofString "one"
    · subst h1; rfl
    by_cases h2 : y = Str.ofString "part"
    · subst h2; rfl
    by_cases h3 : y = Str.ofString "mirrors"
    · subst h3; rfl
    simp only [rtFr, if_neg h1, if_neg h2, if_neg h3]
    show List.lookup y [(Str.ofString "part", _), (Str.ofString "mirrors", _)] = none
    rw [List.lookup_cons, beq_eq_false_iff_ne.mpr h2, List.lookup_cons, beq_eq_false_iff_ne.mpr h3]; rfl
  case hk =>
    rintro i m₁ nx ⟨_, mo, _, rfl⟩
    exact .head _
  case done =>
    rintro m₁ nx h tk ⟨hA, mo, rfl, rfl⟩ F2 N2
    have hl := hS.length
    rw [List.length_map] at hl
    rw [hl, List.take_length] at hA
    try dsimp only
    (repeat' (first |  (k_unfold; (try dsimp only)) | ((with_reducible show wpAny _ _ (binaryOp Operator.Add (Value.str _ _) (Value.str _ _)) _ _ _); refine SBL.add (hsz := by (rw [sizeLine_eq]; (try simp only [Str.length_append] at *); omega)) ?_; intro _ _ _) | (k_here; (with_reducible show wpAny _ _ (eval (Expr.Name _ _) (compEnv _ _ _)) _ _ _); k_dflt (first | (refine name_locS rfl rfl rfl (by decide) (by with_reducible assumption) (by assumption) ?_; k_whole) | (refine nameG_BS rfl rfl rfl rfl (by decide) (by k_asm) (by k_asm) (by k_asm) (by k_is) (by boot_fast) (by decide) ?_; k_whole))) | (k_here; (with_reducible show wpAny _ _ (call (Value.type _) [Value.str _ _]) _ _ _); k_dflt (refine list_strN rfl (by k_asm) (by k_asm) ?_ (by rw [sizeLine_eq]; omega)); intro D9 ys9 c9 h9 tk9 F9 N9 l9 m9 hS9; (try k_lt l9); (try k_sweep)) | (k_here; (with_reducible show wpAny _ _ (compareOp CmpOp.NotEq (Value.ref _) (Value.ref _)) _ _ _); k_dflt (first | refine strs_ne_nil (by is_list) (by is_list) (by ke_room) ?_ | refine strs_ne_cons (by is_list) (by is_list) (by k_asm) (by ke_room) ?_ | refine strs_ne (by is_list) (by is_list) (by first | k_asm | exact StrsAre.nil) (by first | exact StrsAre.nil | k_asm) (by ke_room) ?_)) | (k_here; (with_reducible show wpAny _ _ (compareOp CmpOp.Eq (Value.ref _) (Value.ref _)) _ _ _); k_dflt (refine strs_eq (by is_list) (by is_list) (by first | k_asm | exact StrsAre.nil) (by first | exact StrsAre.nil | k_asm) (by ke_room) ?_)) | (k_here; (with_reducible show wpAny _ _ (call (Value.builtin _) [Value.ref _, Value.int 0 _]) _ _ _); k_dflt (refine pop_first (by k_asm) (by k_asm) (by k_upd) (by (rw [sizeLine_eq]; (try have hL9 := PyProof.Rows.StrsAre.length (by assumption)); (try simp only [List.length_cons] at *); omega)) ?_; k_whole); intro h9 F9 N9; (try k_sweep)) | (k_here; (with_reducible show wpAny _ _ (call (Value.builtin "len") [Value.str _ _]) _ _ _); refine len_str (by omega) ?_) | (k_here; (with_reducible show wpAny _ _ (call (Value.builtin "len") [Value.ref _]) _ _ _); k_dflt (refine len_strsA (by is_list) (by assumption) (by ((try simp only [List.length_map]); omega)) ?_; k_whole); (try simp only [List.length_map])) | walk1 | (dsimp only; walk1) | (dsimp only; k_unfold; (try dsimp only)) | fail "no step"))
    exact Back.mk' ⟨by unfold returnsL; rw [hA], rfl⟩ F2 N2 (by (repeat (first | exact List.forall_mem_nil _ | refine List.forall_mem_cons.mpr ⟨by k_mem, ?_⟩))) (by (repeat (first | exact List.forall_mem_nil _ | refine List.forall_mem_cons.mpr ⟨by first | (left; simp only [List.map_cons, List.mem_cons, true_or, or_true]; done) | (right; refine ltN ?_; (try dsimp only); omega), ?_⟩)))
  case turn =>
    rintro i v m₁ nx h tk I oI hi hv ⟨hA, mo, rfl, rfl⟩ F2 N2 off
    obtain ⟨one, to, ho, rfl⟩ := strs_at hS hv
    obtain ⟨hn1, hn2, hn3⟩ := hms one (List.mem_of_getElem? ho)
    have hol : (ofL one).length = one.length := rfl
    have hpl : (ofL part).length = part.length := rfl
    have d3 : (Str.ofString "...").length = 3 := rfl
    have hn4 : 1 ≤ one.length := by cases one with
      | nil => exact absurd rfl hn1
      | cons _ _ => simp
    (repeat' (first |  (k_unfold; (try dsimp only)) | ((with_reducible show wpAny _ _ (binaryOp Operator.Add (Value.str _ _) (Value.str _ _)) _ _ _); refine SBL.add (hsz := by (rw [sizeLine_eq]; (try simp only [Str.length_append] at *); omega)) ?_; intro _ _ _) | (k_here; (with_reducible show wpAny _ _ (eval (Expr.Name _ _) (compEnv _ _ _)) _ _ _); k_dflt (first | (refine name_locS rfl rfl rfl (by decide) (by with_reducible assumption) (by assumption) ?_; k_whole) | (refine nameG_BS rfl rfl rfl rfl (by decide) (by k_asm) (by k_asm) (by k_asm) (by k_is) (by boot_fast) (by decide) ?_; k_whole))) | (k_here; (with_reducible show wpAny _ _ (call (Value.type _) [Value.str _ _]) _ _ _); k_dflt (refine list_strN rfl (by k_asm) (by k_asm) ?_ (by rw [sizeLine_eq]; omega)); intro D9 ys9 c9 h9 tk9 F9 N9 l9 m9 hS9; (try k_lt l9); (try k_sweep)) | (k_here; (with_reducible show wpAny _ _ (compareOp CmpOp.NotEq (Value.ref _) (Value.ref _)) _ _ _); k_dflt (first | refine strs_ne_nil (by is_list) (by is_list) (by ke_room) ?_ | refine strs_ne_cons (by is_list) (by is_list) (by k_asm) (by ke_room) ?_ | refine strs_ne (by is_list) (by is_list) (by first | k_asm | exact StrsAre.nil) (by first | exact StrsAre.nil | k_asm) (by ke_room) ?_)) | (k_here; (with_reducible show wpAny _ _ (compareOp CmpOp.Eq (Value.ref _) (Value.ref _)) _ _ _); k_dflt (refine strs_eq (by is_list) (by is_list) (by first | k_asm | exact StrsAre.nil) (by first | exact StrsAre.nil | k_asm) (by ke_room) ?_)) | (k_here; (with_reducible show wpAny _ _ (call (Value.builtin _) [Value.ref _, Value.int 0 _]) _ _ _); k_dflt (refine pop_first (by k_asm) (by k_asm) (by k_upd) (by (rw [sizeLine_eq]; (try have hL9 := PyProof.Rows.StrsAre.length (by assumption)); (try simp only [List.length_cons] at *); omega)) ?_; k_whole); intro h9 F9 N9; (try k_sweep)) | (k_here; (with_reducible show wpAny _ _ (call (Value.builtin "len") [Value.str _ _]) _ _ _); refine len_str (by omega) ?_) | (k_here; (with_reducible show wpAny _ _ (call (Value.builtin "len") [Value.ref _]) _ _ _); k_dflt (refine len_strsA (by is_list) (by assumption) (by ((try simp only [List.length_map]); omega)) ?_; k_whole); (try simp only [List.length_map])) | walk1 | (dsimp only; walk1) | (dsimp only; k_unfold; (try dsimp only)) | fail "no step"))
    · refine hold_out ?_
      with_reducible rename (_ : Int) < _ => hlt
      have hlt2 : one.length < part.length := by omega
      refine Spec.pure (ell_post w _ _ one part _ _ hn3 (app_dots _) rfl hn4 (by omega) (by omega)) (by assumption) (by assumption) (by assumption) (by assumption) (by assumption) rfl (by omega) (by omega) ?_
      rintro r h1 tk1 hr F3 N3
      try dsimp only
      cases hb1 : one.isPrefixOf part with
      | false =>
        rw [hb1] at hr
        subst hr
        (repeat' (first |  (k_unfold; (try dsimp only)) | ((with_reducible show wpAny _ _ (binaryOp Operator.Add (Value.str _ _) (Value.str _ _)) _ _ _); refine SBL.add (hsz := by (rw [sizeLine_eq]; (try simp only [Str.length_append] at *); omega)) ?_; intro _ _ _) | (k_here; (with_reducible show wpAny _ _ (eval (Expr.Name _ _) (compEnv _ _ _)) _ _ _); k_dflt (first | (refine name_locS rfl rfl rfl (by decide) (by with_reducible assumption) (by assumption) ?_; k_whole) | (refine nameG_BS rfl rfl rfl rfl (by decide) (by k_asm) (by k_asm) (by k_asm) (by k_is) (by boot_fast) (by decide) ?_; k_whole))) | (k_here; (with_reducible show wpAny _ _ (call (Value.type _) [Value.str _ _]) _ _ _); k_dflt (refine list_strN rfl (by k_asm) (by k_asm) ?_ (by rw [sizeLine_eq]; omega)); intro D9 ys9 c9 h9 tk9 F9 N9 l9 m9 hS9; (try k_lt l9); (try k_sweep)) | (k_here; (with_reducible show wpAny _ _ (compareOp CmpOp.NotEq (Value.ref _) (Value.ref _)) _ _ _); k_dflt (first | refine strs_ne_nil (by is_list) (by is_list) (by ke_room) ?_ | refine strs_ne_cons (by is_list) (by is_list) (by k_asm) (by ke_room) ?_ | refine strs_ne (by is_list) (by is_list) (by first | k_asm | exact StrsAre.nil) (by first | exact StrsAre.nil | k_asm) (by ke_room) ?_)) | (k_here; (with_reducible show wpAny _ _ (compareOp CmpOp.Eq (Value.ref _) (Value.ref _)) _ _ _); k_dflt (refine strs_eq (by is_list) (by is_list) (by first | k_asm | exact StrsAre.nil) (by first | exact StrsAre.nil | k_asm) (by ke_room) ?_)) | (k_here; (with_reducible show wpAny _ _ (call (Value.builtin _) [Value.ref _, Value.int 0 _]) _ _ _); k_dflt (refine pop_first (by k_asm) (by k_asm) (by k_upd) (by (rw [sizeLine_eq]; (try have hL9 := PyProof.Rows.StrsAre.length (by assumption)); (try simp only [List.length_cons] at *); omega)) ?_; k_whole); intro h9 F9 N9; (try k_sweep)) | (k_here; (with_reducible show wpAny _ _ (call (Value.builtin "len") [Value.str _ _]) _ _ _); refine len_str (by omega) ?_) | (k_here; (with_reducible show wpAny _ _ (call (Value.builtin "len") [Value.ref _]) _ _ _); k_dflt (refine len_strsA (by is_list) (by assumption) (by ((try simp only [List.length_map]); omega)) ?_; k_whole); (try simp only [List.length_map])) | walk1 | (dsimp only; walk1) | (dsimp only; k_unfold; (try dsimp only)) | fail "no step"))
        with_reducible rename Fr _ _ _ _ => F9
        with_reducible rename News _ _ _ _ => N9
        exact TurnTo.mk ⟨any_take ho (by simp [retOf, hb1]) hA, _, rfl, rfl⟩ (rt_fr F9) N9 (fun p hp => hp) off
      | true =>
        rw [hb1] at hr
        subst hr
        (repeat' (first |  (k_unfold; (try dsimp only)) | ((with_reducible show wpAny _ _ (binaryOp Operator.Add (Value.str _ _) (Value.str _ _)) _ _ _); refine SBL.add (hsz := by (rw [sizeLine_eq]; (try simp only [Str.length_append] at *); omega)) ?_; intro _ _ _) | (k_here; (with_reducible show wpAny _ _ (eval (Expr.Name _ _) (compEnv _ _ _)) _ _ _); k_dflt (first | (refine name_locS rfl rfl rfl (by decide) (by with_reducible assumption) (by assumption) ?_; k_whole) | (refine nameG_BS rfl rfl rfl rfl (by decide) (by k_asm) (by k_asm) (by k_asm) (by k_is) (by boot_fast) (by decide) ?_; k_whole))) | (k_here; (with_reducible show wpAny _ _ (call (Value.type _) [Value.str _ _]) _ _ _); k_dflt (refine list_strN rfl (by k_asm) (by k_asm) ?_ (by rw [sizeLine_eq]; omega)); intro D9 ys9 c9 h9 tk9 F9 N9 l9 m9 hS9; (try k_lt l9); (try k_sweep)) | (k_here; (with_reducible show wpAny _ _ (compareOp CmpOp.NotEq (Value.ref _) (Value.ref _)) _ _ _); k_dflt (first | refine strs_ne_nil (by is_list) (by is_list) (by ke_room) ?_ | refine strs_ne_cons (by is_list) (by is_list) (by k_asm) (by ke_room) ?_ | refine strs_ne (by is_list) (by is_list) (by first | k_asm | exact StrsAre.nil) (by first | exact StrsAre.nil | k_asm) (by ke_room) ?_)) | (k_here; (with_reducible show wpAny _ _ (compareOp CmpOp.Eq (Value.ref _) (Value.ref _)) _ _ _); k_dflt (refine strs_eq (by is_list) (by is_list) (by first | k_asm | exact StrsAre.nil) (by first | exact StrsAre.nil | k_asm) (by ke_room) ?_)) | (k_here; (with_reducible show wpAny _ _ (call (Value.builtin _) [Value.ref _, Value.int 0 _]) _ _ _); k_dflt (refine pop_first (by k_asm) (by k_asm) (by k_upd) (by (rw [sizeLine_eq]; (try have hL9 := PyProof.Rows.StrsAre.length (by assumption)); (try simp only [List.length_cons] at *); omega)) ?_; k_whole); intro h9 F9 N9; (try k_sweep)) | (k_here; (with_reducible show wpAny _ _ (call (Value.builtin "len") [Value.str _ _]) _ _ _); refine len_str (by omega) ?_) | (k_here; (with_reducible show wpAny _ _ (call (Value.builtin "len") [Value.ref _]) _ _ _); k_dflt (refine len_strsA (by is_list) (by assumption) (by ((try simp only [List.length_map]); omega)) ?_; k_whole); (try simp only [List.length_map])) | walk1 | (dsimp only; walk1) | (dsimp only; k_unfold; (try dsimp only)) | fail "no step"))
        refine hold_out ?_
        refine Spec.pure (ell_pre w _ _ one part _ _ hn3 (dots_app _) rfl hn4 (by omega) (by omega)) (by assumption) (by assumption) (by assumption) (by assumption) (by assumption) rfl (by omega) (by omega) ?_
        rintro r h2 tk2 hr F4 N4
        try dsimp only
        cases hb2 : one.isSuffixOf part with
        | false =>
          rw [hb2] at hr
          subst hr
          (repeat' (first |  (k_unfold; (try dsimp only)) | ((with_reducible show wpAny _ _ (binaryOp Operator.Add (Value.str _ _) (Value.str _ _)) _ _ _); refine SBL.add (hsz := by (rw [sizeLine_eq]; (try simp only [Str.length_append] at *); omega)) ?_; intro _ _ _) | (k_here; (with_reducible show wpAny _ _ (eval (Expr.Name _ _) (compEnv _ _ _)) _ _ _); k_dflt (first | (refine name_locS rfl rfl rfl (by decide) (by with_reducible assumption) (by assumption) ?_; k_whole) | (refine nameG_BS rfl rfl rfl rfl (by decide) (by k_asm) (by k_asm) (by k_asm) (by k_is) (by boot_fast) (by decide) ?_; k_whole))) | (k_here; (with_reducible show wpAny _ _ (call (Value.type _) [Value.str _ _]) _ _ _); k_dflt (refine list_strN rfl (by k_asm) (by k_asm) ?_ (by rw [sizeLine_eq]; omega)); intro D9 ys9 c9 h9 tk9 F9 N9 l9 m9 hS9; (try k_lt l9); (try k_sweep)) | (k_here; (with_reducible show wpAny _ _ (compareOp CmpOp.NotEq (Value.ref _) (Value.ref _)) _ _ _); k_dflt (first | refine strs_ne_nil (by is_list) (by is_list) (by ke_room) ?_ | refine strs_ne_cons (by is_list) (by is_list) (by k_asm) (by ke_room) ?_ | refine strs_ne (by is_list) (by is_list) (by first | k_asm | exact StrsAre.nil) (by first | exact StrsAre.nil | k_asm) (by ke_room) ?_)) | (k_here; (with_reducible show wpAny _ _ (compareOp CmpOp.Eq (Value.ref _) (Value.ref _)) _ _ _); k_dflt (refine strs_eq (by is_list) (by is_list) (by first | k_asm | exact StrsAre.nil) (by first | exact StrsAre.nil | k_asm) (by ke_room) ?_)) | (k_here; (with_reducible show wpAny _ _ (call (Value.builtin _) [Value.ref _, Value.int 0 _]) _ _ _); k_dflt (refine pop_first (by k_asm) (by k_asm) (by k_upd) (by (rw [sizeLine_eq]; (try have hL9 := PyProof.Rows.StrsAre.length (by assumption)); (try simp only [List.length_cons] at *); omega)) ?_; k_whole); intro h9 F9 N9; (try k_sweep)) | (k_here; (with_reducible show wpAny _ _ (call (Value.builtin "len") [Value.str _ _]) _ _ _); refine len_str (by omega) ?_) | (k_here; (with_reducible show wpAny _ _ (call (Value.builtin "len") [Value.ref _]) _ _ _); k_dflt (refine len_strsA (by is_list) (by assumption) (by ((try simp only [List.length_map]); omega)) ?_; k_whole); (try simp only [List.length_map])) | walk1 | (dsimp only; walk1) | (dsimp only; k_unfold; (try dsimp only)) | fail "no step"))
          with_reducible rename Fr _ _ _ _ => F9
          with_reducible rename News _ _ _ _ => N9
          exact TurnTo.mk ⟨any_take ho (by simp [retOf, hb1, hb2]) hA, _, rfl, rfl⟩ (rt_fr F9) N9 (fun p hp => hp) off
        | true =>
          rw [hb2] at hr
          subst hr
          (repeat' (first |  (k_unfold; (try dsimp only)) | ((with_reducible show wpAny _ _ (binaryOp Operator.Add (Value.str _ _) (Value.str _ _)) _ _ _); refine SBL.add (hsz := by (rw [sizeLine_eq]; (try simp only [Str.length_append] at *); omega)) ?_; intro _ _ _) | (k_here; (with_reducible show wpAny _ _ (eval (Expr.Name _ _) (compEnv _ _ _)) _ _ _); k_dflt (first | (refine name_locS rfl rfl rfl (by decide) (by with_reducible assumption) (by assumption) ?_; k_whole) | (refine nameG_BS rfl rfl rfl rfl (by decide) (by k_asm) (by k_asm) (by k_asm) (by k_is) (by boot_fast) (by decide) ?_; k_whole))) | (k_here; (with_reducible show wpAny _ _ (call (Value.type _) [Value.str _ _]) _ _ _); k_dflt (refine list_strN rfl (by k_asm) (by k_asm) ?_ (by rw [sizeLine_eq]; omega)); intro D9 ys9 c9 h9 tk9 F9 N9 l9 m9 hS9; (try k_lt l9); (try k_sweep)) | (k_here; (with_reducible show wpAny _ _ (compareOp CmpOp.NotEq (Value.ref _) (Value.ref _)) _ _ _); k_dflt (first | refine strs_ne_nil (by is_list) (by is_list) (by ke_room) ?_ | refine strs_ne_cons (by is_list) (by is_list) (by k_asm) (by ke_room) ?_ | refine strs_ne (by is_list) (by is_list) (by first | k_asm | exact StrsAre.nil) (by first | exact StrsAre.nil | k_asm) (by ke_room) ?_)) | (k_here; (with_reducible show wpAny _ _ (compareOp CmpOp.Eq (Value.ref _) (Value.ref _)) _ _ _); k_dflt (refine strs_eq (by is_list) (by is_list) (by first | k_asm | exact StrsAre.nil) (by first | exact StrsAre.nil | k_asm) (by ke_room) ?_)) | (k_here; (with_reducible show wpAny _ _ (call (Value.builtin _) [Value.ref _, Value.int 0 _]) _ _ _); k_dflt (refine pop_first (by k_asm) (by k_asm) (by k_upd) (by (rw [sizeLine_eq]; (try have hL9 := PyProof.Rows.StrsAre.length (by assumption)); (try simp only [List.length_cons] at *); omega)) ?_; k_whole); intro h9 F9 N9; (try k_sweep)) | (k_here; (with_reducible show wpAny _ _ (call (Value.builtin "len") [Value.str _ _]) _ _ _); refine len_str (by omega) ?_) | (k_here; (with_reducible show wpAny _ _ (call (Value.builtin "len") [Value.ref _]) _ _ _); k_dflt (refine len_strsA (by is_list) (by assumption) (by ((try simp only [List.length_map]); omega)) ?_; k_whole); (try simp only [List.length_map])) | walk1 | (dsimp only; walk1) | (dsimp only; k_unfold; (try dsimp only)) | fail "no step"))
          refine hold_out ?_
          rw [slice_in _ (by omega)]
          refine Spec.pure (within_spec w one (inner part) _ _ (by omega) (by rw [List.length_take, List.length_drop]; omega) hn3) (by assumption) (by assumption) (by assumption) (by assumption) (by assumption) rfl (by omega) (by omega) ?_
          refine eq_all ?_
          intro h3 tk3 F5 N5
          try dsimp only
          cases hb3 : inB one (inner part) with
          | false =>
            (repeat' (first |  (k_unfold; (try dsimp only)) | ((with_reducible show wpAny _ _ (binaryOp Operator.Add (Value.str _ _) (Value.str _ _)) _ _ _); refine SBL.add (hsz := by (rw [sizeLine_eq]; (try simp only [Str.length_append] at *); omega)) ?_; intro _ _ _) | (k_here; (with_reducible show wpAny _ _ (eval (Expr.Name _ _) (compEnv _ _ _)) _ _ _); k_dflt (first | (refine name_locS rfl rfl rfl (by decide) (by with_reducible assumption) (by assumption) ?_; k_whole) | (refine nameG_BS rfl rfl rfl rfl (by decide) (by k_asm) (by k_asm) (by k_asm) (by k_is) (by boot_fast) (by decide) ?_; k_whole))) | (k_here; (with_reducible show wpAny _ _ (call (Value.type _) [Value.str _ _]) _ _ _); k_dflt (refine list_strN rfl (by k_asm) (by k_asm) ?_ (by rw [sizeLine_eq]; omega)); intro D9 ys9 c9 h9 tk9 F9 N9 l9 m9 hS9; (try k_lt l9); (try k_sweep)) | (k_here; (with_reducible show wpAny _ _ (compareOp CmpOp.NotEq (Value.ref _) (Value.ref _)) _ _ _); k_dflt (first | refine strs_ne_nil (by is_list) (by is_list) (by ke_room) ?_ | refine strs_ne_cons (by is_list) (by is_list) (by k_asm) (by ke_room) ?_ | refine strs_ne (by is_list) (by is_list) (by first | k_asm | exact StrsAre.nil) (by first | exact StrsAre.nil | k_asm) (by ke_room) ?_)) | (k_here; (with_reducible show wpAny _ _ (compareOp CmpOp.Eq (Value.ref _) (Value.ref _)) _ _ _); k_dflt (refine strs_eq (by is_list) (by is_list) (by first | k_asm | exact StrsAre.nil) (by first | exact StrsAre.nil | k_asm) (by ke_room) ?_)) | (k_here; (with_reducible show wpAny _ _ (call (Value.builtin _) [Value.ref _, Value.int 0 _]) _ _ _); k_dflt (refine pop_first (by k_asm) (by k_asm) (by k_upd) (by (rw [sizeLine_eq]; (try have hL9 := PyProof.Rows.StrsAre.length (by assumption)); (try simp only [List.length_cons] at *); omega)) ?_; k_whole); intro h9 F9 N9; (try k_sweep)) | (k_here; (with_reducible show wpAny _ _ (call (Value.builtin "len") [Value.str _ _]) _ _ _); refine len_str (by omega) ?_) | (k_here; (with_reducible show wpAny _ _ (call (Value.builtin "len") [Value.ref _]) _ _ _); k_dflt (refine len_strsA (by is_list) (by assumption) (by ((try simp only [List.length_map]); omega)) ?_; k_whole); (try simp only [List.length_map])) | walk1 | (dsimp only; walk1) | (dsimp only; k_unfold; (try dsimp only)) | fail "no step"))
            exact Back.mk' ⟨by unfold returnsL; rw [any_of ho (by simp [retOf, hlt2, hb1, hb2, hb3])], rfl⟩ F5 N5 (by (repeat (first | exact List.forall_mem_nil _ | refine List.forall_mem_cons.mpr ⟨by k_mem, ?_⟩))) (by (repeat (first | exact List.forall_mem_nil _ | refine List.forall_mem_cons.mpr ⟨by first | (left; simp only [List.map_cons, List.mem_cons, true_or, or_true]; done) | (right; refine ltN ?_; (try dsimp only); omega), ?_⟩)))
          | true =>
            (repeat' (first |  (k_unfold; (try dsimp only)) | ((with_reducible show wpAny _ _ (binaryOp Operator.Add (Value.str _ _) (Value.str _ _)) _ _ _); refine SBL.add (hsz := by (rw [sizeLine_eq]; (try simp only [Str.length_append] at *); omega)) ?_; intro _ _ _) | (k_here; (with_reducible show wpAny _ _ (eval (Expr.Name _ _) (compEnv _ _ _)) _ _ _); k_dflt (first | (refine name_locS rfl rfl rfl (by decide) (by with_reducible assumption) (by assumption) ?_; k_whole) | (refine nameG_BS rfl rfl rfl rfl (by decide) (by k_asm) (by k_asm) (by k_asm) (by k_is) (by boot_fast) (by decide) ?_; k_whole))) | (k_here; (with_reducible show wpAny _ _ (call (Value.type _) [Value.str _ _]) _ _ _); k_dflt (refine list_strN rfl (by k_asm) (by k_asm) ?_ (by rw [sizeLine_eq]; omega)); intro D9 ys9 c9 h9 tk9 F9 N9 l9 m9 hS9; (try k_lt l9); (try k_sweep)) | (k_here; (with_reducible show wpAny _ _ (compareOp CmpOp.NotEq (Value.ref _) (Value.ref _)) _ _ _); k_dflt (first | refine strs_ne_nil (by is_list) (by is_list) (by ke_room) ?_ | refine strs_ne_cons (by is_list) (by is_list) (by k_asm) (by ke_room) ?_ | refine strs_ne (by is_list) (by is_list) (by first | k_asm | exact StrsAre.nil) (by first | exact StrsAre.nil | k_asm) (by ke_room) ?_)) | (k_here; (with_reducible show wpAny _ _ (compareOp CmpOp.Eq (Value.ref _) (Value.ref _)) _ _ _); k_dflt (refine strs_eq (by is_list) (by is_list) (by first | k_asm | exact StrsAre.nil) (by first | exact StrsAre.nil | k_asm) (by ke_room) ?_)) | (k_here; (with_reducible show wpAny _ _ (call (Value.builtin _) [Value.ref _, Value.int 0 _]) _ _ _); k_dflt (refine pop_first (by k_asm) (by k_asm) (by k_upd) (by (rw [sizeLine_eq]; (try have hL9 := PyProof.Rows.StrsAre.length (by assumption)); (try simp only [List.length_cons] at *); omega)) ?_; k_whole); intro h9 F9 N9; (try k_sweep)) | (k_here; (with_reducible show wpAny _ _ (call (Value.builtin "len") [Value.str _ _]) _ _ _); refine len_str (by omega) ?_) | (k_here; (with_reducible show wpAny _ _ (call (Value.builtin "len") [Value.ref _]) _ _ _); k_dflt (refine len_strsA (by is_list) (by assumption) (by ((try simp only [List.length_map]); omega)) ?_; k_whole); (try simp only [List.length_map])) | walk1 | (dsimp only; walk1) | (dsimp only; k_unfold; (try dsimp only)) | fail "no step"))
            with_reducible rename Fr _ _ _ _ => F9
            with_reducible rename News _ _ _ _ => N9
            exact TurnTo.mk ⟨any_take ho (by simp [retOf, hb1, hb2, hb3]) hA, _, rfl, rfl⟩ (rt_fr F9) N9 (fun p hp => hp) off
    · with_reducible rename ¬ (_ : Int) < _ => hlt
      have hlt2 : ¬ one.length < part.length := by omega
      with_reducible rename Fr _ _ _ _ => F9
      with_reducible rename News _ _ _ _ => N9
      exact TurnTo.mk ⟨any_take ho (by simp [retOf, hlt2]) hA, _, rfl, rfl⟩ (rt_fr F9) N9 (fun p hp => hp) off

end
section
/-- the tree's end under a given order -/
def runT (lt : Nat → Nat → Bool) {α : Type} : KasT α → α
  | .ret a => a
  | .ask i j k => runT lt (k (lt i j))
theorem runT_bind (lt : Nat → Nat → Bool) {α β : Type} (f : α → KasT β) : ∀ t : KasT α, runT lt (t.bind f) = runT lt (f (runT lt t))
  | .ret _ => rfl
  | .ask i j k => runT_bind lt f (k (lt i j))
/-- every question of the tree under the order is about numbers under n -/
def inT (lt : Nat → Nat → Bool) (n : Nat) {α : Type} : KasT α → Prop
  | .ret _ => True
  | .ask i j k => i < n ∧ j < n ∧ inT lt n (k (lt i j))
theorem inT_bind (lt : Nat → Nat → Bool) (n : Nat) {α β : Type} (f : α → KasT β) : ∀ t : KasT α, inT lt n t → inT lt n (f (runT lt t)) → inT lt n (t.bind f)
  | .ret _, _, h => h
  | .ask i j k, h, h' => ⟨h.1, h.2.1, inT_bind lt n f (k (lt i j)) h.2.2 h'⟩
theorem kasWp_run {α : Type} {cmp : Nat → Nat → (Bool → Shared → Prop) → Shared → Prop} (lt : Nat → Nat → Bool) (n : Nat) (S : Shared → Prop) (hc : ∀ i j C s, i < n → j < n → S s → (∀ s', S s' → C (lt i j) s') → cmp i j C s) {Q : α → Shared → Prop} : ∀ (t : KasT α) (s : Shared), S s → inT lt n t → (∀ s', S s' → Q (runT lt t) s') → t.kasWp cmp Q s
  | .ret _, s, hs, _, h => h s hs
  | .ask i j k, s, hs, hi, h => hc i j _ s hi.1 hi.2.1 hs fun s' hs' => kasWp_run lt n S hc (k (lt i j)) s' hs' hi.2.2 h
section
variable {lt : Nat → Nat → Bool} {n : Nat}
/-- positions i to j of p stand in order -/
def UpTo (lt : Nat → Nat → Bool) (p : Array Nat) (j : Nat) : Prop := ∀ a b, a < b → b < j → lt (p.getD a 0) (p.getD b 0) = true
structure GoodP (n : Nat) (p : Array Nat) : Prop where
  size : p.size = n
  perm : p.toList.Perm (List.range n)
structure Strict (lt : Nat → Nat → Bool) (n : Nat) : Prop where
  trans : ∀ i j k, i < n → j < n → k < n → lt i j = true → lt j k = true → lt i k = true
  asymm : ∀ i j, i < n → j < n → lt i j = true → lt j i = false
  total : ∀ i j, i < n → j < n → i ≠ j → lt i j = false → lt j i = true
theorem GoodP.bd {p : Array Nat} (g : GoodP n p) {k : Nat} (hk : k < n) : p.getD k 0 < n := by
  have h1 : k < p.size := by rw [g.size]; exact hk
  have h2 : p.getD k 0 = p[k] := by simp [Array.getD, h1]
  rw [h2]
  have h3 : p[k] ∈ p.toList := by simp
  exact List.mem_range.mp (g.perm.mem_iff.mp h3)
theorem GoodP.ne {p : Array Nat} (g : GoodP n p) {a b : Nat} (hb : b < n) (hab : a < b) : p.getD a 0 ≠ p.getD b 0 := by
  have hnd : p.toList.Nodup := g.perm.nodup_iff.mpr List.nodup_range
  have ha1 : a < p.size := by rw [g.size]; omega
  have hb1 : b < p.size := by rw [g.size]; omega
  have h2 : p.getD a 0 = p[a] := by simp [Array.getD, ha1]
  have h3 : p.getD b 0 = p[b] := by simp [Array.getD, hb1]
  rw [h2, h3]
  have := List.pairwise_iff_getElem.mp hnd a b (by simpa using ha1) (by simpa using hb1) hab
  simpa using this
theorem getD_q (p : Array Nat) (k : Nat) : p.getD k 0 = (p[k]?).getD 0 := by
  rw [Array.getD_eq_getD_getElem?]
theorem asc_ok (hS : Strict lt n) {p : Array Nat} (g : GoodP n p) : ∀ (f m : Nat), 1 ≤ m → m + f ≤ n → UpTo lt p m →
    inT lt n (kas_asc p f m) ∧ m ≤ runT lt (kas_asc p f m) ∧ runT lt (kas_asc p f m) ≤ m + f ∧ UpTo lt p (runT lt (kas_asc p f m)) ∧ (runT lt (kas_asc p f m) = m + f ∨ lt (p.getD (runT lt (kas_asc p f m)) 0) (p.getD (runT lt (kas_asc p f m) - 1) 0) = true)
  | 0, m, _, _, h => ⟨trivial, Nat.le_refl _, Nat.le_refl _, h, .inl rfl⟩
  | f + 1, m, h1, hn, h => by
    have e : ∀ c, runT lt (if c = true then KasT.ret m else kas_asc p f (m + 1)) = if c = true then m else runT lt (kas_asc p f (m + 1)) := by intro c; cases c <;> rfl
    have e1 : runT lt (kas_asc p (f + 1) m) = if lt (p.getD m 0) (p.getD (m - 1) 0) = true then m else runT lt (kas_asc p f (m + 1)) := e _
    have e2 : inT lt n (kas_asc p (f + 1) m) = (p.getD m 0 < n ∧ p.getD (m - 1) 0 < n ∧ inT lt n (if lt (p.getD m 0) (p.getD (m - 1) 0) = true then KasT.ret m else kas_asc p f (m + 1))) := rfl
    rw [e1, e2]
    have b1 := g.bd (k := m) (by omega)
    have b2 := g.bd (k := m - 1) (by omega)
    by_cases c : lt (p.getD m 0) (p.getD (m - 1) 0) = true
    · simp only [if_pos c]
      exact ⟨⟨b1, b2, trivial⟩, Nat.le_refl _, by omega, h, .inr c⟩
    · simp only [if_neg c]
      have c' : lt (p.getD (m - 1) 0) (p.getD m 0) = true := hS.total _ _ b1 b2 (Ne.symm (g.ne (by omega) (by omega))) (by simpa using c)
      have hU : UpTo lt p (m + 1) := by
        intro a b hab hb
        by_cases e : b = m
        · subst e
          by_cases e2 : a = b - 1
          · subst e2; exact c'
          · exact hS.trans _ _ _ (g.bd (by omega)) b2 b1 (h a (b - 1) (by omega) (by omega)) c'
        · exact h a b hab (by omega)
      obtain ⟨i1, i2, i3, i4, i5⟩ := asc_ok hS g f (m + 1) (by omega) (by omega) hU
      exact ⟨⟨b1, b2, i1⟩, by omega, by omega, i4, by rcases i5 with i5 | i5; exact .inl (by omega); exact .inr i5⟩
/-- positions under j stand in falling order -/
def DnTo (lt : Nat → Nat → Bool) (p : Array Nat) (j : Nat) : Prop := ∀ a b, a < b → b < j → lt (p.getD b 0) (p.getD a 0) = true
theorem desc_ok (hS : Strict lt n) {p : Array Nat} (g : GoodP n p) : ∀ (f m : Nat), 1 ≤ m → m + f ≤ n → DnTo lt p m →
    inT lt n (kas_desc f p m 0) ∧ ∃ m', runT lt (kas_desc f p m 0) = (p, m', 0) ∧ m ≤ m' ∧ m' ≤ m + f ∧ DnTo lt p m'
  | 0, m, _, _, h => ⟨trivial, m, rfl, Nat.le_refl _, Nat.le_refl _, h⟩
  | f + 1, m, h1, hn, h => by
    have b1 := g.bd (k := m) (by omega)
    have b2 := g.bd (k := m - 1) (by omega)
    by_cases c : lt (p.getD m 0) (p.getD (m - 1) 0) = true
    · have hD : DnTo lt p (m + 1) := by
        intro a b hab hb
        by_cases e : b = m
        · subst e
          by_cases e2 : a = b - 1
          · subst e2; exact c
          · exact hS.trans _ _ _ b1 b2 (g.bd (by omega)) c (h a (b - 1) (by omega) (by omega))
        · exact h a b hab (by omega)
      obtain ⟨i1, m', i2, i3, i4, i5⟩ := desc_ok hS g f (m + 1) (by omega) (by omega) hD
      refine ⟨⟨b1, b2, ?_⟩, m', ?_, by omega, by omega, i5⟩
      · simp only [c, if_true]; exact i1
      · show runT lt (if lt (p.getD m 0) (p.getD (m - 1) 0) = true then _ else _) = _
        rw [if_pos c]; exact i2
    · have c0 : lt (p.getD m 0) (p.getD (m - 1) 0) = false := by simpa using c
      have c' : lt (p.getD (m - 1) 0) (p.getD m 0) = true := hS.total _ _ b1 b2 (Ne.symm (g.ne (by omega) (by omega))) c0
      refine ⟨⟨b1, b2, ?_⟩, m, ?_, Nat.le_refl _, by omega, h⟩
      · dsimp only; rw [if_neg c]
        exact ⟨b2, b1, by simp only [c', if_true]; trivial⟩
      · show runT lt (if lt (p.getD m 0) (p.getD (m - 1) 0) = true then _ else _) = _
        rw [if_neg c]
        show runT lt (if lt (p.getD (m - 1) 0) (p.getD m 0) = true then _ else _) = _
        rw [if_pos c']; rfl
theorem rev_good {p : Array Nat} (g : GoodP n p) (i j : Nat) : GoodP n (kas_rev p i j) :=
  ⟨by unfold kas_rev; rw [mirror_size]; exact g.size, by unfold kas_rev; exact (Array.perm_iff_toList_perm.mp (mirror_perm p i j _)).trans g.perm⟩
theorem rev_up {p : Array Nat} (g : GoodP n p) {m : Nat} (hm : m ≤ n) (h : DnTo lt p m) : UpTo lt (kas_rev p 0 m) m := by
  have e : ∀ k, k < m → (kas_rev p 0 m).getD k 0 = p.getD (m - 1 - k) 0 := by
    intro k hk
    rw [getD_q, getD_q]
    unfold kas_rev
    rw [getElem?_mirror_all (by rw [g.size]; exact hm), if_pos ⟨Nat.zero_le _, hk⟩, Nat.zero_add]
  intro a b hab hb
  rw [e a (by omega), e b hb]
  exact h _ _ (by omega) (by omega)
theorem count_ok (hS : Strict lt n) {p : Array Nat} (g : GoodP n p) (h1 : 1 ≤ n) :
    inT lt n (kas_count n p) ∧ ∃ m p', runT lt (kas_count n p) = (m, p') ∧ 1 ≤ m ∧ m ≤ n ∧ GoodP n p' ∧ UpTo lt p' m := by
  obtain ⟨i1, i2, i3, i4, i5⟩ := asc_ok hS g (n - 1) 1 (Nat.le_refl _) (by omega) (fun a b hab hb => by omega)
  unfold kas_count
  rw [runT_bind]
  generalize hm : runT lt (kas_asc p (n - 1) 1) = m at *
  by_cases e : (m == n) = true
  · refine ⟨inT_bind _ _ _ _ i1 (by rw [hm, if_pos e]; trivial), m, p, by rw [if_pos e]; rfl, i2, by omega, g, i4⟩
  · have e' : m ≠ n := by simpa using e
    by_cases e2 : m > 1
    · have c : lt (p.getD 0 0) (p.getD (m - 1) 0) = true := i4 0 (m - 1) (by omega) (by omega)
      refine ⟨inT_bind _ _ _ _ i1 ?_, m, p, ?_, i2, by omega, g, i4⟩
      · rw [hm, if_neg e, if_pos e2]
        exact ⟨g.bd (by omega), g.bd (by omega), by dsimp only; rw [if_pos c]; trivial⟩
      · rw [if_neg e, if_pos e2]
        show runT lt (if lt (p.getD 0 0) (p.getD (m - 1) 0) = true then _ else _) = _
        rw [if_pos c]; rfl
    · have em : m = 1 := by omega
      subst em
      have c : lt (p.getD 1 0) (p.getD 0 0) = true := by
        rcases i5 with i5 | i5
        · omega
        · exact i5
      have hD : DnTo lt p 2 := by
        intro a b hab hb
        have : a = 0 := by omega
        have : b = 1 := by omega
        subst_vars
        exact c
      obtain ⟨j1, m', j2, j3, j4, j5⟩ := desc_ok hS g (n - (1 + 1)) 2 (by omega) (by omega) hD
      have g' := rev_good g 0 m'
      obtain ⟨k1, k2, k3, k4, _⟩ := asc_ok hS g' (n - m') m' (by omega) (by omega) (rev_up g (by omega) j5)
      have hT : inT lt n (kas_descPart 1 n p) ∧ runT lt (kas_descPart 1 n p) = (runT lt (kas_asc (kas_rev p 0 m') (n - m') m'), kas_rev p 0 m') := by
        unfold kas_descPart
        rw [runT_bind, j2]
        refine ⟨inT_bind _ _ _ _ j1 ?_, ?_⟩
        · rw [j2]
          show inT lt n (if 0 > 0 then _ else _)
          rw [if_neg (by omega)]
          unfold kas_tail3
          exact inT_bind _ _ _ _ k1 trivial
        · show runT lt (if 0 > 0 then _ else _) = _
          rw [if_neg (by omega)]
          unfold kas_tail3
          rw [runT_bind]
          rfl
      refine ⟨inT_bind _ _ _ _ i1 ?_, _, _, ?_, ?_, ?_, g', k4⟩
      · rw [hm, if_neg e, if_neg e2]; exact hT.1
      · rw [if_neg e, if_neg e2]; exact hT.2
      · omega
      · omega
theorem place_ok (hS : Strict lt n) {p : Array Nat} (g : GoodP n p) {k : Nat} (hk : k < n) (hU : UpTo lt p k) : ∀ (f l r : Nat), r - l ≤ f → l ≤ r → r ≤ k →
    (∀ x, x < l → lt (p.getD x 0) (p.getD k 0) = true) → (∀ x, r ≤ x → x < k → lt (p.getD k 0) (p.getD x 0) = true) →
    inT lt n (kas_place p k f l r) ∧ runT lt (kas_place p k f l r) ≤ k ∧ (∀ x, x < runT lt (kas_place p k f l r) → lt (p.getD x 0) (p.getD k 0) = true) ∧ (∀ x, runT lt (kas_place p k f l r) ≤ x → x < k → lt (p.getD k 0) (p.getD x 0) = true)
  | 0, l, r, hf, hlr, hr, h1, h2 => ⟨trivial, Nat.le_trans hlr hr, h1, fun x a b => h2 x (by have : l ≤ x := a; omega) b⟩
  | f + 1, l, r, hf, hlr, hr, h1, h2 => by
    unfold kas_place
    by_cases e : l ≥ r
    · rw [if_pos e]
      exact ⟨trivial, Nat.le_trans hlr hr, h1, fun x a b => h2 x (by have : l ≤ x := a; omega) b⟩
    · rw [if_neg e]
      have b1 := g.bd hk
      have b2 := g.bd (k := (l + r) / 2) (by omega)
      by_cases c : lt (p.getD k 0) (p.getD ((l + r) / 2) 0) = true
      · have h2' : ∀ x, (l + r) / 2 ≤ x → x < k → lt (p.getD k 0) (p.getD x 0) = true := by
          intro x hx hxk
          by_cases ex : x = (l + r) / 2
          · subst ex; exact c
          · exact hS.trans _ _ _ b1 b2 (g.bd (by omega)) c (hU _ _ (by omega) hxk)
        obtain ⟨a1, a2, a3, a4⟩ := place_ok hS g hk hU f l ((l + r) / 2) (by omega) (by omega) (by omega) h1 h2'
        have er : runT lt (KasT.ask (p.getD k 0) (p.getD ((l + r) / 2) 0) fun c => if c = true then kas_place p k f l ((l + r) / 2) else kas_place p k f ((l + r) / 2 + 1) r) = runT lt (kas_place p k f l ((l + r) / 2)) := by
          show runT lt (if lt (p.getD k 0) (p.getD ((l + r) / 2) 0) = true then _ else _) = _
          rw [if_pos c]
        rw [er]
        exact ⟨⟨b1, b2, by dsimp only; rw [if_pos c]; exact a1⟩, a2, a3, a4⟩
      · have c' : lt (p.getD ((l + r) / 2) 0) (p.getD k 0) = true := hS.total _ _ b1 b2 (Ne.symm (g.ne hk (by omega))) (by simpa using c)
        have h1' : ∀ x, x < (l + r) / 2 + 1 → lt (p.getD x 0) (p.getD k 0) = true := by
          intro x hx
          by_cases ex : x = (l + r) / 2
          · subst ex; exact c'
          · exact hS.trans _ _ _ (g.bd (by omega)) b2 b1 (hU _ _ (by omega) (by omega)) c'
        obtain ⟨a1, a2, a3, a4⟩ := place_ok hS g hk hU f ((l + r) / 2 + 1) r (by omega) (by omega) hr h1' h2
        have er : runT lt (KasT.ask (p.getD k 0) (p.getD ((l + r) / 2) 0) fun c => if c = true then kas_place p k f l ((l + r) / 2) else kas_place p k f ((l + r) / 2 + 1) r) = runT lt (kas_place p k f ((l + r) / 2 + 1) r) := by
          show runT lt (if lt (p.getD k 0) (p.getD ((l + r) / 2) 0) = true then _ else _) = _
          rw [if_neg c]
        rw [er]
        exact ⟨⟨b1, b2, by dsimp only; rw [if_neg c]; exact a1⟩, a2, a3, a4⟩
theorem bubble_up {p : Array Nat} (g : GoodP n p) {k l : Nat} (hk : k < n) (hl : l ≤ k) (hU : UpTo lt p k) (h1 : ∀ x, x < l → lt (p.getD x 0) (p.getD k 0) = true) (h2 : ∀ x, l ≤ x → x < k → lt (p.getD k 0) (p.getD x 0) = true) : UpTo lt (bubble p k (k - l)) (k + 1) := by
  have e : ∀ x, (bubble p k (k - l)).getD x 0 = if x = l then p.getD k 0 else if l < x ∧ x ≤ k then p.getD (x - 1) 0 else p.getD x 0 := by
    intro x
    rw [getD_q, getElem?_bubble (by rw [g.size]; exact hk) (k - l) (by omega), show k - (k - l) = l by omega]
    simp only [getD_q]
    split
    · rfl
    · split <;> rfl
  intro a b hab hb
  rw [e a, e b]
  by_cases ea : a = l
  · rw [if_pos ea, if_neg (by omega), if_pos ⟨by omega, by omega⟩]
    exact h2 _ (by omega) (by omega)
  · rw [if_neg ea]
    by_cases ea2 : l < a ∧ a ≤ k
    · rw [if_pos ea2, if_neg (by omega), if_pos ⟨by omega, by omega⟩]
      exact hU _ _ (by omega) (by omega)
    · rw [if_neg ea2]
      have hal : a < l := by omega
      by_cases eb : b = l
      · rw [if_pos eb]; exact h1 a hal
      · rw [if_neg eb]
        by_cases eb2 : l < b ∧ b ≤ k
        · rw [if_pos eb2]; exact hU _ _ (by omega) (by omega)
        · rw [if_neg eb2]; exact hU _ _ hab (by omega)
theorem bubble_good {p : Array Nat} (g : GoodP n p) (k d : Nat) : GoodP n (bubble p k d) :=
  ⟨by rw [bubble_size]; exact g.size, (Array.perm_iff_toList_perm.mp (bubble_perm p k d)).trans g.perm⟩
theorem bin_ok (hS : Strict lt n) : ∀ (f : Nat) {p : Array Nat} (k : Nat), GoodP n p → k + f = n → UpTo lt p k → inT lt n (kas_bin f p k) ∧ GoodP n (runT lt (kas_bin f p k)) ∧ UpTo lt (runT lt (kas_bin f p k)) n
  | 0, p, k, g, e, h => ⟨trivial, g, by rw [show k = n by omega] at h; exact h⟩
  | f + 1, p, k, g, e, h => by
    obtain ⟨a1, a2, a3, a4⟩ := place_ok hS g (k := k) (by omega) h k 0 k (by omega) (Nat.zero_le _) (Nat.le_refl _) (fun x hx => by omega) (fun x hx hx2 => by omega)
    unfold kas_bin
    rw [runT_bind]
    generalize hl : runT lt (kas_place p k k 0 k) = l at *
    obtain ⟨b1, b2, b3⟩ := bin_ok hS f (k + 1) (bubble_good g k (k - l)) (by omega) (bubble_up g (by omega) a2 h a3 a4)
    exact ⟨inT_bind _ _ _ _ a1 (by rw [hl]; exact b1), b2, b3⟩
theorem sort_ok (hS : Strict lt n) (h1 : 1 ≤ n) : inT lt n (kas_sort n) ∧ GoodP n (runT lt (kas_sort n)) ∧ UpTo lt (runT lt (kas_sort n)) n := by
  have g : GoodP n (List.toArray (List.range n)) := ⟨by simp, by simp⟩
  obtain ⟨c1, m, p', c2, c3, c4, c5, c6⟩ := count_ok hS g h1
  unfold kas_sort
  rw [runT_bind, c2]
  have key : inT lt n (if m < n then kas_bin (n - max m 1) p' (max m 1) else .ret p') ∧ GoodP n (runT lt (if m < n then kas_bin (n - max m 1) p' (max m 1) else .ret p')) ∧ UpTo lt (runT lt (if m < n then kas_bin (n - max m 1) p' (max m 1) else .ret p')) n := by
    by_cases e : m < n
    · rw [if_pos e, show max m 1 = m by omega]
      exact bin_ok hS (n - m) m c5 (by omega) c6
    · rw [if_neg e]
      exact ⟨trivial, c5, by rw [show m = n by omega] at c6; exact c6⟩
  exact ⟨inT_bind _ _ _ _ c1 (by rw [c2]; exact key.1), key.2⟩
end

end
section
/-- a key: a pair of a number and a text -/
def IsKey (o : Obj) (k : Int × Str) : Prop := o.cls = .type "tuple" ∧ ∃ t u n, o.data = .seq #[.int k.1 t, .str k.2 u] n
def KeyL (P : Addr → Obj → Prop) : List Value → List (Int × Str) → Prop
  | [], [] => True
  | v :: vs, k :: ks => (∃ a o, v = .ref a ∧ P a o ∧ IsKey o k) ∧ KeyL P vs ks
  | _, _ => False
theorem KeyL.mono {P P' : Addr → Obj → Prop} (h : ∀ a o, P a o → P' a o) : ∀ {vs : List Value} {ks : List (Int × Str)}, KeyL P vs ks → KeyL P' vs ks
  | [], [], _ => trivial
  | [], _ :: _, q => q.elim
  | _ :: _, [], q => q.elim
  | _ :: _, _ :: _, ⟨⟨a, o, e, p, k⟩, q⟩ => ⟨⟨a, o, e, h a o p, k⟩, q.mono h⟩
theorem KeyL.snoc {P : Addr → Obj → Prop} {a : Addr} {o : Obj} {k : Int × Str} (hp : P a o) (hk : IsKey o k) : ∀ {vs : List Value} {ks : List (Int × Str)}, KeyL P vs ks → KeyL P (vs ++ [.ref a]) (ks ++ [k])
  | [], [], _ => ⟨⟨a, o, rfl, hp, hk⟩, trivial⟩
  | [], _ :: _, q => q.elim
  | _ :: _, [], q => q.elim
  | _ :: _, _ :: _, ⟨x, q⟩ => ⟨x, q.snoc hp hk⟩
theorem KeyL.get {P : Addr → Obj → Prop} : ∀ {vs : List Value} {ks : List (Int × Str)}, KeyL P vs ks → ∀ i, i < ks.length → ∃ a o, vs.getD i .none = .ref a ∧ P a o ∧ IsKey o (ks.getD i (0, Str.ofString ""))
  | [], [], _, i, hi => absurd hi (Nat.not_lt_zero _)
  | [], _ :: _, q, _, _ => q.elim
  | _ :: _, [], q, _, _ => q.elim
  | _ :: _, _ :: _, ⟨⟨a, o, e, p, k⟩, q⟩, 0, _ => ⟨a, o, e, p, k⟩
  | _ :: _, _ :: _, ⟨_, q⟩, i + 1, hi => q.get i (by simpa using hi)
theorem KeyL.tups {h : Heap} : ∀ {vs : List Value} {ks : List (Int × Str)}, KeyL (fun a o => h.get? a = some o) vs ks → ∃ fs, KatTups h vs fs ∧ fs.length = ks.length ∧ ∀ v ∈ fs, ∃ n t, v = .int n t
  | [], [], _ => ⟨[], .nil, rfl, fun _ q => nomatch q⟩
  | [], _ :: _, q => q.elim
  | _ :: _, [], q => q.elim
  | _ :: _, k :: _, ⟨⟨a, o, e, p, hc, t, u, n, hd⟩, q⟩ => by
    obtain ⟨fs, h1, h2, h3⟩ := q.tups
    subst e
    refine ⟨.int k.1 t :: fs, .cons p hc hd rfl h1, by rw [List.length_cons, List.length_cons, h2], fun v hv => ?_⟩
    rcases List.mem_cons.mp hv with rfl | hv
    · exact ⟨_, _, rfl⟩
    · exact h3 v hv
def ltKey (a b : Int × Str) : Bool := if a.1 == b.1 then (if decide (a.2 = b.2) then false else decide (a.2.cps.toList < b.2.cps.toList)) else decide (a.1 < b.1)
def ltK (kz : List (Int × Str)) (i j : Nat) : Bool := ltKey (kz.getD i (0, Str.ofString "")) (kz.getD j (0, Str.ofString ""))
section
variable {prog : Program} {w : World} {A : Around} {E : Value → Shared → Prop} {s : Shared} {h₀ : Heap} {L : Addr} {m : Str → Option Value} {news : List (Addr × Obj)} {vs : List Value}
def KeyEnd (h₀ : Heap) (L : Addr) (m : Str → Option Value) (need : List (Addr × Obj)) (k : Int × Str) (s₁ : Shared) (v : Value) (s₂ : Shared) : Prop :=
  ∃ h' tk a o, s₂ = { s₁ with heap := h', toks := tk } ∧ v = .ref a ∧ IsKey o k ∧ Fr h₀ L h' m ∧ News h₀ L h' ((a, o) :: need) ∧ ∀ p ∈ need, p.1 ≠ a
theorem KeyEnd.mk' {need all : List (Addr × Obj)} {k : Int × Str} {s₁ : Shared} {a : Addr} {o : Obj} {h' : Heap} {tk : Nat} (hk : IsKey o k) (F : Fr h₀ L h' m) (N : News h₀ L h' all) (sub : ∀ p ∈ (a, o) :: need, p ∈ all) (off : ∀ p ∈ need, p.1 ≠ a) :
    KeyEnd h₀ L m need k s₁ (.ref a) { s₁ with heap := h', toks := tk } := ⟨h', tk, a, o, rfl, rfl, hk, F, fun p hp => N p (sub p hp), off⟩
theorem key_lt {x y : Addr} {ox oy : Obj} {a b : Int × Str} {Q : Bool → Shared → Prop} (hx : s.heap.get? x = some ox) (kx : IsKey ox a) (hy : s.heap.get? y = some oy) (ky : IsKey oy b) (h : Q (ltKey a b) s) :
    wpAny (model prog w) A (keyLt' (tuples' (Value.type "int" != Value.type "tuple")) (.ref x) (.ref y)) Q E s := by
  obtain ⟨-, t, u, n, dx⟩ := kx
  obtain ⟨-, t', u', n', dy⟩ := ky
  refine kat_lt hx dx hy dy ?_
  show KatLex prog w A true false Q [(.int a.1 t, .int b.1 t'), (.str a.2 u, .str b.2 u')] 0 s
  refine kat_cons (wpAny_eqBool_int ?_)
  unfold ltKey at h
  cases e1 : a.1 == b.1 with
  | true =>
    rw [e1, if_pos rfl] at h
    refine kat_yes (kat_cons (wpAny_eqBool_str ?_))
    by_cases e2 : a.2 = b.2
    · rw [decide_eq_true e2, if_pos rfl] at h
      rw [decide_eq_true e2]
      exact kat_yes (kat_nil h)
    · rw [decide_eq_false e2, if_neg Bool.false_ne_true] at h
      rw [decide_eq_false e2]
      exact kat_no (kat_one _ _ (PyProof.Rows.lt_str h))
  | false =>
    rw [e1, if_neg Bool.false_ne_true] at h
    exact kat_no (oneLt_int h)
theorem keys_fold {kS : Addr} {f : Value} {Fin : List Value → Nat → Shared → Prop} (vs : List Value) (I : List Value → Nat → Shared → Prop)
    (step : ∀ v ks e s, vs[ks.length]? = some v → I ks e s → wpAny (model prog w) A (call f [v]) (KatBack h₀ L m kS ks e (fun k c s' => I (ks ++ [k]) c s')) (fun _ _ => False) s)
    (fin : ∀ ks e s, ks.length = vs.length → I ks e s → Fin ks e s) : ∀ (r ks : List Value) (e : Nat) (s : Shared), vs = vs.take ks.length ++ r → ks.length ≤ vs.length → I ks e s → KatKeys prog w A h₀ L m kS f Fin r ks e s
  | [], ks, e, s, hv, hl, hI => by
    refine KatKeys.nil (fin ks e s ?_ hI)
    have := congrArg List.length hv
    simp at this
    omega
  | v :: r, ks, e, s, hv, hl, hI => by
    have hlt : ks.length < vs.length := by
      have := congrArg List.length hv
      simp at this
      omega
    have hd : vs.drop ks.length = v :: r := by
      have := List.take_append_drop ks.length vs
      exact List.append_cancel_left (this.trans hv)
    have hg : vs[ks.length]? = some v := by
      have h1 : (vs.drop ks.length)[0]? = vs[ks.length + 0]? := List.getElem?_drop
      rw [hd] at h1
      exact h1.symm
    refine KatKeys.cons (wpAny_mono (step v ks e s hg hI) (fun k s' hk => ?_) fun _ _ x => x)
    obtain ⟨news', g, F', N', U, c⟩ := hk
    refine ⟨news', g, F', N', U, fun h2 c2 F2 N2 => keys_fold vs I step fin r (ks ++ [k]) c2 _ ?_ ?_ (c h2 c2 F2 N2)⟩
    · rw [List.length_append, List.length_singleton, List.take_add_one, hg, List.append_assoc]
      exact hv
    · rw [List.length_append, List.length_singleton]; exact hlt
theorem sorted_keys {l lam : Addr} {n : Nat} {kz : List (Int × Str)} {Q : Value → Shared → Prop} (F : Fr h₀ L s.heap m) (N : News h₀ L s.heap news) (hm : (l, PySem.W.listOf vs.toArray n) ∈ news) (hlen : kz.length = vs.length) (h2 : 2 ≤ vs.length) (h64 : vs.length < 64) (hS : Strict (ltK kz) vs.length)
    (step : ∀ (v : Value) (k : Int × Str) (own : List (Addr × Obj)) h tk, (∃ i : Nat, vs[i]? = some v ∧ kz[i]? = some k) → Fr h₀ L h m → News h₀ L h (news ++ own) →
      wpAny (model prog w) A.in1.in1 (call (.ref lam) [v]) (KeyEnd h₀ L m (news ++ own) k { s with heap := h, toks := tk }) (fun _ _ => False) { s with heap := h, toks := tk })
    (done : ∀ D p c h' tk, (∀ q ∈ news, q.1 < D) → Fr h₀ L h' m → News h₀ L h' ((D, PySem.W.listOf (p.toList.map fun i => vs.getD i Value.none).toArray c) :: news) → GoodP vs.length p → UpTo (ltK kz) p vs.length → Q (.ref D) { s with heap := h', toks := tk }) :
    wpAny (model prog w) A (call (.builtin "sorted") [.ref l] [(Str.ofString "key", .ref lam)]) Q E s := by
  refine kat_sortedK (b := false) (vs := vs) F N ⟨_, (N _ hm).1, rfl, n, rfl⟩ h2 h64 (ksk_s1 _ _) (fun _ => ksk_l1 _ _) (fun x => ksk_t1 lam x) fun D kS e1 h1 F1 N1 lD lk => ?_
  have hDk : D ≠ kS := Nat.ne_of_lt lD
  refine keys_fold vs (fun ks e s' => ∃ own h tk, s' = { s with heap := h, toks := tk } ∧ ks.length ≤ vs.length ∧ Fr h₀ L h m ∧ News h₀ L h ((kS, seqObj "list" (List.toArray ks) e) :: (D, seqObj "list" #[] e1) :: (news ++ own)) ∧ (∀ p ∈ own, p.1 ≠ kS ∧ p.1 ≠ D) ∧ KeyL (fun a o => (a, o) ∈ own) ks (kz.take ks.length)) ?_ ?_ vs [] 0 _ rfl (Nat.zero_le _) ⟨[], h1, s.toks, rfl, Nat.zero_le _, F1, by rw [List.append_nil]; exact N1, (fun _ q => nomatch q), trivial⟩
  · rintro v ks e s' hv ⟨own, h, tk, rfl, hl, F2, N2, off, hK⟩
    have hlt : ks.length < vs.length := (List.getElem?_eq_some_iff.mp hv).1
    obtain ⟨k, hk⟩ : ∃ k, kz[ks.length]? = some k := ⟨_, List.getElem?_eq_getElem (by rw [hlen]; exact hlt)⟩
    have N3 : News h₀ L h (news ++ ((kS, seqObj "list" (List.toArray ks) e) :: (D, seqObj "list" #[] e1) :: own)) := fun p hp => N2 p (by
      simp only [List.mem_append, List.mem_cons] at hp ⊢
      rcases hp with a | a | a | a
      · exact .inr (.inr (.inl a))
      · exact .inl a
      · exact .inr (.inl a)
      · exact .inr (.inr (.inr a)))
    refine wpAny_mono (step v k _ h tk ⟨_, hv, hk⟩ F2 N3) (fun r s'' hr => ?_) fun _ _ x => x
    obtain ⟨h', tk', a, o, rfl, rfl, hko, F4, N4, off4⟩ := hr
    have ha1 : kS ≠ a := off4 _ (List.mem_append_right _ (.head _))
    have ha2 : D ≠ a := off4 _ (List.mem_append_right _ (.tail _ (.head _)))
    refine KatBack.intro (news := (kS, seqObj "list" (List.toArray ks) e) :: (a, o) :: (D, seqObj "list" #[] e1) :: (news ++ own)) (g := fun o' => (kS, o') :: (a, o) :: (D, seqObj "list" #[] e1) :: (news ++ own)) F4 (fun p hp => N4 p ?_) (.head fun p hp => ?_) fun h5 c F5 N5 => ?_
    · simp only [List.mem_append, List.mem_cons] at hp ⊢
      rcases hp with a | a | a | a | a
      · exact .inr (.inr (.inl a))
      · exact .inl a
      · exact .inr (.inr (.inr (.inl a)))
      · exact .inr (.inl a)
      · exact .inr (.inr (.inr (.inr a)))
    · simp only [List.mem_append, List.mem_cons] at hp
      rcases hp with rfl | rfl | hp | hp
      · exact ha1.symm
      · exact hDk
      · exact Nat.ne_of_lt (Nat.lt_trans (lk p hp) lD)
      · exact (off p hp).1
    · refine ⟨(a, o) :: own, h5, tk', rfl, by rw [List.length_append, List.length_singleton]; exact hlt, F5, fun p hp => N5 p ?_, fun p hp => ?_, ?_⟩
      · simp only [List.mem_append, List.mem_cons] at hp ⊢
        rcases hp with a | a | a | a | a
        · exact .inl a
        · exact .inr (.inr (.inl a))
        · exact .inr (.inr (.inr (.inl a)))
        · exact .inr (.inl a)
        · exact .inr (.inr (.inr (.inr a)))
      · rcases List.mem_cons.mp hp with rfl | hp
        · exact ⟨ha1.symm, ha2.symm⟩
        · exact off p hp
      · rw [List.length_append, List.length_singleton, List.take_add_one, hk]
        exact KeyL.snoc (.head _) hko (hK.mono fun _ _ q => .tail _ q)
  · rintro ks e s' hl ⟨own, h, tk, rfl, -, F2, N2, off, hK⟩
    rw [List.take_of_length_le (by omega)] at hK
    have hK2 : KeyL (fun a o => h.get? a = some o) ks kz := hK.mono fun a o q => (N2 (a, o) (.tail _ (.tail _ (List.mem_append_right _ q)))).1
    obtain ⟨fs, t1, t2, t3⟩ := hK2.tups
    refine kat_kind (T := Value.type "int") t1 (by omega) (fun v hv => ?_) rfl ?_
    · obtain ⟨n, t, rfl⟩ := t3 v hv
      kas_ty
    · obtain ⟨i1, i2, i3⟩ := sort_ok hS (by omega)
      refine kasWp_run (ltK kz) vs.length (fun s' => s' = { s with heap := h, toks := tk }) ?_ _ _ rfl i1 ?_
      · rintro i j C s' hi hj rfl hC
        obtain ⟨a, o, ea, ga, ka⟩ := hK2.get i (by omega)
        obtain ⟨b, o', eb, gb, kb⟩ := hK2.get j (by omega)
        unfold kas_ask
        show wpAny _ _ (keyLt' _ (ks.getD i .none) (ks.getD j .none)) _ _ _
        rw [ea, eb]
        exact key_lt ga ka gb kb (hC _ rfl)
      · rintro s' rfl
        refine KatFin.intro (news := (kS, seqObj "list" (List.toArray ks) e) :: (D, seqObj "list" #[] e1) :: (news ++ own)) (g := fun o' => (kS, o') :: (D, seqObj "list" #[] e1) :: (news ++ own)) F2 N2 (.head fun p hp => ?_) fun h5 c F5 N5 => ?_
        · simp only [List.mem_append, List.mem_cons] at hp
          rcases hp with rfl | hp | hp
          · exact hDk
          · exact Nat.ne_of_lt (Nat.lt_trans (lk p hp) lD)
          · exact (off p hp).1
        · refine KasFin.intro (news := (D, seqObj "list" #[] e1) :: news) (g := fun o' => (D, o') :: news) F5 (fun p hp => N5 p ?_) (.head fun p hp => Nat.ne_of_lt (lk p hp)) fun h6 c6 F6 N6 => ?_
          · rcases List.mem_cons.mp hp with rfl | hp
            · exact .tail _ (.head _)
            · exact .tail _ (.tail _ (List.mem_append_left _ hp))
          · exact done D _ c6 h6 tk lk F6 N6 i2 i3
end

end
section
def addNewM {α : Type} [BEq α] (due : List (List α)) (x : List α) : List (List α) := if due.contains x then due else due ++ [x]
def dueIn {α : Type} [BEq α] (word : List α) (stop : Nat) (due : List (List α)) : Nat → List (List α)
  | 0 => due
  | j + 1 => if (word.drop j).take (stop - j) == ((word.drop j).take (stop - j)).reverse then addNewM (dueIn word stop due j) ((word.drop j).take (stop - j)) else dueIn word stop due j
def dueL {α : Type} [BEq α] (word : List α) : Nat → List (List α)
  | 0 => []
  | i + 1 => dueIn word (i + 1) (dueL word i) (i + 1)
theorem addNewM_len {α : Type} [BEq α] (due : List (List α)) (x : List α) : (addNewM due x).length ≤ due.length + 1 := by
  unfold addNewM
  split
  · omega
  · simp
theorem dueIn_len {α : Type} [BEq α] (word : List α) (stop : Nat) (due : List (List α)) : ∀ j, (dueIn word stop due j).length ≤ due.length + j
  | 0 => Nat.le_refl _
  | j + 1 => by
    have h := dueIn_len word stop due j
    have h2 := addNewM_len (dueIn word stop due j) ((word.drop j).take (stop - j))
    unfold dueIn
    split <;> omega
theorem dueL_len {α : Type} [BEq α] (word : List α) : ∀ i, i ≤ 7 → (dueL word i).length ≤ 7 * i
  | 0, _ => Nat.le_refl _
  | i + 1, hi => by
    have h := dueL_len word i (by omega)
    have h2 := dueIn_len word (i + 1) (dueL word i) (i + 1)
    unfold dueL
    omega
theorem mem_addNew {due : List (List Nat)} {x p : List Nat} : p ∈ addNewM due x ↔ p ∈ due ∨ p = x := by
  unfold addNewM
  split
  · rename_i h
    have h' : x ∈ due := by simpa using h
    exact ⟨.inl, fun q => q.elim id fun e => e ▸ h'⟩
  · simp
theorem nodup_addNew {due : List (List Nat)} {x : List Nat} (h : due.Nodup) : (addNewM due x).Nodup := by
  unfold addNewM
  split
  · exact h
  · rename_i h'
    have h' : x ∉ due := by simpa using h'
    rw [List.nodup_append]
    refine ⟨h, by simp, fun a ha b hb e => h' ?_⟩
    rw [List.mem_singleton] at hb
    rwa [← hb, ← e]
theorem mem_dueIn {word : List Nat} {stop : Nat} {due : List (List Nat)} {p : List Nat} : ∀ j, p ∈ dueIn word stop due j ↔ p ∈ due ∨ ∃ i, i < j ∧ p = (word.drop i).take (stop - i) ∧ p.reverse = p
  | 0 => ⟨.inl, fun q => q.elim id fun ⟨i, h, _⟩ => absurd h (Nat.not_lt_zero _)⟩
  | j + 1 => by
    have ih := mem_dueIn (word := word) (stop := stop) (due := due) (p := p) j
    unfold dueIn
    split
    · rename_i hp
      have hp' := (beq_iff_eq.mp hp).symm
      rw [mem_addNew, ih]
      constructor
      · rintro ((h | ⟨i, h1, h2⟩) | h)
        · exact .inl h
        · exact .inr ⟨i, by omega, h2⟩
        · exact .inr ⟨j, by omega, h, by rw [h]; exact hp'⟩
      · rintro (h | ⟨i, h1, h2, h3⟩)
        · exact .inl (.inl h)
        · by_cases e : i = j
          · subst e; exact .inr h2
          · exact .inl (.inr ⟨i, by omega, h2, h3⟩)
    · rename_i hp
      rw [ih]
      constructor
      · rintro (h | ⟨i, h1, h2⟩)
        · exact .inl h
        · exact .inr ⟨i, by omega, h2⟩
      · rintro (h | ⟨i, h1, h2, h3⟩)
        · exact .inl h
        · by_cases e : i = j
          · subst e
            rw [h2] at h3
            exact absurd (beq_iff_eq.mpr h3.symm) hp
          · exact .inr ⟨i, by omega, h2, h3⟩
theorem nodup_dueIn {word : List Nat} {stop : Nat} {due : List (List Nat)} (h : due.Nodup) : ∀ j, (dueIn word stop due j).Nodup
  | 0 => h
  | j + 1 => by
    unfold dueIn
    split
    · exact nodup_addNew (nodup_dueIn h j)
    · exact nodup_dueIn h j
theorem mem_dueL {word : List Nat} {p : List Nat} : ∀ n, p ∈ dueL word n ↔ ∃ stop start, start < stop ∧ stop ≤ n ∧ p = (word.drop start).take (stop - start) ∧ p.reverse = p
  | 0 => ⟨(fun h => nomatch h), fun ⟨a, b, h1, h2, _⟩ => by omega⟩
  | n + 1 => by
    unfold dueL
    rw [mem_dueIn, mem_dueL n]
    constructor
    · rintro (⟨a, b, h1, h2, h3⟩ | ⟨i, h1, h2, h3⟩)
      · exact ⟨a, b, h1, by omega, h3⟩
      · exact ⟨n + 1, i, h1, Nat.le_refl _, h2, h3⟩
    · rintro ⟨a, b, h1, h2, h3, h4⟩
      by_cases e : a = n + 1
      · subst e; exact .inr ⟨b, h1, h3, h4⟩
      · exact .inl ⟨a, b, h1, by omega, h3, h4⟩
theorem nodup_dueL {word : List Nat} : ∀ n, (dueL word n).Nodup
  | 0 => List.nodup_nil
  | n + 1 => nodup_dueIn (nodup_dueL n) _
theorem mem_due {word p : List Nat} : p ∈ dueL word word.length ↔ p ≠ [] ∧ p.reverse = p ∧ p <:+: word := by
  rw [mem_dueL]
  constructor
  · rintro ⟨a, b, h1, h2, h3, h4⟩
    refine ⟨?_, h4, ?_⟩
    · intro e
      rw [e] at h3
      have := congrArg List.length h3
      simp at this
      omega
    · rw [h3]
      exact ⟨word.take b, (word.drop b).drop (a - b), by rw [List.append_assoc, List.take_append_drop, List.take_append_drop]⟩
  · rintro ⟨h1, h2, s, t, h3⟩
    have hl := congrArg List.length h3
    simp only [List.length_append] at hl
    have hp : 0 < p.length := List.length_pos_iff.mpr h1
    refine ⟨s.length + p.length, s.length, by omega, by omega, ?_, h2⟩
    rw [← h3, List.append_assoc, List.drop_left, Nat.add_sub_cancel_left, List.take_left]
theorem two_due {word : List Nat} (h : 2 ≤ word.length) : 2 ≤ (dueL word word.length).length := by
  obtain ⟨a, b, r, rfl⟩ : ∃ a b r, word = a :: b :: r := by
    match word, h with
    | a :: b :: r, _ => exact ⟨a, b, r, rfl⟩
  have h1 : [a] ∈ dueL (a :: b :: r) (a :: b :: r).length := mem_due.mpr ⟨by simp, rfl, ⟨[], b :: r, rfl⟩⟩
  obtain ⟨q, h2, h3⟩ : ∃ q, q ∈ dueL (a :: b :: r) (a :: b :: r).length ∧ q ≠ [a] := by
    by_cases e : a = b
    · subst e
      exact ⟨[a, a], mem_due.mpr ⟨by simp, rfl, ⟨[], r, rfl⟩⟩, by simp⟩
    · exact ⟨[b], mem_due.mpr ⟨by simp, rfl, ⟨[a], r, rfl⟩⟩, fun h => e (by simpa using h.symm)⟩
  generalize dueL (a :: b :: r) (a :: b :: r).length = l at *
  match l, h1, h2 with
  | [x], h1, h2 =>
    rw [List.mem_singleton] at h1 h2
    exact absurd (h2.trans h1.symm) h3
  | _ :: _ :: _, _, _ => simp
/-- the order of the mirrors -/
def KeyLt (p q : List Nat) : Prop := p.length < q.length ∨ (p.length = q.length ∧ p.drop (p.length / 2) < q.drop (q.length / 2))
theorem KeyLt.trans {p q r : List Nat} : KeyLt p q → KeyLt q r → KeyLt p r := by
  rintro (h | ⟨h1, h2⟩) (h' | ⟨h3, h4⟩)
  · exact .inl (by omega)
  · exact .inl (by omega)
  · exact .inl (by omega)
  · exact .inr ⟨by omega, List.lt_trans h2 h4⟩
theorem KeyLt.asymm {p q : List Nat} : KeyLt p q → ¬ KeyLt q p := by
  rintro (h | ⟨h1, h2⟩) (h' | ⟨h3, h4⟩)
  · omega
  · omega
  · omega
  · exact List.lt_irrefl _ (List.lt_trans h2 h4)
theorem half_eq {p q : List Nat} (hp : p.reverse = p) (hq : q.reverse = q) (hl : p.length = q.length) (h : p.drop (p.length / 2) = q.drop (q.length / 2)) : p = q := by
  have ht : ∀ {p : List Nat}, p.reverse = p → p.take (p.length / 2) = ((p.drop (p.length / 2)).drop (p.length - p.length / 2 - p.length / 2)).reverse := by
    intro p hp
    rw [List.drop_drop, show p.length / 2 + (p.length - p.length / 2 - p.length / 2) = p.length - p.length / 2 by omega]
    have h1 := List.reverse_take (l := p.reverse) (i := p.length / 2)
    rw [hp] at h1
    have h2 := congrArg List.reverse h1
    rw [List.reverse_reverse] at h2
    rw [h2, hp]
  rw [← List.take_append_drop (p.length / 2) p, ← List.take_append_drop (q.length / 2) q, ht hp, ht hq, h, hl]
theorem KeyLt.total {p q : List Nat} (hp : p.reverse = p) (hq : q.reverse = q) (hne : p ≠ q) (h : ¬ KeyLt p q) : KeyLt q p := by
  by_cases h1 : q.length < p.length
  · exact .inl h1
  · by_cases h2 : p.length < q.length
    · exact absurd (.inl h2) h
    · have hl : p.length = q.length := by omega
      refine .inr ⟨hl.symm, ?_⟩
      by_cases h3 : q.drop (q.length / 2) < p.drop (p.length / 2)
      · exact h3
      · have h4 : ¬ p.drop (p.length / 2) < q.drop (q.length / 2) := fun x => h (.inr ⟨hl, x⟩)
        exact absurd (half_eq hp hq hl (List.le_antisymm (List.not_lt.mp h3) (List.not_lt.mp h4))) hne
def keyOf (p : List Nat) : Int × Str := ((p.length : Int), ofL (p.drop (p.length / 2)))
theorem ltKey_iff (p q : List Nat) : ltKey (keyOf p) (keyOf q) = true ↔ KeyLt p q := by
  unfold ltKey keyOf KeyLt
  dsimp only
  by_cases e : p.length = q.length
  · have e1 : ((p.length : Int) == (q.length : Int)) = true := by rw [e]; exact beq_self_eq_true _
    rw [if_pos e1]
    by_cases e2 : ofL (p.drop (p.length / 2)) = ofL (q.drop (q.length / 2))
    · rw [if_pos (decide_eq_true e2)]
      have e3 : p.drop (p.length / 2) = q.drop (q.length / 2) := by
        have := congrArg (fun x : Str => x.cps.toList) e2
        simpa using this
      rw [e3]
      constructor
      · intro h; exact absurd h (by decide)
      · rintro (h | ⟨_, h⟩)
        · omega
        · exact absurd h (List.lt_irrefl _)
    · rw [if_neg (by rw [decide_eq_false e2]; decide), decide_eq_true_iff]
      constructor
      · intro h; exact .inr ⟨e, h⟩
      · rintro (h | ⟨_, h⟩)
        · omega
        · exact h
  · have e1 : ((p.length : Int) == (q.length : Int)) = false := beq_eq_false_iff_ne.mpr (by omega)
    rw [e1, if_neg Bool.false_ne_true, decide_eq_true_iff]
    constructor
    · intro h; exact .inl (by omega)
    · rintro (h | ⟨h, _⟩)
      · omega
      · exact absurd h e
theorem ltK_at {due : List (List Nat)} {i j : Nat} (hi : i < due.length) (hj : j < due.length) : ltK (due.map keyOf) i j = true ↔ KeyLt due[i] due[j] := by
  unfold ltK
  have h : ∀ k (hk : k < due.length), (due.map keyOf).getD k (0, Str.ofString "") = keyOf due[k] := by
    intro k hk
    simp [hk]
  rw [h i hi, h j hj]
  exact ltKey_iff _ _
theorem due_strict {due : List (List Nat)} (hn : due.Nodup) (hp : ∀ p ∈ due, p.reverse = p) : Strict (ltK (due.map keyOf)) due.length where
  trans i j k hi hj hk h1 h2 := (ltK_at hi hk).mpr (((ltK_at hi hj).mp h1).trans ((ltK_at hj hk).mp h2))
  asymm i j hi hj h := by
    cases e : ltK (due.map keyOf) j i with
    | false => rfl
    | true => exact absurd ((ltK_at hj hi).mp e) ((ltK_at hi hj).mp h).asymm
  total i j hi hj hne h := (ltK_at hj hi).mpr (KeyLt.total (hp _ (List.getElem_mem _)) (hp _ (List.getElem_mem _)) (fun e => hne ((List.getElem_inj hn).mp e)) fun q => by
    rw [(ltK_at hi hj).mpr q] at h; exact absurd h (by decide))
theorem sorted_due {due : List (List Nat)} {p : Array Nat} (hS : Strict (ltK (due.map keyOf)) due.length) (g : GoodP due.length p) (hU : UpTo (ltK (due.map keyOf)) p due.length) :
    (p.toList.map fun i => due.getD i []).Perm due ∧ (p.toList.map fun i => due.getD i []).Pairwise KeyLt := by
  constructor
  · refine (g.perm.map _).trans ?_
    have : (List.range due.length).map (fun i => due.getD i []) = due := by
      refine List.ext_getElem (by simp) fun i h1 h2 => ?_
      simp [h2]
    rw [this]
  · rw [List.pairwise_iff_getElem]
    intro i j hi hj hij
    simp only [List.length_map, Array.length_toList] at hi hj
    have e : ∀ k (hk : k < p.size), p.getD k 0 = p.toList[k] := by intro k hk; simp [Array.getD, hk]
    have h := hU i j hij (by rw [← g.size]; exact hj)
    rw [e i hi, e j hj] at h
    have m : ∀ k (hk : k < p.size), p.toList[k] < due.length := fun k hk => by have := g.bd (k := k) (by rw [← g.size]; exact hk); rwa [e k hk] at this
    rw [ltK_at (m i hi) (m j hj)] at h
    have e3 : ∀ k (hk : k < p.size), due.getD (p.toList[k]) [] = due[p.toList[k]]'(m k hk) := fun k hk => by rw [List.getD_eq_getElem?_getD, List.getElem?_eq_getElem (m k hk)]; rfl
    rw [List.getElem_map, List.getElem_map, e3 i hi, e3 j hj]
    exact h
theorem range_sizeM {a b : Nat} : Builtin.Range.rangeSize (a : Int) (b : Int) 1 = ((b - a : Nat) : Int) := by
  unfold Builtin.Range.rangeSize
  simp
  omega
theorem range_smallM {a b : Nat} (ha : a ≤ 100000) (hb : b ≤ 100000) : Builtin.Range.small (a : Int) (b : Int) 1 = true := by
  have h := range_sizeM (a := a) (b := b)
  unfold Builtin.Range.small
  rw [h]
  unfold Builtin.Range.rangeFitsLong
  simp only [Bool.and_eq_true, Bool.or_eq_true, decide_eq_true_eq, beq_iff_eq, Bool.not_eq_true']
  simp
  omega

end
section
local macro_rules | `(tactic| walk_at "exec For Name Call cons nil") => `(tactic| refine hold_in ?_)
local macro_rules | `(tactic| walk_at "pyIter ref") => `(tactic| ((with_reducible show wpAny _ _ (pyIter (Value.ref _)) (fun it s₂ => codeAny _ _ (Code.forLoop _ _ _ _ _) _ _) _ _); refine hold_in ?_))
local macro_rules | `(tactic| walk_at "call builtin:sorted") => `(tactic| refine hold_in ?_)
local macro_rules | `(tactic| walk_at "compareOp NotIn str ref") => `(tactic| refine hold_in ?_)
local macro_rules | `(tactic| walk_at "compareOp Eq str str") => `(tactic| refine hold_in ?_)
local macro_rules | `(tactic| walk_at "call builtin:list.append") => `(tactic| refine hold_in ?_)
set_option pp.maxSteps 3000
abbrev miFr (D : Addr) (word : List Nat) (tw : Tok) (m1 m2 m3 : Option Value) : Str → Option Value := fun y => if y = Str.ofString "part" then m3 else if y = Str.ofString "start" then m2 else if y = Str.ofString "stop" then m1 else if y = Str.ofString "due" then some (.ref D) else if y = Str.ofString "word" then some (.str (ofL word) tw) else none
theorem ofL_beqM (a b : List Nat) : (ofL a == ofL b) = (a == b) := by
  rw [Bool.eq_iff_iff, beq_iff_eq, beq_iff_eq]
  constructor
  · intro h
    have := congrArg (fun x : Str => x.cps.toList) h
    simpa using this
  · rintro rfl; rfl
theorem any_ofLM (l : List (List Nat)) (x : List Nat) : ((l.map ofL).any (· == ofL x)) = l.contains x := by
  induction l with
  | nil => rfl
  | cons a l ih =>
    rw [List.map_cons, List.any_cons, ih, List.contains_cons, ofL_beqM]
    congr 1
    rw [Bool.eq_iff_iff, beq_iff_eq, beq_iff_eq]
    exact eq_comm
theorem notin_memM {prog : Program} {w : World} {A : Around} {E : Value → Shared → Prop} {s : Shared} {Q : Value → Shared → Prop} {g : Heap} {L PP : Addr} {news : List (Addr × Obj)} {ys : List Value} {l : List (List Nat)} {x : List Nat} {n : Nat} {t : Tok} (N : News g L s.heap news) (hm : (PP, PySem.W.listOf ys.toArray n) ∈ news) (hS : StrsAre ys (l.map ofL)) (h : Q (.bool (!l.contains x)) s) :
    wpAny (model prog w) A (compareOp .NotIn (.str (ofL x) t) (.ref PP)) Q E s :=
  notin_list_strs ⟨_, (N _ hm).1, rfl, n, rfl⟩ hS (by rw [any_ofLM]; exact h)
theorem rev_ofL (l : List Nat) (u : Tok) : Txt.sliceBy (ofL l) none none (-1, u) = ofL l.reverse := by
  have h := step_rev_list (ofL l) u
  have e : (Txt.sliceBy (ofL l) none none (-1, u)).cps.toList = l.reverse := by
    rw [h]
    have hl : (ofL l).length = l.length := rfl
    refine List.ext_getElem (by simp [hl]) fun i h1 h2 => ?_
    simp only [List.length_map, List.length_range, hl] at h1
    rw [List.getElem_map, List.getElem_range, List.getElem_reverse, hl]
    have : l.length - 1 - i < l.length := by omega
    show l.toArray.getD _ 0 = _
    simp [Array.getD, this]
  have e2 : (Txt.sliceBy (ofL l) none none (-1, u)).cps = l.reverse.toArray := by rw [← e]
  calc Txt.sliceBy (ofL l) none none (-1, u) = ⟨(Txt.sliceBy (ofL l) none none (-1, u)).cps⟩ := rfl
    _ = ofL l.reverse := by rw [e2]
theorem strs_snocM {ys : List Value} {l : List (List Nat)} {x : List Nat} {t : Tok} (h : StrsAre ys (l.map ofL)) : StrsAre (ys ++ [.str (ofL x) t]) ((l ++ [x]).map ofL) := by
  rw [List.map_append]; exact h.append' (StrsAre.cons _ _ StrsAre.nil)
theorem mi_fr {g h : Heap} {L D : Addr} {word : List Nat} {tw : Tok} {m1 m2 m3 : Option Value} {v v2 : Value} (F : Fr g L h (fun y => if y = Str.ofString "part" then some v else if y = Str.ofString "start" then some v2 else miFr D word tw m1 m2 m3 y)) : Fr g L h (miFr D word tw m1 (some v2) (some v)) := fr_to F fun y => by
  by_cases h1 : y = Str.ofString "part"
  · simp only [miFr, if_pos h1]
  · by_cases h2 : y = Str.ofString "start"
    · simp only [miFr, if_neg h1, if_pos h2]
    · simp only [miFr, if_neg h1, if_neg h2]
theorem name_ltM {a b : Nat} (_ : a < b) : ∃ D, D = b := ⟨b, rfl⟩
theorem newList_M {M : Model} {A : Around} {E : Value → Shared → Prop} {s : Shared} {h₀ : Heap} {L : Addr} {m : Str → Option Value} {news : List (Addr × Obj)} {vs : List Value} {Q : Value → Shared → Prop} (F : Fr h₀ L s.heap m) (N : News h₀ L s.heap news)
    (h : ∀ l h', @LT.lt Nat _ L l → Fr h₀ L h' m → News h₀ L h' ((l, PySem.W.listOf vs.toArray 0) :: news) → (∀ p ∈ news, p.1 < l) → Q (.ref l) { s with heap := h' }) (hsz : vs.length ≤ sizeLine := by size_fits) : wpAny M A (newList vs) Q E s :=
  newList_N F N (fun h' F' N' => h _ h' F.ns.lt F' N' fun p hp => Heap.lt_size (N p hp).1) hsz
theorem half_slice (l : List Nat) : Txt.slice (ofL l) (some (((ofL l).length : Int).fdiv 2)) none = ofL (l.drop (l.length / 2)) := by
  have h : ((ofL l).length : Int).fdiv 2 = ((l.length / 2 : Nat) : Int) := by
    rw [show (ofL l).length = l.length from rfl, Int.fdiv_eq_ediv_of_nonneg _ (by decide)]
    rfl
  rw [h, slice_from l _ (by omega)]
theorem vals_of {ys : List Value} {due : List (List Nat)} (h : StrsAre ys (due.map ofL)) : ∀ p : List Nat, (∀ i ∈ p, i < due.length) → StrsAre (p.map fun i => ys.getD i Value.none) ((p.map fun i => due.getD i []).map ofL)
  | [], _ => StrsAre.nil
  | i :: p, hp => by
    have hi := hp i (.head _)
    have hl := h.length
    rw [List.length_map] at hl
    obtain ⟨t, e⟩ := strs_get h i (by omega)
    have e2 : ys.getD i Value.none = .str (ofL (due.getD i [])) t := by
      rw [List.getD_eq_getElem?_getD, List.getElem?_eq_getElem (by omega), Option.getD_some, e]
      congr 1
      simp [hi]
    rw [List.map_cons, List.map_cons, List.map_cons, e2]
    exact StrsAre.cons _ _ (vals_of h p fun j hj => hp j (.tail _ hj))
def MJ (fr : Option Value → Option Value → Option Value → Str → Option Value) (pre : Addr × Obj → List (Addr × Obj)) (D : Addr) (lst : Nat → List (List Nat)) (i : Nat) (m : Str → Option Value) (nx : List (Addr × Obj)) : Prop :=
  ∀ Z : (Str → Option Value) → List (Addr × Obj) → Prop, (∀ ys c m1 m2 m3, StrsAre ys (List.map ofL (lst i)) → Z (fr m1 m2 m3) (pre (D, PySem.W.listOf ys.toArray c))) → Z m nx
theorem mj_all {fr : Option Value → Option Value → Option Value → Str → Option Value} {pre : Addr × Obj → List (Addr × Obj)} {D : Addr} {lst : Nat → List (List Nat)} {i : Nat} {Z : (Str → Option Value) → List (Addr × Obj) → Prop} (d : ∀ ys c m1 m2 m3, StrsAre ys (List.map ofL (lst i)) → Z (fr m1 m2 m3) (pre (D, PySem.W.listOf ys.toArray c))) : ∀ m nx, MJ fr pre D lst i m nx → Z m nx := fun _ _ hp => hp Z d
theorem MJ.mk {fr : Option Value → Option Value → Option Value → Str → Option Value} {pre : Addr × Obj → List (Addr × Obj)} {D : Addr} {lst : Nat → List (List Nat)} {i : Nat} {ys : List Value} {c : Nat} {m1 m2 m3 : Option Value} (h : StrsAre ys (List.map ofL (lst i))) : MJ fr pre D lst i (fr m1 m2 m3) (pre (D, PySem.W.listOf ys.toArray c)) := fun _ k => k _ _ _ _ _ h
def MirPost (word : List Nat) (r : Value) (W' : List (Addr × Obj)) : Prop := ∀ Z : Value → List (Addr × Obj) → Prop, (∀ D ys c ps' l, StrsAre ys (List.map ofL l) → l.Perm (dueL word word.length) → l.Pairwise KeyLt → Z (.ref D) [(D, PySem.W.listOf ys.toArray c), (105, tabObj ps')]) → Z r W'
theorem mir_all {word : List Nat} {Z : Value → List (Addr × Obj) → Heap → Nat → Prop} (d : ∀ h' tk' D ys c ps' l, StrsAre ys (List.map ofL l) → l.Perm (dueL word word.length) → l.Pairwise KeyLt → Z (.ref D) [(D, PySem.W.listOf ys.toArray c), (105, tabObj ps')] h' tk') : ∀ r W' h' tk', MirPost word r W' → Z r W' h' tk' := fun _ _ h' tk' hp => hp (fun r W' => Z r W' h' tk') (d h' tk')
set_option maxHeartbeats 8000000 in
theorem mirrors_spec (w : World) (word : List Nat) (tw : Tok) (h2 : 2 ≤ word.length) (hl : word.length ≤ 7) :
    Spec PySem.Challenge.rw_sc0030_02.row.prog (fun w => Mine.hd.heap_39 w.params) w 110 [.str (ofL word) tw] 20 300 [(105, tabObj #[])] (MirPost word) := by
  ((k_fill; k_dflt (refine' spec_plain ?k6_41 ?k7_41 ?h1_41 ?k9_41 ?kB_41 ?c5_41 ?c2_41 ?c3_41 ?c4_41 ?_; (case k6_41 => k_is); (case k7_41 => k_is); (case h1_41 => first | decide | exact Nat.succ_pos _); (case k9_41 => exact rfl); (case kB_41 => exact locs rfl); (case c5_41 => decide); (case c2_41 => exact rfl); (case c3_41 => exact rfl); (case c4_41 => exact rfl); k_whole)))
  intro loose mean mg mb dp un gd env outer base g L' h₁ s tk F' N' B' X' T' lW hd hu
  try dsimp only at X'
  try dsimp only
  try k_fold
  try k_lt lW
  have kM := kstMark
  k_with_none
  have hC9 := codeHd_of_K (c := 109) (P := 105) X' (by kernel_rfl)
  have hwl : (ofL word).length = word.length := rfl
  (repeat' (first |  (k_unfold; (try dsimp only)) | (k_here; (with_reducible show wpAny _ _ (newList _) _ _ _); k_dflt (refine newList_M (by k_asm) (by k_asm) ?_; k_whole); intro D h' lL F' N' l1; (try k_lt l1); (try k_sweep)) | (k_here; (with_reducible show wpAny _ _ (eval (Expr.Name _ _) (compEnv _ _ _)) _ _ _); k_dflt (first | (refine name_locS rfl rfl rfl (by decide) (by with_reducible assumption) (by assumption) ?_; k_whole) | (refine nameG_BS rfl rfl rfl rfl (by decide) (by k_asm) (by k_asm) (by k_asm) (by k_is) (by boot_fast) (by decide) ?_; k_whole))) | (k_here; (with_reducible show wpAny _ _ (call (Value.type _) [Value.str _ _]) _ _ _); k_dflt (refine list_strN rfl (by k_asm) (by k_asm) ?_ (by rw [sizeLine_eq]; omega)); intro D9 ys9 c9 h9 tk9 F9 N9 l9 m9 hS9; (try k_lt l9); (try k_sweep)) | (k_here; (with_reducible show wpAny _ _ (compareOp CmpOp.NotEq (Value.ref _) (Value.ref _)) _ _ _); k_dflt (first | refine strs_ne_nil (by is_list) (by is_list) (by ke_room) ?_ | refine strs_ne_cons (by is_list) (by is_list) (by k_asm) (by ke_room) ?_ | refine strs_ne (by is_list) (by is_list) (by first | k_asm | exact StrsAre.nil) (by first | exact StrsAre.nil | k_asm) (by ke_room) ?_)) | (k_here; (with_reducible show wpAny _ _ (compareOp CmpOp.Eq (Value.ref _) (Value.ref _)) _ _ _); k_dflt (refine strs_eq (by is_list) (by is_list) (by first | k_asm | exact StrsAre.nil) (by first | exact StrsAre.nil | k_asm) (by ke_room) ?_)) | (k_here; (with_reducible show wpAny _ _ (call (Value.builtin _) [Value.ref _, Value.int 0 _]) _ _ _); k_dflt (refine pop_first (by k_asm) (by k_asm) (by k_upd) (by (rw [sizeLine_eq]; (try have hL9 := PyProof.Rows.StrsAre.length (by assumption)); (try simp only [List.length_cons] at *); omega)) ?_; k_whole); intro h9 F9 N9; (try k_sweep)) | (k_here; (with_reducible show wpAny _ _ (call (Value.builtin "len") [Value.str _ _]) _ _ _); refine len_str (by omega) ?_) | (k_here; (with_reducible show wpAny _ _ (call (Value.builtin "len") [Value.ref _]) _ _ _); k_dflt (refine len_strsA (by is_list) (by assumption) (by ((try simp only [List.length_map]); omega)) ?_; k_whole); (try simp only [List.length_map])) | walk1 | (dsimp only; walk1) | (dsimp only; k_unfold; (try dsimp only)) | fail "no step"))
  refine hold_out ?_
  refine wpAny_For ?_
  (repeat' (first |  (k_unfold; (try dsimp only)) | (k_here; (with_reducible show wpAny _ _ (newList _) _ _ _); k_dflt (refine newList_M (by k_asm) (by k_asm) ?_; k_whole); intro D h' lL F' N' l1; (try k_lt l1); (try k_sweep)) | (k_here; (with_reducible show wpAny _ _ (eval (Expr.Name _ _) (compEnv _ _ _)) _ _ _); k_dflt (first | (refine name_locS rfl rfl rfl (by decide) (by with_reducible assumption) (by assumption) ?_; k_whole) | (refine nameG_BS rfl rfl rfl rfl (by decide) (by k_asm) (by k_asm) (by k_asm) (by k_is) (by boot_fast) (by decide) ?_; k_whole))) | (k_here; (with_reducible show wpAny _ _ (call (Value.type _) [Value.str _ _]) _ _ _); k_dflt (refine list_strN rfl (by k_asm) (by k_asm) ?_ (by rw [sizeLine_eq]; omega)); intro D9 ys9 c9 h9 tk9 F9 N9 l9 m9 hS9; (try k_lt l9); (try k_sweep)) | (k_here; (with_reducible show wpAny _ _ (compareOp CmpOp.NotEq (Value.ref _) (Value.ref _)) _ _ _); k_dflt (first | refine strs_ne_nil (by is_list) (by is_list) (by ke_room) ?_ | refine strs_ne_cons (by is_list) (by is_list) (by k_asm) (by ke_room) ?_ | refine strs_ne (by is_list) (by is_list) (by first | k_asm | exact StrsAre.nil) (by first | exact StrsAre.nil | k_asm) (by ke_room) ?_)) | (k_here; (with_reducible show wpAny _ _ (compareOp CmpOp.Eq (Value.ref _) (Value.ref _)) _ _ _); k_dflt (refine strs_eq (by is_list) (by is_list) (by first | k_asm | exact StrsAre.nil) (by first | exact StrsAre.nil | k_asm) (by ke_room) ?_)) | (k_here; (with_reducible show wpAny _ _ (call (Value.builtin _) [Value.ref _, Value.int 0 _]) _ _ _); k_dflt (refine pop_first (by k_asm) (by k_asm) (by k_upd) (by (rw [sizeLine_eq]; (try have hL9 := PyProof.Rows.StrsAre.length (by assumption)); (try simp only [List.length_cons] at *); omega)) ?_; k_whole); intro h9 F9 N9; (try k_sweep)) | (k_here; (with_reducible show wpAny _ _ (call (Value.builtin "len") [Value.str _ _]) _ _ _); refine len_str (by omega) ?_) | (k_here; (with_reducible show wpAny _ _ (call (Value.builtin "len") [Value.ref _]) _ _ _); k_dflt (refine len_strsA (by is_list) (by assumption) (by ((try simp only [List.length_map]); omega)) ?_; k_whole); (try simp only [List.length_map])) | walk1 | (dsimp only; walk1) | (dsimp only; k_unfold; (try dsimp only)) | fail "no step"))
  refine hold_out ?_
  with_reducible rename IsRange _ _ _ _ _ _ _ _ => hR
  with_reducible rename News _ _ _ _ => N1
  rw [show ((ofL word).length : Int) + 1 = ((word.length + 1 : Nat) : Int) by omega] at hR
  refine' for_range (n := word.length) (m := miFr D word tw none none none) (news := [(D, PySem.W.listOf #[] 0), (105, tabObj #[])]) (MJ (miFr D word tw) (fun x => [x, (105, tabObj #[])]) D (dueL word)) (by rfl) (fun _ _ h => h) hR (range_smallM (a := 1) (by omega) (by omega)) ((range_sizeM (a := 1)).trans (by rw [Nat.add_sub_cancel])) ?fr N1 (MJ.mk (fr := miFr D word tw) (pre := fun x => [x, (105, tabObj #[])]) (lst := dueL word) (ys := []) StrsAre.nil) ?turn ?done
  case fr => ((refine fr_to (by assumption) (fun y => ?_); by_cases h1 : y = Str.ofString "part"; (subst h1; rfl); by_cases h2 : y = Str.ofString "start"; (subst h2; rfl); by_cases h3 : y = Str.ofString "stop"; (subst h3; rfl); by_cases h4 : y = Str.ofString "due"; (subst h4; rfl); by_cases h5 : y = Str.ofString "word"; (subst h5; rfl); (simp only [miFr, if_neg h1, if_neg h2, if_neg h3, if_neg h4, if_neg h5]); (try (show List.lookup y [(Str.ofString "word", _)] = none; rw [List.lookup_cons, beq_eq_false_iff_ne.mpr h5]; rfl))))
  case done =>
    intro m₁ nx h tk hJ
    revert m₁ nx
    refine mj_all (pre := fun x => [x, (105, tabObj #[])]) ?_
    intro ys c m1 m2 m3 hS F2 N2
    try dsimp only
    (repeat' (first |  (k_unfold; (try dsimp only)) | (k_here; (with_reducible show wpAny _ _ (newList _) _ _ _); k_dflt (refine newList_M (by k_asm) (by k_asm) ?_; k_whole); intro D h' lL F' N' l1; (try k_lt l1); (try k_sweep)) | (k_here; (with_reducible show wpAny _ _ (eval (Expr.Name _ _) (compEnv _ _ _)) _ _ _); k_dflt (first | (refine name_locS rfl rfl rfl (by decide) (by with_reducible assumption) (by assumption) ?_; k_whole) | (refine nameG_BS rfl rfl rfl rfl (by decide) (by k_asm) (by k_asm) (by k_asm) (by k_is) (by boot_fast) (by decide) ?_; k_whole))) | (k_here; (with_reducible show wpAny _ _ (call (Value.type _) [Value.str _ _]) _ _ _); k_dflt (refine list_strN rfl (by k_asm) (by k_asm) ?_ (by rw [sizeLine_eq]; omega)); intro D9 ys9 c9 h9 tk9 F9 N9 l9 m9 hS9; (try k_lt l9); (try k_sweep)) | (k_here; (with_reducible show wpAny _ _ (compareOp CmpOp.NotEq (Value.ref _) (Value.ref _)) _ _ _); k_dflt (first | refine strs_ne_nil (by is_list) (by is_list) (by ke_room) ?_ | refine strs_ne_cons (by is_list) (by is_list) (by k_asm) (by ke_room) ?_ | refine strs_ne (by is_list) (by is_list) (by first | k_asm | exact StrsAre.nil) (by first | exact StrsAre.nil | k_asm) (by ke_room) ?_)) | (k_here; (with_reducible show wpAny _ _ (compareOp CmpOp.Eq (Value.ref _) (Value.ref _)) _ _ _); k_dflt (refine strs_eq (by is_list) (by is_list) (by first | k_asm | exact StrsAre.nil) (by first | exact StrsAre.nil | k_asm) (by ke_room) ?_)) | (k_here; (with_reducible show wpAny _ _ (call (Value.builtin _) [Value.ref _, Value.int 0 _]) _ _ _); k_dflt (refine pop_first (by k_asm) (by k_asm) (by k_upd) (by (rw [sizeLine_eq]; (try have hL9 := PyProof.Rows.StrsAre.length (by assumption)); (try simp only [List.length_cons] at *); omega)) ?_; k_whole); intro h9 F9 N9; (try k_sweep)) | (k_here; (with_reducible show wpAny _ _ (call (Value.builtin "len") [Value.str _ _]) _ _ _); refine len_str (by omega) ?_) | (k_here; (with_reducible show wpAny _ _ (call (Value.builtin "len") [Value.ref _]) _ _ _); k_dflt (refine len_strsA (by is_list) (by assumption) (by ((try simp only [List.length_map]); omega)) ?_; k_whole); (try simp only [List.length_map])) | walk1 | (dsimp only; walk1) | (dsimp only; k_unfold; (try dsimp only)) | fail "no step"))
    refine hold_out ?_
    with_reducible rename Fr _ _ _ _ => F3
    with_reducible rename News _ _ _ _ => N3
    have hlen := hS.length
    rw [List.length_map] at hlen
    have hd2 := two_due h2
    have hd7 := dueL_len word word.length hl
    have hdn := nodup_dueL (word := word) word.length
    have hdp : ∀ p ∈ dueL word word.length, p.reverse = p ∧ p.length ≤ 7 := fun p hp => ⟨(mem_due.mp hp).2.1, Nat.le_trans (mem_due.mp hp).2.2.length_le hl⟩
    obtain ⟨due, hdue⟩ : ∃ due, due = dueL word word.length := ⟨_, rfl⟩
    rw [← hdue] at hS hlen hd2 hd7 hdn hdp
    have hS9 := due_strict hdn fun p hp => (hdp p hp).1
    ksk_show
    refine' sorted_keys (vs := ys) (n := c) (kz := due.map keyOf) F3 N3 ?m1 ?m2 ?m3 ?m4 ?m5 ?m6 ?m7
    case m1 => (first | k_mem | (refine List.mem_append_right _ ?_; k_mem) | (refine List.mem_append_left _ ?_; k_mem))
    case m2 => rw [List.length_map, hlen]
    case m3 => omega
    case m4 => omega
    case m5 => rw [hlen]; exact hS9
    case m6 =>
      rintro v k own h5 tk5 ⟨i, hv, hk⟩ F5 N5
      obtain ⟨l, t, hl1, rfl⟩ := strs_at hS hv
      rw [List.getElem?_map, hl1, Option.map_some] at hk
      cases hk
      have hl7 := (hdp l (List.mem_of_getElem? hl1)).2
      have hll : (ofL l).length = l.length := rfl
      simp only [List.cons_append, List.nil_append] at N5 ⊢
      (repeat' (first |  (k_unfold; (try dsimp only)) | (k_here; (with_reducible show wpAny _ _ (newList _) _ _ _); k_dflt (refine newList_M (by k_asm) (by k_asm) ?_; k_whole); intro D h' lL F' N' l1; (try k_lt l1); (try k_sweep)) | (k_here; (with_reducible show wpAny _ _ (eval (Expr.Name _ _) (compEnv _ _ _)) _ _ _); k_dflt (first | (refine name_locS rfl rfl rfl (by decide) (by with_reducible assumption) (by assumption) ?_; k_whole) | (refine nameG_BS rfl rfl rfl rfl (by decide) (by k_asm) (by k_asm) (by k_asm) (by k_is) (by boot_fast) (by decide) ?_; k_whole))) | (k_here; (with_reducible show wpAny _ _ (call (Value.type _) [Value.str _ _]) _ _ _); k_dflt (refine list_strN rfl (by k_asm) (by k_asm) ?_ (by rw [sizeLine_eq]; omega)); intro D9 ys9 c9 h9 tk9 F9 N9 l9 m9 hS9; (try k_lt l9); (try k_sweep)) | (k_here; (with_reducible show wpAny _ _ (compareOp CmpOp.NotEq (Value.ref _) (Value.ref _)) _ _ _); k_dflt (first | refine strs_ne_nil (by is_list) (by is_list) (by ke_room) ?_ | refine strs_ne_cons (by is_list) (by is_list) (by k_asm) (by ke_room) ?_ | refine strs_ne (by is_list) (by is_list) (by first | k_asm | exact StrsAre.nil) (by first | exact StrsAre.nil | k_asm) (by ke_room) ?_)) | (k_here; (with_reducible show wpAny _ _ (compareOp CmpOp.Eq (Value.ref _) (Value.ref _)) _ _ _); k_dflt (refine strs_eq (by is_list) (by is_list) (by first | k_asm | exact StrsAre.nil) (by first | exact StrsAre.nil | k_asm) (by ke_room) ?_)) | (k_here; (with_reducible show wpAny _ _ (call (Value.builtin _) [Value.ref _, Value.int 0 _]) _ _ _); k_dflt (refine pop_first (by k_asm) (by k_asm) (by k_upd) (by (rw [sizeLine_eq]; (try have hL9 := PyProof.Rows.StrsAre.length (by assumption)); (try simp only [List.length_cons] at *); omega)) ?_; k_whole); intro h9 F9 N9; (try k_sweep)) | (k_here; (with_reducible show wpAny _ _ (call (Value.builtin "len") [Value.str _ _]) _ _ _); refine len_str (by omega) ?_) | (k_here; (with_reducible show wpAny _ _ (call (Value.builtin "len") [Value.ref _]) _ _ _); k_dflt (refine len_strsA (by is_list) (by assumption) (by ((try simp only [List.length_map]); omega)) ?_; k_whole); (try simp only [List.length_map])) | walk1 | (dsimp only; walk1) | (dsimp only; k_unfold; (try dsimp only)) | fail "no step"))
      with_reducible rename Fr _ _ _ _ => F7
      with_reducible rename News _ _ _ _ => N7
      refine' KeyEnd.mk' ?x1 F7 N7 ?x2 ?x3
      case x2 => exact fun p hp => hp
      case x1 => exact ⟨rfl, _, _, _, by rw [half_slice]; rfl⟩
      case x3 => k_all
    case m7 =>
      rintro D2 p c2 h6 tk6 l6 F6 N6 g6 u6
      rw [hlen] at g6 u6
      obtain ⟨q1, q2⟩ := sorted_due hS9 g6 u6
      have q1' : (p.toList.map fun i => due.getD i []).Perm (dueL word word.length) := hdue ▸ q1
      have hD2 := l6 (D, PySem.W.listOf ys.toArray c) (by (first | k_mem | (refine List.mem_append_right _ ?_; k_mem) | (refine List.mem_append_left _ ?_; k_mem)))
      have hp9 : ∀ i ∈ p.toList, i < due.length := fun i hi => List.mem_range.mp (g6.perm.mem_iff.mp hi)
      refine Back.mk' (W' := [(D2, PySem.W.listOf _ c2), (105, tabObj _)]) (fun _ k => k D2 _ c2 _ _ (vals_of hS _ hp9) q1' q2) F6 N6 (by (repeat (first | exact List.forall_mem_nil _ | refine List.forall_mem_cons.mpr ⟨by k_mem, ?_⟩))) ?_
      refine List.forall_mem_cons.mpr ⟨.inr (Nat.lt_trans lL hD2), List.forall_mem_cons.mpr ⟨.inl (.head _), List.forall_mem_nil _⟩⟩
  case turn =>
    intro i ti m₁ nx h tk I oI hi hJ
    revert m₁ nx
    refine mj_all (pre := fun x => [x, (105, tabObj #[])]) ?_
    intro ys c m1 m2 m3 hS F2 N2 off
    have f1 : @Ne Nat D I := off (D, PySem.W.listOf ys.toArray c) (.head _)
    have f2 : @Ne Nat 105 I := off (105, tabObj #[]) (.tail _ (.head _))
    rw [show (1 : Int) + (i : Int) = ((i + 1 : Nat) : Int) by omega]
    (repeat' (first |  (k_unfold; (try dsimp only)) | (k_here; (with_reducible show wpAny _ _ (newList _) _ _ _); k_dflt (refine newList_M (by k_asm) (by k_asm) ?_; k_whole); intro D h' lL F' N' l1; (try k_lt l1); (try k_sweep)) | (k_here; (with_reducible show wpAny _ _ (eval (Expr.Name _ _) (compEnv _ _ _)) _ _ _); k_dflt (first | (refine name_locS rfl rfl rfl (by decide) (by with_reducible assumption) (by assumption) ?_; k_whole) | (refine nameG_BS rfl rfl rfl rfl (by decide) (by k_asm) (by k_asm) (by k_asm) (by k_is) (by boot_fast) (by decide) ?_; k_whole))) | (k_here; (with_reducible show wpAny _ _ (call (Value.type _) [Value.str _ _]) _ _ _); k_dflt (refine list_strN rfl (by k_asm) (by k_asm) ?_ (by rw [sizeLine_eq]; omega)); intro D9 ys9 c9 h9 tk9 F9 N9 l9 m9 hS9; (try k_lt l9); (try k_sweep)) | (k_here; (with_reducible show wpAny _ _ (compareOp CmpOp.NotEq (Value.ref _) (Value.ref _)) _ _ _); k_dflt (first | refine strs_ne_nil (by is_list) (by is_list) (by ke_room) ?_ | refine strs_ne_cons (by is_list) (by is_list) (by k_asm) (by ke_room) ?_ | refine strs_ne (by is_list) (by is_list) (by first | k_asm | exact StrsAre.nil) (by first | exact StrsAre.nil | k_asm) (by ke_room) ?_)) | (k_here; (with_reducible show wpAny _ _ (compareOp CmpOp.Eq (Value.ref _) (Value.ref _)) _ _ _); k_dflt (refine strs_eq (by is_list) (by is_list) (by first | k_asm | exact StrsAre.nil) (by first | exact StrsAre.nil | k_asm) (by ke_room) ?_)) | (k_here; (with_reducible show wpAny _ _ (call (Value.builtin _) [Value.ref _, Value.int 0 _]) _ _ _); k_dflt (refine pop_first (by k_asm) (by k_asm) (by k_upd) (by (rw [sizeLine_eq]; (try have hL9 := PyProof.Rows.StrsAre.length (by assumption)); (try simp only [List.length_cons] at *); omega)) ?_; k_whole); intro h9 F9 N9; (try k_sweep)) | (k_here; (with_reducible show wpAny _ _ (call (Value.builtin "len") [Value.str _ _]) _ _ _); refine len_str (by omega) ?_) | (k_here; (with_reducible show wpAny _ _ (call (Value.builtin "len") [Value.ref _]) _ _ _); k_dflt (refine len_strsA (by is_list) (by assumption) (by ((try simp only [List.length_map]); omega)) ?_; k_whole); (try simp only [List.length_map])) | walk1 | (dsimp only; walk1) | (dsimp only; k_unfold; (try dsimp only)) | fail "no step"))
    refine hold_out ?_
    refine wpAny_For ?_
    (repeat' (first |  (k_unfold; (try dsimp only)) | (k_here; (with_reducible show wpAny _ _ (newList _) _ _ _); k_dflt (refine newList_M (by k_asm) (by k_asm) ?_; k_whole); intro D h' lL F' N' l1; (try k_lt l1); (try k_sweep)) | (k_here; (with_reducible show wpAny _ _ (eval (Expr.Name _ _) (compEnv _ _ _)) _ _ _); k_dflt (first | (refine name_locS rfl rfl rfl (by decide) (by with_reducible assumption) (by assumption) ?_; k_whole) | (refine nameG_BS rfl rfl rfl rfl (by decide) (by k_asm) (by k_asm) (by k_asm) (by k_is) (by boot_fast) (by decide) ?_; k_whole))) | (k_here; (with_reducible show wpAny _ _ (call (Value.type _) [Value.str _ _]) _ _ _); k_dflt (refine list_strN rfl (by k_asm) (by k_asm) ?_ (by rw [sizeLine_eq]; omega)); intro D9 ys9 c9 h9 tk9 F9 N9 l9 m9 hS9; (try k_lt l9); (try k_sweep)) | (k_here; (with_reducible show wpAny _ _ (compareOp CmpOp.NotEq (Value.ref _) (Value.ref _)) _ _ _); k_dflt (first | refine strs_ne_nil (by is_list) (by is_list) (by ke_room) ?_ | refine strs_ne_cons (by is_list) (by is_list) (by k_asm) (by ke_room) ?_ | refine strs_ne (by is_list) (by is_list) (by first | k_asm | exact StrsAre.nil) (by first | exact StrsAre.nil | k_asm) (by ke_room) ?_)) | (k_here; (with_reducible show wpAny _ _ (compareOp CmpOp.Eq (Value.ref _) (Value.ref _)) _ _ _); k_dflt (refine strs_eq (by is_list) (by is_list) (by first | k_asm | exact StrsAre.nil) (by first | exact StrsAre.nil | k_asm) (by ke_room) ?_)) | (k_here; (with_reducible show wpAny _ _ (call (Value.builtin _) [Value.ref _, Value.int 0 _]) _ _ _); k_dflt (refine pop_first (by k_asm) (by k_asm) (by k_upd) (by (rw [sizeLine_eq]; (try have hL9 := PyProof.Rows.StrsAre.length (by assumption)); (try simp only [List.length_cons] at *); omega)) ?_; k_whole); intro h9 F9 N9; (try k_sweep)) | (k_here; (with_reducible show wpAny _ _ (call (Value.builtin "len") [Value.str _ _]) _ _ _); refine len_str (by omega) ?_) | (k_here; (with_reducible show wpAny _ _ (call (Value.builtin "len") [Value.ref _]) _ _ _); k_dflt (refine len_strsA (by is_list) (by assumption) (by ((try simp only [List.length_map]); omega)) ?_; k_whole); (try simp only [List.length_map])) | walk1 | (dsimp only; walk1) | (dsimp only; k_unfold; (try dsimp only)) | fail "no step"))
    refine hold_out ?_
    with_reducible rename IsRange _ _ _ _ _ _ _ _ => hR2
    with_reducible rename Fr _ _ _ _ => F3
    with_reducible rename News _ _ _ _ => N3
    refine' for_range (n := i + 1) (m := miFr D word tw (some (.int ((i + 1 : Nat) : Int) ti)) m2 m3) (news := [(I, oI), (D, PySem.W.listOf ys.toArray c), (105, tabObj #[])]) (MJ (fun _ m2 m3 => miFr D word tw (some (.int ((i + 1 : Nat) : Int) ti)) m2 m3) (fun x => [(I, oI), x, (105, tabObj #[])]) D (dueIn word (i + 1) (dueL word i))) (by rfl) (fun _ _ h => h) hR2 (range_smallM (a := 0) (by omega) (by omega)) (range_sizeM (a := 0)) ?fr2 N3 (MJ.mk (fr := fun _ m2 m3 => miFr D word tw (some (.int ((i + 1 : Nat) : Int) ti)) m2 m3) (pre := fun x => [(I, oI), x, (105, tabObj #[])]) (lst := dueIn word (i + 1) (dueL word i)) (m1 := none) hS) ?turn2 ?done2
    case fr2 => ((refine fr_to (by assumption) (fun y => ?_); by_cases h1 : y = Str.ofString "part"; (subst h1; rfl); by_cases h2 : y = Str.ofString "start"; (subst h2; rfl); by_cases h3 : y = Str.ofString "stop"; (subst h3; rfl); by_cases h4 : y = Str.ofString "due"; (subst h4; rfl); by_cases h5 : y = Str.ofString "word"; (subst h5; rfl); (simp only [miFr, if_neg h1, if_neg h2, if_neg h3, if_neg h4, if_neg h5]); (try (show List.lookup y [(Str.ofString "word", _)] = none; rw [List.lookup_cons, beq_eq_false_iff_ne.mpr h5]; rfl))))
    case done2 =>
      intro m₁ nx h3 tk3 hJ
      revert m₁ nx
      refine mj_all (fr := fun _ m2 m3 => miFr D word tw (some (.int ((i + 1 : Nat) : Int) ti)) m2 m3) (pre := fun x => [(I, oI), x, (105, tabObj #[])]) ?_
      intro ys3 c3 _ m23 m33 hS3 F4 N4
      try dsimp only
      (repeat' (first |  (k_unfold; (try dsimp only)) | (k_here; (with_reducible show wpAny _ _ (newList _) _ _ _); k_dflt (refine newList_M (by k_asm) (by k_asm) ?_; k_whole); intro D h' lL F' N' l1; (try k_lt l1); (try k_sweep)) | (k_here; (with_reducible show wpAny _ _ (eval (Expr.Name _ _) (compEnv _ _ _)) _ _ _); k_dflt (first | (refine name_locS rfl rfl rfl (by decide) (by with_reducible assumption) (by assumption) ?_; k_whole) | (refine nameG_BS rfl rfl rfl rfl (by decide) (by k_asm) (by k_asm) (by k_asm) (by k_is) (by boot_fast) (by decide) ?_; k_whole))) | (k_here; (with_reducible show wpAny _ _ (call (Value.type _) [Value.str _ _]) _ _ _); k_dflt (refine list_strN rfl (by k_asm) (by k_asm) ?_ (by rw [sizeLine_eq]; omega)); intro D9 ys9 c9 h9 tk9 F9 N9 l9 m9 hS9; (try k_lt l9); (try k_sweep)) | (k_here; (with_reducible show wpAny _ _ (compareOp CmpOp.NotEq (Value.ref _) (Value.ref _)) _ _ _); k_dflt (first | refine strs_ne_nil (by is_list) (by is_list) (by ke_room) ?_ | refine strs_ne_cons (by is_list) (by is_list) (by k_asm) (by ke_room) ?_ | refine strs_ne (by is_list) (by is_list) (by first | k_asm | exact StrsAre.nil) (by first | exact StrsAre.nil | k_asm) (by ke_room) ?_)) | (k_here; (with_reducible show wpAny _ _ (compareOp CmpOp.Eq (Value.ref _) (Value.ref _)) _ _ _); k_dflt (refine strs_eq (by is_list) (by is_list) (by first | k_asm | exact StrsAre.nil) (by first | exact StrsAre.nil | k_asm) (by ke_room) ?_)) | (k_here; (with_reducible show wpAny _ _ (call (Value.builtin _) [Value.ref _, Value.int 0 _]) _ _ _); k_dflt (refine pop_first (by k_asm) (by k_asm) (by k_upd) (by (rw [sizeLine_eq]; (try have hL9 := PyProof.Rows.StrsAre.length (by assumption)); (try simp only [List.length_cons] at *); omega)) ?_; k_whole); intro h9 F9 N9; (try k_sweep)) | (k_here; (with_reducible show wpAny _ _ (call (Value.builtin "len") [Value.str _ _]) _ _ _); refine len_str (by omega) ?_) | (k_here; (with_reducible show wpAny _ _ (call (Value.builtin "len") [Value.ref _]) _ _ _); k_dflt (refine len_strsA (by is_list) (by assumption) (by ((try simp only [List.length_map]); omega)) ?_; k_whole); (try simp only [List.length_map])) | walk1 | (dsimp only; walk1) | (dsimp only; k_unfold; (try dsimp only)) | fail "no step"))
      exact TurnTo.mk (MJ.mk (fr := miFr D word tw) (pre := fun x => [x, (105, tabObj #[])]) (lst := dueL word) hS3) F4 N4 (fun p hp => hp) (List.forall_mem_cons.mpr ⟨f1, List.forall_mem_cons.mpr ⟨f2, List.forall_mem_nil _⟩⟩)
    case turn2 =>
      intro j tj m₁ nx h3 tk3 I2 oI2 hj hJ
      revert m₁ nx
      refine mj_all (fr := fun _ m2 m3 => miFr D word tw (some (.int ((i + 1 : Nat) : Int) ti)) m2 m3) (pre := fun x => [(I, oI), x, (105, tabObj #[])]) ?_
      intro ys3 c3 _ m23 m33 hS3 F4 N4 off2
      have g1 : @Ne Nat I I2 := off2 (I, oI) (.head _)
      have g2 : @Ne Nat D I2 := off2 (D, PySem.W.listOf ys3.toArray c3) (.tail _ (.head _))
      have g3 : @Ne Nat 105 I2 := off2 (105, tabObj #[]) (.tail _ (.tail _ (.head _)))
      rw [Int.zero_add]
      (repeat' (first |  (k_unfold; (try dsimp only)) | (k_here; (with_reducible show wpAny _ _ (newList _) _ _ _); k_dflt (refine newList_M (by k_asm) (by k_asm) ?_; k_whole); intro D h' lL F' N' l1; (try k_lt l1); (try k_sweep)) | (k_here; (with_reducible show wpAny _ _ (eval (Expr.Name _ _) (compEnv _ _ _)) _ _ _); k_dflt (first | (refine name_locS rfl rfl rfl (by decide) (by with_reducible assumption) (by assumption) ?_; k_whole) | (refine nameG_BS rfl rfl rfl rfl (by decide) (by k_asm) (by k_asm) (by k_asm) (by k_is) (by boot_fast) (by decide) ?_; k_whole))) | (k_here; (with_reducible show wpAny _ _ (call (Value.type _) [Value.str _ _]) _ _ _); k_dflt (refine list_strN rfl (by k_asm) (by k_asm) ?_ (by rw [sizeLine_eq]; omega)); intro D9 ys9 c9 h9 tk9 F9 N9 l9 m9 hS9; (try k_lt l9); (try k_sweep)) | (k_here; (with_reducible show wpAny _ _ (compareOp CmpOp.NotEq (Value.ref _) (Value.ref _)) _ _ _); k_dflt (first | refine strs_ne_nil (by is_list) (by is_list) (by ke_room) ?_ | refine strs_ne_cons (by is_list) (by is_list) (by k_asm) (by ke_room) ?_ | refine strs_ne (by is_list) (by is_list) (by first | k_asm | exact StrsAre.nil) (by first | exact StrsAre.nil | k_asm) (by ke_room) ?_)) | (k_here; (with_reducible show wpAny _ _ (compareOp CmpOp.Eq (Value.ref _) (Value.ref _)) _ _ _); k_dflt (refine strs_eq (by is_list) (by is_list) (by first | k_asm | exact StrsAre.nil) (by first | exact StrsAre.nil | k_asm) (by ke_room) ?_)) | (k_here; (with_reducible show wpAny _ _ (call (Value.builtin _) [Value.ref _, Value.int 0 _]) _ _ _); k_dflt (refine pop_first (by k_asm) (by k_asm) (by k_upd) (by (rw [sizeLine_eq]; (try have hL9 := PyProof.Rows.StrsAre.length (by assumption)); (try simp only [List.length_cons] at *); omega)) ?_; k_whole); intro h9 F9 N9; (try k_sweep)) | (k_here; (with_reducible show wpAny _ _ (call (Value.builtin "len") [Value.str _ _]) _ _ _); refine len_str (by omega) ?_) | (k_here; (with_reducible show wpAny _ _ (call (Value.builtin "len") [Value.ref _]) _ _ _); k_dflt (refine len_strsA (by is_list) (by assumption) (by ((try simp only [List.length_map]); omega)) ?_; k_whole); (try simp only [List.length_map])) | walk1 | (dsimp only; walk1) | (dsimp only; k_unfold; (try dsimp only)) | fail "no step"))
      refine hold_out ?_
      with_reducible rename Fr _ _ _ _ => F5
      with_reducible rename News _ _ _ _ => N5
      rw [slice_mid word j (i + 1) (by omega) (by omega), rev_ofL]
      rw [slice_mid word j (i + 1) (by omega) (by omega)] at F5
      replace F5 := mi_fr F5
      refine PyProof.Rows.eq_str ?_
      rw [ofL_beqM]
      have e1 : dueIn word (i + 1) (dueL word i) (j + 1) = if (word.drop j).take (i + 1 - j) == ((word.drop j).take (i + 1 - j)).reverse then addNewM (dueIn word (i + 1) (dueL word i) j) ((word.drop j).take (i + 1 - j)) else dueIn word (i + 1) (dueL word i) j := rfl
      obtain ⟨part, hpart⟩ : ∃ part, part = (word.drop j).take (i + 1 - j) := ⟨_, rfl⟩
      rw [← hpart] at F5 e1 ⊢
      have hl1 := dueIn_len word (i + 1) (dueL word i) j
      have hl2 := dueL_len word i (by omega)
      have hl3 := hS3.length
      rw [List.length_map] at hl3
      obtain ⟨due, hdue⟩ : ∃ due, due = dueIn word (i + 1) (dueL word i) j := ⟨_, rfl⟩
      rw [← hdue] at hS3 e1 hl1 hl3
      cases hp : part == part.reverse with
      | false =>
        rw [hp] at e1
        (repeat' (first |  (k_unfold; (try dsimp only)) | (k_here; (with_reducible show wpAny _ _ (newList _) _ _ _); k_dflt (refine newList_M (by k_asm) (by k_asm) ?_; k_whole); intro D h' lL F' N' l1; (try k_lt l1); (try k_sweep)) | (k_here; (with_reducible show wpAny _ _ (eval (Expr.Name _ _) (compEnv _ _ _)) _ _ _); k_dflt (first | (refine name_locS rfl rfl rfl (by decide) (by with_reducible assumption) (by assumption) ?_; k_whole) | (refine nameG_BS rfl rfl rfl rfl (by decide) (by k_asm) (by k_asm) (by k_asm) (by k_is) (by boot_fast) (by decide) ?_; k_whole))) | (k_here; (with_reducible show wpAny _ _ (call (Value.type _) [Value.str _ _]) _ _ _); k_dflt (refine list_strN rfl (by k_asm) (by k_asm) ?_ (by rw [sizeLine_eq]; omega)); intro D9 ys9 c9 h9 tk9 F9 N9 l9 m9 hS9; (try k_lt l9); (try k_sweep)) | (k_here; (with_reducible show wpAny _ _ (compareOp CmpOp.NotEq (Value.ref _) (Value.ref _)) _ _ _); k_dflt (first | refine strs_ne_nil (by is_list) (by is_list) (by ke_room) ?_ | refine strs_ne_cons (by is_list) (by is_list) (by k_asm) (by ke_room) ?_ | refine strs_ne (by is_list) (by is_list) (by first | k_asm | exact StrsAre.nil) (by first | exact StrsAre.nil | k_asm) (by ke_room) ?_)) | (k_here; (with_reducible show wpAny _ _ (compareOp CmpOp.Eq (Value.ref _) (Value.ref _)) _ _ _); k_dflt (refine strs_eq (by is_list) (by is_list) (by first | k_asm | exact StrsAre.nil) (by first | exact StrsAre.nil | k_asm) (by ke_room) ?_)) | (k_here; (with_reducible show wpAny _ _ (call (Value.builtin _) [Value.ref _, Value.int 0 _]) _ _ _); k_dflt (refine pop_first (by k_asm) (by k_asm) (by k_upd) (by (rw [sizeLine_eq]; (try have hL9 := PyProof.Rows.StrsAre.length (by assumption)); (try simp only [List.length_cons] at *); omega)) ?_; k_whole); intro h9 F9 N9; (try k_sweep)) | (k_here; (with_reducible show wpAny _ _ (call (Value.builtin "len") [Value.str _ _]) _ _ _); refine len_str (by omega) ?_) | (k_here; (with_reducible show wpAny _ _ (call (Value.builtin "len") [Value.ref _]) _ _ _); k_dflt (refine len_strsA (by is_list) (by assumption) (by ((try simp only [List.length_map]); omega)) ?_; k_whole); (try simp only [List.length_map])) | walk1 | (dsimp only; walk1) | (dsimp only; k_unfold; (try dsimp only)) | fail "no step"))
        exact TurnTo.mk (MJ.mk (fr := fun _ m2 m3 => miFr D word tw (some (.int ((i + 1 : Nat) : Int) ti)) m2 m3) (pre := fun x => [(I, oI), x, (105, tabObj #[])]) (lst := dueIn word (i + 1) (dueL word i)) (m1 := none) (by rw [e1]; exact hS3)) F5 N5 (fun p hp => hp) (List.forall_mem_cons.mpr ⟨g1, List.forall_mem_cons.mpr ⟨g2, List.forall_mem_cons.mpr ⟨g3, List.forall_mem_nil _⟩⟩⟩)
      | true =>
        rw [hp] at e1
        (repeat' (first |  (k_unfold; (try dsimp only)) | (k_here; (with_reducible show wpAny _ _ (newList _) _ _ _); k_dflt (refine newList_M (by k_asm) (by k_asm) ?_; k_whole); intro D h' lL F' N' l1; (try k_lt l1); (try k_sweep)) | (k_here; (with_reducible show wpAny _ _ (eval (Expr.Name _ _) (compEnv _ _ _)) _ _ _); k_dflt (first | (refine name_locS rfl rfl rfl (by decide) (by with_reducible assumption) (by assumption) ?_; k_whole) | (refine nameG_BS rfl rfl rfl rfl (by decide) (by k_asm) (by k_asm) (by k_asm) (by k_is) (by boot_fast) (by decide) ?_; k_whole))) | (k_here; (with_reducible show wpAny _ _ (call (Value.type _) [Value.str _ _]) _ _ _); k_dflt (refine list_strN rfl (by k_asm) (by k_asm) ?_ (by rw [sizeLine_eq]; omega)); intro D9 ys9 c9 h9 tk9 F9 N9 l9 m9 hS9; (try k_lt l9); (try k_sweep)) | (k_here; (with_reducible show wpAny _ _ (compareOp CmpOp.NotEq (Value.ref _) (Value.ref _)) _ _ _); k_dflt (first | refine strs_ne_nil (by is_list) (by is_list) (by ke_room) ?_ | refine strs_ne_cons (by is_list) (by is_list) (by k_asm) (by ke_room) ?_ | refine strs_ne (by is_list) (by is_list) (by first | k_asm | exact StrsAre.nil) (by first | exact StrsAre.nil | k_asm) (by ke_room) ?_)) | (k_here; (with_reducible show wpAny _ _ (compareOp CmpOp.Eq (Value.ref _) (Value.ref _)) _ _ _); k_dflt (refine strs_eq (by is_list) (by is_list) (by first | k_asm | exact StrsAre.nil) (by first | exact StrsAre.nil | k_asm) (by ke_room) ?_)) | (k_here; (with_reducible show wpAny _ _ (call (Value.builtin _) [Value.ref _, Value.int 0 _]) _ _ _); k_dflt (refine pop_first (by k_asm) (by k_asm) (by k_upd) (by (rw [sizeLine_eq]; (try have hL9 := PyProof.Rows.StrsAre.length (by assumption)); (try simp only [List.length_cons] at *); omega)) ?_; k_whole); intro h9 F9 N9; (try k_sweep)) | (k_here; (with_reducible show wpAny _ _ (call (Value.builtin "len") [Value.str _ _]) _ _ _); refine len_str (by omega) ?_) | (k_here; (with_reducible show wpAny _ _ (call (Value.builtin "len") [Value.ref _]) _ _ _); k_dflt (refine len_strsA (by is_list) (by assumption) (by ((try simp only [List.length_map]); omega)) ?_; k_whole); (try simp only [List.length_map])) | walk1 | (dsimp only; walk1) | (dsimp only; k_unfold; (try dsimp only)) | fail "no step"))
        refine hold_out ?_
        refine' notin_memM (PP := D) (ys := ys3) (l := due) (x := part) (n := c3) ?a1 ?a2 hS3 ?a3
        case a1 => exact N5
        case a2 => (first | k_mem | (refine List.mem_append_right _ ?_; k_mem) | (refine List.mem_append_left _ ?_; k_mem))
        case a3 =>
          have e2 : addNewM due part = if due.contains part then due else due ++ [part] := rfl
          rw [if_pos rfl, e2] at e1
          cases hc : due.contains part with
          | true =>
            rw [hc, if_pos rfl] at e1
            (repeat' (first |  (k_unfold; (try dsimp only)) | (k_here; (with_reducible show wpAny _ _ (newList _) _ _ _); k_dflt (refine newList_M (by k_asm) (by k_asm) ?_; k_whole); intro D h' lL F' N' l1; (try k_lt l1); (try k_sweep)) | (k_here; (with_reducible show wpAny _ _ (eval (Expr.Name _ _) (compEnv _ _ _)) _ _ _); k_dflt (first | (refine name_locS rfl rfl rfl (by decide) (by with_reducible assumption) (by assumption) ?_; k_whole) | (refine nameG_BS rfl rfl rfl rfl (by decide) (by k_asm) (by k_asm) (by k_asm) (by k_is) (by boot_fast) (by decide) ?_; k_whole))) | (k_here; (with_reducible show wpAny _ _ (call (Value.type _) [Value.str _ _]) _ _ _); k_dflt (refine list_strN rfl (by k_asm) (by k_asm) ?_ (by rw [sizeLine_eq]; omega)); intro D9 ys9 c9 h9 tk9 F9 N9 l9 m9 hS9; (try k_lt l9); (try k_sweep)) | (k_here; (with_reducible show wpAny _ _ (compareOp CmpOp.NotEq (Value.ref _) (Value.ref _)) _ _ _); k_dflt (first | refine strs_ne_nil (by is_list) (by is_list) (by ke_room) ?_ | refine strs_ne_cons (by is_list) (by is_list) (by k_asm) (by ke_room) ?_ | refine strs_ne (by is_list) (by is_list) (by first | k_asm | exact StrsAre.nil) (by first | exact StrsAre.nil | k_asm) (by ke_room) ?_)) | (k_here; (with_reducible show wpAny _ _ (compareOp CmpOp.Eq (Value.ref _) (Value.ref _)) _ _ _); k_dflt (refine strs_eq (by is_list) (by is_list) (by first | k_asm | exact StrsAre.nil) (by first | exact StrsAre.nil | k_asm) (by ke_room) ?_)) | (k_here; (with_reducible show wpAny _ _ (call (Value.builtin _) [Value.ref _, Value.int 0 _]) _ _ _); k_dflt (refine pop_first (by k_asm) (by k_asm) (by k_upd) (by (rw [sizeLine_eq]; (try have hL9 := PyProof.Rows.StrsAre.length (by assumption)); (try simp only [List.length_cons] at *); omega)) ?_; k_whole); intro h9 F9 N9; (try k_sweep)) | (k_here; (with_reducible show wpAny _ _ (call (Value.builtin "len") [Value.str _ _]) _ _ _); refine len_str (by omega) ?_) | (k_here; (with_reducible show wpAny _ _ (call (Value.builtin "len") [Value.ref _]) _ _ _); k_dflt (refine len_strsA (by is_list) (by assumption) (by ((try simp only [List.length_map]); omega)) ?_; k_whole); (try simp only [List.length_map])) | walk1 | (dsimp only; walk1) | (dsimp only; k_unfold; (try dsimp only)) | fail "no step"))
            exact TurnTo.mk (MJ.mk (fr := fun _ m2 m3 => miFr D word tw (some (.int ((i + 1 : Nat) : Int) ti)) m2 m3) (pre := fun x => [(I, oI), x, (105, tabObj #[])]) (lst := dueIn word (i + 1) (dueL word i)) (m1 := none) (by rw [e1]; exact hS3)) F5 N5 (fun p hp => hp) (List.forall_mem_cons.mpr ⟨g1, List.forall_mem_cons.mpr ⟨g2, List.forall_mem_cons.mpr ⟨g3, List.forall_mem_nil _⟩⟩⟩)
          | false =>
            rw [hc, if_neg Bool.false_ne_true] at e1
            (repeat' (first |  (k_unfold; (try dsimp only)) | (k_here; (with_reducible show wpAny _ _ (newList _) _ _ _); k_dflt (refine newList_M (by k_asm) (by k_asm) ?_; k_whole); intro D h' lL F' N' l1; (try k_lt l1); (try k_sweep)) | (k_here; (with_reducible show wpAny _ _ (eval (Expr.Name _ _) (compEnv _ _ _)) _ _ _); k_dflt (first | (refine name_locS rfl rfl rfl (by decide) (by with_reducible assumption) (by assumption) ?_; k_whole) | (refine nameG_BS rfl rfl rfl rfl (by decide) (by k_asm) (by k_asm) (by k_asm) (by k_is) (by boot_fast) (by decide) ?_; k_whole))) | (k_here; (with_reducible show wpAny _ _ (call (Value.type _) [Value.str _ _]) _ _ _); k_dflt (refine list_strN rfl (by k_asm) (by k_asm) ?_ (by rw [sizeLine_eq]; omega)); intro D9 ys9 c9 h9 tk9 F9 N9 l9 m9 hS9; (try k_lt l9); (try k_sweep)) | (k_here; (with_reducible show wpAny _ _ (compareOp CmpOp.NotEq (Value.ref _) (Value.ref _)) _ _ _); k_dflt (first | refine strs_ne_nil (by is_list) (by is_list) (by ke_room) ?_ | refine strs_ne_cons (by is_list) (by is_list) (by k_asm) (by ke_room) ?_ | refine strs_ne (by is_list) (by is_list) (by first | k_asm | exact StrsAre.nil) (by first | exact StrsAre.nil | k_asm) (by ke_room) ?_)) | (k_here; (with_reducible show wpAny _ _ (compareOp CmpOp.Eq (Value.ref _) (Value.ref _)) _ _ _); k_dflt (refine strs_eq (by is_list) (by is_list) (by first | k_asm | exact StrsAre.nil) (by first | exact StrsAre.nil | k_asm) (by ke_room) ?_)) | (k_here; (with_reducible show wpAny _ _ (call (Value.builtin _) [Value.ref _, Value.int 0 _]) _ _ _); k_dflt (refine pop_first (by k_asm) (by k_asm) (by k_upd) (by (rw [sizeLine_eq]; (try have hL9 := PyProof.Rows.StrsAre.length (by assumption)); (try simp only [List.length_cons] at *); omega)) ?_; k_whole); intro h9 F9 N9; (try k_sweep)) | (k_here; (with_reducible show wpAny _ _ (call (Value.builtin "len") [Value.str _ _]) _ _ _); refine len_str (by omega) ?_) | (k_here; (with_reducible show wpAny _ _ (call (Value.builtin "len") [Value.ref _]) _ _ _); k_dflt (refine len_strsA (by is_list) (by assumption) (by ((try simp only [List.length_map]); omega)) ?_; k_whole); (try simp only [List.length_map])) | walk1 | (dsimp only; walk1) | (dsimp only; k_unfold; (try dsimp only)) | fail "no step"))
            refine hold_out ?_
            refine' append_K (its := List.toArray ys3) (n := c3) ?apf ?apn ?apu ?_ ?apz
            case apf => exact F5
            case apn => exact N5
            case apu => k_upd
            case apz => rw [List.size_toArray, sizeLine_eq]; omega
            intro h4 F7 N7
            try dsimp only
            rw [List.push_toArray] at N7
            (repeat' (first |  (k_unfold; (try dsimp only)) | (k_here; (with_reducible show wpAny _ _ (newList _) _ _ _); k_dflt (refine newList_M (by k_asm) (by k_asm) ?_; k_whole); intro D h' lL F' N' l1; (try k_lt l1); (try k_sweep)) | (k_here; (with_reducible show wpAny _ _ (eval (Expr.Name _ _) (compEnv _ _ _)) _ _ _); k_dflt (first | (refine name_locS rfl rfl rfl (by decide) (by with_reducible assumption) (by assumption) ?_; k_whole) | (refine nameG_BS rfl rfl rfl rfl (by decide) (by k_asm) (by k_asm) (by k_asm) (by k_is) (by boot_fast) (by decide) ?_; k_whole))) | (k_here; (with_reducible show wpAny _ _ (call (Value.type _) [Value.str _ _]) _ _ _); k_dflt (refine list_strN rfl (by k_asm) (by k_asm) ?_ (by rw [sizeLine_eq]; omega)); intro D9 ys9 c9 h9 tk9 F9 N9 l9 m9 hS9; (try k_lt l9); (try k_sweep)) | (k_here; (with_reducible show wpAny _ _ (compareOp CmpOp.NotEq (Value.ref _) (Value.ref _)) _ _ _); k_dflt (first | refine strs_ne_nil (by is_list) (by is_list) (by ke_room) ?_ | refine strs_ne_cons (by is_list) (by is_list) (by k_asm) (by ke_room) ?_ | refine strs_ne (by is_list) (by is_list) (by first | k_asm | exact StrsAre.nil) (by first | exact StrsAre.nil | k_asm) (by ke_room) ?_)) | (k_here; (with_reducible show wpAny _ _ (compareOp CmpOp.Eq (Value.ref _) (Value.ref _)) _ _ _); k_dflt (refine strs_eq (by is_list) (by is_list) (by first | k_asm | exact StrsAre.nil) (by first | exact StrsAre.nil | k_asm) (by ke_room) ?_)) | (k_here; (with_reducible show wpAny _ _ (call (Value.builtin _) [Value.ref _, Value.int 0 _]) _ _ _); k_dflt (refine pop_first (by k_asm) (by k_asm) (by k_upd) (by (rw [sizeLine_eq]; (try have hL9 := PyProof.Rows.StrsAre.length (by assumption)); (try simp only [List.length_cons] at *); omega)) ?_; k_whole); intro h9 F9 N9; (try k_sweep)) | (k_here; (with_reducible show wpAny _ _ (call (Value.builtin "len") [Value.str _ _]) _ _ _); refine len_str (by omega) ?_) | (k_here; (with_reducible show wpAny _ _ (call (Value.builtin "len") [Value.ref _]) _ _ _); k_dflt (refine len_strsA (by is_list) (by assumption) (by ((try simp only [List.length_map]); omega)) ?_; k_whole); (try simp only [List.length_map])) | walk1 | (dsimp only; walk1) | (dsimp only; k_unfold; (try dsimp only)) | fail "no step"))
            exact TurnTo.mk (MJ.mk (fr := fun _ m2 m3 => miFr D word tw (some (.int ((i + 1 : Nat) : Int) ti)) m2 m3) (pre := fun x => [(I, oI), x, (105, tabObj #[])]) (lst := dueIn word (i + 1) (dueL word i)) (m1 := none) (by rw [e1]; exact strs_snocM hS3)) F7 N7 (fun p hp => hp) (List.forall_mem_cons.mpr ⟨g1, List.forall_mem_cons.mpr ⟨g2, List.forall_mem_cons.mpr ⟨g3, List.forall_mem_nil _⟩⟩⟩)

end
section
theorem inB_infix {p g : List Nat} : inB p g = true ↔ p <:+: g := by
  rw [inB_iff]
  constructor
  · rintro ⟨i, _, h⟩
    refine ⟨g.take i, (g.drop i).drop p.length, ?_⟩
    have h2 := List.take_append_drop p.length (g.drop i)
    rw [h] at h2
    rw [List.append_assoc, h2, List.take_append_drop]
  · rintro ⟨s, t, rfl⟩
    refine ⟨s.length, by simp, ?_⟩
    rw [List.append_assoc, List.drop_left, List.take_left]
theorem inner_snoc (a b : Nat) (l : List Nat) : inner (a :: l ++ [b]) = l := by
  unfold inner
  simp
/-- a word of two letters and more is its inside between two letters -/
theorem ends_of {r : List Nat} (h : 2 ≤ r.length) : ∃ a b, r = a :: inner r ++ [b] := by
  match r, h with
  | a :: l, h =>
    have hl : l ≠ [] := by intro e; subst e; simp at h
    refine ⟨a, l.getLast hl, ?_⟩
    have e : a :: l = a :: l.dropLast ++ [l.getLast hl] := by rw [List.cons_append, List.dropLast_concat_getLast hl]
    have e2 : inner (a :: l) = l.dropLast := by
      rw [e]; exact inner_snoc _ _ _
    rw [e2]; exact e
theorem inner_reverse {r : List Nat} : inner r.reverse = (inner r).reverse := by
  by_cases h : 2 ≤ r.length
  · obtain ⟨a, b, e⟩ := ends_of h
    generalize inner r = l at e
    subst e
    have : (a :: l ++ [b]).reverse = b :: l.reverse ++ [a] := by simp
    rw [this, inner_snoc]
  · match r, h with
    | [], _ => rfl
    | [a], _ => rfl
    | _ :: _ :: _, h => exact absurd (by simp) h
theorem infix_inner_reverse {q r : List Nat} (hq : q.reverse = q) : q <:+: inner r.reverse ↔ q <:+: inner r := by
  rw [inner_reverse]
  constructor
  · intro h
    have := List.reverse_infix.mpr h
    rwa [List.reverse_reverse, hq] at this
  · intro h
    have := List.reverse_infix.mpr h
    rwa [hq] at this
/-- a return of q: q at both ends and nowhere inside -/
def Ret (q r : List Nat) : Prop := q.length < r.length ∧ q <+: r ∧ q <:+ r ∧ ¬ q <:+: inner r
theorem retOf_iff {q r : List Nat} : retOf r q = true ↔ Ret q r := by
  unfold retOf Ret
  rw [Bool.and_eq_true, Bool.and_eq_true, Bool.and_eq_true, decide_eq_true_iff, List.isPrefixOf_iff_prefix, List.isSuffixOf_iff_suffix, Bool.not_eq_true', ← Bool.not_eq_true, inB_infix]
theorem Ret.rev {q r : List Nat} (hq : q.reverse = q) (h : Ret q r) : Ret q r.reverse := by
  obtain ⟨h1, h2, h3, h4⟩ := h
  refine ⟨by rw [List.length_reverse]; exact h1, ?_, ?_, fun h => h4 ((infix_inner_reverse hq).mp h)⟩
  · rw [← hq]; exact List.reverse_prefix.mpr h3
  · rw [← hq]; exact List.reverse_suffix.mpr h2
/-- the longest mirror at a word's end -/
theorem longest_suffix (P : List Nat → Prop) {u : List Nat} : (∃ q, q <:+ u ∧ P q) → ∃ q, q <:+ u ∧ P q ∧ ∀ q', q' <:+ u → P q' → q'.length ≤ q.length := by
  intro h
  have : ∀ n, (∃ q, q <:+ u ∧ P q ∧ u.length - q.length = n) → ∃ q, q <:+ u ∧ P q ∧ ∀ q', q' <:+ u → P q' → q'.length ≤ q.length := by
    intro n
    induction n using Nat.strongRecOn with
    | _ n ih =>
      rintro ⟨q, h1, h2, h3⟩
      by_cases hx : ∃ q', q' <:+ u ∧ P q' ∧ q.length < q'.length
      · obtain ⟨q', a1, a2, a3⟩ := hx
        have := a1.length_le
        exact ih (u.length - q'.length) (by omega) ⟨q', a1, a2, rfl⟩
      · refine ⟨q, h1, h2, fun q' a1 a2 => ?_⟩
        by_cases hl : q'.length ≤ q.length
        · exact hl
        · exact absurd ⟨q', a1, a2, by omega⟩ hx
  obtain ⟨q, h1, h2⟩ := h
  exact this _ ⟨q, h1, h2, rfl⟩
theorem shortest_suffix (P : List Nat → Prop) {u : List Nat} : (∃ q, q <:+ u ∧ P q) → ∃ q, q <:+ u ∧ P q ∧ ∀ q', q' <:+ u → P q' → q.length ≤ q'.length := by
  intro h
  have : ∀ n, (∃ q, q <:+ u ∧ P q ∧ q.length = n) → ∃ q, q <:+ u ∧ P q ∧ ∀ q', q' <:+ u → P q' → q.length ≤ q'.length := by
    intro n
    induction n using Nat.strongRecOn with
    | _ n ih =>
      rintro ⟨q, h1, h2, h3⟩
      by_cases hx : ∃ q', q' <:+ u ∧ P q' ∧ q'.length < q.length
      · obtain ⟨q', a1, a2, a3⟩ := hx
        exact ih q'.length (by omega) ⟨q', a1, a2, rfl⟩
      · refine ⟨q, h1, h2, fun q' a1 a2 => ?_⟩
        by_cases hl : q.length ≤ q'.length
        · exact hl
        · exact absurd ⟨q', a1, a2, by omega⟩ hx
  obtain ⟨q, h1, h2⟩ := h
  exact this _ ⟨q, h1, h2, rfl⟩
theorem suffix_snoc {q u : List Nat} {a : Nat} (hq : q ≠ []) (h : q <:+ u ++ [a]) : ∃ q', q = q' ++ [a] ∧ q' <:+ u := by
  obtain ⟨s, e⟩ := h
  have hd := List.dropLast_concat_getLast hq
  have hl : q.getLast hq = a := by
    have h1 : (s ++ q).getLast (by simp [hq]) = a := by simp [e]
    rw [List.getLast_append_of_ne_nil _ hq] at h1
    exact h1
  rw [hl] at hd
  refine ⟨q.dropLast, hd.symm, s, ?_⟩
  rw [← hd, ← List.append_assoc] at e
  exact List.append_cancel_right e
theorem infix_snoc {q u : List Nat} {a : Nat} : q <:+: u ++ [a] ↔ q <:+: u ∨ q <:+ u ++ [a] := by
  constructor
  · rintro ⟨s, t, e⟩
    by_cases ht : t = []
    · subst ht
      exact .inr ⟨s, by simpa using e⟩
    · have hd := List.dropLast_concat_getLast ht
      rw [← hd, ← List.append_assoc] at e
      have e2 := List.append_inj_left' e rfl
      exact .inl ⟨s, t.dropLast, e2⟩
  · rintro (h | h)
    · exact h.trans (List.prefix_append u [a]).isInfix
    · exact h.isInfix
theorem suffix_of_le {p q u : List Nat} (hp : p <:+ u) (hq : q <:+ u) (h : p.length ≤ q.length) : p <:+ q := List.suffix_of_suffix_length_le hp hq h
/-- a mirror at the end of a longer mirror stands at its head too -/
theorem pal_prefix {p q : List Nat} (hp : p.reverse = p) (hq : q.reverse = q) (h : p <:+ q) : p <+: q := by
  rw [← hp, ← hq]; exact List.reverse_prefix.mpr h
/-- q at the head of s, and s a shorter end of r that q ends too: q stands inside r -/
theorem inside {q s r : List Nat} (h1 : q <+: s) (h2 : s <:+ r) (hl : q.length < s.length) (hr : s.length < r.length) : q <:+: inner r := by
  obtain ⟨b, rfl⟩ := h1
  obtain ⟨a, rfl⟩ := h2
  have ha : a ≠ [] := by rintro rfl; simp at hr
  have hb : b ≠ [] := by rintro rfl; simp at hl
  obtain ⟨x, a', rfl⟩ := List.exists_cons_of_ne_nil ha
  have hd := List.dropLast_concat_getLast hb
  have : x :: a' ++ (q ++ b) = x :: (a' ++ q ++ b.dropLast) ++ [b.getLast hb] := by
    conv => lhs; rw [← hd]
    simp
  rw [this, inner_snoc]
  exact ⟨a', b.dropLast, rfl⟩
/-- the new mirrors of a word one letter longer: at most one -/
theorem new_one {u p q : List Nat} {a : Nat} (hp : p.reverse = p) (hq : q.reverse = q) (p1 : p <:+: u ++ [a]) (p2 : ¬ p <:+: u) (q1 : q <:+: u ++ [a]) (q2 : ¬ q <:+: u) : p = q := by
  have key : ∀ {p q : List Nat}, p.reverse = p → q.reverse = q → p <:+ u ++ [a] → ¬ p <:+: u → q <:+ u ++ [a] → p.length < q.length → False := by
    intro p q hp hq p1 p2 q1 hl
    have h1 := pal_prefix hp hq (suffix_of_le p1 q1 (Nat.le_of_lt hl))
    have hqn : q ≠ [] := by rintro rfl; simp at hl
    obtain ⟨q', rfl, hq'⟩ := suffix_snoc hqn q1
    have h2 : p <+: q' := by
      rw [List.prefix_concat_iff] at h1
      rcases h1 with rfl | h1
      · simp at hl
      · exact h1
    exact p2 (h2.isInfix.trans hq'.isInfix)
  have hp1 := (infix_snoc.mp p1).resolve_left p2
  have hq1 := (infix_snoc.mp q1).resolve_left q2
  rcases Nat.lt_trichotomy p.length q.length with h | h | h
  · exact (key hp hq hp1 p2 hq1 h).elim
  · have := suffix_of_le hp1 hq1 (Nat.le_of_eq h)
    exact this.eq_of_length h
  · exact (key hq hp hq1 q2 hp1 h).elim
def NewPal (u : List Nat) (a : Nat) (p : List Nat) : Prop := p.reverse = p ∧ p <:+ u ++ [a] ∧ ¬ p <:+: u
/-- no new mirror: a return that is none -/
theorem bad_of_none {u : List Nat} {a : Nat} (h : ¬ ∃ p, p ≠ [] ∧ NewPal u a p) : ∃ q r, q ≠ [] ∧ q.reverse = q ∧ q <:+: u ∧ r <:+ u ++ [a] ∧ r.reverse ≠ r ∧ Ret q r := by
  obtain ⟨q, ⟨q1, ⟨q2, q3⟩, q4⟩⟩ := longest_suffix (fun q => q ≠ [] ∧ q.reverse = q) (u := u ++ [a]) ⟨[a], List.suffix_append u [a], by simp, rfl⟩
  have q5 : q <:+: u := by
    by_cases x : q <:+: u
    · exact x
    · exact absurd ⟨q, q2, q3, q1, x⟩ h
  obtain ⟨s, t, e⟩ := q5
  obtain ⟨r, r1, ⟨r2, r3⟩, r4⟩ := shortest_suffix (fun r => q.length < r.length ∧ q <+: r) (u := u ++ [a]) ⟨q ++ t ++ [a], ⟨s, by rw [← e]; simp⟩, by simp, ⟨t ++ [a], by simp⟩⟩
  have r5 : q <:+ r := suffix_of_le q1 r1 (Nat.le_of_lt r2)
  refine ⟨q, r, q2, q3, ⟨s, t, e⟩, r1, fun hr => ?_, r2, r3, r5, ?_⟩
  · have := q4 r r1 ⟨by rintro rfl; simp at r2, hr⟩
    omega
  · rintro ⟨x, y, e2⟩
    have hl : 2 ≤ r.length := by
      have : 0 < q.length := List.length_pos_iff.mpr q2
      omega
    obtain ⟨b, c, e3⟩ := ends_of hl
    rw [← e2] at e3
    have h1 : q ++ y ++ [c] <:+ r := ⟨b :: x, by rw [e3]; simp⟩
    have h2 := r4 (q ++ y ++ [c]) (h1.trans r1) ⟨by simp, ⟨y ++ [c], by simp⟩⟩
    have h3 := congrArg List.length e3
    simp at h2 h3
    omega
/-- every letter brings a new mirror: each return is a mirror -/
theorem none_bad {word : List Nat} : ∀ (n : Nat), (∀ m, m < n → ∀ (hm : m < word.length), ∃ p, p ≠ [] ∧ NewPal (word.take m) word[m] p) → n ≤ word.length → ∀ q r, q ≠ [] → q.reverse = q → r <:+ word.take n → Ret q r → r.reverse = r := by
  intro n
  induction n using Nat.strongRecOn with
  | _ n ih =>
    intro hN hn q r q1 q2 r1 hR
    by_cases hr : r.reverse = r
    · exact hr
    exfalso
    have hR' := hR
    obtain ⟨l1, l2, l3, l4⟩ := hR
    have hq0 : 0 < q.length := List.length_pos_iff.mpr q1
    have hrl := r1.length_le
    rw [List.length_take] at hrl
    obtain ⟨m, rfl⟩ : ∃ m, n = m + 1 := ⟨n - 1, by omega⟩
    have hm : m < word.length := by omega
    have et : word.take (m + 1) = word.take m ++ [word[m]] := by rw [List.take_add_one, List.getElem?_eq_getElem hm]; rfl
    obtain ⟨s, s0, s1, s2, s3⟩ := hN m (by omega) hm
    rw [← et] at s2
    have hrn : r ≠ [] := by rintro rfl; simp at l1
    have q5 : q <:+: word.take m := by
      obtain ⟨t, e⟩ := l2
      rw [et] at r1
      obtain ⟨r', e2, r2⟩ := suffix_snoc hrn r1
      rw [← e] at e2
      have htn : t ≠ [] := by rintro rfl; rw [← e] at l1; simp at l1
      have : q <+: r' := by
        have : q <+: r' ++ [word[m]] := ⟨t, e2⟩
        rw [List.prefix_concat_iff] at this
        rcases this with h | h
        · exfalso
          rw [← h] at e2
          have := congrArg List.length e2
          simp at this
          exact htn this
        · exact h
      exact this.isInfix.trans r2.isInfix
    have qs : q <:+ word.take (m + 1) := l3.trans r1
    by_cases h1 : s.length ≤ q.length
    · exact s3 ((suffix_of_le s2 qs h1).isInfix.trans q5)
    · have hqs : q <+: s := pal_prefix q2 s1 (suffix_of_le qs s2 (by omega))
      by_cases h2 : s.length < r.length
      · exact l4 (inside hqs (suffix_of_le s2 r1 (by omega)) (by omega) h2)
      · have hrs : r <:+ s := suffix_of_le r1 s2 (by omega)
        by_cases h3 : s.length = r.length
        · have : r = s := hrs.eq_of_length h3.symm
          rw [this] at hr
          exact hr s1
        · have hpre : r.reverse <+: s := by
            have := List.reverse_prefix.mpr hrs
            rwa [s1] at this
          obtain ⟨t, e⟩ := hpre
          obtain ⟨x, e2⟩ := s2
          have hxl : x.length + s.length = m + 1 := by
            have := congrArg List.length e2
            rw [List.length_append, List.length_take] at this
            omega
          have hlen : x.length + r.length < m + 1 := by omega
          have hpre2 : x ++ r.reverse <+: word := by
            refine List.IsPrefix.trans ⟨t, ?_⟩ (List.take_prefix (m + 1) word)
            rw [List.append_assoc, e, e2]
          have e3 : x ++ r.reverse = word.take (x.length + r.length) := by
            rw [List.prefix_iff_eq_take] at hpre2
            rw [List.length_append, List.length_reverse] at hpre2
            exact hpre2
          have := ih (x.length + r.length) hlen (fun m' hm' hw => hN m' (by omega) hw) (by omega) q r.reverse q1 q2 ⟨x, e3⟩ (hR'.rev q2)
          rw [List.reverse_reverse] at this
          exact hr this.symm

end
section
/-- the letters of a word, as the law finds them: rising, each once -/
structure Lets (fs : List Nat) (word : List Nat) : Prop where
  up : fs.Pairwise (· < ·)
  all : ∀ c, c ∈ fs ↔ c ∈ word
def kidsL (fs : List Nat) (word p : List Nat) : List (List Nat) := (fs.map fun c => c :: (p ++ [c])).filter (fun x => inB x word)
/-- the words heard and the words waiting -/
structure BInv (fs word : List Nat) (heard q : List (List Nat)) : Prop where
  sorted : (heard ++ q).Pairwise KeyLt
  sound : ∀ x ∈ heard ++ q, x ∈ dueL word word.length
  orig : ∀ x ∈ heard ++ q, x.length ≤ 2 ∨ ∃ p ∈ heard, ∃ c, x = c :: (p ++ [c])
  short : ∀ x ∈ dueL word word.length, x.length ≤ 2 → x ∈ heard ++ q
  kids : ∀ p ∈ heard, ∀ c, c :: (p ++ [c]) ∈ dueL word word.length → c :: (p ++ [c]) ∈ heard ++ q
theorem half_cons (c : Nat) (p : List Nat) : (c :: (p ++ [c])).drop ((c :: (p ++ [c])).length / 2) = p.drop (p.length / 2) ++ [c] := by
  have h : (c :: (p ++ [c])).length / 2 = p.length / 2 + 1 := by simp; omega
  rw [h, List.drop_succ_cons, List.drop_append_of_le_length (by omega)]
theorem app_lt {a b : List Nat} {c d : Nat} (hl : a.length = b.length) (h : a < b ∨ (a = b ∧ c < d)) : a ++ [c] < b ++ [d] := by
  induction a generalizing b with
  | nil =>
    cases b with
    | nil =>
      rcases h with h | ⟨_, h⟩
      · exact absurd h (List.lt_irrefl _)
      · exact List.cons_lt_cons_iff.mpr (.inl h)
    | cons _ _ => simp at hl
  | cons x a ih =>
    cases b with
    | nil => simp at hl
    | cons y b =>
      simp only [List.length_cons, Nat.add_right_cancel_iff] at hl
      rw [List.cons_append, List.cons_append]
      refine List.cons_lt_cons_iff.mpr ?_
      rcases h with h | ⟨h, hc⟩
      · rcases List.cons_lt_cons_iff.mp h with h | ⟨h1, h2⟩
        · exact .inl h
        · exact .inr ⟨h1, ih hl (.inl h2)⟩
      · simp only [List.cons.injEq] at h
        exact .inr ⟨h.1, ih hl (.inr ⟨h.2, hc⟩)⟩
theorem kid_lt {p p' : List Nat} {c c' : Nat} (h : KeyLt p p' ∨ (p = p' ∧ c < c')) : KeyLt (c :: (p ++ [c])) (c' :: (p' ++ [c'])) := by
  rcases h with (h | ⟨h1, h2⟩) | ⟨rfl, h⟩
  · left; simp; omega
  · right
    refine ⟨by simp; omega, ?_⟩
    rw [half_cons, half_cons]
    exact app_lt (by simp; omega) (.inl h2)
  · right
    refine ⟨by simp, ?_⟩
    rw [half_cons, half_cons]
    exact app_lt rfl (.inr ⟨rfl, h⟩)
theorem kid_due {word p : List Nat} {c : Nat} (hp : p ∈ dueL word word.length) (h : c :: (p ++ [c]) <:+: word) : c :: (p ++ [c]) ∈ dueL word word.length := by
  obtain ⟨h1, h2, _⟩ := mem_due.mp hp
  exact mem_due.mpr ⟨by simp, by simp [h2], h⟩
theorem mem_kids {fs word p x : List Nat} (hF : Lets fs word) : x ∈ kidsL fs word p ↔ ∃ c, x = c :: (p ++ [c]) ∧ x <:+: word := by
  unfold kidsL
  rw [List.mem_filter, List.mem_map]
  constructor
  · rintro ⟨⟨c, _, rfl⟩, h⟩
    exact ⟨c, rfl, inB_infix.mp h⟩
  · rintro ⟨c, rfl, h⟩
    refine ⟨⟨c, (hF.all c).mpr ?_, rfl⟩, inB_infix.mpr h⟩
    exact h.subset (.head _)
theorem kids_up {fs word p : List Nat} (hF : Lets fs word) : (kidsL fs word p).Pairwise KeyLt := by
  unfold kidsL
  refine List.Pairwise.filter _ ?_
  rw [List.pairwise_map]
  exact hF.up.imp fun h => kid_lt (.inr ⟨rfl, h⟩)
theorem BInv.step {fs word : List Nat} {heard q : List (List Nat)} {g : List Nat} (hF : Lets fs word) (h : BInv fs word heard (g :: q)) : BInv fs word (heard ++ [g]) (q ++ kidsL fs word g) := by
  have hg : g ∈ dueL word word.length := h.sound g (by simp)
  have hgp := mem_due.mp hg
  have e : heard ++ [g] ++ (q ++ kidsL fs word g) = (heard ++ g :: q) ++ kidsL fs word g := by simp
  refine ⟨?_, ?_, ?_, ?_, ?_⟩
  · rw [e, List.pairwise_append]
    refine ⟨h.sorted, kids_up hF, fun x hx y hy => ?_⟩
    obtain ⟨c, rfl, _⟩ := (mem_kids hF).mp hy
    have hg0 : 0 < g.length := List.length_pos_iff.mpr hgp.1
    rcases h.orig x hx with h1 | ⟨p, hp, c', rfl⟩
    · left; simp; omega
    · refine kid_lt (.inl ?_)
      exact (List.pairwise_append.mp h.sorted).2.2 p hp g (.head _)
  · intro x hx
    rw [e] at hx
    rcases List.mem_append.mp hx with hx | hx
    · exact h.sound x hx
    · obtain ⟨c, rfl, h1⟩ := (mem_kids hF).mp hx
      exact kid_due hg h1
  · intro x hx
    rw [e] at hx
    rcases List.mem_append.mp hx with hx | hx
    · rcases h.orig x hx with h1 | ⟨p, hp, c, rfl⟩
      · exact .inl h1
      · exact .inr ⟨p, List.mem_append_left _ hp, c, rfl⟩
    · obtain ⟨c, rfl, h1⟩ := (mem_kids hF).mp hx
      exact .inr ⟨g, by simp, c, rfl⟩
  · intro x hx hl
    rw [e]
    exact List.mem_append_left _ (h.short x hx hl)
  · intro p hp c hc
    rw [e]
    rcases List.mem_append.mp hp with hp | hp
    · exact List.mem_append_left _ (h.kids p hp c hc)
    · rw [List.mem_singleton.mp hp] at hc ⊢
      exact List.mem_append_right _ ((mem_kids hF).mpr ⟨c, rfl, (mem_due.mp hc).2.2⟩)
theorem BInv.full {fs word : List Nat} {heard : List (List Nat)} (h : BInv fs word heard []) : ∀ x, x ∈ heard ↔ x ∈ dueL word word.length := by
  have key : ∀ n (x : List Nat), x.length = n → x ∈ dueL word word.length → x ∈ heard := by
    intro n
    induction n using Nat.strongRecOn with
    | _ n ih =>
      intro x hx hd
      by_cases hl : x.length ≤ 2
      · have := h.short x hd hl
        simpa using this
      · obtain ⟨h1, h2, h3⟩ := mem_due.mp hd
        obtain ⟨a, b, e⟩ := ends_of (r := x) (by omega)
        have hab : a = b := by
          rw [e] at h2
          simp at h2
          exact h2.1.symm
        subst hab
        have hi : (inner x).reverse = inner x := by
          rw [e] at h2
          simpa using h2
        have hil : (inner x).length = x.length - 2 := by
          have h9 := congrArg List.length e
          rw [List.length_append, List.length_cons, List.length_singleton] at h9
          omega
        have hin : inner x ∈ heard := by
          refine ih (inner x).length (by omega) (inner x) rfl (mem_due.mpr ⟨?_, hi, ?_⟩)
          · intro e2
            have h0 : (inner x).length = 0 := by rw [e2]; rfl
            omega
          · refine List.IsInfix.trans ⟨[a], [a], ?_⟩ h3
            rw [e, inner_snoc]; rfl
        have hx' : x = a :: (inner x ++ [a]) := e
        have := h.kids _ hin a (hx' ▸ hd)
        rw [← hx'] at this
        simpa using this
  intro x
  exact ⟨fun hx => h.sound x (by simpa using hx), fun hx => key _ x rfl hx⟩
theorem nodup_sub_len {l m : List (List Nat)} (hl : l.Nodup) (h : ∀ x ∈ l, x ∈ m) : l.length ≤ m.length := by
  induction l generalizing m with
  | nil => exact Nat.zero_le _
  | cons a l ih =>
    have ha := h a (.head _)
    have hn := List.nodup_cons.mp hl
    have := ih (m := m.erase a) hn.2 fun x hx => by
      have hne : x ≠ a := fun e => hn.1 (e ▸ hx)
      exact (List.mem_erase_of_ne hne).mpr (h x (.tail _ hx))
    rw [List.length_erase_of_mem ha] at this
    have hp : 0 < m.length := List.length_pos_of_mem ha
    simp only [List.length_cons]
    omega
theorem sorted_nodup {l : List (List Nat)} (h : l.Pairwise KeyLt) : l.Nodup := h.imp fun {a b} q e => by subst e; exact q.asymm q
theorem BInv.len {fs word : List Nat} {heard q : List (List Nat)} (h : BInv fs word heard q) (hw : word.length ≤ 7) : heard.length + q.length ≤ 49 := by
  have := nodup_sub_len (sorted_nodup h.sorted) h.sound
  have h2 := dueL_len word word.length hw
  rw [List.length_append] at this
  omega
theorem sorted_unique {l m : List (List Nat)} (hl : l.Pairwise KeyLt) (hm : m.Pairwise KeyLt) (h : ∀ x, x ∈ l ↔ x ∈ m) : l = m := by
  induction l generalizing m with
  | nil =>
    cases m with
    | nil => rfl
    | cons b m => exact absurd ((h b).mpr (.head _)) (fun h => nomatch h)
  | cons a l ih =>
    cases m with
    | nil => exact absurd ((h a).mp (.head _)) (fun h => nomatch h)
    | cons b m =>
      obtain ⟨a1, a2⟩ := List.pairwise_cons.mp hl
      obtain ⟨b1, b2⟩ := List.pairwise_cons.mp hm
      have hab : a = b := by
        rcases List.mem_cons.mp ((h a).mp (.head _)) with e | h1
        · exact e
        · rcases List.mem_cons.mp ((h b).mpr (.head _)) with e | h2
          · exact e.symm
          · exact absurd (a1 b h2) (b1 a h1).asymm
      subst hab
      congr 1
      refine ih a2 b2 fun x => ⟨fun hx => ?_, fun hx => ?_⟩
      · rcases List.mem_cons.mp ((h x).mp (.tail _ hx)) with e | h1
        · subst e; exact absurd (a1 _ hx) (fun q => q.asymm q)
        · exact h1
      · rcases List.mem_cons.mp ((h x).mpr (.tail _ hx)) with e | h1
        · subst e; exact absurd (b1 _ hx) (fun q => q.asymm q)
        · exact h1
theorem heard_is {fs word : List Nat} {heard l : List (List Nat)} (h : BInv fs word heard []) (hp : l.Perm (dueL word word.length)) (hs : l.Pairwise KeyLt) : heard = l := by
  refine sorted_unique (by simpa using h.sorted) hs fun x => (h.full x).trans hp.mem_iff.symm
/-- the first words pushed: the letters, and the letters doubled -/
def startL (fs word : List Nat) : List (List Nat) := (fs.map fun c => [c]).filter (fun x => inB x word) ++ (fs.map fun c => [c, c]).filter (fun x => inB x word)
theorem BInv.start {fs word : List Nat} (hF : Lets fs word) : BInv fs word [] (startL fs word) := by
  have m1 : ∀ x, x ∈ startL fs word ↔ (∃ c, (x = [c] ∨ x = [c, c]) ∧ x <:+: word) := by
    intro x
    unfold startL
    rw [List.mem_append, List.mem_filter, List.mem_filter, List.mem_map, List.mem_map]
    constructor
    · rintro (⟨⟨c, _, rfl⟩, h⟩ | ⟨⟨c, _, rfl⟩, h⟩)
      · exact ⟨c, .inl rfl, inB_infix.mp h⟩
      · exact ⟨c, .inr rfl, inB_infix.mp h⟩
    · rintro ⟨c, rfl | rfl, h⟩
      · exact .inl ⟨⟨c, (hF.all c).mpr (h.subset (.head _)), rfl⟩, inB_infix.mpr h⟩
      · exact .inr ⟨⟨c, (hF.all c).mpr (h.subset (.head _)), rfl⟩, inB_infix.mpr h⟩
  refine ⟨?_, ?_, ?_, ?_, fun p hp => nomatch hp⟩
  · rw [List.nil_append]
    unfold startL
    rw [List.pairwise_append]
    refine ⟨List.Pairwise.filter _ ?_, List.Pairwise.filter _ ?_, ?_⟩
    · rw [List.pairwise_map]
      exact hF.up.imp fun {a b} h => .inr ⟨rfl, by simp; exact List.cons_lt_cons_iff.mpr (.inl h)⟩
    · rw [List.pairwise_map]
      exact hF.up.imp fun {a b} h => .inr ⟨rfl, by simp; exact List.cons_lt_cons_iff.mpr (.inl h)⟩
    · intro x hx y hy
      rw [List.mem_filter, List.mem_map] at hx hy
      obtain ⟨⟨c, _, rfl⟩, _⟩ := hx
      obtain ⟨⟨d, _, rfl⟩, _⟩ := hy
      exact .inl (by simp)
  · intro x hx
    rw [List.nil_append] at hx
    obtain ⟨c, rfl | rfl, h⟩ := (m1 x).mp hx
    · exact mem_due.mpr ⟨by simp, rfl, h⟩
    · exact mem_due.mpr ⟨by simp, rfl, h⟩
  · intro x hx
    rw [List.nil_append] at hx
    obtain ⟨c, rfl | rfl, h⟩ := (m1 x).mp hx
    · exact .inl (by simp)
    · exact .inl (by simp)
  · intro x hx hl
    rw [List.nil_append]
    obtain ⟨h1, h2, h3⟩ := mem_due.mp hx
    rw [m1]
    match x, h1, h2, hl, h3 with
    | [c], _, _, _, h3 => exact ⟨c, .inl rfl, h3⟩
    | [c, d], _, h2, _, h3 =>
      simp at h2
      obtain ⟨rfl, _⟩ := h2
      exact ⟨_, .inr rfl, h3⟩

end
section
def badP (ms : List (List Nat)) (part : List Nat) : Bool := (part.reverse != part) && returnsL ms part
def fullIn (word : List Nat) (ms : List (List Nat)) (stop : Nat) (b : Bool) : Nat → Bool
  | 0 => b
  | j + 1 => if badP ms ((word.drop j).take (stop - j)) then false else fullIn word ms stop b j
def fullL (word : List Nat) (ms : List (List Nat)) : Nat → Bool
  | 0 => true
  | i + 1 => fullIn word ms (i + 1) (fullL word ms i) (i + 1)
def countL (ms : List (List Nat)) (u : List Nat) : Nat := (ms.filter fun one => inB one u).length
theorem fullIn_iff {word : List Nat} {ms : List (List Nat)} {stop : Nat} {b : Bool} : ∀ j, fullIn word ms stop b j = true ↔ b = true ∧ ∀ i, i < j → badP ms ((word.drop i).take (stop - i)) = false
  | 0 => ⟨fun h => ⟨h, fun i hi => absurd hi (Nat.not_lt_zero _)⟩, fun h => h.1⟩
  | j + 1 => by
    have ih := fullIn_iff (word := word) (ms := ms) (stop := stop) (b := b) j
    unfold fullIn
    cases hb : badP ms ((word.drop j).take (stop - j)) with
    | true =>
      rw [if_pos rfl]
      constructor
      · intro h; exact absurd h (by decide)
      · rintro ⟨_, h⟩
        have := h j (Nat.lt_succ_self _)
        rw [hb] at this
        exact absurd this (by decide)
    | false =>
      rw [if_neg Bool.false_ne_true, ih]
      constructor
      · rintro ⟨h1, h2⟩
        refine ⟨h1, fun i hi => ?_⟩
        by_cases e : i = j
        · subst e; exact hb
        · exact h2 i (by omega)
      · rintro ⟨h1, h2⟩
        exact ⟨h1, fun i hi => h2 i (by omega)⟩
theorem fullL_iff {word : List Nat} {ms : List (List Nat)} : ∀ n, fullL word ms n = true ↔ ∀ stop start, start < stop → stop ≤ n → badP ms ((word.drop start).take (stop - start)) = false
  | 0 => ⟨fun _ a b h1 h2 => by omega, fun _ => rfl⟩
  | n + 1 => by
    unfold fullL
    rw [fullIn_iff, fullL_iff n]
    constructor
    · rintro ⟨h1, h2⟩ stop start h3 h4
      by_cases e : stop = n + 1
      · subst e; exact h2 start h3
      · exact h1 stop start h3 (by omega)
    · intro h
      exact ⟨fun stop start h3 h4 => h stop start h3 (by omega), fun i hi => h (n + 1) i hi (Nat.le_refl _)⟩
theorem filter_split {f g : List Nat → Bool} (h : ∀ x, g x = true → f x = true) : ∀ l : List (List Nat), (l.filter f).length = (l.filter g).length + (l.filter fun x => f x && !g x).length
  | [] => rfl
  | a :: l => by
    have ih := filter_split h l
    rw [List.filter_cons, List.filter_cons, List.filter_cons]
    cases hg : g a with
    | true =>
      rw [h a hg]
      simp
      omega
    | false =>
      cases hf : f a with
      | true => simp; omega
      | false => simp; omega
theorem nodup_one {l : List (List Nat)} (hn : l.Nodup) (h : ∀ x ∈ l, ∀ y ∈ l, x = y) : l.length ≤ 1 := by
  match l, hn, h with
  | [], _, _ => simp
  | [_], _, _ => simp
  | a :: b :: r, hn, h =>
    have := h a (.head _) b (.tail _ (.head _))
    subst this
    exact absurd (List.Mem.head _) (List.nodup_cons.mp hn).1
/-- the mirrors that the next letter brings -/
def newOf (ms : List (List Nat)) (word : List Nat) (m : Nat) : List (List Nat) := ms.filter fun x => inB x (word.take (m + 1)) && !inB x (word.take m)
theorem inB_take {x word : List Nat} {m : Nat} (h : inB x (word.take m) = true) : inB x (word.take (m + 1)) = true := by
  rw [inB_infix] at h ⊢
  refine h.trans ?_
  rw [List.take_add_one]
  exact (List.prefix_append _ _).isInfix
theorem count_succ (ms : List (List Nat)) (word : List Nat) (m : Nat) : countL ms (word.take (m + 1)) = countL ms (word.take m) + (newOf ms word m).length := filter_split (fun _ h => inB_take h) ms
section
variable {word : List Nat} {ms : List (List Nat)}
theorem mem_newOf (hm : ∀ x, x ∈ ms ↔ x ∈ dueL word word.length) {m : Nat} (h : m < word.length) {p : List Nat} : p ∈ newOf ms word m ↔ p ≠ [] ∧ NewPal (word.take m) word[m] p := by
  have et : word.take (m + 1) = word.take m ++ [word[m]] := by rw [List.take_add_one, List.getElem?_eq_getElem h]; rfl
  unfold newOf NewPal
  rw [List.mem_filter, hm, mem_due, Bool.and_eq_true, inB_infix, et, Bool.not_eq_true', ← Bool.not_eq_true, inB_infix]
  constructor
  · rintro ⟨⟨h1, h2, h3⟩, h4, h5⟩
    exact ⟨h1, h2, (infix_snoc.mp h4).resolve_left h5, h5⟩
  · rintro ⟨h1, h2, h3, h4⟩
    refine ⟨⟨h1, h2, h3.isInfix.trans ?_⟩, h3.isInfix, h4⟩
    rw [← et]
    exact (List.take_prefix _ _).isInfix
theorem new_le (hn : ms.Nodup) (hm : ∀ x, x ∈ ms ↔ x ∈ dueL word word.length) {m : Nat} (h : m < word.length) : (newOf ms word m).length ≤ 1 := by
  refine nodup_one (hn.sublist List.filter_sublist) fun x hx y hy => ?_
  obtain ⟨_, h1, h2, h3⟩ := (mem_newOf hm h).mp hx
  obtain ⟨_, h4, h5, h6⟩ := (mem_newOf hm h).mp hy
  exact new_one h1 h4 h2.isInfix h3 h5.isInfix h6
theorem count_le (hn : ms.Nodup) (hm : ∀ x, x ∈ ms ↔ x ∈ dueL word word.length) : ∀ n, n ≤ word.length → countL ms (word.take n) ≤ n ∧ (countL ms (word.take n) = n ↔ ∀ m, m < n → newOf ms word m ≠ [])
  | 0, _ => by
    have h0 : countL ms (word.take 0) = 0 := by
      unfold countL
      rw [List.length_eq_zero_iff, List.filter_eq_nil_iff]
      intro x hx h
      rw [List.take_zero, inB_infix] at h
      have h1 := (mem_due.mp ((hm x).mp hx)).1
      exact h1 (List.eq_nil_of_infix_nil h)
    rw [h0]
    exact ⟨Nat.le_refl _, fun _ m hm => absurd hm (Nat.not_lt_zero _), fun _ => rfl⟩
  | n + 1, h => by
    obtain ⟨h1, h2⟩ := count_le hn hm n (by omega)
    have h3 := count_succ ms word n
    have h4 := new_le hn hm (m := n) (by omega)
    rw [h3]
    refine ⟨by omega, fun h5 m hmn => ?_, fun h5 => ?_⟩
    · have h6 : countL ms (word.take n) = n ∧ (newOf ms word n).length = 1 := by omega
      by_cases e : m = n
      · subst e
        intro e2
        rw [e2] at h6
        exact absurd h6.2 (by decide)
      · exact h2.mp h6.1 m (by omega)
    · have h6 := h2.mpr fun m hmn => h5 m (by omega)
      have h7 : 0 < (newOf ms word n).length := List.length_pos_iff.mpr (h5 n (Nat.lt_succ_self _))
      omega
theorem slice_suffix {stop start : Nat} (h : start < stop) (_hs : stop ≤ word.length) : (word.drop start).take (stop - start) <:+ word.take stop := by
  refine ⟨word.take start, ?_⟩
  have h1 : (word.drop start).take (stop - start) = (word.take stop).drop start := by rw [List.drop_take]
  have h2 : word.take start = (word.take stop).take start := by rw [List.take_take, Nat.min_eq_left (Nat.le_of_lt h)]
  rw [h1, h2, List.take_append_drop]
theorem suffix_slice {stop : Nat} {r : List Nat} (hs : stop ≤ word.length) (hr : r ≠ []) (h : r <:+ word.take stop) : ∃ start, start < stop ∧ (word.drop start).take (stop - start) = r := by
  obtain ⟨t, e⟩ := h
  have hl := congrArg List.length e
  rw [List.length_append, List.length_take] at hl
  have h0 : 0 < r.length := List.length_pos_iff.mpr hr
  refine ⟨t.length, by omega, ?_⟩
  have h1 : (word.drop t.length).take (stop - t.length) = (word.take stop).drop t.length := by rw [List.drop_take]
  rw [h1, ← e, List.drop_left]
theorem rich (hn : ms.Nodup) (hm : ∀ x, x ∈ ms ↔ x ∈ dueL word word.length) {n : Nat} (h : n ≤ word.length) : countL ms (word.take n) = n ↔ fullL word ms n = true := by
  rw [(count_le hn hm n h).2, fullL_iff]
  constructor
  · intro hN stop start h1 h2
    cases hb : badP ms ((word.drop start).take (stop - start)) with
    | false => rfl
    | true =>
      exfalso
      unfold badP at hb
      rw [Bool.and_eq_true, bne_iff_ne] at hb
      obtain ⟨hb1, hb2⟩ := hb
      unfold returnsL at hb2
      obtain ⟨q, hq, hq2⟩ := List.any_eq_true.mp hb2
      have hqd := mem_due.mp ((hm q).mp hq)
      refine hb1 (none_bad stop (fun m hms hml => ?_) (by omega) q _ hqd.1 hqd.2.1 (slice_suffix h1 (by omega)) (retOf_iff.mp hq2))
      obtain ⟨p, hp⟩ := List.exists_mem_of_ne_nil _ (hN m (by omega))
      exact ⟨p, (mem_newOf hm hml).mp hp⟩
  · intro hF m hmn hnil
    have hml : m < word.length := by omega
    have hno : ¬ ∃ p, p ≠ [] ∧ NewPal (word.take m) word[m] p := by
      rintro ⟨p, hp⟩
      have := (mem_newOf hm hml).mpr hp
      rw [hnil] at this
      exact nomatch this
    obtain ⟨q, r, q1, q2, q3, r1, r2, hR⟩ := bad_of_none hno
    have et : word.take (m + 1) = word.take m ++ [word[m]] := by rw [List.take_add_one, List.getElem?_eq_getElem hml]; rfl
    rw [← et] at r1
    have hr : r ≠ [] := by rintro rfl; exact absurd hR.1 (Nat.not_lt_zero _)
    obtain ⟨start, s1, s2⟩ := suffix_slice (by omega) hr r1
    have := hF (m + 1) start s1 (by omega)
    rw [s2] at this
    have hb : badP ms r = true := by
      unfold badP
      rw [Bool.and_eq_true, bne_iff_ne]
      refine ⟨r2, ?_⟩
      unfold returnsL
      refine List.any_eq_true.mpr ⟨q, (hm q).mpr (mem_due.mpr ⟨q1, q2, q3.trans (List.take_prefix _ _).isInfix⟩), retOf_iff.mpr hR⟩
    rw [hb] at this
    exact absurd this (by decide)
end

end
section
def letN (total x : Int) : Nat := (66 + total.fmod 13 + x.fmod 3).toNat
theorem letN_bd (total x : Int) : 0 ≤ 66 + total.fmod 13 + x.fmod 3 ∧ 66 ≤ letN total x ∧ letN total x < 81 ∧ (letN total x : Int) = 66 + total.fmod 13 + x.fmod 3 := by
  have h1 := fmod_bd total 13 (by decide)
  have h2 := fmod_bd x 3 (by decide)
  unfold letN
  omega
/-- is the k-th letter written with a backslash -/
def bitN (total : Int) (k : Nat) : Bool := (total.fdiv (2 ^ k)).fmod 2 == 1
def escP (total : Int) (word : List Nat) (k : Nat) : Nat × Bool := (word.getD k 0, bitN total k)
def pieceL (p : Nat × Bool) : List Nat := if p.2 = true then [92, p.1] else [p.1]
def escL (total : Int) (word : List Nat) : List (Nat × Bool) := (List.range word.length).map (escP total word)
theorem escL_fst (total : Int) (word : List Nat) : (escL total word).map (·.1) = word := by
  unfold escL
  rw [List.map_map]
  refine List.ext_getElem (by simp) fun i h1 h2 => ?_
  simp [escP, h2]
theorem signs_pieces (l : List (Nat × Bool)) : signs (ofL (l.flatMap pieceL)) = encAll l := by
  rw [signs_ofL]
  unfold encAll
  induction l with
  | nil => rfl
  | cons p r ih =>
    rw [List.flatMap_cons, List.map_append, ih, List.flatMap_cons]
    congr 1
    obtain ⟨c, b⟩ := p
    cases b <;> rfl
theorem pieces_len (l : List (Nat × Bool)) : (l.flatMap pieceL).length ≤ 2 * l.length := by
  induction l with
  | nil => exact Nat.le_refl _
  | cons p r ih =>
    rw [List.flatMap_cons, List.length_append, List.length_cons]
    have : (pieceL p).length ≤ 2 := by unfold pieceL; split <;> simp
    omega
theorem join_pieces {α : Type} (f : α → List Nat) (xs : List α) : Txt.join (Str.ofString "") (xs.map fun x => ofL (f x)) = ofL (xs.flatMap f) := by
  rw [join_empty]
  have h : (xs.map fun x => ofL (f x)).flatMap (fun x => x.cps.toList) = xs.flatMap f := by
    induction xs with
    | nil => rfl
    | cons c r ih => rw [List.map_cons, List.flatMap_cons, List.flatMap_cons, ih]
  rw [h]
theorem item_at {word : List Nat} {i : Nat} (hi : i < word.length) : Txt.item (ofL word) (((0 : Nat) : Int) + (i : Int)) = ofL [word.getD i 0] := by
  refine item_meets (by omega) ?_
  rw [show (((0 : Nat) : Int) + (i : Int)).toNat = i by omega]
  show word.toArray[i]? = some (word.getD i 0)
  rw [List.getElem?_toArray, List.getD_eq_getElem?_getD, List.getElem?_eq_getElem hi]
  rfl
theorem piece_true {total : Int} {word : List Nat} {i : Nat} (hi : i < word.length) (h : (total.fdiv (2 ^ (((0 : Nat) : Int) + (i : Int)).toNat)).fmod 2 = 1) : Str.ofString "\\" ++ Txt.item (ofL word) (((0 : Nat) : Int) + (i : Int)) = ofL (pieceL (escP total word i)) := by
  rw [show (((0 : Nat) : Int) + (i : Int)).toNat = i by omega] at h
  have hb : bitN total i = true := by unfold bitN; rw [h]; rfl
  rw [item_at hi, show pieceL (escP total word i) = [92, word.getD i 0] by unfold pieceL escP; rw [hb]; rfl]
  exact ofL_app [92] [word.getD i 0]
theorem piece_false {total : Int} {word : List Nat} {i : Nat} (hi : i < word.length) (h : (total.fdiv (2 ^ (((0 : Nat) : Int) + (i : Int)).toNat)).fmod 2 ≠ 1) : Str.ofString "" ++ Txt.item (ofL word) (((0 : Nat) : Int) + (i : Int)) = ofL (pieceL (escP total word i)) := by
  rw [show (((0 : Nat) : Int) + (i : Int)).toNat = i by omega] at h
  have hb : bitN total i = false := by unfold bitN; exact beq_eq_false_iff_ne.mpr h
  rw [item_at hi, show pieceL (escP total word i) = [word.getD i 0] by unfold pieceL escP; rw [hb]; rfl]
  exact ofL_app [] [word.getD i 0]
theorem sum_pieces {α : Type} (f : α → List Nat) (xs : List α) : ((xs.map fun x => ofL (f x)).map Str.length).sum = (xs.flatMap f).length := by
  induction xs with
  | nil => rfl
  | cons c r ih => rw [List.map_cons, List.map_cons, List.sum_cons, ih, List.flatMap_cons, List.length_append]; rfl
theorem flat_esc (total : Int) (word : List Nat) : (List.range word.length).flatMap (fun k => pieceL (escP total word k)) = (escL total word).flatMap pieceL := by
  unfold escL
  rw [List.flatMap_map]
theorem escL_len (total : Int) (word : List Nat) : (escL total word).length = word.length := by simp [escL]
def midC (total : Int) (body : List Nat) : List Nat := if (total.fdiv 128).fmod 2 = 1 then 34 :: (body ++ [34]) else body
def nlN (total : Int) : Nat := ((total.fdiv 256).fmod 3).toNat
def textC (total : Int) (esc : List (Nat × Bool)) : List Nat := List.replicate (nlN total) 10 ++ midC total (esc.flatMap pieceL) ++ [32]
theorem nlN_lt (total : Int) : nlN total < 3 ∧ ((total.fdiv 256).fmod 3) = (nlN total : Int) := by
  have h := fmod_bd (total.fdiv 256) 3 (by decide)
  unfold nlN
  omega
theorem mul_nl : ∀ j : Fin 3, Txt.mul (Str.ofString "\n") (j.val : Int) = ofL (List.replicate j.val 10) := by decide +kernel
theorem mid_true {total : Int} {body : List Nat} (h : (total.fdiv 128).fmod 2 = 1) : Str.ofString "\"" ++ ofL body ++ Str.ofString "\"" = ofL (midC total body) := by
  unfold midC
  rw [if_pos h, show Str.ofString "\"" = ofL [34] from rfl, ofL_app, ofL_app]
  rfl
theorem mid_false {total : Int} {body : List Nat} (h : (total.fdiv 128).fmod 2 ≠ 1) : ofL body = ofL (midC total body) := by
  unfold midC
  rw [if_neg h]
theorem midC_len (total : Int) (body : List Nat) : (midC total body).length ≤ body.length + 2 := by
  unfold midC
  split
  · simp
  · omega
theorem textC_len {total : Int} {word : List Nat} (h : word.length ≤ 7) : (textC total (escL total word)).length ≤ 19 := by
  have h1 := midC_len total ((escL total word).flatMap pieceL)
  have h2 := pieces_len (escL total word)
  rw [escL_len] at h2
  have h3 := (nlN_lt total).1
  unfold textC
  simp only [List.length_append, List.length_replicate, List.length_singleton]
  omega
theorem nl_facts : notWs (ofL [10]) = false ∧ nlOf (ofL [10]) = 1 ∧ notWs (ofL [32]) = false ∧ nlOf (ofL [32]) = 0 := by decide +kernel
theorem run_nl (r : List Str) : ∀ (j : Nat) (n : Int), run1 n ((List.replicate j 10).map (fun c => ofL [c]) ++ r) = run1 (n + (j : Int)) r
  | 0, n => by rw [show n + ((0 : Nat) : Int) = n by omega]; rfl
  | j + 1, n => by
    obtain ⟨h1, h2, -, -⟩ := nl_facts
    have e : run1 n ((List.replicate (j + 1) 10).map (fun c => ofL [c]) ++ r) = run1 (n + nlOf (ofL [10])) ((List.replicate j 10).map (fun c => ofL [c]) ++ r) := by
      show run1 n (ofL [10] :: _) = _
      conv => lhs; unfold run1
      rw [if_pos h1]
      rfl
    rw [e, h2, run_nl r j, show n + 1 + (j : Int) = n + ((j + 1 : Nat) : Int) by omega]
theorem text_run2 {word : List Nat} (hne : word ≠ []) (hb : ∀ c ∈ word, 66 ≤ c ∧ c < 81) (total : Int) : ∃ rest, run1 1 (signs (ofL (textC total (escL total word)))) = some (ofL word, 1 + (nlN total : Int), rest) ∧ run1 (1 + (nlN total : Int)) rest = some (Str.ofString "", 1 + (nlN total : Int), []) ∧ rest.length ≤ 1 ∧ ∀ y ∈ rest, y.length = 1 := by
  have hE : ∀ p ∈ escL total word, 66 ≤ p.1 ∧ p.1 < 81 := by
    intro p hp
    have : p.1 ∈ (escL total word).map (·.1) := List.mem_map_of_mem hp
    rw [escL_fst] at this
    exact hb _ this
  have hf := escL_fst total word
  obtain ⟨h1, h2, h3, h4⟩ := nl_facts
  have e : signs (ofL (textC total (escL total word))) = (List.replicate (nlN total) 10).map (fun c => ofL [c]) ++ ((midC total ((escL total word).flatMap pieceL)).map (fun c => ofL [c]) ++ [ofL [32]]) := by
    unfold textC
    rw [signs_ofL, List.map_append, List.map_append, List.append_assoc]
    rfl
  rw [e, run_nl]
  have eb : ((escL total word).flatMap pieceL).map (fun c => ofL [c]) = encAll (escL total word) := by rw [← signs_ofL]; exact signs_pieces _
  unfold midC
  split
  · refine ⟨[ofL [32]], ?_, ?_, Nat.le_refl _, fun y hy => by rw [List.mem_singleton.mp hy]; rfl⟩
    · have e2 : (34 :: ((escL total word).flatMap pieceL ++ [34])).map (fun c => ofL [c]) ++ [ofL [32]] = QT :: (encAll (escL total word) ++ QT :: [ofL [32]]) := by
        rw [List.map_cons, List.map_append, eb]
        rw [List.cons_append, List.append_assoc]
        rfl
      rw [e2, run1_quoted _ _ _ hE, hf]
    · rw [run1_blank _ _ h3, h4, Int.add_zero]
  · rw [eb]
    cases hw : escL total word with
    | nil =>
      rw [hw] at hf
      exact absurd hf.symm hne
    | cons p l =>
      obtain ⟨c, b⟩ := p
      rw [hw] at hE hf
      refine ⟨[], ?_, rfl, Nat.zero_le _, fun _ h => nomatch h⟩
      rw [run1_bare c b l _ _ [] hE h3, h4, Int.add_zero, ← hf]
      rfl
theorem cnt_rep : ∀ j : Fin 3, cnt 10 (List.replicate j.val 10) = (j.val : Int) := by decide +kernel
theorem text_cnt {word : List Nat} (hb : ∀ c ∈ word, 66 ≤ c ∧ c < 81) (total : Int) : Txt.count (ofL (textC total (escL total word))) (Str.ofString "\n") = (nlN total : Int) := by
  rw [show Str.ofString "\n" = ⟨#[10]⟩ from rfl, count_cnt]
  show cnt 10 (textC total (escL total word)) = _
  unfold textC
  have hE : ∀ p ∈ escL total word, 66 ≤ p.1 ∧ p.1 < 81 := by
    intro p hp
    have : p.1 ∈ (escL total word).map (·.1) := List.mem_map_of_mem hp
    rw [escL_fst] at this
    exact hb _ this
  have hfree : ∀ a ∈ (escL total word).flatMap pieceL, a ≠ 10 := by
    intro a ha
    obtain ⟨p, hp, h⟩ := List.mem_flatMap.mp ha
    have := hE p hp
    unfold pieceL at h
    split at h
    · rcases List.mem_cons.mp h with rfl | h
      · decide
      · rw [List.mem_singleton.mp h]; omega
    · rw [List.mem_singleton.mp h]; omega
  have hmid : ∀ a ∈ midC total ((escL total word).flatMap pieceL), a ≠ 10 := by
    intro a ha
    unfold midC at ha
    split at ha
    · rcases List.mem_cons.mp ha with rfl | ha
      · decide
      · rcases List.mem_append.mp ha with ha | ha
        · exact hfree a ha
        · rw [List.mem_singleton.mp ha]; decide
    · exact hfree a ha
  rw [cnt_append, cnt_append, cnt_none 10 _ (fun h => hmid 10 h rfl), cnt_none 10 [32] (by decide), Int.add_zero, Int.add_zero]
  exact cnt_rep ⟨nlN total, (nlN_lt total).1⟩
/-- the figures of a word, as the law finds them -/
def figsL (word : List Nat) (n : Nat) : List Nat := ((List.range n).map (· + 1)).filter (fun f => word.contains (65 + f))
theorem figsL_succ (word : List Nat) (n : Nat) : figsL word (n + 1) = figsL word n ++ if word.contains (65 + (n + 1)) then [n + 1] else [] := by
  unfold figsL
  rw [List.range_succ, List.map_append, List.filter_append]
  congr 1
  rw [List.map_cons, List.map_nil, List.filter_cons]
  split <;> rfl
theorem figs_bd {word : List Nat} {n : Nat} : ∀ f ∈ figsL word n, 1 ≤ f ∧ f ≤ n ∧ 65 + f ∈ word := by
  intro f hf
  unfold figsL at hf
  rw [List.mem_filter, List.mem_map] at hf
  obtain ⟨⟨x, hx, rfl⟩, h⟩ := hf
  have := List.mem_range.mp hx
  exact ⟨by omega, by omega, by simpa using h⟩
theorem figs_len (word : List Nat) (n : Nat) : (figsL word n).length ≤ n := by
  unfold figsL
  refine Nat.le_trans (List.length_filter_le _ _) ?_
  rw [List.length_map, List.length_range]
  exact Nat.le_refl _
theorem figs_lets {word : List Nat} (hb : ∀ c ∈ word, 66 ≤ c ∧ c < 81) : Lets ((figsL word 15).map (65 + ·)) word := by
  constructor
  · rw [List.pairwise_map]
    unfold figsL
    refine List.Pairwise.filter _ ?_
    rw [List.pairwise_map]
    exact List.pairwise_lt_range.imp fun h => by omega
  · intro c
    rw [List.mem_map]
    constructor
    · rintro ⟨f, hf, rfl⟩
      exact (figs_bd f hf).2.2
    · intro hc
      have h := hb c hc
      refine ⟨c - 65, ?_, by omega⟩
      unfold figsL
      rw [List.mem_filter, List.mem_map]
      refine ⟨⟨c - 66, List.mem_range.mpr (by omega), by omega⟩, ?_⟩
      rw [show 65 + (c - 65) = c by omega]
      simpa using hc
def intsOf (l : List Nat) : List Int := l.map fun (f : Nat) => (f : Int)
theorem holds_eqM (p g : List Nat) : (Builtin.Str.occurrences (ofL g) (ofL p) 0 (ofL g).length 1).isEmpty = !inB p g := by
  have h := StrLaws.found_iff (ofL g) (ofL p)
  have : (!(Builtin.Str.occurrences (ofL g) (ofL p) 0 (ofL g).length 1).isEmpty) = inB p g := by
    rw [Bool.eq_iff_iff, h, inB_iff]
    refine exists_congr fun i => ?_
    rw [StrLaws.subAt_eq]
    show _ ∧ ((List.take p.length _ == p) = true) ↔ _
    rw [beq_iff_eq]
    exact Iff.rfl
  rw [← this, Bool.not_not]
theorem inB_one (c : Nat) : ∀ word : List Nat, inB [c] word = word.contains c
  | [] => rfl
  | d :: r => by
    unfold inB
    rw [inB_one c r, List.contains_cons, show List.isPrefixOf [c] (d :: r) = (c == d) from by show ((c == d) && List.isPrefixOf [] r) = _; cases c == d <;> simp]
theorem chr_in {word : List Nat} {i : Nat} : (Builtin.Str.occurrences (ofL word) ⟨#[(65 + (((1 : Nat) : Int) + (i : Int))).toNat]⟩ 0 (ofL word).length 1).isEmpty = !word.contains (65 + (i + 1)) := by
  have e : (⟨#[(65 + (((1 : Nat) : Int) + (i : Int))).toNat]⟩ : Str) = ofL [65 + (i + 1)] := by
    rw [show (65 + (((1 : Nat) : Int) + (i : Int))).toNat = 65 + (i + 1) by omega]
  rw [e, holds_eqM, inB_one]
theorem figs_in {word : List Nat} {i : Nat} (h : word.contains (65 + (i + 1)) = true) : intsOf (figsL word (i + 1)) = intsOf (figsL word i) ++ [((1 : Nat) : Int) + (i : Int)] := by
  unfold intsOf
  rw [figsL_succ, if_pos h, List.map_append, List.map_cons, List.map_nil, show ((i + 1 : Nat) : Int) = ((1 : Nat) : Int) + (i : Int) by omega]
theorem figs_out {word : List Nat} {i : Nat} (h : word.contains (65 + (i + 1)) = false) : intsOf (figsL word (i + 1)) = intsOf (figsL word i) := by
  rw [figsL_succ, if_neg (by rw [h]; decide), List.append_nil]
theorem ints_snocM {vs : List Value} {ns : List Int} {n : Int} {t : Tok} (h : IntsAre vs ns) : IntsAre (vs ++ [.int n t]) (ns ++ [n]) := by
  induction h with
  | nil => exact .cons _ _ .nil
  | cons a b _ ih => exact .cons _ _ ih
/-- the word of a figure, once or twice -/
def uOf (tm f : Nat) : List Nat := if tm = 1 then [65 + f] else [65 + f, 65 + f]
def pushN (word : List Nat) (tm i : Nat) : List (List Nat) := (((figsL word 15).take i).map (uOf tm)).filter (fun x => inB x word)
theorem uOf_val {tm f : Nat} (h : tm = 1 ∨ tm = 17) : ((tm : Int) * (f : Int)).natAbs = valN (uOf tm f) := by
  rcases h with rfl | rfl
  · rw [uOf, if_pos rfl]
    have : valN [65 + f] = f := by simp [valN]
    omega
  · rw [uOf, if_neg (by decide)]
    have : valN [65 + f, 65 + f] = f * 16 + f := by simp [valN]
    omega
theorem uOf_ok {word : List Nat} {tm f : Nat} (hb : ∀ c ∈ word, 66 ≤ c ∧ c < 81) (hf : f ∈ figsL word 15) : (∀ c ∈ uOf tm f, 66 ≤ c ∧ c < 81) ∧ (uOf tm f).length ≤ 2 := by
  have h := hb _ (figs_bd f hf).2.2
  unfold uOf
  split
  · refine ⟨fun c hc => ?_, by simp⟩
    rw [List.mem_singleton.mp hc]; exact h
  · refine ⟨fun c hc => ?_, by simp⟩
    rcases List.mem_cons.mp hc with rfl | hc
    · exact h
    · rw [List.mem_singleton.mp hc]; exact h
theorem pushN_yes {word : List Nat} {tm i f : Nat} (h : (figsL word 15)[i]? = some f) (hi : inB (uOf tm f) word = true) : pushN word tm (i + 1) = pushN word tm i ++ [uOf tm f] := by
  unfold pushN
  rw [List.take_add_one, h, Option.toList_some, List.map_append, List.filter_append, List.map_cons, List.map_nil, List.filter_cons, if_pos hi]
  rfl
theorem pushN_no {word : List Nat} {tm i f : Nat} (h : (figsL word 15)[i]? = some f) (hi : inB (uOf tm f) word = false) : pushN word tm (i + 1) = pushN word tm i := by
  unfold pushN
  rw [List.take_add_one, h, Option.toList_some, List.map_append, List.filter_append, List.map_cons, List.map_nil, List.filter_cons, if_neg (by rw [hi]; decide), List.filter_nil, List.append_nil]
theorem pushN_len {word : List Nat} {tm i : Nat} : (pushN word tm i).length ≤ 15 := by
  unfold pushN
  refine Nat.le_trans (List.length_filter_le _ _) ?_
  rw [List.length_map, List.length_take]
  exact Nat.le_trans (Nat.min_le_right _ _) (figs_len word 15)
theorem ints_atM {vs : List Value} {l : List Nat} (h : IntsAre vs (intsOf l)) {i : Nat} {v : Value} (e : vs[i]? = some v) : ∃ f t, l[i]? = some f ∧ v = .int (f : Int) t := by
  obtain ⟨n, t, h1, rfl⟩ := ints_get h (by simpa using e)
  unfold intsOf at h1
  rw [List.getElem?_map, Option.map_eq_some_iff] at h1
  obtain ⟨f, h2, rfl⟩ := h1
  exact ⟨f, t, h2, rfl⟩
theorem start_push {word : List Nat} : pushN word 1 (figsL word 15).length ++ pushN word 17 (figsL word 15).length = startL ((figsL word 15).map (65 + ·)) word := by
  unfold pushN startL
  rw [List.take_length, List.map_map, List.map_map]
  congr 1

end
section
theorem Spec.weak {prog : Program} {K : World → Frag} {w : World} {f : Addr} {vs : List Value} {d u d' u' : Nat} {W : List (Addr × Obj)} {Post Post' : Value → List (Addr × Obj) → Prop} (S : Spec prog K w f vs d u W Post) (hd : d ≤ d') (hu : u ≤ u') (hP : ∀ r W', Post r W' → Post' r W') : Spec prog K w f vs d' u' W Post' := by
  intro rest loose mean mg mb dp un gd cn cs a ccd cl outer A₀ base h₀ L m s Q E B F X N hdis T hk h1 h2 hret
  exact S rest loose mean mg mb dp un gd cn cs a ccd cl outer A₀ base h₀ L m s Q E B F X N hdis T hk (by omega) (by omega) fun r W' h' tk' hp => hret r W' h' tk' (hP _ _ hp)
/-- the token got, and what waits behind it: gl: the words waiting before -/
def GSt (rest : List Str) (gl : List (List Nat)) (grown : List Nat) (ysQ cs : List Value) : Prop :=
  (∃ q, gl = grown :: q ∧ StrsAre ysQ (q.map ofL) ∧ StrsAre cs rest) ∨ (gl = [] ∧ grown = [] ∧ ysQ = [] ∧ cs = [])
def GetPost (w : World) (a : LexAt) (n0 : Int) (rest : List Str) (gl : List (List Nat)) (r : Value) (W' : List (Addr × Obj)) : Prop := ∀ Z : Value → List (Addr × Obj) → Prop, (∀ grown t ysQ' cq' tn' cs' cc', GSt rest gl grown ysQ' cs' → Z (.str (ofL grown) t) (LexW w a ysQ' cq' n0 tn' cs' cc')) → Z r W'
theorem get_all {w : World} {a : LexAt} {n0 : Int} {rest : List Str} {gl : List (List Nat)} {Z : Value → List (Addr × Obj) → Heap → Nat → Prop} (d : ∀ h' tk' grown t ysQ' cq' tn' cs' cc', GSt rest gl grown ysQ' cs' → Z (.str (ofL grown) t) (LexW w a ysQ' cq' n0 tn' cs' cc') h' tk') : ∀ r W' h' tk', GetPost w a n0 rest gl r W' → Z r W' h' tk' := fun _ _ h' tk' hp => hp (fun r W' => Z r W' h' tk') (d h' tk')
theorem get_spec (w : World) (a : LexAt) (ok : LexOk w a) (gl : List (List Nat)) (ysQ : List Value) (cq : Nat) (n0 : Int) (tn : Tok) (cs : List Value) (rest : List Str) (cc : Nat) (hQ : StrsAre ysQ (gl.map ofL)) (hCs : StrsAre cs rest) (hg : gl.length ≤ 900) (hr2 : run1 n0 rest = some (Str.ofString "", n0, [])) (hr3 : rest.length ≤ 1) (hr4 : ∀ y ∈ rest, y.length = 1) :
    Spec PySem.Challenge.rw_sc0030_02.row.prog (fun w => Mine.hd.heap_39 w.params) w 42 [.ref a.lx] 6 120 (LexW w a ysQ cq n0 tn cs cc) (GetPost w a n0 rest gl) := by
  cases gl with
  | nil =>
    cases hQ
    refine Spec.weak (tok_spec2 w a ok cq n0 tn cs rest cc hCs (by omega) hr4 (Str.ofString "") n0 [] hr2) (Nat.le_refl _) (Nat.le_refl _) ?_
    refine fun r W' hp => hp (GetPost w a n0 rest []) ?_
    intro t cq' tn' cs' cc' hc
    cases hc
    exact fun _ k => k [] t [] cq' tn' [] cc' (.inr ⟨rfl, rfl, rfl, rfl⟩)
  | cons u q =>
    obtain ⟨t, ys', rfl, hQ'⟩ := strs_cons hQ
    have hl := hQ'.length
    rw [List.length_map] at hl
    simp only [List.length_cons] at hg
    refine Spec.weak (tok_spec1 w a ok ys' cq n0 tn cs cc (ofL u) t (by omega)) (by decide) (by decide) ?_
    rintro r W' ⟨rfl, cq', rfl⟩
    exact fun _ k => k u t ys' cq' tn cs cc (.inl ⟨q, rfl, hQ', hCs⟩)
/-- the words around a word, by figures -/
def around (u : List Nat) (f : Nat) : List Nat := (65 + f) :: (u ++ [65 + f])
def kidN (word u : List Nat) (i : Nat) : List (List Nat) := (((figsL word 15).take i).map (around u)).filter (fun x => inB x word)
theorem kidN_all (word u : List Nat) : kidN word u (figsL word 15).length = kidsL ((figsL word 15).map (65 + ·)) word u := by
  unfold kidN kidsL
  rw [List.take_length, List.map_map]
  rfl
theorem kidN_yes {word u : List Nat} {i f : Nat} (h : (figsL word 15)[i]? = some f) (hi : inB (around u f) word = true) : kidN word u (i + 1) = kidN word u i ++ [around u f] := by
  unfold kidN
  rw [List.take_add_one, h, Option.toList_some, List.map_append, List.filter_append, List.map_cons, List.map_nil, List.filter_cons, if_pos hi]
  rfl
theorem kidN_no {word u : List Nat} {i f : Nat} (h : (figsL word 15)[i]? = some f) (hi : inB (around u f) word = false) : kidN word u (i + 1) = kidN word u i := by
  unfold kidN
  rw [List.take_add_one, h, Option.toList_some, List.map_append, List.filter_append, List.map_cons, List.map_nil, List.filter_cons, if_neg (by rw [hi]; decide), List.filter_nil, List.append_nil]
theorem kidN_len {word u : List Nat} {i : Nat} : (kidN word u i).length ≤ 15 := by
  unfold kidN
  refine Nat.le_trans (List.length_filter_le _ _) ?_
  rw [List.length_map, List.length_take]
  exact Nat.le_trans (Nat.min_le_right _ _) (figs_len word 15)
theorem around_val {u : List Nat} {f : Nat} : (-(((f : Int) * ((16 ^ u.length : Nat) : Int) + (valN u : Int)) * 16 + (f : Int))).natAbs = valN (around u f) := by
  have h : valN (around u f) = (f * 16 ^ u.length + valN u) * 16 + f := by
    unfold around
    rw [valN_cons, valN_snoc, List.length_append, List.length_singleton, Nat.pow_succ]
    rw [show 65 + f - 65 = f by omega, Nat.add_mul, ← Nat.mul_assoc]
    omega
  rw [h, Int.natAbs_neg]
  have : ((f : Int) * ((16 ^ u.length : Nat) : Int) + (valN u : Int)) * 16 + (f : Int) = (((f * 16 ^ u.length + valN u) * 16 + f : Nat) : Int) := by
    rw [Int.natCast_add, Int.natCast_mul, Int.natCast_add, Int.natCast_mul]
    rfl
  rw [this, Int.natAbs_natCast]
theorem around_ok {word u : List Nat} {f : Nat} (hb : ∀ c ∈ word, 66 ≤ c ∧ c < 81) (hu : ∀ c ∈ u, 66 ≤ c ∧ c < 81) (hf : f ∈ figsL word 15) : ∀ c ∈ around u f, 66 ≤ c ∧ c < 81 := by
  have h := hb _ (figs_bd f hf).2.2
  intro c hc
  unfold around at hc
  rcases List.mem_cons.mp hc with rfl | hc
  · exact h
  · rcases List.mem_append.mp hc with hc | hc
    · exact hu c hc
    · rw [List.mem_singleton.mp hc]; exact h
theorem around_len (u : List Nat) (f : Nat) : (around u f).length = u.length + 2 := by simp [around]
theorem due_ok {word u : List Nat} (hb : ∀ c ∈ word, 66 ≤ c ∧ c < 81) (hl : word.length ≤ 7) (h : u ∈ dueL word word.length) : (∀ c ∈ u, 66 ≤ c ∧ c < 81) ∧ u.length ≤ 7 ∧ u ≠ [] := by
  obtain ⟨h1, h2, h3⟩ := mem_due.mp h
  exact ⟨fun c hc => hb c (h3.subset hc), Nat.le_trans h3.length_le hl, h1⟩
theorem filter_in {l : List (List Nat)} {f : List Nat → Bool} {k : Nat} {x : List Nat} (h : l[k]? = some x) (hf : f x = true) : (l.take (k + 1)).filter f = (l.take k).filter f ++ [x] := by
  rw [List.take_add_one, h, Option.toList_some, List.filter_append, List.filter_cons, if_pos hf]
  rfl
theorem filter_out {l : List (List Nat)} {f : List Nat → Bool} {k : Nat} {x : List Nat} (h : l[k]? = some x) (hf : f x = false) : (l.take (k + 1)).filter f = (l.take k).filter f := by
  rw [List.take_add_one, h, Option.toList_some, List.filter_append, List.filter_cons, if_neg (by rw [hf]; decide), List.filter_nil, List.append_nil]
theorem bad_true {heard : List (List Nat)} {part : List Nat} (h1 : (ofL part.reverse != ofL part) = true) (h2 : returnsL heard part = true) : badP heard part = true := by
  unfold badP
  have h3 : (part.reverse != part) = true := by
    rw [bne_iff_ne] at h1 ⊢
    exact fun e => h1 (by rw [e])
  rw [h3, h2]; rfl
theorem bad_false1 {heard : List (List Nat)} {part : List Nat} (h1 : (ofL part.reverse != ofL part) = false) : badP heard part = false := by
  unfold badP
  have h3 : (part.reverse != part) = false := by
    have h2 : ofL part.reverse = ofL part := by simpa using h1
    have h4 : part.reverse = part := by
      have := congrArg (fun x : Str => x.cps.toList) h2
      simpa using this
    rw [h4]
    exact bne_self_eq_false _
  rw [h3]; rfl
theorem bad_false2 {heard : List (List Nat)} {part : List Nat} (h2 : returnsL heard part = false) : badP heard part = false := by
  unfold badP
  rw [h2, Bool.and_false]
theorem rich_no {x y : Nat} {b : Bool} (h : (((x : Int) == (y : Int)) != b) = true) (hr : x = y ↔ b = true) : False := by
  by_cases e : x = y
  · have hb := hr.mp e
    subst hb
    subst e
    simp at h
  · have hb : b = false := by
      cases b with
      | false => rfl
      | true => exact absurd (hr.mpr rfl) e
    subst hb
    have : ((x : Int) == (y : Int)) = false := beq_eq_false_iff_ne.mpr (by omega)
    rw [this] at h
    exact absurd h (by decide)

end
section
def lexAt (a : LexAt) : List Addr := [a.pb, a.lx, a.dlx, a.fr, a.cd, a.pb0, a.st, a.dst, a.sl, a.cell]
/-- the lexer's objects are none of these -/
def Dis (a : LexAt) (rest : List (Addr × Obj)) : Prop := ∀ r ∈ rest, ∀ x ∈ lexAt a, x ≠ r.1
theorem Dis.use {w : World} {a : LexAt} {rest : List (Addr × Obj)} (h : Dis a rest) {q : List Value} {cq : Nat} {n : Int} {tn : Tok} {cs : List Value} {cc : Nat} : ∀ p ∈ LexW w a q cq n tn cs cc, ∀ r ∈ rest, p.1 ≠ r.1 := fun p hp r hr => by
  have e : (LexW w a q cq n tn cs cc).map (·.1) = lexAt a := rfl
  exact h r hr p.1 (e ▸ List.mem_map_of_mem hp)
theorem Dis.nil {a : LexAt} : Dis a [] := fun _ h => nomatch h
theorem Dis.above {w : World} {a : LexAt} (ok : LexOk w a) {r : Addr × Obj} {rest : List (Addr × Obj)} (h : @LT.lt Nat _ a.pb r.1) (hr : Dis a rest) : Dis a (r :: rest) := by
  intro r' hr'
  rcases List.mem_cons.mp hr' with rfl | hr'
  · intro x hx e
    obtain ⟨p, hp, rfl⟩ := List.mem_map.mp (show x ∈ (LexW w a [] 0 0 0 [] 0).map (·.1) from hx)
    have := (lex_in ok p hp).2
    rw [e] at this
    exact Nat.lt_irrefl _ (Nat.lt_of_le_of_lt this h)
  · exact hr r' hr'
theorem Dis.below {w : World} {a : LexAt} (ok : LexOk w a) {r : Addr × Obj} {rest : List (Addr × Obj)} (h : @LT.lt Nat _ r.1 a.cell) (hr : Dis a rest) : Dis a (r :: rest) := by
  intro r' hr'
  rcases List.mem_cons.mp hr' with rfl | hr'
  · intro x hx e
    obtain ⟨p, hp, rfl⟩ := List.mem_map.mp (show x ∈ (LexW w a [] 0 0 0 [] 0).map (·.1) from hx)
    have := (lex_in ok p hp).1
    rw [e] at this
    exact Nat.lt_irrefl _ (Nat.lt_of_lt_of_le h this)
  · exact hr r' hr'
theorem Dis.other {a : LexAt} {r : Addr × Obj} {rest : List (Addr × Obj)} (h : ∀ x ∈ lexAt a, x ≠ r.1) (hr : Dis a rest) : Dis a (r :: rest) := by
  intro r' hr'
  rcases List.mem_cons.mp hr' with rfl | hr'
  · exact h
  · exact hr r' hr'
theorem Dis.off {w : World} {a : LexAt} {q : List Value} {cq : Nat} {n : Int} {tn : Tok} {cs : List Value} {cc : Nat} {nx : List (Addr × Obj)} {I : Addr} {o : Obj} {rest : List (Addr × Obj)} (h : ∀ p ∈ LexW w a q cq n tn cs cc ++ nx, p.1 ≠ I) (hr : Dis a rest) : Dis a ((I, o) :: rest) := by
  refine Dis.other (fun x hx => ?_) hr
  obtain ⟨p, hp, rfl⟩ := List.mem_map.mp (show x ∈ (LexW w a q cq n tn cs cc).map (·.1) from hx)
  exact h p (List.mem_append_left _ hp)
theorem off_lex {w : World} {a : LexAt} {q q' : List Value} {cq cq' : Nat} {n n' : Int} {tn tn' : Tok} {cs cs' : List Value} {cc cc' : Nat} {nx : List (Addr × Obj)} {I : Addr} (h : ∀ p ∈ LexW w a q cq n tn cs cc ++ nx, p.1 ≠ I) : ∀ p ∈ LexW w a q' cq' n' tn' cs' cc' ++ nx, p.1 ≠ I := by
  intro p hp
  rcases List.mem_append.mp hp with hp | hp
  · have h1 : p.1 ∈ (LexW w a q' cq' n' tn' cs' cc').map (·.1) := List.mem_map_of_mem hp
    obtain ⟨p', hp', e⟩ := List.mem_map.mp (show p.1 ∈ (LexW w a q cq n tn cs cc).map (·.1) from h1)
    rw [← e]
    exact h p' (List.mem_append_left _ hp')
  · exact h p (List.mem_append_right _ hp)
def EndQ2 (End : Shared → Prop) (f : Flow) (s' : Shared) : Prop := ∀ Z : Flow → Shared → Prop, (∀ s', End s' → Z .next s') → Z f s'
theorem EndQ2.mk {End : Shared → Prop} {s' : Shared} (h : End s') : EndQ2 End .next s' := fun _ k => k _ h
theorem endq_all {End : Shared → Prop} {Z : Flow → Shared → Prop} (d : ∀ s', End s' → Z .next s') : ∀ f s', EndQ2 End f s' → Z f s' := fun _ _ h => h Z d
theorem use_code {M : Model} {A : Around} {c : Sem Flow} {E : Value → Shared → Prop} {Q : Flow → Shared → Prop} {s : Shared} (PRE POST : Nat → Tok → Obj → List (List Nat) → Shared → Prop) (spec : ∀ tm tt oI q s', PRE tm tt oI q s' → wpAny M A c (EndQ2 (POST tm tt oI q)) (fun _ _ => False) s')
    (k : (∀ tm tt oI q s', PRE tm tt oI q s' → wpAny M A c (EndQ2 (POST tm tt oI q)) (fun _ _ => False) s') → wpAny M A c Q E s) : wpAny M A c Q E s := k spec
section
variable {x y z : Addr × Obj} {W R V : List (Addr × Obj)} {g h : Heap} {L : Addr}
theorem mem_mid : ∀ p ∈ W ++ (x :: R), p ∈ x :: (W ++ R) := fun p hp => by
  rcases List.mem_append.mp hp with h | h
  · exact .tail _ (List.mem_append_left _ h)
  · rcases List.mem_cons.mp h with rfl | h
    · exact .head _
    · exact .tail _ (List.mem_append_right _ h)
theorem mid_mem : ∀ p ∈ x :: (W ++ R), p ∈ W ++ (x :: R) := fun p hp => by
  rcases List.mem_cons.mp hp with rfl | h
  · exact List.mem_append_right _ (.head _)
  · rcases List.mem_append.mp h with h | h
    · exact List.mem_append_left _ h
    · exact List.mem_append_right _ (.tail _ h)
theorem news_mid (N : News g L h (x :: (W ++ R))) : News g L h (W ++ (x :: R)) := fun p hp => N p (mem_mid p hp)
theorem mid_news (N : News g L h (W ++ (x :: R))) : News g L h (x :: (W ++ R)) := fun p hp => N p (mid_mem p hp)
theorem up3 {a b c : Addr × Obj} (H : ∀ p ∈ W, p ∈ V) : ∀ p ∈ W, p ∈ a :: b :: c :: V := fun p hp => .tail _ (.tail _ (.tail _ (H p hp)))
theorem up4 {a b c : Addr × Obj} (H : ∀ p ∈ W ++ R, p ∈ V) : ∀ p ∈ W ++ (x :: R), p ∈ x :: a :: b :: c :: V := fun p hp => by
  rcases List.mem_cons.mp (mem_mid p hp) with rfl | h
  · exact .head _
  · exact .tail _ (up3 H p h)
end
section
variable {w : World} {a : LexAt} {q : List Value} {cq : Nat} {n : Int} {tn : Tok} {cs : List Value} {cc : Nat} {g h : Heap} {L : Addr} {x : Addr × Obj} {R : List (Addr × Obj)} {G : Prop}
/-- what stands ahead while the law walks: a cell, the lexer and its table of names; the rest is a name -/
theorem lex_walk (N : News g L h (LexW w a q cq n tn cs cc ++ R)) (hx : x ∈ R) (k : ∀ V, (∀ p ∈ LexW w a q cq n tn cs cc ++ R, p ∈ V) → News g L h (x :: (a.lx, instObj 52 a.dlx) :: (a.dlx, lexDict w a n tn) :: V) → G) : G :=
  k _ (fun _ h => h) (fun p hp => by
    rcases List.mem_cons.mp hp with rfl | hp
    · exact N _ (List.mem_append_right _ hx)
    rcases List.mem_cons.mp hp with rfl | hp
    · exact N _ (List.mem_append_left _ (.tail _ (.head _)))
    rcases List.mem_cons.mp hp with rfl | hp
    · exact N _ (List.mem_append_left _ (.tail _ (.tail _ (.head _))))
    · exact N p hp)
theorem lex_walk2 {H : Addr} {o : Obj} (N : News g L h (LexW w a q cq n tn cs cc ++ ((H, o) :: R))) (hx : x ∈ R) (off : ∀ p ∈ LexW w a q cq n tn cs cc ++ R, p.1 ≠ H) (k : ∀ V, (∀ p ∈ LexW w a q cq n tn cs cc ++ R, p ∈ V) → (∀ p ∈ x :: (a.lx, instObj 52 a.dlx) :: (a.dlx, lexDict w a n tn) :: V, p.1 ≠ H) → News g L h ((H, o) :: x :: (a.lx, instObj 52 a.dlx) :: (a.dlx, lexDict w a n tn) :: V) → G) : G :=
  have up : ∀ p ∈ x :: (a.lx, instObj 52 a.dlx) :: (a.dlx, lexDict w a n tn) :: (LexW w a q cq n tn cs cc ++ R), p ∈ LexW w a q cq n tn cs cc ++ R := fun p hp => by
    rcases List.mem_cons.mp hp with rfl | hp
    · exact List.mem_append_right _ hx
    rcases List.mem_cons.mp hp with rfl | hp
    · exact List.mem_append_left _ (.tail _ (.head _))
    rcases List.mem_cons.mp hp with rfl | hp
    · exact List.mem_append_left _ (.tail _ (.tail _ (.head _)))
    · exact hp
  k _ (fun _ h => h) (fun p hp => off p (up p hp)) (fun p hp => by
    rcases List.mem_cons.mp hp with rfl | hp
    · exact N _ (List.mem_append_right _ (.head _))
    · exact mid_news N p (.tail _ (up p hp)))
theorem dis10 {D : Addr} {c : Prop} (h : a.pb ≠ D ∧ a.lx ≠ D ∧ a.dlx ≠ D ∧ a.fr ≠ D ∧ a.cd ≠ D ∧ a.pb0 ≠ D ∧ a.st ≠ D ∧ a.dst ≠ D ∧ a.sl ≠ D ∧ a.cell ≠ D ∧ c) : ∀ x ∈ lexAt a, x ≠ D :=
  List.forall_mem_cons.mpr ⟨h.1, List.forall_mem_cons.mpr ⟨h.2.1, List.forall_mem_cons.mpr ⟨h.2.2.1, List.forall_mem_cons.mpr ⟨h.2.2.2.1, List.forall_mem_cons.mpr ⟨h.2.2.2.2.1, List.forall_mem_cons.mpr ⟨h.2.2.2.2.2.1, List.forall_mem_cons.mpr ⟨h.2.2.2.2.2.2.1, List.forall_mem_cons.mpr ⟨h.2.2.2.2.2.2.2.1, List.forall_mem_cons.mpr ⟨h.2.2.2.2.2.2.2.2.1, List.forall_mem_cons.mpr ⟨h.2.2.2.2.2.2.2.2.2.1, List.forall_mem_nil _⟩⟩⟩⟩⟩⟩⟩⟩⟩⟩
end
theorem pack7 {x1 x2 x3 x4 x5 x6 x7 : Addr × Obj} {G : Prop} (k : ∀ r : List (Addr × Obj), x1 ∈ r → x2 ∈ r → x3 ∈ r → x4 ∈ r → x5 ∈ r → x6 ∈ r → x7 ∈ r → (∀ p ∈ r, p ∈ [x1, x2, x3, x4, x5, x6, x7]) → G) : G :=
  k [x1, x2, x3, x4, x5, x6, x7] (.head _) (.tail _ (.head _)) (.tail _ (.tail _ (.head _))) (.tail _ (.tail _ (.tail _ (.head _)))) (.tail _ (.tail _ (.tail _ (.tail _ (.head _))))) (.tail _ (.tail _ (.tail _ (.tail _ (.tail _ (.head _)))))) (.tail _ (.tail _ (.tail _ (.tail _ (.tail _ (.tail _ (.head _))))))) (fun _ h => h)
theorem all7 {P : Addr × Obj → Prop} {x1 x2 x3 x4 x5 x6 x7 : Addr × Obj} (h1 : P x1) (h2 : P x2) (h3 : P x3) (h4 : P x4) (h5 : P x5) (h6 : P x6) (h7 : P x7) : ∀ p ∈ [x1, x2, x3, x4, x5, x6, x7], P p :=
  List.forall_mem_cons.mpr ⟨h1, List.forall_mem_cons.mpr ⟨h2, List.forall_mem_cons.mpr ⟨h3, List.forall_mem_cons.mpr ⟨h4, List.forall_mem_cons.mpr ⟨h5, List.forall_mem_cons.mpr ⟨h6, List.forall_mem_cons.mpr ⟨h7, List.forall_mem_nil _⟩⟩⟩⟩⟩⟩⟩
theorem off5 {a1 a2 a3 a4 a5 I : Nat} {o1 o2 o3 o4 o5 : Obj} {G : Prop} (h : ∀ p ∈ [((a1 : Addr), o1), (a2, o2), (a3, o3), (a4, o4), (a5, o5)], p.1 ≠ I) (k : a1 ≠ I → a2 ≠ I → a3 ≠ I → a4 ≠ I → a5 ≠ I → G) : G :=
  k (h _ (.head _)) (h _ (.tail _ (.head _))) (h _ (.tail _ (.tail _ (.head _)))) (h _ (.tail _ (.tail _ (.tail _ (.head _))))) (h _ (.tail _ (.tail _ (.tail _ (.tail _ (.head _))))))

end
section
abbrev l2Fr (S FL LX : Addr) (text inner : Str) (tx tb : Tok) (mh mg mw mf mt mu ms mp : Option Value) : Str → Option Value := fun y => if y = Str.ofString "part" then mp else if y = Str.ofString "start" then ms else if y = Str.ofString "full" then mu else if y = Str.ofString "wider" then mw else if y = Str.ofString "grown" then mg else if y = Str.ofString "heard" then mh else if y = Str.ofString "figure" then mf else if y = Str.ofString "times" then mt else
  if y = Str.ofString "figures" then some (.ref FL) else if y = Str.ofString "lexer" then some (.ref LX) else if y = Str.ofString "text" then some (.str text tx) else if y = Str.ofString "inner" then some (.str inner tb) else if y = Str.ofString "script" then some (.ref S) else none
theorem l2_heard {g h : Heap} {L S FL LX : Addr} {text inner : Str} {tx tb : Tok} {mh mg mw mf mt mu ms mp : Option Value} {v : Value} (F : Fr g L h (fun y => if y = Str.ofString "heard" then some v else l2Fr S FL LX text inner tx tb mh mg mw mf mt mu ms mp y)) : Fr g L h (l2Fr S FL LX text inner tx tb (some v) mg mw mf mt mu ms mp) := fr_to F fun y => by
  by_cases h1 : y = Str.ofString "heard"
  · subst h1; kernel_rfl
  · simp only [l2Fr, if_neg h1]
theorem l2_grown {g h : Heap} {L S FL LX : Addr} {text inner : Str} {tx tb : Tok} {mh mg mw mf mt mu ms mp : Option Value} {v : Value} (F : Fr g L h (fun y => if y = Str.ofString "grown" then some v else l2Fr S FL LX text inner tx tb mh mg mw mf mt mu ms mp y)) : Fr g L h (l2Fr S FL LX text inner tx tb mh (some v) mw mf mt mu ms mp) := fr_to F fun y => by
  by_cases h1 : y = Str.ofString "grown"
  · subst h1; kernel_rfl
  · simp only [l2Fr, if_neg h1]
theorem l2_wider {g h : Heap} {L S FL LX : Addr} {text inner : Str} {tx tb : Tok} {mh mg mw mf mt mu ms mp : Option Value} {v : Value} (F : Fr g L h (fun y => if y = Str.ofString "wider" then some v else l2Fr S FL LX text inner tx tb mh mg mw mf mt mu ms mp y)) : Fr g L h (l2Fr S FL LX text inner tx tb mh mg (some v) mf mt mu ms mp) := fr_to F fun y => by
  by_cases h1 : y = Str.ofString "wider"
  · subst h1; kernel_rfl
  · simp only [l2Fr, if_neg h1]
theorem l2_figure {g h : Heap} {L S FL LX : Addr} {text inner : Str} {tx tb : Tok} {mh mg mw mf mt mu ms mp : Option Value} {v : Value} (F : Fr g L h (fun y => if y = Str.ofString "figure" then some v else l2Fr S FL LX text inner tx tb mh mg mw mf mt mu ms mp y)) : Fr g L h (l2Fr S FL LX text inner tx tb mh mg mw (some v) mt mu ms mp) := fr_to F fun y => by
  by_cases h1 : y = Str.ofString "figure"
  · subst h1; kernel_rfl
  · simp only [l2Fr, if_neg h1]
theorem l2_times {g h : Heap} {L S FL LX : Addr} {text inner : Str} {tx tb : Tok} {mh mg mw mf mt mu ms mp : Option Value} {v : Value} (F : Fr g L h (fun y => if y = Str.ofString "times" then some v else l2Fr S FL LX text inner tx tb mh mg mw mf mt mu ms mp y)) : Fr g L h (l2Fr S FL LX text inner tx tb mh mg mw mf (some v) mu ms mp) := fr_to F fun y => by
  by_cases h1 : y = Str.ofString "times"
  · subst h1; kernel_rfl
  · simp only [l2Fr, if_neg h1]
theorem l2_full {g h : Heap} {L S FL LX : Addr} {text inner : Str} {tx tb : Tok} {mh mg mw mf mt mu ms mp : Option Value} {v : Value} (F : Fr g L h (fun y => if y = Str.ofString "full" then some v else l2Fr S FL LX text inner tx tb mh mg mw mf mt mu ms mp y)) : Fr g L h (l2Fr S FL LX text inner tx tb mh mg mw mf mt (some v) ms mp) := fr_to F fun y => by
  by_cases h1 : y = Str.ofString "full"
  · subst h1; kernel_rfl
  · simp only [l2Fr, if_neg h1]
theorem l2_sp {g h : Heap} {L S FL LX : Addr} {text inner : Str} {tx tb : Tok} {mh mg mw mf mt mu ms mp : Option Value} {v v2 : Value} (F : Fr g L h (fun y => if y = Str.ofString "part" then some v else if y = Str.ofString "start" then some v2 else l2Fr S FL LX text inner tx tb mh mg mw mf mt mu ms mp y)) : Fr g L h (l2Fr S FL LX text inner tx tb mh mg mw mf mt mu (some v2) (some v)) := fr_to F fun y => by
  by_cases h1 : y = Str.ofString "part"
  · subst h1; kernel_rfl
  · by_cases h2 : y = Str.ofString "start"
    · subst h2; kernel_rfl
    · simp only [l2Fr, if_neg h1, if_neg h2]
section
variable (w : World) (a : LexAt) (g : Heap) (L0 : Addr) (s1 : Shared) (n0 : Int) (rest : List Str)
/-- the state between the loops that push the first words -/
def PSt (fr : Option Value → Option Value → Str → Option Value) (r2 : List (Addr × Obj)) (I1 : Addr) (tm : Nat) (tt : Tok) (oI : Obj) (q : List (List Nat)) (s' : Shared) : Prop :=
  ∀ Z : Shared → Prop, (∀ (mf : Option Value) (ysQ cs : List Value) (cq : Nat) (tn : Tok) (cc : Nat) (h : Heap) (tk : Nat), StrsAre ysQ (q.map ofL) → StrsAre cs rest → Fr g L0 h (fr mf (some (.int (tm : Int) tt))) → News g L0 h (LexW w a ysQ cq n0 tn cs cc ++ ((I1, oI) :: r2)) → Z { s1 with heap := h, toks := tk }) → Z s'
variable {w a g L0 s1 n0 rest}
theorem pst_all {fr : Option Value → Option Value → Str → Option Value} {r2 : List (Addr × Obj)} {I1 : Addr} {tm : Nat} {tt : Tok} {oI : Obj} {q : List (List Nat)} {Z : Shared → Prop} (d : ∀ (mf : Option Value) (ysQ cs : List Value) (cq : Nat) (tn : Tok) (cc : Nat) (h : Heap) (tk : Nat), StrsAre ysQ (q.map ofL) → StrsAre cs rest → Fr g L0 h (fr mf (some (.int (tm : Int) tt))) → News g L0 h (LexW w a ysQ cq n0 tn cs cc ++ ((I1, oI) :: r2)) → Z { s1 with heap := h, toks := tk }) :
    ∀ s', PSt w a g L0 s1 n0 rest fr r2 I1 tm tt oI q s' → Z s' := fun _ hp => hp Z d
theorem PSt.mk {fr : Option Value → Option Value → Str → Option Value} {r2 : List (Addr × Obj)} {I1 : Addr} {tm : Nat} {tt : Tok} {oI : Obj} {q : List (List Nat)} {mf : Option Value} {ysQ cs : List Value} {cq : Nat} {tn : Tok} {cc : Nat} {h : Heap} {tk : Nat} (hQ : StrsAre ysQ (q.map ofL)) (hC : StrsAre cs rest) (F : Fr g L0 h (fr mf (some (.int (tm : Int) tt)))) (N : News g L0 h (LexW w a ysQ cq n0 tn cs cc ++ ((I1, oI) :: r2))) :
    PSt w a g L0 s1 n0 rest fr r2 I1 tm tt oI q { s1 with heap := h, toks := tk } := fun _ k => k _ _ _ _ _ _ _ _ hQ hC F N
variable (w a n0 rest)
/-- the word of a loop that pushes words: kids: what its first turns push -/
def PJ (fr : Option Value → Option Value → Str → Option Value) (R : List (Addr × Obj)) (q : List (List Nat)) (kids : Nat → List (List Nat)) (i : Nat) (m : Str → Option Value) (nx : List (Addr × Obj)) : Prop :=
  ∀ Z : (Str → Option Value) → List (Addr × Obj) → Prop, (∀ (mw mf : Option Value) (ysQ cs : List Value) (cq : Nat) (tn : Tok) (cc : Nat), StrsAre ysQ ((q ++ kids i).map ofL) → StrsAre cs rest → Z (fr mw mf) (LexW w a ysQ cq n0 tn cs cc ++ R)) → Z m nx
variable {w a n0 rest}
theorem pj_all {fr : Option Value → Option Value → Str → Option Value} {R : List (Addr × Obj)} {q : List (List Nat)} {kids : Nat → List (List Nat)} {i : Nat} {Z : (Str → Option Value) → List (Addr × Obj) → Prop} (d : ∀ (mw mf : Option Value) (ysQ cs : List Value) (cq : Nat) (tn : Tok) (cc : Nat), StrsAre ysQ ((q ++ kids i).map ofL) → StrsAre cs rest → Z (fr mw mf) (LexW w a ysQ cq n0 tn cs cc ++ R)) :
    ∀ m nx, PJ w a n0 rest fr R q kids i m nx → Z m nx := fun _ _ hp => hp Z d
theorem PJ.mk {fr : Option Value → Option Value → Str → Option Value} {R : List (Addr × Obj)} {q : List (List Nat)} {kids : Nat → List (List Nat)} {i : Nat} {mw mf : Option Value} {ysQ cs : List Value} {cq : Nat} {tn : Tok} {cc : Nat} (hQ : StrsAre ysQ ((q ++ kids i).map ofL)) (hC : StrsAre cs rest) :
    PJ w a n0 rest fr R q kids i (fr mw mf) (LexW w a ysQ cq n0 tn cs cc ++ R) := fun _ k => k _ _ _ _ _ _ _ hQ hC
theorem pj_mem {fr : Option Value → Option Value → Str → Option Value} {R : List (Addr × Obj)} {q : List (List Nat)} {kids : Nat → List (List Nat)} {x : Addr × Obj} (hx : x ∈ R) : ∀ i m nx, PJ w a n0 rest fr R q kids i m nx → x ∈ nx := fun _ _ _ hp => hp (fun _ nx => x ∈ nx) fun _ _ _ _ _ _ _ _ _ => List.mem_append_right _ hx
variable (w a g L0 s1 n0 rest)
/-- the state at the head of the while loop -/
def WSt (H : Addr) (r2 : List (Addr × Obj)) (fr : Option Value → Option Value → Option Value → Str → Option Value) (fs word : List Nat) (k : Nat) (s' : Shared) : Prop :=
  ∀ Z : Shared → Prop, (∀ (heard gl : List (List Nat)) (grown : List Nat) (ysH ysQ cs : List Value) (cH cq : Nat) (tn : Tok) (cc : Nat) (tg : Tok) (mw mf : Option Value) (h : Heap) (tk : Nat), BInv fs word heard gl → heard.length + k = 50 → GSt rest gl grown ysQ cs → StrsAre ysH (heard.map ofL) → Fr g L0 h (fr (some (.str (ofL grown) tg)) mw mf) → News g L0 h (LexW w a ysQ cq n0 tn cs cc ++ ((H, PySem.W.listOf ysH.toArray cH) :: r2)) → Z { s1 with heap := h, toks := tk }) → Z s'
def WEnd (H : Addr) (r2 : List (Addr × Obj)) (fr : Option Value → Option Value → Option Value → Str → Option Value) (fs word : List Nat) (s' : Shared) : Prop :=
  ∀ Z : Shared → Prop, (∀ (heard : List (List Nat)) (ysH : List Value) (cH cq : Nat) (tn : Tok) (cc : Nat) (mg mw mf : Option Value) (h : Heap) (tk : Nat), BInv fs word heard [] → StrsAre ysH (heard.map ofL) → Fr g L0 h (fr mg mw mf) → News g L0 h (LexW w a [] cq n0 tn [] cc ++ ((H, PySem.W.listOf ysH.toArray cH) :: r2)) → Z { s1 with heap := h, toks := tk }) → Z s'
variable {w a g L0 s1 n0 rest}
theorem wst_all {H : Addr} {r2 : List (Addr × Obj)} {fr : Option Value → Option Value → Option Value → Str → Option Value} {fs word : List Nat} {Z : Nat → Shared → Prop} (d : ∀ (k : Nat) (heard gl : List (List Nat)) (grown : List Nat) (ysH ysQ cs : List Value) (cH cq : Nat) (tn : Tok) (cc : Nat) (tg : Tok) (mw mf : Option Value) (h : Heap) (tk : Nat), BInv fs word heard gl → heard.length + k = 50 → GSt rest gl grown ysQ cs → StrsAre ysH (heard.map ofL) → Fr g L0 h (fr (some (.str (ofL grown) tg)) mw mf) → News g L0 h (LexW w a ysQ cq n0 tn cs cc ++ ((H, PySem.W.listOf ysH.toArray cH) :: r2)) → Z k { s1 with heap := h, toks := tk }) :
    ∀ k s', WSt w a g L0 s1 n0 rest H r2 fr fs word k s' → Z k s' := fun k _ hp => hp (Z k) (d k)
theorem WSt.mk {H : Addr} {r2 : List (Addr × Obj)} {fr : Option Value → Option Value → Option Value → Str → Option Value} {fs word : List Nat} {k : Nat} {heard gl : List (List Nat)} {grown : List Nat} {ysH ysQ cs : List Value} {cH cq : Nat} {tn : Tok} {cc : Nat} {tg : Tok} {mw mf : Option Value} {h : Heap} {tk : Nat} (h1 : BInv fs word heard gl) (h2 : heard.length + k = 50) (h3 : GSt rest gl grown ysQ cs) (h4 : StrsAre ysH (heard.map ofL)) (F : Fr g L0 h (fr (some (.str (ofL grown) tg)) mw mf)) (N : News g L0 h (LexW w a ysQ cq n0 tn cs cc ++ ((H, PySem.W.listOf ysH.toArray cH) :: r2))) :
    WSt w a g L0 s1 n0 rest H r2 fr fs word k { s1 with heap := h, toks := tk } := fun _ k => k _ _ _ _ _ _ _ _ _ _ _ _ _ _ _ h1 h2 h3 h4 F N
theorem wend_all {H : Addr} {r2 : List (Addr × Obj)} {fr : Option Value → Option Value → Option Value → Str → Option Value} {fs word : List Nat} {Z : Shared → Prop} (d : ∀ (heard : List (List Nat)) (ysH : List Value) (cH cq : Nat) (tn : Tok) (cc : Nat) (mg mw mf : Option Value) (h : Heap) (tk : Nat), BInv fs word heard [] → StrsAre ysH (heard.map ofL) → Fr g L0 h (fr mg mw mf) → News g L0 h (LexW w a [] cq n0 tn [] cc ++ ((H, PySem.W.listOf ysH.toArray cH) :: r2)) → Z { s1 with heap := h, toks := tk }) :
    ∀ s', WEnd w a g L0 s1 n0 H r2 fr fs word s' → Z s' := fun _ hp => hp Z d
theorem WEnd.mk {H : Addr} {r2 : List (Addr × Obj)} {fr : Option Value → Option Value → Option Value → Str → Option Value} {fs word : List Nat} {heard : List (List Nat)} {ysH : List Value} {cH cq : Nat} {tn : Tok} {cc : Nat} {mg mw mf : Option Value} {h : Heap} {tk : Nat} (h1 : BInv fs word heard []) (h4 : StrsAre ysH (heard.map ofL)) (F : Fr g L0 h (fr mg mw mf)) (N : News g L0 h (LexW w a [] cq n0 tn [] cc ++ ((H, PySem.W.listOf ysH.toArray cH) :: r2))) :
    WEnd w a g L0 s1 n0 H r2 fr fs word { s1 with heap := h, toks := tk } := fun _ k => k _ _ _ _ _ _ _ _ _ _ _ h1 h4 F N
end
/-- the words of the last two loops -/
def SJ (fr : Bool → Option Value → Option Value → Str → Option Value) (L3 : Addr) (R : List (Addr × Obj)) (full : Nat → Bool) (i : Nat) (m : Str → Option Value) (nx : List (Addr × Obj)) : Prop :=
  ∀ Z : (Str → Option Value) → List (Addr × Obj) → Prop, (∀ (ms mp : Option Value) (o : Obj) (c : Option Value), o.data = Data.cell c → Z (fr (full i) ms mp) ((L3, o) :: R)) → Z m nx
theorem sj_all {fr : Bool → Option Value → Option Value → Str → Option Value} {L3 : Addr} {R : List (Addr × Obj)} {full : Nat → Bool} {i : Nat} {Z : (Str → Option Value) → List (Addr × Obj) → Prop} (d : ∀ (ms mp : Option Value) (o : Obj) (c : Option Value), o.data = Data.cell c → Z (fr (full i) ms mp) ((L3, o) :: R)) : ∀ m nx, SJ fr L3 R full i m nx → Z m nx := fun _ _ hp => hp Z d
theorem SJ.mk {fr : Bool → Option Value → Option Value → Str → Option Value} {L3 : Addr} {R : List (Addr × Obj)} {full : Nat → Bool} {i : Nat} {b : Bool} {ms mp : Option Value} {o : Obj} {c : Option Value} (hb : b = full i) (h : o.data = Data.cell c) : SJ fr L3 R full i (fr b ms mp) ((L3, o) :: R) := hb ▸ fun _ k => k _ _ _ _ h
def TJ (fr : Bool → Option Value → Option Value → Str → Option Value) (R : List (Addr × Obj)) (full : Nat → Bool) (i : Nat) (m : Str → Option Value) (nx : List (Addr × Obj)) : Prop :=
  ∀ Z : (Str → Option Value) → List (Addr × Obj) → Prop, (∀ (ms mp : Option Value), Z (fr (full i) ms mp) R) → Z m nx
theorem tj_all {fr : Bool → Option Value → Option Value → Str → Option Value} {R : List (Addr × Obj)} {full : Nat → Bool} {i : Nat} {Z : (Str → Option Value) → List (Addr × Obj) → Prop} (d : ∀ (ms mp : Option Value), Z (fr (full i) ms mp) R) : ∀ m nx, TJ fr R full i m nx → Z m nx := fun _ _ hp => hp Z d
theorem TJ.mk {fr : Bool → Option Value → Option Value → Str → Option Value} {R : List (Addr × Obj)} {full : Nat → Bool} {i : Nat} {b : Bool} {ms mp : Option Value} (hb : b = full i) : TJ fr R full i (fr b ms mp) R := hb ▸ fun _ k => k _ _
theorem part_len {l : List Nat} {a b : Nat} : ((l.drop a).take b).length ≤ l.length := by
  rw [List.length_take, List.length_drop]
  exact Nat.le_trans (Nat.min_le_right _ _) (Nat.sub_le _ _)
theorem take_len {l : List Nat} {b : Nat} : (l.take b).length ≤ l.length := by
  rw [List.length_take]
  exact Nat.min_le_right _ _
theorem k_pos {h q k : Nat} (hk : h + k = 50) (hl : h + (q + 1) ≤ 49) : ∃ k', k = k' + 1 := ⟨k - 1, by omega⟩
theorem push_sz {a q p h : Nat} (e : a = q + p) (hq : h + (q + 1) ≤ 49) (hp : p ≤ 15) : a ≤ 1000 := by omega
theorem push_sz2 {a q p : Nat} (e : a = q + p) (hq : q ≤ 100) (hp : p ≤ 15) : a ≤ 1000 := by omega

end
section
local macro_rules | `(tactic| walk_at "call builtin:list.append") => `(tactic| refine hold_in ?_)
local macro_rules | `(tactic| walk_at "exec While Compare cons nil") => `(tactic| refine hold_in ?_)
local macro_rules | `(tactic| walk_at "binaryOp Add str str") => `(tactic| refine hold_in ?_)
local macro_rules | `(tactic| walk_at "binaryOp Pow int int") => `(tactic| refine hold_in ?_)
local macro_rules | `(tactic| walk_at "eval IfExp") => `(tactic| ((with_reducible show wpAny _ _ (eval (Expr.IfExp _ (Expr.BinOp _ _ _ _) _ _) _) _ _ _); refine hold_in ?_))
theorem cut_val {M : Model} {A : Around} {c : Sem Value} {E : Value → Shared → Prop} {Q : Value → Shared → Prop} {s : Shared} (P : Value → Shared → Prop) (h : wpAny M A c P E s) (k : ∀ v s', P v s' → Q v s') : wpAny M A c Q E s := wpAny_mono h k fun _ _ e => e
local macro_rules | `(tactic| walk_at "call builtin:chr") => `(tactic| refine hold_in ?_)
local macro_rules | `(tactic| walk_at "call ref") => `(tactic| refine hold_in ?_)
local macro_rules | `(tactic| walk_at "eval ListComp") => `(tactic| ((with_reducible show wpAny _ _ (eval (Expr.ListComp (Expr.Call _ _ _ _) _ _ _) _) _ _ _); refine hold_in ?_))
local macro_rules | `(tactic| walk_at "eval ListComp") => `(tactic| ((with_reducible show wpAny _ _ (eval (Expr.ListComp (Expr.BinOp _ Operator.Add _ _) _ _ _) _) _ _ _); refine hold_in ?_))
local macro_rules | `(tactic| walk_at "subscriptTail List cons Slice ref ref") => `(tactic| refine hold_in ?_)
local macro_rules | `(tactic| walk_at "compareOp NotEq ref ref") => `(tactic| refine hold_in ?_)
local macro_rules | `(tactic| walk_at "exec For Name Call cons nil") => `(tactic| refine hold_in ?_)
local macro_rules | `(tactic| walk_at "exec For Name Name cons nil") => `(tactic| refine hold_in ?_)
local macro_rules | `(tactic| walk_at "pyIter ref") => `(tactic| ((with_reducible show wpAny _ _ (pyIter (Value.ref _)) (fun it s₂ => codeAny _ _ (Code.forLoop _ _ _ _ _) _ _) _ _); refine hold_in ?_))
local macro_rules | `(tactic| walk_at "CompSrcT") => `(tactic| refine hold_in ?_)
theorem cut_cont {M : Model} {A : Around} {c : Code} {R : Result → Shared → Prop} {s : Shared} (End : Shared → Prop) (h : ∀ R' : Result → Shared → Prop, (∀ s', End s' → R' (.ok .next) s') → codeAny M A c R' s) (k : ∀ s', End s' → R (.ok .next) s') : codeAny M A c R s := h R k
theorem strs_ne_same {prog : Program} {w : World} {A : Around} {E : Value → Shared → Prop} {s : Shared} {Q : Value → Shared → Prop} {g : Heap} {L a b : Addr} {news : List (Addr × Obj)} {xs ys : List Value} {ns : List Str} {n m : Nat} (N : News g L s.heap news) (ha : (a, PySem.W.listOf xs.toArray n) ∈ news) (hb : (b, PySem.W.listOf ys.toArray m) ∈ news) (hi : StrsAre xs ns) (hj : StrsAre ys ns) (hu : A.units + 64 < cLine) (h : Q (.bool false) s) :
    wpAny (model prog w) A (compareOp .NotEq (.ref a) (.ref b)) Q E s :=
  strs_ne ⟨_, (N _ ha).1, rfl, n, rfl⟩ ⟨_, (N _ hb).1, rfl, m, rfl⟩ hi hj hu (by rw [decide_eq_true rfl]; exact h)
def StrEnd (x : Str) (s1 : Shared) (h : Heap) (v : Value) (s' : Shared) : Prop := ∃ t tk', v = .str x t ∧ s' = { s1 with heap := h, toks := tk' }
theorem StrEnd.mk {x : Str} {s1 : Shared} {h : Heap} {t : Tok} {tk' : Nat} : StrEnd x s1 h (.str x t) { s1 with heap := h, toks := tk' } := ⟨t, tk', rfl, rfl⟩
set_option pp.maxSteps 3000
set_option maxHeartbeats 8000000 in
theorem law_holds : PySem.Challenge.rw_sc0030_02.Holds := Mine.hd (by
  k_go0
  all_goals try k_fold
  k_with_none
  dsimp only
  with_reducible rename World => w0
  with_reducible rename List Int => ns
  with_reducible rename IntsAre _ _ => hns
  with_reducible rename ¬(_ : Int) < _ => hlen
  with_reducible rename Heap.IsList (ghostOf _ _) _ _ => hlist
  with_reducible rename Fr _ _ _ _ => F0
  with_reducible rename News _ _ _ _ => N0
  with_reducible rename Below _ _ _ _ => B0
  with_reducible rename Frag.In _ (ghostOf _ _) => X0
  with_reducible rename Top topProg _ _ _ _ _ => T0
  with_reducible rename CodeHd _ _ _ => hC9
  rename CodeHd _ (109, 105).1 _ => hC10
  with_reducible rename CellsAre _ _ _ => Y0
  clear Y0
  rename_i oS oW oT dS dW dT lo0
  replace dS : oS.data = Data.cell none := dS
  replace dW : oW.data = Data.cell none := dW
  replace dT : oT.data = Data.cell none := dT
  obtain ⟨S, hS⟩ := name_list hlist
  subst hS
  replace F0 := fr_to (m' := fun y => if y = Str.ofString "script" then some (.ref S) else none) F0 (fun y => by
    by_cases h1 : y = Str.ofString "script"
    · subst h1; rfl
    · exact (if_neg h1).trans (if_neg h1).symm)
  repeat (with_reducible rename Heap.CodeRec _ _ _ => zz; clear zz)
  repeat (with_reducible rename Dflts _ _ _ => zz; clear zz)
  repeat (with_reducible rename Ground _ _ _ _ _ _ _ _ _ => zz; clear zz)
  repeat (with_reducible rename Flt.MathXP _ _ _ => zz; clear zz)
  repeat (with_reducible rename LooseAre _ _ _ => zz; clear zz)
  repeat (with_reducible rename Tables _ _ _ _ => zz; clear zz)
  repeat (with_reducible rename TopE _ _ _ _ => zz; clear zz)
  repeat (with_reducible rename TopW _ _ _ => zz; clear zz)
  repeat (with_reducible rename TabsAt _ _ => zz; clear zz)
  repeat (with_reducible rename ReadsAll _ _ _ _ => zz; clear zz)
  repeat (with_reducible rename ReadsAllW _ _ _ _ _ _ => zz; clear zz)
  repeat (with_reducible rename Well _ _ _ _ => zz; clear zz)
  repeat (with_reducible rename Reads _ _ _ _ => zz; clear zz)
  with_reducible rename Heap.get? _ _ = some _ => ho
  with_reducible rename Shared => s1
  obtain ⟨L0, hL0⟩ : ∃ x : Nat, x = s1.heap.objs.size := ⟨_, rfl⟩
  obtain ⟨g, hg⟩ : ∃ g, g = ghostOf s1.heap [(109, 105), (76, 72)] := ⟨_, rfl⟩
  rw [← hL0] at N0
  rw [← hL0] at F0
  rw [← hL0] at lo0
  rw [← hg] at N0 F0 X0 B0 T0 hC9 hC10 hlist
  replace hC9 : CodeHd g 76 72 := hC9
  replace hC10 : CodeHd g 109 105 := hC10
  obtain ⟨l105, l72⟩ := lo0
  rw [← hL0]
  (repeat' (first |  (k_unfold; (try dsimp only)) | (k_here; (with_reducible show wpAny _ _ (eval (Expr.Name _ _) (compEnv _ _ _)) _ _ _); k_dflt (first | (refine name_locS rfl rfl rfl (by decide) (by with_reducible assumption) (by assumption) ?_; k_whole) | (refine nameG_BS rfl rfl rfl rfl (by decide) (by k_asm) (by k_asm) (by k_asm) (by k_is) (by boot_fast) (by decide) ?_; k_whole))) | (k_here; (with_reducible show wpAny _ _ (call (Value.type _) [Value.str _ _]) _ _ _); k_dflt (refine list_strN rfl (by k_asm) (by k_asm) ?_ (by rw [sizeLine_eq]; omega)); intro D9 ys9 c9 h9 tk9 F9 N9 l9 m9 hS9; (try k_lt l9); (try k_sweep)) | (k_here; (with_reducible show wpAny _ _ (compareOp CmpOp.Eq (Value.ref _) (Value.ref _)) _ _ _); k_dflt (refine strs_eq (by is_list) (by is_list) (by first | k_asm | exact StrsAre.nil) (by first | exact StrsAre.nil | k_asm) (by ke_room) ?_)) | (k_here; (with_reducible show wpAny _ _ (call (Value.builtin _) [Value.ref _, Value.int 0 _]) _ _ _); k_dflt (refine pop_first (by k_asm) (by k_asm) (by k_upd) (by (rw [sizeLine_eq]; (try have hL9 := PyProof.Rows.StrsAre.length (by assumption)); (try simp only [List.length_cons] at *); omega)) ?_; k_whole); intro h9 F9 N9; (try k_sweep)) | (k_here; (with_reducible show wpAny _ _ (call (Value.builtin "len") [Value.str _ _]) _ _ _); refine len_str (by omega) ?_) | (k_here; (with_reducible show wpAny _ _ (call (Value.builtin "len") [Value.ref _]) _ _ _); k_dflt (refine len_strsA (by is_list) (by assumption) (by ((try simp only [List.length_map]); omega)) ?_; k_whole); (try simp only [List.length_map])) | walk1 | (k_here; (with_reducible show wpAny _ _ (compareOp CmpOp.NotEq (Value.ref _) (Value.ref _)) _ _ _); k_dflt (first | refine strs_ne_nil (by is_list) (by is_list) (by ke_room) ?_ | refine strs_ne_cons (by is_list) (by is_list) (by k_asm) (by ke_room) ?_ | refine strs_ne (by is_list) (by is_list) (by first | k_asm | exact StrsAre.nil) (by first | exact StrsAre.nil | k_asm) (by ke_room) ?_)) | (dsimp only; walk1) | (dsimp only; k_unfold; (try dsimp only)) | fail "no step"))
  refine hold_out ?_
  with_reducible rename News _ _ _ _ => N1
  with_reducible rename Fr _ _ _ _ => F1
  with_reducible rename Obj.data _ = Data.cell (some _) => dT'
  with_reducible rename Heap => h9
  obtain ⟨total, hT⟩ : ∃ x, x = (List.map (fun k' => Int.fmod k' 1000000) (List.take 63 ns)).sum := ⟨_, rfl⟩
  rw [← hT] at dT'
  have hpk : ∃ (oT' : Obj) (t1 : Tok), oT'.data = .cell (some (.int total t1)) ∧ News g L0 h9 [(L0 + 1 + 1 + 1, oS), (L0 + 1 + 1, oW), (L0 + 1, oT'), (105, tabObj #[]), (72, tabObj #[])] :=
    ⟨_, _, dT', fun p hp => N1 p (by revert p hp; (repeat (first | exact List.forall_mem_nil _ | refine List.forall_mem_cons.mpr ⟨by k_mem, ?_⟩)))⟩
  refine ex2 hpk ?_
  intro oT' t1 hp9
  refine and2 hp9 ?_
  clear hp9
  intro dT2 N2
  clear N1 dT' dT
  repeat (with_reducible rename _ ∧ _ ∧ _ => zz; clear zz)
  refine comp_U (F₀ := F1) (by with_unfolding_all rfl) (by decide) (by rfl) (by decide) (by rfl) ?_
  (repeat' (first |  (k_unfold; (try dsimp only)) | (k_here; (with_reducible show wpAny _ _ (eval (Expr.Name _ _) (compEnv _ _ _)) _ _ _); k_dflt (first | (refine name_locS rfl rfl rfl (by decide) (by with_reducible assumption) (by assumption) ?_; k_whole) | (refine nameG_BS rfl rfl rfl rfl (by decide) (by k_asm) (by k_asm) (by k_asm) (by k_is) (by boot_fast) (by decide) ?_; k_whole))) | (k_here; (with_reducible show wpAny _ _ (call (Value.type _) [Value.str _ _]) _ _ _); k_dflt (refine list_strN rfl (by k_asm) (by k_asm) ?_ (by rw [sizeLine_eq]; omega)); intro D9 ys9 c9 h9 tk9 F9 N9 l9 m9 hS9; (try k_lt l9); (try k_sweep)) | (k_here; (with_reducible show wpAny _ _ (compareOp CmpOp.Eq (Value.ref _) (Value.ref _)) _ _ _); k_dflt (refine strs_eq (by is_list) (by is_list) (by first | k_asm | exact StrsAre.nil) (by first | exact StrsAre.nil | k_asm) (by ke_room) ?_)) | (k_here; (with_reducible show wpAny _ _ (call (Value.builtin _) [Value.ref _, Value.int 0 _]) _ _ _); k_dflt (refine pop_first (by k_asm) (by k_asm) (by k_upd) (by (rw [sizeLine_eq]; (try have hL9 := PyProof.Rows.StrsAre.length (by assumption)); (try simp only [List.length_cons] at *); omega)) ?_; k_whole); intro h9 F9 N9; (try k_sweep)) | (k_here; (with_reducible show wpAny _ _ (call (Value.builtin "len") [Value.str _ _]) _ _ _); refine len_str (by omega) ?_) | (k_here; (with_reducible show wpAny _ _ (call (Value.builtin "len") [Value.ref _]) _ _ _); k_dflt (refine len_strsA (by is_list) (by assumption) (by ((try simp only [List.length_map]); omega)) ?_; k_whole); (try simp only [List.length_map])) | walk1 | (k_here; (with_reducible show wpAny _ _ (compareOp CmpOp.NotEq (Value.ref _) (Value.ref _)) _ _ _); k_dflt (first | refine strs_ne_nil (by is_list) (by is_list) (by ke_room) ?_ | refine strs_ne_cons (by is_list) (by is_list) (by k_asm) (by ke_room) ?_ | refine strs_ne (by is_list) (by is_list) (by first | k_asm | exact StrsAre.nil) (by first | exact StrsAre.nil | k_asm) (by ke_room) ?_)) | (dsimp only; walk1) | (dsimp only; k_unfold; (try dsimp only)) | fail "no step"))
  refine hold_out ?_
  refine kba_turn (value' := PySem.Expr.Name (PySem.Str.ofString "_") ⟨0, 0, 0, 0⟩) (fun _ => rfl) ?_
  have hI4 : ∀ a b c d : Tok, IntsAre [.int 0 a, .int 1 b, .int 2 c, .int 0 d] [0, 1, 2, 0] := fun a b c d => .cons _ _ (.cons _ _ (.cons _ _ (.cons _ _ .nil)))
  refine' kmk_slice_ints ?F ?N ?kl ?kp ?kq ?ki ?km rfl ?_ ?ks ?kt ?kz
  case F => k_asm
  case N => k_asm
  case kl => kmk_list
  case kp => kmk_part
  case kq => kmk_part
  case ki => exact hI4 _ _ _ _
  case km => exact kmk_from (hI4 _ _ _ _) (by omega)
  case ks => with_unfolding_all rfl
  case kt => kmk_pure
  case kz => exact Nat.le_of_ble_eq_true rfl
  intro D' ws' h' F' N' l1 hI' hC' hL'
  k_lt l1
  rw [Int.toNat_natCast] at hI' hC' hL'
  (repeat' (first |  (k_unfold; (try dsimp only)) | (k_here; (with_reducible show wpAny _ _ (eval (Expr.Name _ _) (compEnv _ _ _)) _ _ _); k_dflt (first | (refine name_locS rfl rfl rfl (by decide) (by with_reducible assumption) (by assumption) ?_; k_whole) | (refine nameG_BS rfl rfl rfl rfl (by decide) (by k_asm) (by k_asm) (by k_asm) (by k_is) (by boot_fast) (by decide) ?_; k_whole))) | (k_here; (with_reducible show wpAny _ _ (call (Value.type _) [Value.str _ _]) _ _ _); k_dflt (refine list_strN rfl (by k_asm) (by k_asm) ?_ (by rw [sizeLine_eq]; omega)); intro D9 ys9 c9 h9 tk9 F9 N9 l9 m9 hS9; (try k_lt l9); (try k_sweep)) | (k_here; (with_reducible show wpAny _ _ (compareOp CmpOp.Eq (Value.ref _) (Value.ref _)) _ _ _); k_dflt (refine strs_eq (by is_list) (by is_list) (by first | k_asm | exact StrsAre.nil) (by first | exact StrsAre.nil | k_asm) (by ke_room) ?_)) | (k_here; (with_reducible show wpAny _ _ (call (Value.builtin _) [Value.ref _, Value.int 0 _]) _ _ _); k_dflt (refine pop_first (by k_asm) (by k_asm) (by k_upd) (by (rw [sizeLine_eq]; (try have hL9 := PyProof.Rows.StrsAre.length (by assumption)); (try simp only [List.length_cons] at *); omega)) ?_; k_whole); intro h9 F9 N9; (try k_sweep)) | (k_here; (with_reducible show wpAny _ _ (call (Value.builtin "len") [Value.str _ _]) _ _ _); refine len_str (by omega) ?_) | (k_here; (with_reducible show wpAny _ _ (call (Value.builtin "len") [Value.ref _]) _ _ _); k_dflt (refine len_strsA (by is_list) (by assumption) (by ((try simp only [List.length_map]); omega)) ?_; k_whole); (try simp only [List.length_map])) | walk1 | (k_here; (with_reducible show wpAny _ _ (compareOp CmpOp.NotEq (Value.ref _) (Value.ref _)) _ _ _); k_dflt (first | refine strs_ne_nil (by is_list) (by is_list) (by ke_room) ?_ | refine strs_ne_cons (by is_list) (by is_list) (by k_asm) (by ke_room) ?_ | refine strs_ne (by is_list) (by is_list) (by first | k_asm | exact StrsAre.nil) (by first | exact StrsAre.nil | k_asm) (by ke_room) ?_)) | (dsimp only; walk1) | (dsimp only; k_unfold; (try dsimp only)) | fail "no step"))
  refine hold_out ?_
  with_reducible rename IntsAre _ (_ ++ _) => hW
  obtain ⟨xs, hws⟩ : ∃ xs, xs = List.take 7 ns ++ List.drop ns.length [0, 1, 2, 0] := ⟨_, rfl⟩
  rw [← hws] at hW
  with_reducible rename List Value => ws
  with_reducible rename Heap => h9b
  with_reducible rename News _ _ _ _ => N3
  with_reducible rename Fr _ _ _ _ => F3
  have hxl : 4 ≤ xs.length ∧ xs.length ≤ 7 := by
    rw [hws, List.length_append, List.length_take, List.length_drop]
    simp only [List.length_cons, List.length_nil]
    omega
  have hwl := hW.length
  with_reducible rename Addr => SL
  have N4 : News g L0 h9b [(SL, PySem.W.listOf ws.toArray 0), (L0 + 1 + 1 + 1, oS), (L0 + 1 + 1, oW), (L0 + 1, oT'), (105, tabObj #[]), (72, tabObj #[])] := by
    refine fun p hp => N3 p ?_
    revert p hp
    (repeat (first | exact List.forall_mem_nil _ | refine List.forall_mem_cons.mpr ⟨by k_mem, ?_⟩))
  clear N3
  repeat (with_reducible rename _ ∧ _ ∧ _ => zz; clear zz)
  refine LCg.CompSrc.ledger (by rfl) F3 N4 (List.Mem.head _) (by rw [List.size_toArray, sizeLine_eq, hwl]; exact Nat.le_trans hxl.2 (by decide)) ?_
  intro g'
  refine rest_inv (xs.length) (fun i ys nx => nx = [(SL, PySem.W.listOf ws.toArray 0), (L0 + 1 + 1 + 1, oS), (L0 + 1 + 1, oW), (L0 + 1, oT'), (105, tabObj #[]), (72, tabObj #[])] ∧ StrsAre ys ((xs.take i).map fun x => ofL [letN total x])) ?turnW ?finW _ _ _ _ (by rw [Nat.zero_add, List.size_toArray, hwl]) ⟨rfl, StrsAre.nil⟩
  case turnW =>
    intro i ys nx v I oI C oC D m₂ h tk E' hi hI
    revert nx
    refine fix_all ?_
    intro hI hP hCo hx F' N' off ne
    obtain ⟨n, tn, hn, rfl⟩ := ints_get hW hP
    have hm3 := fmod_bd n 3 (by decide)
    have hm13 := fmod_bd total 13 (by decide)
    have hbd := letN_bd total n
    (repeat' (first |  (k_unfold; (try dsimp only)) | (k_here; (with_reducible show wpAny _ _ (eval (Expr.Name _ _) (compEnv _ _ _)) _ _ _); k_dflt (first | (refine name_locS rfl rfl rfl (by decide) (by with_reducible assumption) (by assumption) ?_; k_whole) | (refine nameG_BS rfl rfl rfl rfl (by decide) (by k_asm) (by k_asm) (by k_asm) (by k_is) (by boot_fast) (by decide) ?_; k_whole))) | (k_here; (with_reducible show wpAny _ _ (call (Value.type _) [Value.str _ _]) _ _ _); k_dflt (refine list_strN rfl (by k_asm) (by k_asm) ?_ (by rw [sizeLine_eq]; omega)); intro D9 ys9 c9 h9 tk9 F9 N9 l9 m9 hS9; (try k_lt l9); (try k_sweep)) | (k_here; (with_reducible show wpAny _ _ (compareOp CmpOp.Eq (Value.ref _) (Value.ref _)) _ _ _); k_dflt (refine strs_eq (by is_list) (by is_list) (by first | k_asm | exact StrsAre.nil) (by first | exact StrsAre.nil | k_asm) (by ke_room) ?_)) | (k_here; (with_reducible show wpAny _ _ (call (Value.builtin _) [Value.ref _, Value.int 0 _]) _ _ _); k_dflt (refine pop_first (by k_asm) (by k_asm) (by k_upd) (by (rw [sizeLine_eq]; (try have hL9 := PyProof.Rows.StrsAre.length (by assumption)); (try simp only [List.length_cons] at *); omega)) ?_; k_whole); intro h9 F9 N9; (try k_sweep)) | (k_here; (with_reducible show wpAny _ _ (call (Value.builtin "len") [Value.str _ _]) _ _ _); refine len_str (by omega) ?_) | (k_here; (with_reducible show wpAny _ _ (call (Value.builtin "len") [Value.ref _]) _ _ _); k_dflt (refine len_strsA (by is_list) (by assumption) (by ((try simp only [List.length_map]); omega)) ?_; k_whole); (try simp only [List.length_map])) | walk1 | (k_here; (with_reducible show wpAny _ _ (compareOp CmpOp.NotEq (Value.ref _) (Value.ref _)) _ _ _); k_dflt (first | refine strs_ne_nil (by is_list) (by is_list) (by ke_room) ?_ | refine strs_ne_cons (by is_list) (by is_list) (by k_asm) (by ke_room) ?_ | refine strs_ne (by is_list) (by is_list) (by first | k_asm | exact StrsAre.nil) (by first | exact StrsAre.nil | k_asm) (by ke_room) ?_)) | (dsimp only; walk1) | (dsimp only; k_unfold; (try dsimp only)) | fail "no step"))
    refine hold_out ?_
    refine chr_of_range hbd.1 (by omega) ?_
    (repeat' (first | ((with_reducible show LCg.CompEnd _ _ _ _ _ _ _ _ _ _ _ _ _ _); refine hold_in ?_) |  (k_unfold; (try dsimp only)) | (k_here; (with_reducible show wpAny _ _ (eval (Expr.Name _ _) (compEnv _ _ _)) _ _ _); k_dflt (first | (refine name_locS rfl rfl rfl (by decide) (by with_reducible assumption) (by assumption) ?_; k_whole) | (refine nameG_BS rfl rfl rfl rfl (by decide) (by k_asm) (by k_asm) (by k_asm) (by k_is) (by boot_fast) (by decide) ?_; k_whole))) | (k_here; (with_reducible show wpAny _ _ (call (Value.type _) [Value.str _ _]) _ _ _); k_dflt (refine list_strN rfl (by k_asm) (by k_asm) ?_ (by rw [sizeLine_eq]; omega)); intro D9 ys9 c9 h9 tk9 F9 N9 l9 m9 hS9; (try k_lt l9); (try k_sweep)) | (k_here; (with_reducible show wpAny _ _ (compareOp CmpOp.Eq (Value.ref _) (Value.ref _)) _ _ _); k_dflt (refine strs_eq (by is_list) (by is_list) (by first | k_asm | exact StrsAre.nil) (by first | exact StrsAre.nil | k_asm) (by ke_room) ?_)) | (k_here; (with_reducible show wpAny _ _ (call (Value.builtin _) [Value.ref _, Value.int 0 _]) _ _ _); k_dflt (refine pop_first (by k_asm) (by k_asm) (by k_upd) (by (rw [sizeLine_eq]; (try have hL9 := PyProof.Rows.StrsAre.length (by assumption)); (try simp only [List.length_cons] at *); omega)) ?_; k_whole); intro h9 F9 N9; (try k_sweep)) | (k_here; (with_reducible show wpAny _ _ (call (Value.builtin "len") [Value.str _ _]) _ _ _); refine len_str (by omega) ?_) | (k_here; (with_reducible show wpAny _ _ (call (Value.builtin "len") [Value.ref _]) _ _ _); k_dflt (refine len_strsA (by is_list) (by assumption) (by ((try simp only [List.length_map]); omega)) ?_; k_whole); (try simp only [List.length_map])) | walk1 | (k_here; (with_reducible show wpAny _ _ (compareOp CmpOp.NotEq (Value.ref _) (Value.ref _)) _ _ _); k_dflt (first | refine strs_ne_nil (by is_list) (by is_list) (by ke_room) ?_ | refine strs_ne_cons (by is_list) (by is_list) (by k_asm) (by ke_room) ?_ | refine strs_ne (by is_list) (by is_list) (by first | k_asm | exact StrsAre.nil) (by first | exact StrsAre.nil | k_asm) (by ke_room) ?_)) | (dsimp only; walk1) | (dsimp only; k_unfold; (try dsimp only)) | fail "no step"))
    refine hold_out (LCg.CompEnd.intro (by assumption) (by assumption) _ (fun p hp => hp) off (.inr ⟨_, .head _, rfl, _, rfl⟩) ⟨rfl, by rw [take_snoc hn]; exact hI.append' (StrsAre.cons _ _ StrsAre.nil)⟩)
  case finW =>
    intro ys
    refine fix_all ?_
    intro hI
    rw [List.take_length] at hI
    (repeat' (first |  (k_unfold; (try dsimp only)) | (k_here; (with_reducible show wpAny _ _ (eval (Expr.Name _ _) (compEnv _ _ _)) _ _ _); k_dflt (first | (refine name_locS rfl rfl rfl (by decide) (by with_reducible assumption) (by assumption) ?_; k_whole) | (refine nameG_BS rfl rfl rfl rfl (by decide) (by k_asm) (by k_asm) (by k_asm) (by k_is) (by boot_fast) (by decide) ?_; k_whole))) | (k_here; (with_reducible show wpAny _ _ (call (Value.type _) [Value.str _ _]) _ _ _); k_dflt (refine list_strN rfl (by k_asm) (by k_asm) ?_ (by rw [sizeLine_eq]; omega)); intro D9 ys9 c9 h9 tk9 F9 N9 l9 m9 hS9; (try k_lt l9); (try k_sweep)) | (k_here; (with_reducible show wpAny _ _ (compareOp CmpOp.Eq (Value.ref _) (Value.ref _)) _ _ _); k_dflt (refine strs_eq (by is_list) (by is_list) (by first | k_asm | exact StrsAre.nil) (by first | exact StrsAre.nil | k_asm) (by ke_room) ?_)) | (k_here; (with_reducible show wpAny _ _ (call (Value.builtin _) [Value.ref _, Value.int 0 _]) _ _ _); k_dflt (refine pop_first (by k_asm) (by k_asm) (by k_upd) (by (rw [sizeLine_eq]; (try have hL9 := PyProof.Rows.StrsAre.length (by assumption)); (try simp only [List.length_cons] at *); omega)) ?_; k_whole); intro h9 F9 N9; (try k_sweep)) | (k_here; (with_reducible show wpAny _ _ (call (Value.builtin "len") [Value.str _ _]) _ _ _); refine len_str (by omega) ?_) | (k_here; (with_reducible show wpAny _ _ (call (Value.builtin "len") [Value.ref _]) _ _ _); k_dflt (refine len_strsA (by is_list) (by assumption) (by ((try simp only [List.length_map]); omega)) ?_; k_whole); (try simp only [List.length_map])) | walk1 | (k_here; (with_reducible show wpAny _ _ (compareOp CmpOp.NotEq (Value.ref _) (Value.ref _)) _ _ _); k_dflt (first | refine strs_ne_nil (by is_list) (by is_list) (by ke_room) ?_ | refine strs_ne_cons (by is_list) (by is_list) (by k_asm) (by ke_room) ?_ | refine strs_ne (by is_list) (by is_list) (by first | k_asm | exact StrsAre.nil) (by first | exact StrsAre.nil | k_asm) (by ke_room) ?_)) | (dsimp only; walk1) | (dsimp only; k_unfold; (try dsimp only)) | fail "no step"))
    refine join_list (ys := xs.map fun x => ofL [letN total x]) (by is_list) hI ?_ ?_
    case refine_1 => rw [sum_ones _ (fun _ => rfl), show (Str.ofString "").length = 0 from rfl]; omega
    intro t' k'
    rw [join_ones]
    obtain ⟨word, hword⟩ : ∃ word, word = xs.map (letN total) := ⟨_, rfl⟩
    rw [← hword]
    have hbds : ∀ c ∈ word, 66 ≤ c ∧ c < 81 := by
      intro c hc
      rw [hword] at hc
      obtain ⟨x, _, rfl⟩ := List.mem_map.mp hc
      have := letN_bd total x
      omega
    have hwl2 : 4 ≤ word.length ∧ word.length ≤ 7 := by rw [hword, List.length_map]; exact hxl
    have hwl3 : (ofL word).length = word.length := rfl
    (repeat' (first |  (k_unfold; (try dsimp only)) | (k_here; (with_reducible show wpAny _ _ (eval (Expr.Name _ _) (compEnv _ _ _)) _ _ _); k_dflt (first | (refine name_locS rfl rfl rfl (by decide) (by with_reducible assumption) (by assumption) ?_; k_whole) | (refine nameG_BS rfl rfl rfl rfl (by decide) (by k_asm) (by k_asm) (by k_asm) (by k_is) (by boot_fast) (by decide) ?_; k_whole))) | (k_here; (with_reducible show wpAny _ _ (call (Value.type _) [Value.str _ _]) _ _ _); k_dflt (refine list_strN rfl (by k_asm) (by k_asm) ?_ (by rw [sizeLine_eq]; omega)); intro D9 ys9 c9 h9 tk9 F9 N9 l9 m9 hS9; (try k_lt l9); (try k_sweep)) | (k_here; (with_reducible show wpAny _ _ (compareOp CmpOp.Eq (Value.ref _) (Value.ref _)) _ _ _); k_dflt (refine strs_eq (by is_list) (by is_list) (by first | k_asm | exact StrsAre.nil) (by first | exact StrsAre.nil | k_asm) (by ke_room) ?_)) | (k_here; (with_reducible show wpAny _ _ (call (Value.builtin _) [Value.ref _, Value.int 0 _]) _ _ _); k_dflt (refine pop_first (by k_asm) (by k_asm) (by k_upd) (by (rw [sizeLine_eq]; (try have hL9 := PyProof.Rows.StrsAre.length (by assumption)); (try simp only [List.length_cons] at *); omega)) ?_; k_whole); intro h9 F9 N9; (try k_sweep)) | (k_here; (with_reducible show wpAny _ _ (call (Value.builtin "len") [Value.str _ _]) _ _ _); refine len_str (by omega) ?_) | (k_here; (with_reducible show wpAny _ _ (call (Value.builtin "len") [Value.ref _]) _ _ _); k_dflt (refine len_strsA (by is_list) (by assumption) (by ((try simp only [List.length_map]); omega)) ?_; k_whole); (try simp only [List.length_map])) | walk1 | (k_here; (with_reducible show wpAny _ _ (compareOp CmpOp.NotEq (Value.ref _) (Value.ref _)) _ _ _); k_dflt (first | refine strs_ne_nil (by is_list) (by is_list) (by ke_room) ?_ | refine strs_ne_cons (by is_list) (by is_list) (by k_asm) (by ke_room) ?_ | refine strs_ne (by is_list) (by is_list) (by first | k_asm | exact StrsAre.nil) (by first | exact StrsAre.nil | k_asm) (by ke_room) ?_)) | (dsimp only; walk1) | (dsimp only; k_unfold; (try dsimp only)) | fail "no step"))
    refine hold_out ?_
    with_reducible rename News _ _ _ _ => N5
    with_reducible rename Fr _ _ _ _ => F5
    with_reducible rename Obj.data _ = Data.cell (some (Value.str _ _)) => dW'
    with_reducible rename Heap => h9c
    have hpk : ∃ (oW' : Obj) (tw : Tok), oW'.data = .cell (some (.str (ofL word) tw)) ∧ News g L0 h9c [(L0 + 1 + 1 + 1, oS), (L0 + 1 + 1, oW'), (L0 + 1, oT'), (105, tabObj #[]), (72, tabObj #[])] :=
      ⟨_, _, dW', fun p hp => N5 p (by revert p hp; (repeat (first | exact List.forall_mem_nil _ | refine List.forall_mem_cons.mpr ⟨by k_mem, ?_⟩)))⟩
    refine ex2 hpk ?_
    intro oW' tw hp9
    refine and2 hp9 ?_
    clear hp9
    intro dW2 N6
    clear N5 dW' dW N4
    repeat (with_reducible rename _ ∧ _ ∧ _ => zz; clear zz)
    refine comp_U (F₀ := F5) (by with_unfolding_all rfl) (by decide) (by rfl) (by decide) (by rfl) ?_
    (repeat' (first |  (k_unfold; (try dsimp only)) | (k_here; (with_reducible show wpAny _ _ (eval (Expr.Name _ _) (compEnv _ _ _)) _ _ _); k_dflt (first | (refine name_locS rfl rfl rfl (by decide) (by with_reducible assumption) (by assumption) ?_; k_whole) | (refine nameG_BS rfl rfl rfl rfl (by decide) (by k_asm) (by k_asm) (by k_asm) (by k_is) (by boot_fast) (by decide) ?_; k_whole))) | (k_here; (with_reducible show wpAny _ _ (call (Value.type _) [Value.str _ _]) _ _ _); k_dflt (refine list_strN rfl (by k_asm) (by k_asm) ?_ (by rw [sizeLine_eq]; omega)); intro D9 ys9 c9 h9 tk9 F9 N9 l9 m9 hS9; (try k_lt l9); (try k_sweep)) | (k_here; (with_reducible show wpAny _ _ (compareOp CmpOp.Eq (Value.ref _) (Value.ref _)) _ _ _); k_dflt (refine strs_eq (by is_list) (by is_list) (by first | k_asm | exact StrsAre.nil) (by first | exact StrsAre.nil | k_asm) (by ke_room) ?_)) | (k_here; (with_reducible show wpAny _ _ (call (Value.builtin _) [Value.ref _, Value.int 0 _]) _ _ _); k_dflt (refine pop_first (by k_asm) (by k_asm) (by k_upd) (by (rw [sizeLine_eq]; (try have hL9 := PyProof.Rows.StrsAre.length (by assumption)); (try simp only [List.length_cons] at *); omega)) ?_; k_whole); intro h9 F9 N9; (try k_sweep)) | (k_here; (with_reducible show wpAny _ _ (call (Value.builtin "len") [Value.str _ _]) _ _ _); refine len_str (by omega) ?_) | (k_here; (with_reducible show wpAny _ _ (call (Value.builtin "len") [Value.ref _]) _ _ _); k_dflt (refine len_strsA (by is_list) (by assumption) (by ((try simp only [List.length_map]); omega)) ?_; k_whole); (try simp only [List.length_map])) | walk1 | (k_here; (with_reducible show wpAny _ _ (compareOp CmpOp.NotEq (Value.ref _) (Value.ref _)) _ _ _); k_dflt (first | refine strs_ne_nil (by is_list) (by is_list) (by ke_room) ?_ | refine strs_ne_cons (by is_list) (by is_list) (by k_asm) (by ke_room) ?_ | refine strs_ne (by is_list) (by is_list) (by first | k_asm | exact StrsAre.nil) (by first | exact StrsAre.nil | k_asm) (by ke_room) ?_)) | (dsimp only; walk1) | (dsimp only; k_unfold; (try dsimp only)) | fail "no step"))
    refine hold_out ?_
    with_reducible rename IsRange _ _ _ _ _ _ _ _ => hR
    with_reducible rename Fr _ _ _ _ => F7
    with_reducible rename News _ _ _ _ => N7
    replace hR : IsRange _ _ ((0 : Nat) : Int) ((word.length : Nat) : Int) 1 _ _ _ := hR
    refine LCg.CompSrc.range (n := word.length) (by rfl) F7 N7 hR (range_smallM (by omega) (by omega)) range_sizeM (by rw [sizeLine_eq]; omega) ?_
    intro g'
    refine rest_inv word.length (fun i ys nx => nx = [(L0 + 1 + 1 + 1, oS), (L0 + 1 + 1, oW'), (L0 + 1, oT'), (105, tabObj #[]), (72, tabObj #[])] ∧ StrsAre ys ((List.range i).map fun k => ofL (pieceL (escP total word k)))) ?turnI ?finI _ _ _ _ (Nat.zero_add _) ⟨rfl, StrsAre.nil⟩
    case turnI =>
      intro i ys nx v I oI C oC D m₂ h tk E' hi hI
      revert nx
      refine fix_all ?_
      intro hI hP9
      revert v
      refine vint_all ?_
      intro tv hCo hx F' N' off ne
      try dsimp only
      (repeat' (first |  (k_unfold; (try dsimp only)) | (k_here; (with_reducible show wpAny _ _ (eval (Expr.Name _ _) (compEnv _ _ _)) _ _ _); k_dflt (first | (refine name_locS rfl rfl rfl (by decide) (by with_reducible assumption) (by assumption) ?_; k_whole) | (refine nameG_BS rfl rfl rfl rfl (by decide) (by k_asm) (by k_asm) (by k_asm) (by k_is) (by boot_fast) (by decide) ?_; k_whole))) | (k_here; (with_reducible show wpAny _ _ (call (Value.type _) [Value.str _ _]) _ _ _); k_dflt (refine list_strN rfl (by k_asm) (by k_asm) ?_ (by rw [sizeLine_eq]; omega)); intro D9 ys9 c9 h9 tk9 F9 N9 l9 m9 hS9; (try k_lt l9); (try k_sweep)) | (k_here; (with_reducible show wpAny _ _ (compareOp CmpOp.Eq (Value.ref _) (Value.ref _)) _ _ _); k_dflt (refine strs_eq (by is_list) (by is_list) (by first | k_asm | exact StrsAre.nil) (by first | exact StrsAre.nil | k_asm) (by ke_room) ?_)) | (k_here; (with_reducible show wpAny _ _ (call (Value.builtin _) [Value.ref _, Value.int 0 _]) _ _ _); k_dflt (refine pop_first (by k_asm) (by k_asm) (by k_upd) (by (rw [sizeLine_eq]; (try have hL9 := PyProof.Rows.StrsAre.length (by assumption)); (try simp only [List.length_cons] at *); omega)) ?_; k_whole); intro h9 F9 N9; (try k_sweep)) | (k_here; (with_reducible show wpAny _ _ (call (Value.builtin "len") [Value.str _ _]) _ _ _); refine len_str (by omega) ?_) | (k_here; (with_reducible show wpAny _ _ (call (Value.builtin "len") [Value.ref _]) _ _ _); k_dflt (refine len_strsA (by is_list) (by assumption) (by ((try simp only [List.length_map]); omega)) ?_; k_whole); (try simp only [List.length_map])) | walk1 | (k_here; (with_reducible show wpAny _ _ (compareOp CmpOp.NotEq (Value.ref _) (Value.ref _)) _ _ _); k_dflt (first | refine strs_ne_nil (by is_list) (by is_list) (by ke_room) ?_ | refine strs_ne_cons (by is_list) (by is_list) (by k_asm) (by ke_room) ?_ | refine strs_ne (by is_list) (by is_list) (by first | k_asm | exact StrsAre.nil) (by first | exact StrsAre.nil | k_asm) (by ke_room) ?_)) | (dsimp only; walk1) | (dsimp only; k_unfold; (try dsimp only)) | fail "no step"))
      refine hold_out ?_
      refine pow_int_small (by omega) (by omega) (by decide) ?_
      try dsimp only
      (repeat' (first |  (k_unfold; (try dsimp only)) | (k_here; (with_reducible show wpAny _ _ (eval (Expr.Name _ _) (compEnv _ _ _)) _ _ _); k_dflt (first | (refine name_locS rfl rfl rfl (by decide) (by with_reducible assumption) (by assumption) ?_; k_whole) | (refine nameG_BS rfl rfl rfl rfl (by decide) (by k_asm) (by k_asm) (by k_asm) (by k_is) (by boot_fast) (by decide) ?_; k_whole))) | (k_here; (with_reducible show wpAny _ _ (call (Value.type _) [Value.str _ _]) _ _ _); k_dflt (refine list_strN rfl (by k_asm) (by k_asm) ?_ (by rw [sizeLine_eq]; omega)); intro D9 ys9 c9 h9 tk9 F9 N9 l9 m9 hS9; (try k_lt l9); (try k_sweep)) | (k_here; (with_reducible show wpAny _ _ (compareOp CmpOp.Eq (Value.ref _) (Value.ref _)) _ _ _); k_dflt (refine strs_eq (by is_list) (by is_list) (by first | k_asm | exact StrsAre.nil) (by first | exact StrsAre.nil | k_asm) (by ke_room) ?_)) | (k_here; (with_reducible show wpAny _ _ (call (Value.builtin _) [Value.ref _, Value.int 0 _]) _ _ _); k_dflt (refine pop_first (by k_asm) (by k_asm) (by k_upd) (by (rw [sizeLine_eq]; (try have hL9 := PyProof.Rows.StrsAre.length (by assumption)); (try simp only [List.length_cons] at *); omega)) ?_; k_whole); intro h9 F9 N9; (try k_sweep)) | (k_here; (with_reducible show wpAny _ _ (call (Value.builtin "len") [Value.str _ _]) _ _ _); refine len_str (by omega) ?_) | (k_here; (with_reducible show wpAny _ _ (call (Value.builtin "len") [Value.ref _]) _ _ _); k_dflt (refine len_strsA (by is_list) (by assumption) (by ((try simp only [List.length_map]); omega)) ?_; k_whole); (try simp only [List.length_map])) | walk1 | (k_here; (with_reducible show wpAny _ _ (compareOp CmpOp.NotEq (Value.ref _) (Value.ref _)) _ _ _); k_dflt (first | refine strs_ne_nil (by is_list) (by is_list) (by ke_room) ?_ | refine strs_ne_cons (by is_list) (by is_list) (by k_asm) (by ke_room) ?_ | refine strs_ne (by is_list) (by is_list) (by first | k_asm | exact StrsAre.nil) (by first | exact StrsAre.nil | k_asm) (by ke_room) ?_)) | (dsimp only; walk1) | (dsimp only; k_unfold; (try dsimp only)) | fail "no step"))
      · refine hold_out ?_
        try dsimp only
        with_reducible rename _ = (1 : Int) => hbit
        refine SBL.add (hsz := ?hszA) ?_
        case hszA => rw [len_item, sizeLine_eq]; exact Nat.le_trans (Nat.add_le_add_right (show (Str.ofString "\\").length ≤ 1 from Nat.le_refl _) 1) (by decide)
        intro _ _ _
        rw [piece_true hi hbit]
        try dsimp only
        (repeat' (first | ((with_reducible show LCg.CompEnd _ _ _ _ _ _ _ _ _ _ _ _ _ _); refine hold_in ?_) |  (k_unfold; (try dsimp only)) | (k_here; (with_reducible show wpAny _ _ (eval (Expr.Name _ _) (compEnv _ _ _)) _ _ _); k_dflt (first | (refine name_locS rfl rfl rfl (by decide) (by with_reducible assumption) (by assumption) ?_; k_whole) | (refine nameG_BS rfl rfl rfl rfl (by decide) (by k_asm) (by k_asm) (by k_asm) (by k_is) (by boot_fast) (by decide) ?_; k_whole))) | (k_here; (with_reducible show wpAny _ _ (call (Value.type _) [Value.str _ _]) _ _ _); k_dflt (refine list_strN rfl (by k_asm) (by k_asm) ?_ (by rw [sizeLine_eq]; omega)); intro D9 ys9 c9 h9 tk9 F9 N9 l9 m9 hS9; (try k_lt l9); (try k_sweep)) | (k_here; (with_reducible show wpAny _ _ (compareOp CmpOp.Eq (Value.ref _) (Value.ref _)) _ _ _); k_dflt (refine strs_eq (by is_list) (by is_list) (by first | k_asm | exact StrsAre.nil) (by first | exact StrsAre.nil | k_asm) (by ke_room) ?_)) | (k_here; (with_reducible show wpAny _ _ (call (Value.builtin _) [Value.ref _, Value.int 0 _]) _ _ _); k_dflt (refine pop_first (by k_asm) (by k_asm) (by k_upd) (by (rw [sizeLine_eq]; (try have hL9 := PyProof.Rows.StrsAre.length (by assumption)); (try simp only [List.length_cons] at *); omega)) ?_; k_whole); intro h9 F9 N9; (try k_sweep)) | (k_here; (with_reducible show wpAny _ _ (call (Value.builtin "len") [Value.str _ _]) _ _ _); refine len_str (by omega) ?_) | (k_here; (with_reducible show wpAny _ _ (call (Value.builtin "len") [Value.ref _]) _ _ _); k_dflt (refine len_strsA (by is_list) (by assumption) (by ((try simp only [List.length_map]); omega)) ?_; k_whole); (try simp only [List.length_map])) | walk1 | (k_here; (with_reducible show wpAny _ _ (compareOp CmpOp.NotEq (Value.ref _) (Value.ref _)) _ _ _); k_dflt (first | refine strs_ne_nil (by is_list) (by is_list) (by ke_room) ?_ | refine strs_ne_cons (by is_list) (by is_list) (by k_asm) (by ke_room) ?_ | refine strs_ne (by is_list) (by is_list) (by first | k_asm | exact StrsAre.nil) (by first | exact StrsAre.nil | k_asm) (by ke_room) ?_)) | (dsimp only; walk1) | (dsimp only; k_unfold; (try dsimp only)) | fail "no step"))
        refine hold_out (LCg.CompEnd.intro (by assumption) (by assumption) _ (fun p hp => hp) off trivial ⟨rfl, by rw [List.range_succ, List.map_append]; exact hI.append' (StrsAre.cons _ _ StrsAre.nil)⟩)
      · refine hold_out ?_
        try dsimp only
        with_reducible rename _ ≠ (1 : Int) => hbit
        refine SBL.add (hsz := ?hszB) ?_
        case hszB => rw [len_item, sizeLine_eq]; exact Nat.le_trans (Nat.add_le_add_right (show (Str.ofString "").length ≤ 1 from Nat.zero_le _) 1) (by decide)
        intro _ _ _
        rw [piece_false hi hbit]
        try dsimp only
        (repeat' (first | ((with_reducible show LCg.CompEnd _ _ _ _ _ _ _ _ _ _ _ _ _ _); refine hold_in ?_) |  (k_unfold; (try dsimp only)) | (k_here; (with_reducible show wpAny _ _ (eval (Expr.Name _ _) (compEnv _ _ _)) _ _ _); k_dflt (first | (refine name_locS rfl rfl rfl (by decide) (by with_reducible assumption) (by assumption) ?_; k_whole) | (refine nameG_BS rfl rfl rfl rfl (by decide) (by k_asm) (by k_asm) (by k_asm) (by k_is) (by boot_fast) (by decide) ?_; k_whole))) | (k_here; (with_reducible show wpAny _ _ (call (Value.type _) [Value.str _ _]) _ _ _); k_dflt (refine list_strN rfl (by k_asm) (by k_asm) ?_ (by rw [sizeLine_eq]; omega)); intro D9 ys9 c9 h9 tk9 F9 N9 l9 m9 hS9; (try k_lt l9); (try k_sweep)) | (k_here; (with_reducible show wpAny _ _ (compareOp CmpOp.Eq (Value.ref _) (Value.ref _)) _ _ _); k_dflt (refine strs_eq (by is_list) (by is_list) (by first | k_asm | exact StrsAre.nil) (by first | exact StrsAre.nil | k_asm) (by ke_room) ?_)) | (k_here; (with_reducible show wpAny _ _ (call (Value.builtin _) [Value.ref _, Value.int 0 _]) _ _ _); k_dflt (refine pop_first (by k_asm) (by k_asm) (by k_upd) (by (rw [sizeLine_eq]; (try have hL9 := PyProof.Rows.StrsAre.length (by assumption)); (try simp only [List.length_cons] at *); omega)) ?_; k_whole); intro h9 F9 N9; (try k_sweep)) | (k_here; (with_reducible show wpAny _ _ (call (Value.builtin "len") [Value.str _ _]) _ _ _); refine len_str (by omega) ?_) | (k_here; (with_reducible show wpAny _ _ (call (Value.builtin "len") [Value.ref _]) _ _ _); k_dflt (refine len_strsA (by is_list) (by assumption) (by ((try simp only [List.length_map]); omega)) ?_; k_whole); (try simp only [List.length_map])) | walk1 | (k_here; (with_reducible show wpAny _ _ (compareOp CmpOp.NotEq (Value.ref _) (Value.ref _)) _ _ _); k_dflt (first | refine strs_ne_nil (by is_list) (by is_list) (by ke_room) ?_ | refine strs_ne_cons (by is_list) (by is_list) (by k_asm) (by ke_room) ?_ | refine strs_ne (by is_list) (by is_list) (by first | k_asm | exact StrsAre.nil) (by first | exact StrsAre.nil | k_asm) (by ke_room) ?_)) | (dsimp only; walk1) | (dsimp only; k_unfold; (try dsimp only)) | fail "no step"))
        refine hold_out (LCg.CompEnd.intro (by assumption) (by assumption) _ (fun p hp => hp) off trivial ⟨rfl, by rw [List.range_succ, List.map_append]; exact hI.append' (StrsAre.cons _ _ StrsAre.nil)⟩)
    case finI =>
      intro ys
      refine fix_all ?_
      intro hI
      (repeat' (first |  (k_unfold; (try dsimp only)) | (k_here; (with_reducible show wpAny _ _ (eval (Expr.Name _ _) (compEnv _ _ _)) _ _ _); k_dflt (first | (refine name_locS rfl rfl rfl (by decide) (by with_reducible assumption) (by assumption) ?_; k_whole) | (refine nameG_BS rfl rfl rfl rfl (by decide) (by k_asm) (by k_asm) (by k_asm) (by k_is) (by boot_fast) (by decide) ?_; k_whole))) | (k_here; (with_reducible show wpAny _ _ (call (Value.type _) [Value.str _ _]) _ _ _); k_dflt (refine list_strN rfl (by k_asm) (by k_asm) ?_ (by rw [sizeLine_eq]; omega)); intro D9 ys9 c9 h9 tk9 F9 N9 l9 m9 hS9; (try k_lt l9); (try k_sweep)) | (k_here; (with_reducible show wpAny _ _ (compareOp CmpOp.Eq (Value.ref _) (Value.ref _)) _ _ _); k_dflt (refine strs_eq (by is_list) (by is_list) (by first | k_asm | exact StrsAre.nil) (by first | exact StrsAre.nil | k_asm) (by ke_room) ?_)) | (k_here; (with_reducible show wpAny _ _ (call (Value.builtin _) [Value.ref _, Value.int 0 _]) _ _ _); k_dflt (refine pop_first (by k_asm) (by k_asm) (by k_upd) (by (rw [sizeLine_eq]; (try have hL9 := PyProof.Rows.StrsAre.length (by assumption)); (try simp only [List.length_cons] at *); omega)) ?_; k_whole); intro h9 F9 N9; (try k_sweep)) | (k_here; (with_reducible show wpAny _ _ (call (Value.builtin "len") [Value.str _ _]) _ _ _); refine len_str (by omega) ?_) | (k_here; (with_reducible show wpAny _ _ (call (Value.builtin "len") [Value.ref _]) _ _ _); k_dflt (refine len_strsA (by is_list) (by assumption) (by ((try simp only [List.length_map]); omega)) ?_; k_whole); (try simp only [List.length_map])) | walk1 | (k_here; (with_reducible show wpAny _ _ (compareOp CmpOp.NotEq (Value.ref _) (Value.ref _)) _ _ _); k_dflt (first | refine strs_ne_nil (by is_list) (by is_list) (by ke_room) ?_ | refine strs_ne_cons (by is_list) (by is_list) (by k_asm) (by ke_room) ?_ | refine strs_ne (by is_list) (by is_list) (by first | k_asm | exact StrsAre.nil) (by first | exact StrsAre.nil | k_asm) (by ke_room) ?_)) | (dsimp only; walk1) | (dsimp only; k_unfold; (try dsimp only)) | fail "no step"))
      refine join_list (ys := (List.range word.length).map fun k => ofL (pieceL (escP total word k))) (by is_list) hI ?_ ?_
      case refine_1 =>
        rw [sum_pieces, show (Str.ofString "").length = 0 from rfl, flat_esc]
        have h9 := pieces_len (escL total word)
        rw [escL_len] at h9
        omega
      intro tb9 k'
      rw [join_pieces, flat_esc]
      try dsimp only
      (repeat' (first |  (k_unfold; (try dsimp only)) | (k_here; (with_reducible show wpAny _ _ (eval (Expr.Name _ _) (compEnv _ _ _)) _ _ _); k_dflt (first | (refine name_locS rfl rfl rfl (by decide) (by with_reducible assumption) (by assumption) ?_; k_whole) | (refine nameG_BS rfl rfl rfl rfl (by decide) (by k_asm) (by k_asm) (by k_asm) (by k_is) (by boot_fast) (by decide) ?_; k_whole))) | (k_here; (with_reducible show wpAny _ _ (call (Value.type _) [Value.str _ _]) _ _ _); k_dflt (refine list_strN rfl (by k_asm) (by k_asm) ?_ (by rw [sizeLine_eq]; omega)); intro D9 ys9 c9 h9 tk9 F9 N9 l9 m9 hS9; (try k_lt l9); (try k_sweep)) | (k_here; (with_reducible show wpAny _ _ (compareOp CmpOp.Eq (Value.ref _) (Value.ref _)) _ _ _); k_dflt (refine strs_eq (by is_list) (by is_list) (by first | k_asm | exact StrsAre.nil) (by first | exact StrsAre.nil | k_asm) (by ke_room) ?_)) | (k_here; (with_reducible show wpAny _ _ (call (Value.builtin _) [Value.ref _, Value.int 0 _]) _ _ _); k_dflt (refine pop_first (by k_asm) (by k_asm) (by k_upd) (by (rw [sizeLine_eq]; (try have hL9 := PyProof.Rows.StrsAre.length (by assumption)); (try simp only [List.length_cons] at *); omega)) ?_; k_whole); intro h9 F9 N9; (try k_sweep)) | (k_here; (with_reducible show wpAny _ _ (call (Value.builtin "len") [Value.str _ _]) _ _ _); refine len_str (by omega) ?_) | (k_here; (with_reducible show wpAny _ _ (call (Value.builtin "len") [Value.ref _]) _ _ _); k_dflt (refine len_strsA (by is_list) (by assumption) (by ((try simp only [List.length_map]); omega)) ?_; k_whole); (try simp only [List.length_map])) | walk1 | (k_here; (with_reducible show wpAny _ _ (compareOp CmpOp.NotEq (Value.ref _) (Value.ref _)) _ _ _); k_dflt (first | refine strs_ne_nil (by is_list) (by is_list) (by ke_room) ?_ | refine strs_ne_cons (by is_list) (by is_list) (by k_asm) (by ke_room) ?_ | refine strs_ne (by is_list) (by is_list) (by first | k_asm | exact StrsAre.nil) (by first | exact StrsAre.nil | k_asm) (by ke_room) ?_)) | (dsimp only; walk1) | (dsimp only; k_unfold; (try dsimp only)) | fail "no step"))
      refine hold_out ?_
      try dsimp only
      with_reducible rename Heap => h9d
      with_reducible rename Fr _ _ _ _ => F8
      with_reducible rename News _ _ _ _ => N8
      have N9 : News g L0 h9d [(L0 + 1 + 1 + 1, oS), (L0 + 1 + 1, oW'), (L0 + 1, oT'), (105, tabObj #[]), (72, tabObj #[])] := fun p hp => N8 p (by revert p hp; (repeat (first | exact List.forall_mem_nil _ | refine List.forall_mem_cons.mpr ⟨by k_mem, ?_⟩)))
      clear N8
      repeat (with_reducible rename _ ∧ _ ∧ _ => zz; clear zz)
      have htl := textC_len (total := total) hwl2.2
      obtain ⟨body, hbody⟩ : ∃ body, body = (escL total word).flatMap pieceL := ⟨_, rfl⟩
      rw [← hbody] at F8
      have hbl : (ofL body).length ≤ 14 := by
        have h8 := pieces_len (escL total word)
        rw [escL_len] at h8
        rw [hbody]
        show ((escL total word).flatMap pieceL).length ≤ 14
        omega
      refine cut_val (StrEnd (ofL (midC total body)) s1 h9d) ?mid ?afterMid
      case mid =>
        refine wpAny_IfExp ?_
        (repeat' (first |  (k_unfold; (try dsimp only)) | (k_here; (with_reducible show wpAny _ _ (eval (Expr.Name _ _) (compEnv _ _ _)) _ _ _); k_dflt (first | (refine name_locS rfl rfl rfl (by decide) (by with_reducible assumption) (by assumption) ?_; k_whole) | (refine nameG_BS rfl rfl rfl rfl (by decide) (by k_asm) (by k_asm) (by k_asm) (by k_is) (by boot_fast) (by decide) ?_; k_whole))) | (k_here; (with_reducible show wpAny _ _ (call (Value.type _) [Value.str _ _]) _ _ _); k_dflt (refine list_strN rfl (by k_asm) (by k_asm) ?_ (by rw [sizeLine_eq]; omega)); intro D9 ys9 c9 h9 tk9 F9 N9 l9 m9 hS9; (try k_lt l9); (try k_sweep)) | (k_here; (with_reducible show wpAny _ _ (compareOp CmpOp.Eq (Value.ref _) (Value.ref _)) _ _ _); k_dflt (refine strs_eq (by is_list) (by is_list) (by first | k_asm | exact StrsAre.nil) (by first | exact StrsAre.nil | k_asm) (by ke_room) ?_)) | (k_here; (with_reducible show wpAny _ _ (call (Value.builtin _) [Value.ref _, Value.int 0 _]) _ _ _); k_dflt (refine pop_first (by k_asm) (by k_asm) (by k_upd) (by (rw [sizeLine_eq]; (try have hL9 := PyProof.Rows.StrsAre.length (by assumption)); (try simp only [List.length_cons] at *); omega)) ?_; k_whole); intro h9 F9 N9; (try k_sweep)) | (k_here; (with_reducible show wpAny _ _ (call (Value.builtin "len") [Value.str _ _]) _ _ _); refine len_str (by omega) ?_) | (k_here; (with_reducible show wpAny _ _ (call (Value.builtin "len") [Value.ref _]) _ _ _); k_dflt (refine len_strsA (by is_list) (by assumption) (by ((try simp only [List.length_map]); omega)) ?_; k_whole); (try simp only [List.length_map])) | walk1 | (k_here; (with_reducible show wpAny _ _ (compareOp CmpOp.NotEq (Value.ref _) (Value.ref _)) _ _ _); k_dflt (first | refine strs_ne_nil (by is_list) (by is_list) (by ke_room) ?_ | refine strs_ne_cons (by is_list) (by is_list) (by k_asm) (by ke_room) ?_ | refine strs_ne (by is_list) (by is_list) (by first | k_asm | exact StrsAre.nil) (by first | exact StrsAre.nil | k_asm) (by ke_room) ?_)) | (dsimp only; walk1) | (dsimp only; k_unfold; (try dsimp only)) | fail "no step"))
        · with_reducible rename _ = (1 : Int) => hq
          refine hold_out ?_
          refine SBL.add (hsz := ?hszC) ?_
          case hszC => rw [sizeLine_eq]; exact Nat.le_trans (Nat.add_le_add (show (Str.ofString "\"").length ≤ 1 from Nat.le_refl _) hbl) (by decide)
          intro _ _ _
          try dsimp only
          (repeat' (first |  (k_unfold; (try dsimp only)) | (k_here; (with_reducible show wpAny _ _ (eval (Expr.Name _ _) (compEnv _ _ _)) _ _ _); k_dflt (first | (refine name_locS rfl rfl rfl (by decide) (by with_reducible assumption) (by assumption) ?_; k_whole) | (refine nameG_BS rfl rfl rfl rfl (by decide) (by k_asm) (by k_asm) (by k_asm) (by k_is) (by boot_fast) (by decide) ?_; k_whole))) | (k_here; (with_reducible show wpAny _ _ (call (Value.type _) [Value.str _ _]) _ _ _); k_dflt (refine list_strN rfl (by k_asm) (by k_asm) ?_ (by rw [sizeLine_eq]; omega)); intro D9 ys9 c9 h9 tk9 F9 N9 l9 m9 hS9; (try k_lt l9); (try k_sweep)) | (k_here; (with_reducible show wpAny _ _ (compareOp CmpOp.Eq (Value.ref _) (Value.ref _)) _ _ _); k_dflt (refine strs_eq (by is_list) (by is_list) (by first | k_asm | exact StrsAre.nil) (by first | exact StrsAre.nil | k_asm) (by ke_room) ?_)) | (k_here; (with_reducible show wpAny _ _ (call (Value.builtin _) [Value.ref _, Value.int 0 _]) _ _ _); k_dflt (refine pop_first (by k_asm) (by k_asm) (by k_upd) (by (rw [sizeLine_eq]; (try have hL9 := PyProof.Rows.StrsAre.length (by assumption)); (try simp only [List.length_cons] at *); omega)) ?_; k_whole); intro h9 F9 N9; (try k_sweep)) | (k_here; (with_reducible show wpAny _ _ (call (Value.builtin "len") [Value.str _ _]) _ _ _); refine len_str (by omega) ?_) | (k_here; (with_reducible show wpAny _ _ (call (Value.builtin "len") [Value.ref _]) _ _ _); k_dflt (refine len_strsA (by is_list) (by assumption) (by ((try simp only [List.length_map]); omega)) ?_; k_whole); (try simp only [List.length_map])) | walk1 | (k_here; (with_reducible show wpAny _ _ (compareOp CmpOp.NotEq (Value.ref _) (Value.ref _)) _ _ _); k_dflt (first | refine strs_ne_nil (by is_list) (by is_list) (by ke_room) ?_ | refine strs_ne_cons (by is_list) (by is_list) (by k_asm) (by ke_room) ?_ | refine strs_ne (by is_list) (by is_list) (by first | k_asm | exact StrsAre.nil) (by first | exact StrsAre.nil | k_asm) (by ke_room) ?_)) | (dsimp only; walk1) | (dsimp only; k_unfold; (try dsimp only)) | fail "no step"))
          refine hold_out ?_
          refine SBL.add (hsz := ?hszD) ?_
          case hszD => rw [Str.length_append, sizeLine_eq]; exact Nat.le_trans (Nat.add_le_add (Nat.add_le_add (show (Str.ofString "\"").length ≤ 1 from Nat.le_refl _) hbl) (show (Str.ofString "\"").length ≤ 1 from Nat.le_refl _)) (by decide)
          intro _ _ _
          try dsimp only
          (repeat' (first |  (k_unfold; (try dsimp only)) | (k_here; (with_reducible show wpAny _ _ (eval (Expr.Name _ _) (compEnv _ _ _)) _ _ _); k_dflt (first | (refine name_locS rfl rfl rfl (by decide) (by with_reducible assumption) (by assumption) ?_; k_whole) | (refine nameG_BS rfl rfl rfl rfl (by decide) (by k_asm) (by k_asm) (by k_asm) (by k_is) (by boot_fast) (by decide) ?_; k_whole))) | (k_here; (with_reducible show wpAny _ _ (call (Value.type _) [Value.str _ _]) _ _ _); k_dflt (refine list_strN rfl (by k_asm) (by k_asm) ?_ (by rw [sizeLine_eq]; omega)); intro D9 ys9 c9 h9 tk9 F9 N9 l9 m9 hS9; (try k_lt l9); (try k_sweep)) | (k_here; (with_reducible show wpAny _ _ (compareOp CmpOp.Eq (Value.ref _) (Value.ref _)) _ _ _); k_dflt (refine strs_eq (by is_list) (by is_list) (by first | k_asm | exact StrsAre.nil) (by first | exact StrsAre.nil | k_asm) (by ke_room) ?_)) | (k_here; (with_reducible show wpAny _ _ (call (Value.builtin _) [Value.ref _, Value.int 0 _]) _ _ _); k_dflt (refine pop_first (by k_asm) (by k_asm) (by k_upd) (by (rw [sizeLine_eq]; (try have hL9 := PyProof.Rows.StrsAre.length (by assumption)); (try simp only [List.length_cons] at *); omega)) ?_; k_whole); intro h9 F9 N9; (try k_sweep)) | (k_here; (with_reducible show wpAny _ _ (call (Value.builtin "len") [Value.str _ _]) _ _ _); refine len_str (by omega) ?_) | (k_here; (with_reducible show wpAny _ _ (call (Value.builtin "len") [Value.ref _]) _ _ _); k_dflt (refine len_strsA (by is_list) (by assumption) (by ((try simp only [List.length_map]); omega)) ?_; k_whole); (try simp only [List.length_map])) | walk1 | (k_here; (with_reducible show wpAny _ _ (compareOp CmpOp.NotEq (Value.ref _) (Value.ref _)) _ _ _); k_dflt (first | refine strs_ne_nil (by is_list) (by is_list) (by ke_room) ?_ | refine strs_ne_cons (by is_list) (by is_list) (by k_asm) (by ke_room) ?_ | refine strs_ne (by is_list) (by is_list) (by first | k_asm | exact StrsAre.nil) (by first | exact StrsAre.nil | k_asm) (by ke_room) ?_)) | (dsimp only; walk1) | (dsimp only; k_unfold; (try dsimp only)) | fail "no step"))
          rw [mid_true hq]
          exact StrEnd.mk
        · with_reducible rename _ ≠ (1 : Int) => hq
          rw [← mid_false hq]
          exact StrEnd.mk
      case afterMid =>
        rintro _ _ ⟨tm, tk5, rfl, rfl⟩
        try dsimp only
        (repeat' (first |  (k_unfold; (try dsimp only)) | (k_here; (with_reducible show wpAny _ _ (eval (Expr.Name _ _) (compEnv _ _ _)) _ _ _); k_dflt (first | (refine name_locS rfl rfl rfl (by decide) (by with_reducible assumption) (by assumption) ?_; k_whole) | (refine nameG_BS rfl rfl rfl rfl (by decide) (by k_asm) (by k_asm) (by k_asm) (by k_is) (by boot_fast) (by decide) ?_; k_whole))) | (k_here; (with_reducible show wpAny _ _ (call (Value.type _) [Value.str _ _]) _ _ _); k_dflt (refine list_strN rfl (by k_asm) (by k_asm) ?_ (by rw [sizeLine_eq]; omega)); intro D9 ys9 c9 h9 tk9 F9 N9 l9 m9 hS9; (try k_lt l9); (try k_sweep)) | (k_here; (with_reducible show wpAny _ _ (compareOp CmpOp.Eq (Value.ref _) (Value.ref _)) _ _ _); k_dflt (refine strs_eq (by is_list) (by is_list) (by first | k_asm | exact StrsAre.nil) (by first | exact StrsAre.nil | k_asm) (by ke_room) ?_)) | (k_here; (with_reducible show wpAny _ _ (call (Value.builtin _) [Value.ref _, Value.int 0 _]) _ _ _); k_dflt (refine pop_first (by k_asm) (by k_asm) (by k_upd) (by (rw [sizeLine_eq]; (try have hL9 := PyProof.Rows.StrsAre.length (by assumption)); (try simp only [List.length_cons] at *); omega)) ?_; k_whole); intro h9 F9 N9; (try k_sweep)) | (k_here; (with_reducible show wpAny _ _ (call (Value.builtin "len") [Value.str _ _]) _ _ _); refine len_str (by omega) ?_) | (k_here; (with_reducible show wpAny _ _ (call (Value.builtin "len") [Value.ref _]) _ _ _); k_dflt (refine len_strsA (by is_list) (by assumption) (by ((try simp only [List.length_map]); omega)) ?_; k_whole); (try simp only [List.length_map])) | walk1 | (k_here; (with_reducible show wpAny _ _ (compareOp CmpOp.NotEq (Value.ref _) (Value.ref _)) _ _ _); k_dflt (first | refine strs_ne_nil (by is_list) (by is_list) (by ke_room) ?_ | refine strs_ne_cons (by is_list) (by is_list) (by k_asm) (by ke_room) ?_ | refine strs_ne (by is_list) (by is_list) (by first | k_asm | exact StrsAre.nil) (by first | exact StrsAre.nil | k_asm) (by ke_room) ?_)) | (dsimp only; walk1) | (dsimp only; k_unfold; (try dsimp only)) | fail "no step"))
        refine hold_out ?_
        have hml := midC_len total body
        have hbl' : body.length ≤ 14 := hbl
        have hn3 := nlN_lt total
        have hmul : Txt.mul (Str.ofString "\n") ((total.fdiv 256).fmod 3) = ofL (List.replicate (nlN total) 10) := by rw [hn3.2, mul_nl ⟨nlN total, hn3.1⟩]
        rw [hmul]
        refine SBL.add (hsz := ?hszE) ?_
        case hszE =>
          show (List.replicate (nlN total) 10).length + (midC total body).length ≤ sizeLine
          rw [List.length_replicate, sizeLine_eq]; omega
        intro _ _ _
        rw [ofL_app]
        try dsimp only
        (repeat' (first |  (k_unfold; (try dsimp only)) | (k_here; (with_reducible show wpAny _ _ (eval (Expr.Name _ _) (compEnv _ _ _)) _ _ _); k_dflt (first | (refine name_locS rfl rfl rfl (by decide) (by with_reducible assumption) (by assumption) ?_; k_whole) | (refine nameG_BS rfl rfl rfl rfl (by decide) (by k_asm) (by k_asm) (by k_asm) (by k_is) (by boot_fast) (by decide) ?_; k_whole))) | (k_here; (with_reducible show wpAny _ _ (call (Value.type _) [Value.str _ _]) _ _ _); k_dflt (refine list_strN rfl (by k_asm) (by k_asm) ?_ (by rw [sizeLine_eq]; omega)); intro D9 ys9 c9 h9 tk9 F9 N9 l9 m9 hS9; (try k_lt l9); (try k_sweep)) | (k_here; (with_reducible show wpAny _ _ (compareOp CmpOp.Eq (Value.ref _) (Value.ref _)) _ _ _); k_dflt (refine strs_eq (by is_list) (by is_list) (by first | k_asm | exact StrsAre.nil) (by first | exact StrsAre.nil | k_asm) (by ke_room) ?_)) | (k_here; (with_reducible show wpAny _ _ (call (Value.builtin _) [Value.ref _, Value.int 0 _]) _ _ _); k_dflt (refine pop_first (by k_asm) (by k_asm) (by k_upd) (by (rw [sizeLine_eq]; (try have hL9 := PyProof.Rows.StrsAre.length (by assumption)); (try simp only [List.length_cons] at *); omega)) ?_; k_whole); intro h9 F9 N9; (try k_sweep)) | (k_here; (with_reducible show wpAny _ _ (call (Value.builtin "len") [Value.str _ _]) _ _ _); refine len_str (by omega) ?_) | (k_here; (with_reducible show wpAny _ _ (call (Value.builtin "len") [Value.ref _]) _ _ _); k_dflt (refine len_strsA (by is_list) (by assumption) (by ((try simp only [List.length_map]); omega)) ?_; k_whole); (try simp only [List.length_map])) | walk1 | (k_here; (with_reducible show wpAny _ _ (compareOp CmpOp.NotEq (Value.ref _) (Value.ref _)) _ _ _); k_dflt (first | refine strs_ne_nil (by is_list) (by is_list) (by ke_room) ?_ | refine strs_ne_cons (by is_list) (by is_list) (by k_asm) (by ke_room) ?_ | refine strs_ne (by is_list) (by is_list) (by first | k_asm | exact StrsAre.nil) (by first | exact StrsAre.nil | k_asm) (by ke_room) ?_)) | (dsimp only; walk1) | (dsimp only; k_unfold; (try dsimp only)) | fail "no step"))
        refine hold_out ?_
        refine SBL.add (hsz := ?hszF) ?_
        case hszF =>
          show (List.replicate (nlN total) 10 ++ midC total body).length + 1 ≤ sizeLine
          rw [List.length_append, List.length_replicate, sizeLine_eq]; omega
        intro tx9 _ _
        rw [show Str.ofString " " = ofL [32] from rfl, ofL_app]
        have htx : List.replicate (nlN total) 10 ++ midC total body ++ [32] = textC total (escL total word) := by rw [hbody]; rfl
        rw [htx]
        have hne : word ≠ [] := by
          intro e
          rw [e] at hwl2
          exact absurd hwl2.1 (by decide)
        refine ex1 (text_run2 hne hbds total) ?_
        intro rest hrt
        refine and4 hrt ?_
        clear hrt
        intro hr1 hr2 hr3 hr4
        have hcount := text_cnt hbds total
        have hto := signs_one (ofL (textC total (escL total word)))
        obtain ⟨text, htext⟩ : ∃ text, text = textC total (escL total word) := ⟨_, rfl⟩
        rw [← htext] at hr1 hcount htl hto ⊢
        obtain ⟨n0, hn0⟩ : ∃ n0 : Int, n0 = 1 + (nlN total : Int) := ⟨_, rfl⟩
        rw [← hn0] at hr1 hr2
        try dsimp only
        (repeat' (first |  (k_unfold; (try dsimp only)) | (k_here; (with_reducible show wpAny _ _ (eval (Expr.Name _ _) (compEnv _ _ _)) _ _ _); k_dflt (first | (refine name_locS rfl rfl rfl (by decide) (by with_reducible assumption) (by assumption) ?_; k_whole) | (refine nameG_BS rfl rfl rfl rfl (by decide) (by k_asm) (by k_asm) (by k_asm) (by k_is) (by boot_fast) (by decide) ?_; k_whole))) | (k_here; (with_reducible show wpAny _ _ (call (Value.type _) [Value.str _ _]) _ _ _); k_dflt (refine list_strN rfl (by k_asm) (by k_asm) ?_ (by rw [sizeLine_eq]; omega)); intro D9 ys9 c9 h9 tk9 F9 N9 l9 m9 hS9; (try k_lt l9); (try k_sweep)) | (k_here; (with_reducible show wpAny _ _ (compareOp CmpOp.Eq (Value.ref _) (Value.ref _)) _ _ _); k_dflt (refine strs_eq (by is_list) (by is_list) (by first | k_asm | exact StrsAre.nil) (by first | exact StrsAre.nil | k_asm) (by ke_room) ?_)) | (k_here; (with_reducible show wpAny _ _ (call (Value.builtin _) [Value.ref _, Value.int 0 _]) _ _ _); k_dflt (refine pop_first (by k_asm) (by k_asm) (by k_upd) (by (rw [sizeLine_eq]; (try have hL9 := PyProof.Rows.StrsAre.length (by assumption)); (try simp only [List.length_cons] at *); omega)) ?_; k_whole); intro h9 F9 N9; (try k_sweep)) | (k_here; (with_reducible show wpAny _ _ (call (Value.builtin "len") [Value.str _ _]) _ _ _); refine len_str (by omega) ?_) | (k_here; (with_reducible show wpAny _ _ (call (Value.builtin "len") [Value.ref _]) _ _ _); k_dflt (refine len_strsA (by is_list) (by assumption) (by ((try simp only [List.length_map]); omega)) ?_; k_whole); (try simp only [List.length_map])) | walk1 | (k_here; (with_reducible show wpAny _ _ (compareOp CmpOp.NotEq (Value.ref _) (Value.ref _)) _ _ _); k_dflt (first | refine strs_ne_nil (by is_list) (by is_list) (by ke_room) ?_ | refine strs_ne_cons (by is_list) (by is_list) (by k_asm) (by ke_room) ?_ | refine strs_ne (by is_list) (by is_list) (by first | k_asm | exact StrsAre.nil) (by first | exact StrsAre.nil | k_asm) (by ke_room) ?_)) | (dsimp only; walk1) | (dsimp only; k_unfold; (try dsimp only)) | fail "no step"))
        refine hold_out ?_
        with_reducible rename Fr _ _ _ _ => F10
        with_reducible rename News _ _ _ _ => N10
        have N11 : News g L0 _ [(72, tabObj #[]), (L0 + 1 + 1 + 1, oS), (L0 + 1 + 1, oW'), (L0 + 1, oT'), (105, tabObj #[])] := fun p hp => N10 p (by revert p hp; (repeat (first | exact List.forall_mem_nil _ | refine List.forall_mem_cons.mpr ⟨by k_mem, ?_⟩)))
        clear N10
        refine Spec.use (lexer_spec _ (ofL text) _ (Nat.le_trans (show (ofL text).length ≤ 19 from htl) (by decide))) [(L0 + 1 + 1 + 1, oS), (L0 + 1 + 1, oW'), (L0 + 1, oT'), (105, tabObj #[])] B0 F10 X0 N11 T0 rfl (fun _ h => h) ?_ (by decide) (by decide) ?_
        · (repeat (first | exact List.forall_mem_nil _ | refine List.forall_mem_cons.mpr ⟨?_, ?_⟩ | k_ne))
        refine lexer_all ?_
        intro h2 tk2 a cq tn yt cc ps hyt ok oc0 F12 N12 hf
        try dsimp only
        have oc1 : @LT.lt Nat _ (L0 + 3) a.cell := by
          rcases hf (a.cell, a.co) (by simp [LexW]) with h | h
          · have h' : a.cell = 72 := by simpa using h
            omega
          · exact h _ (List.Mem.head _)
        clear hf N11
        simp only [List.cons_append, List.nil_append] at N12
        (repeat' (first |  (k_unfold; (try dsimp only)) | (k_here; (with_reducible show wpAny _ _ (eval (Expr.Name _ _) (compEnv _ _ _)) _ _ _); k_dflt (first | (refine name_locS rfl rfl rfl (by decide) (by with_reducible assumption) (by assumption) ?_; k_whole) | (refine nameG_BS rfl rfl rfl rfl (by decide) (by k_asm) (by k_asm) (by k_asm) (by k_is) (by boot_fast) (by decide) ?_; k_whole))) | (k_here; (with_reducible show wpAny _ _ (call (Value.type _) [Value.str _ _]) _ _ _); k_dflt (refine list_strN rfl (by k_asm) (by k_asm) ?_ (by rw [sizeLine_eq]; omega)); intro D9 ys9 c9 h9 tk9 F9 N9 l9 m9 hS9; (try k_lt l9); (try k_sweep)) | (k_here; (with_reducible show wpAny _ _ (compareOp CmpOp.Eq (Value.ref _) (Value.ref _)) _ _ _); k_dflt (refine strs_eq (by is_list) (by is_list) (by first | k_asm | exact StrsAre.nil) (by first | exact StrsAre.nil | k_asm) (by ke_room) ?_)) | (k_here; (with_reducible show wpAny _ _ (call (Value.builtin _) [Value.ref _, Value.int 0 _]) _ _ _); k_dflt (refine pop_first (by k_asm) (by k_asm) (by k_upd) (by (rw [sizeLine_eq]; (try have hL9 := PyProof.Rows.StrsAre.length (by assumption)); (try simp only [List.length_cons] at *); omega)) ?_; k_whole); intro h9 F9 N9; (try k_sweep)) | (k_here; (with_reducible show wpAny _ _ (call (Value.builtin "len") [Value.str _ _]) _ _ _); refine len_str (by omega) ?_) | (k_here; (with_reducible show wpAny _ _ (call (Value.builtin "len") [Value.ref _]) _ _ _); k_dflt (refine len_strsA (by is_list) (by assumption) (by ((try simp only [List.length_map]); omega)) ?_; k_whole); (try simp only [List.length_map])) | walk1 | (k_here; (with_reducible show wpAny _ _ (compareOp CmpOp.NotEq (Value.ref _) (Value.ref _)) _ _ _); k_dflt (first | refine strs_ne_nil (by is_list) (by is_list) (by ke_room) ?_ | refine strs_ne_cons (by is_list) (by is_list) (by k_asm) (by ke_room) ?_ | refine strs_ne (by is_list) (by is_list) (by first | k_asm | exact StrsAre.nil) (by first | exact StrsAre.nil | k_asm) (by ke_room) ?_)) | (dsimp only; walk1) | (dsimp only; k_unfold; (try dsimp only)) | fail "no step"))
        refine hold_out ?_
        with_reducible rename Fr _ _ _ _ => F13
        with_reducible rename News _ _ _ _ => N13
        have hsl : (signs (ofL text)).length ≤ 19 := by rw [signs_len]; exact htl
        refine Spec.use (tok_spec2 _ a ok cq 1 tn yt (signs (ofL text)) cc hyt (by omega) hto (ofL word) n0 rest hr1) [(72, tabObj ps), (L0 + 1 + 1 + 1, oS), (L0 + 1 + 1, oW'), (L0 + 1, oT'), (105, tabObj #[])] B0 F13 X0 N13 T0 rfl ?_ ?_ (by decide) (by decide) ?_
        · (repeat (first | exact List.forall_mem_nil _ | refine List.forall_mem_cons.mpr ⟨by k_mem, ?_⟩))
        · ((refine lex_dis (by assumption) ?_; repeat (first | exact List.forall_mem_nil _ | refine List.forall_mem_cons.mpr ⟨by first | (left; (try dsimp only); with_reducible assumption) | (right; (try dsimp only); with_reducible assumption) | (left; (try dsimp only); omega) | (right; (try dsimp only); omega), ?_⟩)))
        refine tok_all ?_
        intro h2 tk2 tt cq2 tn2 yt2 cc2 hyt2 F14 N14 _
        try dsimp only
        clear N13 F13
        simp only [List.cons_append, List.nil_append] at N14
        (repeat' (first |  (k_unfold; (try dsimp only)) | (k_here; (with_reducible show wpAny _ _ (eval (Expr.Name _ _) (compEnv _ _ _)) _ _ _); k_dflt (first | (refine name_locS rfl rfl rfl (by decide) (by with_reducible assumption) (by assumption) ?_; k_whole) | (refine nameG_BS rfl rfl rfl rfl (by decide) (by k_asm) (by k_asm) (by k_asm) (by k_is) (by boot_fast) (by decide) ?_; k_whole))) | (k_here; (with_reducible show wpAny _ _ (call (Value.type _) [Value.str _ _]) _ _ _); k_dflt (refine list_strN rfl (by k_asm) (by k_asm) ?_ (by rw [sizeLine_eq]; omega)); intro D9 ys9 c9 h9 tk9 F9 N9 l9 m9 hS9; (try k_lt l9); (try k_sweep)) | (k_here; (with_reducible show wpAny _ _ (compareOp CmpOp.Eq (Value.ref _) (Value.ref _)) _ _ _); k_dflt (refine strs_eq (by is_list) (by is_list) (by first | k_asm | exact StrsAre.nil) (by first | exact StrsAre.nil | k_asm) (by ke_room) ?_)) | (k_here; (with_reducible show wpAny _ _ (call (Value.builtin _) [Value.ref _, Value.int 0 _]) _ _ _); k_dflt (refine pop_first (by k_asm) (by k_asm) (by k_upd) (by (rw [sizeLine_eq]; (try have hL9 := PyProof.Rows.StrsAre.length (by assumption)); (try simp only [List.length_cons] at *); omega)) ?_; k_whole); intro h9 F9 N9; (try k_sweep)) | (k_here; (with_reducible show wpAny _ _ (call (Value.builtin "len") [Value.str _ _]) _ _ _); refine len_str (by omega) ?_) | (k_here; (with_reducible show wpAny _ _ (call (Value.builtin "len") [Value.ref _]) _ _ _); k_dflt (refine len_strsA (by is_list) (by assumption) (by ((try simp only [List.length_map]); omega)) ?_; k_whole); (try simp only [List.length_map])) | walk1 | (k_here; (with_reducible show wpAny _ _ (compareOp CmpOp.NotEq (Value.ref _) (Value.ref _)) _ _ _); k_dflt (first | refine strs_ne_nil (by is_list) (by is_list) (by ke_room) ?_ | refine strs_ne_cons (by is_list) (by is_list) (by k_asm) (by ke_room) ?_ | refine strs_ne (by is_list) (by is_list) (by first | k_asm | exact StrsAre.nil) (by first | exact StrsAre.nil | k_asm) (by ke_room) ?_)) | (dsimp only; walk1) | (dsimp only; k_unfold; (try dsimp only)) | fail "no step"))
        · exfalso
          with_reducible rename (_ != _) = true => hne9
          exact absurd hne9 (by simp)
        refine hold_out ?_
        with_reducible rename IsRange _ _ _ _ _ _ _ _ => hR2
        with_reducible rename Fr _ _ _ _ => F15
        with_reducible rename News _ _ _ _ => N15
        replace hR2 : IsRange _ _ ((1 : Nat) : Int) ((16 : Nat) : Int) 1 _ _ _ := hR2
        refine LCt.CompSrcT.range (n := 15) (by rfl) F15 N15 hR2 (range_smallM (by omega) (by omega)) range_sizeM (by rw [sizeLine_eq]; decide) ?_
        intro g'
        refine rest_invT 15 (fun i ys nx => nx = LexW w0 a [] cq2 n0 tn2 yt2 cc2 ++ [(72, tabObj ps), (L0 + 1 + 1 + 1, oS), (L0 + 1 + 1, oW'), (L0 + 1, oT'), (105, tabObj #[])] ∧ IntsAre ys (intsOf (figsL word i))) ?turnF ?finF _ _ _ _ (Nat.zero_add _) ⟨rfl, IntsAre.nil⟩
        case turnF =>
          intro i ys nx v I oI C oC D m₂ h tk E' hi hI
          revert nx
          refine fix_all ?_
          intro hI hP9
          revert v
          refine vint_all ?_
          intro tv hCo hx F' N' off ne
          try dsimp only
          have N0 := N'
          have F0' := F'
          simp only [List.cons_append, List.nil_append] at N'
          (repeat' (first |  (k_unfold; (try dsimp only)) | (k_here; (with_reducible show wpAny _ _ (eval (Expr.Name _ _) (compEnv _ _ _)) _ _ _); k_dflt (first | (refine name_locS rfl rfl rfl (by decide) (by with_reducible assumption) (by assumption) ?_; k_whole) | (refine nameG_BS rfl rfl rfl rfl (by decide) (by k_asm) (by k_asm) (by k_asm) (by k_is) (by boot_fast) (by decide) ?_; k_whole))) | (k_here; (with_reducible show wpAny _ _ (call (Value.type _) [Value.str _ _]) _ _ _); k_dflt (refine list_strN rfl (by k_asm) (by k_asm) ?_ (by rw [sizeLine_eq]; omega)); intro D9 ys9 c9 h9 tk9 F9 N9 l9 m9 hS9; (try k_lt l9); (try k_sweep)) | (k_here; (with_reducible show wpAny _ _ (compareOp CmpOp.Eq (Value.ref _) (Value.ref _)) _ _ _); k_dflt (refine strs_eq (by is_list) (by is_list) (by first | k_asm | exact StrsAre.nil) (by first | exact StrsAre.nil | k_asm) (by ke_room) ?_)) | (k_here; (with_reducible show wpAny _ _ (call (Value.builtin _) [Value.ref _, Value.int 0 _]) _ _ _); k_dflt (refine pop_first (by k_asm) (by k_asm) (by k_upd) (by (rw [sizeLine_eq]; (try have hL9 := PyProof.Rows.StrsAre.length (by assumption)); (try simp only [List.length_cons] at *); omega)) ?_; k_whole); intro h9 F9 N9; (try k_sweep)) | (k_here; (with_reducible show wpAny _ _ (call (Value.builtin "len") [Value.str _ _]) _ _ _); refine len_str (by omega) ?_) | (k_here; (with_reducible show wpAny _ _ (call (Value.builtin "len") [Value.ref _]) _ _ _); k_dflt (refine len_strsA (by is_list) (by assumption) (by ((try simp only [List.length_map]); omega)) ?_; k_whole); (try simp only [List.length_map])) | walk1 | (k_here; (with_reducible show wpAny _ _ (compareOp CmpOp.NotEq (Value.ref _) (Value.ref _)) _ _ _); k_dflt (first | refine strs_ne_nil (by is_list) (by is_list) (by ke_room) ?_ | refine strs_ne_cons (by is_list) (by is_list) (by k_asm) (by ke_room) ?_ | refine strs_ne (by is_list) (by is_list) (by first | k_asm | exact StrsAre.nil) (by first | exact StrsAre.nil | k_asm) (by ke_room) ?_)) | (dsimp only; walk1) | (dsimp only; k_unfold; (try dsimp only)) | fail "no step"))
          refine hold_out ?_
          refine chr_of_range (by omega) (by omega) ?_
          (repeat' (first |  (k_unfold; (try dsimp only)) | (k_here; (with_reducible show wpAny _ _ (eval (Expr.Name _ _) (compEnv _ _ _)) _ _ _); k_dflt (first | (refine name_locS rfl rfl rfl (by decide) (by with_reducible assumption) (by assumption) ?_; k_whole) | (refine nameG_BS rfl rfl rfl rfl (by decide) (by k_asm) (by k_asm) (by k_asm) (by k_is) (by boot_fast) (by decide) ?_; k_whole))) | (k_here; (with_reducible show wpAny _ _ (call (Value.type _) [Value.str _ _]) _ _ _); k_dflt (refine list_strN rfl (by k_asm) (by k_asm) ?_ (by rw [sizeLine_eq]; omega)); intro D9 ys9 c9 h9 tk9 F9 N9 l9 m9 hS9; (try k_lt l9); (try k_sweep)) | (k_here; (with_reducible show wpAny _ _ (compareOp CmpOp.Eq (Value.ref _) (Value.ref _)) _ _ _); k_dflt (refine strs_eq (by is_list) (by is_list) (by first | k_asm | exact StrsAre.nil) (by first | exact StrsAre.nil | k_asm) (by ke_room) ?_)) | (k_here; (with_reducible show wpAny _ _ (call (Value.builtin _) [Value.ref _, Value.int 0 _]) _ _ _); k_dflt (refine pop_first (by k_asm) (by k_asm) (by k_upd) (by (rw [sizeLine_eq]; (try have hL9 := PyProof.Rows.StrsAre.length (by assumption)); (try simp only [List.length_cons] at *); omega)) ?_; k_whole); intro h9 F9 N9; (try k_sweep)) | (k_here; (with_reducible show wpAny _ _ (call (Value.builtin "len") [Value.str _ _]) _ _ _); refine len_str (by omega) ?_) | (k_here; (with_reducible show wpAny _ _ (call (Value.builtin "len") [Value.ref _]) _ _ _); k_dflt (refine len_strsA (by is_list) (by assumption) (by ((try simp only [List.length_map]); omega)) ?_; k_whole); (try simp only [List.length_map])) | walk1 | (k_here; (with_reducible show wpAny _ _ (compareOp CmpOp.NotEq (Value.ref _) (Value.ref _)) _ _ _); k_dflt (first | refine strs_ne_nil (by is_list) (by is_list) (by ke_room) ?_ | refine strs_ne_cons (by is_list) (by is_list) (by k_asm) (by ke_room) ?_ | refine strs_ne (by is_list) (by is_list) (by first | k_asm | exact StrsAre.nil) (by first | exact StrsAre.nil | k_asm) (by ke_room) ?_)) | (dsimp only; walk1) | (dsimp only; k_unfold; (try dsimp only)) | fail "no step"))
          · with_reducible rename (Builtin.Str.occurrences _ _ _ _ _).isEmpty = true => hin
            rw [chr_in] at hin
            exact LCg.CompEnd.intro F0' N0 _ (fun p hp => hp) off trivial ⟨rfl, by rw [figs_out (by simpa using hin)]; exact hI⟩
          · with_reducible rename (Builtin.Str.occurrences _ _ _ _ _).isEmpty = false => hin
            rw [chr_in] at hin
            exact LCg.CompEnd.intro F0' N0 _ (fun p hp => hp) off trivial ⟨rfl, by rw [figs_in (by simpa using hin)]; exact ints_snocM hI⟩
        case finF =>
          intro ys
          refine fix_all ?_
          intro hI
          try dsimp only
          simp only [List.cons_append, List.nil_append]
          (repeat' (first |  (k_unfold; (try dsimp only)) | (k_here; (with_reducible show wpAny _ _ (eval (Expr.Name _ _) (compEnv _ _ _)) _ _ _); k_dflt (first | (refine name_locS rfl rfl rfl (by decide) (by with_reducible assumption) (by assumption) ?_; k_whole) | (refine nameG_BS rfl rfl rfl rfl (by decide) (by k_asm) (by k_asm) (by k_asm) (by k_is) (by boot_fast) (by decide) ?_; k_whole))) | (k_here; (with_reducible show wpAny _ _ (call (Value.type _) [Value.str _ _]) _ _ _); k_dflt (refine list_strN rfl (by k_asm) (by k_asm) ?_ (by rw [sizeLine_eq]; omega)); intro D9 ys9 c9 h9 tk9 F9 N9 l9 m9 hS9; (try k_lt l9); (try k_sweep)) | (k_here; (with_reducible show wpAny _ _ (compareOp CmpOp.Eq (Value.ref _) (Value.ref _)) _ _ _); k_dflt (refine strs_eq (by is_list) (by is_list) (by first | k_asm | exact StrsAre.nil) (by first | exact StrsAre.nil | k_asm) (by ke_room) ?_)) | (k_here; (with_reducible show wpAny _ _ (call (Value.builtin _) [Value.ref _, Value.int 0 _]) _ _ _); k_dflt (refine pop_first (by k_asm) (by k_asm) (by k_upd) (by (rw [sizeLine_eq]; (try have hL9 := PyProof.Rows.StrsAre.length (by assumption)); (try simp only [List.length_cons] at *); omega)) ?_; k_whole); intro h9 F9 N9; (try k_sweep)) | (k_here; (with_reducible show wpAny _ _ (call (Value.builtin "len") [Value.str _ _]) _ _ _); refine len_str (by omega) ?_) | (k_here; (with_reducible show wpAny _ _ (call (Value.builtin "len") [Value.ref _]) _ _ _); k_dflt (refine len_strsA (by is_list) (by assumption) (by ((try simp only [List.length_map]); omega)) ?_; k_whole); (try simp only [List.length_map])) | walk1 | (k_here; (with_reducible show wpAny _ _ (compareOp CmpOp.NotEq (Value.ref _) (Value.ref _)) _ _ _); k_dflt (first | refine strs_ne_nil (by is_list) (by is_list) (by ke_room) ?_ | refine strs_ne_cons (by is_list) (by is_list) (by k_asm) (by ke_room) ?_ | refine strs_ne (by is_list) (by is_list) (by first | k_asm | exact StrsAre.nil) (by first | exact StrsAre.nil | k_asm) (by ke_room) ?_)) | (dsimp only; walk1) | (dsimp only; k_unfold; (try dsimp only)) | fail "no step"))
          refine hold_out ?_
          with_reducible rename Obj => oIt
          rename_i D9 h91 tk91 o1' LL h92 N92 l1' I1 l1'' h93 tk93 hit F93 N93
          have l1b : @LT.lt Nat _ a.pb LL := l1'.2.1
          have l2c : @LT.lt Nat _ a.pb I1 := l1''.2.2.1
          have l2a : @LT.lt Nat _ LL I1 := l1''.1
          have l2b : @LT.lt Nat _ D9 I1 := l1''.2.1
          have hD9 := dis10 o1'
          have F94 : Fr g L0 h93 (l2Fr S D9 a.lx (ofL text) (ofL body) tx9 tb9 none none none none (some (.int 1 tk91)) none none none) := by ((refine fr_to (by assumption) (fun y => ?_); by_cases h1 : y = Str.ofString "part"; (subst h1; kernel_rfl); by_cases h2 : y = Str.ofString "start"; (subst h2; kernel_rfl); by_cases h3 : y = Str.ofString "full"; (subst h3; kernel_rfl); by_cases h4 : y = Str.ofString "wider"; (subst h4; kernel_rfl); by_cases h5 : y = Str.ofString "grown"; (subst h5; kernel_rfl); by_cases h6 : y = Str.ofString "heard"; (subst h6; kernel_rfl); by_cases h7 : y = Str.ofString "figure"; (subst h7; kernel_rfl); by_cases h8 : y = Str.ofString "times"; (subst h8; kernel_rfl); (simp only [l2Fr, if_neg h1, if_neg h2, if_neg h3, if_neg h4, if_neg h5, if_neg h6, if_neg h7, if_neg h8]); (try rfl)))
          have oL2 : @LT.lt Nat _ (L0 + 1 + 1) a.cell := Nat.lt_trans (Nat.lt_succ_self _) oc1
          have oL1 : @LT.lt Nat _ (L0 + 1) a.cell := Nat.lt_trans (Nat.lt_succ_self _) oL2
          have o105 : @LT.lt Nat _ 105 a.cell := Nat.lt_trans l105 (Nat.lt_trans (Nat.lt_succ_self _) oL1)
          have hcI : @LT.lt Nat _ a.cell I1 := Nat.lt_of_le_of_lt (lex_in (q := []) (cq := 0) (n := 0) (tn := 0) (cs := []) (cc := 0) ok (a.pb, PySem.W.listOf #[] 0) (.head _)).1 l2c
          refine pack7 (x1 := (D9, LCg.lst ys)) (x2 := (LL, PySem.W.listOf #[Value.int 1 tk91, Value.int 17 (tk91 + 1)] 0)) (x3 := (72, tabObj ps)) (x4 := (L0 + 1 + 1 + 1, oS)) (x5 := (L0 + 1 + 1, oW')) (x6 := (L0 + 1, oT')) (x7 := (105, tabObj #[])) ?_
          intro r2 hmF hmL hm72 hmS hmW hmT hm105 hr2in
          have hDis : Dis a r2 := fun r hr => (Dis.other hD9 (Dis.above ok l1b (Dis.below ok oc0 (Dis.below ok oc1 (Dis.below ok oL2 (Dis.below ok oL1 (Dis.below ok o105 Dis.nil))))))) r (hr2in r hr)
          have hDisI : ∀ oI, Dis a ((I1, oI) :: r2) := fun oI => Dis.above ok l2c hDis
          have hoffI : ∀ p ∈ r2, p.1 ≠ I1 := fun p hp => all7 (P := fun p => p.1 ≠ I1) (Nat.ne_of_lt l2b) (Nat.ne_of_lt l2a) (Nat.ne_of_lt (Nat.lt_trans oc0 hcI)) (Nat.ne_of_lt (Nat.lt_trans oc1 hcI)) (Nat.ne_of_lt (Nat.lt_trans oL2 hcI)) (Nat.ne_of_lt (Nat.lt_trans oL1 hcI)) (Nat.ne_of_lt (Nat.lt_trans o105 hcI)) p (hr2in p hp)
          have hoffIL : ∀ (ysQ : List Value) (cq : Nat) (tn : Tok) (cs : List Value) (cc : Nat), ∀ p ∈ LexW w0 a ysQ cq n0 tn cs cc ++ r2, p.1 ≠ I1 := fun ysQ cq tn cs cc p hp => by
            rcases List.mem_append.mp hp with hp | hp
            · exact (hDisI oIt).use p hp (I1, oIt) (.head _)
            · exact hoffI p hp
          have N94 : News g L0 h93 (LexW w0 a [] cq2 n0 tn2 yt2 cc2 ++ ((I1, oIt) :: r2)) := by
            intro p hp
            refine N93 p ?_
            rcases List.mem_cons.mp (mem_mid p hp) with rfl | hp1
            · k_mem
            clear hp
            rcases List.mem_append.mp hp1 with hp | hp
            · clear hp1
              unfold LexW at hp
              revert p hp; (repeat (first | exact List.forall_mem_nil _ | refine List.forall_mem_cons.mpr ⟨by k_mem, ?_⟩))
            · refine (?_ : ∀ p ∈ [(D9, LCg.lst ys), (LL, PySem.W.listOf #[Value.int 1 tk91, Value.int 17 (tk91 + 1)] 0), (72, tabObj ps), (L0 + 1 + 1 + 1, oS), (L0 + 1 + 1, oW'), (L0 + 1, oT'), (105, tabObj #[])], p ∈ _) p (hr2in p hp)
              (repeat (first | exact List.forall_mem_nil _ | refine List.forall_mem_cons.mpr ⟨by k_mem, ?_⟩))
          clear N93 F93 N92
          have hfl : ys.length = (figsL word 15).length := by have := hI.length; unfold intsOf at this; rw [List.length_map] at this; exact this
          have hf15 := figs_len word 15
          refine use_code (fun tm tt oI q s' => ((tm = 1 ∨ tm = 17) ∧ q.length ≤ 100) ∧ PSt w0 a g L0 s1 n0 rest (fun mf mt => l2Fr S D9 a.lx (ofL text) (ofL body) tx9 tb9 none none none mf mt none none none) r2 I1 tm tt oI q s') (fun tm tt oI q s' => PSt w0 a g L0 s1 n0 rest (fun mf mt => l2Fr S D9 a.lx (ofL text) (ofL body) tx9 tb9 none none none mf mt none none none) r2 I1 tm tt oI (q ++ pushN word tm (figsL word 15).length) s') ?spec ?goOn
          case spec =>
            clear N94 F94
            intro tm tt9 oI q s' hp
            have htm := hp.1.1
            have hq := hp.1.2
            refine pst_all (fr := fun mf mt => l2Fr S D9 a.lx (ofL text) (ofL body) tx9 tb9 none none none mf mt none none none) ?_ s' hp.2
            clear hp
            intro mf ysQ cs cq tn cc h tk hQ hCs F N
            refine wpAny_For ?_
            (repeat' (first |  (k_unfold; (try dsimp only)) | (k_here; (with_reducible show wpAny _ _ (eval (Expr.Name _ _) (compEnv _ _ _)) _ _ _); k_dflt (first | (refine name_locS rfl rfl rfl (by decide) (by with_reducible assumption) (by assumption) ?_; k_whole) | (refine nameG_BS rfl rfl rfl rfl (by decide) (by k_asm) (by k_asm) (by k_asm) (by k_is) (by boot_fast) (by decide) ?_; k_whole))) | (k_here; (with_reducible show wpAny _ _ (call (Value.type _) [Value.str _ _]) _ _ _); k_dflt (refine list_strN rfl (by k_asm) (by k_asm) ?_ (by rw [sizeLine_eq]; omega)); intro D9 ys9 c9 h9 tk9 F9 N9 l9 m9 hS9; (try k_lt l9); (try k_sweep)) | (k_here; (with_reducible show wpAny _ _ (compareOp CmpOp.Eq (Value.ref _) (Value.ref _)) _ _ _); k_dflt (refine strs_eq (by is_list) (by is_list) (by first | k_asm | exact StrsAre.nil) (by first | exact StrsAre.nil | k_asm) (by ke_room) ?_)) | (k_here; (with_reducible show wpAny _ _ (call (Value.builtin _) [Value.ref _, Value.int 0 _]) _ _ _); k_dflt (refine pop_first (by k_asm) (by k_asm) (by k_upd) (by (rw [sizeLine_eq]; (try have hL9 := PyProof.Rows.StrsAre.length (by assumption)); (try simp only [List.length_cons] at *); omega)) ?_; k_whole); intro h9 F9 N9; (try k_sweep)) | (k_here; (with_reducible show wpAny _ _ (call (Value.builtin "len") [Value.str _ _]) _ _ _); refine len_str (by omega) ?_) | (k_here; (with_reducible show wpAny _ _ (call (Value.builtin "len") [Value.ref _]) _ _ _); k_dflt (refine len_strsA (by is_list) (by assumption) (by ((try simp only [List.length_map]); omega)) ?_; k_whole); (try simp only [List.length_map])) | walk1 | (k_here; (with_reducible show wpAny _ _ (compareOp CmpOp.NotEq (Value.ref _) (Value.ref _)) _ _ _); k_dflt (first | refine strs_ne_nil (by is_list) (by is_list) (by ke_room) ?_ | refine strs_ne_cons (by is_list) (by is_list) (by k_asm) (by ke_room) ?_ | refine strs_ne (by is_list) (by is_list) (by first | k_asm | exact StrsAre.nil) (by first | exact StrsAre.nil | k_asm) (by ke_room) ?_)) | (dsimp only; walk1) | (dsimp only; k_unfold; (try dsimp only)) | fail "no step"))
            refine hold_out ?_
            with_reducible rename Fr _ _ _ _ => F'
            with_reducible rename News _ _ _ _ => N'
            refine' for_list (m := l2Fr S D9 a.lx (ofL text) (ofL body) tx9 tb9 none none none mf (some (.int (tm : Int) tt9)) none none none) (nn := ys.length) (vs := ys) (news := LexW w0 a ysQ cq n0 tn cs cc ++ ((I1, oI) :: r2)) (PJ w0 a n0 rest (fun _ mf => l2Fr S D9 a.lx (ofL text) (ofL body) tx9 tb9 none none none mf (some (.int (tm : Int) tt9)) none none none) ((I1, oI) :: r2) q (pushN word tm)) (by rfl) (fun _ _ h => h) ?fF ?fN ?fm ?fj (pj_mem (.tail _ hmF)) ?fturn ?fdone
            case fF => exact F'
            case fN => exact N'
            case fm => exact List.mem_append_right _ (.tail _ hmF)
            case fj => exact PJ.mk (fr := fun _ mf => l2Fr S D9 a.lx (ofL text) (ofL body) tx9 tb9 none none none mf (some (.int (tm : Int) tt9)) none none none) (mw := none) (by rw [show pushN word tm 0 = [] from rfl, List.append_nil]; exact hQ) hCs
            case fdone =>
              intro m₁ nx h tk hJ
              revert m₁ nx
              refine pj_all (fr := fun _ mf => l2Fr S D9 a.lx (ofL text) (ofL body) tx9 tb9 none none none mf (some (.int (tm : Int) tt9)) none none none) ?_
              intro _ mf ysQ cs cq tn cc hQ hCs F N
              rw [hfl] at hQ
              exact EndQ2.mk (PSt.mk hQ hCs F N)
            case fturn =>
              clear F' N' hQ hCs
              intro i v m₁ nx h tk I2 oI2 hi hv hJ
              revert m₁ nx
              refine pj_all (fr := fun _ mf => l2Fr S D9 a.lx (ofL text) (ofL body) tx9 tb9 none none none mf (some (.int (tm : Int) tt9)) none none none) ?_
              intro _ mf ysQ cs cq tn cc hQ hCs F N off
              obtain ⟨f, tf, hf, rfl⟩ := ints_atM hI hv
              have hfm := List.mem_of_getElem? hf
              obtain ⟨hu1, hu2⟩ := uOf_ok (tm := tm) hbds hfm
              have hql := hQ.length
              rw [List.length_map, List.length_append] at hql
              have hpl := pushN_len (word := word) (tm := tm) (i := i)
              have hql2 : ysQ.length ≤ 1000 := push_sz2 hql hq hpl
              have hval := uOf_val (f := f) htm
              refine lex_walk (news_mid N) (.tail _ (.tail _ hmW)) ?_
              intro V hV NW
              clear N
              try dsimp only
              (repeat' (first |  (k_unfold; (try dsimp only)) | (k_here; (with_reducible show wpAny _ _ (eval (Expr.Name _ _) (compEnv _ _ _)) _ _ _); k_dflt (first | (refine name_locS rfl rfl rfl (by decide) (by with_reducible assumption) (by assumption) ?_; k_whole) | (refine nameG_BS rfl rfl rfl rfl (by decide) (by k_asm) (by k_asm) (by k_asm) (by k_is) (by boot_fast) (by decide) ?_; k_whole))) | (k_here; (with_reducible show wpAny _ _ (call (Value.type _) [Value.str _ _]) _ _ _); k_dflt (refine list_strN rfl (by k_asm) (by k_asm) ?_ (by rw [sizeLine_eq]; omega)); intro D9 ys9 c9 h9 tk9 F9 N9 l9 m9 hS9; (try k_lt l9); (try k_sweep)) | (k_here; (with_reducible show wpAny _ _ (compareOp CmpOp.Eq (Value.ref _) (Value.ref _)) _ _ _); k_dflt (refine strs_eq (by is_list) (by is_list) (by first | k_asm | exact StrsAre.nil) (by first | exact StrsAre.nil | k_asm) (by ke_room) ?_)) | (k_here; (with_reducible show wpAny _ _ (call (Value.builtin _) [Value.ref _, Value.int 0 _]) _ _ _); k_dflt (refine pop_first (by k_asm) (by k_asm) (by k_upd) (by (rw [sizeLine_eq]; (try have hL9 := PyProof.Rows.StrsAre.length (by assumption)); (try simp only [List.length_cons] at *); omega)) ?_; k_whole); intro h9 F9 N9; (try k_sweep)) | (k_here; (with_reducible show wpAny _ _ (call (Value.builtin "len") [Value.str _ _]) _ _ _); refine len_str (by omega) ?_) | (k_here; (with_reducible show wpAny _ _ (call (Value.builtin "len") [Value.ref _]) _ _ _); k_dflt (refine len_strsA (by is_list) (by assumption) (by ((try simp only [List.length_map]); omega)) ?_; k_whole); (try simp only [List.length_map])) | walk1 | (k_here; (with_reducible show wpAny _ _ (compareOp CmpOp.NotEq (Value.ref _) (Value.ref _)) _ _ _); k_dflt (first | refine strs_ne_nil (by is_list) (by is_list) (by ke_room) ?_ | refine strs_ne_cons (by is_list) (by is_list) (by k_asm) (by ke_room) ?_ | refine strs_ne (by is_list) (by is_list) (by first | k_asm | exact StrsAre.nil) (by first | exact StrsAre.nil | k_asm) (by ke_room) ?_)) | (dsimp only; walk1) | (dsimp only; k_unfold; (try dsimp only)) | fail "no step"))
              refine hold_out ?_
              refine Spec.pure (written_spec _ _ _ (by rw [hval]; exact apL_len _ hu1 (by omega))) (by assumption) (by assumption) (by assumption) (by assumption) (by assumption) rfl (by decide) (by decide) ?_
              refine str_all ?_
              intro h31 tk31 t41 F31 N31
              try dsimp only
              rw [hval, written_val _ hu1]
              (repeat' (first |  (k_unfold; (try dsimp only)) | (k_here; (with_reducible show wpAny _ _ (eval (Expr.Name _ _) (compEnv _ _ _)) _ _ _); k_dflt (first | (refine name_locS rfl rfl rfl (by decide) (by with_reducible assumption) (by assumption) ?_; k_whole) | (refine nameG_BS rfl rfl rfl rfl (by decide) (by k_asm) (by k_asm) (by k_asm) (by k_is) (by boot_fast) (by decide) ?_; k_whole))) | (k_here; (with_reducible show wpAny _ _ (call (Value.type _) [Value.str _ _]) _ _ _); k_dflt (refine list_strN rfl (by k_asm) (by k_asm) ?_ (by rw [sizeLine_eq]; omega)); intro D9 ys9 c9 h9 tk9 F9 N9 l9 m9 hS9; (try k_lt l9); (try k_sweep)) | (k_here; (with_reducible show wpAny _ _ (compareOp CmpOp.Eq (Value.ref _) (Value.ref _)) _ _ _); k_dflt (refine strs_eq (by is_list) (by is_list) (by first | k_asm | exact StrsAre.nil) (by first | exact StrsAre.nil | k_asm) (by ke_room) ?_)) | (k_here; (with_reducible show wpAny _ _ (call (Value.builtin _) [Value.ref _, Value.int 0 _]) _ _ _); k_dflt (refine pop_first (by k_asm) (by k_asm) (by k_upd) (by (rw [sizeLine_eq]; (try have hL9 := PyProof.Rows.StrsAre.length (by assumption)); (try simp only [List.length_cons] at *); omega)) ?_; k_whole); intro h9 F9 N9; (try k_sweep)) | (k_here; (with_reducible show wpAny _ _ (call (Value.builtin "len") [Value.str _ _]) _ _ _); refine len_str (by omega) ?_) | (k_here; (with_reducible show wpAny _ _ (call (Value.builtin "len") [Value.ref _]) _ _ _); k_dflt (refine len_strsA (by is_list) (by assumption) (by ((try simp only [List.length_map]); omega)) ?_; k_whole); (try simp only [List.length_map])) | walk1 | (k_here; (with_reducible show wpAny _ _ (compareOp CmpOp.NotEq (Value.ref _) (Value.ref _)) _ _ _); k_dflt (first | refine strs_ne_nil (by is_list) (by is_list) (by ke_room) ?_ | refine strs_ne_cons (by is_list) (by is_list) (by k_asm) (by ke_room) ?_ | refine strs_ne (by is_list) (by is_list) (by first | k_asm | exact StrsAre.nil) (by first | exact StrsAre.nil | k_asm) (by ke_room) ?_)) | (dsimp only; walk1) | (dsimp only; k_unfold; (try dsimp only)) | fail "no step"))
              refine hold_out ?_
              refine Spec.pure (within_spec _ (uOf tm f) word _ _ (by omega) (by omega) (fun c hc => by have := hu1 c hc; omega)) (by assumption) (by assumption) (by assumption) (by assumption) (by assumption) rfl (by decide) (by decide) ?_
              refine eq_all ?_
              intro h32 tk32 F32 N32
              try dsimp only
              cases hin : inB (uOf tm f) word with
              | false =>
                (repeat' (first |  (k_unfold; (try dsimp only)) | (k_here; (with_reducible show wpAny _ _ (eval (Expr.Name _ _) (compEnv _ _ _)) _ _ _); k_dflt (first | (refine name_locS rfl rfl rfl (by decide) (by with_reducible assumption) (by assumption) ?_; k_whole) | (refine nameG_BS rfl rfl rfl rfl (by decide) (by k_asm) (by k_asm) (by k_asm) (by k_is) (by boot_fast) (by decide) ?_; k_whole))) | (k_here; (with_reducible show wpAny _ _ (call (Value.type _) [Value.str _ _]) _ _ _); k_dflt (refine list_strN rfl (by k_asm) (by k_asm) ?_ (by rw [sizeLine_eq]; omega)); intro D9 ys9 c9 h9 tk9 F9 N9 l9 m9 hS9; (try k_lt l9); (try k_sweep)) | (k_here; (with_reducible show wpAny _ _ (compareOp CmpOp.Eq (Value.ref _) (Value.ref _)) _ _ _); k_dflt (refine strs_eq (by is_list) (by is_list) (by first | k_asm | exact StrsAre.nil) (by first | exact StrsAre.nil | k_asm) (by ke_room) ?_)) | (k_here; (with_reducible show wpAny _ _ (call (Value.builtin _) [Value.ref _, Value.int 0 _]) _ _ _); k_dflt (refine pop_first (by k_asm) (by k_asm) (by k_upd) (by (rw [sizeLine_eq]; (try have hL9 := PyProof.Rows.StrsAre.length (by assumption)); (try simp only [List.length_cons] at *); omega)) ?_; k_whole); intro h9 F9 N9; (try k_sweep)) | (k_here; (with_reducible show wpAny _ _ (call (Value.builtin "len") [Value.str _ _]) _ _ _); refine len_str (by omega) ?_) | (k_here; (with_reducible show wpAny _ _ (call (Value.builtin "len") [Value.ref _]) _ _ _); k_dflt (refine len_strsA (by is_list) (by assumption) (by ((try simp only [List.length_map]); omega)) ?_; k_whole); (try simp only [List.length_map])) | walk1 | (k_here; (with_reducible show wpAny _ _ (compareOp CmpOp.NotEq (Value.ref _) (Value.ref _)) _ _ _); k_dflt (first | refine strs_ne_nil (by is_list) (by is_list) (by ke_room) ?_ | refine strs_ne_cons (by is_list) (by is_list) (by k_asm) (by ke_room) ?_ | refine strs_ne (by is_list) (by is_list) (by first | k_asm | exact StrsAre.nil) (by first | exact StrsAre.nil | k_asm) (by ke_room) ?_)) | (dsimp only; walk1) | (dsimp only; k_unfold; (try dsimp only)) | fail "no step"))
                exact TurnTo.mk (PJ.mk (fr := fun _ mf => l2Fr S D9 a.lx (ofL text) (ofL body) tx9 tb9 none none none mf (some (.int (tm : Int) tt9)) none none none) (mw := none) (by rw [pushN_no hf hin]; exact hQ) hCs) (l2_figure F32) N32 (fun p hp => up3 hV p (mid_mem p hp)) off
              | true =>
                (repeat' (first |  (k_unfold; (try dsimp only)) | (k_here; (with_reducible show wpAny _ _ (eval (Expr.Name _ _) (compEnv _ _ _)) _ _ _); k_dflt (first | (refine name_locS rfl rfl rfl (by decide) (by with_reducible assumption) (by assumption) ?_; k_whole) | (refine nameG_BS rfl rfl rfl rfl (by decide) (by k_asm) (by k_asm) (by k_asm) (by k_is) (by boot_fast) (by decide) ?_; k_whole))) | (k_here; (with_reducible show wpAny _ _ (call (Value.type _) [Value.str _ _]) _ _ _); k_dflt (refine list_strN rfl (by k_asm) (by k_asm) ?_ (by rw [sizeLine_eq]; omega)); intro D9 ys9 c9 h9 tk9 F9 N9 l9 m9 hS9; (try k_lt l9); (try k_sweep)) | (k_here; (with_reducible show wpAny _ _ (compareOp CmpOp.Eq (Value.ref _) (Value.ref _)) _ _ _); k_dflt (refine strs_eq (by is_list) (by is_list) (by first | k_asm | exact StrsAre.nil) (by first | exact StrsAre.nil | k_asm) (by ke_room) ?_)) | (k_here; (with_reducible show wpAny _ _ (call (Value.builtin _) [Value.ref _, Value.int 0 _]) _ _ _); k_dflt (refine pop_first (by k_asm) (by k_asm) (by k_upd) (by (rw [sizeLine_eq]; (try have hL9 := PyProof.Rows.StrsAre.length (by assumption)); (try simp only [List.length_cons] at *); omega)) ?_; k_whole); intro h9 F9 N9; (try k_sweep)) | (k_here; (with_reducible show wpAny _ _ (call (Value.builtin "len") [Value.str _ _]) _ _ _); refine len_str (by omega) ?_) | (k_here; (with_reducible show wpAny _ _ (call (Value.builtin "len") [Value.ref _]) _ _ _); k_dflt (refine len_strsA (by is_list) (by assumption) (by ((try simp only [List.length_map]); omega)) ?_; k_whole); (try simp only [List.length_map])) | walk1 | (k_here; (with_reducible show wpAny _ _ (compareOp CmpOp.NotEq (Value.ref _) (Value.ref _)) _ _ _); k_dflt (first | refine strs_ne_nil (by is_list) (by is_list) (by ke_room) ?_ | refine strs_ne_cons (by is_list) (by is_list) (by k_asm) (by ke_room) ?_ | refine strs_ne (by is_list) (by is_list) (by first | k_asm | exact StrsAre.nil) (by first | exact StrsAre.nil | k_asm) (by ke_room) ?_)) | (dsimp only; walk1) | (dsimp only; k_unfold; (try dsimp only)) | fail "no step"))
                refine hold_out ?_
                refine Spec.pure (written_spec _ _ _ (by rw [hval]; exact apL_len _ hu1 (by omega))) (by assumption) (by assumption) (by assumption) (by assumption) (by assumption) rfl (by decide) (by decide) ?_
                refine str_all ?_
                intro h33 tk33 t43 F33 N33
                try dsimp only
                rw [hval, written_val _ hu1]
                (repeat' (first |  (k_unfold; (try dsimp only)) | (k_here; (with_reducible show wpAny _ _ (eval (Expr.Name _ _) (compEnv _ _ _)) _ _ _); k_dflt (first | (refine name_locS rfl rfl rfl (by decide) (by with_reducible assumption) (by assumption) ?_; k_whole) | (refine nameG_BS rfl rfl rfl rfl (by decide) (by k_asm) (by k_asm) (by k_asm) (by k_is) (by boot_fast) (by decide) ?_; k_whole))) | (k_here; (with_reducible show wpAny _ _ (call (Value.type _) [Value.str _ _]) _ _ _); k_dflt (refine list_strN rfl (by k_asm) (by k_asm) ?_ (by rw [sizeLine_eq]; omega)); intro D9 ys9 c9 h9 tk9 F9 N9 l9 m9 hS9; (try k_lt l9); (try k_sweep)) | (k_here; (with_reducible show wpAny _ _ (compareOp CmpOp.Eq (Value.ref _) (Value.ref _)) _ _ _); k_dflt (refine strs_eq (by is_list) (by is_list) (by first | k_asm | exact StrsAre.nil) (by first | exact StrsAre.nil | k_asm) (by ke_room) ?_)) | (k_here; (with_reducible show wpAny _ _ (call (Value.builtin _) [Value.ref _, Value.int 0 _]) _ _ _); k_dflt (refine pop_first (by k_asm) (by k_asm) (by k_upd) (by (rw [sizeLine_eq]; (try have hL9 := PyProof.Rows.StrsAre.length (by assumption)); (try simp only [List.length_cons] at *); omega)) ?_; k_whole); intro h9 F9 N9; (try k_sweep)) | (k_here; (with_reducible show wpAny _ _ (call (Value.builtin "len") [Value.str _ _]) _ _ _); refine len_str (by omega) ?_) | (k_here; (with_reducible show wpAny _ _ (call (Value.builtin "len") [Value.ref _]) _ _ _); k_dflt (refine len_strsA (by is_list) (by assumption) (by ((try simp only [List.length_map]); omega)) ?_; k_whole); (try simp only [List.length_map])) | walk1 | (k_here; (with_reducible show wpAny _ _ (compareOp CmpOp.NotEq (Value.ref _) (Value.ref _)) _ _ _); k_dflt (first | refine strs_ne_nil (by is_list) (by is_list) (by ke_room) ?_ | refine strs_ne_cons (by is_list) (by is_list) (by k_asm) (by ke_room) ?_ | refine strs_ne (by is_list) (by is_list) (by first | k_asm | exact StrsAre.nil) (by first | exact StrsAre.nil | k_asm) (by ke_room) ?_)) | (dsimp only; walk1) | (dsimp only; k_unfold; (try dsimp only)) | fail "no step"))
                refine hold_out ?_
                refine Spec.use (push_spec w0 a ok ysQ cq n0 tn cs cc (ofL (uOf tm f)) _ hql2) ((I2, oI2) :: (I1, oI) :: r2) B0 F33 X0 N33 T0 rfl (up3 hV) (Dis.off off (hDisI oI)).use (by decide) (by decide) ?_
                refine push_all ?_
                intro h34 tk34 cq' F34 N34 _
                try dsimp only
                (repeat' (first |  (k_unfold; (try dsimp only)) | (k_here; (with_reducible show wpAny _ _ (eval (Expr.Name _ _) (compEnv _ _ _)) _ _ _); k_dflt (first | (refine name_locS rfl rfl rfl (by decide) (by with_reducible assumption) (by assumption) ?_; k_whole) | (refine nameG_BS rfl rfl rfl rfl (by decide) (by k_asm) (by k_asm) (by k_asm) (by k_is) (by boot_fast) (by decide) ?_; k_whole))) | (k_here; (with_reducible show wpAny _ _ (call (Value.type _) [Value.str _ _]) _ _ _); k_dflt (refine list_strN rfl (by k_asm) (by k_asm) ?_ (by rw [sizeLine_eq]; omega)); intro D9 ys9 c9 h9 tk9 F9 N9 l9 m9 hS9; (try k_lt l9); (try k_sweep)) | (k_here; (with_reducible show wpAny _ _ (compareOp CmpOp.Eq (Value.ref _) (Value.ref _)) _ _ _); k_dflt (refine strs_eq (by is_list) (by is_list) (by first | k_asm | exact StrsAre.nil) (by first | exact StrsAre.nil | k_asm) (by ke_room) ?_)) | (k_here; (with_reducible show wpAny _ _ (call (Value.builtin _) [Value.ref _, Value.int 0 _]) _ _ _); k_dflt (refine pop_first (by k_asm) (by k_asm) (by k_upd) (by (rw [sizeLine_eq]; (try have hL9 := PyProof.Rows.StrsAre.length (by assumption)); (try simp only [List.length_cons] at *); omega)) ?_; k_whole); intro h9 F9 N9; (try k_sweep)) | (k_here; (with_reducible show wpAny _ _ (call (Value.builtin "len") [Value.str _ _]) _ _ _); refine len_str (by omega) ?_) | (k_here; (with_reducible show wpAny _ _ (call (Value.builtin "len") [Value.ref _]) _ _ _); k_dflt (refine len_strsA (by is_list) (by assumption) (by ((try simp only [List.length_map]); omega)) ?_; k_whole); (try simp only [List.length_map])) | walk1 | (k_here; (with_reducible show wpAny _ _ (compareOp CmpOp.NotEq (Value.ref _) (Value.ref _)) _ _ _); k_dflt (first | refine strs_ne_nil (by is_list) (by is_list) (by ke_room) ?_ | refine strs_ne_cons (by is_list) (by is_list) (by k_asm) (by ke_room) ?_ | refine strs_ne (by is_list) (by is_list) (by first | k_asm | exact StrsAre.nil) (by first | exact StrsAre.nil | k_asm) (by ke_room) ?_)) | (dsimp only; walk1) | (dsimp only; k_unfold; (try dsimp only)) | fail "no step"))
                exact TurnTo.mk (PJ.mk (fr := fun _ mf => l2Fr S D9 a.lx (ofL text) (ofL body) tx9 tb9 none none none mf (some (.int (tm : Int) tt9)) none none none) (mw := none) (by rw [pushN_yes hf hin, ← List.append_assoc]; exact strs_snocM (t := t43) hQ) hCs) (l2_figure F34) N34 mid_mem (off_lex off)
          case goOn =>
            intro hspec
            refine wpAny_mono (hspec 1 tk91 oIt [] _ ⟨⟨.inl rfl, Nat.zero_le _⟩, PSt.mk (fr := fun mf mt => l2Fr S D9 a.lx (ofL text) (ofL body) tx9 tb9 none none none mf mt none none none) StrsAre.nil hyt2 F94 N94⟩) (endq_all (pst_all (fr := fun mf mt => l2Fr S D9 a.lx (ofL text) (ofL body) tx9 tb9 none none none mf mt none none none) ?_)) (fun _ _ x => x.elim)
            clear F94 N94
            intro mf ysQ cs cq tn cc h tk hQ hCs F N
            try dsimp only
            (repeat' (first |  (k_unfold; (try dsimp only)) | (k_here; (with_reducible show wpAny _ _ (eval (Expr.Name _ _) (compEnv _ _ _)) _ _ _); k_dflt (first | (refine name_locS rfl rfl rfl (by decide) (by with_reducible assumption) (by assumption) ?_; k_whole) | (refine nameG_BS rfl rfl rfl rfl (by decide) (by k_asm) (by k_asm) (by k_asm) (by k_is) (by boot_fast) (by decide) ?_; k_whole))) | (k_here; (with_reducible show wpAny _ _ (call (Value.type _) [Value.str _ _]) _ _ _); k_dflt (refine list_strN rfl (by k_asm) (by k_asm) ?_ (by rw [sizeLine_eq]; omega)); intro D9 ys9 c9 h9 tk9 F9 N9 l9 m9 hS9; (try k_lt l9); (try k_sweep)) | (k_here; (with_reducible show wpAny _ _ (compareOp CmpOp.Eq (Value.ref _) (Value.ref _)) _ _ _); k_dflt (refine strs_eq (by is_list) (by is_list) (by first | k_asm | exact StrsAre.nil) (by first | exact StrsAre.nil | k_asm) (by ke_room) ?_)) | (k_here; (with_reducible show wpAny _ _ (call (Value.builtin _) [Value.ref _, Value.int 0 _]) _ _ _); k_dflt (refine pop_first (by k_asm) (by k_asm) (by k_upd) (by (rw [sizeLine_eq]; (try have hL9 := PyProof.Rows.StrsAre.length (by assumption)); (try simp only [List.length_cons] at *); omega)) ?_; k_whole); intro h9 F9 N9; (try k_sweep)) | (k_here; (with_reducible show wpAny _ _ (call (Value.builtin "len") [Value.str _ _]) _ _ _); refine len_str (by omega) ?_) | (k_here; (with_reducible show wpAny _ _ (call (Value.builtin "len") [Value.ref _]) _ _ _); k_dflt (refine len_strsA (by is_list) (by assumption) (by ((try simp only [List.length_map]); omega)) ?_; k_whole); (try simp only [List.length_map])) | walk1 | (k_here; (with_reducible show wpAny _ _ (compareOp CmpOp.NotEq (Value.ref _) (Value.ref _)) _ _ _); k_dflt (first | refine strs_ne_nil (by is_list) (by is_list) (by ke_room) ?_ | refine strs_ne_cons (by is_list) (by is_list) (by k_asm) (by ke_room) ?_ | refine strs_ne (by is_list) (by is_list) (by first | k_asm | exact StrsAre.nil) (by first | exact StrsAre.nil | k_asm) (by ke_room) ?_)) | (dsimp only; walk1) | (dsimp only; k_unfold; (try dsimp only)) | fail "no step"))
            refine UnrEnd.intro F N (LexW w0 a ysQ cq n0 tn cs cc ++ r2) mid_mem (hoffIL _ _ _ _ _) ⟨List.mem_append_right _ hmL, ?_⟩
            clear F N
            (repeat' (first |  (k_unfold; (try dsimp only)) | (k_here; (with_reducible show wpAny _ _ (eval (Expr.Name _ _) (compEnv _ _ _)) _ _ _); k_dflt (first | (refine name_locS rfl rfl rfl (by decide) (by with_reducible assumption) (by assumption) ?_; k_whole) | (refine nameG_BS rfl rfl rfl rfl (by decide) (by k_asm) (by k_asm) (by k_asm) (by k_is) (by boot_fast) (by decide) ?_; k_whole))) | (k_here; (with_reducible show wpAny _ _ (call (Value.type _) [Value.str _ _]) _ _ _); k_dflt (refine list_strN rfl (by k_asm) (by k_asm) ?_ (by rw [sizeLine_eq]; omega)); intro D9 ys9 c9 h9 tk9 F9 N9 l9 m9 hS9; (try k_lt l9); (try k_sweep)) | (k_here; (with_reducible show wpAny _ _ (compareOp CmpOp.Eq (Value.ref _) (Value.ref _)) _ _ _); k_dflt (refine strs_eq (by is_list) (by is_list) (by first | k_asm | exact StrsAre.nil) (by first | exact StrsAre.nil | k_asm) (by ke_room) ?_)) | (k_here; (with_reducible show wpAny _ _ (call (Value.builtin _) [Value.ref _, Value.int 0 _]) _ _ _); k_dflt (refine pop_first (by k_asm) (by k_asm) (by k_upd) (by (rw [sizeLine_eq]; (try have hL9 := PyProof.Rows.StrsAre.length (by assumption)); (try simp only [List.length_cons] at *); omega)) ?_; k_whole); intro h9 F9 N9; (try k_sweep)) | (k_here; (with_reducible show wpAny _ _ (call (Value.builtin "len") [Value.str _ _]) _ _ _); refine len_str (by omega) ?_) | (k_here; (with_reducible show wpAny _ _ (call (Value.builtin "len") [Value.ref _]) _ _ _); k_dflt (refine len_strsA (by is_list) (by assumption) (by ((try simp only [List.length_map]); omega)) ?_; k_whole); (try simp only [List.length_map])) | walk1 | (k_here; (with_reducible show wpAny _ _ (compareOp CmpOp.NotEq (Value.ref _) (Value.ref _)) _ _ _); k_dflt (first | refine strs_ne_nil (by is_list) (by is_list) (by ke_room) ?_ | refine strs_ne_cons (by is_list) (by is_list) (by k_asm) (by ke_room) ?_ | refine strs_ne (by is_list) (by is_list) (by first | k_asm | exact StrsAre.nil) (by first | exact StrsAre.nil | k_asm) (by ke_room) ?_)) | (dsimp only; walk1) | (dsimp only; k_unfold; (try dsimp only)) | fail "no step"))
            refine hold_out ?_
            with_reducible rename Fr _ _ _ _ => F2
            with_reducible rename News _ _ _ _ => N2
            rw [List.nil_append] at hQ
            refine wpAny_mono (hspec 17 (tk91 + 1) _ (pushN word 1 (figsL word 15).length) _ ⟨⟨.inr rfl, Nat.le_trans pushN_len (by decide)⟩, PSt.mk (fr := fun mf mt => l2Fr S D9 a.lx (ofL text) (ofL body) tx9 tb9 none none none mf mt none none none) hQ hCs (l2_times F2) (news_mid N2)⟩) (endq_all (pst_all (fr := fun mf mt => l2Fr S D9 a.lx (ofL text) (ofL body) tx9 tb9 none none none mf mt none none none) ?_)) (fun _ _ x => x.elim)
            clear F2 N2 hQ hCs hspec
            intro mf ysQ cs cq tn cc h tk hQ hCs F N
            rw [start_push] at hQ
            try dsimp only
            (repeat' (first |  (k_unfold; (try dsimp only)) | (k_here; (with_reducible show wpAny _ _ (eval (Expr.Name _ _) (compEnv _ _ _)) _ _ _); k_dflt (first | (refine name_locS rfl rfl rfl (by decide) (by with_reducible assumption) (by assumption) ?_; k_whole) | (refine nameG_BS rfl rfl rfl rfl (by decide) (by k_asm) (by k_asm) (by k_asm) (by k_is) (by boot_fast) (by decide) ?_; k_whole))) | (k_here; (with_reducible show wpAny _ _ (call (Value.type _) [Value.str _ _]) _ _ _); k_dflt (refine list_strN rfl (by k_asm) (by k_asm) ?_ (by rw [sizeLine_eq]; omega)); intro D9 ys9 c9 h9 tk9 F9 N9 l9 m9 hS9; (try k_lt l9); (try k_sweep)) | (k_here; (with_reducible show wpAny _ _ (compareOp CmpOp.Eq (Value.ref _) (Value.ref _)) _ _ _); k_dflt (refine strs_eq (by is_list) (by is_list) (by first | k_asm | exact StrsAre.nil) (by first | exact StrsAre.nil | k_asm) (by ke_room) ?_)) | (k_here; (with_reducible show wpAny _ _ (call (Value.builtin _) [Value.ref _, Value.int 0 _]) _ _ _); k_dflt (refine pop_first (by k_asm) (by k_asm) (by k_upd) (by (rw [sizeLine_eq]; (try have hL9 := PyProof.Rows.StrsAre.length (by assumption)); (try simp only [List.length_cons] at *); omega)) ?_; k_whole); intro h9 F9 N9; (try k_sweep)) | (k_here; (with_reducible show wpAny _ _ (call (Value.builtin "len") [Value.str _ _]) _ _ _); refine len_str (by omega) ?_) | (k_here; (with_reducible show wpAny _ _ (call (Value.builtin "len") [Value.ref _]) _ _ _); k_dflt (refine len_strsA (by is_list) (by assumption) (by ((try simp only [List.length_map]); omega)) ?_; k_whole); (try simp only [List.length_map])) | walk1 | (k_here; (with_reducible show wpAny _ _ (compareOp CmpOp.NotEq (Value.ref _) (Value.ref _)) _ _ _); k_dflt (first | refine strs_ne_nil (by is_list) (by is_list) (by ke_room) ?_ | refine strs_ne_cons (by is_list) (by is_list) (by k_asm) (by ke_room) ?_ | refine strs_ne (by is_list) (by is_list) (by first | k_asm | exact StrsAre.nil) (by first | exact StrsAre.nil | k_asm) (by ke_room) ?_)) | (dsimp only; walk1) | (dsimp only; k_unfold; (try dsimp only)) | fail "no step"))
            refine UnrEnd.intro F N (LexW w0 a ysQ cq n0 tn cs cc ++ r2) mid_mem (hoffIL _ _ _ _ _) ⟨List.mem_append_right _ hmL, ?_⟩
            clear F N
            (repeat' (first |  (k_unfold; (try dsimp only)) | (k_here; (with_reducible show wpAny _ _ (eval (Expr.Name _ _) (compEnv _ _ _)) _ _ _); k_dflt (first | (refine name_locS rfl rfl rfl (by decide) (by with_reducible assumption) (by assumption) ?_; k_whole) | (refine nameG_BS rfl rfl rfl rfl (by decide) (by k_asm) (by k_asm) (by k_asm) (by k_is) (by boot_fast) (by decide) ?_; k_whole))) | (k_here; (with_reducible show wpAny _ _ (call (Value.type _) [Value.str _ _]) _ _ _); k_dflt (refine list_strN rfl (by k_asm) (by k_asm) ?_ (by rw [sizeLine_eq]; omega)); intro D9 ys9 c9 h9 tk9 F9 N9 l9 m9 hS9; (try k_lt l9); (try k_sweep)) | (k_here; (with_reducible show wpAny _ _ (compareOp CmpOp.Eq (Value.ref _) (Value.ref _)) _ _ _); k_dflt (refine strs_eq (by is_list) (by is_list) (by first | k_asm | exact StrsAre.nil) (by first | exact StrsAre.nil | k_asm) (by ke_room) ?_)) | (k_here; (with_reducible show wpAny _ _ (call (Value.builtin _) [Value.ref _, Value.int 0 _]) _ _ _); k_dflt (refine pop_first (by k_asm) (by k_asm) (by k_upd) (by (rw [sizeLine_eq]; (try have hL9 := PyProof.Rows.StrsAre.length (by assumption)); (try simp only [List.length_cons] at *); omega)) ?_; k_whole); intro h9 F9 N9; (try k_sweep)) | (k_here; (with_reducible show wpAny _ _ (call (Value.builtin "len") [Value.str _ _]) _ _ _); refine len_str (by omega) ?_) | (k_here; (with_reducible show wpAny _ _ (call (Value.builtin "len") [Value.ref _]) _ _ _); k_dflt (refine len_strsA (by is_list) (by assumption) (by ((try simp only [List.length_map]); omega)) ?_; k_whole); (try simp only [List.length_map])) | walk1 | (k_here; (with_reducible show wpAny _ _ (compareOp CmpOp.NotEq (Value.ref _) (Value.ref _)) _ _ _); k_dflt (first | refine strs_ne_nil (by is_list) (by is_list) (by ke_room) ?_ | refine strs_ne_cons (by is_list) (by is_list) (by k_asm) (by ke_room) ?_ | refine strs_ne (by is_list) (by is_list) (by first | k_asm | exact StrsAre.nil) (by first | exact StrsAre.nil | k_asm) (by ke_room) ?_)) | (dsimp only; walk1) | (dsimp only; k_unfold; (try dsimp only)) | fail "no step"))
            refine hold_out ?_
            with_reducible rename Fr _ _ _ _ => F3
            with_reducible rename News _ _ _ _ => N3
            with_reducible rename Heap => h3c
            obtain ⟨HH, hHH⟩ := name_head N3
            subst hHH
            with_reducible rename ∀ p ∈ _, _ < _ => l1H
            have oHH : @LT.lt Nat _ a.pb HH := l1H (a.pb, _) (List.mem_append_left _ (.head _))
            have hoffH : ∀ p ∈ LexW w0 a ysQ cq n0 tn cs cc ++ r2, p.1 ≠ HH := fun p hp => Nat.ne_of_lt (l1H p hp)
            have hDisH : ∀ oH, Dis a ((HH, oH) :: r2) := fun oH => Dis.above ok oHH hDis
            replace F3 := l2_heard F3
            have hLets := figs_lets hbds
            have hB0 := BInv.start hLets
            have hBl := hB0.len hwl2.2
            simp only [List.length_nil, Nat.zero_add] at hBl
            refine Spec.use (get_spec w0 a ok _ ysQ cq n0 tn cs rest cc hQ hCs (by omega) hr2 hr3 hr4) ((HH, PySem.W.listOf #[] 0) :: r2) B0 F3 X0 N3 T0 rfl mem_mid (hDisH _).use (by decide) (by decide) ?_
            refine get_all ?_
            clear N3 F3
            intro h4 tk4 grown tg ysQ' cq' tn' cs' cc' hG F5 N5 _
            try dsimp only
            (repeat' (first |  (k_unfold; (try dsimp only)) | (k_here; (with_reducible show wpAny _ _ (eval (Expr.Name _ _) (compEnv _ _ _)) _ _ _); k_dflt (first | (refine name_locS rfl rfl rfl (by decide) (by with_reducible assumption) (by assumption) ?_; k_whole) | (refine nameG_BS rfl rfl rfl rfl (by decide) (by k_asm) (by k_asm) (by k_asm) (by k_is) (by boot_fast) (by decide) ?_; k_whole))) | (k_here; (with_reducible show wpAny _ _ (call (Value.type _) [Value.str _ _]) _ _ _); k_dflt (refine list_strN rfl (by k_asm) (by k_asm) ?_ (by rw [sizeLine_eq]; omega)); intro D9 ys9 c9 h9 tk9 F9 N9 l9 m9 hS9; (try k_lt l9); (try k_sweep)) | (k_here; (with_reducible show wpAny _ _ (compareOp CmpOp.Eq (Value.ref _) (Value.ref _)) _ _ _); k_dflt (refine strs_eq (by is_list) (by is_list) (by first | k_asm | exact StrsAre.nil) (by first | exact StrsAre.nil | k_asm) (by ke_room) ?_)) | (k_here; (with_reducible show wpAny _ _ (call (Value.builtin _) [Value.ref _, Value.int 0 _]) _ _ _); k_dflt (refine pop_first (by k_asm) (by k_asm) (by k_upd) (by (rw [sizeLine_eq]; (try have hL9 := PyProof.Rows.StrsAre.length (by assumption)); (try simp only [List.length_cons] at *); omega)) ?_; k_whole); intro h9 F9 N9; (try k_sweep)) | (k_here; (with_reducible show wpAny _ _ (call (Value.builtin "len") [Value.str _ _]) _ _ _); refine len_str (by omega) ?_) | (k_here; (with_reducible show wpAny _ _ (call (Value.builtin "len") [Value.ref _]) _ _ _); k_dflt (refine len_strsA (by is_list) (by assumption) (by ((try simp only [List.length_map]); omega)) ?_; k_whole); (try simp only [List.length_map])) | walk1 | (k_here; (with_reducible show wpAny _ _ (compareOp CmpOp.NotEq (Value.ref _) (Value.ref _)) _ _ _); k_dflt (first | refine strs_ne_nil (by is_list) (by is_list) (by ke_room) ?_ | refine strs_ne_cons (by is_list) (by is_list) (by k_asm) (by ke_room) ?_ | refine strs_ne (by is_list) (by is_list) (by first | k_asm | exact StrsAre.nil) (by first | exact StrsAre.nil | k_asm) (by ke_room) ?_)) | (dsimp only; walk1) | (dsimp only; k_unfold; (try dsimp only)) | fail "no step"))
            refine hold_out ?_
            with_reducible rename Fr _ _ _ _ => F6
            with_reducible rename News _ _ _ _ => N6
            replace F6 := l2_grown F6
            obtain ⟨fs, hfs⟩ : ∃ fs, fs = (figsL word 15).map (65 + ·) := ⟨_, rfl⟩
            rw [← hfs] at hG hB0 hLets
            refine wpAny_While ?_
            refine cut_cont (WEnd w0 a g L0 s1 n0 HH r2 (fun mg mw mf => l2Fr S D9 a.lx (ofL text) (ofL body) tx9 tb9 (some (.ref HH)) mg mw mf (some (.int 17 (tk91 + 1))) none none none) fs word) ?loop ?after
            case loop =>
              intro R' hR'
              refine' while_inv (Q := EndQ2 _) (WSt w0 a g L0 s1 n0 rest HH r2 (fun mg mw mf => l2Fr S D9 a.lx (ofL text) (ofL body) tx9 tb9 (some (.ref HH)) mg mw mf (some (.int 17 (tk91 + 1))) none none none) fs word) (endq_all (Z := fun f s' => R' (.ok f) s') hR') ?turnWh 50 ?initWh
              case initWh => exact WSt.mk (fr := fun mg mw mf => l2Fr S D9 a.lx (ofL text) (ofL body) tx9 tb9 (some (.ref HH)) mg mw mf (some (.int 17 (tk91 + 1))) none none none) hB0 rfl hG StrsAre.nil F6 N6
              case turnWh =>
                clear N6 F6 hB0 hG hBl
                refine wst_all (fr := fun mg mw mf => l2Fr S D9 a.lx (ofL text) (ofL body) tx9 tb9 (some (.ref HH)) mg mw mf (some (.int 17 (tk91 + 1))) none none none) ?_
                intro k heard gl grown ysH ysQ cs cH cq tn cc tg mw mf h tk hB hk hG hH F N
                refine lex_walk2 N hmW (off_lex hoffH) ?_
                intro V hV hVo NW
                clear N
                try dsimp only
                (repeat' (first |  (k_unfold; (try dsimp only)) | (k_here; (with_reducible show wpAny _ _ (eval (Expr.Name _ _) (compEnv _ _ _)) _ _ _); k_dflt (first | (refine name_locS rfl rfl rfl (by decide) (by with_reducible assumption) (by assumption) ?_; k_whole) | (refine nameG_BS rfl rfl rfl rfl (by decide) (by k_asm) (by k_asm) (by k_asm) (by k_is) (by boot_fast) (by decide) ?_; k_whole))) | (k_here; (with_reducible show wpAny _ _ (call (Value.type _) [Value.str _ _]) _ _ _); k_dflt (refine list_strN rfl (by k_asm) (by k_asm) ?_ (by rw [sizeLine_eq]; omega)); intro D9 ys9 c9 h9 tk9 F9 N9 l9 m9 hS9; (try k_lt l9); (try k_sweep)) | (k_here; (with_reducible show wpAny _ _ (compareOp CmpOp.Eq (Value.ref _) (Value.ref _)) _ _ _); k_dflt (refine strs_eq (by is_list) (by is_list) (by first | k_asm | exact StrsAre.nil) (by first | exact StrsAre.nil | k_asm) (by ke_room) ?_)) | (k_here; (with_reducible show wpAny _ _ (call (Value.builtin _) [Value.ref _, Value.int 0 _]) _ _ _); k_dflt (refine pop_first (by k_asm) (by k_asm) (by k_upd) (by (rw [sizeLine_eq]; (try have hL9 := PyProof.Rows.StrsAre.length (by assumption)); (try simp only [List.length_cons] at *); omega)) ?_; k_whole); intro h9 F9 N9; (try k_sweep)) | (k_here; (with_reducible show wpAny _ _ (call (Value.builtin "len") [Value.str _ _]) _ _ _); refine len_str (by omega) ?_) | (k_here; (with_reducible show wpAny _ _ (call (Value.builtin "len") [Value.ref _]) _ _ _); k_dflt (refine len_strsA (by is_list) (by assumption) (by ((try simp only [List.length_map]); omega)) ?_; k_whole); (try simp only [List.length_map])) | walk1 | (k_here; (with_reducible show wpAny _ _ (compareOp CmpOp.NotEq (Value.ref _) (Value.ref _)) _ _ _); k_dflt (first | refine strs_ne_nil (by is_list) (by is_list) (by ke_room) ?_ | refine strs_ne_cons (by is_list) (by is_list) (by k_asm) (by ke_room) ?_ | refine strs_ne (by is_list) (by is_list) (by first | k_asm | exact StrsAre.nil) (by first | exact StrsAre.nil | k_asm) (by ke_room) ?_)) | (dsimp only; walk1) | (dsimp only; k_unfold; (try dsimp only)) | fail "no step"))
                · with_reducible rename (_ != _) = true => hne2
                  rw [ofL_ne] at hne2
                  refine hold_out ?_
                  have hgn : grown ≠ [] := by rintro rfl; cases hne2
                  obtain ⟨q, rfl, hQ, hCs⟩ : ∃ q, gl = grown :: q ∧ StrsAre ysQ (q.map ofL) ∧ StrsAre cs rest := by
                    rcases hG with h | ⟨_, h, _⟩
                    · exact h
                    · exact absurd h hgn
                  clear hG hne2
                  have hBn := hB.step hLets
                  have hlen2 := hB.len hwl2.2
                  simp only [List.length_cons] at hlen2
                  obtain ⟨hu1, hu2, -⟩ := due_ok hbds hwl2.2 (hB.sound grown (by simp))
                  have hgl9 : (ofL grown).length = grown.length := rfl
                  have hql := hQ.length
                  rw [List.length_map] at hql
                  have hHl := hH.length
                  rw [List.length_map] at hHl
                  with_reducible rename Fr _ _ _ _ => F7
                  with_reducible rename News _ _ _ _ => N7
                  refine' append_K (its := List.toArray ysH) (n := cH) ?wF ?wN ?wU ?_ ?wZ
                  case wF => exact F7
                  case wN => exact N7
                  case wU => exact Upd.head hVo
                  case wZ => rw [List.size_toArray, sizeLine_eq]; omega
                  intro h8 F8 N8
                  try dsimp only
                  rw [List.push_toArray] at N8
                  clear F7 N7
                  (repeat' (first |  (k_unfold; (try dsimp only)) | (k_here; (with_reducible show wpAny _ _ (eval (Expr.Name _ _) (compEnv _ _ _)) _ _ _); k_dflt (first | (refine name_locS rfl rfl rfl (by decide) (by with_reducible assumption) (by assumption) ?_; k_whole) | (refine nameG_BS rfl rfl rfl rfl (by decide) (by k_asm) (by k_asm) (by k_asm) (by k_is) (by boot_fast) (by decide) ?_; k_whole))) | (k_here; (with_reducible show wpAny _ _ (call (Value.type _) [Value.str _ _]) _ _ _); k_dflt (refine list_strN rfl (by k_asm) (by k_asm) ?_ (by rw [sizeLine_eq]; omega)); intro D9 ys9 c9 h9 tk9 F9 N9 l9 m9 hS9; (try k_lt l9); (try k_sweep)) | (k_here; (with_reducible show wpAny _ _ (compareOp CmpOp.Eq (Value.ref _) (Value.ref _)) _ _ _); k_dflt (refine strs_eq (by is_list) (by is_list) (by first | k_asm | exact StrsAre.nil) (by first | exact StrsAre.nil | k_asm) (by ke_room) ?_)) | (k_here; (with_reducible show wpAny _ _ (call (Value.builtin _) [Value.ref _, Value.int 0 _]) _ _ _); k_dflt (refine pop_first (by k_asm) (by k_asm) (by k_upd) (by (rw [sizeLine_eq]; (try have hL9 := PyProof.Rows.StrsAre.length (by assumption)); (try simp only [List.length_cons] at *); omega)) ?_; k_whole); intro h9 F9 N9; (try k_sweep)) | (k_here; (with_reducible show wpAny _ _ (call (Value.builtin "len") [Value.str _ _]) _ _ _); refine len_str (by omega) ?_) | (k_here; (with_reducible show wpAny _ _ (call (Value.builtin "len") [Value.ref _]) _ _ _); k_dflt (refine len_strsA (by is_list) (by assumption) (by ((try simp only [List.length_map]); omega)) ?_; k_whole); (try simp only [List.length_map])) | walk1 | (k_here; (with_reducible show wpAny _ _ (compareOp CmpOp.NotEq (Value.ref _) (Value.ref _)) _ _ _); k_dflt (first | refine strs_ne_nil (by is_list) (by is_list) (by ke_room) ?_ | refine strs_ne_cons (by is_list) (by is_list) (by k_asm) (by ke_room) ?_ | refine strs_ne (by is_list) (by is_list) (by first | k_asm | exact StrsAre.nil) (by first | exact StrsAre.nil | k_asm) (by ke_room) ?_)) | (dsimp only; walk1) | (dsimp only; k_unfold; (try dsimp only)) | fail "no step"))
                  refine hold_out ?_
                  refine wpAny_For ?_
                  (repeat' (first |  (k_unfold; (try dsimp only)) | (k_here; (with_reducible show wpAny _ _ (eval (Expr.Name _ _) (compEnv _ _ _)) _ _ _); k_dflt (first | (refine name_locS rfl rfl rfl (by decide) (by with_reducible assumption) (by assumption) ?_; k_whole) | (refine nameG_BS rfl rfl rfl rfl (by decide) (by k_asm) (by k_asm) (by k_asm) (by k_is) (by boot_fast) (by decide) ?_; k_whole))) | (k_here; (with_reducible show wpAny _ _ (call (Value.type _) [Value.str _ _]) _ _ _); k_dflt (refine list_strN rfl (by k_asm) (by k_asm) ?_ (by rw [sizeLine_eq]; omega)); intro D9 ys9 c9 h9 tk9 F9 N9 l9 m9 hS9; (try k_lt l9); (try k_sweep)) | (k_here; (with_reducible show wpAny _ _ (compareOp CmpOp.Eq (Value.ref _) (Value.ref _)) _ _ _); k_dflt (refine strs_eq (by is_list) (by is_list) (by first | k_asm | exact StrsAre.nil) (by first | exact StrsAre.nil | k_asm) (by ke_room) ?_)) | (k_here; (with_reducible show wpAny _ _ (call (Value.builtin _) [Value.ref _, Value.int 0 _]) _ _ _); k_dflt (refine pop_first (by k_asm) (by k_asm) (by k_upd) (by (rw [sizeLine_eq]; (try have hL9 := PyProof.Rows.StrsAre.length (by assumption)); (try simp only [List.length_cons] at *); omega)) ?_; k_whole); intro h9 F9 N9; (try k_sweep)) | (k_here; (with_reducible show wpAny _ _ (call (Value.builtin "len") [Value.str _ _]) _ _ _); refine len_str (by omega) ?_) | (k_here; (with_reducible show wpAny _ _ (call (Value.builtin "len") [Value.ref _]) _ _ _); k_dflt (refine len_strsA (by is_list) (by assumption) (by ((try simp only [List.length_map]); omega)) ?_; k_whole); (try simp only [List.length_map])) | walk1 | (k_here; (with_reducible show wpAny _ _ (compareOp CmpOp.NotEq (Value.ref _) (Value.ref _)) _ _ _); k_dflt (first | refine strs_ne_nil (by is_list) (by is_list) (by ke_room) ?_ | refine strs_ne_cons (by is_list) (by is_list) (by k_asm) (by ke_room) ?_ | refine strs_ne (by is_list) (by is_list) (by first | k_asm | exact StrsAre.nil) (by first | exact StrsAre.nil | k_asm) (by ke_room) ?_)) | (dsimp only; walk1) | (dsimp only; k_unfold; (try dsimp only)) | fail "no step"))
                  refine hold_out ?_
                  with_reducible rename Fr _ _ _ _ => F9
                  with_reducible rename News _ _ _ _ => N9
                  obtain ⟨oH9, hoH9⟩ : ∃ oH9, oH9 = PySem.W.listOf (ysH ++ [Value.str (ofL grown) tg]).toArray (cH + 1) := ⟨_, rfl⟩
                  rw [← hoH9] at N9
                  refine' for_list (m := l2Fr S D9 a.lx (ofL text) (ofL body) tx9 tb9 (some (.ref HH)) (some (.str (ofL grown) tg)) mw mf (some (.int 17 (tk91 + 1))) none none none) (nn := ys.length) (vs := ys) (news := LexW w0 a ysQ cq n0 tn cs cc ++ ((HH, oH9) :: r2)) (PJ w0 a n0 rest (fun mw mf => l2Fr S D9 a.lx (ofL text) (ofL body) tx9 tb9 (some (.ref HH)) (some (.str (ofL grown) tg)) mw mf (some (.int 17 (tk91 + 1))) none none none) ((HH, oH9) :: r2) q (kidN word grown)) (by rfl) (fun _ _ h => h) ?gF ?gN ?gm ?gj (pj_mem (.tail _ hmF)) ?gturn ?gdone
                  case gF => exact F9
                  case gN => exact fun p hp => N9 p (up4 hV p hp)
                  case gm => exact List.mem_append_right _ (.tail _ hmF)
                  case gj => exact PJ.mk (fr := fun mw mf => l2Fr S D9 a.lx (ofL text) (ofL body) tx9 tb9 (some (.ref HH)) (some (.str (ofL grown) tg)) mw mf (some (.int 17 (tk91 + 1))) none none none) (by rw [show kidN word grown 0 = [] from rfl, List.append_nil]; exact hQ) hCs
                  case gdone =>
                    clear F9 N9 hQ hCs hV hVo
                    intro m₁ nx h10 tk10 hJ
                    revert m₁ nx
                    refine pj_all (fr := fun mw mf => l2Fr S D9 a.lx (ofL text) (ofL body) tx9 tb9 (some (.ref HH)) (some (.str (ofL grown) tg)) mw mf (some (.int 17 (tk91 + 1))) none none none) ?_
                    intro mw mf ysQ cs cq tn cc hQ hCs F10 N10
                    rw [hfl, kidN_all, ← hfs] at hQ
                    have hlen3 := hBn.len hwl2.2
                    refine lex_walk N10 (.tail _ hmW) ?_
                    intro V hV N11
                    clear N10
                    try dsimp only
                    (repeat' (first |  (k_unfold; (try dsimp only)) | (k_here; (with_reducible show wpAny _ _ (eval (Expr.Name _ _) (compEnv _ _ _)) _ _ _); k_dflt (first | (refine name_locS rfl rfl rfl (by decide) (by with_reducible assumption) (by assumption) ?_; k_whole) | (refine nameG_BS rfl rfl rfl rfl (by decide) (by k_asm) (by k_asm) (by k_asm) (by k_is) (by boot_fast) (by decide) ?_; k_whole))) | (k_here; (with_reducible show wpAny _ _ (call (Value.type _) [Value.str _ _]) _ _ _); k_dflt (refine list_strN rfl (by k_asm) (by k_asm) ?_ (by rw [sizeLine_eq]; omega)); intro D9 ys9 c9 h9 tk9 F9 N9 l9 m9 hS9; (try k_lt l9); (try k_sweep)) | (k_here; (with_reducible show wpAny _ _ (compareOp CmpOp.Eq (Value.ref _) (Value.ref _)) _ _ _); k_dflt (refine strs_eq (by is_list) (by is_list) (by first | k_asm | exact StrsAre.nil) (by first | exact StrsAre.nil | k_asm) (by ke_room) ?_)) | (k_here; (with_reducible show wpAny _ _ (call (Value.builtin _) [Value.ref _, Value.int 0 _]) _ _ _); k_dflt (refine pop_first (by k_asm) (by k_asm) (by k_upd) (by (rw [sizeLine_eq]; (try have hL9 := PyProof.Rows.StrsAre.length (by assumption)); (try simp only [List.length_cons] at *); omega)) ?_; k_whole); intro h9 F9 N9; (try k_sweep)) | (k_here; (with_reducible show wpAny _ _ (call (Value.builtin "len") [Value.str _ _]) _ _ _); refine len_str (by omega) ?_) | (k_here; (with_reducible show wpAny _ _ (call (Value.builtin "len") [Value.ref _]) _ _ _); k_dflt (refine len_strsA (by is_list) (by assumption) (by ((try simp only [List.length_map]); omega)) ?_; k_whole); (try simp only [List.length_map])) | walk1 | (k_here; (with_reducible show wpAny _ _ (compareOp CmpOp.NotEq (Value.ref _) (Value.ref _)) _ _ _); k_dflt (first | refine strs_ne_nil (by is_list) (by is_list) (by ke_room) ?_ | refine strs_ne_cons (by is_list) (by is_list) (by k_asm) (by ke_room) ?_ | refine strs_ne (by is_list) (by is_list) (by first | k_asm | exact StrsAre.nil) (by first | exact StrsAre.nil | k_asm) (by ke_room) ?_)) | (dsimp only; walk1) | (dsimp only; k_unfold; (try dsimp only)) | fail "no step"))
                    refine hold_out ?_
                    refine Spec.use (get_spec w0 a ok _ ysQ cq n0 tn cs rest cc hQ hCs (by omega) hr2 hr3 hr4) ((HH, oH9) :: r2) B0 F10 X0 N11 T0 rfl (up3 hV) (hDisH _).use (by decide) (by decide) ?_
                    refine get_all ?_
                    clear N11 F10 hV
                    intro h12 tk12 grown2 tg2 ysQ2 cq2' tn2' cs2 cc2' hG2 F12 N12 _
                    try dsimp only
                    (repeat' (first |  (k_unfold; (try dsimp only)) | (k_here; (with_reducible show wpAny _ _ (eval (Expr.Name _ _) (compEnv _ _ _)) _ _ _); k_dflt (first | (refine name_locS rfl rfl rfl (by decide) (by with_reducible assumption) (by assumption) ?_; k_whole) | (refine nameG_BS rfl rfl rfl rfl (by decide) (by k_asm) (by k_asm) (by k_asm) (by k_is) (by boot_fast) (by decide) ?_; k_whole))) | (k_here; (with_reducible show wpAny _ _ (call (Value.type _) [Value.str _ _]) _ _ _); k_dflt (refine list_strN rfl (by k_asm) (by k_asm) ?_ (by rw [sizeLine_eq]; omega)); intro D9 ys9 c9 h9 tk9 F9 N9 l9 m9 hS9; (try k_lt l9); (try k_sweep)) | (k_here; (with_reducible show wpAny _ _ (compareOp CmpOp.Eq (Value.ref _) (Value.ref _)) _ _ _); k_dflt (refine strs_eq (by is_list) (by is_list) (by first | k_asm | exact StrsAre.nil) (by first | exact StrsAre.nil | k_asm) (by ke_room) ?_)) | (k_here; (with_reducible show wpAny _ _ (call (Value.builtin _) [Value.ref _, Value.int 0 _]) _ _ _); k_dflt (refine pop_first (by k_asm) (by k_asm) (by k_upd) (by (rw [sizeLine_eq]; (try have hL9 := PyProof.Rows.StrsAre.length (by assumption)); (try simp only [List.length_cons] at *); omega)) ?_; k_whole); intro h9 F9 N9; (try k_sweep)) | (k_here; (with_reducible show wpAny _ _ (call (Value.builtin "len") [Value.str _ _]) _ _ _); refine len_str (by omega) ?_) | (k_here; (with_reducible show wpAny _ _ (call (Value.builtin "len") [Value.ref _]) _ _ _); k_dflt (refine len_strsA (by is_list) (by assumption) (by ((try simp only [List.length_map]); omega)) ?_; k_whole); (try simp only [List.length_map])) | walk1 | (k_here; (with_reducible show wpAny _ _ (compareOp CmpOp.NotEq (Value.ref _) (Value.ref _)) _ _ _); k_dflt (first | refine strs_ne_nil (by is_list) (by is_list) (by ke_room) ?_ | refine strs_ne_cons (by is_list) (by is_list) (by k_asm) (by ke_room) ?_ | refine strs_ne (by is_list) (by is_list) (by first | k_asm | exact StrsAre.nil) (by first | exact StrsAre.nil | k_asm) (by ke_room) ?_)) | (dsimp only; walk1) | (dsimp only; k_unfold; (try dsimp only)) | fail "no step"))
                    with_reducible rename Fr _ _ _ _ => F13
                    with_reducible rename News _ _ _ _ => N13
                    rw [hoH9] at N13
                    obtain ⟨k', rfl⟩ : ∃ k', k = k' + 1 := k_pos hk hlen2
                    exact Again.mk (m := k') (Nat.lt_succ_self _) (WSt.mk (fr := fun mg mw mf => l2Fr S D9 a.lx (ofL text) (ofL body) tx9 tb9 (some (.ref HH)) mg mw mf (some (.int 17 (tk91 + 1))) none none none) hBn (by rw [List.length_append, List.length_singleton]; omega) hG2 (strs_snocM (t := tg) hH) (l2_grown F13) N13)
                  case gturn =>
                    clear F9 N9 hQ hCs hV hVo
                    intro i v m₁ nx h10 tk10 I2 oI2 hi hv hJ
                    revert m₁ nx
                    refine pj_all (fr := fun mw mf => l2Fr S D9 a.lx (ofL text) (ofL body) tx9 tb9 (some (.ref HH)) (some (.str (ofL grown) tg)) mw mf (some (.int 17 (tk91 + 1))) none none none) ?_
                    intro mw mf ysQ cs cq tn cc hQ hCs F10 N10 off
                    obtain ⟨f, tf, hf, rfl⟩ := ints_atM hI hv
                    have hfm := List.mem_of_getElem? hf
                    have hau := around_ok hbds hu1 hfm
                    have hfb : f ≤ 15 := (figs_bd f hfm).2.1
                    have hal := around_len grown f
                    have hql := hQ.length
                    rw [List.length_map, List.length_append] at hql
                    have hpl := kidN_len (word := word) (u := grown) (i := i)
                    have hql2 : ysQ.length ≤ 1000 := push_sz hql hlen2 hpl
                    refine lex_walk (news_mid N10) (.tail _ (.tail _ hmW)) ?_
                    intro V hV NW
                    clear N10
                    try dsimp only
                    (repeat' (first |  (k_unfold; (try dsimp only)) | (k_here; (with_reducible show wpAny _ _ (eval (Expr.Name _ _) (compEnv _ _ _)) _ _ _); k_dflt (first | (refine name_locS rfl rfl rfl (by decide) (by with_reducible assumption) (by assumption) ?_; k_whole) | (refine nameG_BS rfl rfl rfl rfl (by decide) (by k_asm) (by k_asm) (by k_asm) (by k_is) (by boot_fast) (by decide) ?_; k_whole))) | (k_here; (with_reducible show wpAny _ _ (call (Value.type _) [Value.str _ _]) _ _ _); k_dflt (refine list_strN rfl (by k_asm) (by k_asm) ?_ (by rw [sizeLine_eq]; omega)); intro D9 ys9 c9 h9 tk9 F9 N9 l9 m9 hS9; (try k_lt l9); (try k_sweep)) | (k_here; (with_reducible show wpAny _ _ (compareOp CmpOp.Eq (Value.ref _) (Value.ref _)) _ _ _); k_dflt (refine strs_eq (by is_list) (by is_list) (by first | k_asm | exact StrsAre.nil) (by first | exact StrsAre.nil | k_asm) (by ke_room) ?_)) | (k_here; (with_reducible show wpAny _ _ (call (Value.builtin _) [Value.ref _, Value.int 0 _]) _ _ _); k_dflt (refine pop_first (by k_asm) (by k_asm) (by k_upd) (by (rw [sizeLine_eq]; (try have hL9 := PyProof.Rows.StrsAre.length (by assumption)); (try simp only [List.length_cons] at *); omega)) ?_; k_whole); intro h9 F9 N9; (try k_sweep)) | (k_here; (with_reducible show wpAny _ _ (call (Value.builtin "len") [Value.str _ _]) _ _ _); refine len_str (by omega) ?_) | (k_here; (with_reducible show wpAny _ _ (call (Value.builtin "len") [Value.ref _]) _ _ _); k_dflt (refine len_strsA (by is_list) (by assumption) (by ((try simp only [List.length_map]); omega)) ?_; k_whole); (try simp only [List.length_map])) | walk1 | (k_here; (with_reducible show wpAny _ _ (compareOp CmpOp.NotEq (Value.ref _) (Value.ref _)) _ _ _); k_dflt (first | refine strs_ne_nil (by is_list) (by is_list) (by ke_room) ?_ | refine strs_ne_cons (by is_list) (by is_list) (by k_asm) (by ke_room) ?_ | refine strs_ne (by is_list) (by is_list) (by first | k_asm | exact StrsAre.nil) (by first | exact StrsAre.nil | k_asm) (by ke_room) ?_)) | (dsimp only; walk1) | (dsimp only; k_unfold; (try dsimp only)) | fail "no step"))
                    refine hold_out ?_
                    with_reducible rename Fr _ _ _ _ => F11
                    replace F11 := l2_figure F11
                    refine pow_int_small (by omega) (by omega) (by decide) ?_
                    try dsimp only
                    obtain ⟨P, hP⟩ : ∃ P, P = 16 ^ grown.length := ⟨_, rfl⟩
                    have epow : (16 : Int) ^ ((((ofL grown).length : Int)).toNat) = ((P : Nat) : Int) := by
                      rw [show (((ofL grown).length : Int)).toNat = grown.length from rfl, hP, Int.natCast_pow]; rfl
                    rw [epow]
                    have hval : (-(((f : Int) * (P : Int) + (valN grown : Int)) * 16 + (f : Int))).natAbs = valN (around grown f) := by rw [hP]; exact around_val
                    (repeat' (first |  (k_unfold; (try dsimp only)) | (k_here; (with_reducible show wpAny _ _ (eval (Expr.Name _ _) (compEnv _ _ _)) _ _ _); k_dflt (first | (refine name_locS rfl rfl rfl (by decide) (by with_reducible assumption) (by assumption) ?_; k_whole) | (refine nameG_BS rfl rfl rfl rfl (by decide) (by k_asm) (by k_asm) (by k_asm) (by k_is) (by boot_fast) (by decide) ?_; k_whole))) | (k_here; (with_reducible show wpAny _ _ (call (Value.type _) [Value.str _ _]) _ _ _); k_dflt (refine list_strN rfl (by k_asm) (by k_asm) ?_ (by rw [sizeLine_eq]; omega)); intro D9 ys9 c9 h9 tk9 F9 N9 l9 m9 hS9; (try k_lt l9); (try k_sweep)) | (k_here; (with_reducible show wpAny _ _ (compareOp CmpOp.Eq (Value.ref _) (Value.ref _)) _ _ _); k_dflt (refine strs_eq (by is_list) (by is_list) (by first | k_asm | exact StrsAre.nil) (by first | exact StrsAre.nil | k_asm) (by ke_room) ?_)) | (k_here; (with_reducible show wpAny _ _ (call (Value.builtin _) [Value.ref _, Value.int 0 _]) _ _ _); k_dflt (refine pop_first (by k_asm) (by k_asm) (by k_upd) (by (rw [sizeLine_eq]; (try have hL9 := PyProof.Rows.StrsAre.length (by assumption)); (try simp only [List.length_cons] at *); omega)) ?_; k_whole); intro h9 F9 N9; (try k_sweep)) | (k_here; (with_reducible show wpAny _ _ (call (Value.builtin "len") [Value.str _ _]) _ _ _); refine len_str (by omega) ?_) | (k_here; (with_reducible show wpAny _ _ (call (Value.builtin "len") [Value.ref _]) _ _ _); k_dflt (refine len_strsA (by is_list) (by assumption) (by ((try simp only [List.length_map]); omega)) ?_; k_whole); (try simp only [List.length_map])) | walk1 | (k_here; (with_reducible show wpAny _ _ (compareOp CmpOp.NotEq (Value.ref _) (Value.ref _)) _ _ _); k_dflt (first | refine strs_ne_nil (by is_list) (by is_list) (by ke_room) ?_ | refine strs_ne_cons (by is_list) (by is_list) (by k_asm) (by ke_room) ?_ | refine strs_ne (by is_list) (by is_list) (by first | k_asm | exact StrsAre.nil) (by first | exact StrsAre.nil | k_asm) (by ke_room) ?_)) | (dsimp only; walk1) | (dsimp only; k_unfold; (try dsimp only)) | fail "no step"))
                    refine hold_out ?_
                    refine Spec.pure (number_spec _ (ofL grown) _) (by assumption) (by assumption) (by assumption) (by assumption) (by assumption) rfl (by decide) (by decide) ?_
                    refine int_all ?_
                    intro h13 tk13 t3 F13 N13
                    try dsimp only
                    rw [numOf_val grown hu1]
                    (repeat' (first |  (k_unfold; (try dsimp only)) | (k_here; (with_reducible show wpAny _ _ (eval (Expr.Name _ _) (compEnv _ _ _)) _ _ _); k_dflt (first | (refine name_locS rfl rfl rfl (by decide) (by with_reducible assumption) (by assumption) ?_; k_whole) | (refine nameG_BS rfl rfl rfl rfl (by decide) (by k_asm) (by k_asm) (by k_asm) (by k_is) (by boot_fast) (by decide) ?_; k_whole))) | (k_here; (with_reducible show wpAny _ _ (call (Value.type _) [Value.str _ _]) _ _ _); k_dflt (refine list_strN rfl (by k_asm) (by k_asm) ?_ (by rw [sizeLine_eq]; omega)); intro D9 ys9 c9 h9 tk9 F9 N9 l9 m9 hS9; (try k_lt l9); (try k_sweep)) | (k_here; (with_reducible show wpAny _ _ (compareOp CmpOp.Eq (Value.ref _) (Value.ref _)) _ _ _); k_dflt (refine strs_eq (by is_list) (by is_list) (by first | k_asm | exact StrsAre.nil) (by first | exact StrsAre.nil | k_asm) (by ke_room) ?_)) | (k_here; (with_reducible show wpAny _ _ (call (Value.builtin _) [Value.ref _, Value.int 0 _]) _ _ _); k_dflt (refine pop_first (by k_asm) (by k_asm) (by k_upd) (by (rw [sizeLine_eq]; (try have hL9 := PyProof.Rows.StrsAre.length (by assumption)); (try simp only [List.length_cons] at *); omega)) ?_; k_whole); intro h9 F9 N9; (try k_sweep)) | (k_here; (with_reducible show wpAny _ _ (call (Value.builtin "len") [Value.str _ _]) _ _ _); refine len_str (by omega) ?_) | (k_here; (with_reducible show wpAny _ _ (call (Value.builtin "len") [Value.ref _]) _ _ _); k_dflt (refine len_strsA (by is_list) (by assumption) (by ((try simp only [List.length_map]); omega)) ?_; k_whole); (try simp only [List.length_map])) | walk1 | (k_here; (with_reducible show wpAny _ _ (compareOp CmpOp.NotEq (Value.ref _) (Value.ref _)) _ _ _); k_dflt (first | refine strs_ne_nil (by is_list) (by is_list) (by ke_room) ?_ | refine strs_ne_cons (by is_list) (by is_list) (by k_asm) (by ke_room) ?_ | refine strs_ne (by is_list) (by is_list) (by first | k_asm | exact StrsAre.nil) (by first | exact StrsAre.nil | k_asm) (by ke_room) ?_)) | (dsimp only; walk1) | (dsimp only; k_unfold; (try dsimp only)) | fail "no step"))
                    refine hold_out ?_
                    refine Spec.pure (written_spec _ _ _ (by rw [hval]; exact apL_len _ hau (by omega))) (by assumption) (by assumption) (by assumption) (by assumption) (by assumption) rfl (by decide) (by decide) ?_
                    refine str_all ?_
                    intro h14 tk14 t4 F14 N14
                    try dsimp only
                    rw [hval, written_val _ hau]
                    (repeat' (first |  (k_unfold; (try dsimp only)) | (k_here; (with_reducible show wpAny _ _ (eval (Expr.Name _ _) (compEnv _ _ _)) _ _ _); k_dflt (first | (refine name_locS rfl rfl rfl (by decide) (by with_reducible assumption) (by assumption) ?_; k_whole) | (refine nameG_BS rfl rfl rfl rfl (by decide) (by k_asm) (by k_asm) (by k_asm) (by k_is) (by boot_fast) (by decide) ?_; k_whole))) | (k_here; (with_reducible show wpAny _ _ (call (Value.type _) [Value.str _ _]) _ _ _); k_dflt (refine list_strN rfl (by k_asm) (by k_asm) ?_ (by rw [sizeLine_eq]; omega)); intro D9 ys9 c9 h9 tk9 F9 N9 l9 m9 hS9; (try k_lt l9); (try k_sweep)) | (k_here; (with_reducible show wpAny _ _ (compareOp CmpOp.Eq (Value.ref _) (Value.ref _)) _ _ _); k_dflt (refine strs_eq (by is_list) (by is_list) (by first | k_asm | exact StrsAre.nil) (by first | exact StrsAre.nil | k_asm) (by ke_room) ?_)) | (k_here; (with_reducible show wpAny _ _ (call (Value.builtin _) [Value.ref _, Value.int 0 _]) _ _ _); k_dflt (refine pop_first (by k_asm) (by k_asm) (by k_upd) (by (rw [sizeLine_eq]; (try have hL9 := PyProof.Rows.StrsAre.length (by assumption)); (try simp only [List.length_cons] at *); omega)) ?_; k_whole); intro h9 F9 N9; (try k_sweep)) | (k_here; (with_reducible show wpAny _ _ (call (Value.builtin "len") [Value.str _ _]) _ _ _); refine len_str (by omega) ?_) | (k_here; (with_reducible show wpAny _ _ (call (Value.builtin "len") [Value.ref _]) _ _ _); k_dflt (refine len_strsA (by is_list) (by assumption) (by ((try simp only [List.length_map]); omega)) ?_; k_whole); (try simp only [List.length_map])) | walk1 | (k_here; (with_reducible show wpAny _ _ (compareOp CmpOp.NotEq (Value.ref _) (Value.ref _)) _ _ _); k_dflt (first | refine strs_ne_nil (by is_list) (by is_list) (by ke_room) ?_ | refine strs_ne_cons (by is_list) (by is_list) (by k_asm) (by ke_room) ?_ | refine strs_ne (by is_list) (by is_list) (by first | k_asm | exact StrsAre.nil) (by first | exact StrsAre.nil | k_asm) (by ke_room) ?_)) | (dsimp only; walk1) | (dsimp only; k_unfold; (try dsimp only)) | fail "no step"))
                    refine hold_out ?_
                    with_reducible rename Fr _ _ _ _ => F15
                    replace F15 := l2_wider F15
                    refine Spec.pure (within_spec _ (around grown f) word _ _ (by omega) (by omega) (fun c hc => by have := hau c hc; omega)) (by assumption) (by assumption) (by assumption) (by assumption) (by assumption) rfl (by decide) (by decide) ?_
                    refine eq_all ?_
                    intro h16 tk16 F16 N16
                    try dsimp only
                    cases hin : inB (around grown f) word with
                    | false =>
                      (repeat' (first |  (k_unfold; (try dsimp only)) | (k_here; (with_reducible show wpAny _ _ (eval (Expr.Name _ _) (compEnv _ _ _)) _ _ _); k_dflt (first | (refine name_locS rfl rfl rfl (by decide) (by with_reducible assumption) (by assumption) ?_; k_whole) | (refine nameG_BS rfl rfl rfl rfl (by decide) (by k_asm) (by k_asm) (by k_asm) (by k_is) (by boot_fast) (by decide) ?_; k_whole))) | (k_here; (with_reducible show wpAny _ _ (call (Value.type _) [Value.str _ _]) _ _ _); k_dflt (refine list_strN rfl (by k_asm) (by k_asm) ?_ (by rw [sizeLine_eq]; omega)); intro D9 ys9 c9 h9 tk9 F9 N9 l9 m9 hS9; (try k_lt l9); (try k_sweep)) | (k_here; (with_reducible show wpAny _ _ (compareOp CmpOp.Eq (Value.ref _) (Value.ref _)) _ _ _); k_dflt (refine strs_eq (by is_list) (by is_list) (by first | k_asm | exact StrsAre.nil) (by first | exact StrsAre.nil | k_asm) (by ke_room) ?_)) | (k_here; (with_reducible show wpAny _ _ (call (Value.builtin _) [Value.ref _, Value.int 0 _]) _ _ _); k_dflt (refine pop_first (by k_asm) (by k_asm) (by k_upd) (by (rw [sizeLine_eq]; (try have hL9 := PyProof.Rows.StrsAre.length (by assumption)); (try simp only [List.length_cons] at *); omega)) ?_; k_whole); intro h9 F9 N9; (try k_sweep)) | (k_here; (with_reducible show wpAny _ _ (call (Value.builtin "len") [Value.str _ _]) _ _ _); refine len_str (by omega) ?_) | (k_here; (with_reducible show wpAny _ _ (call (Value.builtin "len") [Value.ref _]) _ _ _); k_dflt (refine len_strsA (by is_list) (by assumption) (by ((try simp only [List.length_map]); omega)) ?_; k_whole); (try simp only [List.length_map])) | walk1 | (k_here; (with_reducible show wpAny _ _ (compareOp CmpOp.NotEq (Value.ref _) (Value.ref _)) _ _ _); k_dflt (first | refine strs_ne_nil (by is_list) (by is_list) (by ke_room) ?_ | refine strs_ne_cons (by is_list) (by is_list) (by k_asm) (by ke_room) ?_ | refine strs_ne (by is_list) (by is_list) (by first | k_asm | exact StrsAre.nil) (by first | exact StrsAre.nil | k_asm) (by ke_room) ?_)) | (dsimp only; walk1) | (dsimp only; k_unfold; (try dsimp only)) | fail "no step"))
                      exact TurnTo.mk (PJ.mk (fr := fun mw mf => l2Fr S D9 a.lx (ofL text) (ofL body) tx9 tb9 (some (.ref HH)) (some (.str (ofL grown) tg)) mw mf (some (.int 17 (tk91 + 1))) none none none) (by rw [kidN_no hf hin]; exact hQ) hCs) F16 N16 (fun p hp => up3 hV p (mid_mem p hp)) off
                    | true =>
                      (repeat' (first |  (k_unfold; (try dsimp only)) | (k_here; (with_reducible show wpAny _ _ (eval (Expr.Name _ _) (compEnv _ _ _)) _ _ _); k_dflt (first | (refine name_locS rfl rfl rfl (by decide) (by with_reducible assumption) (by assumption) ?_; k_whole) | (refine nameG_BS rfl rfl rfl rfl (by decide) (by k_asm) (by k_asm) (by k_asm) (by k_is) (by boot_fast) (by decide) ?_; k_whole))) | (k_here; (with_reducible show wpAny _ _ (call (Value.type _) [Value.str _ _]) _ _ _); k_dflt (refine list_strN rfl (by k_asm) (by k_asm) ?_ (by rw [sizeLine_eq]; omega)); intro D9 ys9 c9 h9 tk9 F9 N9 l9 m9 hS9; (try k_lt l9); (try k_sweep)) | (k_here; (with_reducible show wpAny _ _ (compareOp CmpOp.Eq (Value.ref _) (Value.ref _)) _ _ _); k_dflt (refine strs_eq (by is_list) (by is_list) (by first | k_asm | exact StrsAre.nil) (by first | exact StrsAre.nil | k_asm) (by ke_room) ?_)) | (k_here; (with_reducible show wpAny _ _ (call (Value.builtin _) [Value.ref _, Value.int 0 _]) _ _ _); k_dflt (refine pop_first (by k_asm) (by k_asm) (by k_upd) (by (rw [sizeLine_eq]; (try have hL9 := PyProof.Rows.StrsAre.length (by assumption)); (try simp only [List.length_cons] at *); omega)) ?_; k_whole); intro h9 F9 N9; (try k_sweep)) | (k_here; (with_reducible show wpAny _ _ (call (Value.builtin "len") [Value.str _ _]) _ _ _); refine len_str (by omega) ?_) | (k_here; (with_reducible show wpAny _ _ (call (Value.builtin "len") [Value.ref _]) _ _ _); k_dflt (refine len_strsA (by is_list) (by assumption) (by ((try simp only [List.length_map]); omega)) ?_; k_whole); (try simp only [List.length_map])) | walk1 | (k_here; (with_reducible show wpAny _ _ (compareOp CmpOp.NotEq (Value.ref _) (Value.ref _)) _ _ _); k_dflt (first | refine strs_ne_nil (by is_list) (by is_list) (by ke_room) ?_ | refine strs_ne_cons (by is_list) (by is_list) (by k_asm) (by ke_room) ?_ | refine strs_ne (by is_list) (by is_list) (by first | k_asm | exact StrsAre.nil) (by first | exact StrsAre.nil | k_asm) (by ke_room) ?_)) | (dsimp only; walk1) | (dsimp only; k_unfold; (try dsimp only)) | fail "no step"))
                      refine hold_out ?_
                      refine Spec.use (push_spec w0 a ok ysQ cq n0 tn cs cc (ofL (around grown f)) t4 hql2) ((I2, oI2) :: (HH, oH9) :: r2) B0 F16 X0 N16 T0 rfl (up3 hV) (Dis.off off (hDisH oH9)).use (by decide) (by decide) ?_
                      refine push_all ?_
                      intro h17 tk17 cq' F17 N17 _
                      try dsimp only
                      (repeat' (first |  (k_unfold; (try dsimp only)) | (k_here; (with_reducible show wpAny _ _ (eval (Expr.Name _ _) (compEnv _ _ _)) _ _ _); k_dflt (first | (refine name_locS rfl rfl rfl (by decide) (by with_reducible assumption) (by assumption) ?_; k_whole) | (refine nameG_BS rfl rfl rfl rfl (by decide) (by k_asm) (by k_asm) (by k_asm) (by k_is) (by boot_fast) (by decide) ?_; k_whole))) | (k_here; (with_reducible show wpAny _ _ (call (Value.type _) [Value.str _ _]) _ _ _); k_dflt (refine list_strN rfl (by k_asm) (by k_asm) ?_ (by rw [sizeLine_eq]; omega)); intro D9 ys9 c9 h9 tk9 F9 N9 l9 m9 hS9; (try k_lt l9); (try k_sweep)) | (k_here; (with_reducible show wpAny _ _ (compareOp CmpOp.Eq (Value.ref _) (Value.ref _)) _ _ _); k_dflt (refine strs_eq (by is_list) (by is_list) (by first | k_asm | exact StrsAre.nil) (by first | exact StrsAre.nil | k_asm) (by ke_room) ?_)) | (k_here; (with_reducible show wpAny _ _ (call (Value.builtin _) [Value.ref _, Value.int 0 _]) _ _ _); k_dflt (refine pop_first (by k_asm) (by k_asm) (by k_upd) (by (rw [sizeLine_eq]; (try have hL9 := PyProof.Rows.StrsAre.length (by assumption)); (try simp only [List.length_cons] at *); omega)) ?_; k_whole); intro h9 F9 N9; (try k_sweep)) | (k_here; (with_reducible show wpAny _ _ (call (Value.builtin "len") [Value.str _ _]) _ _ _); refine len_str (by omega) ?_) | (k_here; (with_reducible show wpAny _ _ (call (Value.builtin "len") [Value.ref _]) _ _ _); k_dflt (refine len_strsA (by is_list) (by assumption) (by ((try simp only [List.length_map]); omega)) ?_; k_whole); (try simp only [List.length_map])) | walk1 | (k_here; (with_reducible show wpAny _ _ (compareOp CmpOp.NotEq (Value.ref _) (Value.ref _)) _ _ _); k_dflt (first | refine strs_ne_nil (by is_list) (by is_list) (by ke_room) ?_ | refine strs_ne_cons (by is_list) (by is_list) (by k_asm) (by ke_room) ?_ | refine strs_ne (by is_list) (by is_list) (by first | k_asm | exact StrsAre.nil) (by first | exact StrsAre.nil | k_asm) (by ke_room) ?_)) | (dsimp only; walk1) | (dsimp only; k_unfold; (try dsimp only)) | fail "no step"))
                      exact TurnTo.mk (PJ.mk (fr := fun mw mf => l2Fr S D9 a.lx (ofL text) (ofL body) tx9 tb9 (some (.ref HH)) (some (.str (ofL grown) tg)) mw mf (some (.int 17 (tk91 + 1))) none none none) (by rw [kidN_yes hf hin, ← List.append_assoc]; exact strs_snocM (t := t4) hQ) hCs) F17 N17 mid_mem (off_lex off)
                · with_reducible rename (_ != _) = false => hne2
                  rw [ofL_ne] at hne2
                  have hgn : grown = [] := by
                    cases grown with
                    | nil => rfl
                    | cons _ _ => cases hne2
                  obtain ⟨rfl, rfl, rfl⟩ : gl = [] ∧ ysQ = [] ∧ cs = [] := by
                    rcases hG with ⟨q, h1, _⟩ | ⟨h1, _, h2, h3⟩
                    · exact absurd hgn (due_ok hbds hwl2.2 (hB.sound grown (by rw [h1]; simp))).2.2
                    · exact ⟨h1, h2, h3⟩
                  with_reducible rename Fr _ _ _ _ => F7
                  with_reducible rename News _ _ _ _ => N7
                  exact EndQ2.mk (WEnd.mk (fr := fun mg mw mf => l2Fr S D9 a.lx (ofL text) (ofL body) tx9 tb9 (some (.ref HH)) mg mw mf (some (.int 17 (tk91 + 1))) none none none) hB hH F7 (fun p hp => N7 p (up4 hV p hp)))
            case after =>
              refine wend_all (fr := fun mg mw mf => l2Fr S D9 a.lx (ofL text) (ofL body) tx9 tb9 (some (.ref HH)) mg mw mf (some (.int 17 (tk91 + 1))) none none none) ?_
              intro heard ysH cH cq tn cc mg mw mf h tk hB hH F N0
              have l105H : @LT.lt Nat _ 105 HH := l1H (105, tabObj #[]) (List.mem_append_right _ hm105)
              have l72H : @LT.lt Nat _ 72 HH := l1H (72, tabObj ps) (List.mem_append_right _ hm72)
              have l3H : @LT.lt Nat _ (L0 + 1 + 1 + 1) HH := l1H (L0 + 1 + 1 + 1, oS) (List.mem_append_right _ hmS)
              have l2H : @LT.lt Nat _ (L0 + 1 + 1) HH := l1H (L0 + 1 + 1, oW') (List.mem_append_right _ hmW)
              have hoffe : ∀ x ∈ lexAt a, x ≠ 105 := (Dis.below ok (r := (105, tabObj #[])) o105 Dis.nil) _ (.head _)
              have N : News g L0 h [((105 : Nat), tabObj #[]), (HH, PySem.W.listOf ysH.toArray cH), (a.lx, instObj 52 a.dlx), (a.dlx, lexDict w0 a n0 tn), (L0 + 1 + 1 + 1, oS), (L0 + 1 + 1, oW'), (72, tabObj ps)] := all7 (N0 _ (List.mem_append_right _ (.tail _ hm105))) (N0 _ (List.mem_append_right _ (.head _))) (N0 _ (List.mem_append_left _ (.tail _ (.head _)))) (N0 _ (List.mem_append_left _ (.tail _ (.tail _ (.head _))))) (N0 _ (List.mem_append_right _ (.tail _ hmS))) (N0 _ (List.mem_append_right _ (.tail _ hmW))) (N0 _ (List.mem_append_right _ (.tail _ hm72)))
              clear N0
              try dsimp only
              (repeat' (first |  (k_unfold; (try dsimp only)) | (k_here; (with_reducible show wpAny _ _ (eval (Expr.Name _ _) (compEnv _ _ _)) _ _ _); k_dflt (first | (refine name_locS rfl rfl rfl (by decide) (by with_reducible assumption) (by assumption) ?_; k_whole) | (refine nameG_BS rfl rfl rfl rfl (by decide) (by k_asm) (by k_asm) (by k_asm) (by k_is) (by boot_fast) (by decide) ?_; k_whole))) | (k_here; (with_reducible show wpAny _ _ (call (Value.type _) [Value.str _ _]) _ _ _); k_dflt (refine list_strN rfl (by k_asm) (by k_asm) ?_ (by rw [sizeLine_eq]; omega)); intro D9 ys9 c9 h9 tk9 F9 N9 l9 m9 hS9; (try k_lt l9); (try k_sweep)) | (k_here; (with_reducible show wpAny _ _ (compareOp CmpOp.Eq (Value.ref _) (Value.ref _)) _ _ _); k_dflt (refine strs_eq (by is_list) (by is_list) (by first | k_asm | exact StrsAre.nil) (by first | exact StrsAre.nil | k_asm) (by ke_room) ?_)) | (k_here; (with_reducible show wpAny _ _ (call (Value.builtin _) [Value.ref _, Value.int 0 _]) _ _ _); k_dflt (refine pop_first (by k_asm) (by k_asm) (by k_upd) (by (rw [sizeLine_eq]; (try have hL9 := PyProof.Rows.StrsAre.length (by assumption)); (try simp only [List.length_cons] at *); omega)) ?_; k_whole); intro h9 F9 N9; (try k_sweep)) | (k_here; (with_reducible show wpAny _ _ (call (Value.builtin "len") [Value.str _ _]) _ _ _); refine len_str (by omega) ?_) | (k_here; (with_reducible show wpAny _ _ (call (Value.builtin "len") [Value.ref _]) _ _ _); k_dflt (refine len_strsA (by is_list) (by assumption) (by ((try simp only [List.length_map]); omega)) ?_; k_whole); (try simp only [List.length_map])) | walk1 | (k_here; (with_reducible show wpAny _ _ (compareOp CmpOp.NotEq (Value.ref _) (Value.ref _)) _ _ _); k_dflt (first | refine strs_ne_nil (by is_list) (by is_list) (by ke_room) ?_ | refine strs_ne_cons (by is_list) (by is_list) (by k_asm) (by ke_room) ?_ | refine strs_ne (by is_list) (by is_list) (by first | k_asm | exact StrsAre.nil) (by first | exact StrsAre.nil | k_asm) (by ke_room) ?_)) | (dsimp only; walk1) | (dsimp only; k_unfold; (try dsimp only)) | fail "no step"))
              refine hold_out ?_
              refine Spec.use (mirrors_spec w0 word tw (by omega) hwl2.2) [(HH, PySem.W.listOf ysH.toArray cH), (a.lx, instObj 52 a.dlx), (a.dlx, lexDict w0 a n0 tn), (L0 + 1 + 1 + 1, oS), (L0 + 1 + 1, oW'), (72, tabObj ps)] B0 F X0 N T0 rfl (fun _ h => h) ?hdm (by decide) (by decide) ?_
              case hdm =>
                intro p hp
                rw [List.mem_singleton.mp hp]
                exact List.forall_mem_cons.mpr ⟨Nat.ne_of_lt l105H, List.forall_mem_cons.mpr ⟨Ne.symm (hoffe _ (.tail _ (.head _))), List.forall_mem_cons.mpr ⟨Ne.symm (hoffe _ (.tail _ (.tail _ (.head _)))), List.forall_mem_cons.mpr ⟨Nat.ne_of_lt (Nat.lt_of_lt_of_le l105 (Nat.le_add_right _ 3)), List.forall_mem_cons.mpr ⟨Nat.ne_of_lt (Nat.lt_of_lt_of_le l105 (Nat.le_add_right _ 2)), List.forall_mem_cons.mpr ⟨show ¬ (105 : Nat) = 72 by decide, List.forall_mem_nil _⟩⟩⟩⟩⟩⟩
              refine mir_all ?_
              intro h20 tk20 DM ysM cM ps2 l hM hMp hMs F20 N20 hf20
              obtain rfl := heard_is hB hMp hMs
              simp only [List.cons_append, List.nil_append] at N20
              try dsimp only
              (repeat' (first |  (k_unfold; (try dsimp only)) | (k_here; (with_reducible show wpAny _ _ (eval (Expr.Name _ _) (compEnv _ _ _)) _ _ _); k_dflt (first | (refine name_locS rfl rfl rfl (by decide) (by with_reducible assumption) (by assumption) ?_; k_whole) | (refine nameG_BS rfl rfl rfl rfl (by decide) (by k_asm) (by k_asm) (by k_asm) (by k_is) (by boot_fast) (by decide) ?_; k_whole))) | (k_here; (with_reducible show wpAny _ _ (call (Value.type _) [Value.str _ _]) _ _ _); k_dflt (refine list_strN rfl (by k_asm) (by k_asm) ?_ (by rw [sizeLine_eq]; omega)); intro D9 ys9 c9 h9 tk9 F9 N9 l9 m9 hS9; (try k_lt l9); (try k_sweep)) | (k_here; (with_reducible show wpAny _ _ (compareOp CmpOp.Eq (Value.ref _) (Value.ref _)) _ _ _); k_dflt (refine strs_eq (by is_list) (by is_list) (by first | k_asm | exact StrsAre.nil) (by first | exact StrsAre.nil | k_asm) (by ke_room) ?_)) | (k_here; (with_reducible show wpAny _ _ (call (Value.builtin _) [Value.ref _, Value.int 0 _]) _ _ _); k_dflt (refine pop_first (by k_asm) (by k_asm) (by k_upd) (by (rw [sizeLine_eq]; (try have hL9 := PyProof.Rows.StrsAre.length (by assumption)); (try simp only [List.length_cons] at *); omega)) ?_; k_whole); intro h9 F9 N9; (try k_sweep)) | (k_here; (with_reducible show wpAny _ _ (call (Value.builtin "len") [Value.str _ _]) _ _ _); refine len_str (by omega) ?_) | (k_here; (with_reducible show wpAny _ _ (call (Value.builtin "len") [Value.ref _]) _ _ _); k_dflt (refine len_strsA (by is_list) (by assumption) (by ((try simp only [List.length_map]); omega)) ?_; k_whole); (try simp only [List.length_map])) | walk1 | (k_here; (with_reducible show wpAny _ _ (compareOp CmpOp.NotEq (Value.ref _) (Value.ref _)) _ _ _); k_dflt (first | refine strs_ne_nil (by is_list) (by is_list) (by ke_room) ?_ | refine strs_ne_cons (by is_list) (by is_list) (by k_asm) (by ke_room) ?_ | refine strs_ne (by is_list) (by is_list) (by first | k_asm | exact StrsAre.nil) (by first | exact StrsAre.nil | k_asm) (by ke_room) ?_)) | (dsimp only; walk1) | (dsimp only; k_unfold; (try dsimp only)) | fail "no step"))
              refine hold_out ?_
              refine' strs_ne_same (n := cH) (m := cM) (xs := ysH) (ys := ysM) ?c0 ?c1 ?c2 hH hM ?c3 ?c4
              case c0 => exact N20
              case c1 => (first | k_mem | (refine List.mem_append_right _ ?_; k_mem) | (refine List.mem_append_left _ ?_; k_mem))
              case c2 => (first | k_mem | (refine List.mem_append_right _ ?_; k_mem) | (refine List.mem_append_left _ ?_; k_mem))
              case c3 => ke_room
              case c4 =>
                (repeat' (first |  (k_unfold; (try dsimp only)) | (k_here; (with_reducible show wpAny _ _ (eval (Expr.Name _ _) (compEnv _ _ _)) _ _ _); k_dflt (first | (refine name_locS rfl rfl rfl (by decide) (by with_reducible assumption) (by assumption) ?_; k_whole) | (refine nameG_BS rfl rfl rfl rfl (by decide) (by k_asm) (by k_asm) (by k_asm) (by k_is) (by boot_fast) (by decide) ?_; k_whole))) | (k_here; (with_reducible show wpAny _ _ (call (Value.type _) [Value.str _ _]) _ _ _); k_dflt (refine list_strN rfl (by k_asm) (by k_asm) ?_ (by rw [sizeLine_eq]; omega)); intro D9 ys9 c9 h9 tk9 F9 N9 l9 m9 hS9; (try k_lt l9); (try k_sweep)) | (k_here; (with_reducible show wpAny _ _ (compareOp CmpOp.Eq (Value.ref _) (Value.ref _)) _ _ _); k_dflt (refine strs_eq (by is_list) (by is_list) (by first | k_asm | exact StrsAre.nil) (by first | exact StrsAre.nil | k_asm) (by ke_room) ?_)) | (k_here; (with_reducible show wpAny _ _ (call (Value.builtin _) [Value.ref _, Value.int 0 _]) _ _ _); k_dflt (refine pop_first (by k_asm) (by k_asm) (by k_upd) (by (rw [sizeLine_eq]; (try have hL9 := PyProof.Rows.StrsAre.length (by assumption)); (try simp only [List.length_cons] at *); omega)) ?_; k_whole); intro h9 F9 N9; (try k_sweep)) | (k_here; (with_reducible show wpAny _ _ (call (Value.builtin "len") [Value.str _ _]) _ _ _); refine len_str (by omega) ?_) | (k_here; (with_reducible show wpAny _ _ (call (Value.builtin "len") [Value.ref _]) _ _ _); k_dflt (refine len_strsA (by is_list) (by assumption) (by ((try simp only [List.length_map]); omega)) ?_; k_whole); (try simp only [List.length_map])) | walk1 | (k_here; (with_reducible show wpAny _ _ (compareOp CmpOp.NotEq (Value.ref _) (Value.ref _)) _ _ _); k_dflt (first | refine strs_ne_nil (by is_list) (by is_list) (by ke_room) ?_ | refine strs_ne_cons (by is_list) (by is_list) (by k_asm) (by ke_room) ?_ | refine strs_ne (by is_list) (by is_list) (by first | k_asm | exact StrsAre.nil) (by first | exact StrsAre.nil | k_asm) (by ke_room) ?_)) | (dsimp only; walk1) | (dsimp only; k_unfold; (try dsimp only)) | fail "no step"))
                · exfalso
                  with_reducible rename _ ≠ 1 + Txt.count _ _ => hne
                  exact hne (by rw [hcount, hn0])
                refine hold_out ?_
                have hmem : ∀ x, x ∈ heard ↔ x ∈ dueL word word.length := fun x => hMp.mem_iff
                have hnd := sorted_nodup hMs
                have hhd : ∀ x ∈ heard, (∀ c ∈ x, 66 ≤ c ∧ c < 81) ∧ x.length ≤ 7 ∧ x ≠ [] := fun x hx => due_ok hbds hwl2.2 ((hmem x).mp hx)
                have hHl := hH.length
                rw [List.length_map] at hHl
                have hh49 := hB.len hwl2.2
                simp only [List.length_nil, Nat.add_zero] at hh49
                with_reducible rename Fr _ _ _ _ => F21
                with_reducible rename News _ _ _ _ => N21
                with_reducible rename Heap => h21
                replace F21 : Fr g L0 h21 (l2Fr S D9 a.lx (ofL text) (ofL body) tx9 tb9 (some (.ref HH)) mg mw mf (some (.int 17 (tk91 + 1))) (some (.bool true)) none none) := l2_full F21
                have N22 : News g L0 h21 [(L0 + 1 + 1 + 1, oS), (L0 + 1 + 1, oW'), (HH, PySem.W.listOf ysH.toArray cH), (105, tabObj ps2), (72, tabObj ps)] := fun p hp => N21 p (by revert p hp; (repeat (first | exact List.forall_mem_nil _ | refine List.forall_mem_cons.mpr ⟨by k_mem, ?_⟩)))
                clear N21
                refine wpAny_For ?_
                (repeat' (first |  (k_unfold; (try dsimp only)) | (k_here; (with_reducible show wpAny _ _ (eval (Expr.Name _ _) (compEnv _ _ _)) _ _ _); k_dflt (first | (refine name_locS rfl rfl rfl (by decide) (by with_reducible assumption) (by assumption) ?_; k_whole) | (refine nameG_BS rfl rfl rfl rfl (by decide) (by k_asm) (by k_asm) (by k_asm) (by k_is) (by boot_fast) (by decide) ?_; k_whole))) | (k_here; (with_reducible show wpAny _ _ (call (Value.type _) [Value.str _ _]) _ _ _); k_dflt (refine list_strN rfl (by k_asm) (by k_asm) ?_ (by rw [sizeLine_eq]; omega)); intro D9 ys9 c9 h9 tk9 F9 N9 l9 m9 hS9; (try k_lt l9); (try k_sweep)) | (k_here; (with_reducible show wpAny _ _ (compareOp CmpOp.Eq (Value.ref _) (Value.ref _)) _ _ _); k_dflt (refine strs_eq (by is_list) (by is_list) (by first | k_asm | exact StrsAre.nil) (by first | exact StrsAre.nil | k_asm) (by ke_room) ?_)) | (k_here; (with_reducible show wpAny _ _ (call (Value.builtin _) [Value.ref _, Value.int 0 _]) _ _ _); k_dflt (refine pop_first (by k_asm) (by k_asm) (by k_upd) (by (rw [sizeLine_eq]; (try have hL9 := PyProof.Rows.StrsAre.length (by assumption)); (try simp only [List.length_cons] at *); omega)) ?_; k_whole); intro h9 F9 N9; (try k_sweep)) | (k_here; (with_reducible show wpAny _ _ (call (Value.builtin "len") [Value.str _ _]) _ _ _); refine len_str (by omega) ?_) | (k_here; (with_reducible show wpAny _ _ (call (Value.builtin "len") [Value.ref _]) _ _ _); k_dflt (refine len_strsA (by is_list) (by assumption) (by ((try simp only [List.length_map]); omega)) ?_; k_whole); (try simp only [List.length_map])) | walk1 | (k_here; (with_reducible show wpAny _ _ (compareOp CmpOp.NotEq (Value.ref _) (Value.ref _)) _ _ _); k_dflt (first | refine strs_ne_nil (by is_list) (by is_list) (by ke_room) ?_ | refine strs_ne_cons (by is_list) (by is_list) (by k_asm) (by ke_room) ?_ | refine strs_ne (by is_list) (by is_list) (by first | k_asm | exact StrsAre.nil) (by first | exact StrsAre.nil | k_asm) (by ke_room) ?_)) | (dsimp only; walk1) | (dsimp only; k_unfold; (try dsimp only)) | fail "no step"))
                refine hold_out ?_
                with_reducible rename IsRange _ _ _ _ _ _ _ _ => hR5
                with_reducible rename Fr _ _ _ _ => F23
                with_reducible rename News _ _ _ _ => N23
                rw [show ((ofL word).length : Int) + 1 = ((word.length + 1 : Nat) : Int) by omega] at hR5
                refine' for_range (n := word.length) (m := l2Fr S D9 a.lx (ofL text) (ofL body) tx9 tb9 (some (.ref HH)) mg mw mf (some (.int 17 (tk91 + 1))) (some (.bool true)) none none) (SJ (fun b ms mp => l2Fr S D9 a.lx (ofL text) (ofL body) tx9 tb9 (some (.ref HH)) mg mw mf (some (.int 17 (tk91 + 1))) (some (.bool b)) ms mp) (L0 + 1 + 1 + 1) [(L0 + 1 + 1, oW'), (HH, PySem.W.listOf ysH.toArray cH), (105, tabObj ps2), (72, tabObj ps)] (fullL word heard)) (by rfl) (fun _ _ h => h) hR5 (range_smallM (a := 1) (by omega) (by omega)) ((range_sizeM (a := 1)).trans (by rw [Nat.add_sub_cancel])) ?frS N23 (SJ.mk (fr := fun b ms mp => l2Fr S D9 a.lx (ofL text) (ofL body) tx9 tb9 (some (.ref HH)) mg mw mf (some (.int 17 (tk91 + 1))) (some (.bool b)) ms mp) (show true = fullL word heard 0 from rfl) dS) ?turnS ?doneS
                case frS => exact F23
                case doneS =>
                  intro m₁ nx h24 tk24 hJ
                  revert m₁ nx
                  refine sj_all (fr := fun b ms mp => l2Fr S D9 a.lx (ofL text) (ofL body) tx9 tb9 (some (.ref HH)) mg mw mf (some (.int 17 (tk91 + 1))) (some (.bool b)) ms mp) ?_
                  intro ms mp oS' c dS' F24 N24
                  try dsimp only
                  subst hg
                  subst hL0
                  (repeat' (first |  (k_unfold; (try dsimp only)) | (k_here; (with_reducible show wpAny _ _ (eval (Expr.Name _ _) (compEnv _ _ _)) _ _ _); k_dflt (first | (refine name_locS rfl rfl rfl (by decide) (by with_reducible assumption) (by assumption) ?_; k_whole) | (refine nameG_BS rfl rfl rfl rfl (by decide) (by k_asm) (by k_asm) (by k_asm) (by k_is) (by boot_fast) (by decide) ?_; k_whole))) | (k_here; (with_reducible show wpAny _ _ (call (Value.type _) [Value.str _ _]) _ _ _); k_dflt (refine list_strN rfl (by k_asm) (by k_asm) ?_ (by rw [sizeLine_eq]; omega)); intro D9 ys9 c9 h9 tk9 F9 N9 l9 m9 hS9; (try k_lt l9); (try k_sweep)) | (k_here; (with_reducible show wpAny _ _ (compareOp CmpOp.Eq (Value.ref _) (Value.ref _)) _ _ _); k_dflt (refine strs_eq (by is_list) (by is_list) (by first | k_asm | exact StrsAre.nil) (by first | exact StrsAre.nil | k_asm) (by ke_room) ?_)) | (k_here; (with_reducible show wpAny _ _ (call (Value.builtin _) [Value.ref _, Value.int 0 _]) _ _ _); k_dflt (refine pop_first (by k_asm) (by k_asm) (by k_upd) (by (rw [sizeLine_eq]; (try have hL9 := PyProof.Rows.StrsAre.length (by assumption)); (try simp only [List.length_cons] at *); omega)) ?_; k_whole); intro h9 F9 N9; (try k_sweep)) | (k_here; (with_reducible show wpAny _ _ (call (Value.builtin "len") [Value.str _ _]) _ _ _); refine len_str (by omega) ?_) | (k_here; (with_reducible show wpAny _ _ (call (Value.builtin "len") [Value.ref _]) _ _ _); k_dflt (refine len_strsA (by is_list) (by assumption) (by ((try simp only [List.length_map]); omega)) ?_; k_whole); (try simp only [List.length_map])) | walk1 | (k_here; (with_reducible show wpAny _ _ (compareOp CmpOp.NotEq (Value.ref _) (Value.ref _)) _ _ _); k_dflt (first | refine strs_ne_nil (by is_list) (by is_list) (by ke_room) ?_ | refine strs_ne_cons (by is_list) (by is_list) (by k_asm) (by ke_room) ?_ | refine strs_ne (by is_list) (by is_list) (by first | k_asm | exact StrsAre.nil) (by first | exact StrsAre.nil | k_asm) (by ke_room) ?_)) | (dsimp only; walk1) | (dsimp only; k_unfold; (try dsimp only)) | fail "no step"))
                  kc_close
                case turnS =>
                  clear F23 N23 hR5
                  intro i tv m₁ nx h24 tk24 I oI hi hJ
                  revert m₁ nx
                  refine sj_all (fr := fun b ms mp => l2Fr S D9 a.lx (ofL text) (ofL body) tx9 tb9 (some (.ref HH)) mg mw mf (some (.int 17 (tk91 + 1))) (some (.bool b)) ms mp) ?_
                  intro ms mp oS' c dS' F24 N24 offI
                  rw [show (1 : Int) + (i : Int) = ((i + 1 : Nat) : Int) by omega]
                  refine off5 offI ?_
                  intro q1 q2 q3 q4 q5
                  try dsimp only
                  (repeat' (first |  (k_unfold; (try dsimp only)) | (k_here; (with_reducible show wpAny _ _ (eval (Expr.Name _ _) (compEnv _ _ _)) _ _ _); k_dflt (first | (refine name_locS rfl rfl rfl (by decide) (by with_reducible assumption) (by assumption) ?_; k_whole) | (refine nameG_BS rfl rfl rfl rfl (by decide) (by k_asm) (by k_asm) (by k_asm) (by k_is) (by boot_fast) (by decide) ?_; k_whole))) | (k_here; (with_reducible show wpAny _ _ (call (Value.type _) [Value.str _ _]) _ _ _); k_dflt (refine list_strN rfl (by k_asm) (by k_asm) ?_ (by rw [sizeLine_eq]; omega)); intro D9 ys9 c9 h9 tk9 F9 N9 l9 m9 hS9; (try k_lt l9); (try k_sweep)) | (k_here; (with_reducible show wpAny _ _ (compareOp CmpOp.Eq (Value.ref _) (Value.ref _)) _ _ _); k_dflt (refine strs_eq (by is_list) (by is_list) (by first | k_asm | exact StrsAre.nil) (by first | exact StrsAre.nil | k_asm) (by ke_room) ?_)) | (k_here; (with_reducible show wpAny _ _ (call (Value.builtin _) [Value.ref _, Value.int 0 _]) _ _ _); k_dflt (refine pop_first (by k_asm) (by k_asm) (by k_upd) (by (rw [sizeLine_eq]; (try have hL9 := PyProof.Rows.StrsAre.length (by assumption)); (try simp only [List.length_cons] at *); omega)) ?_; k_whole); intro h9 F9 N9; (try k_sweep)) | (k_here; (with_reducible show wpAny _ _ (call (Value.builtin "len") [Value.str _ _]) _ _ _); refine len_str (by omega) ?_) | (k_here; (with_reducible show wpAny _ _ (call (Value.builtin "len") [Value.ref _]) _ _ _); k_dflt (refine len_strsA (by is_list) (by assumption) (by ((try simp only [List.length_map]); omega)) ?_; k_whole); (try simp only [List.length_map])) | walk1 | (k_here; (with_reducible show wpAny _ _ (compareOp CmpOp.NotEq (Value.ref _) (Value.ref _)) _ _ _); k_dflt (first | refine strs_ne_nil (by is_list) (by is_list) (by ke_room) ?_ | refine strs_ne_cons (by is_list) (by is_list) (by k_asm) (by ke_room) ?_ | refine strs_ne (by is_list) (by is_list) (by first | k_asm | exact StrsAre.nil) (by first | exact StrsAre.nil | k_asm) (by ke_room) ?_)) | (dsimp only; walk1) | (dsimp only; k_unfold; (try dsimp only)) | fail "no step"))
                  refine hold_out ?_
                  refine wpAny_For ?_
                  (repeat' (first |  (k_unfold; (try dsimp only)) | (k_here; (with_reducible show wpAny _ _ (eval (Expr.Name _ _) (compEnv _ _ _)) _ _ _); k_dflt (first | (refine name_locS rfl rfl rfl (by decide) (by with_reducible assumption) (by assumption) ?_; k_whole) | (refine nameG_BS rfl rfl rfl rfl (by decide) (by k_asm) (by k_asm) (by k_asm) (by k_is) (by boot_fast) (by decide) ?_; k_whole))) | (k_here; (with_reducible show wpAny _ _ (call (Value.type _) [Value.str _ _]) _ _ _); k_dflt (refine list_strN rfl (by k_asm) (by k_asm) ?_ (by rw [sizeLine_eq]; omega)); intro D9 ys9 c9 h9 tk9 F9 N9 l9 m9 hS9; (try k_lt l9); (try k_sweep)) | (k_here; (with_reducible show wpAny _ _ (compareOp CmpOp.Eq (Value.ref _) (Value.ref _)) _ _ _); k_dflt (refine strs_eq (by is_list) (by is_list) (by first | k_asm | exact StrsAre.nil) (by first | exact StrsAre.nil | k_asm) (by ke_room) ?_)) | (k_here; (with_reducible show wpAny _ _ (call (Value.builtin _) [Value.ref _, Value.int 0 _]) _ _ _); k_dflt (refine pop_first (by k_asm) (by k_asm) (by k_upd) (by (rw [sizeLine_eq]; (try have hL9 := PyProof.Rows.StrsAre.length (by assumption)); (try simp only [List.length_cons] at *); omega)) ?_; k_whole); intro h9 F9 N9; (try k_sweep)) | (k_here; (with_reducible show wpAny _ _ (call (Value.builtin "len") [Value.str _ _]) _ _ _); refine len_str (by omega) ?_) | (k_here; (with_reducible show wpAny _ _ (call (Value.builtin "len") [Value.ref _]) _ _ _); k_dflt (refine len_strsA (by is_list) (by assumption) (by ((try simp only [List.length_map]); omega)) ?_; k_whole); (try simp only [List.length_map])) | walk1 | (k_here; (with_reducible show wpAny _ _ (compareOp CmpOp.NotEq (Value.ref _) (Value.ref _)) _ _ _); k_dflt (first | refine strs_ne_nil (by is_list) (by is_list) (by ke_room) ?_ | refine strs_ne_cons (by is_list) (by is_list) (by k_asm) (by ke_room) ?_ | refine strs_ne (by is_list) (by is_list) (by first | k_asm | exact StrsAre.nil) (by first | exact StrsAre.nil | k_asm) (by ke_room) ?_)) | (dsimp only; walk1) | (dsimp only; k_unfold; (try dsimp only)) | fail "no step"))
                  refine hold_out ?_
                  with_reducible rename IsRange _ _ _ _ _ _ _ _ => hR6
                  with_reducible rename Fr _ _ _ _ => F25
                  with_reducible rename News _ _ _ _ => N25
                  with_reducible rename Obj => oS3
                  with_reducible rename Obj.data _ = Data.cell (some _) => dS3
                  refine' for_range (n := i + 1) (m := l2Fr S D9 a.lx (ofL text) (ofL body) tx9 tb9 (some (.ref HH)) mg mw mf (some (.int 17 (tk91 + 1))) (some (.bool (fullL word heard i))) ms mp) (TJ (fun b ms mp => l2Fr S D9 a.lx (ofL text) (ofL body) tx9 tb9 (some (.ref HH)) mg mw mf (some (.int 17 (tk91 + 1))) (some (.bool b)) ms mp) ((I, oI) :: [(L0 + 1 + 1 + 1, oS3), (L0 + 1 + 1, oW'), (HH, PySem.W.listOf ysH.toArray cH), (105, tabObj ps2), (72, tabObj ps)]) (fullIn word heard (i + 1) (fullL word heard i))) (by rfl) (fun _ _ h => h) hR6 (range_smallM (a := 0) (by omega) (by omega)) (range_sizeM (a := 0)) ?frT ?nwT (TJ.mk (fr := fun b ms mp => l2Fr S D9 a.lx (ofL text) (ofL body) tx9 tb9 (some (.ref HH)) mg mw mf (some (.int 17 (tk91 + 1))) (some (.bool b)) ms mp) rfl) ?turnT ?doneT
                  case frT => exact F25
                  case nwT => exact fun p hp => N25 p (by revert p hp; (repeat (first | exact List.forall_mem_nil _ | refine List.forall_mem_cons.mpr ⟨by k_mem, ?_⟩)))
                  case doneT =>
                    clear F25 N25 hR6
                    intro m₁ nx h26 tk26 hJ
                    revert m₁ nx
                    refine tj_all (fr := fun b ms mp => l2Fr S D9 a.lx (ofL text) (ofL body) tx9 tb9 (some (.ref HH)) mg mw mf (some (.int 17 (tk91 + 1))) (some (.bool b)) ms mp) ?_
                    intro ms2 mp2 F26 N26
                    obtain ⟨bF, hbF⟩ : ∃ bF, bF = fullL word heard (i + 1) := ⟨_, rfl⟩
                    rw [show fullIn word heard (i + 1) (fullL word heard i) (i + 1) = fullL word heard (i + 1) from rfl, ← hbF] at F26
                    try dsimp only
                    (repeat' (first |  (k_unfold; (try dsimp only)) | (k_here; (with_reducible show wpAny _ _ (eval (Expr.Name _ _) (compEnv _ _ _)) _ _ _); k_dflt (first | (refine name_locS rfl rfl rfl (by decide) (by with_reducible assumption) (by assumption) ?_; k_whole) | (refine nameG_BS rfl rfl rfl rfl (by decide) (by k_asm) (by k_asm) (by k_asm) (by k_is) (by boot_fast) (by decide) ?_; k_whole))) | (k_here; (with_reducible show wpAny _ _ (call (Value.type _) [Value.str _ _]) _ _ _); k_dflt (refine list_strN rfl (by k_asm) (by k_asm) ?_ (by rw [sizeLine_eq]; omega)); intro D9 ys9 c9 h9 tk9 F9 N9 l9 m9 hS9; (try k_lt l9); (try k_sweep)) | (k_here; (with_reducible show wpAny _ _ (compareOp CmpOp.Eq (Value.ref _) (Value.ref _)) _ _ _); k_dflt (refine strs_eq (by is_list) (by is_list) (by first | k_asm | exact StrsAre.nil) (by first | exact StrsAre.nil | k_asm) (by ke_room) ?_)) | (k_here; (with_reducible show wpAny _ _ (call (Value.builtin _) [Value.ref _, Value.int 0 _]) _ _ _); k_dflt (refine pop_first (by k_asm) (by k_asm) (by k_upd) (by (rw [sizeLine_eq]; (try have hL9 := PyProof.Rows.StrsAre.length (by assumption)); (try simp only [List.length_cons] at *); omega)) ?_; k_whole); intro h9 F9 N9; (try k_sweep)) | (k_here; (with_reducible show wpAny _ _ (call (Value.builtin "len") [Value.str _ _]) _ _ _); refine len_str (by omega) ?_) | (k_here; (with_reducible show wpAny _ _ (call (Value.builtin "len") [Value.ref _]) _ _ _); k_dflt (refine len_strsA (by is_list) (by assumption) (by ((try simp only [List.length_map]); omega)) ?_; k_whole); (try simp only [List.length_map])) | walk1 | (k_here; (with_reducible show wpAny _ _ (compareOp CmpOp.NotEq (Value.ref _) (Value.ref _)) _ _ _); k_dflt (first | refine strs_ne_nil (by is_list) (by is_list) (by ke_room) ?_ | refine strs_ne_cons (by is_list) (by is_list) (by k_asm) (by ke_room) ?_ | refine strs_ne (by is_list) (by is_list) (by first | k_asm | exact StrsAre.nil) (by first | exact StrsAre.nil | k_asm) (by ke_room) ?_)) | (dsimp only; walk1) | (dsimp only; k_unfold; (try dsimp only)) | fail "no step"))
                    refine hold_out ?_
                    with_reducible rename Fr _ _ _ _ => F27
                    with_reducible rename News _ _ _ _ => N27
                    refine LCt.CompSrcT.ledger (ax := HH) (its := ysH.toArray) (k := cH) (by rfl) F27 N27 (by (first | k_mem | (refine List.mem_append_right _ ?_; k_mem) | (refine List.mem_append_left _ ?_; k_mem))) (by rw [List.size_toArray, sizeLine_eq]; omega) ?_
                    intro g'
                    refine rest_invT heard.length (fun k ys nx => nx = (I, oI) :: [(L0 + 1 + 1 + 1, oS3), (L0 + 1 + 1, oW'), (HH, PySem.W.listOf ysH.toArray cH), (105, tabObj ps2), (72, tabObj ps)] ∧ StrsAre ys (((heard.take k).filter (fun one => inB one (word.take (i + 1)))).map ofL)) ?turnO ?finO _ _ _ _ (by rw [Nat.zero_add, List.size_toArray, hHl]) ⟨rfl, by rw [List.take_zero]; exact StrsAre.nil⟩
                    case turnO =>
                      clear F27 N27
                      intro k ys nx v I3 oI3 C3 oC3 D3 m₃ h29 tk29 E' hk hI
                      revert nx
                      refine fix_all ?_
                      intro hI hP hCo hx F29 N29 off ne
                      obtain ⟨l, t, hl1, rfl⟩ := strs_at hH (by simpa using hP)
                      have hlm := hhd l (List.mem_of_getElem? hl1)
                      try dsimp only
                      (repeat' (first |  (k_unfold; (try dsimp only)) | (k_here; (with_reducible show wpAny _ _ (eval (Expr.Name _ _) (compEnv _ _ _)) _ _ _); k_dflt (first | (refine name_locS rfl rfl rfl (by decide) (by with_reducible assumption) (by assumption) ?_; k_whole) | (refine nameG_BS rfl rfl rfl rfl (by decide) (by k_asm) (by k_asm) (by k_asm) (by k_is) (by boot_fast) (by decide) ?_; k_whole))) | (k_here; (with_reducible show wpAny _ _ (call (Value.type _) [Value.str _ _]) _ _ _); k_dflt (refine list_strN rfl (by k_asm) (by k_asm) ?_ (by rw [sizeLine_eq]; omega)); intro D9 ys9 c9 h9 tk9 F9 N9 l9 m9 hS9; (try k_lt l9); (try k_sweep)) | (k_here; (with_reducible show wpAny _ _ (compareOp CmpOp.Eq (Value.ref _) (Value.ref _)) _ _ _); k_dflt (refine strs_eq (by is_list) (by is_list) (by first | k_asm | exact StrsAre.nil) (by first | exact StrsAre.nil | k_asm) (by ke_room) ?_)) | (k_here; (with_reducible show wpAny _ _ (call (Value.builtin _) [Value.ref _, Value.int 0 _]) _ _ _); k_dflt (refine pop_first (by k_asm) (by k_asm) (by k_upd) (by (rw [sizeLine_eq]; (try have hL9 := PyProof.Rows.StrsAre.length (by assumption)); (try simp only [List.length_cons] at *); omega)) ?_; k_whole); intro h9 F9 N9; (try k_sweep)) | (k_here; (with_reducible show wpAny _ _ (call (Value.builtin "len") [Value.str _ _]) _ _ _); refine len_str (by omega) ?_) | (k_here; (with_reducible show wpAny _ _ (call (Value.builtin "len") [Value.ref _]) _ _ _); k_dflt (refine len_strsA (by is_list) (by assumption) (by ((try simp only [List.length_map]); omega)) ?_; k_whole); (try simp only [List.length_map])) | walk1 | (k_here; (with_reducible show wpAny _ _ (compareOp CmpOp.NotEq (Value.ref _) (Value.ref _)) _ _ _); k_dflt (first | refine strs_ne_nil (by is_list) (by is_list) (by ke_room) ?_ | refine strs_ne_cons (by is_list) (by is_list) (by k_asm) (by ke_room) ?_ | refine strs_ne (by is_list) (by is_list) (by first | k_asm | exact StrsAre.nil) (by first | exact StrsAre.nil | k_asm) (by ke_room) ?_)) | (dsimp only; walk1) | (dsimp only; k_unfold; (try dsimp only)) | fail "no step"))
                      refine hold_out ?_
                      rw [slice_to word (i + 1) (by omega)]
                      refine Spec.pure (within_spec _ l (word.take (i + 1)) _ _ (by omega) (Nat.le_trans take_len (Nat.le_trans hwl2.2 (by decide))) (fun c hc => by have := hlm.1 c hc; omega)) (by assumption) (by assumption) (by assumption) (by assumption) (by assumption) rfl (by decide) (by decide) ?_
                      refine eq_all ?_
                      intro h30 tk30 F30 N30
                      try dsimp only
                      cases hin : inB l (word.take (i + 1)) with
                      | true =>
                        (repeat' (first |  (k_unfold; (try dsimp only)) | (k_here; (with_reducible show wpAny _ _ (eval (Expr.Name _ _) (compEnv _ _ _)) _ _ _); k_dflt (first | (refine name_locS rfl rfl rfl (by decide) (by with_reducible assumption) (by assumption) ?_; k_whole) | (refine nameG_BS rfl rfl rfl rfl (by decide) (by k_asm) (by k_asm) (by k_asm) (by k_is) (by boot_fast) (by decide) ?_; k_whole))) | (k_here; (with_reducible show wpAny _ _ (call (Value.type _) [Value.str _ _]) _ _ _); k_dflt (refine list_strN rfl (by k_asm) (by k_asm) ?_ (by rw [sizeLine_eq]; omega)); intro D9 ys9 c9 h9 tk9 F9 N9 l9 m9 hS9; (try k_lt l9); (try k_sweep)) | (k_here; (with_reducible show wpAny _ _ (compareOp CmpOp.Eq (Value.ref _) (Value.ref _)) _ _ _); k_dflt (refine strs_eq (by is_list) (by is_list) (by first | k_asm | exact StrsAre.nil) (by first | exact StrsAre.nil | k_asm) (by ke_room) ?_)) | (k_here; (with_reducible show wpAny _ _ (call (Value.builtin _) [Value.ref _, Value.int 0 _]) _ _ _); k_dflt (refine pop_first (by k_asm) (by k_asm) (by k_upd) (by (rw [sizeLine_eq]; (try have hL9 := PyProof.Rows.StrsAre.length (by assumption)); (try simp only [List.length_cons] at *); omega)) ?_; k_whole); intro h9 F9 N9; (try k_sweep)) | (k_here; (with_reducible show wpAny _ _ (call (Value.builtin "len") [Value.str _ _]) _ _ _); refine len_str (by omega) ?_) | (k_here; (with_reducible show wpAny _ _ (call (Value.builtin "len") [Value.ref _]) _ _ _); k_dflt (refine len_strsA (by is_list) (by assumption) (by ((try simp only [List.length_map]); omega)) ?_; k_whole); (try simp only [List.length_map])) | walk1 | (k_here; (with_reducible show wpAny _ _ (compareOp CmpOp.NotEq (Value.ref _) (Value.ref _)) _ _ _); k_dflt (first | refine strs_ne_nil (by is_list) (by is_list) (by ke_room) ?_ | refine strs_ne_cons (by is_list) (by is_list) (by k_asm) (by ke_room) ?_ | refine strs_ne (by is_list) (by is_list) (by first | k_asm | exact StrsAre.nil) (by first | exact StrsAre.nil | k_asm) (by ke_room) ?_)) | (dsimp only; walk1) | (dsimp only; k_unfold; (try dsimp only)) | fail "no step"))
                        exact LCg.CompEnd.intro F30 N30 _ (fun p hp => hp) off (.inr ⟨_, .tail _ (.tail _ (.tail _ (.head _))), rfl, _, rfl⟩) ⟨rfl, by rw [filter_in hl1 hin]; exact strs_snocM hI⟩
                      | false =>
                        (repeat' (first |  (k_unfold; (try dsimp only)) | (k_here; (with_reducible show wpAny _ _ (eval (Expr.Name _ _) (compEnv _ _ _)) _ _ _); k_dflt (first | (refine name_locS rfl rfl rfl (by decide) (by with_reducible assumption) (by assumption) ?_; k_whole) | (refine nameG_BS rfl rfl rfl rfl (by decide) (by k_asm) (by k_asm) (by k_asm) (by k_is) (by boot_fast) (by decide) ?_; k_whole))) | (k_here; (with_reducible show wpAny _ _ (call (Value.type _) [Value.str _ _]) _ _ _); k_dflt (refine list_strN rfl (by k_asm) (by k_asm) ?_ (by rw [sizeLine_eq]; omega)); intro D9 ys9 c9 h9 tk9 F9 N9 l9 m9 hS9; (try k_lt l9); (try k_sweep)) | (k_here; (with_reducible show wpAny _ _ (compareOp CmpOp.Eq (Value.ref _) (Value.ref _)) _ _ _); k_dflt (refine strs_eq (by is_list) (by is_list) (by first | k_asm | exact StrsAre.nil) (by first | exact StrsAre.nil | k_asm) (by ke_room) ?_)) | (k_here; (with_reducible show wpAny _ _ (call (Value.builtin _) [Value.ref _, Value.int 0 _]) _ _ _); k_dflt (refine pop_first (by k_asm) (by k_asm) (by k_upd) (by (rw [sizeLine_eq]; (try have hL9 := PyProof.Rows.StrsAre.length (by assumption)); (try simp only [List.length_cons] at *); omega)) ?_; k_whole); intro h9 F9 N9; (try k_sweep)) | (k_here; (with_reducible show wpAny _ _ (call (Value.builtin "len") [Value.str _ _]) _ _ _); refine len_str (by omega) ?_) | (k_here; (with_reducible show wpAny _ _ (call (Value.builtin "len") [Value.ref _]) _ _ _); k_dflt (refine len_strsA (by is_list) (by assumption) (by ((try simp only [List.length_map]); omega)) ?_; k_whole); (try simp only [List.length_map])) | walk1 | (k_here; (with_reducible show wpAny _ _ (compareOp CmpOp.NotEq (Value.ref _) (Value.ref _)) _ _ _); k_dflt (first | refine strs_ne_nil (by is_list) (by is_list) (by ke_room) ?_ | refine strs_ne_cons (by is_list) (by is_list) (by k_asm) (by ke_room) ?_ | refine strs_ne (by is_list) (by is_list) (by first | k_asm | exact StrsAre.nil) (by first | exact StrsAre.nil | k_asm) (by ke_room) ?_)) | (dsimp only; walk1) | (dsimp only; k_unfold; (try dsimp only)) | fail "no step"))
                        exact LCg.CompEnd.intro F30 N30 _ (fun p hp => hp) off (.inr ⟨_, .tail _ (.tail _ (.tail _ (.head _))), rfl, _, rfl⟩) ⟨rfl, by rw [filter_out hl1 hin]; exact hI⟩
                    case finO =>
                      clear F27 N27
                      intro ys
                      refine fix_all ?_
                      intro hI
                      rw [List.take_length] at hI
                      have hcl : (heard.filter (fun one => inB one (word.take (i + 1)))).length = countL heard (word.take (i + 1)) := rfl
                      obtain ⟨fl, hfl2⟩ : ∃ fl, fl = heard.filter (fun one => inB one (word.take (i + 1))) := ⟨_, rfl⟩
                      rw [← hfl2] at hI hcl
                      have hcL := (count_le hnd hmem (i + 1) (by omega)).1
                      have hrich := rich (ms := heard) hnd hmem (n := i + 1) (by omega)
                      rw [← hcl] at hcL hrich
                      rw [← hbF] at hrich
                      have hlI := hI.length
                      rw [List.length_map] at hlI
                      try dsimp only
                      (repeat' (first |  (k_unfold; (try dsimp only)) | (k_here; (with_reducible show wpAny _ _ (eval (Expr.Name _ _) (compEnv _ _ _)) _ _ _); k_dflt (first | (refine name_locS rfl rfl rfl (by decide) (by with_reducible assumption) (by assumption) ?_; k_whole) | (refine nameG_BS rfl rfl rfl rfl (by decide) (by k_asm) (by k_asm) (by k_asm) (by k_is) (by boot_fast) (by decide) ?_; k_whole))) | (k_here; (with_reducible show wpAny _ _ (call (Value.type _) [Value.str _ _]) _ _ _); k_dflt (refine list_strN rfl (by k_asm) (by k_asm) ?_ (by rw [sizeLine_eq]; omega)); intro D9 ys9 c9 h9 tk9 F9 N9 l9 m9 hS9; (try k_lt l9); (try k_sweep)) | (k_here; (with_reducible show wpAny _ _ (compareOp CmpOp.Eq (Value.ref _) (Value.ref _)) _ _ _); k_dflt (refine strs_eq (by is_list) (by is_list) (by first | k_asm | exact StrsAre.nil) (by first | exact StrsAre.nil | k_asm) (by ke_room) ?_)) | (k_here; (with_reducible show wpAny _ _ (call (Value.builtin _) [Value.ref _, Value.int 0 _]) _ _ _); k_dflt (refine pop_first (by k_asm) (by k_asm) (by k_upd) (by (rw [sizeLine_eq]; (try have hL9 := PyProof.Rows.StrsAre.length (by assumption)); (try simp only [List.length_cons] at *); omega)) ?_; k_whole); intro h9 F9 N9; (try k_sweep)) | (k_here; (with_reducible show wpAny _ _ (call (Value.builtin "len") [Value.str _ _]) _ _ _); refine len_str (by omega) ?_) | (k_here; (with_reducible show wpAny _ _ (call (Value.builtin "len") [Value.ref _]) _ _ _); k_dflt (refine len_strsA (by is_list) (by assumption) (by ((try simp only [List.length_map]); omega)) ?_; k_whole); (try simp only [List.length_map])) | walk1 | (k_here; (with_reducible show wpAny _ _ (compareOp CmpOp.NotEq (Value.ref _) (Value.ref _)) _ _ _); k_dflt (first | refine strs_ne_nil (by is_list) (by is_list) (by ke_room) ?_ | refine strs_ne_cons (by is_list) (by is_list) (by k_asm) (by ke_room) ?_ | refine strs_ne (by is_list) (by is_list) (by first | k_asm | exact StrsAre.nil) (by first | exact StrsAre.nil | k_asm) (by ke_room) ?_)) | (dsimp only; walk1) | (dsimp only; k_unfold; (try dsimp only)) | fail "no step"))
                      · exfalso
                        with_reducible rename (_ != _) = true => hne6
                        exact rich_no hne6 hrich
                      · with_reducible rename Fr _ _ _ _ => F31
                        with_reducible rename News _ _ _ _ => N31
                        exact TurnTo.mk (SJ.mk (fr := fun b ms mp => l2Fr S D9 a.lx (ofL text) (ofL body) tx9 tb9 (some (.ref HH)) mg mw mf (some (.int 17 (tk91 + 1))) (some (.bool b)) ms mp) hbF dS3) F31 N31 (by (repeat (first | exact List.forall_mem_nil _ | refine List.forall_mem_cons.mpr ⟨by k_mem, ?_⟩))) (List.forall_mem_cons.mpr ⟨q1, fun p hp => offI p (.tail _ hp)⟩)
                  case turnT =>
                    clear F25 N25 hR6
                    intro j tj m₁ nx h26 tk26 I2 oI2 hj hJ
                    revert m₁ nx
                    refine tj_all (fr := fun b ms mp => l2Fr S D9 a.lx (ofL text) (ofL body) tx9 tb9 (some (.ref HH)) mg mw mf (some (.int 17 (tk91 + 1))) (some (.bool b)) ms mp) ?_
                    intro ms2 mp2 F26 N26 off2
                    have r4 : @Ne Nat HH I2 := off2 (HH, PySem.W.listOf ysH.toArray cH) (.tail _ (.tail _ (.tail _ (.head _))))
                    rw [Int.zero_add]
                    try dsimp only
                    (repeat' (first |  (k_unfold; (try dsimp only)) | (k_here; (with_reducible show wpAny _ _ (eval (Expr.Name _ _) (compEnv _ _ _)) _ _ _); k_dflt (first | (refine name_locS rfl rfl rfl (by decide) (by with_reducible assumption) (by assumption) ?_; k_whole) | (refine nameG_BS rfl rfl rfl rfl (by decide) (by k_asm) (by k_asm) (by k_asm) (by k_is) (by boot_fast) (by decide) ?_; k_whole))) | (k_here; (with_reducible show wpAny _ _ (call (Value.type _) [Value.str _ _]) _ _ _); k_dflt (refine list_strN rfl (by k_asm) (by k_asm) ?_ (by rw [sizeLine_eq]; omega)); intro D9 ys9 c9 h9 tk9 F9 N9 l9 m9 hS9; (try k_lt l9); (try k_sweep)) | (k_here; (with_reducible show wpAny _ _ (compareOp CmpOp.Eq (Value.ref _) (Value.ref _)) _ _ _); k_dflt (refine strs_eq (by is_list) (by is_list) (by first | k_asm | exact StrsAre.nil) (by first | exact StrsAre.nil | k_asm) (by ke_room) ?_)) | (k_here; (with_reducible show wpAny _ _ (call (Value.builtin _) [Value.ref _, Value.int 0 _]) _ _ _); k_dflt (refine pop_first (by k_asm) (by k_asm) (by k_upd) (by (rw [sizeLine_eq]; (try have hL9 := PyProof.Rows.StrsAre.length (by assumption)); (try simp only [List.length_cons] at *); omega)) ?_; k_whole); intro h9 F9 N9; (try k_sweep)) | (k_here; (with_reducible show wpAny _ _ (call (Value.builtin "len") [Value.str _ _]) _ _ _); refine len_str (by omega) ?_) | (k_here; (with_reducible show wpAny _ _ (call (Value.builtin "len") [Value.ref _]) _ _ _); k_dflt (refine len_strsA (by is_list) (by assumption) (by ((try simp only [List.length_map]); omega)) ?_; k_whole); (try simp only [List.length_map])) | walk1 | (k_here; (with_reducible show wpAny _ _ (compareOp CmpOp.NotEq (Value.ref _) (Value.ref _)) _ _ _); k_dflt (first | refine strs_ne_nil (by is_list) (by is_list) (by ke_room) ?_ | refine strs_ne_cons (by is_list) (by is_list) (by k_asm) (by ke_room) ?_ | refine strs_ne (by is_list) (by is_list) (by first | k_asm | exact StrsAre.nil) (by first | exact StrsAre.nil | k_asm) (by ke_room) ?_)) | (dsimp only; walk1) | (dsimp only; k_unfold; (try dsimp only)) | fail "no step"))
                    refine hold_out ?_
                    with_reducible rename Fr _ _ _ _ => F27
                    rw [slice_mid word j (i + 1) (by omega) (by omega)] at F27 ⊢
                    rw [rev_ofL]
                    replace F27 := l2_sp F27
                    obtain ⟨part, hpart⟩ : ∃ part, part = (word.drop j).take (i + 1 - j) := ⟨_, rfl⟩
                    rw [← hpart] at F27 ⊢
                    have hpo : ∀ c ∈ part, 66 ≤ c ∧ c < 81 := fun c hc => hbds c (List.mem_of_mem_drop (List.mem_of_mem_take (hpart ▸ hc)))
                    have hpl : part.length ≤ 7 := Nat.le_trans (hpart ▸ part_len) hwl2.2
                    have hro : ∀ c ∈ part.reverse, 66 ≤ c ∧ c < 81 := fun c hc => hpo c (List.mem_reverse.mp hc)
                    have hrl : part.reverse.length = part.length := List.length_reverse
                    have e1 : fullIn word heard (i + 1) (fullL word heard i) (j + 1) = if badP heard part then false else fullIn word heard (i + 1) (fullL word heard i) j := by rw [hpart]; rfl
                    refine Spec.pure (number_spec _ (ofL part.reverse) _) (by assumption) (by assumption) (by assumption) (by assumption) (by assumption) rfl (by decide) (by decide) ?_
                    refine int_all ?_
                    intro h28 tk28 t28 F28 N28
                    try dsimp only
                    rw [numOf_val part.reverse hro]
                    (repeat' (first |  (k_unfold; (try dsimp only)) | (k_here; (with_reducible show wpAny _ _ (eval (Expr.Name _ _) (compEnv _ _ _)) _ _ _); k_dflt (first | (refine name_locS rfl rfl rfl (by decide) (by with_reducible assumption) (by assumption) ?_; k_whole) | (refine nameG_BS rfl rfl rfl rfl (by decide) (by k_asm) (by k_asm) (by k_asm) (by k_is) (by boot_fast) (by decide) ?_; k_whole))) | (k_here; (with_reducible show wpAny _ _ (call (Value.type _) [Value.str _ _]) _ _ _); k_dflt (refine list_strN rfl (by k_asm) (by k_asm) ?_ (by rw [sizeLine_eq]; omega)); intro D9 ys9 c9 h9 tk9 F9 N9 l9 m9 hS9; (try k_lt l9); (try k_sweep)) | (k_here; (with_reducible show wpAny _ _ (compareOp CmpOp.Eq (Value.ref _) (Value.ref _)) _ _ _); k_dflt (refine strs_eq (by is_list) (by is_list) (by first | k_asm | exact StrsAre.nil) (by first | exact StrsAre.nil | k_asm) (by ke_room) ?_)) | (k_here; (with_reducible show wpAny _ _ (call (Value.builtin _) [Value.ref _, Value.int 0 _]) _ _ _); k_dflt (refine pop_first (by k_asm) (by k_asm) (by k_upd) (by (rw [sizeLine_eq]; (try have hL9 := PyProof.Rows.StrsAre.length (by assumption)); (try simp only [List.length_cons] at *); omega)) ?_; k_whole); intro h9 F9 N9; (try k_sweep)) | (k_here; (with_reducible show wpAny _ _ (call (Value.builtin "len") [Value.str _ _]) _ _ _); refine len_str (by omega) ?_) | (k_here; (with_reducible show wpAny _ _ (call (Value.builtin "len") [Value.ref _]) _ _ _); k_dflt (refine len_strsA (by is_list) (by assumption) (by ((try simp only [List.length_map]); omega)) ?_; k_whole); (try simp only [List.length_map])) | walk1 | (k_here; (with_reducible show wpAny _ _ (compareOp CmpOp.NotEq (Value.ref _) (Value.ref _)) _ _ _); k_dflt (first | refine strs_ne_nil (by is_list) (by is_list) (by ke_room) ?_ | refine strs_ne_cons (by is_list) (by is_list) (by k_asm) (by ke_room) ?_ | refine strs_ne (by is_list) (by is_list) (by first | k_asm | exact StrsAre.nil) (by first | exact StrsAre.nil | k_asm) (by ke_room) ?_)) | (dsimp only; walk1) | (dsimp only; k_unfold; (try dsimp only)) | fail "no step"))
                    refine hold_out ?_
                    refine Spec.pure (written_spec _ _ _ (by rw [Int.natAbs_natCast]; exact apL_len _ hro (by omega))) (by assumption) (by assumption) (by assumption) (by assumption) (by assumption) rfl (by decide) (by decide) ?_
                    refine str_all ?_
                    intro h29 tk29 t29 F29 N29
                    try dsimp only
                    rw [Int.natAbs_natCast, written_val _ hro]
                    (repeat' (first |  (k_unfold; (try dsimp only)) | (k_here; (with_reducible show wpAny _ _ (eval (Expr.Name _ _) (compEnv _ _ _)) _ _ _); k_dflt (first | (refine name_locS rfl rfl rfl (by decide) (by with_reducible assumption) (by assumption) ?_; k_whole) | (refine nameG_BS rfl rfl rfl rfl (by decide) (by k_asm) (by k_asm) (by k_asm) (by k_is) (by boot_fast) (by decide) ?_; k_whole))) | (k_here; (with_reducible show wpAny _ _ (call (Value.type _) [Value.str _ _]) _ _ _); k_dflt (refine list_strN rfl (by k_asm) (by k_asm) ?_ (by rw [sizeLine_eq]; omega)); intro D9 ys9 c9 h9 tk9 F9 N9 l9 m9 hS9; (try k_lt l9); (try k_sweep)) | (k_here; (with_reducible show wpAny _ _ (compareOp CmpOp.Eq (Value.ref _) (Value.ref _)) _ _ _); k_dflt (refine strs_eq (by is_list) (by is_list) (by first | k_asm | exact StrsAre.nil) (by first | exact StrsAre.nil | k_asm) (by ke_room) ?_)) | (k_here; (with_reducible show wpAny _ _ (call (Value.builtin _) [Value.ref _, Value.int 0 _]) _ _ _); k_dflt (refine pop_first (by k_asm) (by k_asm) (by k_upd) (by (rw [sizeLine_eq]; (try have hL9 := PyProof.Rows.StrsAre.length (by assumption)); (try simp only [List.length_cons] at *); omega)) ?_; k_whole); intro h9 F9 N9; (try k_sweep)) | (k_here; (with_reducible show wpAny _ _ (call (Value.builtin "len") [Value.str _ _]) _ _ _); refine len_str (by omega) ?_) | (k_here; (with_reducible show wpAny _ _ (call (Value.builtin "len") [Value.ref _]) _ _ _); k_dflt (refine len_strsA (by is_list) (by assumption) (by ((try simp only [List.length_map]); omega)) ?_; k_whole); (try simp only [List.length_map])) | walk1 | (k_here; (with_reducible show wpAny _ _ (compareOp CmpOp.NotEq (Value.ref _) (Value.ref _)) _ _ _); k_dflt (first | refine strs_ne_nil (by is_list) (by is_list) (by ke_room) ?_ | refine strs_ne_cons (by is_list) (by is_list) (by k_asm) (by ke_room) ?_ | refine strs_ne (by is_list) (by is_list) (by first | k_asm | exact StrsAre.nil) (by first | exact StrsAre.nil | k_asm) (by ke_room) ?_)) | (dsimp only; walk1) | (dsimp only; k_unfold; (try dsimp only)) | fail "no step"))
                    · with_reducible rename (_ != _) = true => hne5
                      refine hold_out ?_
                      with_reducible rename Fr _ _ _ _ => F30
                      with_reducible rename News _ _ _ _ => N30
                      refine Spec.use (returns_spec w0 HH heard ysH cH part _ hH (fun x hx => ⟨(hhd x hx).2.2, by have := (hhd x hx).2.1; omega, fun c hc => by have := (hhd x hx).1 c hc; omega⟩) (by omega) (fun c hc => by have := hpo c hc; omega)) [(I2, oI2), (I, oI), (L0 + 1 + 1 + 1, oS3), (L0 + 1 + 1, oW'), (105, tabObj ps2), (72, tabObj ps)] B0 F30 X0 N30 T0 rfl (by (repeat (first | exact List.forall_mem_nil _ | refine List.forall_mem_cons.mpr ⟨by k_mem, ?_⟩))) ?rdis (by decide) (by decide) ?_
                      case rdis =>
                        intro p hp
                        rw [List.mem_singleton.mp hp]
                        exact List.forall_mem_cons.mpr ⟨r4, List.forall_mem_cons.mpr ⟨q3, List.forall_mem_cons.mpr ⟨by k_ne, List.forall_mem_cons.mpr ⟨by k_ne, List.forall_mem_cons.mpr ⟨by k_ne, List.forall_mem_cons.mpr ⟨by k_ne, List.forall_mem_nil _⟩⟩⟩⟩⟩⟩
                      rintro r W' h31 tk31 ⟨rfl, rfl⟩ F31 N31 -
                      try dsimp only
                      simp only [List.cons_append, List.nil_append] at N31
                      cases hr : returnsL heard part with
                      | true =>
                        (repeat' (first |  (k_unfold; (try dsimp only)) | (k_here; (with_reducible show wpAny _ _ (eval (Expr.Name _ _) (compEnv _ _ _)) _ _ _); k_dflt (first | (refine name_locS rfl rfl rfl (by decide) (by with_reducible assumption) (by assumption) ?_; k_whole) | (refine nameG_BS rfl rfl rfl rfl (by decide) (by k_asm) (by k_asm) (by k_asm) (by k_is) (by boot_fast) (by decide) ?_; k_whole))) | (k_here; (with_reducible show wpAny _ _ (call (Value.type _) [Value.str _ _]) _ _ _); k_dflt (refine list_strN rfl (by k_asm) (by k_asm) ?_ (by rw [sizeLine_eq]; omega)); intro D9 ys9 c9 h9 tk9 F9 N9 l9 m9 hS9; (try k_lt l9); (try k_sweep)) | (k_here; (with_reducible show wpAny _ _ (compareOp CmpOp.Eq (Value.ref _) (Value.ref _)) _ _ _); k_dflt (refine strs_eq (by is_list) (by is_list) (by first | k_asm | exact StrsAre.nil) (by first | exact StrsAre.nil | k_asm) (by ke_room) ?_)) | (k_here; (with_reducible show wpAny _ _ (call (Value.builtin _) [Value.ref _, Value.int 0 _]) _ _ _); k_dflt (refine pop_first (by k_asm) (by k_asm) (by k_upd) (by (rw [sizeLine_eq]; (try have hL9 := PyProof.Rows.StrsAre.length (by assumption)); (try simp only [List.length_cons] at *); omega)) ?_; k_whole); intro h9 F9 N9; (try k_sweep)) | (k_here; (with_reducible show wpAny _ _ (call (Value.builtin "len") [Value.str _ _]) _ _ _); refine len_str (by omega) ?_) | (k_here; (with_reducible show wpAny _ _ (call (Value.builtin "len") [Value.ref _]) _ _ _); k_dflt (refine len_strsA (by is_list) (by assumption) (by ((try simp only [List.length_map]); omega)) ?_; k_whole); (try simp only [List.length_map])) | walk1 | (k_here; (with_reducible show wpAny _ _ (compareOp CmpOp.NotEq (Value.ref _) (Value.ref _)) _ _ _); k_dflt (first | refine strs_ne_nil (by is_list) (by is_list) (by ke_room) ?_ | refine strs_ne_cons (by is_list) (by is_list) (by k_asm) (by ke_room) ?_ | refine strs_ne (by is_list) (by is_list) (by first | k_asm | exact StrsAre.nil) (by first | exact StrsAre.nil | k_asm) (by ke_room) ?_)) | (dsimp only; walk1) | (dsimp only; k_unfold; (try dsimp only)) | fail "no step"))
                        with_reducible rename Fr _ _ _ _ => F32
                        with_reducible rename News _ _ _ _ => N32
                        exact TurnTo.mk (TJ.mk (fr := fun b ms mp => l2Fr S D9 a.lx (ofL text) (ofL body) tx9 tb9 (some (.ref HH)) mg mw mf (some (.int 17 (tk91 + 1))) (some (.bool b)) ms mp) (by rw [e1, bad_true hne5 hr, if_pos rfl])) (l2_full F32) N32 (by (repeat (first | exact List.forall_mem_nil _ | refine List.forall_mem_cons.mpr ⟨by k_mem, ?_⟩))) off2
                      | false =>
                        (repeat' (first |  (k_unfold; (try dsimp only)) | (k_here; (with_reducible show wpAny _ _ (eval (Expr.Name _ _) (compEnv _ _ _)) _ _ _); k_dflt (first | (refine name_locS rfl rfl rfl (by decide) (by with_reducible assumption) (by assumption) ?_; k_whole) | (refine nameG_BS rfl rfl rfl rfl (by decide) (by k_asm) (by k_asm) (by k_asm) (by k_is) (by boot_fast) (by decide) ?_; k_whole))) | (k_here; (with_reducible show wpAny _ _ (call (Value.type _) [Value.str _ _]) _ _ _); k_dflt (refine list_strN rfl (by k_asm) (by k_asm) ?_ (by rw [sizeLine_eq]; omega)); intro D9 ys9 c9 h9 tk9 F9 N9 l9 m9 hS9; (try k_lt l9); (try k_sweep)) | (k_here; (with_reducible show wpAny _ _ (compareOp CmpOp.Eq (Value.ref _) (Value.ref _)) _ _ _); k_dflt (refine strs_eq (by is_list) (by is_list) (by first | k_asm | exact StrsAre.nil) (by first | exact StrsAre.nil | k_asm) (by ke_room) ?_)) | (k_here; (with_reducible show wpAny _ _ (call (Value.builtin _) [Value.ref _, Value.int 0 _]) _ _ _); k_dflt (refine pop_first (by k_asm) (by k_asm) (by k_upd) (by (rw [sizeLine_eq]; (try have hL9 := PyProof.Rows.StrsAre.length (by assumption)); (try simp only [List.length_cons] at *); omega)) ?_; k_whole); intro h9 F9 N9; (try k_sweep)) | (k_here; (with_reducible show wpAny _ _ (call (Value.builtin "len") [Value.str _ _]) _ _ _); refine len_str (by omega) ?_) | (k_here; (with_reducible show wpAny _ _ (call (Value.builtin "len") [Value.ref _]) _ _ _); k_dflt (refine len_strsA (by is_list) (by assumption) (by ((try simp only [List.length_map]); omega)) ?_; k_whole); (try simp only [List.length_map])) | walk1 | (k_here; (with_reducible show wpAny _ _ (compareOp CmpOp.NotEq (Value.ref _) (Value.ref _)) _ _ _); k_dflt (first | refine strs_ne_nil (by is_list) (by is_list) (by ke_room) ?_ | refine strs_ne_cons (by is_list) (by is_list) (by k_asm) (by ke_room) ?_ | refine strs_ne (by is_list) (by is_list) (by first | k_asm | exact StrsAre.nil) (by first | exact StrsAre.nil | k_asm) (by ke_room) ?_)) | (dsimp only; walk1) | (dsimp only; k_unfold; (try dsimp only)) | fail "no step"))
                        exact TurnTo.mk (TJ.mk (fr := fun b ms mp => l2Fr S D9 a.lx (ofL text) (ofL body) tx9 tb9 (some (.ref HH)) mg mw mf (some (.int 17 (tk91 + 1))) (some (.bool b)) ms mp) (by rw [e1, bad_false2 hr, if_neg Bool.false_ne_true])) F31 N31 (by (repeat (first | exact List.forall_mem_nil _ | refine List.forall_mem_cons.mpr ⟨by k_mem, ?_⟩))) off2
                    · with_reducible rename (_ != _) = false => hne5
                      with_reducible rename Fr _ _ _ _ => F30
                      with_reducible rename News _ _ _ _ => N30
                      exact TurnTo.mk (TJ.mk (fr := fun b ms mp => l2Fr S D9 a.lx (ofL text) (ofL body) tx9 tb9 (some (.ref HH)) mg mw mf (some (.int 17 (tk91 + 1))) (some (.bool b)) ms mp) (by rw [e1, bad_false1 hne5, if_neg Bool.false_ne_true])) F30 N30 (by (repeat (first | exact List.forall_mem_nil _ | refine List.forall_mem_cons.mpr ⟨by k_mem, ?_⟩))) off2)

end
end Mine
theorem PySem.Challenge.cw_sc0030_02_holds : PySem.Challenge.rw_sc0030_02.Holds :=
  Mine.law_holds
