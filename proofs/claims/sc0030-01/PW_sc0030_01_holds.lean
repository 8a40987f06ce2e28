import PyProof.Rows.All
import Wide.All
import OpenK.AllK
import Wide.FinOn
import Lean
import PySem.Challenge.RW_sc0030_01
open PySem PySem.W PyProof.Rows PySem.Calls
set_option Elab.async false
set_option maxRecDepth 100000
namespace Mine
set_option maxHeartbeats 8000000 in
open_top hd for PySem.Challenge.rw_sc0030_01
theorem lines_off : True := by
  w_top off
  trivial
section
def Hold (P : Prop) : Prop := P
theorem hold_in {P : Prop} (h : Hold P) : P := h
theorem hold_out {P : Prop} (h : P) : Hold P := h

/-- what a def hands back: the value, what stands of the objects it was given to write, and the new ones -/
def Back (g : Heap) (L' : Addr) (s : Shared) (W : List (Addr × Obj)) (Post : Value → List (Addr × Obj) → Prop) (v : Value) (s' : Shared) : Prop :=
  ∃ m' W' h' tk', s' = { s with heap := h', toks := tk' } ∧ Fr g L' h' m' ∧ News g L' h' W' ∧ (∀ p ∈ W', p.1 ∈ W.map (·.1) ∨ L' < p.1) ∧ Post v W'
theorem Back.mk {g : Heap} {L' : Addr} {s : Shared} {W : List (Addr × Obj)} {Post : Value → List (Addr × Obj) → Prop} {v : Value} {m' : Str → Option Value} {W' : List (Addr × Obj)} {h' : Heap} {tk' : Nat}
    (F : Fr g L' h' m') (N : News g L' h' W') (hf : ∀ p ∈ W', p.1 ∈ W.map (·.1) ∨ L' < p.1) (hp : Post v W') : Back g L' s W Post v { s with heap := h', toks := tk' } := ⟨m', W', h', tk', rfl, F, N, hf, hp⟩

theorem Back.mk' {g : Heap} {L' : Addr} {s : Shared} {W : List (Addr × Obj)} {Post : Value → List (Addr × Obj) → Prop} {v : Value} {m' : Str → Option Value} {W' big : List (Addr × Obj)} {h' : Heap} {tk' : Nat}
    (hp : Post v W') (F : Fr g L' h' m') (N : News g L' h' big) (hs : ∀ p ∈ W', p ∈ big) (hf : ∀ p ∈ W', p.1 ∈ W.map (·.1) ∨ L' < p.1) : Back g L' s W Post v { s with heap := h', toks := tk' } := ⟨m', W', h', tk', rfl, F, fun p hp => N p (hs p hp), hf, hp⟩

/-- the contract of a def: W: the objects that it may write -/
def Spec (prog : Program) (K : World → Frag) (w : World) (f : Addr) (vs : List Value) (d u : Nat) (W : List (Addr × Obj)) (Post : Value → List (Addr × Obj) → Prop) : Prop :=
  ∀ (rest : List (Addr × Obj)) (loose : List Str) (mean : ExcName → Option Value) (mg mb : Str → Option Value) (dp un : Nat) (gd : Option (List Code)) (cn : Str) (cs : Scope) (a : Addr) (ccd : Value) (cl : List (Str × Addr)) (outer : List Env) (A₀ : Around) (base h₀ : Heap) (L : Addr) (m : Str → Option Value) (s : Shared) (Q E : Value → Shared → Prop),
    Below A₀ base outer h₀ → Fr h₀ L s.heap m → (K w).In h₀ → News h₀ L s.heap (W ++ rest) → (∀ p ∈ W, ∀ q ∈ rest, p.1 ≠ q.1) → Top topProg loose mean mg mb h₀ → cs.kind = .function → dp + d < recursionLimit → un + u < cLine →
    (∀ r W' h' tk', Post r W' → Fr h₀ L h' m → News h₀ L h' (W' ++ rest) → (∀ p ∈ W', p.1 ∈ W.map (·.1) ∨ ∀ q ∈ rest, q.1 < p.1) → Q r { s with heap := h', toks := tk' }) →
    codeAny (model prog w) (ktrTop dp un gd cn cs L a ccd cl outer) (.call (.ref f) ⟨vs, []⟩) (fun r s' => match r with | .ok (.ret v) => Q v s' | .ok _ => False | .error e => E e s') s

section
variable {prog : Program} {w : World} {K : World → Frag} {f : Addr} {vs : List Value} {d u : Nat} {W : List (Addr × Obj)} {Post : Value → List (Addr × Obj) → Prop}
  {name qual : Str} {params : Arguments} {body : List Stmt} {scope : Scope} {dV kV doc pm cdv ct oc : Value} {an od : Option Addr} {osl : Array (Option Value)} {binds : List (Str × Value)}

theorem back_end {base h₀ : Heap} {outer : List Env} {A A₀ : Around} {L : Addr} {m : Str → Option Value} {s : Shared} {rest : List (Addr × Obj)} {env : Env} {Q : Value → Shared → Prop}
    (B : Below A₀ base outer h₀) (F : Fr h₀ L s.heap m) (N : News h₀ L s.heap (W ++ rest)) (hdis : ∀ p ∈ W, ∀ q ∈ rest, p.1 ≠ q.1) (hA : A.frames = some (env :: outer)) (hf : env.frame = some L) (hke : env.scope.kind = .function)
    (hret : ∀ r W' h' tk', Post r W' → Fr h₀ L h' m → News h₀ L h' (W' ++ rest) → (∀ p ∈ W', p.1 ∈ W.map (·.1) ∨ ∀ q ∈ rest, q.1 < p.1) → Q r { s with heap := h', toks := tk' })
    {v : Value} {s' : Shared} (hb : Back (hideAll s.heap (W.map (·.1))) s.heap.objs.size s W Post v s') : Q v s' := by
  obtain ⟨m', W', h', tk', rfl, F', N', hf', hp⟩ := hb
  have NW : News h₀ L s.heap W := fun p hp => N p (List.mem_append_left _ hp)
  obtain ⟨FG, BG, st, lv⟩ := groundX (A := A) (env := env) (R := fun r s' => ∀ v, r = .ok (.ret v) → s'.heap = h' → Fr h₀ L h' m ∧ News h₀ L h' W') B F NW hA hf hke
  have key := lv v { s with heap := h', toks := tk' } ⟨_, m', W', F', N', fun a b v e1 e2 => ⟨a, b⟩⟩ v rfl rfl
  refine hret v W' h' tk' hp key.1 (fun p hp => ?_) (fun p hp => (hf' p hp).imp id fun hlt q hq => Nat.lt_trans (Heap.lt_size (N q (List.mem_append_right _ hq)).1) hlt)
  rcases List.mem_append.mp hp with h | h
  · exact key.2 p h
  · have hN := N p (List.mem_append_right _ h)
    refine ⟨F'.keep _ _ (hideAll_get _ hN.1 fun q => ?_), hN.2⟩
    obtain ⟨x, hx, e⟩ := List.mem_map.mp q
    exact hdis x hx p h e

theorem spec_plain (ho : (K w).lookup f = some ⟨oc, od, .func (fnOf name qual params body scope dV kV doc pm an cdv ct), osl⟩) (hcd : codeIn (K w) cdv qual = true) (h1 : 0 < d)
    (hbind : bindArgs (fnOf name qual params body scope dV kV doc pm an cdv ct) ⟨vs, []⟩ = pure binds) (hloc : ∀ y ∈ binds, scope.names.lookup y.1 = some .local)
    (hcell : ∀ x ∈ scope.names, x.2 ≠ .cell) (hco : scope.isCoroutine = false) (hgen : scope.isGenerator = false) (hk : scope.kind = .function)
    (h : ∀ (loose : List Str) (mean : ExcName → Option Value) (mg mb : Str → Option Value) (dp un : Nat) (gd : Option (List Code)) (env : Env) (outer : List Env) (base g : Heap) (L' : Addr) (h₁ : Heap) (s : Shared) (tk : Nat),
      Fr g L' h₁ (fun y => binds.reverse.lookup y) → News g L' h₁ W → Below { handled := none, depth := dp, frames := some (env :: outer), guards := gd, units := un } base (env :: outer) g → (K w).In g → Top topProg loose mean mg mb g → (∀ p ∈ W, p.1 < L') → dp + d < recursionLimit → un + u < cLine →
      wpAny (model prog w) (ktrTop (dp + 1) (un + 3) gd qual scope L' f cdv [] (env :: outer)) (execs body (envOf qual scope L' f cdv))
        (fun fl s' => Back g L' s W Post (match fl with | .ret v => v | _ => .none) s') (fun _ _ => False) { s with heap := h₁, toks := tk }) :
    Spec prog K w f vs d u W Post := by
  intro rest loose mean mg mb dp un gd cn cs a ccd cl outer A₀ base h₀ L m s Q E B F X N hdis T hcs hd hu hret
  have NW : News h₀ L s.heap W := fun p hp => N p (List.mem_append_left _ hp)
  obtain ⟨FG, BG, st, lv⟩ := groundX (A := ktrTop dp un gd cn cs L a ccd cl outer) (env := envX cn cs L a ccd cl) (R := fun _ _ => True) B F NW rfl rfl hcs
  refine codeAny_call_def (fd := fnOf name qual params body scope dV kV doc pm an cdv ct) (body := body) (binds := binds) (by show dp < recursionLimit; omega) ((X.keeps F.keep) _ _ ho) rfl (T.nolimit.keeps F.keep) (codeRec_of (X.keeps F.keep) hcd) rfl (BindsTo.of_eq hbind) hcell hloc (fun h₁ hns hk₁ => ?_) hco hgen hk
  refine wpAny_mono (h loose mean mg mb dp un gd (envX cn cs L a ccd cl) outer base (hideAll s.heap (W.map (·.1))) s.heap.objs.size h₁ s _ ⟨hns, fun b o e => hk₁ b o (of_hideAll _ e), Nat.le_of_eq (hideAll_size _ _)⟩
    (fun p hp => ⟨hk₁ _ _ (NW p hp).1, Nat.ne_of_lt (Heap.lt_size (NW p hp).1), hideAll_none _ (List.mem_map_of_mem hp)⟩) BG (X.keeps fun b o e => st b o e) (T.keeps fun b o e => st b o e) (fun p hp => Heap.lt_size (NW p hp).1) hd hu) (fun fl s' hb => ?_) fun _ _ x => x.elim
  exact back_end (A := ktrTop dp un gd cn cs L a ccd cl outer) (env := envX cn cs L a ccd cl) B F N hdis rfl rfl hcs hret hb
theorem spec_cells (ho : (K w).lookup f = some ⟨oc, od, .func (fnOf name qual params body scope dV kV doc pm an cdv ct), osl⟩) (hcd : codeIn (K w) cdv qual = true) (h1 : 0 < d)
    (hbind : bindArgs (fnOf name qual params body scope dV kV doc pm an cdv ct) ⟨vs, []⟩ = pure binds) (hkind : (binds.all fun y => scope.names.lookup y.1 == some .local || scope.names.lookup y.1 == some .cell) = true)
    (hnd : ((cellsFrom 0 scope.names []).map (·.1)).Nodup) (hco : scope.isCoroutine = false) (hgen : scope.isGenerator = false) (hk : scope.kind = .function)
    (h : ∀ (loose : List Str) (mean : ExcName → Option Value) (mg mb : Str → Option Value) (dp un : Nat) (gd : Option (List Code)) (env : Env) (outer : List Env) (base g : Heap) (L' : Addr) (h₁ : Heap) (s : Shared) (tk : Nat) (cells : List (Addr × Obj)),
      Fr g L' h₁ (bindL (envOfC qual scope L' f cdv).kindOf binds fun _ => none) → News g L' h₁ (cells ++ W) → CellsAre (bindC (envOfC qual scope L' f cdv).kindOf binds fun _ => none) (cellsFrom (L' + 1) scope.names []) cells →
      Below { handled := none, depth := dp, frames := some (env :: outer), guards := gd, units := un } base (env :: outer) g → (K w).In g → Top topProg loose mean mg mb g → (∀ p ∈ W, p.1 < L') → dp + d < recursionLimit → un + u < cLine →
      wpAny (model prog w) (ktrTop (dp + 1) (un + 3) gd qual scope L' f cdv (cellsFrom (L' + 1) scope.names []) (env :: outer)) (execs body (envOfC qual scope L' f cdv))
        (fun fl s' => Back g L' s W Post (match fl with | .ret v => v | _ => .none) s') (fun _ _ => False) { s with heap := h₁, toks := tk }) :
    Spec prog K w f vs d u W Post := by
  intro rest loose mean mg mb dp un gd cn cs a ccd cl outer A₀ base h₀ L m s Q E B F X N hdis T hcs hd hu hret
  have NW : News h₀ L s.heap W := fun p hp => N p (List.mem_append_left _ hp)
  obtain ⟨FG, BG, st, lv⟩ := groundX (A := ktrTop dp un gd cn cs L a ccd cl outer) (env := envX cn cs L a ccd cl) (R := fun _ _ => True) B F NW rfl rfl hcs
  refine codeAny_call_function (by show dp < recursionLimit; omega) ((X.keeps F.keep) _ _ ho) rfl hco hgen rfl (codeRec_of (X.keeps F.keep) hcd) (BindsTo.of_eq hbind _ _ _ _ ?_)
  refine wpAny_newFunctionEnv_cells hk (kindsX hkind _) fun env' he s' x => ?_
  subst he
  refine ⟨(T.nolimit.keeps F.keep).keeps x.toInCall.keep, codeAny_func ?_⟩
  obtain ⟨h₁, tk, rfl, _⟩ := x.done
  have hk₁ := x.toInCall.keep
  obtain ⟨cells, NC, Y⟩ := Cl.news (h₀ := s.heap) (Nat.le_refl _) fun n c hm => ⟨x.cell n c (lookup_of_mem_nodup (cellsFrom_names scope.names 0 (s.heap.objs.size + 1) [] [] rfl ▸ hnd) hm), x.above n c hm⟩
  refine wpAny_mono (h loose mean mg mb dp un gd (envX cn cs L a ccd cl) outer base (hideAll s.heap (W.map (·.1))) s.heap.objs.size h₁ s tk cells ⟨x.toInCall.ns, fun b o e => hk₁ b o (of_hideAll _ e), Nat.le_of_eq (hideAll_size _ _)⟩ (fun p hp => ?_) Y
    BG (X.keeps fun b o e => st b o e) (T.keeps fun b o e => st b o e) (fun p hp => Heap.lt_size (NW p hp).1) hd hu) (fun fl s' hb => ?_) fun _ _ x => x.elim
  · rcases List.mem_append.mp hp with hp | hp
    · refine ⟨(NC p hp).1, (NC p hp).2.1, ?_⟩
      cases q : (hideAll s.heap (W.map (·.1))).get? p.1 with
      | none => rfl
      | some o => have := of_hideAll _ q; rw [(NC p hp).2.2] at this; cases this
    · exact ⟨hk₁ _ _ (NW p hp).1, Nat.ne_of_lt (Heap.lt_size (NW p hp).1), hideAll_none _ (List.mem_map_of_mem hp)⟩
  · exact back_end (A := ktrTop dp un gd cn cs L a ccd cl outer) (env := envX cn cs L a ccd cl) B F N hdis rfl rfl hcs hret hb
theorem spec_lam {el : Expr} {pml ctl : Value} {c' : Addr} {cll : List (Str × Addr)} {oc' : Obj} {cvs : Array Value} {ct' : Tok}
    (ho : (f, kla_obj name qual params el scope cll pml c' ctl) ∈ W) (hoc : (c', oc') ∈ W) (hdc : oc'.data = .fields cvs) (hcv : cvs[1]? = some (.str qual ct')) (h1 : 0 < d)
    (hbind : bindArgs (kla_fn name qual params el scope cll pml (.ref c') ctl) ⟨vs, []⟩ = pure binds) (hloc : ∀ y ∈ binds, scope.names.lookup y.1 = some .local)
    (hcell : ∀ x ∈ scope.names, x.2 ≠ .cell) (hco : scope.isCoroutine = false) (hgen : scope.isGenerator = false) (hk : scope.kind = .function)
    (h : ∀ (loose : List Str) (mean : ExcName → Option Value) (mg mb : Str → Option Value) (dp un : Nat) (gd : Option (List Code)) (env : Env) (outer : List Env) (base g : Heap) (L' : Addr) (h₁ : Heap) (s : Shared) (tk : Nat),
      Fr g L' h₁ (fun y => binds.reverse.lookup y) → News g L' h₁ W → Below { handled := none, depth := dp, frames := some (env :: outer), guards := gd, units := un } base (env :: outer) g → (K w).In g → Top topProg loose mean mg mb g → (∀ p ∈ W, p.1 < L') → dp + d < recursionLimit → un + u < cLine →
      wpAny (model prog w) (ktrTop (dp + 1) (un + 3) gd qual scope L' f (.ref c') cll (env :: outer)) (eval el (envX qual scope L' f (.ref c') cll))
        (fun v s' => Back g L' s W Post v s') (fun _ _ => False) { s with heap := h₁, toks := tk }) :
    Spec prog K w f vs d u W Post := by
  intro rest loose mean mg mb dp un gd cn cs a ccd cl outer A₀ base h₀ L m s Q E B F X N hdis T hcs hd hu hret
  have NW : News h₀ L s.heap W := fun p hp => N p (List.mem_append_left _ hp)
  obtain ⟨FG, BG, st, lv⟩ := groundX (A := ktrTop dp un gd cn cs L a ccd cl outer) (env := envX cn cs L a ccd cl) (R := fun _ _ => True) B F NW rfl rfl hcs
  refine kla_callFunE (by show dp < recursionLimit; omega) (NW _ ho).1 rfl hco hgen rfl (codeRec_news NW hoc hdc hcv) ?_
  rw [hbind]
  refine wpAny_pure (wpAny_newFunctionEnv hcell hloc (fun h₁ hns hsb => ⟨((T.nolimit).keeps F.keep).fresh _ hsb, ?_⟩) hk)
  have hk₁ : ∀ b o, s.heap.get? b = some o → h₁.get? b = some o := fun b o e => hsb.extBut b o (Nat.ne_of_lt (Heap.lt_size e)) (Heap.get?_push_of_some _ e)
  show codeAny _ _ (.expr el (envX qual scope s.heap.objs.size f (.ref c') cll)) _ _
  refine kla_codeExpr (wpAny_mono (h loose mean mg mb dp un gd (envX cn cs L a ccd cl) outer base (hideAll s.heap (W.map (·.1))) s.heap.objs.size h₁ s _ ⟨hns, fun b o e => hk₁ b o (of_hideAll _ e), Nat.le_of_eq (hideAll_size _ _)⟩
    (fun p hp => ⟨hk₁ _ _ (NW p hp).1, Nat.ne_of_lt (Heap.lt_size (NW p hp).1), hideAll_none _ (List.mem_map_of_mem hp)⟩) BG (X.keeps fun b o e => st b o e) (T.keeps fun b o e => st b o e) (fun p hp => Heap.lt_size (NW p hp).1) hd hu) (fun v s' hb => ?_) fun _ _ x => x.elim)
  exact back_end (A := ktrTop dp un gd cn cs L a ccd cl outer) (env := envX cn cs L a ccd cl) B F N hdis rfl rfl hcs hret hb
end

section
variable {prog : Program} {w : World} {A : Around} {E : Value → Shared → Prop} {s : Shared} {h₀ : Heap} {L : Addr} {m : Str → Option Value} {news : List (Addr × Obj)} {Q : Value → Shared → Prop}
theorem news_to {h h' : Heap} (_F : Fr h₀ L h m) (N : News h₀ L h news) (hk : ∀ b o, h.get? b = some o → h'.get? b = some o) {D : Addr} {o : Obj} (hD : h'.get? D = some o) (hn : D ≠ L) (h0 : h₀.get? D = none) : News h₀ L h' ((D, o) :: news) := fun p hp => by
  rcases List.mem_cons.mp hp with rfl | hp
  · exact ⟨hD, hn, h0⟩
  · exact ⟨hk _ _ (N p hp).1, (N p hp).2⟩
theorem list_strN {x : Str} {t : Tok} (hh : A.handled = none) (F : Fr h₀ L s.heap m) (N : News h₀ L s.heap news)
    (hQ : ∀ D (ys : List Value) c h' tk, Fr h₀ L h' m → News h₀ L h' ((D, PySem.W.listOf ys.toArray c) :: news) → (∀ p ∈ news, p.1 < D) → L < D → StrsAre ys (signs x) → Q (.ref D) { s with heap := h', toks := tk }) (hsz : x.length ≤ sizeLine) :
    wpAny (model prog w) A (call (.type "list") [.str x t]) Q E s := by
  refine call_list_str hh x t (hn := hsz) fun h' tk acc' c' hk hS' hacc => ?_
  have hlt : L < s.heap.objs.size := F.ns.lt
  refine hQ s.heap.objs.size acc'.toList c' h' tk (F.keeps hk) (news_to F N hk (by simpa using hS') (Nat.ne_of_gt hlt) ?_) (fun p hp => Heap.lt_size (N p hp).1) hlt ?_
  · cases e : h₀.get? s.heap.objs.size with
    | none => rfl
    | some o => exact absurd (Heap.lt_size (F.keep _ _ e)) (Nat.lt_irrefl _)
  · refine StrsAre.ofCarried (carriedAll_of_get _ _ (by simp [hacc.1, signs]) fun j v hv => ?_)
    obtain ⟨c, u, hc, rfl⟩ := hacc.2 j v (by simpa using hv)
    exact ⟨.str ⟨#[c]⟩, by simp [signs, hc], .str _ _⟩
end
theorem strs_get {xs : List Value} {ns : List Str} (h : StrsAre xs ns) : ∀ (j : Nat) (hj : j < xs.length), ∃ t, xs[j] = .str (ns.getD j Str.empty) t := by
  induction h with
  | nil => intro j hj; exact absurd hj (Nat.not_lt_zero _)
  | cons y t _ ih =>
    intro j hj
    cases j with
    | zero => exact ⟨t, rfl⟩
    | succ j => exact ih j (by simpa using hj)
theorem all_getD_eq : ∀ (ns ms : List Str), ns.length = ms.length → ((List.range ns.length).all fun j => ns.getD j Str.empty == ms.getD j Str.empty) = decide (ns = ms) := by
  intro ns ms hl
  rw [Bool.eq_iff_iff]
  simp only [List.all_eq_true, List.mem_range, beq_iff_eq, decide_eq_true_eq]
  constructor
  · intro h
    refine List.ext_getElem hl fun i h1 h2 => ?_
    have := h i h1
    simpa [List.getD_eq_getElem?_getD, h1, h2] using this
  · rintro rfl i _; rfl
section
variable {prog : Program} {w : World} {A : Around} {E : Value → Shared → Prop} {s : Shared} {a b : Addr} {xs ys : List Value} {ns ms : List Str} {Q : Value → Shared → Prop}
theorem strs_items {A' : Around} (hi : StrsAre xs ns) (hj : StrsAre ys ms) : ∀ j (h1 : j < xs.toArray.size) (h2 : j < ys.toArray.size), SeqAt.EqAt A' s xs.toArray[j] ys.toArray[j] (ns.getD j Str.empty == ms.getD j Str.empty) := fun j h1 h2 => by
  obtain ⟨t, e⟩ := strs_get hi j (by simpa using h1)
  obtain ⟨u, e'⟩ := strs_get hj j (by simpa using h2)
  simp only [List.getElem_toArray, e, e']
  exact SeqAt.EqAt.str_str _ _ _ _
theorem strs_eq (ha : s.heap.IsList a xs.toArray) (hb : s.heap.IsList b ys.toArray) (hi : StrsAre xs ns) (hj : StrsAre ys ms) (hu : A.units + 64 < cLine) (h : Q (.bool (decide (ns = ms))) s) :
    wpAny (model prog w) A (compareOp .Eq (.ref a) (.ref b)) Q E s := by
  have hu' : A.units < cLine := by omega
  have l1 := hi.length
  have l2 := hj.length
  by_cases hl : ns.length = ms.length
  · refine SeqAt.eq_listAt ha hb (by simp; omega) hu' (strs_items hi hj) ?_
    rw [List.size_toArray, l1, all_getD_eq _ _ hl]; exact h
  · refine SeqAt.eq_list_lengthsAt ha hb (by simp; omega) hu' ?_
    rwa [decide_eq_false (fun e => hl (by rw [e]))] at h
theorem strs_ne (ha : s.heap.IsList a xs.toArray) (hb : s.heap.IsList b ys.toArray) (hi : StrsAre xs ns) (hj : StrsAre ys ms) (hu : A.units + 64 < cLine) (h : Q (.bool (!decide (ns = ms))) s) :
    wpAny (model prog w) A (compareOp .NotEq (.ref a) (.ref b)) Q E s := by
  have hu' : A.units < cLine := by omega
  have l1 := hi.length
  have l2 := hj.length
  by_cases hl : ns.length = ms.length
  · refine SeqAt.RcNeAt.lists ha hb (by simp; omega) hu' (strs_items hi hj) prog w E Q ?_
    rw [List.size_toArray, l1, all_getD_eq _ _ hl]; exact h
  · refine SeqAt.RcNeAt.lists_lengths ha hb (by simp; omega) hu' prog w E Q ?_
    rwa [decide_eq_false (fun e => hl (by rw [e]))] at h
end
section
variable {prog : Program} {w : World} {A : Around} {E : Value → Shared → Prop} {s : Shared} {a b : Addr} {xs ys : List Value} {ns ms : List Str} {Q : Value → Shared → Prop}
theorem strs_ne_nil (ha : s.heap.IsList a ([] : List Value).toArray) (hb : s.heap.IsList b ([] : List Value).toArray) (hu : A.units + 64 < cLine) (h : Q (.bool false) s) :
    wpAny (model prog w) A (compareOp .NotEq (.ref a) (.ref b)) Q E s := strs_ne ha hb .nil .nil hu h
theorem strs_ne_cons {x : Value} (ha : s.heap.IsList a (x :: xs).toArray) (hb : s.heap.IsList b ([] : List Value).toArray) (hi : StrsAre (x :: xs) ns) (hu : A.units + 64 < cLine) (h : Q (.bool true) s) :
    wpAny (model prog w) A (compareOp .NotEq (.ref a) (.ref b)) Q E s := by
  refine strs_ne ha hb hi .nil hu ?_
  cases hi; exact h
end
section
variable {prog : Program} {w : World} {A : Around} {E : Value → Shared → Prop} {s : Shared} {h₀ : Heap} {L D : Addr} {m : Str → Option Value} {news news' : List (Addr × Obj)}
theorem pop_first {u : Tok} {q : List Value} {y : Value} {n : Nat} {Q : Value → Shared → Prop} (F : Fr h₀ L s.heap m) (N : News h₀ L s.heap news) (U : Upd D (PySem.W.listOf (y :: q).toArray n) (PySem.W.listOf q.toArray (n + 1)) news news')
    (hz : q.length + 1 ≤ sizeLine) (h : ∀ h', Fr h₀ L h' m → News h₀ L h' news' → Q y { s with heap := h' }) : wpAny (model prog w) A (call (.builtin "list.pop") [.ref D, .int 0 u]) Q E s :=
  kl_popAt (k := 0) (p := []) (q := q) (y := y) F N rfl (by simp [seqIndex?]) rfl U (by simpa using hz) h
end
section
variable {prog : Program} {w : World} {K : World → Frag} {f : Addr} {vs : List Value} {d u : Nat} {W : List (Addr × Obj)} {Post : Value → List (Addr × Obj) → Prop}
theorem Spec.use (S : Spec prog K w f vs d u W Post) {big : List (Addr × Obj)} (rest : List (Addr × Obj)) {loose : List Str} {mean : ExcName → Option Value} {mg mb : Str → Option Value} {dp un : Nat} {gd : Option (List Code)} {cn : Str} {cs : Scope} {a : Addr} {ccd : Value} {cl : List (Str × Addr)} {outer : List Env} {A₀ : Around} {base h₀ : Heap} {L : Addr} {m : Str → Option Value} {s : Shared} {Q E : Value → Shared → Prop}
    (B : Below A₀ base outer h₀) (F : Fr h₀ L s.heap m) (X : (K w).In h₀) (N : News h₀ L s.heap big) (T : Top topProg loose mean mg mb h₀) (hk : cs.kind = .function) (hsub : ∀ p ∈ W ++ rest, p ∈ big) (hdis : ∀ p ∈ W, ∀ q ∈ rest, p.1 ≠ q.1) (hd : dp + d < recursionLimit) (hu : un + u < cLine)
    (hret : ∀ r W' h' tk', Post r W' → Fr h₀ L h' m → News h₀ L h' (W' ++ rest) → (∀ p ∈ W', p.1 ∈ W.map (·.1) ∨ ∀ q ∈ rest, q.1 < p.1) → Q r { s with heap := h', toks := tk' }) :
    wpAny (model prog w) (ktrTop dp un gd cn cs L a ccd cl outer) (call (.ref f) vs) Q E s :=
  wpAny_call (S rest loose mean mg mb dp un gd cn cs a ccd cl outer A₀ base h₀ L m s Q E B F X (fun p hp => N p (hsub p hp)) hdis T hk hd hu hret)
/-- a def that writes nothing of the caller's and leaves nothing behind -/
theorem Spec.pure {R : Value → Prop} (S : Spec prog K w f vs d u [] (fun r W' => R r ∧ W' = [])) {big : List (Addr × Obj)} {loose : List Str} {mean : ExcName → Option Value} {mg mb : Str → Option Value} {dp un : Nat} {gd : Option (List Code)} {cn : Str} {cs : Scope} {a : Addr} {ccd : Value} {cl : List (Str × Addr)} {outer : List Env} {A₀ : Around} {base h₀ : Heap} {L : Addr} {m : Str → Option Value} {s : Shared} {Q E : Value → Shared → Prop}
    (B : Below A₀ base outer h₀) (F : Fr h₀ L s.heap m) (X : (K w).In h₀) (N : News h₀ L s.heap big) (T : Top topProg loose mean mg mb h₀) (hk : cs.kind = .function) (hd : dp + d < recursionLimit) (hu : un + u < cLine)
    (hret : ∀ r h' tk', R r → Fr h₀ L h' m → News h₀ L h' big → Q r { s with heap := h', toks := tk' }) :
    wpAny (model prog w) (ktrTop dp un gd cn cs L a ccd cl outer) (call (.ref f) vs) Q E s :=
  Spec.use S big B F X N T hk (fun _ hp => hp) (fun _ hp => nomatch hp) hd hu fun r W' h' tk' hp F' N' _ => by
    obtain ⟨hr, rfl⟩ := hp
    exact hret r h' tk' hr F' N'
end

theorem fr_to {h₀ h : Heap} {L : Addr} {m m' : Str → Option Value} (F : Fr h₀ L h m) (e : ∀ y, m y = m' y) : Fr h₀ L h m' := (funext e : m = m') ▸ F
/-- a loop's turn is done: the word holds again, its measure lower -/
def Again (I : Nat → Shared → Prop) (n : Nat) (s : Shared) : Prop := ∃ m, m < n ∧ I m s
section
variable {prog : Program} {w : World} {A : Around} {s : Shared} {env : Env}
theorem for_inv {it : Value} {x : Str} {px : Pos} {body : List Stmt} {Q : Flow → Shared → Prop} {R : Result → Shared → Prop} (I : Nat → Shared → Prop) (hx : env.kindOf x = some .local)
    (hp : (env.scope.kind == .class || (env.scope.kind == .module && env.locals != env.globals)) = false) (hR : ∀ f s, Q f s → R (.ok f) s)
    (turn : ∀ n s, I n s → wpAny (model prog w) A (pyNext it) (fun r s₁ => match r with
      | none => Q .next s₁
      | some v => wpAny (model prog w) A (storeName env x v) (fun _ s₂ => wpAny (model prog w) A (execs body env) (fun f s₃ => match f with
          | .next => Again I n s₃
          | .cont => Again I n s₃
          | .brk => Q .next s₃
          | .ret v => Q (.ret v) s₃) (fun _ _ => False) s₂) (fun _ _ => False) s₁) (fun _ _ => False) s)
    (n : Nat) (h : I n s) : codeAny (model prog w) A (.forLoop (.Name x px) it body [] env) R s := by
  refine codeAny_forLoop I (fun n s hI => wpAny_noRaise (wpAny_mono (turn n s hI) (fun r s₁ h₁ => ?_) fun _ _ x => x)) n h
  cases r with
  | none => exact wpAny_execs_nil (hR _ _ h₁)
  | some v =>
    refine wpAny_noRaise (wpAny_assign_Name (wpAny_mono h₁ (fun _ s₂ h₂ => wpAny_noRaise (wpAny_mono h₂ (fun f s₃ h₃ => ?_) fun _ _ x => x)) fun _ _ x => x))
    cases f with
    | next => exact h₃
    | cont => exact h₃
    | brk => exact hR _ _ h₃
    | ret v => exact hR _ _ h₃
theorem while_inv {test : Expr} {body : List Stmt} {Q : Flow → Shared → Prop} {R : Result → Shared → Prop} (I : Nat → Shared → Prop) (hR : ∀ f s, Q f s → R (.ok f) s)
    (turn : ∀ n s, I n s → wpAny (model prog w) A (isTrue test env (eval test env)) (fun b s₂ =>
        if b then wpAny (model prog w) A (execs body env) (fun f s₃ => match f with
            | .next => Again I n s₃
            | .cont => Again I n s₃
            | .brk => Q .next s₃
            | .ret v => Q (.ret v) s₃) (fun _ _ => False) s₂
        else Q .next s₂) (fun _ _ => False) s)
    (n : Nat) (h : I n s) : codeAny (model prog w) A (.whileLoop test body [] env) R s := by
  refine codeAny_whileLoop I (fun n s hI => wpAny_noRaise (wpAny_mono (turn n s hI) (fun b s₂ h₂ => ?_) fun _ _ x => x)) n h
  cases b with
  | true =>
    refine wpAny_noRaise (wpAny_mono h₂ (fun f s₃ h₃ => ?_) fun _ _ x => x)
    cases f with
    | next => exact h₃
    | cont => exact h₃
    | brk => exact hR _ _ h₃
    | ret v => exact hR _ _ h₃
  | false => exact wpAny_execs_nil (hR _ _ h₂)
end
section
variable {M : Model} {A : Around} {E : Value → Shared → Prop} {s : Shared} {env : Env} {x : Str} {pos : Pos} {v : Value} {Q : Value → Shared → Prop}
theorem nameG_B {h₀ : Heap} {L : Addr} {m mg mb : Str → Option Value} {K : Frag} {p : Program} {loose : List Str} (F : Fr h₀ L s.heap m) (X : K.In h₀) (T : TopRead p loose mg mb h₀) (e : nsIn K mainGlobals x = some none) (hv : bootBuiltins x = some v) (hn : x ≠ "__name__") (h : Q v s)
    (hg : env.globals = mainGlobals) (hb : env.builtins = builtinsNs) (hk : env.scope.kind = .function) (hx : env.kindOf x = some .globalImplicit) (hd : (x == ("__debug__" : Str)) = false) : wpAny M A (eval (.Name x pos) env) Q E s :=
  Name_function_global hk hx (loadGlobal_builtin (env := env) (by rw [hg]; exact T.g.keeps F.keep) (mg_none_of X T.g e) (by rw [hb]; exact T.b.keeps F.keep) ((T.builtins x hn).trans hv) h) hd
theorem name_loc {C : Addr} {m : Str → Option Value} (hn : s.heap.Ns C m) (hm : m x = some v) (h : Q v s) (hC : env.locals = C) (hk : env.scope.kind = .function) (hx : env.kindOf x = some .local) (hd : (x == ("__debug__" : Str)) = false) : wpAny M A (eval (.Name x pos) env) Q E s := by
  subst hC; exact wpAny_Name (wpAny_loadName_local hk hx hn hm h) hd
theorem name_locS {C : Addr} {m : Str → Option Value} (hC : env.locals = C) (hk : env.scope.kind = .function) (hx : env.kindOf x = some .local) (hd : (x == ("__debug__" : Str)) = false) (hn : s.heap.Ns C m) (hm : m x = some v) (h : Q v s) : wpAny M A (eval (.Name x pos) env) Q E s := name_loc hn hm h hC hk hx hd
theorem nameG_BS {h₀ : Heap} {L : Addr} {m mg mb : Str → Option Value} {K : Frag} {p : Program} {loose : List Str} (hg : env.globals = mainGlobals) (hb : env.builtins = builtinsNs) (hk : env.scope.kind = .function) (hx : env.kindOf x = some .globalImplicit) (hd : (x == ("__debug__" : Str)) = false) (F : Fr h₀ L s.heap m) (X : K.In h₀) (T : TopRead p loose mg mb h₀) (e : nsIn K mainGlobals x = some none) (hv : bootBuiltins x = some v) (hn : x ≠ "__name__") (h : Q v s) : wpAny M A (eval (.Name x pos) env) Q E s := nameG_B F X T e hv hn h hg hb hk hx hd
end

end
local macro_rules | `(tactic| k_room) => `(tactic| ktr_room)
local macro_rules | `(tactic| ke_room) => `(tactic| (show _ < _; ktr_units))
local macro_rules | `(tactic| k_in) => `(tactic| first | k_in_fast | exact Frag.In.keeps (by with_reducible assumption) (Fr.keep (by with_reducible assumption)))
local macro_rules | `(tactic| k_ne) => `(tactic| first | (refine neN ?_; (try dsimp only); first | (with_reducible assumption) | (refine Ne.symm ?_; with_reducible assumption) | (refine Nat.ne_of_lt ?_; with_reducible assumption) | (refine Nat.ne_of_gt ?_; with_reducible assumption) | omega))
local macro_rules | `(tactic| walk_at "execs cons") => `(tactic| k_fold)
section

def Reader (w : World) (fr : Addr) (sl : Addr) (RO : List (Addr × Obj)) : Prop :=
  ∀ (vs : List Value) (us : List Str) (c : Nat) (t : Tok), StrsAre vs us → us.length ≤ 1000 → Spec PySem.Challenge.rw_sc0030_01.row.prog (fun w => Mine.hd.heap_39 w.params) w fr [.int 1 t] 2 90 ((sl, PySem.W.listOf vs.toArray c) :: RO) (fun r W' => ∃ c2, match vs with
    | [] => (∃ t, r = .str "" t) ∧ W' = (sl, PySem.W.listOf #[] c2) :: RO
    | v :: vs' => r = v ∧ W' = (sl, PySem.W.listOf vs'.toArray c2) :: RO)
set_option genInjectivity false in
set_option genSizeOf false in
structure LexAt where
  pb : Nat
  lx : Nat
  dlx : Nat
  fr : Nat
  cd : Nat
  pb0 : Nat
  st : Nat
  dst : Nat
  sl : Nat
  cell : Nat
  k1 : Tok
  k2 : Tok
  k3 : Tok
  k4 : Tok
  t3 : Tok
  j1 : Tok
  j2 : Tok
  j3 : Tok
  j4 : Tok
  j5 : Tok
  u1 : Tok
  u3 : Tok
  rf : FuncData
  oc : Obj
  co : Obj
abbrev lexDict (w : World) (a : LexAt) (n : Int) (t : Tok) : Obj := dictOf [⟨PyData.keyHash w.params (Str.ofString "lineno"), .str (Str.ofString "lineno") a.k1, .int n t⟩, ⟨PyData.keyHash w.params (Str.ofString "instream"), .str (Str.ofString "instream") a.k2, .ref a.st⟩,
  ⟨PyData.keyHash w.params (Str.ofString "whitespace"), .str (Str.ofString "whitespace") a.k3, .str (Str.ofString "\n\t\r ") a.t3⟩, ⟨PyData.keyHash w.params (Str.ofString "pushback"), .str (Str.ofString "pushback") a.k4, .ref a.pb⟩] 4
abbrev strDict (w : World) (a : LexAt) : Obj := dictOf [⟨PyData.keyHash w.params (Str.ofString "lineno"), .str (Str.ofString "lineno") a.j1, .int 1 a.u1⟩, ⟨PyData.keyHash w.params (Str.ofString "instream"), .str (Str.ofString "instream") a.j2, .none⟩,
  ⟨PyData.keyHash w.params (Str.ofString "whitespace"), .str (Str.ofString "whitespace") a.j3, .str (Str.ofString "\n\t\r ") a.u3⟩, ⟨PyData.keyHash w.params (Str.ofString "pushback"), .str (Str.ofString "pushback") a.j4, .ref a.pb0⟩, ⟨PyData.keyHash w.params (Str.ofString "read"), .str (Str.ofString "read") a.j5, .ref a.fr⟩] 5
/-- the lexer's objects: n the line, q the waiting words, cs the signs not yet read -/
abbrev LexW (w : World) (a : LexAt) (q : List Value) (cq : Nat) (n : Int) (tn : Tok) (cs : List Value) (cc : Nat) : List (Addr × Obj) :=
  [(a.pb, PySem.W.listOf q.toArray cq), (a.lx, instObj 66 a.dlx), (a.dlx, lexDict w a n tn), (a.fr, ({ cls := .type "function", data := .func a.rf } : Obj)), (a.cd, a.oc), (a.pb0, PySem.W.listOf #[] 0), (a.st, instObj 66 a.dst), (a.dst, strDict w a), (a.sl, PySem.W.listOf cs.toArray cc), (a.cell, a.co)]
def LexOk (w : World) (a : LexAt) : Prop :=
  (a.cell < a.sl ∧ a.sl < a.dst ∧ a.dst < a.st ∧ a.st < a.pb0 ∧ a.pb0 < a.cd ∧ a.cd < a.fr ∧ a.fr < a.dlx ∧ a.dlx < a.lx ∧ a.lx < a.pb) ∧ Reader w a.fr a.sl [(a.fr, ({ cls := .type "function", data := .func a.rf } : Obj)), (a.cd, a.oc), (a.cell, a.co)]

theorem lex_in {w : World} {a : LexAt} (ok : LexOk w a) {q : List Value} {cq : Nat} {n : Int} {tn : Tok} {cs : List Value} {cc : Nat} : ∀ p ∈ LexW w a q cq n tn cs cc, @LE.le Nat _ a.cell p.1 ∧ @LE.le Nat _ p.1 a.pb := by
  obtain ⟨⟨o1, o2, o3, o4, o5, o6, o7, o8, o9⟩, -⟩ := ok
  have u1 := Nat.le_of_lt o1
  have u2 := Nat.le_trans u1 (Nat.le_of_lt o2)
  have u3 := Nat.le_trans u2 (Nat.le_of_lt o3)
  have u4 := Nat.le_trans u3 (Nat.le_of_lt o4)
  have u5 := Nat.le_trans u4 (Nat.le_of_lt o5)
  have u6 := Nat.le_trans u5 (Nat.le_of_lt o6)
  have u7 := Nat.le_trans u6 (Nat.le_of_lt o7)
  have u8 := Nat.le_trans u7 (Nat.le_of_lt o8)
  have d9 := Nat.le_of_lt o9
  have d8 := Nat.le_trans (Nat.le_of_lt o8) d9
  have d7 := Nat.le_trans (Nat.le_of_lt o7) d8
  have d6 := Nat.le_trans (Nat.le_of_lt o6) d7
  have d5 := Nat.le_trans (Nat.le_of_lt o5) d6
  have d4 := Nat.le_trans (Nat.le_of_lt o4) d5
  have d3 := Nat.le_trans (Nat.le_of_lt o3) d4
  have d2 := Nat.le_trans (Nat.le_of_lt o2) d3
  exact List.forall_mem_cons.mpr ⟨⟨Nat.le_trans u8 d9, Nat.le_refl _⟩, List.forall_mem_cons.mpr ⟨⟨u8, d9⟩, List.forall_mem_cons.mpr ⟨⟨u7, d8⟩, List.forall_mem_cons.mpr ⟨⟨u6, d7⟩, List.forall_mem_cons.mpr ⟨⟨u5, d6⟩, List.forall_mem_cons.mpr ⟨⟨u4, d5⟩, List.forall_mem_cons.mpr ⟨⟨u3, d4⟩, List.forall_mem_cons.mpr ⟨⟨u2, d3⟩, List.forall_mem_cons.mpr ⟨⟨u1, d2⟩, List.forall_mem_cons.mpr ⟨⟨Nat.le_refl _, Nat.le_trans u1 d2⟩, List.forall_mem_nil _⟩⟩⟩⟩⟩⟩⟩⟩⟩⟩
/-- the lexer's objects lie where they lay -/
theorem lex_same {w : World} {a : LexAt} {q q' : List Value} {cq cq' : Nat} {n n' : Int} {tn tn' : Tok} {cs cs' : List Value} {cc cc' : Nat} {L : Addr} : ∀ p ∈ LexW w a q' cq' n' tn' cs' cc', p.1 ∈ (LexW w a q cq n tn cs cc).map (·.1) ∨ L < p.1 := fun _ hp => .inl (List.mem_map_of_mem (f := (·.1)) hp)
theorem lex_dis {w : World} {a : LexAt} (ok : LexOk w a) {q : List Value} {cq : Nat} {n : Int} {tn : Tok} {cs : List Value} {cc : Nat} {rest : List (Addr × Obj)} (h : ∀ r ∈ rest, @LT.lt Nat _ r.1 a.cell ∨ @LT.lt Nat _ a.pb r.1) : ∀ p ∈ LexW w a q cq n tn cs cc, ∀ r ∈ rest, p.1 ≠ r.1 := fun p hp r hr e => by
  obtain ⟨h1, h2⟩ := lex_in ok p hp
  rcases h r hr with h3 | h3 <;> rw [e] at h1 h2
  · exact Nat.lt_irrefl _ (Nat.lt_of_le_of_lt h1 h3)
  · exact Nat.lt_irrefl _ (Nat.lt_of_le_of_lt h2 h3)

def LexerPost (w : World) (x : Str) (r : Value) (W' : List (Addr × Obj)) : Prop := ∀ Z : Value → List (Addr × Obj) → Prop, (∀ a cq tn ys cc ps, StrsAre ys (signs x) → LexOk w a → @LT.lt Nat _ 72 a.cell → Z (.ref a.lx) (LexW w a [] cq 1 tn ys cc ++ [(72, tabObj ps)])) → Z r W'
theorem lexer_all {w : World} {x : Str} {Z : Value → List (Addr × Obj) → Heap → Nat → Prop} (d : ∀ h' tk' a cq tn ys cc ps, StrsAre ys (signs x) → LexOk w a → @LT.lt Nat _ 72 a.cell → Z (.ref a.lx) (LexW w a [] cq 1 tn ys cc ++ [(72, tabObj ps)]) h' tk') : ∀ r W' h' tk', LexerPost w x r W' → Z r W' h' tk' := fun _ _ h' tk' hp => hp (fun r W' => Z r W' h' tk') (d h' tk')
theorem LexerPost.mk {w : World} {x : Str} {a : LexAt} {cq tn cc : Nat} {ys : List Value} {ps : Array Value} (h1 : StrsAre ys (signs x)) (h2 : LexOk w a) (h3 : @LT.lt Nat _ 72 a.cell) : LexerPost w x (.ref a.lx) (LexW w a [] cq 1 tn ys cc ++ [(72, tabObj ps)]) := fun _ k => k _ _ _ _ _ _ h1 h2 h3
local macro_rules | `(tactic| k_ne) => `(tactic| first | (refine neN ?_; (try dsimp only); first | (with_reducible assumption) | (refine Ne.symm ?_; with_reducible assumption) | (refine Nat.ne_of_lt ?_; with_reducible assumption) | (refine Nat.ne_of_gt ?_; with_reducible assumption) | (refine Nat.ne_of_lt ?_; (apply And.left; iterate 12 (first | done | with_reducible assumption | apply And.right)); done) | (refine Nat.ne_of_gt ?_; (apply And.left; iterate 12 (first | done | with_reducible assumption | apply And.right)); done) | omega))
set_option maxHeartbeats 8000000 in
theorem lexer_spec (w : World) (x : Str) (t : Tok) (hx : x.length ≤ 100) : Spec PySem.Challenge.rw_sc0030_01.row.prog (fun w => Mine.hd.heap_39 w.params) w 77 [.str x t] 3 90 [(72, tabObj #[])] (LexerPost w x) := by
  ((k_fill; k_dflt (refine' spec_cells ?k6_6 ?k7_6 ?h1_6 ?k9_6 ?kB_6 ?kD_6 ?c2_6 ?c3_6 ?c4_6 ?_; (case k6_6 => k_is); (case k7_6 => k_is); (case h1_6 => first | decide | exact Nat.succ_pos _); (case k9_6 => exact rfl); (case kB_6 => exact rfl); (case kD_6 => decide +kernel); (case c2_6 => exact rfl); (case c3_6 => exact rfl); (case c4_6 => exact rfl); k_whole)))
  intro loose mean mg mb dp un gd env outer base g L' h₁ s tk cells F' N' Y' B' X' T' lW hd hu
  try dsimp only at X'
  k_cells Y'
  try simp only [List.cons_append, List.nil_append] at N'
  try dsimp only
  try k_fold
  try k_lt lW
  have kM := kstMark
  k_with_none
  have hC9 := codeHd_of_K (c := 76) (P := 72) X' (by kernel_rfl)
  (repeat' (first |  (k_unfold; (try dsimp only)) | (k_here; (with_reducible show wpAny _ _ (eval (Expr.Name _ _) (compEnv _ _ _)) _ _ _); k_dflt (first | (refine name_locS rfl rfl rfl (by decide) (by with_reducible assumption) (by assumption) ?_; k_whole) | (refine nameG_BS rfl rfl rfl rfl (by decide) (by k_asm) (by k_asm) (by k_asm) (by k_is) (by boot_fast) (by decide) ?_; k_whole))) | (k_here; (with_reducible show wpAny _ _ (call (Value.type _) [Value.str _ _]) _ _ _); k_dflt (refine list_strN rfl (by k_asm) (by k_asm) ?_ (by rw [sizeLine_eq]; omega)); intro D9 ys9 c9 h9 tk9 F9 N9 l9 m9 hS9; (try k_lt l9); (try k_sweep)) | (k_here; (with_reducible show wpAny _ _ (compareOp CmpOp.NotEq (Value.ref _) (Value.ref _)) _ _ _); k_dflt (first | refine strs_ne_nil (by is_list) (by is_list) (by ke_room) ?_ | refine strs_ne_cons (by is_list) (by is_list) (by k_asm) (by ke_room) ?_ | refine strs_ne (by is_list) (by is_list) (by first | k_asm | exact StrsAre.nil) (by first | exact StrsAre.nil | k_asm) (by ke_room) ?_)) | (k_here; (with_reducible show wpAny _ _ (compareOp CmpOp.Eq (Value.ref _) (Value.ref _)) _ _ _); k_dflt (refine strs_eq (by is_list) (by is_list) (by first | k_asm | exact StrsAre.nil) (by first | exact StrsAre.nil | k_asm) (by ke_room) ?_)) | (k_here; (with_reducible show wpAny _ _ (call (Value.builtin _) [Value.ref _, Value.int 0 _]) _ _ _); k_dflt (refine pop_first (by k_asm) (by k_asm) (by k_upd) (by (rw [sizeLine_eq]; (try have hL9 := PyProof.Rows.StrsAre.length (by assumption)); (try simp only [List.length_cons] at *); omega)) ?_; k_whole); intro h9 F9 N9; (try k_sweep)) | (k_here; (with_reducible show wpAny _ _ (call (Value.builtin "len") [Value.str _ _]) _ _ _); refine len_str (by omega) ?_) | (k_here; (with_reducible show wpAny _ _ (call (Value.builtin "len") [Value.ref _]) _ _ _); k_dflt (refine len_strsA (by is_list) (by assumption) (by ((try simp only [List.length_map]); omega)) ?_; k_whole); (try simp only [List.length_map])) | walk1 | (dsimp only; walk1) | (dsimp only; k_unfold; (try dsimp only)) | fail "no step"))
  refine Back.mk (by assumption) (by assumption) ?_ ?_
  · (repeat (first | exact List.forall_mem_nil _ | refine List.forall_mem_cons.mpr ⟨by first | (left; simp only [List.map_cons, List.mem_cons, true_or, or_true]; done) | (right; refine ltN ?_; (try dsimp only); omega), ?_⟩))
  refine LexerPost.mk (a := ⟨_, _, _, _, _, _, _, _, _, _, _, _, _, _, _, _, _, _, _, _, _, _, _, _, _⟩) (by assumption) ⟨⟨?_, ?_, ?_, ?_, ?_, ?_, ?_, ?_, ?_⟩, ?_⟩ ?_
  rotate_right
  · (try dsimp only); omega
  iterate 9 (refine ltN ?_; (try dsimp only); omega)
  repeat (rename Fr _ _ _ _ => zz; clear zz)
  repeat (rename News _ _ _ _ => zz; clear zz)
  repeat (rename Frag.In _ _ => zz; clear zz)
  repeat (rename Top _ _ _ _ _ _ => zz; clear zz)
  repeat (rename Below _ _ _ _ => zz; clear zz)
  repeat (rename CodeHd _ _ _ => zz; clear zz)
  intro vs us c t hvs hlen
  dsimp only
  refine spec_lam (by k_mem) (by k_mem) (by assumption) (by assumption) (by decide) rfl (locs rfl) (by decide) rfl rfl rfl ?_
  intro loose mean mg mb dp un gd env outer base g L' h₁ s tk F' N' B' X' T' lW hd hu
  try dsimp only at X'
  have hC9 := codeHd_of_K (c := 76) (P := 72) X' (by kernel_rfl)
  try k_lt lW
  cases hvs with
  | nil =>
    (repeat' (first |  (k_unfold; (try dsimp only)) | (k_here; (with_reducible show wpAny _ _ (eval (Expr.Name _ _) (compEnv _ _ _)) _ _ _); k_dflt (first | (refine name_locS rfl rfl rfl (by decide) (by with_reducible assumption) (by assumption) ?_; k_whole) | (refine nameG_BS rfl rfl rfl rfl (by decide) (by k_asm) (by k_asm) (by k_asm) (by k_is) (by boot_fast) (by decide) ?_; k_whole))) | (k_here; (with_reducible show wpAny _ _ (call (Value.type _) [Value.str _ _]) _ _ _); k_dflt (refine list_strN rfl (by k_asm) (by k_asm) ?_ (by rw [sizeLine_eq]; omega)); intro D9 ys9 c9 h9 tk9 F9 N9 l9 m9 hS9; (try k_lt l9); (try k_sweep)) | (k_here; (with_reducible show wpAny _ _ (compareOp CmpOp.NotEq (Value.ref _) (Value.ref _)) _ _ _); k_dflt (first | refine strs_ne_nil (by is_list) (by is_list) (by ke_room) ?_ | refine strs_ne_cons (by is_list) (by is_list) (by k_asm) (by ke_room) ?_ | refine strs_ne (by is_list) (by is_list) (by first | k_asm | exact StrsAre.nil) (by first | exact StrsAre.nil | k_asm) (by ke_room) ?_)) | (k_here; (with_reducible show wpAny _ _ (compareOp CmpOp.Eq (Value.ref _) (Value.ref _)) _ _ _); k_dflt (refine strs_eq (by is_list) (by is_list) (by first | k_asm | exact StrsAre.nil) (by first | exact StrsAre.nil | k_asm) (by ke_room) ?_)) | (k_here; (with_reducible show wpAny _ _ (call (Value.builtin _) [Value.ref _, Value.int 0 _]) _ _ _); k_dflt (refine pop_first (by k_asm) (by k_asm) (by k_upd) (by (rw [sizeLine_eq]; (try have hL9 := PyProof.Rows.StrsAre.length (by assumption)); (try simp only [List.length_cons] at *); omega)) ?_; k_whole); intro h9 F9 N9; (try k_sweep)) | (k_here; (with_reducible show wpAny _ _ (call (Value.builtin "len") [Value.str _ _]) _ _ _); refine len_str (by omega) ?_) | (k_here; (with_reducible show wpAny _ _ (call (Value.builtin "len") [Value.ref _]) _ _ _); k_dflt (refine len_strsA (by is_list) (by assumption) (by ((try simp only [List.length_map]); omega)) ?_; k_whole); (try simp only [List.length_map])) | walk1 | (dsimp only; walk1) | (dsimp only; k_unfold; (try dsimp only)) | fail "no step"))
    refine Back.mk' ⟨c, ⟨_, rfl⟩, rfl⟩ (by assumption) (by assumption) ?_ ?_
    · (repeat (first | exact List.forall_mem_nil _ | refine List.forall_mem_cons.mpr ⟨by k_mem, ?_⟩))
    · (repeat (first | exact List.forall_mem_nil _ | refine List.forall_mem_cons.mpr ⟨by first | (left; simp only [List.map_cons, List.mem_cons, true_or, or_true]; done) | (right; refine ltN ?_; (try dsimp only); omega), ?_⟩))
  | cons y t' hvs =>
    have hvs2 := StrsAre.cons y t' hvs
    (repeat' (first |  (k_unfold; (try dsimp only)) | (k_here; (with_reducible show wpAny _ _ (eval (Expr.Name _ _) (compEnv _ _ _)) _ _ _); k_dflt (first | (refine name_locS rfl rfl rfl (by decide) (by with_reducible assumption) (by assumption) ?_; k_whole) | (refine nameG_BS rfl rfl rfl rfl (by decide) (by k_asm) (by k_asm) (by k_asm) (by k_is) (by boot_fast) (by decide) ?_; k_whole))) | (k_here; (with_reducible show wpAny _ _ (call (Value.type _) [Value.str _ _]) _ _ _); k_dflt (refine list_strN rfl (by k_asm) (by k_asm) ?_ (by rw [sizeLine_eq]; omega)); intro D9 ys9 c9 h9 tk9 F9 N9 l9 m9 hS9; (try k_lt l9); (try k_sweep)) | (k_here; (with_reducible show wpAny _ _ (compareOp CmpOp.NotEq (Value.ref _) (Value.ref _)) _ _ _); k_dflt (first | refine strs_ne_nil (by is_list) (by is_list) (by ke_room) ?_ | refine strs_ne_cons (by is_list) (by is_list) (by k_asm) (by ke_room) ?_ | refine strs_ne (by is_list) (by is_list) (by first | k_asm | exact StrsAre.nil) (by first | exact StrsAre.nil | k_asm) (by ke_room) ?_)) | (k_here; (with_reducible show wpAny _ _ (compareOp CmpOp.Eq (Value.ref _) (Value.ref _)) _ _ _); k_dflt (refine strs_eq (by is_list) (by is_list) (by first | k_asm | exact StrsAre.nil) (by first | exact StrsAre.nil | k_asm) (by ke_room) ?_)) | (k_here; (with_reducible show wpAny _ _ (call (Value.builtin _) [Value.ref _, Value.int 0 _]) _ _ _); k_dflt (refine pop_first (by k_asm) (by k_asm) (by k_upd) (by (rw [sizeLine_eq]; (try have hL9 := PyProof.Rows.StrsAre.length (by assumption)); (try simp only [List.length_cons] at *); omega)) ?_; k_whole); intro h9 F9 N9; (try k_sweep)) | (k_here; (with_reducible show wpAny _ _ (call (Value.builtin "len") [Value.str _ _]) _ _ _); refine len_str (by omega) ?_) | (k_here; (with_reducible show wpAny _ _ (call (Value.builtin "len") [Value.ref _]) _ _ _); k_dflt (refine len_strsA (by is_list) (by assumption) (by ((try simp only [List.length_map]); omega)) ?_; k_whole); (try simp only [List.length_map])) | walk1 | (dsimp only; walk1) | (dsimp only; k_unfold; (try dsimp only)) | fail "no step"))
    refine Back.mk' ⟨c + 1, rfl, rfl⟩ (by assumption) (by assumption) ?_ ?_
    · (repeat (first | exact List.forall_mem_nil _ | refine List.forall_mem_cons.mpr ⟨by k_mem, ?_⟩))
    · (repeat (first | exact List.forall_mem_nil _ | refine List.forall_mem_cons.mpr ⟨by first | (left; simp only [List.map_cons, List.mem_cons, true_or, or_true]; done) | (right; refine ltN ?_; (try dsimp only); omega), ?_⟩))

end
section
local macro_rules | `(tactic| walk_at "pad") => `(tactic| fail)
def PushPost (w : World) (a : LexAt) (q : List Value) (n : Int) (tn : Tok) (cs : List Value) (cc : Nat) (y : Str) (t : Tok) (r : Value) (W' : List (Addr × Obj)) : Prop := ∀ Z : Value → List (Addr × Obj) → Prop, (∀ cq', Z .none (LexW w a (q ++ [.str y t]) cq' n tn cs cc)) → Z r W'
theorem push_all {w : World} {a : LexAt} {q : List Value} {n : Int} {tn : Tok} {cs : List Value} {cc : Nat} {y : Str} {t : Tok} {Z : Value → List (Addr × Obj) → Heap → Nat → Prop} (d : ∀ h' tk' cq', Z .none (LexW w a (q ++ [.str y t]) cq' n tn cs cc) h' tk') : ∀ r W' h' tk', PushPost w a q n tn cs cc y t r W' → Z r W' h' tk' := fun _ _ h' tk' hp => hp (fun r W' => Z r W' h' tk') (d h' tk')
set_option maxHeartbeats 8000000 in
theorem push_spec (w : World) (a : LexAt) (ok : LexOk w a) (q : List Value) (cq : Nat) (n : Int) (tn : Tok) (cs : List Value) (cc : Nat) (y : Str) (t : Tok) (hq : q.length ≤ 1000) :
    Spec PySem.Challenge.rw_sc0030_01.row.prog (fun w => Mine.hd.heap_39 w.params) w 63 [.ref a.lx, .str y t] 2 90 (LexW w a q cq n tn cs cc) (PushPost w a q n tn cs cc y t) := by
  obtain ⟨⟨o1, o2, o3, o4, o5, o6, o7, o8, o9⟩, -⟩ := ok
  ((k_fill; k_dflt (refine' spec_plain ?k6_10 ?k7_10 ?h1_10 ?k9_10 ?kB_10 ?c5_10 ?c2_10 ?c3_10 ?c4_10 ?_; (case k6_10 => k_is); (case k7_10 => k_is); (case h1_10 => first | decide | exact Nat.succ_pos _); (case k9_10 => exact rfl); (case kB_10 => exact locs rfl); (case c5_10 => decide); (case c2_10 => exact rfl); (case c3_10 => exact rfl); (case c4_10 => exact rfl); k_whole)))
  intro loose mean mg mb dp un gd env outer base g L' h₁ s tk F' N' B' X' T' lW hd hu
  try dsimp only at X'
  try dsimp only
  try k_fold
  try k_lt lW
  have kM := kstMark
  k_with_none
  (repeat' (first |  (k_unfold; (try dsimp only)) | (k_here; (with_reducible show wpAny _ _ (eval (Expr.Name _ _) (compEnv _ _ _)) _ _ _); k_dflt (first | (refine name_locS rfl rfl rfl (by decide) (by with_reducible assumption) (by assumption) ?_; k_whole) | (refine nameG_BS rfl rfl rfl rfl (by decide) (by k_asm) (by k_asm) (by k_asm) (by k_is) (by boot_fast) (by decide) ?_; k_whole))) | (k_here; (with_reducible show wpAny _ _ (call (Value.type _) [Value.str _ _]) _ _ _); k_dflt (refine list_strN rfl (by k_asm) (by k_asm) ?_ (by rw [sizeLine_eq]; omega)); intro D9 ys9 c9 h9 tk9 F9 N9 l9 m9 hS9; (try k_lt l9); (try k_sweep)) | (k_here; (with_reducible show wpAny _ _ (compareOp CmpOp.NotEq (Value.ref _) (Value.ref _)) _ _ _); k_dflt (first | refine strs_ne_nil (by is_list) (by is_list) (by ke_room) ?_ | refine strs_ne_cons (by is_list) (by is_list) (by k_asm) (by ke_room) ?_ | refine strs_ne (by is_list) (by is_list) (by first | k_asm | exact StrsAre.nil) (by first | exact StrsAre.nil | k_asm) (by ke_room) ?_)) | (k_here; (with_reducible show wpAny _ _ (compareOp CmpOp.Eq (Value.ref _) (Value.ref _)) _ _ _); k_dflt (refine strs_eq (by is_list) (by is_list) (by first | k_asm | exact StrsAre.nil) (by first | exact StrsAre.nil | k_asm) (by ke_room) ?_)) | (k_here; (with_reducible show wpAny _ _ (call (Value.builtin _) [Value.ref _, Value.int 0 _]) _ _ _); k_dflt (refine pop_first (by k_asm) (by k_asm) (by k_upd) (by (rw [sizeLine_eq]; (try have hL9 := PyProof.Rows.StrsAre.length (by assumption)); (try simp only [List.length_cons] at *); omega)) ?_; k_whole); intro h9 F9 N9; (try k_sweep)) | (k_here; (with_reducible show wpAny _ _ (call (Value.builtin "len") [Value.str _ _]) _ _ _); refine len_str (by omega) ?_) | (k_here; (with_reducible show wpAny _ _ (call (Value.builtin "len") [Value.ref _]) _ _ _); k_dflt (refine len_strsA (by is_list) (by assumption) (by ((try simp only [List.length_map]); omega)) ?_; k_whole); (try simp only [List.length_map])) | walk1 | (dsimp only; walk1) | (dsimp only; k_unfold; (try dsimp only)) | fail "no step"))
  rename News _ _ _ _ => N2
  try simp only [List.push_toArray] at N2
  refine Back.mk' (fun _ k => k (cq + 1)) (by assumption) N2 ?_ lex_same
  (repeat (first | exact List.forall_mem_nil _ | refine List.forall_mem_cons.mpr ⟨by k_mem, ?_⟩))

set_option maxHeartbeats 8000000 in
theorem tok_spec1 (w : World) (a : LexAt) (ok : LexOk w a) (q : List Value) (cq : Nat) (n : Int) (tn : Tok) (cs : List Value) (cc : Nat) (y : Str) (t : Tok) (hq : q.length ≤ 1000) :
    Spec PySem.Challenge.rw_sc0030_01.row.prog (fun w => Mine.hd.heap_39 w.params) w 56 [.ref a.lx] 2 90 (LexW w a (.str y t :: q) cq n tn cs cc) (fun r W' => r = .str y t ∧ ∃ cq', W' = LexW w a q cq' n tn cs cc) := by
  obtain ⟨⟨o1, o2, o3, o4, o5, o6, o7, o8, o9⟩, -⟩ := ok
  ((k_fill; k_dflt (refine' spec_plain ?k6_8 ?k7_8 ?h1_8 ?k9_8 ?kB_8 ?c5_8 ?c2_8 ?c3_8 ?c4_8 ?_; (case k6_8 => k_is); (case k7_8 => k_is); (case h1_8 => first | decide | exact Nat.succ_pos _); (case k9_8 => exact rfl); (case kB_8 => exact locs rfl); (case c5_8 => decide); (case c2_8 => exact rfl); (case c3_8 => exact rfl); (case c4_8 => exact rfl); k_whole)))
  intro loose mean mg mb dp un gd env outer base g L' h₁ s tk F' N' B' X' T' lW hd hu
  try dsimp only at X'
  try dsimp only
  try k_fold
  try k_lt lW
  have kM := kstMark
  k_with_none
  (repeat' (first |  (k_unfold; (try dsimp only)) | (k_here; (with_reducible show wpAny _ _ (eval (Expr.Name _ _) (compEnv _ _ _)) _ _ _); k_dflt (first | (refine name_locS rfl rfl rfl (by decide) (by with_reducible assumption) (by assumption) ?_; k_whole) | (refine nameG_BS rfl rfl rfl rfl (by decide) (by k_asm) (by k_asm) (by k_asm) (by k_is) (by boot_fast) (by decide) ?_; k_whole))) | (k_here; (with_reducible show wpAny _ _ (call (Value.type _) [Value.str _ _]) _ _ _); k_dflt (refine list_strN rfl (by k_asm) (by k_asm) ?_ (by rw [sizeLine_eq]; omega)); intro D9 ys9 c9 h9 tk9 F9 N9 l9 m9 hS9; (try k_lt l9); (try k_sweep)) | (k_here; (with_reducible show wpAny _ _ (compareOp CmpOp.NotEq (Value.ref _) (Value.ref _)) _ _ _); k_dflt (first | refine strs_ne_nil (by is_list) (by is_list) (by ke_room) ?_ | refine strs_ne_cons (by is_list) (by is_list) (by k_asm) (by ke_room) ?_ | refine strs_ne (by is_list) (by is_list) (by first | k_asm | exact StrsAre.nil) (by first | exact StrsAre.nil | k_asm) (by ke_room) ?_)) | (k_here; (with_reducible show wpAny _ _ (compareOp CmpOp.Eq (Value.ref _) (Value.ref _)) _ _ _); k_dflt (refine strs_eq (by is_list) (by is_list) (by first | k_asm | exact StrsAre.nil) (by first | exact StrsAre.nil | k_asm) (by ke_room) ?_)) | (k_here; (with_reducible show wpAny _ _ (call (Value.builtin _) [Value.ref _, Value.int 0 _]) _ _ _); k_dflt (refine pop_first (by k_asm) (by k_asm) (by k_upd) (by (rw [sizeLine_eq]; (try have hL9 := PyProof.Rows.StrsAre.length (by assumption)); (try simp only [List.length_cons] at *); omega)) ?_; k_whole); intro h9 F9 N9; (try k_sweep)) | (k_here; (with_reducible show wpAny _ _ (call (Value.builtin "len") [Value.str _ _]) _ _ _); refine len_str (by omega) ?_) | (k_here; (with_reducible show wpAny _ _ (call (Value.builtin "len") [Value.ref _]) _ _ _); k_dflt (refine len_strsA (by is_list) (by assumption) (by ((try simp only [List.length_map]); omega)) ?_; k_whole); (try simp only [List.length_map])) | walk1 | (dsimp only; walk1) | (dsimp only; k_unfold; (try dsimp only)) | fail "no step"))
  refine Back.mk' ⟨rfl, cq + 1, rfl⟩ (by assumption) (by assumption) ?_ lex_same
  (repeat (first | exact List.forall_mem_nil _ | refine List.forall_mem_cons.mpr ⟨by k_mem, ?_⟩))

end
section
/-- the reader's objects and the lexer's others -/
theorem reader_dis {w : World} {a : LexAt} (ok : LexOk w a) {o1 o2 o3 o4 o5 o6 o7 o8 o9 o10 : Obj} : ∀ p ∈ [(a.sl, o1), (a.fr, o2), (a.cd, o3), (a.cell, o4)], ∀ q ∈ [(a.pb, o5), (a.lx, o6), (a.dlx, o7), (a.pb0, o8), (a.st, o9), (a.dst, o10)], p.1 ≠ q.1 := by
  obtain ⟨⟨c1, c2, c3, c4, c5, c6, c7, c8, c9⟩, -⟩ := ok
  have t1 := Nat.lt_trans c2 c3
  have t2 := Nat.lt_trans t1 c4
  have t3 := Nat.lt_trans (Nat.lt_trans t2 c5) (Nat.lt_trans c6 c7)
  have t4 := Nat.lt_trans t3 c8
  have t5 := Nat.lt_trans t4 c9
  have f2 := Nat.lt_trans c7 c8
  have f3 := Nat.lt_trans f2 c9
  have g1 := Nat.lt_trans c6 c7
  have g2 := Nat.lt_trans c6 f2
  have g3 := Nat.lt_trans c6 f3
  have e4 := c5
  have e5 := Nat.lt_trans c4 c5
  have e6 := Nat.lt_trans c3 e5
  have h {x y : Nat} (H : x < y) : x ≠ y := Nat.ne_of_lt H
  have h' {x y : Nat} (H : x < y) : y ≠ x := Nat.ne_of_gt H
  have six {P : Nat → Prop} (h1 : P a.pb) (h2 : P a.lx) (h3 : P a.dlx) (h4 : P a.pb0) (h5 : P a.st) (h6 : P a.dst) : ∀ q ∈ [(a.pb, o5), (a.lx, o6), (a.dlx, o7), (a.pb0, o8), (a.st, o9), (a.dst, o10)], P q.1 :=
    List.forall_mem_cons.mpr ⟨h1, List.forall_mem_cons.mpr ⟨h2, List.forall_mem_cons.mpr ⟨h3, List.forall_mem_cons.mpr ⟨h4, List.forall_mem_cons.mpr ⟨h5, List.forall_mem_cons.mpr ⟨h6, List.forall_mem_nil _⟩⟩⟩⟩⟩⟩
  exact List.forall_mem_cons.mpr ⟨six (P := fun z => a.sl ≠ z) (h t5) (h t4) (h t3) (h t2) (h t1) (h c2),
    List.forall_mem_cons.mpr ⟨six (P := fun z => a.fr ≠ z) (h f3) (h f2) (h c7) (h' (Nat.lt_trans c5 c6)) (h' (Nat.lt_trans e5 c6)) (h' (Nat.lt_trans e6 c6)),
    List.forall_mem_cons.mpr ⟨six (P := fun z => a.cd ≠ z) (h g3) (h g2) (h g1) (h' e4) (h' e5) (h' e6),
    List.forall_mem_cons.mpr ⟨six (P := fun z => a.cell ≠ z) (h (Nat.lt_trans c1 t5)) (h (Nat.lt_trans c1 t4)) (h (Nat.lt_trans c1 t3)) (h (Nat.lt_trans c1 t2)) (h (Nat.lt_trans c1 t1)) (h (Nat.lt_trans c1 c2)), List.forall_mem_nil _⟩⟩⟩⟩
set_option maxHeartbeats 8000000 in
theorem read_spec (w : World) (a : LexAt) (ok : LexOk w a) (q : List Value) (cq : Nat) (n : Int) (tn : Tok) (cs : List Value) (us : List Str) (cc : Nat) (hcs : StrsAre cs us) (hlen : us.length ≤ 1000) :
    Spec PySem.Challenge.rw_sc0030_01.row.prog (fun w => Mine.hd.heap_39 w.params) w 49 [.ref a.lx] 4 100 (LexW w a q cq n tn cs cc) (fun r W' => ∃ tn' cc', match cs, us with
      | v :: cs', y :: _ => r = v ∧ W' = LexW w a q cq (n + if y = "\n" then 1 else 0) tn' cs' cc'
      | _, _ => (∃ t, r = .str "" t) ∧ W' = LexW w a q cq n tn' [] cc') := by
  have hR := ok.2
  obtain ⟨⟨-, o2, o3, o4, o5, o6, o7, o8, o9⟩, -⟩ := id ok
  have x1 := Nat.lt_trans o8 o9
  have x2 := Nat.lt_trans o6 o7
  have x3 := Nat.lt_trans o5 x2
  have x4 := Nat.lt_trans o4 x3
  have x5 := Nat.lt_trans o3 x4
  have x6 := Nat.lt_trans o2 x5
  have x7 := Nat.lt_trans ok.1.1 x6
  clear o2 o3 o4 o5 o6 o9
  ((k_fill; k_dflt (refine' spec_plain ?k6_15 ?k7_15 ?h1_15 ?k9_15 ?kB_15 ?c5_15 ?c2_15 ?c3_15 ?c4_15 ?_; (case k6_15 => k_is); (case k7_15 => k_is); (case h1_15 => first | decide | exact Nat.succ_pos _); (case k9_15 => exact rfl); (case kB_15 => exact locs rfl); (case c5_15 => decide); (case c2_15 => exact rfl); (case c3_15 => exact rfl); (case c4_15 => exact rfl); k_whole)))
  intro loose mean mg mb dp un gd env outer base g L' h₁ s tk F' N' B' X' T' lW hd hu
  try dsimp only at X'
  try dsimp only
  try k_fold
  try k_lt lW
  have kM := kstMark
  have hC9 := codeHd_of_K (c := 76) (P := 72) X' (by kernel_rfl)
  k_with_none
  (repeat' (first |  (k_unfold; (try dsimp only)) | (k_here; (with_reducible show wpAny _ _ (eval (Expr.Name _ _) (compEnv _ _ _)) _ _ _); k_dflt (first | (refine name_locS rfl rfl rfl (by decide) (by with_reducible assumption) (by assumption) ?_; k_whole) | (refine nameG_BS rfl rfl rfl rfl (by decide) (by k_asm) (by k_asm) (by k_asm) (by k_is) (by boot_fast) (by decide) ?_; k_whole))) | (k_here; (with_reducible show wpAny _ _ (call (Value.type _) [Value.str _ _]) _ _ _); k_dflt (refine list_strN rfl (by k_asm) (by k_asm) ?_ (by rw [sizeLine_eq]; omega)); intro D9 ys9 c9 h9 tk9 F9 N9 l9 m9 hS9; (try k_lt l9); (try k_sweep)) | (k_here; (with_reducible show wpAny _ _ (compareOp CmpOp.NotEq (Value.ref _) (Value.ref _)) _ _ _); k_dflt (first | refine strs_ne_nil (by is_list) (by is_list) (by ke_room) ?_ | refine strs_ne_cons (by is_list) (by is_list) (by k_asm) (by ke_room) ?_ | refine strs_ne (by is_list) (by is_list) (by first | k_asm | exact StrsAre.nil) (by first | exact StrsAre.nil | k_asm) (by ke_room) ?_)) | (k_here; (with_reducible show wpAny _ _ (compareOp CmpOp.Eq (Value.ref _) (Value.ref _)) _ _ _); k_dflt (refine strs_eq (by is_list) (by is_list) (by first | k_asm | exact StrsAre.nil) (by first | exact StrsAre.nil | k_asm) (by ke_room) ?_)) | (k_here; (with_reducible show wpAny _ _ (call (Value.builtin _) [Value.ref _, Value.int 0 _]) _ _ _); k_dflt (refine pop_first (by k_asm) (by k_asm) (by k_upd) (by (rw [sizeLine_eq]; (try have hL9 := PyProof.Rows.StrsAre.length (by assumption)); (try simp only [List.length_cons] at *); omega)) ?_; k_whole); intro h9 F9 N9; (try k_sweep)) | (k_here; (with_reducible show wpAny _ _ (call (Value.builtin "len") [Value.str _ _]) _ _ _); refine len_str (by omega) ?_) | (k_here; (with_reducible show wpAny _ _ (call (Value.builtin "len") [Value.ref _]) _ _ _); k_dflt (refine len_strsA (by is_list) (by assumption) (by ((try simp only [List.length_map]); omega)) ?_; k_whole); (try simp only [List.length_map])) | walk1 | (dsimp only; walk1) | (dsimp only; k_unfold; (try dsimp only)) | fail "no step"))
  refine Spec.use (hR cs us cc _ hcs hlen) [(a.pb, PySem.W.listOf q.toArray cq), (a.lx, instObj 66 a.dlx), (a.dlx, lexDict w a n tn), (a.pb0, PySem.W.listOf #[] 0), (a.st, instObj 66 a.dst), (a.dst, strDict w a)]
    (by assumption) (by assumption) (by assumption) (by assumption) (by assumption) rfl (by (repeat (first | exact List.forall_mem_nil _ | refine List.forall_mem_cons.mpr ⟨by k_mem, ?_⟩))) (reader_dis ok) (by omega) (by omega) ?_
  intro r W' h' tk' hp F2 N2 hf
  clear N' F' hf
  cases hcs with
  | nil =>
    obtain ⟨c2, ⟨t2, rfl⟩, rfl⟩ := hp
    (repeat' (first |  (k_unfold; (try dsimp only)) | (k_here; (with_reducible show wpAny _ _ (eval (Expr.Name _ _) (compEnv _ _ _)) _ _ _); k_dflt (first | (refine name_locS rfl rfl rfl (by decide) (by with_reducible assumption) (by assumption) ?_; k_whole) | (refine nameG_BS rfl rfl rfl rfl (by decide) (by k_asm) (by k_asm) (by k_asm) (by k_is) (by boot_fast) (by decide) ?_; k_whole))) | (k_here; (with_reducible show wpAny _ _ (call (Value.type _) [Value.str _ _]) _ _ _); k_dflt (refine list_strN rfl (by k_asm) (by k_asm) ?_ (by rw [sizeLine_eq]; omega)); intro D9 ys9 c9 h9 tk9 F9 N9 l9 m9 hS9; (try k_lt l9); (try k_sweep)) | (k_here; (with_reducible show wpAny _ _ (compareOp CmpOp.NotEq (Value.ref _) (Value.ref _)) _ _ _); k_dflt (first | refine strs_ne_nil (by is_list) (by is_list) (by ke_room) ?_ | refine strs_ne_cons (by is_list) (by is_list) (by k_asm) (by ke_room) ?_ | refine strs_ne (by is_list) (by is_list) (by first | k_asm | exact StrsAre.nil) (by first | exact StrsAre.nil | k_asm) (by ke_room) ?_)) | (k_here; (with_reducible show wpAny _ _ (compareOp CmpOp.Eq (Value.ref _) (Value.ref _)) _ _ _); k_dflt (refine strs_eq (by is_list) (by is_list) (by first | k_asm | exact StrsAre.nil) (by first | exact StrsAre.nil | k_asm) (by ke_room) ?_)) | (k_here; (with_reducible show wpAny _ _ (call (Value.builtin _) [Value.ref _, Value.int 0 _]) _ _ _); k_dflt (refine pop_first (by k_asm) (by k_asm) (by k_upd) (by (rw [sizeLine_eq]; (try have hL9 := PyProof.Rows.StrsAre.length (by assumption)); (try simp only [List.length_cons] at *); omega)) ?_; k_whole); intro h9 F9 N9; (try k_sweep)) | (k_here; (with_reducible show wpAny _ _ (call (Value.builtin "len") [Value.str _ _]) _ _ _); refine len_str (by omega) ?_) | (k_here; (with_reducible show wpAny _ _ (call (Value.builtin "len") [Value.ref _]) _ _ _); k_dflt (refine len_strsA (by is_list) (by assumption) (by ((try simp only [List.length_map]); omega)) ?_; k_whole); (try simp only [List.length_map])) | walk1 | (dsimp only; walk1) | (dsimp only; k_unfold; (try dsimp only)) | fail "no step"))
    refine Back.mk' ⟨tn, c2, ⟨_, rfl⟩, rfl⟩ (by assumption) (by assumption) ?_ lex_same
    (repeat (first | exact List.forall_mem_nil _ | refine List.forall_mem_cons.mpr ⟨by k_mem, ?_⟩))
  | cons y t' hcs =>
    obtain ⟨c2, rfl, rfl⟩ := hp
    (repeat' (first |  (k_unfold; (try dsimp only)) | (k_here; (with_reducible show wpAny _ _ (eval (Expr.Name _ _) (compEnv _ _ _)) _ _ _); k_dflt (first | (refine name_locS rfl rfl rfl (by decide) (by with_reducible assumption) (by assumption) ?_; k_whole) | (refine nameG_BS rfl rfl rfl rfl (by decide) (by k_asm) (by k_asm) (by k_asm) (by k_is) (by boot_fast) (by decide) ?_; k_whole))) | (k_here; (with_reducible show wpAny _ _ (call (Value.type _) [Value.str _ _]) _ _ _); k_dflt (refine list_strN rfl (by k_asm) (by k_asm) ?_ (by rw [sizeLine_eq]; omega)); intro D9 ys9 c9 h9 tk9 F9 N9 l9 m9 hS9; (try k_lt l9); (try k_sweep)) | (k_here; (with_reducible show wpAny _ _ (compareOp CmpOp.NotEq (Value.ref _) (Value.ref _)) _ _ _); k_dflt (first | refine strs_ne_nil (by is_list) (by is_list) (by ke_room) ?_ | refine strs_ne_cons (by is_list) (by is_list) (by k_asm) (by ke_room) ?_ | refine strs_ne (by is_list) (by is_list) (by first | k_asm | exact StrsAre.nil) (by first | exact StrsAre.nil | k_asm) (by ke_room) ?_)) | (k_here; (with_reducible show wpAny _ _ (compareOp CmpOp.Eq (Value.ref _) (Value.ref _)) _ _ _); k_dflt (refine strs_eq (by is_list) (by is_list) (by first | k_asm | exact StrsAre.nil) (by first | exact StrsAre.nil | k_asm) (by ke_room) ?_)) | (k_here; (with_reducible show wpAny _ _ (call (Value.builtin _) [Value.ref _, Value.int 0 _]) _ _ _); k_dflt (refine pop_first (by k_asm) (by k_asm) (by k_upd) (by (rw [sizeLine_eq]; (try have hL9 := PyProof.Rows.StrsAre.length (by assumption)); (try simp only [List.length_cons] at *); omega)) ?_; k_whole); intro h9 F9 N9; (try k_sweep)) | (k_here; (with_reducible show wpAny _ _ (call (Value.builtin "len") [Value.str _ _]) _ _ _); refine len_str (by omega) ?_) | (k_here; (with_reducible show wpAny _ _ (call (Value.builtin "len") [Value.ref _]) _ _ _); k_dflt (refine len_strsA (by is_list) (by assumption) (by ((try simp only [List.length_map]); omega)) ?_; k_whole); (try simp only [List.length_map])) | walk1 | (dsimp only; walk1) | (dsimp only; k_unfold; (try dsimp only)) | fail "no step"))
    · with_reducible rename (y == _) = true => hy
      have e : (if y = Str.ofString "\n" then (1 : Int) else 0) = 1 := if_pos (eq_of_beq hy)
      refine Back.mk' (W' := LexW w a q cq (n + 1) ?tn _ c2) ⟨?tn, c2, rfl, by rw [e]⟩ (by assumption) (by assumption) ?sub ?fre
      case sub => (repeat (first | exact List.forall_mem_nil _ | refine List.forall_mem_cons.mpr ⟨by k_mem, ?_⟩))
      case fre => exact lex_same
    · with_reducible rename (y == _) = false => hy
      have e : (if y = Str.ofString "\n" then (1 : Int) else 0) = 0 := if_neg fun h => by rw [h, beq_self_eq_true] at hy; cases hy
      refine Back.mk' (W' := LexW w a q cq n tn _ c2) ⟨tn, c2, rfl, by rw [e, Int.add_zero]⟩ (by assumption) (by assumption) ?_ lex_same
      (repeat (first | exact List.forall_mem_nil _ | refine List.forall_mem_cons.mpr ⟨by k_mem, ?_⟩))

end
section
abbrev citObj (q z ended : Value) : Obj := { cls := .type "callable_iterator", data := .fields #[q, z, ended] }
theorem lookup_method_call : typeLookup (.type "method") "__call__" = pure (some (.builtin "method.__call__")) := by rw [typeLookup_type, builtinLookup_eq_fast]; kernel_rfl
theorem slot_cit_next : Slot "callable_iterator" "__next__" "callable_iterator.__next__" :=
  .of (owner := "callable_iterator") (n := "__next__") (by rw [typeLookup_type, builtinLookup_eq_fast]; kernel_rfl) (by decide +kernel) (by decide +kernel) (by decide +kernel)
    (by first | exact .inl (by decide +kernel) | exact .inr (by decide +kernel)) (by rw [isSubtype_type]; kernel_rfl)
theorem entry_cit_next : entryFor table "callable_iterator.__next__" = some Builtin.«callable_iterator.__next__» := entryFor_of_fast (by kernel_rfl)
theorem args_cit_next (a : Value) : argsOk "callable_iterator.__next__" ⟨[a], []⟩ := by unfold argsOk; kernel_rfl
theorem entry_iter2 : entryFor table "iter" = some Builtin.«iter» := entryFor_of_fast (by kernel_rfl)
theorem args_iter2 (a b : Value) : argsOk "iter" ⟨[a, b], []⟩ := by unfold argsOk; kernel_rfl
section
variable {prog : Program} {w : World} {A : Around} {E : Value → Shared → Prop} {s : Shared}
theorem iter_two {q : Addr} {f self z : Value} {h₀ : Heap} {L : Addr} {m : Str → Option Value} {news : List (Addr × Obj)} {Q : Value → Shared → Prop} (F : Fr h₀ L s.heap m) (N : News h₀ L s.heap news) (hq : (q, methodObj f self) ∈ news)
    (h : ∀ it h', Fr h₀ L h' m → News h₀ L h' ((it, citObj (.ref q) z (.bool false)) :: news) → (∀ p ∈ news, p.1 < it) → L < it → Q (.ref it) { s with heap := h' }) :
    wpAny (model prog w) A (call (.builtin "iter") [.ref q, z]) Q E s := by
  refine Calls.call_function_entry (by decide +kernel) (by decide +kernel) entry_iter2 (args_iter2 _ _) ?_
  unfold Builtin.«iter»
  refine wpAny_bind (wpAny_of_eq (a := [.ref q, z]) rfl ?_)
  dsimp only
  refine wpAny_bind (wpAny_specialOf ⟨_, N.get hq, rfl⟩ lookup_method_call ?_)
  refine wpAny_bind (wpAny_rule ?_)
  unfold newFields
  exact wpAny_bind (wpAny_newObj_type (wpAny_pure ⟨_, rfl, h _ _ (F.push _) (N.push F _) (fun p hp => Heap.lt_size (N p hp).1) F.ns.lt⟩) (by size_fits))

theorem wpAny_callBorrowed {f : Value} {pos : List Value} {M : Model} {Q : Value → Shared → Prop} (h : wpAny M A (call f pos) Q E s) : wpAny M A (callBorrowed f pos) Q E s := by
  intro Γ p hΓ
  have h1 := h Γ p hΓ
  unfold call at h1
  rw [Sem.wp_runValue] at h1
  unfold callBorrowed
  rw [Sem.wp_call]
  refine wpCode_mono (fun r s' h2 => ?_) h1
  cases r with
  | error e => exact h2
  | ok fl => cases fl <;> exact h2

theorem stop_iter {α : Type} {M : Model} {Q : α → Shared → Prop} (hh : A.handled = none) (h : ∀ h' e, (∀ b o, s.heap.get? b = some o → h'.get? b = some o) → (∃ o, h'.get? e = some o ∧ o.cls = .type "StopIteration") → E (.ref e) { s with heap := h' }) :
    wpAny M A (Builtin.SmallTypes.stopIteration : Sem α) Q E s := by
  unfold Builtin.SmallTypes.stopIteration
  refine wpAny_bind ?_
  simp only [newExc, newTuple]
  refine wpAny_bind (wpAny_newObj_type ?_ (by size_fits))
  refine wpAny_bind (m := firstArgMember _ _) (wpAny_of_eq (a := Value.none) (by first | rfl | (simp only [firstArgMember]; rfl)) ?_)
  refine wpAny_newObj_type ?_ (by size_fits)
  refine wpAny_raiseNew_none hh ?_
  exact h _ _ (fun b o e => Heap.get?_push_of_some _ (Heap.get?_push_of_some _ e)) ⟨_, Heap.get?_push_size _ rfl, rfl⟩

theorem cit_borrows {q f : Addr} {self : Value} {fo : Obj} {fd : FuncData} {M : Model} {Q : Bool → Shared → Prop} (hq : s.heap.get? q = some (methodObj (.ref f) self)) (hf : s.heap.get? f = some fo) (hfd : fo.data = .func fd) (h : Q true s) :
    wpAny M A (borrowsExactly (.ref q)) Q E s := by
  unfold borrowsExactly
  dsimp only
  refine wpAny_bind (wpAny_load hq ?_)
  dsimp only
  show wpAny M A (do match (← load f).data with | .func _ => pure true | _ => pure false) Q E s
  refine wpAny_bind (wpAny_load hf ?_)
  rw [hfd]
  exact wpAny_pure h

end
section
variable {prog : Program} {w : World} {A : Around} {E : Value → Shared → Prop} {s : Shared}
theorem cit_end {M : Model} {it q f : Addr} {self z : Value} {fo : Obj} {fd : FuncData} {busy : Code → Bool} {Q : Unit → Shared → Prop} (ho : s.heap.get? it = some (citObj (.ref q) z (.bool false))) (hq : s.heap.get? q = some (methodObj (.ref f) self)) (hf : s.heap.get? f = some fo) (hfd : fo.data = .func fd)
    (h : ∀ h', (∀ b o, b ≠ it → s.heap.get? b = some o → h'.get? b = some o) → h'.get? it = some (citObj .none .none (.bool true)) → Q () { s with heap := h' }) :
    wpAny M A (do slotLetsGo "callable_iterator.__next__" (← field (.ref it) 0) busy; setField (.ref it) 0 .none; setField (.ref it) 1 .none; setField (.ref it) 2 (.bool true)) Q E s := by
  refine wpAny_bind (wpAny_field ho rfl (x := .ref q) rfl ?_)
  refine wpAny_bind ?_
  unfold slotLetsGo
  dsimp only
  refine wpAny_bind (cit_borrows hq hf hfd ?_)
  rw [if_pos rfl]
  refine wpAny_pure ?_
  refine wpAny_bind (wpAny_setField ho rfl (by show 0 < 3; decide) ?_)
  have e1 : (s.heap.update it (Obj.mapFields (·.setIfInBounds 0 .none))).get? it = some (citObj .none z (.bool false)) := by rw [Heap.get?_update_self _ ho rfl]; rfl
  refine wpAny_bind (wpAny_setField e1 rfl (by show 1 < 3; decide) ?_)
  have e2 : ((s.heap.update it (Obj.mapFields (·.setIfInBounds 0 .none))).update it (Obj.mapFields (·.setIfInBounds 1 .none))).get? it = some (citObj .none .none (.bool false)) := by rw [Heap.get?_update_self _ e1 rfl]; rfl
  refine wpAny_setField e2 rfl (by show 2 < 3; decide) ?_
  refine h _ (fun b o hb e => ?_) (by rw [Heap.get?_update_self _ e2 rfl]; rfl)
  rw [Heap.get?_update_ne _ _ _ _ hb, Heap.get?_update_ne _ _ _ _ hb, Heap.get?_update_ne _ _ _ _ hb]
  exact e

theorem cit_next {it q f : Addr} {self : Value} {z : Str} {tz : Tok} {fo : Obj} {fd : FuncData} {Q : Option Value → Shared → Prop} (hh : A.handled = none) (ho : s.heap.get? it = some (citObj (.ref q) (.str z tz) (.bool false))) (hq : s.heap.get? q = some (methodObj (.ref f) self)) (hf : s.heap.get? f = some fo) (hfd : fo.data = .func fd)
    (hc : wpAny (model prog w) A.in1 (call (.ref q) []) (fun r s₁ => ∃ y t, r = .str y t ∧ s₁.heap.get? it = some (citObj (.ref q) (.str z tz) (.bool false)) ∧ s₁.heap.get? q = some (methodObj (.ref f) self) ∧ s₁.heap.get? f = some fo ∧
      (y = z → ∀ h', (∀ b o, b ≠ it → s₁.heap.get? b = some o → h'.get? b = some o) → h'.get? it = some (citObj .none .none (.bool true)) → Q none { s₁ with heap := h' }) ∧ (y ≠ z → Q (some r) s₁)) (fun _ _ => False) s) :
    wpAny (model prog w) A (pyNext (.ref it)) Q E s := by
  have hT : s.TypeIs (.ref it) "callable_iterator" := ⟨_, ho, rfl⟩
  unfold pyNext
  refine wpAny_bind (wpAny_attempt (wpAny_callSpecial?_slot (name := Str.ofString "__next__") hT slot_cit_next
    (wpAny_call_entry slot_cit_next hT entry_cit_next ?_ (args_cit_next _))))
  unfold Builtin.«callable_iterator.__next__»
  refine wpAny_bind (wpAny_of_eq (a := (.ref it, [])) rfl ?_)
  dsimp only
  refine wpAny_bind (wpAny_field ho rfl (x := .bool false) rfl ?_)
  show wpAny _ _ (if (Value.bool false == Value.bool true) = true then _ else _) _ _ s
  rw [if_neg (show ¬ (Value.bool false == Value.bool true) = true from Bool.false_ne_true)]
  refine wpAny_bind (wpAny_field ho rfl (x := .ref q) rfl ?_)
  refine wpAny_bind (wpAny_attempt ?_)
  unfold callOutOfASlot
  refine wpAny_bind (cit_borrows hq hf hfd ?_)
  rw [if_pos rfl]
  refine wpAny_callBorrowed (wpAny_mono hc (fun r s₁ hr => ?_) fun _ _ x => x.elim)
  obtain ⟨y, t, rfl, ho1, hq1, hf1, hz, hnz⟩ := hr
  dsimp only
  refine wpAny_bind (wpAny_field ho1 rfl (x := .bool false) rfl ?_)
  show wpAny _ _ (if (Value.bool false == Value.bool true) = true then _ else _) _ _ s₁
  rw [if_neg (show ¬ (Value.bool false == Value.bool true) = true from Bool.false_ne_true)]
  refine wpAny_bind (wpAny_field ho1 rfl (x := .str z tz) rfl ?_)
  refine wpAny_bind (wpAny_holding (SeqAt.EqAt.str_str _ _ _ _ prog w _ _ ?_))
  by_cases e : y = z
  · rw [show (z == y) = true from by rw [e]; exact beq_self_eq_true _]
    show wpAny _ _ (if (!true) = true then _ else _) _ _ s₁
    rw [if_neg (show ¬ (!true) = true from Bool.false_ne_true)]
    refine wpAny_bind (wpAny_rule ?_)
    refine wpAny_bind (cit_end ho1 hq1 hf1 hfd fun h' hk hit => ?_)
    refine stop_iter hh fun h2 e2 hk2 hT' => ?_
    refine wpAny_bind (wpAny_isInstance (T := "StopIteration") (b := true) hT' isSubtype_stop ?_)
    exact wpAny_pure (hz e h2 (fun b o hb eb => hk2 b o (hk b o hb eb)) (hk2 _ _ hit))
  · rw [show (z == y) = false from by rw [Bool.eq_false_iff]; intro h; exact e (eq_of_beq h).symm]
    show wpAny _ _ (if (!false) = true then _ else _) _ _ s₁
    rw [if_pos (show (!false) = true from rfl)]
    exact wpAny_bind (wpAny_pure (wpAny_pure ⟨_, rfl, wpAny_pure (hnz e)⟩))
end

end
section
theorem slot_cit_iter : Slot "callable_iterator" "__iter__" "callable_iterator.__iter__" :=
  .of (owner := "callable_iterator") (n := "__iter__") (by rw [typeLookup_type, builtinLookup_eq_fast]; kernel_rfl) (by decide +kernel) (by decide +kernel) (by decide +kernel)
    (by first | exact .inl (by decide +kernel) | exact .inr (by decide +kernel)) (by rw [isSubtype_type]; kernel_rfl)
theorem entry_cit_iter : entryFor table "callable_iterator.__iter__" = some Builtin.«dict_keyiterator.__iter__» :=
  entryFor_alias (id' := "dict_keyiterator.__iter__") (by kernel_rfl) rfl (by decide +kernel) (by kernel_rfl)
theorem args_cit_iter (a : Value) : argsOk "callable_iterator.__iter__" ⟨[a], []⟩ := by unfold argsOk; kernel_rfl
theorem cit_iter {prog : Program} {w : World} {A : Around} {E : Value → Shared → Prop} {s : Shared} {it : Addr} {a b c : Value} {Q : Value → Shared → Prop} (ho : s.heap.get? it = some (citObj a b c)) (h : Q (.ref it) s) : wpAny (model prog w) A (pyIter (.ref it)) Q E s := by
  have hT : s.TypeIs (.ref it) "callable_iterator" := ⟨_, ho, rfl⟩
  refine wpAny_pyIter_slot hT slot_cit_iter (wpAny_call_entry slot_cit_iter hT entry_cit_iter ?_ (args_cit_iter _))
  show wpAny _ _ (ret (.ref it)) _ _ s
  exact wpAny_pure ⟨_, rfl, "callable_iterator", _, hT, slot_cit_next.lookup, h⟩

theorem fr_but {g h h2 : Heap} {L it : Addr} {m : Str → Option Value} (F : Fr g L h m) (hk : ∀ b o, b ≠ it → h.get? b = some o → h2.get? b = some o) (h1 : it ≠ L) (h0 : g.get? it = none) : Fr g L h2 m :=
  ⟨F.ns.at' fun o e => hk _ o (Ne.symm h1) e, fun b o e => hk b o (fun q => by rw [q, h0] at e; cases e) (F.keep b o e), F.above⟩
abbrev ItW (a : LexAt) (it q : Addr) (tz : Tok) : List (Addr × Obj) := [(it, citObj (.ref q) (.str (Str.ofString "") tz) (.bool false)), (q, methodObj (.ref 49) (.ref a.lx))]
theorem read_next {w : World} {a : LexAt} (ok : LexOk w a) {cq : Nat} {n : Int} {tn : Tok} {cs : List Value} {us : List Str} {cc : Nat} (hcs : StrsAre cs us) (hlen : us.length ≤ 1000) {it q : Nat} {tz : Tok}
    {loose : List Str} {mean : ExcName → Option Value} {mg mb : Str → Option Value} {dp un : Nat} {gd : Option (List Code)} {cn : Str} {csc : Scope} {fa : Addr} {ccd : Value} {cl : List (Str × Addr)} {outer : List Env} {A₀ : Around} {base g : Heap} {L : Addr} {m : Str → Option Value} {s : Shared} {Q : Option Value → Shared → Prop} {E : Value → Shared → Prop}
    (B : Below A₀ base outer g) (F : Fr g L s.heap m) (X : (Mine.hd.heap_39 w.params).In g) (N : News g L s.heap (ItW a it q tz ++ LexW w a [] cq n tn cs cc)) (T : Top topProg loose mean mg mb g) (hk : csc.kind = .function) (hd : dp + 4 < recursionLimit) (hu : un + 104 < cLine)
    (ho : a.pb < q ∧ q < it)
    (hnil : us = [] → ∀ h' tk tn' cc', Fr g L h' m → News g L h' ((it, citObj .none .none (.bool true)) :: LexW w a [] cq n tn' [] cc') → Q none { s with heap := h', toks := tk })
    (hcons : ∀ y r, us = y :: r → y ≠ Str.ofString "" ∧ ∀ t cs' h' tk tn' cc', StrsAre cs' r → Fr g L h' m → News g L h' (ItW a it q tz ++ LexW w a [] cq (n + if y = "\n" then 1 else 0) tn' cs' cc') → Q (some (.str y t)) { s with heap := h', toks := tk }) :
    wpAny (model PySem.Challenge.rw_sc0030_01.row.prog w) (ktrTop dp un gd cn csc L fa ccd cl outer) (pyNext (.ref it)) Q E s := by
  have hit := (N (it, citObj (.ref q) (.str (Str.ofString "") tz) (.bool false)) (.head _)).1
  have hq := (N (q, methodObj (.ref 49) (.ref a.lx)) (.tail _ (.head _))).1
  obtain ⟨fo, fd, hfo, hfd⟩ : ∃ fo fd, (Mine.hd.heap_39 w.params).lookup 49 = some fo ∧ fo.data = .func fd := ⟨_, _, rfl, rfl⟩
  have hf := (X.keeps F.keep) _ _ hfo
  obtain ⟨⟨o1, o2, o3, o4, o5, o6, o7, o8, o9⟩, hR⟩ := id ok
  refine cit_next rfl hit hq hf hfd (wpAny_call (method_call hq ?_))
  have hdis : ∀ p ∈ LexW w a [] cq n tn cs cc, ∀ r ∈ ItW a it q tz, p.1 ≠ r.1 := by ((refine lex_dis (by assumption) ?_; repeat (first | exact List.forall_mem_nil _ | refine List.forall_mem_cons.mpr ⟨by first | (left; (try dsimp only); with_reducible assumption) | (right; (try dsimp only); with_reducible assumption) | (left; (try dsimp only); omega) | (right; (try dsimp only); omega), ?_⟩)))
  have hdis2 : ∀ tn' cc', ∀ p ∈ LexW w a [] cq n tn' [] cc', p.1 ≠ it := fun tn' cc' p hp e => Nat.lt_irrefl _ (Nat.lt_of_le_of_lt (Nat.le_trans (Nat.le_of_eq e.symm) (lex_in ok p hp).2) (Nat.lt_trans ho.1 ho.2))
  refine read_spec w a ok [] cq n tn cs us cc hcs hlen (ItW a it q tz) loose mean mg mb dp (un + 1) gd cn csc fa ccd cl outer A₀ base g L m s _ _ B F X (fun p hp => N p (by
    rcases List.mem_append.mp hp with h | h
    · exact List.mem_append_right _ h
    · exact List.mem_append_left _ h)) ?_ T hk hd (by omega) ?_
  · ((refine lex_dis (by assumption) ?_; repeat (first | exact List.forall_mem_nil _ | refine List.forall_mem_cons.mpr ⟨by first | (left; (try dsimp only); with_reducible assumption) | (right; (try dsimp only); with_reducible assumption) | (left; (try dsimp only); omega) | (right; (try dsimp only); omega), ?_⟩)))
  intro r W' h' tk' hp F' N' _
  obtain ⟨tn', cc', hp⟩ := hp
  cases hcs with
  | nil =>
    obtain ⟨⟨t, rfl⟩, rfl⟩ := hp
    have g1 := N' (it, citObj (.ref q) (.str (Str.ofString "") tz) (.bool false)) (List.mem_append_right _ (.head _))
    have g2 := N' (q, methodObj (.ref 49) (.ref a.lx)) (List.mem_append_right _ (.tail _ (.head _)))
    refine ⟨_, t, rfl, g1.1, g2.1, F'.keep _ _ (X _ _ hfo), fun _ h2 hk2 hit2 => ?_, fun hn => absurd rfl hn⟩
    refine hnil rfl h2 tk' tn' cc' (fr_but F' hk2 g1.2.1 g1.2.2) fun p hp => ?_
    rcases List.mem_cons.mp hp with rfl | hp
    · exact ⟨hit2, g1.2.1, g1.2.2⟩
    · have z := N' p (List.mem_append_left _ hp)
      exact ⟨hk2 _ _ (hdis2 tn' cc' p hp) z.1, z.2⟩
  | cons y t hr =>
    obtain ⟨rfl, rfl⟩ := hp
    have g1 := N' (it, citObj (.ref q) (.str (Str.ofString "") tz) (.bool false)) (List.mem_append_right _ (.head _))
    have g2 := N' (q, methodObj (.ref 49) (.ref a.lx)) (List.mem_append_right _ (.tail _ (.head _)))
    obtain ⟨hne, hc⟩ := hcons _ _ rfl
    refine ⟨y, t, rfl, g1.1, g2.1, F'.keep _ _ (X _ _ hfo), fun h => absurd h hne, fun _ => ?_⟩
    exact hc _ _ _ _ tn' cc' hr F' fun p hp => N' p (by
      rcases List.mem_append.mp hp with h | h
      · exact List.mem_append_right _ h
      · exact List.mem_append_left _ h)
def nlOf (y : Str) : Int := if y = Str.ofString "\n" then 1 else 0
abbrev tokFr (a : LexAt) (it : Addr) (chv : Option Value) (tok : Str) (tt : Tok) : Str → Option Value := fun y => if y = Str.ofString "ch" then chv else if y = Str.ofString "token" then some (.str tok tt) else if y = Str.ofString "fiter" then some (.ref it) else if y = Str.ofString "self" then some (.ref a.lx) else none
theorem tk_c {g h : Heap} {L : Addr} {a : LexAt} {it : Addr} {c0 : Option Value} {tok : Str} {tt : Tok} {v : Value} (F : Fr g L h (fun y => if y = Str.ofString "ch" then some v else tokFr a it c0 tok tt y)) : Fr g L h (tokFr a it (some v) tok tt) := fr_to F fun y => by
  by_cases h1 : y = Str.ofString "ch"
  · subst h1; kernel_rfl
  · simp only [tokFr, if_neg h1]
theorem tk_t {g h : Heap} {L : Addr} {a : LexAt} {it : Addr} {c0 : Option Value} {tok t2 : Str} {tt u2 : Tok} (F : Fr g L h (fun y => if y = Str.ofString "token" then some (.str t2 u2) else tokFr a it c0 tok tt y)) : Fr g L h (tokFr a it c0 t2 u2) := fr_to F fun y => by
  by_cases h1 : y = Str.ofString "token"
  · subst h1; kernel_rfl
  · simp only [tokFr, if_neg h1]
local macro_rules | `(tactic| walk_at "exec For Name Name cons nil") => `(tactic| refine hold_in ?_)
local macro_rules | `(tactic| walk_at "call ref") => `(tactic| ((with_reducible show wpAny _ _ (call (Value.ref 49) _) _ _ _); refine hold_in ?_))
def notWs (y : Str) : Bool := (Builtin.Str.occurrences (Str.ofString "\n\t\r ") y 0 (Str.ofString "\n\t\r ").length 1).isEmpty
abbrev QT : Str := Str.ofString "\""
abbrev BS : Str := Str.ofString "\\"
def run3 : Str → Int → List Str → Option (Str × Int × List Str)
  | _, _, [] => none
  | tok, n, [y] => if notWs y = false then some (tok, n + nlOf y, []) else none
  | tok, n, y :: e :: r => if notWs y = false then some (tok, n + nlOf y, e :: r) else if (y == BS) = true then run3 (tok ++ e) (n + nlOf y + nlOf e) r else run3 (tok ++ y) (n + nlOf y) (e :: r)
def run2 : Str → Int → List Str → Option (Str × Int × List Str)
  | _, _, [] => none
  | tok, n, [y] => if (y == QT) = true then some (tok, n + nlOf y, []) else none
  | tok, n, y :: e :: r => if (y == QT) = true then some (tok, n + nlOf y, e :: r) else if (y == BS) = true then run2 (tok ++ e) (n + nlOf y + nlOf e) r else run2 (tok ++ y) (n + nlOf y) (e :: r)
def run1 : Int → List Str → Option (Str × Int × List Str)
  | n, [] => some (Str.ofString "", n, [])
  | n, y :: r => if notWs y = false then run1 (n + nlOf y) r else if (y == QT) = true then run2 (Str.ofString "") (n + nlOf y) r else if (y == BS) = true then (match r with | [] => none | e :: r' => run3 (Str.ofString "" ++ e) (n + nlOf y + nlOf e) r') else run3 (Str.ofString "" ++ y) (n + nlOf y) r
theorem run3_ws {tok : Str} {n : Int} {y : Str} {r : List Str} (h : notWs y = false) : run3 tok n (y :: r) = some (tok, n + nlOf y, r) := by cases r <;> simp [run3, h]
theorem run3_bs {tok : Str} {n : Int} {y : Str} {r : List Str} {res} (h : notWs y = true) (hb : (y == BS) = true) (hr : run3 tok n (y :: r) = some res) : ∃ e r', r = e :: r' ∧ run3 (tok ++ e) (n + nlOf y + nlOf e) r' = some res := by
  cases r with
  | nil => simp [run3, h] at hr
  | cons e r' => exact ⟨e, r', rfl, by rw [run3, if_neg (by rw [h]; exact Bool.noConfusion), if_pos hb] at hr; exact hr⟩
theorem run3_add {tok : Str} {n : Int} {y : Str} {r : List Str} {res} (h : notWs y = true) (hb : (y == BS) = false) (hr : run3 tok n (y :: r) = some res) : run3 (tok ++ y) (n + nlOf y) r = some res := by
  cases r with
  | nil => simp [run3, h] at hr
  | cons e r' => rw [run3, if_neg (by rw [h]; exact Bool.noConfusion), if_neg (by rw [hb]; exact Bool.noConfusion)] at hr; exact hr
theorem run2_qt {tok : Str} {n : Int} {y : Str} {r : List Str} (h : (y == QT) = true) : run2 tok n (y :: r) = some (tok, n + nlOf y, r) := by cases r <;> simp only [run2, if_pos h]
theorem run2_bs {tok : Str} {n : Int} {y : Str} {r : List Str} {res} (h : (y == QT) = false) (hb : (y == BS) = true) (hr : run2 tok n (y :: r) = some res) : ∃ e r', r = e :: r' ∧ run2 (tok ++ e) (n + nlOf y + nlOf e) r' = some res := by
  cases r with
  | nil => rw [run2, if_neg (by rw [h]; exact Bool.noConfusion)] at hr; cases hr
  | cons e r' => exact ⟨e, r', rfl, by rw [run2, if_neg (by rw [h]; exact Bool.noConfusion), if_pos hb] at hr; exact hr⟩
theorem run2_add {tok : Str} {n : Int} {y : Str} {r : List Str} {res} (h : (y == QT) = false) (hb : (y == BS) = false) (hr : run2 tok n (y :: r) = some res) : run2 (tok ++ y) (n + nlOf y) r = some res := by
  cases r with
  | nil => rw [run2, if_neg (by rw [h]; exact Bool.noConfusion)] at hr; cases hr
  | cons e r' => rw [run2, if_neg (by rw [h]; exact Bool.noConfusion), if_neg (by rw [hb]; exact Bool.noConfusion)] at hr; exact hr
theorem run1_ws {n : Int} {y : Str} {r : List Str} {res} (h : notWs y = false) (hr : run1 n (y :: r) = some res) : run1 (n + nlOf y) r = some res := by unfold run1 at hr; rw [if_pos h] at hr; exact hr
theorem run1_qt {n : Int} {y : Str} {r : List Str} {res} (h : notWs y = true) (hq : (y == QT) = true) (hr : run1 n (y :: r) = some res) : run2 (Str.ofString "") (n + nlOf y) r = some res := by
  unfold run1 at hr
  rw [if_neg (by rw [h]; exact Bool.noConfusion), if_pos hq] at hr; exact hr
theorem run1_bs {n : Int} {y : Str} {r : List Str} {res} (h : notWs y = true) (hq : (y == QT) = false) (hb : (y == BS) = true) (hr : run1 n (y :: r) = some res) : ∃ e r', r = e :: r' ∧ run3 (Str.ofString "" ++ e) (n + nlOf y + nlOf e) r' = some res := by
  unfold run1 at hr
  rw [if_neg (by rw [h]; exact Bool.noConfusion), if_neg (by rw [hq]; exact Bool.noConfusion), if_pos hb] at hr
  cases r with
  | nil => cases hr
  | cons e r' => exact ⟨e, r', rfl, hr⟩
theorem run1_add {n : Int} {y : Str} {r : List Str} {res} (h : notWs y = true) (hq : (y == QT) = false) (hb : (y == BS) = false) (hr : run1 n (y :: r) = some res) : run3 (Str.ofString "" ++ y) (n + nlOf y) r = some res := by
  unfold run1 at hr
  rw [if_neg (by rw [h]; exact Bool.noConfusion), if_neg (by rw [hq]; exact Bool.noConfusion), if_neg (by rw [hb]; exact Bool.noConfusion)] at hr; exact hr
/-- the sign that a backslash stands for, or the sign itself -/
def eat (y : Str) (us : List Str) : Option (Str × Int × List Str) := if (y == BS) = true then (match us with | [] => none | e :: r => some (e, nlOf e, r)) else some (y, 0, us)
theorem run3_eat {tok : Str} {n : Int} {y : Str} {r : List Str} {res} (h : notWs y = true) (hr : run3 tok n (y :: r) = some res) : ∃ c k r2, eat y r = some (c, k, r2) ∧ run3 (tok ++ c) (n + nlOf y + k) r2 = some res := by
  cases hb : (y == BS) with
  | true =>
    obtain ⟨e, r', rfl, hr'⟩ := run3_bs h hb hr
    exact ⟨e, nlOf e, r', by unfold eat; rw [if_pos hb], hr'⟩
  | false =>
    have hy : nlOf y = nlOf y + 0 := (Int.add_zero _).symm
    exact ⟨y, 0, r, by unfold eat; rw [if_neg (by rw [hb]; exact Bool.noConfusion)], by rw [Int.add_zero]; exact run3_add h hb hr⟩
theorem run2_eat {tok : Str} {n : Int} {y : Str} {r : List Str} {res} (h : (y == QT) = false) (hr : run2 tok n (y :: r) = some res) : ∃ c k r2, eat y r = some (c, k, r2) ∧ run2 (tok ++ c) (n + nlOf y + k) r2 = some res := by
  cases hb : (y == BS) with
  | true =>
    obtain ⟨e, r', rfl, hr'⟩ := run2_bs h hb hr
    exact ⟨e, nlOf e, r', by unfold eat; rw [if_pos hb], hr'⟩
  | false => exact ⟨y, 0, r, by unfold eat; rw [if_neg (by rw [hb]; exact Bool.noConfusion)], by rw [Int.add_zero]; exact run2_add h hb hr⟩
theorem run1_eat {n : Int} {y : Str} {r : List Str} {res} (h : notWs y = true) (hq : (y == QT) = false) (hr : run1 n (y :: r) = some res) : ∃ c k r2, eat y r = some (c, k, r2) ∧ run3 (Str.ofString "" ++ c) (n + nlOf y + k) r2 = some res := by
  cases hb : (y == BS) with
  | true =>
    obtain ⟨e, r', rfl, hr'⟩ := run1_bs h hq hb hr
    exact ⟨e, nlOf e, r', by unfold eat; rw [if_pos hb], hr'⟩
  | false => exact ⟨y, 0, r, by unfold eat; rw [if_neg (by rw [hb]; exact Bool.noConfusion)], by rw [Int.add_zero]; exact run1_add h hq hb hr⟩
theorem eat_ok {y c : Str} {us r : List Str} {k : Int} (h : eat y us = some (c, k, r)) (hy : y.length = 1) (ho : ∀ z ∈ us, z.length = 1) : c.length = 1 ∧ r.length ≤ us.length ∧ ∀ z ∈ r, z.length = 1 := by
  unfold eat at h
  by_cases hb : (y == BS) = true
  · rw [if_pos hb] at h
    cases us with
    | nil => cases h
    | cons e r' =>
      cases h
      exact ⟨ho _ (.head _), Nat.le_succ _, fun z hz => ho z (.tail _ hz)⟩
  · rw [if_neg hb] at h
    cases h
    exact ⟨hy, Nat.le_refl _, ho⟩
theorem eat_bs {y c : Str} {us r : List Str} {k : Int} (hb : (y == BS) = true) (h : eat y us = some (c, k, r)) : us = c :: r ∧ k = nlOf c := by
  unfold eat at h
  rw [if_pos hb] at h
  cases us with
  | nil => cases h
  | cons e r' => cases h; exact ⟨rfl, rfl⟩
theorem eat_no {y c : Str} {us r : List Str} {k : Int} (hb : (y == BS) = false) (h : eat y us = some (c, k, r)) : c = y ∧ k = 0 ∧ r = us := by
  unfold eat at h
  rw [if_neg (by rw [hb]; exact Bool.noConfusion)] at h
  cases h; exact ⟨rfl, rfl, rfl⟩
theorem tok_sz {t c : Str} {r r2 : Nat} (hc : c.length = 1) (h2 : r2 ≤ r) (h : t.length + (r + 1) ≤ 1000) : (t ++ c).length + r2 ≤ 1000 := by rw [Str.length_append, hc]; omega
theorem tok_sz2 {t c : Str} {r : Nat} (hc : c.length = 1) (h : t.length + (r + 1) ≤ 1000) : t.length + c.length ≤ sizeLine := by rw [hc, sizeLine_eq]; omega
theorem strs_cons {e : Str} {r : List Str} {vs : List Value} (h : StrsAre vs (e :: r)) : ∃ t vs', vs = .str e t :: vs' ∧ StrsAre vs' r := by cases h with | cons _ t h => exact ⟨t, _, rfl, h⟩
theorem swap_in {W rest : List (Addr × Obj)} : ∀ p ∈ W ++ rest, p ∈ rest ++ W := fun _ hp => List.mem_append.mpr (List.mem_append.mp hp).symm
set_option maxHeartbeats 8000000 in
theorem bs_step {w : World} {a : LexAt} (ok : LexOk w a) {p1 p2 p3 p4 p5 p6 p7 p8 p9 : Pos} {loose : List Str} {mean : ExcName → Option Value} {mg mb : Str → Option Value} {dp un : Nat} {gd : Option (List Code)} {fa : Addr} {ccd : Value} {outer : List Env} {A₀ : Around} {base g : Heap} {L it q : Nat} {tz tt ty : Tok} {tok y c : Str} {k n : Int} {us r : List Str} {cs : List Value} {cq : Nat} {tn : Tok} {cc : Nat} {s : Shared} {Q : Flow → Shared → Prop} {E : Value → Shared → Prop}
    (B : Below A₀ base outer g) (F : Fr g L s.heap (tokFr a it (some (.str y ty)) tok tt)) (X : (Mine.hd.heap_39 w.params).In g) (N : News g L s.heap (ItW a it q tz ++ LexW w a [] cq n tn cs cc)) (T : Top topProg loose mean mg mb g) (hd : dp + 4 < recursionLimit) (hu : un + 104 < cLine) (ho : a.pb < q ∧ q < it) (hcs : StrsAre cs us) (hlen : us.length ≤ 1000) (he : eat y us = some (c, k, r)) {pl : Sem Bool}
    (hpl : eval (.Call (.Attribute (.Name (Str.ofString "self") p5) (Str.ofString "_read_char") p6) [] [] p7) (envOf (Str.ofString "_netrclex.get_token") { kind := ScopeKind.function, names := [(Str.ofString "self", NameKind.local), (Str.ofString "token", NameKind.local), (Str.ofString "fiter", NameKind.local), (Str.ofString "ch", NameKind.local), (Str.ofString "iter", NameKind.globalImplicit)], isGenerator := false, isCoroutine := false } L fa ccd) = (do
      let ov ← eval (.Name (Str.ofString "self") p5) (envOf (Str.ofString "_netrclex.get_token") { kind := ScopeKind.function, names := [(Str.ofString "self", NameKind.local), (Str.ofString "token", NameKind.local), (Str.ofString "fiter", NameKind.local), (Str.ofString "ch", NameKind.local), (Str.ofString "iter", NameKind.globalImplicit)], isGenerator := false, isCoroutine := false } L fa ccd)
      standAt p6.atName
      let (f, first) ← holding [ov] (getMethod ov (Str.ofString "_read_char") pl)
      callWith p7 f first (backTo p7 (starEach [] (envOf (Str.ofString "_netrclex.get_token") { kind := ScopeKind.function, names := [(Str.ofString "self", NameKind.local), (Str.ofString "token", NameKind.local), (Str.ofString "fiter", NameKind.local), (Str.ofString "ch", NameKind.local), (Str.ofString "iter", NameKind.globalImplicit)], isGenerator := false, isCoroutine := false } L fa ccd))) []))
    (h : ∀ tc tn' cs' cc' h' tk', StrsAre cs' r → Fr g L h' (tokFr a it (some (.str c tc)) tok tt) → News g L h' (ItW a it q tz ++ LexW w a [] cq (n + k) tn' cs' cc') → Q .next { s with heap := h', toks := tk' }) :
    wpAny (model PySem.Challenge.rw_sc0030_01.row.prog w) (ktrTop dp un gd (Str.ofString "_netrclex.get_token") { kind := ScopeKind.function, names := [(Str.ofString "self", NameKind.local), (Str.ofString "token", NameKind.local), (Str.ofString "fiter", NameKind.local), (Str.ofString "ch", NameKind.local), (Str.ofString "iter", NameKind.globalImplicit)], isGenerator := false, isCoroutine := false } L fa ccd [] outer) (exec (.If (.Compare (.Name (Str.ofString "ch") p1) [.Eq] [.Constant (.str (Str.ofString "\\")) 0 p2] p3) [.Assign [.Name (Str.ofString "ch") p4] (.Call (.Attribute (.Name (Str.ofString "self") p5) (Str.ofString "_read_char") p6) [] [] p7) p8] [] p9) (envOf (Str.ofString "_netrclex.get_token") { kind := ScopeKind.function, names := [(Str.ofString "self", NameKind.local), (Str.ofString "token", NameKind.local), (Str.ofString "fiter", NameKind.local), (Str.ofString "ch", NameKind.local), (Str.ofString "iter", NameKind.globalImplicit)], isGenerator := false, isCoroutine := false } L fa ccd)) Q E s := by
  revert X
  k_fill
  intro X
  have kM := kstMark
  have hC9 := codeHd_of_K (c := 76) (P := 72) X (by kernel_rfl)
  k_with_none
  refine wpAny_If ?_
  (repeat' (first |  (k_unfold; (try dsimp only)) | ((with_reducible show wpAny _ _ (eval (Expr.Call (Expr.Attribute _ (Str.ofString "_read_char") _) _ _ _) _) _ _ _); refine MethodCall_ ?_ (by with_reducible assumption)) | ((with_reducible show wpAny _ _ (inplaceOp Operator.Add (Value.str _ _) (Value.str _ _)) _ _ _); refine SBL.iadd (hsz := by assumption) ?_; intro _ _ _) | ((with_reducible show wpAny _ _ (exec (Stmt.If (Expr.Compare _ [CmpOp.Eq] _ _) [Stmt.Assign _ _ _] [] _) _) _ _ _); refine hold_in ?_) | (k_here; (with_reducible show wpAny _ _ (eval (Expr.Name _ _) (compEnv _ _ _)) _ _ _); k_dflt (first | (refine name_locS rfl rfl rfl (by decide) (by with_reducible assumption) (by assumption) ?_; k_whole) | (refine nameG_BS rfl rfl rfl rfl (by decide) (by k_asm) (by k_asm) (by k_asm) (by k_is) (by boot_fast) (by decide) ?_; k_whole))) | (k_here; (with_reducible show wpAny _ _ (call (Value.type _) [Value.str _ _]) _ _ _); k_dflt (refine list_strN rfl (by k_asm) (by k_asm) ?_ (by rw [sizeLine_eq]; omega)); intro D9 ys9 c9 h9 tk9 F9 N9 l9 m9 hS9; (try k_lt l9); (try k_sweep)) | (k_here; (with_reducible show wpAny _ _ (compareOp CmpOp.NotEq (Value.ref _) (Value.ref _)) _ _ _); k_dflt (first | refine strs_ne_nil (by is_list) (by is_list) (by ke_room) ?_ | refine strs_ne_cons (by is_list) (by is_list) (by k_asm) (by ke_room) ?_ | refine strs_ne (by is_list) (by is_list) (by first | k_asm | exact StrsAre.nil) (by first | exact StrsAre.nil | k_asm) (by ke_room) ?_)) | (k_here; (with_reducible show wpAny _ _ (compareOp CmpOp.Eq (Value.ref _) (Value.ref _)) _ _ _); k_dflt (refine strs_eq (by is_list) (by is_list) (by first | k_asm | exact StrsAre.nil) (by first | exact StrsAre.nil | k_asm) (by ke_room) ?_)) | (k_here; (with_reducible show wpAny _ _ (call (Value.builtin _) [Value.ref _, Value.int 0 _]) _ _ _); k_dflt (refine pop_first (by k_asm) (by k_asm) (by k_upd) (by (rw [sizeLine_eq]; (try have hL9 := PyProof.Rows.StrsAre.length (by assumption)); (try simp only [List.length_cons] at *); omega)) ?_; k_whole); intro h9 F9 N9; (try k_sweep)) | (k_here; (with_reducible show wpAny _ _ (call (Value.builtin "len") [Value.str _ _]) _ _ _); refine len_str (by omega) ?_) | (k_here; (with_reducible show wpAny _ _ (call (Value.builtin "len") [Value.ref _]) _ _ _); k_dflt (refine len_strsA (by is_list) (by assumption) (by ((try simp only [List.length_map]); omega)) ?_; k_whole); (try simp only [List.length_map])) | walk1 | (dsimp only; walk1) | (dsimp only; k_unfold; (try dsimp only)) | fail "no step"))
  · obtain ⟨rfl, rfl⟩ := eat_bs (by assumption) he
    obtain ⟨t2, cs2, rfl, hcs2⟩ := strs_cons hcs
    refine hold_out ?_
    refine Spec.use (read_spec w a ok [] cq n tn _ _ cc (StrsAre.cons c t2 hcs2) hlen) (ItW a it q tz) B (by assumption) X (by assumption) T rfl swap_in ?_ (by omega) (by omega) ?_
    · exact lex_dis ok (List.forall_mem_cons.mpr ⟨.inr (Nat.lt_trans ho.1 ho.2), List.forall_mem_cons.mpr ⟨.inr ho.1, List.forall_mem_nil _⟩⟩)
    intro rv W' h2 tk2 hp F4 N4 _
    obtain ⟨tn2, cc2, rfl, rfl⟩ := hp
    clear N F
    (repeat' (first |  (k_unfold; (try dsimp only)) | ((with_reducible show wpAny _ _ (eval (Expr.Call (Expr.Attribute _ (Str.ofString "_read_char") _) _ _ _) _) _ _ _); refine MethodCall_ ?_ (by with_reducible assumption)) | ((with_reducible show wpAny _ _ (inplaceOp Operator.Add (Value.str _ _) (Value.str _ _)) _ _ _); refine SBL.iadd (hsz := by assumption) ?_; intro _ _ _) | ((with_reducible show wpAny _ _ (exec (Stmt.If (Expr.Compare _ [CmpOp.Eq] _ _) [Stmt.Assign _ _ _] [] _) _) _ _ _); refine hold_in ?_) | (k_here; (with_reducible show wpAny _ _ (eval (Expr.Name _ _) (compEnv _ _ _)) _ _ _); k_dflt (first | (refine name_locS rfl rfl rfl (by decide) (by with_reducible assumption) (by assumption) ?_; k_whole) | (refine nameG_BS rfl rfl rfl rfl (by decide) (by k_asm) (by k_asm) (by k_asm) (by k_is) (by boot_fast) (by decide) ?_; k_whole))) | (k_here; (with_reducible show wpAny _ _ (call (Value.type _) [Value.str _ _]) _ _ _); k_dflt (refine list_strN rfl (by k_asm) (by k_asm) ?_ (by rw [sizeLine_eq]; omega)); intro D9 ys9 c9 h9 tk9 F9 N9 l9 m9 hS9; (try k_lt l9); (try k_sweep)) | (k_here; (with_reducible show wpAny _ _ (compareOp CmpOp.NotEq (Value.ref _) (Value.ref _)) _ _ _); k_dflt (first | refine strs_ne_nil (by is_list) (by is_list) (by ke_room) ?_ | refine strs_ne_cons (by is_list) (by is_list) (by k_asm) (by ke_room) ?_ | refine strs_ne (by is_list) (by is_list) (by first | k_asm | exact StrsAre.nil) (by first | exact StrsAre.nil | k_asm) (by ke_room) ?_)) | (k_here; (with_reducible show wpAny _ _ (compareOp CmpOp.Eq (Value.ref _) (Value.ref _)) _ _ _); k_dflt (refine strs_eq (by is_list) (by is_list) (by first | k_asm | exact StrsAre.nil) (by first | exact StrsAre.nil | k_asm) (by ke_room) ?_)) | (k_here; (with_reducible show wpAny _ _ (call (Value.builtin _) [Value.ref _, Value.int 0 _]) _ _ _); k_dflt (refine pop_first (by k_asm) (by k_asm) (by k_upd) (by (rw [sizeLine_eq]; (try have hL9 := PyProof.Rows.StrsAre.length (by assumption)); (try simp only [List.length_cons] at *); omega)) ?_; k_whole); intro h9 F9 N9; (try k_sweep)) | (k_here; (with_reducible show wpAny _ _ (call (Value.builtin "len") [Value.str _ _]) _ _ _); refine len_str (by omega) ?_) | (k_here; (with_reducible show wpAny _ _ (call (Value.builtin "len") [Value.ref _]) _ _ _); k_dflt (refine len_strsA (by is_list) (by assumption) (by ((try simp only [List.length_map]); omega)) ?_; k_whole); (try simp only [List.length_map])) | walk1 | (dsimp only; walk1) | (dsimp only; k_unfold; (try dsimp only)) | fail "no step"))
    rename News _ _ _ _ => N7
    exact h _ _ _ _ _ _ hcs2 (tk_c (by assumption)) (fun p hp => N7 p (swap_in p hp))
  · obtain ⟨rfl, rfl, rfl⟩ := eat_no (by assumption) he
    exact h _ _ _ _ _ _ hcs F (by rw [Int.add_zero]; exact N)
def TokPost (w : World) (a : LexAt) (t0 : Str) (n0 : Int) (rest : List Str) (r : Value) (W' : List (Addr × Obj)) : Prop := ∀ Z : Value → List (Addr × Obj) → Prop, (∀ tt cq' tn' cs' cc', StrsAre cs' rest → Z (.str t0 tt) (LexW w a [] cq' n0 tn' cs' cc')) → Z r W'
theorem tok_all {w : World} {a : LexAt} {t0 : Str} {n0 : Int} {rest : List Str} {Z : Value → List (Addr × Obj) → Heap → Nat → Prop} (d : ∀ h' tk' tt cq' tn' cs' cc', StrsAre cs' rest → Z (.str t0 tt) (LexW w a [] cq' n0 tn' cs' cc') h' tk') : ∀ r W' h' tk', TokPost w a t0 n0 rest r W' → Z r W' h' tk' := fun _ _ h' tk' hp => hp (fun r W' => Z r W' h' tk') (d h' tk')
theorem TokPost.mk {w : World} {a : LexAt} {t0 t1 : Str} {n0 n1 : Int} {rest r1 : List Str} {tt cq' tn' cc' : Nat} {cs' : List Value} (ht : t1 = t0) (hn : n1 = n0) (hr : r1 = rest) (hc : StrsAre cs' r1) : TokPost w a t0 n0 rest (.str t1 tt) (LexW w a [] cq' n1 tn' cs' cc') := by
  subst ht; subst hn; subst hr
  exact fun Z k => k _ _ _ _ _ hc
def tokI (w : World) (a : LexAt) (it q : Addr) (tz : Tok) (g : Heap) (L' : Addr) (s : Shared) (P : Str → Int → List Str → Prop) (k : Nat) (s1 : Shared) : Prop :=
  ∀ Z : Nat → Shared → Prop, (∀ (tok : Str) (n : Int) (us : List Str) (cs : List Value) (tn cc cq tt : Nat) (chv : Option Value) (h : Heap) (tk : Nat), StrsAre cs us → us.length ≤ 1000 → (∀ y ∈ us, y.length = 1) → tok.length + us.length ≤ 1000 → P tok n us →
    Fr g L' h (tokFr a it chv tok tt) → News g L' h (ItW a it q tz ++ LexW w a [] cq n tn cs cc) → Z us.length { s with heap := h, toks := tk }) → Z k s1
theorem tokI_use {w : World} {a : LexAt} {it q : Addr} {tz : Tok} {g : Heap} {L' : Addr} {s : Shared} {P : Str → Int → List Str → Prop} {k : Nat} {s1 : Shared} (h : tokI w a it q tz g L' s P k s1) {Z : Nat → Shared → Prop} (d : ∀ (tok : Str) (n : Int) (us : List Str) (cs : List Value) (tn cc cq tt : Nat) (chv : Option Value) (h : Heap) (tk : Nat), StrsAre cs us → us.length ≤ 1000 → (∀ y ∈ us, y.length = 1) → tok.length + us.length ≤ 1000 → P tok n us →
    Fr g L' h (tokFr a it chv tok tt) → News g L' h (ItW a it q tz ++ LexW w a [] cq n tn cs cc) → Z us.length { s with heap := h, toks := tk }) : Z k s1 := h Z d
theorem tokI_mk {w : World} {a : LexAt} {it q : Addr} {tz : Tok} {g : Heap} {L' : Addr} {s : Shared} {P : Str → Int → List Str → Prop} {tok : Str} {n : Int} {us : List Str} {cs : List Value} {tn cc cq tt : Nat} {chv : Option Value} {h : Heap} {tk : Nat} (N : News g L' h (ItW a it q tz ++ LexW w a [] cq n tn cs cc)) (hP : P tok n us) (hcs : StrsAre cs us) (hlen : us.length ≤ 1000) (hone : ∀ y ∈ us, y.length = 1) (hsz : tok.length + us.length ≤ 1000)
    (F : Fr g L' h (tokFr a it chv tok tt)) : tokI w a it q tz g L' s P us.length { s with heap := h, toks := tk } := fun _ d => d tok n us cs tn cc cq tt chv h tk hcs hlen hone hsz hP F N
theorem Again.mk {I : Nat → Shared → Prop} {n m : Nat} {s : Shared} (h : m < n) (hI : I m s) : Again I n s := ⟨m, h, hI⟩
/-- the loops' common turn: no sign left, or one more -/
theorem turn_next {w : World} {a : LexAt} (ok : LexOk w a) {it q : Nat} {tz : Tok} {loose : List Str} {mean : ExcName → Option Value} {mg mb : Str → Option Value} {dp un : Nat} {gd : Option (List Code)} {cn : Str} {csc : Scope} {fa : Addr} {ccd : Value} {cl : List (Str × Addr)} {outer : List Env} {A₀ : Around} {base g : Heap} {L : Addr} {s : Shared} {P : Str → Int → List Str → Prop} {Q : Nat → Option Value → Shared → Prop} {E : Value → Shared → Prop}
    (B : Below A₀ base outer g) (X : (Mine.hd.heap_39 w.params).In g) (T : Top topProg loose mean mg mb g) (hk : csc.kind = .function) (hd : dp + 4 < recursionLimit) (hu : un + 104 < cLine) (ho : a.pb < q ∧ q < it)
    (hnil : ∀ tok n tt chv cq h' tk tn' cc', P tok n [] → Fr g L h' (tokFr a it chv tok tt) → News g L h' ((it, citObj .none .none (.bool true)) :: LexW w a [] cq n tn' [] cc') → Q 0 none { s with heap := h', toks := tk })
    (hcons : ∀ tok n y r tt chv cq t cs' h' tk tn' cc', P tok n (y :: r) → y.length = 1 → r.length ≤ 1000 → (∀ z ∈ r, z.length = 1) → tok.length + (r.length + 1) ≤ 1000 → StrsAre cs' r → Fr g L h' (tokFr a it chv tok tt) → News g L h' (ItW a it q tz ++ LexW w a [] cq (n + nlOf y) tn' cs' cc') → Q (r.length + 1) (some (.str y t)) { s with heap := h', toks := tk }) :
    ∀ k s1, tokI w a it q tz g L s P k s1 → wpAny (model PySem.Challenge.rw_sc0030_01.row.prog w) (ktrTop dp un gd cn csc L fa ccd cl outer) (pyNext (.ref it)) (Q k) E s1 := by
  intro k s1 hI
  refine tokI_use hI (Z := fun k s1 => wpAny (model PySem.Challenge.rw_sc0030_01.row.prog w) (ktrTop dp un gd cn csc L fa ccd cl outer) (pyNext (.ref it)) (Q k) E s1) ?_
  intro tok n us cs tn cc cq tt chv h tk hcs hlen hone hsz hP F N
  refine read_next ok hcs hlen B F X N T hk hd hu ho ?_ ?_
  · rintro rfl h' tk' tn' cc' F3 N3
    exact hnil tok n tt chv cq h' tk' tn' cc' hP F3 N3
  · rintro y r rfl
    have hy1 : y.length = 1 := hone _ (List.Mem.head _)
    exact ⟨fun e => absurd (by rw [e] at hy1; exact hy1) (show ¬ (Str.ofString "").length = 1 from by decide), fun t cs' h' tk' tn' cc' hcs' F3 N3 => hcons tok n y r tt chv cq t cs' h' tk' tn' cc' hP hy1 (Nat.le_of_succ_le hlen) (fun y hy => hone y (List.Mem.tail _ hy)) hsz hcs' F3 N3⟩
set_option maxHeartbeats 16000000 in
theorem tok_spec2 (w : World) (a : LexAt) (ok : LexOk w a) (cq : Nat) (n : Int) (tn : Tok) (cs : List Value) (us : List Str) (cc : Nat) (hcs : StrsAre cs us) (hlen : us.length ≤ 900) (hone : ∀ y ∈ us, y.length = 1) (t0 : Str) (n0 : Int) (rest : List Str) (hrun : run1 n us = some (t0, n0, rest)) :
    Spec PySem.Challenge.rw_sc0030_01.row.prog (fun w => Mine.hd.heap_39 w.params) w 56 [.ref a.lx] 6 120 (LexW w a [] cq n tn cs cc) (TokPost w a t0 n0 rest) := by
  ((k_fill; k_dflt (refine' spec_plain ?k6_18 ?k7_18 ?h1_18 ?k9_18 ?kB_18 ?c5_18 ?c2_18 ?c3_18 ?c4_18 ?_; (case k6_18 => k_is); (case k7_18 => k_is); (case h1_18 => first | decide | exact Nat.succ_pos _); (case k9_18 => exact rfl); (case kB_18 => exact locs rfl); (case c5_18 => decide); (case c2_18 => exact rfl); (case c3_18 => exact rfl); (case c4_18 => exact rfl); k_whole)))
  intro loose mean mg mb dp un gd env outer base g L' h₁ s tk F' N' B' X' T' lW hd hu
  try dsimp only at X'
  try dsimp only
  try k_fold
  try k_lt lW
  have kM := kstMark
  have hC9 := codeHd_of_K (c := 76) (P := 72) X' (by kernel_rfl)
  k_with_none
  (repeat' (first |  (k_unfold; (try dsimp only)) | ((with_reducible show wpAny _ _ (eval (Expr.Call (Expr.Attribute _ (Str.ofString "_read_char") _) _ _ _) _) _ _ _); refine MethodCall_ ?_ (by with_reducible assumption)) | ((with_reducible show wpAny _ _ (inplaceOp Operator.Add (Value.str _ _) (Value.str _ _)) _ _ _); refine SBL.iadd (hsz := by assumption) ?_; intro _ _ _) | ((with_reducible show wpAny _ _ (exec (Stmt.If (Expr.Compare _ [CmpOp.Eq] _ _) [Stmt.Assign _ _ _] [] _) _) _ _ _); refine hold_in ?_) | (k_here; (with_reducible show wpAny _ _ (eval (Expr.Name _ _) (compEnv _ _ _)) _ _ _); k_dflt (first | (refine name_locS rfl rfl rfl (by decide) (by with_reducible assumption) (by assumption) ?_; k_whole) | (refine nameG_BS rfl rfl rfl rfl (by decide) (by k_asm) (by k_asm) (by k_asm) (by k_is) (by boot_fast) (by decide) ?_; k_whole))) | (k_here; (with_reducible show wpAny _ _ (call (Value.type _) [Value.str _ _]) _ _ _); k_dflt (refine list_strN rfl (by k_asm) (by k_asm) ?_ (by rw [sizeLine_eq]; omega)); intro D9 ys9 c9 h9 tk9 F9 N9 l9 m9 hS9; (try k_lt l9); (try k_sweep)) | (k_here; (with_reducible show wpAny _ _ (compareOp CmpOp.NotEq (Value.ref _) (Value.ref _)) _ _ _); k_dflt (first | refine strs_ne_nil (by is_list) (by is_list) (by ke_room) ?_ | refine strs_ne_cons (by is_list) (by is_list) (by k_asm) (by ke_room) ?_ | refine strs_ne (by is_list) (by is_list) (by first | k_asm | exact StrsAre.nil) (by first | exact StrsAre.nil | k_asm) (by ke_room) ?_)) | (k_here; (with_reducible show wpAny _ _ (compareOp CmpOp.Eq (Value.ref _) (Value.ref _)) _ _ _); k_dflt (refine strs_eq (by is_list) (by is_list) (by first | k_asm | exact StrsAre.nil) (by first | exact StrsAre.nil | k_asm) (by ke_room) ?_)) | (k_here; (with_reducible show wpAny _ _ (call (Value.builtin _) [Value.ref _, Value.int 0 _]) _ _ _); k_dflt (refine pop_first (by k_asm) (by k_asm) (by k_upd) (by (rw [sizeLine_eq]; (try have hL9 := PyProof.Rows.StrsAre.length (by assumption)); (try simp only [List.length_cons] at *); omega)) ?_; k_whole); intro h9 F9 N9; (try k_sweep)) | (k_here; (with_reducible show wpAny _ _ (call (Value.builtin "len") [Value.str _ _]) _ _ _); refine len_str (by omega) ?_) | (k_here; (with_reducible show wpAny _ _ (call (Value.builtin "len") [Value.ref _]) _ _ _); k_dflt (refine len_strsA (by is_list) (by assumption) (by ((try simp only [List.length_map]); omega)) ?_; k_whole); (try simp only [List.length_map])) | walk1 | (dsimp only; walk1) | (dsimp only; k_unfold; (try dsimp only)) | fail "no step"))
  k_dflt (refine iter_two (by k_asm) (by k_asm) (by k_mem) ?_)
  intro it h1 F1 N1 l1 l2
  k_lt l1
  have hqz : ∃ q tz : Nat, News g L' h1 (ItW a it q tz ++ LexW w a [] cq n tn cs cc) ∧ a.pb < q ∧ q < it := by
    refine' ⟨_, _, fun p hp => N1 p ?sub, ?o1, ?o2⟩
    case sub => revert p hp; (repeat (first | exact List.forall_mem_nil _ | refine List.forall_mem_cons.mpr ⟨by k_mem, ?_⟩))
    all_goals omega
  obtain ⟨q, tz, N1', hq1, hq2⟩ := hqz
  clear N1 l1
  (repeat' (first |  (k_unfold; (try dsimp only)) | ((with_reducible show wpAny _ _ (eval (Expr.Call (Expr.Attribute _ (Str.ofString "_read_char") _) _ _ _) _) _ _ _); refine MethodCall_ ?_ (by with_reducible assumption)) | ((with_reducible show wpAny _ _ (inplaceOp Operator.Add (Value.str _ _) (Value.str _ _)) _ _ _); refine SBL.iadd (hsz := by assumption) ?_; intro _ _ _) | ((with_reducible show wpAny _ _ (exec (Stmt.If (Expr.Compare _ [CmpOp.Eq] _ _) [Stmt.Assign _ _ _] [] _) _) _ _ _); refine hold_in ?_) | (k_here; (with_reducible show wpAny _ _ (eval (Expr.Name _ _) (compEnv _ _ _)) _ _ _); k_dflt (first | (refine name_locS rfl rfl rfl (by decide) (by with_reducible assumption) (by assumption) ?_; k_whole) | (refine nameG_BS rfl rfl rfl rfl (by decide) (by k_asm) (by k_asm) (by k_asm) (by k_is) (by boot_fast) (by decide) ?_; k_whole))) | (k_here; (with_reducible show wpAny _ _ (call (Value.type _) [Value.str _ _]) _ _ _); k_dflt (refine list_strN rfl (by k_asm) (by k_asm) ?_ (by rw [sizeLine_eq]; omega)); intro D9 ys9 c9 h9 tk9 F9 N9 l9 m9 hS9; (try k_lt l9); (try k_sweep)) | (k_here; (with_reducible show wpAny _ _ (compareOp CmpOp.NotEq (Value.ref _) (Value.ref _)) _ _ _); k_dflt (first | refine strs_ne_nil (by is_list) (by is_list) (by ke_room) ?_ | refine strs_ne_cons (by is_list) (by is_list) (by k_asm) (by ke_room) ?_ | refine strs_ne (by is_list) (by is_list) (by first | k_asm | exact StrsAre.nil) (by first | exact StrsAre.nil | k_asm) (by ke_room) ?_)) | (k_here; (with_reducible show wpAny _ _ (compareOp CmpOp.Eq (Value.ref _) (Value.ref _)) _ _ _); k_dflt (refine strs_eq (by is_list) (by is_list) (by first | k_asm | exact StrsAre.nil) (by first | exact StrsAre.nil | k_asm) (by ke_room) ?_)) | (k_here; (with_reducible show wpAny _ _ (call (Value.builtin _) [Value.ref _, Value.int 0 _]) _ _ _); k_dflt (refine pop_first (by k_asm) (by k_asm) (by k_upd) (by (rw [sizeLine_eq]; (try have hL9 := PyProof.Rows.StrsAre.length (by assumption)); (try simp only [List.length_cons] at *); omega)) ?_; k_whole); intro h9 F9 N9; (try k_sweep)) | (k_here; (with_reducible show wpAny _ _ (call (Value.builtin "len") [Value.str _ _]) _ _ _); refine len_str (by omega) ?_) | (k_here; (with_reducible show wpAny _ _ (call (Value.builtin "len") [Value.ref _]) _ _ _); k_dflt (refine len_strsA (by is_list) (by assumption) (by ((try simp only [List.length_map]); omega)) ?_; k_whole); (try simp only [List.length_map])) | walk1 | (dsimp only; walk1) | (dsimp only; k_unfold; (try dsimp only)) | fail "no step"))
  refine hold_out ?_
  refine wpAny_For ?_
  walk1
  rename News _ _ _ _ => N1
  refine cit_iter (N1.get (List.Mem.head _)) ?_
  refine' for_inv (tokI w a it q tz g L' s (fun tok n us => tok = Str.ofString "" ∧ run1 n us = some (t0, n0, rest))) rfl rfl (fun _ _ h => h) ?turn us.length ?init
  case init =>
    refine' tokI_mk (chv := none) (tt := ?tt) N1 ⟨rfl, hrun⟩ hcs (by omega) hone (by rw [show (Str.ofString "").length = 0 from rfl]; omega) ?fr
    case fr => ((refine fr_to (by assumption) (fun y => ?_); by_cases h1 : y = Str.ofString "ch"; (subst h1; rfl); by_cases h2 : y = Str.ofString "token"; (subst h2; rfl); by_cases h3 : y = Str.ofString "fiter"; (subst h3; rfl); by_cases h4 : y = Str.ofString "self"; (subst h4; rfl); (simp only [if_neg h1, if_neg h2, if_neg h3, if_neg h4]); (try (show (match y == Str.ofString "self" with | true => some (Value.ref _) | false => none) = none; rw [beq_eq_false_iff_ne.mpr h4]))))
  case turn =>
    clear N1 hcs hlen hone hrun
    refine turn_next ok B' X' T' rfl (by omega) (by omega) ⟨hq1, hq2⟩ ?_ ?_
    · rintro tok n tt chv cq2 h' tk' tn' cc' ⟨rfl, hrun⟩ F3 N3
      obtain ⟨e1, e2, e3⟩ : Str.ofString "" = t0 ∧ n = n0 ∧ [] = rest := by simpa [run1] using hrun
      dsimp only
      (repeat' (first |  (k_unfold; (try dsimp only)) | ((with_reducible show wpAny _ _ (eval (Expr.Call (Expr.Attribute _ (Str.ofString "_read_char") _) _ _ _) _) _ _ _); refine MethodCall_ ?_ (by with_reducible assumption)) | ((with_reducible show wpAny _ _ (inplaceOp Operator.Add (Value.str _ _) (Value.str _ _)) _ _ _); refine SBL.iadd (hsz := by assumption) ?_; intro _ _ _) | ((with_reducible show wpAny _ _ (exec (Stmt.If (Expr.Compare _ [CmpOp.Eq] _ _) [Stmt.Assign _ _ _] [] _) _) _ _ _); refine hold_in ?_) | (k_here; (with_reducible show wpAny _ _ (eval (Expr.Name _ _) (compEnv _ _ _)) _ _ _); k_dflt (first | (refine name_locS rfl rfl rfl (by decide) (by with_reducible assumption) (by assumption) ?_; k_whole) | (refine nameG_BS rfl rfl rfl rfl (by decide) (by k_asm) (by k_asm) (by k_asm) (by k_is) (by boot_fast) (by decide) ?_; k_whole))) | (k_here; (with_reducible show wpAny _ _ (call (Value.type _) [Value.str _ _]) _ _ _); k_dflt (refine list_strN rfl (by k_asm) (by k_asm) ?_ (by rw [sizeLine_eq]; omega)); intro D9 ys9 c9 h9 tk9 F9 N9 l9 m9 hS9; (try k_lt l9); (try k_sweep)) | (k_here; (with_reducible show wpAny _ _ (compareOp CmpOp.NotEq (Value.ref _) (Value.ref _)) _ _ _); k_dflt (first | refine strs_ne_nil (by is_list) (by is_list) (by ke_room) ?_ | refine strs_ne_cons (by is_list) (by is_list) (by k_asm) (by ke_room) ?_ | refine strs_ne (by is_list) (by is_list) (by first | k_asm | exact StrsAre.nil) (by first | exact StrsAre.nil | k_asm) (by ke_room) ?_)) | (k_here; (with_reducible show wpAny _ _ (compareOp CmpOp.Eq (Value.ref _) (Value.ref _)) _ _ _); k_dflt (refine strs_eq (by is_list) (by is_list) (by first | k_asm | exact StrsAre.nil) (by first | exact StrsAre.nil | k_asm) (by ke_room) ?_)) | (k_here; (with_reducible show wpAny _ _ (call (Value.builtin _) [Value.ref _, Value.int 0 _]) _ _ _); k_dflt (refine pop_first (by k_asm) (by k_asm) (by k_upd) (by (rw [sizeLine_eq]; (try have hL9 := PyProof.Rows.StrsAre.length (by assumption)); (try simp only [List.length_cons] at *); omega)) ?_; k_whole); intro h9 F9 N9; (try k_sweep)) | (k_here; (with_reducible show wpAny _ _ (call (Value.builtin "len") [Value.str _ _]) _ _ _); refine len_str (by omega) ?_) | (k_here; (with_reducible show wpAny _ _ (call (Value.builtin "len") [Value.ref _]) _ _ _); k_dflt (refine len_strsA (by is_list) (by assumption) (by ((try simp only [List.length_map]); omega)) ?_; k_whole); (try simp only [List.length_map])) | walk1 | (dsimp only; walk1) | (dsimp only; k_unfold; (try dsimp only)) | fail "no step"))
      exact Back.mk' (TokPost.mk e1 e2 e3 StrsAre.nil) (by assumption) N3 (fun p hp => List.mem_cons_of_mem _ hp) lex_same
    · rintro tok n y r tt chv cq2 t cs' h' tk' tn' cc' ⟨rfl, hrun⟩ hy1 hlr hone' hsz hcs' F3 N3
      dsimp only
      (repeat' (first |  (k_unfold; (try dsimp only)) | ((with_reducible show wpAny _ _ (eval (Expr.Call (Expr.Attribute _ (Str.ofString "_read_char") _) _ _ _) _) _ _ _); refine MethodCall_ ?_ (by with_reducible assumption)) | ((with_reducible show wpAny _ _ (inplaceOp Operator.Add (Value.str _ _) (Value.str _ _)) _ _ _); refine SBL.iadd (hsz := by assumption) ?_; intro _ _ _) | ((with_reducible show wpAny _ _ (exec (Stmt.If (Expr.Compare _ [CmpOp.Eq] _ _) [Stmt.Assign _ _ _] [] _) _) _ _ _); refine hold_in ?_) | (k_here; (with_reducible show wpAny _ _ (eval (Expr.Name _ _) (compEnv _ _ _)) _ _ _); k_dflt (first | (refine name_locS rfl rfl rfl (by decide) (by with_reducible assumption) (by assumption) ?_; k_whole) | (refine nameG_BS rfl rfl rfl rfl (by decide) (by k_asm) (by k_asm) (by k_asm) (by k_is) (by boot_fast) (by decide) ?_; k_whole))) | (k_here; (with_reducible show wpAny _ _ (call (Value.type _) [Value.str _ _]) _ _ _); k_dflt (refine list_strN rfl (by k_asm) (by k_asm) ?_ (by rw [sizeLine_eq]; omega)); intro D9 ys9 c9 h9 tk9 F9 N9 l9 m9 hS9; (try k_lt l9); (try k_sweep)) | (k_here; (with_reducible show wpAny _ _ (compareOp CmpOp.NotEq (Value.ref _) (Value.ref _)) _ _ _); k_dflt (first | refine strs_ne_nil (by is_list) (by is_list) (by ke_room) ?_ | refine strs_ne_cons (by is_list) (by is_list) (by k_asm) (by ke_room) ?_ | refine strs_ne (by is_list) (by is_list) (by first | k_asm | exact StrsAre.nil) (by first | exact StrsAre.nil | k_asm) (by ke_room) ?_)) | (k_here; (with_reducible show wpAny _ _ (compareOp CmpOp.Eq (Value.ref _) (Value.ref _)) _ _ _); k_dflt (refine strs_eq (by is_list) (by is_list) (by first | k_asm | exact StrsAre.nil) (by first | exact StrsAre.nil | k_asm) (by ke_room) ?_)) | (k_here; (with_reducible show wpAny _ _ (call (Value.builtin _) [Value.ref _, Value.int 0 _]) _ _ _); k_dflt (refine pop_first (by k_asm) (by k_asm) (by k_upd) (by (rw [sizeLine_eq]; (try have hL9 := PyProof.Rows.StrsAre.length (by assumption)); (try simp only [List.length_cons] at *); omega)) ?_; k_whole); intro h9 F9 N9; (try k_sweep)) | (k_here; (with_reducible show wpAny _ _ (call (Value.builtin "len") [Value.str _ _]) _ _ _); refine len_str (by omega) ?_) | (k_here; (with_reducible show wpAny _ _ (call (Value.builtin "len") [Value.ref _]) _ _ _); k_dflt (refine len_strsA (by is_list) (by assumption) (by ((try simp only [List.length_map]); omega)) ?_; k_whole); (try simp only [List.length_map])) | walk1 | (dsimp only; walk1) | (dsimp only; k_unfold; (try dsimp only)) | fail "no step"))
      · have hrun' := run1_qt (by assumption) (by assumption) hrun
        refine hold_out ?_
        refine wpAny_For ?_
        walk1
        rename News _ _ _ _ => N5
        refine cit_iter (N5.get (by k_mem)) ?_
        refine' for_inv (tokI w a it q tz g L' s (fun tok n us => run2 tok n us = some (t0, n0, rest))) rfl rfl (fun _ _ h => h) ?turn _ ?init
        case init => exact tokI_mk (P := fun tok n us => run2 tok n us = some (t0, n0, rest)) N5 hrun' hcs' hlr hone' (Nat.le_of_succ_le hsz) (tk_c (by assumption))
        case turn =>
          (try clear N3); (try clear F3)
          clear N5 hcs' hlr hone' hsz hrun hrun' hy1
          refine turn_next ok B' X' T' rfl (by omega) (by omega) ⟨hq1, hq2⟩ ?_ ?_
          · intro tok n tt chv cq2 h' tk' tn' cc' hrun
            cases hrun
          · intro tok n y r tt chv cq2 t cs' h' tk' tn' cc' hrun hy1 hlr hone' hsz hcs' F3 N3
            dsimp only
            (repeat' (first |  (k_unfold; (try dsimp only)) | ((with_reducible show wpAny _ _ (eval (Expr.Call (Expr.Attribute _ (Str.ofString "_read_char") _) _ _ _) _) _ _ _); refine MethodCall_ ?_ (by with_reducible assumption)) | ((with_reducible show wpAny _ _ (inplaceOp Operator.Add (Value.str _ _) (Value.str _ _)) _ _ _); refine SBL.iadd (hsz := by assumption) ?_; intro _ _ _) | ((with_reducible show wpAny _ _ (exec (Stmt.If (Expr.Compare _ [CmpOp.Eq] _ _) [Stmt.Assign _ _ _] [] _) _) _ _ _); refine hold_in ?_) | (k_here; (with_reducible show wpAny _ _ (eval (Expr.Name _ _) (compEnv _ _ _)) _ _ _); k_dflt (first | (refine name_locS rfl rfl rfl (by decide) (by with_reducible assumption) (by assumption) ?_; k_whole) | (refine nameG_BS rfl rfl rfl rfl (by decide) (by k_asm) (by k_asm) (by k_asm) (by k_is) (by boot_fast) (by decide) ?_; k_whole))) | (k_here; (with_reducible show wpAny _ _ (call (Value.type _) [Value.str _ _]) _ _ _); k_dflt (refine list_strN rfl (by k_asm) (by k_asm) ?_ (by rw [sizeLine_eq]; omega)); intro D9 ys9 c9 h9 tk9 F9 N9 l9 m9 hS9; (try k_lt l9); (try k_sweep)) | (k_here; (with_reducible show wpAny _ _ (compareOp CmpOp.NotEq (Value.ref _) (Value.ref _)) _ _ _); k_dflt (first | refine strs_ne_nil (by is_list) (by is_list) (by ke_room) ?_ | refine strs_ne_cons (by is_list) (by is_list) (by k_asm) (by ke_room) ?_ | refine strs_ne (by is_list) (by is_list) (by first | k_asm | exact StrsAre.nil) (by first | exact StrsAre.nil | k_asm) (by ke_room) ?_)) | (k_here; (with_reducible show wpAny _ _ (compareOp CmpOp.Eq (Value.ref _) (Value.ref _)) _ _ _); k_dflt (refine strs_eq (by is_list) (by is_list) (by first | k_asm | exact StrsAre.nil) (by first | exact StrsAre.nil | k_asm) (by ke_room) ?_)) | (k_here; (with_reducible show wpAny _ _ (call (Value.builtin _) [Value.ref _, Value.int 0 _]) _ _ _); k_dflt (refine pop_first (by k_asm) (by k_asm) (by k_upd) (by (rw [sizeLine_eq]; (try have hL9 := PyProof.Rows.StrsAre.length (by assumption)); (try simp only [List.length_cons] at *); omega)) ?_; k_whole); intro h9 F9 N9; (try k_sweep)) | (k_here; (with_reducible show wpAny _ _ (call (Value.builtin "len") [Value.str _ _]) _ _ _); refine len_str (by omega) ?_) | (k_here; (with_reducible show wpAny _ _ (call (Value.builtin "len") [Value.ref _]) _ _ _); k_dflt (refine len_strsA (by is_list) (by assumption) (by ((try simp only [List.length_map]); omega)) ?_; k_whole); (try simp only [List.length_map])) | walk1 | (dsimp only; walk1) | (dsimp only; k_unfold; (try dsimp only)) | fail "no step"))
            · have hw := run2_qt (tok := tok) (n := n) (y := y) (r := r) (by assumption)
              rw [hw] at hrun
              obtain ⟨e1, e2, e3⟩ : tok = t0 ∧ n + nlOf y = n0 ∧ r = rest := by simpa using hrun
              rename News _ _ _ _ => N6
              exact Back.mk' (TokPost.mk e1 e2 e3 hcs') (by assumption) N6 (fun p hp => List.mem_append_right _ hp) lex_same
            · obtain ⟨c, j, r2, he, hrun'⟩ := run2_eat (by assumption) hrun
              obtain ⟨hc1, hr2, hone2⟩ := eat_ok he hy1 hone'
              have hsz3 := tok_sz2 hc1 hsz
              refine hold_out ?_
              rename News _ _ _ _ => N6
              refine bs_step ok B' (tk_c (by assumption)) X' N6 T' (by omega) (by omega) ⟨hq1, hq2⟩ hcs' hlr he rfl ?_
              (try clear N3); (try clear F3); clear N6
              intro tc tn2 cs2 cc2 h2 tk2 hcs2 F4 N4
              try dsimp only
              (repeat' (first |  (k_unfold; (try dsimp only)) | ((with_reducible show wpAny _ _ (eval (Expr.Call (Expr.Attribute _ (Str.ofString "_read_char") _) _ _ _) _) _ _ _); refine MethodCall_ ?_ (by with_reducible assumption)) | ((with_reducible show wpAny _ _ (inplaceOp Operator.Add (Value.str _ _) (Value.str _ _)) _ _ _); refine SBL.iadd (hsz := by assumption) ?_; intro _ _ _) | ((with_reducible show wpAny _ _ (exec (Stmt.If (Expr.Compare _ [CmpOp.Eq] _ _) [Stmt.Assign _ _ _] [] _) _) _ _ _); refine hold_in ?_) | (k_here; (with_reducible show wpAny _ _ (eval (Expr.Name _ _) (compEnv _ _ _)) _ _ _); k_dflt (first | (refine name_locS rfl rfl rfl (by decide) (by with_reducible assumption) (by assumption) ?_; k_whole) | (refine nameG_BS rfl rfl rfl rfl (by decide) (by k_asm) (by k_asm) (by k_asm) (by k_is) (by boot_fast) (by decide) ?_; k_whole))) | (k_here; (with_reducible show wpAny _ _ (call (Value.type _) [Value.str _ _]) _ _ _); k_dflt (refine list_strN rfl (by k_asm) (by k_asm) ?_ (by rw [sizeLine_eq]; omega)); intro D9 ys9 c9 h9 tk9 F9 N9 l9 m9 hS9; (try k_lt l9); (try k_sweep)) | (k_here; (with_reducible show wpAny _ _ (compareOp CmpOp.NotEq (Value.ref _) (Value.ref _)) _ _ _); k_dflt (first | refine strs_ne_nil (by is_list) (by is_list) (by ke_room) ?_ | refine strs_ne_cons (by is_list) (by is_list) (by k_asm) (by ke_room) ?_ | refine strs_ne (by is_list) (by is_list) (by first | k_asm | exact StrsAre.nil) (by first | exact StrsAre.nil | k_asm) (by ke_room) ?_)) | (k_here; (with_reducible show wpAny _ _ (compareOp CmpOp.Eq (Value.ref _) (Value.ref _)) _ _ _); k_dflt (refine strs_eq (by is_list) (by is_list) (by first | k_asm | exact StrsAre.nil) (by first | exact StrsAre.nil | k_asm) (by ke_room) ?_)) | (k_here; (with_reducible show wpAny _ _ (call (Value.builtin _) [Value.ref _, Value.int 0 _]) _ _ _); k_dflt (refine pop_first (by k_asm) (by k_asm) (by k_upd) (by (rw [sizeLine_eq]; (try have hL9 := PyProof.Rows.StrsAre.length (by assumption)); (try simp only [List.length_cons] at *); omega)) ?_; k_whole); intro h9 F9 N9; (try k_sweep)) | (k_here; (with_reducible show wpAny _ _ (call (Value.builtin "len") [Value.str _ _]) _ _ _); refine len_str (by omega) ?_) | (k_here; (with_reducible show wpAny _ _ (call (Value.builtin "len") [Value.ref _]) _ _ _); k_dflt (refine len_strsA (by is_list) (by assumption) (by ((try simp only [List.length_map]); omega)) ?_; k_whole); (try simp only [List.length_map])) | walk1 | (dsimp only; walk1) | (dsimp only; k_unfold; (try dsimp only)) | fail "no step"))
              exact Again.mk (Nat.lt_succ_of_le hr2) (tokI_mk (by assumption) hrun' hcs2 (Nat.le_trans hr2 hlr) hone2 (tok_sz hc1 hr2 hsz) (tk_t (by assumption)))
      · obtain ⟨c, j, r2, he, hrun'⟩ := run1_eat (by assumption) (by assumption) hrun
        obtain ⟨hc1, hr2, hone2⟩ := eat_ok he hy1 hone'
        have hsz3 := tok_sz2 hc1 hsz
        refine hold_out ?_
        rename News _ _ _ _ => N6
        refine bs_step ok B' (tk_c (by assumption)) X' N6 T' (by omega) (by omega) ⟨hq1, hq2⟩ hcs' hlr he rfl ?_
        (try clear N3); (try clear F3); clear N6
        intro tc tn2 cs2 cc2 h2 tk2 hcs2 F4 N4
        try dsimp only
        (repeat' (first |  (k_unfold; (try dsimp only)) | ((with_reducible show wpAny _ _ (eval (Expr.Call (Expr.Attribute _ (Str.ofString "_read_char") _) _ _ _) _) _ _ _); refine MethodCall_ ?_ (by with_reducible assumption)) | ((with_reducible show wpAny _ _ (inplaceOp Operator.Add (Value.str _ _) (Value.str _ _)) _ _ _); refine SBL.iadd (hsz := by assumption) ?_; intro _ _ _) | ((with_reducible show wpAny _ _ (exec (Stmt.If (Expr.Compare _ [CmpOp.Eq] _ _) [Stmt.Assign _ _ _] [] _) _) _ _ _); refine hold_in ?_) | (k_here; (with_reducible show wpAny _ _ (eval (Expr.Name _ _) (compEnv _ _ _)) _ _ _); k_dflt (first | (refine name_locS rfl rfl rfl (by decide) (by with_reducible assumption) (by assumption) ?_; k_whole) | (refine nameG_BS rfl rfl rfl rfl (by decide) (by k_asm) (by k_asm) (by k_asm) (by k_is) (by boot_fast) (by decide) ?_; k_whole))) | (k_here; (with_reducible show wpAny _ _ (call (Value.type _) [Value.str _ _]) _ _ _); k_dflt (refine list_strN rfl (by k_asm) (by k_asm) ?_ (by rw [sizeLine_eq]; omega)); intro D9 ys9 c9 h9 tk9 F9 N9 l9 m9 hS9; (try k_lt l9); (try k_sweep)) | (k_here; (with_reducible show wpAny _ _ (compareOp CmpOp.NotEq (Value.ref _) (Value.ref _)) _ _ _); k_dflt (first | refine strs_ne_nil (by is_list) (by is_list) (by ke_room) ?_ | refine strs_ne_cons (by is_list) (by is_list) (by k_asm) (by ke_room) ?_ | refine strs_ne (by is_list) (by is_list) (by first | k_asm | exact StrsAre.nil) (by first | exact StrsAre.nil | k_asm) (by ke_room) ?_)) | (k_here; (with_reducible show wpAny _ _ (compareOp CmpOp.Eq (Value.ref _) (Value.ref _)) _ _ _); k_dflt (refine strs_eq (by is_list) (by is_list) (by first | k_asm | exact StrsAre.nil) (by first | exact StrsAre.nil | k_asm) (by ke_room) ?_)) | (k_here; (with_reducible show wpAny _ _ (call (Value.builtin _) [Value.ref _, Value.int 0 _]) _ _ _); k_dflt (refine pop_first (by k_asm) (by k_asm) (by k_upd) (by (rw [sizeLine_eq]; (try have hL9 := PyProof.Rows.StrsAre.length (by assumption)); (try simp only [List.length_cons] at *); omega)) ?_; k_whole); intro h9 F9 N9; (try k_sweep)) | (k_here; (with_reducible show wpAny _ _ (call (Value.builtin "len") [Value.str _ _]) _ _ _); refine len_str (by omega) ?_) | (k_here; (with_reducible show wpAny _ _ (call (Value.builtin "len") [Value.ref _]) _ _ _); k_dflt (refine len_strsA (by is_list) (by assumption) (by ((try simp only [List.length_map]); omega)) ?_; k_whole); (try simp only [List.length_map])) | walk1 | (dsimp only; walk1) | (dsimp only; k_unfold; (try dsimp only)) | fail "no step"))
        refine hold_out ?_
        refine wpAny_For ?_
        walk1
        rename News _ _ _ _ => N5
        refine cit_iter (N5.get (by k_mem)) ?_
        refine' for_inv (tokI w a it q tz g L' s (fun tok n us => run3 tok n us = some (t0, n0, rest))) rfl rfl (fun _ _ h => h) ?turn _ ?init
        case init => exact tokI_mk (P := fun tok n us => run3 tok n us = some (t0, n0, rest)) N5 hrun' hcs2 (Nat.le_trans hr2 hlr) hone2 (tok_sz hc1 hr2 hsz) (tk_t (by assumption))
        case turn =>
          (try clear N4); (try clear F4)
          clear N5 hcs' hcs2 hlr hone' hone2 hsz hsz3 hrun hrun' hy1 hc1 hr2 he
          refine turn_next ok B' X' T' rfl (by omega) (by omega) ⟨hq1, hq2⟩ ?_ ?_
          · intro tok n tt chv cq2 h' tk' tn' cc' hrun
            cases hrun
          · intro tok n y r tt chv cq2 t cs' h' tk' tn' cc' hrun hy1 hlr hone' hsz hcs' F3 N3
            dsimp only
            (repeat' (first |  (k_unfold; (try dsimp only)) | ((with_reducible show wpAny _ _ (eval (Expr.Call (Expr.Attribute _ (Str.ofString "_read_char") _) _ _ _) _) _ _ _); refine MethodCall_ ?_ (by with_reducible assumption)) | ((with_reducible show wpAny _ _ (inplaceOp Operator.Add (Value.str _ _) (Value.str _ _)) _ _ _); refine SBL.iadd (hsz := by assumption) ?_; intro _ _ _) | ((with_reducible show wpAny _ _ (exec (Stmt.If (Expr.Compare _ [CmpOp.Eq] _ _) [Stmt.Assign _ _ _] [] _) _) _ _ _); refine hold_in ?_) | (k_here; (with_reducible show wpAny _ _ (eval (Expr.Name _ _) (compEnv _ _ _)) _ _ _); k_dflt (first | (refine name_locS rfl rfl rfl (by decide) (by with_reducible assumption) (by assumption) ?_; k_whole) | (refine nameG_BS rfl rfl rfl rfl (by decide) (by k_asm) (by k_asm) (by k_asm) (by k_is) (by boot_fast) (by decide) ?_; k_whole))) | (k_here; (with_reducible show wpAny _ _ (call (Value.type _) [Value.str _ _]) _ _ _); k_dflt (refine list_strN rfl (by k_asm) (by k_asm) ?_ (by rw [sizeLine_eq]; omega)); intro D9 ys9 c9 h9 tk9 F9 N9 l9 m9 hS9; (try k_lt l9); (try k_sweep)) | (k_here; (with_reducible show wpAny _ _ (compareOp CmpOp.NotEq (Value.ref _) (Value.ref _)) _ _ _); k_dflt (first | refine strs_ne_nil (by is_list) (by is_list) (by ke_room) ?_ | refine strs_ne_cons (by is_list) (by is_list) (by k_asm) (by ke_room) ?_ | refine strs_ne (by is_list) (by is_list) (by first | k_asm | exact StrsAre.nil) (by first | exact StrsAre.nil | k_asm) (by ke_room) ?_)) | (k_here; (with_reducible show wpAny _ _ (compareOp CmpOp.Eq (Value.ref _) (Value.ref _)) _ _ _); k_dflt (refine strs_eq (by is_list) (by is_list) (by first | k_asm | exact StrsAre.nil) (by first | exact StrsAre.nil | k_asm) (by ke_room) ?_)) | (k_here; (with_reducible show wpAny _ _ (call (Value.builtin _) [Value.ref _, Value.int 0 _]) _ _ _); k_dflt (refine pop_first (by k_asm) (by k_asm) (by k_upd) (by (rw [sizeLine_eq]; (try have hL9 := PyProof.Rows.StrsAre.length (by assumption)); (try simp only [List.length_cons] at *); omega)) ?_; k_whole); intro h9 F9 N9; (try k_sweep)) | (k_here; (with_reducible show wpAny _ _ (call (Value.builtin "len") [Value.str _ _]) _ _ _); refine len_str (by omega) ?_) | (k_here; (with_reducible show wpAny _ _ (call (Value.builtin "len") [Value.ref _]) _ _ _); k_dflt (refine len_strsA (by is_list) (by assumption) (by ((try simp only [List.length_map]); omega)) ?_; k_whole); (try simp only [List.length_map])) | walk1 | (dsimp only; walk1) | (dsimp only; k_unfold; (try dsimp only)) | fail "no step"))
            · obtain ⟨c, j, r2, he, hrun'⟩ := run3_eat (by assumption) hrun
              obtain ⟨hc1, hr2, hone2⟩ := eat_ok he hy1 hone'
              have hsz3 := tok_sz2 hc1 hsz
              refine hold_out ?_
              rename News _ _ _ _ => N6
              refine bs_step ok B' (tk_c (by assumption)) X' N6 T' (by omega) (by omega) ⟨hq1, hq2⟩ hcs' hlr he rfl ?_
              (try clear N3); (try clear F3); clear N6
              intro tc tn2 cs2 cc2 h2 tk2 hcs2 F4 N4
              try dsimp only
              (repeat' (first |  (k_unfold; (try dsimp only)) | ((with_reducible show wpAny _ _ (eval (Expr.Call (Expr.Attribute _ (Str.ofString "_read_char") _) _ _ _) _) _ _ _); refine MethodCall_ ?_ (by with_reducible assumption)) | ((with_reducible show wpAny _ _ (inplaceOp Operator.Add (Value.str _ _) (Value.str _ _)) _ _ _); refine SBL.iadd (hsz := by assumption) ?_; intro _ _ _) | ((with_reducible show wpAny _ _ (exec (Stmt.If (Expr.Compare _ [CmpOp.Eq] _ _) [Stmt.Assign _ _ _] [] _) _) _ _ _); refine hold_in ?_) | (k_here; (with_reducible show wpAny _ _ (eval (Expr.Name _ _) (compEnv _ _ _)) _ _ _); k_dflt (first | (refine name_locS rfl rfl rfl (by decide) (by with_reducible assumption) (by assumption) ?_; k_whole) | (refine nameG_BS rfl rfl rfl rfl (by decide) (by k_asm) (by k_asm) (by k_asm) (by k_is) (by boot_fast) (by decide) ?_; k_whole))) | (k_here; (with_reducible show wpAny _ _ (call (Value.type _) [Value.str _ _]) _ _ _); k_dflt (refine list_strN rfl (by k_asm) (by k_asm) ?_ (by rw [sizeLine_eq]; omega)); intro D9 ys9 c9 h9 tk9 F9 N9 l9 m9 hS9; (try k_lt l9); (try k_sweep)) | (k_here; (with_reducible show wpAny _ _ (compareOp CmpOp.NotEq (Value.ref _) (Value.ref _)) _ _ _); k_dflt (first | refine strs_ne_nil (by is_list) (by is_list) (by ke_room) ?_ | refine strs_ne_cons (by is_list) (by is_list) (by k_asm) (by ke_room) ?_ | refine strs_ne (by is_list) (by is_list) (by first | k_asm | exact StrsAre.nil) (by first | exact StrsAre.nil | k_asm) (by ke_room) ?_)) | (k_here; (with_reducible show wpAny _ _ (compareOp CmpOp.Eq (Value.ref _) (Value.ref _)) _ _ _); k_dflt (refine strs_eq (by is_list) (by is_list) (by first | k_asm | exact StrsAre.nil) (by first | exact StrsAre.nil | k_asm) (by ke_room) ?_)) | (k_here; (with_reducible show wpAny _ _ (call (Value.builtin _) [Value.ref _, Value.int 0 _]) _ _ _); k_dflt (refine pop_first (by k_asm) (by k_asm) (by k_upd) (by (rw [sizeLine_eq]; (try have hL9 := PyProof.Rows.StrsAre.length (by assumption)); (try simp only [List.length_cons] at *); omega)) ?_; k_whole); intro h9 F9 N9; (try k_sweep)) | (k_here; (with_reducible show wpAny _ _ (call (Value.builtin "len") [Value.str _ _]) _ _ _); refine len_str (by omega) ?_) | (k_here; (with_reducible show wpAny _ _ (call (Value.builtin "len") [Value.ref _]) _ _ _); k_dflt (refine len_strsA (by is_list) (by assumption) (by ((try simp only [List.length_map]); omega)) ?_; k_whole); (try simp only [List.length_map])) | walk1 | (dsimp only; walk1) | (dsimp only; k_unfold; (try dsimp only)) | fail "no step"))
              exact Again.mk (Nat.lt_succ_of_le hr2) (tokI_mk (by assumption) hrun' hcs2 (Nat.le_trans hr2 hlr) hone2 (tok_sz hc1 hr2 hsz) (tk_t (by assumption)))
            · have hw := run3_ws (tok := tok) (n := n) (y := y) (r := r) (by assumption)
              rw [hw] at hrun
              obtain ⟨e1, e2, e3⟩ : tok = t0 ∧ n + nlOf y = n0 ∧ r = rest := by simpa using hrun
              rename News _ _ _ _ => N6
              exact Back.mk' (TokPost.mk e1 e2 e3 hcs') (by assumption) N6 (fun p hp => List.mem_append_right _ hp) lex_same
      · have hrun' := run1_ws (by assumption) hrun
        try dsimp only
        rename News _ _ _ _ => N6
        exact Again.mk (Nat.lt_succ_self _) (tokI_mk N6 ⟨rfl, hrun'⟩ hcs' hlr hone' (Nat.le_of_succ_le hsz) (tk_c (by assumption)))

end
section
theorem ex1 {α : Sort _} {P : α → Prop} {G : Prop} (h : ∃ a, P a) (k : ∀ a, P a → G) : G := let ⟨a, h⟩ := h; k a h
theorem ex2 {α β : Sort _} {P : α → β → Prop} {G : Prop} (h : ∃ a b, P a b) (k : ∀ a b, P a b → G) : G := let ⟨a, b, h⟩ := h; k a b h
theorem ex3 {α β γ : Sort _} {P : α → β → γ → Prop} {G : Prop} (h : ∃ a b c, P a b c) (k : ∀ a b c, P a b c → G) : G := let ⟨a, b, c, h⟩ := h; k a b c h
theorem ex7 {α β γ δ ε ζ η : Sort _} {P : α → β → γ → δ → ε → ζ → η → Prop} {G : Prop} (h : ∃ a b c d e f g, P a b c d e f g) (k : ∀ a b c d e f g, P a b c d e f g → G) : G := by
  obtain ⟨a, b, c, d, e, f, g, h⟩ := h
  exact k a b c d e f g h
theorem and2 {a b G : Prop} (h : a ∧ b) (k : a → b → G) : G := k h.1 h.2
theorem and3 {a b c G : Prop} (h : a ∧ b ∧ c) (k : a → b → c → G) : G := k h.1 h.2.1 h.2.2
theorem and4 {a b c d G : Prop} (h : a ∧ b ∧ c ∧ d) (k : a → b → c → d → G) : G := k h.1 h.2.1 h.2.2.1 h.2.2.2
theorem and5 {a b c d e G : Prop} (h : a ∧ b ∧ c ∧ d ∧ e) (k : a → b → c → d → e → G) : G := k h.1 h.2.1 h.2.2.1 h.2.2.2.1 h.2.2.2.2
theorem fix_all {X : List (Addr × Obj)} {A : Prop} {Z : List (Addr × Obj) → Prop} (d : A → Z X) : ∀ nx, nx = X ∧ A → Z nx := fun _ h => h.1 ▸ d h.2
theorem vint_all {n : Int} {Z : Value → Prop} (d : ∀ t, Z (.int n t)) : ∀ v, (∃ t, v = .int n t) → Z v := fun _ ⟨t, e⟩ => e ▸ d t
theorem str_all {x : Str} {Z : Value → Heap → Nat → Prop} (d : ∀ h' tk' t, Z (.str x t) h' tk') : ∀ r h' tk', (∃ t, r = .str x t) → Z r h' tk' := fun _ h' tk' ⟨t, e⟩ => e ▸ d h' tk' t
theorem eq_all {v : Value} {Z : Value → Heap → Nat → Prop} (d : ∀ h' tk', Z v h' tk') : ∀ r h' tk', r = v → Z r h' tk' := fun _ h' tk' e => e ▸ d h' tk'
theorem int_all {x : Int} {Z : Value → Heap → Nat → Prop} (d : ∀ h' tk' t, Z (.int x t) h' tk') : ∀ r h' tk', (∃ t, r = .int x t) → Z r h' tk' := fun _ h' tk' ⟨t, e⟩ => e ▸ d h' tk' t
def numOf (l : List Int) : Int := l.foldl (fun a c => a * 16 + c - 65) 0
theorem numOf_snoc (l : List Int) (c : Int) : numOf (l ++ [c]) = numOf l * 16 + c - 65 := by simp [numOf]
set_option maxHeartbeats 8000000 in
theorem number_spec (w : World) (x : Str) (t : Tok) : Spec PySem.Challenge.rw_sc0030_01.row.prog (fun w => Mine.hd.heap_39 w.params) w 89 [.str x t] 2 90 [] (fun r W' => (∃ t, r = .int (numOf (KStt.codes x)) t) ∧ W' = []) := by
  ((k_fill; k_dflt (refine' spec_plain ?k6_21 ?k7_21 ?h1_21 ?k9_21 ?kB_21 ?c5_21 ?c2_21 ?c3_21 ?c4_21 ?_; (case k6_21 => k_is); (case k7_21 => k_is); (case h1_21 => first | decide | exact Nat.succ_pos _); (case k9_21 => exact rfl); (case kB_21 => exact locs rfl); (case c5_21 => decide); (case c2_21 => exact rfl); (case c3_21 => exact rfl); (case c4_21 => exact rfl); k_whole)))
  intro loose mean mg mb dp un gd env outer base g L' h₁ s tk F' N' B' X' T' lW hd hu
  try dsimp only at X'
  try dsimp only
  try k_fold
  try k_lt lW
  have kM := kstMark
  k_with_none
  k_with "pyIter str" => k_state (fun pre n => n = numOf pre) "number"
  k_with "state" => rfl
  (repeat' (first |  (k_unfold; (try dsimp only)) | (k_here; (with_reducible show wpAny _ _ (eval (Expr.Name _ _) (compEnv _ _ _)) _ _ _); k_dflt (first | (refine name_locS rfl rfl rfl (by decide) (by with_reducible assumption) (by assumption) ?_; k_whole) | (refine nameG_BS rfl rfl rfl rfl (by decide) (by k_asm) (by k_asm) (by k_asm) (by k_is) (by boot_fast) (by decide) ?_; k_whole))) | (k_here; (with_reducible show wpAny _ _ (call (Value.type _) [Value.str _ _]) _ _ _); k_dflt (refine list_strN rfl (by k_asm) (by k_asm) ?_ (by rw [sizeLine_eq]; omega)); intro D9 ys9 c9 h9 tk9 F9 N9 l9 m9 hS9; (try k_lt l9); (try k_sweep)) | (k_here; (with_reducible show wpAny _ _ (compareOp CmpOp.NotEq (Value.ref _) (Value.ref _)) _ _ _); k_dflt (first | refine strs_ne_nil (by is_list) (by is_list) (by ke_room) ?_ | refine strs_ne_cons (by is_list) (by is_list) (by k_asm) (by ke_room) ?_ | refine strs_ne (by is_list) (by is_list) (by first | k_asm | exact StrsAre.nil) (by first | exact StrsAre.nil | k_asm) (by ke_room) ?_)) | (k_here; (with_reducible show wpAny _ _ (compareOp CmpOp.Eq (Value.ref _) (Value.ref _)) _ _ _); k_dflt (refine strs_eq (by is_list) (by is_list) (by first | k_asm | exact StrsAre.nil) (by first | exact StrsAre.nil | k_asm) (by ke_room) ?_)) | (k_here; (with_reducible show wpAny _ _ (call (Value.builtin _) [Value.ref _, Value.int 0 _]) _ _ _); k_dflt (refine pop_first (by k_asm) (by k_asm) (by k_upd) (by (rw [sizeLine_eq]; (try have hL9 := PyProof.Rows.StrsAre.length (by assumption)); (try simp only [List.length_cons] at *); omega)) ?_; k_whole); intro h9 F9 N9; (try k_sweep)) | (k_here; (with_reducible show wpAny _ _ (call (Value.builtin "len") [Value.str _ _]) _ _ _); refine len_str (by omega) ?_) | (k_here; (with_reducible show wpAny _ _ (call (Value.builtin "len") [Value.ref _]) _ _ _); k_dflt (refine len_strsA (by is_list) (by assumption) (by ((try simp only [List.length_map]); omega)) ?_; k_whole); (try simp only [List.length_map])) | walk1 | (dsimp only; walk1) | (dsimp only; k_unfold; (try dsimp only)) | fail "no step"))
  · with_reducible rename _ = numOf _ => hN
    refine kst_end (⟨_, _⟩ : Int × Tok) (by assumption) (by assumption) (by first | kst_in | kst_inAny) (by first | (intro p hp; kst_mem) | kst_anyIn) (by rfl) (by kst_facts) (by kst_all) (by kst_same) ?_
    show _ = numOf _
    rw [numOf_snoc, ← hN]
  · with_reducible rename _ = numOf _ => hN
    exact Back.mk' ⟨⟨_, by rw [hN]⟩, rfl⟩ (by assumption) (by assumption) (fun _ h => nomatch h) (fun _ h => nomatch h)

end
section
local macro_rules | `(tactic| walk_at "exec While Name cons nil") => `(tactic| refine hold_in ?_)
theorem bytes_add {prog : Program} {w : World} {A : Around} {E : Value → Shared → Prop} {s : Shared} {b c : Array UInt8} {t u : Tok} {Q : Value → Shared → Prop} (hsz : b.size + c.size ≤ 16777216) (h : ∀ t' k, Q (.bytes (b.toList ++ c.toList).toArray t') { s with toks := k }) : wpAny (model prog w) A (binaryOp .Add (.bytes b t) (.bytes c u)) Q E s := by
  have := bytes_add_K (prog := prog) (w := w) (A := A) (E := E) (s := s) (b := b.toList) (c := c.toList) (t := t) (u := u) (Q := Q) (by simpa using hsz) rfl h
  simpa using this
abbrev apBytes : Array UInt8 := #[65, 66, 67, 68, 69, 70, 71, 72, 73, 74, 75, 76, 77, 78, 79, 80]
def apL (n : Nat) : List UInt8 := if h : n = 0 then [] else apL (n / 16) ++ [(65 + n % 16).toUInt8]
termination_by n
decreasing_by omega
theorem apL_zero : apL 0 = [] := by unfold apL; rfl
theorem apL_step {n : Nat} (h : n ≠ 0) : apL n = apL (n / 16) ++ [(65 + n % 16).toUInt8] := by
  conv => lhs; unfold apL
  rw [dif_neg h]
theorem pick_ap : ∀ m : Nat, m < 16 → KBy.picked apBytes (some (m : Int)) (some ((m : Int) + 1)) = #[(65 + m).toUInt8] := by decide
abbrev apFr (mo : Option Value) (n : Int) (tn : Tok) (b : Array UInt8) (tb tp : Tok) : Str → Option Value := fun y => if y = Str.ofString "mod" then mo else if y = Str.ofString "num" then some (.int n tn) else if y = Str.ofString "val" then some (.bytes b tb) else if y = Str.ofString "AP" then some (.bytes apBytes tp) else none
def apI (g : Heap) (L' : Addr) (s : Shared) (P : Nat → Array UInt8 → Prop) (k : Nat) (s1 : Shared) : Prop :=
  ∃ (b : Array UInt8) (mo : Option Value) (tn tb tp : Tok) (h : Heap) (tk : Nat), s1 = { s with heap := h, toks := tk } ∧ P k b ∧ Fr g L' h (apFr mo k tn b tb tp)
theorem apI_mk {g : Heap} {L' : Addr} {s : Shared} {P : Nat → Array UInt8 → Prop} {k : Nat} {b : Array UInt8} {mo : Option Value} {tn tb tp : Tok} {h : Heap} {tk : Nat} (hP : P k b) (F : Fr g L' h (apFr mo k tn b tb tp)) : apI g L' s P k { s with heap := h, toks := tk } := ⟨b, mo, tn, tb, tp, h, tk, rfl, hP, F⟩
set_option maxHeartbeats 8000000 in
theorem ap_spec (w : World) (z : Int) (t : Tok) (hz : (apL z.natAbs).length ≤ 1000) : Spec PySem.Challenge.rw_sc0030_01.row.prog (fun w => Mine.hd.heap_39 w.params) w 28 [.int z t] 2 90 [] (fun r W' => (∃ b t, r = .bytes b t ∧ b.toList = apL z.natAbs) ∧ W' = []) := by
  ((k_fill; k_dflt (refine' spec_plain ?k6_24 ?k7_24 ?h1_24 ?k9_24 ?kB_24 ?c5_24 ?c2_24 ?c3_24 ?c4_24 ?_; (case k6_24 => k_is); (case k7_24 => k_is); (case h1_24 => first | decide | exact Nat.succ_pos _); (case k9_24 => exact rfl); (case kB_24 => exact locs rfl); (case c5_24 => decide); (case c2_24 => exact rfl); (case c3_24 => exact rfl); (case c4_24 => exact rfl); k_whole)))
  intro loose mean mg mb dp un gd env outer base g L' h₁ s tk F' N' B' X' T' lW hd hu
  try dsimp only at X'
  try dsimp only
  try k_fold
  try k_lt lW
  have kM := kstMark
  k_with_none
  (repeat' (first |  (k_unfold; (try dsimp only)) | ((with_reducible show wpAny _ _ (binaryOp Operator.Add (Value.bytes _ _) (Value.bytes _ _)) _ _ _); refine bytes_add (by assumption) ?_; intro _ _) | (k_here; (with_reducible show wpAny _ _ (subscriptTail _ (Expr.Slice _ _ none _) (Value.bytes _ _) (Value.ref _)) _ _ _); (rename Fr _ _ _ _ => F'); (rename News _ _ _ _ => N'); k_dflt (refine KBc.slice_K (s := ⟨_, _, _, _, _⟩) F' N' rfl (by constructor) (by constructor) (by decide) ?_); intro h' t' k' F' N' kbcK; (try k_sweep)) | (k_here; (with_reducible show wpAny _ _ (eval (Expr.Name _ _) (compEnv _ _ _)) _ _ _); k_dflt (first | (refine name_locS rfl rfl rfl (by decide) (by with_reducible assumption) (by assumption) ?_; k_whole) | (refine nameG_BS rfl rfl rfl rfl (by decide) (by k_asm) (by k_asm) (by k_asm) (by k_is) (by boot_fast) (by decide) ?_; k_whole))) | (k_here; (with_reducible show wpAny _ _ (call (Value.type _) [Value.str _ _]) _ _ _); k_dflt (refine list_strN rfl (by k_asm) (by k_asm) ?_ (by rw [sizeLine_eq]; omega)); intro D9 ys9 c9 h9 tk9 F9 N9 l9 m9 hS9; (try k_lt l9); (try k_sweep)) | (k_here; (with_reducible show wpAny _ _ (compareOp CmpOp.NotEq (Value.ref _) (Value.ref _)) _ _ _); k_dflt (first | refine strs_ne_nil (by is_list) (by is_list) (by ke_room) ?_ | refine strs_ne_cons (by is_list) (by is_list) (by k_asm) (by ke_room) ?_ | refine strs_ne (by is_list) (by is_list) (by first | k_asm | exact StrsAre.nil) (by first | exact StrsAre.nil | k_asm) (by ke_room) ?_)) | (k_here; (with_reducible show wpAny _ _ (compareOp CmpOp.Eq (Value.ref _) (Value.ref _)) _ _ _); k_dflt (refine strs_eq (by is_list) (by is_list) (by first | k_asm | exact StrsAre.nil) (by first | exact StrsAre.nil | k_asm) (by ke_room) ?_)) | (k_here; (with_reducible show wpAny _ _ (call (Value.builtin _) [Value.ref _, Value.int 0 _]) _ _ _); k_dflt (refine pop_first (by k_asm) (by k_asm) (by k_upd) (by (rw [sizeLine_eq]; (try have hL9 := PyProof.Rows.StrsAre.length (by assumption)); (try simp only [List.length_cons] at *); omega)) ?_; k_whole); intro h9 F9 N9; (try k_sweep)) | (k_here; (with_reducible show wpAny _ _ (call (Value.builtin "len") [Value.str _ _]) _ _ _); refine len_str (by omega) ?_) | (k_here; (with_reducible show wpAny _ _ (call (Value.builtin "len") [Value.ref _]) _ _ _); k_dflt (refine len_strsA (by is_list) (by assumption) (by ((try simp only [List.length_map]); omega)) ?_; k_whole); (try simp only [List.length_map])) | walk1 | (dsimp only; walk1) | (dsimp only; k_unfold; (try dsimp only)) | fail "no step"))
  refine hold_out ?_
  refine wpAny_While ?_
  have ez : (if z < 0 then -z else z) = (z.natAbs : Int) := by split <;> omega
  refine' while_inv (apI g L' s (fun n b => apL n ++ b.toList = apL z.natAbs)) (fun _ _ h => h) ?turn z.natAbs ?init
  case init =>
    refine' apI_mk (mo := none) (b := #[]) (tn := ?t1) (tb := ?t2) (tp := ?t3) (by simp) ?fr
    case fr => rw [← ez]; ((refine fr_to (by assumption) (fun y => ?_); by_cases h1 : y = Str.ofString "mod"; (subst h1; rfl); by_cases h2 : y = Str.ofString "num"; (subst h2; rfl); by_cases h3 : y = Str.ofString "val"; (subst h3; rfl); by_cases h4 : y = Str.ofString "AP"; (subst h4; rfl); (simp only [if_neg h1, if_neg h2, if_neg h3, if_neg h4]); (try (show (match y == Str.ofString "num" with | true => some _ | false => none) = none; rw [beq_eq_false_iff_ne.mpr h2]))))
  case turn =>
    rintro n s1 ⟨b, mo, tn, tb, tp, h, tk, rfl, hP, F2⟩
    replace hP : apL n ++ b.toList = apL z.natAbs := hP
    have N2 : News g L' h [] := News.nil
    have hlb : (apL n).length + b.size ≤ 1000 := by
      have := congrArg List.length hP
      rw [List.length_append, Array.length_toList] at this
      exact Nat.le_trans (Nat.le_of_eq this) hz
    have hm : ((n : Int).fmod 16) = ((n % 16 : Nat) : Int) := by rw [Int.fmod_eq_emod_of_nonneg _ (by decide)]; omega
    have hd2 : ((n : Int).fdiv 16) = ((n / 16 : Nat) : Int) := by rw [Int.fdiv_eq_ediv_of_nonneg _ (by decide)]; omega
    have hsz : (KBy.picked apBytes (some ((n : Int).fmod 16)) (some ((n : Int).fmod 16 + 1))).size + b.size ≤ 16777216 := by
      rw [hm, pick_ap _ (Nat.mod_lt _ (by decide))]
      show 1 + b.size ≤ _
      omega
    (repeat' (first |  (k_unfold; (try dsimp only)) | ((with_reducible show wpAny _ _ (binaryOp Operator.Add (Value.bytes _ _) (Value.bytes _ _)) _ _ _); refine bytes_add (by assumption) ?_; intro _ _) | (k_here; (with_reducible show wpAny _ _ (subscriptTail _ (Expr.Slice _ _ none _) (Value.bytes _ _) (Value.ref _)) _ _ _); (rename Fr _ _ _ _ => F'); (rename News _ _ _ _ => N'); k_dflt (refine KBc.slice_K (s := ⟨_, _, _, _, _⟩) F' N' rfl (by constructor) (by constructor) (by decide) ?_); intro h' t' k' F' N' kbcK; (try k_sweep)) | (k_here; (with_reducible show wpAny _ _ (eval (Expr.Name _ _) (compEnv _ _ _)) _ _ _); k_dflt (first | (refine name_locS rfl rfl rfl (by decide) (by with_reducible assumption) (by assumption) ?_; k_whole) | (refine nameG_BS rfl rfl rfl rfl (by decide) (by k_asm) (by k_asm) (by k_asm) (by k_is) (by boot_fast) (by decide) ?_; k_whole))) | (k_here; (with_reducible show wpAny _ _ (call (Value.type _) [Value.str _ _]) _ _ _); k_dflt (refine list_strN rfl (by k_asm) (by k_asm) ?_ (by rw [sizeLine_eq]; omega)); intro D9 ys9 c9 h9 tk9 F9 N9 l9 m9 hS9; (try k_lt l9); (try k_sweep)) | (k_here; (with_reducible show wpAny _ _ (compareOp CmpOp.NotEq (Value.ref _) (Value.ref _)) _ _ _); k_dflt (first | refine strs_ne_nil (by is_list) (by is_list) (by ke_room) ?_ | refine strs_ne_cons (by is_list) (by is_list) (by k_asm) (by ke_room) ?_ | refine strs_ne (by is_list) (by is_list) (by first | k_asm | exact StrsAre.nil) (by first | exact StrsAre.nil | k_asm) (by ke_room) ?_)) | (k_here; (with_reducible show wpAny _ _ (compareOp CmpOp.Eq (Value.ref _) (Value.ref _)) _ _ _); k_dflt (refine strs_eq (by is_list) (by is_list) (by first | k_asm | exact StrsAre.nil) (by first | exact StrsAre.nil | k_asm) (by ke_room) ?_)) | (k_here; (with_reducible show wpAny _ _ (call (Value.builtin _) [Value.ref _, Value.int 0 _]) _ _ _); k_dflt (refine pop_first (by k_asm) (by k_asm) (by k_upd) (by (rw [sizeLine_eq]; (try have hL9 := PyProof.Rows.StrsAre.length (by assumption)); (try simp only [List.length_cons] at *); omega)) ?_; k_whole); intro h9 F9 N9; (try k_sweep)) | (k_here; (with_reducible show wpAny _ _ (call (Value.builtin "len") [Value.str _ _]) _ _ _); refine len_str (by omega) ?_) | (k_here; (with_reducible show wpAny _ _ (call (Value.builtin "len") [Value.ref _]) _ _ _); k_dflt (refine len_strsA (by is_list) (by assumption) (by ((try simp only [List.length_map]); omega)) ?_; k_whole); (try simp only [List.length_map])) | walk1 | (dsimp only; walk1) | (dsimp only; k_unfold; (try dsimp only)) | fail "no step"))
    · have hn : n ≠ 0 := by omega
      rw [hm, pick_ap _ (Nat.mod_lt _ (by decide)), hd2] at *
      refine' Again.mk (m := n / 16) ?lt (apI_mk (b := ([(65 + n % 16).toUInt8] ++ b.toList).toArray) (tn := ?r1) (tb := ?r2) (tp := ?r3) (mo := ?mo) ?hp ?fr)
      case lt => omega
      case hp => rw [apL_step hn, List.append_assoc] at hP; exact hP
      case fr => ((refine fr_to (by assumption) (fun y => ?_); by_cases h1 : y = Str.ofString "mod"; (subst h1; rfl); by_cases h2 : y = Str.ofString "num"; (subst h2; rfl); by_cases h3 : y = Str.ofString "val"; (subst h3; rfl); by_cases h4 : y = Str.ofString "AP"; (subst h4; rfl); (simp only [if_neg h1, if_neg h2, if_neg h3, if_neg h4]); (try (show (match y == Str.ofString "num" with | true => some _ | false => none) = none; rw [beq_eq_false_iff_ne.mpr h2]))))
    · have hn : n = 0 := by omega
      subst hn
      rw [apL_zero] at hP
      exact Back.mk' ⟨⟨b, _, rfl, hP⟩, rfl⟩ (by assumption) (by assumption) (fun _ h => nomatch h) (fun _ h => nomatch h)

end
section
theorem paired_snd {α β : Type} {F : α → β → Prop} {l₁ : List α} {l₂ : List β} (h : Paired F l₁ l₂) : ∀ {j : Nat} {y : β}, l₂[j]? = some y → ∃ v, l₁[j]? = some v ∧ F v y := by
  induction h with
  | nil => intro j y e; cases e
  | cons hab _ ih =>
    intro j y e
    cases j with
    | zero => simp only [List.getElem?_cons_zero, Option.some.injEq] at e; subst e; exact ⟨_, rfl, hab⟩
    | succ j => exact ih (by simpa using e)
theorem strs_of_get {ys : List Value} {ss : List Str} (hl : ys.length = ss.length) (h : ∀ (j : Nat) (y : Value), ys[j]? = some y → ∃ (x : Str) (t : Tok), ss[j]? = some x ∧ y = .str x t) : StrsAre ys ss := by
  refine StrsAre.ofCarried (carriedAll_of_get _ _ (by simpa using hl) fun j v hv => ?_)
  obtain ⟨x, t, hx, rfl⟩ := h j v hv
  exact ⟨.str x, by simp [hx], .str _ _⟩
/-- a block over bytes: each int makes one text -/
theorem comp_bytes {prog : Program} {w : World} {A : Around} {E : Value → Shared → Prop} {s : Shared} {env : Env} {scope : Scope} {x : Str} {elt : Expr} {Q : Value → Shared → Prop} {b : Array UInt8} {t : Tok} {g : Heap} {L : Addr} {m : Str → Option Value} {news : List (Addr × Obj)} (f : UInt8 → Str)
    (hh : A.handled = none) (F : Fr g L s.heap m) (N : News g L s.heap news) (hsz : b.size ≤ sizeLine)
    (hel : ∀ C (c : UInt8) u s₃ m₃ E', s₃.heap.Ns C m₃ → m₃ x = some (.int (c.toNat : Int) u) → Fr g L s₃.heap m → News g L s₃.heap news → wpAny (model prog w) A (eval elt (compEnv scope C env)) (fun y s₄ => (∃ t, y = .str (f c) t) ∧ Keeps s₃ s₄) E' s₃)
    (hQ : ∀ D ys c h' tk, StrsAre ys (b.toList.map f) → Fr g L h' m → News g L h' ((D, PySem.W.listOf ys.toArray c) :: news) → (∀ p ∈ news, @Ne Nat p.1 D) → Q (.ref D) { s with heap := h', toks := tk }) :
    wpAny (model prog w) A (pyIter (.bytes b t)) (CompPost prog w A env scope x [] elt Q) E s := by
  refine KBw.pyIter_bytes ?_
  have hlt : L < s.heap.objs.size := F.ns.lt
  have old : ∀ b o, s.heap.get? b = some o → b ≠ s.heap.objs.size := fun b o e => Nat.ne_of_lt (Heap.lt_size e)
  refine ⟨fun _ => true, fun v y => ∀ (c : UInt8) u, v = .int (c.toNat : Int) u → ∃ t, y = .str (f c) t, _, _, _, b.size, _, _, rfl, KBw.walks hh _ b t, hsz, ⟨_, Heap.get?_push_size _ rfl, rfl, rfl⟩, ?_, ⟨?_, ?_⟩, ?_⟩
  · intro b hb
    rw [List.mem_singleton.mp hb, Heap.size_push]
    exact Nat.lt_succ_self _
  · intro C i v s₃ m₃ E' hP hn hm hk htk
    exact wpAny_pure ⟨rfl, s₃.heap, s₃.toks, rfl, fun _ _ e => e⟩
  · rintro C i v s₃ m₃ E' ⟨c, u, hc, rfl⟩ _ hn hm hk htk
    have hk3 : ∀ b o, s.heap.get? b = some o → s₃.heap.get? b = some o := fun b o e => hk b o (fun h => old b o e (List.mem_singleton.mp h)) (Heap.get?_push_of_some _ e)
    refine wpAny_mono (hel C c u s₃ m₃ E' hn hm (F.keeps hk3) (fun p hp => ⟨hk3 _ _ (N p hp).1, (N p hp).2⟩)) (fun y s₄ h => ⟨?_, h.2⟩) fun _ _ h => h
    rintro c' u' e
    have e1 : (c.toNat : Int) = (c'.toNat : Int) := by injection e
    have e2 : c = c' := by
      apply UInt8.toNat_inj.mp; omega
    subst e2; exact h.1
  · intro D h' tk ys vs hD hl hpl hlen hP hpair hk
    obtain ⟨c, hc⟩ := hpl
    have hk3 : ∀ b o, s.heap.get? b = some o → h'.get? b = some o := fun b o e => hk b o (fun h => old b o e (List.mem_singleton.mp h)) (Heap.get?_push_of_some _ e)
    have hDs : s.heap.get? D = none := by
      cases q : s.heap.get? D with
      | none => rfl
      | some o => rw [Heap.get?_push_of_some _ q] at hD; cases hD
    have hfv : vs.filter (fun _ => true) = vs := List.filter_eq_self.mpr fun _ _ => rfl
    rw [hfv] at hpair
    have hDL : D ≠ L := fun e => by
      obtain ⟨o, _, _, ho, _⟩ := F.ns
      rw [e, ho] at hDs; cases hDs
    have e : PySem.W.listOf ys c = PySem.W.listOf ys.toList.toArray c := by simp
    refine hQ D ys.toList c h' tk (strs_of_get ?_ fun j y hy => ?_) (F.keeps hk3) (news_to F N hk3 (e ▸ hc) hDL ?_) fun p hp q => ?_
    · rw [List.length_map, ← hpair.length, hlen, Array.length_toList]
    · obtain ⟨v, hv, hF⟩ := paired_snd hpair hy
      obtain ⟨c, u, hc, rfl⟩ := hP j v hv
      obtain ⟨t, rfl⟩ := hF c u rfl
      exact ⟨f c, t, by simp [hc], rfl⟩
    · cases q : g.get? D with
      | none => rfl
      | some o => rw [F.keep _ _ q] at hDs; cases hDs
    · have := (N p hp).1
      rw [q] at this
      rw [hDs] at this; cases this

local macro_rules | `(tactic| walk_at "call ref") => `(tactic| ((with_reducible show wpAny _ _ (call (Value.ref 28) _) _ _ _); refine hold_in ?_))
local macro_rules | `(tactic| walk_at "pyIter bytes") => `(tactic| refine hold_in ?_)
def charOf (c : UInt8) : Str := ⟨#[c.toNat]⟩
def writtenOf (n : Nat) : Str := ⟨((apL n).map UInt8.toNat).toArray⟩
theorem charOf_length (c : UInt8) : (charOf c).length = 1 := rfl
theorem sum_ones {α : Type} (f : α → Str) (h : ∀ a, (f a).length = 1) : ∀ l : List α, ((l.map f).map (·.length)).sum = l.length
  | [] => rfl
  | a :: r => by simp only [List.map_cons, List.sum_cons, h, sum_ones f h r, List.length_cons]; omega
theorem written_len {l : List UInt8} (h : l.length ≤ 1000) : ((l.map charOf).map (·.length)).sum + (l.map charOf).length * (Str.ofString "").length ≤ 16777216 := by
  rw [sum_ones _ charOf_length, show (Str.ofString "").length = 0 from rfl]; omega
theorem join_empty : ∀ ys : List Str, Txt.join (Str.ofString "") ys = ⟨(ys.flatMap (·.cps.toList)).toArray⟩ := by
  have key : ∀ (r : List Str) (acc : Array Nat), r.foldl (fun acc p => acc ++ (Str.ofString "").cps ++ p.cps) acc = acc ++ (r.flatMap (·.cps.toList)).toArray := by
    intro r
    induction r with
    | nil => intro acc; simp
    | cons y r ih =>
      intro acc
      rw [List.foldl_cons, ih, show (Str.ofString "").cps = #[] from rfl]
      apply Array.toList_inj.mp
      simp
  intro ys
  unfold Txt.join Builtin.Str.glued
  cases ys with
  | nil => rfl
  | cons y r =>
    show Str.mk (r.foldl _ y.cps) = _
    rw [key]
    congr 1
    apply Array.toList_inj.mp
    simp
theorem join_chars (l : List UInt8) : Txt.join (Str.ofString "") (l.map charOf) = ⟨(l.map UInt8.toNat).toArray⟩ := by
  rw [join_empty]
  congr 2
  induction l with
  | nil => rfl
  | cons c r ih => simp only [List.map_cons, List.flatMap_cons, ih]; rfl
set_option maxHeartbeats 8000000 in
theorem written_spec (w : World) (z : Int) (t : Tok) (hz : (apL z.natAbs).length ≤ 1000) : Spec PySem.Challenge.rw_sc0030_01.row.prog (fun w => Mine.hd.heap_39 w.params) w 82 [.int z t] 4 95 [] (fun r W' => (∃ t, r = .str (writtenOf z.natAbs) t) ∧ W' = []) := by
  ((k_fill; k_dflt (refine' spec_plain ?k6_25 ?k7_25 ?h1_25 ?k9_25 ?kB_25 ?c5_25 ?c2_25 ?c3_25 ?c4_25 ?_; (case k6_25 => k_is); (case k7_25 => k_is); (case h1_25 => first | decide | exact Nat.succ_pos _); (case k9_25 => exact rfl); (case kB_25 => exact locs rfl); (case c5_25 => decide); (case c2_25 => exact rfl); (case c3_25 => exact rfl); (case c4_25 => exact rfl); k_whole)))
  intro loose mean mg mb dp un gd env outer base g L' h₁ s tk F' N' B' X' T' lW hd hu
  try dsimp only at X'
  try dsimp only
  try k_fold
  try k_lt lW
  have kM := kstMark
  k_with_none
  (repeat' (first |  (k_unfold; (try dsimp only)) | (k_here; (with_reducible show wpAny _ _ (eval (Expr.Name _ _) (compEnv _ _ _)) _ _ _); k_dflt (first | (refine name_locS rfl rfl rfl (by decide) (by with_reducible assumption) (by assumption) ?_; k_whole) | (refine nameG_BS rfl rfl rfl rfl (by decide) (by k_asm) (by k_asm) (by k_asm) (by k_is) (by boot_fast) (by decide) ?_; k_whole))) | (k_here; (with_reducible show wpAny _ _ (call (Value.type _) [Value.str _ _]) _ _ _); k_dflt (refine list_strN rfl (by k_asm) (by k_asm) ?_ (by rw [sizeLine_eq]; omega)); intro D9 ys9 c9 h9 tk9 F9 N9 l9 m9 hS9; (try k_lt l9); (try k_sweep)) | (k_here; (with_reducible show wpAny _ _ (compareOp CmpOp.NotEq (Value.ref _) (Value.ref _)) _ _ _); k_dflt (first | refine strs_ne_nil (by is_list) (by is_list) (by ke_room) ?_ | refine strs_ne_cons (by is_list) (by is_list) (by k_asm) (by ke_room) ?_ | refine strs_ne (by is_list) (by is_list) (by first | k_asm | exact StrsAre.nil) (by first | exact StrsAre.nil | k_asm) (by ke_room) ?_)) | (k_here; (with_reducible show wpAny _ _ (compareOp CmpOp.Eq (Value.ref _) (Value.ref _)) _ _ _); k_dflt (refine strs_eq (by is_list) (by is_list) (by first | k_asm | exact StrsAre.nil) (by first | exact StrsAre.nil | k_asm) (by ke_room) ?_)) | (k_here; (with_reducible show wpAny _ _ (call (Value.builtin _) [Value.ref _, Value.int 0 _]) _ _ _); k_dflt (refine pop_first (by k_asm) (by k_asm) (by k_upd) (by (rw [sizeLine_eq]; (try have hL9 := PyProof.Rows.StrsAre.length (by assumption)); (try simp only [List.length_cons] at *); omega)) ?_; k_whole); intro h9 F9 N9; (try k_sweep)) | (k_here; (with_reducible show wpAny _ _ (call (Value.builtin "len") [Value.str _ _]) _ _ _); refine len_str (by omega) ?_) | (k_here; (with_reducible show wpAny _ _ (call (Value.builtin "len") [Value.ref _]) _ _ _); k_dflt (refine len_strsA (by is_list) (by assumption) (by ((try simp only [List.length_map]); omega)) ?_; k_whole); (try simp only [List.length_map])) | walk1 | (dsimp only; walk1) | (dsimp only; k_unfold; (try dsimp only)) | fail "no step"))
  refine hold_out ?_
  refine Spec.pure (ap_spec w z _ hz) (by assumption) (by assumption) (by assumption) (by assumption) (by assumption) rfl (by omega) (by omega) ?_
  rintro r h1 tk1 ⟨b, tb, rfl, hb⟩ F1 N1
  (repeat' (first |  (k_unfold; (try dsimp only)) | (k_here; (with_reducible show wpAny _ _ (eval (Expr.Name _ _) (compEnv _ _ _)) _ _ _); k_dflt (first | (refine name_locS rfl rfl rfl (by decide) (by with_reducible assumption) (by assumption) ?_; k_whole) | (refine nameG_BS rfl rfl rfl rfl (by decide) (by k_asm) (by k_asm) (by k_asm) (by k_is) (by boot_fast) (by decide) ?_; k_whole))) | (k_here; (with_reducible show wpAny _ _ (call (Value.type _) [Value.str _ _]) _ _ _); k_dflt (refine list_strN rfl (by k_asm) (by k_asm) ?_ (by rw [sizeLine_eq]; omega)); intro D9 ys9 c9 h9 tk9 F9 N9 l9 m9 hS9; (try k_lt l9); (try k_sweep)) | (k_here; (with_reducible show wpAny _ _ (compareOp CmpOp.NotEq (Value.ref _) (Value.ref _)) _ _ _); k_dflt (first | refine strs_ne_nil (by is_list) (by is_list) (by ke_room) ?_ | refine strs_ne_cons (by is_list) (by is_list) (by k_asm) (by ke_room) ?_ | refine strs_ne (by is_list) (by is_list) (by first | k_asm | exact StrsAre.nil) (by first | exact StrsAre.nil | k_asm) (by ke_room) ?_)) | (k_here; (with_reducible show wpAny _ _ (compareOp CmpOp.Eq (Value.ref _) (Value.ref _)) _ _ _); k_dflt (refine strs_eq (by is_list) (by is_list) (by first | k_asm | exact StrsAre.nil) (by first | exact StrsAre.nil | k_asm) (by ke_room) ?_)) | (k_here; (with_reducible show wpAny _ _ (call (Value.builtin _) [Value.ref _, Value.int 0 _]) _ _ _); k_dflt (refine pop_first (by k_asm) (by k_asm) (by k_upd) (by (rw [sizeLine_eq]; (try have hL9 := PyProof.Rows.StrsAre.length (by assumption)); (try simp only [List.length_cons] at *); omega)) ?_; k_whole); intro h9 F9 N9; (try k_sweep)) | (k_here; (with_reducible show wpAny _ _ (call (Value.builtin "len") [Value.str _ _]) _ _ _); refine len_str (by omega) ?_) | (k_here; (with_reducible show wpAny _ _ (call (Value.builtin "len") [Value.ref _]) _ _ _); k_dflt (refine len_strsA (by is_list) (by assumption) (by ((try simp only [List.length_map]); omega)) ?_; k_whole); (try simp only [List.length_map])) | walk1 | (dsimp only; walk1) | (dsimp only; k_unfold; (try dsimp only)) | fail "no step"))
  refine hold_out ?_
  refine comp_bytes charOf rfl (by assumption) (by assumption) (by rw [sizeLine_eq]; have := congrArg List.length hb; rw [Array.length_toList] at this; omega) ?_ ?_
  · intro C c u s₃ m₃ E' hn hm F3 N3
    (repeat' (first |  (k_unfold; (try dsimp only)) | (k_here; (with_reducible show wpAny _ _ (eval (Expr.Name _ _) (compEnv _ _ _)) _ _ _); k_dflt (first | (refine name_locS rfl rfl rfl (by decide) (by with_reducible assumption) (by assumption) ?_; k_whole) | (refine nameG_BS rfl rfl rfl rfl (by decide) (by k_asm) (by k_asm) (by k_asm) (by k_is) (by boot_fast) (by decide) ?_; k_whole))) | (k_here; (with_reducible show wpAny _ _ (call (Value.type _) [Value.str _ _]) _ _ _); k_dflt (refine list_strN rfl (by k_asm) (by k_asm) ?_ (by rw [sizeLine_eq]; omega)); intro D9 ys9 c9 h9 tk9 F9 N9 l9 m9 hS9; (try k_lt l9); (try k_sweep)) | (k_here; (with_reducible show wpAny _ _ (compareOp CmpOp.NotEq (Value.ref _) (Value.ref _)) _ _ _); k_dflt (first | refine strs_ne_nil (by is_list) (by is_list) (by ke_room) ?_ | refine strs_ne_cons (by is_list) (by is_list) (by k_asm) (by ke_room) ?_ | refine strs_ne (by is_list) (by is_list) (by first | k_asm | exact StrsAre.nil) (by first | exact StrsAre.nil | k_asm) (by ke_room) ?_)) | (k_here; (with_reducible show wpAny _ _ (compareOp CmpOp.Eq (Value.ref _) (Value.ref _)) _ _ _); k_dflt (refine strs_eq (by is_list) (by is_list) (by first | k_asm | exact StrsAre.nil) (by first | exact StrsAre.nil | k_asm) (by ke_room) ?_)) | (k_here; (with_reducible show wpAny _ _ (call (Value.builtin _) [Value.ref _, Value.int 0 _]) _ _ _); k_dflt (refine pop_first (by k_asm) (by k_asm) (by k_upd) (by (rw [sizeLine_eq]; (try have hL9 := PyProof.Rows.StrsAre.length (by assumption)); (try simp only [List.length_cons] at *); omega)) ?_; k_whole); intro h9 F9 N9; (try k_sweep)) | (k_here; (with_reducible show wpAny _ _ (call (Value.builtin "len") [Value.str _ _]) _ _ _); refine len_str (by omega) ?_) | (k_here; (with_reducible show wpAny _ _ (call (Value.builtin "len") [Value.ref _]) _ _ _); k_dflt (refine len_strsA (by is_list) (by assumption) (by ((try simp only [List.length_map]); omega)) ?_; k_whole); (try simp only [List.length_map])) | walk1 | (dsimp only; walk1) | (dsimp only; k_unfold; (try dsimp only)) | fail "no step"))
    refine chr_of_range (by omega) (by have := c.toNat_lt; omega) ?_
    exact ⟨⟨_, rfl⟩, s₃.heap, _, rfl, fun _ _ e => e⟩
  · intro D ys c h' tk hS F2 N2 l1
    (repeat' (first |  (k_unfold; (try dsimp only)) | (k_here; (with_reducible show wpAny _ _ (eval (Expr.Name _ _) (compEnv _ _ _)) _ _ _); k_dflt (first | (refine name_locS rfl rfl rfl (by decide) (by with_reducible assumption) (by assumption) ?_; k_whole) | (refine nameG_BS rfl rfl rfl rfl (by decide) (by k_asm) (by k_asm) (by k_asm) (by k_is) (by boot_fast) (by decide) ?_; k_whole))) | (k_here; (with_reducible show wpAny _ _ (call (Value.type _) [Value.str _ _]) _ _ _); k_dflt (refine list_strN rfl (by k_asm) (by k_asm) ?_ (by rw [sizeLine_eq]; omega)); intro D9 ys9 c9 h9 tk9 F9 N9 l9 m9 hS9; (try k_lt l9); (try k_sweep)) | (k_here; (with_reducible show wpAny _ _ (compareOp CmpOp.NotEq (Value.ref _) (Value.ref _)) _ _ _); k_dflt (first | refine strs_ne_nil (by is_list) (by is_list) (by ke_room) ?_ | refine strs_ne_cons (by is_list) (by is_list) (by k_asm) (by ke_room) ?_ | refine strs_ne (by is_list) (by is_list) (by first | k_asm | exact StrsAre.nil) (by first | exact StrsAre.nil | k_asm) (by ke_room) ?_)) | (k_here; (with_reducible show wpAny _ _ (compareOp CmpOp.Eq (Value.ref _) (Value.ref _)) _ _ _); k_dflt (refine strs_eq (by is_list) (by is_list) (by first | k_asm | exact StrsAre.nil) (by first | exact StrsAre.nil | k_asm) (by ke_room) ?_)) | (k_here; (with_reducible show wpAny _ _ (call (Value.builtin _) [Value.ref _, Value.int 0 _]) _ _ _); k_dflt (refine pop_first (by k_asm) (by k_asm) (by k_upd) (by (rw [sizeLine_eq]; (try have hL9 := PyProof.Rows.StrsAre.length (by assumption)); (try simp only [List.length_cons] at *); omega)) ?_; k_whole); intro h9 F9 N9; (try k_sweep)) | (k_here; (with_reducible show wpAny _ _ (call (Value.builtin "len") [Value.str _ _]) _ _ _); refine len_str (by omega) ?_) | (k_here; (with_reducible show wpAny _ _ (call (Value.builtin "len") [Value.ref _]) _ _ _); k_dflt (refine len_strsA (by is_list) (by assumption) (by ((try simp only [List.length_map]); omega)) ?_; k_whole); (try simp only [List.length_map])) | walk1 | (dsimp only; walk1) | (dsimp only; k_unfold; (try dsimp only)) | fail "no step"))
    refine join_list (ys := b.toList.map charOf) (by is_list) (by simpa using hS) (by rw [hb]; exact written_len hz) ?_
    intro t' k
    rw [hb, join_chars]
    (repeat' (first |  (k_unfold; (try dsimp only)) | (k_here; (with_reducible show wpAny _ _ (eval (Expr.Name _ _) (compEnv _ _ _)) _ _ _); k_dflt (first | (refine name_locS rfl rfl rfl (by decide) (by with_reducible assumption) (by assumption) ?_; k_whole) | (refine nameG_BS rfl rfl rfl rfl (by decide) (by k_asm) (by k_asm) (by k_asm) (by k_is) (by boot_fast) (by decide) ?_; k_whole))) | (k_here; (with_reducible show wpAny _ _ (call (Value.type _) [Value.str _ _]) _ _ _); k_dflt (refine list_strN rfl (by k_asm) (by k_asm) ?_ (by rw [sizeLine_eq]; omega)); intro D9 ys9 c9 h9 tk9 F9 N9 l9 m9 hS9; (try k_lt l9); (try k_sweep)) | (k_here; (with_reducible show wpAny _ _ (compareOp CmpOp.NotEq (Value.ref _) (Value.ref _)) _ _ _); k_dflt (first | refine strs_ne_nil (by is_list) (by is_list) (by ke_room) ?_ | refine strs_ne_cons (by is_list) (by is_list) (by k_asm) (by ke_room) ?_ | refine strs_ne (by is_list) (by is_list) (by first | k_asm | exact StrsAre.nil) (by first | exact StrsAre.nil | k_asm) (by ke_room) ?_)) | (k_here; (with_reducible show wpAny _ _ (compareOp CmpOp.Eq (Value.ref _) (Value.ref _)) _ _ _); k_dflt (refine strs_eq (by is_list) (by is_list) (by first | k_asm | exact StrsAre.nil) (by first | exact StrsAre.nil | k_asm) (by ke_room) ?_)) | (k_here; (with_reducible show wpAny _ _ (call (Value.builtin _) [Value.ref _, Value.int 0 _]) _ _ _); k_dflt (refine pop_first (by k_asm) (by k_asm) (by k_upd) (by (rw [sizeLine_eq]; (try have hL9 := PyProof.Rows.StrsAre.length (by assumption)); (try simp only [List.length_cons] at *); omega)) ?_; k_whole); intro h9 F9 N9; (try k_sweep)) | (k_here; (with_reducible show wpAny _ _ (call (Value.builtin "len") [Value.str _ _]) _ _ _); refine len_str (by omega) ?_) | (k_here; (with_reducible show wpAny _ _ (call (Value.builtin "len") [Value.ref _]) _ _ _); k_dflt (refine len_strsA (by is_list) (by assumption) (by ((try simp only [List.length_map]); omega)) ?_; k_whole); (try simp only [List.length_map])) | walk1 | (dsimp only; walk1) | (dsimp only; k_unfold; (try dsimp only)) | fail "no step"))
    exact Back.mk' ⟨⟨_, rfl⟩, rfl⟩ (by assumption) (by assumption) (fun _ h => nomatch h) (fun _ h => nomatch h)

end
section
/-- a block over a text: each sign makes one text -/
theorem comp_str {prog : Program} {w : World} {A : Around} {E : Value → Shared → Prop} {s : Shared} {env : Env} {scope : Scope} {x : Str} {elt : Expr} {Q : Value → Shared → Prop} {b : Str} {t : Tok} {g : Heap} {L : Addr} {m : Str → Option Value} {news : List (Addr × Obj)} (f : Nat → Str)
    (hh : A.handled = none) (F : Fr g L s.heap m) (N : News g L s.heap news) (hsz : b.length ≤ sizeLine)
    (hel : ∀ C (c : Nat) u s₃ m₃ E', s₃.heap.Ns C m₃ → m₃ x = some (.str ⟨#[c]⟩ u) → Fr g L s₃.heap m → News g L s₃.heap news → wpAny (model prog w) A (eval elt (compEnv scope C env)) (fun y s₄ => (∃ t, y = .str (f c) t) ∧ Keeps s₃ s₄) E' s₃)
    (hQ : ∀ D ys c h' tk, StrsAre ys (b.cps.toList.map f) → Fr g L h' m → News g L h' ((D, PySem.W.listOf ys.toArray c) :: news) → (∀ p ∈ news, @Ne Nat p.1 D) → Q (.ref D) { s with heap := h', toks := tk }) :
    wpAny (model prog w) A (pyIter (.str b t)) (CompPost prog w A env scope x [] elt Q) E s := by
  refine wpAny_pyIter_str fun o St hW hst => ?_
  have hlt : L < s.heap.objs.size := F.ns.lt
  have old : ∀ b o, s.heap.get? b = some o → b ≠ s.heap.objs.size := fun b o e => Nat.ne_of_lt (Heap.lt_size e)
  refine ⟨fun _ => true, fun v y => ∀ (c : Nat) u, v = .str ⟨#[c]⟩ u → ∃ t, y = .str (f c) t, _, _, _, b.cps.size, _, _, rfl, hW A hh, hsz, hst, ?_, ⟨?_, ?_⟩, ?_⟩
  · intro b hb
    rw [List.mem_singleton.mp hb, Heap.size_push]
    exact Nat.lt_succ_self _
  · intro C i v s₃ m₃ E' hP hn hm hk htk
    exact wpAny_pure ⟨rfl, s₃.heap, s₃.toks, rfl, fun _ _ e => e⟩
  · rintro C i v s₃ m₃ E' ⟨c, u, hc, rfl⟩ _ hn hm hk htk
    have hk3 : ∀ b o, s.heap.get? b = some o → s₃.heap.get? b = some o := fun b o e => hk b o (fun h => old b o e (List.mem_singleton.mp h)) (Heap.get?_push_of_some _ e)
    refine wpAny_mono (hel C c u s₃ m₃ E' hn hm (F.keeps hk3) (fun p hp => ⟨hk3 _ _ (N p hp).1, (N p hp).2⟩)) (fun y s₄ h => ⟨?_, h.2⟩) fun _ _ h => h
    rintro c' u' e
    have e2 : c = c' := by
      injection e with e _
      injection e with e
      have := congrArg Array.toList e
      simpa using this
    subst e2; exact h.1
  · intro D h' tk ys vs hD hl hpl hlen hP hpair hk
    obtain ⟨c, hc⟩ := hpl
    have hk3 : ∀ b o, s.heap.get? b = some o → h'.get? b = some o := fun b o e => hk b o (fun h => old b o e (List.mem_singleton.mp h)) (Heap.get?_push_of_some _ e)
    have hDs : s.heap.get? D = none := by
      cases q : s.heap.get? D with
      | none => rfl
      | some o => rw [Heap.get?_push_of_some _ q] at hD; cases hD
    have hfv : vs.filter (fun _ => true) = vs := List.filter_eq_self.mpr fun _ _ => rfl
    rw [hfv] at hpair
    have hDL : D ≠ L := fun e => by
      obtain ⟨o, _, _, ho, _⟩ := F.ns
      rw [e, ho] at hDs; cases hDs
    have e : PySem.W.listOf ys c = PySem.W.listOf ys.toList.toArray c := by simp
    refine hQ D ys.toList c h' tk (strs_of_get ?_ fun j y hy => ?_) (F.keeps hk3) (news_to F N hk3 (e ▸ hc) hDL ?_) fun p hp q => ?_
    · rw [List.length_map, ← hpair.length, hlen, Array.length_toList]
    · obtain ⟨v, hv, hF⟩ := paired_snd hpair hy
      obtain ⟨c, u, hc, rfl⟩ := hP j v hv
      obtain ⟨t, rfl⟩ := hF c u rfl
      exact ⟨f c, t, by simp [hc], rfl⟩
    · cases q : g.get? D with
      | none => rfl
      | some o => rw [F.keep _ _ q] at hDs; cases hDs
    · have := (N p hp).1
      rw [q] at this
      rw [hDs] at this; cases this

local macro_rules | `(tactic| walk_at "pyIter str") => `(tactic| refine hold_in ?_)
def escOf (c : Nat) : Str := Str.ofString "\\" ++ ⟨#[c]⟩
def escAll (x : Str) : Str := ⟨(x.cps.toList.flatMap fun c => [92, c]).toArray⟩
def dressOf (x : Str) (k : Int) : Str :=
  let x' := if k.fdiv 2 = 1 then escAll x else x
  if k.fmod 2 = 1 then Str.ofString "\"" ++ x' ++ Str.ofString "\"" else x'
theorem join_esc (l : List Nat) : Txt.join (Str.ofString "") (l.map escOf) = ⟨(l.flatMap fun c => [92, c]).toArray⟩ := by
  rw [join_empty]
  congr 2
  induction l with
  | nil => rfl
  | cons c r ih => simp only [List.map_cons, List.flatMap_cons, ih]; rfl
theorem escOf_length (c : Nat) : (escOf c).length = 2 := rfl
theorem sum_twos {α : Type} (f : α → Str) (h : ∀ a, (f a).length = 2) : ∀ l : List α, ((l.map f).map (·.length)).sum = 2 * l.length
  | [] => rfl
  | a :: r => by simp only [List.map_cons, List.sum_cons, h, sum_twos f h r, List.length_cons]; omega
theorem escAll_length (x : Str) : (escAll x).length = 2 * x.length := by
  unfold escAll Str.length
  simp only [List.size_toArray]
  have : ∀ l : List Nat, (l.flatMap fun c => [92, c]).length = 2 * l.length := by
    intro l; induction l with
    | nil => rfl
    | cons a r ih => simp only [List.flatMap_cons, List.length_append, ih, List.length_cons, List.length_nil]; omega
  rw [this, Array.length_toList]
theorem dress_11 {x : Str} {k : Int} {t : Tok} (h1 : k.fdiv 2 = 1) (h2 : k.fmod 2 = 1) : ∃ t', Value.str (Str.ofString "\"" ++ (⟨(x.cps.toList.flatMap fun c => [92, c]).toArray⟩ : Str) ++ Str.ofString "\"") t = .str (dressOf x k) t' := ⟨t, by unfold dressOf; rw [if_pos h1, if_pos h2]; rfl⟩
theorem dress_10 {x : Str} {k : Int} {t : Tok} (h1 : k.fdiv 2 = 1) (h2 : ¬ k.fmod 2 = 1) : ∃ t', Value.str (⟨(x.cps.toList.flatMap fun c => [92, c]).toArray⟩ : Str) t = .str (dressOf x k) t' := ⟨t, by unfold dressOf; rw [if_pos h1, if_neg h2]; rfl⟩
theorem dress_01 {x : Str} {k : Int} {t : Tok} (h1 : ¬ k.fdiv 2 = 1) (h2 : k.fmod 2 = 1) : ∃ t', Value.str (Str.ofString "\"" ++ x ++ Str.ofString "\"") t = .str (dressOf x k) t' := ⟨t, by unfold dressOf; rw [if_neg h1, if_pos h2]⟩
theorem dress_00 {x : Str} {k : Int} {t : Tok} (h1 : ¬ k.fdiv 2 = 1) (h2 : ¬ k.fmod 2 = 1) : ∃ t', Value.str x t = .str (dressOf x k) t' := ⟨t, by unfold dressOf; rw [if_neg h1, if_neg h2]⟩
set_option maxHeartbeats 8000000 in
theorem dressed_spec (w : World) (x : Str) (t : Tok) (k : Int) (tk' : Tok) (hx : x.length ≤ 100) : Spec PySem.Challenge.rw_sc0030_01.row.prog (fun w => Mine.hd.heap_39 w.params) w 94 [.str x t, .int k tk'] 2 90 [] (fun r W' => (∃ t, r = .str (dressOf x k) t) ∧ W' = []) := by
  ((k_fill; k_dflt (refine' spec_plain ?k6_26 ?k7_26 ?h1_26 ?k9_26 ?kB_26 ?c5_26 ?c2_26 ?c3_26 ?c4_26 ?_; (case k6_26 => k_is); (case k7_26 => k_is); (case h1_26 => first | decide | exact Nat.succ_pos _); (case k9_26 => exact rfl); (case kB_26 => exact locs rfl); (case c5_26 => decide); (case c2_26 => exact rfl); (case c3_26 => exact rfl); (case c4_26 => exact rfl); k_whole)))
  intro loose mean mg mb dp un gd env outer base g L' h₁ s tk F' N' B' X' T' lW hd hu
  try dsimp only at X'
  try dsimp only
  try k_fold
  try k_lt lW
  have kM := kstMark
  k_with_none
  (repeat' (first |  (k_unfold; (try dsimp only)) | ((with_reducible show wpAny _ _ (binaryOp Operator.Add (Value.str _ _) (Value.str _ _)) _ _ _); refine SBL.add (hsz := by (rw [sizeLine_eq]; (try simp only [Str.length_append] at *); omega)) ?_; intro _ _ _) | (k_here; (with_reducible show wpAny _ _ (eval (Expr.Name _ _) (compEnv _ _ _)) _ _ _); k_dflt (first | (refine name_locS rfl rfl rfl (by decide) (by with_reducible assumption) (by assumption) ?_; k_whole) | (refine nameG_BS rfl rfl rfl rfl (by decide) (by k_asm) (by k_asm) (by k_asm) (by k_is) (by boot_fast) (by decide) ?_; k_whole))) | (k_here; (with_reducible show wpAny _ _ (call (Value.type _) [Value.str _ _]) _ _ _); k_dflt (refine list_strN rfl (by k_asm) (by k_asm) ?_ (by rw [sizeLine_eq]; omega)); intro D9 ys9 c9 h9 tk9 F9 N9 l9 m9 hS9; (try k_lt l9); (try k_sweep)) | (k_here; (with_reducible show wpAny _ _ (compareOp CmpOp.NotEq (Value.ref _) (Value.ref _)) _ _ _); k_dflt (first | refine strs_ne_nil (by is_list) (by is_list) (by ke_room) ?_ | refine strs_ne_cons (by is_list) (by is_list) (by k_asm) (by ke_room) ?_ | refine strs_ne (by is_list) (by is_list) (by first | k_asm | exact StrsAre.nil) (by first | exact StrsAre.nil | k_asm) (by ke_room) ?_)) | (k_here; (with_reducible show wpAny _ _ (compareOp CmpOp.Eq (Value.ref _) (Value.ref _)) _ _ _); k_dflt (refine strs_eq (by is_list) (by is_list) (by first | k_asm | exact StrsAre.nil) (by first | exact StrsAre.nil | k_asm) (by ke_room) ?_)) | (k_here; (with_reducible show wpAny _ _ (call (Value.builtin _) [Value.ref _, Value.int 0 _]) _ _ _); k_dflt (refine pop_first (by k_asm) (by k_asm) (by k_upd) (by (rw [sizeLine_eq]; (try have hL9 := PyProof.Rows.StrsAre.length (by assumption)); (try simp only [List.length_cons] at *); omega)) ?_; k_whole); intro h9 F9 N9; (try k_sweep)) | (k_here; (with_reducible show wpAny _ _ (call (Value.builtin "len") [Value.str _ _]) _ _ _); refine len_str (by omega) ?_) | (k_here; (with_reducible show wpAny _ _ (call (Value.builtin "len") [Value.ref _]) _ _ _); k_dflt (refine len_strsA (by is_list) (by assumption) (by ((try simp only [List.length_map]); omega)) ?_; k_whole); (try simp only [List.length_map])) | walk1 | (dsimp only; walk1) | (dsimp only; k_unfold; (try dsimp only)) | fail "no step"))
  · refine hold_out ?_
    refine comp_str escOf rfl (by assumption) (by assumption) (by rw [sizeLine_eq]; omega) ?_ ?_
    · intro C c u s₃ m₃ E' hn hm F3 N3
      (repeat' (first |  (k_unfold; (try dsimp only)) | ((with_reducible show wpAny _ _ (binaryOp Operator.Add (Value.str _ _) (Value.str _ _)) _ _ _); refine SBL.add (hsz := by (rw [sizeLine_eq]; (try simp only [Str.length_append] at *); omega)) ?_; intro _ _ _) | (k_here; (with_reducible show wpAny _ _ (eval (Expr.Name _ _) (compEnv _ _ _)) _ _ _); k_dflt (first | (refine name_locS rfl rfl rfl (by decide) (by with_reducible assumption) (by assumption) ?_; k_whole) | (refine nameG_BS rfl rfl rfl rfl (by decide) (by k_asm) (by k_asm) (by k_asm) (by k_is) (by boot_fast) (by decide) ?_; k_whole))) | (k_here; (with_reducible show wpAny _ _ (call (Value.type _) [Value.str _ _]) _ _ _); k_dflt (refine list_strN rfl (by k_asm) (by k_asm) ?_ (by rw [sizeLine_eq]; omega)); intro D9 ys9 c9 h9 tk9 F9 N9 l9 m9 hS9; (try k_lt l9); (try k_sweep)) | (k_here; (with_reducible show wpAny _ _ (compareOp CmpOp.NotEq (Value.ref _) (Value.ref _)) _ _ _); k_dflt (first | refine strs_ne_nil (by is_list) (by is_list) (by ke_room) ?_ | refine strs_ne_cons (by is_list) (by is_list) (by k_asm) (by ke_room) ?_ | refine strs_ne (by is_list) (by is_list) (by first | k_asm | exact StrsAre.nil) (by first | exact StrsAre.nil | k_asm) (by ke_room) ?_)) | (k_here; (with_reducible show wpAny _ _ (compareOp CmpOp.Eq (Value.ref _) (Value.ref _)) _ _ _); k_dflt (refine strs_eq (by is_list) (by is_list) (by first | k_asm | exact StrsAre.nil) (by first | exact StrsAre.nil | k_asm) (by ke_room) ?_)) | (k_here; (with_reducible show wpAny _ _ (call (Value.builtin _) [Value.ref _, Value.int 0 _]) _ _ _); k_dflt (refine pop_first (by k_asm) (by k_asm) (by k_upd) (by (rw [sizeLine_eq]; (try have hL9 := PyProof.Rows.StrsAre.length (by assumption)); (try simp only [List.length_cons] at *); omega)) ?_; k_whole); intro h9 F9 N9; (try k_sweep)) | (k_here; (with_reducible show wpAny _ _ (call (Value.builtin "len") [Value.str _ _]) _ _ _); refine len_str (by omega) ?_) | (k_here; (with_reducible show wpAny _ _ (call (Value.builtin "len") [Value.ref _]) _ _ _); k_dflt (refine len_strsA (by is_list) (by assumption) (by ((try simp only [List.length_map]); omega)) ?_; k_whole); (try simp only [List.length_map])) | walk1 | (dsimp only; walk1) | (dsimp only; k_unfold; (try dsimp only)) | fail "no step"))
      exact ⟨s₃.heap, _, rfl, fun _ _ e => e⟩
    · intro D ys c h' tk hS F2 N2 l1
      (repeat' (first |  (k_unfold; (try dsimp only)) | ((with_reducible show wpAny _ _ (binaryOp Operator.Add (Value.str _ _) (Value.str _ _)) _ _ _); refine SBL.add (hsz := by (rw [sizeLine_eq]; (try simp only [Str.length_append] at *); omega)) ?_; intro _ _ _) | (k_here; (with_reducible show wpAny _ _ (eval (Expr.Name _ _) (compEnv _ _ _)) _ _ _); k_dflt (first | (refine name_locS rfl rfl rfl (by decide) (by with_reducible assumption) (by assumption) ?_; k_whole) | (refine nameG_BS rfl rfl rfl rfl (by decide) (by k_asm) (by k_asm) (by k_asm) (by k_is) (by boot_fast) (by decide) ?_; k_whole))) | (k_here; (with_reducible show wpAny _ _ (call (Value.type _) [Value.str _ _]) _ _ _); k_dflt (refine list_strN rfl (by k_asm) (by k_asm) ?_ (by rw [sizeLine_eq]; omega)); intro D9 ys9 c9 h9 tk9 F9 N9 l9 m9 hS9; (try k_lt l9); (try k_sweep)) | (k_here; (with_reducible show wpAny _ _ (compareOp CmpOp.NotEq (Value.ref _) (Value.ref _)) _ _ _); k_dflt (first | refine strs_ne_nil (by is_list) (by is_list) (by ke_room) ?_ | refine strs_ne_cons (by is_list) (by is_list) (by k_asm) (by ke_room) ?_ | refine strs_ne (by is_list) (by is_list) (by first | k_asm | exact StrsAre.nil) (by first | exact StrsAre.nil | k_asm) (by ke_room) ?_)) | (k_here; (with_reducible show wpAny _ _ (compareOp CmpOp.Eq (Value.ref _) (Value.ref _)) _ _ _); k_dflt (refine strs_eq (by is_list) (by is_list) (by first | k_asm | exact StrsAre.nil) (by first | exact StrsAre.nil | k_asm) (by ke_room) ?_)) | (k_here; (with_reducible show wpAny _ _ (call (Value.builtin _) [Value.ref _, Value.int 0 _]) _ _ _); k_dflt (refine pop_first (by k_asm) (by k_asm) (by k_upd) (by (rw [sizeLine_eq]; (try have hL9 := PyProof.Rows.StrsAre.length (by assumption)); (try simp only [List.length_cons] at *); omega)) ?_; k_whole); intro h9 F9 N9; (try k_sweep)) | (k_here; (with_reducible show wpAny _ _ (call (Value.builtin "len") [Value.str _ _]) _ _ _); refine len_str (by omega) ?_) | (k_here; (with_reducible show wpAny _ _ (call (Value.builtin "len") [Value.ref _]) _ _ _); k_dflt (refine len_strsA (by is_list) (by assumption) (by ((try simp only [List.length_map]); omega)) ?_; k_whole); (try simp only [List.length_map])) | walk1 | (dsimp only; walk1) | (dsimp only; k_unfold; (try dsimp only)) | fail "no step"))
      refine join_list (ys := x.cps.toList.map escOf) (by is_list) hS (by rw [sum_twos _ escOf_length, List.length_map, Array.length_toList]; simp only [Str.length] at hx; show _ + _ * 0 ≤ 16777216; omega) ?_
      intro t' k'
      rw [join_esc]
      have hel := escAll_length x
      unfold escAll at hel
      (repeat' (first |  (k_unfold; (try dsimp only)) | ((with_reducible show wpAny _ _ (binaryOp Operator.Add (Value.str _ _) (Value.str _ _)) _ _ _); refine SBL.add (hsz := by (rw [sizeLine_eq]; (try simp only [Str.length_append] at *); omega)) ?_; intro _ _ _) | (k_here; (with_reducible show wpAny _ _ (eval (Expr.Name _ _) (compEnv _ _ _)) _ _ _); k_dflt (first | (refine name_locS rfl rfl rfl (by decide) (by with_reducible assumption) (by assumption) ?_; k_whole) | (refine nameG_BS rfl rfl rfl rfl (by decide) (by k_asm) (by k_asm) (by k_asm) (by k_is) (by boot_fast) (by decide) ?_; k_whole))) | (k_here; (with_reducible show wpAny _ _ (call (Value.type _) [Value.str _ _]) _ _ _); k_dflt (refine list_strN rfl (by k_asm) (by k_asm) ?_ (by rw [sizeLine_eq]; omega)); intro D9 ys9 c9 h9 tk9 F9 N9 l9 m9 hS9; (try k_lt l9); (try k_sweep)) | (k_here; (with_reducible show wpAny _ _ (compareOp CmpOp.NotEq (Value.ref _) (Value.ref _)) _ _ _); k_dflt (first | refine strs_ne_nil (by is_list) (by is_list) (by ke_room) ?_ | refine strs_ne_cons (by is_list) (by is_list) (by k_asm) (by ke_room) ?_ | refine strs_ne (by is_list) (by is_list) (by first | k_asm | exact StrsAre.nil) (by first | exact StrsAre.nil | k_asm) (by ke_room) ?_)) | (k_here; (with_reducible show wpAny _ _ (compareOp CmpOp.Eq (Value.ref _) (Value.ref _)) _ _ _); k_dflt (refine strs_eq (by is_list) (by is_list) (by first | k_asm | exact StrsAre.nil) (by first | exact StrsAre.nil | k_asm) (by ke_room) ?_)) | (k_here; (with_reducible show wpAny _ _ (call (Value.builtin _) [Value.ref _, Value.int 0 _]) _ _ _); k_dflt (refine pop_first (by k_asm) (by k_asm) (by k_upd) (by (rw [sizeLine_eq]; (try have hL9 := PyProof.Rows.StrsAre.length (by assumption)); (try simp only [List.length_cons] at *); omega)) ?_; k_whole); intro h9 F9 N9; (try k_sweep)) | (k_here; (with_reducible show wpAny _ _ (call (Value.builtin "len") [Value.str _ _]) _ _ _); refine len_str (by omega) ?_) | (k_here; (with_reducible show wpAny _ _ (call (Value.builtin "len") [Value.ref _]) _ _ _); k_dflt (refine len_strsA (by is_list) (by assumption) (by ((try simp only [List.length_map]); omega)) ?_; k_whole); (try simp only [List.length_map])) | walk1 | (dsimp only; walk1) | (dsimp only; k_unfold; (try dsimp only)) | fail "no step"))
      · exact Back.mk' ⟨dress_11 (by assumption) (by assumption), rfl⟩ (by assumption) (by assumption) (fun _ h => nomatch h) (fun _ h => nomatch h)
      · exact Back.mk' ⟨dress_10 (by assumption) (by assumption), rfl⟩ (by assumption) (by assumption) (fun _ h => nomatch h) (fun _ h => nomatch h)
  · exact Back.mk' ⟨dress_01 (by assumption) (by assumption), rfl⟩ (by assumption) (by assumption) (fun _ h => nomatch h) (fun _ h => nomatch h)
  · exact Back.mk' ⟨dress_00 (by assumption) (by assumption), rfl⟩ (by assumption) (by assumption) (fun _ h => nomatch h) (fun _ h => nomatch h)

end
section
theorem occ_skip (x y : Str) (hi limit : Nat) : ∀ (l r : List Nat) (st : Array Nat × Nat), (∀ i ∈ l, limit ≤ st.1.size ∨ i < st.2 ∨ hi < i + y.length ∨ Builtin.Str.subAt x y i = false) → (forIn (l ++ r) st (StrLaws.occBody x y hi limit)) = forIn r st (StrLaws.occBody x y hi limit)
  | [], r, st, _ => rfl
  | a :: l, r, st, h => by
    have ha := h a (.head _)
    rw [List.cons_append, List.forIn_cons]
    have hc : ¬ (((st.fst.size < limit ∧ st.snd ≤ a) ∧ a + y.length ≤ hi) ∧ Builtin.Str.subAt x y a = true) := by
      rintro ⟨⟨⟨h1, h2⟩, h3⟩, h4⟩
      rcases ha with h | h | h | h
      · omega
      · omega
      · omega
      · rw [h] at h4; cases h4
    unfold StrLaws.occBody
    rw [if_neg hc]
    exact occ_skip x y hi limit l r st fun i hi' => h i (.tail _ hi')
theorem occ_take {x y : Str} {hi limit a : Nat} {r : List Nat} {st : Array Nat × Nat} (h1 : st.1.size < limit) (h2 : st.2 ≤ a) (h3 : a + y.length ≤ hi) (h4 : Builtin.Str.subAt x y a = true) : forIn (a :: r) st (StrLaws.occBody x y hi limit) = forIn r (st.1.push a, a + y.length) (StrLaws.occBody x y hi limit) := by
  rw [List.forIn_cons]
  unfold StrLaws.occBody
  rw [if_pos ⟨⟨⟨h1, h2⟩, h3⟩, h4⟩]
  rfl
theorem range_at {a n k : Nat} (h : k < n) : List.range' a n = List.range' a k ++ (a + k) :: List.range' (a + k + 1) (n - k - 1) := by
  have : n = k + ((n - k - 1) + 1) := by omega
  conv => lhs; rw [this, ← List.range'_append_1]
  rfl
abbrev dots : Str := Str.ofString "..."
theorem occ_two {x y : Str} {hi limit a b : Nat} (hy : 0 < y.length) (hl : 2 ≤ limit) (ha : StrLaws.At x y hi a) (hb : StrLaws.At x y hi b) (hab : a + y.length ≤ b)
    (hn : ∀ i, i < a ∨ (a + y.length ≤ i ∧ i < b) ∨ b + y.length ≤ i → ¬ StrLaws.At x y hi i) : Builtin.Str.occurrences x y 0 hi limit = [a, b] := by
  have nf : ∀ i, i < a ∨ (a + y.length ≤ i ∧ i < b) ∨ b + y.length ≤ i → hi < i + y.length ∨ Builtin.Str.subAt x y i = false := fun i h => by
    have := hn i h
    by_cases q : i + y.length ≤ hi
    · right
      cases e : Builtin.Str.subAt x y i with
      | false => rfl
      | true => exact absurd ⟨q, e⟩ this
    · left; omega
  have h1 := ha.1
  have h2 := hb.1
  rw [StrLaws.occ_eq, range_at (k := a) (by omega), occ_skip]
  · rw [Nat.zero_add, occ_take (by show 0 < _; omega) (by exact Nat.zero_le _) ha.1 ha.2]
    have e : List.range' (a + 1) (hi + 1 - 0 - a - 1) = List.range' (a + 1) (b - (a + 1)) ++ b :: List.range' (b + 1) (hi + 1 - 0 - a - 1 - (b - (a + 1)) - 1) := by
      rw [range_at (k := b - (a + 1)) (by omega)]
      have : a + 1 + (b - (a + 1)) = b := by omega
      rw [this]
    rw [e, occ_skip, occ_take (by show 1 < _; omega) (by exact hab) hb.1 hb.2]
    · have e3 : ∀ l : List Nat, forIn l = forIn (m := Id) (β := Array Nat × Nat) (l ++ []) := by intro l; rw [List.append_nil]
      rw [e3, occ_skip]
      · rfl
      · intro i h
        have := List.mem_range'_1.mp h
        dsimp only
        by_cases q : i < b + y.length
        · right; left; exact q
        · right; right; exact nf i (by omega)
    · intro i h
      have := List.mem_range'_1.mp h
      dsimp only
      by_cases q : i < a + y.length
      · right; left; exact q
      · right; right; exact nf i (by omega)
  · intro i h
    have := List.mem_range'_1.mp h
    right; right; exact nf i (by omega)
theorem occ_one {x y : Str} {lo hi limit a : Nat} (hl : 1 ≤ limit) (hlo : lo ≤ a) (ha : StrLaws.At x y hi a)
    (hn : ∀ i, (lo ≤ i ∧ i < a) ∨ (a + y.length ≤ i ∧ a < i ∧ 1 < limit) → ¬ StrLaws.At x y hi i) : Builtin.Str.occurrences x y lo hi limit = [a] := by
  have nf : ∀ i, (lo ≤ i ∧ i < a) ∨ (a + y.length ≤ i ∧ a < i ∧ 1 < limit) → hi < i + y.length ∨ Builtin.Str.subAt x y i = false := fun i h => by
    have := hn i h
    by_cases q : i + y.length ≤ hi
    · right
      cases e : Builtin.Str.subAt x y i with
      | false => rfl
      | true => exact absurd ⟨q, e⟩ this
    · left; omega
  have h1 := ha.1
  rw [StrLaws.occ_eq, range_at (k := a - lo) (by omega), occ_skip]
  · have e : lo + (a - lo) = a := by omega
    rw [e, occ_take (by show 0 < _; omega) (by exact hlo) ha.1 ha.2]
    have e3 : ∀ l : List Nat, forIn l = forIn (m := Id) (β := Array Nat × Nat) (l ++ []) := by intro l; rw [List.append_nil]
    rw [e3, occ_skip]
    · rfl
    · intro i h
      have := List.mem_range'_1.mp h
      dsimp only
      by_cases q2 : 1 < limit
      · by_cases q : i < a + y.length
        · right; left; exact q
        · right; right; exact nf i (by omega)
      · left; show limit ≤ 1; omega
  · intro i h
    have := List.mem_range'_1.mp h
    right; right; exact nf i (by omega)
theorem at_dots {x : Str} {n i : Nat} (h : StrLaws.At x dots n i) : x.cps.toList[i]? = some 46 ∧ x.cps.toList[i + 1]? = some 46 ∧ x.cps.toList[i + 2]? = some 46 := by
  have h2 := h.2
  rw [StrLaws.subAt_eq] at h2
  have h3 : (x.cps.toList.drop i).take 3 = [46, 46, 46] := eq_of_beq h2
  have k : ∀ j, j < 3 → ((x.cps.toList.drop i).take 3)[j]? = x.cps.toList[i + j]? := fun j hj => by rw [List.getElem?_take, if_pos hj, List.getElem?_drop]
  have a := k 0 (by omega); have b := k 1 (by omega); have c := k 2 (by omega)
  rw [h3] at a b c
  exact ⟨a.symm, b.symm, c.symm⟩
theorem dots_at {x : Str} {i : Nat} {n : Nat} (hn : i + 3 ≤ n) (h : (x.cps.toList.drop i).take 3 = [46, 46, 46]) : StrLaws.At x dots n i := by
  refine ⟨hn, ?_⟩
  rw [StrLaws.subAt_eq]
  show ((x.cps.toList.drop i).take 3 == [46, 46, 46]) = true
  rw [h]; rfl
theorem sub_mk (x : Str) (i j : Nat) : Builtin.Str.strSub x i j = ⟨((x.cps.toList.drop i).take (j - i)).toArray⟩ := by
  apply StrLaws.mk_of_toList
  exact StrLaws.strSub_toList x i j
theorem kind_low (x : Str) (h : x.length ≥ 3) : (decide (x.length < dots.length) || decide (Builtin.Str.strKind x < Builtin.Str.strKind dots)) = false := by
  have e : Builtin.Str.strKind dots = 1 := by decide +kernel
  have e2 : dots.length = 3 := rfl
  have : 1 ≤ Builtin.Str.strKind x := by unfold Builtin.Str.strKind; split; (· decide); split <;> decide
  rw [e, e2]
  simp only [Bool.or_eq_false_iff, decide_eq_false_iff_not]
  omega
theorem split_of (x : Str) (h : x.length ≥ 3) {cuts : List Nat} (hc : Builtin.Str.occurrences x dots 0 x.length (x.length + 1) = cuts) (hne : cuts ≠ []) : Txt.split x dots = StrLaws.partsFrom x 3 0 cuts := by
  unfold Txt.split
  rw [kind_low x h, hc, StrLaws.partsBetween_eq]
  cases cuts with
  | nil => exact absurd rfl hne
  | cons a r => rfl
abbrev ofL (l : List Nat) : Str := ⟨l.toArray⟩
theorem get_mid {p : List Nat} (hp : ∀ c ∈ p, c ≠ 46) {r q : List Nat} {i : Nat} (h : i < p.length) (k : (q ++ (p ++ r))[q.length + i]? = some 46) : False := by
  rw [List.getElem?_append_right (by omega), Nat.add_sub_cancel_left, List.getElem?_append_left h] at k
  exact hp _ (List.mem_of_getElem? k) rfl
theorem split_mid {x : Str} {p : List Nat} (hp : ∀ c ∈ p, c ≠ 46) (hx : x.cps.toList = [46, 46, 46] ++ (p ++ [46, 46, 46])) : Txt.split x dots = [ofL [], ofL p, ofL []] := by
  have hl : x.length = p.length + 6 := by
    show x.cps.size = _
    rw [← Array.length_toList, hx]; simp only [List.length_append, List.length_cons, List.length_nil]; omega
  have hd : dots.length = 3 := rfl
  rw [split_of x (by omega) (cuts := [0, 3 + p.length]) (occ_two (by decide) (by omega) (dots_at (by omega) (by rw [hx]; rfl)) (dots_at (by omega) ?_) (by omega) ?_) (by simp)]
  · unfold StrLaws.partsFrom StrLaws.partsFrom StrLaws.partsFrom
    simp only [sub_mk, hx, hl]
    have e1 : List.take (3 + p.length - (0 + 3)) (List.drop (0 + 3) ([46, 46, 46] ++ (p ++ [46, 46, 46]))) = p := by
      show List.take (3 + p.length - 3) (p ++ [46, 46, 46]) = p
      rw [Nat.add_sub_cancel_left, List.take_left]
    have e2 : List.take (p.length + 6 - (3 + p.length + 3)) (List.drop (3 + p.length + 3) ([46, 46, 46] ++ (p ++ [46, 46, 46]))) = [] := by
      have : p.length + 6 - (3 + p.length + 3) = 0 := by omega
      rw [this]; rfl
    rw [e1, e2]
    rfl
  · rw [hx]
    have : List.drop (3 + p.length) ([46, 46, 46] ++ (p ++ [46, 46, 46])) = [46, 46, 46] := by
      rw [← List.drop_drop]; show List.drop p.length (p ++ [46, 46, 46]) = _
      rw [List.drop_left]
    rw [this]; rfl
  · intro i hi ⟨h1, h2⟩
    rw [hd] at hi
    have hd2 : i + 3 ≤ x.length := h1
    obtain ⟨k, _⟩ := at_dots (n := x.length) ⟨h1, h2⟩
    rw [hx] at k
    have hi2 : 3 ≤ i ∧ i - 3 < p.length := by omega
    exact get_mid hp hi2.2 (q := [46, 46, 46]) (r := [46, 46, 46]) (by rw [← k]; congr 1; show 3 + _ = _; omega)
theorem split_pre {x : Str} {p : List Nat} (hp : ∀ c ∈ p, c ≠ 46) (hx : x.cps.toList = [46, 46, 46] ++ p) : Txt.split x dots = [ofL [], ofL p] := by
  have hl : x.length = p.length + 3 := by
    show x.cps.size = _
    rw [← Array.length_toList, hx]; simp only [List.length_append, List.length_cons, List.length_nil]; omega
  have hd : dots.length = 3 := rfl
  rw [split_of x (by omega) (cuts := [0]) (occ_one (by omega) (by omega) (dots_at (by omega) (by rw [hx]; rfl)) ?_) (by simp)]
  · unfold StrLaws.partsFrom StrLaws.partsFrom
    simp only [sub_mk, hx, hl]
    have e1 : List.take (p.length + 3 - (0 + 3)) (List.drop (0 + 3) ([46, 46, 46] ++ p)) = p := by
      show List.take (p.length + 3 - 3) p = p
      rw [Nat.add_sub_cancel, List.take_length]
    rw [e1]
    rfl
  · intro i hi ⟨h1, h2⟩
    rw [hd] at hi
    have hd2 : i + 3 ≤ x.length := h1
    obtain ⟨k, _⟩ := at_dots (n := x.length) ⟨h1, h2⟩
    rw [hx] at k
    have hi2 : 3 ≤ i ∧ i - 3 < p.length := by omega
    exact get_mid hp hi2.2 (q := [46, 46, 46]) (r := []) (by rw [← k]; rw [List.append_nil]; congr 1; show 3 + _ = _; omega)
theorem split_post {x : Str} {p : List Nat} (hp : ∀ c ∈ p, c ≠ 46) (hx : x.cps.toList = p ++ [46, 46, 46]) : Txt.split x dots = [ofL p, ofL []] := by
  have hl : x.length = p.length + 3 := by
    show x.cps.size = _
    rw [← Array.length_toList, hx]; simp only [List.length_append, List.length_cons, List.length_nil]
  have hd : dots.length = 3 := rfl
  rw [split_of x (by omega) (cuts := [p.length]) (occ_one (by omega) (by omega) (dots_at (by omega) (by rw [hx, List.drop_left]; rfl)) ?_) (by simp)]
  · unfold StrLaws.partsFrom StrLaws.partsFrom
    simp only [sub_mk, hx, hl]
    have e1 : List.take (p.length - 0) (List.drop 0 (p ++ [46, 46, 46])) = p := by
      rw [Nat.sub_zero, List.drop_zero, List.take_left]
    rw [e1, Nat.sub_self]
    rfl
  · intro i hi ⟨h1, h2⟩
    rw [hd] at hi
    have hd2 : i + 3 ≤ x.length := h1
    obtain ⟨k, _⟩ := at_dots (n := x.length) ⟨h1, h2⟩
    rw [hx] at k
    have hi2 : i < p.length := by omega
    exact get_mid hp hi2 (q := []) (r := [46, 46, 46]) (by rw [← k, List.nil_append]; congr 1; simp)
theorem dots_in {x : Str} {i : Nat} (h : StrLaws.At x dots x.length i) : (Builtin.Str.occurrences x dots 0 x.length 1).isEmpty = false := by
  have := (StrLaws.found_iff x dots).mpr ⟨i, h.1, h.2⟩
  simpa using this
def inB {α : Type} [BEq α] (p : List α) : List α → Bool
  | [] => p.isEmpty
  | c :: r => p.isPrefixOf (c :: r) || inB p r
theorem prefix_take {α : Type} [BEq α] [LawfulBEq α] (p g : List α) : p.isPrefixOf g = true ↔ p.length ≤ g.length ∧ g.take p.length = p := by
  rw [List.isPrefixOf_iff_prefix]
  constructor
  · intro h; exact ⟨h.length_le, (List.prefix_iff_eq_take.mp h).symm⟩
  · intro h; exact List.prefix_iff_eq_take.mpr h.2.symm
theorem inB_iff {α : Type} [BEq α] [LawfulBEq α] (p : List α) : ∀ g : List α, inB p g = true ↔ ∃ i, i + p.length ≤ g.length ∧ (g.drop i).take p.length = p
  | [] => by
    unfold inB
    constructor
    · intro h
      have : p = [] := by simpa using h
      subst this; exact ⟨0, by simp⟩
    · rintro ⟨i, h, _⟩
      have : p.length = 0 := by simp only [List.length_nil] at h; omega
      simpa using List.length_eq_zero_iff.mp this
  | c :: r => by
    unfold inB
    rw [Bool.or_eq_true, prefix_take, inB_iff p r]
    constructor
    · rintro (h | ⟨i, h1, h2⟩)
      · exact ⟨0, by simpa using h.1, by simpa using h.2⟩
      · exact ⟨i + 1, by simp only [List.length_cons]; omega, by simpa using h2⟩
    · rintro ⟨i, h1, h2⟩
      cases i with
      | zero => exact .inl ⟨by simpa using h1, by simpa using h2⟩
      | succ i => exact .inr ⟨i, by simp only [List.length_cons] at h1; omega, by simpa using h2⟩
theorem starts_eq (x y : Str) : Txt.startswith x y = y.cps.toList.isPrefixOf x.cps.toList := by
  rw [Bool.eq_iff_iff, prefix_take]
  unfold Txt.startswith
  rw [StrLaws.subAt_eq]
  simp only [Bool.and_eq_true, decide_eq_true_eq, beq_iff_eq, List.drop_zero, Nat.zero_add, Array.length_toList]
  exact Iff.rfl
theorem ends_eq (x y : Str) : Txt.endswith x y = y.cps.toList.isSuffixOf x.cps.toList := by
  rw [Bool.eq_iff_iff, List.isSuffixOf_iff_suffix, List.suffix_iff_eq_drop]
  unfold Txt.endswith
  rw [StrLaws.subAt_eq]
  simp only [Bool.and_eq_true, decide_eq_true_eq, beq_iff_eq, Nat.zero_add, Array.length_toList]
  show _ ≤ x.cps.size ∧ _ ↔ _
  unfold Str.length
  constructor
  · rintro ⟨h1, h2⟩
    rw [List.take_of_length_le (by simp only [List.length_drop, Array.length_toList]; omega)] at h2
    exact h2.symm
  · intro h
    have hl := congrArg List.length h
    simp only [List.length_drop, Array.length_toList] at hl
    have h1 : y.cps.size ≤ x.cps.size := by omega
    refine ⟨h1, ?_⟩
    rw [← h, List.take_of_length_le (by simp only [Array.length_toList]; omega)]
def find4 (x y : Str) (i j : Int) : Int := match Builtin.Str.occurrences x y (PySem.fromIndex x.length i) (min (PySem.fromIndex x.length j) x.length) 1 with | k :: _ => (k : Int) | [] => -1
theorem gives_find4 (x y : Str) (i j : Int) (t u v v' : Tok) : PySem.Gives (Builtin.«str.find» ⟨[.str x t, .str y u, .int i v, .int j v'], []⟩) (.int (find4 x y i j)) := by
  unfold find4
  show PySem.Gives (match Builtin.Str.occurrences x y (PySem.fromIndex x.length i) (min (PySem.fromIndex x.length j) x.length) 1 with | k :: _ => retInt k | [] => (do rule "str.find.not-found"; retInt (-1))) _
  cases Builtin.Str.occurrences x y (PySem.fromIndex x.length i) (min (PySem.fromIndex x.length j) x.length) 1 with
  | nil => exact .rule (.of_eq rfl)
  | cons k _ => exact .of_eq rfl
theorem find4_call {prog : Program} {w : World} {A : Around} {E : Value → Shared → Prop} {s : Shared} {x y : Str} {t u v v' : Tok} {i j : Int} {Q : Value → Shared → Prop} (hq : Q (.int (find4 x y i j) s.toks) { s with toks := s.toks + 1 }) : wpAny (model prog w) A (call (.builtin "str.find") [.str x t, .str y u, .int i v, .int j v']) Q E s :=
  PySem.call_gives PySem.F.slot_str_find (PySem.typeIs_str _ _ _) PySem.F.entry_str_find (PySem.F.args_str_find_4 _ _ _ _) (gives_find4 x y i j t u v v') hq
theorem from_nat (n i : Nat) : PySem.fromIndex n (i : Int) = i := by
  unfold PySem.fromIndex
  have : ¬ ((i : Int) < 0) := by omega
  rw [if_neg this]; omega
theorem find4_none {x : Str} {i j : Nat} (h : i ≤ j) (hj : j ≤ x.length) : find4 x (ofL []) (i : Int) (j : Int) = (i : Int) := by
  unfold find4
  rw [from_nat, from_nat, Nat.min_eq_left hj, occ_one (a := i) (by omega) (by omega) ⟨h, ?_⟩ (fun k hk => ?_)]
  · rw [StrLaws.subAt_eq]; show ((List.take 0 _) == []) = true; rfl
  · have h0 : (ofL []).length = 0 := rfl
    rw [h0] at hk
    rcases hk with hk | hk <;> omega
theorem find4_some {x : Str} {p g : List Nat} (hx : x.cps.toList = g) :
    (inB p g = false ∧ find4 x (ofL p) 0 (g.length : Int) = -1) ∨ ∃ i : Nat, inB p g = true ∧ find4 x (ofL p) 0 (g.length : Int) = (i : Int) ∧ i + p.length ≤ g.length := by
  have hl : x.length = g.length := by rw [← hx, Array.length_toList]; rfl
  have hAt : ∀ i, StrLaws.At x (ofL p) x.length i ↔ i + p.length ≤ g.length ∧ (g.drop i).take p.length = p := fun i => by
    unfold StrLaws.At
    rw [StrLaws.subAt_eq, hx, hl]
    show i + p.length ≤ _ ∧ ((List.take p.length _ == p) = true) ↔ _
    rw [beq_iff_eq]
  unfold find4
  have h0 := from_nat x.length 0
  rw [← hl, from_nat, Nat.min_self]
  rw [show ((0 : Nat) : Int) = 0 from rfl] at h0
  rw [h0]
  rcases StrLaws.occ_head_from x (ofL p) 0 1 (by omega) with ⟨e, hn⟩ | ⟨i, r, e, _, ha, _⟩
  · left
    rw [e]
    refine ⟨?_, rfl⟩
    cases q : inB p g with
    | false => rfl
    | true =>
      obtain ⟨i, h1, h2⟩ := (inB_iff p g).mp q
      exact absurd ((hAt i).mpr ⟨h1, h2⟩) (hn i (by omega))
  · right
    rw [e]
    have := (hAt i).mp ha
    exact ⟨i, (inB_iff p g).mpr ⟨i, this.1, this.2⟩, rfl, by omega⟩
theorem dots_app (p : List Nat) : (Str.ofString "..." ++ ofL p).cps.toList = [46, 46, 46] ++ p := by
  rw [Str.cps_append, Array.toList_append]; rfl
theorem app_dots (p : List Nat) : (ofL p ++ Str.ofString "...").cps.toList = p ++ [46, 46, 46] := by
  rw [Str.cps_append, Array.toList_append]; rfl
theorem dots_app_dots (p : List Nat) : (Str.ofString "..." ++ ofL p ++ Str.ofString "...").cps.toList = [46, 46, 46] ++ (p ++ [46, 46, 46]) := by
  rw [Str.cps_append, Str.cps_append, Array.toList_append, Array.toList_append, List.append_assoc]; rfl
theorem slice_mid (l : List Nat) (a b : Nat) (h : a ≤ b) (hb : b ≤ l.length) : Txt.slice (ofL l) (some (a : Int)) (some (b : Int)) = ofL ((l.drop a).take (b - a)) :=
  (StrLaws.sliceText_plain (x := ofL l) ⟨by omega, by omega, by show (b : Int) ≤ (l.length : Int); omega⟩).trans (by
    have e1 : ((a : Nat) : Int).toNat = a := by omega
    have e2 : ((b : Int) - (a : Int)).toNat = b - a := by omega
    rw [e1, e2])
theorem slice_to (l : List Nat) (n : Nat) (hn : n ≤ l.length) : Txt.slice (ofL l) none (some (n : Int)) = ofL (l.take n) :=
  (StrLaws.sliceText_to (x := ofL l) ⟨by omega, by show (n : Int) ≤ (l.length : Int); omega⟩).trans (by
    have e2 : ((n : Int) - 0).toNat = n := by omega
    rw [e2]; rfl)
theorem slice_from (l : List Nat) (n : Nat) (hn : n ≤ l.length) : Txt.slice (ofL l) (some (n : Int)) none = ofL (l.drop n) :=
  (StrLaws.sliceText_from (x := ofL l) ⟨by omega, by show (n : Int) ≤ (l.length : Int); omega⟩).trans (by
    have e1 : ((n : Nat) : Int).toNat = n := by omega
    have e2 : (((ofL l).cps.toList.length : Int) - (n : Int)).toNat = l.length - n := by show ((l.length : Int) - _).toNat = _; omega
    rw [e1, e2]
    show ofL _ = _
    rw [List.take_of_length_le (by rw [List.length_drop]; exact Nat.le_refl _)])
theorem slice_in (l : List Nat) (h : 2 ≤ l.length) : Txt.slice (ofL l) (some 1) (some (-1)) = ofL ((l.drop 1).take (l.length - 2)) := by
  have e := StrLaws.sliceText_neg_hi (ofL l) (some 1) (j := -1) (by decide) (by show -(l.length : Int) ≤ -1; omega)
  have e3 : ((-1 : Int) + ((ofL l).length : Int)) = ((l.length - 1 : Nat) : Int) := by show (-1 : Int) + (l.length : Int) = _; omega
  rw [e3] at e
  refine e.trans ?_
  have := slice_mid l 1 (l.length - 1) (by omega) (by omega)
  have e4 : l.length - 1 - 1 = l.length - 2 := by omega
  rw [e4] at this
  exact this

end
section
local macro_rules | `(tactic| walk_at "call builtin:str.split") => `(tactic| refine hold_in ?_)
local macro_rules | `(tactic| walk_at "call builtin:str.startswith") => `(tactic| (refine SC.startswith ?_))
local macro_rules | `(tactic| walk_at "call builtin:str.endswith") => `(tactic| (refine SC.endswith ?_))
local macro_rules | `(tactic| walk_at "call builtin:str.find") => `(tactic| refine hold_in ?_)
set_option pp.maxSteps 3000
set_option maxHeartbeats 8000000 in
theorem ell_mid (w : World) (x y : Str) (p gl : List Nat) (t t' : Tok) (hp : ∀ c ∈ p, c ≠ 46) (hx : x.cps.toList = [46, 46, 46] ++ (p ++ [46, 46, 46])) (hy : y.cps.toList = gl) (hl : p.length ≤ 100) (hg : gl.length ≤ 100) : Spec PySem.Challenge.rw_sc0030_01.row.prog (fun w => Mine.hd.heap_39 w.params) w 21 [.str x t, .str y t'] 2 90 [] (fun r W' => r = .bool (inB p gl) ∧ W' = []) := by
  ((k_fill; k_dflt (refine' spec_plain ?k6_29 ?k7_29 ?h1_29 ?k9_29 ?kB_29 ?c5_29 ?c2_29 ?c3_29 ?c4_29 ?_; (case k6_29 => k_is); (case k7_29 => k_is); (case h1_29 => first | decide | exact Nat.succ_pos _); (case k9_29 => exact rfl); (case kB_29 => exact locs rfl); (case c5_29 => decide); (case c2_29 => exact rfl); (case c3_29 => exact rfl); (case c4_29 => exact rfl); k_whole)))
  intro loose mean mg mb dp un gd env outer base g L' h₁ s tk F' N' B' X' T' lW hd hu
  try dsimp only at X'
  try dsimp only
  try k_fold
  try k_lt lW
  have kM := kstMark
  k_with_none
  have hxl : x.length = p.length + 6 := by
    show x.cps.size = _
    rw [← Array.length_toList, hx]; simp only [List.length_append, List.length_cons, List.length_nil]; omega
  have hyl : y.length = gl.length := by rw [← hy, Array.length_toList]; rfl
  have hin : (Builtin.Str.occurrences x (Str.ofString "...") 0 x.length 1).isEmpty = false := dots_in (i := 0) (dots_at (by omega) (by rw [hx]; rfl))
  (repeat' (first |  (k_unfold; (try dsimp only)) | (k_here; (with_reducible show wpAny _ _ (eval (Expr.Name _ _) (compEnv _ _ _)) _ _ _); k_dflt (first | (refine name_locS rfl rfl rfl (by decide) (by with_reducible assumption) (by assumption) ?_; k_whole) | (refine nameG_BS rfl rfl rfl rfl (by decide) (by k_asm) (by k_asm) (by k_asm) (by k_is) (by boot_fast) (by decide) ?_; k_whole))) | (k_here; (with_reducible show wpAny _ _ (call (Value.type _) [Value.str _ _]) _ _ _); k_dflt (refine list_strN rfl (by k_asm) (by k_asm) ?_ (by rw [sizeLine_eq]; omega)); intro D9 ys9 c9 h9 tk9 F9 N9 l9 m9 hS9; (try k_lt l9); (try k_sweep)) | (k_here; (with_reducible show wpAny _ _ (compareOp CmpOp.NotEq (Value.ref _) (Value.ref _)) _ _ _); k_dflt (first | refine strs_ne_nil (by is_list) (by is_list) (by ke_room) ?_ | refine strs_ne_cons (by is_list) (by is_list) (by k_asm) (by ke_room) ?_ | refine strs_ne (by is_list) (by is_list) (by first | k_asm | exact StrsAre.nil) (by first | exact StrsAre.nil | k_asm) (by ke_room) ?_)) | (k_here; (with_reducible show wpAny _ _ (compareOp CmpOp.Eq (Value.ref _) (Value.ref _)) _ _ _); k_dflt (refine strs_eq (by is_list) (by is_list) (by first | k_asm | exact StrsAre.nil) (by first | exact StrsAre.nil | k_asm) (by ke_room) ?_)) | (k_here; (with_reducible show wpAny _ _ (call (Value.builtin _) [Value.ref _, Value.int 0 _]) _ _ _); k_dflt (refine pop_first (by k_asm) (by k_asm) (by k_upd) (by (rw [sizeLine_eq]; (try have hL9 := PyProof.Rows.StrsAre.length (by assumption)); (try simp only [List.length_cons] at *); omega)) ?_; k_whole); intro h9 F9 N9; (try k_sweep)) | (k_here; (with_reducible show wpAny _ _ (call (Value.builtin "len") [Value.str _ _]) _ _ _); refine len_str (by omega) ?_) | (k_here; (with_reducible show wpAny _ _ (call (Value.builtin "len") [Value.ref _]) _ _ _); k_dflt (refine len_strsA (by is_list) (by assumption) (by ((try simp only [List.length_map]); omega)) ?_; k_whole); (try simp only [List.length_map])) | walk1 | (dsimp only; walk1) | (dsimp only; k_unfold; (try dsimp only)) | fail "no step"))
  refine hold_out ?_
  refine KSpl.split1 (by k_asm) (by k_asm) (by decide) ?_ (by rw [sizeLine_eq]; omega)
  intro D' l' h' k' e' a' F' N' l1
  rw [split_mid hp hx] at e'
  kspl_open e'
  simp only [strValues, List.map_cons, List.map_nil] at N' a'
  try k_lt l1
  have hel : (ofL []).length = 0 := rfl
  have hpl : (ofL p).length = p.length := rfl
  have hf0 : find4 y (ofL []) 0 (y.length : Int) = 0 := find4_none (i := 0) (by omega) (Nat.le_refl _)
  (repeat' (first |  (k_unfold; (try dsimp only)) | (k_here; (with_reducible show wpAny _ _ (eval (Expr.Name _ _) (compEnv _ _ _)) _ _ _); k_dflt (first | (refine name_locS rfl rfl rfl (by decide) (by with_reducible assumption) (by assumption) ?_; k_whole) | (refine nameG_BS rfl rfl rfl rfl (by decide) (by k_asm) (by k_asm) (by k_asm) (by k_is) (by boot_fast) (by decide) ?_; k_whole))) | (k_here; (with_reducible show wpAny _ _ (call (Value.type _) [Value.str _ _]) _ _ _); k_dflt (refine list_strN rfl (by k_asm) (by k_asm) ?_ (by rw [sizeLine_eq]; omega)); intro D9 ys9 c9 h9 tk9 F9 N9 l9 m9 hS9; (try k_lt l9); (try k_sweep)) | (k_here; (with_reducible show wpAny _ _ (compareOp CmpOp.NotEq (Value.ref _) (Value.ref _)) _ _ _); k_dflt (first | refine strs_ne_nil (by is_list) (by is_list) (by ke_room) ?_ | refine strs_ne_cons (by is_list) (by is_list) (by k_asm) (by ke_room) ?_ | refine strs_ne (by is_list) (by is_list) (by first | k_asm | exact StrsAre.nil) (by first | exact StrsAre.nil | k_asm) (by ke_room) ?_)) | (k_here; (with_reducible show wpAny _ _ (compareOp CmpOp.Eq (Value.ref _) (Value.ref _)) _ _ _); k_dflt (refine strs_eq (by is_list) (by is_list) (by first | k_asm | exact StrsAre.nil) (by first | exact StrsAre.nil | k_asm) (by ke_room) ?_)) | (k_here; (with_reducible show wpAny _ _ (call (Value.builtin _) [Value.ref _, Value.int 0 _]) _ _ _); k_dflt (refine pop_first (by k_asm) (by k_asm) (by k_upd) (by (rw [sizeLine_eq]; (try have hL9 := PyProof.Rows.StrsAre.length (by assumption)); (try simp only [List.length_cons] at *); omega)) ?_; k_whole); intro h9 F9 N9; (try k_sweep)) | (k_here; (with_reducible show wpAny _ _ (call (Value.builtin "len") [Value.str _ _]) _ _ _); refine len_str (by omega) ?_) | (k_here; (with_reducible show wpAny _ _ (call (Value.builtin "len") [Value.ref _]) _ _ _); k_dflt (refine len_strsA (by is_list) (by assumption) (by ((try simp only [List.length_map]); omega)) ?_; k_whole); (try simp only [List.length_map])) | walk1 | (dsimp only; walk1) | (dsimp only; k_unfold; (try dsimp only)) | fail "no step"))
  refine hold_out ?_
  refine find4_call ?_
  rw [hf0]
  (repeat' (first |  (k_unfold; (try dsimp only)) | (k_here; (with_reducible show wpAny _ _ (eval (Expr.Name _ _) (compEnv _ _ _)) _ _ _); k_dflt (first | (refine name_locS rfl rfl rfl (by decide) (by with_reducible assumption) (by assumption) ?_; k_whole) | (refine nameG_BS rfl rfl rfl rfl (by decide) (by k_asm) (by k_asm) (by k_asm) (by k_is) (by boot_fast) (by decide) ?_; k_whole))) | (k_here; (with_reducible show wpAny _ _ (call (Value.type _) [Value.str _ _]) _ _ _); k_dflt (refine list_strN rfl (by k_asm) (by k_asm) ?_ (by rw [sizeLine_eq]; omega)); intro D9 ys9 c9 h9 tk9 F9 N9 l9 m9 hS9; (try k_lt l9); (try k_sweep)) | (k_here; (with_reducible show wpAny _ _ (compareOp CmpOp.NotEq (Value.ref _) (Value.ref _)) _ _ _); k_dflt (first | refine strs_ne_nil (by is_list) (by is_list) (by ke_room) ?_ | refine strs_ne_cons (by is_list) (by is_list) (by k_asm) (by ke_room) ?_ | refine strs_ne (by is_list) (by is_list) (by first | k_asm | exact StrsAre.nil) (by first | exact StrsAre.nil | k_asm) (by ke_room) ?_)) | (k_here; (with_reducible show wpAny _ _ (compareOp CmpOp.Eq (Value.ref _) (Value.ref _)) _ _ _); k_dflt (refine strs_eq (by is_list) (by is_list) (by first | k_asm | exact StrsAre.nil) (by first | exact StrsAre.nil | k_asm) (by ke_room) ?_)) | (k_here; (with_reducible show wpAny _ _ (call (Value.builtin _) [Value.ref _, Value.int 0 _]) _ _ _); k_dflt (refine pop_first (by k_asm) (by k_asm) (by k_upd) (by (rw [sizeLine_eq]; (try have hL9 := PyProof.Rows.StrsAre.length (by assumption)); (try simp only [List.length_cons] at *); omega)) ?_; k_whole); intro h9 F9 N9; (try k_sweep)) | (k_here; (with_reducible show wpAny _ _ (call (Value.builtin "len") [Value.str _ _]) _ _ _); refine len_str (by omega) ?_) | (k_here; (with_reducible show wpAny _ _ (call (Value.builtin "len") [Value.ref _]) _ _ _); k_dflt (refine len_strsA (by is_list) (by assumption) (by ((try simp only [List.length_map]); omega)) ?_; k_whole); (try simp only [List.length_map])) | walk1 | (dsimp only; walk1) | (dsimp only; k_unfold; (try dsimp only)) | fail "no step"))
  refine hold_out ?_
  refine find4_call ?_
  have e0 : (0 : Int) + ((ofL []).length : Int) = 0 := rfl
  rw [e0]
  rcases find4_some (p := p) hy with ⟨hi, e⟩ | ⟨i, hi, e, hle⟩
  · rw [hyl, e]
    (repeat' (first |  (k_unfold; (try dsimp only)) | (k_here; (with_reducible show wpAny _ _ (eval (Expr.Name _ _) (compEnv _ _ _)) _ _ _); k_dflt (first | (refine name_locS rfl rfl rfl (by decide) (by with_reducible assumption) (by assumption) ?_; k_whole) | (refine nameG_BS rfl rfl rfl rfl (by decide) (by k_asm) (by k_asm) (by k_asm) (by k_is) (by boot_fast) (by decide) ?_; k_whole))) | (k_here; (with_reducible show wpAny _ _ (call (Value.type _) [Value.str _ _]) _ _ _); k_dflt (refine list_strN rfl (by k_asm) (by k_asm) ?_ (by rw [sizeLine_eq]; omega)); intro D9 ys9 c9 h9 tk9 F9 N9 l9 m9 hS9; (try k_lt l9); (try k_sweep)) | (k_here; (with_reducible show wpAny _ _ (compareOp CmpOp.NotEq (Value.ref _) (Value.ref _)) _ _ _); k_dflt (first | refine strs_ne_nil (by is_list) (by is_list) (by ke_room) ?_ | refine strs_ne_cons (by is_list) (by is_list) (by k_asm) (by ke_room) ?_ | refine strs_ne (by is_list) (by is_list) (by first | k_asm | exact StrsAre.nil) (by first | exact StrsAre.nil | k_asm) (by ke_room) ?_)) | (k_here; (with_reducible show wpAny _ _ (compareOp CmpOp.Eq (Value.ref _) (Value.ref _)) _ _ _); k_dflt (refine strs_eq (by is_list) (by is_list) (by first | k_asm | exact StrsAre.nil) (by first | exact StrsAre.nil | k_asm) (by ke_room) ?_)) | (k_here; (with_reducible show wpAny _ _ (call (Value.builtin _) [Value.ref _, Value.int 0 _]) _ _ _); k_dflt (refine pop_first (by k_asm) (by k_asm) (by k_upd) (by (rw [sizeLine_eq]; (try have hL9 := PyProof.Rows.StrsAre.length (by assumption)); (try simp only [List.length_cons] at *); omega)) ?_; k_whole); intro h9 F9 N9; (try k_sweep)) | (k_here; (with_reducible show wpAny _ _ (call (Value.builtin "len") [Value.str _ _]) _ _ _); refine len_str (by omega) ?_) | (k_here; (with_reducible show wpAny _ _ (call (Value.builtin "len") [Value.ref _]) _ _ _); k_dflt (refine len_strsA (by is_list) (by assumption) (by ((try simp only [List.length_map]); omega)) ?_; k_whole); (try simp only [List.length_map])) | walk1 | (dsimp only; walk1) | (dsimp only; k_unfold; (try dsimp only)) | fail "no step"))
    exact Back.mk' ⟨by rw [hi], rfl⟩ (by assumption) (by assumption) (fun _ h => nomatch h) (fun _ h => nomatch h)
  · rw [hyl, e]
    (repeat' (first |  (k_unfold; (try dsimp only)) | (k_here; (with_reducible show wpAny _ _ (eval (Expr.Name _ _) (compEnv _ _ _)) _ _ _); k_dflt (first | (refine name_locS rfl rfl rfl (by decide) (by with_reducible assumption) (by assumption) ?_; k_whole) | (refine nameG_BS rfl rfl rfl rfl (by decide) (by k_asm) (by k_asm) (by k_asm) (by k_is) (by boot_fast) (by decide) ?_; k_whole))) | (k_here; (with_reducible show wpAny _ _ (call (Value.type _) [Value.str _ _]) _ _ _); k_dflt (refine list_strN rfl (by k_asm) (by k_asm) ?_ (by rw [sizeLine_eq]; omega)); intro D9 ys9 c9 h9 tk9 F9 N9 l9 m9 hS9; (try k_lt l9); (try k_sweep)) | (k_here; (with_reducible show wpAny _ _ (compareOp CmpOp.NotEq (Value.ref _) (Value.ref _)) _ _ _); k_dflt (first | refine strs_ne_nil (by is_list) (by is_list) (by ke_room) ?_ | refine strs_ne_cons (by is_list) (by is_list) (by k_asm) (by ke_room) ?_ | refine strs_ne (by is_list) (by is_list) (by first | k_asm | exact StrsAre.nil) (by first | exact StrsAre.nil | k_asm) (by ke_room) ?_)) | (k_here; (with_reducible show wpAny _ _ (compareOp CmpOp.Eq (Value.ref _) (Value.ref _)) _ _ _); k_dflt (refine strs_eq (by is_list) (by is_list) (by first | k_asm | exact StrsAre.nil) (by first | exact StrsAre.nil | k_asm) (by ke_room) ?_)) | (k_here; (with_reducible show wpAny _ _ (call (Value.builtin _) [Value.ref _, Value.int 0 _]) _ _ _); k_dflt (refine pop_first (by k_asm) (by k_asm) (by k_upd) (by (rw [sizeLine_eq]; (try have hL9 := PyProof.Rows.StrsAre.length (by assumption)); (try simp only [List.length_cons] at *); omega)) ?_; k_whole); intro h9 F9 N9; (try k_sweep)) | (k_here; (with_reducible show wpAny _ _ (call (Value.builtin "len") [Value.str _ _]) _ _ _); refine len_str (by omega) ?_) | (k_here; (with_reducible show wpAny _ _ (call (Value.builtin "len") [Value.ref _]) _ _ _); k_dflt (refine len_strsA (by is_list) (by assumption) (by ((try simp only [List.length_map]); omega)) ?_; k_whole); (try simp only [List.length_map])) | walk1 | (dsimp only; walk1) | (dsimp only; k_unfold; (try dsimp only)) | fail "no step"))
    refine hold_out ?_
    refine find4_call ?_
    have e2 : ((i : Int) + ((ofL p).length : Int)) = ((i + p.length : Nat) : Int) := by rw [hpl]; omega
    rw [e2, find4_none (by omega) (by omega)]
    (repeat' (first |  (k_unfold; (try dsimp only)) | (k_here; (with_reducible show wpAny _ _ (eval (Expr.Name _ _) (compEnv _ _ _)) _ _ _); k_dflt (first | (refine name_locS rfl rfl rfl (by decide) (by with_reducible assumption) (by assumption) ?_; k_whole) | (refine nameG_BS rfl rfl rfl rfl (by decide) (by k_asm) (by k_asm) (by k_asm) (by k_is) (by boot_fast) (by decide) ?_; k_whole))) | (k_here; (with_reducible show wpAny _ _ (call (Value.type _) [Value.str _ _]) _ _ _); k_dflt (refine list_strN rfl (by k_asm) (by k_asm) ?_ (by rw [sizeLine_eq]; omega)); intro D9 ys9 c9 h9 tk9 F9 N9 l9 m9 hS9; (try k_lt l9); (try k_sweep)) | (k_here; (with_reducible show wpAny _ _ (compareOp CmpOp.NotEq (Value.ref _) (Value.ref _)) _ _ _); k_dflt (first | refine strs_ne_nil (by is_list) (by is_list) (by ke_room) ?_ | refine strs_ne_cons (by is_list) (by is_list) (by k_asm) (by ke_room) ?_ | refine strs_ne (by is_list) (by is_list) (by first | k_asm | exact StrsAre.nil) (by first | exact StrsAre.nil | k_asm) (by ke_room) ?_)) | (k_here; (with_reducible show wpAny _ _ (compareOp CmpOp.Eq (Value.ref _) (Value.ref _)) _ _ _); k_dflt (refine strs_eq (by is_list) (by is_list) (by first | k_asm | exact StrsAre.nil) (by first | exact StrsAre.nil | k_asm) (by ke_room) ?_)) | (k_here; (with_reducible show wpAny _ _ (call (Value.builtin _) [Value.ref _, Value.int 0 _]) _ _ _); k_dflt (refine pop_first (by k_asm) (by k_asm) (by k_upd) (by (rw [sizeLine_eq]; (try have hL9 := PyProof.Rows.StrsAre.length (by assumption)); (try simp only [List.length_cons] at *); omega)) ?_; k_whole); intro h9 F9 N9; (try k_sweep)) | (k_here; (with_reducible show wpAny _ _ (call (Value.builtin "len") [Value.str _ _]) _ _ _); refine len_str (by omega) ?_) | (k_here; (with_reducible show wpAny _ _ (call (Value.builtin "len") [Value.ref _]) _ _ _); k_dflt (refine len_strsA (by is_list) (by assumption) (by ((try simp only [List.length_map]); omega)) ?_; k_whole); (try simp only [List.length_map])) | walk1 | (dsimp only; walk1) | (dsimp only; k_unfold; (try dsimp only)) | fail "no step"))
    exact Back.mk' ⟨by rw [hi], rfl⟩ (by assumption) (by assumption) (fun _ h => nomatch h) (fun _ h => nomatch h)
set_option maxHeartbeats 8000000 in
theorem ell_pre (w : World) (x y : Str) (p gl : List Nat) (t t' : Tok) (hp : ∀ c ∈ p, c ≠ 46) (hx : x.cps.toList = [46, 46, 46] ++ p) (hy : y.cps.toList = gl) (hpn : 1 ≤ p.length) (hl : p.length ≤ 100) (hg : gl.length ≤ 100) : Spec PySem.Challenge.rw_sc0030_01.row.prog (fun w => Mine.hd.heap_39 w.params) w 21 [.str x t, .str y t'] 2 90 [] (fun r W' => r = .bool (p.isSuffixOf gl) ∧ W' = []) := by
  ((k_fill; k_dflt (refine' spec_plain ?k6_28 ?k7_28 ?h1_28 ?k9_28 ?kB_28 ?c5_28 ?c2_28 ?c3_28 ?c4_28 ?_; (case k6_28 => k_is); (case k7_28 => k_is); (case h1_28 => first | decide | exact Nat.succ_pos _); (case k9_28 => exact rfl); (case kB_28 => exact locs rfl); (case c5_28 => decide); (case c2_28 => exact rfl); (case c3_28 => exact rfl); (case c4_28 => exact rfl); k_whole)))
  intro loose mean mg mb dp un gd env outer base g L' h₁ s tk F' N' B' X' T' lW hd hu
  try dsimp only at X'
  try dsimp only
  try k_fold
  try k_lt lW
  have kM := kstMark
  k_with_none
  have hxl : x.length = p.length + 3 := by
    show x.cps.size = _
    rw [← Array.length_toList, hx]; simp only [List.length_append, List.length_cons, List.length_nil]; omega
  have hyl : y.length = gl.length := by rw [← hy, Array.length_toList]; rfl
  have hin : (Builtin.Str.occurrences x (Str.ofString "...") 0 x.length 1).isEmpty = false := dots_in (i := 0) (dots_at (by omega) (by rw [hx]; rfl))
  (repeat' (first |  (k_unfold; (try dsimp only)) | ((with_reducible show wpAny _ _ (truthy (Value.str _ _)) _ _ _); refine KXt.truthy_pos (by with_reducible assumption) (by with_reducible assumption) (by decide) ?_; intro _) | (k_here; (with_reducible show wpAny _ _ (eval (Expr.Name _ _) (compEnv _ _ _)) _ _ _); k_dflt (first | (refine name_locS rfl rfl rfl (by decide) (by with_reducible assumption) (by assumption) ?_; k_whole) | (refine nameG_BS rfl rfl rfl rfl (by decide) (by k_asm) (by k_asm) (by k_asm) (by k_is) (by boot_fast) (by decide) ?_; k_whole))) | (k_here; (with_reducible show wpAny _ _ (call (Value.type _) [Value.str _ _]) _ _ _); k_dflt (refine list_strN rfl (by k_asm) (by k_asm) ?_ (by rw [sizeLine_eq]; omega)); intro D9 ys9 c9 h9 tk9 F9 N9 l9 m9 hS9; (try k_lt l9); (try k_sweep)) | (k_here; (with_reducible show wpAny _ _ (compareOp CmpOp.NotEq (Value.ref _) (Value.ref _)) _ _ _); k_dflt (first | refine strs_ne_nil (by is_list) (by is_list) (by ke_room) ?_ | refine strs_ne_cons (by is_list) (by is_list) (by k_asm) (by ke_room) ?_ | refine strs_ne (by is_list) (by is_list) (by first | k_asm | exact StrsAre.nil) (by first | exact StrsAre.nil | k_asm) (by ke_room) ?_)) | (k_here; (with_reducible show wpAny _ _ (compareOp CmpOp.Eq (Value.ref _) (Value.ref _)) _ _ _); k_dflt (refine strs_eq (by is_list) (by is_list) (by first | k_asm | exact StrsAre.nil) (by first | exact StrsAre.nil | k_asm) (by ke_room) ?_)) | (k_here; (with_reducible show wpAny _ _ (call (Value.builtin _) [Value.ref _, Value.int 0 _]) _ _ _); k_dflt (refine pop_first (by k_asm) (by k_asm) (by k_upd) (by (rw [sizeLine_eq]; (try have hL9 := PyProof.Rows.StrsAre.length (by assumption)); (try simp only [List.length_cons] at *); omega)) ?_; k_whole); intro h9 F9 N9; (try k_sweep)) | (k_here; (with_reducible show wpAny _ _ (call (Value.builtin "len") [Value.str _ _]) _ _ _); refine len_str (by omega) ?_) | (k_here; (with_reducible show wpAny _ _ (call (Value.builtin "len") [Value.ref _]) _ _ _); k_dflt (refine len_strsA (by is_list) (by assumption) (by ((try simp only [List.length_map]); omega)) ?_; k_whole); (try simp only [List.length_map])) | walk1 | (dsimp only; walk1) | (dsimp only; k_unfold; (try dsimp only)) | fail "no step"))
  refine hold_out ?_
  refine KSpl.split1 (by k_asm) (by k_asm) (by decide) ?_ (by rw [sizeLine_eq]; omega)
  intro D' l' h' k' e' a' F' N' l1
  rw [split_pre hp hx] at e'
  kspl_open e'
  simp only [strValues, List.map_cons, List.map_nil] at N' a'
  try k_lt l1
  have hel : (ofL []).length = 0 := rfl
  have hpl : (ofL p).length = p.length := rfl
  have hpp : 1 ≤ (ofL p).length := hpn
  have hpq : (ofL p).length ≤ 100 := hl
  have hes : Txt.endswith y (ofL p) = p.isSuffixOf gl := by rw [ends_eq, hy]
  have hle : p.isSuffixOf gl = true → p.length ≤ gl.length := fun h => (List.isSuffixOf_iff_suffix.mp h).length_le
  (repeat' (first |  (k_unfold; (try dsimp only)) | ((with_reducible show wpAny _ _ (truthy (Value.str _ _)) _ _ _); refine KXt.truthy_pos (by with_reducible assumption) (by with_reducible assumption) (by decide) ?_; intro _) | (k_here; (with_reducible show wpAny _ _ (eval (Expr.Name _ _) (compEnv _ _ _)) _ _ _); k_dflt (first | (refine name_locS rfl rfl rfl (by decide) (by with_reducible assumption) (by assumption) ?_; k_whole) | (refine nameG_BS rfl rfl rfl rfl (by decide) (by k_asm) (by k_asm) (by k_asm) (by k_is) (by boot_fast) (by decide) ?_; k_whole))) | (k_here; (with_reducible show wpAny _ _ (call (Value.type _) [Value.str _ _]) _ _ _); k_dflt (refine list_strN rfl (by k_asm) (by k_asm) ?_ (by rw [sizeLine_eq]; omega)); intro D9 ys9 c9 h9 tk9 F9 N9 l9 m9 hS9; (try k_lt l9); (try k_sweep)) | (k_here; (with_reducible show wpAny _ _ (compareOp CmpOp.NotEq (Value.ref _) (Value.ref _)) _ _ _); k_dflt (first | refine strs_ne_nil (by is_list) (by is_list) (by ke_room) ?_ | refine strs_ne_cons (by is_list) (by is_list) (by k_asm) (by ke_room) ?_ | refine strs_ne (by is_list) (by is_list) (by first | k_asm | exact StrsAre.nil) (by first | exact StrsAre.nil | k_asm) (by ke_room) ?_)) | (k_here; (with_reducible show wpAny _ _ (compareOp CmpOp.Eq (Value.ref _) (Value.ref _)) _ _ _); k_dflt (refine strs_eq (by is_list) (by is_list) (by first | k_asm | exact StrsAre.nil) (by first | exact StrsAre.nil | k_asm) (by ke_room) ?_)) | (k_here; (with_reducible show wpAny _ _ (call (Value.builtin _) [Value.ref _, Value.int 0 _]) _ _ _); k_dflt (refine pop_first (by k_asm) (by k_asm) (by k_upd) (by (rw [sizeLine_eq]; (try have hL9 := PyProof.Rows.StrsAre.length (by assumption)); (try simp only [List.length_cons] at *); omega)) ?_; k_whole); intro h9 F9 N9; (try k_sweep)) | (k_here; (with_reducible show wpAny _ _ (call (Value.builtin "len") [Value.str _ _]) _ _ _); refine len_str (by omega) ?_) | (k_here; (with_reducible show wpAny _ _ (call (Value.builtin "len") [Value.ref _]) _ _ _); k_dflt (refine len_strsA (by is_list) (by assumption) (by ((try simp only [List.length_map]); omega)) ?_; k_whole); (try simp only [List.length_map])) | walk1 | (dsimp only; walk1) | (dsimp only; k_unfold; (try dsimp only)) | fail "no step"))
  · with_reducible rename Txt.endswith y (ofL p) = true => ht
    have := hle (hes.symm.trans ht)
    omega
  · with_reducible rename Txt.endswith y (ofL p) = true => ht
    have h3 := hle (hes.symm.trans ht)
    refine hold_out ?_
    refine find4_call ?_
    have e2 : ((y.length : Int) - ((ofL p).length : Int)) = ((gl.length - p.length : Nat) : Int) := by omega
    have h4 := find4_none (x := y) (i := 0) (j := gl.length - p.length) (by omega) (by omega)
    rw [show ((0 : Nat) : Int) = 0 from rfl] at h4
    rw [e2, h4]
    (repeat' (first |  (k_unfold; (try dsimp only)) | ((with_reducible show wpAny _ _ (truthy (Value.str _ _)) _ _ _); refine KXt.truthy_pos (by with_reducible assumption) (by with_reducible assumption) (by decide) ?_; intro _) | (k_here; (with_reducible show wpAny _ _ (eval (Expr.Name _ _) (compEnv _ _ _)) _ _ _); k_dflt (first | (refine name_locS rfl rfl rfl (by decide) (by with_reducible assumption) (by assumption) ?_; k_whole) | (refine nameG_BS rfl rfl rfl rfl (by decide) (by k_asm) (by k_asm) (by k_asm) (by k_is) (by boot_fast) (by decide) ?_; k_whole))) | (k_here; (with_reducible show wpAny _ _ (call (Value.type _) [Value.str _ _]) _ _ _); k_dflt (refine list_strN rfl (by k_asm) (by k_asm) ?_ (by rw [sizeLine_eq]; omega)); intro D9 ys9 c9 h9 tk9 F9 N9 l9 m9 hS9; (try k_lt l9); (try k_sweep)) | (k_here; (with_reducible show wpAny _ _ (compareOp CmpOp.NotEq (Value.ref _) (Value.ref _)) _ _ _); k_dflt (first | refine strs_ne_nil (by is_list) (by is_list) (by ke_room) ?_ | refine strs_ne_cons (by is_list) (by is_list) (by k_asm) (by ke_room) ?_ | refine strs_ne (by is_list) (by is_list) (by first | k_asm | exact StrsAre.nil) (by first | exact StrsAre.nil | k_asm) (by ke_room) ?_)) | (k_here; (with_reducible show wpAny _ _ (compareOp CmpOp.Eq (Value.ref _) (Value.ref _)) _ _ _); k_dflt (refine strs_eq (by is_list) (by is_list) (by first | k_asm | exact StrsAre.nil) (by first | exact StrsAre.nil | k_asm) (by ke_room) ?_)) | (k_here; (with_reducible show wpAny _ _ (call (Value.builtin _) [Value.ref _, Value.int 0 _]) _ _ _); k_dflt (refine pop_first (by k_asm) (by k_asm) (by k_upd) (by (rw [sizeLine_eq]; (try have hL9 := PyProof.Rows.StrsAre.length (by assumption)); (try simp only [List.length_cons] at *); omega)) ?_; k_whole); intro h9 F9 N9; (try k_sweep)) | (k_here; (with_reducible show wpAny _ _ (call (Value.builtin "len") [Value.str _ _]) _ _ _); refine len_str (by omega) ?_) | (k_here; (with_reducible show wpAny _ _ (call (Value.builtin "len") [Value.ref _]) _ _ _); k_dflt (refine len_strsA (by is_list) (by assumption) (by ((try simp only [List.length_map]); omega)) ?_; k_whole); (try simp only [List.length_map])) | walk1 | (dsimp only; walk1) | (dsimp only; k_unfold; (try dsimp only)) | fail "no step"))
    exact Back.mk' ⟨by rw [← hes, ht], rfl⟩ (by assumption) (by assumption) (fun _ h => nomatch h) (fun _ h => nomatch h)
  · with_reducible rename Txt.endswith y (ofL p) = false => ht
    exact Back.mk' ⟨by rw [← hes, ht], rfl⟩ (by assumption) (by assumption) (fun _ h => nomatch h) (fun _ h => nomatch h)
set_option maxHeartbeats 8000000 in
theorem ell_post (w : World) (x y : Str) (p gl : List Nat) (t t' : Tok) (hp : ∀ c ∈ p, c ≠ 46) (hx : x.cps.toList = p ++ [46, 46, 46]) (hy : y.cps.toList = gl) (hpn : 1 ≤ p.length) (hl : p.length ≤ 100) (hg : gl.length ≤ 100) : Spec PySem.Challenge.rw_sc0030_01.row.prog (fun w => Mine.hd.heap_39 w.params) w 21 [.str x t, .str y t'] 2 90 [] (fun r W' => r = .bool (p.isPrefixOf gl) ∧ W' = []) := by
  ((k_fill; k_dflt (refine' spec_plain ?k6_27 ?k7_27 ?h1_27 ?k9_27 ?kB_27 ?c5_27 ?c2_27 ?c3_27 ?c4_27 ?_; (case k6_27 => k_is); (case k7_27 => k_is); (case h1_27 => first | decide | exact Nat.succ_pos _); (case k9_27 => exact rfl); (case kB_27 => exact locs rfl); (case c5_27 => decide); (case c2_27 => exact rfl); (case c3_27 => exact rfl); (case c4_27 => exact rfl); k_whole)))
  intro loose mean mg mb dp un gd env outer base g L' h₁ s tk F' N' B' X' T' lW hd hu
  try dsimp only at X'
  try dsimp only
  try k_fold
  try k_lt lW
  have kM := kstMark
  k_with_none
  have hxl : x.length = p.length + 3 := by
    show x.cps.size = _
    rw [← Array.length_toList, hx]; simp only [List.length_append, List.length_cons, List.length_nil]
  have hyl : y.length = gl.length := by rw [← hy, Array.length_toList]; rfl
  have hin : (Builtin.Str.occurrences x (Str.ofString "...") 0 x.length 1).isEmpty = false := dots_in (i := p.length) (dots_at (by omega) (by rw [hx, List.drop_left]; rfl))
  (repeat' (first |  (k_unfold; (try dsimp only)) | ((with_reducible show wpAny _ _ (truthy (Value.str _ _)) _ _ _); refine KXt.truthy_pos (by with_reducible assumption) (by with_reducible assumption) (by decide) ?_; intro _) | (k_here; (with_reducible show wpAny _ _ (eval (Expr.Name _ _) (compEnv _ _ _)) _ _ _); k_dflt (first | (refine name_locS rfl rfl rfl (by decide) (by with_reducible assumption) (by assumption) ?_; k_whole) | (refine nameG_BS rfl rfl rfl rfl (by decide) (by k_asm) (by k_asm) (by k_asm) (by k_is) (by boot_fast) (by decide) ?_; k_whole))) | (k_here; (with_reducible show wpAny _ _ (call (Value.type _) [Value.str _ _]) _ _ _); k_dflt (refine list_strN rfl (by k_asm) (by k_asm) ?_ (by rw [sizeLine_eq]; omega)); intro D9 ys9 c9 h9 tk9 F9 N9 l9 m9 hS9; (try k_lt l9); (try k_sweep)) | (k_here; (with_reducible show wpAny _ _ (compareOp CmpOp.NotEq (Value.ref _) (Value.ref _)) _ _ _); k_dflt (first | refine strs_ne_nil (by is_list) (by is_list) (by ke_room) ?_ | refine strs_ne_cons (by is_list) (by is_list) (by k_asm) (by ke_room) ?_ | refine strs_ne (by is_list) (by is_list) (by first | k_asm | exact StrsAre.nil) (by first | exact StrsAre.nil | k_asm) (by ke_room) ?_)) | (k_here; (with_reducible show wpAny _ _ (compareOp CmpOp.Eq (Value.ref _) (Value.ref _)) _ _ _); k_dflt (refine strs_eq (by is_list) (by is_list) (by first | k_asm | exact StrsAre.nil) (by first | exact StrsAre.nil | k_asm) (by ke_room) ?_)) | (k_here; (with_reducible show wpAny _ _ (call (Value.builtin _) [Value.ref _, Value.int 0 _]) _ _ _); k_dflt (refine pop_first (by k_asm) (by k_asm) (by k_upd) (by (rw [sizeLine_eq]; (try have hL9 := PyProof.Rows.StrsAre.length (by assumption)); (try simp only [List.length_cons] at *); omega)) ?_; k_whole); intro h9 F9 N9; (try k_sweep)) | (k_here; (with_reducible show wpAny _ _ (call (Value.builtin "len") [Value.str _ _]) _ _ _); refine len_str (by omega) ?_) | (k_here; (with_reducible show wpAny _ _ (call (Value.builtin "len") [Value.ref _]) _ _ _); k_dflt (refine len_strsA (by is_list) (by assumption) (by ((try simp only [List.length_map]); omega)) ?_; k_whole); (try simp only [List.length_map])) | walk1 | (dsimp only; walk1) | (dsimp only; k_unfold; (try dsimp only)) | fail "no step"))
  refine hold_out ?_
  refine KSpl.split1 (by k_asm) (by k_asm) (by decide) ?_ (by rw [sizeLine_eq]; omega)
  intro D' l' h' k' e' a' F' N' l1
  rw [split_post hp hx] at e'
  kspl_open e'
  simp only [strValues, List.map_cons, List.map_nil] at N' a'
  try k_lt l1
  have hel : (ofL []).length = 0 := rfl
  have hpl : (ofL p).length = p.length := rfl
  have hpp : 1 ≤ (ofL p).length := hpn
  have hpq : (ofL p).length ≤ 100 := hl
  have hes : Txt.startswith y (ofL p) = p.isPrefixOf gl := by rw [starts_eq, hy]
  have hle : p.isPrefixOf gl = true → p.length ≤ gl.length := fun h => (List.isPrefixOf_iff_prefix.mp h).length_le
  (repeat' (first |  (k_unfold; (try dsimp only)) | ((with_reducible show wpAny _ _ (truthy (Value.str _ _)) _ _ _); refine KXt.truthy_pos (by with_reducible assumption) (by with_reducible assumption) (by decide) ?_; intro _) | (k_here; (with_reducible show wpAny _ _ (eval (Expr.Name _ _) (compEnv _ _ _)) _ _ _); k_dflt (first | (refine name_locS rfl rfl rfl (by decide) (by with_reducible assumption) (by assumption) ?_; k_whole) | (refine nameG_BS rfl rfl rfl rfl (by decide) (by k_asm) (by k_asm) (by k_asm) (by k_is) (by boot_fast) (by decide) ?_; k_whole))) | (k_here; (with_reducible show wpAny _ _ (call (Value.type _) [Value.str _ _]) _ _ _); k_dflt (refine list_strN rfl (by k_asm) (by k_asm) ?_ (by rw [sizeLine_eq]; omega)); intro D9 ys9 c9 h9 tk9 F9 N9 l9 m9 hS9; (try k_lt l9); (try k_sweep)) | (k_here; (with_reducible show wpAny _ _ (compareOp CmpOp.NotEq (Value.ref _) (Value.ref _)) _ _ _); k_dflt (first | refine strs_ne_nil (by is_list) (by is_list) (by ke_room) ?_ | refine strs_ne_cons (by is_list) (by is_list) (by k_asm) (by ke_room) ?_ | refine strs_ne (by is_list) (by is_list) (by first | k_asm | exact StrsAre.nil) (by first | exact StrsAre.nil | k_asm) (by ke_room) ?_)) | (k_here; (with_reducible show wpAny _ _ (compareOp CmpOp.Eq (Value.ref _) (Value.ref _)) _ _ _); k_dflt (refine strs_eq (by is_list) (by is_list) (by first | k_asm | exact StrsAre.nil) (by first | exact StrsAre.nil | k_asm) (by ke_room) ?_)) | (k_here; (with_reducible show wpAny _ _ (call (Value.builtin _) [Value.ref _, Value.int 0 _]) _ _ _); k_dflt (refine pop_first (by k_asm) (by k_asm) (by k_upd) (by (rw [sizeLine_eq]; (try have hL9 := PyProof.Rows.StrsAre.length (by assumption)); (try simp only [List.length_cons] at *); omega)) ?_; k_whole); intro h9 F9 N9; (try k_sweep)) | (k_here; (with_reducible show wpAny _ _ (call (Value.builtin "len") [Value.str _ _]) _ _ _); refine len_str (by omega) ?_) | (k_here; (with_reducible show wpAny _ _ (call (Value.builtin "len") [Value.ref _]) _ _ _); k_dflt (refine len_strsA (by is_list) (by assumption) (by ((try simp only [List.length_map]); omega)) ?_; k_whole); (try simp only [List.length_map])) | walk1 | (dsimp only; walk1) | (dsimp only; k_unfold; (try dsimp only)) | fail "no step"))
  · with_reducible rename Txt.startswith y (ofL p) = true => ht
    have := hle (hes.symm.trans ht)
    omega
  · with_reducible rename Txt.startswith y (ofL p) = true => ht
    have h3 := hle (hes.symm.trans ht)
    refine hold_out ?_
    refine find4_call ?_
    have h4 := find4_none (x := y) (i := p.length) (j := y.length) (by omega) (by omega)
    rw [← hpl] at h4
    rw [h4]
    (repeat' (first |  (k_unfold; (try dsimp only)) | ((with_reducible show wpAny _ _ (truthy (Value.str _ _)) _ _ _); refine KXt.truthy_pos (by with_reducible assumption) (by with_reducible assumption) (by decide) ?_; intro _) | (k_here; (with_reducible show wpAny _ _ (eval (Expr.Name _ _) (compEnv _ _ _)) _ _ _); k_dflt (first | (refine name_locS rfl rfl rfl (by decide) (by with_reducible assumption) (by assumption) ?_; k_whole) | (refine nameG_BS rfl rfl rfl rfl (by decide) (by k_asm) (by k_asm) (by k_asm) (by k_is) (by boot_fast) (by decide) ?_; k_whole))) | (k_here; (with_reducible show wpAny _ _ (call (Value.type _) [Value.str _ _]) _ _ _); k_dflt (refine list_strN rfl (by k_asm) (by k_asm) ?_ (by rw [sizeLine_eq]; omega)); intro D9 ys9 c9 h9 tk9 F9 N9 l9 m9 hS9; (try k_lt l9); (try k_sweep)) | (k_here; (with_reducible show wpAny _ _ (compareOp CmpOp.NotEq (Value.ref _) (Value.ref _)) _ _ _); k_dflt (first | refine strs_ne_nil (by is_list) (by is_list) (by ke_room) ?_ | refine strs_ne_cons (by is_list) (by is_list) (by k_asm) (by ke_room) ?_ | refine strs_ne (by is_list) (by is_list) (by first | k_asm | exact StrsAre.nil) (by first | exact StrsAre.nil | k_asm) (by ke_room) ?_)) | (k_here; (with_reducible show wpAny _ _ (compareOp CmpOp.Eq (Value.ref _) (Value.ref _)) _ _ _); k_dflt (refine strs_eq (by is_list) (by is_list) (by first | k_asm | exact StrsAre.nil) (by first | exact StrsAre.nil | k_asm) (by ke_room) ?_)) | (k_here; (with_reducible show wpAny _ _ (call (Value.builtin _) [Value.ref _, Value.int 0 _]) _ _ _); k_dflt (refine pop_first (by k_asm) (by k_asm) (by k_upd) (by (rw [sizeLine_eq]; (try have hL9 := PyProof.Rows.StrsAre.length (by assumption)); (try simp only [List.length_cons] at *); omega)) ?_; k_whole); intro h9 F9 N9; (try k_sweep)) | (k_here; (with_reducible show wpAny _ _ (call (Value.builtin "len") [Value.str _ _]) _ _ _); refine len_str (by omega) ?_) | (k_here; (with_reducible show wpAny _ _ (call (Value.builtin "len") [Value.ref _]) _ _ _); k_dflt (refine len_strsA (by is_list) (by assumption) (by ((try simp only [List.length_map]); omega)) ?_; k_whole); (try simp only [List.length_map])) | walk1 | (dsimp only; walk1) | (dsimp only; k_unfold; (try dsimp only)) | fail "no step"))
    exact Back.mk' ⟨by rw [← hes, ht], rfl⟩ (by assumption) (by assumption) (fun _ h => nomatch h) (fun _ h => nomatch h)
  · with_reducible rename Txt.startswith y (ofL p) = false => ht
    exact Back.mk' ⟨by rw [← hes, ht], rfl⟩ (by assumption) (by assumption) (fun _ h => nomatch h) (fun _ h => nomatch h)

end
section
local macro_rules | `(tactic| walk_at "call ref") => `(tactic| refine hold_in ?_)
set_option pp.maxSteps 3000
def edgeOf {α : Type} [BEq α] (n : Nat) (l : List α) (two : Bool) : Bool := if two then (l.take n).isSuffixOf l else (l.drop (l.length - n)).isPrefixOf l
set_option maxHeartbeats 8000000 in
theorem edge_spec (w : World) (l : List Nat) (n : Nat) (gap : Int) (t tn tg : Tok) (hl : l.length ≤ 90) (hn : n ≤ l.length) (hn1 : 1 ≤ n) (h46 : ∀ c ∈ l, c ≠ 46) : Spec PySem.Challenge.rw_sc0030_01.row.prog (fun w => Mine.hd.heap_39 w.params) w 101 [.int n tn, .str (ofL l) t, .int gap tg] 4 100 [] (fun r W' => r = .bool (edgeOf n l (decide (gap = 2))) ∧ W' = []) := by
  ((k_fill; k_dflt (refine' spec_plain ?k6_30 ?k7_30 ?h1_30 ?k9_30 ?kB_30 ?c5_30 ?c2_30 ?c3_30 ?c4_30 ?_; (case k6_30 => k_is); (case k7_30 => k_is); (case h1_30 => first | decide | exact Nat.succ_pos _); (case k9_30 => exact rfl); (case kB_30 => exact locs rfl); (case c5_30 => decide); (case c2_30 => exact rfl); (case c3_30 => exact rfl); (case c4_30 => exact rfl); k_whole)))
  intro loose mean mg mb dp un gd env outer base g L' h₁ s tk F' N' B' X' T' lW hd hu
  try dsimp only at X'
  try dsimp only
  try k_fold
  try k_lt lW
  have kM := kstMark
  k_with_none
  have hll : (ofL l).length = l.length := rfl
  (repeat' (first |  (k_unfold; (try dsimp only)) | (k_here; (with_reducible show wpAny _ _ (eval (Expr.Name _ _) (compEnv _ _ _)) _ _ _); k_dflt (first | (refine name_locS rfl rfl rfl (by decide) (by with_reducible assumption) (by assumption) ?_; k_whole) | (refine nameG_BS rfl rfl rfl rfl (by decide) (by k_asm) (by k_asm) (by k_asm) (by k_is) (by boot_fast) (by decide) ?_; k_whole))) | (k_here; (with_reducible show wpAny _ _ (call (Value.type _) [Value.str _ _]) _ _ _); k_dflt (refine list_strN rfl (by k_asm) (by k_asm) ?_ (by rw [sizeLine_eq]; omega)); intro D9 ys9 c9 h9 tk9 F9 N9 l9 m9 hS9; (try k_lt l9); (try k_sweep)) | (k_here; (with_reducible show wpAny _ _ (compareOp CmpOp.NotEq (Value.ref _) (Value.ref _)) _ _ _); k_dflt (first | refine strs_ne_nil (by is_list) (by is_list) (by ke_room) ?_ | refine strs_ne_cons (by is_list) (by is_list) (by k_asm) (by ke_room) ?_ | refine strs_ne (by is_list) (by is_list) (by first | k_asm | exact StrsAre.nil) (by first | exact StrsAre.nil | k_asm) (by ke_room) ?_)) | (k_here; (with_reducible show wpAny _ _ (compareOp CmpOp.Eq (Value.ref _) (Value.ref _)) _ _ _); k_dflt (refine strs_eq (by is_list) (by is_list) (by first | k_asm | exact StrsAre.nil) (by first | exact StrsAre.nil | k_asm) (by ke_room) ?_)) | (k_here; (with_reducible show wpAny _ _ (call (Value.builtin _) [Value.ref _, Value.int 0 _]) _ _ _); k_dflt (refine pop_first (by k_asm) (by k_asm) (by k_upd) (by (rw [sizeLine_eq]; (try have hL9 := PyProof.Rows.StrsAre.length (by assumption)); (try simp only [List.length_cons] at *); omega)) ?_; k_whole); intro h9 F9 N9; (try k_sweep)) | (k_here; (with_reducible show wpAny _ _ (call (Value.builtin "len") [Value.str _ _]) _ _ _); refine len_str (by omega) ?_) | (k_here; (with_reducible show wpAny _ _ (call (Value.builtin "len") [Value.ref _]) _ _ _); k_dflt (refine len_strsA (by is_list) (by assumption) (by ((try simp only [List.length_map]); omega)) ?_; k_whole); (try simp only [List.length_map])) | walk1 | (dsimp only; walk1) | (dsimp only; k_unfold; (try dsimp only)) | fail "no step"))
  · refine hold_out ?_
    rw [slice_to l n hn]
    refine Spec.pure (ell_pre w _ _ (l.take n) l _ _ (fun c hc => h46 c (List.mem_of_mem_take hc)) (dots_app _) rfl (by rw [List.length_take]; omega) (by rw [List.length_take]; omega) (by omega)) (by assumption) (by assumption) (by assumption) (by assumption) (by assumption) rfl (by omega) (by omega) ?_
    refine eq_all ?_
    intro h1 tk1 F1 N1
    (repeat' (first |  (k_unfold; (try dsimp only)) | (k_here; (with_reducible show wpAny _ _ (eval (Expr.Name _ _) (compEnv _ _ _)) _ _ _); k_dflt (first | (refine name_locS rfl rfl rfl (by decide) (by with_reducible assumption) (by assumption) ?_; k_whole) | (refine nameG_BS rfl rfl rfl rfl (by decide) (by k_asm) (by k_asm) (by k_asm) (by k_is) (by boot_fast) (by decide) ?_; k_whole))) | (k_here; (with_reducible show wpAny _ _ (call (Value.type _) [Value.str _ _]) _ _ _); k_dflt (refine list_strN rfl (by k_asm) (by k_asm) ?_ (by rw [sizeLine_eq]; omega)); intro D9 ys9 c9 h9 tk9 F9 N9 l9 m9 hS9; (try k_lt l9); (try k_sweep)) | (k_here; (with_reducible show wpAny _ _ (compareOp CmpOp.NotEq (Value.ref _) (Value.ref _)) _ _ _); k_dflt (first | refine strs_ne_nil (by is_list) (by is_list) (by ke_room) ?_ | refine strs_ne_cons (by is_list) (by is_list) (by k_asm) (by ke_room) ?_ | refine strs_ne (by is_list) (by is_list) (by first | k_asm | exact StrsAre.nil) (by first | exact StrsAre.nil | k_asm) (by ke_room) ?_)) | (k_here; (with_reducible show wpAny _ _ (compareOp CmpOp.Eq (Value.ref _) (Value.ref _)) _ _ _); k_dflt (refine strs_eq (by is_list) (by is_list) (by first | k_asm | exact StrsAre.nil) (by first | exact StrsAre.nil | k_asm) (by ke_room) ?_)) | (k_here; (with_reducible show wpAny _ _ (call (Value.builtin _) [Value.ref _, Value.int 0 _]) _ _ _); k_dflt (refine pop_first (by k_asm) (by k_asm) (by k_upd) (by (rw [sizeLine_eq]; (try have hL9 := PyProof.Rows.StrsAre.length (by assumption)); (try simp only [List.length_cons] at *); omega)) ?_; k_whole); intro h9 F9 N9; (try k_sweep)) | (k_here; (with_reducible show wpAny _ _ (call (Value.builtin "len") [Value.str _ _]) _ _ _); refine len_str (by omega) ?_) | (k_here; (with_reducible show wpAny _ _ (call (Value.builtin "len") [Value.ref _]) _ _ _); k_dflt (refine len_strsA (by is_list) (by assumption) (by ((try simp only [List.length_map]); omega)) ?_; k_whole); (try simp only [List.length_map])) | walk1 | (dsimp only; walk1) | (dsimp only; k_unfold; (try dsimp only)) | fail "no step"))
    with_reducible rename gap = 2 => hgap
    exact Back.mk' ⟨by simp [edgeOf, hgap], rfl⟩ (by assumption) (by assumption) (fun _ h => nomatch h) (fun _ h => nomatch h)
  · refine hold_out ?_
    have e1 : (((ofL l).length : Int) - (n : Int)) = ((l.length - n : Nat) : Int) := by omega
    rw [e1, slice_from l _ (by omega)]
    refine Spec.pure (ell_post w _ _ (l.drop (l.length - n)) l _ _ (fun c hc => h46 c (List.mem_of_mem_drop hc)) (app_dots _) rfl (by rw [List.length_drop]; omega) (by rw [List.length_drop]; omega) (by omega)) (by assumption) (by assumption) (by assumption) (by assumption) (by assumption) rfl (by omega) (by omega) ?_
    refine eq_all ?_
    intro h1 tk1 F1 N1
    (repeat' (first |  (k_unfold; (try dsimp only)) | (k_here; (with_reducible show wpAny _ _ (eval (Expr.Name _ _) (compEnv _ _ _)) _ _ _); k_dflt (first | (refine name_locS rfl rfl rfl (by decide) (by with_reducible assumption) (by assumption) ?_; k_whole) | (refine nameG_BS rfl rfl rfl rfl (by decide) (by k_asm) (by k_asm) (by k_asm) (by k_is) (by boot_fast) (by decide) ?_; k_whole))) | (k_here; (with_reducible show wpAny _ _ (call (Value.type _) [Value.str _ _]) _ _ _); k_dflt (refine list_strN rfl (by k_asm) (by k_asm) ?_ (by rw [sizeLine_eq]; omega)); intro D9 ys9 c9 h9 tk9 F9 N9 l9 m9 hS9; (try k_lt l9); (try k_sweep)) | (k_here; (with_reducible show wpAny _ _ (compareOp CmpOp.NotEq (Value.ref _) (Value.ref _)) _ _ _); k_dflt (first | refine strs_ne_nil (by is_list) (by is_list) (by ke_room) ?_ | refine strs_ne_cons (by is_list) (by is_list) (by k_asm) (by ke_room) ?_ | refine strs_ne (by is_list) (by is_list) (by first | k_asm | exact StrsAre.nil) (by first | exact StrsAre.nil | k_asm) (by ke_room) ?_)) | (k_here; (with_reducible show wpAny _ _ (compareOp CmpOp.Eq (Value.ref _) (Value.ref _)) _ _ _); k_dflt (refine strs_eq (by is_list) (by is_list) (by first | k_asm | exact StrsAre.nil) (by first | exact StrsAre.nil | k_asm) (by ke_room) ?_)) | (k_here; (with_reducible show wpAny _ _ (call (Value.builtin _) [Value.ref _, Value.int 0 _]) _ _ _); k_dflt (refine pop_first (by k_asm) (by k_asm) (by k_upd) (by (rw [sizeLine_eq]; (try have hL9 := PyProof.Rows.StrsAre.length (by assumption)); (try simp only [List.length_cons] at *); omega)) ?_; k_whole); intro h9 F9 N9; (try k_sweep)) | (k_here; (with_reducible show wpAny _ _ (call (Value.builtin "len") [Value.str _ _]) _ _ _); refine len_str (by omega) ?_) | (k_here; (with_reducible show wpAny _ _ (call (Value.builtin "len") [Value.ref _]) _ _ _); k_dflt (refine len_strsA (by is_list) (by assumption) (by ((try simp only [List.length_map]); omega)) ?_; k_whole); (try simp only [List.length_map])) | walk1 | (dsimp only; walk1) | (dsimp only; k_unfold; (try dsimp only)) | fail "no step"))
    with_reducible rename ¬gap = 2 => hgap
    exact Back.mk' ⟨by simp [edgeOf, hgap], rfl⟩ (by assumption) (by assumption) (fun _ h => nomatch h) (fun _ h => nomatch h)

end
section
local macro_rules | `(tactic| walk_at "call ref") => `(tactic| refine hold_in ?_)
local macro_rules | `(tactic| walk_at "exec While") => `(tactic| refine hold_in ?_)
set_option pp.maxSteps 3000
def bord {α : Type} [BEq α] (l : List α) (two : Bool) : Nat → Nat
  | 0 => 0
  | n + 1 => if edgeOf (n + 1) l two then n + 1 else bord l two n
abbrev core {α : Type} (l : List α) : List α := (l.drop 1).take (l.length - 2)
def ruleOf {α : Type} [BEq α] : Nat → List α → List α → Int
  | 0, _, _ => 0
  | f + 1, low, high =>
    if high.length - low.length < 2 then 1 - 2 * ((high.length - low.length : Nat) : Int) else
    let n := bord high (decide (high.length - low.length = 2)) (high.length - 1)
    if high.length - low.length = 2 then (if n < high.length - 1 ∧ (low == high.take n || low == core high) = true then 1 else 0)
    else if (inB low (high.take n) && !inB (high.take n) (core high)) = true then ruleOf f low (high.take n) else 0
theorem inB_len {α : Type} [BEq α] [LawfulBEq α] {p g : List α} (h : inB p g = true) : p.length ≤ g.length := by
  obtain ⟨i, h1, _⟩ := (inB_iff p g).mp h
  omega
theorem holds_eq (p g : List Nat) : (Builtin.Str.occurrences (ofL g) (ofL p) 0 (ofL g).length 1).isEmpty = !inB p g := by
  have h := StrLaws.found_iff (ofL g) (ofL p)
  have : (!(Builtin.Str.occurrences (ofL g) (ofL p) 0 (ofL g).length 1).isEmpty) = inB p g := by
    rw [Bool.eq_iff_iff, h, inB_iff]
    refine exists_congr fun i => ?_
    rw [StrLaws.subAt_eq]
    show _ ∧ ((List.take p.length _ == p) = true) ↔ _
    rw [beq_iff_eq]
    exact Iff.rfl
  rw [← this, Bool.not_not]
theorem ofL_beq (a b : List Nat) : (ofL a == ofL b) = (a == b) := by
  rw [Bool.eq_iff_iff, beq_iff_eq, beq_iff_eq]
  constructor
  · intro h
    have := congrArg (fun x : Str => x.cps.toList) h
    simpa using this
  · rintro rfl; rfl
theorem ru_1 {low high : List Nat} {f k : Nat} (hg : ¬ high.length - low.length < 2) (hb : bord high (decide (high.length - low.length = 2)) (high.length - 1) = k) (e2 : high.length - low.length = 2) (hk : k < high.length - 1)
    (a : ([Txt.slice (ofL high) none (some (k : Int)), Txt.slice (ofL high) (some 1) (some (-1))].any fun x => x == ofL low) = true) : ruleOf (f + 1) low high = 1 := by
  rw [slice_to _ _ (by omega), slice_in _ (by omega)] at a
  simp only [List.any_cons, List.any_nil, Bool.or_false, ofL_beq] at a
  unfold ruleOf
  rw [if_neg hg, if_pos e2]
  try dsimp only
  rw [hb, if_pos]
  refine ⟨hk, ?_⟩
  rw [Bool.or_eq_true, beq_iff_eq, beq_iff_eq] at a ⊢
  exact a.imp Eq.symm Eq.symm
theorem ru_2 {low high : List Nat} {f k : Nat} (hg : ¬ high.length - low.length < 2) (hb : bord high (decide (high.length - low.length = 2)) (high.length - 1) = k) (e2 : high.length - low.length = 2) (hk : k ≤ high.length - 1)
    (a : ([Txt.slice (ofL high) none (some (k : Int)), Txt.slice (ofL high) (some 1) (some (-1))].any fun x => x == ofL low) = false) : ruleOf (f + 1) low high = 0 := by
  rw [slice_to _ _ (by omega), slice_in _ (by omega)] at a
  simp only [List.any_cons, List.any_nil, Bool.or_false, ofL_beq] at a
  unfold ruleOf
  rw [if_neg hg, if_pos e2]
  try dsimp only
  rw [hb, if_neg]
  rintro ⟨_, h⟩
  rw [Bool.or_eq_true, beq_iff_eq, beq_iff_eq] at h
  rw [Bool.or_eq_false_iff] at a
  rw [beq_eq_false_iff_ne, beq_eq_false_iff_ne] at a
  rcases h with h | h
  · exact a.1 h.symm
  · exact a.2 h.symm
theorem ru_3 {low high : List Nat} {f k : Nat} (hg : ¬ high.length - low.length < 2) (hb : bord high (decide (high.length - low.length = 2)) (high.length - 1) = k) (e2 : high.length - low.length = 2) (hk : ¬ k < high.length - 1) : ruleOf (f + 1) low high = 0 := by
  unfold ruleOf
  rw [if_neg hg, if_pos e2]
  try dsimp only
  rw [hb, if_neg]
  rintro ⟨h, _⟩
  exact hk h
theorem ru_4 {low high : List Nat} {f k : Nat} (hg : ¬ high.length - low.length < 2) (hb : bord high (decide (high.length - low.length = 2)) (high.length - 1) = k) (e2 : high.length - low.length ≠ 2) (hk : k ≤ high.length - 1)
    (a : inB low (high.take k) = false ∨ inB (high.take k) (core high) = true) : ruleOf (f + 1) low high = 0 := by
  unfold ruleOf
  rw [if_neg hg, if_neg e2]
  try dsimp only
  rw [hb, if_neg]
  intro h
  rw [Bool.and_eq_true] at h
  rcases a with a | a
  · rw [a] at h; exact absurd h.1 (by simp)
  · rw [a] at h; exact absurd h.2 (by simp)
theorem ru_5 {low high : List Nat} {f k : Nat} (hg : ¬ high.length - low.length < 2) (hb : bord high (decide (high.length - low.length = 2)) (high.length - 1) = k) (e2 : high.length - low.length ≠ 2)
    (a : inB low (high.take k) = true) (b : inB (high.take k) (core high) = false) : ruleOf (f + 1) low high = ruleOf f low (high.take k) := by
  conv => lhs; unfold ruleOf
  rw [if_neg hg, if_neg e2]
  try dsimp only
  rw [hb, if_pos]
  rw [a, b]; rfl
theorem ruleOf_zero {low high : List Nat} {f : Nat} (h : high.length - low.length < 2) : ruleOf (f + 1) low high = 1 - 2 * ((high.length - low.length : Nat) : Int) := by
  unfold ruleOf
  rw [if_pos h]
abbrev ruFr (low high : List Nat) (gap k : Int) (tl th tg ts : Tok) : Str → Option Value := fun y => if y = Str.ofString "low" then some (.str (ofL low) tl) else if y = Str.ofString "high" then some (.str (ofL high) th) else if y = Str.ofString "gap" then some (.int gap tg) else if y = Str.ofString "size" then some (.int k ts) else none
def ruI (g : Heap) (L' : Addr) (s : Shared) (low high : List Nat) (gap : Int) (tl th : Tok) (two : Bool) (k : Nat) (s1 : Shared) : Prop :=
  ∀ Z : Shared → Prop, (∀ (tg ts : Tok) (h : Heap) (tk : Nat), bord high two (high.length - 1) = bord high two k → k ≤ high.length - 1 → Fr g L' h (ruFr low high gap k tl th tg ts) → Z { s with heap := h, toks := tk }) → Z s1
theorem ruI_all {g : Heap} {L' : Addr} {s : Shared} {low high : List Nat} {gap : Int} {tl th : Tok} {two : Bool} {Z : Nat → Shared → Prop} (d : ∀ (k : Nat) (tg ts : Tok) (h : Heap) (tk : Nat), bord high two (high.length - 1) = bord high two k → k ≤ high.length - 1 → Fr g L' h (ruFr low high gap k tl th tg ts) → Z k { s with heap := h, toks := tk }) :
    ∀ k s1, ruI g L' s low high gap tl th two k s1 → Z k s1 := fun k _ hp => hp (Z k) (d k)
theorem ruI_mk {g : Heap} {L' : Addr} {s : Shared} {low high : List Nat} {gap : Int} {tl th tg ts : Tok} {two : Bool} {k : Nat} {h : Heap} {tk : Nat} (h1 : bord high two (high.length - 1) = bord high two k) (h2 : k ≤ high.length - 1) (F : Fr g L' h (ruFr low high gap k tl th tg ts)) : ruI g L' s low high gap tl th two k { s with heap := h, toks := tk } := fun _ d => d _ _ _ _ h1 h2 F
/-- behind the loop -/
def ruEnd (g : Heap) (L' : Addr) (s : Shared) (low high : List Nat) (gap : Int) (tl th : Tok) (two : Bool) (s1 : Shared) : Prop :=
  ∀ Z : Shared → Prop, (∀ (k : Nat) (tg ts : Tok) (h : Heap) (tk : Nat), bord high two (high.length - 1) = k → k ≤ high.length - 1 → Fr g L' h (ruFr low high gap k tl th tg ts) → Z { s with heap := h, toks := tk }) → Z s1
theorem ruEnd_all {g : Heap} {L' : Addr} {s : Shared} {low high : List Nat} {gap : Int} {tl th : Tok} {two : Bool} {Z : Shared → Prop} (d : ∀ (k : Nat) (tg ts : Tok) (h : Heap) (tk : Nat), bord high two (high.length - 1) = k → k ≤ high.length - 1 → Fr g L' h (ruFr low high gap k tl th tg ts) → Z { s with heap := h, toks := tk }) : ∀ s1, ruEnd g L' s low high gap tl th two s1 → Z s1 := fun _ hp => hp Z d
def ruQ (g : Heap) (L' : Addr) (s : Shared) (low high : List Nat) (gap : Int) (tl th : Tok) (two : Bool) (f : Flow) (s1 : Shared) : Prop := f = .next ∧ ruEnd g L' s low high gap tl th two s1
theorem ruQ_mk {g : Heap} {L' : Addr} {s : Shared} {low high : List Nat} {gap : Int} {tl th tg ts : Tok} {two : Bool} {k : Nat} {h : Heap} {tk : Nat} (h1 : bord high two (high.length - 1) = k) (h2 : k ≤ high.length - 1) (F : Fr g L' h (ruFr low high gap k tl th tg ts)) : ruQ g L' s low high gap tl th two .next { s with heap := h, toks := tk } := ⟨rfl, fun _ d => d _ _ _ _ _ h1 h2 F⟩
theorem ru_cut {M : Model} {A : Around} {c : Code} {R : Result → Shared → Prop} {s : Shared} (End : Shared → Prop) (h : ∀ R' : Result → Shared → Prop, (∀ s', End s' → R' (.ok .next) s') → codeAny M A c R' s) (k : ∀ s', End s' → R (.ok .next) s') : codeAny M A c R s := h R k
theorem ru_size {g h : Heap} {L : Addr} {low high : List Nat} {gap k k2 k2' : Int} {tl th tg ts t2 : Tok} (F : Fr g L h (fun y => if y = Str.ofString "size" then some (.int k t2) else ruFr low high gap k2' tl th tg ts y)) (e : k = k2) : Fr g L h (ruFr low high gap k2 tl th tg t2) := by
  subst e
  refine fr_to F fun y => ?_
  by_cases h1 : y = Str.ofString "size"
  · subst h1; kernel_rfl
  · simp only [ruFr, if_neg h1]
set_option maxHeartbeats 8000000 in
theorem rule_spec (w : World) (low : List Nat) (tl : Tok) (hl46 : ∀ c ∈ low, c ≠ 46) : ∀ (f : Nat) (high : List Nat) (th : Tok), high.length < f → f ≤ 90 → low.length ≤ high.length → (∀ c ∈ high, c ≠ 46) → Spec PySem.Challenge.rw_sc0030_01.row.prog (fun w => Mine.hd.heap_39 w.params) w 108 [.str (ofL low) tl, .str (ofL high) th] (f + 5) (3 * f + 110) [] (fun r W' => (∃ t, r = .int (ruleOf f low high) t) ∧ W' = [])
  | 0, _, _, h, _, _, _ => absurd h (Nat.not_lt_zero _)
  | f + 1, high, th, hf, hf9, hlh, h46 => by
    ((k_fill; k_dflt (refine' spec_plain ?k6_32 ?k7_32 ?h1_32 ?k9_32 ?kB_32 ?c5_32 ?c2_32 ?c3_32 ?c4_32 ?_; (case k6_32 => k_is); (case k7_32 => k_is); (case h1_32 => first | decide | exact Nat.succ_pos _); (case k9_32 => exact rfl); (case kB_32 => exact locs rfl); (case c5_32 => decide); (case c2_32 => exact rfl); (case c3_32 => exact rfl); (case c4_32 => exact rfl); k_whole)))
    intro loose mean mg mb dp un gd env outer base g L' h₁ s tk F' N' B' X' T' lW hd hu
    try dsimp only at X'
    try dsimp only
    try k_fold
    try k_lt lW
    have kM := kstMark
    k_with_none
    have hll : (ofL low).length = low.length := rfl
    have hhl : (ofL high).length = high.length := rfl
    (repeat' (first |  (k_unfold; (try dsimp only)) | (k_here; (with_reducible show wpAny _ _ (eval (Expr.Name _ _) (compEnv _ _ _)) _ _ _); k_dflt (first | (refine name_locS rfl rfl rfl (by decide) (by with_reducible assumption) (by assumption) ?_; k_whole) | (refine nameG_BS rfl rfl rfl rfl (by decide) (by k_asm) (by k_asm) (by k_asm) (by k_is) (by boot_fast) (by decide) ?_; k_whole))) | (k_here; (with_reducible show wpAny _ _ (call (Value.type _) [Value.str _ _]) _ _ _); k_dflt (refine list_strN rfl (by k_asm) (by k_asm) ?_ (by rw [sizeLine_eq]; omega)); intro D9 ys9 c9 h9 tk9 F9 N9 l9 m9 hS9; (try k_lt l9); (try k_sweep)) | (k_here; (with_reducible show wpAny _ _ (compareOp CmpOp.NotEq (Value.ref _) (Value.ref _)) _ _ _); k_dflt (first | refine strs_ne_nil (by is_list) (by is_list) (by ke_room) ?_ | refine strs_ne_cons (by is_list) (by is_list) (by k_asm) (by ke_room) ?_ | refine strs_ne (by is_list) (by is_list) (by first | k_asm | exact StrsAre.nil) (by first | exact StrsAre.nil | k_asm) (by ke_room) ?_)) | (k_here; (with_reducible show wpAny _ _ (compareOp CmpOp.Eq (Value.ref _) (Value.ref _)) _ _ _); k_dflt (refine strs_eq (by is_list) (by is_list) (by first | k_asm | exact StrsAre.nil) (by first | exact StrsAre.nil | k_asm) (by ke_room) ?_)) | (k_here; (with_reducible show wpAny _ _ (call (Value.builtin _) [Value.ref _, Value.int 0 _]) _ _ _); k_dflt (refine pop_first (by k_asm) (by k_asm) (by k_upd) (by (rw [sizeLine_eq]; (try have hL9 := PyProof.Rows.StrsAre.length (by assumption)); (try simp only [List.length_cons] at *); omega)) ?_; k_whole); intro h9 F9 N9; (try k_sweep)) | (k_here; (with_reducible show wpAny _ _ (call (Value.builtin "len") [Value.str _ _]) _ _ _); refine len_str (by omega) ?_) | (k_here; (with_reducible show wpAny _ _ (call (Value.builtin "len") [Value.ref _]) _ _ _); k_dflt (refine len_strsA (by is_list) (by assumption) (by ((try simp only [List.length_map]); omega)) ?_; k_whole); (try simp only [List.length_map])) | walk1 | (dsimp only; walk1) | (dsimp only; k_unfold; (try dsimp only)) | fail "no step"))
    · have e : (1 - 2 * (((ofL high).length : Int) - ((ofL low).length : Int))) = ruleOf (f + 1) low high := by rw [ruleOf_zero (by omega)]; omega
      exact Back.mk' ⟨⟨_, by rw [e]⟩, rfl⟩ (by assumption) (by assumption) (fun _ h => nomatch h) (fun _ h => nomatch h)
    · refine hold_out ?_
      refine wpAny_While ?_
      have eg : (((ofL high).length : Int) - ((ofL low).length : Int)) = ((high.length - low.length : Nat) : Int) := by omega
      have es : (((ofL high).length : Int) - 1) = ((high.length - 1 : Nat) : Int) := by omega
      have hgp : ¬ high.length - low.length < 2 := by omega
      have ed : decide (((high.length - low.length : Nat) : Int) = 2) = decide (high.length - low.length = 2) := decide_eq_decide.mpr (by omega)
      refine ru_cut (ruEnd g L' s low high ((high.length - low.length : Nat) : Int) tl th (decide (high.length - low.length = 2))) ?loop ?after
      case loop =>
        intro R' hR'
        refine' while_inv (Q := ruQ g L' s low high ((high.length - low.length : Nat) : Int) tl th (decide (high.length - low.length = 2))) (ruI g L' s low high ((high.length - low.length : Nat) : Int) tl th (decide (high.length - low.length = 2))) (fun f s' h => h.1 ▸ hR' _ h.2) ?turn (high.length - 1) ?init
        case init =>
          refine' ruI_mk (tg := ?t0) (ts := ?t1) rfl (Nat.le_refl _) ?fr
          case fr =>
            rw [← eg, ← es]
            ((refine fr_to (by assumption) (fun y => ?_); by_cases h1 : y = Str.ofString "low"; (subst h1; rfl); by_cases h2 : y = Str.ofString "high"; (subst h2; rfl); by_cases h3 : y = Str.ofString "gap"; (subst h3; rfl); by_cases h4 : y = Str.ofString "size"; (subst h4; rfl); (simp only [if_neg h1, if_neg h2, if_neg h3, if_neg h4]); (try (show List.lookup y [(Str.ofString "high", _), (Str.ofString "low", _)] = none; rw [List.lookup_cons, beq_eq_false_iff_ne.mpr h2, List.lookup_cons, beq_eq_false_iff_ne.mpr h1]; rfl))))
        case turn =>
          refine ruI_all ?_
          intro k tg ts h tk hP hk F2
          have N2 : News g L' h [] := News.nil
          rcases Nat.eq_zero_or_pos k with hk0 | hk0
          · (repeat' (first |  (k_unfold; (try dsimp only)) | (k_here; (with_reducible show wpAny _ _ (eval (Expr.Name _ _) (compEnv _ _ _)) _ _ _); k_dflt (first | (refine name_locS rfl rfl rfl (by decide) (by with_reducible assumption) (by assumption) ?_; k_whole) | (refine nameG_BS rfl rfl rfl rfl (by decide) (by k_asm) (by k_asm) (by k_asm) (by k_is) (by boot_fast) (by decide) ?_; k_whole))) | (k_here; (with_reducible show wpAny _ _ (call (Value.type _) [Value.str _ _]) _ _ _); k_dflt (refine list_strN rfl (by k_asm) (by k_asm) ?_ (by rw [sizeLine_eq]; omega)); intro D9 ys9 c9 h9 tk9 F9 N9 l9 m9 hS9; (try k_lt l9); (try k_sweep)) | (k_here; (with_reducible show wpAny _ _ (compareOp CmpOp.NotEq (Value.ref _) (Value.ref _)) _ _ _); k_dflt (first | refine strs_ne_nil (by is_list) (by is_list) (by ke_room) ?_ | refine strs_ne_cons (by is_list) (by is_list) (by k_asm) (by ke_room) ?_ | refine strs_ne (by is_list) (by is_list) (by first | k_asm | exact StrsAre.nil) (by first | exact StrsAre.nil | k_asm) (by ke_room) ?_)) | (k_here; (with_reducible show wpAny _ _ (compareOp CmpOp.Eq (Value.ref _) (Value.ref _)) _ _ _); k_dflt (refine strs_eq (by is_list) (by is_list) (by first | k_asm | exact StrsAre.nil) (by first | exact StrsAre.nil | k_asm) (by ke_room) ?_)) | (k_here; (with_reducible show wpAny _ _ (call (Value.builtin _) [Value.ref _, Value.int 0 _]) _ _ _); k_dflt (refine pop_first (by k_asm) (by k_asm) (by k_upd) (by (rw [sizeLine_eq]; (try have hL9 := PyProof.Rows.StrsAre.length (by assumption)); (try simp only [List.length_cons] at *); omega)) ?_; k_whole); intro h9 F9 N9; (try k_sweep)) | (k_here; (with_reducible show wpAny _ _ (call (Value.builtin "len") [Value.str _ _]) _ _ _); refine len_str (by omega) ?_) | (k_here; (with_reducible show wpAny _ _ (call (Value.builtin "len") [Value.ref _]) _ _ _); k_dflt (refine len_strsA (by is_list) (by assumption) (by ((try simp only [List.length_map]); omega)) ?_; k_whole); (try simp only [List.length_map])) | walk1 | (dsimp only; walk1) | (dsimp only; k_unfold; (try dsimp only)) | fail "no step"))
            exact ruQ_mk (by rw [hP, hk0]; rfl) hk (by assumption)
          · (repeat' (first |  (k_unfold; (try dsimp only)) | (k_here; (with_reducible show wpAny _ _ (eval (Expr.Name _ _) (compEnv _ _ _)) _ _ _); k_dflt (first | (refine name_locS rfl rfl rfl (by decide) (by with_reducible assumption) (by assumption) ?_; k_whole) | (refine nameG_BS rfl rfl rfl rfl (by decide) (by k_asm) (by k_asm) (by k_asm) (by k_is) (by boot_fast) (by decide) ?_; k_whole))) | (k_here; (with_reducible show wpAny _ _ (call (Value.type _) [Value.str _ _]) _ _ _); k_dflt (refine list_strN rfl (by k_asm) (by k_asm) ?_ (by rw [sizeLine_eq]; omega)); intro D9 ys9 c9 h9 tk9 F9 N9 l9 m9 hS9; (try k_lt l9); (try k_sweep)) | (k_here; (with_reducible show wpAny _ _ (compareOp CmpOp.NotEq (Value.ref _) (Value.ref _)) _ _ _); k_dflt (first | refine strs_ne_nil (by is_list) (by is_list) (by ke_room) ?_ | refine strs_ne_cons (by is_list) (by is_list) (by k_asm) (by ke_room) ?_ | refine strs_ne (by is_list) (by is_list) (by first | k_asm | exact StrsAre.nil) (by first | exact StrsAre.nil | k_asm) (by ke_room) ?_)) | (k_here; (with_reducible show wpAny _ _ (compareOp CmpOp.Eq (Value.ref _) (Value.ref _)) _ _ _); k_dflt (refine strs_eq (by is_list) (by is_list) (by first | k_asm | exact StrsAre.nil) (by first | exact StrsAre.nil | k_asm) (by ke_room) ?_)) | (k_here; (with_reducible show wpAny _ _ (call (Value.builtin _) [Value.ref _, Value.int 0 _]) _ _ _); k_dflt (refine pop_first (by k_asm) (by k_asm) (by k_upd) (by (rw [sizeLine_eq]; (try have hL9 := PyProof.Rows.StrsAre.length (by assumption)); (try simp only [List.length_cons] at *); omega)) ?_; k_whole); intro h9 F9 N9; (try k_sweep)) | (k_here; (with_reducible show wpAny _ _ (call (Value.builtin "len") [Value.str _ _]) _ _ _); refine len_str (by omega) ?_) | (k_here; (with_reducible show wpAny _ _ (call (Value.builtin "len") [Value.ref _]) _ _ _); k_dflt (refine len_strsA (by is_list) (by assumption) (by ((try simp only [List.length_map]); omega)) ?_; k_whole); (try simp only [List.length_map])) | walk1 | (dsimp only; walk1) | (dsimp only; k_unfold; (try dsimp only)) | fail "no step"))
            refine hold_out ?_
            refine Spec.pure (edge_spec w high k _ _ _ _ (by omega) (by omega) (by omega) h46) (by assumption) (by assumption) (by assumption) (by assumption) (by assumption) rfl (by omega) (by omega) ?_
            rintro r h1 tk1 hr F1 N1
            rw [ed] at hr
            obtain ⟨k', rfl⟩ : ∃ k', k = k' + 1 := ⟨k - 1, by omega⟩
            cases hedge : edgeOf (k' + 1) high (decide (high.length - low.length = 2)) with
            | true =>
              rw [hedge] at hr
              subst hr
              (repeat' (first |  (k_unfold; (try dsimp only)) | (k_here; (with_reducible show wpAny _ _ (eval (Expr.Name _ _) (compEnv _ _ _)) _ _ _); k_dflt (first | (refine name_locS rfl rfl rfl (by decide) (by with_reducible assumption) (by assumption) ?_; k_whole) | (refine nameG_BS rfl rfl rfl rfl (by decide) (by k_asm) (by k_asm) (by k_asm) (by k_is) (by boot_fast) (by decide) ?_; k_whole))) | (k_here; (with_reducible show wpAny _ _ (call (Value.type _) [Value.str _ _]) _ _ _); k_dflt (refine list_strN rfl (by k_asm) (by k_asm) ?_ (by rw [sizeLine_eq]; omega)); intro D9 ys9 c9 h9 tk9 F9 N9 l9 m9 hS9; (try k_lt l9); (try k_sweep)) | (k_here; (with_reducible show wpAny _ _ (compareOp CmpOp.NotEq (Value.ref _) (Value.ref _)) _ _ _); k_dflt (first | refine strs_ne_nil (by is_list) (by is_list) (by ke_room) ?_ | refine strs_ne_cons (by is_list) (by is_list) (by k_asm) (by ke_room) ?_ | refine strs_ne (by is_list) (by is_list) (by first | k_asm | exact StrsAre.nil) (by first | exact StrsAre.nil | k_asm) (by ke_room) ?_)) | (k_here; (with_reducible show wpAny _ _ (compareOp CmpOp.Eq (Value.ref _) (Value.ref _)) _ _ _); k_dflt (refine strs_eq (by is_list) (by is_list) (by first | k_asm | exact StrsAre.nil) (by first | exact StrsAre.nil | k_asm) (by ke_room) ?_)) | (k_here; (with_reducible show wpAny _ _ (call (Value.builtin _) [Value.ref _, Value.int 0 _]) _ _ _); k_dflt (refine pop_first (by k_asm) (by k_asm) (by k_upd) (by (rw [sizeLine_eq]; (try have hL9 := PyProof.Rows.StrsAre.length (by assumption)); (try simp only [List.length_cons] at *); omega)) ?_; k_whole); intro h9 F9 N9; (try k_sweep)) | (k_here; (with_reducible show wpAny _ _ (call (Value.builtin "len") [Value.str _ _]) _ _ _); refine len_str (by omega) ?_) | (k_here; (with_reducible show wpAny _ _ (call (Value.builtin "len") [Value.ref _]) _ _ _); k_dflt (refine len_strsA (by is_list) (by assumption) (by ((try simp only [List.length_map]); omega)) ?_; k_whole); (try simp only [List.length_map])) | walk1 | (dsimp only; walk1) | (dsimp only; k_unfold; (try dsimp only)) | fail "no step"))
              exact ruQ_mk (by rw [hP]; unfold bord; rw [if_pos hedge]) hk (by assumption)
            | false =>
              rw [hedge] at hr
              subst hr
              (repeat' (first |  (k_unfold; (try dsimp only)) | (k_here; (with_reducible show wpAny _ _ (eval (Expr.Name _ _) (compEnv _ _ _)) _ _ _); k_dflt (first | (refine name_locS rfl rfl rfl (by decide) (by with_reducible assumption) (by assumption) ?_; k_whole) | (refine nameG_BS rfl rfl rfl rfl (by decide) (by k_asm) (by k_asm) (by k_asm) (by k_is) (by boot_fast) (by decide) ?_; k_whole))) | (k_here; (with_reducible show wpAny _ _ (call (Value.type _) [Value.str _ _]) _ _ _); k_dflt (refine list_strN rfl (by k_asm) (by k_asm) ?_ (by rw [sizeLine_eq]; omega)); intro D9 ys9 c9 h9 tk9 F9 N9 l9 m9 hS9; (try k_lt l9); (try k_sweep)) | (k_here; (with_reducible show wpAny _ _ (compareOp CmpOp.NotEq (Value.ref _) (Value.ref _)) _ _ _); k_dflt (first | refine strs_ne_nil (by is_list) (by is_list) (by ke_room) ?_ | refine strs_ne_cons (by is_list) (by is_list) (by k_asm) (by ke_room) ?_ | refine strs_ne (by is_list) (by is_list) (by first | k_asm | exact StrsAre.nil) (by first | exact StrsAre.nil | k_asm) (by ke_room) ?_)) | (k_here; (with_reducible show wpAny _ _ (compareOp CmpOp.Eq (Value.ref _) (Value.ref _)) _ _ _); k_dflt (refine strs_eq (by is_list) (by is_list) (by first | k_asm | exact StrsAre.nil) (by first | exact StrsAre.nil | k_asm) (by ke_room) ?_)) | (k_here; (with_reducible show wpAny _ _ (call (Value.builtin _) [Value.ref _, Value.int 0 _]) _ _ _); k_dflt (refine pop_first (by k_asm) (by k_asm) (by k_upd) (by (rw [sizeLine_eq]; (try have hL9 := PyProof.Rows.StrsAre.length (by assumption)); (try simp only [List.length_cons] at *); omega)) ?_; k_whole); intro h9 F9 N9; (try k_sweep)) | (k_here; (with_reducible show wpAny _ _ (call (Value.builtin "len") [Value.str _ _]) _ _ _); refine len_str (by omega) ?_) | (k_here; (with_reducible show wpAny _ _ (call (Value.builtin "len") [Value.ref _]) _ _ _); k_dflt (refine len_strsA (by is_list) (by assumption) (by ((try simp only [List.length_map]); omega)) ?_; k_whole); (try simp only [List.length_map])) | walk1 | (dsimp only; walk1) | (dsimp only; k_unfold; (try dsimp only)) | fail "no step"))
              exact Again.mk (m := k') (Nat.lt_succ_self _) (ruI_mk (by rw [hP]; conv => lhs; unfold bord; rw [if_neg (by rw [hedge]; decide)]) (Nat.le_of_succ_le hk) (ru_size (by assumption) (by omega)))
      case after =>
        refine ruEnd_all ?_
        intro k tg ts h tk hbk hk F2
        have N2 : News g L' h [] := News.nil
        try dsimp only
        (repeat' (first |  (k_unfold; (try dsimp only)) | (k_here; (with_reducible show wpAny _ _ (eval (Expr.Name _ _) (compEnv _ _ _)) _ _ _); k_dflt (first | (refine name_locS rfl rfl rfl (by decide) (by with_reducible assumption) (by assumption) ?_; k_whole) | (refine nameG_BS rfl rfl rfl rfl (by decide) (by k_asm) (by k_asm) (by k_asm) (by k_is) (by boot_fast) (by decide) ?_; k_whole))) | (k_here; (with_reducible show wpAny _ _ (call (Value.type _) [Value.str _ _]) _ _ _); k_dflt (refine list_strN rfl (by k_asm) (by k_asm) ?_ (by rw [sizeLine_eq]; omega)); intro D9 ys9 c9 h9 tk9 F9 N9 l9 m9 hS9; (try k_lt l9); (try k_sweep)) | (k_here; (with_reducible show wpAny _ _ (compareOp CmpOp.NotEq (Value.ref _) (Value.ref _)) _ _ _); k_dflt (first | refine strs_ne_nil (by is_list) (by is_list) (by ke_room) ?_ | refine strs_ne_cons (by is_list) (by is_list) (by k_asm) (by ke_room) ?_ | refine strs_ne (by is_list) (by is_list) (by first | k_asm | exact StrsAre.nil) (by first | exact StrsAre.nil | k_asm) (by ke_room) ?_)) | (k_here; (with_reducible show wpAny _ _ (compareOp CmpOp.Eq (Value.ref _) (Value.ref _)) _ _ _); k_dflt (refine strs_eq (by is_list) (by is_list) (by first | k_asm | exact StrsAre.nil) (by first | exact StrsAre.nil | k_asm) (by ke_room) ?_)) | (k_here; (with_reducible show wpAny _ _ (call (Value.builtin _) [Value.ref _, Value.int 0 _]) _ _ _); k_dflt (refine pop_first (by k_asm) (by k_asm) (by k_upd) (by (rw [sizeLine_eq]; (try have hL9 := PyProof.Rows.StrsAre.length (by assumption)); (try simp only [List.length_cons] at *); omega)) ?_; k_whole); intro h9 F9 N9; (try k_sweep)) | (k_here; (with_reducible show wpAny _ _ (call (Value.builtin "len") [Value.str _ _]) _ _ _); refine len_str (by omega) ?_) | (k_here; (with_reducible show wpAny _ _ (call (Value.builtin "len") [Value.ref _]) _ _ _); k_dflt (refine len_strsA (by is_list) (by assumption) (by ((try simp only [List.length_map]); omega)) ?_; k_whole); (try simp only [List.length_map])) | walk1 | (dsimp only; walk1) | (dsimp only; k_unfold; (try dsimp only)) | fail "no step"))
        · with_reducible rename _ = true => a
          exact Back.mk' ⟨⟨_, by rw [ru_1 hgp hbk (by omega) (by omega) a]⟩, rfl⟩ (by assumption) (by assumption) (fun _ h => nomatch h) (fun _ h => nomatch h)
        · with_reducible rename _ = false => a
          exact Back.mk' ⟨⟨_, by rw [ru_2 hgp hbk (by omega) (by omega) a]⟩, rfl⟩ (by assumption) (by assumption) (fun _ h => nomatch h) (fun _ h => nomatch h)
        · exact Back.mk' ⟨⟨_, by rw [ru_3 hgp hbk (by omega) (by omega)]⟩, rfl⟩ (by assumption) (by assumption) (fun _ h => nomatch h) (fun _ h => nomatch h)
        · with_reducible rename (Builtin.Str.occurrences _ (ofL low) _ _ _).isEmpty = true => a
          rw [slice_to _ _ (by omega), holds_eq] at a
          exact Back.mk' ⟨⟨_, by rw [ru_4 hgp hbk (by omega) (by omega) (.inl ((Bool.not_eq_true' _).mp a))]⟩, rfl⟩ (by assumption) (by assumption) (fun _ h => nomatch h) (fun _ h => nomatch h)
        · refine hold_out ?_
          with_reducible rename (Builtin.Str.occurrences _ (ofL low) _ _ _).isEmpty = false => a
          with_reducible rename (Builtin.Str.occurrences _ (Txt.slice _ _ _) _ _ _).isEmpty = true => b
          rw [slice_to _ _ (by omega), holds_eq] at a
          rw [slice_to _ _ (by omega), slice_in _ (by omega), holds_eq] at b
          rw [slice_to _ _ (by omega)]
          have a' : inB low (high.take k) = true := (Bool.not_eq_false' _).mp a
          have b' : inB (high.take k) (core high) = false := (Bool.not_eq_true' _).mp b
          have hle := inB_len a'
          rw [List.length_take] at hle
          refine Spec.pure (rule_spec w low tl hl46 f (high.take k) _ (by rw [List.length_take]; omega) (by omega) (by rw [List.length_take]; omega) (fun c hc => h46 c (List.mem_of_mem_take hc))) (by assumption) (by assumption) (by assumption) (by assumption) (by assumption) rfl (by omega) (by omega) ?_
          refine int_all ?_
          intro h2 tk2 t2 F3 N3
          try dsimp only
          exact Back.mk' ⟨⟨_, by rw [ru_5 hgp hbk (by omega) a' b']⟩, rfl⟩ (by assumption) (by assumption) (fun _ h => nomatch h) (fun _ h => nomatch h)
        · with_reducible rename (Builtin.Str.occurrences _ (Txt.slice _ _ _) _ _ _).isEmpty = false => b
          rw [slice_to _ _ (by omega), slice_in _ (by omega), holds_eq] at b
          exact Back.mk' ⟨⟨_, by rw [ru_4 hgp hbk (by omega) (by omega) (.inr ((Bool.not_eq_false' _).mp b))]⟩, rfl⟩ (by assumption) (by assumption) (fun _ h => nomatch h) (fun _ h => nomatch h)

end
section
theorem getD_ofL (l : List (List Nat)) (n : Nat) : (l.map ofL).getD ((n : Int)).toNat Str.empty = ofL (l.getD n []) := by
  rw [Int.toNat_natCast]
  simp only [List.getD_eq_getElem?_getD, List.getElem?_map]
  cases l[n]? <;> rfl
local macro_rules | `(tactic| walk_at "call ref") => `(tactic| refine hold_in ?_)
local macro_rules | `(tactic| walk_at "pyIter ref") => `(tactic| refine hold_in ?_)
local macro_rules | `(tactic| walk_at "setItem ref int") => `(tactic| refine hold_in ?_)
theorem newDict_L {prog : Program} {w : World} {A : Around} {E : Value → Shared → Prop} {s : Shared} {h₀ : Heap} {L : Addr} {m : Str → Option Value} {news : List (Addr × Obj)} {env : Env} {pos : Pos} {Q : Value → Shared → Prop} (F : Fr h₀ L s.heap m) (N : News h₀ L s.heap news) (hbig : h₀.NoLimit)
    (k : ∀ d h' o, @LT.lt Nat _ L d → Fr h₀ L h' m → News h₀ L h' ((d, o) :: news) → (∀ p ∈ news, p.1 < d) → (d == sysModules) = false → o.IsDictOf (PySem.strKind prog w) [] → PyProof.V.FlatPairs PyData.str [] [] →
      o.IsDictOf (PySem.intKind prog w) [] → PyProof.V.FlatPairs PyData.int [] [] → Q (.ref d) { s with heap := h' }) : wpAny (model prog w) A (eval (.Dict [] [] pos) env) Q E s :=
  Dict_empty_made2 F N (modules_low hbig) fun h' o F' N' lo a b c e _ => k _ h' o F.ns.lt F' N' (fun p hp => Heap.lt_size (N p hp).1) lo a b c e
set_option pp.maxSteps 3000
def rowL {α : Type} [BEq α] (heard : List (List α)) (k : Nat) : Nat → List (Int × Int)
  | 0 => []
  | i + 1 => rowL heard k i ++ (if inB (heard.getD (k + i) []) (heard.getD k []) = true then [(((k + i : Nat) : Int), ruleOf 10 (heard.getD (k + i) []) (heard.getD k []))] else [])
theorem name_it {a : Addr} (_ : (a == sysModules) = false) : ∃ D, D = a := ⟨a, rfl⟩
theorem range_size {a b : Nat} : Builtin.Range.rangeSize (a : Int) (b : Int) 1 = ((b - a : Nat) : Int) := by
  unfold Builtin.Range.rangeSize
  simp
  omega
theorem range_small {a b : Nat} (ha : a ≤ 100000) (hb : b ≤ 100000) : Builtin.Range.small (a : Int) (b : Int) 1 = true := by
  have h := range_size (a := a) (b := b)
  unfold Builtin.Range.small
  rw [h]
  unfold Builtin.Range.rangeFitsLong
  simp only [Bool.and_eq_true, Bool.or_eq_true, decide_eq_true_eq, beq_iff_eq, Bool.not_eq_true']
  simp
  omega
theorem ks_at {a : Nat} {n i : Nat} {kk : Int} (h : (rangeKs (a : Int) n)[i]? = some kk) : i < n ∧ kk = ((a + i : Nat) : Int) := by
  by_cases hi : i < n
  · refine ⟨hi, ?_⟩
    simp [rangeKs, hi] at h
    omega
  · simp [rangeKs, hi] at h
theorem fr_if {g h : Heap} {L : Addr} {x : Str} {v : Option Value} {m m' : Str → Option Value} (F : Fr g L h (fun y => if y = x then v else m y)) (e : ∀ y, y ≠ x → m y = m' y) (e2 : m' x = v) : Fr g L h m' :=
  fr_to F fun y => by
    by_cases q : y = x
    · rw [if_pos q, q, e2]
    · rw [if_neg q, e y q]
def ddL (l : List (Int × Int)) : List (PyData × PyData) := l.map fun p => (.int p.1, .int p.2)
theorem ddL_put {l : List (Int × Int)} {j v : Int} (h : ∀ p ∈ l, p.1 < j) : PyProof.V.putD (.int j) (.int v) (ddL l) = ddL (l ++ [(j, v)]) := by
  unfold PyProof.V.putD
  have : (ddL l).any (fun p => PySem.Spec.same p.1 (.int j)) = false := by
    rw [List.any_eq_false]
    intro p hp
    obtain ⟨q, hq, rfl⟩ := List.mem_map.mp hp
    have := h q hq
    rw [PyProof.V.same_int]
    simp only [decide_eq_true_eq]
    omega
  rw [this]
  unfold ddL
  rw [List.map_append]
  rfl
theorem rowL_lt {α : Type} [BEq α] (heard : List (List α)) (k : Nat) : ∀ i, ∀ p ∈ rowL heard k i, p.1 < ((k + i : Nat) : Int)
  | 0, p, h => nomatch h
  | i + 1, p, h => by
    unfold rowL at h
    rcases List.mem_append.mp h with h | h
    · have := rowL_lt heard k i p h; omega
    · split at h
      · rw [List.mem_singleton.mp h]; dsimp only; omega
      · exact nomatch h
theorem rowL_len {α : Type} [BEq α] (heard : List (List α)) (k : Nat) : ∀ i, (rowL heard k i).length ≤ i
  | 0 => Nat.le_refl _
  | i + 1 => by
    have := rowL_len heard k i
    unfold rowL
    rw [List.length_append]
    split <;> simp only [List.length_cons, List.length_nil] <;> omega
abbrev rwFr (H D : Addr) (k : Nat) (tk : Tok) (mj : Option Value) : Str → Option Value := fun y => if y = Str.ofString "j" then mj else if y = Str.ofString "row" then some (.ref D) else if y = Str.ofString "heard" then some (.ref H) else if y = Str.ofString "k" then some (.int k tk) else none
def rwJ (prog : Program) (w : World) (H D : Addr) (heard : List (List Nat)) (ys : List Value) (c k : Nat) (tk : Tok) (i : Nat) (m : Str → Option Value) (nx : List (Addr × Obj)) : Prop :=
  ∃ (o : Obj) (kvs : List (Int × Value)) (mj : Option Value), nx = [(D, o), (H, PySem.W.listOf ys.toArray c)] ∧ o.IsDictOf (intKind prog w) kvs ∧ PyProof.V.FlatPairs PyData.int kvs (ddL (rowL heard k i)) ∧ m = rwFr H D k tk mj
set_option maxHeartbeats 8000000 in
theorem row_spec (w : World) (H : Addr) (heard : List (List Nat)) (ys : List Value) (c : Nat) (k : Nat) (tk' : Tok) (hS : StrsAre ys (heard.map ofL)) (hk : k < heard.length) (h46 : ∀ l ∈ heard, l.length ≤ 9 ∧ ∀ c ∈ l, c ≠ 46) (hlen : heard.length ≤ 1000) :
    Spec PySem.Challenge.rw_sc0030_01.row.prog (fun w => Mine.hd.heap_39 w.params) w 115 [.ref H, .int k tk'] 20 200 [(H, PySem.W.listOf ys.toArray c)] (fun r W' => ∃ D o kvs, r = .ref D ∧ W' = [(D, o), (H, PySem.W.listOf ys.toArray c)] ∧ o.IsDictOf (intKind PySem.Challenge.rw_sc0030_01.row.prog w) kvs ∧ PyProof.V.FlatPairs PyData.int kvs (ddL (rowL heard k (heard.length - k))) ∧ (D == sysModules) = false) := by
  ((k_fill; k_dflt (refine' spec_plain ?k6_35 ?k7_35 ?h1_35 ?k9_35 ?kB_35 ?c5_35 ?c2_35 ?c3_35 ?c4_35 ?_; (case k6_35 => k_is); (case k7_35 => k_is); (case h1_35 => first | decide | exact Nat.succ_pos _); (case k9_35 => exact rfl); (case kB_35 => exact locs rfl); (case c5_35 => decide); (case c2_35 => exact rfl); (case c3_35 => exact rfl); (case c4_35 => exact rfl); k_whole)))
  intro loose mean mg mb dp un gd env outer base g L' h₁ s tk F' N' B' X' T' lW hd hu
  try dsimp only at X'
  try dsimp only
  try k_fold
  try k_lt lW
  have kM := kstMark
  k_with_none
  (repeat' (first |  (k_unfold; (try dsimp only)) | (k_here; (with_reducible show wpAny _ _ (eval (Expr.Dict [] [] _) _) _ _ _); k_dflt (refine newDict_L (by k_asm) (by k_asm) (TopRead.nolimit (by k_asm)) ?_; k_whole); intro d' h' o' lL F' N' l1 lo' hs' fs' hi' fi'; (try k_lt l1); (try k_sweep)) | ((with_reducible show wpAny _ _ (binaryOp Operator.Add (Value.str _ _) (Value.str _ _)) _ _ _); (try simp only [getD_ofL]); refine SBL.add (hsz := by (rw [sizeLine_eq]; (try simp only [Str.length_append] at *); omega)) ?_; intro _ _ _) | (k_here; (with_reducible show wpAny _ _ (eval (Expr.Name _ _) (compEnv _ _ _)) _ _ _); k_dflt (first | (refine name_locS rfl rfl rfl (by decide) (by with_reducible assumption) (by assumption) ?_; k_whole) | (refine nameG_BS rfl rfl rfl rfl (by decide) (by k_asm) (by k_asm) (by k_asm) (by k_is) (by boot_fast) (by decide) ?_; k_whole))) | (k_here; (with_reducible show wpAny _ _ (call (Value.type _) [Value.str _ _]) _ _ _); k_dflt (refine list_strN rfl (by k_asm) (by k_asm) ?_ (by rw [sizeLine_eq]; omega)); intro D9 ys9 c9 h9 tk9 F9 N9 l9 m9 hS9; (try k_lt l9); (try k_sweep)) | (k_here; (with_reducible show wpAny _ _ (compareOp CmpOp.NotEq (Value.ref _) (Value.ref _)) _ _ _); k_dflt (first | refine strs_ne_nil (by is_list) (by is_list) (by ke_room) ?_ | refine strs_ne_cons (by is_list) (by is_list) (by k_asm) (by ke_room) ?_ | refine strs_ne (by is_list) (by is_list) (by first | k_asm | exact StrsAre.nil) (by first | exact StrsAre.nil | k_asm) (by ke_room) ?_)) | (k_here; (with_reducible show wpAny _ _ (compareOp CmpOp.Eq (Value.ref _) (Value.ref _)) _ _ _); k_dflt (refine strs_eq (by is_list) (by is_list) (by first | k_asm | exact StrsAre.nil) (by first | exact StrsAre.nil | k_asm) (by ke_room) ?_)) | (k_here; (with_reducible show wpAny _ _ (call (Value.builtin _) [Value.ref _, Value.int 0 _]) _ _ _); k_dflt (refine pop_first (by k_asm) (by k_asm) (by k_upd) (by (rw [sizeLine_eq]; (try have hL9 := PyProof.Rows.StrsAre.length (by assumption)); (try simp only [List.length_cons] at *); omega)) ?_; k_whole); intro h9 F9 N9; (try k_sweep)) | (k_here; (with_reducible show wpAny _ _ (call (Value.builtin "len") [Value.str _ _]) _ _ _); refine len_str (by omega) ?_) | (k_here; (with_reducible show wpAny _ _ (call (Value.builtin "len") [Value.ref _]) _ _ _); k_dflt (refine len_strsA (by is_list) (by assumption) (by ((try simp only [List.length_map]); omega)) ?_; k_whole); (try simp only [List.length_map])) | walk1 | (dsimp only; walk1) | (dsimp only; k_unfold; (try dsimp only)) | fail "no step"))
  refine hold_out ?_
  with_reducible rename IsRange _ _ _ _ _ _ _ _ => hR
  rename (_ == sysModules) = false => hsm
  with_reducible rename Obj.IsDictOf (intKind _ _) _ _ => hd0
  with_reducible rename PyProof.V.FlatPairs PyData.int _ _ => hf0
  rename H < _ => l1
  rename Obj => o0
  obtain ⟨D, hDe⟩ := name_it hsm
  subst hDe
  refine' kpr_invN (m₀ := rwFr H D k tk' none) (news := [(D, o0), (H, PySem.W.listOf ys.toArray c)]) (n := heard.length - k) (rwJ PySem.Challenge.rw_sc0030_01.row.prog w H D heard ys c k tk') rfl hR ?hsmall ?hn ?F (by assumption) ?hj ?turn ?done
  case hsmall => exact range_small (by omega) (by omega)
  case hn => exact range_size
  case F =>
    refine fr_to (by assumption) (fun y => ?_)
    by_cases h1 : y = Str.ofString "j"
    · subst h1; rfl
    by_cases h2 : y = Str.ofString "row"
    · subst h2; rfl
    by_cases h3 : y = Str.ofString "heard"
    · subst h3; rfl
    by_cases h4 : y = Str.ofString "k"
    · subst h4; rfl
    simp only [if_neg h1, if_neg h2, if_neg h3, if_neg h4]
    show List.lookup y [(Str.ofString "k", _), (Str.ofString "heard", _)] = none
    rw [List.lookup_cons, beq_eq_false_iff_ne.mpr h4, List.lookup_cons, beq_eq_false_iff_ne.mpr h3]; rfl
  case hj => exact ⟨o0, [], none, rfl, hd0, hf0, rfl⟩
  case turn =>
    rintro i kk tj m₁ nx h tk own hki hoff ⟨o, kvs, mj, rfl, hd1, hf1, rfl⟩ F1 N1
    obtain ⟨hin, rfl⟩ := ks_at hki
    replace F1 : Fr g L' h (rwFr H D k tk' (some (.int ((k + i : Nat) : Int) tj))) := fr_if F1 (fun y hy => by simp only [rwFr, if_neg hy]) (by simp only [rwFr, if_pos])
    have hA : ∀ j, (ofL (heard.getD j [])).length ≤ 9 ∧ ∀ c ∈ heard.getD j [], c ≠ 46 := fun j => by
      rw [List.getD_eq_getElem?_getD]
      cases e : heard[j]? with
      | none => exact ⟨Nat.zero_le _, fun _ h => nomatch h⟩
      | some l => exact h46 l (List.mem_of_getElem? e)
    have hA1 := (hA (k + i)).1
    have hA2 := (hA k).1
    have d3 : (Str.ofString "...").length = 3 := rfl
    (repeat' (first |  (k_unfold; (try dsimp only)) | (k_here; (with_reducible show wpAny _ _ (eval (Expr.Dict [] [] _) _) _ _ _); k_dflt (refine newDict_L (by k_asm) (by k_asm) (TopRead.nolimit (by k_asm)) ?_; k_whole); intro d' h' o' lL F' N' l1 lo' hs' fs' hi' fi'; (try k_lt l1); (try k_sweep)) | ((with_reducible show wpAny _ _ (binaryOp Operator.Add (Value.str _ _) (Value.str _ _)) _ _ _); (try simp only [getD_ofL]); refine SBL.add (hsz := by (rw [sizeLine_eq]; (try simp only [Str.length_append] at *); omega)) ?_; intro _ _ _) | (k_here; (with_reducible show wpAny _ _ (eval (Expr.Name _ _) (compEnv _ _ _)) _ _ _); k_dflt (first | (refine name_locS rfl rfl rfl (by decide) (by with_reducible assumption) (by assumption) ?_; k_whole) | (refine nameG_BS rfl rfl rfl rfl (by decide) (by k_asm) (by k_asm) (by k_asm) (by k_is) (by boot_fast) (by decide) ?_; k_whole))) | (k_here; (with_reducible show wpAny _ _ (call (Value.type _) [Value.str _ _]) _ _ _); k_dflt (refine list_strN rfl (by k_asm) (by k_asm) ?_ (by rw [sizeLine_eq]; omega)); intro D9 ys9 c9 h9 tk9 F9 N9 l9 m9 hS9; (try k_lt l9); (try k_sweep)) | (k_here; (with_reducible show wpAny _ _ (compareOp CmpOp.NotEq (Value.ref _) (Value.ref _)) _ _ _); k_dflt (first | refine strs_ne_nil (by is_list) (by is_list) (by ke_room) ?_ | refine strs_ne_cons (by is_list) (by is_list) (by k_asm) (by ke_room) ?_ | refine strs_ne (by is_list) (by is_list) (by first | k_asm | exact StrsAre.nil) (by first | exact StrsAre.nil | k_asm) (by ke_room) ?_)) | (k_here; (with_reducible show wpAny _ _ (compareOp CmpOp.Eq (Value.ref _) (Value.ref _)) _ _ _); k_dflt (refine strs_eq (by is_list) (by is_list) (by first | k_asm | exact StrsAre.nil) (by first | exact StrsAre.nil | k_asm) (by ke_room) ?_)) | (k_here; (with_reducible show wpAny _ _ (call (Value.builtin _) [Value.ref _, Value.int 0 _]) _ _ _); k_dflt (refine pop_first (by k_asm) (by k_asm) (by k_upd) (by (rw [sizeLine_eq]; (try have hL9 := PyProof.Rows.StrsAre.length (by assumption)); (try simp only [List.length_cons] at *); omega)) ?_; k_whole); intro h9 F9 N9; (try k_sweep)) | (k_here; (with_reducible show wpAny _ _ (call (Value.builtin "len") [Value.str _ _]) _ _ _); refine len_str (by omega) ?_) | (k_here; (with_reducible show wpAny _ _ (call (Value.builtin "len") [Value.ref _]) _ _ _); k_dflt (refine len_strsA (by is_list) (by assumption) (by ((try simp only [List.length_map]); omega)) ?_; k_whole); (try simp only [List.length_map])) | walk1 | (dsimp only; walk1) | (dsimp only; k_unfold; (try dsimp only)) | fail "no step"))
    refine hold_out ?_
    try simp only [getD_ofL]
    refine Spec.pure (ell_mid w _ _ (heard.getD (k + i) []) (heard.getD k []) _ _ (hA (k + i)).2 (dots_app_dots _) rfl (Nat.le_trans hA1 (by decide)) (Nat.le_trans hA2 (by decide))) (by assumption) (by assumption) (by assumption) (by assumption) (by assumption) rfl (by omega) (by omega) ?_
    rintro r h1 tk1 hr F1 N1
    cases hin2 : inB (heard.getD (k + i) []) (heard.getD k []) with
    | false =>
      rw [hin2] at hr
      subst hr
      (repeat' (first |  (k_unfold; (try dsimp only)) | (k_here; (with_reducible show wpAny _ _ (eval (Expr.Dict [] [] _) _) _ _ _); k_dflt (refine newDict_L (by k_asm) (by k_asm) (TopRead.nolimit (by k_asm)) ?_; k_whole); intro d' h' o' lL F' N' l1 lo' hs' fs' hi' fi'; (try k_lt l1); (try k_sweep)) | ((with_reducible show wpAny _ _ (binaryOp Operator.Add (Value.str _ _) (Value.str _ _)) _ _ _); (try simp only [getD_ofL]); refine SBL.add (hsz := by (rw [sizeLine_eq]; (try simp only [Str.length_append] at *); omega)) ?_; intro _ _ _) | (k_here; (with_reducible show wpAny _ _ (eval (Expr.Name _ _) (compEnv _ _ _)) _ _ _); k_dflt (first | (refine name_locS rfl rfl rfl (by decide) (by with_reducible assumption) (by assumption) ?_; k_whole) | (refine nameG_BS rfl rfl rfl rfl (by decide) (by k_asm) (by k_asm) (by k_asm) (by k_is) (by boot_fast) (by decide) ?_; k_whole))) | (k_here; (with_reducible show wpAny _ _ (call (Value.type _) [Value.str _ _]) _ _ _); k_dflt (refine list_strN rfl (by k_asm) (by k_asm) ?_ (by rw [sizeLine_eq]; omega)); intro D9 ys9 c9 h9 tk9 F9 N9 l9 m9 hS9; (try k_lt l9); (try k_sweep)) | (k_here; (with_reducible show wpAny _ _ (compareOp CmpOp.NotEq (Value.ref _) (Value.ref _)) _ _ _); k_dflt (first | refine strs_ne_nil (by is_list) (by is_list) (by ke_room) ?_ | refine strs_ne_cons (by is_list) (by is_list) (by k_asm) (by ke_room) ?_ | refine strs_ne (by is_list) (by is_list) (by first | k_asm | exact StrsAre.nil) (by first | exact StrsAre.nil | k_asm) (by ke_room) ?_)) | (k_here; (with_reducible show wpAny _ _ (compareOp CmpOp.Eq (Value.ref _) (Value.ref _)) _ _ _); k_dflt (refine strs_eq (by is_list) (by is_list) (by first | k_asm | exact StrsAre.nil) (by first | exact StrsAre.nil | k_asm) (by ke_room) ?_)) | (k_here; (with_reducible show wpAny _ _ (call (Value.builtin _) [Value.ref _, Value.int 0 _]) _ _ _); k_dflt (refine pop_first (by k_asm) (by k_asm) (by k_upd) (by (rw [sizeLine_eq]; (try have hL9 := PyProof.Rows.StrsAre.length (by assumption)); (try simp only [List.length_cons] at *); omega)) ?_; k_whole); intro h9 F9 N9; (try k_sweep)) | (k_here; (with_reducible show wpAny _ _ (call (Value.builtin "len") [Value.str _ _]) _ _ _); refine len_str (by omega) ?_) | (k_here; (with_reducible show wpAny _ _ (call (Value.builtin "len") [Value.ref _]) _ _ _); k_dflt (refine len_strsA (by is_list) (by assumption) (by ((try simp only [List.length_map]); omega)) ?_; k_whole); (try simp only [List.length_map])) | walk1 | (dsimp only; walk1) | (dsimp only; k_unfold; (try dsimp only)) | fail "no step"))
      exact ⟨_, _, _, _, [(D, o), (H, PySem.W.listOf ys.toArray c)], rfl, F1, N1, fun p hp => List.mem_append.mpr (.inl hp), fun p hp => List.mem_append.mpr (.inr hp), rfl, o, kvs, _, rfl, hd1, by unfold rowL; rw [hin2, if_neg (by decide), List.append_nil]; exact hf1, rfl⟩
    | true =>
      rw [hin2] at hr
      subst hr
      (repeat' (first |  (k_unfold; (try dsimp only)) | (k_here; (with_reducible show wpAny _ _ (eval (Expr.Dict [] [] _) _) _ _ _); k_dflt (refine newDict_L (by k_asm) (by k_asm) (TopRead.nolimit (by k_asm)) ?_; k_whole); intro d' h' o' lL F' N' l1 lo' hs' fs' hi' fi'; (try k_lt l1); (try k_sweep)) | ((with_reducible show wpAny _ _ (binaryOp Operator.Add (Value.str _ _) (Value.str _ _)) _ _ _); (try simp only [getD_ofL]); refine SBL.add (hsz := by (rw [sizeLine_eq]; (try simp only [Str.length_append] at *); omega)) ?_; intro _ _ _) | (k_here; (with_reducible show wpAny _ _ (eval (Expr.Name _ _) (compEnv _ _ _)) _ _ _); k_dflt (first | (refine name_locS rfl rfl rfl (by decide) (by with_reducible assumption) (by assumption) ?_; k_whole) | (refine nameG_BS rfl rfl rfl rfl (by decide) (by k_asm) (by k_asm) (by k_asm) (by k_is) (by boot_fast) (by decide) ?_; k_whole))) | (k_here; (with_reducible show wpAny _ _ (call (Value.type _) [Value.str _ _]) _ _ _); k_dflt (refine list_strN rfl (by k_asm) (by k_asm) ?_ (by rw [sizeLine_eq]; omega)); intro D9 ys9 c9 h9 tk9 F9 N9 l9 m9 hS9; (try k_lt l9); (try k_sweep)) | (k_here; (with_reducible show wpAny _ _ (compareOp CmpOp.NotEq (Value.ref _) (Value.ref _)) _ _ _); k_dflt (first | refine strs_ne_nil (by is_list) (by is_list) (by ke_room) ?_ | refine strs_ne_cons (by is_list) (by is_list) (by k_asm) (by ke_room) ?_ | refine strs_ne (by is_list) (by is_list) (by first | k_asm | exact StrsAre.nil) (by first | exact StrsAre.nil | k_asm) (by ke_room) ?_)) | (k_here; (with_reducible show wpAny _ _ (compareOp CmpOp.Eq (Value.ref _) (Value.ref _)) _ _ _); k_dflt (refine strs_eq (by is_list) (by is_list) (by first | k_asm | exact StrsAre.nil) (by first | exact StrsAre.nil | k_asm) (by ke_room) ?_)) | (k_here; (with_reducible show wpAny _ _ (call (Value.builtin _) [Value.ref _, Value.int 0 _]) _ _ _); k_dflt (refine pop_first (by k_asm) (by k_asm) (by k_upd) (by (rw [sizeLine_eq]; (try have hL9 := PyProof.Rows.StrsAre.length (by assumption)); (try simp only [List.length_cons] at *); omega)) ?_; k_whole); intro h9 F9 N9; (try k_sweep)) | (k_here; (with_reducible show wpAny _ _ (call (Value.builtin "len") [Value.str _ _]) _ _ _); refine len_str (by omega) ?_) | (k_here; (with_reducible show wpAny _ _ (call (Value.builtin "len") [Value.ref _]) _ _ _); k_dflt (refine len_strsA (by is_list) (by assumption) (by ((try simp only [List.length_map]); omega)) ?_; k_whole); (try simp only [List.length_map])) | walk1 | (dsimp only; walk1) | (dsimp only; k_unfold; (try dsimp only)) | fail "no step"))
      refine hold_out ?_
      try simp only [getD_ofL]
      refine Spec.pure (rule_spec w (heard.getD (k + i) []) _ (hA (k + i)).2 10 (heard.getD k []) _ (Nat.lt_succ_of_le hA2) (by decide) (inB_len hin2) (hA k).2) (by assumption) (by assumption) (by assumption) (by assumption) (by assumption) rfl (by omega) (by omega) ?_
      refine int_all ?_
      intro h2 tk2 tr F2 N2
      (repeat' (first |  (k_unfold; (try dsimp only)) | (k_here; (with_reducible show wpAny _ _ (eval (Expr.Dict [] [] _) _) _ _ _); k_dflt (refine newDict_L (by k_asm) (by k_asm) (TopRead.nolimit (by k_asm)) ?_; k_whole); intro d' h' o' lL F' N' l1 lo' hs' fs' hi' fi'; (try k_lt l1); (try k_sweep)) | ((with_reducible show wpAny _ _ (binaryOp Operator.Add (Value.str _ _) (Value.str _ _)) _ _ _); (try simp only [getD_ofL]); refine SBL.add (hsz := by (rw [sizeLine_eq]; (try simp only [Str.length_append] at *); omega)) ?_; intro _ _ _) | (k_here; (with_reducible show wpAny _ _ (eval (Expr.Name _ _) (compEnv _ _ _)) _ _ _); k_dflt (first | (refine name_locS rfl rfl rfl (by decide) (by with_reducible assumption) (by assumption) ?_; k_whole) | (refine nameG_BS rfl rfl rfl rfl (by decide) (by k_asm) (by k_asm) (by k_asm) (by k_is) (by boot_fast) (by decide) ?_; k_whole))) | (k_here; (with_reducible show wpAny _ _ (call (Value.type _) [Value.str _ _]) _ _ _); k_dflt (refine list_strN rfl (by k_asm) (by k_asm) ?_ (by rw [sizeLine_eq]; omega)); intro D9 ys9 c9 h9 tk9 F9 N9 l9 m9 hS9; (try k_lt l9); (try k_sweep)) | (k_here; (with_reducible show wpAny _ _ (compareOp CmpOp.NotEq (Value.ref _) (Value.ref _)) _ _ _); k_dflt (first | refine strs_ne_nil (by is_list) (by is_list) (by ke_room) ?_ | refine strs_ne_cons (by is_list) (by is_list) (by k_asm) (by ke_room) ?_ | refine strs_ne (by is_list) (by is_list) (by first | k_asm | exact StrsAre.nil) (by first | exact StrsAre.nil | k_asm) (by ke_room) ?_)) | (k_here; (with_reducible show wpAny _ _ (compareOp CmpOp.Eq (Value.ref _) (Value.ref _)) _ _ _); k_dflt (refine strs_eq (by is_list) (by is_list) (by first | k_asm | exact StrsAre.nil) (by first | exact StrsAre.nil | k_asm) (by ke_room) ?_)) | (k_here; (with_reducible show wpAny _ _ (call (Value.builtin _) [Value.ref _, Value.int 0 _]) _ _ _); k_dflt (refine pop_first (by k_asm) (by k_asm) (by k_upd) (by (rw [sizeLine_eq]; (try have hL9 := PyProof.Rows.StrsAre.length (by assumption)); (try simp only [List.length_cons] at *); omega)) ?_; k_whole); intro h9 F9 N9; (try k_sweep)) | (k_here; (with_reducible show wpAny _ _ (call (Value.builtin "len") [Value.str _ _]) _ _ _); refine len_str (by omega) ?_) | (k_here; (with_reducible show wpAny _ _ (call (Value.builtin "len") [Value.ref _]) _ _ _); k_dflt (refine len_strsA (by is_list) (by assumption) (by ((try simp only [List.length_map]); omega)) ?_; k_whole); (try simp only [List.length_map])) | walk1 | (dsimp only; walk1) | (dsimp only; k_unfold; (try dsimp only)) | fail "no step"))
      refine hold_out ?_
      refine setItem_K PyProof.V.same_int (intKind_is _ _ _ _) (dv := .int (ruleOf 10 (heard.getD (k + i) []) (heard.getD k []))) (by k_flat) F2 N2 (by k_updF) hd1 hf1 ?_ (by unfold ddL; rw [List.length_map, sizeLine_eq]; have := rowL_len heard k i; omega)
      intro h3 o3 F3 N3 hd3 hf3
      rw [ddL_put (rowL_lt heard k i)] at hf3
      (repeat' (first |  (k_unfold; (try dsimp only)) | (k_here; (with_reducible show wpAny _ _ (eval (Expr.Dict [] [] _) _) _ _ _); k_dflt (refine newDict_L (by k_asm) (by k_asm) (TopRead.nolimit (by k_asm)) ?_; k_whole); intro d' h' o' lL F' N' l1 lo' hs' fs' hi' fi'; (try k_lt l1); (try k_sweep)) | ((with_reducible show wpAny _ _ (binaryOp Operator.Add (Value.str _ _) (Value.str _ _)) _ _ _); (try simp only [getD_ofL]); refine SBL.add (hsz := by (rw [sizeLine_eq]; (try simp only [Str.length_append] at *); omega)) ?_; intro _ _ _) | (k_here; (with_reducible show wpAny _ _ (eval (Expr.Name _ _) (compEnv _ _ _)) _ _ _); k_dflt (first | (refine name_locS rfl rfl rfl (by decide) (by with_reducible assumption) (by assumption) ?_; k_whole) | (refine nameG_BS rfl rfl rfl rfl (by decide) (by k_asm) (by k_asm) (by k_asm) (by k_is) (by boot_fast) (by decide) ?_; k_whole))) | (k_here; (with_reducible show wpAny _ _ (call (Value.type _) [Value.str _ _]) _ _ _); k_dflt (refine list_strN rfl (by k_asm) (by k_asm) ?_ (by rw [sizeLine_eq]; omega)); intro D9 ys9 c9 h9 tk9 F9 N9 l9 m9 hS9; (try k_lt l9); (try k_sweep)) | (k_here; (with_reducible show wpAny _ _ (compareOp CmpOp.NotEq (Value.ref _) (Value.ref _)) _ _ _); k_dflt (first | refine strs_ne_nil (by is_list) (by is_list) (by ke_room) ?_ | refine strs_ne_cons (by is_list) (by is_list) (by k_asm) (by ke_room) ?_ | refine strs_ne (by is_list) (by is_list) (by first | k_asm | exact StrsAre.nil) (by first | exact StrsAre.nil | k_asm) (by ke_room) ?_)) | (k_here; (with_reducible show wpAny _ _ (compareOp CmpOp.Eq (Value.ref _) (Value.ref _)) _ _ _); k_dflt (refine strs_eq (by is_list) (by is_list) (by first | k_asm | exact StrsAre.nil) (by first | exact StrsAre.nil | k_asm) (by ke_room) ?_)) | (k_here; (with_reducible show wpAny _ _ (call (Value.builtin _) [Value.ref _, Value.int 0 _]) _ _ _); k_dflt (refine pop_first (by k_asm) (by k_asm) (by k_upd) (by (rw [sizeLine_eq]; (try have hL9 := PyProof.Rows.StrsAre.length (by assumption)); (try simp only [List.length_cons] at *); omega)) ?_; k_whole); intro h9 F9 N9; (try k_sweep)) | (k_here; (with_reducible show wpAny _ _ (call (Value.builtin "len") [Value.str _ _]) _ _ _); refine len_str (by omega) ?_) | (k_here; (with_reducible show wpAny _ _ (call (Value.builtin "len") [Value.ref _]) _ _ _); k_dflt (refine len_strsA (by is_list) (by assumption) (by ((try simp only [List.length_map]); omega)) ?_; k_whole); (try simp only [List.length_map])) | walk1 | (dsimp only; walk1) | (dsimp only; k_unfold; (try dsimp only)) | fail "no step"))
      exact ⟨_, _, _, _, [(D, o3), (H, PySem.W.listOf ys.toArray c)], rfl, F3, N3, fun p hp => List.mem_append.mpr (.inl hp), fun p hp => .tail _ (.tail _ hp), rfl, o3, _, _, rfl, hd3, by unfold rowL; rw [hin2, if_pos rfl]; exact hf3, rfl⟩
  case done =>
    rintro m₁ nx h tk ⟨o, kvs, mj, rfl, hd1, hf1, rfl⟩ F1 N1
    rw [rangeKs_length] at hf1
    (repeat' (first |  (k_unfold; (try dsimp only)) | (k_here; (with_reducible show wpAny _ _ (eval (Expr.Dict [] [] _) _) _ _ _); k_dflt (refine newDict_L (by k_asm) (by k_asm) (TopRead.nolimit (by k_asm)) ?_; k_whole); intro d' h' o' lL F' N' l1 lo' hs' fs' hi' fi'; (try k_lt l1); (try k_sweep)) | ((with_reducible show wpAny _ _ (binaryOp Operator.Add (Value.str _ _) (Value.str _ _)) _ _ _); (try simp only [getD_ofL]); refine SBL.add (hsz := by (rw [sizeLine_eq]; (try simp only [Str.length_append] at *); omega)) ?_; intro _ _ _) | (k_here; (with_reducible show wpAny _ _ (eval (Expr.Name _ _) (compEnv _ _ _)) _ _ _); k_dflt (first | (refine name_locS rfl rfl rfl (by decide) (by with_reducible assumption) (by assumption) ?_; k_whole) | (refine nameG_BS rfl rfl rfl rfl (by decide) (by k_asm) (by k_asm) (by k_asm) (by k_is) (by boot_fast) (by decide) ?_; k_whole))) | (k_here; (with_reducible show wpAny _ _ (call (Value.type _) [Value.str _ _]) _ _ _); k_dflt (refine list_strN rfl (by k_asm) (by k_asm) ?_ (by rw [sizeLine_eq]; omega)); intro D9 ys9 c9 h9 tk9 F9 N9 l9 m9 hS9; (try k_lt l9); (try k_sweep)) | (k_here; (with_reducible show wpAny _ _ (compareOp CmpOp.NotEq (Value.ref _) (Value.ref _)) _ _ _); k_dflt (first | refine strs_ne_nil (by is_list) (by is_list) (by ke_room) ?_ | refine strs_ne_cons (by is_list) (by is_list) (by k_asm) (by ke_room) ?_ | refine strs_ne (by is_list) (by is_list) (by first | k_asm | exact StrsAre.nil) (by first | exact StrsAre.nil | k_asm) (by ke_room) ?_)) | (k_here; (with_reducible show wpAny _ _ (compareOp CmpOp.Eq (Value.ref _) (Value.ref _)) _ _ _); k_dflt (refine strs_eq (by is_list) (by is_list) (by first | k_asm | exact StrsAre.nil) (by first | exact StrsAre.nil | k_asm) (by ke_room) ?_)) | (k_here; (with_reducible show wpAny _ _ (call (Value.builtin _) [Value.ref _, Value.int 0 _]) _ _ _); k_dflt (refine pop_first (by k_asm) (by k_asm) (by k_upd) (by (rw [sizeLine_eq]; (try have hL9 := PyProof.Rows.StrsAre.length (by assumption)); (try simp only [List.length_cons] at *); omega)) ?_; k_whole); intro h9 F9 N9; (try k_sweep)) | (k_here; (with_reducible show wpAny _ _ (call (Value.builtin "len") [Value.str _ _]) _ _ _); refine len_str (by omega) ?_) | (k_here; (with_reducible show wpAny _ _ (call (Value.builtin "len") [Value.ref _]) _ _ _); k_dflt (refine len_strsA (by is_list) (by assumption) (by ((try simp only [List.length_map]); omega)) ?_; k_whole); (try simp only [List.length_map])) | walk1 | (dsimp only; walk1) | (dsimp only; k_unfold; (try dsimp only)) | fail "no step"))
    exact Back.mk' ⟨D, o, kvs, rfl, rfl, hd1, hf1, hsm⟩ F1 N1 (by (repeat (first | exact List.forall_mem_nil _ | refine List.forall_mem_cons.mpr ⟨by k_mem, ?_⟩))) (by (repeat (first | exact List.forall_mem_nil _ | refine List.forall_mem_cons.mpr ⟨by first | (left; simp only [List.map_cons, List.mem_cons, true_or, or_true]; done) | (right; refine ltN ?_; (try dsimp only); omega), ?_⟩)))

end
section
local macro_rules | `(tactic| walk_at "pad") => `(tactic| fail)
local macro_rules | `(tactic| walk_at "pyIter ref") => `(tactic| refine hold_in ?_)
local macro_rules | `(tactic| walk_at "compareOp NotIn str ref") => `(tactic| refine hold_in ?_)
local macro_rules | `(tactic| walk_at "call builtin:list.append") => `(tactic| refine hold_in ?_)
theorem newList_L {M : Model} {A : Around} {E : Value → Shared → Prop} {s : Shared} {h₀ : Heap} {L : Addr} {m : Str → Option Value} {news : List (Addr × Obj)} {vs : List Value} {Q : Value → Shared → Prop} (F : Fr h₀ L s.heap m) (N : News h₀ L s.heap news)
    (h : ∀ l h', @LT.lt Nat _ L l → Fr h₀ L h' m → News h₀ L h' ((l, PySem.W.listOf vs.toArray 0) :: news) → (∀ p ∈ news, p.1 < l) → Q (.ref l) { s with heap := h' }) (hsz : vs.length ≤ sizeLine := by size_fits) : wpAny M A (newList vs) Q E s :=
  newList_N F N (fun h' F' N' => h _ h' F.ns.lt F' N' fun p hp => Heap.lt_size (N p hp).1) hsz
set_option pp.maxSteps 3000
def addNew {α : Type} [BEq α] (due : List (List α)) (x : List α) : List (List α) := if due.contains x then due else due ++ [x]
def innerL {α : Type} [BEq α] (word : List α) (size : Nat) (due : List (List α)) : Nat → List (List α)
  | 0 => due
  | j + 1 => addNew (innerL word size due j) ((word.drop j).take size)
def outerL {α : Type} [BEq α] (word : List α) : Nat → List (List α)
  | 0 => []
  | i + 1 => innerL word (word.length - i) (outerL word i) (i + 1)
theorem addNew_len {α : Type} [BEq α] (due : List (List α)) (x : List α) : (addNew due x).length ≤ due.length + 1 := by
  unfold addNew
  split
  · omega
  · simp
theorem innerL_len {α : Type} [BEq α] (word : List α) (size : Nat) (due : List (List α)) : ∀ j, (innerL word size due j).length ≤ due.length + j
  | 0 => Nat.le_refl _
  | j + 1 => by
    have h := innerL_len word size due j
    have h2 := addNew_len (innerL word size due j) ((word.drop j).take size)
    unfold innerL
    omega
theorem outerL_len {α : Type} [BEq α] (word : List α) : ∀ i, i ≤ 10 → (outerL word i).length ≤ 10 * i
  | 0, _ => Nat.zero_le _
  | i + 1, hi => by
    have h := outerL_len word i (by omega)
    have h2 := innerL_len word (word.length - i) (outerL word i) (i + 1)
    unfold outerL
    omega
theorem kpd_invN {prog : Program} {w : World} {A : Around} {E : Value → Shared → Prop} {s : Shared} {env : Env} {h₀ : Heap} {x : Str} {body : List Stmt} {Q : Flow → Shared → Prop} {r : Addr} {a₀ b₀ : Int} {t₀ u₀ v₀ : Tok} {n : Nat} {m₀ : Str → Option Value} {news : List (Addr × Obj)} (J : Nat → (Str → Option Value) → List (Addr × Obj) → Prop)
    (hh : A.handled = none) (hr : IsRange s.heap r a₀ b₀ (-1) t₀ u₀ v₀) (hsmall : Builtin.Range.small a₀ b₀ (-1) = true) (hn : Builtin.Range.rangeSize a₀ b₀ (-1) = (n : Int)) (F : Fr h₀ env.locals s.heap m₀) (N : News h₀ env.locals s.heap news) (hj : J 0 m₀ news)
    (turn : ∀ (i : Nat) t m₁ nx h tk own, i < n → OwnOff own (news.map (·.1)) → J i m₁ nx → Fr h₀ env.locals h (fun y => if y = x then some (.int (a₀ + (i : Int) * (-1)) t) else m₁ y) → News h₀ env.locals h (nx ++ own) →
      wpAny (model prog w) A (execs body env) (InvPostN h₀ env.locals (J (i + 1)) own (news.map (·.1)) { s with heap := h, toks := tk } Q) E { s with heap := h, toks := tk })
    (done : ∀ m₁ nx h tk, J n m₁ nx → Fr h₀ env.locals h m₁ → News h₀ env.locals h nx → Q .next { s with heap := h, toks := tk }) :
    wpAny (model prog w) A (pyIter (.ref r)) (fun it s₂ => LoopAtV prog w A h₀ env x body Q E it s₂) E s := by
  refine wpAny_pyIter_range hr hsmall ?_
  have W : Walks prog w A s.heap.objs.size [s.heap.objs.size] [s.heap.objs.size] n (fun i v => i < n ∧ ∃ t, v = .int (a₀ + i * (-1)) t)
      (fun i h => IsRangeIter h s.heap.objs.size (a₀ + (i : Nat) * (-1)) ((n : Int) - (i : Nat)) (-1)) := (Walks.range hh _ a₀ (-1) n).bound
  refine loop_invN J W ?_ ?_ ?_ ?_ (by show IsRangeIter _ _ _ _ _; rw [hn]; simpa using Heap.get?_push_size _ rfl) (F.push _) (fun p hp => ⟨Heap.get?_push_of_some _ (N p hp).1, (N p hp).2⟩) hj ?_ ?_
  · intro hm
    exact absurd F.ns.lt ((List.mem_singleton.mp hm) ▸ Nat.lt_irrefl _)
  · intro b hb
    rw [List.mem_singleton.mp hb]
    exact next_is_new F
  · intro p hp hI
    exact absurd (Heap.lt_size (N p hp).1) ((List.mem_singleton.mp hI) ▸ Nat.lt_irrefl _)
  · intro p hp hI
    exact absurd (Heap.lt_size (N p hp).1) ((List.mem_singleton.mp hI) ▸ Nat.lt_irrefl _)
  · rintro i v m₁ nx h tk own hi ⟨_, t, rfl⟩ _ ho hJ F' N'
    exact turn i t m₁ nx h tk own hi ho hJ F' N'
  · intro m₁ nx h tk hJ F₁ N₁
    exact done m₁ nx h tk hJ F₁ N₁
theorem name_lt {a b : Nat} (_ : a < b) : ∃ D, D = b := ⟨b, rfl⟩
theorem range_sizeD {a : Nat} : Builtin.Range.rangeSize (a : Int) (-1) (-1) = ((a + 1 : Nat) : Int) := by
  unfold Builtin.Range.rangeSize
  simp
  omega
theorem range_smallD {a : Nat} (ha : a ≤ 100000) : Builtin.Range.small (a : Int) (-1) (-1) = true := by
  have h := range_sizeD (a := a)
  unfold Builtin.Range.small
  rw [h]
  unfold Builtin.Range.rangeFitsLong
  simp only [Bool.and_eq_true, Bool.or_eq_true, decide_eq_true_eq, beq_iff_eq, Bool.not_eq_true']
  simp
  omega
theorem any_ofL (l : List (List Nat)) (x : List Nat) : ((l.map ofL).any (· == ofL x)) = l.contains x := by
  induction l with
  | nil => rfl
  | cons a r ih => rw [List.map_cons, List.any_cons, ih, List.contains_cons, ofL_beq, Bool.beq_comm (a := a) (b := x)]
theorem mem_left {x : Addr × Obj} {own own3 : List (Addr × Obj)} : ∀ p ∈ x :: own, p ∈ x :: (own ++ own3) := fun p hp => by
  rw [← List.cons_append]; exact List.mem_append_left _ hp
theorem mem_right {x : Addr × Obj} {own own3 : List (Addr × Obj)} : ∀ p ∈ own3, p ∈ x :: (own ++ own3) := fun p hp => .tail _ (List.mem_append_right _ hp)
theorem off_own {D : Addr} {o o' : Obj} {own own3 : List (Addr × Obj)} (h : OwnOff own (List.map (·.1) [(D, o)])) (h3 : OwnOff own3 (List.map (·.1) ((D, o') :: own))) : ∀ p ∈ own ++ own3, p.1 ≠ D := fun p hp =>
  (List.mem_append.mp hp).elim (fun q => h p q D (.head _)) (fun q => h3 p q D (.head _))
abbrev stFr (D : Addr) (word : List Nat) (tw : Tok) (msz mst : Option Value) : Str → Option Value := fun y => if y = Str.ofString "size" then msz else if y = Str.ofString "start" then mst else if y = Str.ofString "due" then some (.ref D) else if y = Str.ofString "word" then some (.str (ofL word) tw) else none
def stJ (D : Addr) (word : List Nat) (tw : Tok) (due : List (List Nat)) (m : Str → Option Value) (nx : List (Addr × Obj)) : Prop :=
  ∀ Z : (Str → Option Value) → List (Addr × Obj) → Prop, (∀ (ys : List Value) (c : Nat) (msz mst : Option Value), StrsAre ys (due.map ofL) → Z (stFr D word tw msz mst) [(D, PySem.W.listOf ys.toArray c)]) → Z m nx
theorem stJ_all {D : Addr} {word : List Nat} {tw : Tok} {due : List (List Nat)} {Z : (Str → Option Value) → List (Addr × Obj) → Prop} (d : ∀ (ys : List Value) (c : Nat) (msz mst : Option Value), StrsAre ys (due.map ofL) → Z (stFr D word tw msz mst) [(D, PySem.W.listOf ys.toArray c)]) : ∀ m nx, stJ D word tw due m nx → Z m nx := fun _ _ h => h Z d
theorem stJ_mk {D : Addr} {word : List Nat} {tw : Tok} {due : List (List Nat)} {ys : List Value} {c : Nat} {msz mst : Option Value} (h : StrsAre ys (due.map ofL)) : stJ D word tw due (stFr D word tw msz mst) [(D, PySem.W.listOf ys.toArray c)] := fun _ k => k _ _ _ _ h
def stK (own : List (Addr × Obj)) (D : Addr) (word : List Nat) (tw : Tok) (size : Int) (ts : Tok) (due : List (List Nat)) (m : Str → Option Value) (nx : List (Addr × Obj)) : Prop :=
  ∀ Z : (Str → Option Value) → List (Addr × Obj) → Prop, (∀ (ys : List Value) (c : Nat) (mst : Option Value), StrsAre ys (due.map ofL) → Z (stFr D word tw (some (.int size ts)) mst) ((D, PySem.W.listOf ys.toArray c) :: own)) → Z m nx
theorem stK_all {own : List (Addr × Obj)} {D : Addr} {word : List Nat} {tw : Tok} {size : Int} {ts : Tok} {due : List (List Nat)} {Z : (Str → Option Value) → List (Addr × Obj) → Prop} (d : ∀ (ys : List Value) (c : Nat) (mst : Option Value), StrsAre ys (due.map ofL) → Z (stFr D word tw (some (.int size ts)) mst) ((D, PySem.W.listOf ys.toArray c) :: own)) : ∀ m nx, stK own D word tw size ts due m nx → Z m nx := fun _ _ h => h Z d
theorem stK_mk {own : List (Addr × Obj)} {D : Addr} {word : List Nat} {tw : Tok} {size : Int} {ts : Tok} {due : List (List Nat)} {ys : List Value} {c : Nat} {mst : Option Value} (h : StrsAre ys (due.map ofL)) : stK own D word tw size ts due (stFr D word tw (some (.int size ts)) mst) ((D, PySem.W.listOf ys.toArray c) :: own) := fun _ k => k _ _ _ h
set_option maxHeartbeats 8000000 in
theorem stretches_spec (w : World) (word : List Nat) (tw : Tok) (hl : word.length ≤ 9) :
    Spec PySem.Challenge.rw_sc0030_01.row.prog (fun w => Mine.hd.heap_39 w.params) w 122 [.str (ofL word) tw] 20 200 [] (fun r W' => ∃ D ys c, r = .ref D ∧ W' = [(D, PySem.W.listOf ys.toArray c)] ∧ StrsAre ys ((outerL word (word.length + 1)).map ofL)) := by
  ((k_fill; k_dflt (refine' spec_plain ?k6_39 ?k7_39 ?h1_39 ?k9_39 ?kB_39 ?c5_39 ?c2_39 ?c3_39 ?c4_39 ?_; (case k6_39 => k_is); (case k7_39 => k_is); (case h1_39 => first | decide | exact Nat.succ_pos _); (case k9_39 => exact rfl); (case kB_39 => exact locs rfl); (case c5_39 => decide); (case c2_39 => exact rfl); (case c3_39 => exact rfl); (case c4_39 => exact rfl); k_whole)))
  intro loose mean mg mb dp un gd env outer base g L' h₁ s tk F' N' B' X' T' lW hd hu
  try dsimp only at X'
  try dsimp only
  try k_fold
  try k_lt lW
  have kM := kstMark
  k_with_none
  have hwl : (ofL word).length = word.length := rfl
  (repeat' (first |  (k_unfold; (try dsimp only)) | (k_here; (with_reducible show wpAny _ _ (newList _) _ _ _); k_dflt (refine newList_L (by k_asm) (by k_asm) ?_; k_whole); intro l' h' lL F' N' l1; (try k_lt l1); (try k_sweep)) | (k_here; (with_reducible show wpAny _ _ (eval (Expr.Name _ _) (compEnv _ _ _)) _ _ _); k_dflt (first | (refine name_locS rfl rfl rfl (by decide) (by with_reducible assumption) (by assumption) ?_; k_whole) | (refine nameG_BS rfl rfl rfl rfl (by decide) (by k_asm) (by k_asm) (by k_asm) (by k_is) (by boot_fast) (by decide) ?_; k_whole))) | (k_here; (with_reducible show wpAny _ _ (call (Value.type _) [Value.str _ _]) _ _ _); k_dflt (refine list_strN rfl (by k_asm) (by k_asm) ?_ (by rw [sizeLine_eq]; omega)); intro D9 ys9 c9 h9 tk9 F9 N9 l9 m9 hS9; (try k_lt l9); (try k_sweep)) | (k_here; (with_reducible show wpAny _ _ (compareOp CmpOp.NotEq (Value.ref _) (Value.ref _)) _ _ _); k_dflt (first | refine strs_ne_nil (by is_list) (by is_list) (by ke_room) ?_ | refine strs_ne_cons (by is_list) (by is_list) (by k_asm) (by ke_room) ?_ | refine strs_ne (by is_list) (by is_list) (by first | k_asm | exact StrsAre.nil) (by first | exact StrsAre.nil | k_asm) (by ke_room) ?_)) | (k_here; (with_reducible show wpAny _ _ (compareOp CmpOp.Eq (Value.ref _) (Value.ref _)) _ _ _); k_dflt (refine strs_eq (by is_list) (by is_list) (by first | k_asm | exact StrsAre.nil) (by first | exact StrsAre.nil | k_asm) (by ke_room) ?_)) | (k_here; (with_reducible show wpAny _ _ (call (Value.builtin _) [Value.ref _, Value.int 0 _]) _ _ _); k_dflt (refine pop_first (by k_asm) (by k_asm) (by k_upd) (by (rw [sizeLine_eq]; (try have hL9 := PyProof.Rows.StrsAre.length (by assumption)); (try simp only [List.length_cons] at *); omega)) ?_; k_whole); intro h9 F9 N9; (try k_sweep)) | (k_here; (with_reducible show wpAny _ _ (call (Value.builtin "len") [Value.str _ _]) _ _ _); refine len_str (by omega) ?_) | (k_here; (with_reducible show wpAny _ _ (call (Value.builtin "len") [Value.ref _]) _ _ _); k_dflt (refine len_strsA (by is_list) (by assumption) (by ((try simp only [List.length_map]); omega)) ?_; k_whole); (try simp only [List.length_map])) | walk1 | (dsimp only; walk1) | (dsimp only; k_unfold; (try dsimp only)) | fail "no step"))
  refine hold_out ?_
  with_reducible rename IsRange _ _ _ _ _ _ _ _ => hR
  rename L' < _ => lL
  obtain ⟨D, hDe⟩ := name_lt lL
  subst hDe
  refine' kpd_invN (m₀ := stFr D word tw none none) (news := [(D, PySem.W.listOf #[] 0)]) (n := word.length + 1) (fun i => stJ D word tw (outerL word i)) rfl hR ?hsmall ?hn ?F (by assumption) ?hj ?turn ?done
  case hsmall => exact range_smallD (by omega)
  case hn => exact range_sizeD
  case F => ((refine fr_to (by assumption) (fun y => ?_); by_cases h1 : y = Str.ofString "size"; (subst h1; rfl); by_cases h2 : y = Str.ofString "start"; (subst h2; rfl); by_cases h3 : y = Str.ofString "due"; (subst h3; rfl); by_cases h4 : y = Str.ofString "word"; (subst h4; rfl); (simp only [if_neg h1, if_neg h2, if_neg h3, if_neg h4]); (try (show List.lookup y [(Str.ofString "word", _)] = none; rw [List.lookup_cons, beq_eq_false_iff_ne.mpr h4]; rfl))))
  case hj => exact stJ_mk (ys := []) StrsAre.nil
  case turn =>
    intro i tsz m₁ nx h tk own hi hoff hJ
    revert m₁ nx
    refine stJ_all ?_
    intro ys c msz mst hS F1 N1
    replace N1 : News g L' h ((D, PySem.W.listOf ys.toArray c) :: own) := N1
    have ez : ((ofL word).length : Int) + (i : Int) * (-1) = ((word.length - i : Nat) : Int) := by omega
    rw [ez] at F1
    replace F1 : Fr g L' h (stFr D word tw (some (.int ((word.length - i : Nat) : Int) tsz)) mst) := fr_if F1 (fun y hy => by simp only [stFr, if_neg hy]) (by simp only [stFr, if_pos])
    (repeat' (first |  (k_unfold; (try dsimp only)) | (k_here; (with_reducible show wpAny _ _ (newList _) _ _ _); k_dflt (refine newList_L (by k_asm) (by k_asm) ?_; k_whole); intro l' h' lL F' N' l1; (try k_lt l1); (try k_sweep)) | (k_here; (with_reducible show wpAny _ _ (eval (Expr.Name _ _) (compEnv _ _ _)) _ _ _); k_dflt (first | (refine name_locS rfl rfl rfl (by decide) (by with_reducible assumption) (by assumption) ?_; k_whole) | (refine nameG_BS rfl rfl rfl rfl (by decide) (by k_asm) (by k_asm) (by k_asm) (by k_is) (by boot_fast) (by decide) ?_; k_whole))) | (k_here; (with_reducible show wpAny _ _ (call (Value.type _) [Value.str _ _]) _ _ _); k_dflt (refine list_strN rfl (by k_asm) (by k_asm) ?_ (by rw [sizeLine_eq]; omega)); intro D9 ys9 c9 h9 tk9 F9 N9 l9 m9 hS9; (try k_lt l9); (try k_sweep)) | (k_here; (with_reducible show wpAny _ _ (compareOp CmpOp.NotEq (Value.ref _) (Value.ref _)) _ _ _); k_dflt (first | refine strs_ne_nil (by is_list) (by is_list) (by ke_room) ?_ | refine strs_ne_cons (by is_list) (by is_list) (by k_asm) (by ke_room) ?_ | refine strs_ne (by is_list) (by is_list) (by first | k_asm | exact StrsAre.nil) (by first | exact StrsAre.nil | k_asm) (by ke_room) ?_)) | (k_here; (with_reducible show wpAny _ _ (compareOp CmpOp.Eq (Value.ref _) (Value.ref _)) _ _ _); k_dflt (refine strs_eq (by is_list) (by is_list) (by first | k_asm | exact StrsAre.nil) (by first | exact StrsAre.nil | k_asm) (by ke_room) ?_)) | (k_here; (with_reducible show wpAny _ _ (call (Value.builtin _) [Value.ref _, Value.int 0 _]) _ _ _); k_dflt (refine pop_first (by k_asm) (by k_asm) (by k_upd) (by (rw [sizeLine_eq]; (try have hL9 := PyProof.Rows.StrsAre.length (by assumption)); (try simp only [List.length_cons] at *); omega)) ?_; k_whole); intro h9 F9 N9; (try k_sweep)) | (k_here; (with_reducible show wpAny _ _ (call (Value.builtin "len") [Value.str _ _]) _ _ _); refine len_str (by omega) ?_) | (k_here; (with_reducible show wpAny _ _ (call (Value.builtin "len") [Value.ref _]) _ _ _); k_dflt (refine len_strsA (by is_list) (by assumption) (by ((try simp only [List.length_map]); omega)) ?_; k_whole); (try simp only [List.length_map])) | walk1 | (dsimp only; walk1) | (dsimp only; k_unfold; (try dsimp only)) | fail "no step"))
    refine hold_out ?_
    with_reducible rename IsRange _ _ _ _ _ _ _ _ => hR2
    have ez2 : ((ofL word).length : Int) - ((word.length - i : Nat) : Int) + 1 = ((i + 1 : Nat) : Int) := by omega
    rw [ez2] at hR2
    refine' kpr_invN (m₀ := stFr D word tw (some (.int ((word.length - i : Nat) : Int) tsz)) mst) (news := (D, PySem.W.listOf ys.toArray c) :: own) (n := i + 1) (fun j => stK own D word tw ((word.length - i : Nat) : Int) tsz (innerL word (word.length - i) (outerL word i) j)) rfl hR2 ?hsmall2 ?hn2 (by assumption) (by assumption) ?hj2 ?turn2 ?done2
    case hsmall2 => exact range_small (a := 0) (by omega) (by omega)
    case hn2 => exact range_size (a := 0)
    case hj2 => exact stK_mk hS
    case turn2 =>
      intro j kk tj m₁ nx h3 tk3 own3 hkj hoff3 hJ
      revert m₁ nx
      refine stK_all ?_
      intro ys3 c3 mst3 hS3 F3 N3
      obtain ⟨hj, rfl⟩ := ks_at (a := 0) hkj
      rw [Nat.zero_add] at F3
      replace F3 : Fr g L' h3 (stFr D word tw (some (.int ((word.length - i : Nat) : Int) tsz)) (some (.int (j : Int) tj))) := fr_if F3 (fun y hy => by simp only [stFr, if_neg hy]) (by simp only [stFr]; rfl)
      replace N3 : News g L' h3 ((D, PySem.W.listOf ys3.toArray c3) :: (own ++ own3)) := N3
      (repeat' (first |  (k_unfold; (try dsimp only)) | (k_here; (with_reducible show wpAny _ _ (newList _) _ _ _); k_dflt (refine newList_L (by k_asm) (by k_asm) ?_; k_whole); intro l' h' lL F' N' l1; (try k_lt l1); (try k_sweep)) | (k_here; (with_reducible show wpAny _ _ (eval (Expr.Name _ _) (compEnv _ _ _)) _ _ _); k_dflt (first | (refine name_locS rfl rfl rfl (by decide) (by with_reducible assumption) (by assumption) ?_; k_whole) | (refine nameG_BS rfl rfl rfl rfl (by decide) (by k_asm) (by k_asm) (by k_asm) (by k_is) (by boot_fast) (by decide) ?_; k_whole))) | (k_here; (with_reducible show wpAny _ _ (call (Value.type _) [Value.str _ _]) _ _ _); k_dflt (refine list_strN rfl (by k_asm) (by k_asm) ?_ (by rw [sizeLine_eq]; omega)); intro D9 ys9 c9 h9 tk9 F9 N9 l9 m9 hS9; (try k_lt l9); (try k_sweep)) | (k_here; (with_reducible show wpAny _ _ (compareOp CmpOp.NotEq (Value.ref _) (Value.ref _)) _ _ _); k_dflt (first | refine strs_ne_nil (by is_list) (by is_list) (by ke_room) ?_ | refine strs_ne_cons (by is_list) (by is_list) (by k_asm) (by ke_room) ?_ | refine strs_ne (by is_list) (by is_list) (by first | k_asm | exact StrsAre.nil) (by first | exact StrsAre.nil | k_asm) (by ke_room) ?_)) | (k_here; (with_reducible show wpAny _ _ (compareOp CmpOp.Eq (Value.ref _) (Value.ref _)) _ _ _); k_dflt (refine strs_eq (by is_list) (by is_list) (by first | k_asm | exact StrsAre.nil) (by first | exact StrsAre.nil | k_asm) (by ke_room) ?_)) | (k_here; (with_reducible show wpAny _ _ (call (Value.builtin _) [Value.ref _, Value.int 0 _]) _ _ _); k_dflt (refine pop_first (by k_asm) (by k_asm) (by k_upd) (by (rw [sizeLine_eq]; (try have hL9 := PyProof.Rows.StrsAre.length (by assumption)); (try simp only [List.length_cons] at *); omega)) ?_; k_whole); intro h9 F9 N9; (try k_sweep)) | (k_here; (with_reducible show wpAny _ _ (call (Value.builtin "len") [Value.str _ _]) _ _ _); refine len_str (by omega) ?_) | (k_here; (with_reducible show wpAny _ _ (call (Value.builtin "len") [Value.ref _]) _ _ _); k_dflt (refine len_strsA (by is_list) (by assumption) (by ((try simp only [List.length_map]); omega)) ?_; k_whole); (try simp only [List.length_map])) | walk1 | (dsimp only; walk1) | (dsimp only; k_unfold; (try dsimp only)) | fail "no step"))
      refine hold_out ?_
      have es : Txt.slice (ofL word) (some (j : Int)) (some ((j : Int) + ((word.length - i : Nat) : Int))) = ofL ((word.drop j).take (word.length - i)) := by
        have := slice_mid word j (j + (word.length - i)) (by omega) (by omega)
        rw [Nat.add_sub_cancel_left] at this
        rw [← this]; congr 2
      rw [es]
      refine notin_list_strs (by is_list) hS3 ?_
      rw [any_ofL]
      cases hc : (innerL word (word.length - i) (outerL word i) j).contains ((word.drop j).take (word.length - i)) with
      | true =>
        (repeat' (first |  (k_unfold; (try dsimp only)) | (k_here; (with_reducible show wpAny _ _ (newList _) _ _ _); k_dflt (refine newList_L (by k_asm) (by k_asm) ?_; k_whole); intro l' h' lL F' N' l1; (try k_lt l1); (try k_sweep)) | (k_here; (with_reducible show wpAny _ _ (eval (Expr.Name _ _) (compEnv _ _ _)) _ _ _); k_dflt (first | (refine name_locS rfl rfl rfl (by decide) (by with_reducible assumption) (by assumption) ?_; k_whole) | (refine nameG_BS rfl rfl rfl rfl (by decide) (by k_asm) (by k_asm) (by k_asm) (by k_is) (by boot_fast) (by decide) ?_; k_whole))) | (k_here; (with_reducible show wpAny _ _ (call (Value.type _) [Value.str _ _]) _ _ _); k_dflt (refine list_strN rfl (by k_asm) (by k_asm) ?_ (by rw [sizeLine_eq]; omega)); intro D9 ys9 c9 h9 tk9 F9 N9 l9 m9 hS9; (try k_lt l9); (try k_sweep)) | (k_here; (with_reducible show wpAny _ _ (compareOp CmpOp.NotEq (Value.ref _) (Value.ref _)) _ _ _); k_dflt (first | refine strs_ne_nil (by is_list) (by is_list) (by ke_room) ?_ | refine strs_ne_cons (by is_list) (by is_list) (by k_asm) (by ke_room) ?_ | refine strs_ne (by is_list) (by is_list) (by first | k_asm | exact StrsAre.nil) (by first | exact StrsAre.nil | k_asm) (by ke_room) ?_)) | (k_here; (with_reducible show wpAny _ _ (compareOp CmpOp.Eq (Value.ref _) (Value.ref _)) _ _ _); k_dflt (refine strs_eq (by is_list) (by is_list) (by first | k_asm | exact StrsAre.nil) (by first | exact StrsAre.nil | k_asm) (by ke_room) ?_)) | (k_here; (with_reducible show wpAny _ _ (call (Value.builtin _) [Value.ref _, Value.int 0 _]) _ _ _); k_dflt (refine pop_first (by k_asm) (by k_asm) (by k_upd) (by (rw [sizeLine_eq]; (try have hL9 := PyProof.Rows.StrsAre.length (by assumption)); (try simp only [List.length_cons] at *); omega)) ?_; k_whole); intro h9 F9 N9; (try k_sweep)) | (k_here; (with_reducible show wpAny _ _ (call (Value.builtin "len") [Value.str _ _]) _ _ _); refine len_str (by omega) ?_) | (k_here; (with_reducible show wpAny _ _ (call (Value.builtin "len") [Value.ref _]) _ _ _); k_dflt (refine len_strsA (by is_list) (by assumption) (by ((try simp only [List.length_map]); omega)) ?_; k_whole); (try simp only [List.length_map])) | walk1 | (dsimp only; walk1) | (dsimp only; k_unfold; (try dsimp only)) | fail "no step"))
        exact ⟨_, _, _, _, (D, PySem.W.listOf ys3.toArray c3) :: own, rfl, by assumption, by assumption, mem_left, mem_right, rfl, stK_mk (by unfold innerL addNew; rw [if_pos hc]; exact hS3)⟩
      | false =>
        (repeat' (first |  (k_unfold; (try dsimp only)) | (k_here; (with_reducible show wpAny _ _ (newList _) _ _ _); k_dflt (refine newList_L (by k_asm) (by k_asm) ?_; k_whole); intro l' h' lL F' N' l1; (try k_lt l1); (try k_sweep)) | (k_here; (with_reducible show wpAny _ _ (eval (Expr.Name _ _) (compEnv _ _ _)) _ _ _); k_dflt (first | (refine name_locS rfl rfl rfl (by decide) (by with_reducible assumption) (by assumption) ?_; k_whole) | (refine nameG_BS rfl rfl rfl rfl (by decide) (by k_asm) (by k_asm) (by k_asm) (by k_is) (by boot_fast) (by decide) ?_; k_whole))) | (k_here; (with_reducible show wpAny _ _ (call (Value.type _) [Value.str _ _]) _ _ _); k_dflt (refine list_strN rfl (by k_asm) (by k_asm) ?_ (by rw [sizeLine_eq]; omega)); intro D9 ys9 c9 h9 tk9 F9 N9 l9 m9 hS9; (try k_lt l9); (try k_sweep)) | (k_here; (with_reducible show wpAny _ _ (compareOp CmpOp.NotEq (Value.ref _) (Value.ref _)) _ _ _); k_dflt (first | refine strs_ne_nil (by is_list) (by is_list) (by ke_room) ?_ | refine strs_ne_cons (by is_list) (by is_list) (by k_asm) (by ke_room) ?_ | refine strs_ne (by is_list) (by is_list) (by first | k_asm | exact StrsAre.nil) (by first | exact StrsAre.nil | k_asm) (by ke_room) ?_)) | (k_here; (with_reducible show wpAny _ _ (compareOp CmpOp.Eq (Value.ref _) (Value.ref _)) _ _ _); k_dflt (refine strs_eq (by is_list) (by is_list) (by first | k_asm | exact StrsAre.nil) (by first | exact StrsAre.nil | k_asm) (by ke_room) ?_)) | (k_here; (with_reducible show wpAny _ _ (call (Value.builtin _) [Value.ref _, Value.int 0 _]) _ _ _); k_dflt (refine pop_first (by k_asm) (by k_asm) (by k_upd) (by (rw [sizeLine_eq]; (try have hL9 := PyProof.Rows.StrsAre.length (by assumption)); (try simp only [List.length_cons] at *); omega)) ?_; k_whole); intro h9 F9 N9; (try k_sweep)) | (k_here; (with_reducible show wpAny _ _ (call (Value.builtin "len") [Value.str _ _]) _ _ _); refine len_str (by omega) ?_) | (k_here; (with_reducible show wpAny _ _ (call (Value.builtin "len") [Value.ref _]) _ _ _); k_dflt (refine len_strsA (by is_list) (by assumption) (by ((try simp only [List.length_map]); omega)) ?_; k_whole); (try simp only [List.length_map])) | walk1 | (dsimp only; walk1) | (dsimp only; k_unfold; (try dsimp only)) | fail "no step"))
        refine hold_out ?_
        rw [es]
        have hl3 := hS3.length
        rw [List.length_map] at hl3
        have hb1 := innerL_len word (word.length - i) (outerL word i) j
        have hb2 := outerL_len word i (by omega)
        refine append_K (its := ys3.toArray) (n := c3) (by assumption) (by assumption) (.head (off_own hoff hoff3)) ?_ (by rw [List.size_toArray, sizeLine_eq]; omega)
        intro h4 F4 N4
        (repeat' (first |  (k_unfold; (try dsimp only)) | (k_here; (with_reducible show wpAny _ _ (newList _) _ _ _); k_dflt (refine newList_L (by k_asm) (by k_asm) ?_; k_whole); intro l' h' lL F' N' l1; (try k_lt l1); (try k_sweep)) | (k_here; (with_reducible show wpAny _ _ (eval (Expr.Name _ _) (compEnv _ _ _)) _ _ _); k_dflt (first | (refine name_locS rfl rfl rfl (by decide) (by with_reducible assumption) (by assumption) ?_; k_whole) | (refine nameG_BS rfl rfl rfl rfl (by decide) (by k_asm) (by k_asm) (by k_asm) (by k_is) (by boot_fast) (by decide) ?_; k_whole))) | (k_here; (with_reducible show wpAny _ _ (call (Value.type _) [Value.str _ _]) _ _ _); k_dflt (refine list_strN rfl (by k_asm) (by k_asm) ?_ (by rw [sizeLine_eq]; omega)); intro D9 ys9 c9 h9 tk9 F9 N9 l9 m9 hS9; (try k_lt l9); (try k_sweep)) | (k_here; (with_reducible show wpAny _ _ (compareOp CmpOp.NotEq (Value.ref _) (Value.ref _)) _ _ _); k_dflt (first | refine strs_ne_nil (by is_list) (by is_list) (by ke_room) ?_ | refine strs_ne_cons (by is_list) (by is_list) (by k_asm) (by ke_room) ?_ | refine strs_ne (by is_list) (by is_list) (by first | k_asm | exact StrsAre.nil) (by first | exact StrsAre.nil | k_asm) (by ke_room) ?_)) | (k_here; (with_reducible show wpAny _ _ (compareOp CmpOp.Eq (Value.ref _) (Value.ref _)) _ _ _); k_dflt (refine strs_eq (by is_list) (by is_list) (by first | k_asm | exact StrsAre.nil) (by first | exact StrsAre.nil | k_asm) (by ke_room) ?_)) | (k_here; (with_reducible show wpAny _ _ (call (Value.builtin _) [Value.ref _, Value.int 0 _]) _ _ _); k_dflt (refine pop_first (by k_asm) (by k_asm) (by k_upd) (by (rw [sizeLine_eq]; (try have hL9 := PyProof.Rows.StrsAre.length (by assumption)); (try simp only [List.length_cons] at *); omega)) ?_; k_whole); intro h9 F9 N9; (try k_sweep)) | (k_here; (with_reducible show wpAny _ _ (call (Value.builtin "len") [Value.str _ _]) _ _ _); refine len_str (by omega) ?_) | (k_here; (with_reducible show wpAny _ _ (call (Value.builtin "len") [Value.ref _]) _ _ _); k_dflt (refine len_strsA (by is_list) (by assumption) (by ((try simp only [List.length_map]); omega)) ?_; k_whole); (try simp only [List.length_map])) | walk1 | (dsimp only; walk1) | (dsimp only; k_unfold; (try dsimp only)) | fail "no step"))
        refine ⟨_, _, _, _, (D, PySem.W.listOf (ys3 ++ [_]).toArray (c3 + 1)) :: own, rfl, F4, by rw [← List.push_toArray]; exact N4, mem_left, mem_right, rfl, stK_mk ?_⟩
        unfold innerL addNew
        rw [if_neg (by rw [hc]; decide), List.map_append]
        exact hS3.append' (StrsAre.cons _ _ StrsAre.nil)
    case done2 =>
      intro m₁ nx h3 tk3 hJ
      revert m₁ nx
      refine stK_all ?_
      intro ys3 c3 mst3 hS3 F3 N3
      rw [rangeKs_length] at hS3
      (repeat' (first |  (k_unfold; (try dsimp only)) | (k_here; (with_reducible show wpAny _ _ (newList _) _ _ _); k_dflt (refine newList_L (by k_asm) (by k_asm) ?_; k_whole); intro l' h' lL F' N' l1; (try k_lt l1); (try k_sweep)) | (k_here; (with_reducible show wpAny _ _ (eval (Expr.Name _ _) (compEnv _ _ _)) _ _ _); k_dflt (first | (refine name_locS rfl rfl rfl (by decide) (by with_reducible assumption) (by assumption) ?_; k_whole) | (refine nameG_BS rfl rfl rfl rfl (by decide) (by k_asm) (by k_asm) (by k_asm) (by k_is) (by boot_fast) (by decide) ?_; k_whole))) | (k_here; (with_reducible show wpAny _ _ (call (Value.type _) [Value.str _ _]) _ _ _); k_dflt (refine list_strN rfl (by k_asm) (by k_asm) ?_ (by rw [sizeLine_eq]; omega)); intro D9 ys9 c9 h9 tk9 F9 N9 l9 m9 hS9; (try k_lt l9); (try k_sweep)) | (k_here; (with_reducible show wpAny _ _ (compareOp CmpOp.NotEq (Value.ref _) (Value.ref _)) _ _ _); k_dflt (first | refine strs_ne_nil (by is_list) (by is_list) (by ke_room) ?_ | refine strs_ne_cons (by is_list) (by is_list) (by k_asm) (by ke_room) ?_ | refine strs_ne (by is_list) (by is_list) (by first | k_asm | exact StrsAre.nil) (by first | exact StrsAre.nil | k_asm) (by ke_room) ?_)) | (k_here; (with_reducible show wpAny _ _ (compareOp CmpOp.Eq (Value.ref _) (Value.ref _)) _ _ _); k_dflt (refine strs_eq (by is_list) (by is_list) (by first | k_asm | exact StrsAre.nil) (by first | exact StrsAre.nil | k_asm) (by ke_room) ?_)) | (k_here; (with_reducible show wpAny _ _ (call (Value.builtin _) [Value.ref _, Value.int 0 _]) _ _ _); k_dflt (refine pop_first (by k_asm) (by k_asm) (by k_upd) (by (rw [sizeLine_eq]; (try have hL9 := PyProof.Rows.StrsAre.length (by assumption)); (try simp only [List.length_cons] at *); omega)) ?_; k_whole); intro h9 F9 N9; (try k_sweep)) | (k_here; (with_reducible show wpAny _ _ (call (Value.builtin "len") [Value.str _ _]) _ _ _); refine len_str (by omega) ?_) | (k_here; (with_reducible show wpAny _ _ (call (Value.builtin "len") [Value.ref _]) _ _ _); k_dflt (refine len_strsA (by is_list) (by assumption) (by ((try simp only [List.length_map]); omega)) ?_; k_whole); (try simp only [List.length_map])) | walk1 | (dsimp only; walk1) | (dsimp only; k_unfold; (try dsimp only)) | fail "no step"))
      exact ⟨_, _, _, _, [(D, PySem.W.listOf ys3.toArray c3)], rfl, F3, N3, fun p hp => List.mem_append.mpr (.inl hp), fun p hp => .tail _ hp, rfl, stJ_mk hS3⟩
  case done =>
    intro m₁ nx h tk hJ
    revert m₁ nx
    refine stJ_all ?_
    intro ys c msz mst hS F1 N1
    (repeat' (first |  (k_unfold; (try dsimp only)) | (k_here; (with_reducible show wpAny _ _ (newList _) _ _ _); k_dflt (refine newList_L (by k_asm) (by k_asm) ?_; k_whole); intro l' h' lL F' N' l1; (try k_lt l1); (try k_sweep)) | (k_here; (with_reducible show wpAny _ _ (eval (Expr.Name _ _) (compEnv _ _ _)) _ _ _); k_dflt (first | (refine name_locS rfl rfl rfl (by decide) (by with_reducible assumption) (by assumption) ?_; k_whole) | (refine nameG_BS rfl rfl rfl rfl (by decide) (by k_asm) (by k_asm) (by k_asm) (by k_is) (by boot_fast) (by decide) ?_; k_whole))) | (k_here; (with_reducible show wpAny _ _ (call (Value.type _) [Value.str _ _]) _ _ _); k_dflt (refine list_strN rfl (by k_asm) (by k_asm) ?_ (by rw [sizeLine_eq]; omega)); intro D9 ys9 c9 h9 tk9 F9 N9 l9 m9 hS9; (try k_lt l9); (try k_sweep)) | (k_here; (with_reducible show wpAny _ _ (compareOp CmpOp.NotEq (Value.ref _) (Value.ref _)) _ _ _); k_dflt (first | refine strs_ne_nil (by is_list) (by is_list) (by ke_room) ?_ | refine strs_ne_cons (by is_list) (by is_list) (by k_asm) (by ke_room) ?_ | refine strs_ne (by is_list) (by is_list) (by first | k_asm | exact StrsAre.nil) (by first | exact StrsAre.nil | k_asm) (by ke_room) ?_)) | (k_here; (with_reducible show wpAny _ _ (compareOp CmpOp.Eq (Value.ref _) (Value.ref _)) _ _ _); k_dflt (refine strs_eq (by is_list) (by is_list) (by first | k_asm | exact StrsAre.nil) (by first | exact StrsAre.nil | k_asm) (by ke_room) ?_)) | (k_here; (with_reducible show wpAny _ _ (call (Value.builtin _) [Value.ref _, Value.int 0 _]) _ _ _); k_dflt (refine pop_first (by k_asm) (by k_asm) (by k_upd) (by (rw [sizeLine_eq]; (try have hL9 := PyProof.Rows.StrsAre.length (by assumption)); (try simp only [List.length_cons] at *); omega)) ?_; k_whole); intro h9 F9 N9; (try k_sweep)) | (k_here; (with_reducible show wpAny _ _ (call (Value.builtin "len") [Value.str _ _]) _ _ _); refine len_str (by omega) ?_) | (k_here; (with_reducible show wpAny _ _ (call (Value.builtin "len") [Value.ref _]) _ _ _); k_dflt (refine len_strsA (by is_list) (by assumption) (by ((try simp only [List.length_map]); omega)) ?_; k_whole); (try simp only [List.length_map])) | walk1 | (dsimp only; walk1) | (dsimp only; k_unfold; (try dsimp only)) | fail "no step"))
    exact Back.mk' ⟨D, ys, c, rfl, rfl, hS⟩ F1 N1 (by (repeat (first | exact List.forall_mem_nil _ | refine List.forall_mem_cons.mpr ⟨by k_mem, ?_⟩))) (by (repeat (first | exact List.forall_mem_nil _ | refine List.forall_mem_cons.mpr ⟨by first | (left; simp only [List.map_cons, List.mem_cons, true_or, or_true]; done) | (right; refine ltN ?_; (try dsimp only); omega), ?_⟩)))

end
section
section
variable {prog : Program} {w : World} {A : Around} {E : Value → Shared → Prop} {s : Shared} {h₀ : Heap} {L : Addr} {m : Str → Option Value} {env : Env}
theorem compEnd_mono {s₁ s₂ : Shared} {I C D : Addr} {oI oC oD : Obj} {S : List (Addr × Obj) → Prop} {r r' : Value → List (Addr × Obj) → Prop} {y : Value} (h : LCg.CompEnd h₀ L m s₁ I oI C oC D oD S r y s₂) (hr : ∀ y nw, r y nw → r' y nw) : LCg.CompEnd h₀ L m s₁ I oI C oC D oD S r' y s₂ := by
  obtain ⟨h', tk, news', e, F, N, off, hS, hr'⟩ := h
  exact ⟨h', tk, news', e, F, N, off, hS, hr _ _ hr'⟩
theorem rest_inv {elt : Expr} {x : Str} {scope : Scope} {cl : List (Str × Addr)} {S : List (Addr × Obj) → Prop} {P : Nat → Value → Prop} {Fin : List Value → List (Addr × Obj) → Prop} (n : Nat) (Inv : Nat → List Value → List (Addr × Obj) → Prop)
    (turn : ∀ i ys news v I oI C oC D m₂ h tk (E' : Value → Shared → Prop), i < n → Inv i ys news → P i v → LCg.NsObj oC m₂ → m₂ x = some v → Fr h₀ L h m → News h₀ L h ((I, oI) :: (C, oC) :: (D, LCg.lst ys) :: news) → LCg.Off3 I C D news → ((@Ne Nat I C) ∧ (@Ne Nat I D) ∧ (@Ne Nat C D)) →
      wpAny (model prog w) A (eval elt (compEnvC scope cl C env)) (LCg.CompEnd h₀ L m { s with heap := h, toks := tk } I oI C oC D (LCg.lst ys) S (fun y news' => Inv (i + 1) (ys ++ [y]) news')) E' { s with heap := h, toks := tk })
    (fin : ∀ ys news, Inv n ys news → Fin ys news) : ∀ k i ys news, i + k = n → Inv i ys news → LCg.CompRest prog w A h₀ L m env elt x scope cl s S P Fin k i ys news
  | 0, i, ys, news, e, hI => by
    rw [Nat.add_zero] at e; subst e; exact fin ys news hI
  | k + 1, i, ys, news, e, hI => LCg.CompRest.succ fun v I oI C oC D m₂ h tk E' hP hC hx F N off ne =>
      wpAny_mono (turn i ys news v I oI C oC D m₂ h tk E' (by omega) hI hP hC hx F N off ne) (fun y s' h' => compEnd_mono h' fun y nw hn => rest_inv n Inv turn fin k (i + 1) _ nw (by omega) hn) fun _ _ e => e
end
section
variable {prog : Program} {w : World} {A : Around} {E : Value → Shared → Prop} {s : Shared} {h₀ : Heap} {L : Addr} {m : Str → Option Value} {env : Env}
theorem comp_U {elt iter : Expr} {x : Str} {px : Pos} {scope : Scope} {cl : List (Str × Addr)} {pos : Pos} {Q : Value → Shared → Prop} (F₀ : Fr h₀ L s.heap m)
    (hclos : closureFor scope env = pure cl) (hcell : ∀ y ∈ scope.names, y.2 ≠ .cell) (hkind : scope.kind = .function)
    (hnames : ∀ y ∈ scope.names, y.2 = .local → scope.names.lookup y.1 = some .local) (hx : scope.names.lookup x = some .local)
    (h : wpAny (model prog w) A (eval iter env) (fun xv s₁ => Hold (LCg.CompSrc prog w A h₀ L m env elt x scope cl (fun s₂ => LCg.FinE h₀ L m s₂ Q) xv s₁)) E s)
    (hs : ∀ x, foldedSetIterable iter env x = pure x := by intro _; rfl) :
    wpAny (model prog w) A (eval (.ListComp elt [⟨.Name x px, iter, [], 0⟩] scope pos) env) Q E s := LCg.ListComp_U F₀ hclos hcell hkind hnames hx h hs
end
theorem name_list {h : Heap} {a : Addr} {its : Array Value} (_ : h.IsList a its) : ∃ D, D = a := ⟨a, rfl⟩
theorem name_shared {s : Shared} {a : Addr} {o : Obj} (_ : s.heap.get? a = some o) : ∃ D, D = s := ⟨s, rfl⟩
theorem fmod_bd (a n : Int) (h : 0 < n) : 0 ≤ a.fmod n ∧ a.fmod n < n := by
  rw [Int.fmod_eq_emod_of_nonneg _ (Int.le_of_lt h)]
  exact ⟨Int.emod_nonneg _ (by omega), Int.emod_lt_of_pos _ h⟩
abbrev wdFr (S : Addr) (total la : Int) (t1 t2 : Tok) : Str → Option Value := fun y => if y = Str.ofString "first" then some (Value.int la t1) else if y = Str.ofString "total" then some (Value.int total t2) else if y = Str.ofString "script" then some (Value.ref S) else none
/-- the letter that an int picks -/
def letOf (a b c : Int) (x : Int) : Nat := (66 + [a, b, c].getD (x.fmod 3).toNat 0).toNat
theorem let_bd {a b c : Int} (ha : 0 ≤ a ∧ a < 15) (hb : 0 ≤ b ∧ b < 15) (hc : 0 ≤ c ∧ c < 15) (x : Int) : 0 ≤ 66 + [a, b, c].getD (x.fmod 3).toNat 0 ∧ 66 ≤ 66 + [a, b, c].getD (x.fmod 3).toNat 0 ∧ 66 + [a, b, c].getD (x.fmod 3).toNat 0 < 81 := by
  have h := fmod_bd x 3 (by decide)
  have : (x.fmod 3).toNat = 0 ∨ (x.fmod 3).toNat = 1 ∨ (x.fmod 3).toNat = 2 := by omega
  rcases this with e | e | e <;> rw [e] <;> simp only [List.getD_cons_zero, List.getD_cons_succ] <;> omega
theorem ints_get {vs : List Value} {ns : List Int} (h : IntsAre vs ns) {i : Nat} {v : Value} (e : vs.toArray[i]? = some v) : ∃ n t, ns[i]? = some n ∧ v = .int n t := by
  induction h generalizing i with
  | nil => simp at e
  | cons n t _ ih =>
    cases i with
    | zero => simp at e; exact ⟨n, t, rfl, e.symm⟩
    | succ i => simp only [List.getElem?_toArray, List.getElem?_cons_succ] at e ⊢; exact ih (by simpa using e)
theorem name_head {g h : Heap} {L a : Addr} {o : Obj} {r : List (Addr × Obj)} (_ : News g L h ((a, o) :: r)) : ∃ D, D = a := ⟨a, rfl⟩
theorem take_snoc {α β : Type} {f : α → β} {xs : List α} {i : Nat} {n : α} (h : xs[i]? = some n) : (xs.take (i + 1)).map f = (xs.take i).map f ++ [f n] := by
  rw [List.take_add_one, h, Option.toList_some, List.map_append]; rfl
theorem join_ones {α : Type} (f : α → Nat) (xs : List α) : Txt.join (Str.ofString "") (xs.map fun x => ofL [f x]) = ofL (xs.map f) := by
  rw [join_empty]
  congr 2
  induction xs with
  | nil => rfl
  | cons c r ih => simp only [List.map_cons, List.flatMap_cons, List.cons_append, List.nil_append, ih]
theorem name_text {g h : Heap} {L : Addr} {x1 x2 : Option Value} {text : Str} {tx : Tok} {m : Str → Option Value} (_ : Fr g L h (fun y => if y = Str.ofString "pushed" then x1 else if y = Str.ofString "lexer" then x2 else if y = Str.ofString "text" then some (.str text tx) else m y)) : ∃ t, t = tx := ⟨_, rfl⟩

end
section
theorem ofL_app (a b : List Nat) : ofL a ++ ofL b = ofL (a ++ b) := by
  show Str.mk (a.toArray ++ b.toArray) = _
  rw [List.append_toArray]
theorem let_facts : ∀ c : Fin 81, 66 ≤ c.val → notWs (ofL [c.val]) = true ∧ (ofL [c.val] == QT) = false ∧ (ofL [c.val] == BS) = false ∧ nlOf (ofL [c.val]) = 0 := by decide +kernel
theorem bs_facts : notWs BS = true ∧ (BS == QT) = false ∧ (BS == BS) = true ∧ nlOf BS = 0 := by decide +kernel
theorem qt_facts : notWs QT = true ∧ (QT == QT) = true ∧ nlOf QT = 0 := by decide +kernel
theorem let_fact {c : Nat} (h : 66 ≤ c ∧ c < 81) : notWs (ofL [c]) = true ∧ (ofL [c] == QT) = false ∧ (ofL [c] == BS) = false ∧ nlOf (ofL [c]) = 0 := let_facts ⟨c, h.2⟩ h.1
/-- a letter, with a backslash ahead of it or bare -/
def encOne (p : Nat × Bool) : List Str := if p.2 = true then [BS, ofL [p.1]] else [ofL [p.1]]
def encAll (l : List (Nat × Bool)) : List Str := l.flatMap encOne
theorem run3_enc : ∀ (l : List (Nat × Bool)) (tok : List Nat) (n : Int) (r : List Str), (∀ p ∈ l, 66 ≤ p.1 ∧ p.1 < 81) → r ≠ [] → run3 (ofL tok) n (encAll l ++ r) = run3 (ofL (tok ++ l.map (·.1))) n r
  | [], tok, n, r, _, _ => by simp [encAll]
  | (c, b) :: l, tok, n, r, h, hr => by
    obtain ⟨h1, h2, h3, h4⟩ := let_fact (h (c, b) (List.Mem.head _))
    obtain ⟨b1, b2, b3, b4⟩ := bs_facts
    have ih := run3_enc l (tok ++ [c]) n r (fun p hp => h p (List.Mem.tail _ hp)) hr
    have hne : encAll l ++ r ≠ [] := by simp [hr]
    rw [List.append_assoc] at ih
    obtain ⟨e, r', he⟩ := List.exists_cons_of_ne_nil hne
    cases b with
    | true =>
      show run3 (ofL tok) n (BS :: ofL [c] :: (encAll l ++ r)) = _
      rw [run3, if_neg (by rw [b1]; decide), if_pos b3, b4, h4, Int.add_zero, Int.add_zero, ofL_app]
      exact ih
    | false =>
      show run3 (ofL tok) n (ofL [c] :: (encAll l ++ r)) = _
      rw [he] at ih ⊢
      rw [run3, if_neg (by rw [h1]; decide), if_neg (by rw [h3]; decide), h4, Int.add_zero, ofL_app]
      exact ih
theorem run2_enc : ∀ (l : List (Nat × Bool)) (tok : List Nat) (n : Int) (r : List Str), (∀ p ∈ l, 66 ≤ p.1 ∧ p.1 < 81) → r ≠ [] → run2 (ofL tok) n (encAll l ++ r) = run2 (ofL (tok ++ l.map (·.1))) n r
  | [], tok, n, r, _, _ => by simp [encAll]
  | (c, b) :: l, tok, n, r, h, hr => by
    obtain ⟨h1, h2, h3, h4⟩ := let_fact (h (c, b) (List.Mem.head _))
    obtain ⟨b1, b2, b3, b4⟩ := bs_facts
    have ih := run2_enc l (tok ++ [c]) n r (fun p hp => h p (List.Mem.tail _ hp)) hr
    have hne : encAll l ++ r ≠ [] := by simp [hr]
    rw [List.append_assoc] at ih
    obtain ⟨e, r', he⟩ := List.exists_cons_of_ne_nil hne
    cases b with
    | true =>
      show run2 (ofL tok) n (BS :: ofL [c] :: (encAll l ++ r)) = _
      rw [run2, if_neg (by rw [b2]; decide), if_pos b3, b4, h4, Int.add_zero, Int.add_zero, ofL_app]
      exact ih
    | false =>
      show run2 (ofL tok) n (ofL [c] :: (encAll l ++ r)) = _
      rw [he] at ih ⊢
      rw [run2, if_neg (by rw [h2]; decide), if_neg (by rw [h3]; decide), h4, Int.add_zero, ofL_app]
      exact ih
theorem run1_bare (c : Nat) (b : Bool) (l : List (Nat × Bool)) (n : Int) (y : Str) (r : List Str) (h : ∀ p ∈ (c, b) :: l, 66 ≤ p.1 ∧ p.1 < 81) (hy : notWs y = false) : run1 n (encAll ((c, b) :: l) ++ y :: r) = some (ofL (c :: l.map (·.1)), n + nlOf y, r) := by
  obtain ⟨h1, h2, h3, h4⟩ := let_fact (h (c, b) (List.Mem.head _))
  obtain ⟨b1, b2, b3, b4⟩ := bs_facts
  have e := run3_enc l [c] n (y :: r) (fun p hp => h p (List.Mem.tail _ hp)) (by simp)
  have h0 : Str.ofString "" ++ ofL [c] = ofL [c] := ofL_app [] [c]
  cases b with
  | true =>
    show run1 n (BS :: ofL [c] :: (encAll l ++ y :: r)) = _
    unfold run1
    rw [if_neg (by rw [b1]; decide), if_neg (by rw [b2]; decide), if_pos b3]
    show run3 (Str.ofString "" ++ ofL [c]) (n + nlOf BS + nlOf (ofL [c])) (encAll l ++ y :: r) = _
    rw [h0, b4, h4, Int.add_zero, Int.add_zero, e, run3_ws hy]; rfl
  | false =>
    show run1 n (ofL [c] :: (encAll l ++ y :: r)) = _
    unfold run1
    rw [if_neg (by rw [h1]; decide), if_neg (by rw [h2]; decide), if_neg (by rw [h3]; decide), h0, h4, Int.add_zero, e, run3_ws hy]; rfl
theorem run1_quoted (l : List (Nat × Bool)) (n : Int) (r : List Str) (h : ∀ p ∈ l, 66 ≤ p.1 ∧ p.1 < 81) : run1 n (QT :: (encAll l ++ QT :: r)) = some (ofL (l.map (·.1)), n, r) := by
  obtain ⟨q1, q2, q3⟩ := qt_facts
  unfold run1
  rw [if_neg (by rw [q1]; decide), if_pos q2, q3, Int.add_zero, show Str.ofString "" = ofL [] from rfl, run2_enc l [] n (QT :: r) h (by simp), run2_qt q2, q3, Int.add_zero]; rfl
theorem run1_blank (n : Int) (y : Str) (hy : notWs y = false) : run1 n [y] = some (Str.ofString "", n + nlOf y, []) := by
  unfold run1
  rw [if_pos hy]; rfl
theorem signs_app (a b : Str) : signs (a ++ b) = signs a ++ signs b := by
  unfold signs
  rw [show (a ++ b).cps = a.cps ++ b.cps from rfl, Array.toList_append, List.map_append]
theorem enc_bare (l : List Nat) : l.map (fun c => ofL [c]) = encAll (l.map fun c => (c, false)) := by
  unfold encAll
  induction l with
  | nil => rfl
  | cons c r ih => rw [List.map_cons, ih]; rfl
theorem enc_esc (l : List Nat) : (l.flatMap fun c => [92, c]).map (fun c => ofL [c]) = encAll (l.map fun c => (c, true)) := by
  unfold encAll
  induction l with
  | nil => rfl
  | cons c r ih => rw [List.flatMap_cons, List.map_append, ih]; rfl
theorem enc_fst (word : List Nat) (b : Bool) : (word.map fun c => (c, b)).map (·.1) = word := by
  rw [List.map_map]; exact List.map_id _
theorem signs_one (x : Str) : ∀ y ∈ signs x, y.length = 1 := by
  intro y hy
  obtain ⟨c, _, rfl⟩ := List.mem_map.mp hy
  rfl
theorem signs_len (x : Str) : (signs x).length = x.length := by
  unfold signs; rw [List.length_map, Array.length_toList]; rfl

end
section
theorem blank_facts : ∀ j : Fin 4, ∃ y : Str, Txt.item (Str.ofString "\n\t\x0d ") (j.val : Int) = y ∧ signs y = [y] ∧ notWs y = false ∧ nlOf y = (if (j.val : Int) = 0 then 1 else 0) ∧ y.length = 1 := by
  intro j
  refine ⟨_, rfl, ?_⟩
  revert j
  decide +kernel
theorem blank_fact {j : Int} (hj : 0 ≤ j ∧ j < 4) : ∃ y : Str, Txt.item (Str.ofString "\n\t\x0d ") j = y ∧ signs y = [y] ∧ notWs y = false ∧ nlOf y = (if j = 0 then 1 else 0) ∧ y.length = 1 := by
  have h := blank_facts ⟨j.toNat, by omega⟩
  simpa only [Int.toNat_of_nonneg hj.1] using h
theorem signs_dress (word : List Nat) (k : Int) : signs (dressOf (ofL word) k) = if k.fmod 2 = 1 then QT :: (encAll (word.map fun c => (c, decide (k.fdiv 2 = 1))) ++ [QT]) else encAll (word.map fun c => (c, decide (k.fdiv 2 = 1))) := by
  have e1 : signs (if k.fdiv 2 = 1 then escAll (ofL word) else ofL word) = encAll (word.map fun c => (c, decide (k.fdiv 2 = 1))) := by
    split
    · next h => rw [decide_eq_true h, ← enc_esc]; rfl
    · next h => rw [decide_eq_false h, ← enc_bare]; rfl
  unfold dressOf
  dsimp only
  split
  · rw [signs_app, signs_app, e1]; rfl
  · exact e1
theorem run_text {word : List Nat} (hne : word ≠ []) (hb : ∀ c ∈ word, 66 ≤ c ∧ c < 81) (k : Int) {j : Int} (hj : 0 ≤ j ∧ j < 4) :
    ∃ n0 rest, run1 1 (signs (dressOf (ofL word) k ++ Txt.item (Str.ofString "\n\t\x0d ") j)) = some (ofL word, n0, rest) ∧ run1 n0 rest = some (Str.ofString "", 1 + (if j = 0 then 1 else 0), []) ∧ rest.length ≤ 1 ∧ ∀ y ∈ rest, y.length = 1 := by
  obtain ⟨y, hy, s1, s2, s3, s4⟩ := blank_fact hj
  have hb2 : ∀ (b : Bool), ∀ p ∈ (word.map fun c => (c, b)), 66 ≤ p.1 ∧ p.1 < 81 := by
    intro b p hp
    obtain ⟨c, hc, rfl⟩ := List.mem_map.mp hp
    exact hb c hc
  rw [hy, signs_app, s1, signs_dress]
  split
  · refine ⟨1, [y], ?_, ?_, Nat.le_refl _, ?_⟩
    · have := run1_quoted (word.map fun c => (c, decide (k.fdiv 2 = 1))) 1 [y] (hb2 _)
      rw [enc_fst] at this
      simpa using this
    · rw [run1_blank _ _ s2, s3]
    · intro x hx; rw [List.mem_singleton.mp hx]; exact s4
  · obtain ⟨c, r, rfl⟩ := List.exists_cons_of_ne_nil hne
    refine ⟨1 + nlOf y, [], ?_, ?_, Nat.zero_le _, fun _ h => nomatch h⟩
    · have := run1_bare c (decide (k.fdiv 2 = 1)) (r.map fun c => (c, decide (k.fdiv 2 = 1))) 1 y [] (hb2 _) s2
      rw [enc_fst] at this
      exact this
    · rw [s3]; rfl
theorem blank_len {j : Int} (hj : 0 ≤ j ∧ j < 4) : (Txt.item (Str.ofString "\n\t\x0d ") j).length = 1 := by
  obtain ⟨y, h, _, _, _, h1⟩ := blank_fact hj
  rw [h]; exact h1
theorem dress_len (x : Str) (k : Int) : (dressOf x k).length ≤ 2 * x.length + 2 := by
  have h1 : (Str.ofString "\"").length = 1 := rfl
  have h2 := escAll_length x
  unfold dressOf
  split <;> split <;> simp only [Str.length_append] <;> omega

end
section
/-- the number that a word's letters spell to the base 16, A for 0 -/
def valN (u : List Nat) : Nat := u.foldl (fun a c => a * 16 + (c - 65)) 0
theorem valN_snoc (l : List Nat) (c : Nat) : valN (l ++ [c]) = valN l * 16 + (c - 65) := by simp [valN]
theorem foldl_val (r : List Nat) : ∀ a, r.foldl (fun a c => a * 16 + (c - 65)) a = a * 16 ^ r.length + valN r := by
  induction r with
  | nil => intro a; simp [valN]
  | cons c r ih =>
    intro a
    have h := ih (0 * 16 + (c - 65))
    have e : valN (c :: r) = r.foldl (fun a c => a * 16 + (c - 65)) (0 * 16 + (c - 65)) := rfl
    rw [List.foldl_cons, ih, e, h, List.length_cons, Nat.pow_succ]
    have : (a * 16 + (c - 65)) * 16 ^ r.length = a * (16 ^ r.length * 16) + (c - 65) * 16 ^ r.length := by
      rw [Nat.add_mul, Nat.mul_assoc, Nat.mul_comm 16]
    rw [this, Nat.zero_mul, Nat.zero_add]; omega
theorem valN_cons (c : Nat) (r : List Nat) : valN (c :: r) = (c - 65) * 16 ^ r.length + valN r := by
  show r.foldl _ (0 * 16 + (c - 65)) = _
  rw [foldl_val, Nat.zero_mul, Nat.zero_add]
theorem valN_lt : ∀ (u : List Nat), (∀ c ∈ u, 66 ≤ c ∧ c < 81) → valN u < 16 ^ u.length
  | [], _ => by simp [valN]
  | c :: r, h => by
    have ih := valN_lt r fun x hx => h x (List.Mem.tail _ hx)
    have hc := h c (List.Mem.head _)
    rw [valN_cons, List.length_cons, Nat.pow_succ]
    have h1 : (c - 65) * 16 ^ r.length ≤ 15 * 16 ^ r.length := Nat.mul_le_mul_right _ (by omega)
    omega
theorem snoc_ind {P : List Nat → Prop} (h0 : P []) (h1 : ∀ l c, P l → P (l ++ [c])) : ∀ l, P l := by
  intro l
  have : ∀ m : List Nat, P m.reverse := by
    intro m
    induction m with
    | nil => exact h0
    | cons c r ih => rw [List.reverse_cons]; exact h1 _ _ ih
  simpa using this l.reverse
theorem numOf_val : ∀ u : List Nat, (∀ c ∈ u, 66 ≤ c ∧ c < 81) → numOf (KStt.codes (ofL u)) = (valN u : Int) := by
  intro u
  refine snoc_ind (P := fun u => (∀ c ∈ u, 66 ≤ c ∧ c < 81) → numOf (KStt.codes (ofL u)) = (valN u : Int)) (fun _ => rfl) ?_ u
  intro l c ih h
  have e : KStt.codes (ofL (l ++ [c])) = KStt.codes (ofL l) ++ [(c : Int)] := by simp [KStt.codes]
  have hc := h c (by simp)
  rw [e, numOf_snoc, ih fun x hx => h x (List.mem_append_left _ hx), valN_snoc]
  omega
theorem apL_val : ∀ u : List Nat, (∀ c ∈ u, 66 ≤ c ∧ c < 81) → apL (valN u) = u.map Nat.toUInt8 := by
  intro u
  refine snoc_ind (P := fun u => (∀ c ∈ u, 66 ≤ c ∧ c < 81) → apL (valN u) = u.map Nat.toUInt8) (fun _ => apL_zero) ?_ u
  intro l c ih h
  have hc := h c (by simp)
  have hn : valN (l ++ [c]) ≠ 0 := by rw [valN_snoc]; omega
  rw [apL_step hn, valN_snoc, show (valN l * 16 + (c - 65)) / 16 = valN l by omega, ih fun x hx => h x (List.mem_append_left _ hx), show 65 + (valN l * 16 + (c - 65)) % 16 = c by omega, List.map_append]
  rfl
theorem written_val (u : List Nat) (h : ∀ c ∈ u, 66 ≤ c ∧ c < 81) : writtenOf (valN u) = ofL u := by
  unfold writtenOf
  rw [apL_val u h, List.map_map]
  have : u.map (UInt8.toNat ∘ Nat.toUInt8) = u := by
    have : ∀ c ∈ u, (UInt8.toNat ∘ Nat.toUInt8) c = c := fun c hc => by
      have := h c hc
      show (Nat.toUInt8 c).toNat = c
      simp only [Nat.toUInt8, UInt8.toNat_ofNat']
      omega
    calc u.map (UInt8.toNat ∘ Nat.toUInt8) = u.map id := List.map_congr_left this
      _ = u := List.map_id u
  rw [this]
theorem apL_len (u : List Nat) (h : ∀ c ∈ u, 66 ≤ c ∧ c < 81) (hl : u.length ≤ 900) : (apL (valN u)).length ≤ 1000 := by
  rw [apL_val u h, List.length_map]; omega
theorem less_first {u : List Nat} (hu : u ≠ []) (h : ∀ c ∈ u, 66 ≤ c ∧ c < 81) : ((valN u : Int).fdiv 16).natAbs = valN u.dropLast := by
  rw [Int.fdiv_eq_ediv_of_nonneg _ (by decide)]
  have e := List.dropLast_concat_getLast hu
  have hc := h _ (List.getLast_mem hu)
  have : valN u = valN u.dropLast * 16 + (u.getLast hu - 65) := by
    conv => lhs; rw [← e]
    rw [valN_snoc]
  omega
theorem less_last {u : List Nat} (h : ∀ c ∈ u, 66 ≤ c ∧ c < 81) : (-((valN u : Int).fmod (16 ^ (u.length - 1) : Nat))).natAbs = valN (u.drop 1) := by
  rw [Int.fmod_eq_emod_of_nonneg _ (Int.natCast_nonneg _)]
  cases u with
  | nil => rfl
  | cons c r =>
    have hl := valN_lt r fun x hx => h x (List.Mem.tail _ hx)
    rw [valN_cons, List.length_cons, Nat.add_sub_cancel, List.drop_one, List.tail_cons, Int.natAbs_neg, ← Int.natCast_emod, Int.natAbs_natCast, Nat.add_comm, Nat.add_mul_mod_self_right, Nat.mod_eq_of_lt hl]

end
section
/-- a word that is not yet known is pushed -/
def pushNew {α : Type} [BEq α] (p : List (List α) × List (List α)) (x : List α) : List (List α) × List (List α) := if p.1.contains x then p else (p.1 ++ [x], p.2 ++ [x])
def loopL {α : Type} [BEq α] : Nat → List (List α) → List (List α) → List (List α) → Option (List (List α))
  | 0, _, _, _ => none
  | n + 1, heard, pushed, q => match heard.getLast? with
    | none => none
    | some u => if u.isEmpty then (if q.isEmpty then some heard else none) else
      let r := pushNew (pushNew (pushed, q) u.dropLast) (u.drop 1)
      match r.2 with
      | [] => none
      | y :: q' => loopL n (heard ++ [y]) r.1 q'
def AllOk (l : List (List Nat)) : Prop := ∀ u ∈ l, u.length ≤ 9 ∧ ∀ c ∈ u, 66 ≤ c ∧ c < 81
structure LoopOk (n : Nat) (heard pushed q out : List (List Nat)) : Prop where
  run : loopL n heard pushed q = some out
  hh : AllOk heard
  hp : AllOk pushed
  hq : AllOk q
  hl : heard.length + n ≤ 60
  pl : pushed.length + 2 * n ≤ 120
  ql : q.length + 2 * n ≤ 120
theorem AllOk.app {a b : List (List Nat)} (ha : AllOk a) (hb : AllOk b) : AllOk (a ++ b) := fun u hu => (List.mem_append.mp hu).elim (ha u) (hb u)
theorem AllOk.one {u : List Nat} (h : u.length ≤ 9 ∧ ∀ c ∈ u, 66 ≤ c ∧ c < 81) : AllOk [u] := fun v hv => by rw [List.mem_singleton.mp hv]; exact h
theorem pushNew_ok {p q : List (List Nat)} {x : List Nat} (hp : AllOk p) (hq : AllOk q) (hx : x.length ≤ 9 ∧ ∀ c ∈ x, 66 ≤ c ∧ c < 81) : AllOk (pushNew (p, q) x).1 ∧ AllOk (pushNew (p, q) x).2 ∧ (pushNew (p, q) x).1.length ≤ p.length + 1 ∧ (pushNew (p, q) x).2.length ≤ q.length + 1 := by
  unfold pushNew
  split
  · exact ⟨hp, hq, Nat.le_succ _, Nat.le_succ _⟩
  · exact ⟨hp.app (.one hx), hq.app (.one hx), by simp, by simp⟩
theorem LoopOk.more {n : Nat} {heard pushed q out : List (List Nat)} (h : LoopOk n heard pushed q out) : ∃ n', n = n' + 1 ∧ ∃ hs u, heard = hs ++ [u] := by
  have hr := h.run
  cases n with
  | zero => cases hr
  | succ n =>
    refine ⟨n, rfl, ?_⟩
    rcases List.eq_nil_or_concat heard with e | ⟨hs, u, e⟩
    · rw [e] at hr; cases hr
    · exact ⟨hs, u, by rw [e, List.concat_eq_append]⟩
theorem LoopOk.done {n : Nat} {hs pushed q out : List (List Nat)} (h : LoopOk n (hs ++ [[]]) pushed q out) : hs ++ [[]] = out ∧ q = [] := by
  have hr := h.run
  cases n with
  | zero => cases hr
  | succ n =>
    unfold loopL at hr
    rw [List.getLast?_concat] at hr
    simp only [List.isEmpty_nil, if_true] at hr
    cases q with
    | nil => exact ⟨by simpa using hr, rfl⟩
    | cons y r => simp at hr
theorem LoopOk.step {n : Nat} {hs pushed q out : List (List Nat)} {u : List Nat} (h : LoopOk (n + 1) (hs ++ [u]) pushed q out) (hu : u ≠ []) :
    ∃ y q', (pushNew (pushNew (pushed, q) u.dropLast) (u.drop 1)).2 = y :: q' ∧ LoopOk n (hs ++ [u] ++ [y]) (pushNew (pushNew (pushed, q) u.dropLast) (u.drop 1)).1 q' out := by
  have hr := h.run
  have hok := h.hh u (List.mem_append_right _ (List.mem_singleton.mpr rfl))
  have h1 : u.dropLast.length ≤ 9 ∧ ∀ c ∈ u.dropLast, 66 ≤ c ∧ c < 81 := ⟨by rw [List.length_dropLast]; omega, fun c hc => hok.2 c (List.dropLast_subset _ hc)⟩
  have h2 : (u.drop 1).length ≤ 9 ∧ ∀ c ∈ u.drop 1, 66 ≤ c ∧ c < 81 := ⟨by rw [List.length_drop]; omega, fun c hc => hok.2 c (List.mem_of_mem_drop hc)⟩
  obtain ⟨a1, a2, a3, a4⟩ := pushNew_ok (p := pushed) (q := q) h.hp h.hq h1
  obtain ⟨b1, b2, b3, b4⟩ := pushNew_ok (x := u.drop 1) a1 a2 h2
  have hpl := h.pl
  have hql := h.ql
  have hhl := h.hl
  unfold loopL at hr
  rw [List.getLast?_concat] at hr
  have hue : u.isEmpty = false := by cases u with
    | nil => exact absurd rfl hu
    | cons _ _ => rfl
  simp only [hue] at hr
  rw [if_neg (by decide)] at hr
  change AllOk (pushNew (pushNew (pushed, q) u.dropLast) (u.drop 1)).1 at b1
  change AllOk (pushNew (pushNew (pushed, q) u.dropLast) (u.drop 1)).2 at b2
  change (pushNew (pushNew (pushed, q) u.dropLast) (u.drop 1)).1.length ≤ _ at b3
  change (pushNew (pushNew (pushed, q) u.dropLast) (u.drop 1)).2.length ≤ _ at b4
  generalize pushNew (pushNew (pushed, q) u.dropLast) (List.drop 1 u) = r at *
  obtain ⟨p2, q2⟩ := r
  cases q2 with
  | nil => cases hr
  | cons y q' =>
    refine ⟨y, q', rfl, hr, h.hh.app (.one (b2 y (List.Mem.head _))), b1, fun v hv => b2 v (List.Mem.tail _ hv), ?_, ?_, ?_⟩
    · rw [List.length_append]; simp only [List.length_singleton]; omega
    · omega
    · simp only [List.length_cons] at b4; omega
theorem last_get (hs : List (List Nat)) (u : List Nat) : ((hs ++ [u]).map ofL).getD (-1 + (((hs ++ [u]).map ofL).length : Int)).toNat Str.empty = ofL u := by
  have e : (-1 + (((hs ++ [u]).map ofL).length : Int)).toNat = hs.length := by
    rw [List.length_map, List.length_append]; simp only [List.length_singleton]; omega
  rw [e, List.map_append, List.getD_eq_getElem?_getD, List.getElem?_append_right (by simp)]
  simp
theorem ofL_ne (u : List Nat) : (ofL u != Str.ofString "") = !u.isEmpty := by
  rw [show Str.ofString "" = ofL [] from rfl]
  cases u with
  | nil => rfl
  | cons c r =>
    show (!(ofL (c :: r) == ofL [])) = true
    rw [Bool.not_eq_true', beq_eq_false_iff_ne]
    intro e
    have := congrArg (fun x : Str => x.cps.toList) e
    cases this

end
section
section
variable {w : World} {a : LexAt} {q : List Value} {cq : Nat} {n : Int} {tn : Tok} {cs : List Value} {cc : Nat} {loose : List Str} {mean : ExcName → Option Value} {mg mb : Str → Option Value} {dp un : Nat} {gd : Option (List Code)} {cn : Str} {csc : Scope} {fa : Addr} {ccd : Value} {cl : List (Str × Addr)} {outer : List Env} {A₀ : Around} {base h₀ : Heap} {L : Addr} {m : Str → Option Value} {s : Shared} {Q E : Value → Shared → Prop} {i l H : Addr} {oi ol oh : Obj} {tail : List (Addr × Obj)} {y : Str} {t : Tok}
end
theorem pushNew_in {p q : List (List Nat)} {x : List Nat} (h : p.contains x = true) : pushNew (p, q) x = (p, q) := if_pos h
theorem pushNew_out {p q : List (List Nat)} {x : List Nat} (h : p.contains x = false) : pushNew (p, q) x = (p ++ [x], q ++ [x]) := if_neg (by rw [h]; decide)
theorem strs_snoc {ys : List Value} {l : List (List Nat)} {x : List Nat} {t : Tok} (h : StrsAre ys (l.map ofL)) : StrsAre (ys ++ [.str (ofL x) t]) ((l ++ [x]).map ofL) := by
  rw [List.map_append]; exact h.append' (StrsAre.cons _ _ StrsAre.nil)
theorem ok_first {u : List Nat} (h : u.length ≤ 9 ∧ ∀ c ∈ u, 66 ≤ c ∧ c < 81) : u.dropLast.length ≤ 9 ∧ ∀ c ∈ u.dropLast, 66 ≤ c ∧ c < 81 := ⟨by rw [List.length_dropLast]; omega, fun c hc => h.2 c (List.dropLast_subset _ hc)⟩
theorem ok_last {u : List Nat} (h : u.length ≤ 9 ∧ ∀ c ∈ u, 66 ≤ c ∧ c < 81) : (u.drop 1).length ≤ 9 ∧ ∀ c ∈ u.drop 1, 66 ≤ c ∧ c < 81 := ⟨by rw [List.length_drop]; omega, fun c hc => h.2 c (List.mem_of_mem_drop hc)⟩

end
section
section
open PyProof.Rows.LCg PyProof.Rows.LCt
variable {prog : Program} {w : World} {A : Around} {E : Value → Shared → Prop} {s : Shared} {h₀ : Heap} {L : Addr} {m : Str → Option Value} {env : Env}
/-- the source of a comprehension with a test: a dict that the call made -/
def SrcD (prog : Program) (w : World) (A : Around) (h₀ : Heap) (L : Addr) (m : Str → Option Value) (env : Env) (ct elt : Expr) (x : Str) (scope : Scope) (cl : List (Str × Addr)) (Fin : Shared → List Value → List (Addr × Obj) → Prop) (xv : Value) (s₁ : Shared) : Prop :=
  ∃ d o news, ∃ kvs : List (Int × Value), xv = .ref d ∧ A.handled = none ∧ Fr h₀ L s₁.heap m ∧ News h₀ L s₁.heap news ∧ (d, o) ∈ news ∧ o.IsDictOf (intKind prog w) kvs ∧ (d == sysModules) = false ∧ kvs.length ≤ sizeLine ∧
    ∀ s₂ : Shared, (∃ h, s₂ = { s₁ with heap := h }) → CompRestT prog w A h₀ L m env ct elt x scope cl s₂ (fun nw => (d, o) ∈ nw) (fun i v => ∃ k y, kvs[i]? = some (k, y) ∧ (intKind prog w).is k v = true) (Fin s₂) kvs.length 0 [] news
theorem keys_st {prog : Program} {w : World} {I d : Addr} {o : Obj} {kvs : List (Int × Value)} {ep : Nat} (hk : KdkAt (intKind prog w) o kvs ep) : ∀ i (h h' : Heap) (oI : Obj) (nw : List (Addr × Obj)), (h.IsKeyIter I d i kvs.length ep ∧ h.DictAt (intKind prog w) d kvs ep) → h.get? I = some oI → h'.get? I = some oI → (∀ b o, h₀.get? b = some o → h'.get? b = some o) → News h₀ L h' nw → (d, o) ∈ nw → (h'.IsKeyIter I d i kvs.length ep ∧ h'.DictAt (intKind prog w) d kvs ep) :=
  fun i h h' oI nw st e e' _ N S => ⟨st.1.at fun o' q => by rw [e] at q; cases q; exact e', hk.dictAt (N _ S).1⟩
theorem ListComp_TD {ct elt iter : Expr} {x : Str} {px : Pos} {scope : Scope} {cl : List (Str × Addr)} {pos : Pos} {Q : Value → Shared → Prop} (_F₀ : Fr h₀ L s.heap m)
    (hclos : closureFor scope env = pure cl) (hcell : ∀ y ∈ scope.names, y.2 ≠ .cell) (hkind : scope.kind = .function)
    (hnames : ∀ y ∈ scope.names, y.2 = .local → scope.names.lookup y.1 = some .local) (hx : scope.names.lookup x = some .local)
    (h : wpAny (model prog w) A (eval iter env) (fun xv s₁ => Hold (SrcD prog w A h₀ L m env ct elt x scope cl (fun s₂ => FinE h₀ L m s₂ Q) xv s₁)) E s)
    (hs : ∀ x, foldedSetIterable iter env x = pure x := by intro _; rfl) :
    wpAny (model prog w) A (eval (.ListComp elt [⟨.Name x px, iter, [ct], 0⟩] scope pos) env) Q E s := by
  rw [eval_ListComp]
  refine wpAny_comprehension_free (use := none) rfl hs hclos hkind hnames (wpAny_mono h (fun xv s₁ h₁ => ?_) fun _ _ e => e)
  obtain ⟨d, o, news, kvs, rfl, hh, F, N, hm, hd, lo, hsz, R⟩ := h₁
  obtain ⟨ep, hk⟩ := KdkAt.of hd
  have hlt : d < s₁.heap.objs.size := Heap.lt_size (N _ hm).1
  refine wpAny_pyIter_dict lo (hk.dictAt (N _ hm).1) ?_
  have up : ∀ b o, s₁.heap.get? b = some o → (s₁.heap.push { cls := .type "dict_keyiterator", data := .fields #[.ref d, .int 0 0, .int kvs.length 0, .int ep 0] }).get? b = some o := fun b o e => Heap.get?_push_of_some _ e
  refine block_T (Walks.dictKeys hh s₁.heap.objs.size d (Nat.ne_of_lt hlt) kvs ep) hsz (fun i h st => by obtain ⟨o, e, _⟩ := st.1; exact ⟨o, e⟩) (keys_st hk) hcell hkind hx ⟨⟨_, Heap.get?_push_size _ rfl, rfl, rfl⟩, hk.dictAt (up _ _ (N _ hm).1)⟩ (fun b hb => ?_)
      (F.keeps up) (N.grown up) (Nat.ne_of_lt F.ns.lt) (next_is_new F) (fun p hp => Nat.ne_of_lt (Heap.lt_size (N p hp).1)) hm (R _ ⟨_, rfl⟩) ?_
  · show b < (s₁.heap.push _).objs.size
    rw [Heap.size_push]
    rcases List.mem_cons.mp hb with rfl | hb
    · exact Nat.lt_succ_self _
    · rw [List.mem_singleton.mp hb]; exact Nat.lt_succ_of_lt hlt
  · intro D C h tk m' ys news' F' N' o1 hn hC₀ hD₀ hCL hDL hCD offC fin
    refine ⟨m', hn, fun h'' hs'' => fin D h'' tk (F'.change hs'' hCL hC₀) (fun p hp => ?_) o1⟩
    refine ⟨hs''.extBut _ _ ?_ (N' p hp).1, (N' p hp).2⟩
    rcases List.mem_cons.mp hp with rfl | hp
    · exact Ne.symm hCD
    · exact offC p hp
theorem rest_invT {ct elt : Expr} {x : Str} {scope : Scope} {cl : List (Str × Addr)} {S : List (Addr × Obj) → Prop} {P : Nat → Value → Prop} {Fin : List Value → List (Addr × Obj) → Prop} (n : Nat) (Inv : Nat → List Value → List (Addr × Obj) → Prop)
    (turn : ∀ i ys news v I oI C oC D m₂ h tk (E' : Value → Shared → Prop), i < n → Inv i ys news → P i v → NsObj oC m₂ → m₂ x = some v → Fr h₀ L h m → News h₀ L h ((I, oI) :: (C, oC) :: (D, lst ys) :: news) → Off3 I C D news → ((@Ne Nat I C) ∧ (@Ne Nat I D) ∧ (@Ne Nat C D)) →
      wpAny (model prog w) A (isTrue ct (compEnvC scope cl C env) (eval ct (compEnvC scope cl C env))) (fun ok s' => if ok = true then
        wpAny (model prog w) A (eval elt (compEnvC scope cl C env)) (CompEnd h₀ L m { s with heap := h, toks := tk } I oI C oC D (lst ys) S (fun y news' => Inv (i + 1) (ys ++ [y]) news')) E' s'
        else CompEnd h₀ L m { s with heap := h, toks := tk } I oI C oC D (lst ys) S (fun _ news' => Inv (i + 1) ys news') Value.none s') E' { s with heap := h, toks := tk })
    (fin : ∀ ys news, Inv n ys news → Fin ys news) : ∀ k i ys news, i + k = n → Inv i ys news → CompRestT prog w A h₀ L m env ct elt x scope cl s S P Fin k i ys news
  | 0, i, ys, news, e, hI => by
    rw [Nat.add_zero] at e; subst e; exact fin ys news hI
  | k + 1, i, ys, news, e, hI => CompRestT.succ fun v I oI C oC D m₂ h tk E' hP hC hx F N off ne =>
      wpAny_mono (turn i ys news v I oI C oC D m₂ h tk E' (by omega) hI hP hC hx F N off ne) (fun ok s' h' => by
        cases ok with
        | true => exact wpAny_mono h' (fun y s' h' => compEnd_mono h' fun y nw hn => rest_invT n Inv turn fin k (i + 1) _ nw (by omega) hn) fun _ _ e => e
        | false => rw [if_neg (by decide)] at h'; exact compEnd_mono h' fun y nw hn => rest_invT n Inv turn fin k (i + 1) _ nw (by omega) hn) fun _ _ e => e
end
/-- the rows' dicts -/
def RowsAre (prog : Program) (w : World) (ys : List Value) (rows : List (List (Int × Int))) (own : List (Addr × Obj)) : Prop :=
  ys.length = rows.length ∧ ∀ i, i < rows.length → ∃ D o, ∃ kvs : List (Int × Value), ys[i]? = some (.ref D) ∧ (D, o) ∈ own ∧ o.IsDictOf (intKind prog w) kvs ∧ PyProof.V.FlatPairs PyData.int kvs (ddL (rows.getD i [])) ∧ (D == sysModules) = false
theorem RowsAre.nil {prog : Program} {w : World} : RowsAre prog w [] [] [] := ⟨rfl, fun _ h => absurd h (Nat.not_lt_zero _)⟩
theorem RowsAre.snoc {prog : Program} {w : World} {ys : List Value} {rows : List (List (Int × Int))} {own : List (Addr × Obj)} (h : RowsAre prog w ys rows own) {D : Addr} {o : Obj} {kvs : List (Int × Value)} {r : List (Int × Int)} (hd : o.IsDictOf (intKind prog w) kvs) (hf : PyProof.V.FlatPairs PyData.int kvs (ddL r)) (lo : (D == sysModules) = false) :
    RowsAre prog w (ys ++ [.ref D]) (rows ++ [r]) ((D, o) :: own) := by
  refine ⟨by rw [List.length_append, List.length_append, h.1]; rfl, fun i hi => ?_⟩
  rw [List.length_append, List.length_singleton] at hi
  by_cases e : i < rows.length
  · obtain ⟨D', o', kvs', h1, h2, h3, h4, h5⟩ := h.2 i e
    refine ⟨D', o', kvs', ?_, .tail _ h2, h3, ?_, h5⟩
    · rw [List.getElem?_append_left (by rw [h.1]; exact e)]; exact h1
    · rw [List.getD_eq_getElem?_getD, List.getElem?_append_left e, ← List.getD_eq_getElem?_getD]; exact h4
  · have e2 : i = rows.length := by omega
    subst e2
    refine ⟨D, o, kvs, ?_, .head _, hd, ?_, lo⟩
    · rw [← h.1, List.getElem?_append_right (Nat.le_refl _), Nat.sub_self]; rfl
    · rw [List.getD_eq_getElem?_getD, List.getElem?_append_right (Nat.le_refl _), Nat.sub_self]; exact hf
theorem flat_len {kvs : List (Int × Value)} : ∀ {l : List (Int × Int)}, PyProof.V.FlatPairs PyData.int kvs (ddL l) → kvs.length = l.length := by
  induction kvs with
  | nil => intro l h; cases l with
    | nil => rfl
    | cons p l => cases h
  | cons p kvs ih => intro l h; cases l with
    | nil => cases h
    | cons q l =>
      rw [show ddL (q :: l) = (PyData.int q.1, PyData.int q.2) :: ddL l from rfl] at h
      cases h with
      | cons a b => rw [List.length_cons, List.length_cons, ih b]
theorem flat_key {kvs : List (Int × Value)} : ∀ {l : List (Int × Int)}, PyProof.V.FlatPairs PyData.int kvs (ddL l) → ∀ {i : Nat} {k : Int} {v : Value}, kvs[i]? = some (k, v) → (l.map (·.1))[i]? = some k := by
  induction kvs with
  | nil => intro l _ i k v e; simp at e
  | cons p kvs ih => intro l h i k v e; cases l with
    | nil => cases h
    | cons q l =>
      rw [show ddL (q :: l) = (PyData.int q.1, PyData.int q.2) :: ddL l from rfl] at h
      cases h with
      | cons a b =>
        cases i with
        | zero => simp at e; simp [e.1]
        | succ i => simp only [List.getElem?_cons_succ] at e; simpa using ih b e
theorem flat_val {kvs : List (Int × Value)} : ∀ {l : List (Int × Int)}, PyProof.V.FlatPairs PyData.int kvs (ddL l) → ∀ j : Int, match l.lookup j with | none => valueAt kvs j = none | some n => ∃ t, valueAt kvs j = some (.int n t) := by
  induction kvs with
  | nil => intro l h j; cases l with
    | nil => rfl
    | cons p l => cases h
  | cons p kvs ih => intro l h j; cases l with
    | nil => cases h
    | cons q l =>
      obtain ⟨k', n⟩ := q
      rw [show ddL ((k', n) :: l) = (PyData.int k', PyData.int n) :: ddL l from rfl] at h
      cases h with
      | cons a b =>
        obtain ⟨t, rfl⟩ := a.int_inv
        unfold valueAt
        rw [List.lookup_cons]
        by_cases e : k' = j
        · subst e
          simp
        · have e2 : (j == k') = false := beq_eq_false_iff_ne.mpr (Ne.symm e)
          rw [e2, List.find?_cons_of_neg (by simpa using e)]
          exact ih b j

end
section
section
variable {prog : Program} {w : World} {A : Around} {E : Value → Shared → Prop} {s : Shared} {env : Env} {h₀ : Heap} {L : Addr}
/-- a turn of a loop over a range ends: the word holds for the next turn -/
def TurnTo (h₀ : Heap) (L : Addr) (J : (Str → Option Value) → List (Addr × Obj) → Prop) (I : Addr) (oI : Obj) (s s₃ : Shared) : Prop :=
  ∀ Z : Shared → Prop, (∀ m₂ nx₂ h' tk', J m₂ nx₂ → Fr h₀ L h' m₂ → News h₀ L h' ((I, oI) :: nx₂) → (∀ p ∈ nx₂, p.1 ≠ I) → Z { s with heap := h', toks := tk' }) → Z s₃
theorem TurnTo.mk {J : (Str → Option Value) → List (Addr × Obj) → Prop} {I : Addr} {oI : Obj} {s : Shared} {m₂ : Str → Option Value} {nx₂ all : List (Addr × Obj)} {h' : Heap} {tk' : Nat} (hJ : J m₂ nx₂) (F : Fr h₀ L h' m₂) (N : News h₀ L h' all) (sub : ∀ p ∈ (I, oI) :: nx₂, p ∈ all) (off : ∀ p ∈ nx₂, p.1 ≠ I) :
    TurnTo h₀ L J I oI s { s with heap := h', toks := tk' } := fun _ d => d m₂ nx₂ h' tk' hJ F (fun p hp => N p (sub p hp)) off
theorem turn_all {J : (Str → Option Value) → List (Addr × Obj) → Prop} {I : Addr} {oI : Obj} {s : Shared} {Z : Shared → Prop} (d : ∀ m₂ nx₂ h' tk', J m₂ nx₂ → Fr h₀ L h' m₂ → News h₀ L h' ((I, oI) :: nx₂) → (∀ p ∈ nx₂, p.1 ≠ I) → Z { s with heap := h', toks := tk' }) : ∀ s₃, TurnTo h₀ L J I oI s s₃ → Z s₃ := fun _ h => h Z d
/-- the loop's own state: i turns are done -/
def LIt (h₀ : Heap) (L : Addr) (s : Shared) (J : Nat → (Str → Option Value) → List (Addr × Obj) → Prop) (n : Nat) (I : Addr) (st : Nat → Heap → Prop) (k : Nat) (s1 : Shared) : Prop :=
  ∀ Z : Nat → Shared → Prop, (∀ i m₁ nx h tk, i ≤ n → J i m₁ nx → Fr h₀ L h m₁ → News h₀ L h nx → (∀ p ∈ nx, p.1 ≠ I) → st i h → Z (n - i) { s with heap := h, toks := tk }) → Z k s1
theorem lit_all {s : Shared} {J : Nat → (Str → Option Value) → List (Addr × Obj) → Prop} {n : Nat} {I : Addr} {st : Nat → Heap → Prop} {Z : Nat → Shared → Prop} (d : ∀ i m₁ nx h tk, i ≤ n → J i m₁ nx → Fr h₀ L h m₁ → News h₀ L h nx → (∀ p ∈ nx, p.1 ≠ I) → st i h → Z (n - i) { s with heap := h, toks := tk }) : ∀ k s1, LIt h₀ L s J n I st k s1 → Z k s1 := fun _ _ h => h Z d
theorem LIt.mk {s : Shared} {J : Nat → (Str → Option Value) → List (Addr × Obj) → Prop} {n : Nat} {I : Addr} {st : Nat → Heap → Prop} {i : Nat} {m₁ : Str → Option Value} {nx : List (Addr × Obj)} {h : Heap} {tk : Nat} (hi : i ≤ n) (hJ : J i m₁ nx) (F : Fr h₀ L h m₁) (N : News h₀ L h nx) (off : ∀ p ∈ nx, p.1 ≠ I) (hst : st i h) : LIt h₀ L s J n I st (n - i) { s with heap := h, toks := tk } := fun _ d => d i m₁ nx h tk hi hJ F N off hst
theorem for_range {r : Addr} {a b : Int} {t u v : Tok} {n : Nat} {x : Str} {px : Pos} {body : List Stmt} {m : Str → Option Value} {news : List (Addr × Obj)} {Q : Flow → Shared → Prop} {R : Result → Shared → Prop} (J : Nat → (Str → Option Value) → List (Addr × Obj) → Prop)
    (hh : A.handled = none) (hR : ∀ f s, Q f s → R (.ok f) s)
    (hr : IsRange s.heap r a b 1 t u v) (hsm : Builtin.Range.small a b 1 = true) (hn : Builtin.Range.rangeSize a b 1 = ((n : Nat) : Int)) (F : Fr h₀ L s.heap m) (N : News h₀ L s.heap news) (hj : J 0 m news)
    (turn : ∀ (i : Nat) (t : Tok) m₁ nx h tk I oI, i < n → J i m₁ nx → Fr h₀ L h m₁ → News h₀ L h ((I, oI) :: nx) → (∀ p ∈ nx, p.1 ≠ I) →
      wpAny (model prog w) A (storeName env x (.int (a + (i : Int)) t)) (fun _ s₂ => wpAny (model prog w) A (execs body env) (fun f s₃ => match f with
          | .next => TurnTo h₀ L (J (i + 1)) I oI s s₃
          | .cont => TurnTo h₀ L (J (i + 1)) I oI s s₃
          | .brk => Q .next s₃
          | .ret v => Q (.ret v) s₃) (fun _ _ => False) s₂) (fun _ _ => False) { s with heap := h, toks := tk })
    (done : ∀ m₁ nx h tk, J n m₁ nx → Fr h₀ L h m₁ → News h₀ L h nx → Q .next { s with heap := h, toks := tk }) :
    wpAny (model prog w) A (pyIter (.ref r)) (fun it s₂ => codeAny (model prog w) A (.forLoop (.Name x px) it body [] env) R s₂) E s := by
  refine wpAny_pyIter_range hr hsm ?_
  have hIL : L ≠ s.heap.objs.size := Nat.ne_of_lt F.ns.lt
  have hI₀ : h₀.get? s.heap.objs.size = none := next_is_new F
  have W := LCg.range_walks (prog := prog) (w := w) (I := s.heap.objs.size) hh a n
  refine codeAny_forLoop (LIt h₀ L s J n s.heap.objs.size (fun i h => IsRangeIter h s.heap.objs.size (a + (i : Nat) * 1) ((n : Int) - (i : Nat)) 1))
    ?_ n (LIt.mk (i := 0) (tk := s.toks) (Nat.zero_le _) hj (F.keeps fun _ _ e => Heap.get?_push_of_some _ e) (N.grown fun _ _ e => Heap.get?_push_of_some _ e) (fun p hp => Nat.ne_of_lt (Heap.lt_size (N p hp).1)) (by show IsRangeIter _ _ _ _ _; rw [hn]; simpa using Heap.get?_push_size _ rfl))
  refine lit_all ?_
  intro i m₁ nx h tk hi hJ F₁ N₁ off hst
  refine wpAny_noRaise ?_
  by_cases hlt : i < n
  · refine W.item i _ _ _ hlt hst fun v h₂ tk₂ hPv hst₂ hk₂ => ?_
    obtain ⟨t, rfl⟩ := hPv
    obtain ⟨oI, hoI⟩ : ∃ oI, h₂.get? s.heap.objs.size = some oI := ⟨_, hst₂⟩
    have F₂ := LCg.fr_but F₁ hk₂ hIL hI₀
    have N₂ := LCg.news_but N₁ hk₂ off
    refine wpAny_noRaise (wpAny_assign_Name (wpAny_mono (turn i t m₁ nx h₂ tk₂ s.heap.objs.size oI hlt hJ F₂ (fun p hp => ?_) off) (fun _ s₂ h₂ => wpAny_noRaise (wpAny_mono h₂ (fun f s₃ h₃ => ?_) fun _ _ x => x)) fun _ _ x => x))
    · rcases List.mem_cons.mp hp with rfl | hp
      · exact ⟨hoI, Ne.symm hIL, hI₀⟩
      · exact N₂ p hp
    · have next : ∀ s₃, TurnTo h₀ L (J (i + 1)) s.heap.objs.size oI s s₃ → ∃ k', k' < n - i ∧ LIt h₀ L s J n s.heap.objs.size (fun i h => IsRangeIter h s.heap.objs.size (a + (i : Nat) * 1) ((n : Int) - (i : Nat)) 1) k' s₃ := turn_all fun m₂ nx₂ h' tk' hJ' F' N' off' =>
        ⟨n - (i + 1), by omega, LIt.mk hlt hJ' F' (fun p hp => N' p (.tail _ hp)) off' (by show h'.get? _ = some _; rw [(N' _ (.head _)).1, ← hoI]; exact hst₂)⟩
      cases f with
      | next => exact next _ h₃
      | cont => exact next _ h₃
      | brk => exact hR _ _ h₃
      | ret v => exact hR _ _ h₃
  · obtain rfl : i = n := Nat.le_antisymm hi (Nat.not_lt.mp hlt)
    refine W.done _ _ _ hst fun h₂ tk₂ hk₂ => ?_
    exact wpAny_execs_nil (hR _ _ (done _ _ _ _ hJ (LCg.fr_but F₁ hk₂ hIL hI₀) (LCg.news_but N₁ hk₂ off)))
end

end
section
def sumOf (rows : List (List (Int × Int))) (k j : Nat) : Int := (((rows.getD k []).map (·.1)).filterMap fun i => (rows.getD i.toNat []).lookup (j : Int)).sum
def rowsL {α : Type} [BEq α] (heard : List (List α)) : List (List (Int × Int)) := (List.range heard.length).map fun k => rowL heard k (heard.length - k)
def okSum (rows : List (List (Int × Int))) : Bool := (List.range rows.length).all fun k => (List.range rows.length).all fun j => decide (j < k) || sumOf rows k j == (if j = k then 1 else 0)
def okWord (p : List Nat) : Bool := loopL 30 [p] [] [] == some (outerL p (p.length + 1)) && okSum (rowsL (outerL p (p.length + 1)))
section
variable {α β : Type} [BEq α] [BEq β] {f : α → β} (hf : ∀ x y, (f x == f y) = (x == y))
include hf
theorem prefix_map : ∀ l r : List α, (l.map f).isPrefixOf (r.map f) = l.isPrefixOf r
  | [], r => by cases r <;> rfl
  | a :: l, [] => rfl
  | a :: l, b :: r => by
    show (f a == f b && (l.map f).isPrefixOf (r.map f)) = (a == b && l.isPrefixOf r)
    rw [hf, prefix_map l r]
theorem suffix_map (l r : List α) : (l.map f).isSuffixOf (r.map f) = l.isSuffixOf r := by
  unfold List.isSuffixOf
  rw [← List.map_reverse, ← List.map_reverse, prefix_map hf]
theorem inB_map (p : List α) : ∀ g : List α, inB (p.map f) (g.map f) = inB p g
  | [] => by cases p <;> rfl
  | c :: r => by
    show ((p.map f).isPrefixOf ((c :: r).map f) || inB (p.map f) (r.map f)) = _
    rw [prefix_map hf, inB_map p r]; rfl
theorem edge_map (n : Nat) (l : List α) (two : Bool) : edgeOf n (l.map f) two = edgeOf n l two := by
  unfold edgeOf
  rw [← List.map_take, List.length_map, ← List.map_drop, suffix_map hf, prefix_map hf]
theorem bord_map (l : List α) (two : Bool) : ∀ n, bord (l.map f) two n = bord l two n
  | 0 => rfl
  | n + 1 => by unfold bord; rw [edge_map hf, bord_map l two n]
theorem listbeq_map : ∀ l r : List α, (l.map f == r.map f) = (l == r)
  | [], [] => rfl
  | [], _ :: _ => rfl
  | _ :: _, [] => rfl
  | a :: l, b :: r => by
    show (f a == f b && (l.map f == r.map f)) = (a == b && l == r)
    rw [hf, listbeq_map l r]
theorem rule_map : ∀ (n : Nat) (low high : List α), ruleOf n (low.map f) (high.map f) = ruleOf n low high
  | 0, _, _ => rfl
  | n + 1, low, high => by
    unfold ruleOf
    simp only [List.length_map, bord_map hf]
    have ec : core (high.map f) = (core high).map f := by unfold core; rw [List.length_map, ← List.map_drop, ← List.map_take]
    rw [ec, ← List.map_take, listbeq_map hf, listbeq_map hf, inB_map hf, inB_map hf, rule_map n]
omit [BEq α] [BEq β] hf in
theorem getD_mapL (h : List (List α)) (k : Nat) : (h.map (List.map f)).getD k [] = (h.getD k []).map f := by
  simp only [List.getD_eq_getElem?_getD, List.getElem?_map]
  cases h[k]? <;> rfl
theorem row_map (h : List (List α)) (k : Nat) : ∀ n, rowL (h.map (List.map f)) k n = rowL h k n
  | 0 => rfl
  | n + 1 => by
    unfold rowL
    rw [row_map h k n, getD_mapL, getD_mapL, inB_map hf, rule_map hf]
theorem contains_map (h : List (List α)) (x : List α) : (h.map (List.map f)).contains (x.map f) = h.contains x := by
  induction h with
  | nil => rfl
  | cons a r ih => rw [List.map_cons, List.contains_cons, List.contains_cons, ih, listbeq_map hf]
theorem addNew_map (h : List (List α)) (x : List α) : addNew (h.map (List.map f)) (x.map f) = (addNew h x).map (List.map f) := by
  unfold addNew
  rw [contains_map hf]
  split
  · rfl
  · rw [List.map_append]; rfl
theorem inner_map (w : List α) (size : Nat) (due : List (List α)) : ∀ j, innerL (w.map f) size (due.map (List.map f)) j = (innerL w size due j).map (List.map f)
  | 0 => rfl
  | j + 1 => by unfold innerL; rw [inner_map w size due j, ← List.map_drop, ← List.map_take, addNew_map hf]
theorem outer_map (w : List α) : ∀ i, outerL (w.map f) i = (outerL w i).map (List.map f)
  | 0 => rfl
  | i + 1 => by unfold outerL; rw [outer_map w i, List.length_map, inner_map hf]
theorem pushNew_map (p q : List (List α)) (x : List α) : pushNew (p.map (List.map f), q.map (List.map f)) (x.map f) = ((pushNew (p, q) x).1.map (List.map f), (pushNew (p, q) x).2.map (List.map f)) := by
  unfold pushNew
  dsimp only
  rw [contains_map hf]
  split
  · rfl
  · simp only [List.map_append, List.map_cons, List.map_nil]
theorem loop_map : ∀ (n : Nat) (h p q : List (List α)), loopL n (h.map (List.map f)) (p.map (List.map f)) (q.map (List.map f)) = (loopL n h p q).map (List.map (List.map f))
  | 0, _, _, _ => rfl
  | n + 1, h, p, q => by
    unfold loopL
    rw [List.getLast?_map]
    cases h.getLast? with
    | none => rfl
    | some u =>
      show (if (u.map f).isEmpty then (if (q.map (List.map f)).isEmpty then some (h.map (List.map f)) else none) else _) = Option.map _ (if u.isEmpty then (if q.isEmpty then some h else none) else _)
      rw [List.isEmpty_map, List.isEmpty_map]
      split
      · split <;> rfl
      · dsimp only
        rw [← List.map_dropLast, ← List.map_drop, pushNew_map hf, pushNew_map hf]
        dsimp only
        generalize pushNew (pushNew (p, q) u.dropLast) (u.drop 1) = r
        obtain ⟨p2, q2⟩ := r
        cases q2 with
        | nil => rfl
        | cons y q' =>
          have := loop_map n (h ++ [y]) p2 q'
          rw [List.map_append] at this
          exact this
theorem rows_map (h : List (List α)) : rowsL (h.map (List.map f)) = rowsL h := by
  unfold rowsL
  rw [List.length_map]
  exact List.map_congr_left fun k _ => row_map hf h k _
end
theorem okWord_map {f : Nat → Nat} (hf : ∀ x y, (f x == f y) = (x == y)) (p : List Nat) : okWord (p.map f) = okWord p := by
  unfold okWord
  rw [List.length_map, outer_map hf, rows_map hf]
  congr 1
  have := loop_map hf 30 [p] [] []
  rw [show [p.map f] = [p].map (List.map f) from rfl, show loopL 30 ([p].map (List.map f)) [] [] = loopL 30 ([p].map (List.map f)) ([].map (List.map f)) ([].map (List.map f)) from rfl, this]
  cases loopL 30 [p] [] [] with
  | none => rfl
  | some l =>
    show (l.map (List.map f) == (outerL p (p.length + 1)).map (List.map f)) = (l == outerL p (p.length + 1))
    generalize outerL p (p.length + 1) = r
    exact listbeq_map (listbeq_map hf) l r
/-- three letters for 0, 1 and 2, the rest out of the way -/
def ren (a b c : Nat) (n : Nat) : Nat := if n = 0 then a else if n = 1 then b else if n = 2 then c else n + 100
def unren (a b c m : Nat) : Nat := if m = a then 0 else if m = b then 1 else if m = c then 2 else m - 100
theorem ren_un {a b c : Nat} (h1 : a ≠ b) (h2 : a ≠ c) (h3 : b ≠ c) (ha : a < 100) (hb : b < 100) (hc : c < 100) (n : Nat) : unren a b c (ren a b c n) = n := by
  have big : ∀ {z : Nat}, z < 100 → n + 100 ≠ z := fun hz => Nat.ne_of_gt (Nat.lt_of_lt_of_le hz (Nat.le_add_left _ _))
  unfold ren
  by_cases e0 : n = 0
  · rw [if_pos e0]; unfold unren; rw [if_pos rfl, e0]
  · rw [if_neg e0]
    by_cases e1 : n = 1
    · rw [if_pos e1]; unfold unren; rw [if_neg (Ne.symm h1), if_pos rfl, e1]
    · rw [if_neg e1]
      by_cases e2 : n = 2
      · rw [if_pos e2]; unfold unren; rw [if_neg (Ne.symm h2), if_neg (Ne.symm h3), if_pos rfl, e2]
      · rw [if_neg e2]; unfold unren; rw [if_neg (big ha), if_neg (big hb), if_neg (big hc), Nat.add_sub_cancel]
theorem ren_inj {a b c : Nat} (h1 : a ≠ b) (h2 : a ≠ c) (h3 : b ≠ c) (ha : a < 100) (hb : b < 100) (hc : c < 100) (x y : Nat) : (ren a b c x == ren a b c y) = (x == y) := by
  rw [Bool.eq_iff_iff, beq_iff_eq, beq_iff_eq]
  exact ⟨fun h => by rw [← ren_un h1 h2 h3 ha hb hc x, h, ren_un h1 h2 h3 ha hb hc], fun h => by rw [h]⟩
def canon : List (List Nat) := [[0, 0, 0, 0], [0, 0, 0, 1], [0, 0, 1, 0], [0, 0, 1, 1], [0, 0, 1, 2], [0, 1, 0, 0], [0, 1, 0, 1], [0, 1, 0, 2], [0, 1, 1, 0], [0, 1, 1, 1], [0, 1, 1, 2], [0, 1, 2, 0], [0, 1, 2, 1], [0, 1, 2, 2], [0, 0, 0, 0, 0], [0, 0, 0, 0, 1], [0, 0, 0, 1, 0], [0, 0, 0, 1, 1], [0, 0, 0, 1, 2], [0, 0, 1, 0, 0], [0, 0, 1, 0, 1], [0, 0, 1, 0, 2], [0, 0, 1, 1, 0], [0, 0, 1, 1, 1], [0, 0, 1, 1, 2], [0, 0, 1, 2, 0], [0, 0, 1, 2, 1], [0, 0, 1, 2, 2], [0, 1, 0, 0, 0], [0, 1, 0, 0, 1], [0, 1, 0, 0, 2], [0, 1, 0, 1, 0], [0, 1, 0, 1, 1], [0, 1, 0, 1, 2], [0, 1, 0, 2, 0], [0, 1, 0, 2, 1], [0, 1, 0, 2, 2], [0, 1, 1, 0, 0], [0, 1, 1, 0, 1], [0, 1, 1, 0, 2], [0, 1, 1, 1, 0], [0, 1, 1, 1, 1], [0, 1, 1, 1, 2], [0, 1, 1, 2, 0], [0, 1, 1, 2, 1], [0, 1, 1, 2, 2], [0, 1, 2, 0, 0], [0, 1, 2, 0, 1], [0, 1, 2, 0, 2], [0, 1, 2, 1, 0], [0, 1, 2, 1, 1], [0, 1, 2, 1, 2], [0, 1, 2, 2, 0], [0, 1, 2, 2, 1], [0, 1, 2, 2, 2]]
def pats : Nat → List (List Nat)
  | 0 => [[]]
  | n + 1 => (pats n).flatMap fun l => [0, 1, 2].map (· :: l)
theorem pats_mem : ∀ (l : List Nat), (∀ c ∈ l, c < 3) → l ∈ pats l.length
  | [], _ => List.Mem.head _
  | c :: l, h => by
    show c :: l ∈ (pats l.length).flatMap _
    refine List.mem_flatMap.mpr ⟨l, pats_mem l fun d hd => h d (List.Mem.tail _ hd), ?_⟩
    have := h c (List.Mem.head _)
    have : c = 0 ∨ c = 1 ∨ c = 2 := by omega
    rcases this with rfl | rfl | rfl <;> simp
def perms : List (Nat × Nat × Nat) := [(0, 1, 2), (0, 2, 1), (1, 0, 2), (1, 2, 0), (2, 0, 1), (2, 1, 0)]
theorem pats_canon : ((pats 4 ++ pats 5).all fun p => perms.any fun s => canon.contains (p.map (ren s.1 s.2.1 s.2.2))) = true := by decide +kernel
theorem perms_ok : ∀ s ∈ perms, s.1 ≠ s.2.1 ∧ s.1 ≠ s.2.2 ∧ s.2.1 ≠ s.2.2 ∧ s.1 < 100 ∧ s.2.1 < 100 ∧ s.2.2 < 100 := by decide
def canon0 : List (List Nat) := [[0, 0, 0, 0], [0, 0, 0, 1], [0, 0, 1, 0], [0, 0, 1, 1], [0, 0, 1, 2], [0, 1, 0, 0], [0, 1, 0, 1], [0, 1, 0, 2], [0, 1, 1, 0], [0, 1, 1, 1], [0, 1, 1, 2]]
theorem canon0_ok : canon0.all okWord = true := by decide +kernel
def canon1 : List (List Nat) := [[0, 1, 2, 0], [0, 1, 2, 1], [0, 1, 2, 2], [0, 0, 0, 0, 0], [0, 0, 0, 0, 1], [0, 0, 0, 1, 0], [0, 0, 0, 1, 1], [0, 0, 0, 1, 2], [0, 0, 1, 0, 0], [0, 0, 1, 0, 1], [0, 0, 1, 0, 2]]
theorem canon1_ok : canon1.all okWord = true := by decide +kernel
def canon2 : List (List Nat) := [[0, 0, 1, 1, 0], [0, 0, 1, 1, 1], [0, 0, 1, 1, 2], [0, 0, 1, 2, 0], [0, 0, 1, 2, 1], [0, 0, 1, 2, 2], [0, 1, 0, 0, 0], [0, 1, 0, 0, 1], [0, 1, 0, 0, 2], [0, 1, 0, 1, 0], [0, 1, 0, 1, 1]]
theorem canon2_ok : canon2.all okWord = true := by decide +kernel
def canon3 : List (List Nat) := [[0, 1, 0, 1, 2], [0, 1, 0, 2, 0], [0, 1, 0, 2, 1], [0, 1, 0, 2, 2], [0, 1, 1, 0, 0], [0, 1, 1, 0, 1], [0, 1, 1, 0, 2], [0, 1, 1, 1, 0], [0, 1, 1, 1, 1], [0, 1, 1, 1, 2], [0, 1, 1, 2, 0]]
theorem canon3_ok : canon3.all okWord = true := by decide +kernel
def canon4 : List (List Nat) := [[0, 1, 1, 2, 1], [0, 1, 1, 2, 2], [0, 1, 2, 0, 0], [0, 1, 2, 0, 1], [0, 1, 2, 0, 2], [0, 1, 2, 1, 0], [0, 1, 2, 1, 1], [0, 1, 2, 1, 2], [0, 1, 2, 2, 0], [0, 1, 2, 2, 1], [0, 1, 2, 2, 2]]
theorem canon4_ok : canon4.all okWord = true := by decide +kernel
theorem canon_ok : canon.all okWord = true := by
  have e : canon = canon0 ++ canon1 ++ canon2 ++ canon3 ++ canon4 := rfl
  rw [e]; simp only [List.all_append, canon0_ok, canon1_ok, canon2_ok, canon3_ok, canon4_ok, Bool.and_self]
theorem pat_ok {p : List Nat} (hl : p.length = 4 ∨ p.length = 5) (h : ∀ c ∈ p, c < 3) : okWord p = true := by
  have hm : p ∈ pats 4 ++ pats 5 := by
    have := pats_mem p h
    rcases hl with e | e <;> rw [e] at this <;> simp [this]
  have h1 := List.all_eq_true.mp pats_canon p hm
  obtain ⟨s, hs, h2⟩ := List.any_eq_true.mp h1
  obtain ⟨a1, a2, a3, a4, a5, a6⟩ := perms_ok s hs
  rw [← okWord_map (ren_inj a1 a2 a3 a4 a5 a6) p]
  exact List.all_eq_true.mp canon_ok _ (List.elem_iff.mp h2)
theorem word_ok {xs : List Nat} {a b c : Nat} (hl : xs.length = 4 ∨ xs.length = 5) (h : ∀ x ∈ xs, x < 3) (h1 : a ≠ b) (h2 : a ≠ c) (h3 : b ≠ c) (ha : a < 100) (hb : b < 100) (hc : c < 100) : okWord (xs.map (ren a b c)) = true := by
  rw [okWord_map (ren_inj h1 h2 h3 ha hb hc)]
  exact pat_ok hl h

end
section
theorem letters_ne {t1 t2 la lb lc : Int} (_ha : 0 ≤ la ∧ la < 15) (hb : (la + 1 + t1.fmod 7).fmod 15 = lb) (hc : (la + 8 + t2.fmod 7).fmod 15 = lc) : la ≠ lb ∧ la ≠ lc ∧ lb ≠ lc ∧ (0 ≤ lb ∧ lb < 15) ∧ (0 ≤ lc ∧ lc < 15) := by
  have h1 := fmod_bd t1 7 (by decide)
  have h2 := fmod_bd t2 7 (by decide)
  rw [Int.fmod_eq_emod_of_nonneg _ (by decide)] at hb hc
  omega
theorem let_ren (a b c x : Int) : letOf a b c x = ren (66 + a).toNat (66 + b).toNat (66 + c).toNat (x.fmod 3).toNat := by
  have h := fmod_bd x 3 (by decide)
  have : (x.fmod 3).toNat = 0 ∨ (x.fmod 3).toNat = 1 ∨ (x.fmod 3).toNat = 2 := by omega
  unfold letOf ren
  rcases this with e | e | e <;> rw [e] <;> simp
theorem to_ne {a b : Int} (ha : 0 ≤ a) (hb : 0 ≤ b) (h : a ≠ b) : (66 + a).toNat ≠ (66 + b).toNat := by omega
theorem to_lt {a : Int} (h : a < 15) : (66 + a).toNat < 100 := by omega
theorem word_len {ns xs : List Int} (hx : List.take 5 ns ++ List.drop ns.length [0, 1, 0, 1] = xs) : min 5 ns.length + (4 - ns.length) = xs.length := by
  have hl := congrArg List.length hx
  rw [List.length_append, List.length_take, List.length_drop] at hl
  exact hl
theorem law_word {ns xs : List Int} {t1 t2 la lb lc : Int} (hx : List.take 5 ns ++ List.drop ns.length [0, 1, 0, 1] = xs) (ha : 0 ≤ la ∧ la < 15) (hb : (la + 1 + t1.fmod 7).fmod 15 = lb) (hc : (la + 8 + t2.fmod 7).fmod 15 = lc) : okWord (xs.map (letOf la lb lc)) = true := by
  have hl := word_len hx
  have hl2 : xs.length = 4 ∨ xs.length = 5 := by clear hb hc ha hx; omega
  obtain ⟨d1, d2, d3, b1, b2⟩ := letters_ne ha hb hc
  have e : xs.map (letOf la lb lc) = (xs.map fun x => (x.fmod 3).toNat).map (ren (66 + la).toNat (66 + lb).toNat (66 + lc).toNat) := by
    rw [List.map_map]
    exact List.map_congr_left fun x _ => let_ren la lb lc x
  rw [e]
  refine word_ok (by rw [List.length_map]; exact hl2) ?_ (to_ne ha.1 b1.1 d1) (to_ne ha.1 b2.1 d2) (to_ne b1.1 b2.1 d3) (to_lt ha.2) (to_lt b1.2) (to_lt b2.2)
  intro y hy
  obtain ⟨x, _, rfl⟩ := List.mem_map.mp hy
  have h := fmod_bd x 3 (by decide)
  clear d1 d2 d3
  omega
theorem word_ne {ns xs : List Int} (hx : List.take 5 ns ++ List.drop ns.length [0, 1, 0, 1] = xs) : xs ≠ [] := by
  intro e
  have h := word_len hx
  rw [e, List.length_nil] at h
  clear e hx
  omega
theorem word_le {ns xs : List Int} (hx : List.take 5 ns ++ List.drop ns.length [0, 1, 0, 1] = xs) : xs.length ≤ 9 := by
  have h := word_len hx
  clear hx
  omega
theorem to_pred {n : Nat} : ((n : Int) - 1).toNat = n - 1 := by omega
theorem out_le {n w : Nat} (h : n ≤ 10 * (w + 1)) (hw : w ≤ 9) : n ≤ 100 := by omega
theorem lt63 {i : Nat} (h : i ≤ 100000) : ((i : Nat) : Int) < 2 ^ 63 := by omega
theorem sz_a {p k : Nat} (h : p + 2 * (k + 1) ≤ 120) : p ≤ 900 := by omega
theorem sz_b {p r k : Nat} (h : p + 2 * (k + 1) ≤ 120) (h2 : r ≤ p + 1) : r ≤ 900 := by omega
theorem sz_c {y q k : Nat} (e : y = q) (h : q + 2 * k ≤ 120) : y ≤ 1000 := by omega
theorem okWord_loop {p : List Nat} (h : okWord p = true) : loopL 30 [p] [] [] = some (outerL p (p.length + 1)) := by
  unfold okWord at h
  rw [Bool.and_eq_true] at h
  exact eq_of_beq h.1
theorem okWord_sum {p : List Nat} (h : okWord p = true) {k j : Nat} (hkj : k ≤ j) (hj : j < (outerL p (p.length + 1)).length) : sumOf (rowsL (outerL p (p.length + 1))) k j = if j = k then 1 else 0 := by
  unfold okWord okSum at h
  rw [Bool.and_eq_true] at h
  have hn : (rowsL (outerL p (p.length + 1))).length = (outerL p (p.length + 1)).length := by unfold rowsL; rw [List.length_map, List.length_range]
  have h1 := List.all_eq_true.mp h.2 k (List.mem_range.mpr (by omega))
  have h2 := List.all_eq_true.mp h1 j (List.mem_range.mpr (by omega))
  rw [Bool.or_eq_true, decide_eq_true_eq, beq_iff_eq] at h2
  exact h2.resolve_left (by omega)
theorem law_loop {p : List Nat} (h : okWord p = true) (hl : p.length ≤ 9) (hb : ∀ c ∈ p, 66 ≤ c ∧ c < 81) : LoopOk 30 [p] [] [] (outerL p (p.length + 1)) :=
  ⟨okWord_loop h, AllOk.one ⟨hl, hb⟩, (fun _ h => nomatch h), (fun _ h => nomatch h), by simp, by simp, by simp⟩
theorem blank_cnt : ∀ j : Fin 4, cnt 10 (Txt.item (Str.ofString "\n\t\x0d ") (j.val : Int)).cps.toList = if (j.val : Int) = 0 then 1 else 0 := by decide +kernel
theorem dress_free {word : List Nat} (hb : ∀ c ∈ word, 66 ≤ c ∧ c < 81) (k : Int) : ∀ a ∈ (dressOf (ofL word) k).cps.toList, a ≠ 10 := by
  have h1 : ∀ a ∈ (if k.fdiv 2 = 1 then escAll (ofL word) else ofL word).cps.toList, a ≠ 10 := by
    split
    · intro a ha
      unfold escAll at ha
      obtain ⟨c, hc, h⟩ := List.mem_flatMap.mp (show a ∈ word.flatMap fun c => [92, c] from by simpa using ha)
      have := hb c hc
      rcases List.mem_cons.mp h with rfl | h
      · decide
      · rw [List.mem_singleton.mp h]; omega
    · intro a ha
      have := hb a (by simpa using ha)
      omega
  unfold dressOf
  dsimp only
  split
  · intro a ha
    rw [show (Str.ofString "\"" ++ (if k.fdiv 2 = 1 then escAll (ofL word) else ofL word) ++ Str.ofString "\"").cps.toList = 34 :: (if k.fdiv 2 = 1 then escAll (ofL word) else ofL word).cps.toList ++ [34] from by
      show (_ ++ _ ++ _ : Array Nat).toList = _
      rw [Array.toList_append, Array.toList_append]; rfl] at ha
    rcases List.mem_append.mp ha with h | h
    · rcases List.mem_cons.mp h with rfl | h
      · decide
      · exact h1 a h
    · rw [List.mem_singleton.mp h]; decide
  · exact h1
theorem text_count {word : List Nat} (hb : ∀ c ∈ word, 66 ≤ c ∧ c < 81) (k : Int) {j : Int} (hj : 0 ≤ j ∧ j < 4) : Txt.count (dressOf (ofL word) k ++ Txt.item (Str.ofString "\n\t\x0d ") j) (Str.ofString "\n") = if j = 0 then 1 else 0 := by
  rw [show Str.ofString "\n" = ⟨#[10]⟩ from rfl, count_cnt]
  show cnt 10 (_ ++ _ : Array Nat).toList = _
  rw [Array.toList_append, cnt_append, cnt_none 10 _ (fun h => dress_free hb k 10 h rfl), Int.zero_add]
  have h := blank_cnt ⟨j.toNat, by omega⟩
  simpa only [Int.toNat_of_nonneg hj.1] using h
theorem addNew_all {P : List Nat → Prop} {due : List (List Nat)} {x : List Nat} (h : ∀ l ∈ due, P l) (hx : P x) : ∀ l ∈ addNew due x, P l := by
  unfold addNew
  split
  · exact h
  · intro l hl
    rcases List.mem_append.mp hl with hl | hl
    · exact h l hl
    · rw [List.mem_singleton.mp hl]; exact hx
theorem outer_all {word : List Nat} (hl : word.length ≤ 9) (hb : ∀ c ∈ word, 66 ≤ c ∧ c < 81) : ∀ i, ∀ l ∈ outerL word i, l.length ≤ 9 ∧ ∀ c ∈ l, c ≠ 46
  | 0 => fun _ h => nomatch h
  | i + 1 => by
    have ih := outer_all hl hb i
    unfold outerL
    generalize outerL word i = due at ih
    have key : ∀ j, ∀ l ∈ innerL word (word.length - i) due j, l.length ≤ 9 ∧ ∀ c ∈ l, c ≠ 46 := by
      intro j
      induction j with
      | zero => exact ih
      | succ j ihj =>
        unfold innerL
        refine addNew_all ihj ⟨by rw [List.length_take, List.length_drop]; omega, fun c hc => ?_⟩
        have := hb c (List.mem_of_mem_drop (List.mem_of_mem_take hc))
        omega
    exact key (i + 1)
theorem dict_ne_list {prog : Program} {w : World} {g h : Heap} {L a b : Addr} {news : List (Addr × Obj)} {o : Obj} {ys : Array Value} {n : Nat} {kvs : List (Int × Value)} (N : News g L h news) (h1 : (a, o) ∈ news) (h2 : (b, PySem.W.listOf ys n) ∈ news) (hd : o.IsDictOf (intKind prog w) kvs) : a ≠ b := by
  rintro rfl
  have e1 := (N _ h1).1
  rw [(N _ h2).1] at e1
  have e2 : PySem.W.listOf ys n = o := by simpa using e1
  subst e2
  obtain ⟨es, ep, hd1, hd2, _⟩ := hd
  cases hd2
theorem range_snoc {α : Type} (f : Nat → α) (i : Nat) : (List.range (i + 1)).map f = (List.range i).map f ++ [f i] := by rw [List.range_succ, List.map_append]; rfl
/-- what the inner comprehension has taken of a row's keys -/
def takeI (rws : List (List (Int × Int))) (i : Nat) (j : Int) (q : Nat) : List Int := (((rws.getD i []).map (·.1)).take q).filterMap fun z => (rws.getD z.toNat []).lookup j
theorem takeI_none {rws : List (List (Int × Int))} {i q : Nat} {j z : Int} (h : ((rws.getD i []).map (·.1))[q]? = some z) (e : (rws.getD z.toNat []).lookup j = none) : takeI rws i j (q + 1) = takeI rws i j q := by
  unfold takeI
  rw [List.take_add_one, h, Option.toList_some, List.filterMap_append]
  simp only [List.filterMap_cons, e, List.filterMap_nil, List.append_nil]
theorem takeI_some {rws : List (List (Int × Int))} {i q : Nat} {j z n : Int} (h : ((rws.getD i []).map (·.1))[q]? = some z) (e : (rws.getD z.toNat []).lookup j = some n) : takeI rws i j (q + 1) = takeI rws i j q ++ [n] := by
  unfold takeI
  rw [List.take_add_one, h, Option.toList_some, List.filterMap_append]
  simp only [List.filterMap_cons, e, List.filterMap_nil]
theorem takeI_all {rws : List (List (Int × Int))} {i q j : Nat} (h : q = (rws.getD i []).length) : (takeI rws i (j : Int) q).sum = sumOf rws i j := by
  unfold takeI sumOf
  rw [h, show (rws.getD i []).length = ((rws.getD i []).map (·.1)).length by rw [List.length_map], List.take_length]
theorem rowL_keys {α : Type} [BEq α] (heard : List (List α)) (k : Nat) : ∀ n, ∀ z ∈ (rowL heard k n).map (·.1), ∃ m : Nat, z = (m : Int) ∧ m < k + n
  | 0, z, h => nomatch h
  | n + 1, z, h => by
    unfold rowL at h
    rw [List.map_append] at h
    rcases List.mem_append.mp h with h | h
    · obtain ⟨m, e, hm⟩ := rowL_keys heard k n z h
      exact ⟨m, e, by omega⟩
    · split at h
      · simp only [List.map_cons, List.map_nil, List.mem_singleton] at h
        exact ⟨k + n, h, by omega⟩
      · nomatch h
theorem rows_key {out : List (List Nat)} {i q : Nat} {z : Int} (hi : i < out.length) (h : (((rowsL out).getD i []).map (·.1))[q]? = some z) : ∃ m : Nat, z = (m : Int) ∧ m < out.length := by
  have e : (rowsL out).getD i [] = rowL out i (out.length - i) := by
    unfold rowsL
    rw [List.getD_eq_getElem?_getD, List.getElem?_map, List.getElem?_range hi]; rfl
  rw [e] at h
  obtain ⟨m, e, hm⟩ := rowL_keys out i (out.length - i) z (List.mem_of_getElem? h)
  exact ⟨m, e, by omega⟩
theorem rowsL_len (out : List (List Nat)) : (rowsL out).length = out.length := by unfold rowsL; rw [List.length_map, List.length_range]
theorem rows_small {out : List (List Nat)} {i : Nat} (hi : i < out.length) : ((rowsL out).getD i []).length ≤ out.length := by
  have e : (rowsL out).getD i [] = rowL out i (out.length - i) := by
    unfold rowsL
    rw [List.getD_eq_getElem?_getD, List.getElem?_map, List.getElem?_range hi]; rfl
  rw [e]
  have := rowL_len out i (out.length - i)
  omega
theorem ints_snoc {ys : List Value} {l : List Int} {n : Int} {t : Tok} (h : IntsAre ys l) : IntsAre (ys ++ [.int n t]) (l ++ [n]) := by
  induction h with
  | nil => exact .cons _ _ .nil
  | cons a b _ ih => exact .cons _ _ ih

end
section
def lexAt (a : LexAt) : List Addr := [a.pb, a.lx, a.dlx, a.fr, a.cd, a.pb0, a.st, a.dst, a.sl, a.cell]
/-- the lexer's objects are none of these -/
def Dis (a : LexAt) (rest : List (Addr × Obj)) : Prop := ∀ r ∈ rest, ∀ x ∈ lexAt a, x ≠ r.1
theorem Dis.use {w : World} {a : LexAt} {rest : List (Addr × Obj)} (h : Dis a rest) {q : List Value} {cq : Nat} {n : Int} {tn : Tok} {cs : List Value} {cc : Nat} : ∀ p ∈ LexW w a q cq n tn cs cc, ∀ r ∈ rest, p.1 ≠ r.1 := fun p hp r hr => by
  have e : (LexW w a q cq n tn cs cc).map (·.1) = lexAt a := rfl
  exact h r hr p.1 (e ▸ List.mem_map_of_mem hp)
theorem Dis.nil {a : LexAt} : Dis a [] := fun _ h => nomatch h
theorem Dis.above {w : World} {a : LexAt} (ok : LexOk w a) {r : Addr × Obj} {rest : List (Addr × Obj)} (h : @LT.lt Nat _ a.pb r.1) (hr : Dis a rest) : Dis a (r :: rest) := by
  intro r' hr'
  rcases List.mem_cons.mp hr' with rfl | hr'
  · intro x hx e
    obtain ⟨p, hp, rfl⟩ := List.mem_map.mp (show x ∈ (LexW w a [] 0 0 0 [] 0).map (·.1) from hx)
    have := (lex_in ok p hp).2
    rw [e] at this
    exact Nat.lt_irrefl _ (Nat.lt_of_le_of_lt this h)
  · exact hr r' hr'
theorem Dis.below {w : World} {a : LexAt} (ok : LexOk w a) {r : Addr × Obj} {rest : List (Addr × Obj)} (h : @LT.lt Nat _ r.1 a.cell) (hr : Dis a rest) : Dis a (r :: rest) := by
  intro r' hr'
  rcases List.mem_cons.mp hr' with rfl | hr'
  · intro x hx e
    obtain ⟨p, hp, rfl⟩ := List.mem_map.mp (show x ∈ (LexW w a [] 0 0 0 [] 0).map (·.1) from hx)
    have := (lex_in ok p hp).1
    rw [e] at this
    exact Nat.lt_irrefl _ (Nat.lt_of_lt_of_le h this)
  · exact hr r' hr'
def EndQ2 (End : Shared → Prop) (f : Flow) (s' : Shared) : Prop := ∀ Z : Flow → Shared → Prop, (∀ s', End s' → Z .next s') → Z f s'
theorem EndQ2.mk {End : Shared → Prop} {s' : Shared} (h : End s') : EndQ2 End .next s' := fun _ k => k _ h
theorem endq_all {End : Shared → Prop} {Z : Flow → Shared → Prop} (d : ∀ s', End s' → Z .next s') : ∀ f s', EndQ2 End f s' → Z f s' := fun _ _ h => h Z d
section
variable {x y z : Addr × Obj} {W R V : List (Addr × Obj)} {g h : Heap} {L : Addr}
theorem mem_mid : ∀ p ∈ W ++ (x :: R), p ∈ x :: (W ++ R) := fun p hp => by
  rcases List.mem_append.mp hp with h | h
  · exact .tail _ (List.mem_append_left _ h)
  · rcases List.mem_cons.mp h with rfl | h
    · exact .head _
    · exact .tail _ (List.mem_append_right _ h)
theorem mid_mem : ∀ p ∈ x :: (W ++ R), p ∈ W ++ (x :: R) := fun p hp => by
  rcases List.mem_cons.mp hp with rfl | h
  · exact List.mem_append_right _ (.head _)
  · rcases List.mem_append.mp h with h | h
    · exact List.mem_append_left _ h
    · exact List.mem_append_right _ (.tail _ h)
theorem mid_news (N : News g L h (W ++ (x :: R))) : News g L h (x :: (W ++ R)) := fun p hp => N p (mid_mem p hp)
theorem up3 {a b c : Addr × Obj} (H : ∀ p ∈ W, p ∈ V) : ∀ p ∈ W, p ∈ a :: b :: c :: V := fun p hp => .tail _ (.tail _ (.tail _ (H p hp)))
theorem up4 {a b c : Addr × Obj} (H : ∀ p ∈ W ++ R, p ∈ V) : ∀ p ∈ W ++ (x :: R), p ∈ x :: a :: b :: c :: V := fun p hp => by
  rcases List.mem_cons.mp (mem_mid p hp) with rfl | h
  · exact .head _
  · exact .tail _ (up3 H p h)
end
section
variable {w : World} {a : LexAt} {q : List Value} {cq : Nat} {n : Int} {tn : Tok} {cs : List Value} {cc : Nat} {g h : Heap} {L : Addr} {x : Addr × Obj} {R : List (Addr × Obj)} {G : Prop}
theorem lex_walk2 {H : Addr} {o : Obj} (N : News g L h (LexW w a q cq n tn cs cc ++ ((H, o) :: R))) (hx : x ∈ R) (off : ∀ p ∈ LexW w a q cq n tn cs cc ++ R, p.1 ≠ H) (k : ∀ V, (∀ p ∈ LexW w a q cq n tn cs cc ++ R, p ∈ V) → (∀ p ∈ x :: (a.lx, instObj 66 a.dlx) :: (a.dlx, lexDict w a n tn) :: V, p.1 ≠ H) → News g L h ((H, o) :: x :: (a.lx, instObj 66 a.dlx) :: (a.dlx, lexDict w a n tn) :: V) → G) : G :=
  have up : ∀ p ∈ x :: (a.lx, instObj 66 a.dlx) :: (a.dlx, lexDict w a n tn) :: (LexW w a q cq n tn cs cc ++ R), p ∈ LexW w a q cq n tn cs cc ++ R := fun p hp => by
    rcases List.mem_cons.mp hp with rfl | hp
    · exact List.mem_append_right _ hx
    rcases List.mem_cons.mp hp with rfl | hp
    · exact List.mem_append_left _ (.tail _ (.head _))
    rcases List.mem_cons.mp hp with rfl | hp
    · exact List.mem_append_left _ (.tail _ (.tail _ (.head _)))
    · exact hp
  k _ (fun _ h => h) (fun p hp => off p (up p hp)) (fun p hp => by
    rcases List.mem_cons.mp hp with rfl | hp
    · exact N _ (List.mem_append_right _ (.head _))
    · exact mid_news N p (.tail _ (up p hp)))
end
end
section
abbrev lwFr (S PP LX : Addr) (text word : Str) (total la : Int) (tx tw t1 t2 : Tok) (mn ml mp : Option Value) : Str → Option Value := fun y => if y = Str.ofString "number" then mn else if y = Str.ofString "less" then ml else if y = Str.ofString "part" then mp else
  if y = Str.ofString "pushed" then some (.ref PP) else if y = Str.ofString "lexer" then some (.ref LX) else if y = Str.ofString "text" then some (.str text tx) else if y = Str.ofString "word" then some (.str word tw) else wdFr S total la t1 t2 y
section
variable {g h : Heap} {L : Addr} {S PP LX : Addr} {text word : Str} {total la : Int} {tx tw t1 t2 : Tok} {mn ml mp : Option Value} {v1 v2 v3 : Value}
theorem lw_nlp (F : Fr g L h (fun y => if y = Str.ofString "part" then some v3 else if y = Str.ofString "less" then some v2 else if y = Str.ofString "number" then some v1 else lwFr S PP LX text word total la tx tw t1 t2 mn ml mp y)) : Fr g L h (lwFr S PP LX text word total la tx tw t1 t2 (some v1) (some v2) (some v3)) := fr_to F fun y => by
  by_cases h1 : y = Str.ofString "part"
  · subst h1; kernel_rfl
  · by_cases h2 : y = Str.ofString "less"
    · subst h2; kernel_rfl
    · by_cases h3 : y = Str.ofString "number"
      · subst h3; kernel_rfl
      · simp only [lwFr, if_neg h1, if_neg h2, if_neg h3]
theorem lw_lp (F : Fr g L h (fun y => if y = Str.ofString "part" then some v3 else if y = Str.ofString "less" then some v2 else lwFr S PP LX text word total la tx tw t1 t2 mn ml mp y)) : Fr g L h (lwFr S PP LX text word total la tx tw t1 t2 mn (some v2) (some v3)) := fr_to F fun y => by
  by_cases h1 : y = Str.ofString "part"
  · subst h1; kernel_rfl
  · by_cases h2 : y = Str.ofString "less"
    · subst h2; kernel_rfl
    · simp only [lwFr, if_neg h1, if_neg h2]
theorem lw_k {F0 : Str → Option Value} {mk : Option Value} {v : Value} (F : Fr g L h (fun y => if y = Str.ofString "k" then some v else if y = Str.ofString "k" then mk else F0 y)) : Fr g L h (fun y => if y = Str.ofString "k" then some v else F0 y) := fr_to F fun y => by
  by_cases h1 : y = Str.ofString "k"
  · simp only [if_pos h1]
  · simp only [if_neg h1]
end

theorem use_codeA {M : Model} {A : Around} {c : Sem Flow} {E : Value → Shared → Prop} {Q : Flow → Shared → Prop} {s : Shared} (PRE POST : List Nat → Tok → Value → Obj → List (List Nat) → List (List Nat) → Shared → Prop) (spec : ∀ v tv ml oI p q s', PRE v tv ml oI p q s' → wpAny M A c (EndQ2 (POST v tv ml oI p q)) (fun _ _ => False) s')
    (k : (∀ v tv ml oI p q s', PRE v tv ml oI p q s' → wpAny M A c (EndQ2 (POST v tv ml oI p q)) (fun _ _ => False) s') → wpAny M A c Q E s) : wpAny M A c Q E s := k spec
section
variable {x y z l i : Addr × Obj} {W R V : List (Addr × Obj)} {g h : Heap} {L : Addr}
theorem permA : ∀ p ∈ x :: (W ++ (z :: y :: l :: R)), p ∈ W ++ (y :: x :: l :: z :: R) := fun p hp => by
  rcases List.mem_cons.mp hp with rfl | h
  · exact List.mem_append_right _ (.tail _ (.head _))
  rcases List.mem_append.mp h with h | h
  · exact List.mem_append_left _ h
  refine List.mem_append_right _ ?_
  rcases List.mem_cons.mp h with rfl | h
  · exact .tail _ (.tail _ (.tail _ (.head _)))
  rcases List.mem_cons.mp h with rfl | h
  · exact .head _
  rcases List.mem_cons.mp h with rfl | h
  · exact .tail _ (.tail _ (.head _))
  · exact .tail _ (.tail _ (.tail _ (.tail _ h)))
theorem permB : ∀ p ∈ W ++ (y :: x :: l :: z :: R), p ∈ x :: (W ++ (z :: y :: l :: R)) := fun p hp => by
  rcases List.mem_append.mp hp with h | h
  · exact .tail _ (List.mem_append_left _ h)
  rcases List.mem_cons.mp h with rfl | h
  · exact .tail _ (List.mem_append_right _ (.tail _ (.head _)))
  rcases List.mem_cons.mp h with rfl | h
  · exact .head _
  rcases List.mem_cons.mp h with rfl | h
  · exact .tail _ (List.mem_append_right _ (.tail _ (.tail _ (.head _))))
  rcases List.mem_cons.mp h with rfl | h
  · exact .tail _ (List.mem_append_right _ (.head _))
  · exact .tail _ (List.mem_append_right _ (.tail _ (.tail _ (.tail _ h))))
theorem permC : ∀ p ∈ W ++ (z :: y :: R), p ∈ W ++ (z :: y :: l :: R) := fun p hp => by
  rcases List.mem_append.mp hp with h | h
  · exact List.mem_append_left _ h
  refine List.mem_append_right _ ?_
  rcases List.mem_cons.mp h with rfl | h
  · exact .head _
  rcases List.mem_cons.mp h with rfl | h
  · exact .tail _ (.head _)
  · exact .tail _ (.tail _ (.tail _ h))
/-- the ledger behind the loop's head, as the turn's join wants it -/
theorem permD {a b c : Addr × Obj} (H : ∀ p ∈ W ++ (y :: R), p ∈ V) : ∀ p ∈ W ++ (y :: x :: l :: z :: R), p ∈ x :: l :: z :: a :: b :: c :: V := fun p hp => by
  rcases List.mem_append.mp hp with h | h
  · exact .tail _ (.tail _ (.tail _ (.tail _ (.tail _ (.tail _ (H p (List.mem_append_left _ h)))))))
  rcases List.mem_cons.mp h with rfl | h
  · exact .tail _ (.tail _ (.tail _ (.tail _ (.tail _ (.tail _ (H _ (List.mem_append_right _ (.head _))))))))
  rcases List.mem_cons.mp h with rfl | h
  · exact .head _
  rcases List.mem_cons.mp h with rfl | h
  · exact .tail _ (.head _)
  rcases List.mem_cons.mp h with rfl | h
  · exact .tail _ (.tail _ (.head _))
  · exact .tail _ (.tail _ (.tail _ (.tail _ (.tail _ (.tail _ (H p (List.mem_append_right _ (.tail _ h))))))))
theorem all_app {P : Addr × Obj → Prop} (h1 : ∀ p ∈ W, P p) (h2 : ∀ p ∈ R, P p) : ∀ p ∈ W ++ R, P p := fun p hp => (List.mem_append.mp hp).elim (h1 p) (h2 p)
end
theorem pack4 {x1 x2 x3 x4 : Addr × Obj} {G : Prop} (k : ∀ r : List (Addr × Obj), x1 ∈ r → x2 ∈ r → x3 ∈ r → x4 ∈ r → (∀ p ∈ r, p ∈ [x1, x2, x3, x4]) → G) : G :=
  k [x1, x2, x3, x4] (.head _) (.tail _ (.head _)) (.tail _ (.tail _ (.head _))) (.tail _ (.tail _ (.tail _ (.head _)))) (fun _ h => h)
theorem all4 {P : Addr × Obj → Prop} {x1 x2 x3 x4 : Addr × Obj} (h1 : P x1) (h2 : P x2) (h3 : P x3) (h4 : P x4) : ∀ p ∈ [x1, x2, x3, x4], P p :=
  List.forall_mem_cons.mpr ⟨h1, List.forall_mem_cons.mpr ⟨h2, List.forall_mem_cons.mpr ⟨h3, List.forall_mem_cons.mpr ⟨h4, List.forall_mem_nil _⟩⟩⟩⟩
section
variable (w : World) (a : LexAt) (g : Heap) (L0 : Addr) (s1 : Shared) (n0 : Int) (rest : List Str)
/-- the state around the pushing of a word: p: the words pushed so far, q: the words that wait -/
def ISt (tn : Tok) (cs : List Value) (cc : Nat) (m : Str → Option Value) (PP : Addr) (R : List (Addr × Obj)) (p q : List (List Nat)) (s' : Shared) : Prop :=
  ∀ Z : Shared → Prop, (∀ (ysP : List Value) (cP : Nat) (ysQ : List Value) (cQ : Nat) (h : Heap) (tk : Nat), StrsAre ysP (p.map ofL) → StrsAre ysQ (q.map ofL) → Fr g L0 h m → News g L0 h (LexW w a ysQ cQ n0 tn cs cc ++ ((PP, PySem.W.listOf ysP.toArray cP) :: R)) → Z { s1 with heap := h, toks := tk }) → Z s'
variable {w a g L0 s1 n0 rest}
theorem ist_all {tn : Tok} {cs : List Value} {cc : Nat} {m : Str → Option Value} {PP : Addr} {R : List (Addr × Obj)} {p q : List (List Nat)} {Z : Shared → Prop} (d : ∀ (ysP : List Value) (cP : Nat) (ysQ : List Value) (cQ : Nat) (h : Heap) (tk : Nat), StrsAre ysP (p.map ofL) → StrsAre ysQ (q.map ofL) → Fr g L0 h m → News g L0 h (LexW w a ysQ cQ n0 tn cs cc ++ ((PP, PySem.W.listOf ysP.toArray cP) :: R)) → Z { s1 with heap := h, toks := tk }) :
    ∀ s', ISt w a g L0 s1 n0 tn cs cc m PP R p q s' → Z s' := fun _ hp => hp Z d
theorem ISt.mk {tn : Tok} {cs : List Value} {cc : Nat} {m : Str → Option Value} {PP : Addr} {R : List (Addr × Obj)} {p q p' q' : List (List Nat)} {ysP : List Value} {cP : Nat} {ysQ : List Value} {cQ : Nat} {h : Heap} {tk : Nat} (h1 : StrsAre ysP (p.map ofL)) (h2 : StrsAre ysQ (q.map ofL)) (e1 : p = p') (e2 : q = q') (F : Fr g L0 h m) (N : News g L0 h (LexW w a ysQ cQ n0 tn cs cc ++ ((PP, PySem.W.listOf ysP.toArray cP) :: R))) :
    ISt w a g L0 s1 n0 tn cs cc m PP R p' q' { s1 with heap := h, toks := tk } := by
  subst e1; subst e2
  exact fun _ k => k _ _ _ _ _ _ h1 h2 F N
variable (w a g L0 s1 n0 rest)
def LSt (H PP : Addr) (r4 : List (Addr × Obj)) (fr : Option Value → Option Value → Option Value → Str → Option Value) (out : List (List Nat)) (k : Nat) (s' : Shared) : Prop :=
  ∀ Z : Shared → Prop, (∀ (heard pushed q : List (List Nat)) (ysH ysP ysQ cs : List Value) (cH cP cq cc : Nat) (tn : Tok) (mn ml mp : Option Value) (h : Heap) (tk : Nat), LoopOk k heard pushed q out → StrsAre ysH (heard.map ofL) → StrsAre ysP (pushed.map ofL) → StrsAre ysQ (q.map ofL) → StrsAre cs rest →
    Fr g L0 h (fr mn ml mp) → News g L0 h (LexW w a ysQ cq n0 tn cs cc ++ ((H, PySem.W.listOf ysH.toArray cH) :: (PP, PySem.W.listOf ysP.toArray cP) :: r4)) → Z { s1 with heap := h, toks := tk }) → Z s'
def LEnd (H PP : Addr) (r4 : List (Addr × Obj)) (fr : Option Value → Option Value → Option Value → Str → Option Value) (out : List (List Nat)) (s' : Shared) : Prop :=
  ∀ Z : Shared → Prop, (∀ (ysH ysP cs : List Value) (cH cP cq cc : Nat) (tn : Tok) (mn ml mp : Option Value) (h : Heap) (tk : Nat), StrsAre ysH (out.map ofL) → StrsAre cs rest →
    Fr g L0 h (fr mn ml mp) → News g L0 h (LexW w a [] cq n0 tn cs cc ++ ((H, PySem.W.listOf ysH.toArray cH) :: (PP, PySem.W.listOf ysP.toArray cP) :: r4)) → Z { s1 with heap := h, toks := tk }) → Z s'
variable {w a g L0 s1 n0 rest}
theorem lst_all {H PP : Addr} {r4 : List (Addr × Obj)} {fr : Option Value → Option Value → Option Value → Str → Option Value} {out : List (List Nat)} {Z : Nat → Shared → Prop} (d : ∀ (k : Nat) (heard pushed q : List (List Nat)) (ysH ysP ysQ cs : List Value) (cH cP cq cc : Nat) (tn : Tok) (mn ml mp : Option Value) (h : Heap) (tk : Nat), LoopOk k heard pushed q out → StrsAre ysH (heard.map ofL) → StrsAre ysP (pushed.map ofL) → StrsAre ysQ (q.map ofL) → StrsAre cs rest →
    Fr g L0 h (fr mn ml mp) → News g L0 h (LexW w a ysQ cq n0 tn cs cc ++ ((H, PySem.W.listOf ysH.toArray cH) :: (PP, PySem.W.listOf ysP.toArray cP) :: r4)) → Z k { s1 with heap := h, toks := tk }) :
    ∀ k s', LSt w a g L0 s1 n0 rest H PP r4 fr out k s' → Z k s' := fun k _ hp => hp (Z k) (d k)
theorem LSt.mk {H PP : Addr} {r4 : List (Addr × Obj)} {fr : Option Value → Option Value → Option Value → Str → Option Value} {out : List (List Nat)} {k : Nat} {heard pushed q : List (List Nat)} {ysH ysP ysQ cs : List Value} {cH cP cq cc : Nat} {tn : Tok} {mn ml mp : Option Value} {h : Heap} {tk : Nat} (hL : LoopOk k heard pushed q out) (hH : StrsAre ysH (heard.map ofL)) (hP : StrsAre ysP (pushed.map ofL)) (hQ : StrsAre ysQ (q.map ofL)) (hC : StrsAre cs rest)
    (F : Fr g L0 h (fr mn ml mp)) (N : News g L0 h (LexW w a ysQ cq n0 tn cs cc ++ ((H, PySem.W.listOf ysH.toArray cH) :: (PP, PySem.W.listOf ysP.toArray cP) :: r4))) : LSt w a g L0 s1 n0 rest H PP r4 fr out k { s1 with heap := h, toks := tk } := fun _ k => k _ _ _ _ _ _ _ _ _ _ _ _ _ _ _ _ _ hL hH hP hQ hC F N
theorem lend_all {H PP : Addr} {r4 : List (Addr × Obj)} {fr : Option Value → Option Value → Option Value → Str → Option Value} {out : List (List Nat)} {Z : Shared → Prop} (d : ∀ (ysH ysP cs : List Value) (cH cP cq cc : Nat) (tn : Tok) (mn ml mp : Option Value) (h : Heap) (tk : Nat), StrsAre ysH (out.map ofL) → StrsAre cs rest →
    Fr g L0 h (fr mn ml mp) → News g L0 h (LexW w a [] cq n0 tn cs cc ++ ((H, PySem.W.listOf ysH.toArray cH) :: (PP, PySem.W.listOf ysP.toArray cP) :: r4)) → Z { s1 with heap := h, toks := tk }) :
    ∀ s', LEnd w a g L0 s1 n0 rest H PP r4 fr out s' → Z s' := fun _ hp => hp Z d
theorem LEnd.mk {H PP : Addr} {r4 : List (Addr × Obj)} {fr : Option Value → Option Value → Option Value → Str → Option Value} {out : List (List Nat)} {ysH ysP cs : List Value} {cH cP cq cc : Nat} {tn : Tok} {mn ml mp : Option Value} {h : Heap} {tk : Nat} (hH : StrsAre ysH (out.map ofL)) (hC : StrsAre cs rest)
    (F : Fr g L0 h (fr mn ml mp)) (N : News g L0 h (LexW w a [] cq n0 tn cs cc ++ ((H, PySem.W.listOf ysH.toArray cH) :: (PP, PySem.W.listOf ysP.toArray cP) :: r4))) : LEnd w a g L0 s1 n0 rest H PP r4 fr out { s1 with heap := h, toks := tk } := fun _ k => k _ _ _ _ _ _ _ _ _ _ _ _ _ hH hC F N
end
/-- the words of the last two loops -/
def KJ (F0 : Str → Option Value) (x1 x2 x3 : Addr × Obj) (J : Addr) (R : List (Addr × Obj)) (_ : Nat) (m : Str → Option Value) (nx : List (Addr × Obj)) : Prop :=
  ∀ Z : (Str → Option Value) → List (Addr × Obj) → Prop, (∀ (mk : Option Value) (o : Obj) (c : Option Value), o.data = Data.cell c → Z (fun y => if y = Str.ofString "k" then mk else F0 y) (x1 :: x2 :: x3 :: (J, o) :: R)) → Z m nx
theorem kj_all {F0 : Str → Option Value} {x1 x2 x3 : Addr × Obj} {J : Addr} {R : List (Addr × Obj)} {i : Nat} {Z : (Str → Option Value) → List (Addr × Obj) → Prop} (d : ∀ (mk : Option Value) (o : Obj) (c : Option Value), o.data = Data.cell c → Z (fun y => if y = Str.ofString "k" then mk else F0 y) (x1 :: x2 :: x3 :: (J, o) :: R)) : ∀ m nx, KJ F0 x1 x2 x3 J R i m nx → Z m nx := fun _ _ hp => hp Z d
theorem KJ.mk {F0 : Str → Option Value} {x1 x2 x3 : Addr × Obj} {J : Addr} {R : List (Addr × Obj)} {i : Nat} {mk : Option Value} {o : Obj} {c : Option Value} (h : o.data = Data.cell c) : KJ F0 x1 x2 x3 J R i (fun y => if y = Str.ofString "k" then mk else F0 y) (x1 :: x2 :: x3 :: (J, o) :: R) := fun _ k => k _ _ _ h
def JJ (m0 : Str → Option Value) (x0 x1 x2 x3 : Addr × Obj) (J : Addr) (R : List (Addr × Obj)) (_ : Nat) (m : Str → Option Value) (nx : List (Addr × Obj)) : Prop :=
  ∀ Z : (Str → Option Value) → List (Addr × Obj) → Prop, (∀ (o : Obj) (c : Option Value), o.data = Data.cell c → Z m0 (x0 :: x1 :: x2 :: x3 :: (J, o) :: R)) → Z m nx
theorem jj_all {m0 : Str → Option Value} {x0 x1 x2 x3 : Addr × Obj} {J : Addr} {R : List (Addr × Obj)} {i : Nat} {Z : (Str → Option Value) → List (Addr × Obj) → Prop} (d : ∀ (o : Obj) (c : Option Value), o.data = Data.cell c → Z m0 (x0 :: x1 :: x2 :: x3 :: (J, o) :: R)) : ∀ m nx, JJ m0 x0 x1 x2 x3 J R i m nx → Z m nx := fun _ _ hp => hp Z d
theorem JJ.mk {m0 : Str → Option Value} {x0 x1 x2 x3 : Addr × Obj} {J : Addr} {R : List (Addr × Obj)} {i : Nat} {o : Obj} {c : Option Value} (h : o.data = Data.cell c) : JJ m0 x0 x1 x2 x3 J R i m0 (x0 :: x1 :: x2 :: x3 :: (J, o) :: R) := fun _ k => k _ _ h
theorem off3_one {I C D : Addr} {x : Addr × Obj} {r : List (Addr × Obj)} (h : LCg.Off3 I C D (x :: r)) : @Ne Nat x.1 I ∧ @Ne Nat x.1 C ∧ @Ne Nat x.1 D := h.1
theorem off3_ins {I C D : Addr} {x1 x2 x3 x4 x5 y : Addr × Obj} {r : List (Addr × Obj)} (h : LCg.Off3 I C D (x1 :: x2 :: x3 :: x4 :: x5 :: r)) (h1 : @Ne Nat y.1 I) (h2 : @Ne Nat y.1 C) (h3 : @Ne Nat y.1 D) : LCg.Off3 I C D (x1 :: x2 :: x3 :: x4 :: x5 :: y :: r) := ⟨h.1, h.2.1, h.2.2.1, h.2.2.2.1, h.2.2.2.2.1, ⟨h1, h2, h3⟩, h.2.2.2.2.2⟩
theorem off1_5 {D : Nat} {a1 a2 a3 a4 a5 : Nat} {o1 o2 o3 o4 o5 : Obj} {r : List (Addr × Obj)} {G : Prop} (h : LCg.Off1 D ((a1, o1) :: (a2, o2) :: (a3, o3) :: (a4, o4) :: (a5, o5) :: r)) (k : a1 ≠ D → a2 ≠ D → a3 ≠ D → a4 ≠ D → a5 ≠ D → LCg.Off1 D r → G) : G := k h.1 h.2.1 h.2.2.1 h.2.2.2.1 h.2.2.2.2.1 h.2.2.2.2.2
theorem off_6 {D : Nat} {a1 a2 a3 a4 a5 a6 : Nat} {o1 o2 o3 o4 o5 o6 : Obj} {r : List (Addr × Obj)} {G : Prop} (h : ∀ p ∈ ((a1 : Addr), o1) :: (a2, o2) :: (a3, o3) :: (a4, o4) :: (a5, o5) :: (a6, o6) :: r, p.1 ≠ D) (k : a1 ≠ D → a2 ≠ D → a3 ≠ D → a4 ≠ D → a5 ≠ D → a6 ≠ D → (∀ p ∈ r, p.1 ≠ D) → G) : G :=
  k (h _ (.head _)) (h _ (.tail _ (.head _))) (h _ (.tail _ (.tail _ (.head _)))) (h _ (.tail _ (.tail _ (.tail _ (.head _))))) (h _ (.tail _ (.tail _ (.tail _ (.tail _ (.head _)))))) (h _ (.tail _ (.tail _ (.tail _ (.tail _ (.tail _ (.head _))))))) (fun p hp => h p (.tail _ (.tail _ (.tail _ (.tail _ (.tail _ (.tail _ hp)))))))
theorem off_7 {D : Nat} {a0 a1 a2 a3 a4 a5 a6 : Nat} {o0 o1 o2 o3 o4 o5 o6 : Obj} {r : List (Addr × Obj)} {G : Prop} (h : ∀ p ∈ ((a0 : Addr), o0) :: (a1, o1) :: (a2, o2) :: (a3, o3) :: (a4, o4) :: (a5, o5) :: (a6, o6) :: r, p.1 ≠ D) (k : a0 ≠ D → a1 ≠ D → a2 ≠ D → a3 ≠ D → a4 ≠ D → a5 ≠ D → a6 ≠ D → (∀ p ∈ r, p.1 ≠ D) → G) : G :=
  k (h _ (.head _)) (h _ (.tail _ (.head _))) (h _ (.tail _ (.tail _ (.head _)))) (h _ (.tail _ (.tail _ (.tail _ (.head _))))) (h _ (.tail _ (.tail _ (.tail _ (.tail _ (.head _)))))) (h _ (.tail _ (.tail _ (.tail _ (.tail _ (.tail _ (.head _))))))) (h _ (.tail _ (.tail _ (.tail _ (.tail _ (.tail _ (.tail _ (.head _)))))))) (fun p hp => h p (.tail _ (.tail _ (.tail _ (.tail _ (.tail _ (.tail _ (.tail _ hp))))))))

end
section
local macro_rules | `(tactic| walk_at "compareOp NotIn str ref") => `(tactic| refine hold_in ?_)
local macro_rules | `(tactic| walk_at "call builtin:list.append") => `(tactic| refine hold_in ?_)
local macro_rules | `(tactic| walk_at "call builtin:len") => `(tactic| (k_here; (with_reducible show wpAny _ _ (call (Value.builtin "len") [Value.str _ _]) _ _ _); (simp only [last_get]); refine len_str (by omega) ?_))
local macro_rules | `(tactic| walk_at "binaryOp Pow int int") => `(tactic| refine hold_in ?_)
local macro_rules | `(tactic| walk_at "exec While Compare cons nil") => `(tactic| refine hold_in ?_)
local macro_rules | `(tactic| walk_at "binaryOp Add str str") => `(tactic| refine hold_in ?_)
local macro_rules | `(tactic| walk_at "call builtin:chr") => `(tactic| refine hold_in ?_)
local macro_rules | `(tactic| walk_at "call ref") => `(tactic| refine hold_in ?_)
local macro_rules | `(tactic| walk_at "eval ListComp") => `(tactic| ((with_reducible show wpAny _ _ (eval (Expr.ListComp (Expr.Call _ _ _ _) _ _ _) _) _ _ _); refine hold_in ?_))
local macro_rules | `(tactic| walk_at "exec If Compare cons nil") => `(tactic| ((with_reducible show wpAny _ _ (exec (Stmt.If (Expr.Compare _ [CmpOp.NotIn] _ _) _ _ _) _) _ _ _); refine hold_in ?_))
local macro_rules | `(tactic| walk_at "eval ListComp") => `(tactic| ((with_reducible show wpAny _ _ (eval (Expr.ListComp (Expr.Subscript _ _ _) _ _ _) _) _ _ _); refine hold_in ?_))
local macro_rules | `(tactic| walk_at "subscriptTail Name Name ref int") => `(tactic| refine hold_in ?_)
local macro_rules | `(tactic| walk_at "subscriptTail Subscript Name ref int") => `(tactic| refine hold_in ?_)
local macro_rules | `(tactic| walk_at "compareOp In int ref") => `(tactic| refine hold_in ?_)
local macro_rules | `(tactic| walk_at "exec For Name Call cons nil") => `(tactic| refine hold_in ?_)
local macro_rules | `(tactic| walk_at "pyIter ref") => `(tactic| ((with_reducible show wpAny _ _ (pyIter (Value.ref _)) (fun it s₂ => codeAny _ _ (Code.forLoop _ _ _ _ _) _ _) _ _); refine hold_in ?_))
theorem name_secondo {g h : Heap} {L a b : Addr} {o o' : Obj} {r : List (Addr × Obj)} (_ : News g L h ((b, o') :: (a, o) :: r)) : ∃ D, D = o := ⟨o, rfl⟩
theorem name_mn {g h : Heap} {L : Addr} {S PP LX : Addr} {text word : Str} {total la : Int} {tx tw t1 t2 : Tok} {mn ml mp : Option Value} (_ : Fr g L h (lwFr S PP LX text word total la tx tw t1 t2 mn ml mp)) : ∃ D, D = mn := ⟨mn, rfl⟩
theorem own_ne {own : List (Addr × Obj)} {b d : Nat} (h : ∀ p ∈ own, @LT.lt Nat _ b p.1) (hd : d ≤ b) : ∀ p ∈ own, p.1 ≠ d := fun p hp => Nat.ne_of_gt (Nat.lt_of_le_of_lt hd (h p hp))
local macro_rules | `(tactic| k_all) => `(tactic| (refine own_ne (by assumption) ?_; (try dsimp only); omega))
local macro_rules | `(tactic| k_all) => `(tactic| with_reducible assumption)
local macro_rules | `(tactic| walk_at "compareOp NotEq ref ref") => `(tactic| refine hold_in ?_)
local macro_rules | `(tactic| walk_at "subscriptTail List cons Slice ref ref") => `(tactic| refine hold_in ?_)
theorem strs_ne_same {prog : Program} {w : World} {A : Around} {E : Value → Shared → Prop} {s : Shared} {Q : Value → Shared → Prop} {g : Heap} {L a b : Addr} {news : List (Addr × Obj)} {xs ys : List Value} {ns : List Str} {n m : Nat} (N : News g L s.heap news) (ha : (a, PySem.W.listOf xs.toArray n) ∈ news) (hb : (b, PySem.W.listOf ys.toArray m) ∈ news) (hi : StrsAre xs ns) (hj : StrsAre ys ns) (hu : A.units + 64 < cLine) (h : Q (.bool false) s) :
    wpAny (model prog w) A (compareOp .NotEq (.ref a) (.ref b)) Q E s :=
  strs_ne ⟨_, (N _ ha).1, rfl, n, rfl⟩ ⟨_, (N _ hb).1, rfl, m, rfl⟩ hi hj hu (by rw [decide_eq_true rfl]; exact h)
theorem item_dictR {prog : Program} {w : World} {A : Around} {E : Value → Shared → Prop} {s : Shared} {g : Heap} {L d : Addr} {news : List (Addr × Obj)} {o : Obj} {kvs : List (Int × Value)} {k : Int} {t : Tok} {v : Value} {value slice : PySem.Expr} {Q : Value → Shared → Prop} (N : News g L s.heap news) (hp : (d, o) ∈ news) (hd : o.IsDictOf (intKind prog w) kvs) (hl : valueAt kvs k = some v) (h : Q v { s with toks := s.toks + 1 })
    (hs : subscripted slice false (.ref d) (.int k t) = operate [.ref d, .int k t] (getItem (.ref d) (.int k t)) := by with_unfolding_all rfl) : wpAny (model prog w) A (subscriptTail value slice (.ref d) (.int k t)) Q E s :=
  have hD := kda_dict N hp hd
  subscriptTail_builtinR hD.typeIs slot_dict_getitem.lookup (wpAny_getItem_of (Q := fun r s' => r = v ∧ Q r s') (intKind_is _ _ _ _) hD.mapOf hl ⟨rfl, h⟩) hs
theorem notin_mem {prog : Program} {w : World} {A : Around} {E : Value → Shared → Prop} {s : Shared} {Q : Value → Shared → Prop} {g : Heap} {L PP : Addr} {news : List (Addr × Obj)} {ys : List Value} {l : List (List Nat)} {x : List Nat} {n : Nat} {t : Tok} (N : News g L s.heap news) (hm : (PP, PySem.W.listOf ys.toArray n) ∈ news) (hS : StrsAre ys (l.map ofL)) (h : Q (.bool (!l.contains x)) s) :
    wpAny (model prog w) A (compareOp .NotIn (.str (ofL x) t) (.ref PP)) Q E s :=
  notin_list_strs ⟨_, (N _ hm).1, rfl, n, rfl⟩ hS (by rw [any_ofL]; exact h)
theorem cut_cont {M : Model} {A : Around} {c : Code} {R : Result → Shared → Prop} {s : Shared} (End : Shared → Prop) (h : ∀ R' : Result → Shared → Prop, (∀ s', End s' → R' (.ok .next) s') → codeAny M A c R' s) (k : ∀ s', End s' → R (.ok .next) s') : codeAny M A c R s := h R k
set_option pp.maxSteps 3000
set_option maxHeartbeats 8000000 in
theorem law_holds : PySem.Challenge.rw_sc0030_01.Holds := Mine.hd (by
  k_go0
  all_goals try k_fold
  k_with_none
  dsimp only
  with_reducible rename World => w0
  with_reducible rename List Int => ns
  with_reducible rename IntsAre _ _ => hns
  with_reducible rename ¬(_ : Int) < _ => hlen
  with_reducible rename Heap.IsList (ghostOf _ _) _ _ => hlist
  with_reducible rename Fr _ _ _ _ => F0
  with_reducible rename News _ _ _ _ => N0
  with_reducible rename Below _ _ _ _ => B0
  with_reducible rename Frag.In _ (ghostOf _ _) => X0
  with_reducible rename Top topProg _ _ _ _ _ => T0
  with_reducible rename CodeHd _ _ _ => hC9
  with_reducible rename _ < _ => l0
  with_reducible rename CellsAre _ _ _ => Y0
  clear Y0
  rename_i oJ oR oH oL dJ dR dH dL
  replace dJ : oJ.data = Data.cell none := dJ
  replace dR : oR.data = Data.cell none := dR
  replace dH : oH.data = Data.cell none := dH
  replace dL : oL.data = Data.cell none := dL
  obtain ⟨S, hS⟩ := name_list hlist
  subst hS
  replace F0 := fr_to (m' := fun y => if y = Str.ofString "script" then some (.ref S) else none) F0 (fun y => by
    by_cases h1 : y = Str.ofString "script"
    · subst h1; rfl
    · exact (if_neg h1).trans (if_neg h1).symm)
  repeat (with_reducible rename Heap.CodeRec _ _ _ => zz; clear zz)
  repeat (with_reducible rename Dflts _ _ _ => zz; clear zz)
  repeat (with_reducible rename Ground _ _ _ _ _ _ _ _ _ => zz; clear zz)
  repeat (with_reducible rename Flt.MathXP _ _ _ => zz; clear zz)
  repeat (with_reducible rename LooseAre _ _ _ => zz; clear zz)
  repeat (with_reducible rename Tables _ _ _ _ => zz; clear zz)
  repeat (with_reducible rename TopE _ _ _ _ => zz; clear zz)
  repeat (with_reducible rename TopW _ _ _ => zz; clear zz)
  repeat (with_reducible rename TabsAt _ _ => zz; clear zz)
  repeat (with_reducible rename ReadsAll _ _ _ _ => zz; clear zz)
  repeat (with_reducible rename ReadsAllW _ _ _ _ _ _ => zz; clear zz)
  repeat (with_reducible rename Well _ _ _ _ => zz; clear zz)
  repeat (with_reducible rename Reads _ _ _ _ => zz; clear zz)
  with_reducible rename Heap.get? _ _ = some _ => ho
  with_reducible rename Shared => s1
  obtain ⟨L0, hL0⟩ : ∃ x : Nat, x = s1.heap.objs.size := ⟨_, rfl⟩
  obtain ⟨g, hg⟩ : ∃ g, g = ghostOf s1.heap [(76, 72)] := ⟨_, rfl⟩
  rw [← hL0] at N0
  rw [← hL0] at F0
  rw [← hL0] at l0
  rw [← hg] at N0 F0 X0 B0 T0 hC9 hlist
  replace hC9 : CodeHd g 76 72 := hC9
  replace l0 : @LT.lt Nat _ 72 L0 := l0
  rw [← hL0]
  (repeat' (first |  (k_unfold; (try dsimp only)) | (k_here; (with_reducible show wpAny _ _ (eval (Expr.Name _ _) (compEnv _ _ _)) _ _ _); k_dflt (first | (refine name_locS rfl rfl rfl (by decide) (by with_reducible assumption) (by assumption) ?_; k_whole) | (refine nameG_BS rfl rfl rfl rfl (by decide) (by k_asm) (by k_asm) (by k_asm) (by k_is) (by boot_fast) (by decide) ?_; k_whole))) | (k_here; (with_reducible show wpAny _ _ (call (Value.type _) [Value.str _ _]) _ _ _); k_dflt (refine list_strN rfl (by k_asm) (by k_asm) ?_ (by rw [sizeLine_eq]; omega)); intro D9 ys9 c9 h9 tk9 F9 N9 l9 m9 hS9; (try k_lt l9); (try k_sweep)) | (k_here; (with_reducible show wpAny _ _ (compareOp CmpOp.Eq (Value.ref _) (Value.ref _)) _ _ _); k_dflt (refine strs_eq (by is_list) (by is_list) (by first | k_asm | exact StrsAre.nil) (by first | exact StrsAre.nil | k_asm) (by ke_room) ?_)) | (k_here; (with_reducible show wpAny _ _ (call (Value.builtin _) [Value.ref _, Value.int 0 _]) _ _ _); k_dflt (refine pop_first (by k_asm) (by k_asm) (by k_upd) (by (rw [sizeLine_eq]; (try have hL9 := PyProof.Rows.StrsAre.length (by assumption)); (try simp only [List.length_cons] at *); omega)) ?_; k_whole); intro h9 F9 N9; (try k_sweep)) | (k_here; (with_reducible show wpAny _ _ (call (Value.builtin "len") [Value.ref _]) _ _ _); k_dflt (refine len_strsA (by is_list) (by assumption) (by ((try simp only [List.length_map]); omega)) ?_; k_whole); (try simp only [List.length_map])) | walk1 | (k_here; (with_reducible show wpAny _ _ (compareOp CmpOp.NotEq (Value.ref _) (Value.ref _)) _ _ _); k_dflt (first | refine strs_ne_nil (by is_list) (by is_list) (by ke_room) ?_ | refine strs_ne_cons (by is_list) (by is_list) (by k_asm) (by ke_room) ?_ | refine strs_ne (by is_list) (by is_list) (by first | k_asm | exact StrsAre.nil) (by first | exact StrsAre.nil | k_asm) (by ke_room) ?_)) | (k_here; (with_reducible show wpAny _ _ (call (Value.builtin "len") [Value.str _ _]) _ _ _); refine len_str (by omega) ?_) | (dsimp only; walk1) | (dsimp only; k_unfold; (try dsimp only)) | fail "no step"))
  refine hold_out ?_
  with_reducible rename News _ _ _ _ => N1
  with_reducible rename Fr _ _ _ _ => F1
  with_reducible rename Obj.data _ = Data.cell (some _) => dL'
  obtain ⟨total, hT⟩ : ∃ x, x = (List.map (fun k' => Int.fmod k' 1000000) (List.take 63 ns)).sum := ⟨_, rfl⟩
  rw [← hT] at F1 N1
  have hA := fmod_bd total 15 (by decide)
  obtain ⟨la, hA1⟩ : ∃ x, x = total.fmod 15 := ⟨_, rfl⟩
  rw [← hA1] at F1 N1 hA
  have hB := fmod_bd (la + 1 + (total.fdiv 15).fmod 7) 15 (by decide)
  obtain ⟨lb, hB1⟩ : ∃ x, x = (la + 1 + (total.fdiv 15).fmod 7).fmod 15 := ⟨_, rfl⟩
  rw [← hB1] at N1 hB
  have hC := fmod_bd (la + 8 + (total.fdiv 105).fmod 7) 15 (by decide)
  obtain ⟨lc, hC1⟩ : ∃ x, x = (la + 8 + (total.fdiv 105).fmod 7).fmod 15 := ⟨_, rfl⟩
  rw [← hC1] at N1 hC
  with_reducible rename Heap => h9
  have hpk : ∃ (LL : Nat) (ta tb tc t1 t2 : Tok) (oL' : Obj), oL'.data = .cell (some (.ref LL)) ∧ News g L0 h9 [(LL, PySem.W.listOf #[.int la ta, .int lb tb, .int lc tc] 0), (L0 + 1 + 1 + 1 + 1, oJ), (L0 + 1 + 1 + 1, oR), (L0 + 1 + 1, oH), (L0 + 1, oL'), (72, tabObj #[])] ∧
      Fr g L0 h9 (wdFr S total la t1 t2) ∧ L0 + 4 < LL := by
    refine' ⟨_, _, _, _, _, _, _, dL', fun p hp => N1 p ?sub, F1, ?o1⟩
    case sub => revert p hp; (repeat (first | exact List.forall_mem_nil _ | refine List.forall_mem_cons.mpr ⟨by k_mem, ?_⟩))
    all_goals omega
  refine ex7 hpk ?_
  clear hpk
  intro LL ta tb tc t1 t2 oL' hpk
  refine and4 hpk ?_
  clear hpk
  intro dL2 N2 F2 o1
  clear N1 F1 dL'
  repeat (with_reducible rename _ ∧ _ ∧ _ => zz; clear zz)
  refine comp_U (F₀ := F2) (by with_unfolding_all rfl) (by decide) (by rfl) (by decide) (by rfl) ?_
  (repeat' (first |  (k_unfold; (try dsimp only)) | (k_here; (with_reducible show wpAny _ _ (eval (Expr.Name _ _) (compEnv _ _ _)) _ _ _); k_dflt (first | (refine name_locS rfl rfl rfl (by decide) (by with_reducible assumption) (by assumption) ?_; k_whole) | (refine nameG_BS rfl rfl rfl rfl (by decide) (by k_asm) (by k_asm) (by k_asm) (by k_is) (by boot_fast) (by decide) ?_; k_whole))) | (k_here; (with_reducible show wpAny _ _ (call (Value.type _) [Value.str _ _]) _ _ _); k_dflt (refine list_strN rfl (by k_asm) (by k_asm) ?_ (by rw [sizeLine_eq]; omega)); intro D9 ys9 c9 h9 tk9 F9 N9 l9 m9 hS9; (try k_lt l9); (try k_sweep)) | (k_here; (with_reducible show wpAny _ _ (compareOp CmpOp.Eq (Value.ref _) (Value.ref _)) _ _ _); k_dflt (refine strs_eq (by is_list) (by is_list) (by first | k_asm | exact StrsAre.nil) (by first | exact StrsAre.nil | k_asm) (by ke_room) ?_)) | (k_here; (with_reducible show wpAny _ _ (call (Value.builtin _) [Value.ref _, Value.int 0 _]) _ _ _); k_dflt (refine pop_first (by k_asm) (by k_asm) (by k_upd) (by (rw [sizeLine_eq]; (try have hL9 := PyProof.Rows.StrsAre.length (by assumption)); (try simp only [List.length_cons] at *); omega)) ?_; k_whole); intro h9 F9 N9; (try k_sweep)) | (k_here; (with_reducible show wpAny _ _ (call (Value.builtin "len") [Value.ref _]) _ _ _); k_dflt (refine len_strsA (by is_list) (by assumption) (by ((try simp only [List.length_map]); omega)) ?_; k_whole); (try simp only [List.length_map])) | walk1 | (k_here; (with_reducible show wpAny _ _ (compareOp CmpOp.NotEq (Value.ref _) (Value.ref _)) _ _ _); k_dflt (first | refine strs_ne_nil (by is_list) (by is_list) (by ke_room) ?_ | refine strs_ne_cons (by is_list) (by is_list) (by k_asm) (by ke_room) ?_ | refine strs_ne (by is_list) (by is_list) (by first | k_asm | exact StrsAre.nil) (by first | exact StrsAre.nil | k_asm) (by ke_room) ?_)) | (k_here; (with_reducible show wpAny _ _ (call (Value.builtin "len") [Value.str _ _]) _ _ _); refine len_str (by omega) ?_) | (dsimp only; walk1) | (dsimp only; k_unfold; (try dsimp only)) | fail "no step"))
  refine hold_out ?_
  refine kba_turn (value' := PySem.Expr.Name (PySem.Str.ofString "_") ⟨0, 0, 0, 0⟩) (fun _ => rfl) ?_
  have hI4 : ∀ a b c d : Tok, IntsAre [.int 0 a, .int 1 b, .int 0 c, .int 1 d] [0, 1, 0, 1] := fun a b c d => .cons _ _ (.cons _ _ (.cons _ _ (.cons _ _ .nil)))
  refine' kmk_slice_ints ?F ?N ?kl ?kp ?kq ?ki ?km rfl ?_ ?ks ?kt ?kz
  case F => k_asm
  case N => k_asm
  case kl => kmk_list
  case kp => kmk_part
  case kq => kmk_part
  case ki => exact hI4 _ _ _ _
  case km => exact kmk_from (hI4 _ _ _ _) (by omega)
  case ks => with_unfolding_all rfl
  case kt => kmk_pure
  case kz => exact Nat.le_of_ble_eq_true rfl
  intro D' ws' h' F' N' l1 hI' hC' hL'
  k_lt l1
  rw [Int.toNat_natCast] at hI' hC' hL'
  (repeat' (first |  (k_unfold; (try dsimp only)) | (k_here; (with_reducible show wpAny _ _ (eval (Expr.Name _ _) (compEnv _ _ _)) _ _ _); k_dflt (first | (refine name_locS rfl rfl rfl (by decide) (by with_reducible assumption) (by assumption) ?_; k_whole) | (refine nameG_BS rfl rfl rfl rfl (by decide) (by k_asm) (by k_asm) (by k_asm) (by k_is) (by boot_fast) (by decide) ?_; k_whole))) | (k_here; (with_reducible show wpAny _ _ (call (Value.type _) [Value.str _ _]) _ _ _); k_dflt (refine list_strN rfl (by k_asm) (by k_asm) ?_ (by rw [sizeLine_eq]; omega)); intro D9 ys9 c9 h9 tk9 F9 N9 l9 m9 hS9; (try k_lt l9); (try k_sweep)) | (k_here; (with_reducible show wpAny _ _ (compareOp CmpOp.Eq (Value.ref _) (Value.ref _)) _ _ _); k_dflt (refine strs_eq (by is_list) (by is_list) (by first | k_asm | exact StrsAre.nil) (by first | exact StrsAre.nil | k_asm) (by ke_room) ?_)) | (k_here; (with_reducible show wpAny _ _ (call (Value.builtin _) [Value.ref _, Value.int 0 _]) _ _ _); k_dflt (refine pop_first (by k_asm) (by k_asm) (by k_upd) (by (rw [sizeLine_eq]; (try have hL9 := PyProof.Rows.StrsAre.length (by assumption)); (try simp only [List.length_cons] at *); omega)) ?_; k_whole); intro h9 F9 N9; (try k_sweep)) | (k_here; (with_reducible show wpAny _ _ (call (Value.builtin "len") [Value.ref _]) _ _ _); k_dflt (refine len_strsA (by is_list) (by assumption) (by ((try simp only [List.length_map]); omega)) ?_; k_whole); (try simp only [List.length_map])) | walk1 | (k_here; (with_reducible show wpAny _ _ (compareOp CmpOp.NotEq (Value.ref _) (Value.ref _)) _ _ _); k_dflt (first | refine strs_ne_nil (by is_list) (by is_list) (by ke_room) ?_ | refine strs_ne_cons (by is_list) (by is_list) (by k_asm) (by ke_room) ?_ | refine strs_ne (by is_list) (by is_list) (by first | k_asm | exact StrsAre.nil) (by first | exact StrsAre.nil | k_asm) (by ke_room) ?_)) | (k_here; (with_reducible show wpAny _ _ (call (Value.builtin "len") [Value.str _ _]) _ _ _); refine len_str (by omega) ?_) | (dsimp only; walk1) | (dsimp only; k_unfold; (try dsimp only)) | fail "no step"))
  refine hold_out ?_
  with_reducible rename IntsAre _ (_ ++ _) => hW
  obtain ⟨xs, hws⟩ : ∃ xs, xs = List.take 5 ns ++ List.drop ns.length [0, 1, 0, 1] := ⟨_, rfl⟩
  rw [← hws] at hW
  with_reducible rename List Value => ws
  with_reducible rename Heap => h9b
  with_reducible rename News _ _ _ _ => N3
  with_reducible rename Fr _ _ _ _ => F3
  have hxl : xs.length ≤ 9 := word_le hws.symm
  have hwl := hW.length
  obtain ⟨SL, hSL⟩ := name_head N3
  subst hSL
  have o2 : @LT.lt Nat _ LL SL := by omega
  have N4 : News g L0 h9b [(SL, PySem.W.listOf ws.toArray 0), (LL, PySem.W.listOf #[.int la ta, .int lb tb, .int lc tc] 0), (L0 + 1 + 1 + 1 + 1, oJ), (L0 + 1 + 1 + 1, oR), (L0 + 1 + 1, oH), (L0 + 1, oL'), (72, tabObj #[])] := by
    refine fun p hp => N3 p ?_
    revert p hp
    (repeat (first | exact List.forall_mem_nil _ | refine List.forall_mem_cons.mpr ⟨by k_mem, ?_⟩))
  clear N3
  repeat (with_reducible rename _ ∧ _ ∧ _ => zz; clear zz)
  refine LCg.CompSrc.ledger (by rfl) F3 N4 (List.Mem.head _) (by rw [List.size_toArray, sizeLine_eq, hwl]; exact Nat.le_trans hxl (by decide)) ?_
  intro g'
  refine rest_inv (xs.length) (fun i ys nx => nx = [(SL, PySem.W.listOf ws.toArray 0), (LL, PySem.W.listOf #[.int la ta, .int lb tb, .int lc tc] 0), (L0 + 1 + 1 + 1 + 1, oJ), (L0 + 1 + 1 + 1, oR), (L0 + 1 + 1, oH), (L0 + 1, oL'), (72, tabObj #[])] ∧ StrsAre ys ((xs.take i).map fun x => ofL [letOf la lb lc x])) ?_ ?_ _ 0 [] _ (by rw [Nat.zero_add, List.size_toArray, hwl]) ⟨rfl, StrsAre.nil⟩
  · intro i ys nx v I oI C oC D m₂ h tk E' hi hI
    revert nx
    refine fix_all ?_
    intro hI hP hCo hx F' N' off ne
    obtain ⟨n, tn, hn, rfl⟩ := ints_get hW hP
    have hm3 := fmod_bd n 3 (by decide)
    have hbd := let_bd hA hB hC n
    (repeat' (first |  (k_unfold; (try dsimp only)) | (k_here; (with_reducible show wpAny _ _ (eval (Expr.Name _ _) (compEnv _ _ _)) _ _ _); k_dflt (first | (refine name_locS rfl rfl rfl (by decide) (by with_reducible assumption) (by assumption) ?_; k_whole) | (refine nameG_BS rfl rfl rfl rfl (by decide) (by k_asm) (by k_asm) (by k_asm) (by k_is) (by boot_fast) (by decide) ?_; k_whole))) | (k_here; (with_reducible show wpAny _ _ (call (Value.type _) [Value.str _ _]) _ _ _); k_dflt (refine list_strN rfl (by k_asm) (by k_asm) ?_ (by rw [sizeLine_eq]; omega)); intro D9 ys9 c9 h9 tk9 F9 N9 l9 m9 hS9; (try k_lt l9); (try k_sweep)) | (k_here; (with_reducible show wpAny _ _ (compareOp CmpOp.Eq (Value.ref _) (Value.ref _)) _ _ _); k_dflt (refine strs_eq (by is_list) (by is_list) (by first | k_asm | exact StrsAre.nil) (by first | exact StrsAre.nil | k_asm) (by ke_room) ?_)) | (k_here; (with_reducible show wpAny _ _ (call (Value.builtin _) [Value.ref _, Value.int 0 _]) _ _ _); k_dflt (refine pop_first (by k_asm) (by k_asm) (by k_upd) (by (rw [sizeLine_eq]; (try have hL9 := PyProof.Rows.StrsAre.length (by assumption)); (try simp only [List.length_cons] at *); omega)) ?_; k_whole); intro h9 F9 N9; (try k_sweep)) | (k_here; (with_reducible show wpAny _ _ (call (Value.builtin "len") [Value.ref _]) _ _ _); k_dflt (refine len_strsA (by is_list) (by assumption) (by ((try simp only [List.length_map]); omega)) ?_; k_whole); (try simp only [List.length_map])) | walk1 | (k_here; (with_reducible show wpAny _ _ (compareOp CmpOp.NotEq (Value.ref _) (Value.ref _)) _ _ _); k_dflt (first | refine strs_ne_nil (by is_list) (by is_list) (by ke_room) ?_ | refine strs_ne_cons (by is_list) (by is_list) (by k_asm) (by ke_room) ?_ | refine strs_ne (by is_list) (by is_list) (by first | k_asm | exact StrsAre.nil) (by first | exact StrsAre.nil | k_asm) (by ke_room) ?_)) | (k_here; (with_reducible show wpAny _ _ (call (Value.builtin "len") [Value.str _ _]) _ _ _); refine len_str (by omega) ?_) | (dsimp only; walk1) | (dsimp only; k_unfold; (try dsimp only)) | fail "no step"))
    refine hold_out ?_
    refine chr_of_range hbd.1 (by omega) ?_
    (repeat' (first | ((with_reducible show LCg.CompEnd _ _ _ _ _ _ _ _ _ _ _ _ _ _); refine hold_in ?_) |  (k_unfold; (try dsimp only)) | (k_here; (with_reducible show wpAny _ _ (eval (Expr.Name _ _) (compEnv _ _ _)) _ _ _); k_dflt (first | (refine name_locS rfl rfl rfl (by decide) (by with_reducible assumption) (by assumption) ?_; k_whole) | (refine nameG_BS rfl rfl rfl rfl (by decide) (by k_asm) (by k_asm) (by k_asm) (by k_is) (by boot_fast) (by decide) ?_; k_whole))) | (k_here; (with_reducible show wpAny _ _ (call (Value.type _) [Value.str _ _]) _ _ _); k_dflt (refine list_strN rfl (by k_asm) (by k_asm) ?_ (by rw [sizeLine_eq]; omega)); intro D9 ys9 c9 h9 tk9 F9 N9 l9 m9 hS9; (try k_lt l9); (try k_sweep)) | (k_here; (with_reducible show wpAny _ _ (compareOp CmpOp.Eq (Value.ref _) (Value.ref _)) _ _ _); k_dflt (refine strs_eq (by is_list) (by is_list) (by first | k_asm | exact StrsAre.nil) (by first | exact StrsAre.nil | k_asm) (by ke_room) ?_)) | (k_here; (with_reducible show wpAny _ _ (call (Value.builtin _) [Value.ref _, Value.int 0 _]) _ _ _); k_dflt (refine pop_first (by k_asm) (by k_asm) (by k_upd) (by (rw [sizeLine_eq]; (try have hL9 := PyProof.Rows.StrsAre.length (by assumption)); (try simp only [List.length_cons] at *); omega)) ?_; k_whole); intro h9 F9 N9; (try k_sweep)) | (k_here; (with_reducible show wpAny _ _ (call (Value.builtin "len") [Value.ref _]) _ _ _); k_dflt (refine len_strsA (by is_list) (by assumption) (by ((try simp only [List.length_map]); omega)) ?_; k_whole); (try simp only [List.length_map])) | walk1 | (k_here; (with_reducible show wpAny _ _ (compareOp CmpOp.NotEq (Value.ref _) (Value.ref _)) _ _ _); k_dflt (first | refine strs_ne_nil (by is_list) (by is_list) (by ke_room) ?_ | refine strs_ne_cons (by is_list) (by is_list) (by k_asm) (by ke_room) ?_ | refine strs_ne (by is_list) (by is_list) (by first | k_asm | exact StrsAre.nil) (by first | exact StrsAre.nil | k_asm) (by ke_room) ?_)) | (k_here; (with_reducible show wpAny _ _ (call (Value.builtin "len") [Value.str _ _]) _ _ _); refine len_str (by omega) ?_) | (dsimp only; walk1) | (dsimp only; k_unfold; (try dsimp only)) | fail "no step"))
    refine hold_out (LCg.CompEnd.intro (by assumption) (by assumption) _ (fun p hp => hp) off (.inr ⟨_, .head _, rfl, _, rfl⟩) ⟨rfl, by rw [take_snoc hn]; exact hI.append' (StrsAre.cons _ _ StrsAre.nil)⟩)
  · intro ys
    refine fix_all ?_
    intro hI
    rw [List.take_length] at hI
    (repeat' (first |  (k_unfold; (try dsimp only)) | (k_here; (with_reducible show wpAny _ _ (eval (Expr.Name _ _) (compEnv _ _ _)) _ _ _); k_dflt (first | (refine name_locS rfl rfl rfl (by decide) (by with_reducible assumption) (by assumption) ?_; k_whole) | (refine nameG_BS rfl rfl rfl rfl (by decide) (by k_asm) (by k_asm) (by k_asm) (by k_is) (by boot_fast) (by decide) ?_; k_whole))) | (k_here; (with_reducible show wpAny _ _ (call (Value.type _) [Value.str _ _]) _ _ _); k_dflt (refine list_strN rfl (by k_asm) (by k_asm) ?_ (by rw [sizeLine_eq]; omega)); intro D9 ys9 c9 h9 tk9 F9 N9 l9 m9 hS9; (try k_lt l9); (try k_sweep)) | (k_here; (with_reducible show wpAny _ _ (compareOp CmpOp.Eq (Value.ref _) (Value.ref _)) _ _ _); k_dflt (refine strs_eq (by is_list) (by is_list) (by first | k_asm | exact StrsAre.nil) (by first | exact StrsAre.nil | k_asm) (by ke_room) ?_)) | (k_here; (with_reducible show wpAny _ _ (call (Value.builtin _) [Value.ref _, Value.int 0 _]) _ _ _); k_dflt (refine pop_first (by k_asm) (by k_asm) (by k_upd) (by (rw [sizeLine_eq]; (try have hL9 := PyProof.Rows.StrsAre.length (by assumption)); (try simp only [List.length_cons] at *); omega)) ?_; k_whole); intro h9 F9 N9; (try k_sweep)) | (k_here; (with_reducible show wpAny _ _ (call (Value.builtin "len") [Value.ref _]) _ _ _); k_dflt (refine len_strsA (by is_list) (by assumption) (by ((try simp only [List.length_map]); omega)) ?_; k_whole); (try simp only [List.length_map])) | walk1 | (k_here; (with_reducible show wpAny _ _ (compareOp CmpOp.NotEq (Value.ref _) (Value.ref _)) _ _ _); k_dflt (first | refine strs_ne_nil (by is_list) (by is_list) (by ke_room) ?_ | refine strs_ne_cons (by is_list) (by is_list) (by k_asm) (by ke_room) ?_ | refine strs_ne (by is_list) (by is_list) (by first | k_asm | exact StrsAre.nil) (by first | exact StrsAre.nil | k_asm) (by ke_room) ?_)) | (k_here; (with_reducible show wpAny _ _ (call (Value.builtin "len") [Value.str _ _]) _ _ _); refine len_str (by omega) ?_) | (dsimp only; walk1) | (dsimp only; k_unfold; (try dsimp only)) | fail "no step"))
    refine join_list (ys := xs.map fun x => ofL [letOf la lb lc x]) (by is_list) hI ?_ ?_
    case refine_1 => rw [sum_ones _ (fun _ => rfl), show (Str.ofString "").length = 0 from rfl]; omega
    intro t' k'
    rw [join_ones]
    have hbds : ∀ c ∈ xs.map (letOf la lb lc), 66 ≤ c ∧ c < 81 := by
      intro c hc
      obtain ⟨x, _, rfl⟩ := List.mem_map.mp hc
      have := let_bd hA hB hC x
      unfold letOf
      omega
    have hwl2 : (xs.map (letOf la lb lc)).length ≤ 9 := by rw [List.length_map]; exact hxl
    have hok := law_word hws.symm hA hB1.symm hC1.symm
    obtain ⟨word, hword⟩ : ∃ word, word = xs.map (letOf la lb lc) := ⟨_, rfl⟩
    rw [← hword] at hbds hwl2 hok ⊢
    (repeat' (first |  (k_unfold; (try dsimp only)) | (k_here; (with_reducible show wpAny _ _ (eval (Expr.Name _ _) (compEnv _ _ _)) _ _ _); k_dflt (first | (refine name_locS rfl rfl rfl (by decide) (by with_reducible assumption) (by assumption) ?_; k_whole) | (refine nameG_BS rfl rfl rfl rfl (by decide) (by k_asm) (by k_asm) (by k_asm) (by k_is) (by boot_fast) (by decide) ?_; k_whole))) | (k_here; (with_reducible show wpAny _ _ (call (Value.type _) [Value.str _ _]) _ _ _); k_dflt (refine list_strN rfl (by k_asm) (by k_asm) ?_ (by rw [sizeLine_eq]; omega)); intro D9 ys9 c9 h9 tk9 F9 N9 l9 m9 hS9; (try k_lt l9); (try k_sweep)) | (k_here; (with_reducible show wpAny _ _ (compareOp CmpOp.Eq (Value.ref _) (Value.ref _)) _ _ _); k_dflt (refine strs_eq (by is_list) (by is_list) (by first | k_asm | exact StrsAre.nil) (by first | exact StrsAre.nil | k_asm) (by ke_room) ?_)) | (k_here; (with_reducible show wpAny _ _ (call (Value.builtin _) [Value.ref _, Value.int 0 _]) _ _ _); k_dflt (refine pop_first (by k_asm) (by k_asm) (by k_upd) (by (rw [sizeLine_eq]; (try have hL9 := PyProof.Rows.StrsAre.length (by assumption)); (try simp only [List.length_cons] at *); omega)) ?_; k_whole); intro h9 F9 N9; (try k_sweep)) | (k_here; (with_reducible show wpAny _ _ (call (Value.builtin "len") [Value.ref _]) _ _ _); k_dflt (refine len_strsA (by is_list) (by assumption) (by ((try simp only [List.length_map]); omega)) ?_; k_whole); (try simp only [List.length_map])) | walk1 | (k_here; (with_reducible show wpAny _ _ (compareOp CmpOp.NotEq (Value.ref _) (Value.ref _)) _ _ _); k_dflt (first | refine strs_ne_nil (by is_list) (by is_list) (by ke_room) ?_ | refine strs_ne_cons (by is_list) (by is_list) (by k_asm) (by ke_room) ?_ | refine strs_ne (by is_list) (by is_list) (by first | k_asm | exact StrsAre.nil) (by first | exact StrsAre.nil | k_asm) (by ke_room) ?_)) | (k_here; (with_reducible show wpAny _ _ (call (Value.builtin "len") [Value.str _ _]) _ _ _); refine len_str (by omega) ?_) | (dsimp only; walk1) | (dsimp only; k_unfold; (try dsimp only)) | fail "no step"))
    refine hold_out ?_
    have hwl3 : (ofL word).length ≤ 9 := hwl2
    refine Spec.pure (dressed_spec _ (ofL word) _ _ _ (by omega)) (by assumption) (by assumption) (by assumption) (by assumption) (by assumption) rfl (by decide) (by decide) ?_
    refine str_all ?_
    intro h1 tk1 td F5 N5
    try dsimp only
    have hdl := dress_len (ofL word) ((total.fdiv 735).fmod 4)
    (repeat' (first |  (k_unfold; (try dsimp only)) | (k_here; (with_reducible show wpAny _ _ (eval (Expr.Name _ _) (compEnv _ _ _)) _ _ _); k_dflt (first | (refine name_locS rfl rfl rfl (by decide) (by with_reducible assumption) (by assumption) ?_; k_whole) | (refine nameG_BS rfl rfl rfl rfl (by decide) (by k_asm) (by k_asm) (by k_asm) (by k_is) (by boot_fast) (by decide) ?_; k_whole))) | (k_here; (with_reducible show wpAny _ _ (call (Value.type _) [Value.str _ _]) _ _ _); k_dflt (refine list_strN rfl (by k_asm) (by k_asm) ?_ (by rw [sizeLine_eq]; omega)); intro D9 ys9 c9 h9 tk9 F9 N9 l9 m9 hS9; (try k_lt l9); (try k_sweep)) | (k_here; (with_reducible show wpAny _ _ (compareOp CmpOp.Eq (Value.ref _) (Value.ref _)) _ _ _); k_dflt (refine strs_eq (by is_list) (by is_list) (by first | k_asm | exact StrsAre.nil) (by first | exact StrsAre.nil | k_asm) (by ke_room) ?_)) | (k_here; (with_reducible show wpAny _ _ (call (Value.builtin _) [Value.ref _, Value.int 0 _]) _ _ _); k_dflt (refine pop_first (by k_asm) (by k_asm) (by k_upd) (by (rw [sizeLine_eq]; (try have hL9 := PyProof.Rows.StrsAre.length (by assumption)); (try simp only [List.length_cons] at *); omega)) ?_; k_whole); intro h9 F9 N9; (try k_sweep)) | (k_here; (with_reducible show wpAny _ _ (call (Value.builtin "len") [Value.ref _]) _ _ _); k_dflt (refine len_strsA (by is_list) (by assumption) (by ((try simp only [List.length_map]); omega)) ?_; k_whole); (try simp only [List.length_map])) | walk1 | (k_here; (with_reducible show wpAny _ _ (compareOp CmpOp.NotEq (Value.ref _) (Value.ref _)) _ _ _); k_dflt (first | refine strs_ne_nil (by is_list) (by is_list) (by ke_room) ?_ | refine strs_ne_cons (by is_list) (by is_list) (by k_asm) (by ke_room) ?_ | refine strs_ne (by is_list) (by is_list) (by first | k_asm | exact StrsAre.nil) (by first | exact StrsAre.nil | k_asm) (by ke_room) ?_)) | (k_here; (with_reducible show wpAny _ _ (call (Value.builtin "len") [Value.str _ _]) _ _ _); refine len_str (by omega) ?_) | (dsimp only; walk1) | (dsimp only; k_unfold; (try dsimp only)) | fail "no step"))
    refine hold_out ?_
    have hbl := blank_len (fmod_bd (total.fdiv 2940) 4 (by decide))
    refine SBL.add (hsz := ?hszT) ?_
    case hszT => rw [sizeLine_eq]; omega
    intro _ _ _
    have hne : word ≠ [] := by
      intro e
      rw [hword] at e
      exact word_ne hws.symm (List.map_eq_nil_iff.mp e)
    refine ex2 (run_text hne hbds ((total.fdiv 735).fmod 4) (fmod_bd (total.fdiv 2940) 4 (by decide))) ?_
    intro n0 rest hrt
    refine and4 hrt ?_
    clear hrt
    intro hr1 hr2 hr3 hr4
    have htl : (dressOf (ofL word) ((total.fdiv 735).fmod 4) ++ Txt.item (Str.ofString "\n\t\x0d ") ((total.fdiv 2940).fmod 4)).length ≤ 21 := by
      rw [Str.length_append]; omega
    have hcount := text_count hbds ((total.fdiv 735).fmod 4) (fmod_bd (total.fdiv 2940) 4 (by decide))
    obtain ⟨text, htx⟩ : ∃ text, text = dressOf (ofL word) ((total.fdiv 735).fmod 4) ++ Txt.item (Str.ofString "\n\t\x0d ") ((total.fdiv 2940).fmod 4) := ⟨_, rfl⟩
    rw [← htx] at hr1 htl hcount ⊢
    try dsimp only
    (repeat' (first |  (k_unfold; (try dsimp only)) | (k_here; (with_reducible show wpAny _ _ (eval (Expr.Name _ _) (compEnv _ _ _)) _ _ _); k_dflt (first | (refine name_locS rfl rfl rfl (by decide) (by with_reducible assumption) (by assumption) ?_; k_whole) | (refine nameG_BS rfl rfl rfl rfl (by decide) (by k_asm) (by k_asm) (by k_asm) (by k_is) (by boot_fast) (by decide) ?_; k_whole))) | (k_here; (with_reducible show wpAny _ _ (call (Value.type _) [Value.str _ _]) _ _ _); k_dflt (refine list_strN rfl (by k_asm) (by k_asm) ?_ (by rw [sizeLine_eq]; omega)); intro D9 ys9 c9 h9 tk9 F9 N9 l9 m9 hS9; (try k_lt l9); (try k_sweep)) | (k_here; (with_reducible show wpAny _ _ (compareOp CmpOp.Eq (Value.ref _) (Value.ref _)) _ _ _); k_dflt (refine strs_eq (by is_list) (by is_list) (by first | k_asm | exact StrsAre.nil) (by first | exact StrsAre.nil | k_asm) (by ke_room) ?_)) | (k_here; (with_reducible show wpAny _ _ (call (Value.builtin _) [Value.ref _, Value.int 0 _]) _ _ _); k_dflt (refine pop_first (by k_asm) (by k_asm) (by k_upd) (by (rw [sizeLine_eq]; (try have hL9 := PyProof.Rows.StrsAre.length (by assumption)); (try simp only [List.length_cons] at *); omega)) ?_; k_whole); intro h9 F9 N9; (try k_sweep)) | (k_here; (with_reducible show wpAny _ _ (call (Value.builtin "len") [Value.ref _]) _ _ _); k_dflt (refine len_strsA (by is_list) (by assumption) (by ((try simp only [List.length_map]); omega)) ?_; k_whole); (try simp only [List.length_map])) | walk1 | (k_here; (with_reducible show wpAny _ _ (compareOp CmpOp.NotEq (Value.ref _) (Value.ref _)) _ _ _); k_dflt (first | refine strs_ne_nil (by is_list) (by is_list) (by ke_room) ?_ | refine strs_ne_cons (by is_list) (by is_list) (by k_asm) (by ke_room) ?_ | refine strs_ne (by is_list) (by is_list) (by first | k_asm | exact StrsAre.nil) (by first | exact StrsAre.nil | k_asm) (by ke_room) ?_)) | (k_here; (with_reducible show wpAny _ _ (call (Value.builtin "len") [Value.str _ _]) _ _ _); refine len_str (by omega) ?_) | (dsimp only; walk1) | (dsimp only; k_unfold; (try dsimp only)) | fail "no step"))
    refine hold_out ?_
    with_reducible rename Fr _ _ _ _ => F6
    with_reducible rename News _ _ _ _ => N6

    have N7 : News g L0 _ [(72, tabObj #[]), (L0 + 4, oJ), (L0 + 3, oR), (L0 + 2, oH)] := fun p hp => N6 p (by revert p hp; (repeat (first | exact List.forall_mem_nil _ | refine List.forall_mem_cons.mpr ⟨by k_mem, ?_⟩)))
    clear N6
    repeat (with_reducible rename _ ∧ _ ∧ _ => zz; clear zz)
    refine Spec.use (lexer_spec _ text _ (by omega)) [(L0 + 4, oJ), (L0 + 3, oR), (L0 + 2, oH)] B0 F6 X0 N7 T0 rfl (fun _ h => h) ?hd1 (by decide) (by decide) ?_
    case hd1 =>
      intro p hp
      rw [List.mem_singleton.mp hp]
      exact List.forall_mem_cons.mpr ⟨Nat.ne_of_lt (Nat.lt_of_lt_of_le l0 (Nat.le_add_right _ 4)), List.forall_mem_cons.mpr ⟨Nat.ne_of_lt (Nat.lt_of_lt_of_le l0 (Nat.le_add_right _ 3)), List.forall_mem_cons.mpr ⟨Nat.ne_of_lt (Nat.lt_of_lt_of_le l0 (Nat.le_add_right _ 2)), List.forall_mem_nil _⟩⟩⟩
    refine lexer_all ?_
    intro h2 tk2 a cq tn yt cc ps hyt ok oc0 F8 N8 hf
    try dsimp only
    have oc1 : @LT.lt Nat _ (L0 + 4) a.cell := by
      rcases hf (a.cell, a.co) (by simp [LexW]) with h | h
      · have h' : a.cell = 72 := by simpa using h
        omega
      · exact h _ (List.Mem.head _)
    have oc3 : @LT.lt Nat _ (L0 + 3) a.cell := Nat.lt_trans (Nat.lt_succ_self _) oc1
    have oc2 : @LT.lt Nat _ (L0 + 2) a.cell := Nat.lt_trans (Nat.lt_succ_self _) oc3
    clear hf N7 F6
    (repeat' (first |  (k_unfold; (try dsimp only)) | (k_here; (with_reducible show wpAny _ _ (eval (Expr.Name _ _) (compEnv _ _ _)) _ _ _); k_dflt (first | (refine name_locS rfl rfl rfl (by decide) (by with_reducible assumption) (by assumption) ?_; k_whole) | (refine nameG_BS rfl rfl rfl rfl (by decide) (by k_asm) (by k_asm) (by k_asm) (by k_is) (by boot_fast) (by decide) ?_; k_whole))) | (k_here; (with_reducible show wpAny _ _ (call (Value.type _) [Value.str _ _]) _ _ _); k_dflt (refine list_strN rfl (by k_asm) (by k_asm) ?_ (by rw [sizeLine_eq]; omega)); intro D9 ys9 c9 h9 tk9 F9 N9 l9 m9 hS9; (try k_lt l9); (try k_sweep)) | (k_here; (with_reducible show wpAny _ _ (compareOp CmpOp.Eq (Value.ref _) (Value.ref _)) _ _ _); k_dflt (refine strs_eq (by is_list) (by is_list) (by first | k_asm | exact StrsAre.nil) (by first | exact StrsAre.nil | k_asm) (by ke_room) ?_)) | (k_here; (with_reducible show wpAny _ _ (call (Value.builtin _) [Value.ref _, Value.int 0 _]) _ _ _); k_dflt (refine pop_first (by k_asm) (by k_asm) (by k_upd) (by (rw [sizeLine_eq]; (try have hL9 := PyProof.Rows.StrsAre.length (by assumption)); (try simp only [List.length_cons] at *); omega)) ?_; k_whole); intro h9 F9 N9; (try k_sweep)) | (k_here; (with_reducible show wpAny _ _ (call (Value.builtin "len") [Value.ref _]) _ _ _); k_dflt (refine len_strsA (by is_list) (by assumption) (by ((try simp only [List.length_map]); omega)) ?_; k_whole); (try simp only [List.length_map])) | walk1 | (k_here; (with_reducible show wpAny _ _ (compareOp CmpOp.NotEq (Value.ref _) (Value.ref _)) _ _ _); k_dflt (first | refine strs_ne_nil (by is_list) (by is_list) (by ke_room) ?_ | refine strs_ne_cons (by is_list) (by is_list) (by k_asm) (by ke_room) ?_ | refine strs_ne (by is_list) (by is_list) (by first | k_asm | exact StrsAre.nil) (by first | exact StrsAre.nil | k_asm) (by ke_room) ?_)) | (k_here; (with_reducible show wpAny _ _ (call (Value.builtin "len") [Value.str _ _]) _ _ _); refine len_str (by omega) ?_) | (dsimp only; walk1) | (dsimp only; k_unfold; (try dsimp only)) | fail "no step"))
    refine hold_out ?_
    with_reducible rename Fr _ _ _ _ => F9
    with_reducible rename News _ _ _ _ => N9
    obtain ⟨PP, hPP⟩ := name_head N9
    subst hPP
    with_reducible rename ∀ p ∈ _, _ < _ => l1
    have oPP : @LT.lt Nat _ a.pb PP := l1 (a.pb, _) (List.mem_append_left _ (List.mem_append_left _ (List.Mem.head _)))
    have o2P : @LT.lt Nat _ (L0 + 2) PP := l1 (L0 + 2, oH) (List.mem_append_right _ (.tail _ (.tail _ (.head _))))
    have o72P : @LT.lt Nat _ 72 PP := l1 (72, tabObj ps) (List.mem_append_left _ (List.mem_append_right _ (.head _)))
    have o3P : @LT.lt Nat _ (L0 + 3) PP := l1 (L0 + 3, oR) (List.mem_append_right _ (.tail _ (.head _)))
    have o4P : @LT.lt Nat _ (L0 + 4) PP := l1 (L0 + 4, oJ) (List.mem_append_right _ (.head _))
    clear l1
    have hsl : (signs text).length ≤ 21 := by rw [signs_len]; exact htl
    have hDisJ : ∀ oH, Dis a [(72, tabObj ps), (L0 + 4, oJ), (L0 + 3, oR), (L0 + 2, oH)] := fun oH => Dis.below ok oc0 (Dis.below ok oc1 (Dis.below ok oc3 (Dis.below ok oc2 Dis.nil)))
    have hDisP : Dis a ((L0 + 2, oH) :: (PP, PySem.W.listOf #[] 0) :: [(72, tabObj ps), (L0 + 4, oJ), (L0 + 3, oR)]) := Dis.below ok oc2 (Dis.above ok oPP (Dis.below ok oc0 (Dis.below ok oc1 (Dis.below ok oc3 Dis.nil))))
    refine Spec.use (tok_spec2 _ a ok cq 1 tn yt (signs text) cc hyt (by omega) (signs_one text) (ofL word) n0 rest hr1) ((L0 + 2, oH) :: (PP, PySem.W.listOf #[] 0) :: [(72, tabObj ps), (L0 + 4, oJ), (L0 + 3, oR)]) B0 F9 X0 N9 T0 rfl ?ht1 hDisP.use (by decide) (by decide) ?_
    case ht1 => exact all_app (fun p hp => .tail _ (List.mem_append_left _ (List.mem_append_left _ hp))) (List.forall_mem_cons.mpr ⟨.tail _ (List.mem_append_right _ (.tail _ (.tail _ (.head _)))), List.forall_mem_cons.mpr ⟨.head _, List.forall_mem_cons.mpr ⟨.tail _ (List.mem_append_left _ (List.mem_append_right _ (.head _))), List.forall_mem_cons.mpr ⟨.tail _ (List.mem_append_right _ (.head _)), List.forall_mem_cons.mpr ⟨.tail _ (List.mem_append_right _ (.tail _ (.head _))), List.forall_mem_nil _⟩⟩⟩⟩⟩)
    refine tok_all ?_
    clear N9 F9
    intro h2 tk2 tt cq2 tn2 yt2 cc2 hyt2 F10 N10 _
    try dsimp only
    refine lex_walk2 (x := (PP, PySem.W.listOf #[] 0)) N10 (.head _) ?hof ?_
    case hof => exact all_app (fun p hp => hDisP.use p hp (L0 + 2, oH) (.head _)) (List.forall_mem_cons.mpr ⟨Nat.ne_of_gt o2P, List.forall_mem_cons.mpr ⟨Nat.ne_of_lt (Nat.lt_of_lt_of_le l0 (Nat.le_add_right _ 2)), List.forall_mem_cons.mpr ⟨show L0 + 4 ≠ L0 + 2 by omega, List.forall_mem_cons.mpr ⟨show L0 + 3 ≠ L0 + 2 by omega, List.forall_mem_nil _⟩⟩⟩⟩)
    clear N10
    intro V hV hVo N10
    (repeat' (first |  (k_unfold; (try dsimp only)) | (k_here; (with_reducible show wpAny _ _ (eval (Expr.Name _ _) (compEnv _ _ _)) _ _ _); k_dflt (first | (refine name_locS rfl rfl rfl (by decide) (by with_reducible assumption) (by assumption) ?_; k_whole) | (refine nameG_BS rfl rfl rfl rfl (by decide) (by k_asm) (by k_asm) (by k_asm) (by k_is) (by boot_fast) (by decide) ?_; k_whole))) | (k_here; (with_reducible show wpAny _ _ (call (Value.type _) [Value.str _ _]) _ _ _); k_dflt (refine list_strN rfl (by k_asm) (by k_asm) ?_ (by rw [sizeLine_eq]; omega)); intro D9 ys9 c9 h9 tk9 F9 N9 l9 m9 hS9; (try k_lt l9); (try k_sweep)) | (k_here; (with_reducible show wpAny _ _ (compareOp CmpOp.Eq (Value.ref _) (Value.ref _)) _ _ _); k_dflt (refine strs_eq (by is_list) (by is_list) (by first | k_asm | exact StrsAre.nil) (by first | exact StrsAre.nil | k_asm) (by ke_room) ?_)) | (k_here; (with_reducible show wpAny _ _ (call (Value.builtin _) [Value.ref _, Value.int 0 _]) _ _ _); k_dflt (refine pop_first (by k_asm) (by k_asm) (by k_upd) (by (rw [sizeLine_eq]; (try have hL9 := PyProof.Rows.StrsAre.length (by assumption)); (try simp only [List.length_cons] at *); omega)) ?_; k_whole); intro h9 F9 N9; (try k_sweep)) | (k_here; (with_reducible show wpAny _ _ (call (Value.builtin "len") [Value.ref _]) _ _ _); k_dflt (refine len_strsA (by is_list) (by assumption) (by ((try simp only [List.length_map]); omega)) ?_; k_whole); (try simp only [List.length_map])) | walk1 | (k_here; (with_reducible show wpAny _ _ (compareOp CmpOp.NotEq (Value.ref _) (Value.ref _)) _ _ _); k_dflt (first | refine strs_ne_nil (by is_list) (by is_list) (by ke_room) ?_ | refine strs_ne_cons (by is_list) (by is_list) (by k_asm) (by ke_room) ?_ | refine strs_ne (by is_list) (by is_list) (by first | k_asm | exact StrsAre.nil) (by first | exact StrsAre.nil | k_asm) (by ke_room) ?_)) | (k_here; (with_reducible show wpAny _ _ (call (Value.builtin "len") [Value.str _ _]) _ _ _); refine len_str (by omega) ?_) | (dsimp only; walk1) | (dsimp only; k_unfold; (try dsimp only)) | fail "no step"))
    refine hold_out ?_
    with_reducible rename Fr _ _ _ _ => F11
    with_reducible rename News _ _ _ _ => N11
    with_reducible rename Obj.data _ = Data.cell (some _) => dH2
    obtain ⟨HH, hHH⟩ := name_head N11
    subst hHH
    obtain ⟨tx, hTX⟩ := name_text F11
    subst hTX
    have oHH : @LT.lt Nat _ PP HH := by omega
    repeat (with_reducible rename _ ∧ _ ∧ _ => zz; clear zz)
    with_reducible rename Obj => oH2
    with_reducible rename Heap => h11
    have oHp : @LT.lt Nat _ a.pb HH := Nat.lt_trans oPP oHH
    have hloop : LoopOk 30 [word] [] [] (outerL word (word.length + 1)) := law_loop hok hwl2 hbds
    refine pack4 (x1 := (72, tabObj ps)) (x2 := (L0 + 4, oJ)) (x3 := (L0 + 3, oR)) (x4 := (L0 + 2, oH2)) ?_
    intro r4 hm72 hmJ hmR hmH hr4in
    have hDis : Dis a r4 := fun r hr => hDisJ oH2 r (hr4in r hr)
    have hoffR : ∀ D : Nat, 72 < D → L0 + 4 < D → ∀ p ∈ r4, p.1 ≠ D := fun D h1 h2 p hp => all4 (P := fun p => p.1 ≠ D) (Nat.ne_of_lt h1) (Nat.ne_of_lt h2) (Nat.ne_of_lt (Nat.lt_trans (Nat.lt_succ_self _) h2)) (Nat.ne_of_lt (Nat.lt_trans (Nat.lt_trans (Nat.lt_succ_self _) (Nat.lt_succ_self _)) h2)) p (hr4in p hp)
    have hoffL : ∀ (D : Nat), a.pb < D → ∀ (ysQ : List Value) (cq : Nat) (tn : Tok) (cs : List Value) (cc : Nat), ∀ p ∈ LexW w0 a ysQ cq n0 tn cs cc, p.1 ≠ D := fun D h1 ysQ cq tn cs cc p hp => (Dis.above ok (r := (D, PySem.W.listOf #[] 0)) h1 Dis.nil).use p hp (D, PySem.W.listOf #[] 0) (.head _)
    have hoffH : ∀ (ysQ : List Value) (cq : Nat) (tn : Tok) (cs : List Value) (cc : Nat) (o : Obj), ∀ p ∈ LexW w0 a ysQ cq n0 tn cs cc ++ ((PP, o) :: r4), p.1 ≠ HH := fun ysQ cq tn cs cc o => all_app (hoffL HH oHp ysQ cq tn cs cc) (List.forall_mem_cons.mpr ⟨Nat.ne_of_lt oHH, hoffR HH (Nat.lt_trans o72P oHH) (Nat.lt_trans o4P oHH)⟩)
    have N12 : News g L0 h11 (LexW w0 a [] cq2 n0 tn2 yt2 cc2 ++ ((HH, PySem.W.listOf #[Value.str (ofL word) tt] 0) :: (PP, PySem.W.listOf #[] 0) :: r4)) := by
      refine all_app (fun p hp => N11 p ?_) (List.forall_mem_cons.mpr ⟨N11 _ (.head _), List.forall_mem_cons.mpr ⟨N11 _ (.tail _ (.tail _ (.head _))), fun p hp => N11 p ((all4 (P := fun p => p ∈ _) ?_ ?_ ?_ ?_) p (hr4in p hp))⟩⟩)
      · exact .tail _ (.tail _ (.tail _ (.tail _ (.tail _ (hV p (List.mem_append_left _ hp))))))
      · exact .tail _ (.tail _ (.tail _ (.tail _ (.tail _ (hV _ (List.mem_append_right _ (.tail _ (.head _))))))))
      · exact .tail _ (.tail _ (.tail _ (.tail _ (.tail _ (hV _ (List.mem_append_right _ (.tail _ (.tail _ (.head _)))))))))
      · exact .tail _ (.tail _ (.tail _ (.tail _ (.tail _ (hV _ (List.mem_append_right _ (.tail _ (.tail _ (.tail _ (.head _))))))))))
      · exact .tail _ (.head _)
    clear N11 hV hVo
    obtain ⟨out, hout⟩ : ∃ out, out = outerL word (word.length + 1) := ⟨_, rfl⟩
    rw [← hout] at hloop
    refine wpAny_While ?_
    refine cut_cont (LEnd w0 a g L0 s1 n0 rest HH PP r4 (fun mn ml mp => lwFr S PP a.lx text (ofL word) total la tx t' t1 t2 mn ml mp) out) ?loop ?after
    case after =>
      clear N12 F11
      refine lend_all (fr := fun mn ml mp => lwFr S PP a.lx text (ofL word) total la tx t' t1 t2 mn ml mp) ?_
      intro ysH ysP cs cH cP cq9 cc9 tn9 mn ml mp h tk hH hCs F N
      refine lex_walk2 (x := (L0 + 2, oH2)) N (.tail _ hmH) (hoffH _ _ _ _ _ _) ?_
      clear N
      intro V hV hVo N
      try dsimp only
      (repeat' (first |  (k_unfold; (try dsimp only)) | (k_here; (with_reducible show wpAny _ _ (eval (Expr.Name _ _) (compEnv _ _ _)) _ _ _); k_dflt (first | (refine name_locS rfl rfl rfl (by decide) (by with_reducible assumption) (by assumption) ?_; k_whole) | (refine nameG_BS rfl rfl rfl rfl (by decide) (by k_asm) (by k_asm) (by k_asm) (by k_is) (by boot_fast) (by decide) ?_; k_whole))) | (k_here; (with_reducible show wpAny _ _ (call (Value.type _) [Value.str _ _]) _ _ _); k_dflt (refine list_strN rfl (by k_asm) (by k_asm) ?_ (by rw [sizeLine_eq]; omega)); intro D9 ys9 c9 h9 tk9 F9 N9 l9 m9 hS9; (try k_lt l9); (try k_sweep)) | (k_here; (with_reducible show wpAny _ _ (compareOp CmpOp.Eq (Value.ref _) (Value.ref _)) _ _ _); k_dflt (refine strs_eq (by is_list) (by is_list) (by first | k_asm | exact StrsAre.nil) (by first | exact StrsAre.nil | k_asm) (by ke_room) ?_)) | (k_here; (with_reducible show wpAny _ _ (call (Value.builtin _) [Value.ref _, Value.int 0 _]) _ _ _); k_dflt (refine pop_first (by k_asm) (by k_asm) (by k_upd) (by (rw [sizeLine_eq]; (try have hL9 := PyProof.Rows.StrsAre.length (by assumption)); (try simp only [List.length_cons] at *); omega)) ?_; k_whole); intro h9 F9 N9; (try k_sweep)) | (k_here; (with_reducible show wpAny _ _ (call (Value.builtin "len") [Value.ref _]) _ _ _); k_dflt (refine len_strsA (by is_list) (by assumption) (by ((try simp only [List.length_map]); omega)) ?_; k_whole); (try simp only [List.length_map])) | walk1 | (k_here; (with_reducible show wpAny _ _ (compareOp CmpOp.NotEq (Value.ref _) (Value.ref _)) _ _ _); k_dflt (first | refine strs_ne_nil (by is_list) (by is_list) (by ke_room) ?_ | refine strs_ne_cons (by is_list) (by is_list) (by k_asm) (by ke_room) ?_ | refine strs_ne (by is_list) (by is_list) (by first | k_asm | exact StrsAre.nil) (by first | exact StrsAre.nil | k_asm) (by ke_room) ?_)) | (k_here; (with_reducible show wpAny _ _ (call (Value.builtin "len") [Value.str _ _]) _ _ _); refine len_str (by omega) ?_) | (dsimp only; walk1) | (dsimp only; k_unfold; (try dsimp only)) | fail "no step"))
      refine hold_out ?_
      refine Spec.use (stretches_spec _ word t' (by omega)) _ B0 F X0 N T0 rfl (fun _ hp => hp) (fun _ hp => nomatch hp) (by decide) (by decide) ?_
      rintro r W' h2 tk2 ⟨D, ysS, cS, rfl, rfl, hS⟩ F2 N2 -
      try dsimp only
      simp only [List.cons_append, List.nil_append] at N2
      (repeat' (first |  (k_unfold; (try dsimp only)) | (k_here; (with_reducible show wpAny _ _ (eval (Expr.Name _ _) (compEnv _ _ _)) _ _ _); k_dflt (first | (refine name_locS rfl rfl rfl (by decide) (by with_reducible assumption) (by assumption) ?_; k_whole) | (refine nameG_BS rfl rfl rfl rfl (by decide) (by k_asm) (by k_asm) (by k_asm) (by k_is) (by boot_fast) (by decide) ?_; k_whole))) | (k_here; (with_reducible show wpAny _ _ (call (Value.type _) [Value.str _ _]) _ _ _); k_dflt (refine list_strN rfl (by k_asm) (by k_asm) ?_ (by rw [sizeLine_eq]; omega)); intro D9 ys9 c9 h9 tk9 F9 N9 l9 m9 hS9; (try k_lt l9); (try k_sweep)) | (k_here; (with_reducible show wpAny _ _ (compareOp CmpOp.Eq (Value.ref _) (Value.ref _)) _ _ _); k_dflt (refine strs_eq (by is_list) (by is_list) (by first | k_asm | exact StrsAre.nil) (by first | exact StrsAre.nil | k_asm) (by ke_room) ?_)) | (k_here; (with_reducible show wpAny _ _ (call (Value.builtin _) [Value.ref _, Value.int 0 _]) _ _ _); k_dflt (refine pop_first (by k_asm) (by k_asm) (by k_upd) (by (rw [sizeLine_eq]; (try have hL9 := PyProof.Rows.StrsAre.length (by assumption)); (try simp only [List.length_cons] at *); omega)) ?_; k_whole); intro h9 F9 N9; (try k_sweep)) | (k_here; (with_reducible show wpAny _ _ (call (Value.builtin "len") [Value.ref _]) _ _ _); k_dflt (refine len_strsA (by is_list) (by assumption) (by ((try simp only [List.length_map]); omega)) ?_; k_whole); (try simp only [List.length_map])) | walk1 | (k_here; (with_reducible show wpAny _ _ (compareOp CmpOp.NotEq (Value.ref _) (Value.ref _)) _ _ _); k_dflt (first | refine strs_ne_nil (by is_list) (by is_list) (by ke_room) ?_ | refine strs_ne_cons (by is_list) (by is_list) (by k_asm) (by ke_room) ?_ | refine strs_ne (by is_list) (by is_list) (by first | k_asm | exact StrsAre.nil) (by first | exact StrsAre.nil | k_asm) (by ke_room) ?_)) | (k_here; (with_reducible show wpAny _ _ (call (Value.builtin "len") [Value.str _ _]) _ _ _); refine len_str (by omega) ?_) | (dsimp only; walk1) | (dsimp only; k_unfold; (try dsimp only)) | fail "no step"))
      refine hold_out ?_
      rw [← hout] at hS
      refine' strs_ne_same (n := cH) (m := cS) (xs := ysH) (ys := ysS) ?c0 ?c1 ?c2 hH hS ?c3 ?c4
      case c0 => exact N2
      case c1 => (first | k_mem | (refine List.mem_append_right _ ?_; k_mem) | (refine List.mem_append_left _ ?_; k_mem))
      case c2 => (first | k_mem | (refine List.mem_append_right _ ?_; k_mem) | (refine List.mem_append_left _ ?_; k_mem))
      case c3 => ke_room
      clear hS
      (repeat' (first |  (k_unfold; (try dsimp only)) | (k_here; (with_reducible show wpAny _ _ (eval (Expr.Name _ _) (compEnv _ _ _)) _ _ _); k_dflt (first | (refine name_locS rfl rfl rfl (by decide) (by with_reducible assumption) (by assumption) ?_; k_whole) | (refine nameG_BS rfl rfl rfl rfl (by decide) (by k_asm) (by k_asm) (by k_asm) (by k_is) (by boot_fast) (by decide) ?_; k_whole))) | (k_here; (with_reducible show wpAny _ _ (call (Value.type _) [Value.str _ _]) _ _ _); k_dflt (refine list_strN rfl (by k_asm) (by k_asm) ?_ (by rw [sizeLine_eq]; omega)); intro D9 ys9 c9 h9 tk9 F9 N9 l9 m9 hS9; (try k_lt l9); (try k_sweep)) | (k_here; (with_reducible show wpAny _ _ (compareOp CmpOp.Eq (Value.ref _) (Value.ref _)) _ _ _); k_dflt (refine strs_eq (by is_list) (by is_list) (by first | k_asm | exact StrsAre.nil) (by first | exact StrsAre.nil | k_asm) (by ke_room) ?_)) | (k_here; (with_reducible show wpAny _ _ (call (Value.builtin _) [Value.ref _, Value.int 0 _]) _ _ _); k_dflt (refine pop_first (by k_asm) (by k_asm) (by k_upd) (by (rw [sizeLine_eq]; (try have hL9 := PyProof.Rows.StrsAre.length (by assumption)); (try simp only [List.length_cons] at *); omega)) ?_; k_whole); intro h9 F9 N9; (try k_sweep)) | (k_here; (with_reducible show wpAny _ _ (call (Value.builtin "len") [Value.ref _]) _ _ _); k_dflt (refine len_strsA (by is_list) (by assumption) (by ((try simp only [List.length_map]); omega)) ?_; k_whole); (try simp only [List.length_map])) | walk1 | (k_here; (with_reducible show wpAny _ _ (compareOp CmpOp.NotEq (Value.ref _) (Value.ref _)) _ _ _); k_dflt (first | refine strs_ne_nil (by is_list) (by is_list) (by ke_room) ?_ | refine strs_ne_cons (by is_list) (by is_list) (by k_asm) (by ke_room) ?_ | refine strs_ne (by is_list) (by is_list) (by first | k_asm | exact StrsAre.nil) (by first | exact StrsAre.nil | k_asm) (by ke_room) ?_)) | (k_here; (with_reducible show wpAny _ _ (call (Value.builtin "len") [Value.str _ _]) _ _ _); refine len_str (by omega) ?_) | (dsimp only; walk1) | (dsimp only; k_unfold; (try dsimp only)) | fail "no step"))
      refine hold_out ?_
      refine Spec.use (tok_spec2 _ a ok cq9 n0 tn9 cs rest cc9 hCs (by omega) hr4 (Str.ofString "") _ [] hr2) ((HH, PySem.W.listOf ysH.toArray cH) :: (PP, PySem.W.listOf ysP.toArray cP) :: r4) B0 F2 X0 N2 T0 rfl ?d1 (Dis.above ok oHp (Dis.above ok oPP hDis)).use (by decide) (by decide) ?_
      case d1 => exact fun p hp => .tail _ (up4 hV p hp)
      refine tok_all ?_
      intro h3 tk3 tt3 cq3 tn3 yt3 cc3 hyt3 F3 N3 _
      try dsimp only
      replace N3 : News g L0 _ [(HH, PySem.W.listOf ysH.toArray cH), (a.lx, instObj 66 a.dlx), (a.dlx, lexDict w0 a _ tn3), (72, tabObj ps), (L0 + 4, oJ), (L0 + 3, oR), (L0 + 2, oH2)] := List.forall_mem_cons.mpr ⟨N3 _ (List.mem_append_right _ (.head _)), List.forall_mem_cons.mpr ⟨N3 _ (List.mem_append_left _ (.tail _ (.head _))), List.forall_mem_cons.mpr ⟨N3 _ (List.mem_append_left _ (.tail _ (.tail _ (.head _)))), all4 (N3 _ (List.mem_append_right _ (.tail _ (.tail _ hm72)))) (N3 _ (List.mem_append_right _ (.tail _ (.tail _ hmJ)))) (N3 _ (List.mem_append_right _ (.tail _ (.tail _ hmR)))) (N3 _ (List.mem_append_right _ (.tail _ (.tail _ hmH))))⟩⟩⟩
      clear N2 F2 hV hVo
      (repeat' (first |  (k_unfold; (try dsimp only)) | (k_here; (with_reducible show wpAny _ _ (eval (Expr.Name _ _) (compEnv _ _ _)) _ _ _); k_dflt (first | (refine name_locS rfl rfl rfl (by decide) (by with_reducible assumption) (by assumption) ?_; k_whole) | (refine nameG_BS rfl rfl rfl rfl (by decide) (by k_asm) (by k_asm) (by k_asm) (by k_is) (by boot_fast) (by decide) ?_; k_whole))) | (k_here; (with_reducible show wpAny _ _ (call (Value.type _) [Value.str _ _]) _ _ _); k_dflt (refine list_strN rfl (by k_asm) (by k_asm) ?_ (by rw [sizeLine_eq]; omega)); intro D9 ys9 c9 h9 tk9 F9 N9 l9 m9 hS9; (try k_lt l9); (try k_sweep)) | (k_here; (with_reducible show wpAny _ _ (compareOp CmpOp.Eq (Value.ref _) (Value.ref _)) _ _ _); k_dflt (refine strs_eq (by is_list) (by is_list) (by first | k_asm | exact StrsAre.nil) (by first | exact StrsAre.nil | k_asm) (by ke_room) ?_)) | (k_here; (with_reducible show wpAny _ _ (call (Value.builtin _) [Value.ref _, Value.int 0 _]) _ _ _); k_dflt (refine pop_first (by k_asm) (by k_asm) (by k_upd) (by (rw [sizeLine_eq]; (try have hL9 := PyProof.Rows.StrsAre.length (by assumption)); (try simp only [List.length_cons] at *); omega)) ?_; k_whole); intro h9 F9 N9; (try k_sweep)) | (k_here; (with_reducible show wpAny _ _ (call (Value.builtin "len") [Value.ref _]) _ _ _); k_dflt (refine len_strsA (by is_list) (by assumption) (by ((try simp only [List.length_map]); omega)) ?_; k_whole); (try simp only [List.length_map])) | walk1 | (k_here; (with_reducible show wpAny _ _ (compareOp CmpOp.NotEq (Value.ref _) (Value.ref _)) _ _ _); k_dflt (first | refine strs_ne_nil (by is_list) (by is_list) (by ke_room) ?_ | refine strs_ne_cons (by is_list) (by is_list) (by k_asm) (by ke_room) ?_ | refine strs_ne (by is_list) (by is_list) (by first | k_asm | exact StrsAre.nil) (by first | exact StrsAre.nil | k_asm) (by ke_room) ?_)) | (k_here; (with_reducible show wpAny _ _ (call (Value.builtin "len") [Value.str _ _]) _ _ _); refine len_str (by omega) ?_) | (dsimp only; walk1) | (dsimp only; k_unfold; (try dsimp only)) | fail "no step"))
      · exfalso
        with_reducible rename _ ≠ 1 + Txt.count _ _ => hne
        exact hne (by rw [hcount])
      refine hold_out ?_
      with_reducible rename Fr _ _ _ _ => F4
      have hsum := fun (k j : Nat) (h1 : k ≤ j) (h2 : j < (outerL word (word.length + 1)).length) => okWord_sum hok h1 h2
      have hall := outer_all hwl2 hbds (word.length + 1)
      have hol := outerL_len word (word.length + 1) (by omega)
      rw [← hout] at hsum hall hol
      have hHl := hH.length
      rw [List.length_map] at hHl
      have o72H : @LT.lt Nat _ 72 HH := Nat.lt_trans o72P oHH
      have o4H : @LT.lt Nat _ (L0 + 4) HH := Nat.lt_trans o4P oHH
      have o3H : @LT.lt Nat _ (L0 + 3) HH := Nat.lt_trans o3P oHH
      have o2H : @LT.lt Nat _ (L0 + 2) HH := Nat.lt_trans o2P oHH
      refine comp_U (F₀ := F4) (by with_unfolding_all rfl) (by decide) (by rfl) (by decide) (by rfl) ?_
      (repeat' (first |  (k_unfold; (try dsimp only)) | (k_here; (with_reducible show wpAny _ _ (eval (Expr.Name _ _) (compEnv _ _ _)) _ _ _); k_dflt (first | (refine name_locS rfl rfl rfl (by decide) (by with_reducible assumption) (by assumption) ?_; k_whole) | (refine nameG_BS rfl rfl rfl rfl (by decide) (by k_asm) (by k_asm) (by k_asm) (by k_is) (by boot_fast) (by decide) ?_; k_whole))) | (k_here; (with_reducible show wpAny _ _ (call (Value.type _) [Value.str _ _]) _ _ _); k_dflt (refine list_strN rfl (by k_asm) (by k_asm) ?_ (by rw [sizeLine_eq]; omega)); intro D9 ys9 c9 h9 tk9 F9 N9 l9 m9 hS9; (try k_lt l9); (try k_sweep)) | (k_here; (with_reducible show wpAny _ _ (compareOp CmpOp.Eq (Value.ref _) (Value.ref _)) _ _ _); k_dflt (refine strs_eq (by is_list) (by is_list) (by first | k_asm | exact StrsAre.nil) (by first | exact StrsAre.nil | k_asm) (by ke_room) ?_)) | (k_here; (with_reducible show wpAny _ _ (call (Value.builtin _) [Value.ref _, Value.int 0 _]) _ _ _); k_dflt (refine pop_first (by k_asm) (by k_asm) (by k_upd) (by (rw [sizeLine_eq]; (try have hL9 := PyProof.Rows.StrsAre.length (by assumption)); (try simp only [List.length_cons] at *); omega)) ?_; k_whole); intro h9 F9 N9; (try k_sweep)) | (k_here; (with_reducible show wpAny _ _ (call (Value.builtin "len") [Value.ref _]) _ _ _); k_dflt (refine len_strsA (by is_list) (by assumption) (by ((try simp only [List.length_map]); omega)) ?_; k_whole); (try simp only [List.length_map])) | walk1 | (k_here; (with_reducible show wpAny _ _ (compareOp CmpOp.NotEq (Value.ref _) (Value.ref _)) _ _ _); k_dflt (first | refine strs_ne_nil (by is_list) (by is_list) (by ke_room) ?_ | refine strs_ne_cons (by is_list) (by is_list) (by k_asm) (by ke_room) ?_ | refine strs_ne (by is_list) (by is_list) (by first | k_asm | exact StrsAre.nil) (by first | exact StrsAre.nil | k_asm) (by ke_room) ?_)) | (k_here; (with_reducible show wpAny _ _ (call (Value.builtin "len") [Value.str _ _]) _ _ _); refine len_str (by omega) ?_) | (dsimp only; walk1) | (dsimp only; k_unfold; (try dsimp only)) | fail "no step"))
      refine hold_out ?_
      with_reducible rename IsRange _ _ _ _ _ _ _ _ => hR
      with_reducible rename Fr _ _ _ _ => F5
      with_reducible rename News _ _ _ _ => N5
      have N5b : News g L0 _ [(HH, PySem.W.listOf ysH.toArray cH), (72, tabObj ps), (L0 + 4, oJ), (L0 + 3, oR), (L0 + 2, oH2)] := fun p hp => N5 p (by revert p hp; (repeat (first | exact List.forall_mem_nil _ | refine List.forall_mem_cons.mpr ⟨by k_mem, ?_⟩)))
      refine LCg.CompSrc.range (n := out.length) (by rfl) F5 N5b hR (range_small (a := 0) (by omega) (by omega)) (range_size (a := 0)) (by rw [sizeLine_eq]; omega) ?_
      intro g'
      refine rest_inv out.length (fun i ys nx => ∃ own, nx = (HH, PySem.W.listOf ysH.toArray cH) :: (72, tabObj ps) :: (L0 + 4, oJ) :: (L0 + 3, oR) :: (L0 + 2, oH2) :: own ∧ RowsAre PySem.Challenge.rw_sc0030_01.row.prog w0 ys ((List.range i).map fun k => rowL out k (out.length - k)) own ∧ (∀ p ∈ own, p.1 ≠ HH) ∧ ∀ p ∈ own, @LT.lt Nat _ (L0 + 4) p.1) ?turnR ?finR _ 0 [] _ (by rw [Nat.zero_add]) ⟨[], rfl, RowsAre.nil, (fun _ h => nomatch h), fun _ h => nomatch h⟩
      case turnR =>
        rintro i ys nx v I oI C oC D m₂ h' tk' E' hi ⟨own, rfl, hRows, hne, hgt⟩ ⟨tv, rfl⟩ hCo hx F' N' off ne
        simp only [Int.zero_add] at hx
        have g123 := off3_one off
        (repeat' (first |  (k_unfold; (try dsimp only)) | (k_here; (with_reducible show wpAny _ _ (eval (Expr.Name _ _) (compEnv _ _ _)) _ _ _); k_dflt (first | (refine name_locS rfl rfl rfl (by decide) (by with_reducible assumption) (by assumption) ?_; k_whole) | (refine nameG_BS rfl rfl rfl rfl (by decide) (by k_asm) (by k_asm) (by k_asm) (by k_is) (by boot_fast) (by decide) ?_; k_whole))) | (k_here; (with_reducible show wpAny _ _ (call (Value.type _) [Value.str _ _]) _ _ _); k_dflt (refine list_strN rfl (by k_asm) (by k_asm) ?_ (by rw [sizeLine_eq]; omega)); intro D9 ys9 c9 h9 tk9 F9 N9 l9 m9 hS9; (try k_lt l9); (try k_sweep)) | (k_here; (with_reducible show wpAny _ _ (compareOp CmpOp.Eq (Value.ref _) (Value.ref _)) _ _ _); k_dflt (refine strs_eq (by is_list) (by is_list) (by first | k_asm | exact StrsAre.nil) (by first | exact StrsAre.nil | k_asm) (by ke_room) ?_)) | (k_here; (with_reducible show wpAny _ _ (call (Value.builtin _) [Value.ref _, Value.int 0 _]) _ _ _); k_dflt (refine pop_first (by k_asm) (by k_asm) (by k_upd) (by (rw [sizeLine_eq]; (try have hL9 := PyProof.Rows.StrsAre.length (by assumption)); (try simp only [List.length_cons] at *); omega)) ?_; k_whole); intro h9 F9 N9; (try k_sweep)) | (k_here; (with_reducible show wpAny _ _ (call (Value.builtin "len") [Value.ref _]) _ _ _); k_dflt (refine len_strsA (by is_list) (by assumption) (by ((try simp only [List.length_map]); omega)) ?_; k_whole); (try simp only [List.length_map])) | walk1 | (k_here; (with_reducible show wpAny _ _ (compareOp CmpOp.NotEq (Value.ref _) (Value.ref _)) _ _ _); k_dflt (first | refine strs_ne_nil (by is_list) (by is_list) (by ke_room) ?_ | refine strs_ne_cons (by is_list) (by is_list) (by k_asm) (by ke_room) ?_ | refine strs_ne (by is_list) (by is_list) (by first | k_asm | exact StrsAre.nil) (by first | exact StrsAre.nil | k_asm) (by ke_room) ?_)) | (k_here; (with_reducible show wpAny _ _ (call (Value.builtin "len") [Value.str _ _]) _ _ _); refine len_str (by omega) ?_) | (dsimp only; walk1) | (dsimp only; k_unfold; (try dsimp only)) | fail "no step"))
        refine hold_out ?_
        with_reducible rename Fr _ _ _ _ => F6
        with_reducible rename News _ _ _ _ => N6
        refine Spec.use (row_spec w0 HH out ysH cH i _ hH hi hall (by omega)) ((I, oI) :: (C, oC) :: (D, LCg.lst ys) :: (72, tabObj ps) :: (L0 + 4, oJ) :: (L0 + 3, oR) :: (L0 + 2, oH2) :: own) B0 F6 X0 N6 T0 rfl ?r1 ?r2 (by decide) (by decide) ?r3
        case r1 => (repeat (first | exact List.forall_mem_nil _ | (intro p hp; (repeat (first | exact hp | refine List.Mem.tail _ ?_)); done) | refine List.forall_mem_cons.mpr ⟨by (first | k_mem | (refine List.mem_append_right _ ?_; k_mem) | (refine List.mem_append_left _ ?_; k_mem)), ?_⟩))
        case r2 =>
          refine List.forall_mem_cons.mpr ⟨?_, List.forall_mem_nil _⟩
          refine List.forall_mem_cons.mpr ⟨g123.1, List.forall_mem_cons.mpr ⟨g123.2.1, List.forall_mem_cons.mpr ⟨g123.2.2, List.forall_mem_cons.mpr ⟨Nat.ne_of_gt o72H, List.forall_mem_cons.mpr ⟨Nat.ne_of_gt o4H, List.forall_mem_cons.mpr ⟨Nat.ne_of_gt o3H, List.forall_mem_cons.mpr ⟨Nat.ne_of_gt o2H, fun q hq => Ne.symm (hne q hq)⟩⟩⟩⟩⟩⟩⟩
        case r3 =>
          rintro r W' h7 tk7 ⟨D2, o2, kvs, rfl, rfl, hd2, hf2, lo2⟩ F7 N7 hg7
          try dsimp only
          have hD2 : D2 ≠ HH := dict_ne_list N7 (.head _) (.tail _ (.head _)) hd2
          have hlt := (hg7 (D2, o2) (.head _)).resolve_left (by simpa using hD2)
          clear hg7
          simp only [List.cons_append, List.nil_append] at N7
          refine' LCg.CompEnd.intro F7 N7 ((HH, PySem.W.listOf ysH.toArray cH) :: (72, tabObj ps) :: (L0 + 4, oJ) :: (L0 + 3, oR) :: (L0 + 2, oH2) :: (D2, o2) :: own) ?e1 ?e2 trivial ⟨(D2, o2) :: own, rfl, ?e3, List.forall_mem_cons.mpr ⟨hD2, hne⟩, List.forall_mem_cons.mpr ⟨hlt (L0 + 4, oJ) (.tail _ (.tail _ (.tail _ (.tail _ (.head _))))), hgt⟩⟩
          case e1 => (repeat (first | exact List.forall_mem_nil _ | (intro p hp; (repeat (first | exact hp | refine List.Mem.tail _ ?_)); done) | refine List.forall_mem_cons.mpr ⟨by (first | k_mem | (refine List.mem_append_right _ ?_; k_mem) | (refine List.mem_append_left _ ?_; k_mem)), ?_⟩))
          case e2 => exact off3_ins off (Nat.ne_of_gt (hlt (I, oI) (.head _))) (Nat.ne_of_gt (hlt (C, oC) (.tail _ (.head _)))) (Nat.ne_of_gt (hlt (D, LCg.lst ys) (.tail _ (.tail _ (.head _)))))
          case e3 => rw [range_snoc]; exact hRows.snoc hd2 hf2 lo2
      case finR =>
        rintro ysR nx ⟨own, rfl, hRows, hne, hgt⟩
        intro RR h8 tk8 F8 N8 off8
        refine off1_5 off8 ?_
        intro b1 b2 b3 b4 b5 offR
        (repeat' (first |  (k_unfold; (try dsimp only)) | (k_here; (with_reducible show wpAny _ _ (eval (Expr.Name _ _) (compEnv _ _ _)) _ _ _); k_dflt (first | (refine name_locS rfl rfl rfl (by decide) (by with_reducible assumption) (by assumption) ?_; k_whole) | (refine nameG_BS rfl rfl rfl rfl (by decide) (by k_asm) (by k_asm) (by k_asm) (by k_is) (by boot_fast) (by decide) ?_; k_whole))) | (k_here; (with_reducible show wpAny _ _ (call (Value.type _) [Value.str _ _]) _ _ _); k_dflt (refine list_strN rfl (by k_asm) (by k_asm) ?_ (by rw [sizeLine_eq]; omega)); intro D9 ys9 c9 h9 tk9 F9 N9 l9 m9 hS9; (try k_lt l9); (try k_sweep)) | (k_here; (with_reducible show wpAny _ _ (compareOp CmpOp.Eq (Value.ref _) (Value.ref _)) _ _ _); k_dflt (refine strs_eq (by is_list) (by is_list) (by first | k_asm | exact StrsAre.nil) (by first | exact StrsAre.nil | k_asm) (by ke_room) ?_)) | (k_here; (with_reducible show wpAny _ _ (call (Value.builtin _) [Value.ref _, Value.int 0 _]) _ _ _); k_dflt (refine pop_first (by k_asm) (by k_asm) (by k_upd) (by (rw [sizeLine_eq]; (try have hL9 := PyProof.Rows.StrsAre.length (by assumption)); (try simp only [List.length_cons] at *); omega)) ?_; k_whole); intro h9 F9 N9; (try k_sweep)) | (k_here; (with_reducible show wpAny _ _ (call (Value.builtin "len") [Value.ref _]) _ _ _); k_dflt (refine len_strsA (by is_list) (by assumption) (by ((try simp only [List.length_map]); omega)) ?_; k_whole); (try simp only [List.length_map])) | walk1 | (k_here; (with_reducible show wpAny _ _ (compareOp CmpOp.NotEq (Value.ref _) (Value.ref _)) _ _ _); k_dflt (first | refine strs_ne_nil (by is_list) (by is_list) (by ke_room) ?_ | refine strs_ne_cons (by is_list) (by is_list) (by k_asm) (by ke_room) ?_ | refine strs_ne (by is_list) (by is_list) (by first | k_asm | exact StrsAre.nil) (by first | exact StrsAre.nil | k_asm) (by ke_room) ?_)) | (k_here; (with_reducible show wpAny _ _ (call (Value.builtin "len") [Value.str _ _]) _ _ _); refine len_str (by omega) ?_) | (dsimp only; walk1) | (dsimp only; k_unfold; (try dsimp only)) | fail "no step"))
        refine hold_out ?_
        refine wpAny_For ?_
        (repeat' (first |  (k_unfold; (try dsimp only)) | (k_here; (with_reducible show wpAny _ _ (eval (Expr.Name _ _) (compEnv _ _ _)) _ _ _); k_dflt (first | (refine name_locS rfl rfl rfl (by decide) (by with_reducible assumption) (by assumption) ?_; k_whole) | (refine nameG_BS rfl rfl rfl rfl (by decide) (by k_asm) (by k_asm) (by k_asm) (by k_is) (by boot_fast) (by decide) ?_; k_whole))) | (k_here; (with_reducible show wpAny _ _ (call (Value.type _) [Value.str _ _]) _ _ _); k_dflt (refine list_strN rfl (by k_asm) (by k_asm) ?_ (by rw [sizeLine_eq]; omega)); intro D9 ys9 c9 h9 tk9 F9 N9 l9 m9 hS9; (try k_lt l9); (try k_sweep)) | (k_here; (with_reducible show wpAny _ _ (compareOp CmpOp.Eq (Value.ref _) (Value.ref _)) _ _ _); k_dflt (refine strs_eq (by is_list) (by is_list) (by first | k_asm | exact StrsAre.nil) (by first | exact StrsAre.nil | k_asm) (by ke_room) ?_)) | (k_here; (with_reducible show wpAny _ _ (call (Value.builtin _) [Value.ref _, Value.int 0 _]) _ _ _); k_dflt (refine pop_first (by k_asm) (by k_asm) (by k_upd) (by (rw [sizeLine_eq]; (try have hL9 := PyProof.Rows.StrsAre.length (by assumption)); (try simp only [List.length_cons] at *); omega)) ?_; k_whole); intro h9 F9 N9; (try k_sweep)) | (k_here; (with_reducible show wpAny _ _ (call (Value.builtin "len") [Value.ref _]) _ _ _); k_dflt (refine len_strsA (by is_list) (by assumption) (by ((try simp only [List.length_map]); omega)) ?_; k_whole); (try simp only [List.length_map])) | walk1 | (k_here; (with_reducible show wpAny _ _ (compareOp CmpOp.NotEq (Value.ref _) (Value.ref _)) _ _ _); k_dflt (first | refine strs_ne_nil (by is_list) (by is_list) (by ke_room) ?_ | refine strs_ne_cons (by is_list) (by is_list) (by k_asm) (by ke_room) ?_ | refine strs_ne (by is_list) (by is_list) (by first | k_asm | exact StrsAre.nil) (by first | exact StrsAre.nil | k_asm) (by ke_room) ?_)) | (k_here; (with_reducible show wpAny _ _ (call (Value.builtin "len") [Value.str _ _]) _ _ _); refine len_str (by omega) ?_) | (dsimp only; walk1) | (dsimp only; k_unfold; (try dsimp only)) | fail "no step"))
        refine hold_out ?_
        with_reducible rename IsRange _ _ _ _ _ _ _ _ => hR1
        with_reducible rename Fr _ _ _ _ => F9
        with_reducible rename News _ _ _ _ => N9
        with_reducible rename Obj => oR3
        with_reducible rename Obj.data _ = Data.cell (some _) => dR3
        replace hRows : RowsAre PySem.Challenge.rw_sc0030_01.row.prog w0 ysR (rowsL out) own := hRows
        have hRl : ysR.length = out.length := by rw [hRows.1, rowsL_len]
        refine' for_range (m := fun y => if y = Str.ofString "k" then none else lwFr S PP a.lx text (ofL word) total la tx t' t1 t2 mn ml mp y) (KJ (lwFr S PP a.lx text (ofL word) total la tx t' t1 t2 mn ml mp) (RR, LCg.lst ysR) (HH, PySem.W.listOf ysH.toArray cH) (72, tabObj ps) (L0 + 4) ((L0 + 3, oR3) :: (L0 + 2, oH2) :: own)) (by rfl) (fun _ _ h => h) hR1 (range_small (a := 0) (by omega) (by omega)) (range_size (a := 0)) ?frK N9 (KJ.mk (F0 := (lwFr S PP a.lx text (ofL word) total la tx t' t1 t2 mn ml mp)) dJ) ?turnK ?doneK
        case frK =>
          refine fr_to F9 (fun y => ?_)
          by_cases h1 : y = Str.ofString "k"
          · subst h1; rfl
          · exact (if_neg h1).symm
        case doneK =>
          intro m₁ nx h9 tk9 hJ
          revert m₁ nx
          refine kj_all ?_
          intro mk oJ' c dJ' F10 N10
          try dsimp only
          subst hg
          subst hL0
          (repeat' (first |  (k_unfold; (try dsimp only)) | (k_here; (with_reducible show wpAny _ _ (eval (Expr.Name _ _) (compEnv _ _ _)) _ _ _); k_dflt (first | (refine name_locS rfl rfl rfl (by decide) (by with_reducible assumption) (by assumption) ?_; k_whole) | (refine nameG_BS rfl rfl rfl rfl (by decide) (by k_asm) (by k_asm) (by k_asm) (by k_is) (by boot_fast) (by decide) ?_; k_whole))) | (k_here; (with_reducible show wpAny _ _ (call (Value.type _) [Value.str _ _]) _ _ _); k_dflt (refine list_strN rfl (by k_asm) (by k_asm) ?_ (by rw [sizeLine_eq]; omega)); intro D9 ys9 c9 h9 tk9 F9 N9 l9 m9 hS9; (try k_lt l9); (try k_sweep)) | (k_here; (with_reducible show wpAny _ _ (compareOp CmpOp.Eq (Value.ref _) (Value.ref _)) _ _ _); k_dflt (refine strs_eq (by is_list) (by is_list) (by first | k_asm | exact StrsAre.nil) (by first | exact StrsAre.nil | k_asm) (by ke_room) ?_)) | (k_here; (with_reducible show wpAny _ _ (call (Value.builtin _) [Value.ref _, Value.int 0 _]) _ _ _); k_dflt (refine pop_first (by k_asm) (by k_asm) (by k_upd) (by (rw [sizeLine_eq]; (try have hL9 := PyProof.Rows.StrsAre.length (by assumption)); (try simp only [List.length_cons] at *); omega)) ?_; k_whole); intro h9 F9 N9; (try k_sweep)) | (k_here; (with_reducible show wpAny _ _ (call (Value.builtin "len") [Value.ref _]) _ _ _); k_dflt (refine len_strsA (by is_list) (by assumption) (by ((try simp only [List.length_map]); omega)) ?_; k_whole); (try simp only [List.length_map])) | walk1 | (k_here; (with_reducible show wpAny _ _ (compareOp CmpOp.NotEq (Value.ref _) (Value.ref _)) _ _ _); k_dflt (first | refine strs_ne_nil (by is_list) (by is_list) (by ke_room) ?_ | refine strs_ne_cons (by is_list) (by is_list) (by k_asm) (by ke_room) ?_ | refine strs_ne (by is_list) (by is_list) (by first | k_asm | exact StrsAre.nil) (by first | exact StrsAre.nil | k_asm) (by ke_room) ?_)) | (k_here; (with_reducible show wpAny _ _ (call (Value.builtin "len") [Value.str _ _]) _ _ _); refine len_str (by omega) ?_) | (dsimp only; walk1) | (dsimp only; k_unfold; (try dsimp only)) | fail "no step"))
          kc_close
        case turnK =>
          intro i tv m₁ nx h9 tk9 I oI hi hJ
          revert m₁ nx
          refine kj_all ?_
          intro mk oJ' c dJ' F10 N10 offI
          rw [Int.zero_add]
          replace hi : i < out.length := hi
          have hoB : out.length ≤ 100000 := Nat.le_trans (out_le hol hwl2) (by decide)
          have hiB : i ≤ 100000 := Nat.le_trans (Nat.le_of_lt hi) hoB
          have hi63 : ((i : Nat) : Int) < 2 ^ 63 := lt63 hiB
          refine off_6 offI ?_
          intro q1 q2 q3 q4 q5 q6 offIO
          (repeat' (first |  (k_unfold; (try dsimp only)) | (k_here; (with_reducible show wpAny _ _ (eval (Expr.Name _ _) (compEnv _ _ _)) _ _ _); k_dflt (first | (refine name_locS rfl rfl rfl (by decide) (by with_reducible assumption) (by assumption) ?_; k_whole) | (refine nameG_BS rfl rfl rfl rfl (by decide) (by k_asm) (by k_asm) (by k_asm) (by k_is) (by boot_fast) (by decide) ?_; k_whole))) | (k_here; (with_reducible show wpAny _ _ (call (Value.type _) [Value.str _ _]) _ _ _); k_dflt (refine list_strN rfl (by k_asm) (by k_asm) ?_ (by rw [sizeLine_eq]; omega)); intro D9 ys9 c9 h9 tk9 F9 N9 l9 m9 hS9; (try k_lt l9); (try k_sweep)) | (k_here; (with_reducible show wpAny _ _ (compareOp CmpOp.Eq (Value.ref _) (Value.ref _)) _ _ _); k_dflt (refine strs_eq (by is_list) (by is_list) (by first | k_asm | exact StrsAre.nil) (by first | exact StrsAre.nil | k_asm) (by ke_room) ?_)) | (k_here; (with_reducible show wpAny _ _ (call (Value.builtin _) [Value.ref _, Value.int 0 _]) _ _ _); k_dflt (refine pop_first (by k_asm) (by k_asm) (by k_upd) (by (rw [sizeLine_eq]; (try have hL9 := PyProof.Rows.StrsAre.length (by assumption)); (try simp only [List.length_cons] at *); omega)) ?_; k_whole); intro h9 F9 N9; (try k_sweep)) | (k_here; (with_reducible show wpAny _ _ (call (Value.builtin "len") [Value.ref _]) _ _ _); k_dflt (refine len_strsA (by is_list) (by assumption) (by ((try simp only [List.length_map]); omega)) ?_; k_whole); (try simp only [List.length_map])) | walk1 | (k_here; (with_reducible show wpAny _ _ (compareOp CmpOp.NotEq (Value.ref _) (Value.ref _)) _ _ _); k_dflt (first | refine strs_ne_nil (by is_list) (by is_list) (by ke_room) ?_ | refine strs_ne_cons (by is_list) (by is_list) (by k_asm) (by ke_room) ?_ | refine strs_ne (by is_list) (by is_list) (by first | k_asm | exact StrsAre.nil) (by first | exact StrsAre.nil | k_asm) (by ke_room) ?_)) | (k_here; (with_reducible show wpAny _ _ (call (Value.builtin "len") [Value.str _ _]) _ _ _); refine len_str (by omega) ?_) | (dsimp only; walk1) | (dsimp only; k_unfold; (try dsimp only)) | fail "no step"))
          refine hold_out ?_
          refine wpAny_For ?_
          (repeat' (first |  (k_unfold; (try dsimp only)) | (k_here; (with_reducible show wpAny _ _ (eval (Expr.Name _ _) (compEnv _ _ _)) _ _ _); k_dflt (first | (refine name_locS rfl rfl rfl (by decide) (by with_reducible assumption) (by assumption) ?_; k_whole) | (refine nameG_BS rfl rfl rfl rfl (by decide) (by k_asm) (by k_asm) (by k_asm) (by k_is) (by boot_fast) (by decide) ?_; k_whole))) | (k_here; (with_reducible show wpAny _ _ (call (Value.type _) [Value.str _ _]) _ _ _); k_dflt (refine list_strN rfl (by k_asm) (by k_asm) ?_ (by rw [sizeLine_eq]; omega)); intro D9 ys9 c9 h9 tk9 F9 N9 l9 m9 hS9; (try k_lt l9); (try k_sweep)) | (k_here; (with_reducible show wpAny _ _ (compareOp CmpOp.Eq (Value.ref _) (Value.ref _)) _ _ _); k_dflt (refine strs_eq (by is_list) (by is_list) (by first | k_asm | exact StrsAre.nil) (by first | exact StrsAre.nil | k_asm) (by ke_room) ?_)) | (k_here; (with_reducible show wpAny _ _ (call (Value.builtin _) [Value.ref _, Value.int 0 _]) _ _ _); k_dflt (refine pop_first (by k_asm) (by k_asm) (by k_upd) (by (rw [sizeLine_eq]; (try have hL9 := PyProof.Rows.StrsAre.length (by assumption)); (try simp only [List.length_cons] at *); omega)) ?_; k_whole); intro h9 F9 N9; (try k_sweep)) | (k_here; (with_reducible show wpAny _ _ (call (Value.builtin "len") [Value.ref _]) _ _ _); k_dflt (refine len_strsA (by is_list) (by assumption) (by ((try simp only [List.length_map]); omega)) ?_; k_whole); (try simp only [List.length_map])) | walk1 | (k_here; (with_reducible show wpAny _ _ (compareOp CmpOp.NotEq (Value.ref _) (Value.ref _)) _ _ _); k_dflt (first | refine strs_ne_nil (by is_list) (by is_list) (by ke_room) ?_ | refine strs_ne_cons (by is_list) (by is_list) (by k_asm) (by ke_room) ?_ | refine strs_ne (by is_list) (by is_list) (by first | k_asm | exact StrsAre.nil) (by first | exact StrsAre.nil | k_asm) (by ke_room) ?_)) | (k_here; (with_reducible show wpAny _ _ (call (Value.builtin "len") [Value.str _ _]) _ _ _); refine len_str (by omega) ?_) | (dsimp only; walk1) | (dsimp only; k_unfold; (try dsimp only)) | fail "no step"))
          refine hold_out ?_
          with_reducible rename IsRange _ _ _ _ _ _ _ _ => hR2
          with_reducible rename Fr _ _ _ _ => F11
          with_reducible rename News _ _ _ _ => N11
          refine' for_range (m := fun y => if y = Str.ofString "k" then some (Value.int (i : Int) tv) else lwFr S PP a.lx text (ofL word) total la tx t' t1 t2 mn ml mp y) (JJ (fun y => if y = Str.ofString "k" then some (Value.int (i : Int) tv) else lwFr S PP a.lx text (ofL word) total la tx t' t1 t2 mn ml mp y) (I, oI) (RR, LCg.lst ysR) (HH, PySem.W.listOf ysH.toArray cH) (72, tabObj ps) (L0 + 4) ((L0 + 3, oR3) :: (L0 + 2, oH2) :: own)) (by rfl) (fun _ _ h => h) hR2 (range_small hiB hoB) range_size ?frJ N11 (JJ.mk dJ') ?turnJ ?doneJ
          case frJ => exact lw_k F11
          case doneJ =>
            intro m₁ nx h12 tk12 hJ
            revert m₁ nx
            refine jj_all ?_
            intro oJ2 c2 dJ2 F12 N12
            try dsimp only
            (repeat' (first |  (k_unfold; (try dsimp only)) | (k_here; (with_reducible show wpAny _ _ (eval (Expr.Name _ _) (compEnv _ _ _)) _ _ _); k_dflt (first | (refine name_locS rfl rfl rfl (by decide) (by with_reducible assumption) (by assumption) ?_; k_whole) | (refine nameG_BS rfl rfl rfl rfl (by decide) (by k_asm) (by k_asm) (by k_asm) (by k_is) (by boot_fast) (by decide) ?_; k_whole))) | (k_here; (with_reducible show wpAny _ _ (call (Value.type _) [Value.str _ _]) _ _ _); k_dflt (refine list_strN rfl (by k_asm) (by k_asm) ?_ (by rw [sizeLine_eq]; omega)); intro D9 ys9 c9 h9 tk9 F9 N9 l9 m9 hS9; (try k_lt l9); (try k_sweep)) | (k_here; (with_reducible show wpAny _ _ (compareOp CmpOp.Eq (Value.ref _) (Value.ref _)) _ _ _); k_dflt (refine strs_eq (by is_list) (by is_list) (by first | k_asm | exact StrsAre.nil) (by first | exact StrsAre.nil | k_asm) (by ke_room) ?_)) | (k_here; (with_reducible show wpAny _ _ (call (Value.builtin _) [Value.ref _, Value.int 0 _]) _ _ _); k_dflt (refine pop_first (by k_asm) (by k_asm) (by k_upd) (by (rw [sizeLine_eq]; (try have hL9 := PyProof.Rows.StrsAre.length (by assumption)); (try simp only [List.length_cons] at *); omega)) ?_; k_whole); intro h9 F9 N9; (try k_sweep)) | (k_here; (with_reducible show wpAny _ _ (call (Value.builtin "len") [Value.ref _]) _ _ _); k_dflt (refine len_strsA (by is_list) (by assumption) (by ((try simp only [List.length_map]); omega)) ?_; k_whole); (try simp only [List.length_map])) | walk1 | (k_here; (with_reducible show wpAny _ _ (compareOp CmpOp.NotEq (Value.ref _) (Value.ref _)) _ _ _); k_dflt (first | refine strs_ne_nil (by is_list) (by is_list) (by ke_room) ?_ | refine strs_ne_cons (by is_list) (by is_list) (by k_asm) (by ke_room) ?_ | refine strs_ne (by is_list) (by is_list) (by first | k_asm | exact StrsAre.nil) (by first | exact StrsAre.nil | k_asm) (by ke_room) ?_)) | (k_here; (with_reducible show wpAny _ _ (call (Value.builtin "len") [Value.str _ _]) _ _ _); refine len_str (by omega) ?_) | (dsimp only; walk1) | (dsimp only; k_unfold; (try dsimp only)) | fail "no step"))
            -- DONE J
            exact TurnTo.mk (KJ.mk (F0 := (lwFr S PP a.lx text (ofL word) total la tx t' t1 t2 mn ml mp)) dJ2) F12 N12 (fun p hp => hp) (List.forall_mem_cons.mpr ⟨q1, List.forall_mem_cons.mpr ⟨q2, List.forall_mem_cons.mpr ⟨q3, List.forall_mem_cons.mpr ⟨q4, fun p hp => offI p (.tail _ (.tail _ (.tail _ (.tail _ hp))))⟩⟩⟩⟩)
          case turnJ =>
            intro j tj m₂ nx2 h12 tk12 I2 oI2 hj hJ
            revert m₂ nx2
            refine jj_all ?_
            intro oJ2 c2 dJ2 F12 N12 offI2
            rw [← Int.natCast_add]
            have hij : i + j < out.length := by rw [Nat.add_comm]; exact Nat.add_lt_of_lt_sub hj
            clear hj
            refine off_7 offI2 ?_
            intro u0 u1 u2 u3 u4 u5 u6 offI2O
            (repeat' (first |  (k_unfold; (try dsimp only)) | (k_here; (with_reducible show wpAny _ _ (eval (Expr.Name _ _) (compEnv _ _ _)) _ _ _); k_dflt (first | (refine name_locS rfl rfl rfl (by decide) (by with_reducible assumption) (by assumption) ?_; k_whole) | (refine nameG_BS rfl rfl rfl rfl (by decide) (by k_asm) (by k_asm) (by k_asm) (by k_is) (by boot_fast) (by decide) ?_; k_whole))) | (k_here; (with_reducible show wpAny _ _ (call (Value.type _) [Value.str _ _]) _ _ _); k_dflt (refine list_strN rfl (by k_asm) (by k_asm) ?_ (by rw [sizeLine_eq]; omega)); intro D9 ys9 c9 h9 tk9 F9 N9 l9 m9 hS9; (try k_lt l9); (try k_sweep)) | (k_here; (with_reducible show wpAny _ _ (compareOp CmpOp.Eq (Value.ref _) (Value.ref _)) _ _ _); k_dflt (refine strs_eq (by is_list) (by is_list) (by first | k_asm | exact StrsAre.nil) (by first | exact StrsAre.nil | k_asm) (by ke_room) ?_)) | (k_here; (with_reducible show wpAny _ _ (call (Value.builtin _) [Value.ref _, Value.int 0 _]) _ _ _); k_dflt (refine pop_first (by k_asm) (by k_asm) (by k_upd) (by (rw [sizeLine_eq]; (try have hL9 := PyProof.Rows.StrsAre.length (by assumption)); (try simp only [List.length_cons] at *); omega)) ?_; k_whole); intro h9 F9 N9; (try k_sweep)) | (k_here; (with_reducible show wpAny _ _ (call (Value.builtin "len") [Value.ref _]) _ _ _); k_dflt (refine len_strsA (by is_list) (by assumption) (by ((try simp only [List.length_map]); omega)) ?_; k_whole); (try simp only [List.length_map])) | walk1 | (k_here; (with_reducible show wpAny _ _ (compareOp CmpOp.NotEq (Value.ref _) (Value.ref _)) _ _ _); k_dflt (first | refine strs_ne_nil (by is_list) (by is_list) (by ke_room) ?_ | refine strs_ne_cons (by is_list) (by is_list) (by k_asm) (by ke_room) ?_ | refine strs_ne (by is_list) (by is_list) (by first | k_asm | exact StrsAre.nil) (by first | exact StrsAre.nil | k_asm) (by ke_room) ?_)) | (k_here; (with_reducible show wpAny _ _ (call (Value.builtin "len") [Value.str _ _]) _ _ _); refine len_str (by omega) ?_) | (dsimp only; walk1) | (dsimp only; k_unfold; (try dsimp only)) | fail "no step"))
            refine hold_out ?_
            with_reducible rename Fr _ _ _ _ => F13
            with_reducible rename News _ _ _ _ => N13
            with_reducible rename Obj => oJ3
            with_reducible rename Obj.data _ = Data.cell (some _) => dJ3
            refine ListComp_TD F13 (by with_unfolding_all rfl) (by decide) (by rfl) (by decide) (by rfl) ?_
            (repeat' (first |  (k_unfold; (try dsimp only)) | (k_here; (with_reducible show wpAny _ _ (eval (Expr.Name _ _) (compEnv _ _ _)) _ _ _); k_dflt (first | (refine name_locS rfl rfl rfl (by decide) (by with_reducible assumption) (by assumption) ?_; k_whole) | (refine nameG_BS rfl rfl rfl rfl (by decide) (by k_asm) (by k_asm) (by k_asm) (by k_is) (by boot_fast) (by decide) ?_; k_whole))) | (k_here; (with_reducible show wpAny _ _ (call (Value.type _) [Value.str _ _]) _ _ _); k_dflt (refine list_strN rfl (by k_asm) (by k_asm) ?_ (by rw [sizeLine_eq]; omega)); intro D9 ys9 c9 h9 tk9 F9 N9 l9 m9 hS9; (try k_lt l9); (try k_sweep)) | (k_here; (with_reducible show wpAny _ _ (compareOp CmpOp.Eq (Value.ref _) (Value.ref _)) _ _ _); k_dflt (refine strs_eq (by is_list) (by is_list) (by first | k_asm | exact StrsAre.nil) (by first | exact StrsAre.nil | k_asm) (by ke_room) ?_)) | (k_here; (with_reducible show wpAny _ _ (call (Value.builtin _) [Value.ref _, Value.int 0 _]) _ _ _); k_dflt (refine pop_first (by k_asm) (by k_asm) (by k_upd) (by (rw [sizeLine_eq]; (try have hL9 := PyProof.Rows.StrsAre.length (by assumption)); (try simp only [List.length_cons] at *); omega)) ?_; k_whole); intro h9 F9 N9; (try k_sweep)) | (k_here; (with_reducible show wpAny _ _ (call (Value.builtin "len") [Value.ref _]) _ _ _); k_dflt (refine len_strsA (by is_list) (by assumption) (by ((try simp only [List.length_map]); omega)) ?_; k_whole); (try simp only [List.length_map])) | walk1 | (k_here; (with_reducible show wpAny _ _ (compareOp CmpOp.NotEq (Value.ref _) (Value.ref _)) _ _ _); k_dflt (first | refine strs_ne_nil (by is_list) (by is_list) (by ke_room) ?_ | refine strs_ne_cons (by is_list) (by is_list) (by k_asm) (by ke_room) ?_ | refine strs_ne (by is_list) (by is_list) (by first | k_asm | exact StrsAre.nil) (by first | exact StrsAre.nil | k_asm) (by ke_room) ?_)) | (k_here; (with_reducible show wpAny _ _ (call (Value.builtin "len") [Value.str _ _]) _ _ _); refine len_str (by omega) ?_) | (dsimp only; walk1) | (dsimp only; k_unfold; (try dsimp only)) | fail "no step"))
            refine hold_out ?_
            refine ex3 (hRows.2 i (by rw [rowsL_len]; exact hi)) ?_
            intro Dk ok9 kvk hp9
            refine and5 hp9 ?_
            clear hp9
            intro e1 e2 e3 e4 e5
            refine' item_listR (items := ysR.toArray) (x := .ref Dk) ?i1 ?i2 ?i3 ?i4 ?i5
            case i1 => exact ⟨_, (N13 (RR, LCg.lst ysR) (by (first | k_mem | (refine List.mem_append_right _ ?_; k_mem) | (refine List.mem_append_left _ ?_; k_mem)))).1, rfl, _, rfl⟩
            case i2 => first | (with_reducible exact hi63) | (with_reducible exact Int.natCast_nonneg _) | omega
            case i3 => first | (with_reducible exact hi63) | (with_reducible exact Int.natCast_nonneg _) | omega
            case i4 => rw [Int.toNat_natCast]; simpa using e1
            have hkl := flat_len e4
            have hks := rows_small hi
            refine ⟨Dk, ok9, (I2, oI2) :: (I, oI) :: (RR, LCg.lst ysR) :: (HH, PySem.W.listOf ysH.toArray cH) :: (72, tabObj ps) :: (L0 + 4, oJ3) :: (L0 + 3, oR3) :: (L0 + 2, oH2) :: own, kvk, rfl, by rfl, F13, N13, .tail _ (.tail _ (.tail _ (.tail _ (.tail _ (.tail _ (.tail _ (.tail _ e2))))))), e3, e5, by rw [sizeLine_eq]; omega, ?_⟩
            rintro s₂ ⟨g2, rfl⟩
            refine rest_invT kvk.length (fun q ys nx => nx = (I2, oI2) :: (I, oI) :: (RR, LCg.lst ysR) :: (HH, PySem.W.listOf ysH.toArray cH) :: (72, tabObj ps) :: (L0 + 4, oJ3) :: (L0 + 3, oR3) :: (L0 + 2, oH2) :: own ∧ IntsAre ys (takeI (rowsL out) i ((i + j : Nat) : Int) q)) ?turnI ?finI _ 0 [] _ (by rw [Nat.zero_add]) ⟨rfl, IntsAre.nil⟩
            case turnI =>
              rintro q ys nx v I3 oI3 C3 oC3 D3 m₃ h13 tk13 E' hq ⟨rfl, hI⟩ ⟨kz, yz, hkz, hv⟩ hCo hx F' N' off ne
              obtain ⟨tz, rfl⟩ := Value.isInt_shape hv
              have hkey := flat_key e4 hkz
              obtain ⟨z, rfl, hz⟩ := rows_key hi hkey
              refine ex3 (hRows.2 z (by rw [rowsL_len]; exact hz)) ?_
              intro Dz oz kvz hp9
              refine and5 hp9 ?_
              clear hp9
              intro z1 z2 z3 z4 z5
              have hzv := flat_val z4 ((i + j : Nat) : Int)
              have hzr : ((z : Nat) : Int).toNat = z := Int.toNat_natCast z
              have hz63 : ((z : Nat) : Int) < 2 ^ 63 := lt63 (Nat.le_trans (Nat.le_of_lt hz) hoB)
              (repeat' (first |  (k_unfold; (try dsimp only)) | (k_here; (with_reducible show wpAny _ _ (eval (Expr.Name _ _) (compEnv _ _ _)) _ _ _); k_dflt (first | (refine name_locS rfl rfl rfl (by decide) (by with_reducible assumption) (by assumption) ?_; k_whole) | (refine nameG_BS rfl rfl rfl rfl (by decide) (by k_asm) (by k_asm) (by k_asm) (by k_is) (by boot_fast) (by decide) ?_; k_whole))) | (k_here; (with_reducible show wpAny _ _ (call (Value.type _) [Value.str _ _]) _ _ _); k_dflt (refine list_strN rfl (by k_asm) (by k_asm) ?_ (by rw [sizeLine_eq]; omega)); intro D9 ys9 c9 h9 tk9 F9 N9 l9 m9 hS9; (try k_lt l9); (try k_sweep)) | (k_here; (with_reducible show wpAny _ _ (compareOp CmpOp.Eq (Value.ref _) (Value.ref _)) _ _ _); k_dflt (refine strs_eq (by is_list) (by is_list) (by first | k_asm | exact StrsAre.nil) (by first | exact StrsAre.nil | k_asm) (by ke_room) ?_)) | (k_here; (with_reducible show wpAny _ _ (call (Value.builtin _) [Value.ref _, Value.int 0 _]) _ _ _); k_dflt (refine pop_first (by k_asm) (by k_asm) (by k_upd) (by (rw [sizeLine_eq]; (try have hL9 := PyProof.Rows.StrsAre.length (by assumption)); (try simp only [List.length_cons] at *); omega)) ?_; k_whole); intro h9 F9 N9; (try k_sweep)) | (k_here; (with_reducible show wpAny _ _ (call (Value.builtin "len") [Value.ref _]) _ _ _); k_dflt (refine len_strsA (by is_list) (by assumption) (by ((try simp only [List.length_map]); omega)) ?_; k_whole); (try simp only [List.length_map])) | walk1 | (k_here; (with_reducible show wpAny _ _ (compareOp CmpOp.NotEq (Value.ref _) (Value.ref _)) _ _ _); k_dflt (first | refine strs_ne_nil (by is_list) (by is_list) (by ke_room) ?_ | refine strs_ne_cons (by is_list) (by is_list) (by k_asm) (by ke_room) ?_ | refine strs_ne (by is_list) (by is_list) (by first | k_asm | exact StrsAre.nil) (by first | exact StrsAre.nil | k_asm) (by ke_room) ?_)) | (k_here; (with_reducible show wpAny _ _ (call (Value.builtin "len") [Value.str _ _]) _ _ _); refine len_str (by omega) ?_) | (dsimp only; walk1) | (dsimp only; k_unfold; (try dsimp only)) | fail "no step"))
              refine hold_out ?_
              with_reducible rename Fr _ _ _ _ => F15
              with_reducible rename News _ _ _ _ => N15
              refine' item_listR (items := ysR.toArray) (x := .ref Dz) ?y1 ?y2 ?y3 ?y4 ?y5
              case y1 => exact ⟨_, (N15 (RR, LCg.lst ysR) (by (first | k_mem | (refine List.mem_append_right _ ?_; k_mem) | (refine List.mem_append_left _ ?_; k_mem)))).1, rfl, _, rfl⟩
              case y2 => first | (with_reducible exact hz63) | (with_reducible exact Int.natCast_nonneg _) | omega
              case y3 => first | (with_reducible exact hz63) | (with_reducible exact Int.natCast_nonneg _) | omega
              case y4 => rw [hzr]; simpa using z1
              (repeat' (first |  (k_unfold; (try dsimp only)) | (k_here; (with_reducible show wpAny _ _ (eval (Expr.Name _ _) (compEnv _ _ _)) _ _ _); k_dflt (first | (refine name_locS rfl rfl rfl (by decide) (by with_reducible assumption) (by assumption) ?_; k_whole) | (refine nameG_BS rfl rfl rfl rfl (by decide) (by k_asm) (by k_asm) (by k_asm) (by k_is) (by boot_fast) (by decide) ?_; k_whole))) | (k_here; (with_reducible show wpAny _ _ (call (Value.type _) [Value.str _ _]) _ _ _); k_dflt (refine list_strN rfl (by k_asm) (by k_asm) ?_ (by rw [sizeLine_eq]; omega)); intro D9 ys9 c9 h9 tk9 F9 N9 l9 m9 hS9; (try k_lt l9); (try k_sweep)) | (k_here; (with_reducible show wpAny _ _ (compareOp CmpOp.Eq (Value.ref _) (Value.ref _)) _ _ _); k_dflt (refine strs_eq (by is_list) (by is_list) (by first | k_asm | exact StrsAre.nil) (by first | exact StrsAre.nil | k_asm) (by ke_room) ?_)) | (k_here; (with_reducible show wpAny _ _ (call (Value.builtin _) [Value.ref _, Value.int 0 _]) _ _ _); k_dflt (refine pop_first (by k_asm) (by k_asm) (by k_upd) (by (rw [sizeLine_eq]; (try have hL9 := PyProof.Rows.StrsAre.length (by assumption)); (try simp only [List.length_cons] at *); omega)) ?_; k_whole); intro h9 F9 N9; (try k_sweep)) | (k_here; (with_reducible show wpAny _ _ (call (Value.builtin "len") [Value.ref _]) _ _ _); k_dflt (refine len_strsA (by is_list) (by assumption) (by ((try simp only [List.length_map]); omega)) ?_; k_whole); (try simp only [List.length_map])) | walk1 | (k_here; (with_reducible show wpAny _ _ (compareOp CmpOp.NotEq (Value.ref _) (Value.ref _)) _ _ _); k_dflt (first | refine strs_ne_nil (by is_list) (by is_list) (by ke_room) ?_ | refine strs_ne_cons (by is_list) (by is_list) (by k_asm) (by ke_room) ?_ | refine strs_ne (by is_list) (by is_list) (by first | k_asm | exact StrsAre.nil) (by first | exact StrsAre.nil | k_asm) (by ke_room) ?_)) | (k_here; (with_reducible show wpAny _ _ (call (Value.builtin "len") [Value.str _ _]) _ _ _); refine len_str (by omega) ?_) | (dsimp only; walk1) | (dsimp only; k_unfold; (try dsimp only)) | fail "no step"))
              refine hold_out ?_
              cases hlk : ((rowsL out).getD z []).lookup ((i + j : Nat) : Int) with
              | none =>
                rw [hlk] at hzv
                refine' kda_in (knd := intKind PySem.Challenge.rw_sc0030_01.row.prog w0) (k := ((i + j : Nat) : Int)) N15 ?n1 z3 z5 (intKind_is _ _ _ _) false ?n2 ?n3
                case n1 => exact .tail _ (.tail _ (.tail _ (.tail _ (.tail _ (.tail _ (.tail _ (.tail _ (.tail _ (.tail _ (.tail _ z2))))))))))
                case n2 => rw [show PySem.valueAt kvz ((i + j : Nat) : Int) = none from hzv]; rfl
                (repeat' (first |  (k_unfold; (try dsimp only)) | (k_here; (with_reducible show wpAny _ _ (eval (Expr.Name _ _) (compEnv _ _ _)) _ _ _); k_dflt (first | (refine name_locS rfl rfl rfl (by decide) (by with_reducible assumption) (by assumption) ?_; k_whole) | (refine nameG_BS rfl rfl rfl rfl (by decide) (by k_asm) (by k_asm) (by k_asm) (by k_is) (by boot_fast) (by decide) ?_; k_whole))) | (k_here; (with_reducible show wpAny _ _ (call (Value.type _) [Value.str _ _]) _ _ _); k_dflt (refine list_strN rfl (by k_asm) (by k_asm) ?_ (by rw [sizeLine_eq]; omega)); intro D9 ys9 c9 h9 tk9 F9 N9 l9 m9 hS9; (try k_lt l9); (try k_sweep)) | (k_here; (with_reducible show wpAny _ _ (compareOp CmpOp.Eq (Value.ref _) (Value.ref _)) _ _ _); k_dflt (refine strs_eq (by is_list) (by is_list) (by first | k_asm | exact StrsAre.nil) (by first | exact StrsAre.nil | k_asm) (by ke_room) ?_)) | (k_here; (with_reducible show wpAny _ _ (call (Value.builtin _) [Value.ref _, Value.int 0 _]) _ _ _); k_dflt (refine pop_first (by k_asm) (by k_asm) (by k_upd) (by (rw [sizeLine_eq]; (try have hL9 := PyProof.Rows.StrsAre.length (by assumption)); (try simp only [List.length_cons] at *); omega)) ?_; k_whole); intro h9 F9 N9; (try k_sweep)) | (k_here; (with_reducible show wpAny _ _ (call (Value.builtin "len") [Value.ref _]) _ _ _); k_dflt (refine len_strsA (by is_list) (by assumption) (by ((try simp only [List.length_map]); omega)) ?_; k_whole); (try simp only [List.length_map])) | walk1 | (k_here; (with_reducible show wpAny _ _ (compareOp CmpOp.NotEq (Value.ref _) (Value.ref _)) _ _ _); k_dflt (first | refine strs_ne_nil (by is_list) (by is_list) (by ke_room) ?_ | refine strs_ne_cons (by is_list) (by is_list) (by k_asm) (by ke_room) ?_ | refine strs_ne (by is_list) (by is_list) (by first | k_asm | exact StrsAre.nil) (by first | exact StrsAre.nil | k_asm) (by ke_room) ?_)) | (k_here; (with_reducible show wpAny _ _ (call (Value.builtin "len") [Value.str _ _]) _ _ _); refine len_str (by omega) ?_) | (dsimp only; walk1) | (dsimp only; k_unfold; (try dsimp only)) | fail "no step"))
                refine' LCg.CompEnd.intro F15 N15 ((I2, oI2) :: (I, oI) :: (RR, LCg.lst ysR) :: (HH, PySem.W.listOf ysH.toArray cH) :: (72, tabObj ps) :: (L0 + 4, oJ3) :: (L0 + 3, oR3) :: (L0 + 2, oH2) :: own) ?w1 off (.tail _ (.tail _ (.tail _ (.tail _ (.tail _ (.tail _ (.tail _ (.tail _ e2)))))))) ⟨rfl, ?w2⟩
                case w1 => exact fun p hp => hp
                case w2 => rw [takeI_none hkey (by rw [hzr]; exact hlk)]; exact hI
              | some vz =>
                rw [hlk] at hzv
                obtain ⟨tvz, hzv⟩ := hzv
                refine' kda_in (knd := intKind PySem.Challenge.rw_sc0030_01.row.prog w0) (k := ((i + j : Nat) : Int)) N15 ?p1 z3 z5 (intKind_is _ _ _ _) true ?p2 ?p3
                case p1 => exact .tail _ (.tail _ (.tail _ (.tail _ (.tail _ (.tail _ (.tail _ (.tail _ (.tail _ (.tail _ (.tail _ z2))))))))))
                case p2 => rw [hzv]; rfl
                (repeat' (first |  (k_unfold; (try dsimp only)) | (k_here; (with_reducible show wpAny _ _ (eval (Expr.Name _ _) (compEnv _ _ _)) _ _ _); k_dflt (first | (refine name_locS rfl rfl rfl (by decide) (by with_reducible assumption) (by assumption) ?_; k_whole) | (refine nameG_BS rfl rfl rfl rfl (by decide) (by k_asm) (by k_asm) (by k_asm) (by k_is) (by boot_fast) (by decide) ?_; k_whole))) | (k_here; (with_reducible show wpAny _ _ (call (Value.type _) [Value.str _ _]) _ _ _); k_dflt (refine list_strN rfl (by k_asm) (by k_asm) ?_ (by rw [sizeLine_eq]; omega)); intro D9 ys9 c9 h9 tk9 F9 N9 l9 m9 hS9; (try k_lt l9); (try k_sweep)) | (k_here; (with_reducible show wpAny _ _ (compareOp CmpOp.Eq (Value.ref _) (Value.ref _)) _ _ _); k_dflt (refine strs_eq (by is_list) (by is_list) (by first | k_asm | exact StrsAre.nil) (by first | exact StrsAre.nil | k_asm) (by ke_room) ?_)) | (k_here; (with_reducible show wpAny _ _ (call (Value.builtin _) [Value.ref _, Value.int 0 _]) _ _ _); k_dflt (refine pop_first (by k_asm) (by k_asm) (by k_upd) (by (rw [sizeLine_eq]; (try have hL9 := PyProof.Rows.StrsAre.length (by assumption)); (try simp only [List.length_cons] at *); omega)) ?_; k_whole); intro h9 F9 N9; (try k_sweep)) | (k_here; (with_reducible show wpAny _ _ (call (Value.builtin "len") [Value.ref _]) _ _ _); k_dflt (refine len_strsA (by is_list) (by assumption) (by ((try simp only [List.length_map]); omega)) ?_; k_whole); (try simp only [List.length_map])) | walk1 | (k_here; (with_reducible show wpAny _ _ (compareOp CmpOp.NotEq (Value.ref _) (Value.ref _)) _ _ _); k_dflt (first | refine strs_ne_nil (by is_list) (by is_list) (by ke_room) ?_ | refine strs_ne_cons (by is_list) (by is_list) (by k_asm) (by ke_room) ?_ | refine strs_ne (by is_list) (by is_list) (by first | k_asm | exact StrsAre.nil) (by first | exact StrsAre.nil | k_asm) (by ke_room) ?_)) | (k_here; (with_reducible show wpAny _ _ (call (Value.builtin "len") [Value.str _ _]) _ _ _); refine len_str (by omega) ?_) | (dsimp only; walk1) | (dsimp only; k_unfold; (try dsimp only)) | fail "no step"))
                refine hold_out ?_
                refine' item_listR (items := ysR.toArray) (x := .ref Dz) ?x1 ?x2 ?x3 ?x4 ?x5
                case x1 => exact ⟨_, (N15 (RR, LCg.lst ysR) (by (first | k_mem | (refine List.mem_append_right _ ?_; k_mem) | (refine List.mem_append_left _ ?_; k_mem)))).1, rfl, _, rfl⟩
                case x2 => first | (with_reducible exact hz63) | (with_reducible exact Int.natCast_nonneg _) | omega
                case x3 => first | (with_reducible exact hz63) | (with_reducible exact Int.natCast_nonneg _) | omega
                case x4 => rw [hzr]; simpa using z1
                try dsimp only
                walk1
                try dsimp only
                refine' item_dictR (k := ((i + j : Nat) : Int)) N15 ?v1 z3 hzv ?v2
                case v1 => exact .tail _ (.tail _ (.tail _ (.tail _ (.tail _ (.tail _ (.tail _ (.tail _ (.tail _ (.tail _ (.tail _ z2))))))))))
                (repeat' (first |  (k_unfold; (try dsimp only)) | (k_here; (with_reducible show wpAny _ _ (eval (Expr.Name _ _) (compEnv _ _ _)) _ _ _); k_dflt (first | (refine name_locS rfl rfl rfl (by decide) (by with_reducible assumption) (by assumption) ?_; k_whole) | (refine nameG_BS rfl rfl rfl rfl (by decide) (by k_asm) (by k_asm) (by k_asm) (by k_is) (by boot_fast) (by decide) ?_; k_whole))) | (k_here; (with_reducible show wpAny _ _ (call (Value.type _) [Value.str _ _]) _ _ _); k_dflt (refine list_strN rfl (by k_asm) (by k_asm) ?_ (by rw [sizeLine_eq]; omega)); intro D9 ys9 c9 h9 tk9 F9 N9 l9 m9 hS9; (try k_lt l9); (try k_sweep)) | (k_here; (with_reducible show wpAny _ _ (compareOp CmpOp.Eq (Value.ref _) (Value.ref _)) _ _ _); k_dflt (refine strs_eq (by is_list) (by is_list) (by first | k_asm | exact StrsAre.nil) (by first | exact StrsAre.nil | k_asm) (by ke_room) ?_)) | (k_here; (with_reducible show wpAny _ _ (call (Value.builtin _) [Value.ref _, Value.int 0 _]) _ _ _); k_dflt (refine pop_first (by k_asm) (by k_asm) (by k_upd) (by (rw [sizeLine_eq]; (try have hL9 := PyProof.Rows.StrsAre.length (by assumption)); (try simp only [List.length_cons] at *); omega)) ?_; k_whole); intro h9 F9 N9; (try k_sweep)) | (k_here; (with_reducible show wpAny _ _ (call (Value.builtin "len") [Value.ref _]) _ _ _); k_dflt (refine len_strsA (by is_list) (by assumption) (by ((try simp only [List.length_map]); omega)) ?_; k_whole); (try simp only [List.length_map])) | walk1 | (k_here; (with_reducible show wpAny _ _ (compareOp CmpOp.NotEq (Value.ref _) (Value.ref _)) _ _ _); k_dflt (first | refine strs_ne_nil (by is_list) (by is_list) (by ke_room) ?_ | refine strs_ne_cons (by is_list) (by is_list) (by k_asm) (by ke_room) ?_ | refine strs_ne (by is_list) (by is_list) (by first | k_asm | exact StrsAre.nil) (by first | exact StrsAre.nil | k_asm) (by ke_room) ?_)) | (k_here; (with_reducible show wpAny _ _ (call (Value.builtin "len") [Value.str _ _]) _ _ _); refine len_str (by omega) ?_) | (dsimp only; walk1) | (dsimp only; k_unfold; (try dsimp only)) | fail "no step"))
                refine' LCg.CompEnd.intro F15 N15 ((I2, oI2) :: (I, oI) :: (RR, LCg.lst ysR) :: (HH, PySem.W.listOf ysH.toArray cH) :: (72, tabObj ps) :: (L0 + 4, oJ3) :: (L0 + 3, oR3) :: (L0 + 2, oH2) :: own) ?w3 off (.tail _ (.tail _ (.tail _ (.tail _ (.tail _ (.tail _ (.tail _ (.tail _ e2)))))))) ⟨rfl, ?w4⟩
                case w3 => exact fun p hp => hp
                case w4 => rw [takeI_some hkey (by rw [hzr]; exact hlk)]; exact ints_snoc hI
            case finI =>
              intro ysI
              refine fix_all ?_
              intro hI
              intro D4 h14 tk14 F14 N14 off14
              have hv := (takeI_all (rws := rowsL out) (i := i) (j := i + j) hkl).trans (hsum i (i + j) (Nat.le_add_right _ _) hij)
              (repeat' (first |  (k_unfold; (try dsimp only)) | (k_here; (with_reducible show wpAny _ _ (eval (Expr.Name _ _) (compEnv _ _ _)) _ _ _); k_dflt (first | (refine name_locS rfl rfl rfl (by decide) (by with_reducible assumption) (by assumption) ?_; k_whole) | (refine nameG_BS rfl rfl rfl rfl (by decide) (by k_asm) (by k_asm) (by k_asm) (by k_is) (by boot_fast) (by decide) ?_; k_whole))) | (k_here; (with_reducible show wpAny _ _ (call (Value.type _) [Value.str _ _]) _ _ _); k_dflt (refine list_strN rfl (by k_asm) (by k_asm) ?_ (by rw [sizeLine_eq]; omega)); intro D9 ys9 c9 h9 tk9 F9 N9 l9 m9 hS9; (try k_lt l9); (try k_sweep)) | (k_here; (with_reducible show wpAny _ _ (compareOp CmpOp.Eq (Value.ref _) (Value.ref _)) _ _ _); k_dflt (refine strs_eq (by is_list) (by is_list) (by first | k_asm | exact StrsAre.nil) (by first | exact StrsAre.nil | k_asm) (by ke_room) ?_)) | (k_here; (with_reducible show wpAny _ _ (call (Value.builtin _) [Value.ref _, Value.int 0 _]) _ _ _); k_dflt (refine pop_first (by k_asm) (by k_asm) (by k_upd) (by (rw [sizeLine_eq]; (try have hL9 := PyProof.Rows.StrsAre.length (by assumption)); (try simp only [List.length_cons] at *); omega)) ?_; k_whole); intro h9 F9 N9; (try k_sweep)) | (k_here; (with_reducible show wpAny _ _ (call (Value.builtin "len") [Value.ref _]) _ _ _); k_dflt (refine len_strsA (by is_list) (by assumption) (by ((try simp only [List.length_map]); omega)) ?_; k_whole); (try simp only [List.length_map])) | walk1 | (k_here; (with_reducible show wpAny _ _ (compareOp CmpOp.NotEq (Value.ref _) (Value.ref _)) _ _ _); k_dflt (first | refine strs_ne_nil (by is_list) (by is_list) (by ke_room) ?_ | refine strs_ne_cons (by is_list) (by is_list) (by k_asm) (by ke_room) ?_ | refine strs_ne (by is_list) (by is_list) (by first | k_asm | exact StrsAre.nil) (by first | exact StrsAre.nil | k_asm) (by ke_room) ?_)) | (k_here; (with_reducible show wpAny _ _ (call (Value.builtin "len") [Value.str _ _]) _ _ _); refine len_str (by omega) ?_) | (dsimp only; walk1) | (dsimp only; k_unfold; (try dsimp only)) | fail "no step"))
              · exfalso
                with_reducible rename List.sum _ ≠ _ => hne2
                with_reducible rename ((i + j : Nat) : Int) = _ => hij
                exact hne2 (hv.trans (if_pos (by omega)))
              · with_reducible rename Fr _ _ _ _ => F15
                with_reducible rename News _ _ _ _ => N15
                exact TurnTo.mk (JJ.mk dJ3) F15 N15 (fun p hp => .tail _ hp) (List.forall_mem_cons.mpr ⟨u0, List.forall_mem_cons.mpr ⟨u1, List.forall_mem_cons.mpr ⟨u2, List.forall_mem_cons.mpr ⟨u3, List.forall_mem_cons.mpr ⟨u4, fun p hp => offI2 p (.tail _ (.tail _ (.tail _ (.tail _ (.tail _ hp)))))⟩⟩⟩⟩⟩)
              · exfalso
                with_reducible rename List.sum _ ≠ _ => hne2
                with_reducible rename ((i + j : Nat) : Int) ≠ _ => hij
                exact hne2 (hv.trans (if_neg (by omega)))
              · with_reducible rename Fr _ _ _ _ => F15
                with_reducible rename News _ _ _ _ => N15
                exact TurnTo.mk (JJ.mk dJ3) F15 N15 (fun p hp => .tail _ hp) (List.forall_mem_cons.mpr ⟨u0, List.forall_mem_cons.mpr ⟨u1, List.forall_mem_cons.mpr ⟨u2, List.forall_mem_cons.mpr ⟨u3, List.forall_mem_cons.mpr ⟨u4, fun p hp => offI2 p (.tail _ (.tail _ (.tail _ (.tail _ (.tail _ hp)))))⟩⟩⟩⟩⟩)
    -- LOOP
    case loop =>
      intro R' hR'
      refine' while_inv (Q := EndQ2 _) (LSt w0 a g L0 s1 n0 rest HH PP r4 (fun mn ml mp => lwFr S PP a.lx text (ofL word) total la tx t' t1 t2 mn ml mp) out) (endq_all (Z := fun f s' => R' (.ok f) s') hR') ?turn 30 ?init
      case init => exact LSt.mk (fr := fun mn ml mp => lwFr S PP a.lx text (ofL word) total la tx t' t1 t2 mn ml mp) (mn := none) (ml := none) (mp := none) hloop (StrsAre.cons _ _ StrsAre.nil) StrsAre.nil StrsAre.nil hyt2 (by ((refine fr_to F11 (fun y => ?_); by_cases h1 : y = Str.ofString "number"; (subst h1; rfl); by_cases h2 : y = Str.ofString "less"; (subst h2; rfl); by_cases h3 : y = Str.ofString "part"; (subst h3; rfl); exact ((if_neg h1).trans ((if_neg h2).trans (if_neg h3))).symm))) N12
      case turn =>
        clear N12 F11 hloop
        refine lst_all (fr := fun mn ml mp => lwFr S PP a.lx text (ofL word) total la tx t' t1 t2 mn ml mp) ?_
        intro k heard pushed q ysH ysP ysQ cs cH cP cq3 cc3 tn3 mn ml mp h tk hLo hH hP hQ hCs F N
        obtain ⟨k', rfl, hs, u, rfl⟩ := hLo.more
        have hou := hLo.hh u (List.mem_append_right _ (List.mem_singleton.mpr rfl))
        have hHl := hH.length
        rw [List.length_map] at hHl
        have hhl := hLo.hl
        have hpl := hLo.pl
        have hql := hLo.ql
        refine lex_walk2 (x := (L0 + 2, oH2)) N (.tail _ hmH) (hoffH _ _ _ _ _ _) ?_
        clear N
        intro V hV hVo N
        try dsimp only
        (repeat' (first |  (k_unfold; (try dsimp only)) | (k_here; (with_reducible show wpAny _ _ (eval (Expr.Name _ _) (compEnv _ _ _)) _ _ _); k_dflt (first | (refine name_locS rfl rfl rfl (by decide) (by with_reducible assumption) (by assumption) ?_; k_whole) | (refine nameG_BS rfl rfl rfl rfl (by decide) (by k_asm) (by k_asm) (by k_asm) (by k_is) (by boot_fast) (by decide) ?_; k_whole))) | (k_here; (with_reducible show wpAny _ _ (call (Value.type _) [Value.str _ _]) _ _ _); k_dflt (refine list_strN rfl (by k_asm) (by k_asm) ?_ (by rw [sizeLine_eq]; omega)); intro D9 ys9 c9 h9 tk9 F9 N9 l9 m9 hS9; (try k_lt l9); (try k_sweep)) | (k_here; (with_reducible show wpAny _ _ (compareOp CmpOp.Eq (Value.ref _) (Value.ref _)) _ _ _); k_dflt (refine strs_eq (by is_list) (by is_list) (by first | k_asm | exact StrsAre.nil) (by first | exact StrsAre.nil | k_asm) (by ke_room) ?_)) | (k_here; (with_reducible show wpAny _ _ (call (Value.builtin _) [Value.ref _, Value.int 0 _]) _ _ _); k_dflt (refine pop_first (by k_asm) (by k_asm) (by k_upd) (by (rw [sizeLine_eq]; (try have hL9 := PyProof.Rows.StrsAre.length (by assumption)); (try simp only [List.length_cons] at *); omega)) ?_; k_whole); intro h9 F9 N9; (try k_sweep)) | (k_here; (with_reducible show wpAny _ _ (call (Value.builtin "len") [Value.ref _]) _ _ _); k_dflt (refine len_strsA (by is_list) (by assumption) (by ((try simp only [List.length_map]); omega)) ?_; k_whole); (try simp only [List.length_map])) | walk1 | (k_here; (with_reducible show wpAny _ _ (compareOp CmpOp.NotEq (Value.ref _) (Value.ref _)) _ _ _); k_dflt (first | refine strs_ne_nil (by is_list) (by is_list) (by ke_room) ?_ | refine strs_ne_cons (by is_list) (by is_list) (by k_asm) (by ke_room) ?_ | refine strs_ne (by is_list) (by is_list) (by first | k_asm | exact StrsAre.nil) (by first | exact StrsAre.nil | k_asm) (by ke_room) ?_)) | (k_here; (with_reducible show wpAny _ _ (call (Value.builtin "len") [Value.str _ _]) _ _ _); refine len_str (by omega) ?_) | (dsimp only; walk1) | (dsimp only; k_unfold; (try dsimp only)) | fail "no step"))
        · refine hold_out ?_
          with_reducible rename (_ != _) = true => hne2
          rw [last_get, ofL_ne] at hne2
          rw [last_get]
          have hu : u ≠ [] := by rintro rfl; cases hne2
          refine Spec.pure (number_spec _ (ofL u) _) (by assumption) (by assumption) (by assumption) (by assumption) (by assumption) rfl (by decide) (by decide) ?_
          refine int_all ?_
          intro h1 tk1 t3 F12 N12
          try dsimp only
          rw [numOf_val u hou.2]
          have hul : (ofL u).length = u.length := rfl
          have hou1 := hou.1
          have hu1 : 1 ≤ u.length := by cases u with
            | nil => exact absurd rfl hu
            | cons _ _ => simp
          (repeat' (first |  (k_unfold; (try dsimp only)) | (k_here; (with_reducible show wpAny _ _ (eval (Expr.Name _ _) (compEnv _ _ _)) _ _ _); k_dflt (first | (refine name_locS rfl rfl rfl (by decide) (by with_reducible assumption) (by assumption) ?_; k_whole) | (refine nameG_BS rfl rfl rfl rfl (by decide) (by k_asm) (by k_asm) (by k_asm) (by k_is) (by boot_fast) (by decide) ?_; k_whole))) | (k_here; (with_reducible show wpAny _ _ (call (Value.type _) [Value.str _ _]) _ _ _); k_dflt (refine list_strN rfl (by k_asm) (by k_asm) ?_ (by rw [sizeLine_eq]; omega)); intro D9 ys9 c9 h9 tk9 F9 N9 l9 m9 hS9; (try k_lt l9); (try k_sweep)) | (k_here; (with_reducible show wpAny _ _ (compareOp CmpOp.Eq (Value.ref _) (Value.ref _)) _ _ _); k_dflt (refine strs_eq (by is_list) (by is_list) (by first | k_asm | exact StrsAre.nil) (by first | exact StrsAre.nil | k_asm) (by ke_room) ?_)) | (k_here; (with_reducible show wpAny _ _ (call (Value.builtin _) [Value.ref _, Value.int 0 _]) _ _ _); k_dflt (refine pop_first (by k_asm) (by k_asm) (by k_upd) (by (rw [sizeLine_eq]; (try have hL9 := PyProof.Rows.StrsAre.length (by assumption)); (try simp only [List.length_cons] at *); omega)) ?_; k_whole); intro h9 F9 N9; (try k_sweep)) | (k_here; (with_reducible show wpAny _ _ (call (Value.builtin "len") [Value.ref _]) _ _ _); k_dflt (refine len_strsA (by is_list) (by assumption) (by ((try simp only [List.length_map]); omega)) ?_; k_whole); (try simp only [List.length_map])) | walk1 | (k_here; (with_reducible show wpAny _ _ (compareOp CmpOp.NotEq (Value.ref _) (Value.ref _)) _ _ _); k_dflt (first | refine strs_ne_nil (by is_list) (by is_list) (by ke_room) ?_ | refine strs_ne_cons (by is_list) (by is_list) (by k_asm) (by ke_room) ?_ | refine strs_ne (by is_list) (by is_list) (by first | k_asm | exact StrsAre.nil) (by first | exact StrsAre.nil | k_asm) (by ke_room) ?_)) | (k_here; (with_reducible show wpAny _ _ (call (Value.builtin "len") [Value.str _ _]) _ _ _); refine len_str (by omega) ?_) | (dsimp only; walk1) | (dsimp only; k_unfold; (try dsimp only)) | fail "no step"))
          refine hold_out ?_
          refine pow_int_small (by omega) (by omega) (by decide) ?_
          try dsimp only
          have epow : (16 : Int) ^ ((((ofL u).length : Int) - 1).toNat) = ((16 ^ (u.length - 1) : Nat) : Int) := by
            rw [show (((ofL u).length : Int) - 1).toNat = u.length - 1 from to_pred, Int.natCast_pow]; rfl
          rw [epow]
          have hPpos : 0 < 16 ^ (u.length - 1) := Nat.pow_pos (by decide)
          have hless := less_last (u := u) hou.2
          have hless1 := less_first hu hou.2
          obtain ⟨P, hP9⟩ : ∃ P, P = 16 ^ (u.length - 1) := ⟨_, rfl⟩
          rw [← hP9] at hless hPpos ⊢
          (repeat' (first |  (k_unfold; (try dsimp only)) | (k_here; (with_reducible show wpAny _ _ (eval (Expr.Name _ _) (compEnv _ _ _)) _ _ _); k_dflt (first | (refine name_locS rfl rfl rfl (by decide) (by with_reducible assumption) (by assumption) ?_; k_whole) | (refine nameG_BS rfl rfl rfl rfl (by decide) (by k_asm) (by k_asm) (by k_asm) (by k_is) (by boot_fast) (by decide) ?_; k_whole))) | (k_here; (with_reducible show wpAny _ _ (call (Value.type _) [Value.str _ _]) _ _ _); k_dflt (refine list_strN rfl (by k_asm) (by k_asm) ?_ (by rw [sizeLine_eq]; omega)); intro D9 ys9 c9 h9 tk9 F9 N9 l9 m9 hS9; (try k_lt l9); (try k_sweep)) | (k_here; (with_reducible show wpAny _ _ (compareOp CmpOp.Eq (Value.ref _) (Value.ref _)) _ _ _); k_dflt (refine strs_eq (by is_list) (by is_list) (by first | k_asm | exact StrsAre.nil) (by first | exact StrsAre.nil | k_asm) (by ke_room) ?_)) | (k_here; (with_reducible show wpAny _ _ (call (Value.builtin _) [Value.ref _, Value.int 0 _]) _ _ _); k_dflt (refine pop_first (by k_asm) (by k_asm) (by k_upd) (by (rw [sizeLine_eq]; (try have hL9 := PyProof.Rows.StrsAre.length (by assumption)); (try simp only [List.length_cons] at *); omega)) ?_; k_whole); intro h9 F9 N9; (try k_sweep)) | (k_here; (with_reducible show wpAny _ _ (call (Value.builtin "len") [Value.ref _]) _ _ _); k_dflt (refine len_strsA (by is_list) (by assumption) (by ((try simp only [List.length_map]); omega)) ?_; k_whole); (try simp only [List.length_map])) | walk1 | (k_here; (with_reducible show wpAny _ _ (compareOp CmpOp.NotEq (Value.ref _) (Value.ref _)) _ _ _); k_dflt (first | refine strs_ne_nil (by is_list) (by is_list) (by ke_room) ?_ | refine strs_ne_cons (by is_list) (by is_list) (by k_asm) (by ke_room) ?_ | refine strs_ne (by is_list) (by is_list) (by first | k_asm | exact StrsAre.nil) (by first | exact StrsAre.nil | k_asm) (by ke_room) ?_)) | (k_here; (with_reducible show wpAny _ _ (call (Value.builtin "len") [Value.str _ _]) _ _ _); refine len_str (by omega) ?_) | (dsimp only; walk1) | (dsimp only; k_unfold; (try dsimp only)) | fail "no step"))
          have hx1 := ok_first hou
          have hx2 := ok_last hou
          replace hless := hold_in hless
          replace hless1 := hold_in hless1
          have hPl := hP.length
          have hQl := hQ.length
          rw [List.length_map] at hQl hPl
          obtain ⟨r1, he1⟩ : ∃ r1, r1 = pushNew (pushed, q) u.dropLast := ⟨_, rfl⟩
          obtain ⟨hpn1, hpn2, hpn3, hpn4⟩ := pushNew_ok (p := pushed) (q := q) hLo.hp hLo.hq hx1
          rw [← he1] at hpn1 hpn2 hpn3 hpn4
          obtain ⟨y, q', hyq, hLo2⟩ := hLo.step hu
          rw [← he1] at hyq hLo2
          have hql3 := hLo2.ql
          clear hLo
          with_reducible rename Fr _ _ _ _ => F12b
          with_reducible rename News _ _ _ _ => N12b
          obtain ⟨LL, hLL⟩ := name_head N12b
          subst hLL
          have oHL : @LT.lt Nat _ HH LL := by omega
          repeat (with_reducible rename _ ∧ _ ∧ _ => zz; clear zz)
          with_unfolding_all refine iter_listUnr (vs := [Value.int ((valN u : Int).fdiv 16) _, Value.int (-((valN u : Int).fmod (P : Int))) _]) (by rfl) F12b N12b (.head _) (by rfl) (by rfl) ?_
          intro I lI
          have oLI : @LT.lt Nat _ LL I := lI _ (.head _)
          clear lI
          clear F12b
          (repeat' (first |  (k_unfold; (try dsimp only)) | (k_here; (with_reducible show wpAny _ _ (eval (Expr.Name _ _) (compEnv _ _ _)) _ _ _); k_dflt (first | (refine name_locS rfl rfl rfl (by decide) (by with_reducible assumption) (by assumption) ?_; k_whole) | (refine nameG_BS rfl rfl rfl rfl (by decide) (by k_asm) (by k_asm) (by k_asm) (by k_is) (by boot_fast) (by decide) ?_; k_whole))) | (k_here; (with_reducible show wpAny _ _ (call (Value.type _) [Value.str _ _]) _ _ _); k_dflt (refine list_strN rfl (by k_asm) (by k_asm) ?_ (by rw [sizeLine_eq]; omega)); intro D9 ys9 c9 h9 tk9 F9 N9 l9 m9 hS9; (try k_lt l9); (try k_sweep)) | (k_here; (with_reducible show wpAny _ _ (compareOp CmpOp.Eq (Value.ref _) (Value.ref _)) _ _ _); k_dflt (refine strs_eq (by is_list) (by is_list) (by first | k_asm | exact StrsAre.nil) (by first | exact StrsAre.nil | k_asm) (by ke_room) ?_)) | (k_here; (with_reducible show wpAny _ _ (call (Value.builtin _) [Value.ref _, Value.int 0 _]) _ _ _); k_dflt (refine pop_first (by k_asm) (by k_asm) (by k_upd) (by (rw [sizeLine_eq]; (try have hL9 := PyProof.Rows.StrsAre.length (by assumption)); (try simp only [List.length_cons] at *); omega)) ?_; k_whole); intro h9 F9 N9; (try k_sweep)) | (k_here; (with_reducible show wpAny _ _ (call (Value.builtin "len") [Value.ref _]) _ _ _); k_dflt (refine len_strsA (by is_list) (by assumption) (by ((try simp only [List.length_map]); omega)) ?_; k_whole); (try simp only [List.length_map])) | walk1 | (k_here; (with_reducible show wpAny _ _ (compareOp CmpOp.NotEq (Value.ref _) (Value.ref _)) _ _ _); k_dflt (first | refine strs_ne_nil (by is_list) (by is_list) (by ke_room) ?_ | refine strs_ne_cons (by is_list) (by is_list) (by k_asm) (by ke_room) ?_ | refine strs_ne (by is_list) (by is_list) (by first | k_asm | exact StrsAre.nil) (by first | exact StrsAre.nil | k_asm) (by ke_room) ?_)) | (k_here; (with_reducible show wpAny _ _ (call (Value.builtin "len") [Value.str _ _]) _ _ _); refine len_str (by omega) ?_) | (dsimp only; walk1) | (dsimp only; k_unfold; (try dsimp only)) | fail "no step"))
          refine hold_out ?_
          refine Spec.pure (written_spec _ _ _ (by rw [hold_out hless1]; exact apL_len _ hx1.2 (Nat.le_trans hx1.1 (by decide)))) (by assumption) (by assumption) (by assumption) (by assumption) (by assumption) rfl (by decide) (by decide) ?_
          refine str_all ?_
          intro h31 tk31 t41 F131 N131
          try dsimp only
          rw [hold_out hless1, written_val _ hx1.2]
          (repeat' (first |  (k_unfold; (try dsimp only)) | (k_here; (with_reducible show wpAny _ _ (eval (Expr.Name _ _) (compEnv _ _ _)) _ _ _); k_dflt (first | (refine name_locS rfl rfl rfl (by decide) (by with_reducible assumption) (by assumption) ?_; k_whole) | (refine nameG_BS rfl rfl rfl rfl (by decide) (by k_asm) (by k_asm) (by k_asm) (by k_is) (by boot_fast) (by decide) ?_; k_whole))) | (k_here; (with_reducible show wpAny _ _ (call (Value.type _) [Value.str _ _]) _ _ _); k_dflt (refine list_strN rfl (by k_asm) (by k_asm) ?_ (by rw [sizeLine_eq]; omega)); intro D9 ys9 c9 h9 tk9 F9 N9 l9 m9 hS9; (try k_lt l9); (try k_sweep)) | (k_here; (with_reducible show wpAny _ _ (compareOp CmpOp.Eq (Value.ref _) (Value.ref _)) _ _ _); k_dflt (refine strs_eq (by is_list) (by is_list) (by first | k_asm | exact StrsAre.nil) (by first | exact StrsAre.nil | k_asm) (by ke_room) ?_)) | (k_here; (with_reducible show wpAny _ _ (call (Value.builtin _) [Value.ref _, Value.int 0 _]) _ _ _); k_dflt (refine pop_first (by k_asm) (by k_asm) (by k_upd) (by (rw [sizeLine_eq]; (try have hL9 := PyProof.Rows.StrsAre.length (by assumption)); (try simp only [List.length_cons] at *); omega)) ?_; k_whole); intro h9 F9 N9; (try k_sweep)) | (k_here; (with_reducible show wpAny _ _ (call (Value.builtin "len") [Value.ref _]) _ _ _); k_dflt (refine len_strsA (by is_list) (by assumption) (by ((try simp only [List.length_map]); omega)) ?_; k_whole); (try simp only [List.length_map])) | walk1 | (k_here; (with_reducible show wpAny _ _ (compareOp CmpOp.NotEq (Value.ref _) (Value.ref _)) _ _ _); k_dflt (first | refine strs_ne_nil (by is_list) (by is_list) (by ke_room) ?_ | refine strs_ne_cons (by is_list) (by is_list) (by k_asm) (by ke_room) ?_ | refine strs_ne (by is_list) (by is_list) (by first | k_asm | exact StrsAre.nil) (by first | exact StrsAre.nil | k_asm) (by ke_room) ?_)) | (k_here; (with_reducible show wpAny _ _ (call (Value.builtin "len") [Value.str _ _]) _ _ _); refine len_str (by omega) ?_) | (dsimp only; walk1) | (dsimp only; k_unfold; (try dsimp only)) | fail "no step"))
          refine hold_out ?_
          with_reducible rename Fr _ _ _ _ => F141
          with_reducible rename News _ _ _ _ => N141
          have oHI : @LT.lt Nat _ HH I := Nat.lt_trans oHL oLI
          replace F141 := lw_nlp F141
          obtain ⟨oLL, hoLL⟩ := name_secondo N141
          rw [← hoLL] at N141
          obtain ⟨oHH9, hoHH⟩ : ∃ o, o = PySem.W.listOf ysH.toArray cH := ⟨_, rfl⟩
          rw [← hoHH] at N141
          have hDisI : ∀ oI, Dis a ((I, oI) :: (LL, oLL) :: (HH, oHH9) :: r4) := fun oI => Dis.above ok (Nat.lt_trans oHp oHI) (Dis.above ok (Nat.lt_trans oHp oHL) (Dis.above ok oHp hDis))
          have hoffP : ∀ (oI : Obj) (ysQ : List Value) (cq : Nat), ∀ p ∈ LexW w0 a ysQ cq n0 tn3 cs cc3 ++ ((I, oI) :: (LL, oLL) :: (HH, oHH9) :: r4), p.1 ≠ PP := fun oI ysQ cq => all_app (hoffL PP oPP ysQ cq tn3 cs cc3) (List.forall_mem_cons.mpr ⟨Nat.ne_of_gt (Nat.lt_trans oHH oHI), List.forall_mem_cons.mpr ⟨Nat.ne_of_gt (Nat.lt_trans oHH oHL), List.forall_mem_cons.mpr ⟨Nat.ne_of_gt oHH, hoffR PP o72P o4P⟩⟩⟩)
          have hoffI : ∀ (ysQ : List Value) (cq : Nat) (oP : Obj), ∀ p ∈ LexW w0 a ysQ cq n0 tn3 cs cc3 ++ ((HH, oHH9) :: (PP, oP) :: (LL, oLL) :: r4), p.1 ≠ I := fun ysQ cq oP => all_app (hoffL I (Nat.lt_trans oHp oHI) ysQ cq tn3 cs cc3) (List.forall_mem_cons.mpr ⟨Nat.ne_of_lt oHI, List.forall_mem_cons.mpr ⟨Nat.ne_of_lt (Nat.lt_trans oHH oHI), List.forall_mem_cons.mpr ⟨Nat.ne_of_lt oLI, hoffR I (Nat.lt_trans o72P (Nat.lt_trans oHH oHI)) (Nat.lt_trans o4P (Nat.lt_trans oHH oHI))⟩⟩⟩)
          have N142 := fun p hp => N141 p (permD hV p hp)
          obtain ⟨mn9, hmn9⟩ := name_mn F141
          rw [← hmn9] at F141
          refine use_codeA (fun v tv ml oI p q s' => (p.length ≤ 900 ∧ q.length ≤ 900) ∧ ISt w0 a g L0 s1 n0 tn3 cs cc3 (lwFr S PP a.lx text (ofL word) total la tx t' t1 t2 mn9 (some ml) (some (.str (ofL v) tv))) PP ((I, oI) :: (LL, oLL) :: (HH, oHH9) :: r4) p q s') (fun v tv ml oI p q s' => ISt w0 a g L0 s1 n0 tn3 cs cc3 (lwFr S PP a.lx text (ofL word) total la tx t' t1 t2 mn9 (some ml) (some (.str (ofL v) tv))) PP ((I, oI) :: (LL, oLL) :: (HH, oHH9) :: r4) (pushNew (p, q) v).1 (pushNew (p, q) v).2 s') ?spec ?goOn
          case spec =>
            clear N141 N142 F141 hP hQ
            intro v tv ml oI p q s' hp0
            have hpq := hp0.1
            refine ist_all ?_ s' hp0.2
            clear hp0
            intro ysP cP ysQ cQ h tk hP hQ F N
            have hPl := hP.length
            have hQl := hQ.length
            rw [List.length_map] at hQl hPl
            have hQ1 : ysQ.length ≤ 1000 := by rw [hQl]; exact Nat.le_trans hpq.2 (by decide)
            refine wpAny_If ?_
            refine lex_walk2 (x := (HH, oHH9)) N (.tail _ (.tail _ (.head _))) (hoffP _ _ _) ?_
            clear N
            intro V2 hV2 hVo2 N2
            (repeat' (first |  (k_unfold; (try dsimp only)) | (k_here; (with_reducible show wpAny _ _ (eval (Expr.Name _ _) (compEnv _ _ _)) _ _ _); k_dflt (first | (refine name_locS rfl rfl rfl (by decide) (by with_reducible assumption) (by assumption) ?_; k_whole) | (refine nameG_BS rfl rfl rfl rfl (by decide) (by k_asm) (by k_asm) (by k_asm) (by k_is) (by boot_fast) (by decide) ?_; k_whole))) | (k_here; (with_reducible show wpAny _ _ (call (Value.type _) [Value.str _ _]) _ _ _); k_dflt (refine list_strN rfl (by k_asm) (by k_asm) ?_ (by rw [sizeLine_eq]; omega)); intro D9 ys9 c9 h9 tk9 F9 N9 l9 m9 hS9; (try k_lt l9); (try k_sweep)) | (k_here; (with_reducible show wpAny _ _ (compareOp CmpOp.Eq (Value.ref _) (Value.ref _)) _ _ _); k_dflt (refine strs_eq (by is_list) (by is_list) (by first | k_asm | exact StrsAre.nil) (by first | exact StrsAre.nil | k_asm) (by ke_room) ?_)) | (k_here; (with_reducible show wpAny _ _ (call (Value.builtin _) [Value.ref _, Value.int 0 _]) _ _ _); k_dflt (refine pop_first (by k_asm) (by k_asm) (by k_upd) (by (rw [sizeLine_eq]; (try have hL9 := PyProof.Rows.StrsAre.length (by assumption)); (try simp only [List.length_cons] at *); omega)) ?_; k_whole); intro h9 F9 N9; (try k_sweep)) | (k_here; (with_reducible show wpAny _ _ (call (Value.builtin "len") [Value.ref _]) _ _ _); k_dflt (refine len_strsA (by is_list) (by assumption) (by ((try simp only [List.length_map]); omega)) ?_; k_whole); (try simp only [List.length_map])) | walk1 | (k_here; (with_reducible show wpAny _ _ (compareOp CmpOp.NotEq (Value.ref _) (Value.ref _)) _ _ _); k_dflt (first | refine strs_ne_nil (by is_list) (by is_list) (by ke_room) ?_ | refine strs_ne_cons (by is_list) (by is_list) (by k_asm) (by ke_room) ?_ | refine strs_ne (by is_list) (by is_list) (by first | k_asm | exact StrsAre.nil) (by first | exact StrsAre.nil | k_asm) (by ke_room) ?_)) | (k_here; (with_reducible show wpAny _ _ (call (Value.builtin "len") [Value.str _ _]) _ _ _); refine len_str (by omega) ?_) | (dsimp only; walk1) | (dsimp only; k_unfold; (try dsimp only)) | fail "no step"))
            refine hold_out ?_
            refine' notin_mem (PP := PP) (ys := ysP) (l := p) (x := v) (n := cP) ?nin1 ?nim1 hP ?nir1
            case nin1 => exact N2
            case nim1 => exact .head _
            cases hc1 : List.contains p v with
            | true =>
              (repeat' (first |  (k_unfold; (try dsimp only)) | (k_here; (with_reducible show wpAny _ _ (eval (Expr.Name _ _) (compEnv _ _ _)) _ _ _); k_dflt (first | (refine name_locS rfl rfl rfl (by decide) (by with_reducible assumption) (by assumption) ?_; k_whole) | (refine nameG_BS rfl rfl rfl rfl (by decide) (by k_asm) (by k_asm) (by k_asm) (by k_is) (by boot_fast) (by decide) ?_; k_whole))) | (k_here; (with_reducible show wpAny _ _ (call (Value.type _) [Value.str _ _]) _ _ _); k_dflt (refine list_strN rfl (by k_asm) (by k_asm) ?_ (by rw [sizeLine_eq]; omega)); intro D9 ys9 c9 h9 tk9 F9 N9 l9 m9 hS9; (try k_lt l9); (try k_sweep)) | (k_here; (with_reducible show wpAny _ _ (compareOp CmpOp.Eq (Value.ref _) (Value.ref _)) _ _ _); k_dflt (refine strs_eq (by is_list) (by is_list) (by first | k_asm | exact StrsAre.nil) (by first | exact StrsAre.nil | k_asm) (by ke_room) ?_)) | (k_here; (with_reducible show wpAny _ _ (call (Value.builtin _) [Value.ref _, Value.int 0 _]) _ _ _); k_dflt (refine pop_first (by k_asm) (by k_asm) (by k_upd) (by (rw [sizeLine_eq]; (try have hL9 := PyProof.Rows.StrsAre.length (by assumption)); (try simp only [List.length_cons] at *); omega)) ?_; k_whole); intro h9 F9 N9; (try k_sweep)) | (k_here; (with_reducible show wpAny _ _ (call (Value.builtin "len") [Value.ref _]) _ _ _); k_dflt (refine len_strsA (by is_list) (by assumption) (by ((try simp only [List.length_map]); omega)) ?_; k_whole); (try simp only [List.length_map])) | walk1 | (k_here; (with_reducible show wpAny _ _ (compareOp CmpOp.NotEq (Value.ref _) (Value.ref _)) _ _ _); k_dflt (first | refine strs_ne_nil (by is_list) (by is_list) (by ke_room) ?_ | refine strs_ne_cons (by is_list) (by is_list) (by k_asm) (by ke_room) ?_ | refine strs_ne (by is_list) (by is_list) (by first | k_asm | exact StrsAre.nil) (by first | exact StrsAre.nil | k_asm) (by ke_room) ?_)) | (k_here; (with_reducible show wpAny _ _ (call (Value.builtin "len") [Value.str _ _]) _ _ _); refine len_str (by omega) ?_) | (dsimp only; walk1) | (dsimp only; k_unfold; (try dsimp only)) | fail "no step"))
              exact EndQ2.mk (ISt.mk hP hQ (by rw [pushNew_in hc1]) (by rw [pushNew_in hc1]) (by assumption) (fun p hp => N2 p (up4 hV2 p hp)))
            | false =>
              (repeat' (first |  (k_unfold; (try dsimp only)) | (k_here; (with_reducible show wpAny _ _ (eval (Expr.Name _ _) (compEnv _ _ _)) _ _ _); k_dflt (first | (refine name_locS rfl rfl rfl (by decide) (by with_reducible assumption) (by assumption) ?_; k_whole) | (refine nameG_BS rfl rfl rfl rfl (by decide) (by k_asm) (by k_asm) (by k_asm) (by k_is) (by boot_fast) (by decide) ?_; k_whole))) | (k_here; (with_reducible show wpAny _ _ (call (Value.type _) [Value.str _ _]) _ _ _); k_dflt (refine list_strN rfl (by k_asm) (by k_asm) ?_ (by rw [sizeLine_eq]; omega)); intro D9 ys9 c9 h9 tk9 F9 N9 l9 m9 hS9; (try k_lt l9); (try k_sweep)) | (k_here; (with_reducible show wpAny _ _ (compareOp CmpOp.Eq (Value.ref _) (Value.ref _)) _ _ _); k_dflt (refine strs_eq (by is_list) (by is_list) (by first | k_asm | exact StrsAre.nil) (by first | exact StrsAre.nil | k_asm) (by ke_room) ?_)) | (k_here; (with_reducible show wpAny _ _ (call (Value.builtin _) [Value.ref _, Value.int 0 _]) _ _ _); k_dflt (refine pop_first (by k_asm) (by k_asm) (by k_upd) (by (rw [sizeLine_eq]; (try have hL9 := PyProof.Rows.StrsAre.length (by assumption)); (try simp only [List.length_cons] at *); omega)) ?_; k_whole); intro h9 F9 N9; (try k_sweep)) | (k_here; (with_reducible show wpAny _ _ (call (Value.builtin "len") [Value.ref _]) _ _ _); k_dflt (refine len_strsA (by is_list) (by assumption) (by ((try simp only [List.length_map]); omega)) ?_; k_whole); (try simp only [List.length_map])) | walk1 | (k_here; (with_reducible show wpAny _ _ (compareOp CmpOp.NotEq (Value.ref _) (Value.ref _)) _ _ _); k_dflt (first | refine strs_ne_nil (by is_list) (by is_list) (by ke_room) ?_ | refine strs_ne_cons (by is_list) (by is_list) (by k_asm) (by ke_room) ?_ | refine strs_ne (by is_list) (by is_list) (by first | k_asm | exact StrsAre.nil) (by first | exact StrsAre.nil | k_asm) (by ke_room) ?_)) | (k_here; (with_reducible show wpAny _ _ (call (Value.builtin "len") [Value.str _ _]) _ _ _); refine len_str (by omega) ?_) | (dsimp only; walk1) | (dsimp only; k_unfold; (try dsimp only)) | fail "no step"))
              refine hold_out ?_
              refine' append_K (its := List.toArray ysP) (n := cP) ?apf1 ?apn1 ?apu1 ?_ ?apz1
              case apf1 => assumption
              case apn1 => exact N2
              case apu1 => exact Upd.head hVo2
              case apz1 => rw [List.size_toArray, sizeLine_eq, hPl]; have := hpq.1; omega
              intro h4 F151 N151
              try dsimp only
              rw [List.push_toArray] at N151
              (repeat' (first |  (k_unfold; (try dsimp only)) | (k_here; (with_reducible show wpAny _ _ (eval (Expr.Name _ _) (compEnv _ _ _)) _ _ _); k_dflt (first | (refine name_locS rfl rfl rfl (by decide) (by with_reducible assumption) (by assumption) ?_; k_whole) | (refine nameG_BS rfl rfl rfl rfl (by decide) (by k_asm) (by k_asm) (by k_asm) (by k_is) (by boot_fast) (by decide) ?_; k_whole))) | (k_here; (with_reducible show wpAny _ _ (call (Value.type _) [Value.str _ _]) _ _ _); k_dflt (refine list_strN rfl (by k_asm) (by k_asm) ?_ (by rw [sizeLine_eq]; omega)); intro D9 ys9 c9 h9 tk9 F9 N9 l9 m9 hS9; (try k_lt l9); (try k_sweep)) | (k_here; (with_reducible show wpAny _ _ (compareOp CmpOp.Eq (Value.ref _) (Value.ref _)) _ _ _); k_dflt (refine strs_eq (by is_list) (by is_list) (by first | k_asm | exact StrsAre.nil) (by first | exact StrsAre.nil | k_asm) (by ke_room) ?_)) | (k_here; (with_reducible show wpAny _ _ (call (Value.builtin _) [Value.ref _, Value.int 0 _]) _ _ _); k_dflt (refine pop_first (by k_asm) (by k_asm) (by k_upd) (by (rw [sizeLine_eq]; (try have hL9 := PyProof.Rows.StrsAre.length (by assumption)); (try simp only [List.length_cons] at *); omega)) ?_; k_whole); intro h9 F9 N9; (try k_sweep)) | (k_here; (with_reducible show wpAny _ _ (call (Value.builtin "len") [Value.ref _]) _ _ _); k_dflt (refine len_strsA (by is_list) (by assumption) (by ((try simp only [List.length_map]); omega)) ?_; k_whole); (try simp only [List.length_map])) | walk1 | (k_here; (with_reducible show wpAny _ _ (compareOp CmpOp.NotEq (Value.ref _) (Value.ref _)) _ _ _); k_dflt (first | refine strs_ne_nil (by is_list) (by is_list) (by ke_room) ?_ | refine strs_ne_cons (by is_list) (by is_list) (by k_asm) (by ke_room) ?_ | refine strs_ne (by is_list) (by is_list) (by first | k_asm | exact StrsAre.nil) (by first | exact StrsAre.nil | k_asm) (by ke_room) ?_)) | (k_here; (with_reducible show wpAny _ _ (call (Value.builtin "len") [Value.str _ _]) _ _ _); refine len_str (by omega) ?_) | (dsimp only; walk1) | (dsimp only; k_unfold; (try dsimp only)) | fail "no step"))
              refine hold_out ?_
              refine Spec.use (push_spec w0 a ok ysQ cQ n0 tn3 cs cc3 (ofL v) tv hQ1) ((PP, PySem.W.listOf (ysP ++ [Value.str (ofL v) tv]).toArray (cP + 1)) :: (I, oI) :: (LL, oLL) :: (HH, oHH9) :: r4) B0 F151 X0 (by assumption) T0 rfl (up4 hV2) (Dis.above ok oPP (hDisI oI)).use (by decide) (by decide) ?_
              refine push_all ?_
              intro h5 tk5 cq' F171 N171 _
              try dsimp only
              (repeat' (first |  (k_unfold; (try dsimp only)) | (k_here; (with_reducible show wpAny _ _ (eval (Expr.Name _ _) (compEnv _ _ _)) _ _ _); k_dflt (first | (refine name_locS rfl rfl rfl (by decide) (by with_reducible assumption) (by assumption) ?_; k_whole) | (refine nameG_BS rfl rfl rfl rfl (by decide) (by k_asm) (by k_asm) (by k_asm) (by k_is) (by boot_fast) (by decide) ?_; k_whole))) | (k_here; (with_reducible show wpAny _ _ (call (Value.type _) [Value.str _ _]) _ _ _); k_dflt (refine list_strN rfl (by k_asm) (by k_asm) ?_ (by rw [sizeLine_eq]; omega)); intro D9 ys9 c9 h9 tk9 F9 N9 l9 m9 hS9; (try k_lt l9); (try k_sweep)) | (k_here; (with_reducible show wpAny _ _ (compareOp CmpOp.Eq (Value.ref _) (Value.ref _)) _ _ _); k_dflt (refine strs_eq (by is_list) (by is_list) (by first | k_asm | exact StrsAre.nil) (by first | exact StrsAre.nil | k_asm) (by ke_room) ?_)) | (k_here; (with_reducible show wpAny _ _ (call (Value.builtin _) [Value.ref _, Value.int 0 _]) _ _ _); k_dflt (refine pop_first (by k_asm) (by k_asm) (by k_upd) (by (rw [sizeLine_eq]; (try have hL9 := PyProof.Rows.StrsAre.length (by assumption)); (try simp only [List.length_cons] at *); omega)) ?_; k_whole); intro h9 F9 N9; (try k_sweep)) | (k_here; (with_reducible show wpAny _ _ (call (Value.builtin "len") [Value.ref _]) _ _ _); k_dflt (refine len_strsA (by is_list) (by assumption) (by ((try simp only [List.length_map]); omega)) ?_; k_whole); (try simp only [List.length_map])) | walk1 | (k_here; (with_reducible show wpAny _ _ (compareOp CmpOp.NotEq (Value.ref _) (Value.ref _)) _ _ _); k_dflt (first | refine strs_ne_nil (by is_list) (by is_list) (by ke_room) ?_ | refine strs_ne_cons (by is_list) (by is_list) (by k_asm) (by ke_room) ?_ | refine strs_ne (by is_list) (by is_list) (by first | k_asm | exact StrsAre.nil) (by first | exact StrsAre.nil | k_asm) (by ke_room) ?_)) | (k_here; (with_reducible show wpAny _ _ (call (Value.builtin "len") [Value.str _ _]) _ _ _); refine len_str (by omega) ?_) | (dsimp only; walk1) | (dsimp only; k_unfold; (try dsimp only)) | fail "no step"))
              exact EndQ2.mk (ISt.mk (strs_snoc hP) (strs_snoc hQ) (by rw [pushNew_out hc1]) (by rw [pushNew_out hc1]) F171 N171)
          case goOn =>
            intro hspec
            refine wpAny_mono (hspec u.dropLast t41 _ _ pushed q _ ⟨⟨sz_a hpl, sz_a hql⟩, ISt.mk hP hQ rfl rfl F141 N142⟩) (endq_all (ist_all ?_)) (fun _ _ x => x.elim)
            clear N141 N142 F141 hP hQ
            (try clear N131); (try clear F131); (try clear F12); (try clear N12b)
            rw [← he1]
            intro ysP1 cP1 ysQ1 cQ1 h61 tk61 hP1 hQ1 F181 N181
            try dsimp only
            (repeat' (first |  (k_unfold; (try dsimp only)) | (k_here; (with_reducible show wpAny _ _ (eval (Expr.Name _ _) (compEnv _ _ _)) _ _ _); k_dflt (first | (refine name_locS rfl rfl rfl (by decide) (by with_reducible assumption) (by assumption) ?_; k_whole) | (refine nameG_BS rfl rfl rfl rfl (by decide) (by k_asm) (by k_asm) (by k_asm) (by k_is) (by boot_fast) (by decide) ?_; k_whole))) | (k_here; (with_reducible show wpAny _ _ (call (Value.type _) [Value.str _ _]) _ _ _); k_dflt (refine list_strN rfl (by k_asm) (by k_asm) ?_ (by rw [sizeLine_eq]; omega)); intro D9 ys9 c9 h9 tk9 F9 N9 l9 m9 hS9; (try k_lt l9); (try k_sweep)) | (k_here; (with_reducible show wpAny _ _ (compareOp CmpOp.Eq (Value.ref _) (Value.ref _)) _ _ _); k_dflt (refine strs_eq (by is_list) (by is_list) (by first | k_asm | exact StrsAre.nil) (by first | exact StrsAre.nil | k_asm) (by ke_room) ?_)) | (k_here; (with_reducible show wpAny _ _ (call (Value.builtin _) [Value.ref _, Value.int 0 _]) _ _ _); k_dflt (refine pop_first (by k_asm) (by k_asm) (by k_upd) (by (rw [sizeLine_eq]; (try have hL9 := PyProof.Rows.StrsAre.length (by assumption)); (try simp only [List.length_cons] at *); omega)) ?_; k_whole); intro h9 F9 N9; (try k_sweep)) | (k_here; (with_reducible show wpAny _ _ (call (Value.builtin "len") [Value.ref _]) _ _ _); k_dflt (refine len_strsA (by is_list) (by assumption) (by ((try simp only [List.length_map]); omega)) ?_; k_whole); (try simp only [List.length_map])) | walk1 | (k_here; (with_reducible show wpAny _ _ (compareOp CmpOp.NotEq (Value.ref _) (Value.ref _)) _ _ _); k_dflt (first | refine strs_ne_nil (by is_list) (by is_list) (by ke_room) ?_ | refine strs_ne_cons (by is_list) (by is_list) (by k_asm) (by ke_room) ?_ | refine strs_ne (by is_list) (by is_list) (by first | k_asm | exact StrsAre.nil) (by first | exact StrsAre.nil | k_asm) (by ke_room) ?_)) | (k_here; (with_reducible show wpAny _ _ (call (Value.builtin "len") [Value.str _ _]) _ _ _); refine len_str (by omega) ?_) | (dsimp only; walk1) | (dsimp only; k_unfold; (try dsimp only)) | fail "no step"))
            refine UnrEnd.intro F181 N181 (LexW w0 a ysQ1 cQ1 n0 tn3 cs cc3 ++ ((HH, oHH9) :: (PP, PySem.W.listOf ysP1.toArray cP1) :: (LL, oLL) :: r4)) permA (hoffI _ _ _) ⟨by rw [← hoLL]; exact List.mem_append_right _ (.tail _ (.tail _ (.head _))), ?_⟩
            clear F181 N181
            (repeat' (first |  (k_unfold; (try dsimp only)) | (k_here; (with_reducible show wpAny _ _ (eval (Expr.Name _ _) (compEnv _ _ _)) _ _ _); k_dflt (first | (refine name_locS rfl rfl rfl (by decide) (by with_reducible assumption) (by assumption) ?_; k_whole) | (refine nameG_BS rfl rfl rfl rfl (by decide) (by k_asm) (by k_asm) (by k_asm) (by k_is) (by boot_fast) (by decide) ?_; k_whole))) | (k_here; (with_reducible show wpAny _ _ (call (Value.type _) [Value.str _ _]) _ _ _); k_dflt (refine list_strN rfl (by k_asm) (by k_asm) ?_ (by rw [sizeLine_eq]; omega)); intro D9 ys9 c9 h9 tk9 F9 N9 l9 m9 hS9; (try k_lt l9); (try k_sweep)) | (k_here; (with_reducible show wpAny _ _ (compareOp CmpOp.Eq (Value.ref _) (Value.ref _)) _ _ _); k_dflt (refine strs_eq (by is_list) (by is_list) (by first | k_asm | exact StrsAre.nil) (by first | exact StrsAre.nil | k_asm) (by ke_room) ?_)) | (k_here; (with_reducible show wpAny _ _ (call (Value.builtin _) [Value.ref _, Value.int 0 _]) _ _ _); k_dflt (refine pop_first (by k_asm) (by k_asm) (by k_upd) (by (rw [sizeLine_eq]; (try have hL9 := PyProof.Rows.StrsAre.length (by assumption)); (try simp only [List.length_cons] at *); omega)) ?_; k_whole); intro h9 F9 N9; (try k_sweep)) | (k_here; (with_reducible show wpAny _ _ (call (Value.builtin "len") [Value.ref _]) _ _ _); k_dflt (refine len_strsA (by is_list) (by assumption) (by ((try simp only [List.length_map]); omega)) ?_; k_whole); (try simp only [List.length_map])) | walk1 | (k_here; (with_reducible show wpAny _ _ (compareOp CmpOp.NotEq (Value.ref _) (Value.ref _)) _ _ _); k_dflt (first | refine strs_ne_nil (by is_list) (by is_list) (by ke_room) ?_ | refine strs_ne_cons (by is_list) (by is_list) (by k_asm) (by ke_room) ?_ | refine strs_ne (by is_list) (by is_list) (by first | k_asm | exact StrsAre.nil) (by first | exact StrsAre.nil | k_asm) (by ke_room) ?_)) | (k_here; (with_reducible show wpAny _ _ (call (Value.builtin "len") [Value.str _ _]) _ _ _); refine len_str (by omega) ?_) | (dsimp only; walk1) | (dsimp only; k_unfold; (try dsimp only)) | fail "no step"))
            refine hold_out ?_
            refine Spec.pure (written_spec _ _ _ (by rw [hold_out hless]; exact apL_len _ hx2.2 (Nat.le_trans hx2.1 (by decide)))) (by assumption) (by assumption) (by assumption) (by assumption) (by assumption) rfl (by decide) (by decide) ?_
            refine str_all ?_
            intro h32 tk32 t42 F132 N132
            try dsimp only
            rw [hold_out hless, written_val _ hx2.2]
            (repeat' (first |  (k_unfold; (try dsimp only)) | (k_here; (with_reducible show wpAny _ _ (eval (Expr.Name _ _) (compEnv _ _ _)) _ _ _); k_dflt (first | (refine name_locS rfl rfl rfl (by decide) (by with_reducible assumption) (by assumption) ?_; k_whole) | (refine nameG_BS rfl rfl rfl rfl (by decide) (by k_asm) (by k_asm) (by k_asm) (by k_is) (by boot_fast) (by decide) ?_; k_whole))) | (k_here; (with_reducible show wpAny _ _ (call (Value.type _) [Value.str _ _]) _ _ _); k_dflt (refine list_strN rfl (by k_asm) (by k_asm) ?_ (by rw [sizeLine_eq]; omega)); intro D9 ys9 c9 h9 tk9 F9 N9 l9 m9 hS9; (try k_lt l9); (try k_sweep)) | (k_here; (with_reducible show wpAny _ _ (compareOp CmpOp.Eq (Value.ref _) (Value.ref _)) _ _ _); k_dflt (refine strs_eq (by is_list) (by is_list) (by first | k_asm | exact StrsAre.nil) (by first | exact StrsAre.nil | k_asm) (by ke_room) ?_)) | (k_here; (with_reducible show wpAny _ _ (call (Value.builtin _) [Value.ref _, Value.int 0 _]) _ _ _); k_dflt (refine pop_first (by k_asm) (by k_asm) (by k_upd) (by (rw [sizeLine_eq]; (try have hL9 := PyProof.Rows.StrsAre.length (by assumption)); (try simp only [List.length_cons] at *); omega)) ?_; k_whole); intro h9 F9 N9; (try k_sweep)) | (k_here; (with_reducible show wpAny _ _ (call (Value.builtin "len") [Value.ref _]) _ _ _); k_dflt (refine len_strsA (by is_list) (by assumption) (by ((try simp only [List.length_map]); omega)) ?_; k_whole); (try simp only [List.length_map])) | walk1 | (k_here; (with_reducible show wpAny _ _ (compareOp CmpOp.NotEq (Value.ref _) (Value.ref _)) _ _ _); k_dflt (first | refine strs_ne_nil (by is_list) (by is_list) (by ke_room) ?_ | refine strs_ne_cons (by is_list) (by is_list) (by k_asm) (by ke_room) ?_ | refine strs_ne (by is_list) (by is_list) (by first | k_asm | exact StrsAre.nil) (by first | exact StrsAre.nil | k_asm) (by ke_room) ?_)) | (k_here; (with_reducible show wpAny _ _ (call (Value.builtin "len") [Value.str _ _]) _ _ _); refine len_str (by omega) ?_) | (dsimp only; walk1) | (dsimp only; k_unfold; (try dsimp only)) | fail "no step"))
            refine hold_out ?_
            with_reducible rename Fr _ _ _ _ => F142
            with_reducible rename News _ _ _ _ => N142
            replace F142 := lw_lp F142
            refine wpAny_mono (hspec (u.drop 1) t42 _ _ r1.1 r1.2 _ ⟨⟨sz_b hpl hpn3, sz_b hql hpn4⟩, ISt.mk hP1 hQ1 rfl rfl F142 (fun p hp => N142 p (permB p hp))⟩) (endq_all (ist_all ?_)) (fun _ _ x => x.elim)
            clear F142 N142 hP1 hQ1 hspec
            (try clear N132); (try clear F132)
            intro ysP2 cP2 ysQ2 cQ2 h62 tk62 hP2 hQ2 F182 N182
            try dsimp only
            (repeat' (first |  (k_unfold; (try dsimp only)) | (k_here; (with_reducible show wpAny _ _ (eval (Expr.Name _ _) (compEnv _ _ _)) _ _ _); k_dflt (first | (refine name_locS rfl rfl rfl (by decide) (by with_reducible assumption) (by assumption) ?_; k_whole) | (refine nameG_BS rfl rfl rfl rfl (by decide) (by k_asm) (by k_asm) (by k_asm) (by k_is) (by boot_fast) (by decide) ?_; k_whole))) | (k_here; (with_reducible show wpAny _ _ (call (Value.type _) [Value.str _ _]) _ _ _); k_dflt (refine list_strN rfl (by k_asm) (by k_asm) ?_ (by rw [sizeLine_eq]; omega)); intro D9 ys9 c9 h9 tk9 F9 N9 l9 m9 hS9; (try k_lt l9); (try k_sweep)) | (k_here; (with_reducible show wpAny _ _ (compareOp CmpOp.Eq (Value.ref _) (Value.ref _)) _ _ _); k_dflt (refine strs_eq (by is_list) (by is_list) (by first | k_asm | exact StrsAre.nil) (by first | exact StrsAre.nil | k_asm) (by ke_room) ?_)) | (k_here; (with_reducible show wpAny _ _ (call (Value.builtin _) [Value.ref _, Value.int 0 _]) _ _ _); k_dflt (refine pop_first (by k_asm) (by k_asm) (by k_upd) (by (rw [sizeLine_eq]; (try have hL9 := PyProof.Rows.StrsAre.length (by assumption)); (try simp only [List.length_cons] at *); omega)) ?_; k_whole); intro h9 F9 N9; (try k_sweep)) | (k_here; (with_reducible show wpAny _ _ (call (Value.builtin "len") [Value.ref _]) _ _ _); k_dflt (refine len_strsA (by is_list) (by assumption) (by ((try simp only [List.length_map]); omega)) ?_; k_whole); (try simp only [List.length_map])) | walk1 | (k_here; (with_reducible show wpAny _ _ (compareOp CmpOp.NotEq (Value.ref _) (Value.ref _)) _ _ _); k_dflt (first | refine strs_ne_nil (by is_list) (by is_list) (by ke_room) ?_ | refine strs_ne_cons (by is_list) (by is_list) (by k_asm) (by ke_room) ?_ | refine strs_ne (by is_list) (by is_list) (by first | k_asm | exact StrsAre.nil) (by first | exact StrsAre.nil | k_asm) (by ke_room) ?_)) | (k_here; (with_reducible show wpAny _ _ (call (Value.builtin "len") [Value.str _ _]) _ _ _); refine len_str (by omega) ?_) | (dsimp only; walk1) | (dsimp only; k_unfold; (try dsimp only)) | fail "no step"))
            refine UnrEnd.intro F182 N182 (LexW w0 a ysQ2 cQ2 n0 tn3 cs cc3 ++ ((HH, oHH9) :: (PP, PySem.W.listOf ysP2.toArray cP2) :: (LL, oLL) :: r4)) permA (hoffI _ _ _) ⟨by rw [← hoLL]; exact List.mem_append_right _ (.tail _ (.tail _ (.head _))), ?_⟩
            clear F182 N182
            replace hQ2 : StrsAre ysQ2 ((pushNew r1 (u.drop 1)).2.map ofL) := hQ2
            rw [hyq] at hQ2
            obtain ⟨t5, ys5, e5, hQ3⟩ := strs_cons hQ2
            rw [e5]
            clear hQ2
            have hql2 := hQ3.length
            rw [List.length_map] at hql2
            refine ListRest.zero ?_
            intro h63 tk63 F63 N63
            replace F63 : Fr g L0 h63 _ := F63
            replace N63 : News g L0 h63 (LexW w0 a (Value.str (ofL y) t5 :: ys5) cQ2 n0 tn3 cs cc3 ++ ((HH, PySem.W.listOf ysH.toArray cH) :: (PP, PySem.W.listOf ysP2.toArray cP2) :: (LL, oLL) :: r4)) := by rw [← hoHH]; exact N63
            refine lex_walk2 (x := (L0 + 2, oH2)) N63 (.tail _ (.tail _ hmH)) (all_app (hoffL HH oHp _ _ _ _ _) (List.forall_mem_cons.mpr ⟨Nat.ne_of_lt oHH, List.forall_mem_cons.mpr ⟨Nat.ne_of_gt oHL, hoffR HH (Nat.lt_trans o72P oHH) (Nat.lt_trans o4P oHH)⟩⟩)) ?_
            clear N63
            intro V2 hV2 hVo2 N19
            try dsimp only
            (repeat' (first |  (k_unfold; (try dsimp only)) | (k_here; (with_reducible show wpAny _ _ (eval (Expr.Name _ _) (compEnv _ _ _)) _ _ _); k_dflt (first | (refine name_locS rfl rfl rfl (by decide) (by with_reducible assumption) (by assumption) ?_; k_whole) | (refine nameG_BS rfl rfl rfl rfl (by decide) (by k_asm) (by k_asm) (by k_asm) (by k_is) (by boot_fast) (by decide) ?_; k_whole))) | (k_here; (with_reducible show wpAny _ _ (call (Value.type _) [Value.str _ _]) _ _ _); k_dflt (refine list_strN rfl (by k_asm) (by k_asm) ?_ (by rw [sizeLine_eq]; omega)); intro D9 ys9 c9 h9 tk9 F9 N9 l9 m9 hS9; (try k_lt l9); (try k_sweep)) | (k_here; (with_reducible show wpAny _ _ (compareOp CmpOp.Eq (Value.ref _) (Value.ref _)) _ _ _); k_dflt (refine strs_eq (by is_list) (by is_list) (by first | k_asm | exact StrsAre.nil) (by first | exact StrsAre.nil | k_asm) (by ke_room) ?_)) | (k_here; (with_reducible show wpAny _ _ (call (Value.builtin _) [Value.ref _, Value.int 0 _]) _ _ _); k_dflt (refine pop_first (by k_asm) (by k_asm) (by k_upd) (by (rw [sizeLine_eq]; (try have hL9 := PyProof.Rows.StrsAre.length (by assumption)); (try simp only [List.length_cons] at *); omega)) ?_; k_whole); intro h9 F9 N9; (try k_sweep)) | (k_here; (with_reducible show wpAny _ _ (call (Value.builtin "len") [Value.ref _]) _ _ _); k_dflt (refine len_strsA (by is_list) (by assumption) (by ((try simp only [List.length_map]); omega)) ?_; k_whole); (try simp only [List.length_map])) | walk1 | (k_here; (with_reducible show wpAny _ _ (compareOp CmpOp.NotEq (Value.ref _) (Value.ref _)) _ _ _); k_dflt (first | refine strs_ne_nil (by is_list) (by is_list) (by ke_room) ?_ | refine strs_ne_cons (by is_list) (by is_list) (by k_asm) (by ke_room) ?_ | refine strs_ne (by is_list) (by is_list) (by first | k_asm | exact StrsAre.nil) (by first | exact StrsAre.nil | k_asm) (by ke_room) ?_)) | (k_here; (with_reducible show wpAny _ _ (call (Value.builtin "len") [Value.str _ _]) _ _ _); refine len_str (by omega) ?_) | (dsimp only; walk1) | (dsimp only; k_unfold; (try dsimp only)) | fail "no step"))
            refine hold_out ?_
            refine Spec.use (tok_spec1 w0 a ok ys5 cQ2 n0 tn3 cs cc3 (ofL y) t5 (sz_c hql2 hql3)) ((HH, PySem.W.listOf ysH.toArray cH) :: (PP, PySem.W.listOf ysP2.toArray cP2) :: r4) B0 (by assumption) X0 (by assumption) T0 rfl (fun p hp => up4 hV2 p (permC p hp)) (Dis.above ok oHp (Dis.above ok oPP hDis)).use (by decide) (by decide) ?_
            rintro r W' h9' tk9 ⟨rfl, cq9, rfl⟩ F21 N21 -
            clear N19 hV2 hVo2 F63
            refine lex_walk2 (x := (L0 + 2, oH2)) N21 (.tail _ hmH) (hoffH _ _ _ _ _ _) ?_
            clear N21
            intro V3 hV3 hVo3 N21
            try dsimp only
            (repeat' (first |  (k_unfold; (try dsimp only)) | (k_here; (with_reducible show wpAny _ _ (eval (Expr.Name _ _) (compEnv _ _ _)) _ _ _); k_dflt (first | (refine name_locS rfl rfl rfl (by decide) (by with_reducible assumption) (by assumption) ?_; k_whole) | (refine nameG_BS rfl rfl rfl rfl (by decide) (by k_asm) (by k_asm) (by k_asm) (by k_is) (by boot_fast) (by decide) ?_; k_whole))) | (k_here; (with_reducible show wpAny _ _ (call (Value.type _) [Value.str _ _]) _ _ _); k_dflt (refine list_strN rfl (by k_asm) (by k_asm) ?_ (by rw [sizeLine_eq]; omega)); intro D9 ys9 c9 h9 tk9 F9 N9 l9 m9 hS9; (try k_lt l9); (try k_sweep)) | (k_here; (with_reducible show wpAny _ _ (compareOp CmpOp.Eq (Value.ref _) (Value.ref _)) _ _ _); k_dflt (refine strs_eq (by is_list) (by is_list) (by first | k_asm | exact StrsAre.nil) (by first | exact StrsAre.nil | k_asm) (by ke_room) ?_)) | (k_here; (with_reducible show wpAny _ _ (call (Value.builtin _) [Value.ref _, Value.int 0 _]) _ _ _); k_dflt (refine pop_first (by k_asm) (by k_asm) (by k_upd) (by (rw [sizeLine_eq]; (try have hL9 := PyProof.Rows.StrsAre.length (by assumption)); (try simp only [List.length_cons] at *); omega)) ?_; k_whole); intro h9 F9 N9; (try k_sweep)) | (k_here; (with_reducible show wpAny _ _ (call (Value.builtin "len") [Value.ref _]) _ _ _); k_dflt (refine len_strsA (by is_list) (by assumption) (by ((try simp only [List.length_map]); omega)) ?_; k_whole); (try simp only [List.length_map])) | walk1 | (k_here; (with_reducible show wpAny _ _ (compareOp CmpOp.NotEq (Value.ref _) (Value.ref _)) _ _ _); k_dflt (first | refine strs_ne_nil (by is_list) (by is_list) (by ke_room) ?_ | refine strs_ne_cons (by is_list) (by is_list) (by k_asm) (by ke_room) ?_ | refine strs_ne (by is_list) (by is_list) (by first | k_asm | exact StrsAre.nil) (by first | exact StrsAre.nil | k_asm) (by ke_room) ?_)) | (k_here; (with_reducible show wpAny _ _ (call (Value.builtin "len") [Value.str _ _]) _ _ _); refine len_str (by omega) ?_) | (dsimp only; walk1) | (dsimp only; k_unfold; (try dsimp only)) | fail "no step"))
            refine hold_out ?_
            refine' append_K (its := ysH.toArray) (n := cH) ?ahf ?ahn ?ahu ?_ ?ahz
            case ahf => exact F21
            case ahn => exact N21
            case ahu => exact Upd.head hVo3
            case ahz => rw [List.size_toArray, sizeLine_eq]; omega
            intro h4 F22 N22
            try dsimp only
            rw [List.push_toArray] at N22
            (repeat' (first |  (k_unfold; (try dsimp only)) | (k_here; (with_reducible show wpAny _ _ (eval (Expr.Name _ _) (compEnv _ _ _)) _ _ _); k_dflt (first | (refine name_locS rfl rfl rfl (by decide) (by with_reducible assumption) (by assumption) ?_; k_whole) | (refine nameG_BS rfl rfl rfl rfl (by decide) (by k_asm) (by k_asm) (by k_asm) (by k_is) (by boot_fast) (by decide) ?_; k_whole))) | (k_here; (with_reducible show wpAny _ _ (call (Value.type _) [Value.str _ _]) _ _ _); k_dflt (refine list_strN rfl (by k_asm) (by k_asm) ?_ (by rw [sizeLine_eq]; omega)); intro D9 ys9 c9 h9 tk9 F9 N9 l9 m9 hS9; (try k_lt l9); (try k_sweep)) | (k_here; (with_reducible show wpAny _ _ (compareOp CmpOp.Eq (Value.ref _) (Value.ref _)) _ _ _); k_dflt (refine strs_eq (by is_list) (by is_list) (by first | k_asm | exact StrsAre.nil) (by first | exact StrsAre.nil | k_asm) (by ke_room) ?_)) | (k_here; (with_reducible show wpAny _ _ (call (Value.builtin _) [Value.ref _, Value.int 0 _]) _ _ _); k_dflt (refine pop_first (by k_asm) (by k_asm) (by k_upd) (by (rw [sizeLine_eq]; (try have hL9 := PyProof.Rows.StrsAre.length (by assumption)); (try simp only [List.length_cons] at *); omega)) ?_; k_whole); intro h9 F9 N9; (try k_sweep)) | (k_here; (with_reducible show wpAny _ _ (call (Value.builtin "len") [Value.ref _]) _ _ _); k_dflt (refine len_strsA (by is_list) (by assumption) (by ((try simp only [List.length_map]); omega)) ?_; k_whole); (try simp only [List.length_map])) | walk1 | (k_here; (with_reducible show wpAny _ _ (compareOp CmpOp.NotEq (Value.ref _) (Value.ref _)) _ _ _); k_dflt (first | refine strs_ne_nil (by is_list) (by is_list) (by ke_room) ?_ | refine strs_ne_cons (by is_list) (by is_list) (by k_asm) (by ke_room) ?_ | refine strs_ne (by is_list) (by is_list) (by first | k_asm | exact StrsAre.nil) (by first | exact StrsAre.nil | k_asm) (by ke_room) ?_)) | (k_here; (with_reducible show wpAny _ _ (call (Value.builtin "len") [Value.str _ _]) _ _ _); refine len_str (by omega) ?_) | (dsimp only; walk1) | (dsimp only; k_unfold; (try dsimp only)) | fail "no step"))
            exact Again.mk (m := k') (Nat.lt_succ_self _) (LSt.mk (fr := fun mn ml mp => lwFr S PP a.lx text (ofL word) total la tx t' t1 t2 mn ml mp) hLo2 (strs_snoc hH) hP2 hQ3 hCs F22 (fun p hp => N22 p (up4 hV3 p hp)))
        · refine hold_out ?_
          with_reducible rename (_ != _) = false => hne2
          rw [last_get, ofL_ne] at hne2
          have hu : u = [] := by cases u with
            | nil => rfl
            | cons _ _ => cases hne2
          subst hu
          obtain ⟨hd1, rfl⟩ := hLo.done
          cases hQ
          rw [hd1] at hH
          exact EndQ2.mk (LEnd.mk (fr := fun mn ml mp => lwFr S PP a.lx text (ofL word) total la tx t' t1 t2 mn ml mp) hH hCs (by assumption) (fun p hp => N p (up4 hV p hp))))

end
end Mine
theorem PySem.Challenge.cw_sc0030_01_holds : PySem.Challenge.rw_sc0030_01.Holds :=
  Mine.law_holds
