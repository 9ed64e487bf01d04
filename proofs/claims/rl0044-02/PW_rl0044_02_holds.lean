import PyProof.Rows.All
import Wide.All
import OpenK.AllK
import Wide.FinOn
import PySem.Challenge.RW_rl0044_02
open PySem PySem.W PySem.Calls PyProof.Rows
set_option Elab.async false
set_option maxRecDepth 100000
set_option compiler.extract_closed false
set_option linter.unusedVariables false
set_option linter.unusedSimpArgs false
namespace Mine

/-- a fact kept out of omega's sight -/
noncomputable def Hid (q : Prop) : Prop := q
theorem Hid.mk {q : Prop} (h : q) : Hid q := h
theorem Hid.out {q : Prop} (h : Hid q) : q := h

/-- a smaller room serves where a greater one does -/
theorem wp_room {α : Type} {M : Model} {A A' : Around} {t : Sem α} {Q : α → Shared → Prop} {E : Value → Shared → Prop} {s : Shared}
    (h1 : A.handled = A'.handled) (h2 : A.depth ≤ A'.depth) (h3 : A.frames = A'.frames) (h4 : A.guards = A'.guards) (h5 : A.units ≤ A'.units)
    (h : wpAny M A' t Q E s) : wpAny M A t Q E s := fun Γ p ⟨a, b, c, d, e⟩ =>
  h Γ p ⟨a.trans h1, Nat.le_trans b h2, fun l hl => c l (h3.trans hl), fun g hg => d g (h4.trans hg), Nat.le_trans e h5⟩

/-- what is to hold at the end, under one letter -/
theorem hideQ {α : Type} {M : Model} {A : Around} {t : Sem α} {Q : α → Shared → Prop} {E : Value → Shared → Prop} {s : Shared} (h : ∀ Q' : α → Shared → Prop, Q' = Q → wpAny M A t Q' E s) : wpAny M A t Q E s := h Q rfl

/-- what a def gives back, whoever calls it: `pre` is what it may see and turn, `rest` what it leaves alone -/
noncomputable def Spec (prog : Program) (w : World) (K : Frag) (dp un : Nat) (f : Addr) (vs : List Value) (pre : List (Addr × Obj)) (Post : Value → List (Addr × Obj) → Prop) : Prop :=
  ∀ (p : Program) (loose : List Str) (mean : ExcName → Option Value) (mg mb : Str → Option Value) (gd : Option (List Code)) (cn : Str) (cs : Scope) (a : Addr) (ccd : Value) (cl : List (Str × Addr)) (outer : List Env)
    (A₀ : Around) (base h₀ : Heap) (L : Addr) (m : Str → Option Value) (rest : List (Addr × Obj)) (s : Shared) (Q E : Value → Shared → Prop),
    Below A₀ base outer h₀ → Fr h₀ L s.heap m → K.In h₀ → News h₀ L s.heap (pre ++ rest) → (∀ q ∈ pre, ∀ r ∈ rest, q.1 ≠ r.1) → Top p loose mean mg mb h₀ → CodeHd base 41 37 → CodeHd base 34 30 → cs.kind = .function →
    (∀ r post h' tk', Fr h₀ L h' m → News h₀ L h' (post ++ rest) → (∀ q ∈ post, ∀ r ∈ rest, q.1 ≠ r.1) → Post r post → Q r { s with heap := h', toks := tk' }) →
    wpAny (model prog w) (ktrTop dp un gd cn cs L a ccd cl outer) (call (.ref f) vs) Q E s

/-- the value that a flow hands back -/
abbrev retOf (fl : Flow) : Value := match fl with | .ret v => v | _ => .none

/-- what stands at a body's end -/
noncomputable def Done (s : Shared) (g : Heap) (Post : Value → List (Addr × Obj) → Prop) (fl : Flow) (s' : Shared) : Prop :=
  ∃ L' m' post, Fr g L' s'.heap m' ∧ News g L' s'.heap post ∧ Post (retOf fl) post ∧ ∃ h' tk', s' = { s with heap := h', toks := tk' }

section
variable {prog : Program} {w : World} {K : Frag} {dp un : Nat} {f : Addr} {vs : List Value} {pre : List (Addr × Obj)} {Post : Value → List (Addr × Obj) → Prop}
  {name qual : Str} {params : Arguments} {body : List Stmt} {scope : Scope} {dV kV doc pm cdv ct oc : Value} {an od : Option Addr} {osl : Array (Option Value)} {binds : List (Str × Value)}

theorem Spec.mono {dp' un' : Nat} {Post' : Value → List (Addr × Obj) → Prop} (h : Spec prog w K dp' un' f vs pre Post') (h1 : dp ≤ dp') (h2 : un ≤ un') (hp : ∀ v l, Post' v l → Post v l) : Spec prog w K dp un f vs pre Post := by
  intro p loose mean mg mb gd cn cs a ccd cl outer A₀ base h₀ L m rest s Q E B F X N D T C1 C2 hk ret
  exact wp_room (A' := ktrTop dp' un' gd cn cs L a ccd cl outer) rfl h1 rfl rfl h2 (h p loose mean mg mb gd cn cs a ccd cl outer A₀ base h₀ L m rest s Q E B F X N D T C1 C2 hk fun r post h' tk' a1 a2 a3 a4 => ret r post h' tk' a1 a2 a3 (hp _ _ a4))

theorem Spec.use {dp' un' : Nat} {p : Program} {loose : List Str} {mean : ExcName → Option Value} {mg mb : Str → Option Value} {gd : Option (List Code)} {cn : Str} {cs : Scope} {a : Addr} {ccd : Value} {cl : List (Str × Addr)} {outer : List Env}
    {A₀ : Around} {base h₀ : Heap} {L : Addr} {m : Str → Option Value} {rest : List (Addr × Obj)} {s : Shared} {Q E : Value → Shared → Prop} (h : Spec prog w K dp un f vs [] Post)
    (B : Below A₀ base outer h₀) (F : Fr h₀ L s.heap m) (X : K.In h₀) (N : News h₀ L s.heap rest) (T : Top p loose mean mg mb h₀) (C1 : CodeHd base 41 37) (C2 : CodeHd base 34 30) (hk : cs.kind = .function) (h1 : dp' ≤ dp) (h2 : un' ≤ un)
    (ret : ∀ r post h' tk', Fr h₀ L h' m → News h₀ L h' (post ++ rest) → (∀ q ∈ post, ∀ r ∈ rest, q.1 ≠ r.1) → Post r post → Q r { s with heap := h', toks := tk' }) :
    wpAny (model prog w) (ktrTop dp' un' gd cn cs L a ccd cl outer) (call (.ref f) vs) Q E s :=
  h.mono h1 h2 (fun _ _ x => x) p loose mean mg mb gd cn cs a ccd cl outer A₀ base h₀ L m rest s Q E B F X N (fun _ hq => nomatch hq) T C1 C2 hk ret

noncomputable def AllNe (a : Nat) : List (Addr × Obj) → Prop
  | [] => True
  | p :: r => @Ne Nat a p.1 ∧ AllNe a r
noncomputable def ApartL : List (Addr × Obj) → List (Addr × Obj) → Prop
  | [], _ => True
  | p :: r, l => AllNe p.1 l ∧ ApartL r l
theorem AllNe.of {a : Nat} : ∀ {l : List (Addr × Obj)}, AllNe a l → ∀ r ∈ l, a ≠ r.1
  | [], _, _, h => nomatch h
  | _ :: _, x, r, h => by
    rcases List.mem_cons.mp h with rfl | h
    · exact x.1
    · exact AllNe.of x.2 r h
theorem AllNe.to {a : Nat} : ∀ {l : List (Addr × Obj)}, (∀ r ∈ l, a ≠ r.1) → AllNe a l
  | [], _ => trivial
  | p :: _, h => ⟨h p (List.mem_cons_self ..), AllNe.to fun r hr => h r (List.mem_cons_of_mem _ hr)⟩
theorem ApartL.of : ∀ {l k : List (Addr × Obj)}, ApartL l k → ∀ q ∈ l, ∀ r ∈ k, q.1 ≠ r.1
  | [], _, _, _, h => nomatch h
  | _ :: _, _, x, q, h => by
    rcases List.mem_cons.mp h with rfl | h
    · exact x.1.of
    · exact ApartL.of x.2 q h
theorem ApartL.to : ∀ {l k : List (Addr × Obj)}, (∀ q ∈ l, ∀ r ∈ k, q.1 ≠ r.1) → ApartL l k
  | [], _, _ => trivial
  | p :: _, _, h => ⟨AllNe.to (h p (List.mem_cons_self ..)), ApartL.to fun r hr => h r (List.mem_cons_of_mem _ hr)⟩

theorem Spec.at {dp' un' : Nat} {p : Program} {loose : List Str} {mean : ExcName → Option Value} {mg mb : Str → Option Value} {gd : Option (List Code)} {cn : Str} {cs : Scope} {a : Addr} {ccd : Value} {cl : List (Str × Addr)} {outer : List Env}
    {A₀ : Around} {base h₀ : Heap} {L : Addr} {m : Str → Option Value} {all : List (Addr × Obj)} {s : Shared} {Q E : Value → Shared → Prop} (h : Spec prog w K dp un f vs pre Post) (rest : List (Addr × Obj))
    (B : Below A₀ base outer h₀) (F : Fr h₀ L s.heap m) (X : K.In h₀) (N : News h₀ L s.heap all) (hs : SubL (pre ++ rest) all) (D : ApartL pre rest) (T : Top p loose mean mg mb h₀) (C1 : CodeHd base 41 37) (C2 : CodeHd base 34 30) (hk : cs.kind = .function) (h1 : dp' ≤ dp) (h2 : un' ≤ un)
    (ret : ∀ r post h' tk', Fr h₀ L h' m → News h₀ L h' (post ++ rest) → ApartL post rest → Post r post → Q r { s with heap := h', toks := tk' }) :
    wpAny (model prog w) (ktrTop dp' un' gd cn cs L a ccd cl outer) (call (.ref f) vs) Q E s :=
  h.mono h1 h2 (fun _ _ x => x) p loose mean mg mb gd cn cs a ccd cl outer A₀ base h₀ L m rest s Q E B F X (fun q hq => N q (hs.mem q hq)) D.of T C1 C2 hk fun r post h' tk' a1 a2 a3 a4 => ret r post h' tk' a1 a2 (.to a3) a4

theorem news_left {h₀ h : Heap} {L : Addr} {a b : List (Addr × Obj)} (N : News h₀ L h (a ++ b)) : News h₀ L h a := fun p hp => N p (List.mem_append_left _ hp)
theorem news_right {h₀ h : Heap} {L : Addr} {a b : List (Addr × Obj)} (N : News h₀ L h (a ++ b)) : News h₀ L h b := fun p hp => N p (List.mem_append_right _ hp)
theorem news_head {h₀ h : Heap} {L : Addr} {q : Addr × Obj} {a : List (Addr × Obj)} (N : News h₀ L h (q :: a)) : News h₀ L h [q] := fun p hp => N p (by rw [List.mem_singleton.mp hp]; exact List.mem_cons_self ..)
theorem news_sub {h₀ h : Heap} {L : Addr} {a b : List (Addr × Obj)} (N : News h₀ L h a) (hs : SubL b a) : News h₀ L h b := fun p hp => N p (hs.mem p hp)

/-- behind the callee's end: the caller's frame, and what was left alone -/
theorem back {h₀ : Heap} {L : Addr} {m : Str → Option Value} {rest : List (Addr × Obj)} {s s' : Shared} {Q : Value → Shared → Prop} {fl : Flow} {gg : Heap}
    (N : News h₀ L s.heap (pre ++ rest)) (D : ∀ q ∈ pre, ∀ r ∈ rest, q.1 ≠ r.1)
    (lv : ∀ v s', LeaveK h₀ L m (hideAll s.heap (pre.map (·.1))) (fun r s' => match r with | .ok (.ret v) => Q v s' | .ok _ => False | .error _ => False) v s' → Q v s')
    (ret : ∀ r post h' tk', Fr h₀ L h' m → News h₀ L h' (post ++ rest) → (∀ q ∈ post, ∀ r ∈ rest, q.1 ≠ r.1) → Post r post → Q r { s with heap := h', toks := tk' })
    (hg : gg = hideAll s.heap (pre.map (·.1)))
    (d : Done s gg Post fl s') : Q (retOf fl) s' := by
  subst hg
  obtain ⟨L', m', post, F', N', hp, h', tk', rfl⟩ := d
  have hr : ∀ r ∈ rest, (hideAll s.heap (pre.map (·.1))).get? r.1 = some r.2 := fun r hr => hideAll_get _ (N r (List.mem_append_right _ hr)).1 fun q => by
    obtain ⟨q', hq', e⟩ := List.mem_map.mp q
    exact D q' hq' r hr e
  refine lv _ _ ⟨L', m', post, F', N', fun Fc Nc => ret _ post _ _ Fc (fun q hq => ?_) (fun q hq r hr' e => ?_) hp⟩
  · rcases List.mem_append.mp hq with hq | hq
    · exact Nc q hq
    · have := N q (List.mem_append_right _ hq)
      exact ⟨F'.keep _ _ (hr q hq), this.2.1, this.2.2⟩
  · have e1 := (N' q hq).2.2
    rw [e, hr r hr'] at e1
    cases e1

/-- a def of the top with plain locals -/
theorem Spec.plain (ho : K.lookup f = some ⟨oc, od, .func (fnOf name qual params body scope dV kV doc pm an cdv ct), osl⟩) (hcd : codeIn K cdv qual = true) (hroom : dp < recursionLimit)
    (hbind : ∀ s, BindsTo s (fnOf name qual params body scope dV kV doc pm an cdv ct) ⟨vs, []⟩ binds) (hloc : ∀ y ∈ binds, scope.names.lookup y.1 = some .local)
    (hb : ∀ (p : Program) (loose : List Str) (mean : ExcName → Option Value) (mg mb : Str → Option Value) (gd : Option (List Code)) (cn : Str) (cs : Scope) (a : Addr) (ccd : Value) (cl : List (Str × Addr)) (outer : List Env)
      (base g : Heap) (L L' : Addr) (s : Shared), cs.kind = .function → Fr g L' s.heap (fun y => binds.reverse.lookup y) → News g L' s.heap pre → Below (ktrTop dp un gd cn cs L a ccd cl outer) base (envX cn cs L a ccd cl :: outer) g → K.In g → Top p loose mean mg mb g →
      CodeHd base 41 37 → CodeHd base 34 30 →
      wpAny (model prog w) ((ktrTop dp un gd cn cs L a ccd cl outer).deeper (envOf qual scope L' f cdv)) (execs body (envOf qual scope L' f cdv)) (Done s g Post) (fun _ _ => False) s)
    (hco : scope.isCoroutine = false) (hgen : scope.isGenerator = false) (hk : scope.kind = .function) (hcell : ∀ x ∈ scope.names, x.2 ≠ .cell) : Spec prog w K dp un f vs pre Post := by
  intro p loose mean mg mb gd cn cs a ccd cl outer A₀ base h₀ L m rest s Q E B F X N D T C1 C2 hke ret
  refine wpAny_call ?_
  have NP := news_left N
  obtain ⟨FG, BG, st, lv⟩ := groundX (A := ktrTop dp un gd cn cs L a ccd cl outer) (R := fun r s' => match r with | .ok (.ret v) => Q v s' | .ok _ => False | .error _ => False) B F NP rfl rfl hke
  refine codeAny_call_def (fd := fnOf name qual params body scope dV kV doc pm an cdv ct) (body := body) (binds := binds) hroom ((X.keeps F.keep) _ _ ho) rfl (T.nolimit.keeps F.keep) (codeRec_of (X.keeps F.keep) hcd) rfl (hbind s) hcell hloc (fun h₁ hns hk₁ => ?_) hco hgen hk
  refine wpAny_mono (hb p loose mean mg mb gd cn cs a ccd cl outer base (hideAll s.heap (pre.map fun (q : Addr × Obj) => q.1)) L s.heap.objs.size { s with heap := h₁, toks := s.toks + binds.length } hke
    ⟨hns, fun b o e => hk₁ b o (of_hideAll _ e), Nat.le_of_eq (hideAll_size _ _)⟩
    (fun p hp => ⟨hk₁ _ _ (NP p hp).1, Nat.ne_of_lt (Heap.lt_size (NP p hp).1), hideAll_none _ (List.mem_map_of_mem hp)⟩) BG (X.keeps st) (T.keeps st) C1 C2) (fun fl s' hl => ?_) (fun _ _ y => y.elim)
  obtain ⟨L', m', post, F', N', hp, h', tk', rfl⟩ := hl
  exact back (Post := Post) (s := s) N D lv ret rfl ⟨L', m', post, F', N', hp, h', tk', rfl⟩

/-- a def made in a body (its function object and its code stand in the ledger) -/
theorem Spec.nest {clos : List (Str × Addr)} {c' : Addr} {ctv : Value} {co : Obj} {cvs : Array Value} {ctk : Tok} (ho : (f, fnMade name qual params body scope clos doc pm c' ctv) ∈ pre) (hc : (c', co) ∈ pre) (hcd : co.data = .fields cvs) (hcv : cvs[1]? = some (.str qual ctk)) (hroom : dp < recursionLimit)
    (hbind : ∀ s, BindsTo s (fnX name qual params body scope clos .none .none doc pm none (.ref c') ctv) ⟨vs, []⟩ binds) (hloc : ∀ y ∈ binds, scope.names.lookup y.1 = some .local)
    (hb : ∀ (p : Program) (loose : List Str) (mean : ExcName → Option Value) (mg mb : Str → Option Value) (gd : Option (List Code)) (cn : Str) (cs : Scope) (a : Addr) (ccd : Value) (cl : List (Str × Addr)) (outer : List Env)
      (base g : Heap) (L L' : Addr) (s : Shared), cs.kind = .function → Fr g L' s.heap (fun y => binds.reverse.lookup y) → News g L' s.heap pre → Below (ktrTop dp un gd cn cs L a ccd cl outer) base (envX cn cs L a ccd cl :: outer) g → K.In g → Top p loose mean mg mb g →
      CodeHd base 41 37 → CodeHd base 34 30 →
      wpAny (model prog w) ((ktrTop dp un gd cn cs L a ccd cl outer).deeper (envX qual scope L' f (.ref c') clos)) (execs body (envX qual scope L' f (.ref c') clos)) (Done s g Post) (fun _ _ => False) s)
    (hco : scope.isCoroutine = false) (hgen : scope.isGenerator = false) (hk : scope.kind = .function) (hcell : ∀ x ∈ scope.names, x.2 ≠ .cell) : Spec prog w K dp un f vs pre Post := by
  intro p loose mean mg mb gd cn cs a ccd cl outer A₀ base h₀ L m rest s Q E B F X N D T C1 C2 hke ret
  refine wpAny_call ?_
  have NP := news_left N
  obtain ⟨FG, BG, st, lv⟩ := groundX (A := ktrTop dp un gd cn cs L a ccd cl outer) (R := fun r s' => match r with | .ok (.ret v) => Q v s' | .ok _ => False | .error _ => False) B F NP rfl rfl hke
  refine codeAny_call_def (fd := fnX name qual params body scope clos .none .none doc pm none (.ref c') ctv) (body := body) (binds := binds) hroom (NP _ ho).1 rfl (T.nolimit.keeps F.keep) (codeRec_news NP hc hcd hcv) rfl (hbind s) hcell hloc (fun h₁ hns hk₁ => ?_) hco hgen hk
  refine wpAny_mono (hb p loose mean mg mb gd cn cs a ccd cl outer base (hideAll s.heap (pre.map fun (q : Addr × Obj) => q.1)) L s.heap.objs.size { s with heap := h₁, toks := s.toks + binds.length } hke
    ⟨hns, fun b o e => hk₁ b o (of_hideAll _ e), Nat.le_of_eq (hideAll_size _ _)⟩
    (fun p hp => ⟨hk₁ _ _ (NP p hp).1, Nat.ne_of_lt (Heap.lt_size (NP p hp).1), hideAll_none _ (List.mem_map_of_mem hp)⟩) BG (X.keeps st) (T.keeps st) C1 C2) (fun fl s' hl => ?_) (fun _ _ y => y.elim)
  obtain ⟨L', m', post, F', N', hp, h', tk', rfl⟩ := hl
  exact back (Post := Post) (s := s) N D lv ret rfl ⟨L', m', post, F', N', hp, h', tk', rfl⟩

/-- a def of the top, some of whose names are cells -/
theorem Spec.cells (ho : K.lookup f = some ⟨oc, od, .func (fnOf name qual params body scope dV kV doc pm an cdv ct), osl⟩) (hcd : codeIn K cdv qual = true) (hroom : dp < recursionLimit)
    (hbind : ∀ s, BindsTo s (fnOf name qual params body scope dV kV doc pm an cdv ct) ⟨vs, []⟩ binds) (hkind : (binds.all fun y => scope.names.lookup y.1 == some .local || scope.names.lookup y.1 == some .cell) = true) (hnd : ((cellsFrom 0 scope.names []).map (·.1)).Nodup)
    (hb : ∀ (p : Program) (loose : List Str) (mean : ExcName → Option Value) (mg mb : Str → Option Value) (gd : Option (List Code)) (cn : Str) (cs : Scope) (a : Addr) (ccd : Value) (cl : List (Str × Addr)) (outer : List Env)
      (base g : Heap) (L L' : Addr) (s : Shared) (cells : List (Addr × Obj)), cs.kind = .function → Fr g L' s.heap (bindL (envOfC qual scope L' f cdv).kindOf binds fun _ => none) → News g L' s.heap (cells ++ pre) →
      CellsAre (bindC (envOfC qual scope L' f cdv).kindOf binds fun _ => none) (cellsFrom (L' + 1) scope.names []) cells → (∀ p ∈ pre, p.1 < L') →
      Below (ktrTop dp un gd cn cs L a ccd cl outer) base (envX cn cs L a ccd cl :: outer) g → K.In g → Top p loose mean mg mb g →
      CodeHd base 41 37 → CodeHd base 34 30 →
      wpAny (model prog w) ((ktrTop dp un gd cn cs L a ccd cl outer).deeper (envOfC qual scope L' f cdv)) (execs body (envOfC qual scope L' f cdv)) (Done s g Post) (fun _ _ => False) s)
    (hco : scope.isCoroutine = false) (hgen : scope.isGenerator = false) (hk : scope.kind = .function) : Spec prog w K dp un f vs pre Post := by
  intro p loose mean mg mb gd cn cs a ccd cl outer A₀ base h₀ L m rest s Q E B F X N D T C1 C2 hke ret
  refine wpAny_call ?_
  have NP := news_left N
  obtain ⟨FG, BG, st, lv⟩ := groundX (A := ktrTop dp un gd cn cs L a ccd cl outer) (R := fun r s' => match r with | .ok (.ret v) => Q v s' | .ok _ => False | .error _ => False) B F NP rfl rfl hke
  refine codeAny_call_function hroom ((X.keeps F.keep) _ _ ho) rfl hco hgen rfl (codeRec_of (X.keeps F.keep) hcd) (hbind s _ _ _ _ ?_)
  refine wpAny_newFunctionEnv_cells hk (kindsX hkind _) fun env' he s' x => ?_
  subst he
  refine ⟨(T.nolimit.keeps F.keep).keeps x.toInCall.keep, codeAny_func ?_⟩
  obtain ⟨h₁, tk, rfl, _⟩ := x.done
  have hk₁ := x.toInCall.keep
  obtain ⟨cells, NC, Y⟩ := Cl.news (h₀ := s.heap) (Nat.le_refl _) fun n c hm => ⟨x.cell n c (lookup_of_mem_nodup (cellsFrom_names scope.names 0 (s.heap.objs.size + 1) [] [] rfl ▸ hnd) hm), x.above n c hm⟩
  refine wpAny_mono (hb p loose mean mg mb gd cn cs a ccd cl outer base (hideAll s.heap (pre.map fun (q : Addr × Obj) => q.1)) L s.heap.objs.size { s with heap := h₁, toks := tk } cells hke
    ⟨x.toInCall.ns, fun b o e => hk₁ b o (of_hideAll _ e), Nat.le_of_eq (hideAll_size _ _)⟩ (fun p hp => ?_) Y (fun p hp => Heap.lt_size (NP p hp).1) BG (X.keeps st) (T.keeps st) C1 C2) (fun fl s' hl => ?_) (fun _ _ y => y.elim)
  · rcases List.mem_append.mp hp with hp | hp
    · refine ⟨(NC p hp).1, (NC p hp).2.1, ?_⟩
      cases q : (hideAll s.heap (pre.map fun (q : Addr × Obj) => q.1)).get? p.1 with
      | none => rfl
      | some o => have := of_hideAll _ q; rw [(NC p hp).2.2] at this; cases this
    · exact ⟨hk₁ _ _ (NP p hp).1, Nat.ne_of_lt (Heap.lt_size (NP p hp).1), hideAll_none _ (List.mem_map_of_mem hp)⟩
  · obtain ⟨L', m', post, F', N', hp, h', tk', rfl⟩ := hl
    exact back (Post := Post) (s := s) N D lv ret rfl ⟨L', m', post, F', N', hp, h', tk', rfl⟩
end

section
variable {prog : Program} {w : World} {A : Around} {E : Value → Shared → Prop} {s : Shared} {env : Env}

/-- a statement and what stands behind it, by what holds between the two -/
theorem execs_join {st : Stmt} {rest : List Stmt} {Q : Flow → Shared → Prop} (P : Shared → Prop) (h1 : wpAny (model prog w) A (exec st env) (fun f s' => f = .next ∧ P s') E s)
    (h2 : ∀ s', P s' → wpAny (model prog w) A (execs rest env) Q E s') : wpAny (model prog w) A (execs (st :: rest) env) Q E s := by
  refine wpAny_execs_cons (wpAny_mono h1 (fun f s' h => ?_) fun _ _ x => x)
  obtain ⟨rfl, h⟩ := h
  exact h2 _ h

/-- a def statement's parts, for what is to be said of them -/
theorem with_def {nm b : Str} {ps : Arguments} {bd : List Stmt} {ds : List PySem.Expr} {rt : Option PySem.Expr} {tps : List TypeParam} {sc : Scope} {tsc : Option Scope} {pos : Pos} {rest : List Stmt} {Q : Flow → Shared → Prop} (I : Str → Arguments → List Stmt → Scope → Prop) (h1 : I nm ps bd sc)
    (h2 : I nm ps bd sc → wpAny (model prog w) A (execs (.FunctionDef nm ps bd ds rt tps sc tsc b pos :: rest) env) Q E s) : wpAny (model prog w) A (execs (.FunctionDef nm ps bd ds rt tps sc tsc b pos :: rest) env) Q E s := h2 h1

/-- the statements of a def of the top -/
noncomputable def stmtsOf (K : Frag) (f : Addr) : List Stmt := match K.lookup f with
  | some ⟨_, _, .func fd, _⟩ => (match fd.body with | .stmts b => b | _ => [])
  | _ => []
theorem stmtsOf_is {K : Frag} {f : Addr} {name qual : Str} {params : Arguments} {body : List Stmt} {scope : Scope} {dV kV doc pm cdv ct oc : Value} {an od : Option Addr} {osl : Array (Option Value)}
    (ho : K.lookup f = some ⟨oc, od, .func (fnOf name qual params body scope dV kV doc pm an cdv ct), osl⟩) : stmtsOf K f = body := by
  unfold stmtsOf; rw [ho]
/-- what is said of the first def among the first two statements -/
noncomputable def AtDef (I : Str → Arguments → List Stmt → Scope → Prop) : List Stmt → Prop
  | .FunctionDef nm ps bd _ _ _ sc _ _ _ :: _ => I nm ps bd sc
  | _ :: .FunctionDef nm ps bd _ _ _ sc _ _ _ :: _ => I nm ps bd sc
  | _ => False

/-- what a turn must leave -/
noncomputable def TurnPost (I : Nat → Shared → Prop) (n : Nat) (Q : Flow → Shared → Prop) (f : Flow) (s' : Shared) : Prop := match f with
  | .next => ∃ n', n' < n ∧ I n' s'
  | .cont => ∃ n', n' < n ∧ I n' s'
  | .brk => Q .next s'
  | .ret v => Q (.ret v) s'

/-- a while by what holds at each turn's head, and a number that falls -/
theorem while_rule {test : PySem.Expr} {body orelse : List Stmt} {Q : Flow → Shared → Prop} {pos : Pos} (I : Nat → Shared → Prop) (hE : PassesOwn (model prog w) A env E)
    (step : ∀ n s, I n s → wpAny (model prog w) A (isTrue test env (eval test env)) (fun b s₂ => WhlIf b (wpAny (model prog w) A (execs body env) (TurnPost I n Q) E s₂) (wpAny (model prog w) A (execs orelse env) Q E s₂)) E s) {n : Nat} (h0 : I n s) :
    wpAny (model prog w) A (exec (.While test body orelse pos) env) Q E s := by
  refine whl_start 0 ?_
  have key : ∀ n s, I n s → WhlRest prog w A E env test body orelse Q 0 s := by
    intro n
    induction n using Nat.strongRecOn with
    | ind n ih =>
      intro s hs
      refine whl_turn (k := 0) hE (wpAny_mono (step n s hs) (fun b s₂ hb => ?_) fun _ _ x => x)
      cases b with
      | false => exact WhlIf.no rfl (by unfold WhlIf at hb; rw [if_neg Bool.false_ne_true] at hb; exact hb)
      | true =>
        refine WhlIf.yes rfl ?_
        have hb' : wpAny (model prog w) A (execs body env) (TurnPost I n Q) E s₂ := by
          unfold WhlIf at hb
          rw [if_pos rfl] at hb
          exact hb
        refine wpAny_mono hb' (fun f s' hf => ?_) fun _ _ x => x
        cases f with
        | next => obtain ⟨n', hn, hi⟩ := hf; exact ih n' hn s' hi
        | cont => obtain ⟨n', hn, hi⟩ := hf; exact ih n' hn s' hi
        | brk => exact hf
        | ret v => exact hf
  exact key n s h0
end

/-- two frames' maps that agree on the named keys and off them -/
noncomputable def AgreeOn (m m' : Str → Option Value) : List Str → Prop
  | [] => True
  | k :: r => m k = m' k ∧ AgreeOn m m' r
noncomputable def OffAll (y : Str) : List Str → Prop
  | [] => True
  | k :: r => y ≠ k ∧ OffAll y r
theorem map_ext (ks : List Str) {m m' : Str → Option Value} (h1 : AgreeOn m m' ks) (h2 : ∀ y, OffAll y ks → m y = m' y) : m = m' := by
  funext y
  induction ks with
  | nil => exact h2 y trivial
  | cons k r ih =>
    by_cases e : y = k
    · subst e; exact h1.1
    · have key : ∀ ks : List Str, AgreeOn m m' ks → m y = m' y ∨ OffAll y ks := by
        intro ks
        induction ks with
        | nil => intro _; exact .inr trivial
        | cons k r ih =>
          intro h
          by_cases e : y = k
          · subst e; exact .inl h.1
          · exact (ih h.2).imp id fun o => ⟨e, o⟩
      rcases key (k :: r) h1 with h | h
      · exact h
      · exact h2 y h

theorem Fr.congr {h₀ h : Heap} {L : Addr} {m m' : Str → Option Value} (F : Fr h₀ L h m) (e : m = m') : Fr h₀ L h m' := e ▸ F
end Mine

namespace Mine
section
variable {prog : Program} {w : World} {A : Around} {E : Value → Shared → Prop} {s : Shared} {env : Env} {h₀ : Heap} {x : Str} {body : List Stmt} {Q : Flow → Shared → Prop}

theorem UnrPost.mono {L I : Addr} {s₁ : Shared} {it : Obj} {rest rest' : (Str → Option Value) → List (Addr × Obj) → Prop} (hr : ∀ m n, rest m n → rest' m n) {f : Flow} {s₂ : Shared} (h : UnrPost h₀ L s₁ I it rest Q f s₂) : UnrPost h₀ L s₁ I it rest' Q f s₂ := by
  have key : UnrEnd h₀ L s₁ I it rest s₂ → UnrEnd h₀ L s₁ I it rest' s₂ := fun ⟨h', tk, m', n', a, b, c, d, e⟩ => ⟨h', tk, m', n', a, b, c, d, hr _ _ e⟩
  cases f with
  | ret v => exact h
  | brk => exact h
  | next => exact key h
  | cont => exact key h

/-- a loop over a list from behind, by what holds at each turn's head -/
theorem rev_inv {I : Addr} {lp : Addr × Obj} (Inv : List Value → (Str → Option Value) → List (Addr × Obj) → Prop)
    (step : ∀ v r m news, Inv (v :: r) m news → ∀ (it : Obj) h tk, it.cls = .type "list_reverseiterator" → Fr h₀ env.locals h (fun y => if y = x then some v else m y) → News h₀ env.locals h ((I, it) :: news) →
      wpAny (model prog w) A (execs body env) (UnrPost h₀ env.locals { s with heap := h, toks := tk } I it (fun m' n' => lp ∈ n' ∧ Inv r m' n') Q) E { s with heap := h, toks := tk })
    (done : ∀ m news h tk, Inv [] m news → Fr h₀ env.locals h m → News h₀ env.locals h news → Q .next { s with heap := h, toks := tk }) :
    ∀ (vs : List Value) (m : Str → Option Value) (news : List (Addr × Obj)), Inv vs m news → RevRest prog w A E h₀ env x body Q s I lp vs m news
  | [], m, news, h => fun hp tk F N => done m news hp tk h F N
  | v :: r, m, news, h => fun it hp tk hc F N => wpAny_mono (step v r m news h it hp tk hc F N) (fun _ _ p => UnrPost.mono (fun m' n' q => ⟨q.1, rev_inv Inv step done r m' n' q.2⟩) p) fun _ _ e => e

/-- a loop over a range by ones, by what holds at each turn's head -/
theorem range_inv {I : Addr} {a : Int} {n : Nat} (Inv : Nat → (Str → Option Value) → List (Addr × Obj) → Prop)
    (step : ∀ i m news, i < n → Inv i m news → ∀ t h tk, Fr h₀ env.locals h (fun y => if y = x then some (.int (a + (i : Int)) t) else m y) → News h₀ env.locals h ((I, itR (a + ((i + 1 : Nat) : Int)) ((n : Int) - ((i + 1 : Nat) : Int))) :: news) →
      wpAny (model prog w) A (execs body env) (UnrPost h₀ env.locals { s with heap := h, toks := tk } I (itR (a + ((i + 1 : Nat) : Int)) ((n : Int) - ((i + 1 : Nat) : Int))) (Inv (i + 1)) Q) E { s with heap := h, toks := tk })
    (done : ∀ m news h tk, Inv n m news → Fr h₀ env.locals h m → News h₀ env.locals h news → Q .next { s with heap := h, toks := tk }) :
    ∀ (k i : Nat) (m : Str → Option Value) (news : List (Addr × Obj)), i + k = n → Inv i m news → RangeRest prog w A E h₀ env x body Q s I a n k i m news
  | 0, i, m, news, e, h => fun hp tk F N => done m news hp tk (by rw [← e]; exact h) F N
  | k + 1, i, m, news, e, h => fun t hp tk F N => wpAny_mono (step i m news (by omega) h t hp tk F N) (fun _ _ p => UnrPost.mono (fun m' n' q => range_inv Inv step done k (i + 1) m' n' (by omega) q) p) fun _ _ e => e
end
/-- a frame's map, read by some of its keys -/
theorem canon1 {m : Str → Option Value} {k1 : Str} {v1 : Option Value} (h1 : m k1 = v1) : m = fun y => if y = k1 then v1 else m y := by
  funext y
  by_cases e1 : y = k1
  · subst e1; simp only [if_true]; exact h1
  simp only [if_neg e1]
theorem canon2 {m : Str → Option Value} {k1 k2 : Str} {v1 v2 : Option Value} (h1 : m k1 = v1) (h2 : m k2 = v2) : m = fun y => if y = k1 then v1 else if y = k2 then v2 else m y := by
  funext y
  by_cases e1 : y = k1
  · subst e1; simp only [if_true]; exact h1
  by_cases e2 : y = k2
  · subst e2; simp only [if_neg e1, if_true]; exact h2
  simp only [if_neg e1, if_neg e2]
theorem canon3 {m : Str → Option Value} {k1 k2 k3 : Str} {v1 v2 v3 : Option Value} (h1 : m k1 = v1) (h2 : m k2 = v2) (h3 : m k3 = v3) : m = fun y => if y = k1 then v1 else if y = k2 then v2 else if y = k3 then v3 else m y := by
  funext y
  by_cases e1 : y = k1
  · subst e1; simp only [if_true]; exact h1
  by_cases e2 : y = k2
  · subst e2; simp only [if_neg e1, if_true]; exact h2
  by_cases e3 : y = k3
  · subst e3; simp only [if_neg e1, if_neg e2, if_true]; exact h3
  simp only [if_neg e1, if_neg e2, if_neg e3]
theorem canon4 {m : Str → Option Value} {k1 k2 k3 k4 : Str} {v1 v2 v3 v4 : Option Value} (h1 : m k1 = v1) (h2 : m k2 = v2) (h3 : m k3 = v3) (h4 : m k4 = v4) : m = fun y => if y = k1 then v1 else if y = k2 then v2 else if y = k3 then v3 else if y = k4 then v4 else m y := by
  funext y
  by_cases e1 : y = k1
  · subst e1; simp only [if_true]; exact h1
  by_cases e2 : y = k2
  · subst e2; simp only [if_neg e1, if_true]; exact h2
  by_cases e3 : y = k3
  · subst e3; simp only [if_neg e1, if_neg e2, if_true]; exact h3
  by_cases e4 : y = k4
  · subst e4; simp only [if_neg e1, if_neg e2, if_neg e3, if_true]; exact h4
  simp only [if_neg e1, if_neg e2, if_neg e3, if_neg e4]
theorem canon6 {m : Str → Option Value} {k1 k2 k3 k4 k5 k6 : Str} {v1 v2 v3 v4 v5 v6 : Option Value} (h1 : m k1 = v1) (h2 : m k2 = v2) (h3 : m k3 = v3) (h4 : m k4 = v4) (h5 : m k5 = v5) (h6 : m k6 = v6) : m = fun y => if y = k1 then v1 else if y = k2 then v2 else if y = k3 then v3 else if y = k4 then v4 else if y = k5 then v5 else if y = k6 then v6 else m y := by
  funext y
  by_cases e1 : y = k1
  · subst e1; simp only [if_true]; exact h1
  by_cases e2 : y = k2
  · subst e2; simp only [if_neg e1, if_true]; exact h2
  by_cases e3 : y = k3
  · subst e3; simp only [if_neg e1, if_neg e2, if_true]; exact h3
  by_cases e4 : y = k4
  · subst e4; simp only [if_neg e1, if_neg e2, if_neg e3, if_true]; exact h4
  by_cases e5 : y = k5
  · subst e5; simp only [if_neg e1, if_neg e2, if_neg e3, if_neg e4, if_true]; exact h5
  by_cases e6 : y = k6
  · subst e6; simp only [if_neg e1, if_neg e2, if_neg e3, if_neg e4, if_neg e5, if_true]; exact h6
  simp only [if_neg e1, if_neg e2, if_neg e3, if_neg e4, if_neg e5, if_neg e6]
end Mine
namespace Mine
theorem SubL_of : ∀ {l all : List (Addr × Obj)}, (∀ p ∈ l, p ∈ all) → SubL l all
  | [], _, _ => trivial
  | p :: _, _, h => ⟨h p (List.mem_cons_self ..), SubL_of fun q hq => h q (List.mem_cons_of_mem _ hq)⟩
theorem SubL_self (l : List (Addr × Obj)) : SubL (l ++ []) l := SubL_of fun p hp => by rwa [List.append_nil] at hp
theorem ApartL_nil : ∀ l : List (Addr × Obj), ApartL l []
  | [] => trivial
  | _ :: r => ⟨trivial, ApartL_nil r⟩
end Mine

namespace Mine
theorem range_size (a b : Int) : Builtin.Range.rangeSize a b 1 = (((b - a).toNat : Nat) : Int) := by
  unfold Builtin.Range.rangeSize
  rw [if_pos (by decide)]
  split
  · rw [Int.ediv_one]; omega
  · omega
theorem range_small {a b : Int} (h1 : -1000000 ≤ a) (h2 : a ≤ 1000000) (h3 : -1000000 ≤ b) (h4 : b ≤ 1000000) : Builtin.Range.small a b 1 = true := by
  unfold Builtin.Range.small
  rw [range_size]
  simp only [Builtin.Range.rangeFitsLong, Bool.and_eq_true, Bool.or_eq_true, decide_eq_true_eq, beq_iff_eq]
  refine ⟨⟨⟨⟨⟨by omega, by omega⟩, ⟨by omega, by omega⟩⟩, ⟨by omega, by omega⟩⟩, ⟨by omega, by omega⟩⟩, .inr ?_⟩
  rw [if_pos (by decide)]
  simp only [Builtin.Range.rangeFitsLong, Bool.and_eq_true, decide_eq_true_eq]
  exact ⟨by omega, by omega⟩

section
variable {prog : Program} {w : World} {A : Around} {s : Shared} {h₀ : Heap} {L : Addr} {m : Str → Option Value} {env : Env} {elt : PySem.Expr} {x : Str} {scope : Scope} {cl : List (Str × Addr)} {S : List (Addr × Obj) → Prop} {P : Nat → Value → Prop} {Fin : List Value → List (Addr × Obj) → Prop}

/-- a list comprehension, by what holds of the items made so far; the ledger stays -/
theorem comp_inv {n : Nat} {news : List (Addr × Obj)} (Inv : Nat → List Value → Prop) (hS : S news)
    (step : ∀ i ys, i < n → Inv i ys → ∀ v I oI C oC D m₂ h tk (E' : Value → Shared → Prop), P i v → LCg.NsObj oC m₂ → m₂ x = some v → Fr h₀ L h m → News h₀ L h ((I, oI) :: (C, oC) :: (D, LCg.lst ys) :: news) → LCg.Off3 I C D news → ((@Ne Nat I C) ∧ (@Ne Nat I D) ∧ (@Ne Nat C D)) →
      wpAny (model prog w) A (eval elt (compEnvC scope cl C env)) (fun y s₂ => ∃ h' tk', s₂ = { s with heap := h', toks := tk' } ∧ Fr h₀ L h' m ∧ News h₀ L h' ((I, oI) :: (C, oC) :: (D, LCg.lst ys) :: news) ∧ Inv (i + 1) (ys ++ [y])) E' { s with heap := h, toks := tk })
    (done : ∀ ys, Inv n ys → Fin ys news) : ∀ (k i : Nat) (ys : List Value), i + k = n → Inv i ys → LCg.CompRest prog w A h₀ L m env elt x scope cl s S P Fin k i ys news
  | 0, i, ys, e, h => done ys (by rw [← e]; exact h)
  | k + 1, i, ys, e, h => fun v I oI C oC D m₂ hp tk E' hv hC hx F N off ne =>
    wpAny_mono (step i ys (by omega) h v I oI C oC D m₂ hp tk E' hv hC hx F N off ne) (fun y s₂ ⟨h', tk', e2, F', N', hi⟩ => ⟨h', tk', news, e2, F', N', off, hS, comp_inv Inv hS step done k (i + 1) _ (by omega) hi⟩) fun _ _ e => e
end

section
variable {prog : Program} {w : World} {A : Around} {E : Value → Shared → Prop} {s : Shared} {env : Env} {h₀ : Heap} {x : Str} {body : List Stmt} {Q : Flow → Shared → Prop}
/-- a loop over a list, by what holds at each turn's head -/
theorem list_inv {I : Addr} {lp : Addr × Obj} (Inv : List Value → (Str → Option Value) → List (Addr × Obj) → Prop)
    (step : ∀ v r m news, Inv (v :: r) m news → ∀ (it : Obj) h tk, it.cls = .type "list_iterator" → Fr h₀ env.locals h (fun y => if y = x then some v else m y) → News h₀ env.locals h ((I, it) :: news) →
      wpAny (model prog w) A (execs body env) (UnrPost h₀ env.locals { s with heap := h, toks := tk } I it (fun m' n' => lp ∈ n' ∧ Inv r m' n') Q) E { s with heap := h, toks := tk })
    (done : ∀ m news h tk, Inv [] m news → Fr h₀ env.locals h m → News h₀ env.locals h news → Q .next { s with heap := h, toks := tk }) :
    ∀ (vs : List Value) (m : Str → Option Value) (news : List (Addr × Obj)), Inv vs m news → ListRest prog w A E h₀ env x body Q s I lp vs m news
  | [], m, news, h => fun hp tk F N => done m news hp tk h F N
  | v :: r, m, news, h => fun it hp tk hc F N => wpAny_mono (step v r m news h it hp tk hc F N) (fun _ _ p => UnrPost.mono (fun m' n' q => ⟨q.1, list_inv Inv step done r m' n' q.2⟩) p) fun _ _ e => e
end
end Mine

namespace Mine
theorem fills_list_add : fillsNumberSlot (.type "list") "add" = pure false :=
  PySem.fillsNumberSlot_seq (T := "list") (nm := "add") (id := "list.__add__") (r := none) F.slot_list_add.lookup (by decide +kernel) (by rw [typeLookup_type, builtinLookup_eq_fast]; kernel_rfl) (by decide)
theorem seq_list_iadd : seqSlot? (.type "list") (dunderI "add") = pure (some (.builtin "list.__iadd__")) := PySem.seqSlot_of F.slot_list_iadd.lookup (by decide +kernel)
section
variable {prog : Program} {w : World} {A : Around} {E : Value → Shared → Prop} {s : Shared} {h₀ : Heap} {L : Addr} {m : Str → Option Value} {news news' : List (Addr × Obj)} {D b : Addr} {vs ws : List Value} {n n2 : Nat}

/-- a list put to a list, in place -/
theorem iadd_list {Q : Value → Shared → Prop} (Fm : Fr h₀ L s.heap m) (N : News h₀ L s.heap news) (hb : (b, listOf ws.toArray n2) ∈ news) (hne : ws.length ≠ 0)
    (U : Upd D (listOf vs.toArray n) (listOf (vs ++ ws).toArray (n + 1)) news news') (hz : vs.length + ws.length ≤ 1000)
    (h : ∀ h', Fr h₀ L h' m → News h₀ L h' news' → Q (.ref D) { s with heap := h' }) : wpAny (model prog w) A (inplaceOp .Add (.ref D) (.ref b)) Q E s := by
  obtain ⟨pre, post, rfl, rfl, a, c⟩ := U.split
  have z := N (D, listOf vs.toArray n) (List.mem_append.mpr (.inr (.head _)))
  have zb := (N _ hb).1
  have ha : s.TypeIs (.ref D) "list" := ⟨_, z.1, rfl⟩
  have hbt : s.TypeIs (.ref b) "list" := ⟨_, zb, rfl⟩
  unfold inplaceOp
  refine wpAny_holding ?_
  have hfi : fillsInplaceSlot (.type "list") "add" (Operator.Add == .Add) = pure false := by
    unfold fillsInplaceSlot
    show (typeLookup (.type "list") (dunderI "add") >>= fun fi => pure (fi.isSome && !isSeqSlot fi)) = pure false
    rw [F.slot_list_iadd.lookup]
    show (pure (true && !isSeqSlot (some (.builtin "list.__iadd__"))) : Sem Bool) = pure false
    rw [show isSeqSlot (some (.builtin "list.__iadd__")) = true by decide +kernel]
    rfl
  refine wpAny_bind (wpAny_typeOf ha (wpAny_bind (wpAny_of_eq hfi ?_)))
  show wpAny _ A (if false = true then _ else _) Q E s
  rw [if_neg Bool.false_ne_true]
  refine wpAny_bind (wpAny_binaryOp1_none (nm := "add") ha hbt fills_list_add ?_)
  refine wpAny_bind (wpAny_of_eq seq_list_iadd ?_)
  refine wpAny_bind (wpAny_rule ?_)
  refine call_meets F.slot_list_iadd ha F.entry_list_iadd (F.args_list_iadd_2 _ _) (AutoSeq1.list___iadd___list_list_0 D vs.toArray n b ws.toArray n2 ?_ ?_ ?_) ⟨z.1, zb, h _ (Fm.change (Heap.SameBut.update ..) z.2.1 z.2.2) (kl_turn _ N a c ?_ ?_)⟩
  · simp [Builtin.List.listTooLong, sizeLine]; omega
  · simp [sizeLine]; omega
  · simp [sizeLine]; omega
  · simp
  · simp only [List.size_toArray, List.length_append]; omega
end
end Mine

namespace Mine
/-- a contract that leans on a thing of the ground that stays -/
noncomputable def SpecH (prog : Program) (w : World) (K : Frag) (H : Heap → Prop) (dp un : Nat) (f : Addr) (vs : List Value) (Post : Value → List (Addr × Obj) → Prop) : Prop :=
  ∀ (p : Program) (loose : List Str) (mean : ExcName → Option Value) (mg mb : Str → Option Value) (gd : Option (List Code)) (cn : Str) (cs : Scope) (a : Addr) (ccd : Value) (cl : List (Str × Addr)) (outer : List Env)
    (A₀ : Around) (base h₀ : Heap) (L : Addr) (m : Str → Option Value) (rest : List (Addr × Obj)) (s : Shared) (Q E : Value → Shared → Prop),
    Below A₀ base outer h₀ → Fr h₀ L s.heap m → K.In h₀ → News h₀ L s.heap rest → H h₀ → Top p loose mean mg mb h₀ → CodeHd base 41 37 → CodeHd base 34 30 → cs.kind = .function →
    (∀ r post h' tk', Fr h₀ L h' m → News h₀ L h' (post ++ rest) → ApartL post rest → Post r post → Q r { s with heap := h', toks := tk' }) →
    wpAny (model prog w) (ktrTop dp un gd cn cs L a ccd cl outer) (call (.ref f) vs) Q E s
section
variable {prog : Program} {w : World} {K : Frag} {H : Heap → Prop} {dp un : Nat} {f : Addr} {vs : List Value} {Post : Value → List (Addr × Obj) → Prop}
  {name qual : Str} {params : Arguments} {body : List Stmt} {scope : Scope} {dV kV doc pm cdv ct oc : Value} {an od : Option Addr} {osl : Array (Option Value)} {binds : List (Str × Value)}

theorem SpecH.mono {dp' un' : Nat} (h : SpecH prog w K H dp' un' f vs Post) (h1 : dp ≤ dp') (h2 : un ≤ un') : SpecH prog w K H dp un f vs Post := by
  intro p loose mean mg mb gd cn cs a ccd cl outer A₀ base h₀ L m rest s Q E B F X N D T C1 C2 hk ret
  exact wp_room (A' := ktrTop dp' un' gd cn cs L a ccd cl outer) rfl h1 rfl rfl h2 (h p loose mean mg mb gd cn cs a ccd cl outer A₀ base h₀ L m rest s Q E B F X N D T C1 C2 hk ret)

theorem SpecH.use {dp' un' : Nat} {p : Program} {loose : List Str} {mean : ExcName → Option Value} {mg mb : Str → Option Value} {gd : Option (List Code)} {cn : Str} {cs : Scope} {a : Addr} {ccd : Value} {cl : List (Str × Addr)} {outer : List Env}
    {A₀ : Around} {base h₀ : Heap} {L : Addr} {m : Str → Option Value} {rest : List (Addr × Obj)} {s : Shared} {Q E : Value → Shared → Prop} (h : SpecH prog w K H dp un f vs Post)
    (B : Below A₀ base outer h₀) (F : Fr h₀ L s.heap m) (X : K.In h₀) (N : News h₀ L s.heap rest) (hH : H h₀) (T : Top p loose mean mg mb h₀) (C1 : CodeHd base 41 37) (C2 : CodeHd base 34 30) (hk : cs.kind = .function) (h1 : dp' ≤ dp) (h2 : un' ≤ un)
    (ret : ∀ r post h' tk', Fr h₀ L h' m → News h₀ L h' (post ++ rest) → ApartL post rest → Post r post → Q r { s with heap := h', toks := tk' }) :
    wpAny (model prog w) (ktrTop dp' un' gd cn cs L a ccd cl outer) (call (.ref f) vs) Q E s :=
  h.mono h1 h2 p loose mean mg mb gd cn cs a ccd cl outer A₀ base h₀ L m rest s Q E B F X N hH T C1 C2 hk ret

theorem SpecH.plain (hH : ∀ h h' : Heap, (∀ b o, h.get? b = some o → h'.get? b = some o) → H h → H h')
    (ho : K.lookup f = some ⟨oc, od, .func (fnOf name qual params body scope dV kV doc pm an cdv ct), osl⟩) (hcd : codeIn K cdv qual = true) (hroom : dp < recursionLimit)
    (hbind : ∀ s, BindsTo s (fnOf name qual params body scope dV kV doc pm an cdv ct) ⟨vs, []⟩ binds) (hloc : ∀ y ∈ binds, scope.names.lookup y.1 = some .local)
    (hb : ∀ (p : Program) (loose : List Str) (mean : ExcName → Option Value) (mg mb : Str → Option Value) (gd : Option (List Code)) (cn : Str) (cs : Scope) (a : Addr) (ccd : Value) (cl : List (Str × Addr)) (outer : List Env)
      (base g : Heap) (L L' : Addr) (s : Shared), cs.kind = .function → Fr g L' s.heap (fun y => binds.reverse.lookup y) → News g L' s.heap [] → Below (ktrTop dp un gd cn cs L a ccd cl outer) base (envX cn cs L a ccd cl :: outer) g → K.In g → H g → Top p loose mean mg mb g →
      CodeHd base 41 37 → CodeHd base 34 30 →
      wpAny (model prog w) ((ktrTop dp un gd cn cs L a ccd cl outer).deeper (envOf qual scope L' f cdv)) (execs body (envOf qual scope L' f cdv)) (Done s g Post) (fun _ _ => False) s)
    (hco : scope.isCoroutine = false) (hgen : scope.isGenerator = false) (hk : scope.kind = .function) (hcell : ∀ x ∈ scope.names, x.2 ≠ .cell) : SpecH prog w K H dp un f vs Post := by
  intro p loose mean mg mb gd cn cs a ccd cl outer A₀ base h₀ L m rest s Q E B F X N D T C1 C2 hke ret
  refine wpAny_call ?_
  have NP := news_left (a := []) (b := rest) N
  obtain ⟨FG, BG, st, lv⟩ := groundX (A := ktrTop dp un gd cn cs L a ccd cl outer) (R := fun r s' => match r with | .ok (.ret v) => Q v s' | .ok _ => False | .error _ => False) B F NP rfl rfl hke
  refine codeAny_call_def (fd := fnOf name qual params body scope dV kV doc pm an cdv ct) (body := body) (binds := binds) hroom ((X.keeps F.keep) _ _ ho) rfl (T.nolimit.keeps F.keep) (codeRec_of (X.keeps F.keep) hcd) rfl (hbind s) hcell hloc (fun h₁ hns hk₁ => ?_) hco hgen hk
  refine wpAny_mono (hb p loose mean mg mb gd cn cs a ccd cl outer base (hideAll s.heap (([] : List (Addr × Obj)).map fun (q : Addr × Obj) => q.1)) L s.heap.objs.size { s with heap := h₁, toks := s.toks + binds.length } hke
    ⟨hns, fun b o e => hk₁ b o (of_hideAll _ e), Nat.le_of_eq (hideAll_size _ _)⟩
    (fun p hp => nomatch hp) BG (X.keeps st) (hH _ _ st D) (T.keeps st) C1 C2) (fun fl s' hl => ?_) (fun _ _ y => y.elim)
  obtain ⟨L', m', post, F', N', hp, h', tk', rfl⟩ := hl
  exact back (pre := []) (Post := Post) (s := s) (rest := rest) N (fun _ hq => nomatch hq) lv (fun r post h' tk' a1 a2 a3 a4 => ret r post h' tk' a1 a2 (.to a3) a4) rfl ⟨L', m', post, F', N', hp, h', tk', rfl⟩
end
end Mine
namespace Mine
theorem name_fr {h₀ hp : Heap} {L : Addr} {m : Str → Option Value} {P : Prop} (F : Fr h₀ L hp m) (k : ∀ g l, g = h₀ → l = L → P) : P := k _ _ rfl rfl
theorem name_state {α : Type} {M : Model} {A : Around} {t : Sem α} {Q : α → Shared → Prop} {E : Value → Shared → Prop} {s : Shared} (h : ∀ S, S = s → wpAny M A t Q E S) : wpAny M A t Q E s := h s rfl
end Mine
namespace Mine
section
variable {prog : Program} {w : World} {A : Around} {E : Value → Shared → Prop} {s : Shared} {env : Env} {h₀ : Heap} {x : Str} {body : List Stmt} {Q : Flow → Shared → Prop}
/-- a loop over a list of the ledger, of which only a part is kept in sight -/
theorem iter_listKeep (keep : List (Addr × Obj)) {ax : Addr} {lo : Obj} {vs : List Value} {n : Nat} {m₀ : Str → Option Value} {news : List (Addr × Obj)}
    (hh : A.handled = none) (F : Fr h₀ env.locals s.heap m₀) (N : News h₀ env.locals s.heap news) (hm : (ax, lo) ∈ news) (hc : lo.cls = .type "list") (hd : lo.data = .seq vs.toArray n) (hs : SubL keep news)
    (rest₀ : ∀ I : Addr, (∀ p ∈ (ax, lo) :: keep, p.1 < I) → ∀ lo' vs', lo' = lo → vs' = vs → ListRest prog w A E h₀ env x body Q s I (ax, lo') vs' m₀ ((ax, lo') :: keep)) :
    wpAny (model prog w) A (pyIter (.ref ax)) (fun it s₂ => LoopAtV prog w A h₀ env x body Q E it s₂) E s :=
  iter_listUnr (lo := lo) (vs := vs) hh F (N := fun p hp => by
    rcases List.mem_cons.mp hp with rfl | hp
    · exact N _ hm
    · exact N p (hs.mem p hp)) (List.mem_cons_self ..) hc hd fun I hI => rest₀ I hI lo vs rfl rfl
end
end Mine

namespace Mine
section
variable {prog : Program} {w : World} {A : Around} {E : Value → Shared → Prop} {s : Shared} {h₀ : Heap} {L : Addr} {m : Str → Option Value} {news : List (Addr × Obj)}
theorem met_all (ns : List Int) : firstMet (fun i => ns.getD i 0) ns.length = ns.foldl step_dedup [] := by
  unfold firstMet
  congr 1
  refine List.ext_getElem (by simp) fun i h1 h2 => ?_
  simp [List.getD_eq_getElem?_getD, h2]
/-- a set of a list's ints, the list wherever it stands -/
theorem set_made {l : Addr} {vs : List Value} {ns : List Int} {Q : Value → Shared → Prop} (F : Fr h₀ L s.heap m) (N : News h₀ L s.heap news) (hh : A.handled = none) (hl : s.heap.IsList l vs.toArray) (hi : IntsAre vs ns) (hb : ns.length ≤ 60)
    (h : ∀ D h' (tk : Nat) o, (∀ p ∈ news, p.1 < D) → Fr h₀ L h' m → News h₀ L h' ((D, o) :: news) → o.SetObjOf (intKind prog w) (fun k' => (ns.foldl step_dedup []).any (· == k')) (ns.foldl step_dedup []).length → (ns.foldl step_dedup []).length ≤ 60 → Q (.ref D) { s with heap := h', toks := tk }) :
    wpAny (model prog w) A (call (.type "set") [.ref l]) Q E s := by
  have hn := hi.length
  have hle := firstMet_length_le (fun i => ns.getD i 0) ns.length
  rw [met_all] at hle
  refine PySem.call_set_list (items := vs.toArray) (ns := ns) hh hl (by simpa using hi) (by unfold scanBound; simp; omega) fun h' tk hS hk => ?_
  rw [show vs.toArray.size = ns.length by rw [List.size_toArray, hn], met_all] at hS
  obtain ⟨o, ho, hso⟩ := hS.objOf
  have hL := F.ns
  obtain ⟨_, _, _, hL, _⟩ := hL
  refine h _ h' tk o (fun p hp => Heap.lt_size (N p hp).1) ⟨F.ns.at' fun o' e => hk L o' (Heap.lt_size hL) e, fun b o' e => hk b o' (Heap.lt_size (F.keep b o' e)) (F.keep b o' e), F.above⟩ (fun p hp => ?_) hso (by omega)
  cases hp with
  | head => exact ⟨ho, Nat.ne_of_gt (Heap.lt_size hL), by
      cases hq : h₀.get? s.heap.objs.size with
      | none => rfl
      | some o' => exact absurd (Heap.lt_size (F.keep _ _ hq)) (Nat.lt_irrefl _)⟩
  | tail _ hp => exact ⟨hk _ _ (Heap.lt_size (N p hp).1) (N p hp).1, (N p hp).2⟩
/-- two ways of a value that come to the same -/
theorem ite_join {α : Type} {M : Model} {c : Prop} [Decidable c] {t1 t2 : Sem α} {Q : α → Shared → Prop} (R : α → Shared → Prop) (h1 : c → wpAny M A t1 R E s) (h2 : ¬ c → wpAny M A t2 R E s) (h : ∀ v s', R v s' → Q v s') :
    if c then wpAny M A t1 Q E s else wpAny M A t2 Q E s := by
  split
  · rename_i hc; exact wpAny_mono (h1 hc) h fun _ _ x => x
  · rename_i hc; exact wpAny_mono (h2 hc) h fun _ _ x => x
end
end Mine
namespace Mine
section
variable {A : Around} {E : Value → Shared → Prop} {s : Shared} {h₀ : Heap} {L : Addr} {m : Str → Option Value} {news : List (Addr × Obj)}
/-- an int, the frame and the ledger as they were -/
noncomputable def IntKeep (s : Shared) (h₀ : Heap) (L : Addr) (m : Str → Option Value) (news : List (Addr × Obj)) (k : Int) (v : Value) (s' : Shared) : Prop := ∃ h tk t, v = .int k t ∧ s' = { s with heap := h, toks := tk } ∧ Fr h₀ L h m ∧ News h₀ L h news
theorem ite_int {M : Model} {c : Prop} [Decidable c] {t1 t2 : Sem Value} {Q : Value → Shared → Prop} (k : Int) (F : Fr h₀ L s.heap m) (N : News h₀ L s.heap news) (h1 : c → wpAny M A t1 (IntKeep s h₀ L m news k) E s) (h2 : ¬ c → wpAny M A t2 (IntKeep s h₀ L m news k) E s)
    (h : ∀ h' tk t, Fr h₀ L h' m → News h₀ L h' news → Q (.int k t) { s with heap := h', toks := tk }) :
    if c then wpAny M A t1 Q E s else wpAny M A t2 Q E s := ite_join _ h1 h2 fun v s' ⟨h', tk, t, e1, e2, F', N'⟩ => by subst e1 e2; exact h h' tk t F' N'
end
end Mine
namespace Mine
section
variable {prog : Program} {w : World} {A : Around} {E Q : Value → Shared → Prop} {s : Shared}
theorem powI {a : Int} {k : Nat} {t u : Tok} (ha : a.natAbs < 2 ^ 64) (hk : k ≤ 1000) (h : ∀ t' tk, Q (.int (a ^ k) t') { s with toks := tk }) : wpAny (model prog w) A (binaryOp .Pow (.int a t) (.int (k : Int) u)) Q E s :=
  pow_int_small (by omega) (by omega) ha (by rw [Int.toNat_natCast]; exact h _ _)
theorem modI {a b : Int} {t u : Tok} (hb : b ≠ 0) (h : ∀ t' tk, Q (.int (a.fmod b) t') { s with toks := tk }) : wpAny (model prog w) A (binaryOp .Mod (.int a t) (.int b u)) Q E s := mod_int' hb (h _ _)
end
end Mine
namespace Mine
section
variable {prog : Program} {w : World} {A : Around} {s : Shared} {h₀ : Heap} {L : Addr} {m : Str → Option Value} {env : Env} {ct elt : PySem.Expr} {x : Str} {scope : Scope} {cl : List (Str × Addr)} {S : List (Addr × Obj) → Prop} {P : Nat → Value → Prop} {Fin : List Value → List (Addr × Obj) → Prop}
end
end Mine

namespace Mine

theorem pow_pos2 (k : Nat) : (0 : Int) < 2 ^ k := Int.pow_pos (by decide)

theorem and_low (x : Int) : ∀ (k : Nat) (y : Int), 0 ≤ y → y < 2 ^ k → Builtin.bitAnd (x * 2 ^ k) y = 0
  | 0, y, h0, h1 => by
    have : y = 0 := by have h2 : y < 1 := by simpa using h1
                       omega
    subst this
    have := bitAnd_range (x * 2 ^ 0) (Int.le_refl 0)
    omega
  | k + 1, y, h0, h1 => by
    have e : x * 2 ^ (k + 1) = 2 * (x * 2 ^ k) := by rw [Int.pow_succ]; simp [Int.mul_comm, Int.mul_left_comm]
    rw [kbt_halves, e]
    have e1 : 2 * (x * 2 ^ k) / 2 = x * 2 ^ k := by omega
    have e2 : (2 * (x * 2 ^ k)) % 2 = 0 := by omega
    rw [e1, and_low x k (y / 2) (by omega) (by rw [Int.pow_succ] at h1; omega), e2]
    simp

theorem or_add (x y : Int) : Builtin.bitOr x y = x + y - Builtin.bitAnd x y := by
  have h := bitXor_and x y
  unfold Builtin.bitXor at h
  omega

theorem or_low (x : Int) (k : Nat) (y : Int) (h0 : 0 ≤ y) (h1 : y < 2 ^ k) : Builtin.bitOr (x * 2 ^ k) y = x * 2 ^ k + y := by
  rw [or_add, and_low x k y h0 h1]; omega

theorem and_self' (x : Int) : Builtin.bitAnd x x = x := by
  have h := bitXor_self x
  have h2 := bitXor_and x x
  omega

theorem and_high (u : Int) : ∀ (k : Nat) (r : Int), 0 ≤ r → r < 2 ^ k → Builtin.bitAnd (u * 2 ^ k + r) (u * 2 ^ k) = u * 2 ^ k
  | 0, r, h0, h1 => by
    have : r = 0 := by have h2 : r < 1 := by simpa using h1
                       omega
    subst this
    simp [and_self']
  | k + 1, r, h0, h1 => by
    have e : u * 2 ^ (k + 1) = 2 * (u * 2 ^ k) := by rw [Int.pow_succ]; simp [Int.mul_comm, Int.mul_left_comm]
    rw [kbt_halves, e]
    have e1 : 2 * (u * 2 ^ k) / 2 = u * 2 ^ k := by omega
    have e2 : (2 * (u * 2 ^ k)) % 2 = 0 := by omega
    have e3 : (2 * (u * 2 ^ k) + r) / 2 = u * 2 ^ k + r / 2 := by omega
    rw [e1, e3, and_high u k (r / 2) (by omega) (by rw [Int.pow_succ] at h1; omega), e2]
    simp

theorem xor_high (x : Int) (k : Nat) : Builtin.bitXor x (x / 2 ^ k * 2 ^ k) = x % 2 ^ k := by
  have hp := pow_pos2 k
  have e : x = x / 2 ^ k * 2 ^ k + x % 2 ^ k := by rw [Int.mul_comm]; exact (Int.mul_ediv_add_emod x (2 ^ k)).symm
  have h := and_high (x / 2 ^ k) k (x % 2 ^ k) (Int.emod_nonneg _ (by omega)) (Int.emod_lt_of_pos _ hp)
  rw [← e] at h
  rw [bitXor_and, h]
  omega

/-- quotient and rest are told by their equation -/
theorem fdivmod_of {A b q r : Int} (h : q * b + r = A) (h0 : 0 ≤ r) (h1 : r < b) : A.fdiv b = q ∧ A.fmod b = r := by
  have hb : 0 ≤ b := by omega
  have hb' : b ≠ 0 := by omega
  rw [Int.fdiv_eq_ediv_of_nonneg _ hb, Int.fmod_eq_emod_of_nonneg _ hb, ← h]
  constructor
  · rw [Int.add_comm, Int.add_mul_ediv_right _ _ hb', Int.ediv_eq_zero_of_lt h0 h1]; omega
  · rw [Int.add_comm, Int.add_mul_emod_self_right, Int.emod_eq_of_lt h0 h1]

theorem divmod_of {A b q r : Int} (h : q * b + r = A) (h0 : 0 ≤ r) (h1 : r < b) : A / b = q ∧ A % b = r := by
  have hb : 0 ≤ b := by omega
  rw [← Int.fdiv_eq_ediv_of_nonneg _ hb, ← Int.fmod_eq_emod_of_nonneg _ hb]
  exact fdivmod_of h h0 h1

theorem div2_math {a b p : Int} (hp : 0 < p) (hb : 0 < b) :
    a / p / b * p + (a / p % b * p + a % p) / b = a / b ∧ (a / p % b * p + a % p) % b = a % b ∧ 0 ≤ (a / p % b * p + a % p) / b ∧ (a / p % b * p + a % p) / b < p := by
  have e1 := Int.mul_ediv_add_emod a p
  have e2 := Int.mul_ediv_add_emod (a / p) b
  have r0 := Int.emod_nonneg (a / p) (by omega : b ≠ 0)
  have r1 := Int.emod_lt_of_pos (a / p) hb
  have s0 := Int.emod_nonneg a (by omega : p ≠ 0)
  have s1 := Int.emod_lt_of_pos a hp
  generalize hq : a / p / b = q at *
  generalize hr : a / p % b = r at *
  generalize hx : a % p = x at *
  have e3 : a = (r * p + x) + q * p * b := by
    rw [← e1, ← e2, Int.mul_add, Int.mul_comm p r]
    have : p * (b * q) = q * p * b := by rw [Int.mul_comm b q, ← Int.mul_assoc, Int.mul_comm p q]
    omega
  have m0 : 0 ≤ r * p := Int.mul_nonneg r0 (by omega)
  have m1 : r * p + p ≤ b * p := by
    have : (r + 1) * p ≤ b * p := Int.mul_le_mul_of_nonneg_right (by omega) (by omega)
    rw [Int.add_mul] at this; omega
  refine ⟨?_, ?_, Int.ediv_nonneg (by omega) (by omega), Int.ediv_lt_of_lt_mul hb (by have : p * b = b * p := Int.mul_comm _ _; omega)⟩
  · rw [e3, Int.add_mul_ediv_right _ _ (by omega)]; omega
  · rw [e3, Int.add_mul_emod_self_right]

theorem div2_parts {a : Int} (k : Nat) : a / 2 ^ (2 * k) * 2 ^ k + a / 2 ^ k % 2 ^ k = a / 2 ^ k := by
  have : a / 2 ^ (2 * k) = a / 2 ^ k / 2 ^ k := by
    rw [Int.ediv_ediv_of_nonneg (Int.le_of_lt (pow_pos2 k)), ← Int.pow_add]; congr 2; omega
  rw [this, Int.mul_comm]
  exact Int.mul_ediv_add_emod _ _

theorem bits_le {x : Int} {k : Nat} (h0 : 0 ≤ x) (h : x < 2 ^ k) : Builtin.Int.intBits x ≤ k := by
  unfold Builtin.Int.intBits
  split
  · omega
  · rename_i hx
    have hx' : x ≠ 0 := by simpa using hx
    have h2 : x.natAbs < 2 ^ k := by
      have : ((2 ^ k : Nat) : Int) = (2 : Int) ^ k := by simp
      omega
    have := (Nat.log2_lt (by omega)).mpr h2
    omega
theorem bits_lt {x : Int} (h0 : 0 ≤ x) : x < 2 ^ Builtin.Int.intBits x := by
  unfold Builtin.Int.intBits
  split
  · rename_i hx
    have : x = 0 := by simpa using hx
    subst this; decide
  · rename_i hx
    have hx' : x ≠ 0 := by simpa using hx
    have h2 := Nat.lt_log2_self (n := x.natAbs)
    have : ((2 ^ (x.natAbs.log2 + 1) : Nat) : Int) = (2 : Int) ^ (x.natAbs.log2 + 1) := by simp
    omega
theorem bits_ge {x : Int} (h0 : 0 < x) : 1 ≤ Builtin.Int.intBits x ∧ 2 ^ (Builtin.Int.intBits x - 1) ≤ x := by
  unfold Builtin.Int.intBits
  rw [if_neg (by simp; omega)]
  refine ⟨by omega, ?_⟩
  have h2 := Nat.log2_self_le (n := x.natAbs) (by omega)
  have : ((2 ^ (x.natAbs.log2) : Nat) : Int) = (2 : Int) ^ (x.natAbs.log2) := by simp
  show (2 : Int) ^ (x.natAbs.log2 + 1 - 1) ≤ x
  rw [Nat.add_sub_cancel]
  omega
/-- the figures of x by 2 ^ n, the least first -/
noncomputable def digitsOf (n : Nat) (x : Int) (k : Nat) : List Int := (List.range k).map fun i => x / 2 ^ (n * i) % 2 ^ n
end Mine

namespace Mine

/-- figures laid into a list from a place on -/
noncomputable def put (lo : Nat) (ds ns : List Int) : List Int := ns.take lo ++ (ds ++ ns.drop (lo + ds.length))

theorem put_length {lo : Nat} {ds ns : List Int} (h : lo + ds.length ≤ ns.length) : (put lo ds ns).length = ns.length := by
  simp [put]; omega
theorem put_one {lo : Nat} {x : Int} {ns : List Int} (h : lo < ns.length) : put lo [x] ns = ns.set lo x := by
  simp only [put, List.length_singleton, List.set_eq_take_append_cons_drop, h, if_true, List.singleton_append]
theorem put_put {lo : Nat} {d1 d2 ns : List Int} (h : lo + d1.length + d2.length ≤ ns.length) : put (lo + d1.length) d2 (put lo d1 ns) = put lo (d1 ++ d2) ns := by
  have hl : (ns.take lo).length = lo := by simp; omega
  have e1 : (ns.take lo ++ (d1 ++ ns.drop (lo + d1.length))).take (lo + d1.length) = ns.take lo ++ d1 := by
    rw [← List.append_assoc, List.take_left' (by simp; omega)]
  have e2 : (ns.take lo ++ (d1 ++ ns.drop (lo + d1.length))).drop (lo + d1.length + d2.length) = ns.drop (lo + d1.length + d2.length) := by
    rw [← List.append_assoc, List.drop_append, List.drop_eq_nil_of_le (by simp; omega)]
    simp only [List.nil_append, List.drop_drop, List.length_append, hl]
    congr 1; omega
  unfold put
  rw [e1, e2]
  simp only [List.append_assoc, List.length_append, Nat.add_assoc]
theorem put_whole (ds : List Int) : put 0 ds (List.replicate ds.length 0) = ds := by simp [put]

theorem digits_length (n : Nat) (x : Int) (k : Nat) : (digitsOf n x k).length = k := by simp [digitsOf]
theorem digits_one {n : Nat} {x : Int} (h0 : 0 ≤ x) (h1 : x < 2 ^ n) : digitsOf n x 1 = [x] := by
  simp [digitsOf, List.range_one, Int.emod_eq_of_lt h0 h1]

theorem div_pow_add (x : Int) (a b : Nat) : x / 2 ^ (a + b) = x / 2 ^ a / 2 ^ b := by
  rw [Int.pow_add, Int.ediv_ediv_of_nonneg (Int.le_of_lt (pow_pos2 a))]
theorem low_digit (x : Int) {a b n : Nat} (h : b + n ≤ a) : x % 2 ^ a / 2 ^ b % 2 ^ n = x / 2 ^ b % 2 ^ n := by
  have hp := pow_pos2 b
  have e : (2 : Int) ^ a = 2 ^ b * (2 ^ n * 2 ^ (a - b - n)) := by rw [← Int.pow_add, ← Int.pow_add]; congr 1; omega
  have e1 := Int.mul_ediv_add_emod x (2 ^ a)
  have e2 : x / 2 ^ b = x % 2 ^ a / 2 ^ b + 2 ^ n * (2 ^ (a - b - n) * (x / 2 ^ a)) := by
    have : x = x % 2 ^ a + 2 ^ b * (2 ^ n * (2 ^ (a - b - n) * (x / 2 ^ a))) := by
      have h3 : 2 ^ b * (2 ^ n * (2 ^ (a - b - n) * (x / 2 ^ a))) = 2 ^ a * (x / 2 ^ a) := by rw [e]; simp only [Int.mul_assoc]
      rw [h3]; omega
    conv => lhs; rw [this]
    rw [Int.add_mul_ediv_left _ _ (by omega)]
  rw [e2, Int.add_mul_emod_self_left]
theorem digits_split (n : Nat) (x : Int) (k1 k2 : Nat) : digitsOf n x (k1 + k2) = digitsOf n (x % 2 ^ (k1 * n)) k1 ++ digitsOf n (x / 2 ^ (k1 * n)) k2 := by
  unfold digitsOf
  rw [List.range_add, List.map_append, List.map_map]
  congr 1
  · apply List.map_congr_left
    intro i hi
    have hi' : i < k1 := List.mem_range.mp hi
    refine (low_digit x ?_).symm
    have : n * i + n ≤ n * k1 := by rw [← Nat.mul_succ]; exact Nat.mul_le_mul_left n hi'
    rw [Nat.mul_comm k1 n]; exact this
  · apply List.map_congr_left
    intro i _
    show x / 2 ^ (n * (k1 + i)) % 2 ^ n = _
    rw [Nat.mul_add, Nat.mul_comm n k1, div_pow_add]

/-- the number that figures stand for, the least first -/
noncomputable def evalD (n : Nat) : List Int → Int
  | [] => 0
  | d :: r => d + evalD n r * 2 ^ n
theorem evalD_append (n : Nat) (a b : List Int) : evalD n (a ++ b) = evalD n a + evalD n b * 2 ^ (a.length * n) := by
  induction a with
  | nil => simp [evalD]
  | cons d r ih =>
    rw [List.cons_append, evalD, ih, evalD, List.length_cons, Nat.succ_mul, Int.pow_add, Int.add_mul, Int.mul_assoc]
    omega
end Mine

namespace Mine
/-- a piece of a list -/
noncomputable def seg (lo k : Nat) (ns : List Int) : List Int := (ns.drop lo).take k
theorem seg_length {lo k : Nat} {ns : List Int} (h : lo + k ≤ ns.length) : (seg lo k ns).length = k := by simp [seg]; omega
theorem seg_one {lo : Nat} {ns : List Int} (h : lo < ns.length) : seg lo 1 ns = [ns.getD lo 0] := by
  unfold seg
  rw [List.drop_eq_getElem_cons h, List.take_succ_cons, List.take_zero, List.getD_eq_getElem?_getD, List.getElem?_eq_getElem h, Option.getD_some]
theorem seg_add (lo k1 k2 : Nat) (ns : List Int) : seg lo (k1 + k2) ns = seg lo k1 ns ++ seg (lo + k1) k2 ns := by
  unfold seg
  rw [List.take_add, List.drop_drop]
theorem seg_whole (ns : List Int) : seg 0 ns.length ns = ns := by simp [seg]
theorem evalD_bound (n : Nat) : ∀ (l : List Int), (∀ d ∈ l, 0 ≤ d ∧ d < 2 ^ n) → 0 ≤ evalD n l ∧ evalD n l < 2 ^ (l.length * n)
  | [], _ => ⟨Int.le_refl _, by simp [evalD]⟩
  | d :: r, h => by
    have ih := evalD_bound n r fun x hx => h x (List.mem_cons_of_mem _ hx)
    have hd := h d (List.mem_cons_self ..)
    have hp := pow_pos2 n
    have h1 : 0 ≤ evalD n r * 2 ^ n := Int.mul_nonneg ih.1 (Int.le_of_lt hp)
    have h2 : (evalD n r + 1) * 2 ^ n ≤ 2 ^ (r.length * n) * 2 ^ n := Int.mul_le_mul_of_nonneg_right (by omega) (Int.le_of_lt hp)
    rw [Int.add_mul, Int.one_mul, ← Int.pow_add] at h2
    refine ⟨by simp only [evalD]; omega, ?_⟩
    simp only [evalD, List.length_cons, Nat.succ_mul]
    omega
theorem seg_sub {lo k : Nat} {ns : List Int} {P : Int → Prop} (h : ∀ d ∈ ns, P d) : ∀ d ∈ seg lo k ns, P d := fun d hd => h d (List.mem_of_mem_drop (List.mem_of_mem_take hd))
end Mine

namespace Mine

/-- the schoolbook division, figure by figure, the highest first: the quotient's figures so far, the rest -/
noncomputable def divLoop (n : Nat) (b : Int) : List Int → Int → List Int → List Int × Int
  | [], r, qs => (qs, r)
  | d :: ds, r, qs => divLoop n b ds ((r * 2 ^ n + d) % b) (qs ++ [(r * 2 ^ n + d) / b])

theorem divLoop_spec (n : Nat) (b : Int) (hb : 0 < b) : ∀ (ds : List Int) (r : Int) (qs : List Int), 0 ≤ r → r < b → (∀ d ∈ ds, 0 ≤ d ∧ d < 2 ^ n) →
    ∃ q', (divLoop n b ds r qs).1 = qs ++ q' ∧ q'.length = ds.length ∧ (∀ q ∈ q', 0 ≤ q ∧ q < 2 ^ n) ∧
      evalD n q'.reverse = (r * 2 ^ (ds.length * n) + evalD n ds.reverse) / b ∧ (divLoop n b ds r qs).2 = (r * 2 ^ (ds.length * n) + evalD n ds.reverse) % b
  | [], r, qs, h0, h1, _ => by
    refine ⟨[], by simp [divLoop], rfl, by simp, ?_, ?_⟩
    · simp [evalD, Int.ediv_eq_zero_of_lt h0 h1]
    · simp [divLoop, evalD, Int.emod_eq_of_lt h0 h1]
  | d :: ds, r, qs, h0, h1, hd => by
    have hp := pow_pos2 n
    have hd0 := hd d (List.mem_cons_self ..)
    generalize hA : r * 2 ^ n + d = A
    have ha0 : 0 ≤ A := by have := Int.mul_nonneg h0 (Int.le_of_lt hp); omega
    have ha1 : A < b * 2 ^ n := by
      have : (r + 1) * 2 ^ n ≤ b * 2 ^ n := Int.mul_le_mul_of_nonneg_right (by omega) (Int.le_of_lt hp)
      rw [Int.add_mul] at this; omega
    obtain ⟨q', e1, e2, e3, e4, e5⟩ := divLoop_spec n b hb ds (A % b) (qs ++ [A / b]) (Int.emod_nonneg _ (by omega)) (Int.emod_lt_of_pos _ hb) fun x hx => hd x (List.mem_cons_of_mem _ hx)
    have hq0 : 0 ≤ A / b := Int.ediv_nonneg ha0 (by omega)
    have hq1 : A / b < 2 ^ n := Int.ediv_lt_of_lt_mul hb (by rw [Int.mul_comm]; exact ha1)
    have key : r * 2 ^ ((d :: ds).length * n) + evalD n (d :: ds).reverse = (A % b * 2 ^ (ds.length * n) + evalD n ds.reverse) + A / b * 2 ^ (ds.length * n) * b := by
      rw [List.reverse_cons, evalD_append, List.length_reverse, List.length_cons, Nat.succ_mul, Int.pow_add]
      have e6 : A = A / b * b + A % b := by rw [Int.mul_comm]; exact (Int.mul_ediv_add_emod A b).symm
      simp only [evalD, Int.zero_mul, Int.add_zero]
      generalize (2 : Int) ^ (ds.length * n) = P
      have e7 : r * (P * 2 ^ n) + d * P = A * P := by
        rw [← hA, Int.add_mul, Int.mul_comm P (2 ^ n), Int.mul_assoc]
      have e8 : A * P = A / b * P * b + A % b * P := by
        conv => lhs; rw [e6]
        rw [Int.add_mul, Int.mul_assoc, Int.mul_comm b P, ← Int.mul_assoc]
      omega
    refine ⟨A / b :: q', ?_, by simp [e2], ?_, ?_, ?_⟩
    · simp only [divLoop, hA, e1, List.append_assoc, List.singleton_append]
    · intro q hq
      rcases List.mem_cons.mp hq with rfl | hq
      · exact ⟨hq0, hq1⟩
      · exact e3 q hq
    · rw [key, Int.add_mul_ediv_right _ _ (by omega), List.reverse_cons, evalD_append, e4, List.length_reverse, e2]
      simp only [evalD, Int.zero_mul, Int.add_zero]
    · rw [key, Int.add_mul_emod_self_right]
      simp only [divLoop, hA]
      exact e5

theorem evalD_digits (n : Nat) : ∀ (k : Nat) (x : Int), 0 ≤ x → x < 2 ^ (k * n) → evalD n (digitsOf n x k) = x
  | 0, x, h0, h1 => by
    have : x = 0 := by simp at h1; omega
    subst this; rfl
  | k + 1, x, h0, h1 => by
    have hp := pow_pos2 n
    have e := digits_split n x 1 k
    rw [Nat.add_comm 1 k, Nat.one_mul] at e
    have h2 : digitsOf n (x % 2 ^ n) 1 = [x % 2 ^ n] := digits_one (Int.emod_nonneg _ (by omega)) (Int.emod_lt_of_pos _ hp)
    rw [e, h2, List.singleton_append, evalD, evalD_digits n k (x / 2 ^ n) (Int.ediv_nonneg h0 (by omega)) (Int.ediv_lt_of_lt_mul hp (by rw [← Int.pow_add, ← Nat.succ_mul]; exact h1))]
    have := Int.mul_ediv_add_emod x (2 ^ n)
    rw [Int.mul_comm] at this
    omega
theorem digits_bound (n : Nat) (x : Int) (k : Nat) : ∀ d ∈ digitsOf n x k, 0 ≤ d ∧ d < 2 ^ n := by
  intro d hd
  obtain ⟨i, _, rfl⟩ := List.mem_map.mp hd
  have hp := pow_pos2 n
  exact ⟨Int.emod_nonneg _ (by omega), Int.emod_lt_of_pos _ hp⟩

theorem divLoop_whole {n : Nat} {a b : Int} {k : Nat} (hb : 0 < b) (h0 : 0 ≤ a) (h1 : a < 2 ^ (k * n)) :
    evalD n (divLoop n b (digitsOf n a k).reverse 0 []).1.reverse = a / b ∧ (divLoop n b (digitsOf n a k).reverse 0 []).2 = a % b ∧
    (∀ q ∈ (divLoop n b (digitsOf n a k).reverse 0 []).1, 0 ≤ q ∧ q < 2 ^ n) ∧ (divLoop n b (digitsOf n a k).reverse 0 []).1.length = k := by
  obtain ⟨q', e1, e2, e3, e4, e5⟩ := divLoop_spec n b hb (digitsOf n a k).reverse 0 [] (Int.le_refl _) hb fun d hd => digits_bound n a k d (List.mem_reverse.mp hd)
  rw [List.nil_append] at e1
  rw [List.reverse_reverse, evalD_digits n k a h0 h1, Int.zero_mul, Int.zero_add] at e4 e5
  rw [e1]
  exact ⟨e4, e5, e3, by rw [e2, List.length_reverse, digits_length]⟩
theorem ints_rev : ∀ {vs : List Value} {ns : List Int}, IntsAre vs ns → IntsAre vs.reverse ns.reverse := by
  have app : ∀ {vs ws : List Value} {ns ms : List Int}, IntsAre vs ns → IntsAre ws ms → IntsAre (vs ++ ws) (ns ++ ms) := by
    intro vs ws ns ms h
    induction h with
    | nil => intro k; exact k
    | cons i t _ ih => intro k; exact .cons i t (ih k)
  intro vs ns h
  induction h with
  | nil => exact .nil
  | cons i t _ ih => rw [List.reverse_cons, List.reverse_cons]; exact app ih (.cons i t .nil)
theorem ints_append {vs ws : List Value} {ns ms : List Int} (h : IntsAre vs ns) (k : IntsAre ws ms) : IntsAre (vs ++ ws) (ns ++ ms) := by
  induction h with
  | nil => exact k
  | cons i t _ ih => exact .cons i t ih
end Mine

namespace Mine

/-- one number of the overlap table, as the text seeks it -/
noncomputable def ovGo (p : List Int) (t : List Nat) (x : Int) : Nat → Nat → Nat
  | 0, _ => 0
  | f + 1, i => if x = p.getD i 0 then i + 1 else if i = 0 then 0 else ovGo p t x f (t.getD (i - 1) 0)
/-- the overlap table's first k numbers -/
noncomputable def ovTab (p : List Int) : Nat → List Nat
  | 0 => []
  | k + 1 => ovTab p k ++ [if k = 0 then 0 else ovGo p (ovTab p k) (p.getD k 0) (k + 1) ((ovTab p k).getD (k - 1) 0)]

theorem ovTab_length (p : List Int) : ∀ k, (ovTab p k).length = k
  | 0 => rfl
  | k + 1 => by rw [ovTab, List.length_append, ovTab_length p k]; rfl
theorem ovGo_le {p : List Int} {t : List Nat} {x : Int} (ht : ∀ j, t.getD j 0 ≤ j) : ∀ f i, ovGo p t x f i ≤ i + 1
  | 0, i => Nat.zero_le _
  | f + 1, i => by
    unfold ovGo
    split
    · exact Nat.le_refl _
    · split
      · exact Nat.zero_le _
      · have h1 := ovGo_le ht f (t.getD (i - 1) 0) (p := p) (x := x)
        have h2 := ht (i - 1)
        omega
theorem ovTab_le (p : List Int) : ∀ k j, (ovTab p k).getD j 0 ≤ j
  | 0, j => by simp [ovTab]
  | k + 1, j => by
    rw [ovTab, List.getD_eq_getElem?_getD, List.getElem?_append, ovTab_length]
    split
    · rw [← List.getD_eq_getElem?_getD]; exact ovTab_le p k j
    · rename_i hj
      rcases Nat.lt_or_eq_of_le (Nat.le_of_not_lt hj) with h | h
      · rw [List.getElem?_eq_none (by simp; omega)]; exact Nat.zero_le _
      · subst h
        rw [Nat.sub_self]
        show (if k = 0 then 0 else _) ≤ k
        split
        · omega
        · have h1 := ovGo_le (ovTab_le p k) (k + 1) ((ovTab p k).getD (k - 1) 0) (p := p) (x := p.getD k 0)
          have h2 := ovTab_le p k (k - 1)
          omega
theorem ovGo_fuel {p : List Int} {t : List Nat} {x : Int} (ht : ∀ j, t.getD j 0 ≤ j) : ∀ i f, i < f → ovGo p t x f i = ovGo p t x (i + 1) i := by
  intro i
  induction i using Nat.strongRecOn with
  | ind i ih =>
    intro f hf
    obtain ⟨f, rfl⟩ : ∃ g, f = g + 1 := ⟨f - 1, by omega⟩
    unfold ovGo
    split
    · rfl
    · split
      · rfl
      · have h2 := ht (i - 1)
        rw [ih (t.getD (i - 1) 0) (by omega) f (by omega), ih (t.getD (i - 1) 0) (by omega) i (by omega)]

/-- the table as the text has it when the turn for i begins -/
noncomputable def tabI (p : List Int) (i : Nat) : List Int := (ovTab p i).map (fun v : Nat => (v : Int)) ++ List.replicate (p.length - i) 0
theorem tabI_length {p : List Int} {i : Nat} (h : i ≤ p.length) : (tabI p i).length = p.length := by
  simp [tabI, ovTab_length]; omega
theorem tabI_get {p : List Int} {i j : Nat} (h : j < i) : (tabI p i).getD j 0 = (((ovTab p i).getD j 0 : Nat) : Int) := by
  unfold tabI
  rw [List.getD_eq_getElem?_getD, List.getElem?_append_left (by simp [ovTab_length]; exact h), List.getElem?_map, List.getD_eq_getElem?_getD]
  rw [List.getElem?_eq_getElem (by rw [ovTab_length]; exact h)]
  rfl
theorem tabI_set {p : List Int} {i : Nat} (h : i < p.length) (v : Nat) (hv : (if i = 0 then 0 else ovGo p (ovTab p i) (p.getD i 0) (i + 1) ((ovTab p i).getD (i - 1) 0)) = v) : (tabI p i).set i (v : Int) = tabI p (i + 1) := by
  unfold tabI
  rw [List.set_append_right _ _ (by simp [ovTab_length]), List.length_map, ovTab_length, Nat.sub_self]
  obtain ⟨m, hm⟩ : ∃ m, p.length - i = m + 1 := ⟨p.length - i - 1, by omega⟩
  rw [hm, List.replicate_succ, List.set_cons_zero, ovTab, hv, List.map_append, List.append_assoc, show p.length - (i + 1) = m by omega]
  rfl
theorem tabI_one {p : List Int} (h : 1 ≤ p.length) : tabI p 1 = List.replicate p.length 0 := by
  obtain ⟨m, hm⟩ : ∃ m, p.length = m + 1 := ⟨p.length - 1, by omega⟩
  simp [tabI, ovTab, hm, List.replicate_succ]
theorem tabI_whole (p : List Int) : tabI p p.length = (ovTab p p.length).map (fun v : Nat => (v : Int)) := by simp [tabI]
end Mine

namespace Mine
/-- one place made alike with the one a period ahead -/
noncomputable def rowTurn (period : Nat) (row : List Int) (place : Nat) : List Int :=
  row.map fun s => if s = row.getD place 0 then row.getD (place - period) 0 else s
/-- the first j places of a period's turn -/
noncomputable def rowPer (period : Nat) (row : List Int) : Nat → List Int
  | 0 => row
  | j + 1 => rowTurn period (rowPer period row j) (period + j)
noncomputable def rowStart (count : Nat) : List Int := (List.range count).map fun (i : Nat) => (i : Int)
noncomputable def rowAll (count : Nat) : List Nat → List Int → List Int
  | [], row => row
  | p :: ps, row => rowAll count ps (rowPer p row (count - p))
theorem rowTurn_length (period : Nat) (row : List Int) (place : Nat) : (rowTurn period row place).length = row.length := by simp [rowTurn]
theorem rowPer_length (period : Nat) (row : List Int) : ∀ j, (rowPer period row j).length = row.length
  | 0 => rfl
  | j + 1 => by rw [rowPer, rowTurn_length, rowPer_length period row j]
theorem rowAll_length (count : Nat) : ∀ (ps : List Nat) (row : List Int), (rowAll count ps row).length = row.length
  | [], _ => rfl
  | p :: ps, row => by rw [rowAll, rowAll_length count ps, rowPer_length]
/-- the borders, from the last number of the table down -/
noncomputable def chainGo (t : List Nat) : Nat → Nat → List Nat
  | 0, _ => []
  | f + 1, b => if b = 0 then [] else b :: chainGo t f (t.getD (b - 1) 0)
/-- Euclid's measure by eight turns -/
noncomputable def measGo : Nat → Nat × Nat → Nat × Nat
  | 0, x => x
  | k + 1, (u, l) => measGo k (if l = 0 then (u, l) else (l, u % l))
/-- Euclid's run over borders, turn by turn: the borders, the count, the small and the large period -/
structure BSt where
  bs : List Nat
  count : Nat
  small : Nat
  large : Nat
deriving DecidableEq
noncomputable def downs (count small q : Nat) : List Nat := (List.range q).map fun k => count - (k + 1) * small
noncomputable def bTurn (g : Nat) (x : BSt) : BSt :=
  if x.large < x.count ∧ x.count + g < x.small + x.large then
    ⟨x.bs ++ downs x.count x.small (x.large / x.small), (x.bs ++ downs x.count x.small (x.large / x.small)).getLastD 0, x.large % x.small, x.small⟩
  else x
noncomputable def bGo (g : Nat) : Nat → BSt → BSt
  | 0, x => x
  | k + 1, x => bTurn g (bGo g k x)
/-- in a turn that acts: the small period is not nought, something is put to the borders, nothing falls below nought -/
noncomputable def bOk (g : Nat) (x : BSt) : Bool :=
  if x.large < x.count ∧ x.count + g < x.small + x.large then decide (0 < x.small ∧ 1 ≤ x.large / x.small ∧ x.large / x.small * x.small ≤ x.count) else true
noncomputable def bEnd (g : Nat) (x : BSt) : List Nat :=
  let small := if x.large < x.count then g else x.small
  x.bs ++ downs x.count small ((x.count - 1) / small)
noncomputable def bEndOk (g : Nat) (x : BSt) : Bool := decide (1 ≤ x.count ∧ 0 < if x.large < x.count then g else x.small)
noncomputable def law2 (small large count : Nat) : Bool :=
  let g := (measGo 8 (small, large)).1
  let row := rowAll count [small, large] (rowStart count)
  let t := ovTab row count
  let signs : Int := if large ≥ count then min (small : Int) count else max ((small : Int) + large - count) g
  let x := bGo g 8 ⟨[], count, small, large⟩
  (List.range 8).all (fun k => bOk g (bGo g k ⟨[], count, small, large⟩)) && bEndOk g x &&
    decide ((((row.foldl step_dedup []).length : Nat) : Int) = signs) && decide (chainGo t 20 (t.getLastD 0) = bEnd g x)
end Mine

namespace Mine
theorem scale_fdiv {a b U : Int} (hb : 0 < b) (hU : U ≠ 0) : (a * U).fdiv (b * U) = a / b := by
  have e := Int.mul_ediv_add_emod a b
  have e1 := Int.emod_nonneg a (by omega : b ≠ 0)
  have e2 := Int.emod_lt_of_pos a hb
  have key : ∀ V : Int, 0 < V → (a * V).fdiv (b * V) = a / b := by
    intro V hV
    refine (fdivmod_of (q := a / b) (r := a % b * V) ?_ (Int.mul_nonneg e1 (Int.le_of_lt hV)) (Int.mul_lt_mul_of_pos_right e2 hV)).1
    rw [← Int.mul_assoc, ← Int.add_mul, Int.mul_comm (a / b) b, e]
  rcases Int.lt_or_gt_of_ne hU with h | h
  · rw [← Int.neg_fdiv_neg, ← Int.mul_neg, ← Int.mul_neg]
    exact key (-U) (by omega)
  · exact key U h
theorem scale_fmod {a b U : Int} (hb : 0 < b) (hU : U ≠ 0) : (a * U).fmod (b * U) = a % b * U := by
  have h1 := Int.mul_fdiv_add_fmod (a * U) (b * U)
  rw [scale_fdiv hb hU] at h1
  have e := Int.mul_ediv_add_emod a b
  have h2 : b * U * (a / b) + a % b * U = a * U := by
    rw [Int.mul_assoc, Int.mul_comm U, ← Int.mul_assoc, ← Int.add_mul, e]
  omega
theorem bits_abs {x : Int} {k : Nat} (h : x.natAbs < 2 ^ k) : Builtin.Int.intBits x ≤ k := by
  unfold Builtin.Int.intBits
  split
  · omega
  · rename_i hx
    have hx' : x ≠ 0 := by simpa using hx
    have := (Nat.log2_lt (by omega)).mpr h
    omega
theorem bits_abs_lt (x : Int) : x.natAbs < 2 ^ Builtin.Int.intBits x := by
  unfold Builtin.Int.intBits
  split
  · rename_i hx
    have : x = 0 := by simpa using hx
    subst this; decide
  · exact Nat.lt_log2_self
theorem bits_mono {x y : Int} (h : x.natAbs ≤ y.natAbs) : Builtin.Int.intBits x ≤ Builtin.Int.intBits y := bits_abs (Nat.lt_of_le_of_lt h (bits_abs_lt y))
theorem bits_mul (x y : Int) : Builtin.Int.intBits (x * y) ≤ Builtin.Int.intBits x + Builtin.Int.intBits y := by
  by_cases h0 : x * y = 0
  · rw [h0]; exact Nat.zero_le _
  refine bits_abs ?_
  rw [Int.natAbs_mul, Nat.pow_add]
  exact Nat.mul_lt_mul'' (bits_abs_lt x) (bits_abs_lt y)
theorem bits_add (x y : Int) (k : Nat) (h1 : Builtin.Int.intBits x ≤ k) (h2 : Builtin.Int.intBits y ≤ k) : Builtin.Int.intBits (x + y) ≤ k + 1 := by
  refine bits_abs ?_
  have a := Nat.lt_of_lt_of_le (bits_abs_lt x) (Nat.pow_le_pow_right (by decide : 0 < 2) h1)
  have b := Nat.lt_of_lt_of_le (bits_abs_lt y) (Nat.pow_le_pow_right (by decide : 0 < 2) h2)
  have := Int.natAbs_add_le x y
  rw [Nat.pow_succ]; omega
theorem bits_scale {v : Nat} {U : Int} (hv : 1 ≤ v) : Builtin.Int.intBits U ≤ Builtin.Int.intBits ((v : Int) * U) := by
  refine bits_mono ?_
  rw [Int.natAbs_mul, Int.natAbs_natCast]
  exact Nat.le_mul_of_pos_left _ hv
theorem bits_small {v : Nat} (h : v ≤ 200) : Builtin.Int.intBits (v : Int) ≤ 8 := bits_abs (by rw [Int.natAbs_natCast]; omega)
end Mine

namespace Mine
/-- a number as great as 3 ** 2600 -/
noncomputable def BigP (P : Int) : Prop := (2 : Int) ^ 4000 ≤ P ∧ P + 100000000 < (2 : Int) ^ 4150
theorem bigP_pow : BigP ((3 : Int) ^ Int.toNat 2600) := by
  unfold BigP
  decide +kernel
theorem bits_atleast {x : Int} {k : Nat} (h : 2 ^ k ≤ x.natAbs) : k ≤ Builtin.Int.intBits x := by
  have := bits_abs_lt x
  have h2 : 2 ^ k < 2 ^ Builtin.Int.intBits x := Nat.lt_of_le_of_lt h this
  exact Nat.le_of_lt ((Nat.pow_lt_pow_iff_right (by decide)).mp h2)
theorem bigP_abs {P c : Int} (h : BigP P) (h1 : 0 ≤ c) (h2 : c ≤ 64000000) : 2 ^ 4000 ≤ (P + c).natAbs ∧ (P + c).natAbs < 2 ^ 4150 := by
  obtain ⟨a, b⟩ := h
  have e1 : (2 : Int) ^ 4000 = ((2 ^ 4000 : Nat) : Int) := by norm_cast
  have e2 : (2 : Int) ^ 4150 = ((2 ^ 4150 : Nat) : Int) := by norm_cast
  rw [e1] at a
  rw [e2] at b
  generalize (2 ^ 4000 : Nat) = X at *
  generalize (2 ^ 4150 : Nat) = Y at *
  omega
theorem unit_ok {P c : Int} (h : BigP P) (h1 : 0 ≤ c) (h2 : c ≤ 64000000) : (1000 ≤ Builtin.Int.intBits (P + c) ∧ Builtin.Int.intBits (P + c) ≤ 4200) ∧ 0 < P + c := by
  obtain ⟨a, b⟩ := bigP_abs h h1 h2
  refine ⟨⟨Nat.le_trans (by decide : 1000 ≤ 4000) (bits_atleast a), Nat.le_trans (bits_abs b) (by decide : 4150 ≤ 4200)⟩, ?_⟩
  have := h.1
  have e1 : (2 : Int) ^ 4000 = ((2 ^ 4000 : Nat) : Int) := by norm_cast
  rw [e1] at this
  have : 0 < 2 ^ 4000 := Nat.pow_pos (by decide)
  generalize (2 ^ 4000 : Nat) = X at *
  omega
theorem bits_neg' (x : Int) : Builtin.Int.intBits (-x) = Builtin.Int.intBits x := by
  apply Nat.le_antisymm <;> exact bits_mono (by rw [Int.natAbs_neg]; omega)
theorem unit_ok2 {V e : Int} (h : 1000 ≤ Builtin.Int.intBits V ∧ Builtin.Int.intBits V ≤ 4200) (he : e = 0 ∨ e = 1) : 1000 ≤ Builtin.Int.intBits (V * (1 - e * 2)) ∧ Builtin.Int.intBits (V * (1 - e * 2)) ≤ 4200 := by
  rcases he with rfl | rfl
  · simpa using h
  · have : V * (1 - 1 * 2) = -V := by omega
    rw [this]
    rw [bits_neg']
    exact h
end Mine
namespace Mine
theorem unit_all {P c e : Int} (h : BigP P) (hc : 0 ≤ c ∧ c ≤ 64000000) (he : e = 0 ∨ e = 1) :
    1000 ≤ Builtin.Int.intBits ((P + c) * (1 - e * 2)) ∧ Builtin.Int.intBits ((P + c) * (1 - e * 2)) ≤ 4200 := unit_ok2 (unit_ok h hc.1 hc.2).1 he
theorem unit_room {P c e : Int} (h : BigP P) (hc : 0 ≤ c ∧ c ≤ 64000000) (he : e = 0 ∨ e = 1) :
    Builtin.Int.intBits (P + c) + Builtin.Int.intBits (1 - e * 2) ≤ 2 ^ 27 := by
  have := (unit_ok h hc.1 hc.2).1.2
  have h2 : Builtin.Int.intBits (1 - e * 2) ≤ 2 := by rcases he with rfl | rfl <;> decide
  omega
end Mine
namespace Mine
theorem log2_of_bits {x : Int} {k : Nat} (h0 : x ≠ 0) (h : Builtin.Int.intBits x ≤ k) : x.natAbs.log2 < k := by
  unfold Builtin.Int.intBits at h
  rw [if_neg (by simpa using h0)] at h
  omega
end Mine

namespace Mine
noncomputable def row2 (s l : Nat) : Bool := (List.range 16).all fun c => law2 (s + 1) (l + 1) (c + 1)
theorem law2_at_s0_l0 : row2 0 0 = true := by decide +kernel
theorem law2_at_s0_l1 : row2 0 1 = true := by decide +kernel
theorem law2_at_s1_l1 : row2 1 1 = true := by decide +kernel
theorem law2_at_s0_l2 : row2 0 2 = true := by decide +kernel
theorem law2_at_s1_l2 : row2 1 2 = true := by decide +kernel
theorem law2_at_s2_l2 : row2 2 2 = true := by decide +kernel
theorem law2_at_s0_l3 : row2 0 3 = true := by decide +kernel
theorem law2_at_s1_l3 : row2 1 3 = true := by decide +kernel
theorem law2_at_s2_l3 : row2 2 3 = true := by decide +kernel
theorem law2_at_s3_l3 : row2 3 3 = true := by decide +kernel
theorem law2_at_s0_l4 : row2 0 4 = true := by decide +kernel
theorem law2_at_s1_l4 : row2 1 4 = true := by decide +kernel
theorem law2_at_s2_l4 : row2 2 4 = true := by decide +kernel
theorem law2_at_s3_l4 : row2 3 4 = true := by decide +kernel
theorem law2_at_s4_l4 : row2 4 4 = true := by decide +kernel
theorem law2_at_s0_l5 : row2 0 5 = true := by decide +kernel
theorem law2_at_s1_l5 : row2 1 5 = true := by decide +kernel
theorem law2_at_s2_l5 : row2 2 5 = true := by decide +kernel
theorem law2_at_s3_l5 : row2 3 5 = true := by decide +kernel
theorem law2_at_s4_l5 : row2 4 5 = true := by decide +kernel
theorem law2_at_s5_l5 : row2 5 5 = true := by decide +kernel
theorem law2_at_s0_l6 : row2 0 6 = true := by decide +kernel
theorem law2_at_s1_l6 : row2 1 6 = true := by decide +kernel
theorem law2_at_s2_l6 : row2 2 6 = true := by decide +kernel
theorem law2_at_s3_l6 : row2 3 6 = true := by decide +kernel
theorem law2_at_s4_l6 : row2 4 6 = true := by decide +kernel
theorem law2_at_s5_l6 : row2 5 6 = true := by decide +kernel
theorem law2_at_s6_l6 : row2 6 6 = true := by decide +kernel
theorem law2_at_s0_l7 : row2 0 7 = true := by decide +kernel
theorem law2_at_s1_l7 : row2 1 7 = true := by decide +kernel
theorem law2_at_s2_l7 : row2 2 7 = true := by decide +kernel
theorem law2_at_s3_l7 : row2 3 7 = true := by decide +kernel
theorem law2_at_s4_l7 : row2 4 7 = true := by decide +kernel
theorem law2_at_s5_l7 : row2 5 7 = true := by decide +kernel
theorem law2_at_s6_l7 : row2 6 7 = true := by decide +kernel
theorem law2_at_s7_l7 : row2 7 7 = true := by decide +kernel
theorem law2_at_s0_l8 : row2 0 8 = true := by decide +kernel
theorem law2_at_s1_l8 : row2 1 8 = true := by decide +kernel
theorem law2_at_s2_l8 : row2 2 8 = true := by decide +kernel
theorem law2_at_s3_l8 : row2 3 8 = true := by decide +kernel
theorem law2_at_s4_l8 : row2 4 8 = true := by decide +kernel
theorem law2_at_s5_l8 : row2 5 8 = true := by decide +kernel
theorem law2_at_s6_l8 : row2 6 8 = true := by decide +kernel
theorem law2_at_s7_l8 : row2 7 8 = true := by decide +kernel
theorem law2_at_s8_l8 : row2 8 8 = true := by decide +kernel
theorem law2_at_s0_l9 : row2 0 9 = true := by decide +kernel
theorem law2_at_s1_l9 : row2 1 9 = true := by decide +kernel
theorem law2_at_s2_l9 : row2 2 9 = true := by decide +kernel
theorem law2_at_s3_l9 : row2 3 9 = true := by decide +kernel
theorem law2_at_s4_l9 : row2 4 9 = true := by decide +kernel
theorem law2_at_s5_l9 : row2 5 9 = true := by decide +kernel
theorem law2_at_s6_l9 : row2 6 9 = true := by decide +kernel
theorem law2_at_s7_l9 : row2 7 9 = true := by decide +kernel
theorem law2_at_s8_l9 : row2 8 9 = true := by decide +kernel
theorem law2_at_s9_l9 : row2 9 9 = true := by decide +kernel
theorem row2_at0 : ∀ s, s ≤ 0 → row2 s 0 = true
  | 0, _ => law2_at_s0_l0
  | n + 1, h => absurd h (Nat.not_le.mpr (Nat.lt_of_lt_of_le (Nat.lt_succ_self 0) (Nat.le_add_left 1 n)))
theorem row2_at1 : ∀ s, s ≤ 1 → row2 s 1 = true
  | 0, _ => law2_at_s0_l1
  | 1, _ => law2_at_s1_l1
  | n + 2, h => absurd h (Nat.not_le.mpr (Nat.lt_of_lt_of_le (Nat.lt_succ_self 1) (Nat.le_add_left 2 n)))
theorem row2_at2 : ∀ s, s ≤ 2 → row2 s 2 = true
  | 0, _ => law2_at_s0_l2
  | 1, _ => law2_at_s1_l2
  | 2, _ => law2_at_s2_l2
  | n + 3, h => absurd h (Nat.not_le.mpr (Nat.lt_of_lt_of_le (Nat.lt_succ_self 2) (Nat.le_add_left 3 n)))
theorem row2_at3 : ∀ s, s ≤ 3 → row2 s 3 = true
  | 0, _ => law2_at_s0_l3
  | 1, _ => law2_at_s1_l3
  | 2, _ => law2_at_s2_l3
  | 3, _ => law2_at_s3_l3
  | n + 4, h => absurd h (Nat.not_le.mpr (Nat.lt_of_lt_of_le (Nat.lt_succ_self 3) (Nat.le_add_left 4 n)))
theorem row2_at4 : ∀ s, s ≤ 4 → row2 s 4 = true
  | 0, _ => law2_at_s0_l4
  | 1, _ => law2_at_s1_l4
  | 2, _ => law2_at_s2_l4
  | 3, _ => law2_at_s3_l4
  | 4, _ => law2_at_s4_l4
  | n + 5, h => absurd h (Nat.not_le.mpr (Nat.lt_of_lt_of_le (Nat.lt_succ_self 4) (Nat.le_add_left 5 n)))
theorem row2_at5 : ∀ s, s ≤ 5 → row2 s 5 = true
  | 0, _ => law2_at_s0_l5
  | 1, _ => law2_at_s1_l5
  | 2, _ => law2_at_s2_l5
  | 3, _ => law2_at_s3_l5
  | 4, _ => law2_at_s4_l5
  | 5, _ => law2_at_s5_l5
  | n + 6, h => absurd h (Nat.not_le.mpr (Nat.lt_of_lt_of_le (Nat.lt_succ_self 5) (Nat.le_add_left 6 n)))
theorem row2_at6 : ∀ s, s ≤ 6 → row2 s 6 = true
  | 0, _ => law2_at_s0_l6
  | 1, _ => law2_at_s1_l6
  | 2, _ => law2_at_s2_l6
  | 3, _ => law2_at_s3_l6
  | 4, _ => law2_at_s4_l6
  | 5, _ => law2_at_s5_l6
  | 6, _ => law2_at_s6_l6
  | n + 7, h => absurd h (Nat.not_le.mpr (Nat.lt_of_lt_of_le (Nat.lt_succ_self 6) (Nat.le_add_left 7 n)))
theorem row2_at7 : ∀ s, s ≤ 7 → row2 s 7 = true
  | 0, _ => law2_at_s0_l7
  | 1, _ => law2_at_s1_l7
  | 2, _ => law2_at_s2_l7
  | 3, _ => law2_at_s3_l7
  | 4, _ => law2_at_s4_l7
  | 5, _ => law2_at_s5_l7
  | 6, _ => law2_at_s6_l7
  | 7, _ => law2_at_s7_l7
  | n + 8, h => absurd h (Nat.not_le.mpr (Nat.lt_of_lt_of_le (Nat.lt_succ_self 7) (Nat.le_add_left 8 n)))
theorem row2_at8 : ∀ s, s ≤ 8 → row2 s 8 = true
  | 0, _ => law2_at_s0_l8
  | 1, _ => law2_at_s1_l8
  | 2, _ => law2_at_s2_l8
  | 3, _ => law2_at_s3_l8
  | 4, _ => law2_at_s4_l8
  | 5, _ => law2_at_s5_l8
  | 6, _ => law2_at_s6_l8
  | 7, _ => law2_at_s7_l8
  | 8, _ => law2_at_s8_l8
  | n + 9, h => absurd h (Nat.not_le.mpr (Nat.lt_of_lt_of_le (Nat.lt_succ_self 8) (Nat.le_add_left 9 n)))
theorem row2_at9 : ∀ s, s ≤ 9 → row2 s 9 = true
  | 0, _ => law2_at_s0_l9
  | 1, _ => law2_at_s1_l9
  | 2, _ => law2_at_s2_l9
  | 3, _ => law2_at_s3_l9
  | 4, _ => law2_at_s4_l9
  | 5, _ => law2_at_s5_l9
  | 6, _ => law2_at_s6_l9
  | 7, _ => law2_at_s7_l9
  | 8, _ => law2_at_s8_l9
  | 9, _ => law2_at_s9_l9
  | n + 10, h => absurd h (Nat.not_le.mpr (Nat.lt_of_lt_of_le (Nat.lt_succ_self 9) (Nat.le_add_left 10 n)))
theorem row2_all : ∀ l s, s ≤ l → l < 10 → row2 s l = true
  | 0, s, h, _ => row2_at0 s h
  | 1, s, h, _ => row2_at1 s h
  | 2, s, h, _ => row2_at2 s h
  | 3, s, h, _ => row2_at3 s h
  | 4, s, h, _ => row2_at4 s h
  | 5, s, h, _ => row2_at5 s h
  | 6, s, h, _ => row2_at6 s h
  | 7, s, h, _ => row2_at7 s h
  | 8, s, h, _ => row2_at8 s h
  | 9, s, h, _ => row2_at9 s h
  | n + 10, _, _, h => absurd h (Nat.not_lt.mpr (Nat.le_add_left 10 n))
theorem law2_all {s l c : Nat} (h1 : 1 ≤ s) (h2 : s ≤ l) (h3 : l ≤ 10) (h4 : 1 ≤ c) (h5 : c ≤ 16) : law2 s l c = true := by
  have h := row2_all (l - 1) (s - 1) (by omega) (by omega)
  unfold row2 at h
  have := List.all_eq_true.mp h (c - 1) (List.mem_range.mpr (by omega))
  rwa [show s - 1 + 1 = s by omega, show l - 1 + 1 = l by omega, show c - 1 + 1 = c by omega] at this
theorem measGo_le : ∀ k x y, x ≤ 10 → y ≤ 10 → (measGo k (x, y)).1 ≤ 10
  | 0, _, _, h, _ => h
  | k + 1, x, y, h1, h2 => by
    unfold measGo
    split
    · exact measGo_le k x y h1 h2
    · exact measGo_le k y (x % y) h2 (by have := Nat.mod_lt x (by omega : 0 < y); omega)
theorem law2_facts {s l c g : Nat} {row : List Int} (h1 : 1 ≤ s) (h2 : s ≤ l) (h3 : l ≤ 10) (h4 : 1 ≤ c) (h5 : c ≤ 16) (hg : (measGo 8 (s, l)).1 = g) (hr : rowAll c [s, l] (rowStart c) = row) :
    g ≤ 10 ∧ (∀ k < 8, bOk g (bGo g k ⟨[], c, s, l⟩) = true) ∧ bEndOk g (bGo g 8 ⟨[], c, s, l⟩) = true ∧
      (((row.foldl step_dedup []).length : Nat) : Int) = (if l ≥ c then min (s : Int) c else max ((s : Int) + l - c) g) ∧
      chainGo (ovTab row c) 20 ((ovTab row c).getD ((ovTab row c).length - 1) 0) = bEnd g (bGo g 8 ⟨[], c, s, l⟩) := by
  have h := law2_all h1 h2 h3 h4 h5
  simp only [law2, hg, hr, Bool.and_eq_true, decide_eq_true_eq] at h
  obtain ⟨⟨⟨a, b⟩, d⟩, e⟩ := h
  refine ⟨by rw [← hg]; exact measGo_le 8 s l (by omega) h3, fun k hk => List.all_eq_true.mp a k (List.mem_range.mpr hk), b, d, ?_⟩
  rw [← e, List.getLastD_eq_getLast?, List.getLast?_eq_getElem?, List.getD_eq_getElem?_getD]
end Mine

set_option maxHeartbeats 8000000 in
open_top hd for PySem.Challenge.rw_rl0044_02
namespace Mine
set_option maxHeartbeats 4000000
local macro_rules | `(tactic| walk_at "mine:pj") => `(tactic| focus (first | (refine Hid.out ?_; with_reducible assumption) | (apply And.left; (iterate 24 (first | done | (refine Hid.out ?_; with_reducible assumption) | apply And.right)); done) | (apply And.right; (iterate 24 (first | done | (refine Hid.out ?_; with_reducible assumption) | apply And.right)); done)))
local macro_rules | `(tactic| walk_at "mine:up") => `(tactic| focus ((iterate 12 (first | done | (with_reducible assumption) | (with_reducible exact Nat.lt_add_one _) | (with_reducible apply Nat.lt_add_one_of_lt) | (focus (first | (apply And.left; (iterate 12 (first | done | (with_reducible assumption) | apply And.right)); done) | (apply And.right; (iterate 12 (first | done | (with_reducible assumption) | apply And.right)); done))))); done))
local macro_rules | `(tactic| k_ne) => `(tactic| (refine neN ?_; (try dsimp only); (first | (with_reducible assumption) | (refine Ne.symm ?_; with_reducible assumption) | (refine Nat.ne_of_lt ?_; walk_at "mine:up") | (refine Nat.ne_of_gt ?_; walk_at "mine:up") | walk_at "mine:pj" | (refine Ne.symm ?_; walk_at "mine:pj") | decide | omega | ((repeat (with_reducible rename Hid _ => hHid; have hOut := Hid.out hHid; clear hHid)); first | ((repeat (with_reducible rename _ ∧ _ => hAnd; rcases hAnd with ⟨_, _⟩)); first | (with_reducible assumption) | (refine Ne.symm ?_; with_reducible assumption) | (refine Nat.ne_of_lt ?_; with_reducible assumption) | (refine Nat.ne_of_gt ?_; with_reducible assumption)) | omega))))
local macro_rules | `(tactic| walk_at "mine:halt") => `(tactic| first
  | (with_reducible show wpAny _ _ (call (Value.ref _) _) _ _ _)
  | (with_reducible show wpAny _ _ (binaryOp Operator.LShift _ _) _ _ _)
  | (with_reducible show wpAny _ _ (inplaceOp Operator.LShift _ _) _ _ _)
  | (with_reducible show wpAny _ _ (binaryOp Operator.RShift _ _) _ _ _)
  | (with_reducible show wpAny _ _ (inplaceOp Operator.RShift _ _) _ _ _)
  | (with_reducible show wpAny _ _ (binaryOp Operator.Mult _ _) _ _ _)
  | (with_reducible show wpAny _ _ (exec (Stmt.While _ _ _ _) _) _ _ _)
  | (with_reducible show wpAny _ _ (exec (Stmt.For _ _ _ _ _) _) _ _ _)
  | (with_reducible show wpAny _ _ (pyIter _) _ _ _)
  | (with_reducible show wpAny _ _ (execs (Stmt.If _ _ _ _ :: _) _) _ _ _)
  | (with_reducible show wpAny _ _ (execs (Stmt.FunctionDef _ _ _ _ _ _ _ _ _ _ :: _) _) _ _ _)
  | (with_reducible show ite _ _ _))
local macro_rules | `(tactic| walk_at "mine:steps") => `(tactic| repeat' (first | ((fail_if_success walk_at "mine:halt"); first | ((first | (with_reducible show wpAny _ _ _ _ _ _) | (with_reducible show Frag.In _ _ ∧ _) | (with_reducible show FnAt _ _) | (with_reducible show FnAt _ _ ∧ _)); walk1) | (dsimp only; (first | (with_reducible show wpAny _ _ _ _ _ _) | (with_reducible show Frag.In _ _ ∧ _) | (with_reducible show FnAt _ _) | (with_reducible show FnAt _ _ ∧ _)); (fail_if_success walk_at "mine:halt"); walk1)) | fail "no step"))
section
theorem resetF1 : True := by
  w_top off
  exact trivial


abbrev tup (vs : List Value) : Obj := { cls := .type "tuple", data := .seq vs.toArray }
/-- a pair of ints comes back -/
abbrev Pair (q r : Int) (v : Value) (post : List (Addr × Obj)) : Prop := ∃ x tq tr, v = .ref x ∧ post = [(x, tup [.int q tq, .int r tr])]


section
variable {prog : Program} {w : World} {A : Around} {E : Value → Shared → Prop} {s : Shared} {Q : Value → Shared → Prop}
theorem rsh {a : Int} {n : Nat} {t u : Tok} (h : ∀ t' tk, Q (.int (a / 2 ^ n) t') { s with toks := tk }) : wpAny (model prog w) A (binaryOp .RShift (.int a t) (.int (n : Int) u)) Q E s := by
  refine rshift_int (by omega) ?_
  rw [Int.toNat_natCast, Int.fdiv_eq_ediv_of_nonneg _ (Int.le_of_lt (pow_pos2 n))]
  exact h _ _
theorem lsh {a : Int} {n : Nat} {t u : Tok} (hz : Builtin.Int.intBits a + n ≤ 2 ^ 27) (h : ∀ t' tk, Q (.int (a * 2 ^ n) t') { s with toks := tk }) : wpAny (model prog w) A (binaryOp .LShift (.int a t) (.int (n : Int) u)) Q E s := by
  refine lshift_int (by omega) (by omega) ?_
  rw [Int.toNat_natCast]
  exact h _ _
theorem irsh {a : Int} {n : Nat} {t u : Tok} (h : ∀ t' tk, Q (.int (a / 2 ^ n) t') { s with toks := tk }) : wpAny (model prog w) A (inplaceOp .RShift (.int a t) (.int (n : Int) u)) Q E s := by
  refine irshift_int (by omega) ?_
  rw [Int.toNat_natCast, Int.fdiv_eq_ediv_of_nonneg _ (Int.le_of_lt (pow_pos2 n))]
  exact h _ _
theorem ilsh {a : Int} {n : Nat} {t u : Tok} (hz : Builtin.Int.intBits a + n ≤ 2 ^ 27) (h : ∀ t' tk, Q (.int (a * 2 ^ n) t') { s with toks := tk }) : wpAny (model prog w) A (inplaceOp .LShift (.int a t) (.int (n : Int) u)) Q E s := by
  refine ilshift_int (by omega) (by omega) ?_
  rw [Int.toNat_natCast]
  exact h _ _
theorem mulI {a b : Int} {t u : Tok} (hm : Builtin.Int.intBits a + Builtin.Int.intBits b ≤ 2 ^ 27) (h : ∀ t' tk, Q (.int (a * b) t') { s with toks := tk }) : wpAny (model prog w) A (binaryOp .Mult (.int a t) (.int b u)) Q E s := by
  refine mul_int (h _ _) ?_
  unfold IntMulOk Builtin.Int.intTooBig bitsLine
  simp only [Bool.and_eq_true, decide_eq_true_eq, not_and]
  omega
theorem bits_one : Builtin.Int.intBits 1 = 1 := by decide
end

theorem div2_base (w : World) (a b n : Int) (ta tb tn : Tok) (hb : 0 < b) (hl : b.natAbs.log2 < 9000) (hle : (Builtin.Int.intBits a : Int) - n ≤ 4000) :
    Spec PySem.Challenge.rw_rl0044_02.row.prog w (hd.heap_39 w.params) 700 5000 21 [.int a ta, .int b tb, .int n tn] [] (Pair (a / b) (a % b)) := by
  k_fill
  k_dflt (refine' Spec.plain (binds := [(Str.ofString "a", .int a ta), (Str.ofString "b", .int b tb), (Str.ofString "n", .int n tn)]) ?k1 ?k2 ?k3 ?k4 ?k5 ?_ ?c1 ?c2 ?c3 ?c4; ((case k1 => k_is); (case k2 => k_is); (case k3 => decide); (case k4 => intro s; exact BindsTo.of_eq rfl); (case k5 => exact locs rfl); (case c1 => exact rfl); (case c2 => exact rfl); (case c3 => exact rfl); (case c4 => decide)))
  intro p loose mean mg mb gd cn cs a₀ ccd cl outer base g L L' s hke F N B X T C1 C2
  (try dsimp only)
  k_fold
  refine wpAny_execs_cons ?_
  walk_at "mine:steps"
  rw [if_pos (decide_eq_true hle)]
  walk_at "mine:steps"
  refine divmod_N (by assumption) (by assumption) (by omega) ?_ (.inl (PyProof.noPylong_of_log2 hl))
  intro h' F' N'
  rw [Int.fdiv_eq_ediv_of_nonneg _ (Int.le_of_lt hb), Int.fmod_eq_emod_of_nonneg _ (Int.le_of_lt hb)] at N'
  show Done _ _ _ _ _
  exact ⟨_, _, _, F', N', ⟨_, _, _, rfl, rfl⟩, _, _, rfl⟩

/-- the arithmetic of one step: three halves by two -/
theorem div3_start1 {a12 a3 b b1 b2 p : Int} (hp : 0 < p) (hb1 : 0 < b1) (hb2 : 0 ≤ b2) (hb2' : b2 < p) (hb : b = b1 * p + b2) (h12 : 0 ≤ a12) (h12' : a12 < b) (h3 : 0 ≤ a3) (h3' : a3 < p) (hq : a12 / p = b1) :
    (p - 1) * b1 + (a12 - b1 * p + b1) = a12 ∧ 0 ≤ p - 1 ∧ p - 1 < p ∧ 0 ≤ a12 - b1 * p + b1 ∧ a12 - b1 * p + b1 < b1 + p ∧ (a12 - b1 * p + b1) * p + a3 - (p - 1) * b2 < b := by
  have e := Int.mul_ediv_add_emod a12 p
  have e1 := Int.emod_nonneg a12 (by omega : p ≠ 0)
  have e2 := Int.emod_lt_of_pos a12 hp
  rw [hq] at e
  generalize a12 % p = x at *
  have ec : p * b1 = b1 * p := Int.mul_comm _ _
  refine ⟨?_, by omega, by omega, by omega, by omega, ?_⟩
  · rw [Int.sub_mul, Int.mul_comm p b1]; omega
  · have hx : x < b2 := by omega
    have : a12 - b1 * p + b1 = x + b1 := by omega
    rw [this, Int.add_mul, Int.sub_mul]
    have h5 : x * p + p ≤ b2 * p := by
      have : (x + 1) * p ≤ b2 * p := Int.mul_le_mul_of_nonneg_right (by omega) (by omega)
      rw [Int.add_mul] at this; omega
    have ec2 : p * b2 = b2 * p := Int.mul_comm _ _
    omega
theorem div3_start2 {a12 a3 b b1 b2 p : Int} (hp : 0 < p) (hb1 : 0 < b1) (hb1' : b1 < p) (hb2 : 0 ≤ b2) (hb2' : b2 < p) (hb : b = b1 * p + b2) (h12 : 0 ≤ a12) (h12' : a12 < b) (h3 : 0 ≤ a3) (h3' : a3 < p) (hq : ¬ a12 / p = b1) :
    a12 / b1 * b1 + a12 % b1 = a12 ∧ 0 ≤ a12 / b1 ∧ a12 / b1 < p ∧ 0 ≤ a12 % b1 ∧ a12 % b1 < b1 + p ∧ a12 % b1 * p + a3 - a12 / b1 * b2 < b := by
  have e := Int.mul_ediv_add_emod a12 b1
  have e1 := Int.emod_nonneg a12 (by omega : b1 ≠ 0)
  have e2 := Int.emod_lt_of_pos a12 hb1
  have e3 := Int.ediv_nonneg h12 (Int.le_of_lt hb1)
  have hlt : a12 < b1 * p := by
    have h1 : a12 / p < b1 + 1 := Int.ediv_lt_of_lt_mul hp (by rw [Int.add_mul]; omega)
    have h2 : a12 / p < b1 := by omega
    exact Int.lt_mul_of_ediv_lt hp h2
  have hqp : a12 / b1 < p := Int.ediv_lt_of_lt_mul hb1 (by rw [Int.mul_comm]; exact hlt)
  refine ⟨by rw [Int.mul_comm]; exact e, e3, hqp, e1, by omega, ?_⟩
  have h4 : 0 ≤ a12 / b1 * b2 := Int.mul_nonneg e3 hb2
  have h5 : a12 % b1 * p + p ≤ b1 * p := by
    have : (a12 % b1 + 1) * p ≤ b1 * p := Int.mul_le_mul_of_nonneg_right (by omega) (by omega)
    rw [Int.add_mul] at this; omega
  omega

abbrev div3M (a12 a3 b b1 b2 : Int) (n : Nat) (t1 t2 t3 t4 t5 t6 : Tok) : Str → Option Value := fun y =>
  List.lookup y [(Str.ofString "a12", .int a12 t1), (Str.ofString "a3", .int a3 t2), (Str.ofString "b", .int b t3), (Str.ofString "b1", .int b1 t4), (Str.ofString "b2", .int b2 t5), (Str.ofString "n", .int n t6)].reverse
abbrev qrM (q : Int) (tq : Tok) (r : Int) (tr : Tok) (m : Str → Option Value) : Str → Option Value := fun y => if y = Str.ofString "q" then some (.int q tq) else if y = Str.ofString "r" then some (.int r tr) else m y

theorem div3 (w : World) (a12 a3 b b1 b2 : Int) (n : Nat) (t1 t2 t3 t4 t5 t6 : Tok) (hn : n ≤ 4000) (hb1 : 0 < b1) (hb1' : b1 < 2 ^ n) (hb2 : 0 ≤ b2) (hb2' : b2 < 2 ^ n) (hb : b = b1 * 2 ^ n + b2)
    (h12 : 0 ≤ a12) (h12' : a12 < b) (h3 : 0 ≤ a3) (h3' : a3 < 2 ^ n) :
    Spec PySem.Challenge.rw_rl0044_02.row.prog w (hd.heap_39 w.params) 699 4990 28 [.int a12 t1, .int a3 t2, .int b t3, .int b1 t4, .int b2 t5, .int n t6] [] (Pair ((a12 * 2 ^ n + a3) / b) ((a12 * 2 ^ n + a3) % b)) := by
  k_fill
  k_dflt (refine' Spec.plain (binds := [(Str.ofString "a12", .int a12 t1), (Str.ofString "a3", .int a3 t2), (Str.ofString "b", .int b t3), (Str.ofString "b1", .int b1 t4), (Str.ofString "b2", .int b2 t5), (Str.ofString "n", .int n t6)]) ?k1 ?k2 ?k3 ?k4 ?k5 ?_ ?c1 ?c2 ?c3 ?c4; ((case k1 => k_is); (case k2 => k_is); (case k3 => decide); (case k4 => intro s; exact BindsTo.of_eq rfl); (case k5 => exact locs rfl); (case c1 => exact rfl); (case c2 => exact rfl); (case c3 => exact rfl); (case c4 => decide)))
  intro p loose mean mg mb gd cn cs a₀ ccd cl outer base g L L' s hke F N B X T C1 C2
  (try dsimp only)
  k_fold
  have hp := pow_pos2 n
  refine execs_join (fun s' => ∃ q r tq tr h tk, s' = { s with heap := h, toks := tk } ∧ Fr g L' h (qrM q tq r tr (div3M a12 a3 b b1 b2 n t1 t2 t3 t4 t5 t6)) ∧ q * b1 + r = a12 ∧ 0 ≤ q ∧ q < 2 ^ n ∧ 0 ≤ r ∧ r < b1 + 2 ^ n ∧ r * 2 ^ n + a3 - q * b2 < b) ?_ ?_
  · walk_at "mine:steps"
    refine rsh fun _ _ => ?_
    (try dsimp only)
    walk_at "mine:steps"
    by_cases hq : a12 / 2 ^ n = b1
    · rw [if_pos (beq_iff_eq.mpr hq)]
      walk_at "mine:steps"
      refine lsh (by rw [bits_one]; omega) fun _ _ => ?_
      (try dsimp only)
      walk_at "mine:steps"
      refine lsh (by have := bits_le (Int.le_of_lt hb1) hb1'; omega) fun _ _ => ?_
      (try dsimp only)
      walk_at "mine:steps"
      have e9 := div3_start1 hp hb1 hb2 hb2' hb h12 h12' h3 h3' hq
      refine ⟨rfl, _, _, _, _, _, _, rfl, by assumption, ?_⟩
      rw [Int.one_mul]
      exact e9
    · rw [if_neg (by simpa using hq)]
      walk_at "mine:steps"
      have e9 := div3_start2 hp hb1 hb1' hb2 hb2' hb h12 h12' h3 h3' hq
      have hl : b1.natAbs.log2 < 9000 := by
        have := bits_le (Int.le_of_lt hb1) hb1'
        unfold Builtin.Int.intBits at this
        rw [if_neg (by simp; omega)] at this
        omega
      have hz : (Builtin.Int.intBits a12 : Int) - n ≤ 4000 := by
        have : a12 < 2 ^ (2 * n) := by
          have : (2 : Int) ^ (2 * n) = 2 ^ n * 2 ^ n := by rw [show 2 * n = n + n by omega, Int.pow_add]
          have h7 : (b1 + 1) * 2 ^ n ≤ 2 ^ n * 2 ^ n := Int.mul_le_mul_of_nonneg_right (by omega) (by omega)
          rw [Int.add_mul] at h7
          omega
        have := bits_le h12 this
        omega
      refine (div2_base w a12 b1 n _ _ _ (by omega) hl hz).use (by assumption) (by assumption) (by assumption) (by assumption) (by assumption) (by assumption) (by assumption) rfl (Nat.le_of_ble_eq_true rfl) (Nat.le_of_ble_eq_true rfl) ?_
      rintro r post h' tk' F' N' D' ⟨x, tq, tr, rfl, rfl⟩
      (try dsimp only)
      walk_at "mine:steps"
      rename Fr _ _ _ _ => Fz
      exact ⟨rfl, _, _, _, _, _, _, rfl, Fr.congr Fz (map_ext [Str.ofString "q", Str.ofString "r"] ⟨rfl, rfl, trivial⟩ (fun y ⟨h1, h2, _⟩ => by simp only [qrM, if_neg h1, if_neg h2])), e9⟩
  · clear F N
    rintro s' ⟨q, r, tq, tr, h, tk, rfl, F', e1, e2, e3, e4, e5, e6⟩
    have N' : News g L' h [] := News.nil
    walk_at "mine:steps"
    refine lsh ?_ fun _ _ => ?_
    · have : r < 2 ^ (n + 1) := by rw [Int.pow_succ]; omega
      have := bits_le e4 this
      omega
    (try dsimp only)
    walk_at "mine:steps"
    refine mulI (by have := bits_le e2 e3; have := bits_le hb2 hb2'; omega) fun _ _ => ?_
    (try dsimp only)
    rw [or_low _ _ _ h3 h3']
    have e7 : q * b + (r * 2 ^ n + a3 - q * b2) = a12 * 2 ^ n + a3 := by
      rw [hb, ← e1, Int.mul_add, Int.add_mul, Int.mul_assoc]; omega
    walk_at "mine:steps"
    refine while_rule (n := (-(r * 2 ^ n + a3 - q * b2)).toNat) (fun k s' => ∃ q r tq tr h tk, k = (-r).toNat ∧ s' = { s with heap := h, toks := tk } ∧ Fr g L' h (qrM q tq r tr (div3M a12 a3 b b1 b2 n t1 t2 t3 t4 t5 t6)) ∧ q * b + r = a12 * 2 ^ n + a3 ∧ r < b) PassesOwn.never ?_ ?_
    · clear e1 e2 e3 e4 e5 e6 e7
      rintro k s' ⟨q, r, tq, tr, h, tk, rfl, rfl, F', e1, e2⟩
      have N' : News g L' h [] := News.nil
      walk_at "mine:steps"
      by_cases hr : r < 0
      · refine WhlIf.yes (decide_eq_true hr) ?_
        walk_at "mine:steps"
        rename Fr _ _ _ _ => Fz
        refine ⟨_, ?_, _, _, _, _, _, _, rfl, rfl, Fr.congr Fz (map_ext [Str.ofString "q", Str.ofString "r"] ⟨rfl, rfl, trivial⟩ (fun y ⟨h1, h2, _⟩ => by simp only [qrM, if_neg h1, if_neg h2])), ?_, ?_⟩
        · omega
        · rw [Int.sub_mul]; omega
        · omega
      · refine WhlIf.no (decide_eq_false hr) ?_
        walk_at "mine:steps"
        show Done _ _ _ _ _
        obtain ⟨h8, h9⟩ := divmod_of e1 (by omega) e2
        rw [h8, h9]
        exact ⟨_, _, _, by assumption, by assumption, ⟨_, _, _, rfl, rfl⟩, _, _, rfl⟩
    · rename Fr _ _ _ _ => Fz
      exact ⟨_, _, _, _, _, _, rfl, rfl, Fr.congr Fz (map_ext [Str.ofString "q", Str.ofString "r"] ⟨rfl, rfl, trivial⟩ (fun y ⟨h1, h2, _⟩ => by simp only [qrM, if_neg h1, if_neg h2])), e7, e6⟩

end
section
theorem resetF2 : True := by
  w_top off
  exact trivial





abbrev div2M (a b n : Int) (ta tb tn : Tok) : Str → Option Value := fun y =>
  List.lookup y [(Str.ofString "a", .int a ta), (Str.ofString "b", .int b tb), (Str.ofString "n", .int n tn)].reverse
abbrev padM (a b n p : Int) (ta tb tn tp : Tok) (m : Str → Option Value) : Str → Option Value := fun y =>
  if y = Str.ofString "a" then some (.int a ta) else if y = Str.ofString "b" then some (.int b tb) else if y = Str.ofString "n" then some (.int n tn) else if y = Str.ofString "pad" then some (.int p tp) else m y

theorem pad_facts {a b a' b' pd : Int} {n k : Nat} (hn1 : 4000 < n) (hn : n ≤ 7998) (hb : 2 ^ (n - 1) ≤ b) (hb' : b < 2 ^ n) (ha : 0 ≤ a) (ha' : a < b * 2 ^ n)
    (hc : pd = 0 ∧ a' = a ∧ b' = b ∧ 2 * k = n ∨ pd = 1 ∧ a' = a * 2 ∧ b' = b * 2 ∧ 2 * k = n + 1) :
    1 ≤ k ∧ k ≤ 4000 ∧ 0 < b' ∧ 2 ^ k ≤ b' ∧ b' < 2 ^ (2 * k) ∧ 0 ≤ a' ∧ a' < b' * 2 ^ (2 * k) := by
  have hpn := pow_pos2 n
  have hp1 := pow_pos2 (n - 1)
  rcases hc with ⟨_, rfl, rfl, h⟩ | ⟨_, rfl, rfl, h⟩
  · have e : (2 : Int) ^ (n - 1) = 2 ^ k * 2 ^ (k - 1) := by rw [← Int.pow_add]; congr 1; omega
    have hm : (2 : Int) ^ k * 1 ≤ 2 ^ k * 2 ^ (k - 1) := Int.mul_le_mul_of_nonneg_left (by have := pow_pos2 (k - 1); omega) (Int.le_of_lt (pow_pos2 k))
    subst h
    exact ⟨by omega, by omega, by omega, by omega, hb', ha, ha'⟩
  · have e : (2 : Int) ^ n = 2 ^ k * 2 ^ (k - 1) := by rw [← Int.pow_add]; congr 1; omega
    have hm : (2 : Int) ^ k * 1 ≤ 2 ^ k * 2 ^ (k - 1) := Int.mul_le_mul_of_nonneg_left (by have := pow_pos2 (k - 1); omega) (Int.le_of_lt (pow_pos2 k))
    have e2 : (2 : Int) ^ n = 2 ^ (n - 1) * 2 := by rw [← Int.pow_succ]; congr 1; omega
    have e3 : (2 : Int) ^ (2 * k) = 2 ^ n * 2 := by rw [h, Int.pow_succ]
    have hbn : 0 ≤ b * 2 ^ n := Int.mul_nonneg (by omega) (by omega)
    refine ⟨by omega, by omega, by omega, by omega, by omega, by omega, ?_⟩
    rw [e3]
    have : b * 2 * (2 ^ n * 2) = b * 2 ^ n * 4 := by
      rw [Int.mul_assoc b 2, Int.mul_assoc b (2 ^ n) 4]; congr 1; omega
    omega

theorem div2 (w : World) (a b : Int) (n : Nat) (ta tb tn : Tok) (hn1 : 1 ≤ n) (hn : n ≤ 7998) (hb : 2 ^ (n - 1) ≤ b) (hb' : b < 2 ^ n) (ha : 0 ≤ a) (ha' : a < b * 2 ^ n) :
    Spec PySem.Challenge.rw_rl0044_02.row.prog w (hd.heap_39 w.params) 698 4980 21 [.int a ta, .int b tb, .int n tn] [] (Pair (a / b) (a % b)) := by
  have hb0 : 0 < b := Int.lt_of_lt_of_le (pow_pos2 _) hb
  by_cases hle : (Builtin.Int.intBits a : Int) - n ≤ 4000
  · refine (div2_base w a b n ta tb tn hb0 ?_ hle).mono (by decide) (by decide) fun _ _ x => x
    have := bits_le (Int.le_of_lt hb0) hb'
    unfold Builtin.Int.intBits at this
    rw [if_neg (by simp; omega)] at this
    omega
  have hn4 : 4000 < n := by
    have h1 : a < 2 ^ (2 * n) := by
      have e : (2 : Int) ^ (2 * n) = 2 ^ n * 2 ^ n := by rw [show 2 * n = n + n by omega, Int.pow_add]
      have h7 : b * 2 ^ n ≤ 2 ^ n * 2 ^ n := Int.mul_le_mul_of_nonneg_right (Int.le_of_lt hb') (Int.le_of_lt (pow_pos2 n))
      omega
    have := bits_le ha h1
    omega
  k_fill
  k_dflt (refine' Spec.plain (binds := [(Str.ofString "a", .int a ta), (Str.ofString "b", .int b tb), (Str.ofString "n", .int n tn)]) ?k1 ?k2 ?k3 ?k4 ?k5 ?_ ?c1 ?c2 ?c3 ?c4; ((case k1 => k_is); (case k2 => k_is); (case k3 => decide); (case k4 => intro s; exact BindsTo.of_eq rfl); (case k5 => exact locs rfl); (case c1 => exact rfl); (case c2 => exact rfl); (case c3 => exact rfl); (case c4 => decide)))
  intro p loose mean mg mb gd cn cs a₀ ccd cl outer base g L L' s hke F N B X T C1 C2
  (try dsimp only)
  k_fold
  refine wpAny_execs_cons ?_
  walk_at "mine:steps"
  rw [if_neg (by simpa using hle)]
  walk_at "mine:steps"
  rw [bitAnd_m1] at *
  refine execs_join (fun s' => ∃ a' b' pd k ta' tb' tn' tp h tk, s' = { s with heap := h, toks := tk } ∧ Fr g L' h (padM a' b' ((2 * k : Nat) : Int) pd ta' tb' tn' tp (div2M a b n ta tb tn)) ∧ (pd = 0 ∧ a' = a ∧ b' = b ∧ 2 * k = n ∨ pd = 1 ∧ a' = a * 2 ∧ b' = b * 2 ∧ 2 * k = n + 1)) ?_ ?_
  · walk_at "mine:steps"
    by_cases hpd : (n : Int) % 2 = 0
    · rw [if_neg (by simpa using hpd)]
      walk_at "mine:steps"
      rename Fr _ _ _ _ => Fz
      have hk : 2 * (n / 2) = n := by omega
      refine ⟨rfl, a, b, (n : Int) % 2, n / 2, ta, tb, tn, _, _, _, rfl, Fr.congr Fz (map_ext [Str.ofString "a", Str.ofString "b", Str.ofString "n", Str.ofString "pad"] ⟨rfl, rfl, by rw [hk]; rfl, rfl, trivial⟩ (fun y ⟨h1, h2, h3, h4, _⟩ => by simp only [padM, div2M, if_neg h1, if_neg h2, if_neg h3, if_neg h4])), .inl ⟨hpd, rfl, rfl, hk⟩⟩
    · rw [if_pos (by simpa using hpd)]
      walk_at "mine:steps"
      have hab : Builtin.Int.intBits a ≤ 2 * n := bits_le ha (by
        have e : (2 : Int) ^ (2 * n) = 2 ^ n * 2 ^ n := by rw [show 2 * n = n + n by omega, Int.pow_add]
        have h7 : b * 2 ^ n ≤ 2 ^ n * 2 ^ n := Int.mul_le_mul_of_nonneg_right (Int.le_of_lt hb') (Int.le_of_lt (pow_pos2 n))
        omega)
      have hbb := bits_le (Int.le_of_lt hb0) hb'
      refine ilsh (n := 1) (by omega) fun _ _ => ?_
      (try dsimp only)
      walk_at "mine:steps"
      refine ilsh (n := 1) (by omega) fun _ _ => ?_
      (try dsimp only)
      walk_at "mine:steps"
      rename Fr _ _ _ _ => Fz
      have hk : 2 * ((n + 1) / 2) = n + 1 := by omega
      refine ⟨rfl, a * 2 ^ 1, b * 2 ^ 1, (n : Int) % 2, (n + 1) / 2, _, _, _, _, _, _, rfl, Fr.congr Fz (map_ext [Str.ofString "a", Str.ofString "b", Str.ofString "n", Str.ofString "pad"] ⟨rfl, rfl, by rw [hk]; rfl, rfl, trivial⟩ (fun y ⟨h1, h2, h3, h4, _⟩ => by simp only [padM, div2M, if_neg h1, if_neg h2, if_neg h3, if_neg h4])), .inr ⟨by omega, by omega, by omega, hk⟩⟩
  · rename_i F9 N9
    clear F9 N9
    rintro s' ⟨a', b', pd, k, ta', tb', tn', tp, h, tk, rfl, F', hcase⟩
    have N' : News g L' h [] := News.nil
    obtain ⟨hk1, hk4, hb0', hbk, hbk', ha0, hak⟩ := pad_facts hn4 hn hb hb' ha ha' hcase
    have hpk := pow_pos2 k
    have epp : (2 : Int) ^ (2 * k) = 2 ^ k * 2 ^ k := by rw [show 2 * k = k + k by omega, Int.pow_add]
    walk_at "mine:steps"
    refine rsh (n := 1) fun _ _ => ?_
    (try dsimp only)
    rw [show ((2 * k : Nat) : Int) / 2 ^ 1 = (k : Int) by omega]
    walk_at "mine:steps"
    refine lsh (by rw [bits_one]; omega) fun _ _ => ?_
    (try dsimp only)
    rw [Int.one_mul]
    walk_at "mine:steps"
    refine rsh fun _ _ => ?_
    (try dsimp only)
    walk_at "mine:steps"
    rw [kbt_mask] at *
    refine rsh fun _ _ => ?_
    (try dsimp only)
    walk_at "mine:steps"
    refine rsh fun _ _ => ?_
    (try dsimp only)
    walk_at "mine:steps"
    rw [kbt_mask]
    have hb1 : 0 < b' / 2 ^ k := Int.lt_of_lt_of_le (by decide : (0 : Int) < 1) ((Int.le_ediv_iff_mul_le hpk).mpr (by omega))
    have hb1' : b' / 2 ^ k < 2 ^ k := Int.ediv_lt_of_lt_mul hpk (by omega)
    have hb2 := Int.emod_nonneg b' (by omega : (2 : Int) ^ k ≠ 0)
    have hb2' := Int.emod_lt_of_pos b' hpk
    have hbe : b' = b' / 2 ^ k * 2 ^ k + b' % 2 ^ k := by rw [Int.mul_comm]; exact (Int.mul_ediv_add_emod _ _).symm
    have h12 : 0 ≤ a' / 2 ^ (2 * k) := Int.ediv_nonneg ha0 (Int.le_of_lt (pow_pos2 _))
    have h12' : a' / 2 ^ (2 * k) < b' := Int.ediv_lt_of_lt_mul (pow_pos2 _) hak
    have h3 := Int.emod_nonneg (a' / 2 ^ k) (by omega : (2 : Int) ^ k ≠ 0)
    have h3' := Int.emod_lt_of_pos (a' / 2 ^ k) hpk
    refine (div3 w _ _ b' _ _ k _ _ _ _ _ _ hk4 hb1 hb1' hb2 hb2' hbe h12 h12' h3 h3').use (by assumption) (by assumption) (by assumption) (by assumption) (by assumption) (by assumption) (by assumption) rfl (Nat.le_of_ble_eq_true rfl) (Nat.le_of_ble_eq_true rfl) ?_
    rintro r post h' tk' F' N' D' ⟨x, tq, tr, rfl, rfl⟩
    rw [div2_parts] at N'
    (try dsimp only)
    walk_at "mine:steps"
    rw [kbt_mask]
    have h12 := Int.emod_nonneg (a' / 2 ^ k) (by omega : b' ≠ 0)
    have h12' := Int.emod_lt_of_pos (a' / 2 ^ k) hb0'
    have h3 := Int.emod_nonneg a' (by omega : (2 : Int) ^ k ≠ 0)
    have h3' := Int.emod_lt_of_pos a' hpk
    refine (div3 w _ _ b' _ _ k _ _ _ _ _ _ hk4 hb1 hb1' hb2 hb2' hbe h12 h12' h3 h3').use (by assumption) (by assumption) (by assumption) (by assumption) (by assumption) (by assumption) (by assumption) rfl (Nat.le_of_ble_eq_true rfl) (Nat.le_of_ble_eq_true rfl) ?_
    rintro r post h' tk' F' N' D' ⟨x, tq, tr, rfl, rfl⟩
    obtain ⟨m1, m2, m3, m4⟩ := div2_math (a := a') hpk hb0'
    have hq0 : 0 ≤ a' / 2 ^ k / b' := Int.ediv_nonneg (Int.ediv_nonneg ha0 (Int.le_of_lt hpk)) (Int.le_of_lt hb0')
    have hq1 : a' / 2 ^ k / b' < 2 ^ k := Int.ediv_lt_of_lt_mul hb0' (Int.ediv_lt_of_lt_mul hpk (by rw [Int.mul_comm (2 ^ k) b', Int.mul_assoc, ← epp]; exact hak))
    have hqb := bits_le hq0 hq1
    (try dsimp only)
    walk_at "mine:steps"
    refine wpAny_execs_cons ?_
    walk_at "mine:steps"
    rcases hcase with ⟨rfl, rfl, rfl, hk⟩ | ⟨rfl, rfl, rfl, hk⟩
    · rw [if_neg (by decide)]
      walk_at "mine:steps"
      refine lsh (by omega) fun _ _ => ?_
      (try dsimp only)
      walk_at "mine:steps"
      rename News _ _ _ _ => Nz
      rw [or_low _ _ _ m3 m4, m1, m2] at Nz
      show Done _ _ _ _ _
      exact ⟨_, _, _, by assumption, news_head (by assumption), ⟨_, _, _, rfl, rfl⟩, _, _, rfl⟩
    · rw [if_pos (by decide)]
      walk_at "mine:steps"
      refine irsh (n := 1) fun _ _ => ?_
      (try dsimp only)
      walk_at "mine:steps"
      refine lsh (by omega) fun _ _ => ?_
      (try dsimp only)
      walk_at "mine:steps"
      have m5 : a * 2 / (b * 2) = a / b := Int.mul_ediv_mul_of_pos_left _ _ (by decide)
      have m6 : a * 2 % (b * 2) / 2 ^ 1 = a % b := by
        have e1 := Int.mul_ediv_add_emod a b
        have e2 := Int.emod_nonneg a (by omega : b ≠ 0)
        have e3 := Int.emod_lt_of_pos a hb0
        rw [(divmod_of (A := a * 2) (b := b * 2) (q := a / b) (r := a % b * 2) (by rw [← Int.mul_assoc, Int.mul_comm (a / b) b]; omega) (by omega) (by omega)).2]
        omega
      rename News _ _ _ _ => Nz
      rw [or_low _ _ _ m3 m4, m1, m2, m5, m6] at Nz
      show Done _ _ _ _ _
      exact ⟨_, _, _, by assumption, news_head (by assumption), ⟨_, _, _, rfl, rfl⟩, _, _, rfl⟩

end
section
theorem resetF3 : True := by
  w_top off
  exact trivial






/-- an object that is the code of the def of that name -/
noncomputable def CodeOk (o : Obj) (qual : Str) : Prop := ∃ vs t, o.data = .fields vs ∧ vs[1]? = some (.str qual t)
/-- the table of a def's codes, filled -/
noncomputable def TabIs (P : Addr) (line col : Nat) (qual : Str) (l : List (Addr × Obj)) : Prop :=
  ∃ c o, l = [(P, tabObj #[rawInt line, rawInt col, .ref c]), (c, o)] ∧ CodeOk o qual ∧ c ≠ P
noncomputable def TabA : List (Addr × Obj) → Prop := TabIs 30 32 4 (Str.ofString "_int2digits.<locals>.inner")
noncomputable def TabB : List (Addr × Obj) → Prop := TabIs 37 47 4 (Str.ofString "_digits2int.<locals>.inner")

noncomputable def DigitsPost (n : Nat) (a : Int) (v : Value) (post : List (Addr × Obj)) : Prop :=
  ∃ x vs ep l, v = .ref x ∧ post = (x, listOf vs.toArray ep) :: l ∧ IntsAre vs (digitsOf n a ((Builtin.Int.intBits a + n - 1) / n)) ∧ TabA l ∧ ∀ q ∈ l, x ≠ q.1

theorem ints_rep (c : Int) (t : Tok) : ∀ k : Nat, IntsAre (List.replicate k (.int c t)) (List.replicate k c)
  | 0 => .nil
  | k + 1 => .cons c t (ints_rep c t k)
theorem rep_flat (v : Value) : ∀ k : Nat, (List.replicate k [v]).flatten = List.replicate k v
  | 0 => rfl
  | k + 1 => by rw [List.replicate_succ, List.flatten_cons, rep_flat v k]; rfl

/-- what the def within _int2digits does: it lays the figures of x, from place lo on -/
noncomputable def InnerA (w : World) (n : Nat) (tn : Tok) (nm : Str) (ps : Arguments) (bd : List Stmt) (sc : Scope) : Prop :=
  ∀ (f c aI aA aN la : Addr) (oc oI oA oN : Obj) (doc pm ctv : Value) (ep : Nat), CodeOk oc (Str.ofString "_int2digits.<locals>.inner") → oI.data = .cell (some (.ref f)) → oA.data = .cell (some (.ref la)) → oN.data = .cell (some (.int n tn)) →
      ApartL [(la, oc)] [(f, oc), (c, oc), (aI, oI), (aA, oA), (aN, oN)] →
      ∀ (k dp un : Nat) (x : Int) (lo : Nat) (ns : List Int) (vs : List Value) (tx tl th : Tok), 1 ≤ k → dp + k ≤ 700 → lo + k ≤ ns.length → ns.length ≤ 1000 → 0 ≤ x → x < 2 ^ (k * n) → k ≤ 60 → IntsAre vs ns →
      Spec PySem.Challenge.rw_rl0044_02.row.prog w (hd.heap_39 w.params) dp un f [.int x tx, .int lo tl, .int ((lo + k : Nat) : Int) th]
        [(f, fnMade nm (Str.ofString "_int2digits.<locals>.inner") ps bd sc [(Str.ofString "n", aN), (Str.ofString "inner", aI), (Str.ofString "a_digits", aA)] doc pm c ctv), (c, oc), (aI, oI), (aA, oA), (aN, oN), (la, listOf vs.toArray ep)]
        (fun v post => v = .none ∧ ∃ vs', IntsAre vs' (put lo (digitsOf n x k) ns) ∧
          post = [(f, fnMade nm (Str.ofString "_int2digits.<locals>.inner") ps bd sc [(Str.ofString "n", aN), (Str.ofString "inner", aI), (Str.ofString "a_digits", aA)] doc pm c ctv), (c, oc), (aI, oI), (aA, oA), (aN, oN), (la, listOf vs'.toArray ep)])

theorem innerA (w : World) (n : Nat) (tn : Tok) (hn1 : 1 ≤ n) (hn : n ≤ 10000) : AtDef (InnerA w n tn) (stmtsOf (hd.heap_39 w.params) 35) := by
  have hpg : PySem.Challenge.rw_rl0044_02.row.prog = PySem.Challenge.rw_rl0044_02.row.prog := rfl
  revert hpg
  k_fill
  intro _
  k_dflt (rw [stmtsOf_is ?k1]; rotate_left; (case k1 => k_is))
  show InnerA w n tn _ _ _ _
  rintro f c aI aA aN la oc oI oA oN doc pm ctv ep ⟨cvs, ctk, hcd, hcv⟩ dI dA dN hap
  simp only [ApartL, AllNe, and_true, and_assoc] at hap
  (try replace hap := Hid.mk hap)
  intro k
  induction k using Nat.strongRecOn with
  | ind k ih =>
    intro dp un x lo ns vs tx tl th hk1 hdp hlo hns hx hx' hk60 hI
    k_dflt (refine' Spec.nest (binds := [(Str.ofString "x", .int x tx), (Str.ofString "L", .int lo tl), (Str.ofString "R", .int ((lo + k : Nat) : Int) th)]) ?k1 ?k2 hcd hcv ?k3 ?k4 ?k5 ?_ ?c1 ?c2 ?c3 ?c4; (case k1 => k_mem); (case k2 => k_mem); (case k3 => (show dp < 1000); omega); (case k4 => intro s; exact BindsTo.of_eq rfl); (case k5 => exact locs rfl); (case c1 => exact rfl); (case c2 => exact rfl); (case c3 => exact rfl); (case c4 => decide))
    intro p loose mean mg mb gd cn cs a₀ ccd cl outer base g L L' s hke F N B X T C1 C2
    (try dsimp only)
    k_fold
    refine wpAny_execs_cons ?_
    walk_at "mine:steps"
    by_cases hk : k = 1
    · subst hk
      rw [if_pos (by simp)]
      walk_at "mine:steps"
      show Done _ _ _ _ _
      rename IntsAre (List.set _ _ _) _ => hI2
      refine ⟨_, _, _, by assumption, by assumption, ⟨rfl, _, ?_, rfl⟩, _, _, rfl⟩
      rw [digits_one hx (by simpa using hx'), put_one (by omega)]
      exact hI2
    · rw [if_neg (by simp; omega)]
      walk_at "mine:steps"
      (try dsimp only)
      rw [show (lo : Int) + ((lo + k : Nat) : Int) = ((2 * lo + k : Nat) : Int) by omega]
      refine rsh (n := 1) fun _ _ => ?_
      (try dsimp only)
      rw [show ((2 * lo + k : Nat) : Int) / 2 ^ 1 = ((lo + k / 2 : Nat) : Int) by omega]
      walk_at "mine:steps"
      (try dsimp only)
      rw [show ((lo + k / 2 : Nat) : Int) - lo = ((k / 2 : Nat) : Int) by omega]
      have hn64 : Builtin.Int.intBits (n : Int) ≤ 20 := bits_le (by omega) (by omega)
      have hk64 : Builtin.Int.intBits ((k / 2 : Nat) : Int) ≤ 20 := bits_le (by omega) (by omega)
      refine mulI (by omega) fun _ _ => ?_
      rw [show ((k / 2 : Nat) : Int) * (n : Int) = ((k / 2 * n : Nat) : Int) by simp]
      (try dsimp only)
      walk_at "mine:steps"
      refine rsh fun _ _ => ?_
      (try dsimp only)
      walk_at "mine:steps"
      (try dsimp only)
      have hu0 : 0 ≤ x / 2 ^ (k / 2 * n) := Int.ediv_nonneg hx (Int.le_of_lt (pow_pos2 _))
      have hu1 : x / 2 ^ (k / 2 * n) < 2 ^ ((k - k / 2) * n) := by
        refine Int.ediv_lt_of_lt_mul (pow_pos2 _) ?_
        rw [← Int.pow_add, ← Nat.add_mul, show k - k / 2 + k / 2 = k by omega]
        exact hx'
      have hub := bits_le hu0 hu1
      have hkn : (k - k / 2) * n ≤ 60 * 10000 := Nat.mul_le_mul (by omega) hn
      have hkn2 : k / 2 * n ≤ 60 * 10000 := Nat.mul_le_mul (by omega) hn
      refine lsh (by omega) fun _ _ => ?_
      (try dsimp only)
      walk_at "mine:steps"
      rw [xor_high]
      have hp2 := pow_pos2 (k / 2 * n)
      refine (ih (k / 2) (by omega) (dp + 1) (un + 3) (x % 2 ^ (k / 2 * n)) lo ns vs _ _ _ (by omega) (by omega) (by omega) hns (Int.emod_nonneg _ (by omega)) (Int.emod_lt_of_pos _ hp2) (by omega) hI).at [] (by assumption) (by assumption) (by assumption) (by assumption) (by k_subL) (by ((try simp only [List.cons_append, List.nil_append, ApartL, AllNe, and_true]); (repeat' (first | exact True.intro | refine And.intro ?_ ?_)); all_goals k_ne)) (by assumption) (by assumption) (by assumption) rfl (Nat.le_refl _) (Nat.le_refl _) ?_
      rintro r post h' tk' F' N' D' ⟨rfl, vs2, hI2, rfl⟩
      (try dsimp only)
      walk_at "mine:steps"
      have hl2 : (put lo (digitsOf n (x % 2 ^ (k / 2 * n)) (k / 2)) ns).length = ns.length := put_length (by rw [digits_length]; omega)
      rw [show lo + k = (lo + k / 2) + (k - k / 2) by omega]
      refine (ih (k - k / 2) (by omega) (dp + 1) (un + 3) (x / 2 ^ (k / 2 * n)) (lo + k / 2) (put lo (digitsOf n (x % 2 ^ (k / 2 * n)) (k / 2)) ns) vs2 _ _ _ (by omega) (by omega) (by omega) (by omega) hu0 hu1 (by omega) hI2).at [] (by assumption) (by assumption) (by assumption) (by assumption) (by k_subL) (by ((try simp only [List.cons_append, List.nil_append, ApartL, AllNe, and_true]); (repeat' (first | exact True.intro | refine And.intro ?_ ?_)); all_goals k_ne)) (by assumption) (by assumption) (by assumption) rfl (Nat.le_refl _) (Nat.le_refl _) ?_
      rintro r post h' tk' F' N' D' ⟨rfl, vs3, hI3, rfl⟩
      (try dsimp only)
      walk_at "mine:steps"
      show Done _ _ _ _ _
      refine ⟨_, _, _, F', N', ⟨rfl, vs3, ?_, rfl⟩, _, _, rfl⟩
      have e1 := put_put (lo := lo) (d1 := digitsOf n (x % 2 ^ (k / 2 * n)) (k / 2)) (d2 := digitsOf n (x / 2 ^ (k / 2 * n)) (k - k / 2)) (ns := ns) (by rw [digits_length, digits_length]; omega)
      rw [digits_length, ← digits_split, show k / 2 + (k - k / 2) = k by omega] at e1
      rw [← e1]
      exact hI3


end
section
theorem resetF4 : True := by
  w_top off
  exact trivial






theorem int2digits (w : World) (a : Int) (n : Nat) (ta tn : Tok) (hn1 : 1 ≤ n) (hn : n ≤ 10000) (ha : 0 ≤ a) (hab : Builtin.Int.intBits a ≤ 20000) (hK : (Builtin.Int.intBits a + n - 1) / n ≤ 50)
    (l : List (Addr × Obj)) (hl : l = [(30, tabObj #[])] ∨ TabA l) :
    Spec PySem.Challenge.rw_rl0044_02.row.prog w (hd.heap_39 w.params) 600 4000 35 [.int a ta, .int n tn] l (DigitsPost n a) := by
  obtain ⟨K, eK⟩ : ∃ K, K = (Builtin.Int.intBits a + n - 1) / n := ⟨_, rfl⟩
  have eK' : ((Builtin.Int.intBits a : Int) + n - 1).fdiv n = (K : Int) := by
    rw [Int.fdiv_eq_ediv_of_nonneg _ (by omega), eK]
    have : ((Builtin.Int.intBits a : Int) + n - 1) = ((Builtin.Int.intBits a + n - 1 : Nat) : Int) := by omega
    rw [this]; rfl
  rw [← eK] at hK
  k_fill
  have hin := innerA w n tn hn1 hn
  k_dflt (rw [stmtsOf_is ?k1] at hin; rotate_left; (case k1 => k_is))
  replace hin : InnerA w n tn _ _ _ _ := hin
  rcases hl with rfl | ⟨c0, o0, rfl, hok, hne⟩
  · k_dflt (refine' Spec.cells (binds := [(Str.ofString "a", .int a ta), (Str.ofString "n", .int n tn)]) ?k1 ?k2 ?k3 ?k4 ?k5 ?k6 ?_ ?c1 ?c2 ?c3; ((case k1 => k_is); (case k2 => k_is); (case k3 => decide); (case k4 => intro s; exact BindsTo.of_eq rfl); (case k5 => exact rfl); (case k6 => decide +kernel); (case c1 => exact rfl); (case c2 => exact rfl); (case c3 => exact rfl)))
    intro p loose mean mg mb gd cn cs a₀ ccd cl outer base g L L' s cells hke F N Y l1 B X T C1 C2
    k_lt l1
    obtain ⟨oI, oA, oN, rfl, dI, dA, dN⟩ := CellsAre.three Y
    replace dI : oI.data = .cell none := dI
    replace dA : oA.data = .cell none := dA
    replace dN : oN.data = .cell (some (.int n tn)) := dN
    replace F : Fr g L' s.heap (fun y => if y = Str.ofString "a" then some (.int a ta) else none) := F
    replace N : News g L' s.heap [(L' + 1 + 1 + 1, oI), (L' + 1 + 1, oA), (L' + 1, oN), (30, tabObj #[])] := N
    clear Y
    show wpAny _ _ _ _ _ _
    k_fold
    walk_at "mine:steps"
    (try dsimp only)
    rw [eK']
    refine KMa.mul (vs := [.int 0 s.toks]) (by assumption) (by assumption) (by is_list) (by omega) (by omega) (by simp; omega) (rep_flat _ _) ?_
    intro D h' F' N' l2
    k_lt l2
    rw [Int.toNat_natCast] at N'
    have hI := ints_rep 0 s.toks K
    (try dsimp only)
    walk_at "mine:steps"
    refine wpAny_execs_cons ?_
    walk_at "mine:steps"
    rename_i h2 oA2 dA2 f c oc cvs ct ctv dc h3 tk3 d1 d2 l3 l4 h4 oI2 F4 N4 dI2
    (try dsimp only)
    refine wpAny_execs_cons ?_
    walk_at "mine:steps"
    by_cases h0 : a = 0
    · subst h0
      rw [if_neg (by decide)]
      walk_at "mine:steps"
      show Done _ _ _ _ _
      have hK0 : K = 0 := by
        rw [eK, show Builtin.Int.intBits 0 = 0 from rfl, Nat.zero_add]
        exact Nat.div_eq_of_lt (by omega)
      refine ⟨_, _, [(D, listOf (List.replicate K (.int 0 s.toks)).toArray 0), (30, tabObj #[rawInt 32, rawInt 4, .ref c]), (c, oc)], by assumption, news_sub N4 (by k_subL), ⟨D, _, _, _, rfl, rfl, ?_, ⟨c, oc, rfl, ⟨cvs, ct, d1, d2⟩, by refine neN ?_; omega⟩, ?_⟩, _, _, rfl⟩
      · rw [← eK, hK0]; exact .nil
      · exact AllNe.of (a := D) (l := [(30, tabObj #[rawInt 32, rawInt 4, .ref c]), (c, oc)]) (by ((try simp only [AllNe, and_true]); (repeat' (first | exact True.intro | refine And.intro ?_ ?_)); all_goals k_ne))
    · rw [if_pos (by simpa using h0)]
      walk_at "mine:steps"
      refine len_list (N4.isList (by k_mem)) (by simp; omega) ?_
      (try dsimp only)
      rw [List.size_toArray, List.length_replicate]
      walk_at "mine:steps"
      have hbK : Builtin.Int.intBits a ≤ K * n := by
        have e1 := Nat.div_add_mod (Builtin.Int.intBits a + n - 1) n
        have e2 := Nat.mod_lt (Builtin.Int.intBits a + n - 1) (by omega : 0 < n)
        rw [← eK, Nat.mul_comm] at e1
        omega
      have haK : a < 2 ^ (K * n) := Int.lt_of_lt_of_le (bits_lt ha) (by
        have := Nat.pow_le_pow_right (n := 2) (by decide) hbK
        have e : ∀ j : Nat, (2 : Int) ^ j = ((2 ^ j : Nat) : Int) := fun j => by simp
        rw [e, e]; omega)
      have hK1 : 1 ≤ K := by
        have h8 : 0 < a := by omega
        have := (bits_ge h8).1
        rcases Nat.eq_zero_or_pos K with h9 | h9
        · rw [h9] at hbK; omega
        · exact h9
      rw [show (K : Int) = ((0 + K : Nat) : Int) by omega]
      refine (hin f c (L' + 1 + 1 + 1) (L' + 1 + 1) (L' + 1) D oc oI2 oA2 oN dc ((mg "__name__").getD .none) ctv 0 ⟨cvs, ct, d1, d2⟩ dI2 dA2 dN (by ((try simp only [List.cons_append, List.nil_append, ApartL, AllNe, and_true]); (repeat' (first | exact True.intro | refine And.intro ?_ ?_)); all_goals k_ne)) K 601 4003 a 0 (List.replicate K 0) (List.replicate K (.int 0 s.toks)) _ _ _ hK1 (by omega) (by simp) (by simp; omega) ha haK (by omega) hI).at
        [(30, tabObj #[rawInt 32, rawInt 4, .ref c])] (by assumption) (by assumption) (by assumption) N4 (by k_subL) (by ((try simp only [List.cons_append, List.nil_append, ApartL, AllNe, and_true]); (repeat' (first | exact True.intro | refine And.intro ?_ ?_)); all_goals k_ne)) (by assumption) (by assumption) (by assumption) rfl (Nat.le_refl _) (Nat.le_refl _) ?_
      rintro r post h' tk' F' N' D' ⟨rfl, vs2, hI2, rfl⟩
      (try dsimp only)
      walk_at "mine:steps"
      show Done _ _ _ _ _
      refine ⟨_, _, [(D, listOf vs2.toArray 0), (30, tabObj #[rawInt 32, rawInt 4, .ref c]), (c, oc)], F', news_sub N' (by k_subL), ⟨D, _, _, _, rfl, rfl, ?_, ⟨c, oc, rfl, ⟨cvs, ct, d1, d2⟩, by refine neN ?_; omega⟩, ?_⟩, _, _, rfl⟩
      · rw [← eK]
        have e := put_whole (digitsOf n a K)
        rw [digits_length] at e
        rw [← e]; exact hI2
      · exact AllNe.of (a := D) (l := [(30, tabObj #[rawInt 32, rawInt 4, .ref c]), (c, oc)]) (by ((try simp only [AllNe, and_true]); (repeat' (first | exact True.intro | refine And.intro ?_ ?_)); all_goals k_ne))
  · k_dflt (refine' Spec.cells (binds := [(Str.ofString "a", .int a ta), (Str.ofString "n", .int n tn)]) ?k1 ?k2 ?k3 ?k4 ?k5 ?k6 ?_ ?c1 ?c2 ?c3; ((case k1 => k_is); (case k2 => k_is); (case k3 => decide); (case k4 => intro s; exact BindsTo.of_eq rfl); (case k5 => exact rfl); (case k6 => decide +kernel); (case c1 => exact rfl); (case c2 => exact rfl); (case c3 => exact rfl)))
    intro p loose mean mg mb gd cn cs a₀ ccd cl outer base g L L' s cells hke F N Y l1 B X T C1 C2
    k_lt l1
    obtain ⟨oI, oA, oN, rfl, dI, dA, dN⟩ := CellsAre.three Y
    replace dI : oI.data = .cell none := dI
    replace dA : oA.data = .cell none := dA
    replace dN : oN.data = .cell (some (.int n tn)) := dN
    replace F : Fr g L' s.heap (fun y => if y = Str.ofString "a" then some (.int a ta) else none) := F
    replace N : News g L' s.heap [(L' + 1 + 1 + 1, oI), (L' + 1 + 1, oA), (L' + 1, oN), (30, tabObj #[rawInt 32, rawInt 4, .ref c0]), (c0, o0)] := N
    clear Y
    show wpAny _ _ _ _ _ _
    k_fold
    walk_at "mine:steps"
    (try dsimp only)
    rw [eK']
    refine KMa.mul (vs := [.int 0 s.toks]) (by assumption) (by assumption) (by is_list) (by omega) (by omega) (by simp; omega) (rep_flat _ _) ?_
    intro D h' F' N' l2
    k_lt l2
    rw [Int.toNat_natCast] at N'
    have hI := ints_rep 0 s.toks K
    (try dsimp only)
    walk_at "mine:steps"
    refine wpAny_execs_cons ?_
    walk_at "mine:steps"
    rename_i h2 oA2 dA2 f ctv dc h3 tk3 l3 h4 oI2 F4 N4 dI2
    obtain ⟨cvs, ct, d1, d2⟩ := hok
    replace hne := neN hne
    (try dsimp only)
    refine wpAny_execs_cons ?_
    walk_at "mine:steps"
    by_cases h0 : a = 0
    · subst h0
      rw [if_neg (by decide)]
      walk_at "mine:steps"
      show Done _ _ _ _ _
      have hK0 : K = 0 := by
        rw [eK, show Builtin.Int.intBits 0 = 0 from rfl, Nat.zero_add]
        exact Nat.div_eq_of_lt (by omega)
      refine ⟨_, _, [(D, listOf (List.replicate K (.int 0 s.toks)).toArray 0), (30, tabObj #[rawInt 32, rawInt 4, .ref c0]), (c0, o0)], by assumption, news_sub N4 (by k_subL), ⟨D, _, _, _, rfl, rfl, ?_, ⟨c0, o0, rfl, ⟨cvs, ct, d1, d2⟩, by refine neN ?_; omega⟩, ?_⟩, _, _, rfl⟩
      · rw [← eK, hK0]; exact .nil
      · exact AllNe.of (a := D) (l := [(30, tabObj #[rawInt 32, rawInt 4, .ref c0]), (c0, o0)]) (by ((try simp only [AllNe, and_true]); (repeat' (first | exact True.intro | refine And.intro ?_ ?_)); all_goals k_ne))
    · rw [if_pos (by simpa using h0)]
      walk_at "mine:steps"
      refine len_list (N4.isList (by k_mem)) (by simp; omega) ?_
      (try dsimp only)
      rw [List.size_toArray, List.length_replicate]
      walk_at "mine:steps"
      have hbK : Builtin.Int.intBits a ≤ K * n := by
        have e1 := Nat.div_add_mod (Builtin.Int.intBits a + n - 1) n
        have e2 := Nat.mod_lt (Builtin.Int.intBits a + n - 1) (by omega : 0 < n)
        rw [← eK, Nat.mul_comm] at e1
        omega
      have haK : a < 2 ^ (K * n) := Int.lt_of_lt_of_le (bits_lt ha) (by
        have := Nat.pow_le_pow_right (n := 2) (by decide) hbK
        have e : ∀ j : Nat, (2 : Int) ^ j = ((2 ^ j : Nat) : Int) := fun j => by simp
        rw [e, e]; omega)
      have hK1 : 1 ≤ K := by
        have h8 : 0 < a := by omega
        have := (bits_ge h8).1
        rcases Nat.eq_zero_or_pos K with h9 | h9
        · rw [h9] at hbK; omega
        · exact h9
      rw [show (K : Int) = ((0 + K : Nat) : Int) by omega]
      refine (hin f c0 (L' + 1 + 1 + 1) (L' + 1 + 1) (L' + 1) D o0 oI2 oA2 oN dc ((mg "__name__").getD .none) ctv 0 ⟨cvs, ct, d1, d2⟩ dI2 dA2 dN (by ((try simp only [List.cons_append, List.nil_append, ApartL, AllNe, and_true]); (repeat' (first | exact True.intro | refine And.intro ?_ ?_)); all_goals k_ne)) K 601 4003 a 0 (List.replicate K 0) (List.replicate K (.int 0 s.toks)) _ _ _ hK1 (by omega) (by simp) (by simp; omega) ha haK (by omega) hI).at
        [(30, tabObj #[rawInt 32, rawInt 4, .ref c0])] (by assumption) (by assumption) (by assumption) N4 (by k_subL) (by ((try simp only [List.cons_append, List.nil_append, ApartL, AllNe, and_true]); (repeat' (first | exact True.intro | refine And.intro ?_ ?_)); all_goals k_ne)) (by assumption) (by assumption) (by assumption) rfl (Nat.le_refl _) (Nat.le_refl _) ?_
      rintro r post h' tk' F' N' D' ⟨rfl, vs2, hI2, rfl⟩
      (try dsimp only)
      walk_at "mine:steps"
      show Done _ _ _ _ _
      refine ⟨_, _, [(D, listOf vs2.toArray 0), (30, tabObj #[rawInt 32, rawInt 4, .ref c0]), (c0, o0)], F', news_sub N' (by k_subL), ⟨D, _, _, _, rfl, rfl, ?_, ⟨c0, o0, rfl, ⟨cvs, ct, d1, d2⟩, by refine neN ?_; omega⟩, ?_⟩, _, _, rfl⟩
      · rw [← eK]
        have e := put_whole (digitsOf n a K)
        rw [digits_length] at e
        rw [← e]; exact hI2
      · exact AllNe.of (a := D) (l := [(30, tabObj #[rawInt 32, rawInt 4, .ref c0]), (c0, o0)]) (by ((try simp only [AllNe, and_true]); (repeat' (first | exact True.intro | refine And.intro ?_ ?_)); all_goals k_ne))

end
section
theorem resetF5 : True := by
  w_top off
  exact trivial






/-- what the def within _digits2int does: it reckons the number of a piece -/
noncomputable def InnerB (w : World) (n : Nat) (tn : Tok) (nm : Str) (ps : Arguments) (bd : List Stmt) (sc : Scope) : Prop :=
  ∀ (f c aI aD aN la : Addr) (oc oI oD oN : Obj) (doc pm ctv : Value) (ep : Nat), CodeOk oc (Str.ofString "_digits2int.<locals>.inner") → oI.data = .cell (some (.ref f)) → oD.data = .cell (some (.ref la)) → oN.data = .cell (some (.int n tn)) →
      ∀ (ns : List Int) (vs : List Value), ns.length ≤ 1000 → IntsAre vs ns → (∀ d ∈ ns, 0 ≤ d ∧ d < 2 ^ n) →
      ∀ (k dp un : Nat) (lo : Nat) (tl th : Tok), 1 ≤ k → dp + k ≤ 700 → lo + k ≤ ns.length → k ≤ 60 →
      Spec PySem.Challenge.rw_rl0044_02.row.prog w (hd.heap_39 w.params) dp un f [.int lo tl, .int ((lo + k : Nat) : Int) th]
        [(f, fnMade nm (Str.ofString "_digits2int.<locals>.inner") ps bd sc [(Str.ofString "n", aN), (Str.ofString "inner", aI), (Str.ofString "digits", aD)] doc pm c ctv), (c, oc), (aI, oI), (aD, oD), (aN, oN), (la, listOf vs.toArray ep)]
        (fun v post => (∃ t, v = .int (evalD n (seg lo k ns)) t) ∧
          post = [(f, fnMade nm (Str.ofString "_digits2int.<locals>.inner") ps bd sc [(Str.ofString "n", aN), (Str.ofString "inner", aI), (Str.ofString "digits", aD)] doc pm c ctv), (c, oc), (aI, oI), (aD, oD), (aN, oN), (la, listOf vs.toArray ep)])

theorem innerB (w : World) (n : Nat) (tn : Tok) (hn1 : 1 ≤ n) (hn : n ≤ 10000) : AtDef (InnerB w n tn) (stmtsOf (hd.heap_39 w.params) 42) := by
  have hpg : PySem.Challenge.rw_rl0044_02.row.prog = PySem.Challenge.rw_rl0044_02.row.prog := rfl
  revert hpg
  k_fill
  intro _
  k_dflt (rw [stmtsOf_is ?k1]; rotate_left; (case k1 => k_is))
  show InnerB w n tn _ _ _ _
  rintro f c aI aD aN la oc oI oD oN doc pm ctv ep ⟨cvs, ctk, hcd, hcv⟩ dI dD dN ns vs hns hI hds
  intro k
  induction k using Nat.strongRecOn with
  | ind k ih =>
    intro dp un lo tl th hk1 hdp hlo hk60
    k_dflt (refine' Spec.nest (binds := [(Str.ofString "L", .int lo tl), (Str.ofString "R", .int ((lo + k : Nat) : Int) th)]) ?k1 ?k2 hcd hcv ?k3 ?k4 ?k5 ?_ ?c1 ?c2 ?c3 ?c4; (case k1 => k_mem); (case k2 => k_mem); (case k3 => (show dp < 1000); omega); (case k4 => intro s; exact BindsTo.of_eq rfl); (case k5 => exact locs rfl); (case c1 => exact rfl); (case c2 => exact rfl); (case c3 => exact rfl); (case c4 => decide))
    intro p loose mean mg mb gd cn cs a₀ ccd cl outer base g L L' s hke F N B X T C1 C2
    (try dsimp only)
    k_fold
    refine wpAny_execs_cons ?_
    walk_at "mine:steps"
    by_cases hk : k = 1
    · subst hk
      rw [if_pos (by simp)]
      walk_at "mine:steps"
      show Done _ _ _ _ _
      refine ⟨_, _, _, by assumption, by assumption, ⟨ktn_int ?_, rfl⟩, _, _, rfl⟩
      · rw [seg_one (by omega), Int.toNat_natCast]
        simp only [evalD, Int.zero_mul, Int.add_zero]
    · rw [if_neg (by simp; omega)]
      walk_at "mine:steps"
      (try dsimp only)
      rw [show (lo : Int) + ((lo + k : Nat) : Int) = ((2 * lo + k : Nat) : Int) by omega]
      refine rsh (n := 1) fun _ _ => ?_
      (try dsimp only)
      rw [show ((2 * lo + k : Nat) : Int) / 2 ^ 1 = ((lo + k / 2 : Nat) : Int) by omega]
      walk_at "mine:steps"
      (try dsimp only)
      rw [show ((lo + k / 2 : Nat) : Int) - lo = ((k / 2 : Nat) : Int) by omega]
      have hn64 : Builtin.Int.intBits (n : Int) ≤ 20 := bits_le (by omega) (by omega)
      have hk64 : Builtin.Int.intBits ((k / 2 : Nat) : Int) ≤ 20 := bits_le (by omega) (by omega)
      refine mulI (by omega) fun _ _ => ?_
      rw [show ((k / 2 : Nat) : Int) * (n : Int) = ((k / 2 * n : Nat) : Int) by simp]
      (try dsimp only)
      walk_at "mine:steps"
      rw [show lo + k = (lo + k / 2) + (k - k / 2) by omega]
      refine (ih (k - k / 2) (by omega) (dp + 1) (un + 3) (lo + k / 2) _ _ (by omega) (by omega) (by omega) (by omega)).at [] (by assumption) (by assumption) (by assumption) (by assumption) (by k_subL) (by ((try simp only [List.cons_append, List.nil_append, ApartL, AllNe, and_true]); (repeat' (first | exact True.intro | refine And.intro ?_ ?_)); all_goals k_ne)) (by assumption) (by assumption) (by assumption) rfl (Nat.le_refl _) (Nat.le_refl _) ?_
      rintro r post h' tk' F' N' D' ⟨⟨t, rfl⟩, rfl⟩
      (try dsimp only)
      walk_at "mine:steps"
      have hkn : (k - k / 2) * n ≤ 60 * 10000 := Nat.mul_le_mul (by omega) hn
      have hkn2 : k / 2 * n ≤ 60 * 10000 := Nat.mul_le_mul (by omega) hn
      have hB := evalD_bound n (seg (lo + k / 2) (k - k / 2) ns) (seg_sub hds)
      rw [seg_length (by omega)] at hB
      have hbb := bits_le hB.1 hB.2
      refine lsh (by omega) fun _ _ => ?_
      (try dsimp only)
      walk_at "mine:steps"
      refine (ih (k / 2) (by omega) (dp + 1) (un + 3) lo _ _ (by omega) (by omega) (by omega) (by omega)).at [] (by assumption) (by assumption) (by assumption) (by assumption) (by k_subL) (by ((try simp only [List.cons_append, List.nil_append, ApartL, AllNe, and_true]); (repeat' (first | exact True.intro | refine And.intro ?_ ?_)); all_goals k_ne)) (by assumption) (by assumption) (by assumption) rfl (Nat.le_refl _) (Nat.le_refl _) ?_
      rintro r post h' tk' F' N' D' ⟨⟨t, rfl⟩, rfl⟩
      (try dsimp only)
      walk_at "mine:steps"
      show Done _ _ _ _ _
      have e1 : evalD n (seg lo k ns) = evalD n (seg (lo + k / 2) (k - k / 2) ns) * 2 ^ (k / 2 * n) + evalD n (seg lo (k / 2) ns) := by
        have e2 := seg_add lo (k / 2) (k - k / 2) ns
        rw [show k / 2 + (k - k / 2) = k by omega] at e2
        rw [e2, evalD_append, seg_length (by omega)]
        omega
      exact ⟨_, _, _, F', N', ⟨ktn_int e1.symm, rfl⟩, _, _, rfl⟩

end
section
theorem resetF6 : True := by
  w_top off
  exact trivial






noncomputable def EvalPost (n : Nat) (ns : List Int) (la : Addr) (lo : Obj) (v : Value) (post : List (Addr × Obj)) : Prop :=
  ∃ t l, v = .int (evalD n ns) t ∧ post = (la, lo) :: l ∧ TabB l

theorem digits2int (w : World) (ns : List Int) (vs : List Value) (la ep : Nat) (n : Nat) (tn : Tok) (hn1 : 1 ≤ n) (hn : n ≤ 10000) (hns : ns.length ≤ 60) (hI : IntsAre vs ns) (hds : ∀ d ∈ ns, 0 ≤ d ∧ d < 2 ^ n)
    (l : List (Addr × Obj)) (hl : l = [(37, tabObj #[])] ∨ TabB l) (hap : AllNe la l) :
    Spec PySem.Challenge.rw_rl0044_02.row.prog w (hd.heap_39 w.params) 600 4000 42 [.ref la, .int n tn] ((la, listOf vs.toArray ep) :: l) (EvalPost n ns la (listOf vs.toArray ep)) := by
  k_fill
  have hin := innerB w n tn hn1 hn
  k_dflt (rw [stmtsOf_is ?k1] at hin; rotate_left; (case k1 => k_is))
  replace hin : InnerB w n tn _ _ _ _ := hin
  have hlen := hI.length
  rcases hl with rfl | ⟨c0, o0, rfl, hok, hne⟩
  · k_dflt (refine' Spec.cells (binds := [(Str.ofString "digits", .ref la), (Str.ofString "n", .int n tn)]) ?k1 ?k2 ?k3 ?k4 ?k5 ?k6 ?_ ?c1 ?c2 ?c3; ((case k1 => k_is); (case k2 => k_is); (case k3 => decide); (case k4 => intro s; exact BindsTo.of_eq rfl); (case k5 => exact rfl); (case k6 => decide +kernel); (case c1 => exact rfl); (case c2 => exact rfl); (case c3 => exact rfl)))
    intro p loose mean mg mb gd cn cs a₀ ccd cl outer base g L L' s cells hke F N Y l1 B X T C1 C2
    k_lt l1
    obtain ⟨oI, oN, oD, rfl, dI, dN, dD⟩ := CellsAre.three Y
    replace dI : oI.data = .cell none := dI
    replace dN : oN.data = .cell (some (.int n tn)) := dN
    replace dD : oD.data = .cell (some (.ref la)) := dD
    replace F : Fr g L' s.heap (fun y => none) := F
    replace N : News g L' s.heap [(L' + 1 + 1 + 1, oI), (L' + 1 + 1, oN), (L' + 1, oD), (la, listOf vs.toArray ep), (37, tabObj #[])] := N
    clear Y
    simp only [AllNe, and_true] at hap
    (try replace hap := Hid.mk hap)
    show wpAny _ _ _ _ _ _
    k_fold
    walk_at "mine:steps"
    refine wpAny_execs_cons ?_
    walk_at "mine:steps"
    rename_i f c oc cvs ct ctv dc h3 tk3 d1 d2 l3 l4 h4 oI2 F4 N4 dI2
    by_cases h0 : 0 < ns.length
    · rw [if_pos (decide_eq_true h0)]
      walk_at "mine:steps"
      rw [show (ns.length : Int) = ((0 + ns.length : Nat) : Int) by omega]
      refine (hin f c (L' + 1 + 1 + 1) (L' + 1) (L' + 1 + 1) la oc oI2 oD oN dc ((mg "__name__").getD .none) ctv ep ⟨cvs, ct, d1, d2⟩ dI2 dD dN ns vs (by omega) hI hds ns.length 601 4003 0 _ _ h0 (by omega) (by omega) (by omega)).at
        [(37, tabObj #[rawInt 47, rawInt 4, .ref c])] (by assumption) (by assumption) (by assumption) N4 (by k_subL) (by ((try simp only [List.cons_append, List.nil_append, ApartL, AllNe, and_true]); (repeat' (first | exact True.intro | refine And.intro ?_ ?_)); all_goals k_ne)) (by assumption) (by assumption) (by assumption) rfl (Nat.le_refl _) (Nat.le_refl _) ?_
      rintro r post h' tk' F' N' D' ⟨⟨t, rfl⟩, rfl⟩
      (try dsimp only)
      walk_at "mine:steps"
      show Done _ _ _ _ _
      rw [seg_whole]
      exact ⟨_, _, [(la, listOf vs.toArray ep), (37, tabObj #[rawInt 47, rawInt 4, .ref c]), (c, oc)], F', news_sub N' (by k_subL), ⟨_, _, rfl, rfl, ⟨c, oc, rfl, ⟨cvs, ct, d1, d2⟩, by refine neN ?_; omega⟩⟩, _, _, rfl⟩
    · rw [if_neg (by simpa using h0)]
      walk_at "mine:steps"
      show Done _ _ _ _ _
      have hnil : ns = [] := List.eq_nil_of_length_eq_zero (by omega)
      subst hnil
      exact ⟨_, _, [(la, listOf vs.toArray ep), (37, tabObj #[rawInt 47, rawInt 4, .ref c]), (c, oc)], F4, news_sub N4 (by k_subL), ⟨_, _, rfl, rfl, ⟨c, oc, rfl, ⟨cvs, ct, d1, d2⟩, by refine neN ?_; omega⟩⟩, _, _, rfl⟩
  · k_dflt (refine' Spec.cells (binds := [(Str.ofString "digits", .ref la), (Str.ofString "n", .int n tn)]) ?k1 ?k2 ?k3 ?k4 ?k5 ?k6 ?_ ?c1 ?c2 ?c3; ((case k1 => k_is); (case k2 => k_is); (case k3 => decide); (case k4 => intro s; exact BindsTo.of_eq rfl); (case k5 => exact rfl); (case k6 => decide +kernel); (case c1 => exact rfl); (case c2 => exact rfl); (case c3 => exact rfl)))
    intro p loose mean mg mb gd cn cs a₀ ccd cl outer base g L L' s cells hke F N Y l1 B X T C1 C2
    k_lt l1
    obtain ⟨oI, oN, oD, rfl, dI, dN, dD⟩ := CellsAre.three Y
    replace dI : oI.data = .cell none := dI
    replace dN : oN.data = .cell (some (.int n tn)) := dN
    replace dD : oD.data = .cell (some (.ref la)) := dD
    replace F : Fr g L' s.heap (fun y => none) := F
    replace N : News g L' s.heap [(L' + 1 + 1 + 1, oI), (L' + 1 + 1, oN), (L' + 1, oD), (la, listOf vs.toArray ep), (37, tabObj #[rawInt 47, rawInt 4, .ref c0]), (c0, o0)] := N
    clear Y
    simp only [AllNe, and_true] at hap
    (try replace hap := Hid.mk hap)
    show wpAny _ _ _ _ _ _
    k_fold
    walk_at "mine:steps"
    refine wpAny_execs_cons ?_
    walk_at "mine:steps"
    rename_i f ctv dc h3 tk3 l3 h4 oI2 F4 N4 dI2
    obtain ⟨cvs, ct, d1, d2⟩ := hok
    replace hne := neN hne
    by_cases h0 : 0 < ns.length
    · rw [if_pos (decide_eq_true h0)]
      walk_at "mine:steps"
      rw [show (ns.length : Int) = ((0 + ns.length : Nat) : Int) by omega]
      refine (hin f c0 (L' + 1 + 1 + 1) (L' + 1) (L' + 1 + 1) la o0 oI2 oD oN dc ((mg "__name__").getD .none) ctv ep ⟨cvs, ct, d1, d2⟩ dI2 dD dN ns vs (by omega) hI hds ns.length 601 4003 0 _ _ h0 (by omega) (by omega) (by omega)).at
        [(37, tabObj #[rawInt 47, rawInt 4, .ref c0])] (by assumption) (by assumption) (by assumption) N4 (by k_subL) (by ((try simp only [List.cons_append, List.nil_append, ApartL, AllNe, and_true]); (repeat' (first | exact True.intro | refine And.intro ?_ ?_)); all_goals k_ne)) (by assumption) (by assumption) (by assumption) rfl (Nat.le_refl _) (Nat.le_refl _) ?_
      rintro r post h' tk' F' N' D' ⟨⟨t, rfl⟩, rfl⟩
      (try dsimp only)
      walk_at "mine:steps"
      show Done _ _ _ _ _
      rw [seg_whole]
      exact ⟨_, _, [(la, listOf vs.toArray ep), (37, tabObj #[rawInt 47, rawInt 4, .ref c0]), (c0, o0)], F', news_sub N' (by k_subL), ⟨_, _, rfl, rfl, ⟨c0, o0, rfl, ⟨cvs, ct, d1, d2⟩, by refine neN ?_; omega⟩⟩, _, _, rfl⟩
    · rw [if_neg (by simpa using h0)]
      walk_at "mine:steps"
      show Done _ _ _ _ _
      have hnil : ns = [] := List.eq_nil_of_length_eq_zero (by omega)
      subst hnil
      exact ⟨_, _, [(la, listOf vs.toArray ep), (37, tabObj #[rawInt 47, rawInt 4, .ref c0]), (c0, o0)], F4, news_sub N4 (by k_subL), ⟨_, _, rfl, rfl, ⟨c0, o0, rfl, ⟨cvs, ct, d1, d2⟩, by refine neN ?_; omega⟩⟩, _, _, rfl⟩

end
section
theorem resetF7 : True := by
  w_top off
  exact trivial





/-- both tables of codes: not filled yet, or filled -/
noncomputable def TabsNew (l : List (Addr × Obj)) : Prop := l = [(30, tabObj #[]), (37, tabObj #[])]
noncomputable def TabsFull (l : List (Addr × Obj)) : Prop := ∃ cA oA cB oB, l = [(30, tabObj #[rawInt 32, rawInt 4, .ref cA]), (cA, oA), (37, tabObj #[rawInt 47, rawInt 4, .ref cB]), (cB, oB)] ∧
  CodeOk oA (Str.ofString "_int2digits.<locals>.inner") ∧ CodeOk oB (Str.ofString "_digits2int.<locals>.inner") ∧ AllNe cA [(30, oA), (37, oA), (cB, oA)] ∧ AllNe cB [(30, oA), (37, oA)]
noncomputable def PairTabs (q r : Int) (v : Value) (post : List (Addr × Obj)) : Prop := ∃ x tq tr l, v = .ref x ∧ post = (x, tup [.int q tq, .int r tr]) :: l ∧ TabsFull l ∧ AllNe x l

abbrev dpM (a b : Int) (ta tb : Tok) : Str → Option Value := fun y => List.lookup y [(Str.ofString "a", .int a ta), (Str.ofString "b", .int b tb)].reverse

theorem divmod_pos_new (w : World) (a b : Int) (ta tb : Tok) (n : Nat) (hn : Builtin.Int.intBits b = n) (hb : 0 < b) (hn2 : n ≤ 7998) (ha : 0 ≤ a) (hab : Builtin.Int.intBits a ≤ 20000) (hK : (Builtin.Int.intBits a + n - 1) / n ≤ 50) (l : List (Addr × Obj)) (hl : TabsNew l) :
    Spec PySem.Challenge.rw_rl0044_02.row.prog w (hd.heap_39 w.params) 590 3990 49 [.int a ta, .int b tb] l (PairTabs (a / b) (a % b)) := by
  have hbg := bits_ge hb
  have hbl := bits_lt (Int.le_of_lt hb)
  rw [hn] at hbg hbl
  unfold TabsNew at hl
  subst hl
  k_fill
  k_dflt (refine' Spec.plain (binds := [(Str.ofString "a", .int a ta), (Str.ofString "b", .int b tb)]) ?k1 ?k2 ?k3 ?k4 ?k5 ?_ ?c1 ?c2 ?c3 ?c4; ((case k1 => k_is); (case k2 => k_is); (case k3 => decide); (case k4 => intro s; exact BindsTo.of_eq rfl); (case k5 => exact locs rfl); (case c1 => exact rfl); (case c2 => exact rfl); (case c3 => exact rfl); (case c4 => decide)))
  intro p loose mean mg mb gd cn cs a₀ ccd cl outer base g L L' s hke F N B X T C1 C2
  (try dsimp only)
  k_fold
  walk_at "mine:steps"
  rw [hn] at *
  clear hn
  obtain ⟨K, eK⟩ : ∃ K, K = (Builtin.Int.intBits a + n - 1) / n := ⟨_, rfl⟩
  have hbK : Builtin.Int.intBits a ≤ K * n := by
    have e1 := Nat.div_add_mod (Builtin.Int.intBits a + n - 1) n
    have e2 := Nat.mod_lt (Builtin.Int.intBits a + n - 1) (by omega : 0 < n)
    rw [← eK, Nat.mul_comm] at e1
    omega
  have haK : a < 2 ^ (K * n) := Int.lt_of_lt_of_le (bits_lt ha) (by
    have := Nat.pow_le_pow_right (n := 2) (by decide) hbK
    have e : ∀ j : Nat, (2 : Int) ^ j = ((2 ^ j : Nat) : Int) := fun j => by simp
    rw [e, e]; omega)
  refine (int2digits w a n _ _ hbg.1 (by omega) ha hab hK [(30, tabObj #[])] (.inl rfl)).at [(37, tabObj #[])] (by assumption) (by assumption) (by assumption) (by assumption) (by k_subL) (by ((try simp only [List.cons_append, List.nil_append, ApartL, AllNe, and_true]); (repeat' (first | exact True.intro | refine And.intro ?_ ?_)); all_goals k_ne)) (by assumption) (by assumption) (by assumption) rfl (Nat.le_of_ble_eq_true rfl) (Nat.le_of_ble_eq_true rfl) ?_
  rintro r post h' tk' F' N' D' ⟨x, vs, ep, l, rfl, rfl, hI, ⟨cA, oA, rfl, hokA, hneA⟩, hap⟩
  simp only [List.cons_append, List.nil_append] at N'
  simp only [ApartL, AllNe, and_true, and_assoc] at D'
  (try replace D' := Hid.mk D')
  replace hap := AllNe.to hap
  simp only [AllNe, and_true] at hap
  (try replace hap := Hid.mk hap)
  replace hneA := neN hneA
  rw [← eK] at hI hK
  clear eK
  (try dsimp only)
  walk_at "mine:steps"
  rename Fr _ _ _ _ => Fz
  refine For_invVF Fz rfl rfl ?_
  walk_at "mine:steps"
  rename_i Qd h5 lq h6 I h7 Fy Ny lI
  (try dsimp only)
  refine iter_revUnr (lo := listOf vs.toArray ep) (vs := vs) rfl Fy Ny (by k_offL) (by k_mem) rfl rfl ?_
  refine rev_inv (fun rv m news => ∃ (ds : List Int) (r : Int) (tr : Tok) (qs : List Int) (qv : List Value) (eq : Nat) (u : Str → Option Value), IntsAre rv ds ∧ (∀ d ∈ ds, 0 ≤ d ∧ d < 2 ^ n) ∧ 0 ≤ r ∧ r < b ∧ IntsAre qv qs ∧ qs.length + ds.length ≤ 50 ∧ divLoop n b ds r qs = divLoop n b (digitsOf n a K).reverse 0 [] ∧
      m = (fun y => if y = Str.ofString "r" then some (.int r tr) else if y = Str.ofString "q_digits" then some (.ref Qd) else if y = Str.ofString "n" then some (.int n s.toks) else if y = Str.ofString "b" then some (.int b tb) else u y) ∧
      news = [(Qd, listOf qv.toArray eq), (x, listOf vs.toArray ep), (30, tabObj #[rawInt 32, rawInt 4, .ref cA]), (cA, oA), (37, tabObj #[])]) ?_ ?_ vs.reverse _ _ ?_
  · clear Fy Ny
    rintro v rv m news ⟨_, r, tr, qs, qv, eq, u, hrv, hds, hr0, hr1, hqI, hlen, hdl, rfl, rfl⟩ it h tk hcl F9 N9
    cases hrv with
    | @cons d td _ ds hrv =>
      have hd := hds d (List.mem_cons_self ..)
      have hlq := hqI.length
      rw [List.length_cons] at hlen
      walk_at "mine:steps"
      refine lsh (by have := bits_le hr0 (Int.lt_trans hr1 hbl); omega) fun _ _ => ?_
      (try dsimp only)
      walk_at "mine:steps"
      have hp := pow_pos2 n
      have hA0 : 0 ≤ r * 2 ^ n + d := by have := Int.mul_nonneg hr0 (Int.le_of_lt hp); omega
      have hA1 : r * 2 ^ n + d < b * 2 ^ n := by
        have : (r + 1) * 2 ^ n ≤ b * 2 ^ n := Int.mul_le_mul_of_nonneg_right (by omega) (Int.le_of_lt hp)
        rw [Int.add_mul] at this; omega
      refine (div2 w (r * 2 ^ n + d) b n _ _ _ hbg.1 hn2 hbg.2 hbl hA0 hA1).use (by assumption) (by assumption) (by assumption) (by assumption) (by assumption) (by assumption) (by assumption) rfl (Nat.le_of_ble_eq_true rfl) (Nat.le_of_ble_eq_true rfl) ?_
      rintro r2 post h' tk' F' N' D2 ⟨y, tq, tr', rfl, rfl⟩
      simp only [List.cons_append, List.nil_append] at N'
      replace D2 := ApartL.to D2
      simp only [ApartL, AllNe, and_true, and_assoc] at D2
      (try replace D2 := Hid.mk D2)
      (try dsimp only)
      walk_at "mine:steps"
      rename Fr _ _ _ _ => Fz
      rename News _ _ _ _ => Nz
      rw [List.push_toArray] at Nz
      show UnrEnd _ _ _ _ _ _ _
      refine UnrEnd.intro3 Fz Nz [(Qd, listOf (qv ++ [Value.int ((r * 2 ^ n + d) / b) tq]).toArray (eq + 1)), (x, listOf vs.toArray ep), (30, tabObj #[rawInt 32, rawInt 4, .ref cA]), (cA, oA), (37, tabObj #[])] (by k_mem) (by k_subL) (by k_offL)
        ⟨by k_mem, ds, _, _, qs ++ [(r * 2 ^ n + d) / b], _, _, _, hrv, fun e he => hds e (List.mem_cons_of_mem _ he), Int.emod_nonneg _ (by omega), Int.emod_lt_of_pos _ hb, ints_append hqI (.cons _ _ .nil), by simp; omega, hdl, canon4 rfl rfl rfl rfl, rfl⟩
  · clear Fy Ny
    rintro m news h tk ⟨_, r, tr, qs, qv, eq, u, hrv, hds, hr0, hr1, hqI, hlen, hdl, rfl, rfl⟩ F9 N9
    cases hrv
    obtain ⟨f1, f2, f3, f4⟩ := divLoop_whole (n := n) (k := K) hb ha haK
    rw [← hdl] at f1 f2 f3 f4
    simp only [divLoop] at f1 f2 f3 f4
    have hlq := hqI.length
    (try dsimp only)
    walk_at "mine:steps"
    refine kl_reverse (its := qv.toArray) (l := qv.reverse) F9 N9 (by simp) (by k_upd) (by simp [sizeLine]; omega) ?_
    clear F9 N9
    intro h' F' N'
    (try dsimp only)
    walk_at "mine:steps"
    have hds2 : ∀ d ∈ qs.reverse, 0 ≤ d ∧ d < 2 ^ n := fun d hd => f3 d (List.mem_reverse.mp hd)
    refine (digits2int w qs.reverse qv.reverse Qd eq n _ hbg.1 (by omega) (by simp; omega) (ints_rev hqI) hds2 [(37, tabObj #[])] (.inl rfl) (by ((try simp only [AllNe, and_true]); (repeat' (first | exact True.intro | refine And.intro ?_ ?_)); all_goals k_ne))).at
      [(30, tabObj #[rawInt 32, rawInt 4, .ref cA]), (cA, oA)] (by assumption) (by assumption) (by assumption) (by assumption) (by k_subL) (by ((try simp only [List.cons_append, List.nil_append, ApartL, AllNe, and_true]); (repeat' (first | exact True.intro | refine And.intro ?_ ?_)); all_goals k_ne)) (by assumption) (by assumption) (by assumption) rfl (Nat.le_of_ble_eq_true rfl) (Nat.le_of_ble_eq_true rfl) ?_
    rintro r2 post h' tk' F' N' D2 ⟨t2, l2, rfl, rfl, ⟨cB, oB, rfl, hokB, hneB⟩⟩
    simp only [List.cons_append, List.nil_append] at N'
    simp only [ApartL, AllNe, and_true, and_assoc] at D2
    (try replace D2 := Hid.mk D2)
    replace hneB := neN hneB
    rw [f1]
    subst f2
    (try dsimp only)
    walk_at "mine:steps"
    show Done _ _ _ _ _
    rename News _ _ _ _ => Nz
    rename_i D9 h9 F9 l9
    refine ⟨_, _, [(D9, tup [.int (a / b) t2, .int (a % b) tr]), (30, tabObj #[rawInt 32, rawInt 4, .ref cA]), (cA, oA), (37, tabObj #[rawInt 47, rawInt 4, .ref cB]), (cB, oB)], F9, news_sub Nz (by k_subL), ⟨D9, _, _, _, rfl, rfl, ⟨cA, oA, cB, oB, rfl, hokA, hokB, ?_, ?_⟩, ?_⟩, _, _, rfl⟩
    all_goals ((try simp only [AllNe, and_true]); (repeat' (first | exact True.intro | refine And.intro ?_ ?_)); all_goals k_ne)
  · exact ⟨_, 0, _, [], [], _, _, ints_rev hI, fun d hd => digits_bound n a K d (List.mem_reverse.mp hd), Int.le_refl _, hb, .nil, by simp [digits_length]; omega, rfl, canon4 rfl rfl rfl rfl, rfl⟩
theorem divmod_pos_full (w : World) (a b : Int) (ta tb : Tok) (n : Nat) (hn : Builtin.Int.intBits b = n) (hb : 0 < b) (hn2 : n ≤ 7998) (ha : 0 ≤ a) (hab : Builtin.Int.intBits a ≤ 20000) (hK : (Builtin.Int.intBits a + n - 1) / n ≤ 50) (l : List (Addr × Obj)) (hl : TabsFull l) :
    Spec PySem.Challenge.rw_rl0044_02.row.prog w (hd.heap_39 w.params) 590 3990 49 [.int a ta, .int b tb] l (PairTabs (a / b) (a % b)) := by
  have hbg := bits_ge hb
  have hbl := bits_lt (Int.le_of_lt hb)
  rw [hn] at hbg hbl
  obtain ⟨cA0, oA0, cB0, oB0, rfl, hokA0, hokB0, hd1, hd2⟩ := hl
  simp only [AllNe, and_true] at hd1 hd2
  (try replace hd1 := Hid.mk hd1)
  (try replace hd2 := Hid.mk hd2)
  k_fill
  k_dflt (refine' Spec.plain (binds := [(Str.ofString "a", .int a ta), (Str.ofString "b", .int b tb)]) ?k1 ?k2 ?k3 ?k4 ?k5 ?_ ?c1 ?c2 ?c3 ?c4; ((case k1 => k_is); (case k2 => k_is); (case k3 => decide); (case k4 => intro s; exact BindsTo.of_eq rfl); (case k5 => exact locs rfl); (case c1 => exact rfl); (case c2 => exact rfl); (case c3 => exact rfl); (case c4 => decide)))
  intro p loose mean mg mb gd cn cs a₀ ccd cl outer base g L L' s hke F N B X T C1 C2
  (try dsimp only)
  k_fold
  walk_at "mine:steps"
  rw [hn] at *
  clear hn
  obtain ⟨K, eK⟩ : ∃ K, K = (Builtin.Int.intBits a + n - 1) / n := ⟨_, rfl⟩
  have hbK : Builtin.Int.intBits a ≤ K * n := by
    have e1 := Nat.div_add_mod (Builtin.Int.intBits a + n - 1) n
    have e2 := Nat.mod_lt (Builtin.Int.intBits a + n - 1) (by omega : 0 < n)
    rw [← eK, Nat.mul_comm] at e1
    omega
  have haK : a < 2 ^ (K * n) := Int.lt_of_lt_of_le (bits_lt ha) (by
    have := Nat.pow_le_pow_right (n := 2) (by decide) hbK
    have e : ∀ j : Nat, (2 : Int) ^ j = ((2 ^ j : Nat) : Int) := fun j => by simp
    rw [e, e]; omega)
  refine (int2digits w a n _ _ hbg.1 (by omega) ha hab hK [(30, tabObj #[rawInt 32, rawInt 4, .ref cA0]), (cA0, oA0)] (.inr ⟨cA0, oA0, rfl, hokA0, hd1.1⟩)).at [(37, tabObj #[rawInt 47, rawInt 4, .ref cB0]), (cB0, oB0)] (by assumption) (by assumption) (by assumption) (by assumption) (by k_subL) (by ((try simp only [List.cons_append, List.nil_append, ApartL, AllNe, and_true]); (repeat' (first | exact True.intro | refine And.intro ?_ ?_)); all_goals k_ne)) (by assumption) (by assumption) (by assumption) rfl (Nat.le_of_ble_eq_true rfl) (Nat.le_of_ble_eq_true rfl) ?_
  rintro r post h' tk' F' N' D' ⟨x, vs, ep, l, rfl, rfl, hI, ⟨cA, oA, rfl, hokA, hneA⟩, hap⟩
  simp only [List.cons_append, List.nil_append] at N'
  simp only [ApartL, AllNe, and_true, and_assoc] at D'
  (try replace D' := Hid.mk D')
  replace hap := AllNe.to hap
  simp only [AllNe, and_true] at hap
  (try replace hap := Hid.mk hap)
  replace hneA := neN hneA
  rw [← eK] at hI hK
  clear eK
  (try dsimp only)
  walk_at "mine:steps"
  rename Fr _ _ _ _ => Fz
  refine For_invVF Fz rfl rfl ?_
  walk_at "mine:steps"
  rename_i Qd h5 lq h6 I h7 Fy Ny lI
  (try dsimp only)
  refine iter_revUnr (lo := listOf vs.toArray ep) (vs := vs) rfl Fy Ny (by k_offL) (by k_mem) rfl rfl ?_
  refine rev_inv (fun rv m news => ∃ (ds : List Int) (r : Int) (tr : Tok) (qs : List Int) (qv : List Value) (eq : Nat) (u : Str → Option Value), IntsAre rv ds ∧ (∀ d ∈ ds, 0 ≤ d ∧ d < 2 ^ n) ∧ 0 ≤ r ∧ r < b ∧ IntsAre qv qs ∧ qs.length + ds.length ≤ 50 ∧ divLoop n b ds r qs = divLoop n b (digitsOf n a K).reverse 0 [] ∧
      m = (fun y => if y = Str.ofString "r" then some (.int r tr) else if y = Str.ofString "q_digits" then some (.ref Qd) else if y = Str.ofString "n" then some (.int n s.toks) else if y = Str.ofString "b" then some (.int b tb) else u y) ∧
      news = [(Qd, listOf qv.toArray eq), (x, listOf vs.toArray ep), (30, tabObj #[rawInt 32, rawInt 4, .ref cA]), (cA, oA), (37, tabObj #[rawInt 47, rawInt 4, .ref cB0]), (cB0, oB0)]) ?_ ?_ vs.reverse _ _ ?_
  · clear Fy Ny
    rintro v rv m news ⟨_, r, tr, qs, qv, eq, u, hrv, hds, hr0, hr1, hqI, hlen, hdl, rfl, rfl⟩ it h tk hcl F9 N9
    cases hrv with
    | @cons d td _ ds hrv =>
      have hd := hds d (List.mem_cons_self ..)
      have hlq := hqI.length
      rw [List.length_cons] at hlen
      walk_at "mine:steps"
      refine lsh (by have := bits_le hr0 (Int.lt_trans hr1 hbl); omega) fun _ _ => ?_
      (try dsimp only)
      walk_at "mine:steps"
      have hp := pow_pos2 n
      have hA0 : 0 ≤ r * 2 ^ n + d := by have := Int.mul_nonneg hr0 (Int.le_of_lt hp); omega
      have hA1 : r * 2 ^ n + d < b * 2 ^ n := by
        have : (r + 1) * 2 ^ n ≤ b * 2 ^ n := Int.mul_le_mul_of_nonneg_right (by omega) (Int.le_of_lt hp)
        rw [Int.add_mul] at this; omega
      refine (div2 w (r * 2 ^ n + d) b n _ _ _ hbg.1 hn2 hbg.2 hbl hA0 hA1).use (by assumption) (by assumption) (by assumption) (by assumption) (by assumption) (by assumption) (by assumption) rfl (Nat.le_of_ble_eq_true rfl) (Nat.le_of_ble_eq_true rfl) ?_
      rintro r2 post h' tk' F' N' D2 ⟨y, tq, tr', rfl, rfl⟩
      simp only [List.cons_append, List.nil_append] at N'
      replace D2 := ApartL.to D2
      simp only [ApartL, AllNe, and_true, and_assoc] at D2
      (try replace D2 := Hid.mk D2)
      (try dsimp only)
      walk_at "mine:steps"
      rename Fr _ _ _ _ => Fz
      rename News _ _ _ _ => Nz
      rw [List.push_toArray] at Nz
      show UnrEnd _ _ _ _ _ _ _
      refine UnrEnd.intro3 Fz Nz [(Qd, listOf (qv ++ [Value.int ((r * 2 ^ n + d) / b) tq]).toArray (eq + 1)), (x, listOf vs.toArray ep), (30, tabObj #[rawInt 32, rawInt 4, .ref cA]), (cA, oA), (37, tabObj #[rawInt 47, rawInt 4, .ref cB0]), (cB0, oB0)] (by k_mem) (by k_subL) (by k_offL)
        ⟨by k_mem, ds, _, _, qs ++ [(r * 2 ^ n + d) / b], _, _, _, hrv, fun e he => hds e (List.mem_cons_of_mem _ he), Int.emod_nonneg _ (by omega), Int.emod_lt_of_pos _ hb, ints_append hqI (.cons _ _ .nil), by simp; omega, hdl, canon4 rfl rfl rfl rfl, rfl⟩
  · clear Fy Ny
    rintro m news h tk ⟨_, r, tr, qs, qv, eq, u, hrv, hds, hr0, hr1, hqI, hlen, hdl, rfl, rfl⟩ F9 N9
    cases hrv
    obtain ⟨f1, f2, f3, f4⟩ := divLoop_whole (n := n) (k := K) hb ha haK
    rw [← hdl] at f1 f2 f3 f4
    simp only [divLoop] at f1 f2 f3 f4
    have hlq := hqI.length
    (try dsimp only)
    walk_at "mine:steps"
    refine kl_reverse (its := qv.toArray) (l := qv.reverse) F9 N9 (by simp) (by k_upd) (by simp [sizeLine]; omega) ?_
    clear F9 N9
    intro h' F' N'
    (try dsimp only)
    walk_at "mine:steps"
    have hds2 : ∀ d ∈ qs.reverse, 0 ≤ d ∧ d < 2 ^ n := fun d hd => f3 d (List.mem_reverse.mp hd)
    refine (digits2int w qs.reverse qv.reverse Qd eq n _ hbg.1 (by omega) (by simp; omega) (ints_rev hqI) hds2 [(37, tabObj #[rawInt 47, rawInt 4, .ref cB0]), (cB0, oB0)] (.inr ⟨cB0, oB0, rfl, hokB0, hd2.2⟩) (by ((try simp only [AllNe, and_true]); (repeat' (first | exact True.intro | refine And.intro ?_ ?_)); all_goals k_ne))).at
      [(30, tabObj #[rawInt 32, rawInt 4, .ref cA]), (cA, oA)] (by assumption) (by assumption) (by assumption) (by assumption) (by k_subL) (by ((try simp only [List.cons_append, List.nil_append, ApartL, AllNe, and_true]); (repeat' (first | exact True.intro | refine And.intro ?_ ?_)); all_goals k_ne)) (by assumption) (by assumption) (by assumption) rfl (Nat.le_of_ble_eq_true rfl) (Nat.le_of_ble_eq_true rfl) ?_
    rintro r2 post h' tk' F' N' D2 ⟨t2, l2, rfl, rfl, ⟨cB, oB, rfl, hokB, hneB⟩⟩
    simp only [List.cons_append, List.nil_append] at N'
    simp only [ApartL, AllNe, and_true, and_assoc] at D2
    (try replace D2 := Hid.mk D2)
    replace hneB := neN hneB
    rw [f1]
    subst f2
    (try dsimp only)
    walk_at "mine:steps"
    show Done _ _ _ _ _
    rename News _ _ _ _ => Nz
    rename_i D9 h9 F9 l9
    refine ⟨_, _, [(D9, tup [.int (a / b) t2, .int (a % b) tr]), (30, tabObj #[rawInt 32, rawInt 4, .ref cA]), (cA, oA), (37, tabObj #[rawInt 47, rawInt 4, .ref cB]), (cB, oB)], F9, news_sub Nz (by k_subL), ⟨D9, _, _, _, rfl, rfl, ⟨cA, oA, cB, oB, rfl, hokA, hokB, ?_, ?_⟩, ?_⟩, _, _, rfl⟩
    all_goals ((try simp only [AllNe, and_true]); (repeat' (first | exact True.intro | refine And.intro ?_ ?_)); all_goals k_ne)
  · exact ⟨_, 0, _, [], [], _, _, ints_rev hI, fun d hd => digits_bound n a K d (List.mem_reverse.mp hd), Int.le_refl _, hb, .nil, by simp [digits_length]; omega, rfl, canon4 rfl rfl rfl rfl, rfl⟩

theorem divmod_pos (w : World) (a b : Int) (ta tb : Tok) (n : Nat) (hn : Builtin.Int.intBits b = n) (hb : 0 < b) (hn2 : n ≤ 7998) (ha : 0 ≤ a) (hab : Builtin.Int.intBits a ≤ 20000) (hK : (Builtin.Int.intBits a + n - 1) / n ≤ 50) (l : List (Addr × Obj)) (hl : TabsNew l ∨ TabsFull l) :
    Spec PySem.Challenge.rw_rl0044_02.row.prog w (hd.heap_39 w.params) 590 3990 49 [.int a ta, .int b tb] l (PairTabs (a / b) (a % b)) :=
  hl.elim (divmod_pos_new w a b ta tb n hn hb hn2 ha hab hK l) (divmod_pos_full w a b ta tb n hn hb hn2 ha hab hK l)

end
section
theorem resetF8 : True := by
  w_top off
  exact trivial





theorem bits_neg (x : Int) : Builtin.Int.intBits (-x) = Builtin.Int.intBits x := by
  unfold Builtin.Int.intBits
  simp
theorem bits_inv {x : Int} (h : x < 0) : Builtin.Int.intBits (-x - 1) ≤ Builtin.Int.intBits x := by
  refine bits_le (by omega) ?_
  have := bits_lt (x := -x) (by omega)
  rw [bits_neg] at this
  omega
/-- what may be divided: the divisor's bits, the dividend's, and how many figures it has -/
noncomputable def Fits (a b : Int) : Prop := Builtin.Int.intBits b ≤ 7998 ∧ Builtin.Int.intBits a ≤ 20000 ∧ (Builtin.Int.intBits a + Builtin.Int.intBits b - 1) / Builtin.Int.intBits b ≤ 50
theorem Fits.less {a a' b b' : Int} (h : Fits a b) (h1 : Builtin.Int.intBits a' ≤ Builtin.Int.intBits a) (h2 : Builtin.Int.intBits b' = Builtin.Int.intBits b) : Fits a' b' := by
  unfold Fits at *
  rw [h2]
  exact ⟨h.1, by omega, Nat.le_trans (Nat.div_le_div_right (by omega)) h.2.2⟩

abbrev idM (a b : Int) (ta tb : Tok) : Str → Option Value := fun y => List.lookup y [(Str.ofString "a", .int a ta), (Str.ofString "b", .int b tb)].reverse

theorem idm0 (w : World) (a b : Int) (ta tb : Tok) (hb : 0 < b) (ha : 0 ≤ a) (hf : Fits a b) (l : List (Addr × Obj)) (hl : TabsNew l ∨ TabsFull l) :
    Spec PySem.Challenge.rw_rl0044_02.row.prog w (hd.heap_39 w.params) 580 3980 56 [.int a ta, .int b tb] l (PairTabs (a / b) (a % b)) := by
  k_fill
  k_dflt (refine' Spec.plain (binds := [(Str.ofString "a", .int a ta), (Str.ofString "b", .int b tb)]) ?k1 ?k2 ?k3 ?k4 ?k5 ?_ ?c1 ?c2 ?c3 ?c4; ((case k1 => k_is); (case k2 => k_is); (case k3 => decide); (case k4 => intro s; exact BindsTo.of_eq rfl); (case k5 => exact locs rfl); (case c1 => exact rfl); (case c2 => exact rfl); (case c3 => exact rfl); (case c4 => decide)))
  intro p loose mean mg mb gd cn cs a₀ ccd cl outer base g L L' s hke F N B X T C1 C2
  (try dsimp only)
  k_fold
  refine wpAny_execs_cons ?_
  walk_at "mine:steps"
  rw [if_neg (by simp; omega)]
  refine wpAny_execs_cons ?_
  walk_at "mine:steps"
  rw [if_neg (by simp; omega)]
  refine wpAny_execs_cons ?_
  walk_at "mine:steps"
  rw [if_neg (by simp; omega)]
  walk_at "mine:steps"
  refine (divmod_pos w a b _ _ _ rfl hb hf.1 ha hf.2.1 hf.2.2 l hl).at [] (by assumption) (by assumption) (by assumption) (by assumption) (SubL_self _) (ApartL_nil _) (by assumption) (by assumption) (by assumption) rfl (Nat.le_of_ble_eq_true rfl) (Nat.le_of_ble_eq_true rfl) ?_
  rintro r post h' tk' F' N' D' hp
  rw [List.append_nil] at N'
  show Done _ _ _ _ _
  exact ⟨_, _, _, F', N', hp, _, _, rfl⟩

theorem bitNot_is (x : Int) : Builtin.bitNot x = -x - 1 := by unfold Builtin.bitNot; omega
theorem neg_div {a b : Int} (ha : a < 0) (hb : 0 < b) : -((-a - 1) / b) - 1 = a / b ∧ b + (-((-a - 1) % b) - 1) = a % b := by
  have e1 := Int.mul_ediv_add_emod (-a - 1) b
  have e2 := Int.emod_nonneg (-a - 1) (by omega : b ≠ 0)
  have e3 := Int.emod_lt_of_pos (-a - 1) hb
  have h := divmod_of (A := a) (b := b) (q := -((-a - 1) / b) - 1) (r := b + (-((-a - 1) % b) - 1)) (by
    rw [Int.sub_mul, Int.neg_mul, Int.mul_comm _ b]; omega) (by omega) (by omega)
  exact ⟨h.1.symm, h.2.symm⟩

theorem idm1 (w : World) (a b : Int) (ta tb : Tok) (hb : 0 < b) (hf : Fits a b) (l : List (Addr × Obj)) (hl : TabsNew l ∨ TabsFull l) :
    Spec PySem.Challenge.rw_rl0044_02.row.prog w (hd.heap_39 w.params) 579 3970 56 [.int a ta, .int b tb] l (PairTabs (a / b) (a % b)) := by
  by_cases ha : 0 ≤ a
  · exact (idm0 w a b ta tb hb ha hf l hl).mono (by decide) (by decide) fun _ _ x => x
  k_fill
  k_dflt (refine' Spec.plain (binds := [(Str.ofString "a", .int a ta), (Str.ofString "b", .int b tb)]) ?k1 ?k2 ?k3 ?k4 ?k5 ?_ ?c1 ?c2 ?c3 ?c4; ((case k1 => k_is); (case k2 => k_is); (case k3 => decide); (case k4 => intro s; exact BindsTo.of_eq rfl); (case k5 => exact locs rfl); (case c1 => exact rfl); (case c2 => exact rfl); (case c3 => exact rfl); (case c4 => decide)))
  intro p loose mean mg mb gd cn cs a₀ ccd cl outer base g L L' s hke F N B X T C1 C2
  (try dsimp only)
  k_fold
  refine wpAny_execs_cons ?_
  walk_at "mine:steps"
  rw [if_neg (by simp; omega)]
  refine wpAny_execs_cons ?_
  walk_at "mine:steps"
  rw [if_neg (by simp; omega)]
  refine wpAny_execs_cons ?_
  walk_at "mine:steps"
  rw [if_pos (by simp; omega)]
  walk_at "mine:steps"
  rw [bitNot_is]
  refine (idm0 w (-a - 1) b _ _ hb (by omega) (hf.less (bits_inv (by omega)) rfl) l hl).at [] (by assumption) (by assumption) (by assumption) (by assumption) (SubL_self _) (ApartL_nil _) (by assumption) (by assumption) (by assumption) rfl (Nat.le_of_ble_eq_true rfl) (Nat.le_of_ble_eq_true rfl) ?_
  clear F N
  rintro r post h' tk' F' N' D' ⟨x, tq, tr, l2, rfl, rfl, ⟨cA, oA, cB, oB, rfl, hokA, hokB, hd1, hd2⟩, hd3⟩
  simp only [List.append_nil] at N'
  simp only [AllNe, and_true] at hd1 hd2 hd3
  (try replace hd1 := Hid.mk hd1)
  (try replace hd2 := Hid.mk hd2)
  (try replace hd3 := Hid.mk hd3)
  (try dsimp only)
  walk_at "mine:steps"
  simp only [bitNot_is] at *
  rename News _ _ _ _ => Nz
  rename_i D9 h9 F9 l9
  obtain ⟨e1, e2⟩ := neg_div (by omega : a < 0) hb
  rw [e1, e2] at Nz
  show Done _ _ _ _ _
  refine ⟨_, _, [(D9, tup [.int (a / b) _, .int (a % b) _]), (30, tabObj #[rawInt 32, rawInt 4, .ref cA]), (cA, oA), (37, tabObj #[rawInt 47, rawInt 4, .ref cB]), (cB, oB)], F9, news_sub Nz (by k_subL), ⟨D9, _, _, _, rfl, rfl, ⟨cA, oA, cB, oB, rfl, hokA, hokB, ?_, ?_⟩, ?_⟩, _, _, rfl⟩
  all_goals ((try simp only [AllNe, and_true]); (repeat' (first | exact True.intro | refine And.intro ?_ ?_)); all_goals k_ne)

theorem neg_fdiv {a b : Int} (hb : b < 0) : (-a) / (-b) = a.fdiv b ∧ -((-a) % (-b)) = a.fmod b := by
  have h1 : a.fdiv b = -a / -b := by rw [← Int.neg_fdiv_neg, Int.fdiv_eq_ediv_of_nonneg _ (by omega)]
  have h2 := Int.mul_fdiv_add_fmod a b
  have h3 := Int.mul_ediv_add_emod (-a) (-b)
  refine ⟨h1.symm, ?_⟩
  rw [h1] at h2
  rw [Int.neg_mul] at h3
  omega

theorem idm (w : World) (a b : Int) (ta tb : Tok) (hb : b ≠ 0) (hf : Fits a b) (l : List (Addr × Obj)) (hl : TabsNew l ∨ TabsFull l) :
    Spec PySem.Challenge.rw_rl0044_02.row.prog w (hd.heap_39 w.params) 578 3960 56 [.int a ta, .int b tb] l (PairTabs (a.fdiv b) (a.fmod b)) := by
  by_cases hb1 : 0 < b
  · rw [Int.fdiv_eq_ediv_of_nonneg _ (by omega), Int.fmod_eq_emod_of_nonneg _ (by omega)]
    exact (idm1 w a b ta tb hb1 hf l hl).mono (by decide) (by decide) fun _ _ x => x
  k_fill
  k_dflt (refine' Spec.plain (binds := [(Str.ofString "a", .int a ta), (Str.ofString "b", .int b tb)]) ?k1 ?k2 ?k3 ?k4 ?k5 ?_ ?c1 ?c2 ?c3 ?c4; ((case k1 => k_is); (case k2 => k_is); (case k3 => decide); (case k4 => intro s; exact BindsTo.of_eq rfl); (case k5 => exact locs rfl); (case c1 => exact rfl); (case c2 => exact rfl); (case c3 => exact rfl); (case c4 => decide)))
  intro p loose mean mg mb gd cn cs a₀ ccd cl outer base g L L' s hke F N B X T C1 C2
  (try dsimp only)
  k_fold
  refine wpAny_execs_cons ?_
  walk_at "mine:steps"
  rw [if_neg (by simp; omega)]
  refine wpAny_execs_cons ?_
  walk_at "mine:steps"
  rw [if_pos (by simp; omega)]
  walk_at "mine:steps"
  refine (idm1 w (-a) (-b) _ _ (by omega) (hf.less (by rw [bits_neg]; omega) (bits_neg b)) l hl).at [] (by assumption) (by assumption) (by assumption) (by assumption) (SubL_self _) (ApartL_nil _) (by assumption) (by assumption) (by assumption) rfl (Nat.le_of_ble_eq_true rfl) (Nat.le_of_ble_eq_true rfl) ?_
  clear F N
  rintro r post h' tk' F' N' D' ⟨x, tq, tr, l2, rfl, rfl, ⟨cA, oA, cB, oB, rfl, hokA, hokB, hd1, hd2⟩, hd3⟩
  simp only [List.append_nil] at N'
  simp only [AllNe, and_true] at hd1 hd2 hd3
  (try replace hd1 := Hid.mk hd1)
  (try replace hd2 := Hid.mk hd2)
  (try replace hd3 := Hid.mk hd3)
  (try dsimp only)
  walk_at "mine:steps"
  rename News _ _ _ _ => Nz
  rename_i D9 h9 F9 l9
  obtain ⟨e1, e2⟩ := neg_fdiv (a := a) (by omega : b < 0)
  rw [e1, e2] at Nz
  show Done _ _ _ _ _
  refine ⟨_, _, [(D9, tup [.int (a.fdiv b) _, .int (a.fmod b) _]), (30, tabObj #[rawInt 32, rawInt 4, .ref cA]), (cA, oA), (37, tabObj #[rawInt 47, rawInt 4, .ref cB]), (cB, oB)], F9, news_sub Nz (by k_subL), ⟨D9, _, _, _, rfl, rfl, ⟨cA, oA, cB, oB, rfl, hokA, hokB, ?_, ?_⟩, ?_⟩, _, _, rfl⟩
  all_goals ((try simp only [AllNe, and_true]); (repeat' (first | exact True.intro | refine And.intro ?_ ?_)); all_goals k_ne)

end
section
theorem resetF9 : True := by
  w_top off
  exact trivial





noncomputable def OvPost (ns : List Int) (la : Addr) (lo : Obj) (v : Value) (post : List (Addr × Obj)) : Prop :=
  ∃ x tv et, v = .ref x ∧ post = [(x, listOf tv.toArray et), (la, lo)] ∧ IntsAre tv ((ovTab ns ns.length).map (fun v : Nat => (v : Int))) ∧ @Ne Nat x la

theorem ints_cast {vs : List Value} {a b : List Int} (e : a = b) (h : IntsAre vs a) : IntsAre vs b := e ▸ h

theorem overlap (w : World) (ns : List Int) (vs : List Value) (la ep : Nat) (hlen : ns.length ≤ 60) (hI : IntsAre vs ns) :
    Spec PySem.Challenge.rw_rl0044_02.row.prog w (hd.heap_39 w.params) 600 4000 63 [.ref la] [(la, listOf vs.toArray ep)] (OvPost ns la (listOf vs.toArray ep)) := by
  have hlv := hI.length
  k_fill
  k_dflt (refine' Spec.plain (binds := [(Str.ofString "prefix", .ref la)]) ?k1 ?k2 ?k3 ?k4 ?k5 ?_ ?c1 ?c2 ?c3 ?c4; ((case k1 => k_is); (case k2 => k_is); (case k3 => decide); (case k4 => intro s; exact BindsTo.of_eq rfl); (case k5 => exact locs rfl); (case c1 => exact rfl); (case c2 => exact rfl); (case c3 => exact rfl); (case c4 => decide)))
  intro p loose mean mg mb gd cn cs a₀ ccd cl outer base g L L' s hke F N B X T C1 C2
  (try dsimp only)
  k_fold
  walk_at "mine:steps"
  (try dsimp only)
  refine KMa.mul (vs := [.int 0 s.toks]) (by assumption) (by assumption) (by is_list) (by omega) (by omega) (by simp; omega) (rep_flat _ _) ?_
  intro D h' F' N' l2
  k_lt l2
  (try rw [Int.toNat_natCast] at N')
  (try dsimp only)
  walk_at "mine:steps"
  rename Fr _ _ _ _ => Fz
  refine For_invVF Fz rfl rfl ?_
  walk_at "mine:steps"
  rename IsRange _ _ _ _ _ _ _ _ => hR
  rename Fr _ _ _ _ => Fy
  rename News _ _ _ _ => Ny
  refine iter_rangeUnr (n := ns.length - 1) rfl hR (range_small (by omega) (by omega) (by omega) (by omega)) (by rw [range_size]; omega) Fy (news_sub (b := [(D, listOf (List.replicate ns.length (.int 0 s.toks)).toArray 0), (la, listOf vs.toArray ep)]) Ny (by k_subL)) ?_
  intro I hIl
  k_lt hIl
  refine range_inv (fun j m news => ∃ (tv : List Value) (et : Nat) (u : Str → Option Value), IntsAre tv (if ns.length = 0 then [] else tabI ns (j + 1)) ∧
      m = (fun y => if y = Str.ofString "table" then some (.ref D) else if y = Str.ofString "prefix" then some (.ref la) else u y) ∧
      news = [(D, listOf tv.toArray et), (la, listOf vs.toArray ep)]) ?_ ?_ (ns.length - 1) 0 _ _ (by omega) ?_
  · clear Fy Ny hR
    rintro j m news hj ⟨tv, et, u, hT, rfl, rfl⟩ t h tk F9 N9
    rw [if_neg (by omega)] at hT
    have hTl := tabI_length (p := ns) (i := j + 1) (by omega)
    have hTw : tv.length = ns.length := hT.length.trans hTl
    have hj1 : j + 1 < ns.length := by clear hTl hTw; omega
    have hj2 : j ≤ 58 := by clear hTl hTw; omega
    clear hj
    walk_at "mine:steps"
    obtain ⟨R, eR⟩ : ∃ R, ovGo ns (ovTab ns (j + 1)) (ns.getD (j + 1) 0) (j + 1 + 1) ((ovTab ns (j + 1)).getD (j + 1 - 1) 0) = R := ⟨_, rfl⟩
    have hT0 := ovTab_le ns (j + 1)
    refine while_rule (n := (ovTab ns (j + 1)).getD j 0) (fun k s' => ∃ tI h tk, s' = { s with heap := h, toks := tk } ∧
      Fr g L' h (fun y => if y = Str.ofString "idx" then some (.int (k : Int) tI) else if y = Str.ofString "i" then some (.int (1 + (j : Int)) t) else if y = Str.ofString "table" then some (.ref D) else if y = Str.ofString "prefix" then some (.ref la) else u y) ∧
      News g L' h [(I, itR (1 + ((j + 1 : Nat) : Int)) (((ns.length - 1 : Nat) : Int) - ((j + 1 : Nat) : Int))), (D, listOf tv.toArray et), (la, listOf vs.toArray ep)] ∧ k ≤ j ∧ ovGo ns (ovTab ns (j + 1)) (ns.getD (j + 1) 0) (k + 1) k = R) PassesOwn.never ?_ ?_
    · clear F9 N9
      rename Fr _ _ _ _ => Fx
      rename News _ _ _ _ => Nx
      clear Fx Nx
      rintro k s' ⟨tI, h, tk, rfl, F9, N9, hk, hgo⟩
      have hk2 : k ≤ 58 := Nat.le_trans hk hj2
      walk_at "mine:steps"
      have e1 : (1 + (j : Int)).toNat = j + 1 := by omega
      simp only [e1, Int.toNat_natCast]
      clear e1
      unfold ovGo at hgo
      by_cases hx : ns.getD (j + 1) 0 = ns.getD k 0
      · rw [if_pos hx] at hgo
        refine WhlIf.no (by simpa using hx) ?_
        walk_at "mine:steps"
        rename Fr _ _ _ _ => Fz
        rename News _ _ _ _ => Nz
        rename IntsAre (List.set _ _ _) _ => hI2
        have e2 : (tabI ns (j + 1)).set (1 + (j : Int)).toNat ((k : Int) + 1) = if ns.length = 0 then [] else tabI ns (j + 1 + 1) := by
          rw [if_neg (by omega), show (1 + (j : Int)).toNat = j + 1 by omega]
          have := tabI_set (p := ns) (i := j + 1) (by omega) (k + 1) (by rw [if_neg (by omega), eR]; exact hgo.symm)
          rw [← this]; rfl
        show UnrEnd _ _ _ _ _ _ _
        refine UnrEnd.intro3 Fz Nz _ ?_ ?_ ?_ ⟨_, et, _, ints_cast e2 hI2, canon2 rfl rfl, rfl⟩
        · k_mem
        · k_subL
        · k_offL
      · rw [if_neg hx] at hgo
        refine WhlIf.yes (by simpa using hx) ?_
        refine wpAny_execs_cons ?_
        walk_at "mine:steps"
        by_cases h0 : k = 0
        · subst h0
          rw [if_pos rfl] at hgo
          rw [if_pos (by rfl)]
          walk_at "mine:steps"
          show wpAny _ _ _ _ _ _
          walk_at "mine:steps"
          rename Fr _ _ _ _ => Fz
          rename News _ _ _ _ => Nz
          rename IntsAre (List.set _ _ _) _ => hI2
          have e2 : (tabI ns (j + 1)).set (1 + (j : Int)).toNat 0 = if ns.length = 0 then [] else tabI ns (j + 1 + 1) := by
            rw [if_neg (by omega), show (1 + (j : Int)).toNat = j + 1 by omega]
            have := tabI_set (p := ns) (i := j + 1) (by omega) 0 (by rw [if_neg (by omega), eR]; exact hgo.symm)
            rw [← this]; rfl
          show UnrEnd _ _ _ _ _ _ _
          refine UnrEnd.intro3 Fz Nz _ ?_ ?_ ?_ ⟨_, et, _, ints_cast e2 hI2, canon2 rfl rfl, rfl⟩
          · k_mem
          · k_subL
          · k_offL
        · rw [if_neg h0] at hgo
          rw [if_neg (by simpa using h0)]
          walk_at "mine:steps"
          rename Fr _ _ _ _ => Fz
          rename News _ _ _ _ => Nz
          have h8 := hT0 (k - 1)
          have e3 : (tabI ns (j + 1)).getD ((k : Int) - 1).toNat 0 = (((ovTab ns (j + 1)).getD (k - 1) 0 : Nat) : Int) := by
            rw [show ((k : Int) - 1).toNat = k - 1 by omega]
            exact tabI_get (by omega)
          rw [e3] at Fz
          refine ⟨(ovTab ns (j + 1)).getD (k - 1) 0, by omega, _, _, _, rfl, Fr.congr Fz (map_ext [Str.ofString "idx"] ⟨rfl, trivial⟩ (fun y ⟨h1, _⟩ => by simp only [if_neg h1])), Nz, by omega, ?_⟩
          rw [← hgo]
          exact (ovGo_fuel hT0 _ k (by omega)).symm
    · rename Fr _ _ _ _ => Fz
      rename News _ _ _ _ => Nz
      have h8 := hT0 j
      have e3 : (tabI ns (j + 1)).getD (1 + (j : Int) - 1).toNat 0 = (((ovTab ns (j + 1)).getD j 0 : Nat) : Int) := by
        rw [show (1 + (j : Int) - 1).toNat = j by omega]
        exact tabI_get (by omega)
      rw [e3] at Fz
      refine ⟨_, _, _, rfl, Fz, Nz, h8, ?_⟩
      rw [← eR]
      exact (ovGo_fuel hT0 _ (j + 1 + 1) (by omega)).symm
  · clear Fy Ny hR
    rintro m news h tk ⟨tv, et, u, hT, rfl, rfl⟩ F9 N9
    (try dsimp only)
    walk_at "mine:steps"
    show Done _ _ _ _ _
    refine ⟨_, _, [(D, listOf tv.toArray et), (la, listOf vs.toArray ep)], by assumption, by assumption, ⟨D, tv, et, rfl, rfl, ?_, by omega⟩, _, _, rfl⟩
    by_cases h0 : ns.length = 0
    · have hnil : ns = [] := List.eq_nil_of_length_eq_zero h0
      subst hnil
      exact hT
    · rw [if_neg h0, show ns.length - 1 + 1 = ns.length by omega, tabI_whole] at hT
      exact hT
  · refine ⟨_, 0, _, ?_, canon2 rfl rfl, rfl⟩
    by_cases h0 : ns.length = 0
    · rw [if_pos h0, h0]; exact .nil
    · rw [if_neg h0, tabI_one (by omega)]
      exact ints_rep 0 s.toks ns.length

end
section
theorem resetG1 : True := by
  w_top off
  exact trivial






theorem ints_start (count : Nat) : rangeKs 0 ((count : Int) - 0).toNat = rowStart count := by
  unfold rangeKs rowStart
  rw [Int.sub_zero, Int.toNat_natCast]
  apply List.map_congr_left
  intro i _
  omega

noncomputable def RowPost (count : Nat) (ps : List Nat) (la : Addr) (lo : Obj) (v : Value) (post : List (Addr × Obj)) : Prop :=
  ∃ x rv et, v = .ref x ∧ post = [(x, listOf rv.toArray et), (la, lo)] ∧ IntsAre rv (rowAll count ps (rowStart count)) ∧ @Ne Nat x la

theorem law_row (w : World) (count : Nat) (pv : List Value) (ps : List Nat) (la ep : Nat) (tc : Tok) (hI : IntsAre pv (ps.map fun (p : Nat) => (p : Int))) (hc : count ≤ 16) (hp : ∀ p ∈ ps, 1 ≤ p ∧ p ≤ 10) :
    Spec PySem.Challenge.rw_rl0044_02.row.prog w (hd.heap_39 w.params) 600 4000 75 [.int count tc, .ref la] [(la, listOf pv.toArray ep)] (RowPost count ps la (listOf pv.toArray ep)) := by
  k_fill
  k_dflt (refine' Spec.cells (binds := [(Str.ofString "count", .int count tc), (Str.ofString "periods", .ref la)]) ?k1 ?k2 ?k3 ?k4 ?k5 ?k6 ?_ ?c1 ?c2 ?c3; ((case k1 => k_is); (case k2 => k_is); (case k3 => decide); (case k4 => intro s; exact BindsTo.of_eq rfl); (case k5 => exact rfl); (case k6 => decide +kernel); (case c1 => exact rfl); (case c2 => exact rfl); (case c3 => exact rfl)))
  intro p loose mean mg mb gd cn cs a₀ ccd cl outer base g L L' s cells hke F N Y l1 B X T C1 C2
  k_lt l1
  obtain ⟨oA, oB, rfl, dA, dB⟩ := CellsAre.two Y
  replace dA : oA.data = .cell none := dA
  replace dB : oB.data = .cell none := dB
  replace F : Fr g L' s.heap (fun y => if y = Str.ofString "periods" then some (.ref la) else if y = Str.ofString "count" then some (.int count tc) else none) := F
  replace N : News g L' s.heap [(L' + 1 + 1, oA), (L' + 1, oB), (la, listOf pv.toArray ep)] := N
  clear Y
  show wpAny _ _ _ _ _ _
  k_fold
  walk_at "mine:steps"
  rename IntsAre _ (rangeKs _ _) => hR0
  rw [ints_start] at hR0
  rename Fr _ _ _ _ => Fz
  refine For_invVF Fz rfl rfl ?_
  walk_at "mine:steps"
  rename Fr _ _ _ _ => Fy
  rename News _ _ _ _ => Ny
  rename_i D0 rv0 c0 h0 tk0 l0 h00
  refine iter_listUnr (lo := listOf pv.toArray ep) (vs := pv) rfl Fy Ny (by k_mem) rfl rfl ?_
  intro I hIl
  k_lt hIl
  refine list_inv (fun rest m news => ∃ (qs : List Nat) (row : List Int) (D : Addr) (rv : List Value) (c : Nat) (oA oB : Obj) (vA vB : Option Value) (u : Str → Option Value), IntsAre rest (qs.map fun (p : Nat) => (p : Int)) ∧ (∀ p ∈ qs, 1 ≤ p ∧ p ≤ 10) ∧ rowAll count qs row = rowAll count ps (rowStart count) ∧
      IntsAre rv row ∧ row.length = count ∧ oA.data = .cell vA ∧ oB.data = .cell vB ∧ AllNe D [(L' + 1 + 1, oA), (L' + 1, oB), (la, oA), (I, oA)] ∧
      m = (fun y => if y = Str.ofString "row" then some (.ref D) else if y = Str.ofString "count" then some (.int count tc) else u y) ∧
      news = [(D, listOf rv.toArray c), (L' + 1 + 1, oA), (L' + 1, oB), (la, listOf pv.toArray ep)]) ?_ ?_ pv _ _ ?_
  · clear Fy Ny dA dB
    rintro v rest m news ⟨qs, row, D, rv, c, oA, oB, vA, vB, u, hq, hq1, hall, hrow, hrl, dA, dB, hne, rfl, rfl⟩ it h tk hcl F9 N9
    simp only [AllNe, and_true] at hne
    (try replace hne := Hid.mk hne)
    rcases qs with _ | ⟨q, qs⟩
    · cases hq
    · cases hq with
      | @cons _ tq _ _ hq =>
        have hq10 := hq1 q (List.mem_cons_self ..)
        walk_at "mine:steps"
        rename Fr _ _ _ _ => Fz
        refine For_invVF Fz rfl rfl ?_
        walk_at "mine:steps"
        rename IsRange _ _ _ _ _ _ _ _ => hR
        rename Fr _ _ _ _ => Fy
        rename News _ _ _ _ => Ny
        refine iter_rangeUnr (n := count - q) rfl hR (range_small (by omega) (by omega) (by omega) (by omega)) (by rw [range_size]; omega) Fy Ny ?_
        intro J hJl
        k_lt hJl
        refine range_inv (fun j m news => ∃ (D : Addr) (rv : List Value) (c : Nat) (oA oB : Obj) (vA vB : Option Value) (u : Str → Option Value), IntsAre rv (rowPer q row j) ∧ oA.data = .cell vA ∧ oB.data = .cell vB ∧
            AllNe D [(L' + 1 + 1, oA), (L' + 1, oB), (la, oA), (I, oA), (J, oA)] ∧
            m = (fun y => if y = Str.ofString "row" then some (.ref D) else if y = Str.ofString "count" then some (.int count tc) else if y = Str.ofString "period" then some (.int q tq) else u y) ∧
            news = [(I, it), (D, listOf rv.toArray c), (L' + 1 + 1, oA), (L' + 1, oB), (la, listOf pv.toArray ep)]) ?_ ?_ (count - q) 0 _ _ (by omega) ?_
        · clear Fy Ny hR dA dB hne
          rintro j m news hj ⟨D, rv, c, oA, oB, vA, vB, u, hrv, dA, dB, hne, rfl, rfl⟩ t h tk F9 N9
          simp only [AllNe, and_true] at hne
          (try replace hne := Hid.mk hne)
          have hrl3 : (rowPer q row j).length = count := (rowPer_length q row j).trans hrl
          have hrv3 : rv.length = count := hrv.length.trans hrl3
          have hj1 : q + j < count := by clear hrl3 hrv3; omega
          have hj2 : j ≤ 15 := by clear hrl3 hrv3; omega
          have hq2 : q ≤ 10 := hq10.2
          clear hj
          walk_at "mine:steps"
          rename_i h7 oO dO h8 oN F8 N8 dN
          rw [show ((q : Int) + j - q).toNat = j by omega] at dO
          rw [show ((q : Int) + j).toNat = q + j by omega] at dN
          have hl8 : (rowTurn q (rowPer q row j) (q + j)).length = rv.toArray.size := by rw [rowTurn_length, List.size_toArray, hrl3, hrv3]
          refine LCg.CompSrc.ledger rfl F8 N8 (by k_mem) (by rw [List.size_toArray, hrv3]; simp [sizeLine]; omega) ?_
          intro g'
          refine comp_inv (n := rv.toArray.size) (fun i ys => IntsAre ys ((rowTurn q (rowPer q row j) (q + j)).take i)) (.inr ⟨_, by k_mem, rfl, _, rfl⟩) ?_ ?_ rv.toArray.size 0 [] (by omega) .nil
          · clear F8 N8
            rename Fr _ _ _ _ => F8
            rename News _ _ _ _ => N8
            clear F8 N8
            intro i ys hi hys v I2 oI2 C oC D2 m2 h tk E' hv hC hx F N off ne
            (try replace ne := Hid.mk ne)
            rw [List.size_toArray] at hi
            have hi2 : i < (rowPer q row j).length := by omega
            obtain ⟨tv, hv2⟩ := hrv.get i ((rowPer q row j)[i]) (by simp [hi2])
            have hv3 : v = .int ((rowPer q row j)[i]) tv := by
              have : rv[i]? = some v := by simpa using hv
              rw [hv2] at this; exact (Option.some.inj this).symm
            subst hv3
            have e5 : (rowTurn q (rowPer q row j) (q + j)).take (i + 1) = (rowTurn q (rowPer q row j) (q + j)).take i ++ [if (rowPer q row j)[i] = (rowPer q row j).getD (q + j) 0 then (rowPer q row j).getD j 0 else (rowPer q row j)[i]] := by
              rw [List.take_add_one, List.getElem?_eq_getElem (by rw [rowTurn_length]; exact hi2)]
              simp [rowTurn]
            simp only [LCg.Off3, and_true] at off
            (try replace off := Hid.mk off)
            walk_at "mine:steps"
            by_cases hs : (rowPer q row j)[i] = (rowPer q row j).getD (q + j) 0
            · rw [if_pos (by simpa using hs)]
              rw [if_pos hs] at e5
              walk_at "mine:steps"
              exact ⟨_, _, rfl, F, N, by rw [e5]; exact ints_append hys (.cons _ _ .nil)⟩
            · rw [if_neg (by simpa using hs)]
              rw [if_neg hs] at e5
              walk_at "mine:steps"
              exact ⟨_, _, rfl, F, N, by rw [e5]; exact ints_append hys (.cons _ _ .nil)⟩
          · clear F8 N8
            rename Fr _ _ _ _ => F8
            rename News _ _ _ _ => N8
            clear F8 N8
            intro ys hys D2 h tk F8 N8 off
            simp only [LCg.Off1, and_true] at off
            (try replace off := Hid.mk off)
            rw [List.take_of_length_le (by omega)] at hys
            (try dsimp only)
            walk_at "mine:steps"
            show UnrEnd _ _ _ _ _ _ _
            refine UnrEnd.intro3 F8 N8 _ ?_ ?_ ?_ ⟨D2, ys, ys.length, oN, oO, _, _, _, hys, dN, dO, ?_, canon3 rfl rfl rfl, rfl⟩
            · k_mem
            · k_subL
            · k_offL
            · ((try simp only [AllNe, and_true]); (repeat' (first | exact True.intro | refine And.intro ?_ ?_)); all_goals k_ne)
        · clear Fy Ny hR dA dB hne
          rintro m news h tk ⟨D, rv, c, oA, oB, vA, vB, u, hrv, dA, dB, hne, rfl, rfl⟩ F9 N9
          simp only [AllNe, and_true] at hne
          (try replace hne := Hid.mk hne)
          (try dsimp only)
          walk_at "mine:steps"
          show UnrEnd _ _ _ _ _ _ _
          refine UnrEnd.intro3 F9 N9 [(D, listOf rv.toArray c), (L' + 1 + 1, oA), (L' + 1, oB), (la, listOf pv.toArray ep)] ?_ ?_ ?_ ⟨?_, qs, rowPer q row (count - q), D, rv, c, oA, oB, _, _, _, hq, fun p hp => hq1 p (List.mem_cons_of_mem _ hp), hall, hrv, by rw [rowPer_length]; exact hrl, dA, dB, ?_, canon2 rfl rfl, rfl⟩
          · k_mem
          · k_subL
          · k_offL
          · k_mem
          · ((try simp only [AllNe, and_true]); (repeat' (first | exact True.intro | refine And.intro ?_ ?_)); all_goals k_ne)
        · exact ⟨D, rv, c, oA, oB, _, _, _, hrow, dA, dB, by ((try simp only [AllNe, and_true]); (repeat' (first | exact True.intro | refine And.intro ?_ ?_)); all_goals k_ne), canon3 rfl rfl rfl, rfl⟩
  · clear Fy Ny dA dB
    rintro m news h tk ⟨qs, row, D, rv, c, oA, oB, vA, vB, u, hq, hq1, hall, hrow, hrl, dA, dB, hne, rfl, rfl⟩ F9 N9
    simp only [AllNe, and_true] at hne
    (try replace hne := Hid.mk hne)
    rcases qs with _ | ⟨q, qs⟩
    · (try dsimp only)
      walk_at "mine:steps"
      show Done _ _ _ _ _
      exact ⟨_, _, [(D, listOf rv.toArray c), (la, listOf pv.toArray ep)], by assumption, news_sub N9 (by k_subL), ⟨D, rv, c, rfl, rfl, hall ▸ hrow, by ((try simp only [AllNe, and_true]); (repeat' (first | exact True.intro | refine And.intro ?_ ?_)); all_goals k_ne)⟩, _, _, rfl⟩
    · cases hq
  · exact ⟨ps, rowStart count, D0, rv0, c0, oA, oB, _, _, _, hI, hp, rfl, hR0, by simp [rowStart], dA, dB, by ((try simp only [AllNe, and_true]); (repeat' (first | exact True.intro | refine And.intro ?_ ?_)); all_goals k_ne), canon2 rfl rfl, rfl⟩

end
section
theorem resetG2 : True := by
  w_top off
  exact trivial






theorem chainGo_fuel {t : List Nat} (ht : ∀ j, t.getD j 0 ≤ j) : ∀ b f, b < f → chainGo t f b = chainGo t (b + 1) b := by
  intro b
  induction b using Nat.strongRecOn with
  | ind b ih =>
    intro f hf
    obtain ⟨f, rfl⟩ : ∃ g, f = g + 1 := ⟨f - 1, by omega⟩
    unfold chainGo
    split
    · rfl
    · have h2 := ht (b - 1)
      rw [ih (t.getD (b - 1) 0) (by omega) f (by omega), ih (t.getD (b - 1) 0) (by omega) b (by omega)]
abbrev nats (l : List Nat) : List Int := l.map fun (v : Nat) => (v : Int)
theorem nats_get (l : List Nat) (j : Nat) : (nats l).getD j 0 = ((l.getD j 0 : Nat) : Int) := by
  rw [List.getD_eq_getElem?_getD, List.getElem?_map, List.getD_eq_getElem?_getD]
  cases l[j]? <;> rfl

noncomputable def ChainPost (t : List Nat) (la : Addr) (lo : Obj) (v : Value) (post : List (Addr × Obj)) : Prop :=
  ∃ x cv et, v = .ref x ∧ post = [(x, listOf cv.toArray et), (la, lo)] ∧ IntsAre cv (nats (chainGo t 20 (t.getD (t.length - 1) 0))) ∧ @Ne Nat x la

theorem law_chain (w : World) (t : List Nat) (tv : List Value) (la ep : Nat) (hI : IntsAre tv (nats t)) (ht : ∀ j, t.getD j 0 ≤ j) (h1 : 1 ≤ t.length) (h2 : t.length ≤ 16) :
    Spec PySem.Challenge.rw_rl0044_02.row.prog w (hd.heap_39 w.params) 600 4000 82 [.ref la] [(la, listOf tv.toArray ep)] (ChainPost t la (listOf tv.toArray ep)) := by
  have hl := hI.length
  rw [List.length_map] at hl
  k_fill
  k_dflt (refine' Spec.plain (binds := [(Str.ofString "table", .ref la)]) ?k1 ?k2 ?k3 ?k4 ?k5 ?_ ?c1 ?c2 ?c3 ?c4; ((case k1 => k_is); (case k2 => k_is); (case k3 => decide); (case k4 => intro s; exact BindsTo.of_eq rfl); (case k5 => exact locs rfl); (case c1 => exact rfl); (case c2 => exact rfl); (case c3 => exact rfl); (case c4 => decide)))
  intro p loose mean mg mb gd cn cs a₀ ccd cl outer base g L L' s hke F N B X T C1 C2
  (try dsimp only)
  k_fold
  walk_at "mine:steps"
  rename Fr _ _ _ _ => Fy
  rename News _ _ _ _ => Ny
  rename_i Ch h5 lC h6 tk6 t5 h7
  have hnl : (nats t).length = t.length := List.length_map _
  rw [show (-1 + ((nats t).length : Int)).toNat = t.length - 1 by rw [hnl]; omega, nats_get] at Fy
  obtain ⟨b0, eb0⟩ : ∃ b0, t.getD (t.length - 1) 0 = b0 := ⟨_, rfl⟩
  have hb0 := ht (t.length - 1)
  rw [eb0] at Fy hb0
  obtain ⟨W, eW⟩ : ∃ W, chainGo t 20 b0 = W := ⟨_, rfl⟩
  refine while_rule (n := b0) (fun b s' => ∃ (tb : Tok) (cs : List Nat) (cv : List Value) (et : Nat) (h : Heap) (tk : Nat), s' = { s with heap := h, toks := tk } ∧
      Fr g L' h (fun y => if y = Str.ofString "border" then some (.int (b : Int) tb) else if y = Str.ofString "chain" then some (.ref Ch) else List.lookup y [(Str.ofString "table", Value.ref la)].reverse) ∧
      News g L' h [(Ch, listOf cv.toArray et), (la, listOf tv.toArray ep)] ∧ IntsAre cv (nats cs) ∧ cs.length + b ≤ 20 ∧ b < t.length ∧ cs ++ chainGo t (b + 1) b = W) PassesOwn.never ?_ ?_
  · clear Fy Ny
    rintro b s' ⟨tb, cs2, cv, et, h, tk, rfl, F9, N9, hcv, hlen, hbt, hch⟩
    have hcl := hcv.length
    rw [List.length_map] at hcl
    walk_at "mine:steps"
    unfold chainGo at hch
    by_cases hb : b = 0
    · subst hb
      rw [if_pos rfl, List.append_nil] at hch
      refine WhlIf.no (by rfl) ?_
      walk_at "mine:steps"
      show Done _ _ _ _ _
      refine ⟨_, _, [(Ch, listOf cv.toArray et), (la, listOf tv.toArray ep)], by assumption, by assumption, ⟨Ch, cv, et, rfl, rfl, ?_, by omega⟩, _, _, rfl⟩
      rw [eb0, eW, ← hch]; exact hcv
    · rw [if_neg hb] at hch
      refine WhlIf.yes (by simp; omega) ?_
      walk_at "mine:steps"
      rename Fr _ _ _ _ => Fz
      rename News _ _ _ _ => Nz
      have h8 := ht (b - 1)
      rw [List.push_toArray] at Nz
      rw [show ((b : Int) - 1).toNat = b - 1 by omega, nats_get] at Fz
      refine ⟨t.getD (b - 1) 0, by omega, _, cs2 ++ [b], _, _, _, _, rfl, Fr.congr Fz (map_ext [Str.ofString "border"] ⟨rfl, trivial⟩ (fun y ⟨h1, _⟩ => by simp only [if_neg h1])), Nz, ?_, by rw [List.length_append, List.length_singleton]; omega, by omega, ?_⟩
      · have e : nats (cs2 ++ [b]) = nats cs2 ++ [(b : Int)] := by simp [nats]
        rw [e]; exact ints_append hcv (.cons _ _ .nil)
      · rw [← hch, List.append_assoc, List.singleton_append, chainGo_fuel ht _ b (by omega)]
  · exact ⟨_, [], [], 0, _, _, rfl, Fy, Ny, .nil, by simp; omega, by omega, by rw [List.nil_append, ← eW]; exact (chainGo_fuel ht b0 20 (by omega)).symm⟩

end
section
theorem resetG3 : True := by
  w_top off
  exact trivial






theorem fits_of {a b : Int} (h1 : Builtin.Int.intBits b ≤ 7998) (h2 : Builtin.Int.intBits a ≤ 20000) (h3 : 1 ≤ Builtin.Int.intBits b) (h4 : Builtin.Int.intBits a ≤ 49 * Builtin.Int.intBits b) : Fits a b := by
  refine ⟨h1, h2, Nat.le_of_lt_succ ((Nat.div_lt_iff_lt_mul (by omega)).mpr ?_)⟩
  omega
/-- a unit as the laws have it -/
noncomputable def UnitOk (U : Int) : Prop := 1000 ≤ Builtin.Int.intBits U ∧ Builtin.Int.intBits U ≤ 4200
theorem UnitOk.ne {U : Int} (h : UnitOk U) : U ≠ 0 := by
  intro e
  subst e
  exact absurd h.1 (by decide)
theorem fits_unit {U : Int} (h : UnitOk U) {u v : Nat} (hu : u ≤ 200) (hv : 1 ≤ v) (hv2 : v ≤ 200) : Fits ((u : Int) * U) ((v : Int) * U) := by
  have a := bits_mul (u : Int) U
  have b := bits_mul (v : Int) U
  have c := bits_scale (U := U) hv
  have d := bits_small hu
  have e := bits_small hv2
  have f := h.1
  have g := h.2
  exact fits_of (by omega) (by omega) (by omega) (by omega)

noncomputable def MeasPost (g : Nat) (U : Int) (v : Value) (post : List (Addr × Obj)) : Prop := ∃ t, v = .int ((g : Int) * U) t ∧ TabsFull post

theorem measGo_step (k : Nat) (x : Nat × Nat) : measGo (k + 1) x = measGo k (if x.2 = 0 then x else (x.2, x.1 % x.2)) := by
  obtain ⟨u, l⟩ := x
  rfl

theorem law_measure (w : World) (u v : Nat) (U : Int) (tu tv : Tok) (hU : UnitOk U) (hu : u ≤ 10) (hv : v ≤ 10) (l : List (Addr × Obj)) (hl : TabsFull l) :
    Spec PySem.Challenge.rw_rl0044_02.row.prog w (hd.heap_39 w.params) 577 3950 89 [.int ((u : Int) * U) tu, .int ((v : Int) * U) tv] l (MeasPost (measGo 8 (u, v)).1 U) := by
  have hU0 := hU.ne
  obtain ⟨cA0, oA0, cB0, oB0, rfl, hokA0, hokB0, hd10, hd20⟩ := hl
  k_fill
  k_dflt (refine' Spec.plain (binds := [(Str.ofString "upper", .int ((u : Int) * U) tu), (Str.ofString "lower", .int ((v : Int) * U) tv)]) ?k1 ?k2 ?k3 ?k4 ?k5 ?_ ?c1 ?c2 ?c3 ?c4; ((case k1 => k_is); (case k2 => k_is); (case k3 => decide); (case k4 => intro s; exact BindsTo.of_eq rfl); (case k5 => exact locs rfl); (case c1 => exact rfl); (case c2 => exact rfl); (case c3 => exact rfl); (case c4 => decide)))
  intro p loose mean mg mb gd cn cs a₀ ccd cl outer base g L L' s hke F N B X T C1 C2
  (try dsimp only)
  k_fold
  walk_at "mine:steps"
  rename Fr _ _ _ _ => Fz
  refine For_invVF Fz rfl rfl ?_
  walk_at "mine:steps"
  rename IsRange _ _ _ _ _ _ _ _ => hR
  rename Fr _ _ _ _ => Fy
  rename News _ _ _ _ => Ny
  refine iter_rangeUnr (n := 8) rfl hR (range_small (by omega) (by omega) (by omega) (by omega)) (by rw [range_size]; rfl) Fy Ny ?_
  intro I hIl
  k_lt hIl
  refine range_inv (fun j m news => ∃ (x y : Nat) (tx ty : Tok) (uu : Str → Option Value) (cA : Addr) (oA : Obj) (cB : Addr) (oB : Obj), x ≤ 10 ∧ y ≤ 10 ∧ measGo (8 - j) (x, y) = measGo 8 (u, v) ∧
      CodeOk oA (Str.ofString "_int2digits.<locals>.inner") ∧ CodeOk oB (Str.ofString "_digits2int.<locals>.inner") ∧ AllNe cA [(30, oA), (37, oA), (cB, oA), (I, oA)] ∧ AllNe cB [(30, oA), (37, oA), (I, oA)] ∧
      m = (fun z => if z = Str.ofString "upper" then some (.int ((x : Int) * U) tx) else if z = Str.ofString "lower" then some (.int ((y : Int) * U) ty) else uu z) ∧
      news = [(30, tabObj #[rawInt 32, rawInt 4, .ref cA]), (cA, oA), (37, tabObj #[rawInt 47, rawInt 4, .ref cB]), (cB, oB)]) ?_ ?_ 8 0 _ _ (by omega) ?_
  · clear Fy Ny hR
    rintro j m news hj ⟨x, y, tx, ty, uu, cA, oA, cB, oB, hx, hy, hgo, hokA, hokB, hd1, hd2, rfl, rfl⟩ t h tk F9 N9
    simp only [AllNe, and_true] at hd1 hd2
    (try replace hd1 := Hid.mk hd1)
    (try replace hd2 := Hid.mk hd2)
    refine wpAny_execs_cons ?_
    walk_at "mine:steps"
    have hgo2 := hgo
    rw [show 8 - j = (8 - (j + 1)) + 1 by omega, measGo_step] at hgo2
    by_cases hy0 : y = 0
    · subst hy0
      rw [if_pos rfl] at hgo2
      rw [if_neg (by simp)]
      walk_at "mine:steps"
      (try dsimp only)
      show UnrEnd _ _ _ _ _ _ _
      refine UnrEnd.intro3 F9 N9 _ ?_ ?_ ?_ ⟨x, 0, _, _, _, cA, oA, cB, oB, hx, by omega, hgo2, hokA, hokB, ?_, ?_, canon2 rfl rfl, rfl⟩
      · k_mem
      · k_subL
      · k_offL
      all_goals ((try simp only [AllNe, and_true]); (repeat' (first | exact True.intro | refine And.intro ?_ ?_)); all_goals k_ne)
    · rw [if_neg hy0] at hgo2
      have hyU : (y : Int) * U ≠ 0 := Int.mul_ne_zero (by omega) hU0
      rw [if_pos (by simpa using hyU)]
      walk_at "mine:steps"
      refine (idm w ((x : Int) * U) ((y : Int) * U) _ _ hyU (fits_unit hU (by omega) (by omega) (by omega)) [(30, tabObj #[rawInt 32, rawInt 4, .ref cA]), (cA, oA), (37, tabObj #[rawInt 47, rawInt 4, .ref cB]), (cB, oB)]
        (.inr ⟨cA, oA, cB, oB, rfl, hokA, hokB, ⟨hd1.1, hd1.2.1, hd1.2.2.1, trivial⟩, ⟨hd2.1, hd2.2.1, trivial⟩⟩)).at [(I, itR (0 + ((j + 1 : Nat) : Int)) ((8 : Nat) - ((j + 1 : Nat) : Int)))] (by assumption) F9 (by assumption) N9 (by k_subL) (by ((try simp only [List.cons_append, List.nil_append, ApartL, AllNe, and_true]); (repeat' (first | exact True.intro | refine And.intro ?_ ?_)); all_goals k_ne)) (by assumption) (by assumption) (by assumption) rfl (Nat.le_of_ble_eq_true rfl) (Nat.le_of_ble_eq_true rfl) ?_
      rintro r2 post h' tk' F' N' D' ⟨z, tq, tr, l2, rfl, rfl, ⟨cA2, oA2, cB2, oB2, rfl, hokA2, hokB2, he1, he2⟩, he3⟩
      simp only [List.cons_append, List.nil_append] at N'
      simp only [ApartL, AllNe, and_true, and_assoc] at he1 he2 he3 D'
      (try replace he1 := Hid.mk he1)
      (try replace he2 := Hid.mk he2)
      (try replace he3 := Hid.mk he3)
      (try replace D' := Hid.mk D')
      rw [scale_fmod (by omega) hU0] at N'
      (try dsimp only)
      walk_at "mine:steps"
      rename Fr _ _ _ _ => Fz
      rename News _ _ _ _ => Nz
      rw [show (x : Int) % (y : Int) = ((x % y : Nat) : Int) from rfl] at Fz
      have hxy := Nat.mod_lt x (by omega : 0 < y)
      show UnrEnd _ _ _ _ _ _ _
      refine UnrEnd.intro3 Fz Nz _ ?_ ?_ ?_ ⟨y, x % y, _, _, _, cA2, oA2, cB2, oB2, hy, by omega, hgo2, hokA2, hokB2, ?_, ?_, canon2 rfl rfl, rfl⟩
      · k_mem
      · k_subL
      · k_offL
      all_goals ((try simp only [AllNe, and_true]); (repeat' (first | exact True.intro | refine And.intro ?_ ?_)); all_goals k_ne)
  · clear Fy Ny hR
    rintro m news h tk ⟨x, y, tx, ty, uu, cA, oA, cB, oB, hx, hy, hgo, hokA, hokB, hd1, hd2, rfl, rfl⟩ F9 N9
    simp only [AllNe, and_true] at hd1 hd2
    (try replace hd1 := Hid.mk hd1)
    (try replace hd2 := Hid.mk hd2)
    replace hgo : (x, y) = measGo 8 (u, v) := hgo
    (try dsimp only)
    walk_at "mine:steps"
    show Done _ _ _ _ _
    exact ⟨_, _, _, F9, N9, ⟨_, by rw [← hgo], ⟨cA, oA, cB, oB, rfl, hokA, hokB, ⟨hd1.1, hd1.2.1, hd1.2.2.1, trivial⟩, ⟨hd2.1, hd2.2.1, trivial⟩⟩⟩, _, _, rfl⟩
  · simp only [AllNe, and_true] at hd10 hd20
    (try replace hd10 := Hid.mk hd10)
    (try replace hd20 := Hid.mk hd20)
    exact ⟨u, v, _, _, _, cA0, oA0, cB0, oB0, hu, hv, rfl, hokA0, hokB0, by ((try simp only [AllNe, and_true]); (repeat' (first | exact True.intro | refine And.intro ?_ ?_)); all_goals k_ne), by ((try simp only [AllNe, and_true]); (repeat' (first | exact True.intro | refine And.intro ?_ ?_)); all_goals k_ne), canon2 rfl rfl, rfl⟩

end
section
theorem resetG4 : True := by
  w_top off
  exact trivial






noncomputable def BordersPost (bs : List Nat) (v : Value) (post : List (Addr × Obj)) : Prop :=
  ∃ x bv et l, v = .ref x ∧ post = (x, listOf bv.toArray et) :: l ∧ IntsAre bv (nats bs) ∧ TabsFull l ∧ AllNe x l

theorem downs_last {bs : List Nat} {c sm q : Nat} (hq : 1 ≤ q) : (bs ++ downs c sm q).getLastD 0 = c - q * sm := by
  obtain ⟨m, rfl⟩ : ∃ m, q = m + 1 := ⟨q - 1, by omega⟩
  have : downs c sm (m + 1) = downs c sm m ++ [c - (m + 1) * sm] := by simp [downs, List.range_succ]
  rw [this, ← List.append_assoc]
  simp
theorem downs_length (c sm q : Nat) : (downs c sm q).length = q := by simp [downs]

theorem downs_take {c sm q i : Nat} (hi : i < q) : (downs c sm q).take (i + 1) = (downs c sm q).take i ++ [c - (i + 1) * sm] := by
  rw [List.take_add_one, List.getElem?_eq_getElem (by rw [downs_length]; exact hi)]
  simp [downs]

theorem getD_last (l : List Nat) : l.getD (l.length - 1) 0 = l.getLastD 0 := by
  rw [List.getLastD_eq_getLast?, List.getLast?_eq_getElem?, List.getD_eq_getElem?_getD]

theorem bEnd_mk (gg : Nat) (bs : List Nat) (c sm lg : Nat) : bEnd gg ⟨bs, c, sm, lg⟩ = bs ++ downs c (if lg < c then gg else sm) ((c - 1) / (if lg < c then gg else sm)) := rfl
theorem fdiv_nat (a b : Nat) (h : 1 ≤ a) : ((a : Int) - 1).fdiv (b : Int) = (((a - 1) / b : Nat) : Int) := by
  rw [show (a : Int) - 1 = ((a - 1 : Nat) : Int) by omega, Int.fdiv_eq_ediv_of_nonneg _ (by omega)]
  rfl

theorem law_borders (w : World) (count small large gg : Nat) (U : Int) (t1 t2 t3 t4 t5 : Tok) (hU : UnitOk U) (h1 : count ≤ 16) (h2 : small ≤ 10) (h3 : large ≤ 10) (h4 : gg ≤ 10) 
    (hok : ∀ k < 8, bOk gg (bGo gg k ⟨[], count, small, large⟩) = true) (hend : bEndOk gg (bGo gg 8 ⟨[], count, small, large⟩) = true) (l : List (Addr × Obj)) (hl : TabsFull l) :
    Spec PySem.Challenge.rw_rl0044_02.row.prog w (hd.heap_39 w.params) 577 3950 94 [.int count t1, .int small t2, .int large t3, .int gg t4, .int U t5] l (BordersPost (bEnd gg (bGo gg 8 ⟨[], count, small, large⟩))) := by
  have hU0 := hU.ne
  obtain ⟨cA0, oA0, cB0, oB0, rfl, hokA0, hokB0, hd10, hd20⟩ := hl
  k_fill
  k_dflt (refine' Spec.cells (binds := [(Str.ofString "count", .int count t1), (Str.ofString "small", .int small t2), (Str.ofString "large", .int large t3), (Str.ofString "measure", .int gg t4), (Str.ofString "unit", .int U t5)]) ?k1 ?k2 ?k3 ?k4 ?k5 ?k6 ?_ ?c1 ?c2 ?c3; ((case k1 => k_is); (case k2 => k_is); (case k3 => decide); (case k4 => intro s; exact BindsTo.of_eq rfl); (case k5 => exact rfl); (case k6 => decide +kernel); (case c1 => exact rfl); (case c2 => exact rfl); (case c3 => exact rfl)))
  intro p loose mean mg mb gd cn cs a₀ ccd cl outer base g L L' s cells hke F N Y l1 B X T C1 C2
  k_lt l1
  simp only [AllNe, and_true] at hd10 hd20
  (try replace hd10 := Hid.mk hd10)
  (try replace hd20 := Hid.mk hd20)
  obtain ⟨oS, oC, rfl, dS, dC⟩ := CellsAre.two Y
  replace dS : oS.data = .cell (some (.int small t2)) := dS
  replace dC : oC.data = .cell (some (.int count t1)) := dC
  replace F : Fr g L' s.heap (fun y => if y = Str.ofString "unit" then some (.int U t5) else if y = Str.ofString "measure" then some (.int gg t4) else if y = Str.ofString "large" then some (.int large t3) else none) := F
  replace N : News g L' s.heap [(L' + 1 + 1, oS), (L' + 1, oC), (30, tabObj #[rawInt 32, rawInt 4, .ref cA0]), (cA0, oA0), (37, tabObj #[rawInt 47, rawInt 4, .ref cB0]), (cB0, oB0)] := N
  clear Y
  show wpAny _ _ _ _ _ _
  k_fold
  (repeat' (first | ((fail_if_success (first | walk_at "mine:halt" | (with_reducible show wpAny _ _ (binaryOp Operator.FloorDiv _ _) _ _ _) | (with_reducible show wpAny _ _ (binaryOp Operator.Add (Value.ref _) (Value.ref _)) _ _ _))); first | ((first | (with_reducible show wpAny _ _ _ _ _ _) | (with_reducible show Frag.In _ _ ∧ _) | (with_reducible show FnAt _ _) | (with_reducible show FnAt _ _ ∧ _)); walk1) | (dsimp only; (first | (with_reducible show wpAny _ _ _ _ _ _) | (with_reducible show Frag.In _ _ ∧ _) | (with_reducible show FnAt _ _) | (with_reducible show FnAt _ _ ∧ _)); (fail_if_success (first | walk_at "mine:halt" | (with_reducible show wpAny _ _ (binaryOp Operator.FloorDiv _ _) _ _ _) | (with_reducible show wpAny _ _ (binaryOp Operator.Add (Value.ref _) (Value.ref _)) _ _ _))); walk1)) | fail "no step"))
  rename Fr _ _ _ _ => Fz
  refine For_invVF Fz rfl rfl ?_
  (repeat' (first | ((fail_if_success (first | walk_at "mine:halt" | (with_reducible show wpAny _ _ (binaryOp Operator.FloorDiv _ _) _ _ _) | (with_reducible show wpAny _ _ (binaryOp Operator.Add (Value.ref _) (Value.ref _)) _ _ _))); first | ((first | (with_reducible show wpAny _ _ _ _ _ _) | (with_reducible show Frag.In _ _ ∧ _) | (with_reducible show FnAt _ _) | (with_reducible show FnAt _ _ ∧ _)); walk1) | (dsimp only; (first | (with_reducible show wpAny _ _ _ _ _ _) | (with_reducible show Frag.In _ _ ∧ _) | (with_reducible show FnAt _ _) | (with_reducible show FnAt _ _ ∧ _)); (fail_if_success (first | walk_at "mine:halt" | (with_reducible show wpAny _ _ (binaryOp Operator.FloorDiv _ _) _ _ _) | (with_reducible show wpAny _ _ (binaryOp Operator.Add (Value.ref _) (Value.ref _)) _ _ _))); walk1)) | fail "no step"))
  rename IsRange _ _ _ _ _ _ _ _ => hR
  rename Fr _ _ _ _ => Fy
  rename News _ _ _ _ => Ny
  rename_i Bd h5 lB h6 F6 N6 h7 tk7 t7 u7 v7 k7
  clear F6 N6
  refine iter_rangeUnr (n := 8) rfl hR (range_small (by omega) (by omega) (by omega) (by omega)) (by rw [range_size]; rfl) Fy Ny ?_
  intro I hIl
  k_lt hIl
  obtain ⟨x0, ex0⟩ : ∃ x0 : BSt, x0 = ⟨[], count, small, large⟩ := ⟨_, rfl⟩
  rw [← ex0] at hok hend
  refine range_inv (fun j m news => ∃ (bv : List Value) (et : Nat) (oS oC : Obj) (tS tC tL : Tok) (uu : Str → Option Value) (cA : Addr) (oA : Obj) (cB : Addr) (oB : Obj), IntsAre bv (nats (bGo gg j x0).bs) ∧ (bGo gg j x0).bs.length ≤ 10 * j ∧
      (bGo gg j x0).count ≤ 16 ∧ (bGo gg j x0).small ≤ 10 ∧ (bGo gg j x0).large ≤ 10 ∧ oS.data = .cell (some (.int (bGo gg j x0).small tS)) ∧ oC.data = .cell (some (.int (bGo gg j x0).count tC)) ∧
      CodeOk oA (Str.ofString "_int2digits.<locals>.inner") ∧ CodeOk oB (Str.ofString "_digits2int.<locals>.inner") ∧ AllNe cA [(30, oA), (37, oA), (cB, oA), (I, oA), (Bd, oA), (L' + 1 + 1, oA), (L' + 1, oA)] ∧ AllNe cB [(30, oA), (37, oA), (I, oA), (Bd, oA), (L' + 1 + 1, oA), (L' + 1, oA)] ∧
      m = (fun z => if z = Str.ofString "borders" then some (.ref Bd) else if z = Str.ofString "large" then some (.int (bGo gg j x0).large tL) else if z = Str.ofString "measure" then some (.int gg t4) else if z = Str.ofString "unit" then some (.int U t5) else uu z) ∧
      news = [(Bd, listOf bv.toArray et), (L' + 1 + 1, oS), (L' + 1, oC), (30, tabObj #[rawInt 32, rawInt 4, .ref cA]), (cA, oA), (37, tabObj #[rawInt 47, rawInt 4, .ref cB]), (cB, oB)]) ?_ ?_ 8 0 _ _ (by omega) ?_
  · clear Fy Ny hR dS dC
    rintro j m news hj ⟨bv, et, oS, oC, tS, tC, tL, uu, cA, oA, cB, oB, hbv, hbl, hb1, hb2, hb3, dS, dC, hokA, hokB, hd1, hd2, rfl, rfl⟩ t h tk F9 N9
    simp only [AllNe, and_true] at hd1 hd2
    (try replace hd1 := Hid.mk hd1)
    (try replace hd2 := Hid.mk hd2)
    have hokj := hok j hj
    have hnext : bGo gg (j + 1) x0 = bTurn gg (bGo gg j x0) := rfl
    generalize bGo gg j x0 = x at *
    obtain ⟨bs, c, sm, lg⟩ := x
    dsimp only at *
    refine wpAny_execs_cons ?_
    (repeat' (first | ((fail_if_success (first | walk_at "mine:halt" | (with_reducible show wpAny _ _ (binaryOp Operator.FloorDiv _ _) _ _ _) | (with_reducible show wpAny _ _ (binaryOp Operator.Add (Value.ref _) (Value.ref _)) _ _ _))); first | ((first | (with_reducible show wpAny _ _ _ _ _ _) | (with_reducible show Frag.In _ _ ∧ _) | (with_reducible show FnAt _ _) | (with_reducible show FnAt _ _ ∧ _)); walk1) | (dsimp only; (first | (with_reducible show wpAny _ _ _ _ _ _) | (with_reducible show Frag.In _ _ ∧ _) | (with_reducible show FnAt _ _) | (with_reducible show FnAt _ _ ∧ _)); (fail_if_success (first | walk_at "mine:halt" | (with_reducible show wpAny _ _ (binaryOp Operator.FloorDiv _ _) _ _ _) | (with_reducible show wpAny _ _ (binaryOp Operator.Add (Value.ref _) (Value.ref _)) _ _ _))); walk1)) | fail "no step"))
    by_cases hA : lg < c
    · rw [if_pos (decide_eq_true (by omega))]
      (repeat' (first | ((fail_if_success (first | walk_at "mine:halt" | (with_reducible show wpAny _ _ (binaryOp Operator.FloorDiv _ _) _ _ _) | (with_reducible show wpAny _ _ (binaryOp Operator.Add (Value.ref _) (Value.ref _)) _ _ _))); first | ((first | (with_reducible show wpAny _ _ _ _ _ _) | (with_reducible show Frag.In _ _ ∧ _) | (with_reducible show FnAt _ _) | (with_reducible show FnAt _ _ ∧ _)); walk1) | (dsimp only; (first | (with_reducible show wpAny _ _ _ _ _ _) | (with_reducible show Frag.In _ _ ∧ _) | (with_reducible show FnAt _ _) | (with_reducible show FnAt _ _ ∧ _)); (fail_if_success (first | walk_at "mine:halt" | (with_reducible show wpAny _ _ (binaryOp Operator.FloorDiv _ _) _ _ _) | (with_reducible show wpAny _ _ (binaryOp Operator.Add (Value.ref _) (Value.ref _)) _ _ _))); walk1)) | fail "no step"))
      by_cases hB : c + gg < sm + lg
      · rw [if_pos (decide_eq_true (by omega))]
        unfold bOk at hokj
        rw [if_pos ⟨hA, hB⟩] at hokj
        obtain ⟨hs0, hq1, hqs⟩ := of_decide_eq_true hokj
        unfold bTurn at hnext
        rw [if_pos ⟨hA, hB⟩] at hnext
        dsimp only at hs0 hq1 hqs hnext
        (repeat' (first | ((fail_if_success (first | walk_at "mine:halt" | (with_reducible show wpAny _ _ (binaryOp Operator.FloorDiv _ _) _ _ _) | (with_reducible show wpAny _ _ (binaryOp Operator.Add (Value.ref _) (Value.ref _)) _ _ _))); first | ((first | (with_reducible show wpAny _ _ _ _ _ _) | (with_reducible show Frag.In _ _ ∧ _) | (with_reducible show FnAt _ _) | (with_reducible show FnAt _ _ ∧ _)); walk1) | (dsimp only; (first | (with_reducible show wpAny _ _ _ _ _ _) | (with_reducible show Frag.In _ _ ∧ _) | (with_reducible show FnAt _ _) | (with_reducible show FnAt _ _ ∧ _)); (fail_if_success (first | walk_at "mine:halt" | (with_reducible show wpAny _ _ (binaryOp Operator.FloorDiv _ _) _ _ _) | (with_reducible show wpAny _ _ (binaryOp Operator.Add (Value.ref _) (Value.ref _)) _ _ _))); walk1)) | fail "no step"))
        have hUb := hU.2
        have hb5 := bits_small (v := lg) (by omega)
        have hb6 := bits_small (v := sm) (by omega)
        refine mulI (by omega) fun _ _ => ?_
        (try dsimp only)
        (repeat' (first | ((fail_if_success (first | walk_at "mine:halt" | (with_reducible show wpAny _ _ (binaryOp Operator.FloorDiv _ _) _ _ _) | (with_reducible show wpAny _ _ (binaryOp Operator.Add (Value.ref _) (Value.ref _)) _ _ _))); first | ((first | (with_reducible show wpAny _ _ _ _ _ _) | (with_reducible show Frag.In _ _ ∧ _) | (with_reducible show FnAt _ _) | (with_reducible show FnAt _ _ ∧ _)); walk1) | (dsimp only; (first | (with_reducible show wpAny _ _ _ _ _ _) | (with_reducible show Frag.In _ _ ∧ _) | (with_reducible show FnAt _ _) | (with_reducible show FnAt _ _ ∧ _)); (fail_if_success (first | walk_at "mine:halt" | (with_reducible show wpAny _ _ (binaryOp Operator.FloorDiv _ _) _ _ _) | (with_reducible show wpAny _ _ (binaryOp Operator.Add (Value.ref _) (Value.ref _)) _ _ _))); walk1)) | fail "no step"))
        refine mulI (by omega) fun _ _ => ?_
        (try dsimp only)
        (repeat' (first | ((fail_if_success (first | walk_at "mine:halt" | (with_reducible show wpAny _ _ (binaryOp Operator.FloorDiv _ _) _ _ _) | (with_reducible show wpAny _ _ (binaryOp Operator.Add (Value.ref _) (Value.ref _)) _ _ _))); first | ((first | (with_reducible show wpAny _ _ _ _ _ _) | (with_reducible show Frag.In _ _ ∧ _) | (with_reducible show FnAt _ _) | (with_reducible show FnAt _ _ ∧ _)); walk1) | (dsimp only; (first | (with_reducible show wpAny _ _ _ _ _ _) | (with_reducible show Frag.In _ _ ∧ _) | (with_reducible show FnAt _ _) | (with_reducible show FnAt _ _ ∧ _)); (fail_if_success (first | walk_at "mine:halt" | (with_reducible show wpAny _ _ (binaryOp Operator.FloorDiv _ _) _ _ _) | (with_reducible show wpAny _ _ (binaryOp Operator.Add (Value.ref _) (Value.ref _)) _ _ _))); walk1)) | fail "no step"))
        have hyU : (sm : Int) * U ≠ 0 := Int.mul_ne_zero (by omega) hU0
        refine (idm w ((lg : Int) * U) ((sm : Int) * U) _ _ hyU (fits_unit hU (by omega) (by omega) (by omega)) [(30, tabObj #[rawInt 32, rawInt 4, .ref cA]), (cA, oA), (37, tabObj #[rawInt 47, rawInt 4, .ref cB]), (cB, oB)]
          (.inr ⟨cA, oA, cB, oB, rfl, hokA, hokB, ⟨hd1.1, hd1.2.1, hd1.2.2.1, trivial⟩, ⟨hd2.1, hd2.2.1, trivial⟩⟩)).at [(I, itR (0 + ((j + 1 : Nat) : Int)) ((8 : Nat) - ((j + 1 : Nat) : Int))), (Bd, listOf bv.toArray et), (L' + 1 + 1, oS), (L' + 1, oC)] (by assumption) F9 (by assumption) N9 (by k_subL) (by ((try simp only [List.cons_append, List.nil_append, ApartL, AllNe, and_true]); (repeat' (first | exact True.intro | refine And.intro ?_ ?_)); all_goals k_ne)) (by assumption) (by assumption) (by assumption) rfl (Nat.le_of_ble_eq_true rfl) (Nat.le_of_ble_eq_true rfl) ?_
        clear F9 N9
        rintro r2 post h' tk' F' N' D' ⟨z, tq, tr, l2, rfl, rfl, ⟨cA2, oA2, cB2, oB2, rfl, hokA2, hokB2, he1, he2⟩, he3⟩
        simp only [List.cons_append, List.nil_append] at N'
        simp only [ApartL, AllNe, and_true, and_assoc] at he1 he2 he3 D'
        (try replace he1 := Hid.mk he1)
        (try replace he2 := Hid.mk he2)
        (try replace he3 := Hid.mk he3)
        (try replace D' := Hid.mk D')
        rw [scale_fmod (by omega) hU0, scale_fdiv (by omega) hU0, show (lg : Int) / (sm : Int) = ((lg / sm : Nat) : Int) from rfl, show (lg : Int) % (sm : Int) = ((lg % sm : Nat) : Int) from rfl] at N'
        (try dsimp only)
        (repeat' (first | ((fail_if_success (first | walk_at "mine:halt" | (with_reducible show wpAny _ _ (binaryOp Operator.FloorDiv _ _) _ _ _) | (with_reducible show wpAny _ _ (binaryOp Operator.Add (Value.ref _) (Value.ref _)) _ _ _))); first | ((first | (with_reducible show wpAny _ _ _ _ _ _) | (with_reducible show Frag.In _ _ ∧ _) | (with_reducible show FnAt _ _) | (with_reducible show FnAt _ _ ∧ _)); walk1) | (dsimp only; (first | (with_reducible show wpAny _ _ _ _ _ _) | (with_reducible show Frag.In _ _ ∧ _) | (with_reducible show FnAt _ _) | (with_reducible show FnAt _ _ ∧ _)); (fail_if_success (first | walk_at "mine:halt" | (with_reducible show wpAny _ _ (binaryOp Operator.FloorDiv _ _) _ _ _) | (with_reducible show wpAny _ _ (binaryOp Operator.Add (Value.ref _) (Value.ref _)) _ _ _))); walk1)) | fail "no step"))
        rename IsRange _ _ _ _ _ _ _ _ => hR2
        rename Fr _ _ _ _ => Fw
        rename News _ _ _ _ => Nw
        have hq10 : lg / sm ≤ 10 := Nat.le_trans (Nat.div_le_self _ _) hb3
        refine LCg.CompSrc.range (n := lg / sm) rfl Fw Nw hR2 (range_small (by omega) (by omega) (by omega) (by omega)) (by rw [range_size]; omega) (by simp [sizeLine]; omega) ?_
        intro g'
        refine comp_inv (n := lg / sm) (fun i ys => IntsAre ys (nats ((downs c sm (lg / sm)).take i))) trivial ?_ ?_ (lg / sm) 0 [] (by omega) .nil
        · clear Fw Nw hR2
          rename Fr _ _ _ _ => Fw
          rename News _ _ _ _ => Nw
          clear Fw Nw
          rintro i ys hi hys v I2 oI2 C oC D2 m2 h tk E' ⟨tv, rfl⟩ hC hx F N off ne
          (try replace ne := Hid.mk ne)
          simp only [LCg.Off3, and_true] at off
          (try replace off := Hid.mk off)
          (repeat' (first | ((fail_if_success (first | walk_at "mine:halt" | (with_reducible show wpAny _ _ (binaryOp Operator.FloorDiv _ _) _ _ _) | (with_reducible show wpAny _ _ (binaryOp Operator.Add (Value.ref _) (Value.ref _)) _ _ _))); first | ((first | (with_reducible show wpAny _ _ _ _ _ _) | (with_reducible show Frag.In _ _ ∧ _) | (with_reducible show FnAt _ _) | (with_reducible show FnAt _ _ ∧ _)); walk1) | (dsimp only; (first | (with_reducible show wpAny _ _ _ _ _ _) | (with_reducible show Frag.In _ _ ∧ _) | (with_reducible show FnAt _ _) | (with_reducible show FnAt _ _ ∧ _)); (fail_if_success (first | walk_at "mine:halt" | (with_reducible show wpAny _ _ (binaryOp Operator.FloorDiv _ _) _ _ _) | (with_reducible show wpAny _ _ (binaryOp Operator.Add (Value.ref _) (Value.ref _)) _ _ _))); walk1)) | fail "no step"))
          have hm : (i + 1) * sm ≤ c := Nat.le_trans (Nat.mul_le_mul_right sm hi) hqs
          have hb7 := bits_small (v := 1 + i) (by omega)
          rw [show (1 : Int) + (i : Int) = ((1 + i : Nat) : Int) by omega]
          refine mulI (by omega) fun _ _ => ?_
          (try dsimp only)
          (repeat' (first | ((fail_if_success (first | walk_at "mine:halt" | (with_reducible show wpAny _ _ (binaryOp Operator.FloorDiv _ _) _ _ _) | (with_reducible show wpAny _ _ (binaryOp Operator.Add (Value.ref _) (Value.ref _)) _ _ _))); first | ((first | (with_reducible show wpAny _ _ _ _ _ _) | (with_reducible show Frag.In _ _ ∧ _) | (with_reducible show FnAt _ _) | (with_reducible show FnAt _ _ ∧ _)); walk1) | (dsimp only; (first | (with_reducible show wpAny _ _ _ _ _ _) | (with_reducible show Frag.In _ _ ∧ _) | (with_reducible show FnAt _ _) | (with_reducible show FnAt _ _ ∧ _)); (fail_if_success (first | walk_at "mine:halt" | (with_reducible show wpAny _ _ (binaryOp Operator.FloorDiv _ _) _ _ _) | (with_reducible show wpAny _ _ (binaryOp Operator.Add (Value.ref _) (Value.ref _)) _ _ _))); walk1)) | fail "no step"))
          refine ⟨_, _, rfl, F, N, ?_⟩
          rw [downs_take hi, nats, List.map_append]
          refine ints_append hys ?_
          have e9 : (c : Int) - ((1 + i : Nat) : Int) * (sm : Int) = ((c - (i + 1) * sm : Nat) : Int) := by
            rw [Int.ofNat_sub hm, Nat.add_comm 1 i]; simp
          rw [e9]
          exact .cons _ _ .nil
        · clear Fw Nw hR2
          rename Fr _ _ _ _ => Fw
          rename News _ _ _ _ => Nw
          clear Fw Nw
          intro ys hys D2 h tk F8 N8 off
          simp only [LCg.Off1, and_true] at off
          (try replace off := Hid.mk off)
          rw [List.take_of_length_le (by rw [downs_length]; omega)] at hys
          have hyl := hys.length
          have hbvl := hbv.length
          rw [List.length_map, downs_length] at hyl
          rw [List.length_map] at hbvl
          (try dsimp only)
          (repeat' (first | ((fail_if_success (first | walk_at "mine:halt" | (with_reducible show wpAny _ _ (binaryOp Operator.FloorDiv _ _) _ _ _) | (with_reducible show wpAny _ _ (binaryOp Operator.Add (Value.ref _) (Value.ref _)) _ _ _))); first | ((first | (with_reducible show wpAny _ _ _ _ _ _) | (with_reducible show Frag.In _ _ ∧ _) | (with_reducible show FnAt _ _) | (with_reducible show FnAt _ _ ∧ _)); walk1) | (dsimp only; (first | (with_reducible show wpAny _ _ _ _ _ _) | (with_reducible show Frag.In _ _ ∧ _) | (with_reducible show FnAt _ _) | (with_reducible show FnAt _ _ ∧ _)); (fail_if_success (first | walk_at "mine:halt" | (with_reducible show wpAny _ _ (binaryOp Operator.FloorDiv _ _) _ _ _) | (with_reducible show wpAny _ _ (binaryOp Operator.Add (Value.ref _) (Value.ref _)) _ _ _))); walk1)) | fail "no step"))
          refine iadd_list F8 N8 (by k_mem) (by omega) (by k_upd) (by omega) ?_
          clear F8 N8
          intro h' F8 N8
          have hI3 : IntsAre (bv ++ ys) (nats (bs ++ downs c sm (lg / sm))) := by
            rw [nats, List.map_append]; exact ints_append hbv hys
          have hlast := downs_last (bs := bs) (c := c) (sm := sm) hq1
          have hlen3 : (bs ++ downs c sm (lg / sm)).length ≤ 10 * j + 10 ∧ 1 ≤ (bs ++ downs c sm (lg / sm)).length := by rw [List.length_append, downs_length]; omega
          generalize bv ++ ys = bv2 at N8 hI3
          generalize bs ++ downs c sm (lg / sm) = bs2 at hI3 hnext hlast hlen3
          rw [hlast] at hnext
          have hbv2 := hI3.length
          rw [List.length_map] at hbv2
          (try dsimp only)
          (repeat' (first | ((fail_if_success (first | walk_at "mine:halt" | (with_reducible show wpAny _ _ (binaryOp Operator.FloorDiv _ _) _ _ _) | (with_reducible show wpAny _ _ (binaryOp Operator.Add (Value.ref _) (Value.ref _)) _ _ _))); first | ((first | (with_reducible show wpAny _ _ _ _ _ _) | (with_reducible show Frag.In _ _ ∧ _) | (with_reducible show FnAt _ _) | (with_reducible show FnAt _ _ ∧ _)); walk1) | (dsimp only; (first | (with_reducible show wpAny _ _ _ _ _ _) | (with_reducible show Frag.In _ _ ∧ _) | (with_reducible show FnAt _ _) | (with_reducible show FnAt _ _ ∧ _)); (fail_if_success (first | walk_at "mine:halt" | (with_reducible show wpAny _ _ (binaryOp Operator.FloorDiv _ _) _ _ _) | (with_reducible show wpAny _ _ (binaryOp Operator.Add (Value.ref _) (Value.ref _)) _ _ _))); walk1)) | fail "no step"))
          have hdl : (((lg % sm : Nat) : Int) * U).fdiv U = ((lg % sm : Nat) : Int) := by
            have := scale_fdiv (a := ((lg % sm : Nat) : Int)) (b := 1) (by decide) hU0
            rwa [Int.one_mul, Int.ediv_one] at this
          refine floordiv_int hU0 ?_ (.inl (PyProof.noPylong_of_log2 (by
            have h9 := hU.2
            unfold Builtin.Int.intBits at h9
            rw [if_neg (by simpa using hU0)] at h9
            omega)))
          rw [hdl]
          (try dsimp only)
          (repeat' (first | ((fail_if_success (first | walk_at "mine:halt" | (with_reducible show wpAny _ _ (binaryOp Operator.FloorDiv _ _) _ _ _) | (with_reducible show wpAny _ _ (binaryOp Operator.Add (Value.ref _) (Value.ref _)) _ _ _))); first | ((first | (with_reducible show wpAny _ _ _ _ _ _) | (with_reducible show Frag.In _ _ ∧ _) | (with_reducible show FnAt _ _) | (with_reducible show FnAt _ _ ∧ _)); walk1) | (dsimp only; (first | (with_reducible show wpAny _ _ _ _ _ _) | (with_reducible show Frag.In _ _ ∧ _) | (with_reducible show FnAt _ _) | (with_reducible show FnAt _ _ ∧ _)); (fail_if_success (first | walk_at "mine:halt" | (with_reducible show wpAny _ _ (binaryOp Operator.FloorDiv _ _) _ _ _) | (with_reducible show wpAny _ _ (binaryOp Operator.Add (Value.ref _) (Value.ref _)) _ _ _))); walk1)) | fail "no step"))
          rename Fr _ _ _ _ => Fz
          rename News _ _ _ _ => Nz
          rename (Obj.data _ = Data.cell (some (Value.int ((lg % sm : Nat) : Int) _))) => dS2
          rename (Obj.data _ = Data.cell (some (Value.int (List.getD (nats bs2) _ 0) _))) => dC2
          rw [show (-1 + ((nats bs2).length : Int)).toNat = bs2.length - 1 by rw [List.length_map]; omega, nats_get, getD_last, hlast] at dC2
          have hsm := Nat.mod_lt lg hs0
          show UnrEnd _ _ _ _ _ _ _
          rw [hnext]
          have hq1' : (c - lg / sm * sm) ≤ 16 := by clear D' he1 he2 he3 off hd1 hd2; omega
          have hq2' : lg % sm ≤ 10 := by clear D' he1 he2 he3 off hd1 hd2; omega
          have hq3' : bs2.length ≤ 10 * (j + 1) := by clear D' he1 he2 he3 off hd1 hd2; omega
          refine UnrEnd.intro3 Fz Nz _ ?_ ?_ ?_ ⟨bv2, et + 1, _, _, _, _, _, _, cA2, oA2, cB2, oB2, hI3, hq3', hq1', hq2', hb2, dS2, dC2, hokA2, hokB2, ?_, ?_, canon4 rfl rfl rfl rfl, rfl⟩
          · k_mem
          · k_subL
          · k_offL
          · ((try simp only [AllNe, and_true]); (repeat' (first | exact True.intro | refine And.intro ?_ ?_)); all_goals k_ne)
          · ((try simp only [AllNe, and_true]); (repeat' (first | exact True.intro | refine And.intro ?_ ?_)); all_goals k_ne)
      · rw [if_neg (by simp; omega)]
        unfold bTurn at hnext
        rw [if_neg (fun h => hB h.2)] at hnext
        (repeat' (first | ((fail_if_success (first | walk_at "mine:halt" | (with_reducible show wpAny _ _ (binaryOp Operator.FloorDiv _ _) _ _ _) | (with_reducible show wpAny _ _ (binaryOp Operator.Add (Value.ref _) (Value.ref _)) _ _ _))); first | ((first | (with_reducible show wpAny _ _ _ _ _ _) | (with_reducible show Frag.In _ _ ∧ _) | (with_reducible show FnAt _ _) | (with_reducible show FnAt _ _ ∧ _)); walk1) | (dsimp only; (first | (with_reducible show wpAny _ _ _ _ _ _) | (with_reducible show Frag.In _ _ ∧ _) | (with_reducible show FnAt _ _) | (with_reducible show FnAt _ _ ∧ _)); (fail_if_success (first | walk_at "mine:halt" | (with_reducible show wpAny _ _ (binaryOp Operator.FloorDiv _ _) _ _ _) | (with_reducible show wpAny _ _ (binaryOp Operator.Add (Value.ref _) (Value.ref _)) _ _ _))); walk1)) | fail "no step"))
        show UnrEnd _ _ _ _ _ _ _
        rw [hnext]
        refine UnrEnd.intro3 F9 N9 _ ?_ ?_ ?_ ⟨bv, et, oS, oC, tS, tC, _, _, cA, oA, cB, oB, hbv, by dsimp only; omega, hb1, hb2, hb3, dS, dC, hokA, hokB, ?_, ?_, canon4 rfl rfl rfl rfl, rfl⟩
        · k_mem
        · k_subL
        · k_offL
        all_goals ((try simp only [AllNe, and_true]); (repeat' (first | exact True.intro | refine And.intro ?_ ?_)); all_goals k_ne)
    · rw [if_neg (by simp; omega)]
      unfold bTurn at hnext
      rw [if_neg (fun h => hA h.1)] at hnext
      (repeat' (first | ((fail_if_success (first | walk_at "mine:halt" | (with_reducible show wpAny _ _ (binaryOp Operator.FloorDiv _ _) _ _ _) | (with_reducible show wpAny _ _ (binaryOp Operator.Add (Value.ref _) (Value.ref _)) _ _ _))); first | ((first | (with_reducible show wpAny _ _ _ _ _ _) | (with_reducible show Frag.In _ _ ∧ _) | (with_reducible show FnAt _ _) | (with_reducible show FnAt _ _ ∧ _)); walk1) | (dsimp only; (first | (with_reducible show wpAny _ _ _ _ _ _) | (with_reducible show Frag.In _ _ ∧ _) | (with_reducible show FnAt _ _) | (with_reducible show FnAt _ _ ∧ _)); (fail_if_success (first | walk_at "mine:halt" | (with_reducible show wpAny _ _ (binaryOp Operator.FloorDiv _ _) _ _ _) | (with_reducible show wpAny _ _ (binaryOp Operator.Add (Value.ref _) (Value.ref _)) _ _ _))); walk1)) | fail "no step"))
      rw [if_neg Bool.false_ne_true]
      (repeat' (first | ((fail_if_success (first | walk_at "mine:halt" | (with_reducible show wpAny _ _ (binaryOp Operator.FloorDiv _ _) _ _ _) | (with_reducible show wpAny _ _ (binaryOp Operator.Add (Value.ref _) (Value.ref _)) _ _ _))); first | ((first | (with_reducible show wpAny _ _ _ _ _ _) | (with_reducible show Frag.In _ _ ∧ _) | (with_reducible show FnAt _ _) | (with_reducible show FnAt _ _ ∧ _)); walk1) | (dsimp only; (first | (with_reducible show wpAny _ _ _ _ _ _) | (with_reducible show Frag.In _ _ ∧ _) | (with_reducible show FnAt _ _) | (with_reducible show FnAt _ _ ∧ _)); (fail_if_success (first | walk_at "mine:halt" | (with_reducible show wpAny _ _ (binaryOp Operator.FloorDiv _ _) _ _ _) | (with_reducible show wpAny _ _ (binaryOp Operator.Add (Value.ref _) (Value.ref _)) _ _ _))); walk1)) | fail "no step"))
      show UnrEnd _ _ _ _ _ _ _
      rw [hnext]
      refine UnrEnd.intro3 F9 N9 _ ?_ ?_ ?_ ⟨bv, et, oS, oC, tS, tC, _, _, cA, oA, cB, oB, hbv, by dsimp only; omega, hb1, hb2, hb3, dS, dC, hokA, hokB, ?_, ?_, canon4 rfl rfl rfl rfl, rfl⟩
      · k_mem
      · k_subL
      · k_offL
      all_goals ((try simp only [AllNe, and_true]); (repeat' (first | exact True.intro | refine And.intro ?_ ?_)); all_goals k_ne)
  · clear Fy Ny hR dS dC
    rintro m news h tk ⟨bv, et, oS, oC, tS, tC, tL, uu, cA, oA, cB, oB, hbv, hbl, hb1, hb2, hb3, dS, dC, hokA, hokB, hd1, hd2, rfl, rfl⟩ F9 N9
    simp only [AllNe, and_true] at hd1 hd2
    (try replace hd1 := Hid.mk hd1)
    (try replace hd2 := Hid.mk hd2)
    have hpe : bEnd gg (bGo gg 8 ⟨[], count, small, large⟩) = bEnd gg (bGo gg 8 x0) := by rw [ex0]
    generalize bGo gg 8 x0 = x at *
    obtain ⟨bs, c, sm, lg⟩ := x
    dsimp only at *
    obtain ⟨hc1, hs1⟩ := of_decide_eq_true hend
    rw [bEnd_mk gg bs c sm lg] at hpe
    dsimp only at hc1 hs1
    generalize hsm2 : (if lg < c then gg else sm) = sm2 at *
    refine execs_join (fun s' => ∃ h tk oS tS, s' = { s with heap := h, toks := tk } ∧ Fr g L' h (fun z => if z = Str.ofString "borders" then some (.ref Bd) else if z = Str.ofString "large" then some (.int lg tL) else if z = Str.ofString "measure" then some (.int gg t4) else if z = Str.ofString "unit" then some (.int U t5) else uu z) ∧ oS.data = .cell (some (.int sm2 tS)) ∧
      News g L' h [(Bd, listOf bv.toArray et), (L' + 1 + 1, oS), (L' + 1, oC), (30, tabObj #[rawInt 32, rawInt 4, .ref cA]), (cA, oA), (37, tabObj #[rawInt 47, rawInt 4, .ref cB]), (cB, oB)]) ?_ ?_
    · (repeat' (first | ((fail_if_success (first | walk_at "mine:halt" | (with_reducible show wpAny _ _ (binaryOp Operator.FloorDiv _ _) _ _ _) | (with_reducible show wpAny _ _ (binaryOp Operator.Add (Value.ref _) (Value.ref _)) _ _ _))); first | ((first | (with_reducible show wpAny _ _ _ _ _ _) | (with_reducible show Frag.In _ _ ∧ _) | (with_reducible show FnAt _ _) | (with_reducible show FnAt _ _ ∧ _)); walk1) | (dsimp only; (first | (with_reducible show wpAny _ _ _ _ _ _) | (with_reducible show Frag.In _ _ ∧ _) | (with_reducible show FnAt _ _) | (with_reducible show FnAt _ _ ∧ _)); (fail_if_success (first | walk_at "mine:halt" | (with_reducible show wpAny _ _ (binaryOp Operator.FloorDiv _ _) _ _ _) | (with_reducible show wpAny _ _ (binaryOp Operator.Add (Value.ref _) (Value.ref _)) _ _ _))); walk1)) | fail "no step"))
      by_cases hA : lg < c
      · rw [if_pos (decide_eq_true (by omega))]
        rw [if_pos hA] at hsm2
        subst hsm2
        (repeat' (first | ((fail_if_success (first | walk_at "mine:halt" | (with_reducible show wpAny _ _ (binaryOp Operator.FloorDiv _ _) _ _ _) | (with_reducible show wpAny _ _ (binaryOp Operator.Add (Value.ref _) (Value.ref _)) _ _ _))); first | ((first | (with_reducible show wpAny _ _ _ _ _ _) | (with_reducible show Frag.In _ _ ∧ _) | (with_reducible show FnAt _ _) | (with_reducible show FnAt _ _ ∧ _)); walk1) | (dsimp only; (first | (with_reducible show wpAny _ _ _ _ _ _) | (with_reducible show Frag.In _ _ ∧ _) | (with_reducible show FnAt _ _) | (with_reducible show FnAt _ _ ∧ _)); (fail_if_success (first | walk_at "mine:halt" | (with_reducible show wpAny _ _ (binaryOp Operator.FloorDiv _ _) _ _ _) | (with_reducible show wpAny _ _ (binaryOp Operator.Add (Value.ref _) (Value.ref _)) _ _ _))); walk1)) | fail "no step"))
        rename Fr _ _ _ _ => Fz
        rename News _ _ _ _ => Nz
        rename (Obj.data _ = Data.cell (some (Value.int (gg : Int) _))) => dS2
        exact ⟨rfl, _, _, _, _, rfl, Fz, dS2, Nz⟩
      · rw [if_neg (by simp; omega)]
        rw [if_neg hA] at hsm2
        subst hsm2
        (repeat' (first | ((fail_if_success (first | walk_at "mine:halt" | (with_reducible show wpAny _ _ (binaryOp Operator.FloorDiv _ _) _ _ _) | (with_reducible show wpAny _ _ (binaryOp Operator.Add (Value.ref _) (Value.ref _)) _ _ _))); first | ((first | (with_reducible show wpAny _ _ _ _ _ _) | (with_reducible show Frag.In _ _ ∧ _) | (with_reducible show FnAt _ _) | (with_reducible show FnAt _ _ ∧ _)); walk1) | (dsimp only; (first | (with_reducible show wpAny _ _ _ _ _ _) | (with_reducible show Frag.In _ _ ∧ _) | (with_reducible show FnAt _ _) | (with_reducible show FnAt _ _ ∧ _)); (fail_if_success (first | walk_at "mine:halt" | (with_reducible show wpAny _ _ (binaryOp Operator.FloorDiv _ _) _ _ _) | (with_reducible show wpAny _ _ (binaryOp Operator.Add (Value.ref _) (Value.ref _)) _ _ _))); walk1)) | fail "no step"))
        exact ⟨rfl, _, _, _, _, rfl, F9, dS, N9⟩
    · clear F9 N9 dS
      rintro s' ⟨h, tk, oS, tS, rfl, F9, dS, N9⟩
      (repeat' (first | ((fail_if_success (first | walk_at "mine:halt" | (with_reducible show wpAny _ _ (binaryOp Operator.FloorDiv _ _) _ _ _) | (with_reducible show wpAny _ _ (binaryOp Operator.Add (Value.ref _) (Value.ref _)) _ _ _))); first | ((first | (with_reducible show wpAny _ _ _ _ _ _) | (with_reducible show Frag.In _ _ ∧ _) | (with_reducible show FnAt _ _) | (with_reducible show FnAt _ _ ∧ _)); walk1) | (dsimp only; (first | (with_reducible show wpAny _ _ _ _ _ _) | (with_reducible show Frag.In _ _ ∧ _) | (with_reducible show FnAt _ _) | (with_reducible show FnAt _ _ ∧ _)); (fail_if_success (first | walk_at "mine:halt" | (with_reducible show wpAny _ _ (binaryOp Operator.FloorDiv _ _) _ _ _) | (with_reducible show wpAny _ _ (binaryOp Operator.Add (Value.ref _) (Value.ref _)) _ _ _))); walk1)) | fail "no step"))
      have hs2 : sm2 ≤ 10 := by rw [← hsm2]; split <;> omega
      refine floordiv_int (by omega) ?_ (.inl (PyProof.noPylong_small (by omega)))
      rw [fdiv_nat c sm2 hc1]
      have hq10 : (c - 1) / sm2 ≤ 16 := Nat.le_trans (Nat.div_le_self _ _) (by omega)
      have hqs : (c - 1) / sm2 * sm2 ≤ c := Nat.le_trans (Nat.div_mul_le_self _ _) (by omega)
      (try dsimp only)
      (repeat' (first | ((fail_if_success (first | walk_at "mine:halt" | (with_reducible show wpAny _ _ (binaryOp Operator.FloorDiv _ _) _ _ _) | (with_reducible show wpAny _ _ (binaryOp Operator.Add (Value.ref _) (Value.ref _)) _ _ _))); first | ((first | (with_reducible show wpAny _ _ _ _ _ _) | (with_reducible show Frag.In _ _ ∧ _) | (with_reducible show FnAt _ _) | (with_reducible show FnAt _ _ ∧ _)); walk1) | (dsimp only; (first | (with_reducible show wpAny _ _ _ _ _ _) | (with_reducible show Frag.In _ _ ∧ _) | (with_reducible show FnAt _ _) | (with_reducible show FnAt _ _ ∧ _)); (fail_if_success (first | walk_at "mine:halt" | (with_reducible show wpAny _ _ (binaryOp Operator.FloorDiv _ _) _ _ _) | (with_reducible show wpAny _ _ (binaryOp Operator.Add (Value.ref _) (Value.ref _)) _ _ _))); walk1)) | fail "no step"))
      rename IsRange _ _ _ _ _ _ _ _ => hR2
      rename Fr _ _ _ _ => Fw
      rename News _ _ _ _ => Nw
      generalize hq : (c - 1) / sm2 = q at *
      have hb6 := bits_small (v := sm2) (by omega)
      refine LCg.CompSrc.range (n := q) rfl Fw Nw hR2 (range_small (by omega) (by omega) (by omega) (by omega)) (by rw [range_size]; omega) (by simp [sizeLine]; omega) ?_
      intro g'
      refine comp_inv (n := q) (fun i ys => IntsAre ys (nats ((downs c sm2 q).take i))) trivial ?_ ?_ q 0 [] (by omega) .nil
      · clear Fw Nw hR2
        rename Fr _ _ _ _ => Fw
        rename News _ _ _ _ => Nw
        clear Fw Nw
        rintro i ys hi hys v I2 oI2 C oC D2 m2 h tk E' ⟨tv, rfl⟩ hC hx F N off ne
        (try replace ne := Hid.mk ne)
        simp only [LCg.Off3, and_true] at off
        (try replace off := Hid.mk off)
        (repeat' (first | ((fail_if_success (first | walk_at "mine:halt" | (with_reducible show wpAny _ _ (binaryOp Operator.FloorDiv _ _) _ _ _) | (with_reducible show wpAny _ _ (binaryOp Operator.Add (Value.ref _) (Value.ref _)) _ _ _))); first | ((first | (with_reducible show wpAny _ _ _ _ _ _) | (with_reducible show Frag.In _ _ ∧ _) | (with_reducible show FnAt _ _) | (with_reducible show FnAt _ _ ∧ _)); walk1) | (dsimp only; (first | (with_reducible show wpAny _ _ _ _ _ _) | (with_reducible show Frag.In _ _ ∧ _) | (with_reducible show FnAt _ _) | (with_reducible show FnAt _ _ ∧ _)); (fail_if_success (first | walk_at "mine:halt" | (with_reducible show wpAny _ _ (binaryOp Operator.FloorDiv _ _) _ _ _) | (with_reducible show wpAny _ _ (binaryOp Operator.Add (Value.ref _) (Value.ref _)) _ _ _))); walk1)) | fail "no step"))
        have hm : (i + 1) * sm2 ≤ c := Nat.le_trans (Nat.mul_le_mul_right sm2 hi) hqs
        have hb7 := bits_small (v := 1 + i) (by omega)
        rw [show (1 : Int) + (i : Int) = ((1 + i : Nat) : Int) by omega]
        refine mulI (by omega) fun _ _ => ?_
        (try dsimp only)
        (repeat' (first | ((fail_if_success (first | walk_at "mine:halt" | (with_reducible show wpAny _ _ (binaryOp Operator.FloorDiv _ _) _ _ _) | (with_reducible show wpAny _ _ (binaryOp Operator.Add (Value.ref _) (Value.ref _)) _ _ _))); first | ((first | (with_reducible show wpAny _ _ _ _ _ _) | (with_reducible show Frag.In _ _ ∧ _) | (with_reducible show FnAt _ _) | (with_reducible show FnAt _ _ ∧ _)); walk1) | (dsimp only; (first | (with_reducible show wpAny _ _ _ _ _ _) | (with_reducible show Frag.In _ _ ∧ _) | (with_reducible show FnAt _ _) | (with_reducible show FnAt _ _ ∧ _)); (fail_if_success (first | walk_at "mine:halt" | (with_reducible show wpAny _ _ (binaryOp Operator.FloorDiv _ _) _ _ _) | (with_reducible show wpAny _ _ (binaryOp Operator.Add (Value.ref _) (Value.ref _)) _ _ _))); walk1)) | fail "no step"))
        refine ⟨_, _, rfl, F, N, ?_⟩
        rw [downs_take hi, nats, List.map_append]
        refine ints_append hys ?_
        have e9 : (c : Int) - ((1 + i : Nat) : Int) * (sm2 : Int) = ((c - (i + 1) * sm2 : Nat) : Int) := by
          rw [Int.ofNat_sub hm, Nat.add_comm 1 i]; simp
        rw [e9]
        exact .cons _ _ .nil
      · clear Fw Nw hR2
        rename Fr _ _ _ _ => Fw
        rename News _ _ _ _ => Nw
        clear Fw Nw
        intro ys hys D2 h tk F8 N8 off
        simp only [LCg.Off1, and_true] at off
        (try replace off := Hid.mk off)
        rw [List.take_of_length_le (by rw [downs_length]; omega)] at hys
        have hyl := hys.length
        have hbvl := hbv.length
        rw [List.length_map, downs_length] at hyl
        rw [List.length_map] at hbvl
        refine kmk_add_ints F8 N8 (News.isList N8 (by k_mem)) (News.isList N8 (by k_mem)) hbv hys ?_ (by rw [List.length_map, List.length_map, downs_length]; simp only [sizeLine_eq]; omega)
        clear F8 N8
        intro Dz us h' F8 N8 l9 hus
        k_lt l9
        (try dsimp only)
        (repeat' (first | ((fail_if_success (first | walk_at "mine:halt" | (with_reducible show wpAny _ _ (binaryOp Operator.FloorDiv _ _) _ _ _) | (with_reducible show wpAny _ _ (binaryOp Operator.Add (Value.ref _) (Value.ref _)) _ _ _))); first | ((first | (with_reducible show wpAny _ _ _ _ _ _) | (with_reducible show Frag.In _ _ ∧ _) | (with_reducible show FnAt _ _) | (with_reducible show FnAt _ _ ∧ _)); walk1) | (dsimp only; (first | (with_reducible show wpAny _ _ _ _ _ _) | (with_reducible show Frag.In _ _ ∧ _) | (with_reducible show FnAt _ _) | (with_reducible show FnAt _ _ ∧ _)); (fail_if_success (first | walk_at "mine:halt" | (with_reducible show wpAny _ _ (binaryOp Operator.FloorDiv _ _) _ _ _) | (with_reducible show wpAny _ _ (binaryOp Operator.Add (Value.ref _) (Value.ref _)) _ _ _))); walk1)) | fail "no step"))
        show Done _ _ _ _ _
        refine ⟨_, _, [(Dz, listOf us.toArray 0), (30, tabObj #[rawInt 32, rawInt 4, .ref cA]), (cA, oA), (37, tabObj #[rawInt 47, rawInt 4, .ref cB]), (cB, oB)], F8, news_sub N8 (by k_subL), ⟨Dz, us, 0, _, rfl, rfl, ?_, ⟨cA, oA, cB, oB, rfl, hokA, hokB, ?_, ?_⟩, ?_⟩, _, _, rfl⟩
        · rw [hpe, nats, List.map_append]
          exact hus
        · exact ⟨hd1.1, hd1.2.1, hd1.2.2.1, trivial⟩
        · exact ⟨hd2.1, hd2.2.1, trivial⟩
        · simp only [AllNe, and_true]
          exact ⟨Nat.ne_of_gt l9.2.2.2.2.1, Nat.ne_of_gt l9.2.2.2.2.2.1, Nat.ne_of_gt l9.2.2.2.2.2.2.1, Nat.ne_of_gt l9.2.2.2.2.2.2.2⟩
  · subst ex0
    exact ⟨[], 0, oS, oC, _, _, _, _, cA0, oA0, cB0, oB0, .nil, Nat.zero_le _, h1, h2, h3, dS, dC, hokA0, hokB0, by ((try simp only [AllNe, and_true]); (repeat' (first | exact True.intro | refine And.intro ?_ ?_)); all_goals k_ne), by ((try simp only [AllNe, and_true]); (repeat' (first | exact True.intro | refine And.intro ?_ ?_)); all_goals k_ne), canon4 rfl rfl rfl rfl, rfl⟩

end
section
theorem resetC1 : True := by
  w_top off
  exact trivial





noncomputable def CellsPost (v : Value) (post : List (Addr × Obj)) : Prop :=
  ∃ x cv et ns, v = .ref x ∧ post = [(x, listOf cv.toArray et)] ∧ IntsAre cv ns ∧ ns.length = 4 ∧ ∀ n ∈ ns, 0 ≤ n ∧ n ≤ 64000000

theorem cells_bound {ns : List Int} {i : Nat} {j : Nat} {z : Int} {n : Nat} (hn : n = j) (h : ∀ n ∈ ns, 0 ≤ n ∧ n ≤ 200 + 1000000 * (j : Int)) :
    ∀ y ∈ ns.set i (ns.getD i 0 + z.fmod (10 ^ Int.toNat 6)), 0 ≤ y ∧ y ≤ 200 + 1000000 * ((n + 1 : Nat) : Int) := by
  subst hn
  have h1 : 0 ≤ z.fmod (10 ^ Int.toNat 6) := Int.fmod_nonneg_of_pos _ (by decide)
  have h2 : z.fmod (10 ^ Int.toNat 6) < 1000000 := Int.fmod_lt_of_pos _ (by decide)
  intro y hy
  rcases List.mem_or_eq_of_mem_set hy with hy | rfl
  · have := h y hy; omega
  · have : 0 ≤ ns.getD i 0 ∧ ns.getD i 0 ≤ 200 + 1000000 * (n : Int) := by
      by_cases hi : i < ns.length
      · rw [List.getD_eq_getElem?_getD, List.getElem?_eq_getElem hi]
        exact h _ (List.getElem_mem hi)
      · rw [List.getD_eq_getElem?_getD, List.getElem?_eq_none (by omega)]
        exact ⟨by decide, by show (0 : Int) ≤ _; omega⟩
    omega

theorem law_cells (w : World) (sc : List Value) (ks : List Int) (la : Addr) (hI : IntsAre sc ks) (hlen : ks.length ≤ 63) :
    SpecH PySem.Challenge.rw_rl0044_02.row.prog w (hd.heap_39 w.params) (fun h => h.IsList la sc.toArray) 600 4000 70 [.ref la] CellsPost := by
  have hlv := hI.length
  k_fill
  k_dflt (refine' SpecH.plain (binds := [(Str.ofString "script", .ref la)]) ?hH ?k1 ?k2 ?k3 ?k4 ?k5 ?_ ?c1 ?c2 ?c3 ?c4; ((case k1 => k_is); (case k2 => k_is); (case k3 => decide); (case k4 => intro s; exact BindsTo.of_eq rfl); (case k5 => exact locs rfl); (case c1 => exact rfl); (case c2 => exact rfl); (case c3 => exact rfl); (case c4 => decide)))
  case hH =>
    intro h h' st ⟨o, ho, hc⟩
    exact ⟨o, st _ _ ho, hc⟩
  intro p loose mean mg mb gd cn cs a₀ ccd cl outer base g L L' s hke F N B X hL T C1 C2
  (try dsimp only)
  k_fold
  walk_at "mine:steps"
  rename Fr _ _ _ _ => Fz
  refine For_invVF Fz rfl rfl ?_
  walk_at "mine:steps"
  rename IsRange _ _ _ _ _ _ _ _ => hR
  rename Fr _ _ _ _ => Fy
  rename News _ _ _ _ => Ny
  rename_i Dl _ _ _ _ _ _ _ _ _ _ _ 
  refine iter_rangeUnr (n := ks.length) rfl hR (range_small (by omega) (by omega) (by omega) (by omega)) (by rw [range_size]; omega) Fy Ny ?_
  intro I hIl
  k_lt hIl
  refine range_inv (fun j m news => ∃ (cv : List Value) (et : Nat) (ns : List Int) (u : Str → Option Value), IntsAre cv ns ∧ ns.length = 4 ∧ (∀ n ∈ ns, 0 ≤ n ∧ n ≤ 200 + 1000000 * j) ∧
      m = (fun y => if y = Str.ofString "cells" then some (.ref Dl) else if y = Str.ofString "script" then some (.ref la) else u y) ∧
      news = [(Dl, listOf cv.toArray et)]) ?_ ?_ ks.length 0 _ _ (by omega) ?_
  · clear Fy Ny hR
    rintro j m news hj ⟨cv, et, ns, u, hcv, hnl, hns, rfl, rfl⟩ t h tk F9 N9
    have hcl := hcv.length
    walk_at "mine:steps"
    rename Fr _ _ _ _ => Fz
    rename News _ _ _ _ => Nz
    rename IntsAre (List.set _ _ _) _ => hI2
    show UnrEnd _ _ _ _ _ _ _
    refine UnrEnd.intro3 Fz Nz _ ?_ ?_ ?_ ⟨_, et, _, _, hI2, by rw [List.length_set]; exact hnl, cells_bound rfl hns, canon2 rfl rfl, rfl⟩
    · k_mem
    · k_subL
    · k_offL
  · clear Fy Ny hR
    rintro m news h tk ⟨cv, et, ns, u, hcv, hnl, hns, rfl, rfl⟩ F9 N9
    (try dsimp only)
    walk_at "mine:steps"
    show Done _ _ _ _ _
    exact ⟨_, _, [(Dl, listOf cv.toArray et)], by assumption, by assumption, ⟨Dl, cv, et, ns, rfl, rfl, hcv, hnl, fun n hn => ⟨(hns n hn).1, by have := (hns n hn).2; omega⟩⟩, _, _, rfl⟩
  · refine ⟨_, 0, [4, 7, 9, 6], _, (.cons _ _ (.cons _ _ (.cons _ _ (.cons _ _ (.nil))))), rfl, by decide, canon2 rfl rfl, rfl⟩

end
section
theorem resetL2 : True := by
  w_top off
  exact trivial






theorem sorted2 {v : List Value} {n : List Int} {a b : Int} (hi : IntsAre v n) (hl : n.length = 0 + 1 + 1) (hp : n.Perm [a, b]) (ho : n.Pairwise (· ≤ ·)) (ha : 1 ≤ a ∧ a ≤ 10) (hb : 1 ≤ b ∧ b ≤ 10) :
    ∃ (s l : Nat) (t1 t2 : Tok), v = [.int s t1, .int l t2] ∧ 1 ≤ s ∧ s ≤ l ∧ l ≤ 10 := by
  cases hi with
  | nil => cases hl
  | @cons x t1 _ _ hi => cases hi with
    | nil => cases hl
    | @cons y t2 _ _ hi => cases hi with
      | @cons _ _ _ _ _ => cases hl
      | nil =>
        have h1 : x = a ∨ x = b := by simpa using hp.subset (List.mem_cons_self ..)
        have h2 : y = a ∨ y = b := by simpa using hp.subset (List.mem_cons_of_mem _ (List.mem_cons_self ..))
        have h3 : x ≤ y := (List.pairwise_cons.mp ho).1 y (List.mem_cons_self ..)
        have hx : 1 ≤ x := by rcases h1 with rfl | rfl <;> first | exact ha.1 | exact hb.1
        have hy : y ≤ 10 := by rcases h2 with rfl | rfl <;> first | exact ha.2 | exact hb.2
        clear h1 h2 ha hb hp
        refine ⟨x.toNat, y.toNat, t1, t2, ?_, ?_, ?_, ?_⟩
        · rw [Int.toNat_of_nonneg (by omega), Int.toNat_of_nonneg (by omega)]
        all_goals omega
theorem pow3 {prog : Program} {w : World} {A : Around} {E Q : Value → Shared → Prop} {s : Shared} {t u : Tok} (h : ∀ P : Int, BigP P → Q (.int P s.toks) { s with toks := s.toks + 1 }) :
    wpAny (model prog w) A (binaryOp .Pow (.int 3 t) (.int 2600 u)) Q E s := pow_int_small (by decide) (by decide) (by decide) (h _ bigP_pow)
theorem bits_count {c : Nat} (h : c ≤ 200) : Builtin.Int.intBits (c : Int) ≤ 8 := bits_small h
theorem mod_two (x : Int) : x.fmod 2 = 0 ∨ x.fmod 2 = 1 := by
  have h1 := Int.fmod_nonneg_of_pos x (b := 2) (by decide)
  have h2 := Int.fmod_lt_of_pos x (b := 2) (by decide)
  omega
theorem mod_nat (x : Int) (k : Nat) (hk : 0 < k) : ∃ c : Nat, x.fmod k + 1 = (c : Int) ∧ 1 ≤ c ∧ c ≤ k := by
  have h1 := Int.fmod_nonneg_of_pos x (b := k) (by omega)
  have h2 := Int.fmod_lt_of_pos x (b := k) (by omega)
  exact ⟨(x.fmod k + 1).toNat, by omega, by omega, by omega⟩
theorem cell_bound {ns : List Int} (i : Nat) (h : ∀ n ∈ ns, 0 ≤ n ∧ n ≤ 64000000) : 0 ≤ ns.getD i 0 ∧ ns.getD i 0 ≤ 64000000 := by
  rw [List.getD_eq_getElem?_getD]
  by_cases hi : i < ns.length
  · rw [List.getElem?_eq_getElem hi]
    exact h _ (List.getElem_mem hi)
  · rw [List.getElem?_eq_none (by omega)]
    exact ⟨by decide, by decide⟩
theorem bits_e {e : Int} (he : e = 0 ∨ e = 1) : Builtin.Int.intBits e + Builtin.Int.intBits 2 ≤ 2 ^ 27 ∧ Builtin.Int.intBits (1 - e * 2) ≤ 2 := by
  have h1 : Builtin.Int.intBits e ≤ 1 := by rcases he with rfl | rfl <;> decide
  have h2 : Builtin.Int.intBits 2 ≤ 2 := by decide
  exact ⟨by omega, by rcases he with rfl | rfl <;> decide⟩
theorem mod_in (x : Int) {k : Int} (hk : 0 < k) : 1 ≤ x.fmod k + 1 ∧ x.fmod k + 1 ≤ k := by
  have h1 := Int.fmod_nonneg_of_pos x hk
  have h2 := Int.fmod_lt_of_pos x hk
  omega

theorem post_true (l : List Int) : PySem.Challenge.rw_rl0044_02.row.claim.post [ofPy (PyData.list (List.map PyData.int l))] (.bool true) [ofPy (PyData.list (List.map PyData.int l))] = true := by
  kc_post
/-- the law's statements and scope -/
noncomputable def lawB : List Stmt × Scope := match PySem.Challenge.pw_rl0044_02.main.body.getLast? with
  | some (.FunctionDef _ _ bd _ _ _ sc _ _ _) => (bd, sc)
  | _ => ([], default)
theorem tailB (w : World) (p : Program) (loose : List Str) (mean : ExcName → Option Value) (mg mb : Str → Option Value) (g : Heap) (l : Addr) (s : Shared) (fa : Addr) (cd : Value) (Q : Flow → Shared → Prop)
    (x : Addr) (cv : List Value) (et : Nat) (ns : List Int) (um : Str → Option Value) (hcv : IntsAre cv ns) (hnl : ns.length = 4) (hns : ∀ n ∈ ns, 0 ≤ n ∧ n ≤ 64000000) (D : Hid (x ≠ 37 ∧ x ≠ 30))
    (F : Fr g l s.heap (fun y => if y = Str.ofString "cells" then some (.ref x) else um y)) (N : News g l s.heap [(x, listOf cv.toArray et), (37, tabObj #[]), (30, tabObj #[])])
    (B : Below callerA g [] g) (X : (hd.heap_39 w.params).In g) (T : Top p loose mean mg mb g) (C1 : CodeHd g 41 37) (C2 : CodeHd g 34 30)
    (hQ : ∀ h tk m, Fr g l h m → GrownAll [(41, 37), (34, 30)] h → Q (.ret (.bool true)) { s with heap := h, toks := tk }) :
    wpAny (model PySem.Challenge.rw_rl0044_02.row.prog w) (callerA.deeper (envOf (Str.ofString "law") lawB.2 l fa cd)) (execs (lawB.1.drop 1) (envOf (Str.ofString "law") lawB.2 l fa cd)) Q (fun _ _ => False) s := by
  revert X
  k_fill
  intro X
  generalize hp : lawB = lp
  conv at hp => lhs; whnf
  subst hp
  simp only [List.drop_succ_cons, List.drop_zero]
  (try dsimp only)
  (repeat' (first | ((fail_if_success (first | walk_at "mine:halt" | (with_reducible show wpAny _ _ (binaryOp Operator.FloorDiv _ _) _ _ _) | (with_reducible show wpAny _ _ (binaryOp Operator.Pow _ _) _ _ _) | (with_reducible show wpAny _ _ (binaryOp Operator.Mod (Value.int _ _) (Value.int (_ * _) _)) _ _ _))); first | ((first | (with_reducible show wpAny _ _ _ _ _ _) | (with_reducible show Frag.In _ _ ∧ _) | (with_reducible show FnAt _ _) | (with_reducible show FnAt _ _ ∧ _)); walk1) | (dsimp only; (first | (with_reducible show wpAny _ _ _ _ _ _) | (with_reducible show Frag.In _ _ ∧ _) | (with_reducible show FnAt _ _) | (with_reducible show FnAt _ _ ∧ _)); (fail_if_success (first | walk_at "mine:halt" | (with_reducible show wpAny _ _ (binaryOp Operator.FloorDiv _ _) _ _ _) | (with_reducible show wpAny _ _ (binaryOp Operator.Pow _ _) _ _ _) | (with_reducible show wpAny _ _ (binaryOp Operator.Mod (Value.int _ _) (Value.int (_ * _) _)) _ _ _))); walk1)) | fail "no step"))
  rename List.Pairwise _ _ => hpw
  rename List.Perm _ _ => hpm
  rename IntsAre _ _ => hi2
  rename (List.length _ = 0 + 1 + 1) => hl2
  obtain ⟨small, large, ts, tl, rfl, hs1, hs2, hs3⟩ := sorted2 hi2 hl2 hpm hpw (mod_in _ (by decide)) (mod_in _ (by decide))
  clear hpw hpm hi2 hl2
  (repeat' (first | ((fail_if_success (first | walk_at "mine:halt" | (with_reducible show wpAny _ _ (binaryOp Operator.FloorDiv _ _) _ _ _) | (with_reducible show wpAny _ _ (binaryOp Operator.Pow _ _) _ _ _) | (with_reducible show wpAny _ _ (binaryOp Operator.Mod (Value.int _ _) (Value.int (_ * _) _)) _ _ _))); first | ((first | (with_reducible show wpAny _ _ _ _ _ _) | (with_reducible show Frag.In _ _ ∧ _) | (with_reducible show FnAt _ _) | (with_reducible show FnAt _ _ ∧ _)); walk1) | (dsimp only; (first | (with_reducible show wpAny _ _ _ _ _ _) | (with_reducible show Frag.In _ _ ∧ _) | (with_reducible show FnAt _ _) | (with_reducible show FnAt _ _ ∧ _)); (fail_if_success (first | walk_at "mine:halt" | (with_reducible show wpAny _ _ (binaryOp Operator.FloorDiv _ _) _ _ _) | (with_reducible show wpAny _ _ (binaryOp Operator.Pow _ _) _ _ _) | (with_reducible show wpAny _ _ (binaryOp Operator.Mod (Value.int _ _) (Value.int (_ * _) _)) _ _ _))); walk1)) | fail "no step"))
  obtain ⟨count, ec, hc1, hc2⟩ := mod_nat (ns.getD (Int.toNat 2) 0) 16 (by decide)
  rename Fr _ _ _ _ => Fz
  rw [show (ns.getD (Int.toNat 2) 0).fmod 16 + 1 = (count : Int) from ec] at Fz
  refine pow3 fun P hP => ?_
  (repeat' (first | ((fail_if_success (first | walk_at "mine:halt" | (with_reducible show wpAny _ _ (binaryOp Operator.FloorDiv _ _) _ _ _) | (with_reducible show wpAny _ _ (binaryOp Operator.Pow _ _) _ _ _) | (with_reducible show wpAny _ _ (binaryOp Operator.Mod (Value.int _ _) (Value.int (_ * _) _)) _ _ _))); first | ((first | (with_reducible show wpAny _ _ _ _ _ _) | (with_reducible show Frag.In _ _ ∧ _) | (with_reducible show FnAt _ _) | (with_reducible show FnAt _ _ ∧ _)); walk1) | (dsimp only; (first | (with_reducible show wpAny _ _ _ _ _ _) | (with_reducible show Frag.In _ _ ∧ _) | (with_reducible show FnAt _ _) | (with_reducible show FnAt _ _ ∧ _)); (fail_if_success (first | walk_at "mine:halt" | (with_reducible show wpAny _ _ (binaryOp Operator.FloorDiv _ _) _ _ _) | (with_reducible show wpAny _ _ (binaryOp Operator.Pow _ _) _ _ _) | (with_reducible show wpAny _ _ (binaryOp Operator.Mod (Value.int _ _) (Value.int (_ * _) _)) _ _ _))); walk1)) | fail "no step"))
  refine floordiv_int (by decide) ?_ (.inl (PyProof.noPylong_small (by decide)))
  (repeat' (first | ((fail_if_success (first | walk_at "mine:halt" | (with_reducible show wpAny _ _ (binaryOp Operator.FloorDiv _ _) _ _ _) | (with_reducible show wpAny _ _ (binaryOp Operator.Pow _ _) _ _ _) | (with_reducible show wpAny _ _ (binaryOp Operator.Mod (Value.int _ _) (Value.int (_ * _) _)) _ _ _))); first | ((first | (with_reducible show wpAny _ _ _ _ _ _) | (with_reducible show Frag.In _ _ ∧ _) | (with_reducible show FnAt _ _) | (with_reducible show FnAt _ _ ∧ _)); walk1) | (dsimp only; (first | (with_reducible show wpAny _ _ _ _ _ _) | (with_reducible show Frag.In _ _ ∧ _) | (with_reducible show FnAt _ _) | (with_reducible show FnAt _ _ ∧ _)); (fail_if_success (first | walk_at "mine:halt" | (with_reducible show wpAny _ _ (binaryOp Operator.FloorDiv _ _) _ _ _) | (with_reducible show wpAny _ _ (binaryOp Operator.Pow _ _) _ _ _) | (with_reducible show wpAny _ _ (binaryOp Operator.Mod (Value.int _ _) (Value.int (_ * _) _)) _ _ _))); walk1)) | fail "no step"))
  have hcb := cell_bound (Int.toNat 3) hns
  have he := mod_two ((ns.getD (Int.toNat 0) 0).fdiv 10)
  have hU1 := unit_all hP hcb he
  have hU2 := unit_room hP hcb he
  have hU3 := (bits_e he).1
  refine mulI hU3 fun _ _ => ?_
  (try dsimp only)
  (repeat' (first | ((fail_if_success (first | walk_at "mine:halt" | (with_reducible show wpAny _ _ (binaryOp Operator.FloorDiv _ _) _ _ _) | (with_reducible show wpAny _ _ (binaryOp Operator.Pow _ _) _ _ _) | (with_reducible show wpAny _ _ (binaryOp Operator.Mod (Value.int _ _) (Value.int (_ * _) _)) _ _ _))); first | ((first | (with_reducible show wpAny _ _ _ _ _ _) | (with_reducible show Frag.In _ _ ∧ _) | (with_reducible show FnAt _ _) | (with_reducible show FnAt _ _ ∧ _)); walk1) | (dsimp only; (first | (with_reducible show wpAny _ _ _ _ _ _) | (with_reducible show Frag.In _ _ ∧ _) | (with_reducible show FnAt _ _) | (with_reducible show FnAt _ _ ∧ _)); (fail_if_success (first | walk_at "mine:halt" | (with_reducible show wpAny _ _ (binaryOp Operator.FloorDiv _ _) _ _ _) | (with_reducible show wpAny _ _ (binaryOp Operator.Pow _ _) _ _ _) | (with_reducible show wpAny _ _ (binaryOp Operator.Mod (Value.int _ _) (Value.int (_ * _) _)) _ _ _))); walk1)) | fail "no step"))
  refine mulI hU2 fun _ _ => ?_
  (try dsimp only)
  generalize (P + ns.getD (Int.toNat 3) 0) * (1 - ((ns.getD (Int.toNat 0) 0).fdiv 10).fmod 2 * 2) = U at *
  replace hU1 : UnitOk U := hU1
  clear hU2 hU3 hcb he hP
  (repeat' (first | ((fail_if_success (first | walk_at "mine:halt" | (with_reducible show wpAny _ _ (binaryOp Operator.FloorDiv _ _) _ _ _) | (with_reducible show wpAny _ _ (binaryOp Operator.Pow _ _) _ _ _) | (with_reducible show wpAny _ _ (binaryOp Operator.Mod (Value.int _ _) (Value.int (_ * _) _)) _ _ _))); first | ((first | (with_reducible show wpAny _ _ _ _ _ _) | (with_reducible show Frag.In _ _ ∧ _) | (with_reducible show FnAt _ _) | (with_reducible show FnAt _ _ ∧ _)); walk1) | (dsimp only; (first | (with_reducible show wpAny _ _ _ _ _ _) | (with_reducible show Frag.In _ _ ∧ _) | (with_reducible show FnAt _ _) | (with_reducible show FnAt _ _ ∧ _)); (fail_if_success (first | walk_at "mine:halt" | (with_reducible show wpAny _ _ (binaryOp Operator.FloorDiv _ _) _ _ _) | (with_reducible show wpAny _ _ (binaryOp Operator.Pow _ _) _ _ _) | (with_reducible show wpAny _ _ (binaryOp Operator.Mod (Value.int _ _) (Value.int (_ * _) _)) _ _ _))); walk1)) | fail "no step"))
  have hUb := hU1.2
  have hbl := bits_small (v := large) (by omega)
  have hbs := bits_small (v := small) (by omega)
  have hbn : Builtin.Int.intBits (-(large : Int)) ≤ 8 := by rw [bits_neg']; exact hbl
  have hb1 := bits_mul (large : Int) U
  have hb2 := bits_mul ((large : Int) * U) U
  have hb3 := bits_mul (-(large : Int)) U
  rename Fr _ _ _ _ => Fz
  refine For_invVF Fz rfl rfl ?_
  (repeat' (first | ((fail_if_success (first | walk_at "mine:halt" | (with_reducible show wpAny _ _ (binaryOp Operator.FloorDiv _ _) _ _ _) | (with_reducible show wpAny _ _ (binaryOp Operator.Pow _ _) _ _ _) | (with_reducible show wpAny _ _ (binaryOp Operator.Mod (Value.int _ _) (Value.int (_ * _) _)) _ _ _))); first | ((first | (with_reducible show wpAny _ _ _ _ _ _) | (with_reducible show Frag.In _ _ ∧ _) | (with_reducible show FnAt _ _) | (with_reducible show FnAt _ _ ∧ _)); walk1) | (dsimp only; (first | (with_reducible show wpAny _ _ _ _ _ _) | (with_reducible show Frag.In _ _ ∧ _) | (with_reducible show FnAt _ _) | (with_reducible show FnAt _ _ ∧ _)); (fail_if_success (first | walk_at "mine:halt" | (with_reducible show wpAny _ _ (binaryOp Operator.FloorDiv _ _) _ _ _) | (with_reducible show wpAny _ _ (binaryOp Operator.Pow _ _) _ _ _) | (with_reducible show wpAny _ _ (binaryOp Operator.Mod (Value.int _ _) (Value.int (_ * _) _)) _ _ _))); walk1)) | fail "no step"))
  refine mulI (by omega) fun _ _ => ?_
  (try dsimp only)
  (repeat' (first | ((fail_if_success (first | walk_at "mine:halt" | (with_reducible show wpAny _ _ (binaryOp Operator.FloorDiv _ _) _ _ _) | (with_reducible show wpAny _ _ (binaryOp Operator.Pow _ _) _ _ _) | (with_reducible show wpAny _ _ (binaryOp Operator.Mod (Value.int _ _) (Value.int (_ * _) _)) _ _ _))); first | ((first | (with_reducible show wpAny _ _ _ _ _ _) | (with_reducible show Frag.In _ _ ∧ _) | (with_reducible show FnAt _ _) | (with_reducible show FnAt _ _ ∧ _)); walk1) | (dsimp only; (first | (with_reducible show wpAny _ _ _ _ _ _) | (with_reducible show Frag.In _ _ ∧ _) | (with_reducible show FnAt _ _) | (with_reducible show FnAt _ _ ∧ _)); (fail_if_success (first | walk_at "mine:halt" | (with_reducible show wpAny _ _ (binaryOp Operator.FloorDiv _ _) _ _ _) | (with_reducible show wpAny _ _ (binaryOp Operator.Pow _ _) _ _ _) | (with_reducible show wpAny _ _ (binaryOp Operator.Mod (Value.int _ _) (Value.int (_ * _) _)) _ _ _))); walk1)) | fail "no step"))
  refine mulI (by omega) fun _ _ => ?_
  (try dsimp only)
  (repeat' (first | ((fail_if_success (first | walk_at "mine:halt" | (with_reducible show wpAny _ _ (binaryOp Operator.FloorDiv _ _) _ _ _) | (with_reducible show wpAny _ _ (binaryOp Operator.Pow _ _) _ _ _) | (with_reducible show wpAny _ _ (binaryOp Operator.Mod (Value.int _ _) (Value.int (_ * _) _)) _ _ _))); first | ((first | (with_reducible show wpAny _ _ _ _ _ _) | (with_reducible show Frag.In _ _ ∧ _) | (with_reducible show FnAt _ _) | (with_reducible show FnAt _ _ ∧ _)); walk1) | (dsimp only; (first | (with_reducible show wpAny _ _ _ _ _ _) | (with_reducible show Frag.In _ _ ∧ _) | (with_reducible show FnAt _ _) | (with_reducible show FnAt _ _ ∧ _)); (fail_if_success (first | walk_at "mine:halt" | (with_reducible show wpAny _ _ (binaryOp Operator.FloorDiv _ _) _ _ _) | (with_reducible show wpAny _ _ (binaryOp Operator.Pow _ _) _ _ _) | (with_reducible show wpAny _ _ (binaryOp Operator.Mod (Value.int _ _) (Value.int (_ * _) _)) _ _ _))); walk1)) | fail "no step"))
  refine mulI (by omega) fun _ _ => ?_
  (try dsimp only)
  (repeat' (first | ((fail_if_success (first | walk_at "mine:halt" | (with_reducible show wpAny _ _ (binaryOp Operator.FloorDiv _ _) _ _ _) | (with_reducible show wpAny _ _ (binaryOp Operator.Pow _ _) _ _ _) | (with_reducible show wpAny _ _ (binaryOp Operator.Mod (Value.int _ _) (Value.int (_ * _) _)) _ _ _))); first | ((first | (with_reducible show wpAny _ _ _ _ _ _) | (with_reducible show Frag.In _ _ ∧ _) | (with_reducible show FnAt _ _) | (with_reducible show FnAt _ _ ∧ _)); walk1) | (dsimp only; (first | (with_reducible show wpAny _ _ _ _ _ _) | (with_reducible show Frag.In _ _ ∧ _) | (with_reducible show FnAt _ _) | (with_reducible show FnAt _ _ ∧ _)); (fail_if_success (first | walk_at "mine:halt" | (with_reducible show wpAny _ _ (binaryOp Operator.FloorDiv _ _) _ _ _) | (with_reducible show wpAny _ _ (binaryOp Operator.Pow _ _) _ _ _) | (with_reducible show wpAny _ _ (binaryOp Operator.Mod (Value.int _ _) (Value.int (_ * _) _)) _ _ _))); walk1)) | fail "no step"))
  refine mulI (by omega) fun _ _ => ?_
  (try dsimp only)
  (repeat' (first | ((fail_if_success (first | walk_at "mine:halt" | (with_reducible show wpAny _ _ (binaryOp Operator.FloorDiv _ _) _ _ _) | (with_reducible show wpAny _ _ (binaryOp Operator.Pow _ _) _ _ _) | (with_reducible show wpAny _ _ (binaryOp Operator.Mod (Value.int _ _) (Value.int (_ * _) _)) _ _ _))); first | ((first | (with_reducible show wpAny _ _ _ _ _ _) | (with_reducible show Frag.In _ _ ∧ _) | (with_reducible show FnAt _ _) | (with_reducible show FnAt _ _ ∧ _)); walk1) | (dsimp only; (first | (with_reducible show wpAny _ _ _ _ _ _) | (with_reducible show Frag.In _ _ ∧ _) | (with_reducible show FnAt _ _) | (with_reducible show FnAt _ _ ∧ _)); (fail_if_success (first | walk_at "mine:halt" | (with_reducible show wpAny _ _ (binaryOp Operator.FloorDiv _ _) _ _ _) | (with_reducible show wpAny _ _ (binaryOp Operator.Pow _ _) _ _ _) | (with_reducible show wpAny _ _ (binaryOp Operator.Mod (Value.int _ _) (Value.int (_ * _) _)) _ _ _))); walk1)) | fail "no step"))
  refine mulI (by omega) fun _ _ => ?_
  (try dsimp only)
  (repeat' (first | ((fail_if_success (first | walk_at "mine:halt" | (with_reducible show wpAny _ _ (binaryOp Operator.FloorDiv _ _) _ _ _) | (with_reducible show wpAny _ _ (binaryOp Operator.Pow _ _) _ _ _) | (with_reducible show wpAny _ _ (binaryOp Operator.Mod (Value.int _ _) (Value.int (_ * _) _)) _ _ _))); first | ((first | (with_reducible show wpAny _ _ _ _ _ _) | (with_reducible show Frag.In _ _ ∧ _) | (with_reducible show FnAt _ _) | (with_reducible show FnAt _ _ ∧ _)); walk1) | (dsimp only; (first | (with_reducible show wpAny _ _ _ _ _ _) | (with_reducible show Frag.In _ _ ∧ _) | (with_reducible show FnAt _ _) | (with_reducible show FnAt _ _ ∧ _)); (fail_if_success (first | walk_at "mine:halt" | (with_reducible show wpAny _ _ (binaryOp Operator.FloorDiv _ _) _ _ _) | (with_reducible show wpAny _ _ (binaryOp Operator.Pow _ _) _ _ _) | (with_reducible show wpAny _ _ (binaryOp Operator.Mod (Value.int _ _) (Value.int (_ * _) _)) _ _ _))); walk1)) | fail "no step"))
  refine mulI (by omega) fun _ _ => ?_
  (try dsimp only)
  (repeat' (first | ((fail_if_success (first | walk_at "mine:halt" | (with_reducible show wpAny _ _ (binaryOp Operator.FloorDiv _ _) _ _ _) | (with_reducible show wpAny _ _ (binaryOp Operator.Pow _ _) _ _ _) | (with_reducible show wpAny _ _ (binaryOp Operator.Mod (Value.int _ _) (Value.int (_ * _) _)) _ _ _))); first | ((first | (with_reducible show wpAny _ _ _ _ _ _) | (with_reducible show Frag.In _ _ ∧ _) | (with_reducible show FnAt _ _) | (with_reducible show FnAt _ _ ∧ _)); walk1) | (dsimp only; (first | (with_reducible show wpAny _ _ _ _ _ _) | (with_reducible show Frag.In _ _ ∧ _) | (with_reducible show FnAt _ _) | (with_reducible show FnAt _ _ ∧ _)); (fail_if_success (first | walk_at "mine:halt" | (with_reducible show wpAny _ _ (binaryOp Operator.FloorDiv _ _) _ _ _) | (with_reducible show wpAny _ _ (binaryOp Operator.Pow _ _) _ _ _) | (with_reducible show wpAny _ _ (binaryOp Operator.Mod (Value.int _ _) (Value.int (_ * _) _)) _ _ _))); walk1)) | fail "no step"))
  rename Fr _ _ _ _ => Fz
  rename News _ _ _ _ => Nz
  rename_i D0 h9 l9
  refine iter_listKeep [(30, tabObj #[]), (37, tabObj #[])] rfl Fz Nz (List.mem_cons_self ..) rfl rfl (by k_subL) ?_
  intro I hIl lo0 vs0 elo evs
  k_lt hIl
  clear Fz Nz
  refine list_inv (fun rest m news => ∃ (ups : List Int) (tabs : List (Addr × Obj)) (tU tS tL tC : Tok) (u : Str → Option Value), IntsAre rest ups ∧ (∀ z ∈ ups, Builtin.Int.intBits z ≤ 9000) ∧
      ((TabsNew tabs ∧ rest.length = 4) ∨ (∃ cA oA cB oB, tabs = [(30, tabObj #[rawInt 32, rawInt 4, .ref cA]), (cA, oA), (37, tabObj #[rawInt 47, rawInt 4, .ref cB]), (cB, oB)] ∧
        CodeOk oA (Str.ofString "_int2digits.<locals>.inner") ∧ CodeOk oB (Str.ofString "_digits2int.<locals>.inner") ∧ AllNe cA [(30, oA), (37, oA), (cB, oA), (I, oA), (D0, oA)] ∧ AllNe cB [(30, oA), (37, oA), (I, oA), (D0, oA)])) ∧
      m = (fun y => if y = Str.ofString "unit" then some (.int U tU) else if y = Str.ofString "small" then some (.int small tS) else if y = Str.ofString "large" then some (.int large tL) else if y = Str.ofString "count" then some (.int count tC) else u y) ∧
      news = (D0, lo0) :: tabs) ?_ ?_ _ _ _ ?_
  · skip
    rintro v rest m news ⟨ups, tabs, tU, tS, tL, tC, u, hrest, hub, htabs, rfl, rfl⟩ it h tk hcl F9 N9
    cases hrest with
    | @cons z tz _ zs hrest =>
      have hz := hub z (List.mem_cons_self ..)
      have hy0 : (small : Int) * U ≠ 0 := Int.mul_ne_zero (by omega) hU1.ne
      have hsc := bits_scale (v := small) (U := U) (by omega)
      have hsm := bits_mul (small : Int) U
      have hUa := hU1.1
      have hfit : Fits z ((small : Int) * U) := fits_of (by omega) (by omega) (by omega) (by omega)
      refine name_fr F9 fun g l eg el => ?_
      refine name_state fun S eS => ?_
      refine execs_join (fun s' => ∃ (h : Heap) (tk : Nat) (zz : Addr) (tq tr : Tok) (cA : Addr) (oA : Obj) (cB : Addr) (oB : Obj) (tU tS tL tC : Tok) (u : Str → Option Value), s' = { S with heap := h, toks := tk } ∧
        Fr g l h (fun y => if y = Str.ofString "answer" then some (.ref zz) else if y = Str.ofString "upper" then some (.int z tz) else if y = Str.ofString "unit" then some (.int U tU) else if y = Str.ofString "small" then some (.int small tS) else if y = Str.ofString "large" then some (.int large tL) else if y = Str.ofString "count" then some (.int count tC) else u y) ∧
        News g l h [(zz, tup [.int (z.fdiv ((small : Int) * U)) tq, .int (z.fmod ((small : Int) * U)) tr]), (30, tabObj #[rawInt 32, rawInt 4, .ref cA]), (cA, oA), (37, tabObj #[rawInt 47, rawInt 4, .ref cB]), (cB, oB), (I, it), (D0, lo0)] ∧
        CodeOk oA (Str.ofString "_int2digits.<locals>.inner") ∧ CodeOk oB (Str.ofString "_digits2int.<locals>.inner") ∧ AllNe zz [(30, oA), (cA, oA), (37, oA), (cB, oA), (I, oA), (D0, oA)] ∧ AllNe cA [(30, oA), (37, oA), (cB, oA), (I, oA), (D0, oA)] ∧ AllNe cB [(30, oA), (37, oA), (I, oA), (D0, oA)]) ?_ ?_
      · subst eS eg el
        rcases htabs with ⟨rfl, _⟩ | ⟨cA, oA, cB, oB, rfl, hokA, hokB, hd1, hd2⟩
        · skip
          (repeat' (first | ((fail_if_success (first | walk_at "mine:halt" | (with_reducible show wpAny _ _ (binaryOp Operator.FloorDiv _ _) _ _ _) | (with_reducible show wpAny _ _ (binaryOp Operator.Pow _ _) _ _ _) | (with_reducible show wpAny _ _ (binaryOp Operator.Mod (Value.int _ _) (Value.int (_ * _) _)) _ _ _))); first | ((first | (with_reducible show wpAny _ _ _ _ _ _) | (with_reducible show Frag.In _ _ ∧ _) | (with_reducible show FnAt _ _) | (with_reducible show FnAt _ _ ∧ _)); walk1) | (dsimp only; (first | (with_reducible show wpAny _ _ _ _ _ _) | (with_reducible show Frag.In _ _ ∧ _) | (with_reducible show FnAt _ _) | (with_reducible show FnAt _ _ ∧ _)); (fail_if_success (first | walk_at "mine:halt" | (with_reducible show wpAny _ _ (binaryOp Operator.FloorDiv _ _) _ _ _) | (with_reducible show wpAny _ _ (binaryOp Operator.Pow _ _) _ _ _) | (with_reducible show wpAny _ _ (binaryOp Operator.Mod (Value.int _ _) (Value.int (_ * _) _)) _ _ _))); walk1)) | fail "no step"))
          refine mulI (by omega) fun _ _ => ?_
          (try dsimp only)
          (repeat' (first | ((fail_if_success (first | walk_at "mine:halt" | (with_reducible show wpAny _ _ (binaryOp Operator.FloorDiv _ _) _ _ _) | (with_reducible show wpAny _ _ (binaryOp Operator.Pow _ _) _ _ _) | (with_reducible show wpAny _ _ (binaryOp Operator.Mod (Value.int _ _) (Value.int (_ * _) _)) _ _ _))); first | ((first | (with_reducible show wpAny _ _ _ _ _ _) | (with_reducible show Frag.In _ _ ∧ _) | (with_reducible show FnAt _ _) | (with_reducible show FnAt _ _ ∧ _)); walk1) | (dsimp only; (first | (with_reducible show wpAny _ _ _ _ _ _) | (with_reducible show Frag.In _ _ ∧ _) | (with_reducible show FnAt _ _) | (with_reducible show FnAt _ _ ∧ _)); (fail_if_success (first | walk_at "mine:halt" | (with_reducible show wpAny _ _ (binaryOp Operator.FloorDiv _ _) _ _ _) | (with_reducible show wpAny _ _ (binaryOp Operator.Pow _ _) _ _ _) | (with_reducible show wpAny _ _ (binaryOp Operator.Mod (Value.int _ _) (Value.int (_ * _) _)) _ _ _))); walk1)) | fail "no step"))
          refine (idm _ z ((small : Int) * U) _ _ hy0 hfit [(30, tabObj #[]), (37, tabObj #[])] (.inl rfl)).at [(I, it), (D0, lo0)] B F9 X N9 (by k_subL) (by ((try simp only [List.cons_append, List.nil_append, ApartL, AllNe, and_true]); (repeat' (first | exact True.intro | refine And.intro ?_ ?_)); all_goals k_ne)) T C1 C2 rfl (Nat.le_of_ble_eq_true rfl) (Nat.le_of_ble_eq_true rfl) ?_
          clear F9 N9
          rintro r2 post h' tk' F' N' D' ⟨zz, tq, tr, l2, rfl, rfl, ⟨cA2, oA2, cB2, oB2, rfl, hokA2, hokB2, he1, he2⟩, he3⟩
          simp only [List.cons_append, List.nil_append] at N'
          simp only [ApartL, AllNe, and_true, and_assoc] at he1 he2 he3 D'
          (try replace he1 := Hid.mk he1)
          (try replace he2 := Hid.mk he2)
          (try replace he3 := Hid.mk he3)
          (try replace D' := Hid.mk D')
          (try dsimp only)
          (repeat' (first | ((fail_if_success (first | walk_at "mine:halt" | (with_reducible show wpAny _ _ (binaryOp Operator.FloorDiv _ _) _ _ _) | (with_reducible show wpAny _ _ (binaryOp Operator.Pow _ _) _ _ _) | (with_reducible show wpAny _ _ (binaryOp Operator.Mod (Value.int _ _) (Value.int (_ * _) _)) _ _ _))); first | ((first | (with_reducible show wpAny _ _ _ _ _ _) | (with_reducible show Frag.In _ _ ∧ _) | (with_reducible show FnAt _ _) | (with_reducible show FnAt _ _ ∧ _)); walk1) | (dsimp only; (first | (with_reducible show wpAny _ _ _ _ _ _) | (with_reducible show Frag.In _ _ ∧ _) | (with_reducible show FnAt _ _) | (with_reducible show FnAt _ _ ∧ _)); (fail_if_success (first | walk_at "mine:halt" | (with_reducible show wpAny _ _ (binaryOp Operator.FloorDiv _ _) _ _ _) | (with_reducible show wpAny _ _ (binaryOp Operator.Pow _ _) _ _ _) | (with_reducible show wpAny _ _ (binaryOp Operator.Mod (Value.int _ _) (Value.int (_ * _) _)) _ _ _))); walk1)) | fail "no step"))
          rename Fr _ _ _ _ => Fz
          rename News _ _ _ _ => Nz
          refine ⟨by first | rfl | trivial, _, _, zz, tq, tr, cA2, oA2, cB2, oB2, _, _, _, _, _, rfl, Fr.congr Fz (canon6 rfl rfl rfl rfl rfl rfl), Nz, hokA2, hokB2, ?_, ?_, ?_⟩
          all_goals ((try simp only [AllNe, and_true]); (repeat' (first | exact True.intro | refine And.intro ?_ ?_)); all_goals k_ne)
        · simp only [AllNe, and_true] at hd1 hd2
          (try replace hd1 := Hid.mk hd1)
          (try replace hd2 := Hid.mk hd2)
          (repeat' (first | ((fail_if_success (first | walk_at "mine:halt" | (with_reducible show wpAny _ _ (binaryOp Operator.FloorDiv _ _) _ _ _) | (with_reducible show wpAny _ _ (binaryOp Operator.Pow _ _) _ _ _) | (with_reducible show wpAny _ _ (binaryOp Operator.Mod (Value.int _ _) (Value.int (_ * _) _)) _ _ _))); first | ((first | (with_reducible show wpAny _ _ _ _ _ _) | (with_reducible show Frag.In _ _ ∧ _) | (with_reducible show FnAt _ _) | (with_reducible show FnAt _ _ ∧ _)); walk1) | (dsimp only; (first | (with_reducible show wpAny _ _ _ _ _ _) | (with_reducible show Frag.In _ _ ∧ _) | (with_reducible show FnAt _ _) | (with_reducible show FnAt _ _ ∧ _)); (fail_if_success (first | walk_at "mine:halt" | (with_reducible show wpAny _ _ (binaryOp Operator.FloorDiv _ _) _ _ _) | (with_reducible show wpAny _ _ (binaryOp Operator.Pow _ _) _ _ _) | (with_reducible show wpAny _ _ (binaryOp Operator.Mod (Value.int _ _) (Value.int (_ * _) _)) _ _ _))); walk1)) | fail "no step"))
          refine mulI (by omega) fun _ _ => ?_
          (try dsimp only)
          (repeat' (first | ((fail_if_success (first | walk_at "mine:halt" | (with_reducible show wpAny _ _ (binaryOp Operator.FloorDiv _ _) _ _ _) | (with_reducible show wpAny _ _ (binaryOp Operator.Pow _ _) _ _ _) | (with_reducible show wpAny _ _ (binaryOp Operator.Mod (Value.int _ _) (Value.int (_ * _) _)) _ _ _))); first | ((first | (with_reducible show wpAny _ _ _ _ _ _) | (with_reducible show Frag.In _ _ ∧ _) | (with_reducible show FnAt _ _) | (with_reducible show FnAt _ _ ∧ _)); walk1) | (dsimp only; (first | (with_reducible show wpAny _ _ _ _ _ _) | (with_reducible show Frag.In _ _ ∧ _) | (with_reducible show FnAt _ _) | (with_reducible show FnAt _ _ ∧ _)); (fail_if_success (first | walk_at "mine:halt" | (with_reducible show wpAny _ _ (binaryOp Operator.FloorDiv _ _) _ _ _) | (with_reducible show wpAny _ _ (binaryOp Operator.Pow _ _) _ _ _) | (with_reducible show wpAny _ _ (binaryOp Operator.Mod (Value.int _ _) (Value.int (_ * _) _)) _ _ _))); walk1)) | fail "no step"))
          refine (idm _ z ((small : Int) * U) _ _ hy0 hfit [(30, tabObj #[rawInt 32, rawInt 4, .ref cA]), (cA, oA), (37, tabObj #[rawInt 47, rawInt 4, .ref cB]), (cB, oB)] (.inr ⟨cA, oA, cB, oB, rfl, hokA, hokB, ⟨hd1.1, hd1.2.1, hd1.2.2.1, trivial⟩, ⟨hd2.1, hd2.2.1, trivial⟩⟩)).at [(I, it), (D0, lo0)] B F9 X N9 (by k_subL) (by ((try simp only [List.cons_append, List.nil_append, ApartL, AllNe, and_true]); (repeat' (first | exact True.intro | refine And.intro ?_ ?_)); all_goals k_ne)) T C1 C2 rfl (Nat.le_of_ble_eq_true rfl) (Nat.le_of_ble_eq_true rfl) ?_
          clear F9 N9
          rintro r2 post h' tk' F' N' D' ⟨zz, tq, tr, l2, rfl, rfl, ⟨cA2, oA2, cB2, oB2, rfl, hokA2, hokB2, he1, he2⟩, he3⟩
          simp only [List.cons_append, List.nil_append] at N'
          simp only [ApartL, AllNe, and_true, and_assoc] at he1 he2 he3 D'
          (try replace he1 := Hid.mk he1)
          (try replace he2 := Hid.mk he2)
          (try replace he3 := Hid.mk he3)
          (try replace D' := Hid.mk D')
          (try dsimp only)
          (repeat' (first | ((fail_if_success (first | walk_at "mine:halt" | (with_reducible show wpAny _ _ (binaryOp Operator.FloorDiv _ _) _ _ _) | (with_reducible show wpAny _ _ (binaryOp Operator.Pow _ _) _ _ _) | (with_reducible show wpAny _ _ (binaryOp Operator.Mod (Value.int _ _) (Value.int (_ * _) _)) _ _ _))); first | ((first | (with_reducible show wpAny _ _ _ _ _ _) | (with_reducible show Frag.In _ _ ∧ _) | (with_reducible show FnAt _ _) | (with_reducible show FnAt _ _ ∧ _)); walk1) | (dsimp only; (first | (with_reducible show wpAny _ _ _ _ _ _) | (with_reducible show Frag.In _ _ ∧ _) | (with_reducible show FnAt _ _) | (with_reducible show FnAt _ _ ∧ _)); (fail_if_success (first | walk_at "mine:halt" | (with_reducible show wpAny _ _ (binaryOp Operator.FloorDiv _ _) _ _ _) | (with_reducible show wpAny _ _ (binaryOp Operator.Pow _ _) _ _ _) | (with_reducible show wpAny _ _ (binaryOp Operator.Mod (Value.int _ _) (Value.int (_ * _) _)) _ _ _))); walk1)) | fail "no step"))
          rename Fr _ _ _ _ => Fz
          rename News _ _ _ _ => Nz
          refine ⟨by first | rfl | trivial, _, _, zz, tq, tr, cA2, oA2, cB2, oB2, _, _, _, _, _, rfl, Fr.congr Fz (canon6 rfl rfl rfl rfl rfl rfl), Nz, hokA2, hokB2, ?_, ?_, ?_⟩
          all_goals ((try simp only [AllNe, and_true]); (repeat' (first | exact True.intro | refine And.intro ?_ ?_)); all_goals k_ne)
      · clear F9 N9 htabs
        rintro s' ⟨h, tk, zz, tq, tr, cA, oA, cB, oB, tU, tS, tL, tC, u, rfl, F9, N9, hokA, hokB, he3, he1, he2⟩
        subst eS eg el
        simp only [AllNe, and_true] at he1 he2 he3
        (try replace he1 := Hid.mk he1)
        (try replace he2 := Hid.mk he2)
        (try replace he3 := Hid.mk he3)
        (try dsimp only)
        have hlog : ((small : Int) * U).natAbs.log2 < 9000 := log2_of_bits hy0 (Nat.le_trans hsm (by omega))
        refine wpAny_execs_cons ?_
        (repeat' (first | ((fail_if_success (first | walk_at "mine:halt" | (with_reducible show wpAny _ _ (binaryOp Operator.FloorDiv _ _) _ _ _) | (with_reducible show wpAny _ _ (binaryOp Operator.Pow _ _) _ _ _) | (with_reducible show wpAny _ _ (binaryOp Operator.Mod (Value.int _ _) (Value.int (_ * _) _)) _ _ _))); first | ((first | (with_reducible show wpAny _ _ _ _ _ _) | (with_reducible show Frag.In _ _ ∧ _) | (with_reducible show FnAt _ _) | (with_reducible show FnAt _ _ ∧ _)); walk1) | (dsimp only; (first | (with_reducible show wpAny _ _ _ _ _ _) | (with_reducible show Frag.In _ _ ∧ _) | (with_reducible show FnAt _ _) | (with_reducible show FnAt _ _ ∧ _)); (fail_if_success (first | walk_at "mine:halt" | (with_reducible show wpAny _ _ (binaryOp Operator.FloorDiv _ _) _ _ _) | (with_reducible show wpAny _ _ (binaryOp Operator.Pow _ _) _ _ _) | (with_reducible show wpAny _ _ (binaryOp Operator.Mod (Value.int _ _) (Value.int (_ * _) _)) _ _ _))); walk1)) | fail "no step"))
        refine mulI (by omega) fun _ _ => ?_
        (try dsimp only)
        (repeat' (first | ((fail_if_success (first | walk_at "mine:halt" | (with_reducible show wpAny _ _ (binaryOp Operator.FloorDiv _ _) _ _ _) | (with_reducible show wpAny _ _ (binaryOp Operator.Pow _ _) _ _ _) | (with_reducible show wpAny _ _ (binaryOp Operator.Mod (Value.int _ _) (Value.int (_ * _) _)) _ _ _))); first | ((first | (with_reducible show wpAny _ _ _ _ _ _) | (with_reducible show Frag.In _ _ ∧ _) | (with_reducible show FnAt _ _) | (with_reducible show FnAt _ _ ∧ _)); walk1) | (dsimp only; (first | (with_reducible show wpAny _ _ _ _ _ _) | (with_reducible show Frag.In _ _ ∧ _) | (with_reducible show FnAt _ _) | (with_reducible show FnAt _ _ ∧ _)); (fail_if_success (first | walk_at "mine:halt" | (with_reducible show wpAny _ _ (binaryOp Operator.FloorDiv _ _) _ _ _) | (with_reducible show wpAny _ _ (binaryOp Operator.Pow _ _) _ _ _) | (with_reducible show wpAny _ _ (binaryOp Operator.Mod (Value.int _ _) (Value.int (_ * _) _)) _ _ _))); walk1)) | fail "no step"))
        refine floordiv_int hy0 ?_ (.inl (PyProof.noPylong_of_log2 hlog))
        (try dsimp only)
        (repeat' (first | ((fail_if_success (first | walk_at "mine:halt" | (with_reducible show wpAny _ _ (binaryOp Operator.FloorDiv _ _) _ _ _) | (with_reducible show wpAny _ _ (binaryOp Operator.Pow _ _) _ _ _) | (with_reducible show wpAny _ _ (binaryOp Operator.Mod (Value.int _ _) (Value.int (_ * _) _)) _ _ _))); first | ((first | (with_reducible show wpAny _ _ _ _ _ _) | (with_reducible show Frag.In _ _ ∧ _) | (with_reducible show FnAt _ _) | (with_reducible show FnAt _ _ ∧ _)); walk1) | (dsimp only; (first | (with_reducible show wpAny _ _ _ _ _ _) | (with_reducible show Frag.In _ _ ∧ _) | (with_reducible show FnAt _ _) | (with_reducible show FnAt _ _ ∧ _)); (fail_if_success (first | walk_at "mine:halt" | (with_reducible show wpAny _ _ (binaryOp Operator.FloorDiv _ _) _ _ _) | (with_reducible show wpAny _ _ (binaryOp Operator.Pow _ _) _ _ _) | (with_reducible show wpAny _ _ (binaryOp Operator.Mod (Value.int _ _) (Value.int (_ * _) _)) _ _ _))); walk1)) | fail "no step"))
        refine mulI (by omega) fun _ _ => ?_
        (try dsimp only)
        (repeat' (first | ((fail_if_success (first | walk_at "mine:halt" | (with_reducible show wpAny _ _ (binaryOp Operator.FloorDiv _ _) _ _ _) | (with_reducible show wpAny _ _ (binaryOp Operator.Pow _ _) _ _ _) | (with_reducible show wpAny _ _ (binaryOp Operator.Mod (Value.int _ _) (Value.int (_ * _) _)) _ _ _))); first | ((first | (with_reducible show wpAny _ _ _ _ _ _) | (with_reducible show Frag.In _ _ ∧ _) | (with_reducible show FnAt _ _) | (with_reducible show FnAt _ _ ∧ _)); walk1) | (dsimp only; (first | (with_reducible show wpAny _ _ _ _ _ _) | (with_reducible show Frag.In _ _ ∧ _) | (with_reducible show FnAt _ _) | (with_reducible show FnAt _ _ ∧ _)); (fail_if_success (first | walk_at "mine:halt" | (with_reducible show wpAny _ _ (binaryOp Operator.FloorDiv _ _) _ _ _) | (with_reducible show wpAny _ _ (binaryOp Operator.Pow _ _) _ _ _) | (with_reducible show wpAny _ _ (binaryOp Operator.Mod (Value.int _ _) (Value.int (_ * _) _)) _ _ _))); walk1)) | fail "no step"))
        refine mod_int' hy0 ?_
        (try dsimp only)
        (repeat' (first | ((fail_if_success (first | walk_at "mine:halt" | (with_reducible show wpAny _ _ (binaryOp Operator.FloorDiv _ _) _ _ _) | (with_reducible show wpAny _ _ (binaryOp Operator.Pow _ _) _ _ _) | (with_reducible show wpAny _ _ (binaryOp Operator.Mod (Value.int _ _) (Value.int (_ * _) _)) _ _ _))); first | ((first | (with_reducible show wpAny _ _ _ _ _ _) | (with_reducible show Frag.In _ _ ∧ _) | (with_reducible show FnAt _ _) | (with_reducible show FnAt _ _ ∧ _)); walk1) | (dsimp only; (first | (with_reducible show wpAny _ _ _ _ _ _) | (with_reducible show Frag.In _ _ ∧ _) | (with_reducible show FnAt _ _) | (with_reducible show FnAt _ _ ∧ _)); (fail_if_success (first | walk_at "mine:halt" | (with_reducible show wpAny _ _ (binaryOp Operator.FloorDiv _ _) _ _ _) | (with_reducible show wpAny _ _ (binaryOp Operator.Pow _ _) _ _ _) | (with_reducible show wpAny _ _ (binaryOp Operator.Mod (Value.int _ _) (Value.int (_ * _) _)) _ _ _))); walk1)) | fail "no step"))
        rw [if_neg Bool.false_ne_true]
        (try dsimp only)
        (repeat' (first | ((fail_if_success (first | walk_at "mine:halt" | (with_reducible show wpAny _ _ (binaryOp Operator.FloorDiv _ _) _ _ _) | (with_reducible show wpAny _ _ (binaryOp Operator.Pow _ _) _ _ _) | (with_reducible show wpAny _ _ (binaryOp Operator.Mod (Value.int _ _) (Value.int (_ * _) _)) _ _ _))); first | ((first | (with_reducible show wpAny _ _ _ _ _ _) | (with_reducible show Frag.In _ _ ∧ _) | (with_reducible show FnAt _ _) | (with_reducible show FnAt _ _ ∧ _)); walk1) | (dsimp only; (first | (with_reducible show wpAny _ _ _ _ _ _) | (with_reducible show Frag.In _ _ ∧ _) | (with_reducible show FnAt _ _) | (with_reducible show FnAt _ _ ∧ _)); (fail_if_success (first | walk_at "mine:halt" | (with_reducible show wpAny _ _ (binaryOp Operator.FloorDiv _ _) _ _ _) | (with_reducible show wpAny _ _ (binaryOp Operator.Pow _ _) _ _ _) | (with_reducible show wpAny _ _ (binaryOp Operator.Mod (Value.int _ _) (Value.int (_ * _) _)) _ _ _))); walk1)) | fail "no step"))
        rw [if_neg Bool.false_ne_true]
        (try dsimp only)
        (repeat' (first | ((fail_if_success (first | walk_at "mine:halt" | (with_reducible show wpAny _ _ (binaryOp Operator.FloorDiv _ _) _ _ _) | (with_reducible show wpAny _ _ (binaryOp Operator.Pow _ _) _ _ _) | (with_reducible show wpAny _ _ (binaryOp Operator.Mod (Value.int _ _) (Value.int (_ * _) _)) _ _ _))); first | ((first | (with_reducible show wpAny _ _ _ _ _ _) | (with_reducible show Frag.In _ _ ∧ _) | (with_reducible show FnAt _ _) | (with_reducible show FnAt _ _ ∧ _)); walk1) | (dsimp only; (first | (with_reducible show wpAny _ _ _ _ _ _) | (with_reducible show Frag.In _ _ ∧ _) | (with_reducible show FnAt _ _) | (with_reducible show FnAt _ _ ∧ _)); (fail_if_success (first | walk_at "mine:halt" | (with_reducible show wpAny _ _ (binaryOp Operator.FloorDiv _ _) _ _ _) | (with_reducible show wpAny _ _ (binaryOp Operator.Pow _ _) _ _ _) | (with_reducible show wpAny _ _ (binaryOp Operator.Mod (Value.int _ _) (Value.int (_ * _) _)) _ _ _))); walk1)) | fail "no step"))
        rw [if_neg Bool.false_ne_true]
        (try dsimp only)
        (repeat' (first | ((fail_if_success (first | walk_at "mine:halt" | (with_reducible show wpAny _ _ (binaryOp Operator.FloorDiv _ _) _ _ _) | (with_reducible show wpAny _ _ (binaryOp Operator.Pow _ _) _ _ _) | (with_reducible show wpAny _ _ (binaryOp Operator.Mod (Value.int _ _) (Value.int (_ * _) _)) _ _ _))); first | ((first | (with_reducible show wpAny _ _ _ _ _ _) | (with_reducible show Frag.In _ _ ∧ _) | (with_reducible show FnAt _ _) | (with_reducible show FnAt _ _ ∧ _)); walk1) | (dsimp only; (first | (with_reducible show wpAny _ _ _ _ _ _) | (with_reducible show Frag.In _ _ ∧ _) | (with_reducible show FnAt _ _) | (with_reducible show FnAt _ _ ∧ _)); (fail_if_success (first | walk_at "mine:halt" | (with_reducible show wpAny _ _ (binaryOp Operator.FloorDiv _ _) _ _ _) | (with_reducible show wpAny _ _ (binaryOp Operator.Pow _ _) _ _ _) | (with_reducible show wpAny _ _ (binaryOp Operator.Mod (Value.int _ _) (Value.int (_ * _) _)) _ _ _))); walk1)) | fail "no step"))
        rename News _ _ _ _ => Nz
        rename Fr _ _ _ _ => Fz
        show UnrEnd _ _ _ _ _ _ _
        refine UnrEnd.intro3 Fz Nz [(D0, lo0), (30, tabObj #[rawInt 32, rawInt 4, .ref cA]), (cA, oA), (37, tabObj #[rawInt 47, rawInt 4, .ref cB]), (cB, oB)] ?_ ?_ ?_ ⟨?_, zs, _, _, _, _, _, _, hrest, fun e he => hub e (List.mem_cons_of_mem _ he), .inr ⟨cA, oA, cB, oB, rfl, hokA, hokB, ?_, ?_⟩, canon4 rfl rfl rfl rfl, rfl⟩
        · k_mem
        · k_subL
        · k_offL
        · k_mem
        · ((try simp only [AllNe, and_true]); (repeat' (first | exact True.intro | refine And.intro ?_ ?_)); all_goals k_ne)
        · ((try simp only [AllNe, and_true]); (repeat' (first | exact True.intro | refine And.intro ?_ ?_)); all_goals k_ne)
  · skip
    rintro m news h tk ⟨ups, tabs, tU, tS, tL, tC, u, hrest, hub, htabs, rfl, rfl⟩ F9 N9
    rcases htabs with ⟨_, h4⟩ | ⟨cA, oA, cB, oB, rfl, hokA, hokB, hd1, hd2⟩
    · cases h4
    simp only [AllNe, and_true] at hd1 hd2
    (try replace hd1 := Hid.mk hd1)
    (try replace hd2 := Hid.mk hd2)
    (try dsimp only)
    (repeat' (first | ((fail_if_success (first | walk_at "mine:halt" | (with_reducible show wpAny _ _ (binaryOp Operator.FloorDiv _ _) _ _ _) | (with_reducible show wpAny _ _ (binaryOp Operator.Pow _ _) _ _ _) | (with_reducible show wpAny _ _ (binaryOp Operator.Mod (Value.int _ _) (Value.int (_ * _) _)) _ _ _))); first | ((first | (with_reducible show wpAny _ _ _ _ _ _) | (with_reducible show Frag.In _ _ ∧ _) | (with_reducible show FnAt _ _) | (with_reducible show FnAt _ _ ∧ _)); walk1) | (dsimp only; (first | (with_reducible show wpAny _ _ _ _ _ _) | (with_reducible show Frag.In _ _ ∧ _) | (with_reducible show FnAt _ _) | (with_reducible show FnAt _ _ ∧ _)); (fail_if_success (first | walk_at "mine:halt" | (with_reducible show wpAny _ _ (binaryOp Operator.FloorDiv _ _) _ _ _) | (with_reducible show wpAny _ _ (binaryOp Operator.Pow _ _) _ _ _) | (with_reducible show wpAny _ _ (binaryOp Operator.Mod (Value.int _ _) (Value.int (_ * _) _)) _ _ _))); walk1)) | fail "no step"))
    refine mulI (by omega) fun _ _ => ?_
    (try dsimp only)
    (repeat' (first | ((fail_if_success (first | walk_at "mine:halt" | (with_reducible show wpAny _ _ (binaryOp Operator.FloorDiv _ _) _ _ _) | (with_reducible show wpAny _ _ (binaryOp Operator.Pow _ _) _ _ _) | (with_reducible show wpAny _ _ (binaryOp Operator.Mod (Value.int _ _) (Value.int (_ * _) _)) _ _ _))); first | ((first | (with_reducible show wpAny _ _ _ _ _ _) | (with_reducible show Frag.In _ _ ∧ _) | (with_reducible show FnAt _ _) | (with_reducible show FnAt _ _ ∧ _)); walk1) | (dsimp only; (first | (with_reducible show wpAny _ _ _ _ _ _) | (with_reducible show Frag.In _ _ ∧ _) | (with_reducible show FnAt _ _) | (with_reducible show FnAt _ _ ∧ _)); (fail_if_success (first | walk_at "mine:halt" | (with_reducible show wpAny _ _ (binaryOp Operator.FloorDiv _ _) _ _ _) | (with_reducible show wpAny _ _ (binaryOp Operator.Pow _ _) _ _ _) | (with_reducible show wpAny _ _ (binaryOp Operator.Mod (Value.int _ _) (Value.int (_ * _) _)) _ _ _))); walk1)) | fail "no step"))
    refine mulI (by omega) fun _ _ => ?_
    (try dsimp only)
    (repeat' (first | ((fail_if_success (first | walk_at "mine:halt" | (with_reducible show wpAny _ _ (binaryOp Operator.FloorDiv _ _) _ _ _) | (with_reducible show wpAny _ _ (binaryOp Operator.Pow _ _) _ _ _) | (with_reducible show wpAny _ _ (binaryOp Operator.Mod (Value.int _ _) (Value.int (_ * _) _)) _ _ _))); first | ((first | (with_reducible show wpAny _ _ _ _ _ _) | (with_reducible show Frag.In _ _ ∧ _) | (with_reducible show FnAt _ _) | (with_reducible show FnAt _ _ ∧ _)); walk1) | (dsimp only; (first | (with_reducible show wpAny _ _ _ _ _ _) | (with_reducible show Frag.In _ _ ∧ _) | (with_reducible show FnAt _ _) | (with_reducible show FnAt _ _ ∧ _)); (fail_if_success (first | walk_at "mine:halt" | (with_reducible show wpAny _ _ (binaryOp Operator.FloorDiv _ _) _ _ _) | (with_reducible show wpAny _ _ (binaryOp Operator.Pow _ _) _ _ _) | (with_reducible show wpAny _ _ (binaryOp Operator.Mod (Value.int _ _) (Value.int (_ * _) _)) _ _ _))); walk1)) | fail "no step"))
    refine (law_measure _ small large U _ _ hU1 (by omega) hs3 [(30, tabObj #[rawInt 32, rawInt 4, .ref cA]), (cA, oA), (37, tabObj #[rawInt 47, rawInt 4, .ref cB]), (cB, oB)]
      ⟨cA, oA, cB, oB, rfl, hokA, hokB, ⟨hd1.1, hd1.2.1, hd1.2.2.1, trivial⟩, ⟨hd2.1, hd2.2.1, trivial⟩⟩).at [] B F9 X N9 (by k_subL) (ApartL_nil _) T C1 C2 rfl (Nat.le_of_ble_eq_true rfl) (Nat.le_of_ble_eq_true rfl) ?_
    clear F9 N9 hokA hokB hd1 hd2
    rintro r2 post h' tk' F' N' D' ⟨tg, rfl, cA, oA, cB, oB, rfl, hokA, hokB, hd1, hd2⟩
    simp only [List.cons_append, List.nil_append, List.append_nil] at N'
    simp only [AllNe, and_true] at hd1 hd2
    (try replace hd1 := Hid.mk hd1)
    (try replace hd2 := Hid.mk hd2)
    (try dsimp only)
    (repeat' (first | ((fail_if_success (first | walk_at "mine:halt" | (with_reducible show wpAny _ _ (binaryOp Operator.FloorDiv _ _) _ _ _) | (with_reducible show wpAny _ _ (binaryOp Operator.Pow _ _) _ _ _) | (with_reducible show wpAny _ _ (binaryOp Operator.Mod (Value.int _ _) (Value.int (_ * _) _)) _ _ _))); first | ((first | (with_reducible show wpAny _ _ _ _ _ _) | (with_reducible show Frag.In _ _ ∧ _) | (with_reducible show FnAt _ _) | (with_reducible show FnAt _ _ ∧ _)); walk1) | (dsimp only; (first | (with_reducible show wpAny _ _ _ _ _ _) | (with_reducible show Frag.In _ _ ∧ _) | (with_reducible show FnAt _ _) | (with_reducible show FnAt _ _ ∧ _)); (fail_if_success (first | walk_at "mine:halt" | (with_reducible show wpAny _ _ (binaryOp Operator.FloorDiv _ _) _ _ _) | (with_reducible show wpAny _ _ (binaryOp Operator.Pow _ _) _ _ _) | (with_reducible show wpAny _ _ (binaryOp Operator.Mod (Value.int _ _) (Value.int (_ * _) _)) _ _ _))); walk1)) | fail "no step"))
    generalize hgg : (measGo 8 (small, large)).1 = gg at *
    have hgU : ((gg : Int) * U).fdiv U = (gg : Int) := by
      have := scale_fdiv (a := (gg : Int)) (b := 1) (by decide) hU1.ne
      rwa [Int.one_mul, Int.ediv_one] at this
    refine floordiv_int hU1.ne ?_ (.inl (PyProof.noPylong_of_log2 (log2_of_bits hU1.ne (Nat.le_trans hU1.2 (by decide)))))
    rw [hgU]
    (try dsimp only)
    (repeat' (first | ((fail_if_success (first | walk_at "mine:halt" | (with_reducible show wpAny _ _ (binaryOp Operator.FloorDiv _ _) _ _ _) | (with_reducible show wpAny _ _ (binaryOp Operator.Pow _ _) _ _ _) | (with_reducible show wpAny _ _ (binaryOp Operator.Mod (Value.int _ _) (Value.int (_ * _) _)) _ _ _))); first | ((first | (with_reducible show wpAny _ _ _ _ _ _) | (with_reducible show Frag.In _ _ ∧ _) | (with_reducible show FnAt _ _) | (with_reducible show FnAt _ _ ∧ _)); walk1) | (dsimp only; (first | (with_reducible show wpAny _ _ _ _ _ _) | (with_reducible show Frag.In _ _ ∧ _) | (with_reducible show FnAt _ _) | (with_reducible show FnAt _ _ ∧ _)); (fail_if_success (first | walk_at "mine:halt" | (with_reducible show wpAny _ _ (binaryOp Operator.FloorDiv _ _) _ _ _) | (with_reducible show wpAny _ _ (binaryOp Operator.Pow _ _) _ _ _) | (with_reducible show wpAny _ _ (binaryOp Operator.Mod (Value.int _ _) (Value.int (_ * _) _)) _ _ _))); walk1)) | fail "no step"))
    rename Fr _ _ _ _ => Fz
    rename News _ _ _ _ => Nz
    rename_i P0 h10 l10
    refine (law_row _ count _ [small, large] P0 0 _ (.cons _ _ (.cons _ _ .nil)) hc2 (fun p hp => by simp only [List.mem_cons, List.not_mem_nil, or_false] at hp; omega)).at [(30, tabObj #[rawInt 32, rawInt 4, .ref cA]), (cA, oA), (37, tabObj #[rawInt 47, rawInt 4, .ref cB]), (cB, oB)]
      B Fz X Nz (by k_subL) (by ((try simp only [List.cons_append, List.nil_append, ApartL, AllNe, and_true]); (repeat' (first | exact True.intro | refine And.intro ?_ ?_)); all_goals k_ne)) T C1 C2 rfl (Nat.le_of_ble_eq_true rfl) (Nat.le_of_ble_eq_true rfl) ?_
    clear Fz Nz
    rintro r post h' tk' F' N' D' ⟨xr, rv, er, rfl, rfl, hrow, hxr⟩
    simp only [List.cons_append, List.nil_append] at N'
    simp only [ApartL, AllNe, and_true, and_assoc] at D'
    (try replace D' := Hid.mk D')
    have hrl : (rowAll count [small, large] (rowStart count)).length = count := by rw [rowAll_length]; simp [rowStart]
    generalize hrw : rowAll count [small, large] (rowStart count) = row at *
    (try dsimp only)
    (repeat' (first | ((fail_if_success (first | walk_at "mine:halt" | (with_reducible show wpAny _ _ (binaryOp Operator.FloorDiv _ _) _ _ _) | (with_reducible show wpAny _ _ (binaryOp Operator.Pow _ _) _ _ _) | (with_reducible show wpAny _ _ (binaryOp Operator.Mod (Value.int _ _) (Value.int (_ * _) _)) _ _ _))); first | ((first | (with_reducible show wpAny _ _ _ _ _ _) | (with_reducible show Frag.In _ _ ∧ _) | (with_reducible show FnAt _ _) | (with_reducible show FnAt _ _ ∧ _)); walk1) | (dsimp only; (first | (with_reducible show wpAny _ _ _ _ _ _) | (with_reducible show Frag.In _ _ ∧ _) | (with_reducible show FnAt _ _) | (with_reducible show FnAt _ _ ∧ _)); (fail_if_success (first | walk_at "mine:halt" | (with_reducible show wpAny _ _ (binaryOp Operator.FloorDiv _ _) _ _ _) | (with_reducible show wpAny _ _ (binaryOp Operator.Pow _ _) _ _ _) | (with_reducible show wpAny _ _ (binaryOp Operator.Mod (Value.int _ _) (Value.int (_ * _) _)) _ _ _))); walk1)) | fail "no step"))
    rename Fr _ _ _ _ => Fz
    rename News _ _ _ _ => Nz
    refine ite_int (if large ≥ count then min (small : Int) count else max ((small : Int) + large - count) gg) Fz Nz ?_ ?_ ?_
    · intro hc
      have hc' : large ≥ count := by simpa using hc
      rw [if_pos hc']
      (repeat' (first | ((fail_if_success (first | walk_at "mine:halt" | (with_reducible show wpAny _ _ (binaryOp Operator.FloorDiv _ _) _ _ _) | (with_reducible show wpAny _ _ (binaryOp Operator.Pow _ _) _ _ _) | (with_reducible show wpAny _ _ (binaryOp Operator.Mod (Value.int _ _) (Value.int (_ * _) _)) _ _ _))); first | ((first | (with_reducible show wpAny _ _ _ _ _ _) | (with_reducible show Frag.In _ _ ∧ _) | (with_reducible show FnAt _ _) | (with_reducible show FnAt _ _ ∧ _)); walk1) | (dsimp only; (first | (with_reducible show wpAny _ _ _ _ _ _) | (with_reducible show Frag.In _ _ ∧ _) | (with_reducible show FnAt _ _) | (with_reducible show FnAt _ _ ∧ _)); (fail_if_success (first | walk_at "mine:halt" | (with_reducible show wpAny _ _ (binaryOp Operator.FloorDiv _ _) _ _ _) | (with_reducible show wpAny _ _ (binaryOp Operator.Pow _ _) _ _ _) | (with_reducible show wpAny _ _ (binaryOp Operator.Mod (Value.int _ _) (Value.int (_ * _) _)) _ _ _))); walk1)) | fail "no step"))
      rename Fr _ _ _ _ => Fy
      rename News _ _ _ _ => Ny
      refine ⟨_, _, _, congrArg (fun z => Value.int z _) ?_, rfl, Fy, Ny⟩
      split <;> omega
    · intro hc
      have hc' : ¬ large ≥ count := by simpa using hc
      rw [if_neg hc']
      (repeat' (first | ((fail_if_success (first | walk_at "mine:halt" | (with_reducible show wpAny _ _ (binaryOp Operator.FloorDiv _ _) _ _ _) | (with_reducible show wpAny _ _ (binaryOp Operator.Pow _ _) _ _ _) | (with_reducible show wpAny _ _ (binaryOp Operator.Mod (Value.int _ _) (Value.int (_ * _) _)) _ _ _))); first | ((first | (with_reducible show wpAny _ _ _ _ _ _) | (with_reducible show Frag.In _ _ ∧ _) | (with_reducible show FnAt _ _) | (with_reducible show FnAt _ _ ∧ _)); walk1) | (dsimp only; (first | (with_reducible show wpAny _ _ _ _ _ _) | (with_reducible show Frag.In _ _ ∧ _) | (with_reducible show FnAt _ _) | (with_reducible show FnAt _ _ ∧ _)); (fail_if_success (first | walk_at "mine:halt" | (with_reducible show wpAny _ _ (binaryOp Operator.FloorDiv _ _) _ _ _) | (with_reducible show wpAny _ _ (binaryOp Operator.Pow _ _) _ _ _) | (with_reducible show wpAny _ _ (binaryOp Operator.Mod (Value.int _ _) (Value.int (_ * _) _)) _ _ _))); walk1)) | fail "no step"))
      rename Fr _ _ _ _ => Fy
      rename News _ _ _ _ => Ny
      refine ⟨_, _, _, congrArg (fun z => Value.int z _) ?_, rfl, Fy, Ny⟩
      split <;> omega
    clear Fz Nz
    intro h' tk t Fz Nz
    obtain ⟨hf1, hf2, hf3, hf4, hf5⟩ := law2_facts hs1 hs2 hs3 hc1 hc2 hgg hrw
    generalize hsg : (if large ≥ count then min (small : Int) count else max ((small : Int) + large - count) gg) = sg at *
    (try dsimp only)
    (repeat' (first | ((fail_if_success (first | walk_at "mine:halt" | (with_reducible show wpAny _ _ (binaryOp Operator.FloorDiv _ _) _ _ _) | (with_reducible show wpAny _ _ (binaryOp Operator.Pow _ _) _ _ _) | (with_reducible show wpAny _ _ (binaryOp Operator.Mod (Value.int _ _) (Value.int (_ * _) _)) _ _ _))); first | ((first | (with_reducible show wpAny _ _ _ _ _ _) | (with_reducible show Frag.In _ _ ∧ _) | (with_reducible show FnAt _ _) | (with_reducible show FnAt _ _ ∧ _)); walk1) | (dsimp only; (first | (with_reducible show wpAny _ _ _ _ _ _) | (with_reducible show Frag.In _ _ ∧ _) | (with_reducible show FnAt _ _) | (with_reducible show FnAt _ _ ∧ _)); (fail_if_success (first | walk_at "mine:halt" | (with_reducible show wpAny _ _ (binaryOp Operator.FloorDiv _ _) _ _ _) | (with_reducible show wpAny _ _ (binaryOp Operator.Pow _ _) _ _ _) | (with_reducible show wpAny _ _ (binaryOp Operator.Mod (Value.int _ _) (Value.int (_ * _) _)) _ _ _))); walk1)) | fail "no step"))
    refine wpAny_execs_cons ?_
    (repeat' (first | ((fail_if_success (first | walk_at "mine:halt" | (with_reducible show wpAny _ _ (binaryOp Operator.FloorDiv _ _) _ _ _) | (with_reducible show wpAny _ _ (binaryOp Operator.Pow _ _) _ _ _) | (with_reducible show wpAny _ _ (binaryOp Operator.Mod (Value.int _ _) (Value.int (_ * _) _)) _ _ _))); first | ((first | (with_reducible show wpAny _ _ _ _ _ _) | (with_reducible show Frag.In _ _ ∧ _) | (with_reducible show FnAt _ _) | (with_reducible show FnAt _ _ ∧ _)); walk1) | (dsimp only; (first | (with_reducible show wpAny _ _ _ _ _ _) | (with_reducible show Frag.In _ _ ∧ _) | (with_reducible show FnAt _ _) | (with_reducible show FnAt _ _ ∧ _)); (fail_if_success (first | walk_at "mine:halt" | (with_reducible show wpAny _ _ (binaryOp Operator.FloorDiv _ _) _ _ _) | (with_reducible show wpAny _ _ (binaryOp Operator.Pow _ _) _ _ _) | (with_reducible show wpAny _ _ (binaryOp Operator.Mod (Value.int _ _) (Value.int (_ * _) _)) _ _ _))); walk1)) | fail "no step"))
    rename Fr _ _ _ _ => Fz
    rename News _ _ _ _ => Nz
    refine set_made Fz Nz rfl (News.isList Nz (by k_mem)) hrow (by omega) ?_
    clear Fz Nz
    intro D1 h' tk o lD Fz Nz hso hle
    k_lt lD
    (try dsimp only)
    (repeat' (first | ((fail_if_success (first | walk_at "mine:halt" | (with_reducible show wpAny _ _ (binaryOp Operator.FloorDiv _ _) _ _ _) | (with_reducible show wpAny _ _ (binaryOp Operator.Pow _ _) _ _ _) | (with_reducible show wpAny _ _ (binaryOp Operator.Mod (Value.int _ _) (Value.int (_ * _) _)) _ _ _))); first | ((first | (with_reducible show wpAny _ _ _ _ _ _) | (with_reducible show Frag.In _ _ ∧ _) | (with_reducible show FnAt _ _) | (with_reducible show FnAt _ _ ∧ _)); walk1) | (dsimp only; (first | (with_reducible show wpAny _ _ _ _ _ _) | (with_reducible show Frag.In _ _ ∧ _) | (with_reducible show FnAt _ _) | (with_reducible show FnAt _ _ ∧ _)); (fail_if_success (first | walk_at "mine:halt" | (with_reducible show wpAny _ _ (binaryOp Operator.FloorDiv _ _) _ _ _) | (with_reducible show wpAny _ _ (binaryOp Operator.Pow _ _) _ _ _) | (with_reducible show wpAny _ _ (binaryOp Operator.Mod (Value.int _ _) (Value.int (_ * _) _)) _ _ _))); walk1)) | fail "no step"))
    rw [hf4]
    rw [if_neg (by simp)]
    (try dsimp only)
    (repeat' (first | ((fail_if_success (first | walk_at "mine:halt" | (with_reducible show wpAny _ _ (binaryOp Operator.FloorDiv _ _) _ _ _) | (with_reducible show wpAny _ _ (binaryOp Operator.Pow _ _) _ _ _) | (with_reducible show wpAny _ _ (binaryOp Operator.Mod (Value.int _ _) (Value.int (_ * _) _)) _ _ _))); first | ((first | (with_reducible show wpAny _ _ _ _ _ _) | (with_reducible show Frag.In _ _ ∧ _) | (with_reducible show FnAt _ _) | (with_reducible show FnAt _ _ ∧ _)); walk1) | (dsimp only; (first | (with_reducible show wpAny _ _ _ _ _ _) | (with_reducible show Frag.In _ _ ∧ _) | (with_reducible show FnAt _ _) | (with_reducible show FnAt _ _ ∧ _)); (fail_if_success (first | walk_at "mine:halt" | (with_reducible show wpAny _ _ (binaryOp Operator.FloorDiv _ _) _ _ _) | (with_reducible show wpAny _ _ (binaryOp Operator.Pow _ _) _ _ _) | (with_reducible show wpAny _ _ (binaryOp Operator.Mod (Value.int _ _) (Value.int (_ * _) _)) _ _ _))); walk1)) | fail "no step"))
    refine (overlap _ row rv xr er (by omega) hrow).at [(30, tabObj #[rawInt 32, rawInt 4, .ref cA]), (cA, oA), (37, tabObj #[rawInt 47, rawInt 4, .ref cB]), (cB, oB)]
      B (by assumption) X (by assumption) (by k_subL) (by (((try simp only [List.cons_append, List.nil_append, ApartL, AllNe, and_true]); (repeat' (first | exact True.intro | refine And.intro ?_ ?_)); all_goals k_ne))) T C1 C2 rfl (Nat.le_of_ble_eq_true rfl) (Nat.le_of_ble_eq_true rfl) ?_
    clear Fz Nz hso hle
    rintro r post h' tk' F' N' D' ⟨xt, tv, et2, rfl, rfl, hT, hxt⟩
    simp only [List.cons_append, List.nil_append] at N'
    simp only [ApartL, AllNe, and_true, and_assoc] at D'
    (try replace D' := Hid.mk D')
    have hTl := ovTab_length row row.length
    have hTle := ovTab_le row row.length
    rw [hrl] at hT hTl hTle
    (try dsimp only)
    (repeat' (first | ((fail_if_success (first | walk_at "mine:halt" | (with_reducible show wpAny _ _ (binaryOp Operator.FloorDiv _ _) _ _ _) | (with_reducible show wpAny _ _ (binaryOp Operator.Pow _ _) _ _ _) | (with_reducible show wpAny _ _ (binaryOp Operator.Mod (Value.int _ _) (Value.int (_ * _) _)) _ _ _))); first | ((first | (with_reducible show wpAny _ _ _ _ _ _) | (with_reducible show Frag.In _ _ ∧ _) | (with_reducible show FnAt _ _) | (with_reducible show FnAt _ _ ∧ _)); walk1) | (dsimp only; (first | (with_reducible show wpAny _ _ _ _ _ _) | (with_reducible show Frag.In _ _ ∧ _) | (with_reducible show FnAt _ _) | (with_reducible show FnAt _ _ ∧ _)); (fail_if_success (first | walk_at "mine:halt" | (with_reducible show wpAny _ _ (binaryOp Operator.FloorDiv _ _) _ _ _) | (with_reducible show wpAny _ _ (binaryOp Operator.Pow _ _) _ _ _) | (with_reducible show wpAny _ _ (binaryOp Operator.Mod (Value.int _ _) (Value.int (_ * _) _)) _ _ _))); walk1)) | fail "no step"))
    refine (law_chain _ (ovTab row count) tv xt et2 hT hTle (by omega) (by omega)).at [(30, tabObj #[rawInt 32, rawInt 4, .ref cA]), (cA, oA), (37, tabObj #[rawInt 47, rawInt 4, .ref cB]), (cB, oB)]
      B (by assumption) X (by assumption) (by k_subL) (by (((try simp only [List.cons_append, List.nil_append, ApartL, AllNe, and_true]); (repeat' (first | exact True.intro | refine And.intro ?_ ?_)); all_goals k_ne))) T C1 C2 rfl (Nat.le_of_ble_eq_true rfl) (Nat.le_of_ble_eq_true rfl) ?_
    clear F' N' D'
    rintro r post h' tk' F' N' D' ⟨xc, cv2, et3, rfl, rfl, hC, hxc⟩
    simp only [List.cons_append, List.nil_append] at N'
    simp only [ApartL, AllNe, and_true, and_assoc] at D'
    (try replace D' := Hid.mk D')
    (try dsimp only)
    (repeat' (first | ((fail_if_success (first | walk_at "mine:halt" | (with_reducible show wpAny _ _ (binaryOp Operator.FloorDiv _ _) _ _ _) | (with_reducible show wpAny _ _ (binaryOp Operator.Pow _ _) _ _ _) | (with_reducible show wpAny _ _ (binaryOp Operator.Mod (Value.int _ _) (Value.int (_ * _) _)) _ _ _))); first | ((first | (with_reducible show wpAny _ _ _ _ _ _) | (with_reducible show Frag.In _ _ ∧ _) | (with_reducible show FnAt _ _) | (with_reducible show FnAt _ _ ∧ _)); walk1) | (dsimp only; (first | (with_reducible show wpAny _ _ _ _ _ _) | (with_reducible show Frag.In _ _ ∧ _) | (with_reducible show FnAt _ _) | (with_reducible show FnAt _ _ ∧ _)); (fail_if_success (first | walk_at "mine:halt" | (with_reducible show wpAny _ _ (binaryOp Operator.FloorDiv _ _) _ _ _) | (with_reducible show wpAny _ _ (binaryOp Operator.Pow _ _) _ _ _) | (with_reducible show wpAny _ _ (binaryOp Operator.Mod (Value.int _ _) (Value.int (_ * _) _)) _ _ _))); walk1)) | fail "no step"))
    refine (law_borders _ count small large gg U _ _ _ _ _ hU1 hc2 (by omega) hs3 hf1 hf2 hf3 [(30, tabObj #[rawInt 32, rawInt 4, .ref cA]), (cA, oA), (37, tabObj #[rawInt 47, rawInt 4, .ref cB]), (cB, oB)]
      ⟨cA, oA, cB, oB, rfl, hokA, hokB, ⟨hd1.1, hd1.2.1, hd1.2.2, trivial⟩, ⟨hd2.1, hd2.2, trivial⟩⟩).at [(xc, listOf cv2.toArray et3)]
      B (by assumption) X (by assumption) (by k_subL) (by (((try simp only [List.cons_append, List.nil_append, ApartL, AllNe, and_true]); (repeat' (first | exact True.intro | refine And.intro ?_ ?_)); all_goals k_ne))) T C1 C2 rfl (Nat.le_of_ble_eq_true rfl) (Nat.le_of_ble_eq_true rfl) ?_
    clear F' N'
    rintro r post h' tk' F' N' D2 ⟨xb, bv, et4, lb, rfl, rfl, hB, htb, hxb⟩
    simp only [List.cons_append] at N'
    have Nw := news_sub (b := [(xb, listOf bv.toArray et4), (xc, listOf cv2.toArray et3)]) N' (SubL_of fun p hp => by
      simp only [List.mem_cons, List.not_mem_nil, or_false] at hp
      rcases hp with rfl | rfl
      · exact List.mem_cons_self ..
      · exact List.mem_cons_of_mem _ (List.mem_append_right _ (List.mem_cons_self ..)))
    obtain ⟨cA3, oA3, cB3, oB3, elb, _, _, _, _⟩ := htb
    have hG : GrownAll [(41, 37), (34, 30)] h' := by
      rw [elb] at N'
      exact ⟨GrownAt.of N' (by k_mem), GrownAt.of N' (by k_mem), trivial⟩
    clear N'
    rw [← hf5] at hB
    (try dsimp only)
    (repeat' (first | ((fail_if_success (first | walk_at "mine:halt" | (with_reducible show wpAny _ _ (binaryOp Operator.FloorDiv _ _) _ _ _) | (with_reducible show wpAny _ _ (binaryOp Operator.Pow _ _) _ _ _) | (with_reducible show wpAny _ _ (binaryOp Operator.Mod (Value.int _ _) (Value.int (_ * _) _)) _ _ _))); first | ((first | (with_reducible show wpAny _ _ _ _ _ _) | (with_reducible show Frag.In _ _ ∧ _) | (with_reducible show FnAt _ _) | (with_reducible show FnAt _ _ ∧ _)); walk1) | (dsimp only; (first | (with_reducible show wpAny _ _ _ _ _ _) | (with_reducible show Frag.In _ _ ∧ _) | (with_reducible show FnAt _ _) | (with_reducible show FnAt _ _ ∧ _)); (fail_if_success (first | walk_at "mine:halt" | (with_reducible show wpAny _ _ (binaryOp Operator.FloorDiv _ _) _ _ _) | (with_reducible show wpAny _ _ (binaryOp Operator.Pow _ _) _ _ _) | (with_reducible show wpAny _ _ (binaryOp Operator.Mod (Value.int _ _) (Value.int (_ * _) _)) _ _ _))); walk1)) | fail "no step"))
    exact hQ _ _ _ F' hG
  · skip
    subst evs
    refine ⟨[_, _, _, _], _, _, _, _, _, _, .cons _ _ (.cons _ _ (.cons _ _ (.cons _ _ .nil))), ?_, .inl ⟨rfl, rfl⟩, canon4 rfl rfl rfl rfl, rfl⟩
    have hcc := bits_small (v := count) (by omega)
    have hcn : Builtin.Int.intBits (-(count : Int)) ≤ 8 := by rw [bits_neg']; exact hcc
    have hcx := bits_add _ _ 8500 (Nat.le_trans hb2 (by omega)) (Nat.le_trans hcc (by omega))
    have hcy := bits_add (count : Int) (-((large : Int) * U * U)) 8500 (Nat.le_trans hcc (by omega)) (by rw [bits_neg']; exact (Nat.le_trans hb2 (by omega)))
    rw [← Int.sub_eq_add_neg] at hcy
    intro z hz
    simp only [List.mem_cons, List.not_mem_nil, or_false] at hz
    rcases hz with rfl | rfl | rfl | rfl <;> omega
theorem body2 : PySem.Challenge.rw_rl0044_02.Holds := hd (by
  k_go0
  (all_goals try k_fold)
  (repeat' (first | ((fail_if_success (first | walk_at "mine:halt" | (with_reducible show wpAny _ _ (binaryOp Operator.FloorDiv _ _) _ _ _) | (with_reducible show wpAny _ _ (binaryOp Operator.Pow _ _) _ _ _) | (with_reducible show wpAny _ _ (binaryOp Operator.Mod (Value.int _ _) (Value.int (_ * _) _)) _ _ _))); first | ((first | (with_reducible show wpAny _ _ _ _ _ _) | (with_reducible show Frag.In _ _ ∧ _) | (with_reducible show FnAt _ _) | (with_reducible show FnAt _ _ ∧ _)); walk1) | (dsimp only; (first | (with_reducible show wpAny _ _ _ _ _ _) | (with_reducible show Frag.In _ _ ∧ _) | (with_reducible show FnAt _ _) | (with_reducible show FnAt _ _ ∧ _)); (fail_if_success (first | walk_at "mine:halt" | (with_reducible show wpAny _ _ (binaryOp Operator.FloorDiv _ _) _ _ _) | (with_reducible show wpAny _ _ (binaryOp Operator.Pow _ _) _ _ _) | (with_reducible show wpAny _ _ (binaryOp Operator.Mod (Value.int _ _) (Value.int (_ * _) _)) _ _ _))); walk1)) | fail "no step"))
  rename Fr _ _ _ _ => F
  rename News _ _ _ _ => N
  rename Below _ _ _ _ => B
  rename Frag.In _ _ => X
  rename Top topProg _ _ _ _ _ => T
  rename CodeHd _ ((34 : Nat), (30 : Nat)).1 _ => C2
  rename CodeHd _ ((41 : Nat), (37 : Nat)).1 _ => C1
  rename IntsAre _ _ => hI
  rename (¬ (_ : Int) < ((_ : List Int).length : Int)) => hlen
  refine (law_cells _ _ _ _ hI (by omega)).use B F X N lifted T C1 C2 rfl (by decide) (by decide) ?_
  clear F N
  rintro r post h' tk' F N D ⟨x, cv, et, ns, rfl, rfl, hcv, hnl, hns⟩
  simp only [List.cons_append, List.nil_append] at N
  simp only [ApartL, AllNe, and_true] at D
  (try replace D := Hid.mk D)
  (try dsimp only)
  (repeat' (first | ((fail_if_success (with_reducible show wpAny _ _ (execs (Stmt.Assign [PySem.Expr.Tuple _ _ _] _ _ :: _) _) _ _ _)); (fail_if_success (first | walk_at "mine:halt" | (with_reducible show wpAny _ _ (binaryOp Operator.FloorDiv _ _) _ _ _) | (with_reducible show wpAny _ _ (binaryOp Operator.Pow _ _) _ _ _) | (with_reducible show wpAny _ _ (binaryOp Operator.Mod (Value.int _ _) (Value.int (_ * _) _)) _ _ _))); first | ((first | (with_reducible show wpAny _ _ _ _ _ _) | (with_reducible show Frag.In _ _ ∧ _) | (with_reducible show FnAt _ _) | (with_reducible show FnAt _ _ ∧ _)); walk1) | (dsimp only; (first | (with_reducible show wpAny _ _ _ _ _ _) | (with_reducible show Frag.In _ _ ∧ _) | (with_reducible show FnAt _ _) | (with_reducible show FnAt _ _ ∧ _)); (fail_if_success (with_reducible show wpAny _ _ (execs (Stmt.Assign [PySem.Expr.Tuple _ _ _] _ _ :: _) _) _ _ _)); (fail_if_success (first | walk_at "mine:halt" | (with_reducible show wpAny _ _ (binaryOp Operator.FloorDiv _ _) _ _ _) | (with_reducible show wpAny _ _ (binaryOp Operator.Pow _ _) _ _ _) | (with_reducible show wpAny _ _ (binaryOp Operator.Mod (Value.int _ _) (Value.int (_ * _) _)) _ _ _))); walk1)) | fail "no step"))
  rename Fr _ _ _ _ => F
  rename News _ _ _ _ => N
  refine wpAny_mono (tailB _ _ _ _ _ _ _ _ _ _ _ _ x cv et ns _ hcv hnl hns D (Fr.congr F (canon1 rfl)) N B X T C1 C2 ?_) (fun _ _ z => z) (fun _ _ z => z.elim)
  intro h tk m F' hG
  refine ⟨goodW_bool F' (by with_reducible assumption) (raisesW_false ?_) ?_, hG⟩
  · wrow_none_raised
  exact post_true _)

end
end Mine
set_option maxHeartbeats 4000000 in
theorem PySem.Challenge.cw_rl0044_02_holds : PySem.Challenge.rw_rl0044_02.Holds := by
  exact Mine.body2
