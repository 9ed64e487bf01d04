import PyProof.Rows.All
import Wide.All
import OpenK.AllK
import Wide.FinOn
import PySem.Challenge.RW_rl0044_01
open PySem PySem.W PySem.Calls PyProof.Rows
set_option Elab.async false
set_option maxRecDepth 100000
set_option compiler.extract_closed false
set_option linter.unusedVariables false
set_option linter.unusedSimpArgs false
namespace Mine

/-- a fact kept out of omega's sight -/
noncomputable def Hid (q : Prop) : Prop := q
theorem Hid.mk {q : Prop} (h : q) : Hid q := h
theorem Hid.out {q : Prop} (h : Hid q) : q := h

/-- a smaller room serves where a greater one does -/
theorem wp_room {α : Type} {M : Model} {A A' : Around} {t : Sem α} {Q : α → Shared → Prop} {E : Value → Shared → Prop} {s : Shared}
    (h1 : A.handled = A'.handled) (h2 : A.depth ≤ A'.depth) (h3 : A.frames = A'.frames) (h4 : A.guards = A'.guards) (h5 : A.units ≤ A'.units)
    (h : wpAny M A' t Q E s) : wpAny M A t Q E s := fun Γ p ⟨a, b, c, d, e⟩ =>
  h Γ p ⟨a.trans h1, Nat.le_trans b h2, fun l hl => c l (h3.trans hl), fun g hg => d g (h4.trans hg), Nat.le_trans e h5⟩

/-- what is to hold at the end, under one letter -/
theorem hideQ {α : Type} {M : Model} {A : Around} {t : Sem α} {Q : α → Shared → Prop} {E : Value → Shared → Prop} {s : Shared} (h : ∀ Q' : α → Shared → Prop, Q' = Q → wpAny M A t Q' E s) : wpAny M A t Q E s := h Q rfl

/-- what a def gives back, whoever calls it: `pre` is what it may see and turn, `rest` what it leaves alone -/
noncomputable def Spec (prog : Program) (w : World) (K : Frag) (dp un : Nat) (f : Addr) (vs : List Value) (pre : List (Addr × Obj)) (Post : Value → List (Addr × Obj) → Prop) : Prop :=
  ∀ (p : Program) (loose : List Str) (mean : ExcName → Option Value) (mg mb : Str → Option Value) (gd : Option (List Code)) (cn : Str) (cs : Scope) (a : Addr) (ccd : Value) (cl : List (Str × Addr)) (outer : List Env)
    (A₀ : Around) (base h₀ : Heap) (L : Addr) (m : Str → Option Value) (rest : List (Addr × Obj)) (s : Shared) (Q E : Value → Shared → Prop),
    Below A₀ base outer h₀ → Fr h₀ L s.heap m → K.In h₀ → News h₀ L s.heap (pre ++ rest) → (∀ q ∈ pre, ∀ r ∈ rest, q.1 ≠ r.1) → Top p loose mean mg mb h₀ → CodeHd base 41 37 → CodeHd base 34 30 → cs.kind = .function →
    (∀ r post h' tk', Fr h₀ L h' m → News h₀ L h' (post ++ rest) → (∀ q ∈ post, ∀ r ∈ rest, q.1 ≠ r.1) → Post r post → Q r { s with heap := h', toks := tk' }) →
    wpAny (model prog w) (ktrTop dp un gd cn cs L a ccd cl outer) (call (.ref f) vs) Q E s

/-- the value that a flow hands back -/
abbrev retOf (fl : Flow) : Value := match fl with | .ret v => v | _ => .none

/-- what stands at a body's end -/
noncomputable def Done (s : Shared) (g : Heap) (Post : Value → List (Addr × Obj) → Prop) (fl : Flow) (s' : Shared) : Prop :=
  ∃ L' m' post, Fr g L' s'.heap m' ∧ News g L' s'.heap post ∧ Post (retOf fl) post ∧ ∃ h' tk', s' = { s with heap := h', toks := tk' }

section
variable {prog : Program} {w : World} {K : Frag} {dp un : Nat} {f : Addr} {vs : List Value} {pre : List (Addr × Obj)} {Post : Value → List (Addr × Obj) → Prop}
  {name qual : Str} {params : Arguments} {body : List Stmt} {scope : Scope} {dV kV doc pm cdv ct oc : Value} {an od : Option Addr} {osl : Array (Option Value)} {binds : List (Str × Value)}

theorem Spec.mono {dp' un' : Nat} {Post' : Value → List (Addr × Obj) → Prop} (h : Spec prog w K dp' un' f vs pre Post') (h1 : dp ≤ dp') (h2 : un ≤ un') (hp : ∀ v l, Post' v l → Post v l) : Spec prog w K dp un f vs pre Post := by
  intro p loose mean mg mb gd cn cs a ccd cl outer A₀ base h₀ L m rest s Q E B F X N D T C1 C2 hk ret
  exact wp_room (A' := ktrTop dp' un' gd cn cs L a ccd cl outer) rfl h1 rfl rfl h2 (h p loose mean mg mb gd cn cs a ccd cl outer A₀ base h₀ L m rest s Q E B F X N D T C1 C2 hk fun r post h' tk' a1 a2 a3 a4 => ret r post h' tk' a1 a2 a3 (hp _ _ a4))

theorem Spec.use {dp' un' : Nat} {p : Program} {loose : List Str} {mean : ExcName → Option Value} {mg mb : Str → Option Value} {gd : Option (List Code)} {cn : Str} {cs : Scope} {a : Addr} {ccd : Value} {cl : List (Str × Addr)} {outer : List Env}
    {A₀ : Around} {base h₀ : Heap} {L : Addr} {m : Str → Option Value} {rest : List (Addr × Obj)} {s : Shared} {Q E : Value → Shared → Prop} (h : Spec prog w K dp un f vs [] Post)
    (B : Below A₀ base outer h₀) (F : Fr h₀ L s.heap m) (X : K.In h₀) (N : News h₀ L s.heap rest) (T : Top p loose mean mg mb h₀) (C1 : CodeHd base 41 37) (C2 : CodeHd base 34 30) (hk : cs.kind = .function) (h1 : dp' ≤ dp) (h2 : un' ≤ un)
    (ret : ∀ r post h' tk', Fr h₀ L h' m → News h₀ L h' (post ++ rest) → (∀ q ∈ post, ∀ r ∈ rest, q.1 ≠ r.1) → Post r post → Q r { s with heap := h', toks := tk' }) :
    wpAny (model prog w) (ktrTop dp' un' gd cn cs L a ccd cl outer) (call (.ref f) vs) Q E s :=
  h.mono h1 h2 (fun _ _ x => x) p loose mean mg mb gd cn cs a ccd cl outer A₀ base h₀ L m rest s Q E B F X N (fun _ hq => nomatch hq) T C1 C2 hk ret

noncomputable def AllNe (a : Nat) : List (Addr × Obj) → Prop
  | [] => True
  | p :: r => @Ne Nat a p.1 ∧ AllNe a r
noncomputable def ApartL : List (Addr × Obj) → List (Addr × Obj) → Prop
  | [], _ => True
  | p :: r, l => AllNe p.1 l ∧ ApartL r l
theorem AllNe.of {a : Nat} : ∀ {l : List (Addr × Obj)}, AllNe a l → ∀ r ∈ l, a ≠ r.1
  | [], _, _, h => nomatch h
  | _ :: _, x, r, h => by
    rcases List.mem_cons.mp h with rfl | h
    · exact x.1
    · exact AllNe.of x.2 r h
theorem AllNe.to {a : Nat} : ∀ {l : List (Addr × Obj)}, (∀ r ∈ l, a ≠ r.1) → AllNe a l
  | [], _ => trivial
  | p :: _, h => ⟨h p (List.mem_cons_self ..), AllNe.to fun r hr => h r (List.mem_cons_of_mem _ hr)⟩
theorem ApartL.of : ∀ {l k : List (Addr × Obj)}, ApartL l k → ∀ q ∈ l, ∀ r ∈ k, q.1 ≠ r.1
  | [], _, _, _, h => nomatch h
  | _ :: _, _, x, q, h => by
    rcases List.mem_cons.mp h with rfl | h
    · exact x.1.of
    · exact ApartL.of x.2 q h
theorem ApartL.to : ∀ {l k : List (Addr × Obj)}, (∀ q ∈ l, ∀ r ∈ k, q.1 ≠ r.1) → ApartL l k
  | [], _, _ => trivial
  | p :: _, _, h => ⟨AllNe.to (h p (List.mem_cons_self ..)), ApartL.to fun r hr => h r (List.mem_cons_of_mem _ hr)⟩

theorem Spec.at {dp' un' : Nat} {p : Program} {loose : List Str} {mean : ExcName → Option Value} {mg mb : Str → Option Value} {gd : Option (List Code)} {cn : Str} {cs : Scope} {a : Addr} {ccd : Value} {cl : List (Str × Addr)} {outer : List Env}
    {A₀ : Around} {base h₀ : Heap} {L : Addr} {m : Str → Option Value} {all : List (Addr × Obj)} {s : Shared} {Q E : Value → Shared → Prop} (h : Spec prog w K dp un f vs pre Post) (rest : List (Addr × Obj))
    (B : Below A₀ base outer h₀) (F : Fr h₀ L s.heap m) (X : K.In h₀) (N : News h₀ L s.heap all) (hs : SubL (pre ++ rest) all) (D : ApartL pre rest) (T : Top p loose mean mg mb h₀) (C1 : CodeHd base 41 37) (C2 : CodeHd base 34 30) (hk : cs.kind = .function) (h1 : dp' ≤ dp) (h2 : un' ≤ un)
    (ret : ∀ r post h' tk', Fr h₀ L h' m → News h₀ L h' (post ++ rest) → ApartL post rest → Post r post → Q r { s with heap := h', toks := tk' }) :
    wpAny (model prog w) (ktrTop dp' un' gd cn cs L a ccd cl outer) (call (.ref f) vs) Q E s :=
  h.mono h1 h2 (fun _ _ x => x) p loose mean mg mb gd cn cs a ccd cl outer A₀ base h₀ L m rest s Q E B F X (fun q hq => N q (hs.mem q hq)) D.of T C1 C2 hk fun r post h' tk' a1 a2 a3 a4 => ret r post h' tk' a1 a2 (.to a3) a4

theorem news_left {h₀ h : Heap} {L : Addr} {a b : List (Addr × Obj)} (N : News h₀ L h (a ++ b)) : News h₀ L h a := fun p hp => N p (List.mem_append_left _ hp)
theorem news_right {h₀ h : Heap} {L : Addr} {a b : List (Addr × Obj)} (N : News h₀ L h (a ++ b)) : News h₀ L h b := fun p hp => N p (List.mem_append_right _ hp)
theorem news_head {h₀ h : Heap} {L : Addr} {q : Addr × Obj} {a : List (Addr × Obj)} (N : News h₀ L h (q :: a)) : News h₀ L h [q] := fun p hp => N p (by rw [List.mem_singleton.mp hp]; exact List.mem_cons_self ..)
theorem news_sub {h₀ h : Heap} {L : Addr} {a b : List (Addr × Obj)} (N : News h₀ L h a) (hs : SubL b a) : News h₀ L h b := fun p hp => N p (hs.mem p hp)

/-- behind the callee's end: the caller's frame, and what was left alone -/
theorem back {h₀ : Heap} {L : Addr} {m : Str → Option Value} {rest : List (Addr × Obj)} {s s' : Shared} {Q : Value → Shared → Prop} {fl : Flow} {gg : Heap}
    (N : News h₀ L s.heap (pre ++ rest)) (D : ∀ q ∈ pre, ∀ r ∈ rest, q.1 ≠ r.1)
    (lv : ∀ v s', LeaveK h₀ L m (hideAll s.heap (pre.map (·.1))) (fun r s' => match r with | .ok (.ret v) => Q v s' | .ok _ => False | .error _ => False) v s' → Q v s')
    (ret : ∀ r post h' tk', Fr h₀ L h' m → News h₀ L h' (post ++ rest) → (∀ q ∈ post, ∀ r ∈ rest, q.1 ≠ r.1) → Post r post → Q r { s with heap := h', toks := tk' })
    (hg : gg = hideAll s.heap (pre.map (·.1)))
    (d : Done s gg Post fl s') : Q (retOf fl) s' := by
  subst hg
  obtain ⟨L', m', post, F', N', hp, h', tk', rfl⟩ := d
  have hr : ∀ r ∈ rest, (hideAll s.heap (pre.map (·.1))).get? r.1 = some r.2 := fun r hr => hideAll_get _ (N r (List.mem_append_right _ hr)).1 fun q => by
    obtain ⟨q', hq', e⟩ := List.mem_map.mp q
    exact D q' hq' r hr e
  refine lv _ _ ⟨L', m', post, F', N', fun Fc Nc => ret _ post _ _ Fc (fun q hq => ?_) (fun q hq r hr' e => ?_) hp⟩
  · rcases List.mem_append.mp hq with hq | hq
    · exact Nc q hq
    · have := N q (List.mem_append_right _ hq)
      exact ⟨F'.keep _ _ (hr q hq), this.2.1, this.2.2⟩
  · have e1 := (N' q hq).2.2
    rw [e, hr r hr'] at e1
    cases e1

/-- a def of the top with plain locals -/
theorem Spec.plain (ho : K.lookup f = some ⟨oc, od, .func (fnOf name qual params body scope dV kV doc pm an cdv ct), osl⟩) (hcd : codeIn K cdv qual = true) (hroom : dp < recursionLimit)
    (hbind : ∀ s, BindsTo s (fnOf name qual params body scope dV kV doc pm an cdv ct) ⟨vs, []⟩ binds) (hloc : ∀ y ∈ binds, scope.names.lookup y.1 = some .local)
    (hb : ∀ (p : Program) (loose : List Str) (mean : ExcName → Option Value) (mg mb : Str → Option Value) (gd : Option (List Code)) (cn : Str) (cs : Scope) (a : Addr) (ccd : Value) (cl : List (Str × Addr)) (outer : List Env)
      (base g : Heap) (L L' : Addr) (s : Shared), cs.kind = .function → Fr g L' s.heap (fun y => binds.reverse.lookup y) → News g L' s.heap pre → Below (ktrTop dp un gd cn cs L a ccd cl outer) base (envX cn cs L a ccd cl :: outer) g → K.In g → Top p loose mean mg mb g →
      CodeHd base 41 37 → CodeHd base 34 30 →
      wpAny (model prog w) ((ktrTop dp un gd cn cs L a ccd cl outer).deeper (envOf qual scope L' f cdv)) (execs body (envOf qual scope L' f cdv)) (Done s g Post) (fun _ _ => False) s)
    (hco : scope.isCoroutine = false) (hgen : scope.isGenerator = false) (hk : scope.kind = .function) (hcell : ∀ x ∈ scope.names, x.2 ≠ .cell) : Spec prog w K dp un f vs pre Post := by
  intro p loose mean mg mb gd cn cs a ccd cl outer A₀ base h₀ L m rest s Q E B F X N D T C1 C2 hke ret
  refine wpAny_call ?_
  have NP := news_left N
  obtain ⟨FG, BG, st, lv⟩ := groundX (A := ktrTop dp un gd cn cs L a ccd cl outer) (R := fun r s' => match r with | .ok (.ret v) => Q v s' | .ok _ => False | .error _ => False) B F NP rfl rfl hke
  refine codeAny_call_def (fd := fnOf name qual params body scope dV kV doc pm an cdv ct) (body := body) (binds := binds) hroom ((X.keeps F.keep) _ _ ho) rfl (T.nolimit.keeps F.keep) (codeRec_of (X.keeps F.keep) hcd) rfl (hbind s) hcell hloc (fun h₁ hns hk₁ => ?_) hco hgen hk
  refine wpAny_mono (hb p loose mean mg mb gd cn cs a ccd cl outer base (hideAll s.heap (pre.map fun (q : Addr × Obj) => q.1)) L s.heap.objs.size { s with heap := h₁, toks := s.toks + binds.length } hke
    ⟨hns, fun b o e => hk₁ b o (of_hideAll _ e), Nat.le_of_eq (hideAll_size _ _)⟩
    (fun p hp => ⟨hk₁ _ _ (NP p hp).1, Nat.ne_of_lt (Heap.lt_size (NP p hp).1), hideAll_none _ (List.mem_map_of_mem hp)⟩) BG (X.keeps st) (T.keeps st) C1 C2) (fun fl s' hl => ?_) (fun _ _ y => y.elim)
  obtain ⟨L', m', post, F', N', hp, h', tk', rfl⟩ := hl
  exact back (Post := Post) (s := s) N D lv ret rfl ⟨L', m', post, F', N', hp, h', tk', rfl⟩

/-- a def made in a body (its function object and its code stand in the ledger) -/
theorem Spec.nest {clos : List (Str × Addr)} {c' : Addr} {ctv : Value} {co : Obj} {cvs : Array Value} {ctk : Tok} (ho : (f, fnMade name qual params body scope clos doc pm c' ctv) ∈ pre) (hc : (c', co) ∈ pre) (hcd : co.data = .fields cvs) (hcv : cvs[1]? = some (.str qual ctk)) (hroom : dp < recursionLimit)
    (hbind : ∀ s, BindsTo s (fnX name qual params body scope clos .none .none doc pm none (.ref c') ctv) ⟨vs, []⟩ binds) (hloc : ∀ y ∈ binds, scope.names.lookup y.1 = some .local)
    (hb : ∀ (p : Program) (loose : List Str) (mean : ExcName → Option Value) (mg mb : Str → Option Value) (gd : Option (List Code)) (cn : Str) (cs : Scope) (a : Addr) (ccd : Value) (cl : List (Str × Addr)) (outer : List Env)
      (base g : Heap) (L L' : Addr) (s : Shared), cs.kind = .function → Fr g L' s.heap (fun y => binds.reverse.lookup y) → News g L' s.heap pre → Below (ktrTop dp un gd cn cs L a ccd cl outer) base (envX cn cs L a ccd cl :: outer) g → K.In g → Top p loose mean mg mb g →
      CodeHd base 41 37 → CodeHd base 34 30 →
      wpAny (model prog w) ((ktrTop dp un gd cn cs L a ccd cl outer).deeper (envX qual scope L' f (.ref c') clos)) (execs body (envX qual scope L' f (.ref c') clos)) (Done s g Post) (fun _ _ => False) s)
    (hco : scope.isCoroutine = false) (hgen : scope.isGenerator = false) (hk : scope.kind = .function) (hcell : ∀ x ∈ scope.names, x.2 ≠ .cell) : Spec prog w K dp un f vs pre Post := by
  intro p loose mean mg mb gd cn cs a ccd cl outer A₀ base h₀ L m rest s Q E B F X N D T C1 C2 hke ret
  refine wpAny_call ?_
  have NP := news_left N
  obtain ⟨FG, BG, st, lv⟩ := groundX (A := ktrTop dp un gd cn cs L a ccd cl outer) (R := fun r s' => match r with | .ok (.ret v) => Q v s' | .ok _ => False | .error _ => False) B F NP rfl rfl hke
  refine codeAny_call_def (fd := fnX name qual params body scope clos .none .none doc pm none (.ref c') ctv) (body := body) (binds := binds) hroom (NP _ ho).1 rfl (T.nolimit.keeps F.keep) (codeRec_news NP hc hcd hcv) rfl (hbind s) hcell hloc (fun h₁ hns hk₁ => ?_) hco hgen hk
  refine wpAny_mono (hb p loose mean mg mb gd cn cs a ccd cl outer base (hideAll s.heap (pre.map fun (q : Addr × Obj) => q.1)) L s.heap.objs.size { s with heap := h₁, toks := s.toks + binds.length } hke
    ⟨hns, fun b o e => hk₁ b o (of_hideAll _ e), Nat.le_of_eq (hideAll_size _ _)⟩
    (fun p hp => ⟨hk₁ _ _ (NP p hp).1, Nat.ne_of_lt (Heap.lt_size (NP p hp).1), hideAll_none _ (List.mem_map_of_mem hp)⟩) BG (X.keeps st) (T.keeps st) C1 C2) (fun fl s' hl => ?_) (fun _ _ y => y.elim)
  obtain ⟨L', m', post, F', N', hp, h', tk', rfl⟩ := hl
  exact back (Post := Post) (s := s) N D lv ret rfl ⟨L', m', post, F', N', hp, h', tk', rfl⟩

/-- a def of the top, some of whose names are cells -/
theorem Spec.cells (ho : K.lookup f = some ⟨oc, od, .func (fnOf name qual params body scope dV kV doc pm an cdv ct), osl⟩) (hcd : codeIn K cdv qual = true) (hroom : dp < recursionLimit)
    (hbind : ∀ s, BindsTo s (fnOf name qual params body scope dV kV doc pm an cdv ct) ⟨vs, []⟩ binds) (hkind : (binds.all fun y => scope.names.lookup y.1 == some .local || scope.names.lookup y.1 == some .cell) = true) (hnd : ((cellsFrom 0 scope.names []).map (·.1)).Nodup)
    (hb : ∀ (p : Program) (loose : List Str) (mean : ExcName → Option Value) (mg mb : Str → Option Value) (gd : Option (List Code)) (cn : Str) (cs : Scope) (a : Addr) (ccd : Value) (cl : List (Str × Addr)) (outer : List Env)
      (base g : Heap) (L L' : Addr) (s : Shared) (cells : List (Addr × Obj)), cs.kind = .function → Fr g L' s.heap (bindL (envOfC qual scope L' f cdv).kindOf binds fun _ => none) → News g L' s.heap (cells ++ pre) →
      CellsAre (bindC (envOfC qual scope L' f cdv).kindOf binds fun _ => none) (cellsFrom (L' + 1) scope.names []) cells → (∀ p ∈ pre, p.1 < L') →
      Below (ktrTop dp un gd cn cs L a ccd cl outer) base (envX cn cs L a ccd cl :: outer) g → K.In g → Top p loose mean mg mb g →
      CodeHd base 41 37 → CodeHd base 34 30 →
      wpAny (model prog w) ((ktrTop dp un gd cn cs L a ccd cl outer).deeper (envOfC qual scope L' f cdv)) (execs body (envOfC qual scope L' f cdv)) (Done s g Post) (fun _ _ => False) s)
    (hco : scope.isCoroutine = false) (hgen : scope.isGenerator = false) (hk : scope.kind = .function) : Spec prog w K dp un f vs pre Post := by
  intro p loose mean mg mb gd cn cs a ccd cl outer A₀ base h₀ L m rest s Q E B F X N D T C1 C2 hke ret
  refine wpAny_call ?_
  have NP := news_left N
  obtain ⟨FG, BG, st, lv⟩ := groundX (A := ktrTop dp un gd cn cs L a ccd cl outer) (R := fun r s' => match r with | .ok (.ret v) => Q v s' | .ok _ => False | .error _ => False) B F NP rfl rfl hke
  refine codeAny_call_function hroom ((X.keeps F.keep) _ _ ho) rfl hco hgen rfl (codeRec_of (X.keeps F.keep) hcd) (hbind s _ _ _ _ ?_)
  refine wpAny_newFunctionEnv_cells hk (kindsX hkind _) fun env' he s' x => ?_
  subst he
  refine ⟨(T.nolimit.keeps F.keep).keeps x.toInCall.keep, codeAny_func ?_⟩
  obtain ⟨h₁, tk, rfl, _⟩ := x.done
  have hk₁ := x.toInCall.keep
  obtain ⟨cells, NC, Y⟩ := Cl.news (h₀ := s.heap) (Nat.le_refl _) fun n c hm => ⟨x.cell n c (lookup_of_mem_nodup (cellsFrom_names scope.names 0 (s.heap.objs.size + 1) [] [] rfl ▸ hnd) hm), x.above n c hm⟩
  refine wpAny_mono (hb p loose mean mg mb gd cn cs a ccd cl outer base (hideAll s.heap (pre.map fun (q : Addr × Obj) => q.1)) L s.heap.objs.size { s with heap := h₁, toks := tk } cells hke
    ⟨x.toInCall.ns, fun b o e => hk₁ b o (of_hideAll _ e), Nat.le_of_eq (hideAll_size _ _)⟩ (fun p hp => ?_) Y (fun p hp => Heap.lt_size (NP p hp).1) BG (X.keeps st) (T.keeps st) C1 C2) (fun fl s' hl => ?_) (fun _ _ y => y.elim)
  · rcases List.mem_append.mp hp with hp | hp
    · refine ⟨(NC p hp).1, (NC p hp).2.1, ?_⟩
      cases q : (hideAll s.heap (pre.map fun (q : Addr × Obj) => q.1)).get? p.1 with
      | none => rfl
      | some o => have := of_hideAll _ q; rw [(NC p hp).2.2] at this; cases this
    · exact ⟨hk₁ _ _ (NP p hp).1, Nat.ne_of_lt (Heap.lt_size (NP p hp).1), hideAll_none _ (List.mem_map_of_mem hp)⟩
  · obtain ⟨L', m', post, F', N', hp, h', tk', rfl⟩ := hl
    exact back (Post := Post) (s := s) N D lv ret rfl ⟨L', m', post, F', N', hp, h', tk', rfl⟩
end

section
variable {prog : Program} {w : World} {A : Around} {E : Value → Shared → Prop} {s : Shared} {env : Env}

/-- a statement and what stands behind it, by what holds between the two -/
theorem execs_join {st : Stmt} {rest : List Stmt} {Q : Flow → Shared → Prop} (P : Shared → Prop) (h1 : wpAny (model prog w) A (exec st env) (fun f s' => f = .next ∧ P s') E s)
    (h2 : ∀ s', P s' → wpAny (model prog w) A (execs rest env) Q E s') : wpAny (model prog w) A (execs (st :: rest) env) Q E s := by
  refine wpAny_execs_cons (wpAny_mono h1 (fun f s' h => ?_) fun _ _ x => x)
  obtain ⟨rfl, h⟩ := h
  exact h2 _ h

/-- a def statement's parts, for what is to be said of them -/
theorem with_def {nm b : Str} {ps : Arguments} {bd : List Stmt} {ds : List PySem.Expr} {rt : Option PySem.Expr} {tps : List TypeParam} {sc : Scope} {tsc : Option Scope} {pos : Pos} {rest : List Stmt} {Q : Flow → Shared → Prop} (I : Str → Arguments → List Stmt → Scope → Prop) (h1 : I nm ps bd sc)
    (h2 : I nm ps bd sc → wpAny (model prog w) A (execs (.FunctionDef nm ps bd ds rt tps sc tsc b pos :: rest) env) Q E s) : wpAny (model prog w) A (execs (.FunctionDef nm ps bd ds rt tps sc tsc b pos :: rest) env) Q E s := h2 h1

/-- the statements of a def of the top -/
noncomputable def stmtsOf (K : Frag) (f : Addr) : List Stmt := match K.lookup f with
  | some ⟨_, _, .func fd, _⟩ => (match fd.body with | .stmts b => b | _ => [])
  | _ => []
theorem stmtsOf_is {K : Frag} {f : Addr} {name qual : Str} {params : Arguments} {body : List Stmt} {scope : Scope} {dV kV doc pm cdv ct oc : Value} {an od : Option Addr} {osl : Array (Option Value)}
    (ho : K.lookup f = some ⟨oc, od, .func (fnOf name qual params body scope dV kV doc pm an cdv ct), osl⟩) : stmtsOf K f = body := by
  unfold stmtsOf; rw [ho]
/-- what is said of the first def among the first two statements -/
noncomputable def AtDef (I : Str → Arguments → List Stmt → Scope → Prop) : List Stmt → Prop
  | .FunctionDef nm ps bd _ _ _ sc _ _ _ :: _ => I nm ps bd sc
  | _ :: .FunctionDef nm ps bd _ _ _ sc _ _ _ :: _ => I nm ps bd sc
  | _ => False

/-- what a turn must leave -/
noncomputable def TurnPost (I : Nat → Shared → Prop) (n : Nat) (Q : Flow → Shared → Prop) (f : Flow) (s' : Shared) : Prop := match f with
  | .next => ∃ n', n' < n ∧ I n' s'
  | .cont => ∃ n', n' < n ∧ I n' s'
  | .brk => Q .next s'
  | .ret v => Q (.ret v) s'

/-- a while by what holds at each turn's head, and a number that falls -/
theorem while_rule {test : PySem.Expr} {body orelse : List Stmt} {Q : Flow → Shared → Prop} {pos : Pos} (I : Nat → Shared → Prop) (hE : PassesOwn (model prog w) A env E)
    (step : ∀ n s, I n s → wpAny (model prog w) A (isTrue test env (eval test env)) (fun b s₂ => WhlIf b (wpAny (model prog w) A (execs body env) (TurnPost I n Q) E s₂) (wpAny (model prog w) A (execs orelse env) Q E s₂)) E s) {n : Nat} (h0 : I n s) :
    wpAny (model prog w) A (exec (.While test body orelse pos) env) Q E s := by
  refine whl_start 0 ?_
  have key : ∀ n s, I n s → WhlRest prog w A E env test body orelse Q 0 s := by
    intro n
    induction n using Nat.strongRecOn with
    | ind n ih =>
      intro s hs
      refine whl_turn (k := 0) hE (wpAny_mono (step n s hs) (fun b s₂ hb => ?_) fun _ _ x => x)
      cases b with
      | false => exact WhlIf.no rfl (by unfold WhlIf at hb; rw [if_neg Bool.false_ne_true] at hb; exact hb)
      | true =>
        refine WhlIf.yes rfl ?_
        have hb' : wpAny (model prog w) A (execs body env) (TurnPost I n Q) E s₂ := by
          unfold WhlIf at hb
          rw [if_pos rfl] at hb
          exact hb
        refine wpAny_mono hb' (fun f s' hf => ?_) fun _ _ x => x
        cases f with
        | next => obtain ⟨n', hn, hi⟩ := hf; exact ih n' hn s' hi
        | cont => obtain ⟨n', hn, hi⟩ := hf; exact ih n' hn s' hi
        | brk => exact hf
        | ret v => exact hf
  exact key n s h0
end

/-- two frames' maps that agree on the named keys and off them -/
noncomputable def AgreeOn (m m' : Str → Option Value) : List Str → Prop
  | [] => True
  | k :: r => m k = m' k ∧ AgreeOn m m' r
noncomputable def OffAll (y : Str) : List Str → Prop
  | [] => True
  | k :: r => y ≠ k ∧ OffAll y r
theorem map_ext (ks : List Str) {m m' : Str → Option Value} (h1 : AgreeOn m m' ks) (h2 : ∀ y, OffAll y ks → m y = m' y) : m = m' := by
  funext y
  induction ks with
  | nil => exact h2 y trivial
  | cons k r ih =>
    by_cases e : y = k
    · subst e; exact h1.1
    · have key : ∀ ks : List Str, AgreeOn m m' ks → m y = m' y ∨ OffAll y ks := by
        intro ks
        induction ks with
        | nil => intro _; exact .inr trivial
        | cons k r ih =>
          intro h
          by_cases e : y = k
          · subst e; exact .inl h.1
          · exact (ih h.2).imp id fun o => ⟨e, o⟩
      rcases key (k :: r) h1 with h | h
      · exact h
      · exact h2 y h

theorem Fr.congr {h₀ h : Heap} {L : Addr} {m m' : Str → Option Value} (F : Fr h₀ L h m) (e : m = m') : Fr h₀ L h m' := e ▸ F
end Mine

namespace Mine
section
variable {prog : Program} {w : World} {A : Around} {E : Value → Shared → Prop} {s : Shared} {env : Env} {h₀ : Heap} {x : Str} {body : List Stmt} {Q : Flow → Shared → Prop}

theorem UnrPost.mono {L I : Addr} {s₁ : Shared} {it : Obj} {rest rest' : (Str → Option Value) → List (Addr × Obj) → Prop} (hr : ∀ m n, rest m n → rest' m n) {f : Flow} {s₂ : Shared} (h : UnrPost h₀ L s₁ I it rest Q f s₂) : UnrPost h₀ L s₁ I it rest' Q f s₂ := by
  have key : UnrEnd h₀ L s₁ I it rest s₂ → UnrEnd h₀ L s₁ I it rest' s₂ := fun ⟨h', tk, m', n', a, b, c, d, e⟩ => ⟨h', tk, m', n', a, b, c, d, hr _ _ e⟩
  cases f with
  | ret v => exact h
  | brk => exact h
  | next => exact key h
  | cont => exact key h

/-- a loop over a list from behind, by what holds at each turn's head -/
theorem rev_inv {I : Addr} {lp : Addr × Obj} (Inv : List Value → (Str → Option Value) → List (Addr × Obj) → Prop)
    (step : ∀ v r m news, Inv (v :: r) m news → ∀ (it : Obj) h tk, it.cls = .type "list_reverseiterator" → Fr h₀ env.locals h (fun y => if y = x then some v else m y) → News h₀ env.locals h ((I, it) :: news) →
      wpAny (model prog w) A (execs body env) (UnrPost h₀ env.locals { s with heap := h, toks := tk } I it (fun m' n' => lp ∈ n' ∧ Inv r m' n') Q) E { s with heap := h, toks := tk })
    (done : ∀ m news h tk, Inv [] m news → Fr h₀ env.locals h m → News h₀ env.locals h news → Q .next { s with heap := h, toks := tk }) :
    ∀ (vs : List Value) (m : Str → Option Value) (news : List (Addr × Obj)), Inv vs m news → RevRest prog w A E h₀ env x body Q s I lp vs m news
  | [], m, news, h => fun hp tk F N => done m news hp tk h F N
  | v :: r, m, news, h => fun it hp tk hc F N => wpAny_mono (step v r m news h it hp tk hc F N) (fun _ _ p => UnrPost.mono (fun m' n' q => ⟨q.1, rev_inv Inv step done r m' n' q.2⟩) p) fun _ _ e => e

/-- a loop over a range by ones, by what holds at each turn's head -/
theorem range_inv {I : Addr} {a : Int} {n : Nat} (Inv : Nat → (Str → Option Value) → List (Addr × Obj) → Prop)
    (step : ∀ i m news, i < n → Inv i m news → ∀ t h tk, Fr h₀ env.locals h (fun y => if y = x then some (.int (a + (i : Int)) t) else m y) → News h₀ env.locals h ((I, itR (a + ((i + 1 : Nat) : Int)) ((n : Int) - ((i + 1 : Nat) : Int))) :: news) →
      wpAny (model prog w) A (execs body env) (UnrPost h₀ env.locals { s with heap := h, toks := tk } I (itR (a + ((i + 1 : Nat) : Int)) ((n : Int) - ((i + 1 : Nat) : Int))) (Inv (i + 1)) Q) E { s with heap := h, toks := tk })
    (done : ∀ m news h tk, Inv n m news → Fr h₀ env.locals h m → News h₀ env.locals h news → Q .next { s with heap := h, toks := tk }) :
    ∀ (k i : Nat) (m : Str → Option Value) (news : List (Addr × Obj)), i + k = n → Inv i m news → RangeRest prog w A E h₀ env x body Q s I a n k i m news
  | 0, i, m, news, e, h => fun hp tk F N => done m news hp tk (by rw [← e]; exact h) F N
  | k + 1, i, m, news, e, h => fun t hp tk F N => wpAny_mono (step i m news (by omega) h t hp tk F N) (fun _ _ p => UnrPost.mono (fun m' n' q => range_inv Inv step done k (i + 1) m' n' (by omega) q) p) fun _ _ e => e
end
/-- a frame's map, read by some of its keys -/
theorem canon1 {m : Str → Option Value} {k1 : Str} {v1 : Option Value} (h1 : m k1 = v1) : m = fun y => if y = k1 then v1 else m y := by
  funext y
  by_cases e1 : y = k1
  · subst e1; simp only [if_true]; exact h1
  simp only [if_neg e1]
theorem canon2 {m : Str → Option Value} {k1 k2 : Str} {v1 v2 : Option Value} (h1 : m k1 = v1) (h2 : m k2 = v2) : m = fun y => if y = k1 then v1 else if y = k2 then v2 else m y := by
  funext y
  by_cases e1 : y = k1
  · subst e1; simp only [if_true]; exact h1
  by_cases e2 : y = k2
  · subst e2; simp only [if_neg e1, if_true]; exact h2
  simp only [if_neg e1, if_neg e2]
theorem canon4 {m : Str → Option Value} {k1 k2 k3 k4 : Str} {v1 v2 v3 v4 : Option Value} (h1 : m k1 = v1) (h2 : m k2 = v2) (h3 : m k3 = v3) (h4 : m k4 = v4) : m = fun y => if y = k1 then v1 else if y = k2 then v2 else if y = k3 then v3 else if y = k4 then v4 else m y := by
  funext y
  by_cases e1 : y = k1
  · subst e1; simp only [if_true]; exact h1
  by_cases e2 : y = k2
  · subst e2; simp only [if_neg e1, if_true]; exact h2
  by_cases e3 : y = k3
  · subst e3; simp only [if_neg e1, if_neg e2, if_true]; exact h3
  by_cases e4 : y = k4
  · subst e4; simp only [if_neg e1, if_neg e2, if_neg e3, if_true]; exact h4
  simp only [if_neg e1, if_neg e2, if_neg e3, if_neg e4]
theorem canon6 {m : Str → Option Value} {k1 k2 k3 k4 k5 k6 : Str} {v1 v2 v3 v4 v5 v6 : Option Value} (h1 : m k1 = v1) (h2 : m k2 = v2) (h3 : m k3 = v3) (h4 : m k4 = v4) (h5 : m k5 = v5) (h6 : m k6 = v6) : m = fun y => if y = k1 then v1 else if y = k2 then v2 else if y = k3 then v3 else if y = k4 then v4 else if y = k5 then v5 else if y = k6 then v6 else m y := by
  funext y
  by_cases e1 : y = k1
  · subst e1; simp only [if_true]; exact h1
  by_cases e2 : y = k2
  · subst e2; simp only [if_neg e1, if_true]; exact h2
  by_cases e3 : y = k3
  · subst e3; simp only [if_neg e1, if_neg e2, if_true]; exact h3
  by_cases e4 : y = k4
  · subst e4; simp only [if_neg e1, if_neg e2, if_neg e3, if_true]; exact h4
  by_cases e5 : y = k5
  · subst e5; simp only [if_neg e1, if_neg e2, if_neg e3, if_neg e4, if_true]; exact h5
  by_cases e6 : y = k6
  · subst e6; simp only [if_neg e1, if_neg e2, if_neg e3, if_neg e4, if_neg e5, if_true]; exact h6
  simp only [if_neg e1, if_neg e2, if_neg e3, if_neg e4, if_neg e5, if_neg e6]
theorem canon7 {m : Str → Option Value} {k1 k2 k3 k4 k5 k6 k7 : Str} {v1 v2 v3 v4 v5 v6 v7 : Option Value} (h1 : m k1 = v1) (h2 : m k2 = v2) (h3 : m k3 = v3) (h4 : m k4 = v4) (h5 : m k5 = v5) (h6 : m k6 = v6) (h7 : m k7 = v7) : m = fun y => if y = k1 then v1 else if y = k2 then v2 else if y = k3 then v3 else if y = k4 then v4 else if y = k5 then v5 else if y = k6 then v6 else if y = k7 then v7 else m y := by
  funext y
  by_cases e1 : y = k1
  · subst e1; simp only [if_true]; exact h1
  by_cases e2 : y = k2
  · subst e2; simp only [if_neg e1, if_true]; exact h2
  by_cases e3 : y = k3
  · subst e3; simp only [if_neg e1, if_neg e2, if_true]; exact h3
  by_cases e4 : y = k4
  · subst e4; simp only [if_neg e1, if_neg e2, if_neg e3, if_true]; exact h4
  by_cases e5 : y = k5
  · subst e5; simp only [if_neg e1, if_neg e2, if_neg e3, if_neg e4, if_true]; exact h5
  by_cases e6 : y = k6
  · subst e6; simp only [if_neg e1, if_neg e2, if_neg e3, if_neg e4, if_neg e5, if_true]; exact h6
  by_cases e7 : y = k7
  · subst e7; simp only [if_neg e1, if_neg e2, if_neg e3, if_neg e4, if_neg e5, if_neg e6, if_true]; exact h7
  simp only [if_neg e1, if_neg e2, if_neg e3, if_neg e4, if_neg e5, if_neg e6, if_neg e7]
end Mine
namespace Mine
theorem SubL_of : ∀ {l all : List (Addr × Obj)}, (∀ p ∈ l, p ∈ all) → SubL l all
  | [], _, _ => trivial
  | p :: _, _, h => ⟨h p (List.mem_cons_self ..), SubL_of fun q hq => h q (List.mem_cons_of_mem _ hq)⟩
theorem SubL_self (l : List (Addr × Obj)) : SubL (l ++ []) l := SubL_of fun p hp => by rwa [List.append_nil] at hp
theorem ApartL_nil : ∀ l : List (Addr × Obj), ApartL l []
  | [] => trivial
  | _ :: r => ⟨trivial, ApartL_nil r⟩
end Mine

namespace Mine
theorem range_size (a b : Int) : Builtin.Range.rangeSize a b 1 = (((b - a).toNat : Nat) : Int) := by
  unfold Builtin.Range.rangeSize
  rw [if_pos (by decide)]
  split
  · rw [Int.ediv_one]; omega
  · omega
theorem range_small {a b : Int} (h1 : -1000000 ≤ a) (h2 : a ≤ 1000000) (h3 : -1000000 ≤ b) (h4 : b ≤ 1000000) : Builtin.Range.small a b 1 = true := by
  unfold Builtin.Range.small
  rw [range_size]
  simp only [Builtin.Range.rangeFitsLong, Bool.and_eq_true, Bool.or_eq_true, decide_eq_true_eq, beq_iff_eq]
  refine ⟨⟨⟨⟨⟨by omega, by omega⟩, ⟨by omega, by omega⟩⟩, ⟨by omega, by omega⟩⟩, ⟨by omega, by omega⟩⟩, .inr ?_⟩
  rw [if_pos (by decide)]
  simp only [Builtin.Range.rangeFitsLong, Bool.and_eq_true, decide_eq_true_eq]
  exact ⟨by omega, by omega⟩

section
variable {prog : Program} {w : World} {A : Around} {s : Shared} {h₀ : Heap} {L : Addr} {m : Str → Option Value} {env : Env} {elt : PySem.Expr} {x : Str} {scope : Scope} {cl : List (Str × Addr)} {S : List (Addr × Obj) → Prop} {P : Nat → Value → Prop} {Fin : List Value → List (Addr × Obj) → Prop}

/-- a list comprehension, by what holds of the items made so far; the ledger stays -/
theorem comp_inv {n : Nat} {news : List (Addr × Obj)} (Inv : Nat → List Value → Prop) (hS : S news)
    (step : ∀ i ys, i < n → Inv i ys → ∀ v I oI C oC D m₂ h tk (E' : Value → Shared → Prop), P i v → LCg.NsObj oC m₂ → m₂ x = some v → Fr h₀ L h m → News h₀ L h ((I, oI) :: (C, oC) :: (D, LCg.lst ys) :: news) → LCg.Off3 I C D news → ((@Ne Nat I C) ∧ (@Ne Nat I D) ∧ (@Ne Nat C D)) →
      wpAny (model prog w) A (eval elt (compEnvC scope cl C env)) (fun y s₂ => ∃ h' tk', s₂ = { s with heap := h', toks := tk' } ∧ Fr h₀ L h' m ∧ News h₀ L h' ((I, oI) :: (C, oC) :: (D, LCg.lst ys) :: news) ∧ Inv (i + 1) (ys ++ [y])) E' { s with heap := h, toks := tk })
    (done : ∀ ys, Inv n ys → Fin ys news) : ∀ (k i : Nat) (ys : List Value), i + k = n → Inv i ys → LCg.CompRest prog w A h₀ L m env elt x scope cl s S P Fin k i ys news
  | 0, i, ys, e, h => done ys (by rw [← e]; exact h)
  | k + 1, i, ys, e, h => fun v I oI C oC D m₂ hp tk E' hv hC hx F N off ne =>
    wpAny_mono (step i ys (by omega) h v I oI C oC D m₂ hp tk E' hv hC hx F N off ne) (fun y s₂ ⟨h', tk', e2, F', N', hi⟩ => ⟨h', tk', news, e2, F', N', off, hS, comp_inv Inv hS step done k (i + 1) _ (by omega) hi⟩) fun _ _ e => e
end

section
variable {prog : Program} {w : World} {A : Around} {E : Value → Shared → Prop} {s : Shared} {env : Env} {h₀ : Heap} {x : Str} {body : List Stmt} {Q : Flow → Shared → Prop}
end
end Mine

namespace Mine
theorem fills_list_add : fillsNumberSlot (.type "list") "add" = pure false :=
  PySem.fillsNumberSlot_seq (T := "list") (nm := "add") (id := "list.__add__") (r := none) F.slot_list_add.lookup (by decide +kernel) (by rw [typeLookup_type, builtinLookup_eq_fast]; kernel_rfl) (by decide)
theorem seq_list_iadd : seqSlot? (.type "list") (dunderI "add") = pure (some (.builtin "list.__iadd__")) := PySem.seqSlot_of F.slot_list_iadd.lookup (by decide +kernel)
section
variable {prog : Program} {w : World} {A : Around} {E : Value → Shared → Prop} {s : Shared} {h₀ : Heap} {L : Addr} {m : Str → Option Value} {news news' : List (Addr × Obj)} {D b : Addr} {vs ws : List Value} {n n2 : Nat}

/-- a list put to a list, in place -/
theorem iadd_list {Q : Value → Shared → Prop} (Fm : Fr h₀ L s.heap m) (N : News h₀ L s.heap news) (hb : (b, listOf ws.toArray n2) ∈ news) (hne : ws.length ≠ 0)
    (U : Upd D (listOf vs.toArray n) (listOf (vs ++ ws).toArray (n + 1)) news news') (hz : vs.length + ws.length ≤ 1000)
    (h : ∀ h', Fr h₀ L h' m → News h₀ L h' news' → Q (.ref D) { s with heap := h' }) : wpAny (model prog w) A (inplaceOp .Add (.ref D) (.ref b)) Q E s := by
  obtain ⟨pre, post, rfl, rfl, a, c⟩ := U.split
  have z := N (D, listOf vs.toArray n) (List.mem_append.mpr (.inr (.head _)))
  have zb := (N _ hb).1
  have ha : s.TypeIs (.ref D) "list" := ⟨_, z.1, rfl⟩
  have hbt : s.TypeIs (.ref b) "list" := ⟨_, zb, rfl⟩
  unfold inplaceOp
  refine wpAny_holding ?_
  have hfi : fillsInplaceSlot (.type "list") "add" (Operator.Add == .Add) = pure false := by
    unfold fillsInplaceSlot
    show (typeLookup (.type "list") (dunderI "add") >>= fun fi => pure (fi.isSome && !isSeqSlot fi)) = pure false
    rw [F.slot_list_iadd.lookup]
    show (pure (true && !isSeqSlot (some (.builtin "list.__iadd__"))) : Sem Bool) = pure false
    rw [show isSeqSlot (some (.builtin "list.__iadd__")) = true by decide +kernel]
    rfl
  refine wpAny_bind (wpAny_typeOf ha (wpAny_bind (wpAny_of_eq hfi ?_)))
  show wpAny _ A (if false = true then _ else _) Q E s
  rw [if_neg Bool.false_ne_true]
  refine wpAny_bind (wpAny_binaryOp1_none (nm := "add") ha hbt fills_list_add ?_)
  refine wpAny_bind (wpAny_of_eq seq_list_iadd ?_)
  refine wpAny_bind (wpAny_rule ?_)
  refine call_meets F.slot_list_iadd ha F.entry_list_iadd (F.args_list_iadd_2 _ _) (AutoSeq1.list___iadd___list_list_0 D vs.toArray n b ws.toArray n2 ?_ ?_ ?_) ⟨z.1, zb, h _ (Fm.change (Heap.SameBut.update ..) z.2.1 z.2.2) (kl_turn _ N a c ?_ ?_)⟩
  · simp [Builtin.List.listTooLong, sizeLine]; omega
  · simp [sizeLine]; omega
  · simp [sizeLine]; omega
  · simp
  · simp only [List.size_toArray, List.length_append]; omega
end
end Mine

namespace Mine
/-- a contract that leans on a thing of the ground that stays -/
noncomputable def SpecH (prog : Program) (w : World) (K : Frag) (H : Heap → Prop) (dp un : Nat) (f : Addr) (vs : List Value) (Post : Value → List (Addr × Obj) → Prop) : Prop :=
  ∀ (p : Program) (loose : List Str) (mean : ExcName → Option Value) (mg mb : Str → Option Value) (gd : Option (List Code)) (cn : Str) (cs : Scope) (a : Addr) (ccd : Value) (cl : List (Str × Addr)) (outer : List Env)
    (A₀ : Around) (base h₀ : Heap) (L : Addr) (m : Str → Option Value) (rest : List (Addr × Obj)) (s : Shared) (Q E : Value → Shared → Prop),
    Below A₀ base outer h₀ → Fr h₀ L s.heap m → K.In h₀ → News h₀ L s.heap rest → H h₀ → Top p loose mean mg mb h₀ → CodeHd base 41 37 → CodeHd base 34 30 → cs.kind = .function →
    (∀ r post h' tk', Fr h₀ L h' m → News h₀ L h' (post ++ rest) → ApartL post rest → Post r post → Q r { s with heap := h', toks := tk' }) →
    wpAny (model prog w) (ktrTop dp un gd cn cs L a ccd cl outer) (call (.ref f) vs) Q E s
section
variable {prog : Program} {w : World} {K : Frag} {H : Heap → Prop} {dp un : Nat} {f : Addr} {vs : List Value} {Post : Value → List (Addr × Obj) → Prop}
  {name qual : Str} {params : Arguments} {body : List Stmt} {scope : Scope} {dV kV doc pm cdv ct oc : Value} {an od : Option Addr} {osl : Array (Option Value)} {binds : List (Str × Value)}

theorem SpecH.mono {dp' un' : Nat} (h : SpecH prog w K H dp' un' f vs Post) (h1 : dp ≤ dp') (h2 : un ≤ un') : SpecH prog w K H dp un f vs Post := by
  intro p loose mean mg mb gd cn cs a ccd cl outer A₀ base h₀ L m rest s Q E B F X N D T C1 C2 hk ret
  exact wp_room (A' := ktrTop dp' un' gd cn cs L a ccd cl outer) rfl h1 rfl rfl h2 (h p loose mean mg mb gd cn cs a ccd cl outer A₀ base h₀ L m rest s Q E B F X N D T C1 C2 hk ret)

theorem SpecH.use {dp' un' : Nat} {p : Program} {loose : List Str} {mean : ExcName → Option Value} {mg mb : Str → Option Value} {gd : Option (List Code)} {cn : Str} {cs : Scope} {a : Addr} {ccd : Value} {cl : List (Str × Addr)} {outer : List Env}
    {A₀ : Around} {base h₀ : Heap} {L : Addr} {m : Str → Option Value} {rest : List (Addr × Obj)} {s : Shared} {Q E : Value → Shared → Prop} (h : SpecH prog w K H dp un f vs Post)
    (B : Below A₀ base outer h₀) (F : Fr h₀ L s.heap m) (X : K.In h₀) (N : News h₀ L s.heap rest) (hH : H h₀) (T : Top p loose mean mg mb h₀) (C1 : CodeHd base 41 37) (C2 : CodeHd base 34 30) (hk : cs.kind = .function) (h1 : dp' ≤ dp) (h2 : un' ≤ un)
    (ret : ∀ r post h' tk', Fr h₀ L h' m → News h₀ L h' (post ++ rest) → ApartL post rest → Post r post → Q r { s with heap := h', toks := tk' }) :
    wpAny (model prog w) (ktrTop dp' un' gd cn cs L a ccd cl outer) (call (.ref f) vs) Q E s :=
  h.mono h1 h2 p loose mean mg mb gd cn cs a ccd cl outer A₀ base h₀ L m rest s Q E B F X N hH T C1 C2 hk ret

theorem SpecH.plain (hH : ∀ h h' : Heap, (∀ b o, h.get? b = some o → h'.get? b = some o) → H h → H h')
    (ho : K.lookup f = some ⟨oc, od, .func (fnOf name qual params body scope dV kV doc pm an cdv ct), osl⟩) (hcd : codeIn K cdv qual = true) (hroom : dp < recursionLimit)
    (hbind : ∀ s, BindsTo s (fnOf name qual params body scope dV kV doc pm an cdv ct) ⟨vs, []⟩ binds) (hloc : ∀ y ∈ binds, scope.names.lookup y.1 = some .local)
    (hb : ∀ (p : Program) (loose : List Str) (mean : ExcName → Option Value) (mg mb : Str → Option Value) (gd : Option (List Code)) (cn : Str) (cs : Scope) (a : Addr) (ccd : Value) (cl : List (Str × Addr)) (outer : List Env)
      (base g : Heap) (L L' : Addr) (s : Shared), cs.kind = .function → Fr g L' s.heap (fun y => binds.reverse.lookup y) → News g L' s.heap [] → Below (ktrTop dp un gd cn cs L a ccd cl outer) base (envX cn cs L a ccd cl :: outer) g → K.In g → H g → Top p loose mean mg mb g →
      CodeHd base 41 37 → CodeHd base 34 30 →
      wpAny (model prog w) ((ktrTop dp un gd cn cs L a ccd cl outer).deeper (envOf qual scope L' f cdv)) (execs body (envOf qual scope L' f cdv)) (Done s g Post) (fun _ _ => False) s)
    (hco : scope.isCoroutine = false) (hgen : scope.isGenerator = false) (hk : scope.kind = .function) (hcell : ∀ x ∈ scope.names, x.2 ≠ .cell) : SpecH prog w K H dp un f vs Post := by
  intro p loose mean mg mb gd cn cs a ccd cl outer A₀ base h₀ L m rest s Q E B F X N D T C1 C2 hke ret
  refine wpAny_call ?_
  have NP := news_left (a := []) (b := rest) N
  obtain ⟨FG, BG, st, lv⟩ := groundX (A := ktrTop dp un gd cn cs L a ccd cl outer) (R := fun r s' => match r with | .ok (.ret v) => Q v s' | .ok _ => False | .error _ => False) B F NP rfl rfl hke
  refine codeAny_call_def (fd := fnOf name qual params body scope dV kV doc pm an cdv ct) (body := body) (binds := binds) hroom ((X.keeps F.keep) _ _ ho) rfl (T.nolimit.keeps F.keep) (codeRec_of (X.keeps F.keep) hcd) rfl (hbind s) hcell hloc (fun h₁ hns hk₁ => ?_) hco hgen hk
  refine wpAny_mono (hb p loose mean mg mb gd cn cs a ccd cl outer base (hideAll s.heap (([] : List (Addr × Obj)).map fun (q : Addr × Obj) => q.1)) L s.heap.objs.size { s with heap := h₁, toks := s.toks + binds.length } hke
    ⟨hns, fun b o e => hk₁ b o (of_hideAll _ e), Nat.le_of_eq (hideAll_size _ _)⟩
    (fun p hp => nomatch hp) BG (X.keeps st) (hH _ _ st D) (T.keeps st) C1 C2) (fun fl s' hl => ?_) (fun _ _ y => y.elim)
  obtain ⟨L', m', post, F', N', hp, h', tk', rfl⟩ := hl
  exact back (pre := []) (Post := Post) (s := s) (rest := rest) N (fun _ hq => nomatch hq) lv (fun r post h' tk' a1 a2 a3 a4 => ret r post h' tk' a1 a2 (.to a3) a4) rfl ⟨L', m', post, F', N', hp, h', tk', rfl⟩
end
end Mine
namespace Mine
theorem name_fr {h₀ hp : Heap} {L : Addr} {m : Str → Option Value} {P : Prop} (F : Fr h₀ L hp m) (k : ∀ g l, g = h₀ → l = L → P) : P := k _ _ rfl rfl
theorem name_state {α : Type} {M : Model} {A : Around} {t : Sem α} {Q : α → Shared → Prop} {E : Value → Shared → Prop} {s : Shared} (h : ∀ S, S = s → wpAny M A t Q E S) : wpAny M A t Q E s := h s rfl
end Mine
namespace Mine
section
variable {prog : Program} {w : World} {A : Around} {E : Value → Shared → Prop} {s : Shared} {env : Env} {h₀ : Heap} {x : Str} {body : List Stmt} {Q : Flow → Shared → Prop}
end
end Mine

namespace Mine
section
variable {prog : Program} {w : World} {A : Around} {E : Value → Shared → Prop} {s : Shared} {h₀ : Heap} {L : Addr} {m : Str → Option Value} {news : List (Addr × Obj)}
theorem met_all (ns : List Int) : firstMet (fun i => ns.getD i 0) ns.length = ns.foldl step_dedup [] := by
  unfold firstMet
  congr 1
  refine List.ext_getElem (by simp) fun i h1 h2 => ?_
  simp [List.getD_eq_getElem?_getD, h2]
/-- two ways of a value that come to the same -/
theorem ite_join {α : Type} {M : Model} {c : Prop} [Decidable c] {t1 t2 : Sem α} {Q : α → Shared → Prop} (R : α → Shared → Prop) (h1 : c → wpAny M A t1 R E s) (h2 : ¬ c → wpAny M A t2 R E s) (h : ∀ v s', R v s' → Q v s') :
    if c then wpAny M A t1 Q E s else wpAny M A t2 Q E s := by
  split
  · rename_i hc; exact wpAny_mono (h1 hc) h fun _ _ x => x
  · rename_i hc; exact wpAny_mono (h2 hc) h fun _ _ x => x
end
end Mine
namespace Mine
section
variable {A : Around} {E : Value → Shared → Prop} {s : Shared} {h₀ : Heap} {L : Addr} {m : Str → Option Value} {news : List (Addr × Obj)}
/-- an int, the frame and the ledger as they were -/
noncomputable def IntKeep (s : Shared) (h₀ : Heap) (L : Addr) (m : Str → Option Value) (news : List (Addr × Obj)) (k : Int) (v : Value) (s' : Shared) : Prop := ∃ h tk t, v = .int k t ∧ s' = { s with heap := h, toks := tk } ∧ Fr h₀ L h m ∧ News h₀ L h news
theorem ite_int {M : Model} {c : Prop} [Decidable c] {t1 t2 : Sem Value} {Q : Value → Shared → Prop} (k : Int) (F : Fr h₀ L s.heap m) (N : News h₀ L s.heap news) (h1 : c → wpAny M A t1 (IntKeep s h₀ L m news k) E s) (h2 : ¬ c → wpAny M A t2 (IntKeep s h₀ L m news k) E s)
    (h : ∀ h' tk t, Fr h₀ L h' m → News h₀ L h' news → Q (.int k t) { s with heap := h', toks := tk }) :
    if c then wpAny M A t1 Q E s else wpAny M A t2 Q E s := ite_join _ h1 h2 fun v s' ⟨h', tk, t, e1, e2, F', N'⟩ => by subst e1 e2; exact h h' tk t F' N'
end
end Mine
namespace Mine
section
variable {prog : Program} {w : World} {A : Around} {E Q : Value → Shared → Prop} {s : Shared}
theorem powI {a : Int} {k : Nat} {t u : Tok} (ha : a.natAbs < 2 ^ 64) (hk : k ≤ 1000) (h : ∀ t' tk, Q (.int (a ^ k) t') { s with toks := tk }) : wpAny (model prog w) A (binaryOp .Pow (.int a t) (.int (k : Int) u)) Q E s :=
  pow_int_small (by omega) (by omega) ha (by rw [Int.toNat_natCast]; exact h _ _)
theorem modI {a b : Int} {t u : Tok} (hb : b ≠ 0) (h : ∀ t' tk, Q (.int (a.fmod b) t') { s with toks := tk }) : wpAny (model prog w) A (binaryOp .Mod (.int a t) (.int b u)) Q E s := mod_int' hb (h _ _)
end
end Mine
namespace Mine
section
variable {prog : Program} {w : World} {A : Around} {s : Shared} {h₀ : Heap} {L : Addr} {m : Str → Option Value} {env : Env} {ct elt : PySem.Expr} {x : Str} {scope : Scope} {cl : List (Str × Addr)} {S : List (Addr × Obj) → Prop} {P : Nat → Value → Prop} {Fin : List Value → List (Addr × Obj) → Prop}
/-- a list comprehension with a test, by what holds of the items made so far; the ledger stays -/
theorem compT_inv {n : Nat} {news : List (Addr × Obj)} (Inv : Nat → List Value → Prop) (hS : S news)
    (step : ∀ i ys, i < n → Inv i ys → ∀ v I oI C oC D m₂ h tk (E' : Value → Shared → Prop), P i v → LCg.NsObj oC m₂ → m₂ x = some v → Fr h₀ L h m → News h₀ L h ((I, oI) :: (C, oC) :: (D, LCg.lst ys) :: news) → LCg.Off3 I C D news → ((@Ne Nat I C) ∧ (@Ne Nat I D) ∧ (@Ne Nat C D)) →
      wpAny (model prog w) A (isTrue ct (compEnvC scope cl C env) (eval ct (compEnvC scope cl C env))) (fun ok s₁ =>
        (ok = true → wpAny (model prog w) A (eval elt (compEnvC scope cl C env)) (fun y s₂ => ∃ h' tk', s₂ = { s with heap := h', toks := tk' } ∧ Fr h₀ L h' m ∧ News h₀ L h' ((I, oI) :: (C, oC) :: (D, LCg.lst ys) :: news) ∧ Inv (i + 1) (ys ++ [y])) E' s₁) ∧
        (ok = false → ∃ h' tk', s₁ = { s with heap := h', toks := tk' } ∧ Fr h₀ L h' m ∧ News h₀ L h' ((I, oI) :: (C, oC) :: (D, LCg.lst ys) :: news) ∧ Inv (i + 1) ys)) E' { s with heap := h, toks := tk })
    (done : ∀ ys, Inv n ys → Fin ys news) : ∀ (k i : Nat) (ys : List Value), i + k = n → Inv i ys → LCt.CompRestT prog w A h₀ L m env ct elt x scope cl s S P Fin k i ys news
  | 0, i, ys, e, h => done ys (by rw [← e]; exact h)
  | k + 1, i, ys, e, h => fun v I oI C oC D m₂ hp tk E' hv hC hx F N off ne =>
    wpAny_mono (step i ys (by omega) h v I oI C oC D m₂ hp tk E' hv hC hx F N off ne) (fun ok s₁ hh => by
      cases ok with
      | true =>
        rw [if_pos rfl]
        exact wpAny_mono (hh.1 rfl) (fun y s₂ ⟨h', tk', e2, F', N', hi⟩ => ⟨h', tk', news, e2, F', N', off, hS, compT_inv Inv hS step done k (i + 1) _ (by omega) hi⟩) fun _ _ e => e
      | false =>
        rw [if_neg Bool.false_ne_true]
        obtain ⟨h', tk', e2, F', N', hi⟩ := hh.2 rfl
        exact ⟨h', tk', news, e2, F', N', off, hS, compT_inv Inv hS step done k (i + 1) _ (by omega) hi⟩) fun _ _ e => e
end
end Mine

namespace Mine
section
variable {prog : Program} {w : World} {A₀ : Around} {E : Value → Shared → Prop} {s' : Shared} {g h : Heap} {outer : List Env} {L a e : Addr} {m : Str → Option Value} {cn : Str} {cs : Scope} {ccd : Value} {cl : List (Str × Addr)}
  {b₀ : Stmt} {suite : List Stmt} {pos np : Pos} {rest : List ExceptHandler} {Q : Flow → Shared → Prop} {news : List (Addr × Obj)} {KF : Frag}
  {p : Program} {loose : List Str} {mg mb : Str → Option Value} {x : Str} {X T' : String}
/-- a built-in class of errors is caught in a frame whose names may be cells -/
theorem caught_X (K : Below A₀ g outer g) (F : Fr g L h m) (up : h.UpToSlots s'.heap) (R : RaisedN g (envX cn cs L a ccd cl :: outer) e (.type X) news s'.heap)
    (XF : KF.In g) (T : TopRead p loose mg mb g) (ex : nsIn KF mainGlobals x = some none) (hv : bootBuiltins x = some (.type T')) (hn : x ≠ "__name__")
    (t1 : isSubtype (.type T') (.type "BaseException") = pure true) (t2 : isSubtype (.type ((Manifest.find? T').elim "type" fun y => y.metatype)) (.type "tuple") = pure false) (t3 : isSubtype (.type X) (.type T') = pure true)
    (hk : cs.kind = .function) (hx : (envX cn cs L a ccd cl).kindOf x = some .globalImplicit) (hd : (x == ("__debug__" : Str)) = false)
    (hE : PassesOwnAt (model prog w) ((A₀.deeper (envX cn cs L a ccd cl)).mark (some (.ref e))) (A₀.deeper (envX cn cs L a ccd cl)) (envX cn cs L a ccd cl) E)
    (go : ∀ h', Fr g L h' m → News g L h' news → wpAny (model prog w) ((A₀.deeper (envX cn cs L a ccd cl)).mark (some (.ref e))) (execs (b₀ :: suite) (envX cn cs L a ccd cl)) Q E { s' with heap := h' }) :
    wpAny (model prog w) (A₀.deeper (envX cn cs L a ccd cl)) (noteFrame (.ref e) (envX cn cs L a ccd cl))
      (fun _ s₂ => wpAny (model prog w) (A₀.deeper (envX cn cs L a ccd cl)) (setFlight (.ref e) none) (fun _ s₃ =>
        wpAny (model prog w) (A₀.deeper (envX cn cs L a ccd cl)) (handleBy (.ref e) (envX cn cs L a ccd cl) (.ExceptHandler (some (.Name x np)) none (b₀ :: suite) pos :: rest)) Q E s₃) E s₂) E s' := by
  obtain ⟨B, a0, hB, hl, hfl⟩ := R
  have away : B.get? L = none := by
    obtain ⟨_, ⟨L2, _, hf, hn2, _⟩, _⟩ := hfl.2.2.1
    cases hf
    exact hn2
  refine wpAny_looks_onW (Around.frames_deeper K.stack) rfl hfl fun h1 held1 up1 => wpAny_landsW held1 fun h2 held2 up2 => ?_
  have F2 := F.of_stays (flyingW_base hB held2).1 (up.trans (up1.trans up2))
  obtain ⟨ob, ho, hc⟩ := (flyingW_base hB held2).there
  refine wpAny_handleBy_builtin (X := X) (T := T') (b := true) t1 t2 t3 (nameX_B F2 XF T ex hv hn ⟨rfl, ⟨ob, ho, hc⟩, ?_⟩ hk hx hd)
  refine lands_againW held2 fun h3 fl3 up3 => wpAny_passesOwnAt hE (go h3 (F.of_stays (flyingW_base hB fl3).1 ((up.trans (up1.trans up2)).trans up3)) fun q hq => ?_)
  exact ⟨fl3.1 _ _ (hl q hq).1, (fun z => by have y := (hl q hq).1; rw [z, away] at y; cases y), (hl q hq).2⟩
end
end Mine

namespace Mine

theorem pow_pos2 (k : Nat) : (0 : Int) < 2 ^ k := Int.pow_pos (by decide)

theorem and_low (x : Int) : ∀ (k : Nat) (y : Int), 0 ≤ y → y < 2 ^ k → Builtin.bitAnd (x * 2 ^ k) y = 0
  | 0, y, h0, h1 => by
    have : y = 0 := by have h2 : y < 1 := by simpa using h1
                       omega
    subst this
    have := bitAnd_range (x * 2 ^ 0) (Int.le_refl 0)
    omega
  | k + 1, y, h0, h1 => by
    have e : x * 2 ^ (k + 1) = 2 * (x * 2 ^ k) := by rw [Int.pow_succ]; simp [Int.mul_comm, Int.mul_left_comm]
    rw [kbt_halves, e]
    have e1 : 2 * (x * 2 ^ k) / 2 = x * 2 ^ k := by omega
    have e2 : (2 * (x * 2 ^ k)) % 2 = 0 := by omega
    rw [e1, and_low x k (y / 2) (by omega) (by rw [Int.pow_succ] at h1; omega), e2]
    simp

theorem or_add (x y : Int) : Builtin.bitOr x y = x + y - Builtin.bitAnd x y := by
  have h := bitXor_and x y
  unfold Builtin.bitXor at h
  omega

theorem or_low (x : Int) (k : Nat) (y : Int) (h0 : 0 ≤ y) (h1 : y < 2 ^ k) : Builtin.bitOr (x * 2 ^ k) y = x * 2 ^ k + y := by
  rw [or_add, and_low x k y h0 h1]; omega

theorem and_self' (x : Int) : Builtin.bitAnd x x = x := by
  have h := bitXor_self x
  have h2 := bitXor_and x x
  omega

theorem and_high (u : Int) : ∀ (k : Nat) (r : Int), 0 ≤ r → r < 2 ^ k → Builtin.bitAnd (u * 2 ^ k + r) (u * 2 ^ k) = u * 2 ^ k
  | 0, r, h0, h1 => by
    have : r = 0 := by have h2 : r < 1 := by simpa using h1
                       omega
    subst this
    simp [and_self']
  | k + 1, r, h0, h1 => by
    have e : u * 2 ^ (k + 1) = 2 * (u * 2 ^ k) := by rw [Int.pow_succ]; simp [Int.mul_comm, Int.mul_left_comm]
    rw [kbt_halves, e]
    have e1 : 2 * (u * 2 ^ k) / 2 = u * 2 ^ k := by omega
    have e2 : (2 * (u * 2 ^ k)) % 2 = 0 := by omega
    have e3 : (2 * (u * 2 ^ k) + r) / 2 = u * 2 ^ k + r / 2 := by omega
    rw [e1, e3, and_high u k (r / 2) (by omega) (by rw [Int.pow_succ] at h1; omega), e2]
    simp

theorem xor_high (x : Int) (k : Nat) : Builtin.bitXor x (x / 2 ^ k * 2 ^ k) = x % 2 ^ k := by
  have hp := pow_pos2 k
  have e : x = x / 2 ^ k * 2 ^ k + x % 2 ^ k := by rw [Int.mul_comm]; exact (Int.mul_ediv_add_emod x (2 ^ k)).symm
  have h := and_high (x / 2 ^ k) k (x % 2 ^ k) (Int.emod_nonneg _ (by omega)) (Int.emod_lt_of_pos _ hp)
  rw [← e] at h
  rw [bitXor_and, h]
  omega

/-- quotient and rest are told by their equation -/
theorem fdivmod_of {A b q r : Int} (h : q * b + r = A) (h0 : 0 ≤ r) (h1 : r < b) : A.fdiv b = q ∧ A.fmod b = r := by
  have hb : 0 ≤ b := by omega
  have hb' : b ≠ 0 := by omega
  rw [Int.fdiv_eq_ediv_of_nonneg _ hb, Int.fmod_eq_emod_of_nonneg _ hb, ← h]
  constructor
  · rw [Int.add_comm, Int.add_mul_ediv_right _ _ hb', Int.ediv_eq_zero_of_lt h0 h1]; omega
  · rw [Int.add_comm, Int.add_mul_emod_self_right, Int.emod_eq_of_lt h0 h1]

theorem divmod_of {A b q r : Int} (h : q * b + r = A) (h0 : 0 ≤ r) (h1 : r < b) : A / b = q ∧ A % b = r := by
  have hb : 0 ≤ b := by omega
  rw [← Int.fdiv_eq_ediv_of_nonneg _ hb, ← Int.fmod_eq_emod_of_nonneg _ hb]
  exact fdivmod_of h h0 h1

theorem div2_math {a b p : Int} (hp : 0 < p) (hb : 0 < b) :
    a / p / b * p + (a / p % b * p + a % p) / b = a / b ∧ (a / p % b * p + a % p) % b = a % b ∧ 0 ≤ (a / p % b * p + a % p) / b ∧ (a / p % b * p + a % p) / b < p := by
  have e1 := Int.mul_ediv_add_emod a p
  have e2 := Int.mul_ediv_add_emod (a / p) b
  have r0 := Int.emod_nonneg (a / p) (by omega : b ≠ 0)
  have r1 := Int.emod_lt_of_pos (a / p) hb
  have s0 := Int.emod_nonneg a (by omega : p ≠ 0)
  have s1 := Int.emod_lt_of_pos a hp
  generalize hq : a / p / b = q at *
  generalize hr : a / p % b = r at *
  generalize hx : a % p = x at *
  have e3 : a = (r * p + x) + q * p * b := by
    rw [← e1, ← e2, Int.mul_add, Int.mul_comm p r]
    have : p * (b * q) = q * p * b := by rw [Int.mul_comm b q, ← Int.mul_assoc, Int.mul_comm p q]
    omega
  have m0 : 0 ≤ r * p := Int.mul_nonneg r0 (by omega)
  have m1 : r * p + p ≤ b * p := by
    have : (r + 1) * p ≤ b * p := Int.mul_le_mul_of_nonneg_right (by omega) (by omega)
    rw [Int.add_mul] at this; omega
  refine ⟨?_, ?_, Int.ediv_nonneg (by omega) (by omega), Int.ediv_lt_of_lt_mul hb (by have : p * b = b * p := Int.mul_comm _ _; omega)⟩
  · rw [e3, Int.add_mul_ediv_right _ _ (by omega)]; omega
  · rw [e3, Int.add_mul_emod_self_right]

theorem div2_parts {a : Int} (k : Nat) : a / 2 ^ (2 * k) * 2 ^ k + a / 2 ^ k % 2 ^ k = a / 2 ^ k := by
  have : a / 2 ^ (2 * k) = a / 2 ^ k / 2 ^ k := by
    rw [Int.ediv_ediv_of_nonneg (Int.le_of_lt (pow_pos2 k)), ← Int.pow_add]; congr 2; omega
  rw [this, Int.mul_comm]
  exact Int.mul_ediv_add_emod _ _

theorem bits_le {x : Int} {k : Nat} (h0 : 0 ≤ x) (h : x < 2 ^ k) : Builtin.Int.intBits x ≤ k := by
  unfold Builtin.Int.intBits
  split
  · omega
  · rename_i hx
    have hx' : x ≠ 0 := by simpa using hx
    have h2 : x.natAbs < 2 ^ k := by
      have : ((2 ^ k : Nat) : Int) = (2 : Int) ^ k := by simp
      omega
    have := (Nat.log2_lt (by omega)).mpr h2
    omega
theorem bits_lt {x : Int} (h0 : 0 ≤ x) : x < 2 ^ Builtin.Int.intBits x := by
  unfold Builtin.Int.intBits
  split
  · rename_i hx
    have : x = 0 := by simpa using hx
    subst this; decide
  · rename_i hx
    have hx' : x ≠ 0 := by simpa using hx
    have h2 := Nat.lt_log2_self (n := x.natAbs)
    have : ((2 ^ (x.natAbs.log2 + 1) : Nat) : Int) = (2 : Int) ^ (x.natAbs.log2 + 1) := by simp
    omega
theorem bits_ge {x : Int} (h0 : 0 < x) : 1 ≤ Builtin.Int.intBits x ∧ 2 ^ (Builtin.Int.intBits x - 1) ≤ x := by
  unfold Builtin.Int.intBits
  rw [if_neg (by simp; omega)]
  refine ⟨by omega, ?_⟩
  have h2 := Nat.log2_self_le (n := x.natAbs) (by omega)
  have : ((2 ^ (x.natAbs.log2) : Nat) : Int) = (2 : Int) ^ (x.natAbs.log2) := by simp
  show (2 : Int) ^ (x.natAbs.log2 + 1 - 1) ≤ x
  rw [Nat.add_sub_cancel]
  omega
/-- the figures of x by 2 ^ n, the least first -/
noncomputable def digitsOf (n : Nat) (x : Int) (k : Nat) : List Int := (List.range k).map fun i => x / 2 ^ (n * i) % 2 ^ n
end Mine

namespace Mine

/-- figures laid into a list from a place on -/
noncomputable def put (lo : Nat) (ds ns : List Int) : List Int := ns.take lo ++ (ds ++ ns.drop (lo + ds.length))

theorem put_length {lo : Nat} {ds ns : List Int} (h : lo + ds.length ≤ ns.length) : (put lo ds ns).length = ns.length := by
  simp [put]; omega
theorem put_one {lo : Nat} {x : Int} {ns : List Int} (h : lo < ns.length) : put lo [x] ns = ns.set lo x := by
  simp only [put, List.length_singleton, List.set_eq_take_append_cons_drop, h, if_true, List.singleton_append]
theorem put_put {lo : Nat} {d1 d2 ns : List Int} (h : lo + d1.length + d2.length ≤ ns.length) : put (lo + d1.length) d2 (put lo d1 ns) = put lo (d1 ++ d2) ns := by
  have hl : (ns.take lo).length = lo := by simp; omega
  have e1 : (ns.take lo ++ (d1 ++ ns.drop (lo + d1.length))).take (lo + d1.length) = ns.take lo ++ d1 := by
    rw [← List.append_assoc, List.take_left' (by simp; omega)]
  have e2 : (ns.take lo ++ (d1 ++ ns.drop (lo + d1.length))).drop (lo + d1.length + d2.length) = ns.drop (lo + d1.length + d2.length) := by
    rw [← List.append_assoc, List.drop_append, List.drop_eq_nil_of_le (by simp; omega)]
    simp only [List.nil_append, List.drop_drop, List.length_append, hl]
    congr 1; omega
  unfold put
  rw [e1, e2]
  simp only [List.append_assoc, List.length_append, Nat.add_assoc]
theorem put_whole (ds : List Int) : put 0 ds (List.replicate ds.length 0) = ds := by simp [put]

theorem digits_length (n : Nat) (x : Int) (k : Nat) : (digitsOf n x k).length = k := by simp [digitsOf]
theorem digits_one {n : Nat} {x : Int} (h0 : 0 ≤ x) (h1 : x < 2 ^ n) : digitsOf n x 1 = [x] := by
  simp [digitsOf, List.range_one, Int.emod_eq_of_lt h0 h1]

theorem div_pow_add (x : Int) (a b : Nat) : x / 2 ^ (a + b) = x / 2 ^ a / 2 ^ b := by
  rw [Int.pow_add, Int.ediv_ediv_of_nonneg (Int.le_of_lt (pow_pos2 a))]
theorem low_digit (x : Int) {a b n : Nat} (h : b + n ≤ a) : x % 2 ^ a / 2 ^ b % 2 ^ n = x / 2 ^ b % 2 ^ n := by
  have hp := pow_pos2 b
  have e : (2 : Int) ^ a = 2 ^ b * (2 ^ n * 2 ^ (a - b - n)) := by rw [← Int.pow_add, ← Int.pow_add]; congr 1; omega
  have e1 := Int.mul_ediv_add_emod x (2 ^ a)
  have e2 : x / 2 ^ b = x % 2 ^ a / 2 ^ b + 2 ^ n * (2 ^ (a - b - n) * (x / 2 ^ a)) := by
    have : x = x % 2 ^ a + 2 ^ b * (2 ^ n * (2 ^ (a - b - n) * (x / 2 ^ a))) := by
      have h3 : 2 ^ b * (2 ^ n * (2 ^ (a - b - n) * (x / 2 ^ a))) = 2 ^ a * (x / 2 ^ a) := by rw [e]; simp only [Int.mul_assoc]
      rw [h3]; omega
    conv => lhs; rw [this]
    rw [Int.add_mul_ediv_left _ _ (by omega)]
  rw [e2, Int.add_mul_emod_self_left]
theorem digits_split (n : Nat) (x : Int) (k1 k2 : Nat) : digitsOf n x (k1 + k2) = digitsOf n (x % 2 ^ (k1 * n)) k1 ++ digitsOf n (x / 2 ^ (k1 * n)) k2 := by
  unfold digitsOf
  rw [List.range_add, List.map_append, List.map_map]
  congr 1
  · apply List.map_congr_left
    intro i hi
    have hi' : i < k1 := List.mem_range.mp hi
    refine (low_digit x ?_).symm
    have : n * i + n ≤ n * k1 := by rw [← Nat.mul_succ]; exact Nat.mul_le_mul_left n hi'
    rw [Nat.mul_comm k1 n]; exact this
  · apply List.map_congr_left
    intro i _
    show x / 2 ^ (n * (k1 + i)) % 2 ^ n = _
    rw [Nat.mul_add, Nat.mul_comm n k1, div_pow_add]

/-- the number that figures stand for, the least first -/
noncomputable def evalD (n : Nat) : List Int → Int
  | [] => 0
  | d :: r => d + evalD n r * 2 ^ n
theorem evalD_append (n : Nat) (a b : List Int) : evalD n (a ++ b) = evalD n a + evalD n b * 2 ^ (a.length * n) := by
  induction a with
  | nil => simp [evalD]
  | cons d r ih =>
    rw [List.cons_append, evalD, ih, evalD, List.length_cons, Nat.succ_mul, Int.pow_add, Int.add_mul, Int.mul_assoc]
    omega
end Mine

namespace Mine
/-- a piece of a list -/
noncomputable def seg (lo k : Nat) (ns : List Int) : List Int := (ns.drop lo).take k
theorem seg_length {lo k : Nat} {ns : List Int} (h : lo + k ≤ ns.length) : (seg lo k ns).length = k := by simp [seg]; omega
theorem seg_one {lo : Nat} {ns : List Int} (h : lo < ns.length) : seg lo 1 ns = [ns.getD lo 0] := by
  unfold seg
  rw [List.drop_eq_getElem_cons h, List.take_succ_cons, List.take_zero, List.getD_eq_getElem?_getD, List.getElem?_eq_getElem h, Option.getD_some]
theorem seg_add (lo k1 k2 : Nat) (ns : List Int) : seg lo (k1 + k2) ns = seg lo k1 ns ++ seg (lo + k1) k2 ns := by
  unfold seg
  rw [List.take_add, List.drop_drop]
theorem seg_whole (ns : List Int) : seg 0 ns.length ns = ns := by simp [seg]
theorem evalD_bound (n : Nat) : ∀ (l : List Int), (∀ d ∈ l, 0 ≤ d ∧ d < 2 ^ n) → 0 ≤ evalD n l ∧ evalD n l < 2 ^ (l.length * n)
  | [], _ => ⟨Int.le_refl _, by simp [evalD]⟩
  | d :: r, h => by
    have ih := evalD_bound n r fun x hx => h x (List.mem_cons_of_mem _ hx)
    have hd := h d (List.mem_cons_self ..)
    have hp := pow_pos2 n
    have h1 : 0 ≤ evalD n r * 2 ^ n := Int.mul_nonneg ih.1 (Int.le_of_lt hp)
    have h2 : (evalD n r + 1) * 2 ^ n ≤ 2 ^ (r.length * n) * 2 ^ n := Int.mul_le_mul_of_nonneg_right (by omega) (Int.le_of_lt hp)
    rw [Int.add_mul, Int.one_mul, ← Int.pow_add] at h2
    refine ⟨by simp only [evalD]; omega, ?_⟩
    simp only [evalD, List.length_cons, Nat.succ_mul]
    omega
theorem seg_sub {lo k : Nat} {ns : List Int} {P : Int → Prop} (h : ∀ d ∈ ns, P d) : ∀ d ∈ seg lo k ns, P d := fun d hd => h d (List.mem_of_mem_drop (List.mem_of_mem_take hd))
end Mine

namespace Mine

/-- the schoolbook division, figure by figure, the highest first: the quotient's figures so far, the rest -/
noncomputable def divLoop (n : Nat) (b : Int) : List Int → Int → List Int → List Int × Int
  | [], r, qs => (qs, r)
  | d :: ds, r, qs => divLoop n b ds ((r * 2 ^ n + d) % b) (qs ++ [(r * 2 ^ n + d) / b])

theorem divLoop_spec (n : Nat) (b : Int) (hb : 0 < b) : ∀ (ds : List Int) (r : Int) (qs : List Int), 0 ≤ r → r < b → (∀ d ∈ ds, 0 ≤ d ∧ d < 2 ^ n) →
    ∃ q', (divLoop n b ds r qs).1 = qs ++ q' ∧ q'.length = ds.length ∧ (∀ q ∈ q', 0 ≤ q ∧ q < 2 ^ n) ∧
      evalD n q'.reverse = (r * 2 ^ (ds.length * n) + evalD n ds.reverse) / b ∧ (divLoop n b ds r qs).2 = (r * 2 ^ (ds.length * n) + evalD n ds.reverse) % b
  | [], r, qs, h0, h1, _ => by
    refine ⟨[], by simp [divLoop], rfl, by simp, ?_, ?_⟩
    · simp [evalD, Int.ediv_eq_zero_of_lt h0 h1]
    · simp [divLoop, evalD, Int.emod_eq_of_lt h0 h1]
  | d :: ds, r, qs, h0, h1, hd => by
    have hp := pow_pos2 n
    have hd0 := hd d (List.mem_cons_self ..)
    generalize hA : r * 2 ^ n + d = A
    have ha0 : 0 ≤ A := by have := Int.mul_nonneg h0 (Int.le_of_lt hp); omega
    have ha1 : A < b * 2 ^ n := by
      have : (r + 1) * 2 ^ n ≤ b * 2 ^ n := Int.mul_le_mul_of_nonneg_right (by omega) (Int.le_of_lt hp)
      rw [Int.add_mul] at this; omega
    obtain ⟨q', e1, e2, e3, e4, e5⟩ := divLoop_spec n b hb ds (A % b) (qs ++ [A / b]) (Int.emod_nonneg _ (by omega)) (Int.emod_lt_of_pos _ hb) fun x hx => hd x (List.mem_cons_of_mem _ hx)
    have hq0 : 0 ≤ A / b := Int.ediv_nonneg ha0 (by omega)
    have hq1 : A / b < 2 ^ n := Int.ediv_lt_of_lt_mul hb (by rw [Int.mul_comm]; exact ha1)
    have key : r * 2 ^ ((d :: ds).length * n) + evalD n (d :: ds).reverse = (A % b * 2 ^ (ds.length * n) + evalD n ds.reverse) + A / b * 2 ^ (ds.length * n) * b := by
      rw [List.reverse_cons, evalD_append, List.length_reverse, List.length_cons, Nat.succ_mul, Int.pow_add]
      have e6 : A = A / b * b + A % b := by rw [Int.mul_comm]; exact (Int.mul_ediv_add_emod A b).symm
      simp only [evalD, Int.zero_mul, Int.add_zero]
      generalize (2 : Int) ^ (ds.length * n) = P
      have e7 : r * (P * 2 ^ n) + d * P = A * P := by
        rw [← hA, Int.add_mul, Int.mul_comm P (2 ^ n), Int.mul_assoc]
      have e8 : A * P = A / b * P * b + A % b * P := by
        conv => lhs; rw [e6]
        rw [Int.add_mul, Int.mul_assoc, Int.mul_comm b P, ← Int.mul_assoc]
      omega
    refine ⟨A / b :: q', ?_, by simp [e2], ?_, ?_, ?_⟩
    · simp only [divLoop, hA, e1, List.append_assoc, List.singleton_append]
    · intro q hq
      rcases List.mem_cons.mp hq with rfl | hq
      · exact ⟨hq0, hq1⟩
      · exact e3 q hq
    · rw [key, Int.add_mul_ediv_right _ _ (by omega), List.reverse_cons, evalD_append, e4, List.length_reverse, e2]
      simp only [evalD, Int.zero_mul, Int.add_zero]
    · rw [key, Int.add_mul_emod_self_right]
      simp only [divLoop, hA]
      exact e5

theorem evalD_digits (n : Nat) : ∀ (k : Nat) (x : Int), 0 ≤ x → x < 2 ^ (k * n) → evalD n (digitsOf n x k) = x
  | 0, x, h0, h1 => by
    have : x = 0 := by simp at h1; omega
    subst this; rfl
  | k + 1, x, h0, h1 => by
    have hp := pow_pos2 n
    have e := digits_split n x 1 k
    rw [Nat.add_comm 1 k, Nat.one_mul] at e
    have h2 : digitsOf n (x % 2 ^ n) 1 = [x % 2 ^ n] := digits_one (Int.emod_nonneg _ (by omega)) (Int.emod_lt_of_pos _ hp)
    rw [e, h2, List.singleton_append, evalD, evalD_digits n k (x / 2 ^ n) (Int.ediv_nonneg h0 (by omega)) (Int.ediv_lt_of_lt_mul hp (by rw [← Int.pow_add, ← Nat.succ_mul]; exact h1))]
    have := Int.mul_ediv_add_emod x (2 ^ n)
    rw [Int.mul_comm] at this
    omega
theorem digits_bound (n : Nat) (x : Int) (k : Nat) : ∀ d ∈ digitsOf n x k, 0 ≤ d ∧ d < 2 ^ n := by
  intro d hd
  obtain ⟨i, _, rfl⟩ := List.mem_map.mp hd
  have hp := pow_pos2 n
  exact ⟨Int.emod_nonneg _ (by omega), Int.emod_lt_of_pos _ hp⟩

theorem divLoop_whole {n : Nat} {a b : Int} {k : Nat} (hb : 0 < b) (h0 : 0 ≤ a) (h1 : a < 2 ^ (k * n)) :
    evalD n (divLoop n b (digitsOf n a k).reverse 0 []).1.reverse = a / b ∧ (divLoop n b (digitsOf n a k).reverse 0 []).2 = a % b ∧
    (∀ q ∈ (divLoop n b (digitsOf n a k).reverse 0 []).1, 0 ≤ q ∧ q < 2 ^ n) ∧ (divLoop n b (digitsOf n a k).reverse 0 []).1.length = k := by
  obtain ⟨q', e1, e2, e3, e4, e5⟩ := divLoop_spec n b hb (digitsOf n a k).reverse 0 [] (Int.le_refl _) hb fun d hd => digits_bound n a k d (List.mem_reverse.mp hd)
  rw [List.nil_append] at e1
  rw [List.reverse_reverse, evalD_digits n k a h0 h1, Int.zero_mul, Int.zero_add] at e4 e5
  rw [e1]
  exact ⟨e4, e5, e3, by rw [e2, List.length_reverse, digits_length]⟩
theorem ints_rev : ∀ {vs : List Value} {ns : List Int}, IntsAre vs ns → IntsAre vs.reverse ns.reverse := by
  have app : ∀ {vs ws : List Value} {ns ms : List Int}, IntsAre vs ns → IntsAre ws ms → IntsAre (vs ++ ws) (ns ++ ms) := by
    intro vs ws ns ms h
    induction h with
    | nil => intro k; exact k
    | cons i t _ ih => intro k; exact .cons i t (ih k)
  intro vs ns h
  induction h with
  | nil => exact .nil
  | cons i t _ ih => rw [List.reverse_cons, List.reverse_cons]; exact app ih (.cons i t .nil)
theorem ints_append {vs ws : List Value} {ns ms : List Int} (h : IntsAre vs ns) (k : IntsAre ws ms) : IntsAre (vs ++ ws) (ns ++ ms) := by
  induction h with
  | nil => exact k
  | cons i t _ ih => exact .cons i t ih
end Mine

namespace Mine

/-- one number of the overlap table, as the text seeks it -/
noncomputable def ovGo (p : List Int) (t : List Nat) (x : Int) : Nat → Nat → Nat
  | 0, _ => 0
  | f + 1, i => if x = p.getD i 0 then i + 1 else if i = 0 then 0 else ovGo p t x f (t.getD (i - 1) 0)
/-- the overlap table's first k numbers -/
noncomputable def ovTab (p : List Int) : Nat → List Nat
  | 0 => []
  | k + 1 => ovTab p k ++ [if k = 0 then 0 else ovGo p (ovTab p k) (p.getD k 0) (k + 1) ((ovTab p k).getD (k - 1) 0)]

theorem ovTab_length (p : List Int) : ∀ k, (ovTab p k).length = k
  | 0 => rfl
  | k + 1 => by rw [ovTab, List.length_append, ovTab_length p k]; rfl
theorem ovGo_le {p : List Int} {t : List Nat} {x : Int} (ht : ∀ j, t.getD j 0 ≤ j) : ∀ f i, ovGo p t x f i ≤ i + 1
  | 0, i => Nat.zero_le _
  | f + 1, i => by
    unfold ovGo
    split
    · exact Nat.le_refl _
    · split
      · exact Nat.zero_le _
      · have h1 := ovGo_le ht f (t.getD (i - 1) 0) (p := p) (x := x)
        have h2 := ht (i - 1)
        omega
theorem ovTab_le (p : List Int) : ∀ k j, (ovTab p k).getD j 0 ≤ j
  | 0, j => by simp [ovTab]
  | k + 1, j => by
    rw [ovTab, List.getD_eq_getElem?_getD, List.getElem?_append, ovTab_length]
    split
    · rw [← List.getD_eq_getElem?_getD]; exact ovTab_le p k j
    · rename_i hj
      rcases Nat.lt_or_eq_of_le (Nat.le_of_not_lt hj) with h | h
      · rw [List.getElem?_eq_none (by simp; omega)]; exact Nat.zero_le _
      · subst h
        rw [Nat.sub_self]
        show (if k = 0 then 0 else _) ≤ k
        split
        · omega
        · have h1 := ovGo_le (ovTab_le p k) (k + 1) ((ovTab p k).getD (k - 1) 0) (p := p) (x := p.getD k 0)
          have h2 := ovTab_le p k (k - 1)
          omega
theorem ovGo_fuel {p : List Int} {t : List Nat} {x : Int} (ht : ∀ j, t.getD j 0 ≤ j) : ∀ i f, i < f → ovGo p t x f i = ovGo p t x (i + 1) i := by
  intro i
  induction i using Nat.strongRecOn with
  | ind i ih =>
    intro f hf
    obtain ⟨f, rfl⟩ : ∃ g, f = g + 1 := ⟨f - 1, by omega⟩
    unfold ovGo
    split
    · rfl
    · split
      · rfl
      · have h2 := ht (i - 1)
        rw [ih (t.getD (i - 1) 0) (by omega) f (by omega), ih (t.getD (i - 1) 0) (by omega) i (by omega)]

/-- the table as the text has it when the turn for i begins -/
noncomputable def tabI (p : List Int) (i : Nat) : List Int := (ovTab p i).map (fun v : Nat => (v : Int)) ++ List.replicate (p.length - i) 0
theorem tabI_length {p : List Int} {i : Nat} (h : i ≤ p.length) : (tabI p i).length = p.length := by
  simp [tabI, ovTab_length]; omega
theorem tabI_get {p : List Int} {i j : Nat} (h : j < i) : (tabI p i).getD j 0 = (((ovTab p i).getD j 0 : Nat) : Int) := by
  unfold tabI
  rw [List.getD_eq_getElem?_getD, List.getElem?_append_left (by simp [ovTab_length]; exact h), List.getElem?_map, List.getD_eq_getElem?_getD]
  rw [List.getElem?_eq_getElem (by rw [ovTab_length]; exact h)]
  rfl
theorem tabI_set {p : List Int} {i : Nat} (h : i < p.length) (v : Nat) (hv : (if i = 0 then 0 else ovGo p (ovTab p i) (p.getD i 0) (i + 1) ((ovTab p i).getD (i - 1) 0)) = v) : (tabI p i).set i (v : Int) = tabI p (i + 1) := by
  unfold tabI
  rw [List.set_append_right _ _ (by simp [ovTab_length]), List.length_map, ovTab_length, Nat.sub_self]
  obtain ⟨m, hm⟩ : ∃ m, p.length - i = m + 1 := ⟨p.length - i - 1, by omega⟩
  rw [hm, List.replicate_succ, List.set_cons_zero, ovTab, hv, List.map_append, List.append_assoc, show p.length - (i + 1) = m by omega]
  rfl
theorem tabI_one {p : List Int} (h : 1 ≤ p.length) : tabI p 1 = List.replicate p.length 0 := by
  obtain ⟨m, hm⟩ : ∃ m, p.length = m + 1 := ⟨p.length - 1, by omega⟩
  simp [tabI, ovTab, hm, List.replicate_succ]
theorem tabI_whole (p : List Int) : tabI p p.length = (ovTab p p.length).map (fun v : Nat => (v : Int)) := by simp [tabI]
end Mine

namespace Mine
/-- one place made alike with the one a period ahead -/
noncomputable def rowTurn (period : Nat) (row : List Int) (place : Nat) : List Int :=
  row.map fun s => if s = row.getD place 0 then row.getD (place - period) 0 else s
/-- the first j places of a period's turn -/
noncomputable def rowPer (period : Nat) (row : List Int) : Nat → List Int
  | 0 => row
  | j + 1 => rowTurn period (rowPer period row j) (period + j)
noncomputable def rowStart (count : Nat) : List Int := (List.range count).map fun (i : Nat) => (i : Int)
noncomputable def rowAll (count : Nat) : List Nat → List Int → List Int
  | [], row => row
  | p :: ps, row => rowAll count ps (rowPer p row (count - p))
theorem rowTurn_length (period : Nat) (row : List Int) (place : Nat) : (rowTurn period row place).length = row.length := by simp [rowTurn]
theorem rowPer_length (period : Nat) (row : List Int) : ∀ j, (rowPer period row j).length = row.length
  | 0 => rfl
  | j + 1 => by rw [rowPer, rowTurn_length, rowPer_length period row j]
theorem rowAll_length (count : Nat) : ∀ (ps : List Nat) (row : List Int), (rowAll count ps row).length = row.length
  | [], _ => rfl
  | p :: ps, row => by rw [rowAll, rowAll_length count ps, rowPer_length]
/-- the borders, from the last number of the table down -/
noncomputable def chainGo (t : List Nat) : Nat → Nat → List Nat
  | 0, _ => []
  | f + 1, b => if b = 0 then [] else b :: chainGo t f (t.getD (b - 1) 0)
/-- Euclid's measure by eight turns -/
noncomputable def measGo : Nat → Nat × Nat → Nat × Nat
  | 0, x => x
  | k + 1, (u, l) => measGo k (if l = 0 then (u, l) else (l, u % l))
/-- Euclid's run over borders, turn by turn: the borders, the count, the small and the large period -/
structure BSt where
  bs : List Nat
  count : Nat
  small : Nat
  large : Nat
deriving DecidableEq
noncomputable def downs (count small q : Nat) : List Nat := (List.range q).map fun k => count - (k + 1) * small
noncomputable def bTurn (g : Nat) (x : BSt) : BSt :=
  if x.large < x.count ∧ x.count + g < x.small + x.large then
    ⟨x.bs ++ downs x.count x.small (x.large / x.small), (x.bs ++ downs x.count x.small (x.large / x.small)).getLastD 0, x.large % x.small, x.small⟩
  else x
noncomputable def bGo (g : Nat) : Nat → BSt → BSt
  | 0, x => x
  | k + 1, x => bTurn g (bGo g k x)
/-- in a turn that acts: the small period is not nought, something is put to the borders, nothing falls below nought -/
noncomputable def bOk (g : Nat) (x : BSt) : Bool :=
  if x.large < x.count ∧ x.count + g < x.small + x.large then decide (0 < x.small ∧ 1 ≤ x.large / x.small ∧ x.large / x.small * x.small ≤ x.count) else true
noncomputable def bEnd (g : Nat) (x : BSt) : List Nat :=
  let small := if x.large < x.count then g else x.small
  x.bs ++ downs x.count small ((x.count - 1) / small)
noncomputable def bEndOk (g : Nat) (x : BSt) : Bool := decide (1 ≤ x.count ∧ 0 < if x.large < x.count then g else x.small)
noncomputable def law2 (small large count : Nat) : Bool :=
  let g := (measGo 8 (small, large)).1
  let row := rowAll count [small, large] (rowStart count)
  let t := ovTab row count
  let signs : Int := if large ≥ count then min (small : Int) count else max ((small : Int) + large - count) g
  let x := bGo g 8 ⟨[], count, small, large⟩
  (List.range 8).all (fun k => bOk g (bGo g k ⟨[], count, small, large⟩)) && bEndOk g x &&
    decide ((((row.foldl step_dedup []).length : Nat) : Int) = signs) && decide (chainGo t 20 (t.getLastD 0) = bEnd g x)
end Mine

namespace Mine
theorem scale_fdiv {a b U : Int} (hb : 0 < b) (hU : U ≠ 0) : (a * U).fdiv (b * U) = a / b := by
  have e := Int.mul_ediv_add_emod a b
  have e1 := Int.emod_nonneg a (by omega : b ≠ 0)
  have e2 := Int.emod_lt_of_pos a hb
  have key : ∀ V : Int, 0 < V → (a * V).fdiv (b * V) = a / b := by
    intro V hV
    refine (fdivmod_of (q := a / b) (r := a % b * V) ?_ (Int.mul_nonneg e1 (Int.le_of_lt hV)) (Int.mul_lt_mul_of_pos_right e2 hV)).1
    rw [← Int.mul_assoc, ← Int.add_mul, Int.mul_comm (a / b) b, e]
  rcases Int.lt_or_gt_of_ne hU with h | h
  · rw [← Int.neg_fdiv_neg, ← Int.mul_neg, ← Int.mul_neg]
    exact key (-U) (by omega)
  · exact key U h
theorem scale_fmod {a b U : Int} (hb : 0 < b) (hU : U ≠ 0) : (a * U).fmod (b * U) = a % b * U := by
  have h1 := Int.mul_fdiv_add_fmod (a * U) (b * U)
  rw [scale_fdiv hb hU] at h1
  have e := Int.mul_ediv_add_emod a b
  have h2 : b * U * (a / b) + a % b * U = a * U := by
    rw [Int.mul_assoc, Int.mul_comm U, ← Int.mul_assoc, ← Int.add_mul, e]
  omega
theorem bits_abs {x : Int} {k : Nat} (h : x.natAbs < 2 ^ k) : Builtin.Int.intBits x ≤ k := by
  unfold Builtin.Int.intBits
  split
  · omega
  · rename_i hx
    have hx' : x ≠ 0 := by simpa using hx
    have := (Nat.log2_lt (by omega)).mpr h
    omega
theorem bits_abs_lt (x : Int) : x.natAbs < 2 ^ Builtin.Int.intBits x := by
  unfold Builtin.Int.intBits
  split
  · rename_i hx
    have : x = 0 := by simpa using hx
    subst this; decide
  · exact Nat.lt_log2_self
theorem bits_mono {x y : Int} (h : x.natAbs ≤ y.natAbs) : Builtin.Int.intBits x ≤ Builtin.Int.intBits y := bits_abs (Nat.lt_of_le_of_lt h (bits_abs_lt y))
theorem bits_mul (x y : Int) : Builtin.Int.intBits (x * y) ≤ Builtin.Int.intBits x + Builtin.Int.intBits y := by
  by_cases h0 : x * y = 0
  · rw [h0]; exact Nat.zero_le _
  refine bits_abs ?_
  rw [Int.natAbs_mul, Nat.pow_add]
  exact Nat.mul_lt_mul'' (bits_abs_lt x) (bits_abs_lt y)
theorem bits_add (x y : Int) (k : Nat) (h1 : Builtin.Int.intBits x ≤ k) (h2 : Builtin.Int.intBits y ≤ k) : Builtin.Int.intBits (x + y) ≤ k + 1 := by
  refine bits_abs ?_
  have a := Nat.lt_of_lt_of_le (bits_abs_lt x) (Nat.pow_le_pow_right (by decide : 0 < 2) h1)
  have b := Nat.lt_of_lt_of_le (bits_abs_lt y) (Nat.pow_le_pow_right (by decide : 0 < 2) h2)
  have := Int.natAbs_add_le x y
  rw [Nat.pow_succ]; omega
theorem bits_scale {v : Nat} {U : Int} (hv : 1 ≤ v) : Builtin.Int.intBits U ≤ Builtin.Int.intBits ((v : Int) * U) := by
  refine bits_mono ?_
  rw [Int.natAbs_mul, Int.natAbs_natCast]
  exact Nat.le_mul_of_pos_left _ hv
theorem bits_small {v : Nat} (h : v ≤ 200) : Builtin.Int.intBits (v : Int) ≤ 8 := bits_abs (by rw [Int.natAbs_natCast]; omega)
end Mine

namespace Mine
/-- a number as great as 3 ** 2600 -/
noncomputable def BigP (P : Int) : Prop := (2 : Int) ^ 4000 ≤ P ∧ P + 100000000 < (2 : Int) ^ 4150
theorem bigP_pow : BigP ((3 : Int) ^ Int.toNat 2600) := by
  unfold BigP
  decide +kernel
theorem bits_atleast {x : Int} {k : Nat} (h : 2 ^ k ≤ x.natAbs) : k ≤ Builtin.Int.intBits x := by
  have := bits_abs_lt x
  have h2 : 2 ^ k < 2 ^ Builtin.Int.intBits x := Nat.lt_of_le_of_lt h this
  exact Nat.le_of_lt ((Nat.pow_lt_pow_iff_right (by decide)).mp h2)
theorem bigP_abs {P c : Int} (h : BigP P) (h1 : 0 ≤ c) (h2 : c ≤ 64000000) : 2 ^ 4000 ≤ (P + c).natAbs ∧ (P + c).natAbs < 2 ^ 4150 := by
  obtain ⟨a, b⟩ := h
  have e1 : (2 : Int) ^ 4000 = ((2 ^ 4000 : Nat) : Int) := by norm_cast
  have e2 : (2 : Int) ^ 4150 = ((2 ^ 4150 : Nat) : Int) := by norm_cast
  rw [e1] at a
  rw [e2] at b
  generalize (2 ^ 4000 : Nat) = X at *
  generalize (2 ^ 4150 : Nat) = Y at *
  omega
theorem unit_ok {P c : Int} (h : BigP P) (h1 : 0 ≤ c) (h2 : c ≤ 64000000) : (1000 ≤ Builtin.Int.intBits (P + c) ∧ Builtin.Int.intBits (P + c) ≤ 4200) ∧ 0 < P + c := by
  obtain ⟨a, b⟩ := bigP_abs h h1 h2
  refine ⟨⟨Nat.le_trans (by decide : 1000 ≤ 4000) (bits_atleast a), Nat.le_trans (bits_abs b) (by decide : 4150 ≤ 4200)⟩, ?_⟩
  have := h.1
  have e1 : (2 : Int) ^ 4000 = ((2 ^ 4000 : Nat) : Int) := by norm_cast
  rw [e1] at this
  have : 0 < 2 ^ 4000 := Nat.pow_pos (by decide)
  generalize (2 ^ 4000 : Nat) = X at *
  omega
theorem bits_neg' (x : Int) : Builtin.Int.intBits (-x) = Builtin.Int.intBits x := by
  apply Nat.le_antisymm <;> exact bits_mono (by rw [Int.natAbs_neg]; omega)
theorem unit_ok2 {V e : Int} (h : 1000 ≤ Builtin.Int.intBits V ∧ Builtin.Int.intBits V ≤ 4200) (he : e = 0 ∨ e = 1) : 1000 ≤ Builtin.Int.intBits (V * (1 - e * 2)) ∧ Builtin.Int.intBits (V * (1 - e * 2)) ≤ 4200 := by
  rcases he with rfl | rfl
  · simpa using h
  · have : V * (1 - 1 * 2) = -V := by omega
    rw [this]
    rw [bits_neg']
    exact h
end Mine
namespace Mine
theorem unit_all {P c e : Int} (h : BigP P) (hc : 0 ≤ c ∧ c ≤ 64000000) (he : e = 0 ∨ e = 1) :
    1000 ≤ Builtin.Int.intBits ((P + c) * (1 - e * 2)) ∧ Builtin.Int.intBits ((P + c) * (1 - e * 2)) ≤ 4200 := unit_ok2 (unit_ok h hc.1 hc.2).1 he
theorem unit_room {P c e : Int} (h : BigP P) (hc : 0 ≤ c ∧ c ≤ 64000000) (he : e = 0 ∨ e = 1) :
    Builtin.Int.intBits (P + c) + Builtin.Int.intBits (1 - e * 2) ≤ 2 ^ 27 := by
  have := (unit_ok h hc.1 hc.2).1.2
  have h2 : Builtin.Int.intBits (1 - e * 2) ≤ 2 := by rcases he with rfl | rfl <;> decide
  omega
end Mine
namespace Mine
theorem log2_of_bits {x : Int} {k : Nat} (h0 : x ≠ 0) (h : Builtin.Int.intBits x ≤ k) : x.natAbs.log2 < k := by
  unfold Builtin.Int.intBits at h
  rw [if_neg (by simpa using h0)] at h
  omega
end Mine

namespace Mine
/-- p's first k numbers stand at the end of p's first m -/
noncomputable def IsB (p : List Int) (m k : Nat) : Prop := k ≤ m ∧ ∀ j, j < k → p.getD j 0 = p.getD (m - k + j) 0
/-- the greatest border that is less than the whole -/
noncomputable def MaxB (p : List Int) (m k : Nat) : Prop := k < m ∧ IsB p m k ∧ ∀ k', k' < m → IsB p m k' → k' ≤ k

theorem IsB.down {p : List Int} {m i k : Nat} (h1 : IsB p m i) (h2 : IsB p i k) : IsB p m k := by
  refine ⟨Nat.le_trans h2.1 h1.1, fun j hj => ?_⟩
  have a := h2.2 j hj
  have b := h1.2 (i - k + j) (by have := h2.1; omega)
  rw [a, b]
  congr 1
  have := h2.1; have := h1.1; omega
theorem IsB.inner {p : List Int} {m i k : Nat} (h1 : IsB p m i) (h2 : IsB p m k) (hk : k ≤ i) : IsB p i k := by
  refine ⟨hk, fun j hj => ?_⟩
  have a := h2.2 j hj
  have b := h1.2 (i - k + j) (by omega)
  rw [a, b]
  congr 1
  have := h1.1; omega
theorem IsB.up {p : List Int} {m k : Nat} (h : IsB p m k) (e : p.getD k 0 = p.getD m 0) : IsB p (m + 1) (k + 1) := by
  refine ⟨by have := h.1; omega, fun j hj => ?_⟩
  by_cases hj2 : j = k
  · subst hj2
    rw [e]; congr 1; have := h.1; omega
  · rw [h.2 j (by omega)]
    congr 1; have := h.1; omega
theorem IsB.pred {p : List Int} {m k : Nat} (h : IsB p (m + 1) (k + 1)) : IsB p m k ∧ p.getD k 0 = p.getD m 0 := by
  have h1 := h.1
  refine ⟨⟨by omega, fun j hj => ?_⟩, ?_⟩
  · rw [h.2 j (by omega)]; congr 1; omega
  · rw [h.2 k (by omega)]; congr 1; omega
theorem ovGo_max {p : List Int} {t : List Nat} {n : Nat} (ht : ∀ j, j < n → MaxB p (j + 1) (t.getD j 0)) :
    ∀ f i, i < f → i < n → IsB p n i → (∀ k', k' < n → i < k' → IsB p n k' → p.getD k' 0 ≠ p.getD n 0) → MaxB p (n + 1) (ovGo p t (p.getD n 0) f i) := by
  intro f
  induction f with
  | zero => intro i hi; omega
  | succ f ih =>
    intro i hf hi hb hmax
    unfold ovGo
    split
    · rename_i hx
      refine ⟨by omega, hb.up hx.symm, fun k' hk hk' => ?_⟩
      rcases k' with _ | k'
      · omega
      · obtain ⟨a, b⟩ := hk'.pred
        rcases Nat.lt_or_ge i k' with h | h
        · exact absurd b (hmax k' (by omega) h a)
        · omega
    · rename_i hx
      split
      · rename_i h0
        subst h0
        refine ⟨by omega, ⟨Nat.zero_le _, fun j hj => by omega⟩, fun k' hk hk' => ?_⟩
        rcases k' with _ | k'
        · omega
        · obtain ⟨a, b⟩ := hk'.pred
          rcases Nat.lt_or_ge 0 k' with h | h
          · exact absurd b (hmax k' (by omega) h a)
          · have : k' = 0 := by omega
            subst this
            exact absurd b.symm hx
      · rename_i h0
        have hi1 := ht (i - 1) (by omega)
        rw [show i - 1 + 1 = i by omega] at hi1
        refine ih _ (by have := hi1.1; omega) (by have := hi1.1; omega) (hb.down hi1.2.1) fun k' hk hk2 hk' => ?_
        rcases Nat.lt_trichotomy k' i with h | h | h
        · have := hi1.2.2 k' h (hb.inner hk' (by omega)); omega
        · subst h; exact fun e => hx e.symm
        · exact hmax k' hk h hk'
theorem ovTab_get (p : List Int) {n i : Nat} : ∀ {k}, i < n → n ≤ k → (ovTab p k).getD i 0 = (ovTab p n).getD i 0 := by
  intro k hi hk
  induction k with
  | zero => omega
  | succ k ih =>
    rcases Nat.lt_or_eq_of_le hk with h | h
    · rw [ovTab, List.getD_eq_getElem?_getD, List.getElem?_append_left (by rw [ovTab_length]; omega), ← List.getD_eq_getElem?_getD]
      exact ih (by omega)
    · rw [h]
/-- the table tells the greatest border at each place -/
theorem ovTab_max (p : List Int) : ∀ n i, i < n → MaxB p (i + 1) ((ovTab p n).getD i 0) := by
  intro n
  induction n with
  | zero => intro i hi; omega
  | succ n ih =>
    intro i hi
    rcases Nat.lt_or_eq_of_le (Nat.le_of_lt_succ hi) with h | h
    · rw [ovTab_get p h (Nat.le_succ n)]; exact ih i h
    · subst h
      have e : (ovTab p (i + 1)).getD i 0 = if i = 0 then 0 else ovGo p (ovTab p i) (p.getD i 0) (i + 1) ((ovTab p i).getD (i - 1) 0) := by
        rw [ovTab, List.getD_eq_getElem?_getD, List.getElem?_append_right (by rw [ovTab_length]; exact Nat.le_refl _), ovTab_length, Nat.sub_self]
        rfl
      rw [e]
      split
      · rename_i h0; subst h0
        exact ⟨by omega, ⟨Nat.zero_le _, fun j hj => by omega⟩, fun k' hk _ => by omega⟩
      · rename_i h0
        have h1 := ih (i - 1) (by omega)
        rw [show i - 1 + 1 = i by omega] at h1
        refine ovGo_max ih _ _ (by have := h1.1; omega) (by have := h1.1; omega) h1.2.1 fun k' hk hk2 hk' => ?_
        have := h1.2.2 k' hk hk'; omega
theorem MaxB.eq {p : List Int} {m a b : Nat} (h1 : MaxB p m a) (h2 : MaxB p m b) : a = b := Nat.le_antisymm (h2.2.2 a h1.1 h1.2.1) (h1.2.2 b h2.1 h2.2.1)
end Mine

namespace Mine
/-- the rest of f times B to the k by u, and the figure behind it -/
noncomputable def restOf (f u B : Int) (k : Nat) : Int := (f * B ^ k).fmod u
noncomputable def figOf (f u B : Int) (k : Nat) : Int := (restOf f u B k * B).fdiv u
noncomputable def wholeOf (f u B : Int) (k : Nat) : Int := (f * B ^ k).fdiv u

theorem whole_rest (f u B : Int) (k : Nat) : u * wholeOf f u B k + restOf f u B k = f * B ^ k := Int.mul_fdiv_add_fmod _ _
theorem fd_step {A u q r : Int} (hu : u ≠ 0) (e : u * q + r = A) (c : Int) : (A * c).fdiv u = q * c + (r * c).fdiv u ∧ (A * c).fmod u = (r * c).fmod u := by
  have h : A * c = r * c + u * (q * c) := by rw [← e, Int.add_mul, Int.mul_assoc, Int.add_comm]
  rw [h]
  constructor
  · rw [Int.add_mul_fdiv_left _ _ hu]; omega
  · rw [Int.add_mul_fmod_self_left]
theorem rest_step {f u B : Int} (hu : u ≠ 0) (k : Nat) : restOf f u B (k + 1) = restOf f u B k * B - u * figOf f u B k := by
  have h1 := (fd_step hu (whole_rest f u B k) B).2
  have h2 := Int.mul_fdiv_add_fmod (restOf f u B k * B) u
  unfold figOf
  rw [show restOf f u B (k + 1) = (f * B ^ k * B).fmod u by rw [restOf, Int.pow_succ, Int.mul_assoc], h1]
  omega
theorem whole_step {f u B : Int} (hu : u ≠ 0) (k : Nat) : wholeOf f u B (k + 1) = wholeOf f u B k * B + figOf f u B k := by
  have h1 := (fd_step hu (whole_rest f u B k) B).1
  rw [show wholeOf f u B (k + 1) = (f * B ^ k * B).fdiv u by rw [wholeOf, Int.pow_succ, Int.mul_assoc], h1]
  rfl
theorem fig_bound {f u B : Int} (hu : u ≠ 0) (hB : 0 < B) (k : Nat) : 0 ≤ figOf f u B k ∧ figOf f u B k < B := by
  have key : ∀ v r : Int, 0 < v → 0 ≤ r → r < v → 0 ≤ (r * B).fdiv v ∧ (r * B).fdiv v < B := by
    intro v r hv h0 h1
    rw [Int.fdiv_eq_ediv_of_nonneg _ (Int.le_of_lt hv)]
    refine ⟨Int.ediv_nonneg (Int.mul_nonneg h0 (Int.le_of_lt hB)) (Int.le_of_lt hv), ?_⟩
    refine Int.ediv_lt_of_lt_mul hv ?_
    rw [Int.mul_comm B v]
    exact Int.mul_lt_mul_of_pos_right h1 hB
  unfold figOf
  rcases Int.lt_or_gt_of_ne hu with h | h
  · rw [← Int.neg_fdiv_neg, ← Int.neg_mul]
    have e : -restOf f u B k = (-(f * B ^ k)).fmod (-u) := by unfold restOf; rw [Int.neg_fmod_neg]
    refine key (-u) _ (by omega) ?_ ?_
    · rw [e]; exact Int.fmod_nonneg_of_pos _ (by omega)
    · rw [e]; exact Int.fmod_lt_of_pos _ (by omega)
  · exact key u _ h (Int.fmod_nonneg_of_pos _ h) (Int.fmod_lt_of_pos _ h)
/-- two rows of figures told alike by their rests -/
theorem alike {u B : Int} {x y d e : Nat → Int} (hu : u ≠ 0) (hB : 0 < B) (hx : ∀ i, x (i + 1) = x i * B - u * d i) (hy : ∀ i, y (i + 1) = y i * B - u * e i)
    (hd : ∀ i, 0 ≤ d i ∧ d i < B) (he : ∀ i, 0 ≤ e i ∧ e i < B) (a : Nat) : ∀ k, ((x a - y 0) * B ^ k = x (a + k) - y k) ↔ ∀ j, j < k → e j = d (a + j) := by
  have key : ∀ k, ∃ t : Int, x (a + k) - y k - (x a - y 0) * B ^ k = u * t ∧ (t = 0 ↔ ∀ j, j < k → e j = d (a + j)) := by
    intro k
    induction k with
    | zero => exact ⟨0, by simp, by simp⟩
    | succ k ih =>
      obtain ⟨t, h1, h2⟩ := ih
      refine ⟨t * B - (d (a + k) - e k), ?_, ?_⟩
      · rw [show a + (k + 1) = a + k + 1 from rfl, hx, hy, Int.pow_succ]
        have : u * (t * B - (d (a + k) - e k)) = (u * t) * B - u * d (a + k) + u * e k := by
          rw [Int.mul_sub, Int.mul_sub, Int.mul_assoc]; omega
        have h9 : ∀ X Y Z W : Int, (X - Y - Z * W) * B = X * B - Y * B - Z * (W * B) := fun X Y Z W => by rw [Int.sub_mul, Int.sub_mul, Int.mul_assoc]
        rw [this, ← h1, h9]
        generalize (x a - y 0) * (B ^ k * B) = G
        omega
      · constructor
        · intro h
          have h3 := hd (a + k)
          have h4 := he k
          have ht : t = 0 := by
            rcases Int.lt_trichotomy t 0 with g | g | g
            · have : t * B ≤ -1 * B := Int.mul_le_mul_of_nonneg_right (by omega) (by omega)
              omega
            · exact g
            · have : 1 * B ≤ t * B := Int.mul_le_mul_of_nonneg_right (by omega) (by omega)
              omega
          subst ht
          intro j hj
          rcases Nat.lt_or_eq_of_le (Nat.le_of_lt_succ hj) with g | g
          · exact h2.mp rfl j g
          · subst g; omega
        · intro h
          rw [h2.mpr fun j hj => h j (by omega), h k (by omega)]
          omega
  intro k
  obtain ⟨t, h1, h2⟩ := key k
  rw [← h2]
  constructor
  · intro h
    have : u * t = 0 := by rw [← h1, h]; omega
    rcases Int.mul_eq_zero.mp this with g | g
    · exact absurd g hu
    · exact g
  · intro h
    subst h
    omega
/-- the greatest number up to a bound for which a thing holds -/
noncomputable def lapMax (c : Nat → Bool) : Nat → Nat
  | 0 => 0
  | m + 1 => if c (m + 1) then m + 1 else lapMax c m
theorem lapMax_spec (c : Nat → Bool) (h0 : c 0 = true) : ∀ m, lapMax c m ≤ m ∧ c (lapMax c m) = true ∧ ∀ k, k ≤ m → c k = true → k ≤ lapMax c m
  | 0 => ⟨Nat.le_refl _, h0, fun k hk _ => hk⟩
  | m + 1 => by
    unfold lapMax
    split
    · rename_i h
      exact ⟨Nat.le_refl _, h, fun k hk _ => hk⟩
    · rename_i h
      obtain ⟨a, b, d⟩ := lapMax_spec c h0 m
      refine ⟨by omega, b, fun k hk hc => ?_⟩
      rcases Nat.lt_or_eq_of_le hk with g | g
      · exact d k (by omega) hc
      · subst g; exact absurd hc h
/-- what the law asks at a place -/
noncomputable def lapC (x y : Nat → Int) (B : Int) (p k : Nat) : Bool := decide ((x (p - k) - y 0) * B ^ k = x p - y k)
noncomputable def figRow (f u B : Int) (n : Nat) : List Int := (List.range n).map (figOf f u B)
theorem figRow_get {f u B : Int} {n i : Nat} (h : i < n) : (figRow f u B n).getD i 0 = figOf f u B i := by
  simp [figRow, List.getD_eq_getElem?_getD, h]
noncomputable def text1 (f1 f2 u B : Int) (few : Nat) : List Int := figRow f1 u B few ++ [B] ++ figRow f2 u B 8
theorem text1_low {f1 f2 u B : Int} {few i : Nat} (h : i < few) : (text1 f1 f2 u B few).getD i 0 = figOf f1 u B i := by
  rw [text1, List.getD_eq_getElem?_getD, List.append_assoc, List.getElem?_append_left (by simp only [figRow, List.length_map, List.length_range]; exact h), ← List.getD_eq_getElem?_getD, figRow_get h]
theorem text1_bar {f1 f2 u B : Int} {few : Nat} : (text1 f1 f2 u B few).getD few 0 = B := by
  rw [text1, List.getD_eq_getElem?_getD, List.append_assoc, List.getElem?_append_right (by simp [figRow])]
  simp [figRow]
theorem text1_high {f1 f2 u B : Int} {few i : Nat} (h : i < 8) : (text1 f1 f2 u B few).getD (few + 1 + i) 0 = figOf f2 u B i := by
  rw [text1, List.getD_eq_getElem?_getD, List.getElem?_append_right (by simp [figRow]), ← List.getD_eq_getElem?_getD]
  rw [show few + 1 + i - (figRow f1 u B few ++ [B]).length = i by simp [figRow], figRow_get h]
noncomputable def due1 (f1 f2 u B : Int) (few : Nat) : List Nat :=
  (List.range few).map (fun i => lapMax (lapC (restOf f1 u B) (restOf f1 u B) B (i + 1)) i) ++ [0] ++ (List.range 8).map fun i => lapMax (lapC (restOf f2 u B) (restOf f1 u B) B (i + 1)) (min (i + 1) few)
theorem lap_zero (x y : Nat → Int) (B : Int) (p : Nat) : lapC x y B p 0 = true := by simp [lapC]

theorem app3 {α : Type} (a b : List α) (z : α) {n : Nat} (p : Nat) (h : a.length = n) : (a ++ [z] ++ b)[n + 1 + p]? = b[p]? := by
  rw [List.getElem?_append_right (by simp; omega)]
  congr 1; simp; omega
theorem law1_table {f1 f2 u B : Int} {few : Nat} (hu : u ≠ 0) (hB : 0 < B) : ovTab (text1 f1 f2 u B few) (few + 9) = due1 f1 f2 u B few := by
  have hl : (due1 f1 f2 u B few).length = few + 9 := by simp [due1]
  have hb1 := fun k => fig_bound (f := f1) (u := u) hu hB k
  have hb2 := fun k => fig_bound (f := f2) (u := u) hu hB k
  have al1 := fun a k => alike (u := u) (B := B) (x := restOf f1 u B) (y := restOf f1 u B) hu hB (rest_step hu) (rest_step hu) hb1 hb1 a k
  have al2 := fun a k => alike (u := u) (B := B) (x := restOf f2 u B) (y := restOf f1 u B) hu hB (rest_step hu) (rest_step hu) hb2 hb1 a k
  refine List.ext_getElem (by rw [ovTab_length, hl]) fun i h1 h2 => ?_
  rw [ovTab_length] at h1
  have hm := ovTab_max (text1 f1 f2 u B few) (few + 9) i h1
  rw [List.getD_eq_getElem?_getD, List.getElem?_eq_getElem (by rw [ovTab_length]; exact h1), Option.getD_some] at hm
  refine hm.eq ?_
  rcases Nat.lt_trichotomy i few with hi | hi | hi
  · have e : (due1 f1 f2 u B few)[i] = lapMax (lapC (restOf f1 u B) (restOf f1 u B) B (i + 1)) i := by
      simp [due1, List.getElem_append, hi]
    rw [e]
    obtain ⟨a, b, c⟩ := lapMax_spec _ (lap_zero (restOf f1 u B) (restOf f1 u B) B (i + 1)) i
    generalize lapMax (lapC (restOf f1 u B) (restOf f1 u B) B (i + 1)) i = r at *
    have iff : ∀ k, k ≤ i → (lapC (restOf f1 u B) (restOf f1 u B) B (i + 1) k = true ↔ IsB (text1 f1 f2 u B few) (i + 1) k) := by
      intro k hk
      have := al1 (i + 1 - k) k
      rw [show i + 1 - k + k = i + 1 by omega] at this
      rw [lapC, decide_eq_true_iff, this]
      constructor
      · intro h
        refine ⟨by omega, fun j hj => ?_⟩
        rw [text1_low (by omega), text1_low (by omega)]
        exact h j hj
      · rintro ⟨_, h⟩ j hj
        have := h j hj
        rw [text1_low (by omega), text1_low (by omega)] at this
        exact this
    exact ⟨by omega, (iff r a).mp b, fun k' hk hk' => c k' (by omega) ((iff k' (by omega)).mpr hk')⟩
  · subst hi
    have e : (due1 f1 f2 u B i)[i] = 0 := by
      simp [due1, List.getElem_append]
    rw [e]
    refine ⟨by omega, ⟨Nat.zero_le _, fun j hj => by omega⟩, fun k' hk hk' => ?_⟩
    rcases k' with _ | k'
    · omega
    · have := hk'.pred.2
      rw [text1_bar, text1_low (by omega)] at this
      have := hb1 k'
      omega
  · obtain ⟨p, rfl⟩ : ∃ p, i = few + 1 + p := ⟨i - (few + 1), by omega⟩
    have hp : p < 8 := by omega
    have e : (due1 f1 f2 u B few)[few + 1 + p] = lapMax (lapC (restOf f2 u B) (restOf f1 u B) B (p + 1)) (min (p + 1) few) := by
      have e0 : (due1 f1 f2 u B few)[few + 1 + p]? = some (lapMax (lapC (restOf f2 u B) (restOf f1 u B) B (p + 1)) (min (p + 1) few)) := by
        rw [due1, app3 _ _ _ _ (by simp), List.getElem?_map, List.getElem?_range hp]; rfl
      exact (List.getElem?_eq_some_iff.mp e0).2
    rw [e]
    clear e
    obtain ⟨a, b, c⟩ := lapMax_spec _ (lap_zero (restOf f2 u B) (restOf f1 u B) B (p + 1)) (min (p + 1) few)
    generalize lapMax (lapC (restOf f2 u B) (restOf f1 u B) B (p + 1)) (min (p + 1) few) = r at *
    have m1 : min (p + 1) few ≤ p + 1 := Nat.min_le_left ..
    have m2 : min (p + 1) few ≤ few := Nat.min_le_right ..
    have m3 : ∀ k, ¬ k ≤ min (p + 1) few → k ≤ few → p + 1 < k := fun k h1 h2 => Nat.lt_of_not_le fun h => h1 (Nat.le_min.mpr ⟨h, h2⟩)
    generalize min (p + 1) few = m at *
    have iff : ∀ k, k ≤ m → (lapC (restOf f2 u B) (restOf f1 u B) B (p + 1) k = true ↔ IsB (text1 f1 f2 u B few) (few + 1 + p + 1) k) := by
      intro k hk
      have := al2 (p + 1 - k) k
      rw [show p + 1 - k + k = p + 1 by omega] at this
      rw [lapC, decide_eq_true_iff, this]
      have e2 : ∀ j, j < k → few + 1 + p + 1 - k + j = few + 1 + (p + 1 - k + j) := fun j hj => by omega
      constructor
      · intro h
        refine ⟨by omega, fun j hj => ?_⟩
        rw [text1_low (by omega), e2 j hj, text1_high (by omega)]
        exact h j hj
      · rintro ⟨_, h⟩ j hj
        have := h j hj
        rw [text1_low (by omega), e2 j hj, text1_high (by omega)] at this
        exact this
    refine ⟨by omega, (iff r a).mp b, fun k' hk hk' => ?_⟩
    by_cases g : k' ≤ m
    · exact c k' g ((iff k' g).mpr hk')
    · exfalso
      rcases Nat.lt_or_ge few k' with g1 | g1
      · -- the bar stands among the first k'
        have h3 := hk'.2 few g1
        rw [text1_bar, show few + 1 + p + 1 - k' + few = few + 1 + (p + 1 + few - k') by omega, text1_high (by omega)] at h3
        have := hb2 (p + 1 + few - k')
        omega
      · -- the bar stands among the last k'
        have g2 := m3 k' g g1
        clear m1 m2 m3 g a
        have h3 := hk'.2 (k' - (p + 2)) (by omega)
        rw [show few + 1 + p + 1 - k' + (k' - (p + 2)) = few by omega, text1_bar, text1_low (by omega)] at h3
        have := hb1 (k' - (p + 2))
        omega
/-- the digits, noughts put ahead, are the figures -/
theorem whole_shift {f u : Int} {w : Nat} (hu : u ≠ 0) : ∀ i n, wholeOf f u (2 ^ w) (n + i) / 2 ^ (w * i) = wholeOf f u (2 ^ w) n
  | 0, n => by simp
  | i + 1, n => by
    have hB : (0 : Int) < 2 ^ w := pow_pos2 w
    have h2 := fig_bound (f := f) hu hB (n + i)
    rw [show n + (i + 1) = n + i + 1 from rfl, whole_step hu, Nat.mul_succ, Nat.add_comm (w * i) w, div_pow_add, Int.add_comm, Int.add_mul_ediv_right _ _ (by omega), Int.ediv_eq_zero_of_lt h2.1 h2.2, Int.zero_add]
    exact whole_shift hu i n
theorem digits_figs {f u : Int} {w n : Nat} (hu : u ≠ 0) : (digitsOf w (wholeOf f u (2 ^ w) n % 2 ^ (w * n)) n).reverse = figRow f u (2 ^ w) n := by
  refine List.ext_getElem (by simp [digitsOf, figRow]) fun i h1 h2 => ?_
  have hi : i < n := by simpa [figRow] using h2
  rw [List.getElem_reverse]
  simp only [digitsOf, figRow, List.getElem_map, List.getElem_range, List.length_map, List.length_range]
  have hB : (0 : Int) < 2 ^ w := pow_pos2 w
  obtain ⟨j, hj⟩ : ∃ j, n - 1 - i = j ∧ n = i + 1 + j := ⟨n - 1 - i, rfl, by omega⟩
  rw [hj.1, low_digit _ (by rw [hj.2, Nat.mul_add, Nat.mul_add, Nat.mul_one]; omega)]
  rw [hj.2, whole_shift hu, whole_step hu]
  have h3 := fig_bound (f := f) hu hB i
  rw [Int.mul_comm, Int.mul_add_emod_self_left, Int.emod_eq_of_lt h3.1 h3.2]
theorem digits_pad {w : Nat} {x : Int} {K n : Nat} (h0 : 0 ≤ x) (h1 : x < 2 ^ (K * w)) (hK : K ≤ n) : digitsOf w x K ++ List.replicate (n - K) 0 = digitsOf w x n := by
  obtain ⟨m, rfl⟩ : ∃ m, n = K + m := ⟨n - K, by omega⟩
  rw [digits_split, Int.emod_eq_of_lt h0 h1, Int.ediv_eq_zero_of_lt h0 h1, show K + m - K = m by omega]
  congr 1
  refine List.ext_getElem (by simp [digitsOf]) fun i a b => ?_
  simp [digitsOf]
theorem bits_K {x : Int} {w n : Nat} (hw : 1 ≤ w) (h0 : 0 ≤ x) (h1 : x < 2 ^ (w * n)) : (Builtin.Int.intBits x + w - 1) / w ≤ n ∧ x < 2 ^ ((Builtin.Int.intBits x + w - 1) / w * w) := by
  have hb := bits_le h0 h1
  refine ⟨Nat.le_of_lt_succ ((Nat.div_lt_iff_lt_mul (by omega)).mpr ?_), Int.lt_of_lt_of_le (bits_lt h0) ?_⟩
  · rw [Nat.succ_mul, Nat.mul_comm n w]; omega
  · have e := Nat.div_add_mod (Builtin.Int.intBits x + w - 1) w
    have e2 := Nat.mod_lt (Builtin.Int.intBits x + w - 1) (by omega : 0 < w)
    have h := Nat.pow_le_pow_right (n := 2) (by decide) (show Builtin.Int.intBits x ≤ (Builtin.Int.intBits x + w - 1) / w * w by rw [Nat.mul_comm]; omega)
    have e3 : ∀ j : Nat, (2 : Int) ^ j = ((2 ^ j : Nat) : Int) := fun j => by simp
    rw [e3, e3]; omega
end Mine

namespace Mine
theorem scale_pos {a b U : Int} (hb : b ≠ 0) (hU : 0 < U) : (a * U).fdiv (b * U) = a.fdiv b ∧ (a * U).fmod (b * U) = a.fmod b * U := by
  have key : (a * U).fdiv (b * U) = a.fdiv b := by
    rcases Int.lt_or_gt_of_ne hb with h | h
    · rw [← Int.neg_fdiv_neg (a * U), ← Int.neg_fdiv_neg a, ← Int.neg_mul, ← Int.neg_mul, scale_fdiv (by omega) (by omega), Int.fdiv_eq_ediv_of_nonneg _ (by omega)]
    · rw [scale_fdiv h (by omega), Int.fdiv_eq_ediv_of_nonneg _ (Int.le_of_lt h)]
  refine ⟨key, ?_⟩
  have h1 := Int.mul_fdiv_add_fmod (a * U) (b * U)
  have h2 := Int.mul_fdiv_add_fmod a b
  rw [key] at h1
  have h3 : b * U * (a.fdiv b) + a.fmod b * U = a * U := by
    rw [Int.mul_assoc, Int.mul_comm U, ← Int.mul_assoc, ← Int.add_mul, h2]
  omega
theorem fig_facts {f u U : Int} {wd n : Nat} (hu : u ≠ 0) (hU : 0 < U) :
    ((f * U) * 2 ^ (wd * n)).fdiv (u * U) = wholeOf f u (2 ^ wd) n ∧ ((f * U) * 2 ^ (wd * n)).fmod (u * U) = U * restOf f u (2 ^ wd) n ∧
      (digitsOf wd (wholeOf f u (2 ^ wd) n % 2 ^ (wd * n)) n).reverse = figRow f u (2 ^ wd) n := by
  have e : (f * U) * 2 ^ (wd * n) = (f * (2 ^ wd) ^ n) * U := by
    rw [← Int.pow_mul, Int.mul_assoc, Int.mul_comm U, ← Int.mul_assoc]
  obtain ⟨a, b⟩ := scale_pos (a := f * (2 ^ wd) ^ n) hu hU
  rw [e]
  exact ⟨a, by rw [b, Int.mul_comm]; rfl, digits_figs hu⟩
theorem rest_abs {f u B : Int} (hu : u ≠ 0) (k : Nat) : (restOf f u B k).natAbs < u.natAbs := by
  unfold restOf
  rcases Int.lt_or_gt_of_ne hu with h | h
  · have e := Int.neg_fmod_neg (a := f * B ^ k) (b := u)
    have h1 := Int.fmod_nonneg_of_pos (-(f * B ^ k)) (b := -u) (by omega)
    have h2 := Int.fmod_lt_of_pos (-(f * B ^ k)) (b := -u) (by omega)
    omega
  · have h1 := Int.fmod_nonneg_of_pos (f * B ^ k) h
    have h2 := Int.fmod_lt_of_pos (f * B ^ k) h
    omega
theorem rest_bits {f u B : Int} (hu : u ≠ 0) (hub : u.natAbs ≤ 24) (k : Nat) : Builtin.Int.intBits (restOf f u B k) ≤ 8 := bits_abs (by have := rest_abs (f := f) (B := B) hu k; omega)
theorem whole_bits {f u B : Int} {n k : Nat} (hu : u ≠ 0) (hub : u.natAbs ≤ 24) (h8 : 8 ≤ k) (h : Builtin.Int.intBits (f * B ^ n) ≤ k) : Builtin.Int.intBits (wholeOf f u B n) ≤ k + 1 := by
  have e := whole_rest f u B n
  have h1 : Builtin.Int.intBits (u * wholeOf f u B n) ≤ k + 1 := by
    rw [show u * wholeOf f u B n = f * B ^ n + -(restOf f u B n) by omega]
    exact bits_add _ _ k h (by rw [bits_neg']; exact Nat.le_trans (rest_bits hu hub n) h8)
  refine Nat.le_trans (bits_mono ?_) h1
  rw [Int.natAbs_mul]
  exact Nat.le_mul_of_pos_left _ (by omega)
theorem bits_up {u U : Int} (hu : u ≠ 0) : Builtin.Int.intBits U ≤ Builtin.Int.intBits (u * U) := by
  refine bits_mono ?_
  rw [Int.natAbs_mul]
  exact Nat.le_mul_of_pos_left _ (by omega)
end Mine

set_option maxHeartbeats 8000000 in
open_top hd for PySem.Challenge.rw_rl0044_01
namespace Mine
set_option maxHeartbeats 4000000
local macro_rules | `(tactic| walk_at "mine:pj") => `(tactic| focus (first | (refine Hid.out ?_; with_reducible assumption) | (apply And.left; (iterate 24 (first | done | (refine Hid.out ?_; with_reducible assumption) | apply And.right)); done) | (apply And.right; (iterate 24 (first | done | (refine Hid.out ?_; with_reducible assumption) | apply And.right)); done)))
local macro_rules | `(tactic| walk_at "mine:up") => `(tactic| focus ((iterate 12 (first | done | (with_reducible assumption) | (with_reducible exact Nat.lt_add_one _) | (with_reducible apply Nat.lt_add_one_of_lt) | (focus (first | (apply And.left; (iterate 12 (first | done | (with_reducible assumption) | apply And.right)); done) | (apply And.right; (iterate 12 (first | done | (with_reducible assumption) | apply And.right)); done))))); done))
local macro_rules | `(tactic| k_ne) => `(tactic| (refine neN ?_; (try dsimp only); (first | (with_reducible assumption) | (refine Ne.symm ?_; with_reducible assumption) | (refine Nat.ne_of_lt ?_; walk_at "mine:up") | (refine Nat.ne_of_gt ?_; walk_at "mine:up") | walk_at "mine:pj" | (refine Ne.symm ?_; walk_at "mine:pj") | decide | omega | ((repeat (with_reducible rename Hid _ => hHid; have hOut := Hid.out hHid; clear hHid)); first | ((repeat (with_reducible rename _ ∧ _ => hAnd; rcases hAnd with ⟨_, _⟩)); first | (with_reducible assumption) | (refine Ne.symm ?_; with_reducible assumption) | (refine Nat.ne_of_lt ?_; with_reducible assumption) | (refine Nat.ne_of_gt ?_; with_reducible assumption)) | omega))))
local macro_rules | `(tactic| walk_at "mine:halt") => `(tactic| first
  | (with_reducible show wpAny _ _ (call (Value.ref _) _) _ _ _)
  | (with_reducible show wpAny _ _ (binaryOp Operator.LShift _ _) _ _ _)
  | (with_reducible show wpAny _ _ (inplaceOp Operator.LShift _ _) _ _ _)
  | (with_reducible show wpAny _ _ (binaryOp Operator.RShift _ _) _ _ _)
  | (with_reducible show wpAny _ _ (inplaceOp Operator.RShift _ _) _ _ _)
  | (with_reducible show wpAny _ _ (binaryOp Operator.Mult _ _) _ _ _)
  | (with_reducible show wpAny _ _ (exec (Stmt.While _ _ _ _) _) _ _ _)
  | (with_reducible show wpAny _ _ (exec (Stmt.For _ _ _ _ _) _) _ _ _)
  | (with_reducible show wpAny _ _ (pyIter _) _ _ _)
  | (with_reducible show wpAny _ _ (execs (Stmt.If _ _ _ _ :: _) _) _ _ _)
  | (with_reducible show wpAny _ _ (execs (Stmt.FunctionDef _ _ _ _ _ _ _ _ _ _ :: _) _) _ _ _)
  | (with_reducible show ite _ _ _))
local macro_rules | `(tactic| walk_at "mine:steps") => `(tactic| repeat' (first | ((fail_if_success walk_at "mine:halt"); first | ((first | (with_reducible show wpAny _ _ _ _ _ _) | (with_reducible show Frag.In _ _ ∧ _) | (with_reducible show FnAt _ _) | (with_reducible show FnAt _ _ ∧ _)); walk1) | (dsimp only; (first | (with_reducible show wpAny _ _ _ _ _ _) | (with_reducible show Frag.In _ _ ∧ _) | (with_reducible show FnAt _ _) | (with_reducible show FnAt _ _ ∧ _)); (fail_if_success walk_at "mine:halt"); walk1)) | fail "no step"))
section
theorem resetF1 : True := by
  w_top off
  exact trivial


abbrev tup (vs : List Value) : Obj := { cls := .type "tuple", data := .seq vs.toArray }
/-- a pair of ints comes back -/
abbrev Pair (q r : Int) (v : Value) (post : List (Addr × Obj)) : Prop := ∃ x tq tr, v = .ref x ∧ post = [(x, tup [.int q tq, .int r tr])]


section
variable {prog : Program} {w : World} {A : Around} {E : Value → Shared → Prop} {s : Shared} {Q : Value → Shared → Prop}
theorem rsh {a : Int} {n : Nat} {t u : Tok} (h : ∀ t' tk, Q (.int (a / 2 ^ n) t') { s with toks := tk }) : wpAny (model prog w) A (binaryOp .RShift (.int a t) (.int (n : Int) u)) Q E s := by
  refine rshift_int (by omega) ?_
  rw [Int.toNat_natCast, Int.fdiv_eq_ediv_of_nonneg _ (Int.le_of_lt (pow_pos2 n))]
  exact h _ _
theorem lsh {a : Int} {n : Nat} {t u : Tok} (hz : Builtin.Int.intBits a + n ≤ 2 ^ 27) (h : ∀ t' tk, Q (.int (a * 2 ^ n) t') { s with toks := tk }) : wpAny (model prog w) A (binaryOp .LShift (.int a t) (.int (n : Int) u)) Q E s := by
  refine lshift_int (by omega) (by omega) ?_
  rw [Int.toNat_natCast]
  exact h _ _
theorem irsh {a : Int} {n : Nat} {t u : Tok} (h : ∀ t' tk, Q (.int (a / 2 ^ n) t') { s with toks := tk }) : wpAny (model prog w) A (inplaceOp .RShift (.int a t) (.int (n : Int) u)) Q E s := by
  refine irshift_int (by omega) ?_
  rw [Int.toNat_natCast, Int.fdiv_eq_ediv_of_nonneg _ (Int.le_of_lt (pow_pos2 n))]
  exact h _ _
theorem ilsh {a : Int} {n : Nat} {t u : Tok} (hz : Builtin.Int.intBits a + n ≤ 2 ^ 27) (h : ∀ t' tk, Q (.int (a * 2 ^ n) t') { s with toks := tk }) : wpAny (model prog w) A (inplaceOp .LShift (.int a t) (.int (n : Int) u)) Q E s := by
  refine ilshift_int (by omega) (by omega) ?_
  rw [Int.toNat_natCast]
  exact h _ _
theorem mulI {a b : Int} {t u : Tok} (hm : Builtin.Int.intBits a + Builtin.Int.intBits b ≤ 2 ^ 27) (h : ∀ t' tk, Q (.int (a * b) t') { s with toks := tk }) : wpAny (model prog w) A (binaryOp .Mult (.int a t) (.int b u)) Q E s := by
  refine mul_int (h _ _) ?_
  unfold IntMulOk Builtin.Int.intTooBig bitsLine
  simp only [Bool.and_eq_true, decide_eq_true_eq, not_and]
  omega
theorem bits_one : Builtin.Int.intBits 1 = 1 := by decide
end

theorem div2_base (w : World) (a b n : Int) (ta tb tn : Tok) (hb : 0 < b) (hl : b.natAbs.log2 < 9000) (hle : (Builtin.Int.intBits a : Int) - n ≤ 4000) :
    Spec PySem.Challenge.rw_rl0044_01.row.prog w (hd.heap_39 w.params) 700 5000 21 [.int a ta, .int b tb, .int n tn] [] (Pair (a / b) (a % b)) := by
  k_fill
  k_dflt (refine' Spec.plain (binds := [(Str.ofString "a", .int a ta), (Str.ofString "b", .int b tb), (Str.ofString "n", .int n tn)]) ?k1 ?k2 ?k3 ?k4 ?k5 ?_ ?c1 ?c2 ?c3 ?c4; ((case k1 => k_is); (case k2 => k_is); (case k3 => decide); (case k4 => intro s; exact BindsTo.of_eq rfl); (case k5 => exact locs rfl); (case c1 => exact rfl); (case c2 => exact rfl); (case c3 => exact rfl); (case c4 => decide)))
  intro p loose mean mg mb gd cn cs a₀ ccd cl outer base g L L' s hke F N B X T C1 C2
  (try dsimp only)
  k_fold
  refine wpAny_execs_cons ?_
  walk_at "mine:steps"
  rw [if_pos (decide_eq_true hle)]
  walk_at "mine:steps"
  refine divmod_N (by assumption) (by assumption) (by omega) ?_ (.inl (PyProof.noPylong_of_log2 hl))
  intro h' F' N'
  rw [Int.fdiv_eq_ediv_of_nonneg _ (Int.le_of_lt hb), Int.fmod_eq_emod_of_nonneg _ (Int.le_of_lt hb)] at N'
  show Done _ _ _ _ _
  exact ⟨_, _, _, F', N', ⟨_, _, _, rfl, rfl⟩, _, _, rfl⟩

/-- the arithmetic of one step: three halves by two -/
theorem div3_start1 {a12 a3 b b1 b2 p : Int} (hp : 0 < p) (hb1 : 0 < b1) (hb2 : 0 ≤ b2) (hb2' : b2 < p) (hb : b = b1 * p + b2) (h12 : 0 ≤ a12) (h12' : a12 < b) (h3 : 0 ≤ a3) (h3' : a3 < p) (hq : a12 / p = b1) :
    (p - 1) * b1 + (a12 - b1 * p + b1) = a12 ∧ 0 ≤ p - 1 ∧ p - 1 < p ∧ 0 ≤ a12 - b1 * p + b1 ∧ a12 - b1 * p + b1 < b1 + p ∧ (a12 - b1 * p + b1) * p + a3 - (p - 1) * b2 < b := by
  have e := Int.mul_ediv_add_emod a12 p
  have e1 := Int.emod_nonneg a12 (by omega : p ≠ 0)
  have e2 := Int.emod_lt_of_pos a12 hp
  rw [hq] at e
  generalize a12 % p = x at *
  have ec : p * b1 = b1 * p := Int.mul_comm _ _
  refine ⟨?_, by omega, by omega, by omega, by omega, ?_⟩
  · rw [Int.sub_mul, Int.mul_comm p b1]; omega
  · have hx : x < b2 := by omega
    have : a12 - b1 * p + b1 = x + b1 := by omega
    rw [this, Int.add_mul, Int.sub_mul]
    have h5 : x * p + p ≤ b2 * p := by
      have : (x + 1) * p ≤ b2 * p := Int.mul_le_mul_of_nonneg_right (by omega) (by omega)
      rw [Int.add_mul] at this; omega
    have ec2 : p * b2 = b2 * p := Int.mul_comm _ _
    omega
theorem div3_start2 {a12 a3 b b1 b2 p : Int} (hp : 0 < p) (hb1 : 0 < b1) (hb1' : b1 < p) (hb2 : 0 ≤ b2) (hb2' : b2 < p) (hb : b = b1 * p + b2) (h12 : 0 ≤ a12) (h12' : a12 < b) (h3 : 0 ≤ a3) (h3' : a3 < p) (hq : ¬ a12 / p = b1) :
    a12 / b1 * b1 + a12 % b1 = a12 ∧ 0 ≤ a12 / b1 ∧ a12 / b1 < p ∧ 0 ≤ a12 % b1 ∧ a12 % b1 < b1 + p ∧ a12 % b1 * p + a3 - a12 / b1 * b2 < b := by
  have e := Int.mul_ediv_add_emod a12 b1
  have e1 := Int.emod_nonneg a12 (by omega : b1 ≠ 0)
  have e2 := Int.emod_lt_of_pos a12 hb1
  have e3 := Int.ediv_nonneg h12 (Int.le_of_lt hb1)
  have hlt : a12 < b1 * p := by
    have h1 : a12 / p < b1 + 1 := Int.ediv_lt_of_lt_mul hp (by rw [Int.add_mul]; omega)
    have h2 : a12 / p < b1 := by omega
    exact Int.lt_mul_of_ediv_lt hp h2
  have hqp : a12 / b1 < p := Int.ediv_lt_of_lt_mul hb1 (by rw [Int.mul_comm]; exact hlt)
  refine ⟨by rw [Int.mul_comm]; exact e, e3, hqp, e1, by omega, ?_⟩
  have h4 : 0 ≤ a12 / b1 * b2 := Int.mul_nonneg e3 hb2
  have h5 : a12 % b1 * p + p ≤ b1 * p := by
    have : (a12 % b1 + 1) * p ≤ b1 * p := Int.mul_le_mul_of_nonneg_right (by omega) (by omega)
    rw [Int.add_mul] at this; omega
  omega

abbrev div3M (a12 a3 b b1 b2 : Int) (n : Nat) (t1 t2 t3 t4 t5 t6 : Tok) : Str → Option Value := fun y =>
  List.lookup y [(Str.ofString "a12", .int a12 t1), (Str.ofString "a3", .int a3 t2), (Str.ofString "b", .int b t3), (Str.ofString "b1", .int b1 t4), (Str.ofString "b2", .int b2 t5), (Str.ofString "n", .int n t6)].reverse
abbrev qrM (q : Int) (tq : Tok) (r : Int) (tr : Tok) (m : Str → Option Value) : Str → Option Value := fun y => if y = Str.ofString "q" then some (.int q tq) else if y = Str.ofString "r" then some (.int r tr) else m y

theorem div3 (w : World) (a12 a3 b b1 b2 : Int) (n : Nat) (t1 t2 t3 t4 t5 t6 : Tok) (hn : n ≤ 4000) (hb1 : 0 < b1) (hb1' : b1 < 2 ^ n) (hb2 : 0 ≤ b2) (hb2' : b2 < 2 ^ n) (hb : b = b1 * 2 ^ n + b2)
    (h12 : 0 ≤ a12) (h12' : a12 < b) (h3 : 0 ≤ a3) (h3' : a3 < 2 ^ n) :
    Spec PySem.Challenge.rw_rl0044_01.row.prog w (hd.heap_39 w.params) 699 4990 28 [.int a12 t1, .int a3 t2, .int b t3, .int b1 t4, .int b2 t5, .int n t6] [] (Pair ((a12 * 2 ^ n + a3) / b) ((a12 * 2 ^ n + a3) % b)) := by
  k_fill
  k_dflt (refine' Spec.plain (binds := [(Str.ofString "a12", .int a12 t1), (Str.ofString "a3", .int a3 t2), (Str.ofString "b", .int b t3), (Str.ofString "b1", .int b1 t4), (Str.ofString "b2", .int b2 t5), (Str.ofString "n", .int n t6)]) ?k1 ?k2 ?k3 ?k4 ?k5 ?_ ?c1 ?c2 ?c3 ?c4; ((case k1 => k_is); (case k2 => k_is); (case k3 => decide); (case k4 => intro s; exact BindsTo.of_eq rfl); (case k5 => exact locs rfl); (case c1 => exact rfl); (case c2 => exact rfl); (case c3 => exact rfl); (case c4 => decide)))
  intro p loose mean mg mb gd cn cs a₀ ccd cl outer base g L L' s hke F N B X T C1 C2
  (try dsimp only)
  k_fold
  have hp := pow_pos2 n
  refine execs_join (fun s' => ∃ q r tq tr h tk, s' = { s with heap := h, toks := tk } ∧ Fr g L' h (qrM q tq r tr (div3M a12 a3 b b1 b2 n t1 t2 t3 t4 t5 t6)) ∧ q * b1 + r = a12 ∧ 0 ≤ q ∧ q < 2 ^ n ∧ 0 ≤ r ∧ r < b1 + 2 ^ n ∧ r * 2 ^ n + a3 - q * b2 < b) ?_ ?_
  · walk_at "mine:steps"
    refine rsh fun _ _ => ?_
    (try dsimp only)
    walk_at "mine:steps"
    by_cases hq : a12 / 2 ^ n = b1
    · rw [if_pos (beq_iff_eq.mpr hq)]
      walk_at "mine:steps"
      refine lsh (by rw [bits_one]; omega) fun _ _ => ?_
      (try dsimp only)
      walk_at "mine:steps"
      refine lsh (by have := bits_le (Int.le_of_lt hb1) hb1'; omega) fun _ _ => ?_
      (try dsimp only)
      walk_at "mine:steps"
      have e9 := div3_start1 hp hb1 hb2 hb2' hb h12 h12' h3 h3' hq
      refine ⟨rfl, _, _, _, _, _, _, rfl, by assumption, ?_⟩
      rw [Int.one_mul]
      exact e9
    · rw [if_neg (by simpa using hq)]
      walk_at "mine:steps"
      have e9 := div3_start2 hp hb1 hb1' hb2 hb2' hb h12 h12' h3 h3' hq
      have hl : b1.natAbs.log2 < 9000 := by
        have := bits_le (Int.le_of_lt hb1) hb1'
        unfold Builtin.Int.intBits at this
        rw [if_neg (by simp; omega)] at this
        omega
      have hz : (Builtin.Int.intBits a12 : Int) - n ≤ 4000 := by
        have : a12 < 2 ^ (2 * n) := by
          have : (2 : Int) ^ (2 * n) = 2 ^ n * 2 ^ n := by rw [show 2 * n = n + n by omega, Int.pow_add]
          have h7 : (b1 + 1) * 2 ^ n ≤ 2 ^ n * 2 ^ n := Int.mul_le_mul_of_nonneg_right (by omega) (by omega)
          rw [Int.add_mul] at h7
          omega
        have := bits_le h12 this
        omega
      refine (div2_base w a12 b1 n _ _ _ (by omega) hl hz).use (by assumption) (by assumption) (by assumption) (by assumption) (by assumption) (by assumption) (by assumption) rfl (Nat.le_of_ble_eq_true rfl) (Nat.le_of_ble_eq_true rfl) ?_
      rintro r post h' tk' F' N' D' ⟨x, tq, tr, rfl, rfl⟩
      (try dsimp only)
      walk_at "mine:steps"
      rename Fr _ _ _ _ => Fz
      exact ⟨rfl, _, _, _, _, _, _, rfl, Fr.congr Fz (map_ext [Str.ofString "q", Str.ofString "r"] ⟨rfl, rfl, trivial⟩ (fun y ⟨h1, h2, _⟩ => by simp only [qrM, if_neg h1, if_neg h2])), e9⟩
  · clear F N
    rintro s' ⟨q, r, tq, tr, h, tk, rfl, F', e1, e2, e3, e4, e5, e6⟩
    have N' : News g L' h [] := News.nil
    walk_at "mine:steps"
    refine lsh ?_ fun _ _ => ?_
    · have : r < 2 ^ (n + 1) := by rw [Int.pow_succ]; omega
      have := bits_le e4 this
      omega
    (try dsimp only)
    walk_at "mine:steps"
    refine mulI (by have := bits_le e2 e3; have := bits_le hb2 hb2'; omega) fun _ _ => ?_
    (try dsimp only)
    rw [or_low _ _ _ h3 h3']
    have e7 : q * b + (r * 2 ^ n + a3 - q * b2) = a12 * 2 ^ n + a3 := by
      rw [hb, ← e1, Int.mul_add, Int.add_mul, Int.mul_assoc]; omega
    walk_at "mine:steps"
    refine while_rule (n := (-(r * 2 ^ n + a3 - q * b2)).toNat) (fun k s' => ∃ q r tq tr h tk, k = (-r).toNat ∧ s' = { s with heap := h, toks := tk } ∧ Fr g L' h (qrM q tq r tr (div3M a12 a3 b b1 b2 n t1 t2 t3 t4 t5 t6)) ∧ q * b + r = a12 * 2 ^ n + a3 ∧ r < b) PassesOwn.never ?_ ?_
    · clear e1 e2 e3 e4 e5 e6 e7
      rintro k s' ⟨q, r, tq, tr, h, tk, rfl, rfl, F', e1, e2⟩
      have N' : News g L' h [] := News.nil
      walk_at "mine:steps"
      by_cases hr : r < 0
      · refine WhlIf.yes (decide_eq_true hr) ?_
        walk_at "mine:steps"
        rename Fr _ _ _ _ => Fz
        refine ⟨_, ?_, _, _, _, _, _, _, rfl, rfl, Fr.congr Fz (map_ext [Str.ofString "q", Str.ofString "r"] ⟨rfl, rfl, trivial⟩ (fun y ⟨h1, h2, _⟩ => by simp only [qrM, if_neg h1, if_neg h2])), ?_, ?_⟩
        · omega
        · rw [Int.sub_mul]; omega
        · omega
      · refine WhlIf.no (decide_eq_false hr) ?_
        walk_at "mine:steps"
        show Done _ _ _ _ _
        obtain ⟨h8, h9⟩ := divmod_of e1 (by omega) e2
        rw [h8, h9]
        exact ⟨_, _, _, by assumption, by assumption, ⟨_, _, _, rfl, rfl⟩, _, _, rfl⟩
    · rename Fr _ _ _ _ => Fz
      exact ⟨_, _, _, _, _, _, rfl, rfl, Fr.congr Fz (map_ext [Str.ofString "q", Str.ofString "r"] ⟨rfl, rfl, trivial⟩ (fun y ⟨h1, h2, _⟩ => by simp only [qrM, if_neg h1, if_neg h2])), e7, e6⟩

end
section
theorem resetF2 : True := by
  w_top off
  exact trivial





abbrev div2M (a b n : Int) (ta tb tn : Tok) : Str → Option Value := fun y =>
  List.lookup y [(Str.ofString "a", .int a ta), (Str.ofString "b", .int b tb), (Str.ofString "n", .int n tn)].reverse
abbrev padM (a b n p : Int) (ta tb tn tp : Tok) (m : Str → Option Value) : Str → Option Value := fun y =>
  if y = Str.ofString "a" then some (.int a ta) else if y = Str.ofString "b" then some (.int b tb) else if y = Str.ofString "n" then some (.int n tn) else if y = Str.ofString "pad" then some (.int p tp) else m y

theorem pad_facts {a b a' b' pd : Int} {n k : Nat} (hn1 : 4000 < n) (hn : n ≤ 7998) (hb : 2 ^ (n - 1) ≤ b) (hb' : b < 2 ^ n) (ha : 0 ≤ a) (ha' : a < b * 2 ^ n)
    (hc : pd = 0 ∧ a' = a ∧ b' = b ∧ 2 * k = n ∨ pd = 1 ∧ a' = a * 2 ∧ b' = b * 2 ∧ 2 * k = n + 1) :
    1 ≤ k ∧ k ≤ 4000 ∧ 0 < b' ∧ 2 ^ k ≤ b' ∧ b' < 2 ^ (2 * k) ∧ 0 ≤ a' ∧ a' < b' * 2 ^ (2 * k) := by
  have hpn := pow_pos2 n
  have hp1 := pow_pos2 (n - 1)
  rcases hc with ⟨_, rfl, rfl, h⟩ | ⟨_, rfl, rfl, h⟩
  · have e : (2 : Int) ^ (n - 1) = 2 ^ k * 2 ^ (k - 1) := by rw [← Int.pow_add]; congr 1; omega
    have hm : (2 : Int) ^ k * 1 ≤ 2 ^ k * 2 ^ (k - 1) := Int.mul_le_mul_of_nonneg_left (by have := pow_pos2 (k - 1); omega) (Int.le_of_lt (pow_pos2 k))
    subst h
    exact ⟨by omega, by omega, by omega, by omega, hb', ha, ha'⟩
  · have e : (2 : Int) ^ n = 2 ^ k * 2 ^ (k - 1) := by rw [← Int.pow_add]; congr 1; omega
    have hm : (2 : Int) ^ k * 1 ≤ 2 ^ k * 2 ^ (k - 1) := Int.mul_le_mul_of_nonneg_left (by have := pow_pos2 (k - 1); omega) (Int.le_of_lt (pow_pos2 k))
    have e2 : (2 : Int) ^ n = 2 ^ (n - 1) * 2 := by rw [← Int.pow_succ]; congr 1; omega
    have e3 : (2 : Int) ^ (2 * k) = 2 ^ n * 2 := by rw [h, Int.pow_succ]
    have hbn : 0 ≤ b * 2 ^ n := Int.mul_nonneg (by omega) (by omega)
    refine ⟨by omega, by omega, by omega, by omega, by omega, by omega, ?_⟩
    rw [e3]
    have : b * 2 * (2 ^ n * 2) = b * 2 ^ n * 4 := by
      rw [Int.mul_assoc b 2, Int.mul_assoc b (2 ^ n) 4]; congr 1; omega
    omega

theorem div2 (w : World) (a b : Int) (n : Nat) (ta tb tn : Tok) (hn1 : 1 ≤ n) (hn : n ≤ 7998) (hb : 2 ^ (n - 1) ≤ b) (hb' : b < 2 ^ n) (ha : 0 ≤ a) (ha' : a < b * 2 ^ n) :
    Spec PySem.Challenge.rw_rl0044_01.row.prog w (hd.heap_39 w.params) 698 4980 21 [.int a ta, .int b tb, .int n tn] [] (Pair (a / b) (a % b)) := by
  have hb0 : 0 < b := Int.lt_of_lt_of_le (pow_pos2 _) hb
  by_cases hle : (Builtin.Int.intBits a : Int) - n ≤ 4000
  · refine (div2_base w a b n ta tb tn hb0 ?_ hle).mono (by decide) (by decide) fun _ _ x => x
    have := bits_le (Int.le_of_lt hb0) hb'
    unfold Builtin.Int.intBits at this
    rw [if_neg (by simp; omega)] at this
    omega
  have hn4 : 4000 < n := by
    have h1 : a < 2 ^ (2 * n) := by
      have e : (2 : Int) ^ (2 * n) = 2 ^ n * 2 ^ n := by rw [show 2 * n = n + n by omega, Int.pow_add]
      have h7 : b * 2 ^ n ≤ 2 ^ n * 2 ^ n := Int.mul_le_mul_of_nonneg_right (Int.le_of_lt hb') (Int.le_of_lt (pow_pos2 n))
      omega
    have := bits_le ha h1
    omega
  k_fill
  k_dflt (refine' Spec.plain (binds := [(Str.ofString "a", .int a ta), (Str.ofString "b", .int b tb), (Str.ofString "n", .int n tn)]) ?k1 ?k2 ?k3 ?k4 ?k5 ?_ ?c1 ?c2 ?c3 ?c4; ((case k1 => k_is); (case k2 => k_is); (case k3 => decide); (case k4 => intro s; exact BindsTo.of_eq rfl); (case k5 => exact locs rfl); (case c1 => exact rfl); (case c2 => exact rfl); (case c3 => exact rfl); (case c4 => decide)))
  intro p loose mean mg mb gd cn cs a₀ ccd cl outer base g L L' s hke F N B X T C1 C2
  (try dsimp only)
  k_fold
  refine wpAny_execs_cons ?_
  walk_at "mine:steps"
  rw [if_neg (by simpa using hle)]
  walk_at "mine:steps"
  rw [bitAnd_m1] at *
  refine execs_join (fun s' => ∃ a' b' pd k ta' tb' tn' tp h tk, s' = { s with heap := h, toks := tk } ∧ Fr g L' h (padM a' b' ((2 * k : Nat) : Int) pd ta' tb' tn' tp (div2M a b n ta tb tn)) ∧ (pd = 0 ∧ a' = a ∧ b' = b ∧ 2 * k = n ∨ pd = 1 ∧ a' = a * 2 ∧ b' = b * 2 ∧ 2 * k = n + 1)) ?_ ?_
  · walk_at "mine:steps"
    by_cases hpd : (n : Int) % 2 = 0
    · rw [if_neg (by simpa using hpd)]
      walk_at "mine:steps"
      rename Fr _ _ _ _ => Fz
      have hk : 2 * (n / 2) = n := by omega
      refine ⟨rfl, a, b, (n : Int) % 2, n / 2, ta, tb, tn, _, _, _, rfl, Fr.congr Fz (map_ext [Str.ofString "a", Str.ofString "b", Str.ofString "n", Str.ofString "pad"] ⟨rfl, rfl, by rw [hk]; rfl, rfl, trivial⟩ (fun y ⟨h1, h2, h3, h4, _⟩ => by simp only [padM, div2M, if_neg h1, if_neg h2, if_neg h3, if_neg h4])), .inl ⟨hpd, rfl, rfl, hk⟩⟩
    · rw [if_pos (by simpa using hpd)]
      walk_at "mine:steps"
      have hab : Builtin.Int.intBits a ≤ 2 * n := bits_le ha (by
        have e : (2 : Int) ^ (2 * n) = 2 ^ n * 2 ^ n := by rw [show 2 * n = n + n by omega, Int.pow_add]
        have h7 : b * 2 ^ n ≤ 2 ^ n * 2 ^ n := Int.mul_le_mul_of_nonneg_right (Int.le_of_lt hb') (Int.le_of_lt (pow_pos2 n))
        omega)
      have hbb := bits_le (Int.le_of_lt hb0) hb'
      refine ilsh (n := 1) (by omega) fun _ _ => ?_
      (try dsimp only)
      walk_at "mine:steps"
      refine ilsh (n := 1) (by omega) fun _ _ => ?_
      (try dsimp only)
      walk_at "mine:steps"
      rename Fr _ _ _ _ => Fz
      have hk : 2 * ((n + 1) / 2) = n + 1 := by omega
      refine ⟨rfl, a * 2 ^ 1, b * 2 ^ 1, (n : Int) % 2, (n + 1) / 2, _, _, _, _, _, _, rfl, Fr.congr Fz (map_ext [Str.ofString "a", Str.ofString "b", Str.ofString "n", Str.ofString "pad"] ⟨rfl, rfl, by rw [hk]; rfl, rfl, trivial⟩ (fun y ⟨h1, h2, h3, h4, _⟩ => by simp only [padM, div2M, if_neg h1, if_neg h2, if_neg h3, if_neg h4])), .inr ⟨by omega, by omega, by omega, hk⟩⟩
  · rename_i F9 N9
    clear F9 N9
    rintro s' ⟨a', b', pd, k, ta', tb', tn', tp, h, tk, rfl, F', hcase⟩
    have N' : News g L' h [] := News.nil
    obtain ⟨hk1, hk4, hb0', hbk, hbk', ha0, hak⟩ := pad_facts hn4 hn hb hb' ha ha' hcase
    have hpk := pow_pos2 k
    have epp : (2 : Int) ^ (2 * k) = 2 ^ k * 2 ^ k := by rw [show 2 * k = k + k by omega, Int.pow_add]
    walk_at "mine:steps"
    refine rsh (n := 1) fun _ _ => ?_
    (try dsimp only)
    rw [show ((2 * k : Nat) : Int) / 2 ^ 1 = (k : Int) by omega]
    walk_at "mine:steps"
    refine lsh (by rw [bits_one]; omega) fun _ _ => ?_
    (try dsimp only)
    rw [Int.one_mul]
    walk_at "mine:steps"
    refine rsh fun _ _ => ?_
    (try dsimp only)
    walk_at "mine:steps"
    rw [kbt_mask] at *
    refine rsh fun _ _ => ?_
    (try dsimp only)
    walk_at "mine:steps"
    refine rsh fun _ _ => ?_
    (try dsimp only)
    walk_at "mine:steps"
    rw [kbt_mask]
    have hb1 : 0 < b' / 2 ^ k := Int.lt_of_lt_of_le (by decide : (0 : Int) < 1) ((Int.le_ediv_iff_mul_le hpk).mpr (by omega))
    have hb1' : b' / 2 ^ k < 2 ^ k := Int.ediv_lt_of_lt_mul hpk (by omega)
    have hb2 := Int.emod_nonneg b' (by omega : (2 : Int) ^ k ≠ 0)
    have hb2' := Int.emod_lt_of_pos b' hpk
    have hbe : b' = b' / 2 ^ k * 2 ^ k + b' % 2 ^ k := by rw [Int.mul_comm]; exact (Int.mul_ediv_add_emod _ _).symm
    have h12 : 0 ≤ a' / 2 ^ (2 * k) := Int.ediv_nonneg ha0 (Int.le_of_lt (pow_pos2 _))
    have h12' : a' / 2 ^ (2 * k) < b' := Int.ediv_lt_of_lt_mul (pow_pos2 _) hak
    have h3 := Int.emod_nonneg (a' / 2 ^ k) (by omega : (2 : Int) ^ k ≠ 0)
    have h3' := Int.emod_lt_of_pos (a' / 2 ^ k) hpk
    refine (div3 w _ _ b' _ _ k _ _ _ _ _ _ hk4 hb1 hb1' hb2 hb2' hbe h12 h12' h3 h3').use (by assumption) (by assumption) (by assumption) (by assumption) (by assumption) (by assumption) (by assumption) rfl (Nat.le_of_ble_eq_true rfl) (Nat.le_of_ble_eq_true rfl) ?_
    rintro r post h' tk' F' N' D' ⟨x, tq, tr, rfl, rfl⟩
    rw [div2_parts] at N'
    (try dsimp only)
    walk_at "mine:steps"
    rw [kbt_mask]
    have h12 := Int.emod_nonneg (a' / 2 ^ k) (by omega : b' ≠ 0)
    have h12' := Int.emod_lt_of_pos (a' / 2 ^ k) hb0'
    have h3 := Int.emod_nonneg a' (by omega : (2 : Int) ^ k ≠ 0)
    have h3' := Int.emod_lt_of_pos a' hpk
    refine (div3 w _ _ b' _ _ k _ _ _ _ _ _ hk4 hb1 hb1' hb2 hb2' hbe h12 h12' h3 h3').use (by assumption) (by assumption) (by assumption) (by assumption) (by assumption) (by assumption) (by assumption) rfl (Nat.le_of_ble_eq_true rfl) (Nat.le_of_ble_eq_true rfl) ?_
    rintro r post h' tk' F' N' D' ⟨x, tq, tr, rfl, rfl⟩
    obtain ⟨m1, m2, m3, m4⟩ := div2_math (a := a') hpk hb0'
    have hq0 : 0 ≤ a' / 2 ^ k / b' := Int.ediv_nonneg (Int.ediv_nonneg ha0 (Int.le_of_lt hpk)) (Int.le_of_lt hb0')
    have hq1 : a' / 2 ^ k / b' < 2 ^ k := Int.ediv_lt_of_lt_mul hb0' (Int.ediv_lt_of_lt_mul hpk (by rw [Int.mul_comm (2 ^ k) b', Int.mul_assoc, ← epp]; exact hak))
    have hqb := bits_le hq0 hq1
    (try dsimp only)
    walk_at "mine:steps"
    refine wpAny_execs_cons ?_
    walk_at "mine:steps"
    rcases hcase with ⟨rfl, rfl, rfl, hk⟩ | ⟨rfl, rfl, rfl, hk⟩
    · rw [if_neg (by decide)]
      walk_at "mine:steps"
      refine lsh (by omega) fun _ _ => ?_
      (try dsimp only)
      walk_at "mine:steps"
      rename News _ _ _ _ => Nz
      rw [or_low _ _ _ m3 m4, m1, m2] at Nz
      show Done _ _ _ _ _
      exact ⟨_, _, _, by assumption, news_head (by assumption), ⟨_, _, _, rfl, rfl⟩, _, _, rfl⟩
    · rw [if_pos (by decide)]
      walk_at "mine:steps"
      refine irsh (n := 1) fun _ _ => ?_
      (try dsimp only)
      walk_at "mine:steps"
      refine lsh (by omega) fun _ _ => ?_
      (try dsimp only)
      walk_at "mine:steps"
      have m5 : a * 2 / (b * 2) = a / b := Int.mul_ediv_mul_of_pos_left _ _ (by decide)
      have m6 : a * 2 % (b * 2) / 2 ^ 1 = a % b := by
        have e1 := Int.mul_ediv_add_emod a b
        have e2 := Int.emod_nonneg a (by omega : b ≠ 0)
        have e3 := Int.emod_lt_of_pos a hb0
        rw [(divmod_of (A := a * 2) (b := b * 2) (q := a / b) (r := a % b * 2) (by rw [← Int.mul_assoc, Int.mul_comm (a / b) b]; omega) (by omega) (by omega)).2]
        omega
      rename News _ _ _ _ => Nz
      rw [or_low _ _ _ m3 m4, m1, m2, m5, m6] at Nz
      show Done _ _ _ _ _
      exact ⟨_, _, _, by assumption, news_head (by assumption), ⟨_, _, _, rfl, rfl⟩, _, _, rfl⟩

end
section
theorem resetF3 : True := by
  w_top off
  exact trivial






/-- an object that is the code of the def of that name -/
noncomputable def CodeOk (o : Obj) (qual : Str) : Prop := ∃ vs t, o.data = .fields vs ∧ vs[1]? = some (.str qual t)
/-- the table of a def's codes, filled -/
noncomputable def TabIs (P : Addr) (line col : Nat) (qual : Str) (l : List (Addr × Obj)) : Prop :=
  ∃ c o, l = [(P, tabObj #[rawInt line, rawInt col, .ref c]), (c, o)] ∧ CodeOk o qual ∧ c ≠ P
noncomputable def TabA : List (Addr × Obj) → Prop := TabIs 30 32 4 (Str.ofString "_int2digits.<locals>.inner")
noncomputable def TabB : List (Addr × Obj) → Prop := TabIs 37 47 4 (Str.ofString "_digits2int.<locals>.inner")

noncomputable def DigitsPost (n : Nat) (a : Int) (v : Value) (post : List (Addr × Obj)) : Prop :=
  ∃ x vs ep l, v = .ref x ∧ post = (x, listOf vs.toArray ep) :: l ∧ IntsAre vs (digitsOf n a ((Builtin.Int.intBits a + n - 1) / n)) ∧ TabA l ∧ ∀ q ∈ l, x ≠ q.1

theorem ints_rep (c : Int) (t : Tok) : ∀ k : Nat, IntsAre (List.replicate k (.int c t)) (List.replicate k c)
  | 0 => .nil
  | k + 1 => .cons c t (ints_rep c t k)
theorem rep_flat (v : Value) : ∀ k : Nat, (List.replicate k [v]).flatten = List.replicate k v
  | 0 => rfl
  | k + 1 => by rw [List.replicate_succ, List.flatten_cons, rep_flat v k]; rfl

/-- what the def within _int2digits does: it lays the figures of x, from place lo on -/
noncomputable def InnerA (w : World) (n : Nat) (tn : Tok) (nm : Str) (ps : Arguments) (bd : List Stmt) (sc : Scope) : Prop :=
  ∀ (f c aI aA aN la : Addr) (oc oI oA oN : Obj) (doc pm ctv : Value) (ep : Nat), CodeOk oc (Str.ofString "_int2digits.<locals>.inner") → oI.data = .cell (some (.ref f)) → oA.data = .cell (some (.ref la)) → oN.data = .cell (some (.int n tn)) →
      ApartL [(la, oc)] [(f, oc), (c, oc), (aI, oI), (aA, oA), (aN, oN)] →
      ∀ (k dp un : Nat) (x : Int) (lo : Nat) (ns : List Int) (vs : List Value) (tx tl th : Tok), 1 ≤ k → dp + k ≤ 700 → lo + k ≤ ns.length → ns.length ≤ 1000 → 0 ≤ x → x < 2 ^ (k * n) → k ≤ 60 → IntsAre vs ns →
      Spec PySem.Challenge.rw_rl0044_01.row.prog w (hd.heap_39 w.params) dp un f [.int x tx, .int lo tl, .int ((lo + k : Nat) : Int) th]
        [(f, fnMade nm (Str.ofString "_int2digits.<locals>.inner") ps bd sc [(Str.ofString "n", aN), (Str.ofString "inner", aI), (Str.ofString "a_digits", aA)] doc pm c ctv), (c, oc), (aI, oI), (aA, oA), (aN, oN), (la, listOf vs.toArray ep)]
        (fun v post => v = .none ∧ ∃ vs', IntsAre vs' (put lo (digitsOf n x k) ns) ∧
          post = [(f, fnMade nm (Str.ofString "_int2digits.<locals>.inner") ps bd sc [(Str.ofString "n", aN), (Str.ofString "inner", aI), (Str.ofString "a_digits", aA)] doc pm c ctv), (c, oc), (aI, oI), (aA, oA), (aN, oN), (la, listOf vs'.toArray ep)])

theorem innerA (w : World) (n : Nat) (tn : Tok) (hn1 : 1 ≤ n) (hn : n ≤ 10000) : AtDef (InnerA w n tn) (stmtsOf (hd.heap_39 w.params) 35) := by
  have hpg : PySem.Challenge.rw_rl0044_01.row.prog = PySem.Challenge.rw_rl0044_01.row.prog := rfl
  revert hpg
  k_fill
  intro _
  k_dflt (rw [stmtsOf_is ?k1]; rotate_left; (case k1 => k_is))
  show InnerA w n tn _ _ _ _
  rintro f c aI aA aN la oc oI oA oN doc pm ctv ep ⟨cvs, ctk, hcd, hcv⟩ dI dA dN hap
  simp only [ApartL, AllNe, and_true, and_assoc] at hap
  (try replace hap := Hid.mk hap)
  intro k
  induction k using Nat.strongRecOn with
  | ind k ih =>
    intro dp un x lo ns vs tx tl th hk1 hdp hlo hns hx hx' hk60 hI
    k_dflt (refine' Spec.nest (binds := [(Str.ofString "x", .int x tx), (Str.ofString "L", .int lo tl), (Str.ofString "R", .int ((lo + k : Nat) : Int) th)]) ?k1 ?k2 hcd hcv ?k3 ?k4 ?k5 ?_ ?c1 ?c2 ?c3 ?c4; (case k1 => k_mem); (case k2 => k_mem); (case k3 => (show dp < 1000); omega); (case k4 => intro s; exact BindsTo.of_eq rfl); (case k5 => exact locs rfl); (case c1 => exact rfl); (case c2 => exact rfl); (case c3 => exact rfl); (case c4 => decide))
    intro p loose mean mg mb gd cn cs a₀ ccd cl outer base g L L' s hke F N B X T C1 C2
    (try dsimp only)
    k_fold
    refine wpAny_execs_cons ?_
    walk_at "mine:steps"
    by_cases hk : k = 1
    · subst hk
      rw [if_pos (by simp)]
      walk_at "mine:steps"
      show Done _ _ _ _ _
      rename IntsAre (List.set _ _ _) _ => hI2
      refine ⟨_, _, _, by assumption, by assumption, ⟨rfl, _, ?_, rfl⟩, _, _, rfl⟩
      rw [digits_one hx (by simpa using hx'), put_one (by omega)]
      exact hI2
    · rw [if_neg (by simp; omega)]
      walk_at "mine:steps"
      (try dsimp only)
      rw [show (lo : Int) + ((lo + k : Nat) : Int) = ((2 * lo + k : Nat) : Int) by omega]
      refine rsh (n := 1) fun _ _ => ?_
      (try dsimp only)
      rw [show ((2 * lo + k : Nat) : Int) / 2 ^ 1 = ((lo + k / 2 : Nat) : Int) by omega]
      walk_at "mine:steps"
      (try dsimp only)
      rw [show ((lo + k / 2 : Nat) : Int) - lo = ((k / 2 : Nat) : Int) by omega]
      have hn64 : Builtin.Int.intBits (n : Int) ≤ 20 := bits_le (by omega) (by omega)
      have hk64 : Builtin.Int.intBits ((k / 2 : Nat) : Int) ≤ 20 := bits_le (by omega) (by omega)
      refine mulI (by omega) fun _ _ => ?_
      rw [show ((k / 2 : Nat) : Int) * (n : Int) = ((k / 2 * n : Nat) : Int) by simp]
      (try dsimp only)
      walk_at "mine:steps"
      refine rsh fun _ _ => ?_
      (try dsimp only)
      walk_at "mine:steps"
      (try dsimp only)
      have hu0 : 0 ≤ x / 2 ^ (k / 2 * n) := Int.ediv_nonneg hx (Int.le_of_lt (pow_pos2 _))
      have hu1 : x / 2 ^ (k / 2 * n) < 2 ^ ((k - k / 2) * n) := by
        refine Int.ediv_lt_of_lt_mul (pow_pos2 _) ?_
        rw [← Int.pow_add, ← Nat.add_mul, show k - k / 2 + k / 2 = k by omega]
        exact hx'
      have hub := bits_le hu0 hu1
      have hkn : (k - k / 2) * n ≤ 60 * 10000 := Nat.mul_le_mul (by omega) hn
      have hkn2 : k / 2 * n ≤ 60 * 10000 := Nat.mul_le_mul (by omega) hn
      refine lsh (by omega) fun _ _ => ?_
      (try dsimp only)
      walk_at "mine:steps"
      rw [xor_high]
      have hp2 := pow_pos2 (k / 2 * n)
      refine (ih (k / 2) (by omega) (dp + 1) (un + 3) (x % 2 ^ (k / 2 * n)) lo ns vs _ _ _ (by omega) (by omega) (by omega) hns (Int.emod_nonneg _ (by omega)) (Int.emod_lt_of_pos _ hp2) (by omega) hI).at [] (by assumption) (by assumption) (by assumption) (by assumption) (by k_subL) (by ((try simp only [List.cons_append, List.nil_append, ApartL, AllNe, and_true]); (repeat' (first | exact True.intro | refine And.intro ?_ ?_)); all_goals k_ne)) (by assumption) (by assumption) (by assumption) rfl (Nat.le_refl _) (Nat.le_refl _) ?_
      rintro r post h' tk' F' N' D' ⟨rfl, vs2, hI2, rfl⟩
      (try dsimp only)
      walk_at "mine:steps"
      have hl2 : (put lo (digitsOf n (x % 2 ^ (k / 2 * n)) (k / 2)) ns).length = ns.length := put_length (by rw [digits_length]; omega)
      rw [show lo + k = (lo + k / 2) + (k - k / 2) by omega]
      refine (ih (k - k / 2) (by omega) (dp + 1) (un + 3) (x / 2 ^ (k / 2 * n)) (lo + k / 2) (put lo (digitsOf n (x % 2 ^ (k / 2 * n)) (k / 2)) ns) vs2 _ _ _ (by omega) (by omega) (by omega) (by omega) hu0 hu1 (by omega) hI2).at [] (by assumption) (by assumption) (by assumption) (by assumption) (by k_subL) (by ((try simp only [List.cons_append, List.nil_append, ApartL, AllNe, and_true]); (repeat' (first | exact True.intro | refine And.intro ?_ ?_)); all_goals k_ne)) (by assumption) (by assumption) (by assumption) rfl (Nat.le_refl _) (Nat.le_refl _) ?_
      rintro r post h' tk' F' N' D' ⟨rfl, vs3, hI3, rfl⟩
      (try dsimp only)
      walk_at "mine:steps"
      show Done _ _ _ _ _
      refine ⟨_, _, _, F', N', ⟨rfl, vs3, ?_, rfl⟩, _, _, rfl⟩
      have e1 := put_put (lo := lo) (d1 := digitsOf n (x % 2 ^ (k / 2 * n)) (k / 2)) (d2 := digitsOf n (x / 2 ^ (k / 2 * n)) (k - k / 2)) (ns := ns) (by rw [digits_length, digits_length]; omega)
      rw [digits_length, ← digits_split, show k / 2 + (k - k / 2) = k by omega] at e1
      rw [← e1]
      exact hI3


end
section
theorem resetF4 : True := by
  w_top off
  exact trivial






theorem int2digits (w : World) (a : Int) (n : Nat) (ta tn : Tok) (hn1 : 1 ≤ n) (hn : n ≤ 10000) (ha : 0 ≤ a) (hab : Builtin.Int.intBits a ≤ 20000) (hK : (Builtin.Int.intBits a + n - 1) / n ≤ 50)
    (l : List (Addr × Obj)) (hl : l = [(30, tabObj #[])] ∨ TabA l) :
    Spec PySem.Challenge.rw_rl0044_01.row.prog w (hd.heap_39 w.params) 600 4000 35 [.int a ta, .int n tn] l (DigitsPost n a) := by
  obtain ⟨K, eK⟩ : ∃ K, K = (Builtin.Int.intBits a + n - 1) / n := ⟨_, rfl⟩
  have eK' : ((Builtin.Int.intBits a : Int) + n - 1).fdiv n = (K : Int) := by
    rw [Int.fdiv_eq_ediv_of_nonneg _ (by omega), eK]
    have : ((Builtin.Int.intBits a : Int) + n - 1) = ((Builtin.Int.intBits a + n - 1 : Nat) : Int) := by omega
    rw [this]; rfl
  rw [← eK] at hK
  k_fill
  have hin := innerA w n tn hn1 hn
  k_dflt (rw [stmtsOf_is ?k1] at hin; rotate_left; (case k1 => k_is))
  replace hin : InnerA w n tn _ _ _ _ := hin
  rcases hl with rfl | ⟨c0, o0, rfl, hok, hne⟩
  · k_dflt (refine' Spec.cells (binds := [(Str.ofString "a", .int a ta), (Str.ofString "n", .int n tn)]) ?k1 ?k2 ?k3 ?k4 ?k5 ?k6 ?_ ?c1 ?c2 ?c3; ((case k1 => k_is); (case k2 => k_is); (case k3 => decide); (case k4 => intro s; exact BindsTo.of_eq rfl); (case k5 => exact rfl); (case k6 => decide +kernel); (case c1 => exact rfl); (case c2 => exact rfl); (case c3 => exact rfl)))
    intro p loose mean mg mb gd cn cs a₀ ccd cl outer base g L L' s cells hke F N Y l1 B X T C1 C2
    k_lt l1
    obtain ⟨oI, oA, oN, rfl, dI, dA, dN⟩ := CellsAre.three Y
    replace dI : oI.data = .cell none := dI
    replace dA : oA.data = .cell none := dA
    replace dN : oN.data = .cell (some (.int n tn)) := dN
    replace F : Fr g L' s.heap (fun y => if y = Str.ofString "a" then some (.int a ta) else none) := F
    replace N : News g L' s.heap [(L' + 1 + 1 + 1, oI), (L' + 1 + 1, oA), (L' + 1, oN), (30, tabObj #[])] := N
    clear Y
    show wpAny _ _ _ _ _ _
    k_fold
    walk_at "mine:steps"
    (try dsimp only)
    rw [eK']
    refine KMa.mul (vs := [.int 0 s.toks]) (by assumption) (by assumption) (by is_list) (by omega) (by omega) (by simp; omega) (rep_flat _ _) ?_
    intro D h' F' N' l2
    k_lt l2
    rw [Int.toNat_natCast] at N'
    have hI := ints_rep 0 s.toks K
    (try dsimp only)
    walk_at "mine:steps"
    refine wpAny_execs_cons ?_
    walk_at "mine:steps"
    rename_i h2 oA2 dA2 f c oc cvs ct ctv dc h3 tk3 d1 d2 l3 l4 h4 oI2 F4 N4 dI2
    (try dsimp only)
    refine wpAny_execs_cons ?_
    walk_at "mine:steps"
    by_cases h0 : a = 0
    · subst h0
      rw [if_neg (by decide)]
      walk_at "mine:steps"
      show Done _ _ _ _ _
      have hK0 : K = 0 := by
        rw [eK, show Builtin.Int.intBits 0 = 0 from rfl, Nat.zero_add]
        exact Nat.div_eq_of_lt (by omega)
      refine ⟨_, _, [(D, listOf (List.replicate K (.int 0 s.toks)).toArray 0), (30, tabObj #[rawInt 32, rawInt 4, .ref c]), (c, oc)], by assumption, news_sub N4 (by k_subL), ⟨D, _, _, _, rfl, rfl, ?_, ⟨c, oc, rfl, ⟨cvs, ct, d1, d2⟩, by refine neN ?_; omega⟩, ?_⟩, _, _, rfl⟩
      · rw [← eK, hK0]; exact .nil
      · exact AllNe.of (a := D) (l := [(30, tabObj #[rawInt 32, rawInt 4, .ref c]), (c, oc)]) (by ((try simp only [AllNe, and_true]); (repeat' (first | exact True.intro | refine And.intro ?_ ?_)); all_goals k_ne))
    · rw [if_pos (by simpa using h0)]
      walk_at "mine:steps"
      refine len_list (N4.isList (by k_mem)) (by simp; omega) ?_
      (try dsimp only)
      rw [List.size_toArray, List.length_replicate]
      walk_at "mine:steps"
      have hbK : Builtin.Int.intBits a ≤ K * n := by
        have e1 := Nat.div_add_mod (Builtin.Int.intBits a + n - 1) n
        have e2 := Nat.mod_lt (Builtin.Int.intBits a + n - 1) (by omega : 0 < n)
        rw [← eK, Nat.mul_comm] at e1
        omega
      have haK : a < 2 ^ (K * n) := Int.lt_of_lt_of_le (bits_lt ha) (by
        have := Nat.pow_le_pow_right (n := 2) (by decide) hbK
        have e : ∀ j : Nat, (2 : Int) ^ j = ((2 ^ j : Nat) : Int) := fun j => by simp
        rw [e, e]; omega)
      have hK1 : 1 ≤ K := by
        have h8 : 0 < a := by omega
        have := (bits_ge h8).1
        rcases Nat.eq_zero_or_pos K with h9 | h9
        · rw [h9] at hbK; omega
        · exact h9
      rw [show (K : Int) = ((0 + K : Nat) : Int) by omega]
      refine (hin f c (L' + 1 + 1 + 1) (L' + 1 + 1) (L' + 1) D oc oI2 oA2 oN dc ((mg "__name__").getD .none) ctv 0 ⟨cvs, ct, d1, d2⟩ dI2 dA2 dN (by ((try simp only [List.cons_append, List.nil_append, ApartL, AllNe, and_true]); (repeat' (first | exact True.intro | refine And.intro ?_ ?_)); all_goals k_ne)) K 601 4003 a 0 (List.replicate K 0) (List.replicate K (.int 0 s.toks)) _ _ _ hK1 (by omega) (by simp) (by simp; omega) ha haK (by omega) hI).at
        [(30, tabObj #[rawInt 32, rawInt 4, .ref c])] (by assumption) (by assumption) (by assumption) N4 (by k_subL) (by ((try simp only [List.cons_append, List.nil_append, ApartL, AllNe, and_true]); (repeat' (first | exact True.intro | refine And.intro ?_ ?_)); all_goals k_ne)) (by assumption) (by assumption) (by assumption) rfl (Nat.le_refl _) (Nat.le_refl _) ?_
      rintro r post h' tk' F' N' D' ⟨rfl, vs2, hI2, rfl⟩
      (try dsimp only)
      walk_at "mine:steps"
      show Done _ _ _ _ _
      refine ⟨_, _, [(D, listOf vs2.toArray 0), (30, tabObj #[rawInt 32, rawInt 4, .ref c]), (c, oc)], F', news_sub N' (by k_subL), ⟨D, _, _, _, rfl, rfl, ?_, ⟨c, oc, rfl, ⟨cvs, ct, d1, d2⟩, by refine neN ?_; omega⟩, ?_⟩, _, _, rfl⟩
      · rw [← eK]
        have e := put_whole (digitsOf n a K)
        rw [digits_length] at e
        rw [← e]; exact hI2
      · exact AllNe.of (a := D) (l := [(30, tabObj #[rawInt 32, rawInt 4, .ref c]), (c, oc)]) (by ((try simp only [AllNe, and_true]); (repeat' (first | exact True.intro | refine And.intro ?_ ?_)); all_goals k_ne))
  · k_dflt (refine' Spec.cells (binds := [(Str.ofString "a", .int a ta), (Str.ofString "n", .int n tn)]) ?k1 ?k2 ?k3 ?k4 ?k5 ?k6 ?_ ?c1 ?c2 ?c3; ((case k1 => k_is); (case k2 => k_is); (case k3 => decide); (case k4 => intro s; exact BindsTo.of_eq rfl); (case k5 => exact rfl); (case k6 => decide +kernel); (case c1 => exact rfl); (case c2 => exact rfl); (case c3 => exact rfl)))
    intro p loose mean mg mb gd cn cs a₀ ccd cl outer base g L L' s cells hke F N Y l1 B X T C1 C2
    k_lt l1
    obtain ⟨oI, oA, oN, rfl, dI, dA, dN⟩ := CellsAre.three Y
    replace dI : oI.data = .cell none := dI
    replace dA : oA.data = .cell none := dA
    replace dN : oN.data = .cell (some (.int n tn)) := dN
    replace F : Fr g L' s.heap (fun y => if y = Str.ofString "a" then some (.int a ta) else none) := F
    replace N : News g L' s.heap [(L' + 1 + 1 + 1, oI), (L' + 1 + 1, oA), (L' + 1, oN), (30, tabObj #[rawInt 32, rawInt 4, .ref c0]), (c0, o0)] := N
    clear Y
    show wpAny _ _ _ _ _ _
    k_fold
    walk_at "mine:steps"
    (try dsimp only)
    rw [eK']
    refine KMa.mul (vs := [.int 0 s.toks]) (by assumption) (by assumption) (by is_list) (by omega) (by omega) (by simp; omega) (rep_flat _ _) ?_
    intro D h' F' N' l2
    k_lt l2
    rw [Int.toNat_natCast] at N'
    have hI := ints_rep 0 s.toks K
    (try dsimp only)
    walk_at "mine:steps"
    refine wpAny_execs_cons ?_
    walk_at "mine:steps"
    rename_i h2 oA2 dA2 f ctv dc h3 tk3 l3 h4 oI2 F4 N4 dI2
    obtain ⟨cvs, ct, d1, d2⟩ := hok
    replace hne := neN hne
    (try dsimp only)
    refine wpAny_execs_cons ?_
    walk_at "mine:steps"
    by_cases h0 : a = 0
    · subst h0
      rw [if_neg (by decide)]
      walk_at "mine:steps"
      show Done _ _ _ _ _
      have hK0 : K = 0 := by
        rw [eK, show Builtin.Int.intBits 0 = 0 from rfl, Nat.zero_add]
        exact Nat.div_eq_of_lt (by omega)
      refine ⟨_, _, [(D, listOf (List.replicate K (.int 0 s.toks)).toArray 0), (30, tabObj #[rawInt 32, rawInt 4, .ref c0]), (c0, o0)], by assumption, news_sub N4 (by k_subL), ⟨D, _, _, _, rfl, rfl, ?_, ⟨c0, o0, rfl, ⟨cvs, ct, d1, d2⟩, by refine neN ?_; omega⟩, ?_⟩, _, _, rfl⟩
      · rw [← eK, hK0]; exact .nil
      · exact AllNe.of (a := D) (l := [(30, tabObj #[rawInt 32, rawInt 4, .ref c0]), (c0, o0)]) (by ((try simp only [AllNe, and_true]); (repeat' (first | exact True.intro | refine And.intro ?_ ?_)); all_goals k_ne))
    · rw [if_pos (by simpa using h0)]
      walk_at "mine:steps"
      refine len_list (N4.isList (by k_mem)) (by simp; omega) ?_
      (try dsimp only)
      rw [List.size_toArray, List.length_replicate]
      walk_at "mine:steps"
      have hbK : Builtin.Int.intBits a ≤ K * n := by
        have e1 := Nat.div_add_mod (Builtin.Int.intBits a + n - 1) n
        have e2 := Nat.mod_lt (Builtin.Int.intBits a + n - 1) (by omega : 0 < n)
        rw [← eK, Nat.mul_comm] at e1
        omega
      have haK : a < 2 ^ (K * n) := Int.lt_of_lt_of_le (bits_lt ha) (by
        have := Nat.pow_le_pow_right (n := 2) (by decide) hbK
        have e : ∀ j : Nat, (2 : Int) ^ j = ((2 ^ j : Nat) : Int) := fun j => by simp
        rw [e, e]; omega)
      have hK1 : 1 ≤ K := by
        have h8 : 0 < a := by omega
        have := (bits_ge h8).1
        rcases Nat.eq_zero_or_pos K with h9 | h9
        · rw [h9] at hbK; omega
        · exact h9
      rw [show (K : Int) = ((0 + K : Nat) : Int) by omega]
      refine (hin f c0 (L' + 1 + 1 + 1) (L' + 1 + 1) (L' + 1) D o0 oI2 oA2 oN dc ((mg "__name__").getD .none) ctv 0 ⟨cvs, ct, d1, d2⟩ dI2 dA2 dN (by ((try simp only [List.cons_append, List.nil_append, ApartL, AllNe, and_true]); (repeat' (first | exact True.intro | refine And.intro ?_ ?_)); all_goals k_ne)) K 601 4003 a 0 (List.replicate K 0) (List.replicate K (.int 0 s.toks)) _ _ _ hK1 (by omega) (by simp) (by simp; omega) ha haK (by omega) hI).at
        [(30, tabObj #[rawInt 32, rawInt 4, .ref c0])] (by assumption) (by assumption) (by assumption) N4 (by k_subL) (by ((try simp only [List.cons_append, List.nil_append, ApartL, AllNe, and_true]); (repeat' (first | exact True.intro | refine And.intro ?_ ?_)); all_goals k_ne)) (by assumption) (by assumption) (by assumption) rfl (Nat.le_refl _) (Nat.le_refl _) ?_
      rintro r post h' tk' F' N' D' ⟨rfl, vs2, hI2, rfl⟩
      (try dsimp only)
      walk_at "mine:steps"
      show Done _ _ _ _ _
      refine ⟨_, _, [(D, listOf vs2.toArray 0), (30, tabObj #[rawInt 32, rawInt 4, .ref c0]), (c0, o0)], F', news_sub N' (by k_subL), ⟨D, _, _, _, rfl, rfl, ?_, ⟨c0, o0, rfl, ⟨cvs, ct, d1, d2⟩, by refine neN ?_; omega⟩, ?_⟩, _, _, rfl⟩
      · rw [← eK]
        have e := put_whole (digitsOf n a K)
        rw [digits_length] at e
        rw [← e]; exact hI2
      · exact AllNe.of (a := D) (l := [(30, tabObj #[rawInt 32, rawInt 4, .ref c0]), (c0, o0)]) (by ((try simp only [AllNe, and_true]); (repeat' (first | exact True.intro | refine And.intro ?_ ?_)); all_goals k_ne))

end
section
theorem resetF5 : True := by
  w_top off
  exact trivial






/-- what the def within _digits2int does: it reckons the number of a piece -/
noncomputable def InnerB (w : World) (n : Nat) (tn : Tok) (nm : Str) (ps : Arguments) (bd : List Stmt) (sc : Scope) : Prop :=
  ∀ (f c aI aD aN la : Addr) (oc oI oD oN : Obj) (doc pm ctv : Value) (ep : Nat), CodeOk oc (Str.ofString "_digits2int.<locals>.inner") → oI.data = .cell (some (.ref f)) → oD.data = .cell (some (.ref la)) → oN.data = .cell (some (.int n tn)) →
      ∀ (ns : List Int) (vs : List Value), ns.length ≤ 1000 → IntsAre vs ns → (∀ d ∈ ns, 0 ≤ d ∧ d < 2 ^ n) →
      ∀ (k dp un : Nat) (lo : Nat) (tl th : Tok), 1 ≤ k → dp + k ≤ 700 → lo + k ≤ ns.length → k ≤ 60 →
      Spec PySem.Challenge.rw_rl0044_01.row.prog w (hd.heap_39 w.params) dp un f [.int lo tl, .int ((lo + k : Nat) : Int) th]
        [(f, fnMade nm (Str.ofString "_digits2int.<locals>.inner") ps bd sc [(Str.ofString "n", aN), (Str.ofString "inner", aI), (Str.ofString "digits", aD)] doc pm c ctv), (c, oc), (aI, oI), (aD, oD), (aN, oN), (la, listOf vs.toArray ep)]
        (fun v post => (∃ t, v = .int (evalD n (seg lo k ns)) t) ∧
          post = [(f, fnMade nm (Str.ofString "_digits2int.<locals>.inner") ps bd sc [(Str.ofString "n", aN), (Str.ofString "inner", aI), (Str.ofString "digits", aD)] doc pm c ctv), (c, oc), (aI, oI), (aD, oD), (aN, oN), (la, listOf vs.toArray ep)])

theorem innerB (w : World) (n : Nat) (tn : Tok) (hn1 : 1 ≤ n) (hn : n ≤ 10000) : AtDef (InnerB w n tn) (stmtsOf (hd.heap_39 w.params) 42) := by
  have hpg : PySem.Challenge.rw_rl0044_01.row.prog = PySem.Challenge.rw_rl0044_01.row.prog := rfl
  revert hpg
  k_fill
  intro _
  k_dflt (rw [stmtsOf_is ?k1]; rotate_left; (case k1 => k_is))
  show InnerB w n tn _ _ _ _
  rintro f c aI aD aN la oc oI oD oN doc pm ctv ep ⟨cvs, ctk, hcd, hcv⟩ dI dD dN ns vs hns hI hds
  intro k
  induction k using Nat.strongRecOn with
  | ind k ih =>
    intro dp un lo tl th hk1 hdp hlo hk60
    k_dflt (refine' Spec.nest (binds := [(Str.ofString "L", .int lo tl), (Str.ofString "R", .int ((lo + k : Nat) : Int) th)]) ?k1 ?k2 hcd hcv ?k3 ?k4 ?k5 ?_ ?c1 ?c2 ?c3 ?c4; (case k1 => k_mem); (case k2 => k_mem); (case k3 => (show dp < 1000); omega); (case k4 => intro s; exact BindsTo.of_eq rfl); (case k5 => exact locs rfl); (case c1 => exact rfl); (case c2 => exact rfl); (case c3 => exact rfl); (case c4 => decide))
    intro p loose mean mg mb gd cn cs a₀ ccd cl outer base g L L' s hke F N B X T C1 C2
    (try dsimp only)
    k_fold
    refine wpAny_execs_cons ?_
    walk_at "mine:steps"
    by_cases hk : k = 1
    · subst hk
      rw [if_pos (by simp)]
      walk_at "mine:steps"
      show Done _ _ _ _ _
      refine ⟨_, _, _, by assumption, by assumption, ⟨ktn_int ?_, rfl⟩, _, _, rfl⟩
      · rw [seg_one (by omega), Int.toNat_natCast]
        simp only [evalD, Int.zero_mul, Int.add_zero]
    · rw [if_neg (by simp; omega)]
      walk_at "mine:steps"
      (try dsimp only)
      rw [show (lo : Int) + ((lo + k : Nat) : Int) = ((2 * lo + k : Nat) : Int) by omega]
      refine rsh (n := 1) fun _ _ => ?_
      (try dsimp only)
      rw [show ((2 * lo + k : Nat) : Int) / 2 ^ 1 = ((lo + k / 2 : Nat) : Int) by omega]
      walk_at "mine:steps"
      (try dsimp only)
      rw [show ((lo + k / 2 : Nat) : Int) - lo = ((k / 2 : Nat) : Int) by omega]
      have hn64 : Builtin.Int.intBits (n : Int) ≤ 20 := bits_le (by omega) (by omega)
      have hk64 : Builtin.Int.intBits ((k / 2 : Nat) : Int) ≤ 20 := bits_le (by omega) (by omega)
      refine mulI (by omega) fun _ _ => ?_
      rw [show ((k / 2 : Nat) : Int) * (n : Int) = ((k / 2 * n : Nat) : Int) by simp]
      (try dsimp only)
      walk_at "mine:steps"
      rw [show lo + k = (lo + k / 2) + (k - k / 2) by omega]
      refine (ih (k - k / 2) (by omega) (dp + 1) (un + 3) (lo + k / 2) _ _ (by omega) (by omega) (by omega) (by omega)).at [] (by assumption) (by assumption) (by assumption) (by assumption) (by k_subL) (by ((try simp only [List.cons_append, List.nil_append, ApartL, AllNe, and_true]); (repeat' (first | exact True.intro | refine And.intro ?_ ?_)); all_goals k_ne)) (by assumption) (by assumption) (by assumption) rfl (Nat.le_refl _) (Nat.le_refl _) ?_
      rintro r post h' tk' F' N' D' ⟨⟨t, rfl⟩, rfl⟩
      (try dsimp only)
      walk_at "mine:steps"
      have hkn : (k - k / 2) * n ≤ 60 * 10000 := Nat.mul_le_mul (by omega) hn
      have hkn2 : k / 2 * n ≤ 60 * 10000 := Nat.mul_le_mul (by omega) hn
      have hB := evalD_bound n (seg (lo + k / 2) (k - k / 2) ns) (seg_sub hds)
      rw [seg_length (by omega)] at hB
      have hbb := bits_le hB.1 hB.2
      refine lsh (by omega) fun _ _ => ?_
      (try dsimp only)
      walk_at "mine:steps"
      refine (ih (k / 2) (by omega) (dp + 1) (un + 3) lo _ _ (by omega) (by omega) (by omega) (by omega)).at [] (by assumption) (by assumption) (by assumption) (by assumption) (by k_subL) (by ((try simp only [List.cons_append, List.nil_append, ApartL, AllNe, and_true]); (repeat' (first | exact True.intro | refine And.intro ?_ ?_)); all_goals k_ne)) (by assumption) (by assumption) (by assumption) rfl (Nat.le_refl _) (Nat.le_refl _) ?_
      rintro r post h' tk' F' N' D' ⟨⟨t, rfl⟩, rfl⟩
      (try dsimp only)
      walk_at "mine:steps"
      show Done _ _ _ _ _
      have e1 : evalD n (seg lo k ns) = evalD n (seg (lo + k / 2) (k - k / 2) ns) * 2 ^ (k / 2 * n) + evalD n (seg lo (k / 2) ns) := by
        have e2 := seg_add lo (k / 2) (k - k / 2) ns
        rw [show k / 2 + (k - k / 2) = k by omega] at e2
        rw [e2, evalD_append, seg_length (by omega)]
        omega
      exact ⟨_, _, _, F', N', ⟨ktn_int e1.symm, rfl⟩, _, _, rfl⟩

end
section
theorem resetF6 : True := by
  w_top off
  exact trivial






noncomputable def EvalPost (n : Nat) (ns : List Int) (la : Addr) (lo : Obj) (v : Value) (post : List (Addr × Obj)) : Prop :=
  ∃ t l, v = .int (evalD n ns) t ∧ post = (la, lo) :: l ∧ TabB l

theorem digits2int (w : World) (ns : List Int) (vs : List Value) (la ep : Nat) (n : Nat) (tn : Tok) (hn1 : 1 ≤ n) (hn : n ≤ 10000) (hns : ns.length ≤ 60) (hI : IntsAre vs ns) (hds : ∀ d ∈ ns, 0 ≤ d ∧ d < 2 ^ n)
    (l : List (Addr × Obj)) (hl : l = [(37, tabObj #[])] ∨ TabB l) (hap : AllNe la l) :
    Spec PySem.Challenge.rw_rl0044_01.row.prog w (hd.heap_39 w.params) 600 4000 42 [.ref la, .int n tn] ((la, listOf vs.toArray ep) :: l) (EvalPost n ns la (listOf vs.toArray ep)) := by
  k_fill
  have hin := innerB w n tn hn1 hn
  k_dflt (rw [stmtsOf_is ?k1] at hin; rotate_left; (case k1 => k_is))
  replace hin : InnerB w n tn _ _ _ _ := hin
  have hlen := hI.length
  rcases hl with rfl | ⟨c0, o0, rfl, hok, hne⟩
  · k_dflt (refine' Spec.cells (binds := [(Str.ofString "digits", .ref la), (Str.ofString "n", .int n tn)]) ?k1 ?k2 ?k3 ?k4 ?k5 ?k6 ?_ ?c1 ?c2 ?c3; ((case k1 => k_is); (case k2 => k_is); (case k3 => decide); (case k4 => intro s; exact BindsTo.of_eq rfl); (case k5 => exact rfl); (case k6 => decide +kernel); (case c1 => exact rfl); (case c2 => exact rfl); (case c3 => exact rfl)))
    intro p loose mean mg mb gd cn cs a₀ ccd cl outer base g L L' s cells hke F N Y l1 B X T C1 C2
    k_lt l1
    obtain ⟨oI, oN, oD, rfl, dI, dN, dD⟩ := CellsAre.three Y
    replace dI : oI.data = .cell none := dI
    replace dN : oN.data = .cell (some (.int n tn)) := dN
    replace dD : oD.data = .cell (some (.ref la)) := dD
    replace F : Fr g L' s.heap (fun y => none) := F
    replace N : News g L' s.heap [(L' + 1 + 1 + 1, oI), (L' + 1 + 1, oN), (L' + 1, oD), (la, listOf vs.toArray ep), (37, tabObj #[])] := N
    clear Y
    simp only [AllNe, and_true] at hap
    (try replace hap := Hid.mk hap)
    show wpAny _ _ _ _ _ _
    k_fold
    walk_at "mine:steps"
    refine wpAny_execs_cons ?_
    walk_at "mine:steps"
    rename_i f c oc cvs ct ctv dc h3 tk3 d1 d2 l3 l4 h4 oI2 F4 N4 dI2
    by_cases h0 : 0 < ns.length
    · rw [if_pos (decide_eq_true h0)]
      walk_at "mine:steps"
      rw [show (ns.length : Int) = ((0 + ns.length : Nat) : Int) by omega]
      refine (hin f c (L' + 1 + 1 + 1) (L' + 1) (L' + 1 + 1) la oc oI2 oD oN dc ((mg "__name__").getD .none) ctv ep ⟨cvs, ct, d1, d2⟩ dI2 dD dN ns vs (by omega) hI hds ns.length 601 4003 0 _ _ h0 (by omega) (by omega) (by omega)).at
        [(37, tabObj #[rawInt 47, rawInt 4, .ref c])] (by assumption) (by assumption) (by assumption) N4 (by k_subL) (by ((try simp only [List.cons_append, List.nil_append, ApartL, AllNe, and_true]); (repeat' (first | exact True.intro | refine And.intro ?_ ?_)); all_goals k_ne)) (by assumption) (by assumption) (by assumption) rfl (Nat.le_refl _) (Nat.le_refl _) ?_
      rintro r post h' tk' F' N' D' ⟨⟨t, rfl⟩, rfl⟩
      (try dsimp only)
      walk_at "mine:steps"
      show Done _ _ _ _ _
      rw [seg_whole]
      exact ⟨_, _, [(la, listOf vs.toArray ep), (37, tabObj #[rawInt 47, rawInt 4, .ref c]), (c, oc)], F', news_sub N' (by k_subL), ⟨_, _, rfl, rfl, ⟨c, oc, rfl, ⟨cvs, ct, d1, d2⟩, by refine neN ?_; omega⟩⟩, _, _, rfl⟩
    · rw [if_neg (by simpa using h0)]
      walk_at "mine:steps"
      show Done _ _ _ _ _
      have hnil : ns = [] := List.eq_nil_of_length_eq_zero (by omega)
      subst hnil
      exact ⟨_, _, [(la, listOf vs.toArray ep), (37, tabObj #[rawInt 47, rawInt 4, .ref c]), (c, oc)], F4, news_sub N4 (by k_subL), ⟨_, _, rfl, rfl, ⟨c, oc, rfl, ⟨cvs, ct, d1, d2⟩, by refine neN ?_; omega⟩⟩, _, _, rfl⟩
  · k_dflt (refine' Spec.cells (binds := [(Str.ofString "digits", .ref la), (Str.ofString "n", .int n tn)]) ?k1 ?k2 ?k3 ?k4 ?k5 ?k6 ?_ ?c1 ?c2 ?c3; ((case k1 => k_is); (case k2 => k_is); (case k3 => decide); (case k4 => intro s; exact BindsTo.of_eq rfl); (case k5 => exact rfl); (case k6 => decide +kernel); (case c1 => exact rfl); (case c2 => exact rfl); (case c3 => exact rfl)))
    intro p loose mean mg mb gd cn cs a₀ ccd cl outer base g L L' s cells hke F N Y l1 B X T C1 C2
    k_lt l1
    obtain ⟨oI, oN, oD, rfl, dI, dN, dD⟩ := CellsAre.three Y
    replace dI : oI.data = .cell none := dI
    replace dN : oN.data = .cell (some (.int n tn)) := dN
    replace dD : oD.data = .cell (some (.ref la)) := dD
    replace F : Fr g L' s.heap (fun y => none) := F
    replace N : News g L' s.heap [(L' + 1 + 1 + 1, oI), (L' + 1 + 1, oN), (L' + 1, oD), (la, listOf vs.toArray ep), (37, tabObj #[rawInt 47, rawInt 4, .ref c0]), (c0, o0)] := N
    clear Y
    simp only [AllNe, and_true] at hap
    (try replace hap := Hid.mk hap)
    show wpAny _ _ _ _ _ _
    k_fold
    walk_at "mine:steps"
    refine wpAny_execs_cons ?_
    walk_at "mine:steps"
    rename_i f ctv dc h3 tk3 l3 h4 oI2 F4 N4 dI2
    obtain ⟨cvs, ct, d1, d2⟩ := hok
    replace hne := neN hne
    by_cases h0 : 0 < ns.length
    · rw [if_pos (decide_eq_true h0)]
      walk_at "mine:steps"
      rw [show (ns.length : Int) = ((0 + ns.length : Nat) : Int) by omega]
      refine (hin f c0 (L' + 1 + 1 + 1) (L' + 1) (L' + 1 + 1) la o0 oI2 oD oN dc ((mg "__name__").getD .none) ctv ep ⟨cvs, ct, d1, d2⟩ dI2 dD dN ns vs (by omega) hI hds ns.length 601 4003 0 _ _ h0 (by omega) (by omega) (by omega)).at
        [(37, tabObj #[rawInt 47, rawInt 4, .ref c0])] (by assumption) (by assumption) (by assumption) N4 (by k_subL) (by ((try simp only [List.cons_append, List.nil_append, ApartL, AllNe, and_true]); (repeat' (first | exact True.intro | refine And.intro ?_ ?_)); all_goals k_ne)) (by assumption) (by assumption) (by assumption) rfl (Nat.le_refl _) (Nat.le_refl _) ?_
      rintro r post h' tk' F' N' D' ⟨⟨t, rfl⟩, rfl⟩
      (try dsimp only)
      walk_at "mine:steps"
      show Done _ _ _ _ _
      rw [seg_whole]
      exact ⟨_, _, [(la, listOf vs.toArray ep), (37, tabObj #[rawInt 47, rawInt 4, .ref c0]), (c0, o0)], F', news_sub N' (by k_subL), ⟨_, _, rfl, rfl, ⟨c0, o0, rfl, ⟨cvs, ct, d1, d2⟩, by refine neN ?_; omega⟩⟩, _, _, rfl⟩
    · rw [if_neg (by simpa using h0)]
      walk_at "mine:steps"
      show Done _ _ _ _ _
      have hnil : ns = [] := List.eq_nil_of_length_eq_zero (by omega)
      subst hnil
      exact ⟨_, _, [(la, listOf vs.toArray ep), (37, tabObj #[rawInt 47, rawInt 4, .ref c0]), (c0, o0)], F4, news_sub N4 (by k_subL), ⟨_, _, rfl, rfl, ⟨c0, o0, rfl, ⟨cvs, ct, d1, d2⟩, by refine neN ?_; omega⟩⟩, _, _, rfl⟩

end
section
theorem resetF7 : True := by
  w_top off
  exact trivial





/-- both tables of codes: not filled yet, or filled -/
noncomputable def TabsNew (l : List (Addr × Obj)) : Prop := l = [(30, tabObj #[]), (37, tabObj #[])]
noncomputable def TabsFull (l : List (Addr × Obj)) : Prop := ∃ cA oA cB oB, l = [(30, tabObj #[rawInt 32, rawInt 4, .ref cA]), (cA, oA), (37, tabObj #[rawInt 47, rawInt 4, .ref cB]), (cB, oB)] ∧
  CodeOk oA (Str.ofString "_int2digits.<locals>.inner") ∧ CodeOk oB (Str.ofString "_digits2int.<locals>.inner") ∧ AllNe cA [(30, oA), (37, oA), (cB, oA)] ∧ AllNe cB [(30, oA), (37, oA)]
noncomputable def PairTabs (q r : Int) (v : Value) (post : List (Addr × Obj)) : Prop := ∃ x tq tr l, v = .ref x ∧ post = (x, tup [.int q tq, .int r tr]) :: l ∧ TabsFull l ∧ AllNe x l

abbrev dpM (a b : Int) (ta tb : Tok) : Str → Option Value := fun y => List.lookup y [(Str.ofString "a", .int a ta), (Str.ofString "b", .int b tb)].reverse

theorem divmod_pos_new (w : World) (a b : Int) (ta tb : Tok) (n : Nat) (hn : Builtin.Int.intBits b = n) (hb : 0 < b) (hn2 : n ≤ 7998) (ha : 0 ≤ a) (hab : Builtin.Int.intBits a ≤ 20000) (hK : (Builtin.Int.intBits a + n - 1) / n ≤ 50) (l : List (Addr × Obj)) (hl : TabsNew l) :
    Spec PySem.Challenge.rw_rl0044_01.row.prog w (hd.heap_39 w.params) 590 3990 49 [.int a ta, .int b tb] l (PairTabs (a / b) (a % b)) := by
  have hbg := bits_ge hb
  have hbl := bits_lt (Int.le_of_lt hb)
  rw [hn] at hbg hbl
  unfold TabsNew at hl
  subst hl
  k_fill
  k_dflt (refine' Spec.plain (binds := [(Str.ofString "a", .int a ta), (Str.ofString "b", .int b tb)]) ?k1 ?k2 ?k3 ?k4 ?k5 ?_ ?c1 ?c2 ?c3 ?c4; ((case k1 => k_is); (case k2 => k_is); (case k3 => decide); (case k4 => intro s; exact BindsTo.of_eq rfl); (case k5 => exact locs rfl); (case c1 => exact rfl); (case c2 => exact rfl); (case c3 => exact rfl); (case c4 => decide)))
  intro p loose mean mg mb gd cn cs a₀ ccd cl outer base g L L' s hke F N B X T C1 C2
  (try dsimp only)
  k_fold
  walk_at "mine:steps"
  rw [hn] at *
  clear hn
  obtain ⟨K, eK⟩ : ∃ K, K = (Builtin.Int.intBits a + n - 1) / n := ⟨_, rfl⟩
  have hbK : Builtin.Int.intBits a ≤ K * n := by
    have e1 := Nat.div_add_mod (Builtin.Int.intBits a + n - 1) n
    have e2 := Nat.mod_lt (Builtin.Int.intBits a + n - 1) (by omega : 0 < n)
    rw [← eK, Nat.mul_comm] at e1
    omega
  have haK : a < 2 ^ (K * n) := Int.lt_of_lt_of_le (bits_lt ha) (by
    have := Nat.pow_le_pow_right (n := 2) (by decide) hbK
    have e : ∀ j : Nat, (2 : Int) ^ j = ((2 ^ j : Nat) : Int) := fun j => by simp
    rw [e, e]; omega)
  refine (int2digits w a n _ _ hbg.1 (by omega) ha hab hK [(30, tabObj #[])] (.inl rfl)).at [(37, tabObj #[])] (by assumption) (by assumption) (by assumption) (by assumption) (by k_subL) (by ((try simp only [List.cons_append, List.nil_append, ApartL, AllNe, and_true]); (repeat' (first | exact True.intro | refine And.intro ?_ ?_)); all_goals k_ne)) (by assumption) (by assumption) (by assumption) rfl (Nat.le_of_ble_eq_true rfl) (Nat.le_of_ble_eq_true rfl) ?_
  rintro r post h' tk' F' N' D' ⟨x, vs, ep, l, rfl, rfl, hI, ⟨cA, oA, rfl, hokA, hneA⟩, hap⟩
  simp only [List.cons_append, List.nil_append] at N'
  simp only [ApartL, AllNe, and_true, and_assoc] at D'
  (try replace D' := Hid.mk D')
  replace hap := AllNe.to hap
  simp only [AllNe, and_true] at hap
  (try replace hap := Hid.mk hap)
  replace hneA := neN hneA
  rw [← eK] at hI hK
  clear eK
  (try dsimp only)
  walk_at "mine:steps"
  rename Fr _ _ _ _ => Fz
  refine For_invVF Fz rfl rfl ?_
  walk_at "mine:steps"
  rename_i Qd h5 lq h6 I h7 Fy Ny lI
  (try dsimp only)
  refine iter_revUnr (lo := listOf vs.toArray ep) (vs := vs) rfl Fy Ny (by k_offL) (by k_mem) rfl rfl ?_
  refine rev_inv (fun rv m news => ∃ (ds : List Int) (r : Int) (tr : Tok) (qs : List Int) (qv : List Value) (eq : Nat) (u : Str → Option Value), IntsAre rv ds ∧ (∀ d ∈ ds, 0 ≤ d ∧ d < 2 ^ n) ∧ 0 ≤ r ∧ r < b ∧ IntsAre qv qs ∧ qs.length + ds.length ≤ 50 ∧ divLoop n b ds r qs = divLoop n b (digitsOf n a K).reverse 0 [] ∧
      m = (fun y => if y = Str.ofString "r" then some (.int r tr) else if y = Str.ofString "q_digits" then some (.ref Qd) else if y = Str.ofString "n" then some (.int n s.toks) else if y = Str.ofString "b" then some (.int b tb) else u y) ∧
      news = [(Qd, listOf qv.toArray eq), (x, listOf vs.toArray ep), (30, tabObj #[rawInt 32, rawInt 4, .ref cA]), (cA, oA), (37, tabObj #[])]) ?_ ?_ vs.reverse _ _ ?_
  · clear Fy Ny
    rintro v rv m news ⟨_, r, tr, qs, qv, eq, u, hrv, hds, hr0, hr1, hqI, hlen, hdl, rfl, rfl⟩ it h tk hcl F9 N9
    cases hrv with
    | @cons d td _ ds hrv =>
      have hd := hds d (List.mem_cons_self ..)
      have hlq := hqI.length
      rw [List.length_cons] at hlen
      walk_at "mine:steps"
      refine lsh (by have := bits_le hr0 (Int.lt_trans hr1 hbl); omega) fun _ _ => ?_
      (try dsimp only)
      walk_at "mine:steps"
      have hp := pow_pos2 n
      have hA0 : 0 ≤ r * 2 ^ n + d := by have := Int.mul_nonneg hr0 (Int.le_of_lt hp); omega
      have hA1 : r * 2 ^ n + d < b * 2 ^ n := by
        have : (r + 1) * 2 ^ n ≤ b * 2 ^ n := Int.mul_le_mul_of_nonneg_right (by omega) (Int.le_of_lt hp)
        rw [Int.add_mul] at this; omega
      refine (div2 w (r * 2 ^ n + d) b n _ _ _ hbg.1 hn2 hbg.2 hbl hA0 hA1).use (by assumption) (by assumption) (by assumption) (by assumption) (by assumption) (by assumption) (by assumption) rfl (Nat.le_of_ble_eq_true rfl) (Nat.le_of_ble_eq_true rfl) ?_
      rintro r2 post h' tk' F' N' D2 ⟨y, tq, tr', rfl, rfl⟩
      simp only [List.cons_append, List.nil_append] at N'
      replace D2 := ApartL.to D2
      simp only [ApartL, AllNe, and_true, and_assoc] at D2
      (try replace D2 := Hid.mk D2)
      (try dsimp only)
      walk_at "mine:steps"
      rename Fr _ _ _ _ => Fz
      rename News _ _ _ _ => Nz
      rw [List.push_toArray] at Nz
      show UnrEnd _ _ _ _ _ _ _
      refine UnrEnd.intro3 Fz Nz [(Qd, listOf (qv ++ [Value.int ((r * 2 ^ n + d) / b) tq]).toArray (eq + 1)), (x, listOf vs.toArray ep), (30, tabObj #[rawInt 32, rawInt 4, .ref cA]), (cA, oA), (37, tabObj #[])] (by k_mem) (by k_subL) (by k_offL)
        ⟨by k_mem, ds, _, _, qs ++ [(r * 2 ^ n + d) / b], _, _, _, hrv, fun e he => hds e (List.mem_cons_of_mem _ he), Int.emod_nonneg _ (by omega), Int.emod_lt_of_pos _ hb, ints_append hqI (.cons _ _ .nil), by simp; omega, hdl, canon4 rfl rfl rfl rfl, rfl⟩
  · clear Fy Ny
    rintro m news h tk ⟨_, r, tr, qs, qv, eq, u, hrv, hds, hr0, hr1, hqI, hlen, hdl, rfl, rfl⟩ F9 N9
    cases hrv
    obtain ⟨f1, f2, f3, f4⟩ := divLoop_whole (n := n) (k := K) hb ha haK
    rw [← hdl] at f1 f2 f3 f4
    simp only [divLoop] at f1 f2 f3 f4
    have hlq := hqI.length
    (try dsimp only)
    walk_at "mine:steps"
    refine kl_reverse (its := qv.toArray) (l := qv.reverse) F9 N9 (by simp) (by k_upd) (by simp [sizeLine]; omega) ?_
    clear F9 N9
    intro h' F' N'
    (try dsimp only)
    walk_at "mine:steps"
    have hds2 : ∀ d ∈ qs.reverse, 0 ≤ d ∧ d < 2 ^ n := fun d hd => f3 d (List.mem_reverse.mp hd)
    refine (digits2int w qs.reverse qv.reverse Qd eq n _ hbg.1 (by omega) (by simp; omega) (ints_rev hqI) hds2 [(37, tabObj #[])] (.inl rfl) (by ((try simp only [AllNe, and_true]); (repeat' (first | exact True.intro | refine And.intro ?_ ?_)); all_goals k_ne))).at
      [(30, tabObj #[rawInt 32, rawInt 4, .ref cA]), (cA, oA)] (by assumption) (by assumption) (by assumption) (by assumption) (by k_subL) (by ((try simp only [List.cons_append, List.nil_append, ApartL, AllNe, and_true]); (repeat' (first | exact True.intro | refine And.intro ?_ ?_)); all_goals k_ne)) (by assumption) (by assumption) (by assumption) rfl (Nat.le_of_ble_eq_true rfl) (Nat.le_of_ble_eq_true rfl) ?_
    rintro r2 post h' tk' F' N' D2 ⟨t2, l2, rfl, rfl, ⟨cB, oB, rfl, hokB, hneB⟩⟩
    simp only [List.cons_append, List.nil_append] at N'
    simp only [ApartL, AllNe, and_true, and_assoc] at D2
    (try replace D2 := Hid.mk D2)
    replace hneB := neN hneB
    rw [f1]
    subst f2
    (try dsimp only)
    walk_at "mine:steps"
    show Done _ _ _ _ _
    rename News _ _ _ _ => Nz
    rename_i D9 h9 F9 l9
    refine ⟨_, _, [(D9, tup [.int (a / b) t2, .int (a % b) tr]), (30, tabObj #[rawInt 32, rawInt 4, .ref cA]), (cA, oA), (37, tabObj #[rawInt 47, rawInt 4, .ref cB]), (cB, oB)], F9, news_sub Nz (by k_subL), ⟨D9, _, _, _, rfl, rfl, ⟨cA, oA, cB, oB, rfl, hokA, hokB, ?_, ?_⟩, ?_⟩, _, _, rfl⟩
    all_goals ((try simp only [AllNe, and_true]); (repeat' (first | exact True.intro | refine And.intro ?_ ?_)); all_goals k_ne)
  · exact ⟨_, 0, _, [], [], _, _, ints_rev hI, fun d hd => digits_bound n a K d (List.mem_reverse.mp hd), Int.le_refl _, hb, .nil, by simp [digits_length]; omega, rfl, canon4 rfl rfl rfl rfl, rfl⟩
theorem divmod_pos_full (w : World) (a b : Int) (ta tb : Tok) (n : Nat) (hn : Builtin.Int.intBits b = n) (hb : 0 < b) (hn2 : n ≤ 7998) (ha : 0 ≤ a) (hab : Builtin.Int.intBits a ≤ 20000) (hK : (Builtin.Int.intBits a + n - 1) / n ≤ 50) (l : List (Addr × Obj)) (hl : TabsFull l) :
    Spec PySem.Challenge.rw_rl0044_01.row.prog w (hd.heap_39 w.params) 590 3990 49 [.int a ta, .int b tb] l (PairTabs (a / b) (a % b)) := by
  have hbg := bits_ge hb
  have hbl := bits_lt (Int.le_of_lt hb)
  rw [hn] at hbg hbl
  obtain ⟨cA0, oA0, cB0, oB0, rfl, hokA0, hokB0, hd1, hd2⟩ := hl
  simp only [AllNe, and_true] at hd1 hd2
  (try replace hd1 := Hid.mk hd1)
  (try replace hd2 := Hid.mk hd2)
  k_fill
  k_dflt (refine' Spec.plain (binds := [(Str.ofString "a", .int a ta), (Str.ofString "b", .int b tb)]) ?k1 ?k2 ?k3 ?k4 ?k5 ?_ ?c1 ?c2 ?c3 ?c4; ((case k1 => k_is); (case k2 => k_is); (case k3 => decide); (case k4 => intro s; exact BindsTo.of_eq rfl); (case k5 => exact locs rfl); (case c1 => exact rfl); (case c2 => exact rfl); (case c3 => exact rfl); (case c4 => decide)))
  intro p loose mean mg mb gd cn cs a₀ ccd cl outer base g L L' s hke F N B X T C1 C2
  (try dsimp only)
  k_fold
  walk_at "mine:steps"
  rw [hn] at *
  clear hn
  obtain ⟨K, eK⟩ : ∃ K, K = (Builtin.Int.intBits a + n - 1) / n := ⟨_, rfl⟩
  have hbK : Builtin.Int.intBits a ≤ K * n := by
    have e1 := Nat.div_add_mod (Builtin.Int.intBits a + n - 1) n
    have e2 := Nat.mod_lt (Builtin.Int.intBits a + n - 1) (by omega : 0 < n)
    rw [← eK, Nat.mul_comm] at e1
    omega
  have haK : a < 2 ^ (K * n) := Int.lt_of_lt_of_le (bits_lt ha) (by
    have := Nat.pow_le_pow_right (n := 2) (by decide) hbK
    have e : ∀ j : Nat, (2 : Int) ^ j = ((2 ^ j : Nat) : Int) := fun j => by simp
    rw [e, e]; omega)
  refine (int2digits w a n _ _ hbg.1 (by omega) ha hab hK [(30, tabObj #[rawInt 32, rawInt 4, .ref cA0]), (cA0, oA0)] (.inr ⟨cA0, oA0, rfl, hokA0, hd1.1⟩)).at [(37, tabObj #[rawInt 47, rawInt 4, .ref cB0]), (cB0, oB0)] (by assumption) (by assumption) (by assumption) (by assumption) (by k_subL) (by ((try simp only [List.cons_append, List.nil_append, ApartL, AllNe, and_true]); (repeat' (first | exact True.intro | refine And.intro ?_ ?_)); all_goals k_ne)) (by assumption) (by assumption) (by assumption) rfl (Nat.le_of_ble_eq_true rfl) (Nat.le_of_ble_eq_true rfl) ?_
  rintro r post h' tk' F' N' D' ⟨x, vs, ep, l, rfl, rfl, hI, ⟨cA, oA, rfl, hokA, hneA⟩, hap⟩
  simp only [List.cons_append, List.nil_append] at N'
  simp only [ApartL, AllNe, and_true, and_assoc] at D'
  (try replace D' := Hid.mk D')
  replace hap := AllNe.to hap
  simp only [AllNe, and_true] at hap
  (try replace hap := Hid.mk hap)
  replace hneA := neN hneA
  rw [← eK] at hI hK
  clear eK
  (try dsimp only)
  walk_at "mine:steps"
  rename Fr _ _ _ _ => Fz
  refine For_invVF Fz rfl rfl ?_
  walk_at "mine:steps"
  rename_i Qd h5 lq h6 I h7 Fy Ny lI
  (try dsimp only)
  refine iter_revUnr (lo := listOf vs.toArray ep) (vs := vs) rfl Fy Ny (by k_offL) (by k_mem) rfl rfl ?_
  refine rev_inv (fun rv m news => ∃ (ds : List Int) (r : Int) (tr : Tok) (qs : List Int) (qv : List Value) (eq : Nat) (u : Str → Option Value), IntsAre rv ds ∧ (∀ d ∈ ds, 0 ≤ d ∧ d < 2 ^ n) ∧ 0 ≤ r ∧ r < b ∧ IntsAre qv qs ∧ qs.length + ds.length ≤ 50 ∧ divLoop n b ds r qs = divLoop n b (digitsOf n a K).reverse 0 [] ∧
      m = (fun y => if y = Str.ofString "r" then some (.int r tr) else if y = Str.ofString "q_digits" then some (.ref Qd) else if y = Str.ofString "n" then some (.int n s.toks) else if y = Str.ofString "b" then some (.int b tb) else u y) ∧
      news = [(Qd, listOf qv.toArray eq), (x, listOf vs.toArray ep), (30, tabObj #[rawInt 32, rawInt 4, .ref cA]), (cA, oA), (37, tabObj #[rawInt 47, rawInt 4, .ref cB0]), (cB0, oB0)]) ?_ ?_ vs.reverse _ _ ?_
  · clear Fy Ny
    rintro v rv m news ⟨_, r, tr, qs, qv, eq, u, hrv, hds, hr0, hr1, hqI, hlen, hdl, rfl, rfl⟩ it h tk hcl F9 N9
    cases hrv with
    | @cons d td _ ds hrv =>
      have hd := hds d (List.mem_cons_self ..)
      have hlq := hqI.length
      rw [List.length_cons] at hlen
      walk_at "mine:steps"
      refine lsh (by have := bits_le hr0 (Int.lt_trans hr1 hbl); omega) fun _ _ => ?_
      (try dsimp only)
      walk_at "mine:steps"
      have hp := pow_pos2 n
      have hA0 : 0 ≤ r * 2 ^ n + d := by have := Int.mul_nonneg hr0 (Int.le_of_lt hp); omega
      have hA1 : r * 2 ^ n + d < b * 2 ^ n := by
        have : (r + 1) * 2 ^ n ≤ b * 2 ^ n := Int.mul_le_mul_of_nonneg_right (by omega) (Int.le_of_lt hp)
        rw [Int.add_mul] at this; omega
      refine (div2 w (r * 2 ^ n + d) b n _ _ _ hbg.1 hn2 hbg.2 hbl hA0 hA1).use (by assumption) (by assumption) (by assumption) (by assumption) (by assumption) (by assumption) (by assumption) rfl (Nat.le_of_ble_eq_true rfl) (Nat.le_of_ble_eq_true rfl) ?_
      rintro r2 post h' tk' F' N' D2 ⟨y, tq, tr', rfl, rfl⟩
      simp only [List.cons_append, List.nil_append] at N'
      replace D2 := ApartL.to D2
      simp only [ApartL, AllNe, and_true, and_assoc] at D2
      (try replace D2 := Hid.mk D2)
      (try dsimp only)
      walk_at "mine:steps"
      rename Fr _ _ _ _ => Fz
      rename News _ _ _ _ => Nz
      rw [List.push_toArray] at Nz
      show UnrEnd _ _ _ _ _ _ _
      refine UnrEnd.intro3 Fz Nz [(Qd, listOf (qv ++ [Value.int ((r * 2 ^ n + d) / b) tq]).toArray (eq + 1)), (x, listOf vs.toArray ep), (30, tabObj #[rawInt 32, rawInt 4, .ref cA]), (cA, oA), (37, tabObj #[rawInt 47, rawInt 4, .ref cB0]), (cB0, oB0)] (by k_mem) (by k_subL) (by k_offL)
        ⟨by k_mem, ds, _, _, qs ++ [(r * 2 ^ n + d) / b], _, _, _, hrv, fun e he => hds e (List.mem_cons_of_mem _ he), Int.emod_nonneg _ (by omega), Int.emod_lt_of_pos _ hb, ints_append hqI (.cons _ _ .nil), by simp; omega, hdl, canon4 rfl rfl rfl rfl, rfl⟩
  · clear Fy Ny
    rintro m news h tk ⟨_, r, tr, qs, qv, eq, u, hrv, hds, hr0, hr1, hqI, hlen, hdl, rfl, rfl⟩ F9 N9
    cases hrv
    obtain ⟨f1, f2, f3, f4⟩ := divLoop_whole (n := n) (k := K) hb ha haK
    rw [← hdl] at f1 f2 f3 f4
    simp only [divLoop] at f1 f2 f3 f4
    have hlq := hqI.length
    (try dsimp only)
    walk_at "mine:steps"
    refine kl_reverse (its := qv.toArray) (l := qv.reverse) F9 N9 (by simp) (by k_upd) (by simp [sizeLine]; omega) ?_
    clear F9 N9
    intro h' F' N'
    (try dsimp only)
    walk_at "mine:steps"
    have hds2 : ∀ d ∈ qs.reverse, 0 ≤ d ∧ d < 2 ^ n := fun d hd => f3 d (List.mem_reverse.mp hd)
    refine (digits2int w qs.reverse qv.reverse Qd eq n _ hbg.1 (by omega) (by simp; omega) (ints_rev hqI) hds2 [(37, tabObj #[rawInt 47, rawInt 4, .ref cB0]), (cB0, oB0)] (.inr ⟨cB0, oB0, rfl, hokB0, hd2.2⟩) (by ((try simp only [AllNe, and_true]); (repeat' (first | exact True.intro | refine And.intro ?_ ?_)); all_goals k_ne))).at
      [(30, tabObj #[rawInt 32, rawInt 4, .ref cA]), (cA, oA)] (by assumption) (by assumption) (by assumption) (by assumption) (by k_subL) (by ((try simp only [List.cons_append, List.nil_append, ApartL, AllNe, and_true]); (repeat' (first | exact True.intro | refine And.intro ?_ ?_)); all_goals k_ne)) (by assumption) (by assumption) (by assumption) rfl (Nat.le_of_ble_eq_true rfl) (Nat.le_of_ble_eq_true rfl) ?_
    rintro r2 post h' tk' F' N' D2 ⟨t2, l2, rfl, rfl, ⟨cB, oB, rfl, hokB, hneB⟩⟩
    simp only [List.cons_append, List.nil_append] at N'
    simp only [ApartL, AllNe, and_true, and_assoc] at D2
    (try replace D2 := Hid.mk D2)
    replace hneB := neN hneB
    rw [f1]
    subst f2
    (try dsimp only)
    walk_at "mine:steps"
    show Done _ _ _ _ _
    rename News _ _ _ _ => Nz
    rename_i D9 h9 F9 l9
    refine ⟨_, _, [(D9, tup [.int (a / b) t2, .int (a % b) tr]), (30, tabObj #[rawInt 32, rawInt 4, .ref cA]), (cA, oA), (37, tabObj #[rawInt 47, rawInt 4, .ref cB]), (cB, oB)], F9, news_sub Nz (by k_subL), ⟨D9, _, _, _, rfl, rfl, ⟨cA, oA, cB, oB, rfl, hokA, hokB, ?_, ?_⟩, ?_⟩, _, _, rfl⟩
    all_goals ((try simp only [AllNe, and_true]); (repeat' (first | exact True.intro | refine And.intro ?_ ?_)); all_goals k_ne)
  · exact ⟨_, 0, _, [], [], _, _, ints_rev hI, fun d hd => digits_bound n a K d (List.mem_reverse.mp hd), Int.le_refl _, hb, .nil, by simp [digits_length]; omega, rfl, canon4 rfl rfl rfl rfl, rfl⟩

theorem divmod_pos (w : World) (a b : Int) (ta tb : Tok) (n : Nat) (hn : Builtin.Int.intBits b = n) (hb : 0 < b) (hn2 : n ≤ 7998) (ha : 0 ≤ a) (hab : Builtin.Int.intBits a ≤ 20000) (hK : (Builtin.Int.intBits a + n - 1) / n ≤ 50) (l : List (Addr × Obj)) (hl : TabsNew l ∨ TabsFull l) :
    Spec PySem.Challenge.rw_rl0044_01.row.prog w (hd.heap_39 w.params) 590 3990 49 [.int a ta, .int b tb] l (PairTabs (a / b) (a % b)) :=
  hl.elim (divmod_pos_new w a b ta tb n hn hb hn2 ha hab hK l) (divmod_pos_full w a b ta tb n hn hb hn2 ha hab hK l)

end
section
theorem resetF8 : True := by
  w_top off
  exact trivial





theorem bits_neg (x : Int) : Builtin.Int.intBits (-x) = Builtin.Int.intBits x := by
  unfold Builtin.Int.intBits
  simp
theorem bits_inv {x : Int} (h : x < 0) : Builtin.Int.intBits (-x - 1) ≤ Builtin.Int.intBits x := by
  refine bits_le (by omega) ?_
  have := bits_lt (x := -x) (by omega)
  rw [bits_neg] at this
  omega
/-- what may be divided: the divisor's bits, the dividend's, and how many figures it has -/
noncomputable def Fits (a b : Int) : Prop := Builtin.Int.intBits b ≤ 7998 ∧ Builtin.Int.intBits a ≤ 20000 ∧ (Builtin.Int.intBits a + Builtin.Int.intBits b - 1) / Builtin.Int.intBits b ≤ 50
theorem Fits.less {a a' b b' : Int} (h : Fits a b) (h1 : Builtin.Int.intBits a' ≤ Builtin.Int.intBits a) (h2 : Builtin.Int.intBits b' = Builtin.Int.intBits b) : Fits a' b' := by
  unfold Fits at *
  rw [h2]
  exact ⟨h.1, by omega, Nat.le_trans (Nat.div_le_div_right (by omega)) h.2.2⟩

abbrev idM (a b : Int) (ta tb : Tok) : Str → Option Value := fun y => List.lookup y [(Str.ofString "a", .int a ta), (Str.ofString "b", .int b tb)].reverse

theorem idm0 (w : World) (a b : Int) (ta tb : Tok) (hb : 0 < b) (ha : 0 ≤ a) (hf : Fits a b) (l : List (Addr × Obj)) (hl : TabsNew l ∨ TabsFull l) :
    Spec PySem.Challenge.rw_rl0044_01.row.prog w (hd.heap_39 w.params) 580 3980 56 [.int a ta, .int b tb] l (PairTabs (a / b) (a % b)) := by
  k_fill
  k_dflt (refine' Spec.plain (binds := [(Str.ofString "a", .int a ta), (Str.ofString "b", .int b tb)]) ?k1 ?k2 ?k3 ?k4 ?k5 ?_ ?c1 ?c2 ?c3 ?c4; ((case k1 => k_is); (case k2 => k_is); (case k3 => decide); (case k4 => intro s; exact BindsTo.of_eq rfl); (case k5 => exact locs rfl); (case c1 => exact rfl); (case c2 => exact rfl); (case c3 => exact rfl); (case c4 => decide)))
  intro p loose mean mg mb gd cn cs a₀ ccd cl outer base g L L' s hke F N B X T C1 C2
  (try dsimp only)
  k_fold
  refine wpAny_execs_cons ?_
  walk_at "mine:steps"
  rw [if_neg (by simp; omega)]
  refine wpAny_execs_cons ?_
  walk_at "mine:steps"
  rw [if_neg (by simp; omega)]
  refine wpAny_execs_cons ?_
  walk_at "mine:steps"
  rw [if_neg (by simp; omega)]
  walk_at "mine:steps"
  refine (divmod_pos w a b _ _ _ rfl hb hf.1 ha hf.2.1 hf.2.2 l hl).at [] (by assumption) (by assumption) (by assumption) (by assumption) (SubL_self _) (ApartL_nil _) (by assumption) (by assumption) (by assumption) rfl (Nat.le_of_ble_eq_true rfl) (Nat.le_of_ble_eq_true rfl) ?_
  rintro r post h' tk' F' N' D' hp
  rw [List.append_nil] at N'
  show Done _ _ _ _ _
  exact ⟨_, _, _, F', N', hp, _, _, rfl⟩

theorem bitNot_is (x : Int) : Builtin.bitNot x = -x - 1 := by unfold Builtin.bitNot; omega
theorem neg_div {a b : Int} (ha : a < 0) (hb : 0 < b) : -((-a - 1) / b) - 1 = a / b ∧ b + (-((-a - 1) % b) - 1) = a % b := by
  have e1 := Int.mul_ediv_add_emod (-a - 1) b
  have e2 := Int.emod_nonneg (-a - 1) (by omega : b ≠ 0)
  have e3 := Int.emod_lt_of_pos (-a - 1) hb
  have h := divmod_of (A := a) (b := b) (q := -((-a - 1) / b) - 1) (r := b + (-((-a - 1) % b) - 1)) (by
    rw [Int.sub_mul, Int.neg_mul, Int.mul_comm _ b]; omega) (by omega) (by omega)
  exact ⟨h.1.symm, h.2.symm⟩

theorem idm1 (w : World) (a b : Int) (ta tb : Tok) (hb : 0 < b) (hf : Fits a b) (l : List (Addr × Obj)) (hl : TabsNew l ∨ TabsFull l) :
    Spec PySem.Challenge.rw_rl0044_01.row.prog w (hd.heap_39 w.params) 579 3970 56 [.int a ta, .int b tb] l (PairTabs (a / b) (a % b)) := by
  by_cases ha : 0 ≤ a
  · exact (idm0 w a b ta tb hb ha hf l hl).mono (by decide) (by decide) fun _ _ x => x
  k_fill
  k_dflt (refine' Spec.plain (binds := [(Str.ofString "a", .int a ta), (Str.ofString "b", .int b tb)]) ?k1 ?k2 ?k3 ?k4 ?k5 ?_ ?c1 ?c2 ?c3 ?c4; ((case k1 => k_is); (case k2 => k_is); (case k3 => decide); (case k4 => intro s; exact BindsTo.of_eq rfl); (case k5 => exact locs rfl); (case c1 => exact rfl); (case c2 => exact rfl); (case c3 => exact rfl); (case c4 => decide)))
  intro p loose mean mg mb gd cn cs a₀ ccd cl outer base g L L' s hke F N B X T C1 C2
  (try dsimp only)
  k_fold
  refine wpAny_execs_cons ?_
  walk_at "mine:steps"
  rw [if_neg (by simp; omega)]
  refine wpAny_execs_cons ?_
  walk_at "mine:steps"
  rw [if_neg (by simp; omega)]
  refine wpAny_execs_cons ?_
  walk_at "mine:steps"
  rw [if_pos (by simp; omega)]
  walk_at "mine:steps"
  rw [bitNot_is]
  refine (idm0 w (-a - 1) b _ _ hb (by omega) (hf.less (bits_inv (by omega)) rfl) l hl).at [] (by assumption) (by assumption) (by assumption) (by assumption) (SubL_self _) (ApartL_nil _) (by assumption) (by assumption) (by assumption) rfl (Nat.le_of_ble_eq_true rfl) (Nat.le_of_ble_eq_true rfl) ?_
  clear F N
  rintro r post h' tk' F' N' D' ⟨x, tq, tr, l2, rfl, rfl, ⟨cA, oA, cB, oB, rfl, hokA, hokB, hd1, hd2⟩, hd3⟩
  simp only [List.append_nil] at N'
  simp only [AllNe, and_true] at hd1 hd2 hd3
  (try replace hd1 := Hid.mk hd1)
  (try replace hd2 := Hid.mk hd2)
  (try replace hd3 := Hid.mk hd3)
  (try dsimp only)
  walk_at "mine:steps"
  simp only [bitNot_is] at *
  rename News _ _ _ _ => Nz
  rename_i D9 h9 F9 l9
  obtain ⟨e1, e2⟩ := neg_div (by omega : a < 0) hb
  rw [e1, e2] at Nz
  show Done _ _ _ _ _
  refine ⟨_, _, [(D9, tup [.int (a / b) _, .int (a % b) _]), (30, tabObj #[rawInt 32, rawInt 4, .ref cA]), (cA, oA), (37, tabObj #[rawInt 47, rawInt 4, .ref cB]), (cB, oB)], F9, news_sub Nz (by k_subL), ⟨D9, _, _, _, rfl, rfl, ⟨cA, oA, cB, oB, rfl, hokA, hokB, ?_, ?_⟩, ?_⟩, _, _, rfl⟩
  all_goals ((try simp only [AllNe, and_true]); (repeat' (first | exact True.intro | refine And.intro ?_ ?_)); all_goals k_ne)

theorem neg_fdiv {a b : Int} (hb : b < 0) : (-a) / (-b) = a.fdiv b ∧ -((-a) % (-b)) = a.fmod b := by
  have h1 : a.fdiv b = -a / -b := by rw [← Int.neg_fdiv_neg, Int.fdiv_eq_ediv_of_nonneg _ (by omega)]
  have h2 := Int.mul_fdiv_add_fmod a b
  have h3 := Int.mul_ediv_add_emod (-a) (-b)
  refine ⟨h1.symm, ?_⟩
  rw [h1] at h2
  rw [Int.neg_mul] at h3
  omega

theorem idm (w : World) (a b : Int) (ta tb : Tok) (hb : b ≠ 0) (hf : Fits a b) (l : List (Addr × Obj)) (hl : TabsNew l ∨ TabsFull l) :
    Spec PySem.Challenge.rw_rl0044_01.row.prog w (hd.heap_39 w.params) 578 3960 56 [.int a ta, .int b tb] l (PairTabs (a.fdiv b) (a.fmod b)) := by
  by_cases hb1 : 0 < b
  · rw [Int.fdiv_eq_ediv_of_nonneg _ (by omega), Int.fmod_eq_emod_of_nonneg _ (by omega)]
    exact (idm1 w a b ta tb hb1 hf l hl).mono (by decide) (by decide) fun _ _ x => x
  k_fill
  k_dflt (refine' Spec.plain (binds := [(Str.ofString "a", .int a ta), (Str.ofString "b", .int b tb)]) ?k1 ?k2 ?k3 ?k4 ?k5 ?_ ?c1 ?c2 ?c3 ?c4; ((case k1 => k_is); (case k2 => k_is); (case k3 => decide); (case k4 => intro s; exact BindsTo.of_eq rfl); (case k5 => exact locs rfl); (case c1 => exact rfl); (case c2 => exact rfl); (case c3 => exact rfl); (case c4 => decide)))
  intro p loose mean mg mb gd cn cs a₀ ccd cl outer base g L L' s hke F N B X T C1 C2
  (try dsimp only)
  k_fold
  refine wpAny_execs_cons ?_
  walk_at "mine:steps"
  rw [if_neg (by simp; omega)]
  refine wpAny_execs_cons ?_
  walk_at "mine:steps"
  rw [if_pos (by simp; omega)]
  walk_at "mine:steps"
  refine (idm1 w (-a) (-b) _ _ (by omega) (hf.less (by rw [bits_neg]; omega) (bits_neg b)) l hl).at [] (by assumption) (by assumption) (by assumption) (by assumption) (SubL_self _) (ApartL_nil _) (by assumption) (by assumption) (by assumption) rfl (Nat.le_of_ble_eq_true rfl) (Nat.le_of_ble_eq_true rfl) ?_
  clear F N
  rintro r post h' tk' F' N' D' ⟨x, tq, tr, l2, rfl, rfl, ⟨cA, oA, cB, oB, rfl, hokA, hokB, hd1, hd2⟩, hd3⟩
  simp only [List.append_nil] at N'
  simp only [AllNe, and_true] at hd1 hd2 hd3
  (try replace hd1 := Hid.mk hd1)
  (try replace hd2 := Hid.mk hd2)
  (try replace hd3 := Hid.mk hd3)
  (try dsimp only)
  walk_at "mine:steps"
  rename News _ _ _ _ => Nz
  rename_i D9 h9 F9 l9
  obtain ⟨e1, e2⟩ := neg_fdiv (a := a) (by omega : b < 0)
  rw [e1, e2] at Nz
  show Done _ _ _ _ _
  refine ⟨_, _, [(D9, tup [.int (a.fdiv b) _, .int (a.fmod b) _]), (30, tabObj #[rawInt 32, rawInt 4, .ref cA]), (cA, oA), (37, tabObj #[rawInt 47, rawInt 4, .ref cB]), (cB, oB)], F9, news_sub Nz (by k_subL), ⟨D9, _, _, _, rfl, rfl, ⟨cA, oA, cB, oB, rfl, hokA, hokB, ?_, ?_⟩, ?_⟩, _, _, rfl⟩
  all_goals ((try simp only [AllNe, and_true]); (repeat' (first | exact True.intro | refine And.intro ?_ ?_)); all_goals k_ne)

end
section
theorem resetF9 : True := by
  w_top off
  exact trivial





noncomputable def OvPost (ns : List Int) (la : Addr) (lo : Obj) (v : Value) (post : List (Addr × Obj)) : Prop :=
  ∃ x tv et, v = .ref x ∧ post = [(x, listOf tv.toArray et), (la, lo)] ∧ IntsAre tv ((ovTab ns ns.length).map (fun v : Nat => (v : Int))) ∧ @Ne Nat x la

theorem ints_cast {vs : List Value} {a b : List Int} (e : a = b) (h : IntsAre vs a) : IntsAre vs b := e ▸ h

theorem overlap (w : World) (ns : List Int) (vs : List Value) (la ep : Nat) (hlen : ns.length ≤ 60) (hI : IntsAre vs ns) :
    Spec PySem.Challenge.rw_rl0044_01.row.prog w (hd.heap_39 w.params) 600 4000 63 [.ref la] [(la, listOf vs.toArray ep)] (OvPost ns la (listOf vs.toArray ep)) := by
  have hlv := hI.length
  k_fill
  k_dflt (refine' Spec.plain (binds := [(Str.ofString "prefix", .ref la)]) ?k1 ?k2 ?k3 ?k4 ?k5 ?_ ?c1 ?c2 ?c3 ?c4; ((case k1 => k_is); (case k2 => k_is); (case k3 => decide); (case k4 => intro s; exact BindsTo.of_eq rfl); (case k5 => exact locs rfl); (case c1 => exact rfl); (case c2 => exact rfl); (case c3 => exact rfl); (case c4 => decide)))
  intro p loose mean mg mb gd cn cs a₀ ccd cl outer base g L L' s hke F N B X T C1 C2
  (try dsimp only)
  k_fold
  walk_at "mine:steps"
  (try dsimp only)
  refine KMa.mul (vs := [.int 0 s.toks]) (by assumption) (by assumption) (by is_list) (by omega) (by omega) (by simp; omega) (rep_flat _ _) ?_
  intro D h' F' N' l2
  k_lt l2
  (try rw [Int.toNat_natCast] at N')
  (try dsimp only)
  walk_at "mine:steps"
  rename Fr _ _ _ _ => Fz
  refine For_invVF Fz rfl rfl ?_
  walk_at "mine:steps"
  rename IsRange _ _ _ _ _ _ _ _ => hR
  rename Fr _ _ _ _ => Fy
  rename News _ _ _ _ => Ny
  refine iter_rangeUnr (n := ns.length - 1) rfl hR (range_small (by omega) (by omega) (by omega) (by omega)) (by rw [range_size]; omega) Fy (news_sub (b := [(D, listOf (List.replicate ns.length (.int 0 s.toks)).toArray 0), (la, listOf vs.toArray ep)]) Ny (by k_subL)) ?_
  intro I hIl
  k_lt hIl
  refine range_inv (fun j m news => ∃ (tv : List Value) (et : Nat) (u : Str → Option Value), IntsAre tv (if ns.length = 0 then [] else tabI ns (j + 1)) ∧
      m = (fun y => if y = Str.ofString "table" then some (.ref D) else if y = Str.ofString "prefix" then some (.ref la) else u y) ∧
      news = [(D, listOf tv.toArray et), (la, listOf vs.toArray ep)]) ?_ ?_ (ns.length - 1) 0 _ _ (by omega) ?_
  · clear Fy Ny hR
    rintro j m news hj ⟨tv, et, u, hT, rfl, rfl⟩ t h tk F9 N9
    rw [if_neg (by omega)] at hT
    have hTl := tabI_length (p := ns) (i := j + 1) (by omega)
    have hTw : tv.length = ns.length := hT.length.trans hTl
    have hj1 : j + 1 < ns.length := by clear hTl hTw; omega
    have hj2 : j ≤ 58 := by clear hTl hTw; omega
    clear hj
    walk_at "mine:steps"
    obtain ⟨R, eR⟩ : ∃ R, ovGo ns (ovTab ns (j + 1)) (ns.getD (j + 1) 0) (j + 1 + 1) ((ovTab ns (j + 1)).getD (j + 1 - 1) 0) = R := ⟨_, rfl⟩
    have hT0 := ovTab_le ns (j + 1)
    refine while_rule (n := (ovTab ns (j + 1)).getD j 0) (fun k s' => ∃ tI h tk, s' = { s with heap := h, toks := tk } ∧
      Fr g L' h (fun y => if y = Str.ofString "idx" then some (.int (k : Int) tI) else if y = Str.ofString "i" then some (.int (1 + (j : Int)) t) else if y = Str.ofString "table" then some (.ref D) else if y = Str.ofString "prefix" then some (.ref la) else u y) ∧
      News g L' h [(I, itR (1 + ((j + 1 : Nat) : Int)) (((ns.length - 1 : Nat) : Int) - ((j + 1 : Nat) : Int))), (D, listOf tv.toArray et), (la, listOf vs.toArray ep)] ∧ k ≤ j ∧ ovGo ns (ovTab ns (j + 1)) (ns.getD (j + 1) 0) (k + 1) k = R) PassesOwn.never ?_ ?_
    · clear F9 N9
      rename Fr _ _ _ _ => Fx
      rename News _ _ _ _ => Nx
      clear Fx Nx
      rintro k s' ⟨tI, h, tk, rfl, F9, N9, hk, hgo⟩
      have hk2 : k ≤ 58 := Nat.le_trans hk hj2
      walk_at "mine:steps"
      have e1 : (1 + (j : Int)).toNat = j + 1 := by omega
      simp only [e1, Int.toNat_natCast]
      clear e1
      unfold ovGo at hgo
      by_cases hx : ns.getD (j + 1) 0 = ns.getD k 0
      · rw [if_pos hx] at hgo
        refine WhlIf.no (by simpa using hx) ?_
        walk_at "mine:steps"
        rename Fr _ _ _ _ => Fz
        rename News _ _ _ _ => Nz
        rename IntsAre (List.set _ _ _) _ => hI2
        have e2 : (tabI ns (j + 1)).set (1 + (j : Int)).toNat ((k : Int) + 1) = if ns.length = 0 then [] else tabI ns (j + 1 + 1) := by
          rw [if_neg (by omega), show (1 + (j : Int)).toNat = j + 1 by omega]
          have := tabI_set (p := ns) (i := j + 1) (by omega) (k + 1) (by rw [if_neg (by omega), eR]; exact hgo.symm)
          rw [← this]; rfl
        show UnrEnd _ _ _ _ _ _ _
        refine UnrEnd.intro3 Fz Nz _ ?_ ?_ ?_ ⟨_, et, _, ints_cast e2 hI2, canon2 rfl rfl, rfl⟩
        · k_mem
        · k_subL
        · k_offL
      · rw [if_neg hx] at hgo
        refine WhlIf.yes (by simpa using hx) ?_
        refine wpAny_execs_cons ?_
        walk_at "mine:steps"
        by_cases h0 : k = 0
        · subst h0
          rw [if_pos rfl] at hgo
          rw [if_pos (by rfl)]
          walk_at "mine:steps"
          show wpAny _ _ _ _ _ _
          walk_at "mine:steps"
          rename Fr _ _ _ _ => Fz
          rename News _ _ _ _ => Nz
          rename IntsAre (List.set _ _ _) _ => hI2
          have e2 : (tabI ns (j + 1)).set (1 + (j : Int)).toNat 0 = if ns.length = 0 then [] else tabI ns (j + 1 + 1) := by
            rw [if_neg (by omega), show (1 + (j : Int)).toNat = j + 1 by omega]
            have := tabI_set (p := ns) (i := j + 1) (by omega) 0 (by rw [if_neg (by omega), eR]; exact hgo.symm)
            rw [← this]; rfl
          show UnrEnd _ _ _ _ _ _ _
          refine UnrEnd.intro3 Fz Nz _ ?_ ?_ ?_ ⟨_, et, _, ints_cast e2 hI2, canon2 rfl rfl, rfl⟩
          · k_mem
          · k_subL
          · k_offL
        · rw [if_neg h0] at hgo
          rw [if_neg (by simpa using h0)]
          walk_at "mine:steps"
          rename Fr _ _ _ _ => Fz
          rename News _ _ _ _ => Nz
          have h8 := hT0 (k - 1)
          have e3 : (tabI ns (j + 1)).getD ((k : Int) - 1).toNat 0 = (((ovTab ns (j + 1)).getD (k - 1) 0 : Nat) : Int) := by
            rw [show ((k : Int) - 1).toNat = k - 1 by omega]
            exact tabI_get (by omega)
          rw [e3] at Fz
          refine ⟨(ovTab ns (j + 1)).getD (k - 1) 0, by omega, _, _, _, rfl, Fr.congr Fz (map_ext [Str.ofString "idx"] ⟨rfl, trivial⟩ (fun y ⟨h1, _⟩ => by simp only [if_neg h1])), Nz, by omega, ?_⟩
          rw [← hgo]
          exact (ovGo_fuel hT0 _ k (by omega)).symm
    · rename Fr _ _ _ _ => Fz
      rename News _ _ _ _ => Nz
      have h8 := hT0 j
      have e3 : (tabI ns (j + 1)).getD (1 + (j : Int) - 1).toNat 0 = (((ovTab ns (j + 1)).getD j 0 : Nat) : Int) := by
        rw [show (1 + (j : Int) - 1).toNat = j by omega]
        exact tabI_get (by omega)
      rw [e3] at Fz
      refine ⟨_, _, _, rfl, Fz, Nz, h8, ?_⟩
      rw [← eR]
      exact (ovGo_fuel hT0 _ (j + 1 + 1) (by omega)).symm
  · clear Fy Ny hR
    rintro m news h tk ⟨tv, et, u, hT, rfl, rfl⟩ F9 N9
    (try dsimp only)
    walk_at "mine:steps"
    show Done _ _ _ _ _
    refine ⟨_, _, [(D, listOf tv.toArray et), (la, listOf vs.toArray ep)], by assumption, by assumption, ⟨D, tv, et, rfl, rfl, ?_, by omega⟩, _, _, rfl⟩
    by_cases h0 : ns.length = 0
    · have hnil : ns = [] := List.eq_nil_of_length_eq_zero h0
      subst hnil
      exact hT
    · rw [if_neg h0, show ns.length - 1 + 1 = ns.length by omega, tabI_whole] at hT
      exact hT
  · refine ⟨_, 0, _, ?_, canon2 rfl rfl, rfl⟩
    by_cases h0 : ns.length = 0
    · rw [if_pos h0, h0]; exact .nil
    · rw [if_neg h0, tabI_one (by omega)]
      exact ints_rep 0 s.toks ns.length

end
section
theorem resetC1 : True := by
  w_top off
  exact trivial





noncomputable def CellsPost (v : Value) (post : List (Addr × Obj)) : Prop :=
  ∃ x cv et ns, v = .ref x ∧ post = [(x, listOf cv.toArray et)] ∧ IntsAre cv ns ∧ ns.length = 6 ∧ ∀ n ∈ ns, 0 ≤ n ∧ n ≤ 64000000

theorem cells_bound {ns : List Int} {i : Nat} {j : Nat} {z : Int} {n : Nat} (hn : n = j) (h : ∀ n ∈ ns, 0 ≤ n ∧ n ≤ 200 + 1000000 * (j : Int)) :
    ∀ y ∈ ns.set i (ns.getD i 0 + z.fmod (10 ^ Int.toNat 6)), 0 ≤ y ∧ y ≤ 200 + 1000000 * ((n + 1 : Nat) : Int) := by
  subst hn
  have h1 : 0 ≤ z.fmod (10 ^ Int.toNat 6) := Int.fmod_nonneg_of_pos _ (by decide)
  have h2 : z.fmod (10 ^ Int.toNat 6) < 1000000 := Int.fmod_lt_of_pos _ (by decide)
  intro y hy
  rcases List.mem_or_eq_of_mem_set hy with hy | rfl
  · have := h y hy; omega
  · have : 0 ≤ ns.getD i 0 ∧ ns.getD i 0 ≤ 200 + 1000000 * (n : Int) := by
      by_cases hi : i < ns.length
      · rw [List.getD_eq_getElem?_getD, List.getElem?_eq_getElem hi]
        exact h _ (List.getElem_mem hi)
      · rw [List.getD_eq_getElem?_getD, List.getElem?_eq_none (by omega)]
        exact ⟨by decide, by show (0 : Int) ≤ _; omega⟩
    omega

theorem law_cells (w : World) (sc : List Value) (ks : List Int) (la : Addr) (hI : IntsAre sc ks) (hlen : ks.length ≤ 63) :
    SpecH PySem.Challenge.rw_rl0044_01.row.prog w (hd.heap_39 w.params) (fun h => h.IsList la sc.toArray) 600 4000 70 [.ref la] CellsPost := by
  have hlv := hI.length
  k_fill
  k_dflt (refine' SpecH.plain (binds := [(Str.ofString "script", .ref la)]) ?hH ?k1 ?k2 ?k3 ?k4 ?k5 ?_ ?c1 ?c2 ?c3 ?c4; ((case k1 => k_is); (case k2 => k_is); (case k3 => decide); (case k4 => intro s; exact BindsTo.of_eq rfl); (case k5 => exact locs rfl); (case c1 => exact rfl); (case c2 => exact rfl); (case c3 => exact rfl); (case c4 => decide)))
  case hH =>
    intro h h' st ⟨o, ho, hc⟩
    exact ⟨o, st _ _ ho, hc⟩
  intro p loose mean mg mb gd cn cs a₀ ccd cl outer base g L L' s hke F N B X hL T C1 C2
  (try dsimp only)
  k_fold
  walk_at "mine:steps"
  rename Fr _ _ _ _ => Fz
  refine For_invVF Fz rfl rfl ?_
  walk_at "mine:steps"
  rename IsRange _ _ _ _ _ _ _ _ => hR
  rename Fr _ _ _ _ => Fy
  rename News _ _ _ _ => Ny
  rename_i Dl _ _ _ _ _ _ _ _ _ _ _ 
  refine iter_rangeUnr (n := ks.length) rfl hR (range_small (by omega) (by omega) (by omega) (by omega)) (by rw [range_size]; omega) Fy Ny ?_
  intro I hIl
  k_lt hIl
  refine range_inv (fun j m news => ∃ (cv : List Value) (et : Nat) (ns : List Int) (u : Str → Option Value), IntsAre cv ns ∧ ns.length = 6 ∧ (∀ n ∈ ns, 0 ≤ n ∧ n ≤ 200 + 1000000 * j) ∧
      m = (fun y => if y = Str.ofString "cells" then some (.ref Dl) else if y = Str.ofString "script" then some (.ref la) else u y) ∧
      news = [(Dl, listOf cv.toArray et)]) ?_ ?_ ks.length 0 _ _ (by omega) ?_
  · clear Fy Ny hR
    rintro j m news hj ⟨cv, et, ns, u, hcv, hnl, hns, rfl, rfl⟩ t h tk F9 N9
    have hcl := hcv.length
    walk_at "mine:steps"
    rename Fr _ _ _ _ => Fz
    rename News _ _ _ _ => Nz
    rename IntsAre (List.set _ _ _) _ => hI2
    show UnrEnd _ _ _ _ _ _ _
    refine UnrEnd.intro3 Fz Nz _ ?_ ?_ ?_ ⟨_, et, _, _, hI2, by rw [List.length_set]; exact hnl, cells_bound rfl hns, canon2 rfl rfl, rfl⟩
    · k_mem
    · k_subL
    · k_offL
  · clear Fy Ny hR
    rintro m news h tk ⟨cv, et, ns, u, hcv, hnl, hns, rfl, rfl⟩ F9 N9
    (try dsimp only)
    walk_at "mine:steps"
    show Done _ _ _ _ _
    exact ⟨_, _, [(Dl, listOf cv.toArray et)], by assumption, by assumption, ⟨Dl, cv, et, ns, rfl, rfl, hcv, hnl, fun n hn => ⟨(hns n hn).1, by have := (hns n hn).2; omega⟩⟩, _, _, rfl⟩
  · refine ⟨_, 0, [13, 1, 101, 103, 2, 6], _, (.cons _ _ (.cons _ _ (.cons _ _ (.cons _ _ (.cons _ _ (.cons _ _ (.nil))))))), rfl, by decide, canon2 rfl rfl, rfl⟩

end
section
theorem resetH1 : True := by
  w_top off
  exact trivial





noncomputable def FigPost (A u : Int) (wd n : Nat) (v : Value) (post : List (Addr × Obj)) : Prop :=
  ∃ x fl fv ef tq tr l, v = .ref x ∧ post = (x, tup [.ref fl, .int (A.fdiv u) tq, .int (A.fmod u) tr]) :: (fl, listOf fv.toArray ef) :: l ∧ IntsAre fv (digitsOf wd (A.fdiv u % 2 ^ (wd * n)) n).reverse ∧ TabsFull l ∧ AllNe x ((fl, listOf fv.toArray ef) :: l) ∧ AllNe fl l

theorem law_figures (w : World) (top u : Int) (wd n : Nat) (t1 t2 t3 t4 : Tok) (hu : u ≠ 0) (hw1 : 1 ≤ wd) (hw3 : wd ≤ 3) (hn : n ≤ 8) (htop : Builtin.Int.intBits top ≤ 10000) (hf : Fits (top * 2 ^ (wd * n)) u) (l : List (Addr × Obj)) (hl : TabsNew l ∨ TabsFull l) :
    Spec PySem.Challenge.rw_rl0044_01.row.prog w (hd.heap_39 w.params) 577 3950 77 [.int top t1, .int u t2, .int wd t3, .int n t4] l (FigPost (top * 2 ^ (wd * n)) u wd n) := by
  k_fill
  k_dflt (refine' Spec.plain (binds := [(Str.ofString "top", .int top t1), (Str.ofString "under", .int u t2), (Str.ofString "width", .int wd t3), (Str.ofString "count", .int n t4)]) ?k1 ?k2 ?k3 ?k4 ?k5 ?_ ?c1 ?c2 ?c3 ?c4; ((case k1 => k_is); (case k2 => k_is); (case k3 => decide); (case k4 => intro s; exact BindsTo.of_eq rfl); (case k5 => exact locs rfl); (case c1 => exact rfl); (case c2 => exact rfl); (case c3 => exact rfl); (case c4 => decide)))
  intro p loose mean mg mb gd cn cs a₀ ccd cl outer base g L L' s hke F N B X T C1 C2
  (try dsimp only)
  k_fold
  (repeat' (first | ((fail_if_success (first | walk_at "mine:halt" | (with_reducible show wpAny _ _ (binaryOp Operator.Mod _ _) _ _ _) | (with_reducible show wpAny _ _ (binaryOp Operator.Pow _ _) _ _ _) | (with_reducible show wpAny _ _ (binaryOp Operator.Add (Value.ref _) (Value.ref _)) _ _ _))); first | ((first | (with_reducible show wpAny _ _ _ _ _ _) | (with_reducible show Frag.In _ _ ∧ _) | (with_reducible show FnAt _ _) | (with_reducible show FnAt _ _ ∧ _)); walk1) | (dsimp only; (first | (with_reducible show wpAny _ _ _ _ _ _) | (with_reducible show Frag.In _ _ ∧ _) | (with_reducible show FnAt _ _) | (with_reducible show FnAt _ _ ∧ _)); (fail_if_success (first | walk_at "mine:halt" | (with_reducible show wpAny _ _ (binaryOp Operator.Mod _ _) _ _ _) | (with_reducible show wpAny _ _ (binaryOp Operator.Pow _ _) _ _ _) | (with_reducible show wpAny _ _ (binaryOp Operator.Add (Value.ref _) (Value.ref _)) _ _ _))); walk1)) | fail "no step"))
  have hwn : wd * n ≤ 3 * 8 := Nat.mul_le_mul hw3 hn
  have bw := bits_small (v := wd) (by omega)
  have bn := bits_small (v := n) (by omega)
  have e1 : (wd : Int) * (n : Int) = ((wd * n : Nat) : Int) := by simp
  have hp : (0 : Int) < 2 ^ (wd * n) := pow_pos2 _
  have bp : Builtin.Int.intBits ((2 : Int) ^ (wd * n)) ≤ 25 := bits_le (Int.le_of_lt hp) (by
    have := Nat.pow_le_pow_right (n := 2) (by decide) hwn
    have e : ∀ j : Nat, (2 : Int) ^ j = ((2 ^ j : Nat) : Int) := fun j => by simp
    rw [e, e]; omega)
  refine mulI (by omega) fun _ _ => ?_
  rw [e1]
  (try dsimp only)
  (repeat' (first | ((fail_if_success (first | walk_at "mine:halt" | (with_reducible show wpAny _ _ (binaryOp Operator.Mod _ _) _ _ _) | (with_reducible show wpAny _ _ (binaryOp Operator.Pow _ _) _ _ _) | (with_reducible show wpAny _ _ (binaryOp Operator.Add (Value.ref _) (Value.ref _)) _ _ _))); first | ((first | (with_reducible show wpAny _ _ _ _ _ _) | (with_reducible show Frag.In _ _ ∧ _) | (with_reducible show FnAt _ _) | (with_reducible show FnAt _ _ ∧ _)); walk1) | (dsimp only; (first | (with_reducible show wpAny _ _ _ _ _ _) | (with_reducible show Frag.In _ _ ∧ _) | (with_reducible show FnAt _ _) | (with_reducible show FnAt _ _ ∧ _)); (fail_if_success (first | walk_at "mine:halt" | (with_reducible show wpAny _ _ (binaryOp Operator.Mod _ _) _ _ _) | (with_reducible show wpAny _ _ (binaryOp Operator.Pow _ _) _ _ _) | (with_reducible show wpAny _ _ (binaryOp Operator.Add (Value.ref _) (Value.ref _)) _ _ _))); walk1)) | fail "no step"))
  refine powI (by decide) (by omega) fun _ _ => ?_
  (try dsimp only)
  (repeat' (first | ((fail_if_success (first | walk_at "mine:halt" | (with_reducible show wpAny _ _ (binaryOp Operator.Mod _ _) _ _ _) | (with_reducible show wpAny _ _ (binaryOp Operator.Pow _ _) _ _ _) | (with_reducible show wpAny _ _ (binaryOp Operator.Add (Value.ref _) (Value.ref _)) _ _ _))); first | ((first | (with_reducible show wpAny _ _ _ _ _ _) | (with_reducible show Frag.In _ _ ∧ _) | (with_reducible show FnAt _ _) | (with_reducible show FnAt _ _ ∧ _)); walk1) | (dsimp only; (first | (with_reducible show wpAny _ _ _ _ _ _) | (with_reducible show Frag.In _ _ ∧ _) | (with_reducible show FnAt _ _) | (with_reducible show FnAt _ _ ∧ _)); (fail_if_success (first | walk_at "mine:halt" | (with_reducible show wpAny _ _ (binaryOp Operator.Mod _ _) _ _ _) | (with_reducible show wpAny _ _ (binaryOp Operator.Pow _ _) _ _ _) | (with_reducible show wpAny _ _ (binaryOp Operator.Add (Value.ref _) (Value.ref _)) _ _ _))); walk1)) | fail "no step"))
  refine mulI (by omega) fun _ _ => ?_
  (try dsimp only)
  (repeat' (first | ((fail_if_success (first | walk_at "mine:halt" | (with_reducible show wpAny _ _ (binaryOp Operator.Mod _ _) _ _ _) | (with_reducible show wpAny _ _ (binaryOp Operator.Pow _ _) _ _ _) | (with_reducible show wpAny _ _ (binaryOp Operator.Add (Value.ref _) (Value.ref _)) _ _ _))); first | ((first | (with_reducible show wpAny _ _ _ _ _ _) | (with_reducible show Frag.In _ _ ∧ _) | (with_reducible show FnAt _ _) | (with_reducible show FnAt _ _ ∧ _)); walk1) | (dsimp only; (first | (with_reducible show wpAny _ _ _ _ _ _) | (with_reducible show Frag.In _ _ ∧ _) | (with_reducible show FnAt _ _) | (with_reducible show FnAt _ _ ∧ _)); (fail_if_success (first | walk_at "mine:halt" | (with_reducible show wpAny _ _ (binaryOp Operator.Mod _ _) _ _ _) | (with_reducible show wpAny _ _ (binaryOp Operator.Pow _ _) _ _ _) | (with_reducible show wpAny _ _ (binaryOp Operator.Add (Value.ref _) (Value.ref _)) _ _ _))); walk1)) | fail "no step"))
  refine (idm w (top * 2 ^ (wd * n)) u _ _ hu hf l hl).at [] B (by assumption) X (by assumption) (SubL_self _) (ApartL_nil _) T C1 C2 rfl (Nat.le_of_ble_eq_true rfl) (Nat.le_of_ble_eq_true rfl) ?_
  clear F N
  rintro r post h' tk' F' N' D' ⟨x, tq, tr, l2, rfl, rfl, ⟨cA, oA, cB, oB, rfl, hokA, hokB, hd1, hd2⟩, hd3⟩
  simp only [List.append_nil] at N'
  simp only [AllNe, and_true] at hd1 hd2 hd3
  (try replace hd1 := Hid.mk hd1)
  (try replace hd2 := Hid.mk hd2)
  (try replace hd3 := Hid.mk hd3)
  generalize hAA : (top * 2 ^ (wd * n)).fdiv u = Wh at *
  (try dsimp only)
  (repeat' (first | ((fail_if_success (first | walk_at "mine:halt" | (with_reducible show wpAny _ _ (binaryOp Operator.Mod _ _) _ _ _) | (with_reducible show wpAny _ _ (binaryOp Operator.Pow _ _) _ _ _) | (with_reducible show wpAny _ _ (binaryOp Operator.Add (Value.ref _) (Value.ref _)) _ _ _))); first | ((first | (with_reducible show wpAny _ _ _ _ _ _) | (with_reducible show Frag.In _ _ ∧ _) | (with_reducible show FnAt _ _) | (with_reducible show FnAt _ _ ∧ _)); walk1) | (dsimp only; (first | (with_reducible show wpAny _ _ _ _ _ _) | (with_reducible show Frag.In _ _ ∧ _) | (with_reducible show FnAt _ _) | (with_reducible show FnAt _ _ ∧ _)); (fail_if_success (first | walk_at "mine:halt" | (with_reducible show wpAny _ _ (binaryOp Operator.Mod _ _) _ _ _) | (with_reducible show wpAny _ _ (binaryOp Operator.Pow _ _) _ _ _) | (with_reducible show wpAny _ _ (binaryOp Operator.Add (Value.ref _) (Value.ref _)) _ _ _))); walk1)) | fail "no step"))
  refine mulI (by omega) fun _ _ => ?_
  rw [e1]
  (try dsimp only)
  (repeat' (first | ((fail_if_success (first | walk_at "mine:halt" | (with_reducible show wpAny _ _ (binaryOp Operator.Mod _ _) _ _ _) | (with_reducible show wpAny _ _ (binaryOp Operator.Pow _ _) _ _ _) | (with_reducible show wpAny _ _ (binaryOp Operator.Add (Value.ref _) (Value.ref _)) _ _ _))); first | ((first | (with_reducible show wpAny _ _ _ _ _ _) | (with_reducible show Frag.In _ _ ∧ _) | (with_reducible show FnAt _ _) | (with_reducible show FnAt _ _ ∧ _)); walk1) | (dsimp only; (first | (with_reducible show wpAny _ _ _ _ _ _) | (with_reducible show Frag.In _ _ ∧ _) | (with_reducible show FnAt _ _) | (with_reducible show FnAt _ _ ∧ _)); (fail_if_success (first | walk_at "mine:halt" | (with_reducible show wpAny _ _ (binaryOp Operator.Mod _ _) _ _ _) | (with_reducible show wpAny _ _ (binaryOp Operator.Pow _ _) _ _ _) | (with_reducible show wpAny _ _ (binaryOp Operator.Add (Value.ref _) (Value.ref _)) _ _ _))); walk1)) | fail "no step"))
  refine powI (by decide) (by omega) fun _ _ => ?_
  (try dsimp only)
  (repeat' (first | ((fail_if_success (first | walk_at "mine:halt" | (with_reducible show wpAny _ _ (binaryOp Operator.Mod _ _) _ _ _) | (with_reducible show wpAny _ _ (binaryOp Operator.Pow _ _) _ _ _) | (with_reducible show wpAny _ _ (binaryOp Operator.Add (Value.ref _) (Value.ref _)) _ _ _))); first | ((first | (with_reducible show wpAny _ _ _ _ _ _) | (with_reducible show Frag.In _ _ ∧ _) | (with_reducible show FnAt _ _) | (with_reducible show FnAt _ _ ∧ _)); walk1) | (dsimp only; (first | (with_reducible show wpAny _ _ _ _ _ _) | (with_reducible show Frag.In _ _ ∧ _) | (with_reducible show FnAt _ _) | (with_reducible show FnAt _ _ ∧ _)); (fail_if_success (first | walk_at "mine:halt" | (with_reducible show wpAny _ _ (binaryOp Operator.Mod _ _) _ _ _) | (with_reducible show wpAny _ _ (binaryOp Operator.Pow _ _) _ _ _) | (with_reducible show wpAny _ _ (binaryOp Operator.Add (Value.ref _) (Value.ref _)) _ _ _))); walk1)) | fail "no step"))
  refine modI (by omega) fun _ _ => ?_
  rw [Int.fmod_eq_emod_of_nonneg _ (Int.le_of_lt hp)]
  have hz0 := Int.emod_nonneg Wh (by omega : (2 : Int) ^ (wd * n) ≠ 0)
  have hz1 := Int.emod_lt_of_pos Wh hp
  generalize hZ : Wh % 2 ^ (wd * n) = z at *
  (try dsimp only)
  (repeat' (first | ((fail_if_success (first | walk_at "mine:halt" | (with_reducible show wpAny _ _ (binaryOp Operator.Mod _ _) _ _ _) | (with_reducible show wpAny _ _ (binaryOp Operator.Pow _ _) _ _ _) | (with_reducible show wpAny _ _ (binaryOp Operator.Add (Value.ref _) (Value.ref _)) _ _ _))); first | ((first | (with_reducible show wpAny _ _ _ _ _ _) | (with_reducible show Frag.In _ _ ∧ _) | (with_reducible show FnAt _ _) | (with_reducible show FnAt _ _ ∧ _)); walk1) | (dsimp only; (first | (with_reducible show wpAny _ _ _ _ _ _) | (with_reducible show Frag.In _ _ ∧ _) | (with_reducible show FnAt _ _) | (with_reducible show FnAt _ _ ∧ _)); (fail_if_success (first | walk_at "mine:halt" | (with_reducible show wpAny _ _ (binaryOp Operator.Mod _ _) _ _ _) | (with_reducible show wpAny _ _ (binaryOp Operator.Pow _ _) _ _ _) | (with_reducible show wpAny _ _ (binaryOp Operator.Add (Value.ref _) (Value.ref _)) _ _ _))); walk1)) | fail "no step"))
  have hzK := bits_K (n := n) hw1 hz0 hz1
  have hbz := bits_le hz0 hz1
  rename Fr _ _ _ _ => Fz
  rename News _ _ _ _ => Nz
  refine (int2digits w z wd _ _ hw1 (by omega) hz0 (by omega) (by omega) [(30, tabObj #[rawInt 32, rawInt 4, .ref cA]), (cA, oA)] (.inr ⟨cA, oA, rfl, hokA, hd1.1⟩)).at [(37, tabObj #[rawInt 47, rawInt 4, .ref cB]), (cB, oB)]
    B Fz X Nz (by k_subL) (by ((try simp only [List.cons_append, List.nil_append, ApartL, AllNe, and_true]); (repeat' (first | exact True.intro | refine And.intro ?_ ?_)); all_goals k_ne)) T C1 C2 rfl (Nat.le_of_ble_eq_true rfl) (Nat.le_of_ble_eq_true rfl) ?_
  clear Fz Nz D'
  rintro r post h' tk' F' N' D' ⟨y, vs, ep, l3, rfl, rfl, hI, ⟨cA2, oA2, rfl, hokA2, hneA⟩, hap⟩
  simp only [List.cons_append, List.nil_append] at N'
  simp only [ApartL, AllNe, and_true, and_assoc] at D'
  (try replace D' := Hid.mk D')
  replace hap := AllNe.to hap
  simp only [AllNe, and_true] at hap
  (try replace hap := Hid.mk hap)
  replace hneA := neN hneA
  generalize hK : (Builtin.Int.intBits z + wd - 1) / wd = K at *
  have hvl := hI.length
  rw [digits_length] at hvl
  obtain ⟨hK1, hK2⟩ := hzK
  have hdl := digits_length wd z K
  have hpad := digits_pad hz0 hK2 hK1
  generalize digitsOf wd z K = ds at *
  clear hd1 hd3
  (try dsimp only)
  (repeat' (first | ((fail_if_success (first | walk_at "mine:halt" | (with_reducible show wpAny _ _ (binaryOp Operator.Mod _ _) _ _ _) | (with_reducible show wpAny _ _ (binaryOp Operator.Pow _ _) _ _ _) | (with_reducible show wpAny _ _ (binaryOp Operator.Add (Value.ref _) (Value.ref _)) _ _ _))); first | ((first | (with_reducible show wpAny _ _ _ _ _ _) | (with_reducible show Frag.In _ _ ∧ _) | (with_reducible show FnAt _ _) | (with_reducible show FnAt _ _ ∧ _)); walk1) | (dsimp only; (first | (with_reducible show wpAny _ _ _ _ _ _) | (with_reducible show Frag.In _ _ ∧ _) | (with_reducible show FnAt _ _) | (with_reducible show FnAt _ _ ∧ _)); (fail_if_success (first | walk_at "mine:halt" | (with_reducible show wpAny _ _ (binaryOp Operator.Mod _ _) _ _ _) | (with_reducible show wpAny _ _ (binaryOp Operator.Pow _ _) _ _ _) | (with_reducible show wpAny _ _ (binaryOp Operator.Add (Value.ref _) (Value.ref _)) _ _ _))); walk1)) | fail "no step"))
  rename Fr _ _ _ _ => Fz
  rename News _ _ _ _ => Nz
  refine KMa.mul (vs := [.int 0 _]) (by assumption) (by assumption) (by is_list) (by omega) (by omega) (by simp; omega) (rep_flat _ _) ?_
  intro D h' F' N' l2
  k_lt l2
  (try dsimp only)
  (repeat' (first | ((fail_if_success (first | walk_at "mine:halt" | (with_reducible show wpAny _ _ (binaryOp Operator.Mod _ _) _ _ _) | (with_reducible show wpAny _ _ (binaryOp Operator.Pow _ _) _ _ _) | (with_reducible show wpAny _ _ (binaryOp Operator.Add (Value.ref _) (Value.ref _)) _ _ _))); first | ((first | (with_reducible show wpAny _ _ _ _ _ _) | (with_reducible show Frag.In _ _ ∧ _) | (with_reducible show FnAt _ _) | (with_reducible show FnAt _ _ ∧ _)); walk1) | (dsimp only; (first | (with_reducible show wpAny _ _ _ _ _ _) | (with_reducible show Frag.In _ _ ∧ _) | (with_reducible show FnAt _ _) | (with_reducible show FnAt _ _ ∧ _)); (fail_if_success (first | walk_at "mine:halt" | (with_reducible show wpAny _ _ (binaryOp Operator.Mod _ _) _ _ _) | (with_reducible show wpAny _ _ (binaryOp Operator.Pow _ _) _ _ _) | (with_reducible show wpAny _ _ (binaryOp Operator.Add (Value.ref _) (Value.ref _)) _ _ _))); walk1)) | fail "no step"))
  rw [show ((n : Int) - (ds.length : Int)).toNat = n - K by omega] at N'
  refine kmk_add_ints F' N' (News.isList N' (by k_mem)) (News.isList N' (by k_mem)) hI (ints_rep 0 _ (n - K)) ?_ (by rw [List.length_replicate, hdl]; simp only [sizeLine_eq]; omega)
  clear F' N'
  intro Dz us h' F8 N8 l9 hus
  k_lt l9
  rw [hpad] at hus
  have hdn := digits_length wd z n
  generalize hdz : digitsOf wd z n = dz at *
  (try dsimp only)
  (repeat' (first | ((fail_if_success (first | walk_at "mine:halt" | (with_reducible show wpAny _ _ (binaryOp Operator.Mod _ _) _ _ _) | (with_reducible show wpAny _ _ (binaryOp Operator.Pow _ _) _ _ _) | (with_reducible show wpAny _ _ (binaryOp Operator.Add (Value.ref _) (Value.ref _)) _ _ _))); first | ((first | (with_reducible show wpAny _ _ _ _ _ _) | (with_reducible show Frag.In _ _ ∧ _) | (with_reducible show FnAt _ _) | (with_reducible show FnAt _ _ ∧ _)); walk1) | (dsimp only; (first | (with_reducible show wpAny _ _ _ _ _ _) | (with_reducible show Frag.In _ _ ∧ _) | (with_reducible show FnAt _ _) | (with_reducible show FnAt _ _ ∧ _)); (fail_if_success (first | walk_at "mine:halt" | (with_reducible show wpAny _ _ (binaryOp Operator.Mod _ _) _ _ _) | (with_reducible show wpAny _ _ (binaryOp Operator.Pow _ _) _ _ _) | (with_reducible show wpAny _ _ (binaryOp Operator.Add (Value.ref _) (Value.ref _)) _ _ _))); walk1)) | fail "no step"))
  rename_i D1 ws h5 hI1 hC1 l5 D2 h6 F6 N6 l6
  show Done _ _ _ _ _
  refine ⟨_, _, [(D2, tup [.ref D1, .int Wh tq, .int ((top * 2 ^ (wd * n)).fmod u) tr]), (D1, listOf ws.toArray 0), (30, tabObj #[rawInt 32, rawInt 4, .ref cA2]), (cA2, oA2), (37, tabObj #[rawInt 47, rawInt 4, .ref cB]), (cB, oB)], F6, news_sub N6 (by k_subL),
    ⟨D2, D1, ws, 0, tq, tr, _, rfl, by rw [hAA], by rw [hAA, hZ, hdz]; exact hI1, ⟨cA2, oA2, cB, oB, rfl, hokA2, hokB, ?_, ?_⟩, ?_, ?_⟩, _, _, rfl⟩
  all_goals ((try simp only [AllNe, and_true]); (repeat' (first | exact True.intro | refine And.intro ?_ ?_)); all_goals k_ne)

end
section
theorem resetH2 : True := by
  w_top off
  exact trivial







abbrev nats (l : List Nat) : List Int := l.map fun (v : Nat) => (v : Int)
theorem bits_pow {B : Int} {k : Nat} (h : Builtin.Int.intBits B ≤ k) : ∀ i, Builtin.Int.intBits (B ^ i) ≤ i * k + 1
  | 0 => by
    have : Builtin.Int.intBits 1 = 1 := by decide
    rw [Int.pow_zero]; omega
  | i + 1 => by
    have h1 := bits_mul (B ^ i) B
    have h2 := bits_pow h i
    rw [Int.pow_succ, Nat.succ_mul]; omega
theorem base_small {wd : Nat} (h1 : 1 ≤ wd) (h3 : wd ≤ 3) : (0 : Int) < 2 ^ wd ∧ (2 : Int) ^ wd ≤ 8 ∧ Builtin.Int.intBits ((2 : Int) ^ wd) ≤ 4 ∧ ((2 : Int) ^ wd).natAbs < 2 ^ 64 := by
  obtain rfl | rfl | rfl : wd = 1 ∨ wd = 2 ∨ wd = 3 := by omega
  all_goals decide
noncomputable def smallZ (l : List Int) : Prop := ∀ z ∈ l, Builtin.Int.intBits z ≤ 8
abbrev atZ (l : List Int) : Nat → Int := fun i => l.getD i 0
theorem smallZ.at {l : List Int} (h : smallZ l) (i : Nat) : Builtin.Int.intBits (l.getD i 0) ≤ 8 := by
  rw [List.getD_eq_getElem?_getD]
  by_cases hi : i < l.length
  · rw [List.getElem?_eq_getElem hi]; exact h _ (List.getElem_mem hi)
  · rw [List.getElem?_eq_none (by omega)]; decide

theorem law_lap (w : World) (xs ys : List Int) (xv yv : List Value) (ra ea la eb : Nat) (wd p m : Nat) (t3 t4 t5 : Tok) (hX : IntsAre xv xs) (hY : IntsAre yv ys) (hw1 : 1 ≤ wd) (hw3 : wd ≤ 3) (hp : p < xs.length) (hm : m ≤ p) (hm2 : m < ys.length) (hlx : xs.length ≤ 20) (hly : ys.length ≤ 20) (hbx : smallZ xs) (hby : smallZ ys) :
    Spec PySem.Challenge.rw_rl0044_01.row.prog w (hd.heap_39 w.params) 600 4000 82 [.ref ra, .ref la, .int (2 ^ wd) t3, .int p t4, .int m t5] [(ra, listOf xv.toArray ea), (la, listOf yv.toArray eb)]
      (fun v post => (∃ t, v = .int ((lapMax (lapC (atZ xs) (atZ ys) (2 ^ wd) p) m : Nat) : Int) t) ∧ post = [(ra, listOf xv.toArray ea), (la, listOf yv.toArray eb)]) := by
  k_fill
  k_dflt (refine' Spec.cells (binds := [(Str.ofString "rests", .ref ra), (Str.ofString "low", .ref la), (Str.ofString "base", .int (2 ^ wd) t3), (Str.ofString "place", .int p t4), (Str.ofString "most", .int m t5)]) ?k1 ?k2 ?k3 ?k4 ?k5 ?k6 ?_ ?c1 ?c2 ?c3; ((case k1 => k_is); (case k2 => k_is); (case k3 => decide); (case k4 => intro s; exact BindsTo.of_eq rfl); (case k5 => exact rfl); (case k6 => decide +kernel); (case c1 => exact rfl); (case c2 => exact rfl); (case c3 => exact rfl)))
  intro p₀ loose mean mg mb gd cn cs a₀ ccd cl outer base g L L' s cells hke F N Y l1 B X T C1 C2
  k_lt l1
  obtain ⟨oA, oB, oC, oD, rfl, dA, dB, dC, dD⟩ := CellsAre.four Y
  replace dA : oA.data = .cell (some (.int p t4)) := dA
  replace dB : oB.data = .cell (some (.int (2 ^ wd) t3)) := dB
  replace dC : oC.data = .cell (some (.ref la)) := dC
  replace dD : oD.data = .cell (some (.ref ra)) := dD
  replace F : Fr g L' s.heap (fun y => if y = Str.ofString "most" then some (.int m t5) else none) := F
  replace N : News g L' s.heap [(L' + 1 + 1 + 1 + 1, oA), (L' + 1 + 1 + 1, oB), (L' + 1 + 1, oC), (L' + 1, oD), (ra, listOf xv.toArray ea), (la, listOf yv.toArray eb)] := N
  clear Y
  show wpAny _ _ _ _ _ _
  k_fold
  (repeat' (first | ((fail_if_success (first | walk_at "mine:halt" | (with_reducible show wpAny _ _ (binaryOp Operator.Pow _ _) _ _ _) | (with_reducible show wpAny _ _ (eval (PySem.Expr.ListComp _ _ _ _) _) _ _ _))); first | ((first | (with_reducible show wpAny _ _ _ _ _ _) | (with_reducible show Frag.In _ _ ∧ _) | (with_reducible show FnAt _ _) | (with_reducible show FnAt _ _ ∧ _)); walk1) | (dsimp only; (first | (with_reducible show wpAny _ _ _ _ _ _) | (with_reducible show Frag.In _ _ ∧ _) | (with_reducible show FnAt _ _) | (with_reducible show FnAt _ _ ∧ _)); (fail_if_success (first | walk_at "mine:halt" | (with_reducible show wpAny _ _ (binaryOp Operator.Pow _ _) _ _ _) | (with_reducible show wpAny _ _ (eval (PySem.Expr.ListComp _ _ _ _) _) _ _ _))); walk1)) | fail "no step"))
  rename Fr _ _ _ _ => Fz
  refine LCt.ListComp_T (F₀ := Fz) (by with_unfolding_all rfl) (by decide) (by rfl) (by decide) (by rfl) ?_
  (repeat' (first | ((fail_if_success (first | walk_at "mine:halt" | (with_reducible show wpAny _ _ (binaryOp Operator.Pow _ _) _ _ _) | (with_reducible show wpAny _ _ (eval (PySem.Expr.ListComp _ _ _ _) _) _ _ _))); first | ((first | (with_reducible show wpAny _ _ _ _ _ _) | (with_reducible show Frag.In _ _ ∧ _) | (with_reducible show FnAt _ _) | (with_reducible show FnAt _ _ ∧ _)); walk1) | (dsimp only; (first | (with_reducible show wpAny _ _ _ _ _ _) | (with_reducible show Frag.In _ _ ∧ _) | (with_reducible show FnAt _ _) | (with_reducible show FnAt _ _ ∧ _)); (fail_if_success (first | walk_at "mine:halt" | (with_reducible show wpAny _ _ (binaryOp Operator.Pow _ _) _ _ _) | (with_reducible show wpAny _ _ (eval (PySem.Expr.ListComp _ _ _ _) _) _ _ _))); walk1)) | fail "no step"))
  rename IsRange _ _ _ _ _ _ _ _ => hR
  rename Fr _ _ _ _ => Fy
  rename News _ _ _ _ => Ny
  refine LCt.CompSrcT.range (n := m + 1) rfl Fy Ny hR (range_small (by omega) (by omega) (by omega) (by omega)) (by rw [range_size]; omega) (by simp [sizeLine]; omega) ?_
  intro g'
  refine compT_inv (n := m + 1) (fun i zs => IntsAre zs (nats ((List.range i).filter (lapC (atZ xs) (atZ ys) (2 ^ wd) p)))) trivial ?_ ?_ (m + 1) 0 [] (by omega) .nil
  · clear Fy Ny hR
    rename Fr _ _ _ _ => Fw
    rename News _ _ _ _ => Nw
    clear Fw Nw
    rintro i zs hi hzs v I2 oI2 C oC2 D2 m2 h tk E' ⟨tv, rfl⟩ hC hx F N off ne
    (try replace ne := Hid.mk ne)
    simp only [LCg.Off3, and_true] at off
    (try replace off := Hid.mk off)
    (repeat' (first | ((fail_if_success (first | walk_at "mine:halt" | (with_reducible show wpAny _ _ (binaryOp Operator.Pow _ _) _ _ _) | (with_reducible show wpAny _ _ (eval (PySem.Expr.ListComp _ _ _ _) _) _ _ _))); first | ((first | (with_reducible show wpAny _ _ _ _ _ _) | (with_reducible show Frag.In _ _ ∧ _) | (with_reducible show FnAt _ _) | (with_reducible show FnAt _ _ ∧ _)); walk1) | (dsimp only; (first | (with_reducible show wpAny _ _ _ _ _ _) | (with_reducible show Frag.In _ _ ∧ _) | (with_reducible show FnAt _ _) | (with_reducible show FnAt _ _ ∧ _)); (fail_if_success (first | walk_at "mine:halt" | (with_reducible show wpAny _ _ (binaryOp Operator.Pow _ _) _ _ _) | (with_reducible show wpAny _ _ (eval (PySem.Expr.ListComp _ _ _ _) _) _ _ _))); walk1)) | fail "no step"))
    rw [show (0 : Int) + (i : Int) = ((i : Nat) : Int) by omega] at *
    obtain ⟨hB0, hB8, hBb, hBa⟩ := base_small hw1 hw3
    refine powI hBa (by omega) fun _ _ => ?_
    (try dsimp only)
    (repeat' (first | ((fail_if_success (first | walk_at "mine:halt" | (with_reducible show wpAny _ _ (binaryOp Operator.Pow _ _) _ _ _) | (with_reducible show wpAny _ _ (eval (PySem.Expr.ListComp _ _ _ _) _) _ _ _))); first | ((first | (with_reducible show wpAny _ _ _ _ _ _) | (with_reducible show Frag.In _ _ ∧ _) | (with_reducible show FnAt _ _) | (with_reducible show FnAt _ _ ∧ _)); walk1) | (dsimp only; (first | (with_reducible show wpAny _ _ _ _ _ _) | (with_reducible show Frag.In _ _ ∧ _) | (with_reducible show FnAt _ _) | (with_reducible show FnAt _ _ ∧ _)); (fail_if_success (first | walk_at "mine:halt" | (with_reducible show wpAny _ _ (binaryOp Operator.Pow _ _) _ _ _) | (with_reducible show wpAny _ _ (eval (PySem.Expr.ListComp _ _ _ _) _) _ _ _))); walk1)) | fail "no step"))
    have hb1 := bits_pow hBb i
    have hb2 := bits_add (xs.getD ((p : Int) - i).toNat 0) (-(ys.getD (Int.toNat 0) 0)) 8 (hbx.at _) (by rw [bits_neg']; exact hby.at _)
    rw [← Int.sub_eq_add_neg] at hb2
    refine mulI (by omega) fun _ _ => ?_
    (try dsimp only)
    (repeat' (first | ((fail_if_success (first | walk_at "mine:halt" | (with_reducible show wpAny _ _ (binaryOp Operator.Pow _ _) _ _ _) | (with_reducible show wpAny _ _ (eval (PySem.Expr.ListComp _ _ _ _) _) _ _ _))); first | ((first | (with_reducible show wpAny _ _ _ _ _ _) | (with_reducible show Frag.In _ _ ∧ _) | (with_reducible show FnAt _ _) | (with_reducible show FnAt _ _ ∧ _)); walk1) | (dsimp only; (first | (with_reducible show wpAny _ _ _ _ _ _) | (with_reducible show Frag.In _ _ ∧ _) | (with_reducible show FnAt _ _) | (with_reducible show FnAt _ _ ∧ _)); (fail_if_success (first | walk_at "mine:halt" | (with_reducible show wpAny _ _ (binaryOp Operator.Pow _ _) _ _ _) | (with_reducible show wpAny _ _ (eval (PySem.Expr.ListComp _ _ _ _) _) _ _ _))); walk1)) | fail "no step"))
    have hc : (((xs.getD ((p : Int) - (i : Int)).toNat 0 - ys.getD (Int.toNat 0) 0) * (2 ^ wd) ^ i == xs.getD (p : Int).toNat 0 - ys.getD (i : Int).toNat 0) : Bool) = lapC (atZ xs) (atZ ys) (2 ^ wd) p i := by
      rw [show ((p : Int) - (i : Int)).toNat = p - i by omega, Int.toNat_natCast, Int.toNat_natCast]
      rfl
    rw [hc]
    constructor
    · intro hok
      (repeat' (first | ((fail_if_success (first | walk_at "mine:halt" | (with_reducible show wpAny _ _ (binaryOp Operator.Pow _ _) _ _ _) | (with_reducible show wpAny _ _ (eval (PySem.Expr.ListComp _ _ _ _) _) _ _ _))); first | ((first | (with_reducible show wpAny _ _ _ _ _ _) | (with_reducible show Frag.In _ _ ∧ _) | (with_reducible show FnAt _ _) | (with_reducible show FnAt _ _ ∧ _)); walk1) | (dsimp only; (first | (with_reducible show wpAny _ _ _ _ _ _) | (with_reducible show Frag.In _ _ ∧ _) | (with_reducible show FnAt _ _) | (with_reducible show FnAt _ _ ∧ _)); (fail_if_success (first | walk_at "mine:halt" | (with_reducible show wpAny _ _ (binaryOp Operator.Pow _ _) _ _ _) | (with_reducible show wpAny _ _ (eval (PySem.Expr.ListComp _ _ _ _) _) _ _ _))); walk1)) | fail "no step"))
      refine ⟨_, _, rfl, F, N, ?_⟩
      rw [List.range_succ, List.filter_append, List.filter_cons_of_pos hok, nats, List.map_append]
      exact ints_append hzs (.cons _ _ .nil)
    · intro hok
      refine ⟨_, _, rfl, F, N, ?_⟩
      rw [List.range_succ, List.filter_append, List.filter_cons_of_neg (by rw [hok]; decide), List.filter_nil, List.append_nil]
      exact hzs
  · clear Fy Ny hR
    rename Fr _ _ _ _ => Fw
    rename News _ _ _ _ => Nw
    clear Fw Nw
    intro zs hzs D2 h tk F8 N8 off
    simp only [LCg.Off1, and_true] at off
    (try replace off := Hid.mk off)
    have h0 : 0 ∈ (List.range (m + 1)).filter (lapC (atZ xs) (atZ ys) (2 ^ wd) p) := List.mem_filter.mpr ⟨List.mem_range.mpr (by omega), lap_zero _ _ _ _⟩
    have hle : ((List.range (m + 1)).filter (lapC (atZ xs) (atZ ys) (2 ^ wd) p)).length ≤ m + 1 := Nat.le_trans (List.length_filter_le _ _) (by rw [List.length_range]; omega)
    have hmx := lapMax_spec (lapC (atZ xs) (atZ ys) (2 ^ wd) p) (lap_zero _ _ _ _) m
    have hmem : ∀ k, k ∈ (List.range (m + 1)).filter (lapC (atZ xs) (atZ ys) (2 ^ wd) p) ↔ k ≤ m ∧ lapC (atZ xs) (atZ ys) (2 ^ wd) p k = true := fun k => by rw [List.mem_filter, List.mem_range, Nat.lt_succ_iff]
    generalize (List.range (m + 1)).filter (lapC (atZ xs) (atZ ys) (2 ^ wd) p) = ks at *
    have hzl := hzs.length
    rw [List.length_map] at hzl
    have hpos := List.length_pos_of_mem h0
    (try dsimp only)
    (repeat' (first | ((fail_if_success (first | walk_at "mine:halt" | (with_reducible show wpAny _ _ (binaryOp Operator.Pow _ _) _ _ _) | (with_reducible show wpAny _ _ (eval (PySem.Expr.ListComp _ _ _ _) _) _ _ _))); first | ((first | (with_reducible show wpAny _ _ _ _ _ _) | (with_reducible show Frag.In _ _ ∧ _) | (with_reducible show FnAt _ _) | (with_reducible show FnAt _ _ ∧ _)); walk1) | (dsimp only; (first | (with_reducible show wpAny _ _ _ _ _ _) | (with_reducible show Frag.In _ _ ∧ _) | (with_reducible show FnAt _ _) | (with_reducible show FnAt _ _ ∧ _)); (fail_if_success (first | walk_at "mine:halt" | (with_reducible show wpAny _ _ (binaryOp Operator.Pow _ _) _ _ _) | (with_reducible show wpAny _ _ (eval (PySem.Expr.ListComp _ _ _ _) _) _ _ _))); walk1)) | fail "no step"))
    rename_i h5 M tM k5 F6 N6 hM1 hM2
    obtain ⟨k, hk, rfl⟩ := List.mem_map.mp hM1
    have h1 := (hmem k).mp hk
    have h2 := hmx.2.2 k h1.1 h1.2
    have h3 := hM2 _ (List.mem_map_of_mem ((hmem _).mpr ⟨hmx.1, hmx.2.1⟩))
    have h4 : k = lapMax (lapC (atZ xs) (atZ ys) (2 ^ wd) p) m := by omega
    rw [h4]
    show Done _ _ _ _ _
    exact ⟨_, _, [(ra, listOf xv.toArray ea), (la, listOf yv.toArray eb)], F6, news_sub N6 (by k_subL), ⟨⟨tM, rfl⟩, rfl⟩, _, _, rfl⟩

end
section
theorem resetK0 : True := by
  w_top off
  exact trivial



/-- the law's statements and scope -/
noncomputable def lawParts : List Stmt × Scope := match PySem.Challenge.pw_rl0044_01.main.body.getLast? with
  | some (.FunctionDef _ _ bd _ _ _ sc _ _ _) => (bd, sc)
  | _ => ([], default)
theorem text1_length (f1 f2 u B : Int) (few : Nat) : (text1 f1 f2 u B few).length = few + 9 := by simp [text1, figRow]
/-- the three rows put together -/
theorem text1_is (f1 f2 u B : Int) (few : Nat) : figRow f1 u B few ++ [B] ++ figRow f2 u B 8 = text1 f1 f2 u B few := rfl
/-- an address apart from the tables of codes and from the frame's cells -/
abbrev FarS (l a : Nat) : Prop := a ≠ 30 ∧ a ≠ 37 ∧ a ≠ l + 1 ∧ a ≠ l + 1 + 1 ∧ a ≠ l + 1 + 1 + 1 ∧ a ≠ l + 1 + 1 + 1 + 1 ∧ a ≠ l + 1 + 1 + 1 + 1 + 1 ∧ a ≠ l + 1 + 1 + 1 + 1 + 1 + 1 ∧ a ≠ l + 1 + 1 + 1 + 1 + 1 + 1 + 1 ∧ a ≠ l + 1 + 1 + 1 + 1 + 1 + 1 + 1 + 1
theorem far {l a : Nat} (h0 : 37 < l) (h : l + 8 < a) : FarS l a := by unfold FarS; omega
theorem far0 {l : Nat} (h : 37 < l) : l + 1 + 1 ≠ 30 ∧ l + 1 + 1 ≠ 37 := by omega
abbrev FarT (l t : Nat) : Prop := t ≠ l + 1 ∧ t ≠ l + 1 + 1 ∧ t ≠ l + 1 + 1 + 1 ∧ t ≠ l + 1 + 1 + 1 + 1 ∧ t ≠ l + 1 + 1 + 1 + 1 + 1 ∧ t ≠ l + 1 + 1 + 1 + 1 + 1 + 1 ∧ t ≠ l + 1 + 1 + 1 + 1 + 1 + 1 + 1 ∧ t ≠ l + 1 + 1 + 1 + 1 + 1 + 1 + 1 + 1
theorem farT {l t : Nat} (h0 : t < l) : FarT l t := by unfold FarT; omega

end
section
theorem resetT5 : True := by
  w_top off
  exact trivial






theorem tail5 (w : World) (p : Program) (loose : List Str) (mean : ExcName → Option Value) (mg mb : Str → Option Value) (base g : Heap) (l : Addr) (s : Shared) (fa : Addr) (cd : Value) (Q : Flow → Shared → Prop) (E : Value → Shared → Prop)
    (f1 f2 u : Int) (wd few : Nat) (W1 R1 W2 R2 : Int) (tB tw1 tr1 tw2 tr2 : Tok) (v1 v2 dv : List Value) (a1 a2 ad : Addr) (e1 e2 ed : Nat) (oB : Obj) (ps1 ps2 : Array Value) (um : Str → Option Value)
    (hu : u ≠ 0) (hw1 : 1 ≤ wd) (hw3 : wd ≤ 3) (hf3 : 3 ≤ few) (hf5 : few ≤ 5)
    (h1 : IntsAre v1 (figRow f1 u (2 ^ wd) few)) (h2 : IntsAre v2 (figRow f2 u (2 ^ wd) 8)) (hdv : IntsAre dv ((due1 f1 f2 u (2 ^ wd) few).map fun (v : Nat) => (v : Int))) (dB : oB.data = .cell (some (.int (2 ^ wd) tB)))
    (F : Fr g l s.heap (fun y => if y = Str.ofString "whole" then some (.int W1 tw1) else if y = Str.ofString "rest" then some (.int R1 tr1) else if y = Str.ofString "whole2" then some (.int W2 tw2) else if y = Str.ofString "rest2" then some (.int R2 tr2) else if y = Str.ofString "front" then some (.ref a1) else if y = Str.ofString "behind" then some (.ref a2) else if y = Str.ofString "due" then some (.ref ad) else um y))
    (N : News g l s.heap [(l + 1 + 1, oB), (a1, listOf v1.toArray e1), (a2, listOf v2.toArray e2), (ad, listOf dv.toArray ed), (30, tabObj ps1), (37, tabObj ps2)])
    (ne1 : AllNe (l + 1 + 1) [(a1, oB), (a2, oB), (ad, oB), (30, oB), (37, oB)]) (ne2 : AllNe a1 [(a2, oB), (ad, oB), (30, oB), (37, oB)]) (ne3 : AllNe a2 [(ad, oB), (30, oB), (37, oB)]) (ne4 : AllNe ad [(30, oB), (37, oB)])
    (B : Below callerA base [] g) (X : (hd.heap_39 w.params).In g) (T : Top p loose mean mg mb g) (C1 : CodeHd base 41 37) (C2 : CodeHd base 34 30)
    (hQ : ∀ h tk m, Fr g l h m → GrownAll [(41, 37), (34, 30)] h → Q (.ret (.bool true)) { s with heap := h, toks := tk }) :
    wpAny (model PySem.Challenge.rw_rl0044_01.row.prog w) (callerA.deeper (envOfC (Str.ofString "law") lawParts.2 l fa cd)) (execs (lawParts.1.drop 17) (envOfC (Str.ofString "law") lawParts.2 l fa cd)) Q E s := by
  revert X
  k_fill
  intro X
  generalize hp : lawParts = lp
  conv at hp => lhs; whnf
  subst hp
  simp only [List.drop_succ_cons, List.drop_zero]
  simp only [AllNe, and_true] at ne1 ne2 ne3 ne4
  (try replace ne1 := Hid.mk ne1)
  (try replace ne2 := Hid.mk ne2)
  (try replace ne3 := Hid.mk ne3)
  (try replace ne4 := Hid.mk ne4)
  have hl1 := h1.length
  have hl2 := h2.length
  have hrl1 : (figRow f1 u (2 ^ wd) few).length = few := by simp [figRow]
  have hrl2 : (figRow f2 u (2 ^ wd) 8).length = 8 := by simp [figRow]
  rw [hrl1] at hl1
  rw [hrl2] at hl2
  (repeat' (first | ((fail_if_success (first | walk_at "mine:halt" | (with_reducible show wpAny _ _ (binaryOp Operator.Add (Value.ref _) (Value.ref _)) _ _ _) | (with_reducible show wpAny _ _ (eval (PySem.Expr.ListComp _ _ _ _) _) _ _ _))); first | ((first | (with_reducible show wpAny _ _ _ _ _ _) | (with_reducible show Frag.In _ _ ∧ _) | (with_reducible show FnAt _ _) | (with_reducible show FnAt _ _ ∧ _)); walk1) | (dsimp only; (first | (with_reducible show wpAny _ _ _ _ _ _) | (with_reducible show Frag.In _ _ ∧ _) | (with_reducible show FnAt _ _) | (with_reducible show FnAt _ _ ∧ _)); (fail_if_success (first | walk_at "mine:halt" | (with_reducible show wpAny _ _ (binaryOp Operator.Add (Value.ref _) (Value.ref _)) _ _ _) | (with_reducible show wpAny _ _ (eval (PySem.Expr.ListComp _ _ _ _) _) _ _ _))); walk1)) | fail "no step"))
  rename News _ _ _ _ => Nz
  rename Fr _ _ _ _ => Fz
  refine kmk_add_ints Fz Nz (News.isList Nz (by k_mem)) (News.isList Nz (by k_mem)) h1 (.cons _ _ .nil) ?_ (by rw [hrl1]; simp [sizeLine_eq]; omega)
  clear Fz Nz
  intro D1 us1 h' F8 N8 l9 hus1
  k_lt l9
  have hrl3 : (figRow f1 u (2 ^ wd) few ++ [2 ^ wd]).length = few + 1 := by rw [List.length_append, hrl1]; rfl
  (try dsimp only)
  (repeat' (first | ((fail_if_success (first | walk_at "mine:halt" | (with_reducible show wpAny _ _ (binaryOp Operator.Add (Value.ref _) (Value.ref _)) _ _ _) | (with_reducible show wpAny _ _ (eval (PySem.Expr.ListComp _ _ _ _) _) _ _ _))); first | ((first | (with_reducible show wpAny _ _ _ _ _ _) | (with_reducible show Frag.In _ _ ∧ _) | (with_reducible show FnAt _ _) | (with_reducible show FnAt _ _ ∧ _)); walk1) | (dsimp only; (first | (with_reducible show wpAny _ _ _ _ _ _) | (with_reducible show Frag.In _ _ ∧ _) | (with_reducible show FnAt _ _) | (with_reducible show FnAt _ _ ∧ _)); (fail_if_success (first | walk_at "mine:halt" | (with_reducible show wpAny _ _ (binaryOp Operator.Add (Value.ref _) (Value.ref _)) _ _ _) | (with_reducible show wpAny _ _ (eval (PySem.Expr.ListComp _ _ _ _) _) _ _ _))); walk1)) | fail "no step"))
  refine kmk_add_ints F8 N8 (News.isList N8 (by k_mem)) (News.isList N8 (by k_mem)) hus1 h2 ?_ (by rw [hrl3, hrl2]; simp [sizeLine_eq]; omega)
  clear F8 N8
  intro D2 us2 h' F8 N8 l10 hus2
  k_lt l10
  rw [text1_is] at hus2
  have htl := text1_length f1 f2 u (2 ^ wd) few
  (try dsimp only)
  (repeat' (first | ((fail_if_success (first | walk_at "mine:halt" | (with_reducible show wpAny _ _ (binaryOp Operator.Add (Value.ref _) (Value.ref _)) _ _ _) | (with_reducible show wpAny _ _ (eval (PySem.Expr.ListComp _ _ _ _) _) _ _ _))); first | ((first | (with_reducible show wpAny _ _ _ _ _ _) | (with_reducible show Frag.In _ _ ∧ _) | (with_reducible show FnAt _ _) | (with_reducible show FnAt _ _ ∧ _)); walk1) | (dsimp only; (first | (with_reducible show wpAny _ _ _ _ _ _) | (with_reducible show Frag.In _ _ ∧ _) | (with_reducible show FnAt _ _) | (with_reducible show FnAt _ _ ∧ _)); (fail_if_success (first | walk_at "mine:halt" | (with_reducible show wpAny _ _ (binaryOp Operator.Add (Value.ref _) (Value.ref _)) _ _ _) | (with_reducible show wpAny _ _ (eval (PySem.Expr.ListComp _ _ _ _) _) _ _ _))); walk1)) | fail "no step"))
  refine (overlap w (text1 f1 f2 u (2 ^ wd) few) us2 D2 0 (by rw [htl]; omega) hus2).at [(a1, listOf v1.toArray e1), (a2, listOf v2.toArray e2), (ad, listOf dv.toArray ed), (30, tabObj ps1), (37, tabObj ps2)]
    B F8 X N8 (by k_subL) (by ((try simp only [List.cons_append, List.nil_append, ApartL, AllNe, and_true]); (repeat' (first | exact True.intro | refine And.intro ?_ ?_)); all_goals k_ne)) T C1 C2 rfl (Nat.le_of_ble_eq_true rfl) (Nat.le_of_ble_eq_true rfl) ?_
  clear F8 N8
  rintro r post h' tk' F' N' D' ⟨xt, tv, et2, rfl, rfl, hT, hxt⟩
  simp only [List.cons_append, List.nil_append] at N'
  simp only [ApartL, AllNe, and_true, and_assoc] at D'
  (try replace D' := Hid.mk D')
  rw [htl, law1_table hu (pow_pos2 wd)] at hT
  have hdl : (due1 f1 f2 u (2 ^ wd) few).length = few + 9 := by simp [due1]
  have hml : ((due1 f1 f2 u (2 ^ wd) few).map fun (v : Nat) => (v : Int)).length = few + 9 := by rw [List.length_map, hdl]
  generalize (due1 f1 f2 u (2 ^ wd) few).map (fun (v : Nat) => (v : Int)) = dd at *
  (try dsimp only)
  (repeat' (first | ((fail_if_success (first | walk_at "mine:halt" | (with_reducible show wpAny _ _ (binaryOp Operator.Add (Value.ref _) (Value.ref _)) _ _ _) | (with_reducible show wpAny _ _ (eval (PySem.Expr.ListComp _ _ _ _) _) _ _ _))); first | ((first | (with_reducible show wpAny _ _ _ _ _ _) | (with_reducible show Frag.In _ _ ∧ _) | (with_reducible show FnAt _ _) | (with_reducible show FnAt _ _ ∧ _)); walk1) | (dsimp only; (first | (with_reducible show wpAny _ _ _ _ _ _) | (with_reducible show Frag.In _ _ ∧ _) | (with_reducible show FnAt _ _) | (with_reducible show FnAt _ _ ∧ _)); (fail_if_success (first | walk_at "mine:halt" | (with_reducible show wpAny _ _ (binaryOp Operator.Add (Value.ref _) (Value.ref _)) _ _ _) | (with_reducible show wpAny _ _ (eval (PySem.Expr.ListComp _ _ _ _) _) _ _ _))); walk1)) | fail "no step"))
  rename Fr _ _ _ _ => Fz
  rename News _ _ _ _ => Nz
  refine kmk_add_ints Fz Nz (News.isList Nz (by k_mem)) (News.isList Nz (by k_mem)) (.cons _ _ (.cons _ _ (.cons _ _ (.cons _ _ .nil)))) h1 ?_ (by rw [hrl1]; simp [sizeLine_eq]; omega)
  clear Fz Nz
  intro D3 us3 h' F8 N8 l11 hus3
  k_lt l11
  have hl3 : ([W1, R1, W2, R2] ++ figRow f1 u (2 ^ wd) few).length = 4 + few := by rw [List.length_append, hrl1]; rfl
  generalize [W1, R1, W2, R2] ++ figRow f1 u (2 ^ wd) few = n3 at *
  (try dsimp only)
  (repeat' (first | ((fail_if_success (first | walk_at "mine:halt" | (with_reducible show wpAny _ _ (binaryOp Operator.Add (Value.ref _) (Value.ref _)) _ _ _) | (with_reducible show wpAny _ _ (eval (PySem.Expr.ListComp _ _ _ _) _) _ _ _))); first | ((first | (with_reducible show wpAny _ _ _ _ _ _) | (with_reducible show Frag.In _ _ ∧ _) | (with_reducible show FnAt _ _) | (with_reducible show FnAt _ _ ∧ _)); walk1) | (dsimp only; (first | (with_reducible show wpAny _ _ _ _ _ _) | (with_reducible show Frag.In _ _ ∧ _) | (with_reducible show FnAt _ _) | (with_reducible show FnAt _ _ ∧ _)); (fail_if_success (first | walk_at "mine:halt" | (with_reducible show wpAny _ _ (binaryOp Operator.Add (Value.ref _) (Value.ref _)) _ _ _) | (with_reducible show wpAny _ _ (eval (PySem.Expr.ListComp _ _ _ _) _) _ _ _))); walk1)) | fail "no step"))
  refine kmk_add_ints F8 N8 (News.isList N8 (by k_mem)) (News.isList N8 (by k_mem)) hus3 h2 ?_ (by rw [hl3, hrl2]; simp [sizeLine_eq]; omega)
  clear F8 N8
  intro D4 us4 h' F8 N8 l12 hus4
  k_lt l12
  have hl4 : (n3 ++ figRow f2 u (2 ^ wd) 8).length = 4 + few + 8 := by rw [List.length_append, hl3, hrl2]
  generalize n3 ++ figRow f2 u (2 ^ wd) 8 = n4 at *
  (try dsimp only)
  (repeat' (first | ((fail_if_success (first | walk_at "mine:halt" | (with_reducible show wpAny _ _ (binaryOp Operator.Add (Value.ref _) (Value.ref _)) _ _ _) | (with_reducible show wpAny _ _ (eval (PySem.Expr.ListComp _ _ _ _) _) _ _ _))); first | ((first | (with_reducible show wpAny _ _ _ _ _ _) | (with_reducible show Frag.In _ _ ∧ _) | (with_reducible show FnAt _ _) | (with_reducible show FnAt _ _ ∧ _)); walk1) | (dsimp only; (first | (with_reducible show wpAny _ _ _ _ _ _) | (with_reducible show Frag.In _ _ ∧ _) | (with_reducible show FnAt _ _) | (with_reducible show FnAt _ _ ∧ _)); (fail_if_success (first | walk_at "mine:halt" | (with_reducible show wpAny _ _ (binaryOp Operator.Add (Value.ref _) (Value.ref _)) _ _ _) | (with_reducible show wpAny _ _ (eval (PySem.Expr.ListComp _ _ _ _) _) _ _ _))); walk1)) | fail "no step"))
  refine kmk_add_ints F8 N8 (News.isList N8 (by k_mem)) (News.isList N8 (by k_mem)) hus4 hT ?_ (by rw [hl4, hml]; simp [sizeLine_eq]; omega)
  clear F8 N8
  intro D5 us5 h' F8 N8 l13 hus5
  k_lt l13
  have hl5 : (n4 ++ dd).length = 4 + few + 8 + (few + 9) := by rw [List.length_append, hl4, hml]
  generalize n4 ++ dd = n5 at *
  have hu5 := hus5.length
  (try dsimp only)
  (repeat' (first | ((fail_if_success (first | walk_at "mine:halt" | (with_reducible show wpAny _ _ (binaryOp Operator.Add (Value.ref _) (Value.ref _)) _ _ _) | (with_reducible show wpAny _ _ (eval (PySem.Expr.ListComp _ _ _ _) _) _ _ _))); first | ((first | (with_reducible show wpAny _ _ _ _ _ _) | (with_reducible show Frag.In _ _ ∧ _) | (with_reducible show FnAt _ _) | (with_reducible show FnAt _ _ ∧ _)); walk1) | (dsimp only; (first | (with_reducible show wpAny _ _ _ _ _ _) | (with_reducible show Frag.In _ _ ∧ _) | (with_reducible show FnAt _ _) | (with_reducible show FnAt _ _ ∧ _)); (fail_if_success (first | walk_at "mine:halt" | (with_reducible show wpAny _ _ (binaryOp Operator.Add (Value.ref _) (Value.ref _)) _ _ _) | (with_reducible show wpAny _ _ (eval (PySem.Expr.ListComp _ _ _ _) _) _ _ _))); walk1)) | fail "no step"))
  rw [if_pos rfl]
  (try dsimp only)
  (repeat' (first | ((fail_if_success (first | walk_at "mine:halt" | (with_reducible show wpAny _ _ (binaryOp Operator.Add (Value.ref _) (Value.ref _)) _ _ _) | (with_reducible show wpAny _ _ (eval (PySem.Expr.ListComp _ _ _ _) _) _ _ _))); first | ((first | (with_reducible show wpAny _ _ _ _ _ _) | (with_reducible show Frag.In _ _ ∧ _) | (with_reducible show FnAt _ _) | (with_reducible show FnAt _ _ ∧ _)); walk1) | (dsimp only; (first | (with_reducible show wpAny _ _ _ _ _ _) | (with_reducible show Frag.In _ _ ∧ _) | (with_reducible show FnAt _ _) | (with_reducible show FnAt _ _ ∧ _)); (fail_if_success (first | walk_at "mine:halt" | (with_reducible show wpAny _ _ (binaryOp Operator.Add (Value.ref _) (Value.ref _)) _ _ _) | (with_reducible show wpAny _ _ (eval (PySem.Expr.ListComp _ _ _ _) _) _ _ _))); walk1)) | fail "no step"))
  rename Fr _ _ _ _ => Fz
  rename News _ _ _ _ => Nw
  have Nz := news_sub (b := [(D5, listOf us5.toArray 0), (30, tabObj ps1), (37, tabObj ps2)]) Nw (by k_subL)
  clear Nw
  refine LCt.ListComp_T (F₀ := Fz) (by with_unfolding_all rfl) (by decide) (by rfl) (by decide) (by rfl) ?_
  (repeat' (first | ((fail_if_success (first | walk_at "mine:halt" | (with_reducible show wpAny _ _ (binaryOp Operator.Add (Value.ref _) (Value.ref _)) _ _ _) | (with_reducible show wpAny _ _ (eval (PySem.Expr.ListComp _ _ _ _) _) _ _ _))); first | ((first | (with_reducible show wpAny _ _ _ _ _ _) | (with_reducible show Frag.In _ _ ∧ _) | (with_reducible show FnAt _ _) | (with_reducible show FnAt _ _ ∧ _)); walk1) | (dsimp only; (first | (with_reducible show wpAny _ _ _ _ _ _) | (with_reducible show Frag.In _ _ ∧ _) | (with_reducible show FnAt _ _) | (with_reducible show FnAt _ _ ∧ _)); (fail_if_success (first | walk_at "mine:halt" | (with_reducible show wpAny _ _ (binaryOp Operator.Add (Value.ref _) (Value.ref _)) _ _ _) | (with_reducible show wpAny _ _ (eval (PySem.Expr.ListComp _ _ _ _) _) _ _ _))); walk1)) | fail "no step"))
  refine LCt.CompSrcT.ledger rfl Fz Nz (by k_mem) (by rw [List.size_toArray, hu5, hl5]; simp [sizeLine]; omega) ?_
  intro g'
  refine compT_inv (n := us5.toArray.size) (fun i ys => ys = []) (.inr ⟨_, by k_mem, rfl, _, rfl⟩) ?_ ?_ us5.toArray.size 0 [] (by omega) rfl
  · clear Fz Nz
    rintro i ys hi rfl v I2 oI2 C oC D6 m2 h tk E' hv hC hx F N off ne
    (try replace ne := Hid.mk ne)
    rw [List.size_toArray] at hi
    obtain ⟨tv, hv2⟩ := hus5.get i (n5[i]'(by omega)) (by simp)
    have hv3 : v = .int (n5[i]'(by omega)) tv := by
      have : us5[i]? = some v := by simpa using hv
      rw [hv2] at this; exact (Option.some.inj this).symm
    subst hv3
    simp only [LCg.Off3, and_true] at off
    (try replace off := Hid.mk off)
    (repeat' (first | ((fail_if_success (first | walk_at "mine:halt" | (with_reducible show wpAny _ _ (binaryOp Operator.Add (Value.ref _) (Value.ref _)) _ _ _) | (with_reducible show wpAny _ _ (eval (PySem.Expr.ListComp _ _ _ _) _) _ _ _))); first | ((first | (with_reducible show wpAny _ _ _ _ _ _) | (with_reducible show Frag.In _ _ ∧ _) | (with_reducible show FnAt _ _) | (with_reducible show FnAt _ _ ∧ _)); walk1) | (dsimp only; (first | (with_reducible show wpAny _ _ _ _ _ _) | (with_reducible show Frag.In _ _ ∧ _) | (with_reducible show FnAt _ _) | (with_reducible show FnAt _ _ ∧ _)); (fail_if_success (first | walk_at "mine:halt" | (with_reducible show wpAny _ _ (binaryOp Operator.Add (Value.ref _) (Value.ref _)) _ _ _) | (with_reducible show wpAny _ _ (eval (PySem.Expr.ListComp _ _ _ _) _) _ _ _))); walk1)) | fail "no step"))
    rw [if_neg Bool.false_ne_true]
    (try dsimp only)
    (repeat' (first | ((fail_if_success (first | walk_at "mine:halt" | (with_reducible show wpAny _ _ (binaryOp Operator.Add (Value.ref _) (Value.ref _)) _ _ _) | (with_reducible show wpAny _ _ (eval (PySem.Expr.ListComp _ _ _ _) _) _ _ _))); first | ((first | (with_reducible show wpAny _ _ _ _ _ _) | (with_reducible show Frag.In _ _ ∧ _) | (with_reducible show FnAt _ _) | (with_reducible show FnAt _ _ ∧ _)); walk1) | (dsimp only; (first | (with_reducible show wpAny _ _ _ _ _ _) | (with_reducible show Frag.In _ _ ∧ _) | (with_reducible show FnAt _ _) | (with_reducible show FnAt _ _ ∧ _)); (fail_if_success (first | walk_at "mine:halt" | (with_reducible show wpAny _ _ (binaryOp Operator.Add (Value.ref _) (Value.ref _)) _ _ _) | (with_reducible show wpAny _ _ (eval (PySem.Expr.ListComp _ _ _ _) _) _ _ _))); walk1)) | fail "no step"))
    rw [if_neg (by decide)]
    (try dsimp only)
    (repeat' (first | ((fail_if_success (first | walk_at "mine:halt" | (with_reducible show wpAny _ _ (binaryOp Operator.Add (Value.ref _) (Value.ref _)) _ _ _) | (with_reducible show wpAny _ _ (eval (PySem.Expr.ListComp _ _ _ _) _) _ _ _))); first | ((first | (with_reducible show wpAny _ _ _ _ _ _) | (with_reducible show Frag.In _ _ ∧ _) | (with_reducible show FnAt _ _) | (with_reducible show FnAt _ _ ∧ _)); walk1) | (dsimp only; (first | (with_reducible show wpAny _ _ _ _ _ _) | (with_reducible show Frag.In _ _ ∧ _) | (with_reducible show FnAt _ _) | (with_reducible show FnAt _ _ ∧ _)); (fail_if_success (first | walk_at "mine:halt" | (with_reducible show wpAny _ _ (binaryOp Operator.Add (Value.ref _) (Value.ref _)) _ _ _) | (with_reducible show wpAny _ _ (eval (PySem.Expr.ListComp _ _ _ _) _) _ _ _))); walk1)) | fail "no step"))
    exact ⟨fun hq => absurd hq Bool.false_ne_true, fun _ => ⟨_, _, rfl, F, N, trivial⟩⟩
  · clear Fz Nz
    intro ys hys D6 h tk F8 N8 off
    subst hys
    simp only [LCg.Off1, and_true] at off
    (try replace off := Hid.mk off)
    (try dsimp only)
    (repeat' (first | ((fail_if_success (first | walk_at "mine:halt" | (with_reducible show wpAny _ _ (binaryOp Operator.Add (Value.ref _) (Value.ref _)) _ _ _) | (with_reducible show wpAny _ _ (eval (PySem.Expr.ListComp _ _ _ _) _) _ _ _))); first | ((first | (with_reducible show wpAny _ _ _ _ _ _) | (with_reducible show Frag.In _ _ ∧ _) | (with_reducible show FnAt _ _) | (with_reducible show FnAt _ _ ∧ _)); walk1) | (dsimp only; (first | (with_reducible show wpAny _ _ _ _ _ _) | (with_reducible show Frag.In _ _ ∧ _) | (with_reducible show FnAt _ _) | (with_reducible show FnAt _ _ ∧ _)); (fail_if_success (first | walk_at "mine:halt" | (with_reducible show wpAny _ _ (binaryOp Operator.Add (Value.ref _) (Value.ref _)) _ _ _) | (with_reducible show wpAny _ _ (eval (PySem.Expr.ListComp _ _ _ _) _) _ _ _))); walk1)) | fail "no step"))
    rename Fr _ _ _ _ => Fz
    rename News _ _ _ _ => Nz
    exact hQ _ _ _ Fz ⟨GrownAt.of Nz (by k_mem), GrownAt.of Nz (by k_mem), trivial⟩

end
section
theorem resetT4 : True := by
  w_top off
  exact trivial







theorem lapMax_congr {c c' : Nat → Bool} : ∀ {m : Nat}, (∀ k, k ≤ m → c k = c' k) → lapMax c m = lapMax c' m
  | 0, _ => rfl
  | m + 1, h => by
    unfold lapMax
    rw [h (m + 1) (Nat.le_refl _), lapMax_congr fun k hk => h k (Nat.le_succ_of_le hk)]
/-- the rests, as the law lists them -/
noncomputable def restRow (f u B : Int) (n : Nat) : List Int := (List.range n).map (restOf f u B)
theorem restRow_length (f u B : Int) (n : Nat) : (restRow f u B n).length = n := by simp [restRow]
theorem restRow_at {f u B : Int} {n i : Nat} (h : i < n) : atZ (restRow f u B n) i = restOf f u B i := by
  simp [atZ, restRow, List.getD_eq_getElem?_getD, h]
theorem lap_rows {f1 f2 u B : Int} {n1 n2 p m : Nat} (hm : m ≤ p) (hp : p < n2) (hm1 : m < n1) (h1 : 0 < n1) : lapMax (lapC (atZ (restRow f2 u B n2)) (atZ (restRow f1 u B n1)) B p) m = lapMax (lapC (restOf f2 u B) (restOf f1 u B) B p) m := by
  refine lapMax_congr fun k hk => ?_
  unfold lapC
  rw [restRow_at (by omega), restRow_at (by omega), restRow_at hp, restRow_at (by omega)]
noncomputable def lapsLow (f1 u B : Int) (n : Nat) : List Nat := (List.range n).map fun i => lapMax (lapC (restOf f1 u B) (restOf f1 u B) B (i + 1)) i
noncomputable def lapsHigh (f1 f2 u B : Int) (few n : Nat) : List Nat := (List.range n).map fun i => lapMax (lapC (restOf f2 u B) (restOf f1 u B) B (i + 1)) (min (i + 1) few)
theorem due_is (f1 f2 u B : Int) (few : Nat) : lapsLow f1 u B few ++ [0] ++ lapsHigh f1 f2 u B few 8 = due1 f1 f2 u B few := rfl
theorem lapsLow_succ (f1 u B : Int) (i : Nat) : nats (lapsLow f1 u B (i + 1)) = nats (lapsLow f1 u B i) ++ [((lapMax (lapC (restOf f1 u B) (restOf f1 u B) B (i + 1)) i : Nat) : Int)] := by simp [nats, lapsLow, List.range_succ]
theorem lapsHigh_succ (f1 f2 u B : Int) (few i : Nat) : nats (lapsHigh f1 f2 u B few (i + 1)) = nats (lapsHigh f1 f2 u B few i) ++ [((lapMax (lapC (restOf f2 u B) (restOf f1 u B) B (i + 1)) (min (i + 1) few) : Nat) : Int)] := by simp [nats, lapsHigh, List.range_succ]

theorem tail4 (w : World) (p : Program) (loose : List Str) (mean : ExcName → Option Value) (mg mb : Str → Option Value) (base g : Heap) (l : Addr) (s : Shared) (fa : Addr) (cd : Value) (Q : Flow → Shared → Prop) (E : Value → Shared → Prop)
    (f1 f2 u : Int) (wd few : Nat) (W1 R1 W2 R2 : Int) (tB tF tw1 tr1 tw2 tr2 : Tok) (v1 v2 lv hv : List Value) (a1 a2 al ah : Addr) (e1 e2 el eh : Nat) (oB oF oL oH : Obj) (ps1 ps2 : Array Value) (um : Str → Option Value)
    (hu : u ≠ 0) (hw1 : 1 ≤ wd) (hw3 : wd ≤ 3) (hf3 : 3 ≤ few) (hf5 : few ≤ 5)
    (h1 : IntsAre v1 (figRow f1 u (2 ^ wd) few)) (h2 : IntsAre v2 (figRow f2 u (2 ^ wd) 8)) (hL : IntsAre lv (restRow f1 u (2 ^ wd) (few + 1))) (hH : IntsAre hv (restRow f2 u (2 ^ wd) 9))
    (sL : smallZ (restRow f1 u (2 ^ wd) (few + 1))) (sH : smallZ (restRow f2 u (2 ^ wd) 9))
    (dB : oB.data = .cell (some (.int (2 ^ wd) tB))) (dF : oF.data = .cell (some (.int few tF))) (dL : oL.data = .cell (some (.ref al))) (dH : oH.data = .cell (some (.ref ah)))
    (F : Fr g l s.heap (fun y => if y = Str.ofString "whole" then some (.int W1 tw1) else if y = Str.ofString "rest" then some (.int R1 tr1) else if y = Str.ofString "whole2" then some (.int W2 tw2) else if y = Str.ofString "rest2" then some (.int R2 tr2) else if y = Str.ofString "front" then some (.ref a1) else if y = Str.ofString "behind" then some (.ref a2) else um y))
    (N : News g l s.heap [(l + 1 + 1, oB), (l + 1 + 1 + 1, oF), (l + 1 + 1 + 1 + 1 + 1 + 1 + 1, oL), (l + 1 + 1 + 1 + 1 + 1 + 1 + 1 + 1, oH), (a1, listOf v1.toArray e1), (a2, listOf v2.toArray e2), (al, listOf lv.toArray el), (ah, listOf hv.toArray eh), (30, tabObj ps1), (37, tabObj ps2)])
    (lt : 37 < l) (na1 : FarS l a1) (na2 : FarS l a2) (nal : FarS l al) (nah : FarS l ah) (ne2 : AllNe a1 [(a2, oB), (al, oB), (ah, oB)]) (ne3 : AllNe a2 [(al, oB), (ah, oB)]) (ne4 : AllNe al [(ah, oB)])
    (B : Below callerA base [] g) (X : (hd.heap_39 w.params).In g) (T : Top p loose mean mg mb g) (C1 : CodeHd base 41 37) (C2 : CodeHd base 34 30)
    (hQ : ∀ h tk m, Fr g l h m → GrownAll [(41, 37), (34, 30)] h → Q (.ret (.bool true)) { s with heap := h, toks := tk }) :
    wpAny (model PySem.Challenge.rw_rl0044_01.row.prog w) (callerA.deeper (envOfC (Str.ofString "law") lawParts.2 l fa cd)) (execs (lawParts.1.drop 15) (envOfC (Str.ofString "law") lawParts.2 l fa cd)) Q E s := by
  revert X
  k_fill
  intro X
  generalize hp : lawParts = lp
  conv at hp => lhs; whnf
  subst hp
  simp only [List.drop_succ_cons, List.drop_zero]
  replace na1 := Hid.mk na1
  replace na2 := Hid.mk na2
  replace nal := Hid.mk nal
  replace nah := Hid.mk nah
  simp only [AllNe, and_true] at ne2 ne3 ne4
  (try replace ne2 := Hid.mk ne2)
  (try replace ne3 := Hid.mk ne3)
  (try replace ne4 := Hid.mk ne4)
  (repeat' (first | ((fail_if_success (first | walk_at "mine:halt" | (with_reducible show wpAny _ _ (binaryOp Operator.Add (Value.ref _) (Value.ref _)) _ _ _) | (with_reducible show wpAny _ _ (execs (Stmt.Assign [PySem.Expr.Name (Str.ofString "table") _] _ _ :: _) _) _ _ _))); first | ((first | (with_reducible show wpAny _ _ _ _ _ _) | (with_reducible show Frag.In _ _ ∧ _) | (with_reducible show FnAt _ _) | (with_reducible show FnAt _ _ ∧ _)); walk1) | (dsimp only; (first | (with_reducible show wpAny _ _ _ _ _ _) | (with_reducible show Frag.In _ _ ∧ _) | (with_reducible show FnAt _ _) | (with_reducible show FnAt _ _ ∧ _)); (fail_if_success (first | walk_at "mine:halt" | (with_reducible show wpAny _ _ (binaryOp Operator.Add (Value.ref _) (Value.ref _)) _ _ _) | (with_reducible show wpAny _ _ (execs (Stmt.Assign [PySem.Expr.Name (Str.ofString "table") _] _ _ :: _) _) _ _ _))); walk1)) | fail "no step"))
  have hrl := restRow_length f1 u (2 ^ wd) (few + 1)
  have hrh := restRow_length f2 u (2 ^ wd) 9
  rename IsRange _ _ _ _ _ _ _ _ => hR
  rename Fr _ _ _ _ => Fy
  rename News _ _ _ _ => Ny
  refine LCg.CompSrc.range (n := few) rfl Fy Ny hR (range_small (by omega) (by omega) (by omega) (by omega)) (by rw [range_size]; omega) (by simp [sizeLine]; omega) ?_
  intro g'
  refine comp_inv (n := few) (fun i ys => IntsAre ys (nats (lapsLow f1 u (2 ^ wd) i))) trivial ?_ ?_ few 0 [] (by omega) .nil
  · clear Fy Ny hR
    ((try ((with_reducible rename Fr _ _ _ _ => Fw); clear Fw)); (try ((with_reducible rename News _ _ _ _ => Nw); clear Nw)); (try ((with_reducible rename Fr _ _ _ _ => Fw); clear Fw)); (try ((with_reducible rename News _ _ _ _ => Nw); clear Nw)))
    rintro i ys hi hys v I2 oI2 C oC D2 m2 h tk E' ⟨tv, rfl⟩ hC hx F N off ne
    (try replace ne := Hid.mk ne)
    simp only [LCg.Off3, and_true] at off
    (try replace off := Hid.mk off)
    (repeat' (first | ((fail_if_success (first | walk_at "mine:halt" | (with_reducible show wpAny _ _ (binaryOp Operator.Add (Value.ref _) (Value.ref _)) _ _ _) | (with_reducible show wpAny _ _ (execs (Stmt.Assign [PySem.Expr.Name (Str.ofString "table") _] _ _ :: _) _) _ _ _))); first | ((first | (with_reducible show wpAny _ _ _ _ _ _) | (with_reducible show Frag.In _ _ ∧ _) | (with_reducible show FnAt _ _) | (with_reducible show FnAt _ _ ∧ _)); walk1) | (dsimp only; (first | (with_reducible show wpAny _ _ _ _ _ _) | (with_reducible show Frag.In _ _ ∧ _) | (with_reducible show FnAt _ _) | (with_reducible show FnAt _ _ ∧ _)); (fail_if_success (first | walk_at "mine:halt" | (with_reducible show wpAny _ _ (binaryOp Operator.Add (Value.ref _) (Value.ref _)) _ _ _) | (with_reducible show wpAny _ _ (execs (Stmt.Assign [PySem.Expr.Name (Str.ofString "table") _] _ _ :: _) _) _ _ _))); walk1)) | fail "no step"))
    rw [show (1 : Int) + (i : Int) = ((i + 1 : Nat) : Int) by omega, show (((i + 1 : Nat) : Int) - 1) = (i : Int) by omega]
    refine (law_lap w (restRow f1 u (2 ^ wd) (few + 1)) (restRow f1 u (2 ^ wd) (few + 1)) lv lv al el al el wd (i + 1) i _ _ _ hL hL hw1 hw3 (by omega) (by omega) (by omega) (by omega) (by omega) sL sL).at
      [(I2, oI2), (C, oC), (D2, LCg.lst ys), (l + 1 + 1, oB), (l + 1 + 1 + 1, oF), (l + 1 + 1 + 1 + 1 + 1 + 1 + 1, oL), (l + 1 + 1 + 1 + 1 + 1 + 1 + 1 + 1, oH), (a1, listOf v1.toArray e1), (a2, listOf v2.toArray e2), (ah, listOf hv.toArray eh), (30, tabObj ps1), (37, tabObj ps2)]
      B F X N (by k_subL) (by (((try simp only [List.cons_append, List.nil_append, ApartL, AllNe, and_true]); (repeat' (first | exact True.intro | refine And.intro ?_ ?_)); all_goals k_ne))) T C1 C2 rfl (Nat.le_of_ble_eq_true rfl) (Nat.le_of_ble_eq_true rfl) ?_
    clear F N
    rintro r post h' tk' F' N' D' ⟨⟨t, rfl⟩, rfl⟩
    refine ⟨_, _, rfl, F', news_sub N' (by k_subL), ?_⟩
    rw [lapsLow_succ, lap_rows (by omega) (by omega) (by omega) (by omega)]
    exact ints_append hys (.cons _ _ .nil)
  · clear Fy Ny hR
    ((try ((with_reducible rename Fr _ _ _ _ => Fw); clear Fw)); (try ((with_reducible rename News _ _ _ _ => Nw); clear Nw)); (try ((with_reducible rename Fr _ _ _ _ => Fw); clear Fw)); (try ((with_reducible rename News _ _ _ _ => Nw); clear Nw)))
    intro ys hys D2 h tk F8 N8 off
    simp only [LCg.Off1, and_true] at off
    (try replace off := Hid.mk off)
    have hll : (nats (lapsLow f1 u (2 ^ wd) few)).length = few := by simp [nats, lapsLow]
    (try dsimp only)
    (repeat' (first | ((fail_if_success (first | walk_at "mine:halt" | (with_reducible show wpAny _ _ (binaryOp Operator.Add (Value.ref _) (Value.ref _)) _ _ _) | (with_reducible show wpAny _ _ (execs (Stmt.Assign [PySem.Expr.Name (Str.ofString "table") _] _ _ :: _) _) _ _ _))); first | ((first | (with_reducible show wpAny _ _ _ _ _ _) | (with_reducible show Frag.In _ _ ∧ _) | (with_reducible show FnAt _ _) | (with_reducible show FnAt _ _ ∧ _)); walk1) | (dsimp only; (first | (with_reducible show wpAny _ _ _ _ _ _) | (with_reducible show Frag.In _ _ ∧ _) | (with_reducible show FnAt _ _) | (with_reducible show FnAt _ _ ∧ _)); (fail_if_success (first | walk_at "mine:halt" | (with_reducible show wpAny _ _ (binaryOp Operator.Add (Value.ref _) (Value.ref _)) _ _ _) | (with_reducible show wpAny _ _ (execs (Stmt.Assign [PySem.Expr.Name (Str.ofString "table") _] _ _ :: _) _) _ _ _))); walk1)) | fail "no step"))
    rename Fr _ _ _ _ => Fz
    rename News _ _ _ _ => Nw
    have Nz := Nw
    refine kmk_add_ints Fz Nz (News.isList Nz (by k_mem)) (News.isList Nz (by k_mem)) hys (.cons _ _ .nil) ?_ (by rw [hll]; simp [sizeLine_eq]; omega)
    clear Fz Nz Nw
    intro D3 us3 h' F9 N9' l11 hus3
    k_lt l11
    have N9 := news_sub (b := [(D3, listOf us3.toArray 0), (l + 1 + 1, oB), (l + 1 + 1 + 1, oF), (l + 1 + 1 + 1 + 1 + 1 + 1 + 1, oL), (l + 1 + 1 + 1 + 1 + 1 + 1 + 1 + 1, oH), (a1, listOf v1.toArray e1), (a2, listOf v2.toArray e2), (al, listOf lv.toArray el), (ah, listOf hv.toArray eh), (30, tabObj ps1), (37, tabObj ps2)]) N9' (by k_subL)
    clear N9'
    have hl3 : (nats (lapsLow f1 u (2 ^ wd) few) ++ [0]).length = few + 1 := by rw [List.length_append, hll]; rfl
    have hu3 := hus3.length
    (try dsimp only)
    (repeat' (first | ((fail_if_success (first | walk_at "mine:halt" | (with_reducible show wpAny _ _ (binaryOp Operator.Add (Value.ref _) (Value.ref _)) _ _ _) | (with_reducible show wpAny _ _ (execs (Stmt.Assign [PySem.Expr.Name (Str.ofString "table") _] _ _ :: _) _) _ _ _))); first | ((first | (with_reducible show wpAny _ _ _ _ _ _) | (with_reducible show Frag.In _ _ ∧ _) | (with_reducible show FnAt _ _) | (with_reducible show FnAt _ _ ∧ _)); walk1) | (dsimp only; (first | (with_reducible show wpAny _ _ _ _ _ _) | (with_reducible show Frag.In _ _ ∧ _) | (with_reducible show FnAt _ _) | (with_reducible show FnAt _ _ ∧ _)); (fail_if_success (first | walk_at "mine:halt" | (with_reducible show wpAny _ _ (binaryOp Operator.Add (Value.ref _) (Value.ref _)) _ _ _) | (with_reducible show wpAny _ _ (execs (Stmt.Assign [PySem.Expr.Name (Str.ofString "table") _] _ _ :: _) _) _ _ _))); walk1)) | fail "no step"))
    have nd1 : @Ne Nat ah D3 := by omega
    have nd2 : @Ne Nat al D3 := by omega
    rename IsRange _ _ _ _ _ _ _ _ => hR
    rename Fr _ _ _ _ => Fy
    rename News _ _ _ _ => Ny
    refine LCg.CompSrc.range (n := 8) rfl Fy Ny hR (range_small (by decide) (by decide) (by decide) (by decide)) (by rw [range_size]; rfl) (by simp [sizeLine]) ?_
    intro g''
    refine comp_inv (n := 8) (fun i ys => IntsAre ys (nats (lapsHigh f1 f2 u (2 ^ wd) few i))) trivial ?_ ?_ 8 0 [] (by omega) .nil
    · clear Fy Ny hR
      ((try ((with_reducible rename Fr _ _ _ _ => Fw); clear Fw)); (try ((with_reducible rename News _ _ _ _ => Nw); clear Nw)); (try ((with_reducible rename Fr _ _ _ _ => Fw); clear Fw)); (try ((with_reducible rename News _ _ _ _ => Nw); clear Nw)))
      rintro i zs hi hzs v I2 oI2 C oC D4 m2 h tk E' ⟨tv, rfl⟩ hC hx F N off2 ne
      (try replace ne := Hid.mk ne)
      simp only [LCg.Off3, and_true] at off2
      (try replace off2 := Hid.mk off2)
      (repeat' (first | ((fail_if_success (first | walk_at "mine:halt" | (with_reducible show wpAny _ _ (binaryOp Operator.Add (Value.ref _) (Value.ref _)) _ _ _) | (with_reducible show wpAny _ _ (execs (Stmt.Assign [PySem.Expr.Name (Str.ofString "table") _] _ _ :: _) _) _ _ _))); first | ((first | (with_reducible show wpAny _ _ _ _ _ _) | (with_reducible show Frag.In _ _ ∧ _) | (with_reducible show FnAt _ _) | (with_reducible show FnAt _ _ ∧ _)); walk1) | (dsimp only; (first | (with_reducible show wpAny _ _ _ _ _ _) | (with_reducible show Frag.In _ _ ∧ _) | (with_reducible show FnAt _ _) | (with_reducible show FnAt _ _ ∧ _)); (fail_if_success (first | walk_at "mine:halt" | (with_reducible show wpAny _ _ (binaryOp Operator.Add (Value.ref _) (Value.ref _)) _ _ _) | (with_reducible show wpAny _ _ (execs (Stmt.Assign [PySem.Expr.Name (Str.ofString "table") _] _ _ :: _) _) _ _ _))); walk1)) | fail "no step"))
      rename Fr _ _ _ _ => F
      rename News _ _ _ _ => N
      rw [show (if (few : Int) < 1 + (i : Int) then (few : Int) else 1 + (i : Int)) = ((min (i + 1) few : Nat) : Int) by split <;> omega, show (1 : Int) + (i : Int) = ((i + 1 : Nat) : Int) by omega]
      refine (law_lap w (restRow f2 u (2 ^ wd) 9) (restRow f1 u (2 ^ wd) (few + 1)) hv lv ah eh al el wd (i + 1) (min (i + 1) few) _ _ _ hH hL hw1 hw3 (by rw [hrh]; omega) (Nat.min_le_left _ _) (by rw [hrl]; have := Nat.min_le_right (i + 1) few; omega) (by rw [hrh]; decide) (by rw [hrl]; omega) sH sL).at
        [(I2, oI2), (C, oC), (D4, LCg.lst zs), (D3, listOf us3.toArray 0), (l + 1 + 1, oB), (l + 1 + 1 + 1, oF), (l + 1 + 1 + 1 + 1 + 1 + 1 + 1, oL), (l + 1 + 1 + 1 + 1 + 1 + 1 + 1 + 1, oH), (a1, listOf v1.toArray e1), (a2, listOf v2.toArray e2), (30, tabObj ps1), (37, tabObj ps2)]
        B F X N (by k_subL) (by (((try simp only [List.cons_append, List.nil_append, ApartL, AllNe, and_true]); (repeat' (first | exact True.intro | refine And.intro ?_ ?_)); all_goals k_ne))) T C1 C2 rfl (Nat.le_of_ble_eq_true rfl) (Nat.le_of_ble_eq_true rfl) ?_
      clear F N
      rintro r post h' tk' F' N' D' ⟨⟨t, rfl⟩, rfl⟩
      refine ⟨_, _, rfl, F', news_sub N' (by k_subL), ?_⟩
      rw [lapsHigh_succ, lap_rows (Nat.min_le_left _ _) (by omega) (by have := Nat.min_le_right (i + 1) few; omega) (by omega)]
      exact ints_append hzs (.cons _ _ .nil)
    · clear Fy Ny hR
      ((try ((with_reducible rename Fr _ _ _ _ => Fw); clear Fw)); (try ((with_reducible rename News _ _ _ _ => Nw); clear Nw)); (try ((with_reducible rename Fr _ _ _ _ => Fw); clear Fw)); (try ((with_reducible rename News _ _ _ _ => Nw); clear Nw)))
      intro zs hzs D4 h tk F8 N8 off2
      simp only [LCg.Off1, and_true] at off2
      (try replace off2 := Hid.mk off2)
      have hlh : (nats (lapsHigh f1 f2 u (2 ^ wd) few 8)).length = 8 := by simp [nats, lapsHigh]
      have hzl := hzs.length
      rw [hlh] at hzl
      rw [hl3] at hu3
      (try dsimp only)
      (repeat' (first | ((fail_if_success (first | walk_at "mine:halt" | (with_reducible show wpAny _ _ (binaryOp Operator.Add (Value.ref _) (Value.ref _)) _ _ _) | (with_reducible show wpAny _ _ (execs (Stmt.Assign [PySem.Expr.Name (Str.ofString "table") _] _ _ :: _) _) _ _ _))); first | ((first | (with_reducible show wpAny _ _ _ _ _ _) | (with_reducible show Frag.In _ _ ∧ _) | (with_reducible show FnAt _ _) | (with_reducible show FnAt _ _ ∧ _)); walk1) | (dsimp only; (first | (with_reducible show wpAny _ _ _ _ _ _) | (with_reducible show Frag.In _ _ ∧ _) | (with_reducible show FnAt _ _) | (with_reducible show FnAt _ _ ∧ _)); (fail_if_success (first | walk_at "mine:halt" | (with_reducible show wpAny _ _ (binaryOp Operator.Add (Value.ref _) (Value.ref _)) _ _ _) | (with_reducible show wpAny _ _ (execs (Stmt.Assign [PySem.Expr.Name (Str.ofString "table") _] _ _ :: _) _) _ _ _))); walk1)) | fail "no step"))
      refine iadd_list F8 N8 (by k_mem) (by omega) (by k_upd) (by omega) ?_
      clear F8 N8
      intro h' F8 N8
      have hI3 := ints_append hus3 hzs
      generalize us3 ++ zs = us4 at N8 hI3
      (try dsimp only)
      (repeat' (first | ((fail_if_success (first | walk_at "mine:halt" | (with_reducible show wpAny _ _ (binaryOp Operator.Add (Value.ref _) (Value.ref _)) _ _ _) | (with_reducible show wpAny _ _ (execs (Stmt.Assign [PySem.Expr.Name (Str.ofString "table") _] _ _ :: _) _) _ _ _))); first | ((first | (with_reducible show wpAny _ _ _ _ _ _) | (with_reducible show Frag.In _ _ ∧ _) | (with_reducible show FnAt _ _) | (with_reducible show FnAt _ _ ∧ _)); walk1) | (dsimp only; (first | (with_reducible show wpAny _ _ _ _ _ _) | (with_reducible show Frag.In _ _ ∧ _) | (with_reducible show FnAt _ _) | (with_reducible show FnAt _ _ ∧ _)); (fail_if_success (first | walk_at "mine:halt" | (with_reducible show wpAny _ _ (binaryOp Operator.Add (Value.ref _) (Value.ref _)) _ _ _) | (with_reducible show wpAny _ _ (execs (Stmt.Assign [PySem.Expr.Name (Str.ofString "table") _] _ _ :: _) _) _ _ _))); walk1)) | fail "no step"))
      rename Fr _ _ _ _ => Fz
      rename News _ _ _ _ => Nz
      have hdu : nats (lapsLow f1 u (2 ^ wd) few) ++ [0] ++ nats (lapsHigh f1 f2 u (2 ^ wd) few 8) = (due1 f1 f2 u (2 ^ wd) few).map fun (v : Nat) => (v : Int) := by
        rw [← due_is]; simp [nats]
      rw [hdu] at hI3
      have nD : l + 8 < D3 := l11.2.2.2.2.2.1
      have nD3 := far lt nD
      have nd3 : @Ne Nat a1 D3 := by omega
      have nd4 : @Ne Nat a2 D3 := by omega
      have nl30 := far0 lt
      clear hys hzs hus3 hL hH sL sH
      refine tail5 w p loose mean mg mb base g l _ fa cd Q E f1 f2 u wd few W1 R1 W2 R2 tB tw1 tr1 tw2 tr2 v1 v2 us4 a1 a2 D3 e1 e2 _ oB ps1 ps2 _ hu hw1 hw3 hf3 hf5 h1 h2 hI3 dB (Fr.congr Fz (canon7 rfl rfl rfl rfl rfl rfl rfl)) (news_sub Nz (by k_subL)) ?_ ?_ ?_ ?_ B X T C1 C2 (fun h tk m a b => hQ h tk m a b)
      all_goals (((try simp only [List.cons_append, List.nil_append, ApartL, AllNe, and_true]); (repeat' (first | exact True.intro | refine And.intro ?_ ?_)); all_goals k_ne))

end
section
theorem resetT3 : True := by
  w_top off
  exact trivial






theorem restRow_take (f u B : Int) (n : Nat) : (restRow f u B (n + 1)).take n = restRow f u B n := by
  simp [restRow, ← List.map_take, List.take_range]
theorem restRow_figs (f u B : Int) (n : Nat) : (restRow f u B n).map (fun r => (r * B).fdiv u) = figRow f u B n := by
  simp [restRow, figRow, figOf]
theorem smallZ.app {a b : List Int} (ha : smallZ a) (hb : smallZ b) : smallZ (a ++ b) := fun z hz => (List.mem_append.mp hz).elim (ha z) (hb z)
theorem smallZ.take {a : List Int} (ha : smallZ a) (n : Nat) : smallZ (a.take n) := fun z hz => ha z (List.mem_of_mem_take hz)
theorem tail3 (w : World) (p : Program) (loose : List Str) (mean : ExcName → Option Value) (mg mb : Str → Option Value) (base g : Heap) (l : Addr) (s : Shared) (fa : Addr) (cd : Value) (Q : Flow → Shared → Prop) (E : Value → Shared → Prop)
    (f1 f2 u U : Int) (wd few : Nat) (tu tB tF tU t1 t2 tw1 tr1 tw2 tr2 : Tok) (v1 v2 lv hv : List Value) (a1 a2 al ah : Addr) (e1 e2 el eh : Nat) (oU oB oF oV o1 o2 oL oH : Obj) (ps1 ps2 : Array Value) (um : Str → Option Value)
    (hu : u ≠ 0) (hub : Builtin.Int.intBits u ≤ 8) (hUb : Builtin.Int.intBits U ≤ 4200) (hfb1 : Builtin.Int.intBits f1 ≤ 5000) (hfb2 : Builtin.Int.intBits f2 ≤ 5000)
    (hwb1 : Builtin.Int.intBits (wholeOf f1 u (2 ^ wd) few) ≤ 20000) (hwb2 : Builtin.Int.intBits (wholeOf f2 u (2 ^ wd) 8) ≤ 20000)
    (hw1 : 1 ≤ wd) (hw3 : wd ≤ 3) (hf3 : 3 ≤ few) (hf5 : few ≤ 5)
    (h1 : IntsAre v1 (figRow f1 u (2 ^ wd) few)) (h2 : IntsAre v2 (figRow f2 u (2 ^ wd) 8)) (hL : IntsAre lv (restRow f1 u (2 ^ wd) (few + 1))) (hH : IntsAre hv (restRow f2 u (2 ^ wd) 9))
    (sL : smallZ (restRow f1 u (2 ^ wd) (few + 1))) (sH : smallZ (restRow f2 u (2 ^ wd) 9))
    (dU : oU.data = .cell (some (.int u tu))) (dB : oB.data = .cell (some (.int (2 ^ wd) tB))) (dF : oF.data = .cell (some (.int few tF))) (dV : oV.data = .cell (some (.int U tU))) (d1 : o1.data = .cell (some (.int f1 t1))) (d2 : o2.data = .cell (some (.int f2 t2))) (dL : oL.data = .cell (some (.ref al))) (dH : oH.data = .cell (some (.ref ah)))
    (F : Fr g l s.heap (fun y => if y = Str.ofString "whole" then some (.int (wholeOf f1 u (2 ^ wd) few) tw1) else if y = Str.ofString "rest" then some (.int (U * restOf f1 u (2 ^ wd) few) tr1) else if y = Str.ofString "whole2" then some (.int (wholeOf f2 u (2 ^ wd) 8) tw2) else if y = Str.ofString "rest2" then some (.int (U * restOf f2 u (2 ^ wd) 8) tr2) else if y = Str.ofString "front" then some (.ref a1) else if y = Str.ofString "behind" then some (.ref a2) else um y))
    (N : News g l s.heap [(l + 1, oU), (l + 1 + 1, oB), (l + 1 + 1 + 1, oF), (l + 1 + 1 + 1 + 1, oV), (l + 1 + 1 + 1 + 1 + 1, o1), (l + 1 + 1 + 1 + 1 + 1 + 1, o2), (l + 1 + 1 + 1 + 1 + 1 + 1 + 1, oL), (l + 1 + 1 + 1 + 1 + 1 + 1 + 1 + 1, oH), (a1, listOf v1.toArray e1), (a2, listOf v2.toArray e2), (al, listOf lv.toArray el), (ah, listOf hv.toArray eh), (30, tabObj ps1), (37, tabObj ps2)])
    (lt : 37 < l) (na1 : FarS l a1) (na2 : FarS l a2) (nal : FarS l al) (nah : FarS l ah) (ne2 : AllNe a1 [(a2, oB), (al, oB), (ah, oB)]) (ne3 : AllNe a2 [(al, oB), (ah, oB)]) (ne4 : AllNe al [(ah, oB)])
    (B : Below callerA base [] g) (X : (hd.heap_39 w.params).In g) (T : Top p loose mean mg mb g) (C1 : CodeHd base 41 37) (C2 : CodeHd base 34 30)
    (hQ : ∀ h tk m, Fr g l h m → GrownAll [(41, 37), (34, 30)] h → Q (.ret (.bool true)) { s with heap := h, toks := tk }) :
    wpAny (model PySem.Challenge.rw_rl0044_01.row.prog w) (callerA.deeper (envOfC (Str.ofString "law") lawParts.2 l fa cd)) (execs (lawParts.1.drop 12) (envOfC (Str.ofString "law") lawParts.2 l fa cd)) Q E s := by
  revert X
  k_fill
  intro X
  generalize hp : lawParts = lp
  conv at hp => lhs; whnf
  subst hp
  simp only [List.drop_succ_cons, List.drop_zero]
  replace na1 := Hid.mk na1
  replace na2 := Hid.mk na2
  replace nal := Hid.mk nal
  replace nah := Hid.mk nah
  have hrl := restRow_length f1 u (2 ^ wd) (few + 1)
  have hrh := restRow_length f2 u (2 ^ wd) 9
  obtain ⟨hB0, hB8, hBb, hBa⟩ := base_small hw1 hw3
  have bp1 := bits_pow hBb few
  have bp2 := bits_pow hBb 8
  have gL : (restRow f1 u (2 ^ wd) (few + 1)).getD (few : Int).toNat 0 = restOf f1 u (2 ^ wd) few := by rw [Int.toNat_natCast]; exact restRow_at (Nat.lt_succ_self _)
  have bL : Builtin.Int.intBits (restOf f1 u (2 ^ wd) few) ≤ 8 := by rw [← gL]; exact sL.at _
  have eL : wholeOf f1 u (2 ^ wd) few * u + restOf f1 u (2 ^ wd) few = f1 * (2 ^ wd) ^ few := by rw [Int.mul_comm]; exact whole_rest f1 u (2 ^ wd) few
  have gH : (restRow f2 u (2 ^ wd) 9).getD (Int.toNat 8) 0 = restOf f2 u (2 ^ wd) 8 := restRow_at (by decide)
  have bH : Builtin.Int.intBits (restOf f2 u (2 ^ wd) 8) ≤ 8 := by rw [← gH]; exact sH.at _
  have eH : wholeOf f2 u (2 ^ wd) 8 * u + restOf f2 u (2 ^ wd) 8 = f2 * (2 ^ wd) ^ 8 := by rw [Int.mul_comm]; exact whole_rest f2 u (2 ^ wd) 8
  refine wpAny_execs_cons ?_
  (repeat' (first | ((fail_if_success (first | walk_at "mine:halt" | (with_reducible show wpAny _ _ (binaryOp Operator.Add (Value.ref _) (Value.ref _)) _ _ _) | (with_reducible show wpAny _ _ (binaryOp Operator.Pow _ _) _ _ _) | (with_reducible show wpAny _ _ (binaryOp Operator.FloorDiv _ _) _ _ _) | (with_reducible show wpAny _ _ (execs (Stmt.Assign [PySem.Expr.Name (Str.ofString "due") _] _ _ :: _) _) _ _ _) | (with_reducible show wpAny _ _ (eval (PySem.Expr.ListComp _ _ _ _) _) _ _ _))); first | ((first | (with_reducible show wpAny _ _ _ _ _ _) | (with_reducible show Frag.In _ _ ∧ _) | (with_reducible show FnAt _ _) | (with_reducible show FnAt _ _ ∧ _)); walk1) | (dsimp only; (first | (with_reducible show wpAny _ _ _ _ _ _) | (with_reducible show Frag.In _ _ ∧ _) | (with_reducible show FnAt _ _) | (with_reducible show FnAt _ _ ∧ _)); (fail_if_success (first | walk_at "mine:halt" | (with_reducible show wpAny _ _ (binaryOp Operator.Add (Value.ref _) (Value.ref _)) _ _ _) | (with_reducible show wpAny _ _ (binaryOp Operator.Pow _ _) _ _ _) | (with_reducible show wpAny _ _ (binaryOp Operator.FloorDiv _ _) _ _ _) | (with_reducible show wpAny _ _ (execs (Stmt.Assign [PySem.Expr.Name (Str.ofString "due") _] _ _ :: _) _) _ _ _) | (with_reducible show wpAny _ _ (eval (PySem.Expr.ListComp _ _ _ _) _) _ _ _))); walk1)) | fail "no step"))
  refine mulI (by omega) fun _ _ => ?_
  (try dsimp only)
  (repeat' (first | ((fail_if_success (first | walk_at "mine:halt" | (with_reducible show wpAny _ _ (binaryOp Operator.Add (Value.ref _) (Value.ref _)) _ _ _) | (with_reducible show wpAny _ _ (binaryOp Operator.Pow _ _) _ _ _) | (with_reducible show wpAny _ _ (binaryOp Operator.FloorDiv _ _) _ _ _) | (with_reducible show wpAny _ _ (execs (Stmt.Assign [PySem.Expr.Name (Str.ofString "due") _] _ _ :: _) _) _ _ _) | (with_reducible show wpAny _ _ (eval (PySem.Expr.ListComp _ _ _ _) _) _ _ _))); first | ((first | (with_reducible show wpAny _ _ _ _ _ _) | (with_reducible show Frag.In _ _ ∧ _) | (with_reducible show FnAt _ _) | (with_reducible show FnAt _ _ ∧ _)); walk1) | (dsimp only; (first | (with_reducible show wpAny _ _ _ _ _ _) | (with_reducible show Frag.In _ _ ∧ _) | (with_reducible show FnAt _ _) | (with_reducible show FnAt _ _ ∧ _)); (fail_if_success (first | walk_at "mine:halt" | (with_reducible show wpAny _ _ (binaryOp Operator.Add (Value.ref _) (Value.ref _)) _ _ _) | (with_reducible show wpAny _ _ (binaryOp Operator.Pow _ _) _ _ _) | (with_reducible show wpAny _ _ (binaryOp Operator.FloorDiv _ _) _ _ _) | (with_reducible show wpAny _ _ (execs (Stmt.Assign [PySem.Expr.Name (Str.ofString "due") _] _ _ :: _) _) _ _ _) | (with_reducible show wpAny _ _ (eval (PySem.Expr.ListComp _ _ _ _) _) _ _ _))); walk1)) | fail "no step"))
  refine powI hBa (by omega) fun _ _ => ?_
  (try dsimp only)
  (repeat' (first | ((fail_if_success (first | walk_at "mine:halt" | (with_reducible show wpAny _ _ (binaryOp Operator.Add (Value.ref _) (Value.ref _)) _ _ _) | (with_reducible show wpAny _ _ (binaryOp Operator.Pow _ _) _ _ _) | (with_reducible show wpAny _ _ (binaryOp Operator.FloorDiv _ _) _ _ _) | (with_reducible show wpAny _ _ (execs (Stmt.Assign [PySem.Expr.Name (Str.ofString "due") _] _ _ :: _) _) _ _ _) | (with_reducible show wpAny _ _ (eval (PySem.Expr.ListComp _ _ _ _) _) _ _ _))); first | ((first | (with_reducible show wpAny _ _ _ _ _ _) | (with_reducible show Frag.In _ _ ∧ _) | (with_reducible show FnAt _ _) | (with_reducible show FnAt _ _ ∧ _)); walk1) | (dsimp only; (first | (with_reducible show wpAny _ _ _ _ _ _) | (with_reducible show Frag.In _ _ ∧ _) | (with_reducible show FnAt _ _) | (with_reducible show FnAt _ _ ∧ _)); (fail_if_success (first | walk_at "mine:halt" | (with_reducible show wpAny _ _ (binaryOp Operator.Add (Value.ref _) (Value.ref _)) _ _ _) | (with_reducible show wpAny _ _ (binaryOp Operator.Pow _ _) _ _ _) | (with_reducible show wpAny _ _ (binaryOp Operator.FloorDiv _ _) _ _ _) | (with_reducible show wpAny _ _ (execs (Stmt.Assign [PySem.Expr.Name (Str.ofString "due") _] _ _ :: _) _) _ _ _) | (with_reducible show wpAny _ _ (eval (PySem.Expr.ListComp _ _ _ _) _) _ _ _))); walk1)) | fail "no step"))
  refine mulI (by omega) fun _ _ => ?_
  (try dsimp only)
  (repeat' (first | ((fail_if_success (first | walk_at "mine:halt" | (with_reducible show wpAny _ _ (binaryOp Operator.Add (Value.ref _) (Value.ref _)) _ _ _) | (with_reducible show wpAny _ _ (binaryOp Operator.Pow _ _) _ _ _) | (with_reducible show wpAny _ _ (binaryOp Operator.FloorDiv _ _) _ _ _) | (with_reducible show wpAny _ _ (execs (Stmt.Assign [PySem.Expr.Name (Str.ofString "due") _] _ _ :: _) _) _ _ _) | (with_reducible show wpAny _ _ (eval (PySem.Expr.ListComp _ _ _ _) _) _ _ _))); first | ((first | (with_reducible show wpAny _ _ _ _ _ _) | (with_reducible show Frag.In _ _ ∧ _) | (with_reducible show FnAt _ _) | (with_reducible show FnAt _ _ ∧ _)); walk1) | (dsimp only; (first | (with_reducible show wpAny _ _ _ _ _ _) | (with_reducible show Frag.In _ _ ∧ _) | (with_reducible show FnAt _ _) | (with_reducible show FnAt _ _ ∧ _)); (fail_if_success (first | walk_at "mine:halt" | (with_reducible show wpAny _ _ (binaryOp Operator.Add (Value.ref _) (Value.ref _)) _ _ _) | (with_reducible show wpAny _ _ (binaryOp Operator.Pow _ _) _ _ _) | (with_reducible show wpAny _ _ (binaryOp Operator.FloorDiv _ _) _ _ _) | (with_reducible show wpAny _ _ (execs (Stmt.Assign [PySem.Expr.Name (Str.ofString "due") _] _ _ :: _) _) _ _ _) | (with_reducible show wpAny _ _ (eval (PySem.Expr.ListComp _ _ _ _) _) _ _ _))); walk1)) | fail "no step"))
  rw [gL]
  rename News _ _ _ _ => Nz
  rw [gL, eL] at Nz
  refine mulI (by omega) fun _ _ => ?_
  (try dsimp only)
  (repeat' (first | ((fail_if_success (first | walk_at "mine:halt" | (with_reducible show wpAny _ _ (binaryOp Operator.Add (Value.ref _) (Value.ref _)) _ _ _) | (with_reducible show wpAny _ _ (binaryOp Operator.Pow _ _) _ _ _) | (with_reducible show wpAny _ _ (binaryOp Operator.FloorDiv _ _) _ _ _) | (with_reducible show wpAny _ _ (execs (Stmt.Assign [PySem.Expr.Name (Str.ofString "due") _] _ _ :: _) _) _ _ _) | (with_reducible show wpAny _ _ (eval (PySem.Expr.ListComp _ _ _ _) _) _ _ _))); first | ((first | (with_reducible show wpAny _ _ _ _ _ _) | (with_reducible show Frag.In _ _ ∧ _) | (with_reducible show FnAt _ _) | (with_reducible show FnAt _ _ ∧ _)); walk1) | (dsimp only; (first | (with_reducible show wpAny _ _ _ _ _ _) | (with_reducible show Frag.In _ _ ∧ _) | (with_reducible show FnAt _ _) | (with_reducible show FnAt _ _ ∧ _)); (fail_if_success (first | walk_at "mine:halt" | (with_reducible show wpAny _ _ (binaryOp Operator.Add (Value.ref _) (Value.ref _)) _ _ _) | (with_reducible show wpAny _ _ (binaryOp Operator.Pow _ _) _ _ _) | (with_reducible show wpAny _ _ (binaryOp Operator.FloorDiv _ _) _ _ _) | (with_reducible show wpAny _ _ (execs (Stmt.Assign [PySem.Expr.Name (Str.ofString "due") _] _ _ :: _) _) _ _ _) | (with_reducible show wpAny _ _ (eval (PySem.Expr.ListComp _ _ _ _) _) _ _ _))); walk1)) | fail "no step"))
  rw [if_neg Bool.false_ne_true]
  (repeat' (first | ((fail_if_success (first | walk_at "mine:halt" | (with_reducible show wpAny _ _ (binaryOp Operator.Add (Value.ref _) (Value.ref _)) _ _ _) | (with_reducible show wpAny _ _ (binaryOp Operator.Pow _ _) _ _ _) | (with_reducible show wpAny _ _ (binaryOp Operator.FloorDiv _ _) _ _ _) | (with_reducible show wpAny _ _ (execs (Stmt.Assign [PySem.Expr.Name (Str.ofString "due") _] _ _ :: _) _) _ _ _) | (with_reducible show wpAny _ _ (eval (PySem.Expr.ListComp _ _ _ _) _) _ _ _))); first | ((first | (with_reducible show wpAny _ _ _ _ _ _) | (with_reducible show Frag.In _ _ ∧ _) | (with_reducible show FnAt _ _) | (with_reducible show FnAt _ _ ∧ _)); walk1) | (dsimp only; (first | (with_reducible show wpAny _ _ _ _ _ _) | (with_reducible show Frag.In _ _ ∧ _) | (with_reducible show FnAt _ _) | (with_reducible show FnAt _ _ ∧ _)); (fail_if_success (first | walk_at "mine:halt" | (with_reducible show wpAny _ _ (binaryOp Operator.Add (Value.ref _) (Value.ref _)) _ _ _) | (with_reducible show wpAny _ _ (binaryOp Operator.Pow _ _) _ _ _) | (with_reducible show wpAny _ _ (binaryOp Operator.FloorDiv _ _) _ _ _) | (with_reducible show wpAny _ _ (execs (Stmt.Assign [PySem.Expr.Name (Str.ofString "due") _] _ _ :: _) _) _ _ _) | (with_reducible show wpAny _ _ (eval (PySem.Expr.ListComp _ _ _ _) _) _ _ _))); walk1)) | fail "no step"))
  rename News _ _ _ _ => Nw
  have Nz := news_sub (b := [(l + 1, oU), (l + 1 + 1, oB), (l + 1 + 1 + 1, oF), (l + 1 + 1 + 1 + 1, oV), (l + 1 + 1 + 1 + 1 + 1, o1), (l + 1 + 1 + 1 + 1 + 1 + 1, o2), (l + 1 + 1 + 1 + 1 + 1 + 1 + 1, oL), (l + 1 + 1 + 1 + 1 + 1 + 1 + 1 + 1, oH), (a1, listOf v1.toArray e1), (a2, listOf v2.toArray e2), (al, listOf lv.toArray el), (ah, listOf hv.toArray eh), (30, tabObj ps1), (37, tabObj ps2)]) Nw (by k_subL)
  clear Nw
  refine wpAny_execs_cons ?_
  (repeat' (first | ((fail_if_success (first | walk_at "mine:halt" | (with_reducible show wpAny _ _ (binaryOp Operator.Add (Value.ref _) (Value.ref _)) _ _ _) | (with_reducible show wpAny _ _ (binaryOp Operator.Pow _ _) _ _ _) | (with_reducible show wpAny _ _ (binaryOp Operator.FloorDiv _ _) _ _ _) | (with_reducible show wpAny _ _ (execs (Stmt.Assign [PySem.Expr.Name (Str.ofString "due") _] _ _ :: _) _) _ _ _) | (with_reducible show wpAny _ _ (eval (PySem.Expr.ListComp _ _ _ _) _) _ _ _))); first | ((first | (with_reducible show wpAny _ _ _ _ _ _) | (with_reducible show Frag.In _ _ ∧ _) | (with_reducible show FnAt _ _) | (with_reducible show FnAt _ _ ∧ _)); walk1) | (dsimp only; (first | (with_reducible show wpAny _ _ _ _ _ _) | (with_reducible show Frag.In _ _ ∧ _) | (with_reducible show FnAt _ _) | (with_reducible show FnAt _ _ ∧ _)); (fail_if_success (first | walk_at "mine:halt" | (with_reducible show wpAny _ _ (binaryOp Operator.Add (Value.ref _) (Value.ref _)) _ _ _) | (with_reducible show wpAny _ _ (binaryOp Operator.Pow _ _) _ _ _) | (with_reducible show wpAny _ _ (binaryOp Operator.FloorDiv _ _) _ _ _) | (with_reducible show wpAny _ _ (execs (Stmt.Assign [PySem.Expr.Name (Str.ofString "due") _] _ _ :: _) _) _ _ _) | (with_reducible show wpAny _ _ (eval (PySem.Expr.ListComp _ _ _ _) _) _ _ _))); walk1)) | fail "no step"))
  refine mulI (by omega) fun _ _ => ?_
  (try dsimp only)
  (repeat' (first | ((fail_if_success (first | walk_at "mine:halt" | (with_reducible show wpAny _ _ (binaryOp Operator.Add (Value.ref _) (Value.ref _)) _ _ _) | (with_reducible show wpAny _ _ (binaryOp Operator.Pow _ _) _ _ _) | (with_reducible show wpAny _ _ (binaryOp Operator.FloorDiv _ _) _ _ _) | (with_reducible show wpAny _ _ (execs (Stmt.Assign [PySem.Expr.Name (Str.ofString "due") _] _ _ :: _) _) _ _ _) | (with_reducible show wpAny _ _ (eval (PySem.Expr.ListComp _ _ _ _) _) _ _ _))); first | ((first | (with_reducible show wpAny _ _ _ _ _ _) | (with_reducible show Frag.In _ _ ∧ _) | (with_reducible show FnAt _ _) | (with_reducible show FnAt _ _ ∧ _)); walk1) | (dsimp only; (first | (with_reducible show wpAny _ _ _ _ _ _) | (with_reducible show Frag.In _ _ ∧ _) | (with_reducible show FnAt _ _) | (with_reducible show FnAt _ _ ∧ _)); (fail_if_success (first | walk_at "mine:halt" | (with_reducible show wpAny _ _ (binaryOp Operator.Add (Value.ref _) (Value.ref _)) _ _ _) | (with_reducible show wpAny _ _ (binaryOp Operator.Pow _ _) _ _ _) | (with_reducible show wpAny _ _ (binaryOp Operator.FloorDiv _ _) _ _ _) | (with_reducible show wpAny _ _ (execs (Stmt.Assign [PySem.Expr.Name (Str.ofString "due") _] _ _ :: _) _) _ _ _) | (with_reducible show wpAny _ _ (eval (PySem.Expr.ListComp _ _ _ _) _) _ _ _))); walk1)) | fail "no step"))
  rw [show (8 : Int) = ((8 : Nat) : Int) from rfl]
  refine powI hBa (by omega) fun _ _ => ?_
  (try dsimp only)
  (repeat' (first | ((fail_if_success (first | walk_at "mine:halt" | (with_reducible show wpAny _ _ (binaryOp Operator.Add (Value.ref _) (Value.ref _)) _ _ _) | (with_reducible show wpAny _ _ (binaryOp Operator.Pow _ _) _ _ _) | (with_reducible show wpAny _ _ (binaryOp Operator.FloorDiv _ _) _ _ _) | (with_reducible show wpAny _ _ (execs (Stmt.Assign [PySem.Expr.Name (Str.ofString "due") _] _ _ :: _) _) _ _ _) | (with_reducible show wpAny _ _ (eval (PySem.Expr.ListComp _ _ _ _) _) _ _ _))); first | ((first | (with_reducible show wpAny _ _ _ _ _ _) | (with_reducible show Frag.In _ _ ∧ _) | (with_reducible show FnAt _ _) | (with_reducible show FnAt _ _ ∧ _)); walk1) | (dsimp only; (first | (with_reducible show wpAny _ _ _ _ _ _) | (with_reducible show Frag.In _ _ ∧ _) | (with_reducible show FnAt _ _) | (with_reducible show FnAt _ _ ∧ _)); (fail_if_success (first | walk_at "mine:halt" | (with_reducible show wpAny _ _ (binaryOp Operator.Add (Value.ref _) (Value.ref _)) _ _ _) | (with_reducible show wpAny _ _ (binaryOp Operator.Pow _ _) _ _ _) | (with_reducible show wpAny _ _ (binaryOp Operator.FloorDiv _ _) _ _ _) | (with_reducible show wpAny _ _ (execs (Stmt.Assign [PySem.Expr.Name (Str.ofString "due") _] _ _ :: _) _) _ _ _) | (with_reducible show wpAny _ _ (eval (PySem.Expr.ListComp _ _ _ _) _) _ _ _))); walk1)) | fail "no step"))
  refine mulI (by omega) fun _ _ => ?_
  (try dsimp only)
  (repeat' (first | ((fail_if_success (first | walk_at "mine:halt" | (with_reducible show wpAny _ _ (binaryOp Operator.Add (Value.ref _) (Value.ref _)) _ _ _) | (with_reducible show wpAny _ _ (binaryOp Operator.Pow _ _) _ _ _) | (with_reducible show wpAny _ _ (binaryOp Operator.FloorDiv _ _) _ _ _) | (with_reducible show wpAny _ _ (execs (Stmt.Assign [PySem.Expr.Name (Str.ofString "due") _] _ _ :: _) _) _ _ _) | (with_reducible show wpAny _ _ (eval (PySem.Expr.ListComp _ _ _ _) _) _ _ _))); first | ((first | (with_reducible show wpAny _ _ _ _ _ _) | (with_reducible show Frag.In _ _ ∧ _) | (with_reducible show FnAt _ _) | (with_reducible show FnAt _ _ ∧ _)); walk1) | (dsimp only; (first | (with_reducible show wpAny _ _ _ _ _ _) | (with_reducible show Frag.In _ _ ∧ _) | (with_reducible show FnAt _ _) | (with_reducible show FnAt _ _ ∧ _)); (fail_if_success (first | walk_at "mine:halt" | (with_reducible show wpAny _ _ (binaryOp Operator.Add (Value.ref _) (Value.ref _)) _ _ _) | (with_reducible show wpAny _ _ (binaryOp Operator.Pow _ _) _ _ _) | (with_reducible show wpAny _ _ (binaryOp Operator.FloorDiv _ _) _ _ _) | (with_reducible show wpAny _ _ (execs (Stmt.Assign [PySem.Expr.Name (Str.ofString "due") _] _ _ :: _) _) _ _ _) | (with_reducible show wpAny _ _ (eval (PySem.Expr.ListComp _ _ _ _) _) _ _ _))); walk1)) | fail "no step"))
  rw [show (((8 : Nat) : Int)).toNat = Int.toNat 8 from rfl, gH]
  rename News _ _ _ _ => Nz
  rw [gH, eH] at Nz
  refine mulI (by omega) fun _ _ => ?_
  (try dsimp only)
  (repeat' (first | ((fail_if_success (first | walk_at "mine:halt" | (with_reducible show wpAny _ _ (binaryOp Operator.Add (Value.ref _) (Value.ref _)) _ _ _) | (with_reducible show wpAny _ _ (binaryOp Operator.Pow _ _) _ _ _) | (with_reducible show wpAny _ _ (binaryOp Operator.FloorDiv _ _) _ _ _) | (with_reducible show wpAny _ _ (execs (Stmt.Assign [PySem.Expr.Name (Str.ofString "due") _] _ _ :: _) _) _ _ _) | (with_reducible show wpAny _ _ (eval (PySem.Expr.ListComp _ _ _ _) _) _ _ _))); first | ((first | (with_reducible show wpAny _ _ _ _ _ _) | (with_reducible show Frag.In _ _ ∧ _) | (with_reducible show FnAt _ _) | (with_reducible show FnAt _ _ ∧ _)); walk1) | (dsimp only; (first | (with_reducible show wpAny _ _ _ _ _ _) | (with_reducible show Frag.In _ _ ∧ _) | (with_reducible show FnAt _ _) | (with_reducible show FnAt _ _ ∧ _)); (fail_if_success (first | walk_at "mine:halt" | (with_reducible show wpAny _ _ (binaryOp Operator.Add (Value.ref _) (Value.ref _)) _ _ _) | (with_reducible show wpAny _ _ (binaryOp Operator.Pow _ _) _ _ _) | (with_reducible show wpAny _ _ (binaryOp Operator.FloorDiv _ _) _ _ _) | (with_reducible show wpAny _ _ (execs (Stmt.Assign [PySem.Expr.Name (Str.ofString "due") _] _ _ :: _) _) _ _ _) | (with_reducible show wpAny _ _ (eval (PySem.Expr.ListComp _ _ _ _) _) _ _ _))); walk1)) | fail "no step"))
  rw [if_neg Bool.false_ne_true]
  (repeat' (first | ((fail_if_success (first | walk_at "mine:halt" | (with_reducible show wpAny _ _ (binaryOp Operator.Add (Value.ref _) (Value.ref _)) _ _ _) | (with_reducible show wpAny _ _ (binaryOp Operator.Pow _ _) _ _ _) | (with_reducible show wpAny _ _ (binaryOp Operator.FloorDiv _ _) _ _ _) | (with_reducible show wpAny _ _ (execs (Stmt.Assign [PySem.Expr.Name (Str.ofString "due") _] _ _ :: _) _) _ _ _) | (with_reducible show wpAny _ _ (eval (PySem.Expr.ListComp _ _ _ _) _) _ _ _))); first | ((first | (with_reducible show wpAny _ _ _ _ _ _) | (with_reducible show Frag.In _ _ ∧ _) | (with_reducible show FnAt _ _) | (with_reducible show FnAt _ _ ∧ _)); walk1) | (dsimp only; (first | (with_reducible show wpAny _ _ _ _ _ _) | (with_reducible show Frag.In _ _ ∧ _) | (with_reducible show FnAt _ _) | (with_reducible show FnAt _ _ ∧ _)); (fail_if_success (first | walk_at "mine:halt" | (with_reducible show wpAny _ _ (binaryOp Operator.Add (Value.ref _) (Value.ref _)) _ _ _) | (with_reducible show wpAny _ _ (binaryOp Operator.Pow _ _) _ _ _) | (with_reducible show wpAny _ _ (binaryOp Operator.FloorDiv _ _) _ _ _) | (with_reducible show wpAny _ _ (execs (Stmt.Assign [PySem.Expr.Name (Str.ofString "due") _] _ _ :: _) _) _ _ _) | (with_reducible show wpAny _ _ (eval (PySem.Expr.ListComp _ _ _ _) _) _ _ _))); walk1)) | fail "no step"))
  rename News _ _ _ _ => Nw
  have Nz := news_sub (b := [(l + 1, oU), (l + 1 + 1, oB), (l + 1 + 1 + 1, oF), (l + 1 + 1 + 1 + 1, oV), (l + 1 + 1 + 1 + 1 + 1, o1), (l + 1 + 1 + 1 + 1 + 1 + 1, o2), (l + 1 + 1 + 1 + 1 + 1 + 1 + 1, oL), (l + 1 + 1 + 1 + 1 + 1 + 1 + 1 + 1, oH), (a1, listOf v1.toArray e1), (a2, listOf v2.toArray e2), (al, listOf lv.toArray el), (ah, listOf hv.toArray eh), (30, tabObj ps1), (37, tabObj ps2)]) Nw (by k_subL)
  clear Nw
  have hr1 : (figRow f1 u (2 ^ wd) few).length = few := by simp [figRow]
  have hr2 : (figRow f2 u (2 ^ wd) 8).length = 8 := by simp [figRow]
  refine wpAny_execs_cons ?_
  (repeat' (first | ((fail_if_success (first | walk_at "mine:halt" | (with_reducible show wpAny _ _ (binaryOp Operator.Add (Value.ref _) (Value.ref _)) _ _ _) | (with_reducible show wpAny _ _ (binaryOp Operator.Pow _ _) _ _ _) | (with_reducible show wpAny _ _ (binaryOp Operator.FloorDiv _ _) _ _ _) | (with_reducible show wpAny _ _ (execs (Stmt.Assign [PySem.Expr.Name (Str.ofString "due") _] _ _ :: _) _) _ _ _) | (with_reducible show wpAny _ _ (eval (PySem.Expr.ListComp _ _ _ _) _) _ _ _))); first | ((first | (with_reducible show wpAny _ _ _ _ _ _) | (with_reducible show Frag.In _ _ ∧ _) | (with_reducible show FnAt _ _) | (with_reducible show FnAt _ _ ∧ _)); walk1) | (dsimp only; (first | (with_reducible show wpAny _ _ _ _ _ _) | (with_reducible show Frag.In _ _ ∧ _) | (with_reducible show FnAt _ _) | (with_reducible show FnAt _ _ ∧ _)); (fail_if_success (first | walk_at "mine:halt" | (with_reducible show wpAny _ _ (binaryOp Operator.Add (Value.ref _) (Value.ref _)) _ _ _) | (with_reducible show wpAny _ _ (binaryOp Operator.Pow _ _) _ _ _) | (with_reducible show wpAny _ _ (binaryOp Operator.FloorDiv _ _) _ _ _) | (with_reducible show wpAny _ _ (execs (Stmt.Assign [PySem.Expr.Name (Str.ofString "due") _] _ _ :: _) _) _ _ _) | (with_reducible show wpAny _ _ (eval (PySem.Expr.ListComp _ _ _ _) _) _ _ _))); walk1)) | fail "no step"))
  rename Fr _ _ _ _ => Fz
  refine kmk_add_ints Fz Nz (News.isList Nz (by k_mem)) (News.isList Nz (by k_mem)) h1 h2 ?_ (by rw [hr1, hr2]; simp [sizeLine_eq]; omega)
  clear Fz Nz
  intro D1 us1 h' F8 N8 l9 hus1
  k_lt l9
  (try dsimp only)
  (repeat' (first | ((fail_if_success (first | walk_at "mine:halt" | (with_reducible show wpAny _ _ (binaryOp Operator.Add (Value.ref _) (Value.ref _)) _ _ _) | (with_reducible show wpAny _ _ (binaryOp Operator.Pow _ _) _ _ _) | (with_reducible show wpAny _ _ (binaryOp Operator.FloorDiv _ _) _ _ _) | (with_reducible show wpAny _ _ (execs (Stmt.Assign [PySem.Expr.Name (Str.ofString "due") _] _ _ :: _) _) _ _ _) | (with_reducible show wpAny _ _ (eval (PySem.Expr.ListComp _ _ _ _) _) _ _ _))); first | ((first | (with_reducible show wpAny _ _ _ _ _ _) | (with_reducible show Frag.In _ _ ∧ _) | (with_reducible show FnAt _ _) | (with_reducible show FnAt _ _ ∧ _)); walk1) | (dsimp only; (first | (with_reducible show wpAny _ _ _ _ _ _) | (with_reducible show Frag.In _ _ ∧ _) | (with_reducible show FnAt _ _) | (with_reducible show FnAt _ _ ∧ _)); (fail_if_success (first | walk_at "mine:halt" | (with_reducible show wpAny _ _ (binaryOp Operator.Add (Value.ref _) (Value.ref _)) _ _ _) | (with_reducible show wpAny _ _ (binaryOp Operator.Pow _ _) _ _ _) | (with_reducible show wpAny _ _ (binaryOp Operator.FloorDiv _ _) _ _ _) | (with_reducible show wpAny _ _ (execs (Stmt.Assign [PySem.Expr.Name (Str.ofString "due") _] _ _ :: _) _) _ _ _) | (with_reducible show wpAny _ _ (eval (PySem.Expr.ListComp _ _ _ _) _) _ _ _))); walk1)) | fail "no step"))
  rename Fr _ _ _ _ => Fz
  refine LCg.ListComp_U (F₀ := Fz) (by with_unfolding_all rfl) (by decide) (by rfl) (by decide) (by rfl) ?_
  (repeat' (first | ((fail_if_success (first | walk_at "mine:halt" | (with_reducible show wpAny _ _ (binaryOp Operator.Add (Value.ref _) (Value.ref _)) _ _ _) | (with_reducible show wpAny _ _ (binaryOp Operator.Pow _ _) _ _ _) | (with_reducible show wpAny _ _ (binaryOp Operator.FloorDiv _ _) _ _ _) | (with_reducible show wpAny _ _ (execs (Stmt.Assign [PySem.Expr.Name (Str.ofString "due") _] _ _ :: _) _) _ _ _) | (with_reducible show wpAny _ _ (eval (PySem.Expr.ListComp _ _ _ _) _) _ _ _))); first | ((first | (with_reducible show wpAny _ _ _ _ _ _) | (with_reducible show Frag.In _ _ ∧ _) | (with_reducible show FnAt _ _) | (with_reducible show FnAt _ _ ∧ _)); walk1) | (dsimp only; (first | (with_reducible show wpAny _ _ _ _ _ _) | (with_reducible show Frag.In _ _ ∧ _) | (with_reducible show FnAt _ _) | (with_reducible show FnAt _ _ ∧ _)); (fail_if_success (first | walk_at "mine:halt" | (with_reducible show wpAny _ _ (binaryOp Operator.Add (Value.ref _) (Value.ref _)) _ _ _) | (with_reducible show wpAny _ _ (binaryOp Operator.Pow _ _) _ _ _) | (with_reducible show wpAny _ _ (binaryOp Operator.FloorDiv _ _) _ _ _) | (with_reducible show wpAny _ _ (execs (Stmt.Assign [PySem.Expr.Name (Str.ofString "due") _] _ _ :: _) _) _ _ _) | (with_reducible show wpAny _ _ (eval (PySem.Expr.ListComp _ _ _ _) _) _ _ _))); walk1)) | fail "no step"))
  rename IntsAre _ (List.take _ (restRow f2 u _ 9)) => hS2
  rename IntsAre _ (List.take _ (restRow f1 u _ _)) => hS1
  rw [Int.toNat_natCast, restRow_take] at hS1 hS2
  have sr : smallZ (restRow f1 u (2 ^ wd) few ++ restRow f2 u (2 ^ wd) 8) := by
    rw [← restRow_take f1, ← restRow_take f2]
    exact (sL.take _).app (sH.take _)
  have hq1 := restRow_length f1 u (2 ^ wd) few
  have hq2 := restRow_length f2 u (2 ^ wd) 8
  have hG : (restRow f1 u (2 ^ wd) few ++ restRow f2 u (2 ^ wd) 8).map (fun r => (r * 2 ^ wd).fdiv u) = figRow f1 u (2 ^ wd) few ++ figRow f2 u (2 ^ wd) 8 := by rw [List.map_append, restRow_figs, restRow_figs]
  rename Fr _ _ _ _ => Fz
  rename News _ _ _ _ => Nz
  have Nz2 := Nz
  refine kmk_add_ints Fz Nz (News.isList Nz (by k_mem)) (News.isList Nz (by k_mem)) hS1 hS2 ?_ (by rw [hq1, hq2]; simp [sizeLine_eq]; omega)
  clear Fz Nz Nz2
  intro D5 us5 h5 F5 N5' l15 hus5
  k_lt l15
  have N5 := news_sub (b := (D5, listOf us5.toArray 0) :: (D1, listOf us1.toArray 0) :: [(l + 1, oU), (l + 1 + 1, oB), (l + 1 + 1 + 1, oF), (l + 1 + 1 + 1 + 1, oV), (l + 1 + 1 + 1 + 1 + 1, o1), (l + 1 + 1 + 1 + 1 + 1 + 1, o2), (l + 1 + 1 + 1 + 1 + 1 + 1 + 1, oL), (l + 1 + 1 + 1 + 1 + 1 + 1 + 1 + 1, oH), (a1, listOf v1.toArray e1), (a2, listOf v2.toArray e2), (al, listOf lv.toArray el), (ah, listOf hv.toArray eh), (30, tabObj ps1), (37, tabObj ps2)]) N5' (by k_subL)
  clear N5'
  have hrrl : (restRow f1 u (2 ^ wd) few ++ restRow f2 u (2 ^ wd) 8).length = few + 8 := by rw [List.length_append, hq1, hq2]
  generalize restRow f1 u (2 ^ wd) few ++ restRow f2 u (2 ^ wd) 8 = rr at *
  have hu5 := hus5.length
  (try dsimp only)
  refine LCg.CompSrc.ledger rfl F5 N5 (List.mem_cons_self ..) (by rw [List.size_toArray, hu5, hrrl]; simp [sizeLine]; omega) ?_
  intro g'
  refine comp_inv (n := us5.toArray.size) (fun i ys => IntsAre ys ((rr.take i).map fun r => (r * 2 ^ wd).fdiv u)) (.inr ⟨_, List.mem_cons_self .., rfl, _, rfl⟩) ?_ ?_ us5.toArray.size 0 [] (by omega) .nil
  · clear F5 N5
    ((try ((with_reducible rename Fr _ _ _ _ => Fw); clear Fw)); (try ((with_reducible rename News _ _ _ _ => Nw); clear Nw)); (try ((with_reducible rename Fr _ _ _ _ => Fw); clear Fw)); (try ((with_reducible rename News _ _ _ _ => Nw); clear Nw)))
    rintro i ys hi hys v I2 oI2 C oC D2 m2 h tk E' hv hC hx F N off ne
    (try replace ne := Hid.mk ne)
    rw [List.size_toArray] at hi
    have hi2 : i < rr.length := by omega
    obtain ⟨tv, hv2⟩ := hus5.get i (rr[i]) (by simp [hi2])
    have hv3 : v = .int (rr[i]) tv := by
      have : us5[i]? = some v := by simpa using hv
      rw [hv2] at this; exact (Option.some.inj this).symm
    subst hv3
    have bz : Builtin.Int.intBits (rr[i]) ≤ 8 := sr _ (List.getElem_mem hi2)
    simp only [LCg.Off3, and_true] at off
    (try replace off := Hid.mk off)
    (repeat' (first | ((fail_if_success (first | walk_at "mine:halt" | (with_reducible show wpAny _ _ (binaryOp Operator.Add (Value.ref _) (Value.ref _)) _ _ _) | (with_reducible show wpAny _ _ (binaryOp Operator.Pow _ _) _ _ _) | (with_reducible show wpAny _ _ (binaryOp Operator.FloorDiv _ _) _ _ _) | (with_reducible show wpAny _ _ (execs (Stmt.Assign [PySem.Expr.Name (Str.ofString "due") _] _ _ :: _) _) _ _ _) | (with_reducible show wpAny _ _ (eval (PySem.Expr.ListComp _ _ _ _) _) _ _ _))); first | ((first | (with_reducible show wpAny _ _ _ _ _ _) | (with_reducible show Frag.In _ _ ∧ _) | (with_reducible show FnAt _ _) | (with_reducible show FnAt _ _ ∧ _)); walk1) | (dsimp only; (first | (with_reducible show wpAny _ _ _ _ _ _) | (with_reducible show Frag.In _ _ ∧ _) | (with_reducible show FnAt _ _) | (with_reducible show FnAt _ _ ∧ _)); (fail_if_success (first | walk_at "mine:halt" | (with_reducible show wpAny _ _ (binaryOp Operator.Add (Value.ref _) (Value.ref _)) _ _ _) | (with_reducible show wpAny _ _ (binaryOp Operator.Pow _ _) _ _ _) | (with_reducible show wpAny _ _ (binaryOp Operator.FloorDiv _ _) _ _ _) | (with_reducible show wpAny _ _ (execs (Stmt.Assign [PySem.Expr.Name (Str.ofString "due") _] _ _ :: _) _) _ _ _) | (with_reducible show wpAny _ _ (eval (PySem.Expr.ListComp _ _ _ _) _) _ _ _))); walk1)) | fail "no step"))
    refine mulI (by omega) fun _ _ => ?_
    (try dsimp only)
    (repeat' (first | ((fail_if_success (first | walk_at "mine:halt" | (with_reducible show wpAny _ _ (binaryOp Operator.Add (Value.ref _) (Value.ref _)) _ _ _) | (with_reducible show wpAny _ _ (binaryOp Operator.Pow _ _) _ _ _) | (with_reducible show wpAny _ _ (binaryOp Operator.FloorDiv _ _) _ _ _) | (with_reducible show wpAny _ _ (execs (Stmt.Assign [PySem.Expr.Name (Str.ofString "due") _] _ _ :: _) _) _ _ _) | (with_reducible show wpAny _ _ (eval (PySem.Expr.ListComp _ _ _ _) _) _ _ _))); first | ((first | (with_reducible show wpAny _ _ _ _ _ _) | (with_reducible show Frag.In _ _ ∧ _) | (with_reducible show FnAt _ _) | (with_reducible show FnAt _ _ ∧ _)); walk1) | (dsimp only; (first | (with_reducible show wpAny _ _ _ _ _ _) | (with_reducible show Frag.In _ _ ∧ _) | (with_reducible show FnAt _ _) | (with_reducible show FnAt _ _ ∧ _)); (fail_if_success (first | walk_at "mine:halt" | (with_reducible show wpAny _ _ (binaryOp Operator.Add (Value.ref _) (Value.ref _)) _ _ _) | (with_reducible show wpAny _ _ (binaryOp Operator.Pow _ _) _ _ _) | (with_reducible show wpAny _ _ (binaryOp Operator.FloorDiv _ _) _ _ _) | (with_reducible show wpAny _ _ (execs (Stmt.Assign [PySem.Expr.Name (Str.ofString "due") _] _ _ :: _) _) _ _ _) | (with_reducible show wpAny _ _ (eval (PySem.Expr.ListComp _ _ _ _) _) _ _ _))); walk1)) | fail "no step"))
    refine floordiv_int hu ?_ (.inl (PyProof.noPylong_of_log2 (log2_of_bits hu (Nat.le_trans hub (by decide)))))
    refine ⟨_, _, rfl, F, N, ?_⟩
    rw [List.take_add_one, List.getElem?_eq_getElem hi2, Option.toList_some, List.map_append]
    exact ints_append hys (.cons _ _ .nil)
  · clear F5 N5
    ((try ((with_reducible rename Fr _ _ _ _ => Fw); clear Fw)); (try ((with_reducible rename News _ _ _ _ => Nw); clear Nw)); (try ((with_reducible rename Fr _ _ _ _ => Fw); clear Fw)); (try ((with_reducible rename News _ _ _ _ => Nw); clear Nw)))
    intro ys hys D2 h tk F8 N8 off
    simp only [LCg.Off1, and_true] at off
    (try replace off := Hid.mk off)
    rw [List.take_of_length_le (by rw [List.size_toArray]; omega), hG] at hys
    (try dsimp only)
    (repeat' (first | ((fail_if_success (first | walk_at "mine:halt" | (with_reducible show wpAny _ _ (binaryOp Operator.Add (Value.ref _) (Value.ref _)) _ _ _) | (with_reducible show wpAny _ _ (binaryOp Operator.Pow _ _) _ _ _) | (with_reducible show wpAny _ _ (binaryOp Operator.FloorDiv _ _) _ _ _) | (with_reducible show wpAny _ _ (execs (Stmt.Assign [PySem.Expr.Name (Str.ofString "due") _] _ _ :: _) _) _ _ _) | (with_reducible show wpAny _ _ (eval (PySem.Expr.ListComp _ _ _ _) _) _ _ _))); first | ((first | (with_reducible show wpAny _ _ _ _ _ _) | (with_reducible show Frag.In _ _ ∧ _) | (with_reducible show FnAt _ _) | (with_reducible show FnAt _ _ ∧ _)); walk1) | (dsimp only; (first | (with_reducible show wpAny _ _ _ _ _ _) | (with_reducible show Frag.In _ _ ∧ _) | (with_reducible show FnAt _ _) | (with_reducible show FnAt _ _ ∧ _)); (fail_if_success (first | walk_at "mine:halt" | (with_reducible show wpAny _ _ (binaryOp Operator.Add (Value.ref _) (Value.ref _)) _ _ _) | (with_reducible show wpAny _ _ (binaryOp Operator.Pow _ _) _ _ _) | (with_reducible show wpAny _ _ (binaryOp Operator.FloorDiv _ _) _ _ _) | (with_reducible show wpAny _ _ (execs (Stmt.Assign [PySem.Expr.Name (Str.ofString "due") _] _ _ :: _) _) _ _ _) | (with_reducible show wpAny _ _ (eval (PySem.Expr.ListComp _ _ _ _) _) _ _ _))); walk1)) | fail "no step"))
    rw [if_neg Bool.false_ne_true]
    (repeat' (first | ((fail_if_success (first | walk_at "mine:halt" | (with_reducible show wpAny _ _ (binaryOp Operator.Add (Value.ref _) (Value.ref _)) _ _ _) | (with_reducible show wpAny _ _ (binaryOp Operator.Pow _ _) _ _ _) | (with_reducible show wpAny _ _ (binaryOp Operator.FloorDiv _ _) _ _ _) | (with_reducible show wpAny _ _ (execs (Stmt.Assign [PySem.Expr.Name (Str.ofString "due") _] _ _ :: _) _) _ _ _) | (with_reducible show wpAny _ _ (eval (PySem.Expr.ListComp _ _ _ _) _) _ _ _))); first | ((first | (with_reducible show wpAny _ _ _ _ _ _) | (with_reducible show Frag.In _ _ ∧ _) | (with_reducible show FnAt _ _) | (with_reducible show FnAt _ _ ∧ _)); walk1) | (dsimp only; (first | (with_reducible show wpAny _ _ _ _ _ _) | (with_reducible show Frag.In _ _ ∧ _) | (with_reducible show FnAt _ _) | (with_reducible show FnAt _ _ ∧ _)); (fail_if_success (first | walk_at "mine:halt" | (with_reducible show wpAny _ _ (binaryOp Operator.Add (Value.ref _) (Value.ref _)) _ _ _) | (with_reducible show wpAny _ _ (binaryOp Operator.Pow _ _) _ _ _) | (with_reducible show wpAny _ _ (binaryOp Operator.FloorDiv _ _) _ _ _) | (with_reducible show wpAny _ _ (execs (Stmt.Assign [PySem.Expr.Name (Str.ofString "due") _] _ _ :: _) _) _ _ _) | (with_reducible show wpAny _ _ (eval (PySem.Expr.ListComp _ _ _ _) _) _ _ _))); walk1)) | fail "no step"))
    rename Fr _ _ _ _ => Fz
    rename News _ _ _ _ => Nz
    exact tail4 w p loose mean mg mb base g l _ fa cd Q E f1 f2 u wd few _ _ _ _ tB tF tw1 tr1 tw2 tr2 v1 v2 lv hv a1 a2 al ah e1 e2 el eh oB oF oL oH ps1 ps2 um hu hw1 hw3 hf3 hf5 h1 h2 hL hH sL sH dB dF dL dH Fz (news_sub Nz (by k_subL)) lt na1 na2 nal nah ne2 ne3 ne4 B X T C1 C2 (fun h tk m a b => hQ h tk m a b)

end
section
theorem resetT2 : True := by
  w_top off
  exact trivial







noncomputable def UnitK (U : Int) : Prop := 1000 ≤ Builtin.Int.intBits U ∧ Builtin.Int.intBits U ≤ 4200
theorem fitsK {a b : Int} (h1 : Builtin.Int.intBits b ≤ 7998) (h2 : Builtin.Int.intBits a ≤ 20000) (h3 : 1 ≤ Builtin.Int.intBits b) (h4 : Builtin.Int.intBits a ≤ 49 * Builtin.Int.intBits b) : Fits a b := by
  refine ⟨h1, h2, Nat.le_of_lt_succ ((Nat.div_lt_iff_lt_mul (by omega)).mpr ?_)⟩
  omega
theorem restRow_succ (f u B : Int) (n : Nat) : restRow f u B (n + 1) = restRow f u B n ++ [restOf f u B n] := by simp [restRow, List.range_succ]
theorem restRow_small {f u B : Int} (hu : u ≠ 0) (hub : u.natAbs ≤ 24) (n : Nat) : smallZ (restRow f u B n) := fun z hz => by
  obtain ⟨k, _, rfl⟩ := List.mem_map.mp hz
  exact rest_bits hu hub k
theorem whole_small {f u : Int} {wd n : Nat} (hu : u ≠ 0) (hub : u.natAbs ≤ 24) (hf : Builtin.Int.intBits f ≤ 5000) (hB : Builtin.Int.intBits ((2 : Int) ^ wd) ≤ 4) (hn : n ≤ 8) : Builtin.Int.intBits (wholeOf f u (2 ^ wd) n) ≤ 20000 := by
  have h1 := bits_pow hB n
  have h2 := bits_mul f ((2 ^ wd) ^ n)
  exact Nat.le_trans (whole_bits (k := 19000) hu hub (by decide) (by omega)) (by decide)
theorem offFar {l D a1 a2 : Nat} (off : l + 1 ≠ D ∧ l + 1 + 1 ≠ D ∧ l + 1 + 1 + 1 ≠ D ∧ l + 1 + 1 + 1 + 1 ≠ D ∧ l + 1 + 1 + 1 + 1 + 1 ≠ D ∧ l + 1 + 1 + 1 + 1 + 1 + 1 ≠ D ∧ l + 1 + 1 + 1 + 1 + 1 + 1 + 1 ≠ D ∧ l + 1 + 1 + 1 + 1 + 1 + 1 + 1 + 1 ≠ D ∧ a1 ≠ D ∧ a2 ≠ D ∧ 30 ≠ D ∧ 37 ≠ D) : FarS l D ∧ a1 ≠ D ∧ a2 ≠ D := by
  obtain ⟨h1, h2, h3, h4, h5, h6, h7, h8, h9, h10, h11, h12⟩ := off
  exact ⟨⟨Ne.symm h11, Ne.symm h12, Ne.symm h1, Ne.symm h2, Ne.symm h3, Ne.symm h4, Ne.symm h5, Ne.symm h6, Ne.symm h7, Ne.symm h8⟩, h9, h10⟩

theorem tail2 (w : World) (p : Program) (loose : List Str) (mean : ExcName → Option Value) (mg mb : Str → Option Value) (base g : Heap) (l : Addr) (s : Shared) (fa : Addr) (cd : Value) (Q : Flow → Shared → Prop) (E : Value → Shared → Prop)
    (f1 f2 u U : Int) (wd few : Nat) (tu tB tF tU t1 t2 twd : Tok) (oU oB oF oV o1 o2 oL oH : Obj) (vL vH : Option Value) (um : Str → Option Value)
    (hu : u ≠ 0) (hub : u.natAbs ≤ 24) (hUk : UnitK U) (hUp : 0 < U) (hfb1 : Builtin.Int.intBits f1 ≤ 5000) (hfb2 : Builtin.Int.intBits f2 ≤ 5000)
    (hw1 : 1 ≤ wd) (hw3 : wd ≤ 3) (hf3 : 3 ≤ few) (hf5 : few ≤ 5)
    (dU : oU.data = .cell (some (.int u tu))) (dB : oB.data = .cell (some (.int (2 ^ wd) tB))) (dF : oF.data = .cell (some (.int few tF))) (dV : oV.data = .cell (some (.int U tU))) (d1 : o1.data = .cell (some (.int f1 t1))) (d2 : o2.data = .cell (some (.int f2 t2))) (dL : oL.data = .cell vL) (dH : oH.data = .cell vH)
    (F : Fr g l s.heap (fun y => if y = Str.ofString "width" then some (.int wd twd) else um y))
    (N : News g l s.heap [(l + 1, oU), (l + 1 + 1, oB), (l + 1 + 1 + 1, oF), (l + 1 + 1 + 1 + 1, oV), (l + 1 + 1 + 1 + 1 + 1, o1), (l + 1 + 1 + 1 + 1 + 1 + 1, o2), (l + 1 + 1 + 1 + 1 + 1 + 1 + 1, oL), (l + 1 + 1 + 1 + 1 + 1 + 1 + 1 + 1, oH), (30, tabObj #[]), (37, tabObj #[])])
    (lt : 37 < l)
    (B : Below callerA base [] g) (X : (hd.heap_39 w.params).In g) (T : Top p loose mean mg mb g) (C1 : CodeHd base 41 37) (C2 : CodeHd base 34 30)
    (hQ : ∀ h tk m, Fr g l h m → GrownAll [(41, 37), (34, 30)] h → Q (.ret (.bool true)) { s with heap := h, toks := tk }) :
    wpAny (model PySem.Challenge.rw_rl0044_01.row.prog w) (callerA.deeper (envOfC (Str.ofString "law") lawParts.2 l fa cd)) (execs (lawParts.1.drop 7) (envOfC (Str.ofString "law") lawParts.2 l fa cd)) Q E s := by
  revert X
  k_fill
  intro X
  generalize hp : lawParts = lp
  conv at hp => lhs; whnf
  subst hp
  simp only [List.drop_succ_cons, List.drop_zero]
  obtain ⟨hB0, hB8, hBb, hBa⟩ := base_small hw1 hw3
  have hUb := hUk.2
  have hUa := hUk.1
  have bu : Builtin.Int.intBits u ≤ 8 := bits_abs (by omega)
  have bm1 := bits_mul f1 U
  have bm2 := bits_mul f2 U
  have bmu := bits_mul u U
  have buu := bits_up (U := U) hu
  have huU : u * U ≠ 0 := Int.mul_ne_zero hu (by omega)
  have fit : ∀ (f : Int) (n : Nat), n ≤ 8 → Builtin.Int.intBits f ≤ 5000 → Fits ((f * U) * 2 ^ (wd * n)) (u * U) := fun f n hn hf => by
    have h1 := bits_mul (f * U) (2 ^ (wd * n))
    have h2 := bits_mul f U
    have hwn : wd * n ≤ 3 * 8 := Nat.mul_le_mul hw3 hn
    have hp := pow_pos2 (wd * n)
    have bp : Builtin.Int.intBits ((2 : Int) ^ (wd * n)) ≤ 25 := bits_le (Int.le_of_lt hp) (by
      have := Nat.pow_le_pow_right (n := 2) (by decide) hwn
      have e : ∀ j : Nat, (2 : Int) ^ j = ((2 ^ j : Nat) : Int) := fun j => by simp
      rw [e, e]; omega)
    exact fitsK (by omega) (by omega) (by omega) (by omega)
  (repeat' (first | ((fail_if_success (first | walk_at "mine:halt" | (with_reducible show wpAny _ _ (binaryOp Operator.Add (Value.ref _) (Value.ref _)) _ _ _) | (with_reducible show wpAny _ _ (binaryOp Operator.Pow _ _) _ _ _) | (with_reducible show wpAny _ _ (binaryOp Operator.FloorDiv _ _) _ _ _) | (with_reducible show wpAny _ _ (binaryOp Operator.Mod _ _) _ _ _) | (with_reducible show wpAny _ _ (eval (PySem.Expr.ListComp _ _ _ _) _) _ _ _))); first | ((first | (with_reducible show wpAny _ _ _ _ _ _) | (with_reducible show Frag.In _ _ ∧ _) | (with_reducible show FnAt _ _) | (with_reducible show FnAt _ _ ∧ _)); walk1) | (dsimp only; (first | (with_reducible show wpAny _ _ _ _ _ _) | (with_reducible show Frag.In _ _ ∧ _) | (with_reducible show FnAt _ _) | (with_reducible show FnAt _ _ ∧ _)); (fail_if_success (first | walk_at "mine:halt" | (with_reducible show wpAny _ _ (binaryOp Operator.Add (Value.ref _) (Value.ref _)) _ _ _) | (with_reducible show wpAny _ _ (binaryOp Operator.Pow _ _) _ _ _) | (with_reducible show wpAny _ _ (binaryOp Operator.FloorDiv _ _) _ _ _) | (with_reducible show wpAny _ _ (binaryOp Operator.Mod _ _) _ _ _) | (with_reducible show wpAny _ _ (eval (PySem.Expr.ListComp _ _ _ _) _) _ _ _))); walk1)) | fail "no step"))
  refine wpAny_Try_except ?_
  (repeat' (first | ((fail_if_success (first | walk_at "mine:halt" | (with_reducible show wpAny _ _ (binaryOp Operator.Add (Value.ref _) (Value.ref _)) _ _ _) | (with_reducible show wpAny _ _ (binaryOp Operator.Pow _ _) _ _ _) | (with_reducible show wpAny _ _ (binaryOp Operator.FloorDiv _ _) _ _ _) | (with_reducible show wpAny _ _ (binaryOp Operator.Mod _ _) _ _ _) | (with_reducible show wpAny _ _ (eval (PySem.Expr.ListComp _ _ _ _) _) _ _ _))); first | ((first | (with_reducible show wpAny _ _ _ _ _ _) | (with_reducible show Frag.In _ _ ∧ _) | (with_reducible show FnAt _ _) | (with_reducible show FnAt _ _ ∧ _)); walk1) | (dsimp only; (first | (with_reducible show wpAny _ _ _ _ _ _) | (with_reducible show Frag.In _ _ ∧ _) | (with_reducible show FnAt _ _) | (with_reducible show FnAt _ _ ∧ _)); (fail_if_success (first | walk_at "mine:halt" | (with_reducible show wpAny _ _ (binaryOp Operator.Add (Value.ref _) (Value.ref _)) _ _ _) | (with_reducible show wpAny _ _ (binaryOp Operator.Pow _ _) _ _ _) | (with_reducible show wpAny _ _ (binaryOp Operator.FloorDiv _ _) _ _ _) | (with_reducible show wpAny _ _ (binaryOp Operator.Mod _ _) _ _ _) | (with_reducible show wpAny _ _ (eval (PySem.Expr.ListComp _ _ _ _) _) _ _ _))); walk1)) | fail "no step"))
  refine mulI (by omega) fun _ _ => ?_
  (try dsimp only)
  (repeat' (first | ((fail_if_success (first | walk_at "mine:halt" | (with_reducible show wpAny _ _ (binaryOp Operator.Add (Value.ref _) (Value.ref _)) _ _ _) | (with_reducible show wpAny _ _ (binaryOp Operator.Pow _ _) _ _ _) | (with_reducible show wpAny _ _ (binaryOp Operator.FloorDiv _ _) _ _ _) | (with_reducible show wpAny _ _ (binaryOp Operator.Mod _ _) _ _ _) | (with_reducible show wpAny _ _ (eval (PySem.Expr.ListComp _ _ _ _) _) _ _ _))); first | ((first | (with_reducible show wpAny _ _ _ _ _ _) | (with_reducible show Frag.In _ _ ∧ _) | (with_reducible show FnAt _ _) | (with_reducible show FnAt _ _ ∧ _)); walk1) | (dsimp only; (first | (with_reducible show wpAny _ _ _ _ _ _) | (with_reducible show Frag.In _ _ ∧ _) | (with_reducible show FnAt _ _) | (with_reducible show FnAt _ _ ∧ _)); (fail_if_success (first | walk_at "mine:halt" | (with_reducible show wpAny _ _ (binaryOp Operator.Add (Value.ref _) (Value.ref _)) _ _ _) | (with_reducible show wpAny _ _ (binaryOp Operator.Pow _ _) _ _ _) | (with_reducible show wpAny _ _ (binaryOp Operator.FloorDiv _ _) _ _ _) | (with_reducible show wpAny _ _ (binaryOp Operator.Mod _ _) _ _ _) | (with_reducible show wpAny _ _ (eval (PySem.Expr.ListComp _ _ _ _) _) _ _ _))); walk1)) | fail "no step"))
  refine mulI (by omega) fun _ _ => ?_
  (try dsimp only)
  (repeat' (first | ((fail_if_success (first | walk_at "mine:halt" | (with_reducible show wpAny _ _ (binaryOp Operator.Add (Value.ref _) (Value.ref _)) _ _ _) | (with_reducible show wpAny _ _ (binaryOp Operator.Pow _ _) _ _ _) | (with_reducible show wpAny _ _ (binaryOp Operator.FloorDiv _ _) _ _ _) | (with_reducible show wpAny _ _ (binaryOp Operator.Mod _ _) _ _ _) | (with_reducible show wpAny _ _ (eval (PySem.Expr.ListComp _ _ _ _) _) _ _ _))); first | ((first | (with_reducible show wpAny _ _ _ _ _ _) | (with_reducible show Frag.In _ _ ∧ _) | (with_reducible show FnAt _ _) | (with_reducible show FnAt _ _ ∧ _)); walk1) | (dsimp only; (first | (with_reducible show wpAny _ _ _ _ _ _) | (with_reducible show Frag.In _ _ ∧ _) | (with_reducible show FnAt _ _) | (with_reducible show FnAt _ _ ∧ _)); (fail_if_success (first | walk_at "mine:halt" | (with_reducible show wpAny _ _ (binaryOp Operator.Add (Value.ref _) (Value.ref _)) _ _ _) | (with_reducible show wpAny _ _ (binaryOp Operator.Pow _ _) _ _ _) | (with_reducible show wpAny _ _ (binaryOp Operator.FloorDiv _ _) _ _ _) | (with_reducible show wpAny _ _ (binaryOp Operator.Mod _ _) _ _ _) | (with_reducible show wpAny _ _ (eval (PySem.Expr.ListComp _ _ _ _) _) _ _ _))); walk1)) | fail "no step"))
  have nt30 := Hid.mk (farT (t := 30) (Nat.lt_trans (by decide) lt))
  have nt37 := Hid.mk (farT (t := 37) lt)
  rename Fr _ _ _ _ => Fz
  rename News _ _ _ _ => Nz
  refine (law_figures w (f1 * U) (u * U) wd few _ _ _ _ huU hw1 hw3 (by omega) (by omega) (fit f1 few (by omega) hfb1) [(30, tabObj #[]), (37, tabObj #[])] (.inl rfl)).at [(l + 1, oU), (l + 1 + 1, oB), (l + 1 + 1 + 1, oF), (l + 1 + 1 + 1 + 1, oV), (l + 1 + 1 + 1 + 1 + 1, o1), (l + 1 + 1 + 1 + 1 + 1 + 1, o2), (l + 1 + 1 + 1 + 1 + 1 + 1 + 1, oL), (l + 1 + 1 + 1 + 1 + 1 + 1 + 1 + 1, oH)]
    B Fz X Nz (by k_subL) (by (((try simp only [List.cons_append, List.nil_append, ApartL, AllNe, and_true]); (repeat' (first | exact True.intro | refine And.intro ?_ ?_)); all_goals k_ne))) T C1 C2 rfl (Nat.le_of_ble_eq_true rfl) (Nat.le_of_ble_eq_true rfl) ?_
  clear Fz Nz
  rintro r post h' tk' F' N' D' ⟨x, a1, v1, e1, tq, tr, l2, rfl, rfl, hfig, ⟨cA, oA, cB, oB2, rfl, hokA, hokB, hd1, hd2⟩, hx, ha1⟩
  obtain ⟨q1, q2, q3⟩ := fig_facts (f := f1) (n := few) (wd := wd) hu hUp
  simp only [List.cons_append, List.nil_append] at N'
  rw [q1, q3] at hfig
  rw [q1, q2] at N'
  simp only [ApartL, AllNe, and_true] at hd1 hd2 hx ha1 D'
  (try replace hd1 := Hid.mk hd1)
  (try replace hd2 := Hid.mk hd2)
  (try replace hx := Hid.mk hx)
  (try replace ha1 := Hid.mk ha1)
  (try replace D' := Hid.mk D')
  (try dsimp only)
  (repeat' (first | ((fail_if_success (first | walk_at "mine:halt" | (with_reducible show wpAny _ _ (binaryOp Operator.Add (Value.ref _) (Value.ref _)) _ _ _) | (with_reducible show wpAny _ _ (binaryOp Operator.Pow _ _) _ _ _) | (with_reducible show wpAny _ _ (binaryOp Operator.FloorDiv _ _) _ _ _) | (with_reducible show wpAny _ _ (binaryOp Operator.Mod _ _) _ _ _) | (with_reducible show wpAny _ _ (eval (PySem.Expr.ListComp _ _ _ _) _) _ _ _))); first | ((first | (with_reducible show wpAny _ _ _ _ _ _) | (with_reducible show Frag.In _ _ ∧ _) | (with_reducible show FnAt _ _) | (with_reducible show FnAt _ _ ∧ _)); walk1) | (dsimp only; (first | (with_reducible show wpAny _ _ _ _ _ _) | (with_reducible show Frag.In _ _ ∧ _) | (with_reducible show FnAt _ _) | (with_reducible show FnAt _ _ ∧ _)); (fail_if_success (first | walk_at "mine:halt" | (with_reducible show wpAny _ _ (binaryOp Operator.Add (Value.ref _) (Value.ref _)) _ _ _) | (with_reducible show wpAny _ _ (binaryOp Operator.Pow _ _) _ _ _) | (with_reducible show wpAny _ _ (binaryOp Operator.FloorDiv _ _) _ _ _) | (with_reducible show wpAny _ _ (binaryOp Operator.Mod _ _) _ _ _) | (with_reducible show wpAny _ _ (eval (PySem.Expr.ListComp _ _ _ _) _) _ _ _))); walk1)) | fail "no step"))
  have na1 := Hid.mk (show FarS l a1 from ⟨ha1.1, ha1.2.2.1, D'.2.1⟩)
  have nA := Hid.mk D'.2.2.2.1
  have nB := Hid.mk D'.2.2.2.2.2
  rename News _ _ _ _ => Nw
  have Nz := news_sub (b := [(l + 1, oU), (l + 1 + 1, oB), (l + 1 + 1 + 1, oF), (l + 1 + 1 + 1 + 1, oV), (l + 1 + 1 + 1 + 1 + 1, o1), (l + 1 + 1 + 1 + 1 + 1 + 1, o2), (l + 1 + 1 + 1 + 1 + 1 + 1 + 1, oL), (l + 1 + 1 + 1 + 1 + 1 + 1 + 1 + 1, oH), (a1, listOf v1.toArray e1), (30, tabObj #[rawInt 32, rawInt 4, .ref cA]), (cA, oA), (37, tabObj #[rawInt 47, rawInt 4, .ref cB]), (cB, oB2)]) Nw (by k_subL)
  clear Nw D' hx
  show wpAny _ _ _ _ _ _
  (repeat' (first | ((fail_if_success (first | walk_at "mine:halt" | (with_reducible show wpAny _ _ (binaryOp Operator.Add (Value.ref _) (Value.ref _)) _ _ _) | (with_reducible show wpAny _ _ (binaryOp Operator.Pow _ _) _ _ _) | (with_reducible show wpAny _ _ (binaryOp Operator.FloorDiv _ _) _ _ _) | (with_reducible show wpAny _ _ (binaryOp Operator.Mod _ _) _ _ _) | (with_reducible show wpAny _ _ (eval (PySem.Expr.ListComp _ _ _ _) _) _ _ _))); first | ((first | (with_reducible show wpAny _ _ _ _ _ _) | (with_reducible show Frag.In _ _ ∧ _) | (with_reducible show FnAt _ _) | (with_reducible show FnAt _ _ ∧ _)); walk1) | (dsimp only; (first | (with_reducible show wpAny _ _ _ _ _ _) | (with_reducible show Frag.In _ _ ∧ _) | (with_reducible show FnAt _ _) | (with_reducible show FnAt _ _ ∧ _)); (fail_if_success (first | walk_at "mine:halt" | (with_reducible show wpAny _ _ (binaryOp Operator.Add (Value.ref _) (Value.ref _)) _ _ _) | (with_reducible show wpAny _ _ (binaryOp Operator.Pow _ _) _ _ _) | (with_reducible show wpAny _ _ (binaryOp Operator.FloorDiv _ _) _ _ _) | (with_reducible show wpAny _ _ (binaryOp Operator.Mod _ _) _ _ _) | (with_reducible show wpAny _ _ (eval (PySem.Expr.ListComp _ _ _ _) _) _ _ _))); walk1)) | fail "no step"))
  refine wpAny_execs_cons ?_
  (repeat' (first | ((fail_if_success (first | walk_at "mine:halt" | (with_reducible show wpAny _ _ (binaryOp Operator.Add (Value.ref _) (Value.ref _)) _ _ _) | (with_reducible show wpAny _ _ (binaryOp Operator.Pow _ _) _ _ _) | (with_reducible show wpAny _ _ (binaryOp Operator.FloorDiv _ _) _ _ _) | (with_reducible show wpAny _ _ (binaryOp Operator.Mod _ _) _ _ _) | (with_reducible show wpAny _ _ (eval (PySem.Expr.ListComp _ _ _ _) _) _ _ _))); first | ((first | (with_reducible show wpAny _ _ _ _ _ _) | (with_reducible show Frag.In _ _ ∧ _) | (with_reducible show FnAt _ _) | (with_reducible show FnAt _ _ ∧ _)); walk1) | (dsimp only; (first | (with_reducible show wpAny _ _ _ _ _ _) | (with_reducible show Frag.In _ _ ∧ _) | (with_reducible show FnAt _ _) | (with_reducible show FnAt _ _ ∧ _)); (fail_if_success (first | walk_at "mine:halt" | (with_reducible show wpAny _ _ (binaryOp Operator.Add (Value.ref _) (Value.ref _)) _ _ _) | (with_reducible show wpAny _ _ (binaryOp Operator.Pow _ _) _ _ _) | (with_reducible show wpAny _ _ (binaryOp Operator.FloorDiv _ _) _ _ _) | (with_reducible show wpAny _ _ (binaryOp Operator.Mod _ _) _ _ _) | (with_reducible show wpAny _ _ (eval (PySem.Expr.ListComp _ _ _ _) _) _ _ _))); walk1)) | fail "no step"))
  rw [if_neg (by simpa using hu)]
  (repeat' (first | ((fail_if_success (first | walk_at "mine:halt" | (with_reducible show wpAny _ _ (binaryOp Operator.Add (Value.ref _) (Value.ref _)) _ _ _) | (with_reducible show wpAny _ _ (binaryOp Operator.Pow _ _) _ _ _) | (with_reducible show wpAny _ _ (binaryOp Operator.FloorDiv _ _) _ _ _) | (with_reducible show wpAny _ _ (binaryOp Operator.Mod _ _) _ _ _) | (with_reducible show wpAny _ _ (eval (PySem.Expr.ListComp _ _ _ _) _) _ _ _))); first | ((first | (with_reducible show wpAny _ _ _ _ _ _) | (with_reducible show Frag.In _ _ ∧ _) | (with_reducible show FnAt _ _) | (with_reducible show FnAt _ _ ∧ _)); walk1) | (dsimp only; (first | (with_reducible show wpAny _ _ _ _ _ _) | (with_reducible show Frag.In _ _ ∧ _) | (with_reducible show FnAt _ _) | (with_reducible show FnAt _ _ ∧ _)); (fail_if_success (first | walk_at "mine:halt" | (with_reducible show wpAny _ _ (binaryOp Operator.Add (Value.ref _) (Value.ref _)) _ _ _) | (with_reducible show wpAny _ _ (binaryOp Operator.Pow _ _) _ _ _) | (with_reducible show wpAny _ _ (binaryOp Operator.FloorDiv _ _) _ _ _) | (with_reducible show wpAny _ _ (binaryOp Operator.Mod _ _) _ _ _) | (with_reducible show wpAny _ _ (eval (PySem.Expr.ListComp _ _ _ _) _) _ _ _))); walk1)) | fail "no step"))
  refine mulI (by omega) fun _ _ => ?_
  (try dsimp only)
  (repeat' (first | ((fail_if_success (first | walk_at "mine:halt" | (with_reducible show wpAny _ _ (binaryOp Operator.Add (Value.ref _) (Value.ref _)) _ _ _) | (with_reducible show wpAny _ _ (binaryOp Operator.Pow _ _) _ _ _) | (with_reducible show wpAny _ _ (binaryOp Operator.FloorDiv _ _) _ _ _) | (with_reducible show wpAny _ _ (binaryOp Operator.Mod _ _) _ _ _) | (with_reducible show wpAny _ _ (eval (PySem.Expr.ListComp _ _ _ _) _) _ _ _))); first | ((first | (with_reducible show wpAny _ _ _ _ _ _) | (with_reducible show Frag.In _ _ ∧ _) | (with_reducible show FnAt _ _) | (with_reducible show FnAt _ _ ∧ _)); walk1) | (dsimp only; (first | (with_reducible show wpAny _ _ _ _ _ _) | (with_reducible show Frag.In _ _ ∧ _) | (with_reducible show FnAt _ _) | (with_reducible show FnAt _ _ ∧ _)); (fail_if_success (first | walk_at "mine:halt" | (with_reducible show wpAny _ _ (binaryOp Operator.Add (Value.ref _) (Value.ref _)) _ _ _) | (with_reducible show wpAny _ _ (binaryOp Operator.Pow _ _) _ _ _) | (with_reducible show wpAny _ _ (binaryOp Operator.FloorDiv _ _) _ _ _) | (with_reducible show wpAny _ _ (binaryOp Operator.Mod _ _) _ _ _) | (with_reducible show wpAny _ _ (eval (PySem.Expr.ListComp _ _ _ _) _) _ _ _))); walk1)) | fail "no step"))
  refine mulI (by omega) fun _ _ => ?_
  (try dsimp only)
  (repeat' (first | ((fail_if_success (first | walk_at "mine:halt" | (with_reducible show wpAny _ _ (binaryOp Operator.Add (Value.ref _) (Value.ref _)) _ _ _) | (with_reducible show wpAny _ _ (binaryOp Operator.Pow _ _) _ _ _) | (with_reducible show wpAny _ _ (binaryOp Operator.FloorDiv _ _) _ _ _) | (with_reducible show wpAny _ _ (binaryOp Operator.Mod _ _) _ _ _) | (with_reducible show wpAny _ _ (eval (PySem.Expr.ListComp _ _ _ _) _) _ _ _))); first | ((first | (with_reducible show wpAny _ _ _ _ _ _) | (with_reducible show Frag.In _ _ ∧ _) | (with_reducible show FnAt _ _) | (with_reducible show FnAt _ _ ∧ _)); walk1) | (dsimp only; (first | (with_reducible show wpAny _ _ _ _ _ _) | (with_reducible show Frag.In _ _ ∧ _) | (with_reducible show FnAt _ _) | (with_reducible show FnAt _ _ ∧ _)); (fail_if_success (first | walk_at "mine:halt" | (with_reducible show wpAny _ _ (binaryOp Operator.Add (Value.ref _) (Value.ref _)) _ _ _) | (with_reducible show wpAny _ _ (binaryOp Operator.Pow _ _) _ _ _) | (with_reducible show wpAny _ _ (binaryOp Operator.FloorDiv _ _) _ _ _) | (with_reducible show wpAny _ _ (binaryOp Operator.Mod _ _) _ _ _) | (with_reducible show wpAny _ _ (eval (PySem.Expr.ListComp _ _ _ _) _) _ _ _))); walk1)) | fail "no step"))
  rename Fr _ _ _ _ => Fz
  refine (law_figures w (f2 * U) (u * U) wd 8 _ _ _ _ huU hw1 hw3 (by decide) (by omega) (fit f2 8 (by decide) hfb2) [(30, tabObj #[rawInt 32, rawInt 4, .ref cA]), (cA, oA), (37, tabObj #[rawInt 47, rawInt 4, .ref cB]), (cB, oB2)]
    (.inr ⟨cA, oA, cB, oB2, rfl, hokA, hokB, ⟨hd1.1, hd1.2.1, hd1.2.2, trivial⟩, ⟨hd2.1, hd2.2, trivial⟩⟩)).at ((a1, listOf v1.toArray e1) :: [(l + 1, oU), (l + 1 + 1, oB), (l + 1 + 1 + 1, oF), (l + 1 + 1 + 1 + 1, oV), (l + 1 + 1 + 1 + 1 + 1, o1), (l + 1 + 1 + 1 + 1 + 1 + 1, o2), (l + 1 + 1 + 1 + 1 + 1 + 1 + 1, oL), (l + 1 + 1 + 1 + 1 + 1 + 1 + 1 + 1, oH)])
    B Fz X Nz (by k_subL) (by (((try simp only [List.cons_append, List.nil_append, ApartL, AllNe, and_true]); (repeat' (first | exact True.intro | refine And.intro ?_ ?_)); all_goals k_ne))) T C1 C2 rfl (Nat.le_of_ble_eq_true rfl) (Nat.le_of_ble_eq_true rfl) ?_
  clear Fz Nz
  rintro r post h' tk' F' N' D' ⟨x, a2, v2, e2, tq2, tr2, l3, rfl, rfl, hfig2, ⟨cA2, oA2, cB2, oB3, rfl, hokA2, hokB2, hd3, hd4⟩, hx2, ha2⟩
  obtain ⟨q4, q5, q6⟩ := fig_facts (f := f2) (n := 8) (wd := wd) hu hUp
  simp only [List.cons_append, List.nil_append] at N'
  rw [q4, q6] at hfig2
  rw [q4, q5] at N'
  simp only [ApartL, AllNe, and_true] at hd3 hd4 hx2 ha2 D'
  (try replace hd3 := Hid.mk hd3)
  (try replace hd4 := Hid.mk hd4)
  (try replace hx2 := Hid.mk hx2)
  (try replace ha2 := Hid.mk ha2)
  (try replace D' := Hid.mk D')
  (try dsimp only)
  have na2 := Hid.mk (show FarS l a2 from ⟨ha2.1, ha2.2.2.1, D'.2.1.2⟩)
  have n21 := Hid.mk D'.2.1.1
  clear hokA hokB hokA2 hokB2 hd1 hd2 ha1 nA nB hd3 hd4 q1 q2 q3 q4 q5 q6 fit
  (repeat' (first | ((fail_if_success (first | walk_at "mine:halt" | (with_reducible show wpAny _ _ (binaryOp Operator.Add (Value.ref _) (Value.ref _)) _ _ _) | (with_reducible show wpAny _ _ (binaryOp Operator.Pow _ _) _ _ _) | (with_reducible show wpAny _ _ (binaryOp Operator.FloorDiv _ _) _ _ _) | (with_reducible show wpAny _ _ (binaryOp Operator.Mod _ _) _ _ _) | (with_reducible show wpAny _ _ (eval (PySem.Expr.ListComp _ _ _ _) _) _ _ _))); first | ((first | (with_reducible show wpAny _ _ _ _ _ _) | (with_reducible show Frag.In _ _ ∧ _) | (with_reducible show FnAt _ _) | (with_reducible show FnAt _ _ ∧ _)); walk1) | (dsimp only; (first | (with_reducible show wpAny _ _ _ _ _ _) | (with_reducible show Frag.In _ _ ∧ _) | (with_reducible show FnAt _ _) | (with_reducible show FnAt _ _ ∧ _)); (fail_if_success (first | walk_at "mine:halt" | (with_reducible show wpAny _ _ (binaryOp Operator.Add (Value.ref _) (Value.ref _)) _ _ _) | (with_reducible show wpAny _ _ (binaryOp Operator.Pow _ _) _ _ _) | (with_reducible show wpAny _ _ (binaryOp Operator.FloorDiv _ _) _ _ _) | (with_reducible show wpAny _ _ (binaryOp Operator.Mod _ _) _ _ _) | (with_reducible show wpAny _ _ (eval (PySem.Expr.ListComp _ _ _ _) _) _ _ _))); walk1)) | fail "no step"))
  rename News _ _ _ _ => Nw
  have Nz := news_sub (b := [(l + 1, oU), (l + 1 + 1, oB), (l + 1 + 1 + 1, oF), (l + 1 + 1 + 1 + 1, oV), (l + 1 + 1 + 1 + 1 + 1, o1), (l + 1 + 1 + 1 + 1 + 1 + 1, o2), (l + 1 + 1 + 1 + 1 + 1 + 1 + 1, oL), (l + 1 + 1 + 1 + 1 + 1 + 1 + 1 + 1, oH), (a1, listOf v1.toArray e1), (a2, listOf v2.toArray e2), (30, tabObj #[rawInt 32, rawInt 4, .ref cA2]), (37, tabObj #[rawInt 47, rawInt 4, .ref cB2])]) Nw (by k_subL)
  clear Nw D' hx2 ha2
  have x4 := Hid.mk (nt30.2.2.2.2.2.2.1)
  have x5 := Hid.mk (nt37.2.2.2.2.2.2.1)
  have y4 : Hid (30 ≠ l + 1 + 1 + 1 + 1 + 1 + 1 + 1 + 1) := nt30.2.2.2.2.2.2.2
  have y5 : Hid (37 ≠ l + 1 + 1 + 1 + 1 + 1 + 1 + 1 + 1) := nt37.2.2.2.2.2.2.2
  clear nt30 nt37
  have k1 : Hid (FarS l a1) := na1
  have k2 : Hid (FarS l a2) := na2
  have k3 : Hid (a2 ≠ a1) := n21
  have x1 := Hid.mk (na1.2.2.2.2.2.2.2.2.1)
  have x2 := Hid.mk (na2.2.2.2.2.2.2.2.2.1)
  have y1 := Hid.mk (na1.2.2.2.2.2.2.2.2.2)
  have y2 := Hid.mk (na2.2.2.2.2.2.2.2.2.2)
  replace y1 : Hid (a1 ≠ l + 1 + 1 + 1 + 1 + 1 + 1 + 1 + 1) := y1
  replace y2 : Hid (a2 ≠ l + 1 + 1 + 1 + 1 + 1 + 1 + 1 + 1) := y2
  clear na1 na2 n21
  rename Fr _ _ _ _ => Fz
  refine LCg.ListComp_U (F₀ := Fz) (by with_unfolding_all rfl) (by decide) (by rfl) (by decide) (by rfl) ?_
  (repeat' (first | ((fail_if_success (first | walk_at "mine:halt" | (with_reducible show wpAny _ _ (binaryOp Operator.Add (Value.ref _) (Value.ref _)) _ _ _) | (with_reducible show wpAny _ _ (binaryOp Operator.Pow _ _) _ _ _) | (with_reducible show wpAny _ _ (binaryOp Operator.FloorDiv _ _) _ _ _) | (with_reducible show wpAny _ _ (binaryOp Operator.Mod _ _) _ _ _) | (with_reducible show wpAny _ _ (eval (PySem.Expr.ListComp _ _ _ _) _) _ _ _))); first | ((first | (with_reducible show wpAny _ _ _ _ _ _) | (with_reducible show Frag.In _ _ ∧ _) | (with_reducible show FnAt _ _) | (with_reducible show FnAt _ _ ∧ _)); walk1) | (dsimp only; (first | (with_reducible show wpAny _ _ _ _ _ _) | (with_reducible show Frag.In _ _ ∧ _) | (with_reducible show FnAt _ _) | (with_reducible show FnAt _ _ ∧ _)); (fail_if_success (first | walk_at "mine:halt" | (with_reducible show wpAny _ _ (binaryOp Operator.Add (Value.ref _) (Value.ref _)) _ _ _) | (with_reducible show wpAny _ _ (binaryOp Operator.Pow _ _) _ _ _) | (with_reducible show wpAny _ _ (binaryOp Operator.FloorDiv _ _) _ _ _) | (with_reducible show wpAny _ _ (binaryOp Operator.Mod _ _) _ _ _) | (with_reducible show wpAny _ _ (eval (PySem.Expr.ListComp _ _ _ _) _) _ _ _))); walk1)) | fail "no step"))
  rename IsRange _ _ _ _ _ _ _ _ => hR
  rename Fr _ _ _ _ => Fy
  rename News _ _ _ _ => Ny
  refine LCg.CompSrc.range (n := few + 1) rfl Fy Ny hR (range_small (by omega) (by omega) (by omega) (by omega)) (by rw [range_size]; omega) (by simp [sizeLine]; omega) ?_
  intro g'
  refine comp_inv (n := few + 1) (fun i ys => IntsAre ys (restRow f1 u (2 ^ wd) i)) trivial ?_ ?_ (few + 1) 0 [] (by omega) .nil
  · clear Fy Ny hR
    ((try ((with_reducible rename Fr _ _ _ _ => Fw); clear Fw)); (try ((with_reducible rename News _ _ _ _ => Nw); clear Nw)); (try ((with_reducible rename Fr _ _ _ _ => Fw); clear Fw)); (try ((with_reducible rename News _ _ _ _ => Nw); clear Nw)))
    rintro i ys hi hys v I2 oI2 C oC D2 m2 h tk E' ⟨tv, rfl⟩ hC hx F N off ne
    (try replace ne := Hid.mk ne)
    simp only [LCg.Off3, and_true] at off
    (try replace off := Hid.mk off)
    (repeat' (first | ((fail_if_success (first | walk_at "mine:halt" | (with_reducible show wpAny _ _ (binaryOp Operator.Add (Value.ref _) (Value.ref _)) _ _ _) | (with_reducible show wpAny _ _ (binaryOp Operator.Pow _ _) _ _ _) | (with_reducible show wpAny _ _ (binaryOp Operator.FloorDiv _ _) _ _ _) | (with_reducible show wpAny _ _ (binaryOp Operator.Mod _ _) _ _ _) | (with_reducible show wpAny _ _ (eval (PySem.Expr.ListComp _ _ _ _) _) _ _ _))); first | ((first | (with_reducible show wpAny _ _ _ _ _ _) | (with_reducible show Frag.In _ _ ∧ _) | (with_reducible show FnAt _ _) | (with_reducible show FnAt _ _ ∧ _)); walk1) | (dsimp only; (first | (with_reducible show wpAny _ _ _ _ _ _) | (with_reducible show Frag.In _ _ ∧ _) | (with_reducible show FnAt _ _) | (with_reducible show FnAt _ _ ∧ _)); (fail_if_success (first | walk_at "mine:halt" | (with_reducible show wpAny _ _ (binaryOp Operator.Add (Value.ref _) (Value.ref _)) _ _ _) | (with_reducible show wpAny _ _ (binaryOp Operator.Pow _ _) _ _ _) | (with_reducible show wpAny _ _ (binaryOp Operator.FloorDiv _ _) _ _ _) | (with_reducible show wpAny _ _ (binaryOp Operator.Mod _ _) _ _ _) | (with_reducible show wpAny _ _ (eval (PySem.Expr.ListComp _ _ _ _) _) _ _ _))); walk1)) | fail "no step"))
    rw [show (0 : Int) + (i : Int) = ((i : Nat) : Int) by omega]
    have bp := bits_pow hBb i
    refine powI hBa (by omega) fun _ _ => ?_
    (try dsimp only)
    (repeat' (first | ((fail_if_success (first | walk_at "mine:halt" | (with_reducible show wpAny _ _ (binaryOp Operator.Add (Value.ref _) (Value.ref _)) _ _ _) | (with_reducible show wpAny _ _ (binaryOp Operator.Pow _ _) _ _ _) | (with_reducible show wpAny _ _ (binaryOp Operator.FloorDiv _ _) _ _ _) | (with_reducible show wpAny _ _ (binaryOp Operator.Mod _ _) _ _ _) | (with_reducible show wpAny _ _ (eval (PySem.Expr.ListComp _ _ _ _) _) _ _ _))); first | ((first | (with_reducible show wpAny _ _ _ _ _ _) | (with_reducible show Frag.In _ _ ∧ _) | (with_reducible show FnAt _ _) | (with_reducible show FnAt _ _ ∧ _)); walk1) | (dsimp only; (first | (with_reducible show wpAny _ _ _ _ _ _) | (with_reducible show Frag.In _ _ ∧ _) | (with_reducible show FnAt _ _) | (with_reducible show FnAt _ _ ∧ _)); (fail_if_success (first | walk_at "mine:halt" | (with_reducible show wpAny _ _ (binaryOp Operator.Add (Value.ref _) (Value.ref _)) _ _ _) | (with_reducible show wpAny _ _ (binaryOp Operator.Pow _ _) _ _ _) | (with_reducible show wpAny _ _ (binaryOp Operator.FloorDiv _ _) _ _ _) | (with_reducible show wpAny _ _ (binaryOp Operator.Mod _ _) _ _ _) | (with_reducible show wpAny _ _ (eval (PySem.Expr.ListComp _ _ _ _) _) _ _ _))); walk1)) | fail "no step"))
    refine mulI (by omega) fun _ _ => ?_
    (try dsimp only)
    (repeat' (first | ((fail_if_success (first | walk_at "mine:halt" | (with_reducible show wpAny _ _ (binaryOp Operator.Add (Value.ref _) (Value.ref _)) _ _ _) | (with_reducible show wpAny _ _ (binaryOp Operator.Pow _ _) _ _ _) | (with_reducible show wpAny _ _ (binaryOp Operator.FloorDiv _ _) _ _ _) | (with_reducible show wpAny _ _ (binaryOp Operator.Mod _ _) _ _ _) | (with_reducible show wpAny _ _ (eval (PySem.Expr.ListComp _ _ _ _) _) _ _ _))); first | ((first | (with_reducible show wpAny _ _ _ _ _ _) | (with_reducible show Frag.In _ _ ∧ _) | (with_reducible show FnAt _ _) | (with_reducible show FnAt _ _ ∧ _)); walk1) | (dsimp only; (first | (with_reducible show wpAny _ _ _ _ _ _) | (with_reducible show Frag.In _ _ ∧ _) | (with_reducible show FnAt _ _) | (with_reducible show FnAt _ _ ∧ _)); (fail_if_success (first | walk_at "mine:halt" | (with_reducible show wpAny _ _ (binaryOp Operator.Add (Value.ref _) (Value.ref _)) _ _ _) | (with_reducible show wpAny _ _ (binaryOp Operator.Pow _ _) _ _ _) | (with_reducible show wpAny _ _ (binaryOp Operator.FloorDiv _ _) _ _ _) | (with_reducible show wpAny _ _ (binaryOp Operator.Mod _ _) _ _ _) | (with_reducible show wpAny _ _ (eval (PySem.Expr.ListComp _ _ _ _) _) _ _ _))); walk1)) | fail "no step"))
    refine modI hu fun _ _ => ?_
    refine ⟨_, _, rfl, F, N, ?_⟩
    rw [restRow_succ]
    exact ints_append hys (.cons _ _ .nil)
  · clear Fy Ny hR
    ((try ((with_reducible rename Fr _ _ _ _ => Fw); clear Fw)); (try ((with_reducible rename News _ _ _ _ => Nw); clear Nw)); (try ((with_reducible rename Fr _ _ _ _ => Fw); clear Fw)); (try ((with_reducible rename News _ _ _ _ => Nw); clear Nw)))
    intro ys hys D2 h tk F8 N8 off
    simp only [LCg.Off1, and_true] at off
    (try replace off := Hid.mk off)
    (try dsimp only)
    have kf := offFar off
    have x3 := Hid.mk (kf.1.2.2.2.2.2.2.2.2.1)
    replace kf : Hid (FarS l D2 ∧ a1 ≠ D2 ∧ a2 ≠ D2) := kf
    clear off
    (repeat' (first | ((fail_if_success (first | walk_at "mine:halt" | (with_reducible show wpAny _ _ (binaryOp Operator.Add (Value.ref _) (Value.ref _)) _ _ _) | (with_reducible show wpAny _ _ (binaryOp Operator.Pow _ _) _ _ _) | (with_reducible show wpAny _ _ (binaryOp Operator.FloorDiv _ _) _ _ _) | (with_reducible show wpAny _ _ (binaryOp Operator.Mod _ _) _ _ _) | (with_reducible show wpAny _ _ (eval (PySem.Expr.ListComp _ _ _ _) _) _ _ _))); first | ((first | (with_reducible show wpAny _ _ _ _ _ _) | (with_reducible show Frag.In _ _ ∧ _) | (with_reducible show FnAt _ _) | (with_reducible show FnAt _ _ ∧ _)); walk1) | (dsimp only; (first | (with_reducible show wpAny _ _ _ _ _ _) | (with_reducible show Frag.In _ _ ∧ _) | (with_reducible show FnAt _ _) | (with_reducible show FnAt _ _ ∧ _)); (fail_if_success (first | walk_at "mine:halt" | (with_reducible show wpAny _ _ (binaryOp Operator.Add (Value.ref _) (Value.ref _)) _ _ _) | (with_reducible show wpAny _ _ (binaryOp Operator.Pow _ _) _ _ _) | (with_reducible show wpAny _ _ (binaryOp Operator.FloorDiv _ _) _ _ _) | (with_reducible show wpAny _ _ (binaryOp Operator.Mod _ _) _ _ _) | (with_reducible show wpAny _ _ (eval (PySem.Expr.ListComp _ _ _ _) _) _ _ _))); walk1)) | fail "no step"))
    clear x1 x2 x3 x4 x5
    rename Fr _ _ _ _ => Fz
    rename (Obj.data _ = Data.cell (some (Value.ref D2))) => dL2
    refine LCg.ListComp_U (F₀ := Fz) (by with_unfolding_all rfl) (by decide) (by rfl) (by decide) (by rfl) ?_
    (repeat' (first | ((fail_if_success (first | walk_at "mine:halt" | (with_reducible show wpAny _ _ (binaryOp Operator.Add (Value.ref _) (Value.ref _)) _ _ _) | (with_reducible show wpAny _ _ (binaryOp Operator.Pow _ _) _ _ _) | (with_reducible show wpAny _ _ (binaryOp Operator.FloorDiv _ _) _ _ _) | (with_reducible show wpAny _ _ (binaryOp Operator.Mod _ _) _ _ _) | (with_reducible show wpAny _ _ (eval (PySem.Expr.ListComp _ _ _ _) _) _ _ _))); first | ((first | (with_reducible show wpAny _ _ _ _ _ _) | (with_reducible show Frag.In _ _ ∧ _) | (with_reducible show FnAt _ _) | (with_reducible show FnAt _ _ ∧ _)); walk1) | (dsimp only; (first | (with_reducible show wpAny _ _ _ _ _ _) | (with_reducible show Frag.In _ _ ∧ _) | (with_reducible show FnAt _ _) | (with_reducible show FnAt _ _ ∧ _)); (fail_if_success (first | walk_at "mine:halt" | (with_reducible show wpAny _ _ (binaryOp Operator.Add (Value.ref _) (Value.ref _)) _ _ _) | (with_reducible show wpAny _ _ (binaryOp Operator.Pow _ _) _ _ _) | (with_reducible show wpAny _ _ (binaryOp Operator.FloorDiv _ _) _ _ _) | (with_reducible show wpAny _ _ (binaryOp Operator.Mod _ _) _ _ _) | (with_reducible show wpAny _ _ (eval (PySem.Expr.ListComp _ _ _ _) _) _ _ _))); walk1)) | fail "no step"))
    rename IsRange _ _ _ _ _ _ _ _ => hR
    rename Fr _ _ _ _ => Fy
    rename News _ _ _ _ => Ny
    refine LCg.CompSrc.range (n := 9) rfl Fy Ny hR (range_small (by decide) (by decide) (by decide) (by decide)) (by rw [range_size]; rfl) (by simp [sizeLine]) ?_
    intro g''
    refine comp_inv (n := 9) (fun i ys => IntsAre ys (restRow f2 u (2 ^ wd) i)) trivial ?_ ?_ 9 0 [] (by omega) .nil
    · clear Fy Ny hR
      ((try ((with_reducible rename Fr _ _ _ _ => Fw); clear Fw)); (try ((with_reducible rename News _ _ _ _ => Nw); clear Nw)); (try ((with_reducible rename Fr _ _ _ _ => Fw); clear Fw)); (try ((with_reducible rename News _ _ _ _ => Nw); clear Nw)))
      rintro i zs hi hzs v I2 oI2 C oC D3 m2 h tk E' ⟨tv, rfl⟩ hC hx F N off ne
      (try replace ne := Hid.mk ne)
      simp only [LCg.Off3, and_true] at off
      (try replace off := Hid.mk off)
      (repeat' (first | ((fail_if_success (first | walk_at "mine:halt" | (with_reducible show wpAny _ _ (binaryOp Operator.Add (Value.ref _) (Value.ref _)) _ _ _) | (with_reducible show wpAny _ _ (binaryOp Operator.Pow _ _) _ _ _) | (with_reducible show wpAny _ _ (binaryOp Operator.FloorDiv _ _) _ _ _) | (with_reducible show wpAny _ _ (binaryOp Operator.Mod _ _) _ _ _) | (with_reducible show wpAny _ _ (eval (PySem.Expr.ListComp _ _ _ _) _) _ _ _))); first | ((first | (with_reducible show wpAny _ _ _ _ _ _) | (with_reducible show Frag.In _ _ ∧ _) | (with_reducible show FnAt _ _) | (with_reducible show FnAt _ _ ∧ _)); walk1) | (dsimp only; (first | (with_reducible show wpAny _ _ _ _ _ _) | (with_reducible show Frag.In _ _ ∧ _) | (with_reducible show FnAt _ _) | (with_reducible show FnAt _ _ ∧ _)); (fail_if_success (first | walk_at "mine:halt" | (with_reducible show wpAny _ _ (binaryOp Operator.Add (Value.ref _) (Value.ref _)) _ _ _) | (with_reducible show wpAny _ _ (binaryOp Operator.Pow _ _) _ _ _) | (with_reducible show wpAny _ _ (binaryOp Operator.FloorDiv _ _) _ _ _) | (with_reducible show wpAny _ _ (binaryOp Operator.Mod _ _) _ _ _) | (with_reducible show wpAny _ _ (eval (PySem.Expr.ListComp _ _ _ _) _) _ _ _))); walk1)) | fail "no step"))
      rw [show (0 : Int) + (i : Int) = ((i : Nat) : Int) by omega]
      have bp := bits_pow hBb i
      refine powI hBa (by omega) fun _ _ => ?_
      (try dsimp only)
      (repeat' (first | ((fail_if_success (first | walk_at "mine:halt" | (with_reducible show wpAny _ _ (binaryOp Operator.Add (Value.ref _) (Value.ref _)) _ _ _) | (with_reducible show wpAny _ _ (binaryOp Operator.Pow _ _) _ _ _) | (with_reducible show wpAny _ _ (binaryOp Operator.FloorDiv _ _) _ _ _) | (with_reducible show wpAny _ _ (binaryOp Operator.Mod _ _) _ _ _) | (with_reducible show wpAny _ _ (eval (PySem.Expr.ListComp _ _ _ _) _) _ _ _))); first | ((first | (with_reducible show wpAny _ _ _ _ _ _) | (with_reducible show Frag.In _ _ ∧ _) | (with_reducible show FnAt _ _) | (with_reducible show FnAt _ _ ∧ _)); walk1) | (dsimp only; (first | (with_reducible show wpAny _ _ _ _ _ _) | (with_reducible show Frag.In _ _ ∧ _) | (with_reducible show FnAt _ _) | (with_reducible show FnAt _ _ ∧ _)); (fail_if_success (first | walk_at "mine:halt" | (with_reducible show wpAny _ _ (binaryOp Operator.Add (Value.ref _) (Value.ref _)) _ _ _) | (with_reducible show wpAny _ _ (binaryOp Operator.Pow _ _) _ _ _) | (with_reducible show wpAny _ _ (binaryOp Operator.FloorDiv _ _) _ _ _) | (with_reducible show wpAny _ _ (binaryOp Operator.Mod _ _) _ _ _) | (with_reducible show wpAny _ _ (eval (PySem.Expr.ListComp _ _ _ _) _) _ _ _))); walk1)) | fail "no step"))
      refine mulI (by omega) fun _ _ => ?_
      (try dsimp only)
      (repeat' (first | ((fail_if_success (first | walk_at "mine:halt" | (with_reducible show wpAny _ _ (binaryOp Operator.Add (Value.ref _) (Value.ref _)) _ _ _) | (with_reducible show wpAny _ _ (binaryOp Operator.Pow _ _) _ _ _) | (with_reducible show wpAny _ _ (binaryOp Operator.FloorDiv _ _) _ _ _) | (with_reducible show wpAny _ _ (binaryOp Operator.Mod _ _) _ _ _) | (with_reducible show wpAny _ _ (eval (PySem.Expr.ListComp _ _ _ _) _) _ _ _))); first | ((first | (with_reducible show wpAny _ _ _ _ _ _) | (with_reducible show Frag.In _ _ ∧ _) | (with_reducible show FnAt _ _) | (with_reducible show FnAt _ _ ∧ _)); walk1) | (dsimp only; (first | (with_reducible show wpAny _ _ _ _ _ _) | (with_reducible show Frag.In _ _ ∧ _) | (with_reducible show FnAt _ _) | (with_reducible show FnAt _ _ ∧ _)); (fail_if_success (first | walk_at "mine:halt" | (with_reducible show wpAny _ _ (binaryOp Operator.Add (Value.ref _) (Value.ref _)) _ _ _) | (with_reducible show wpAny _ _ (binaryOp Operator.Pow _ _) _ _ _) | (with_reducible show wpAny _ _ (binaryOp Operator.FloorDiv _ _) _ _ _) | (with_reducible show wpAny _ _ (binaryOp Operator.Mod _ _) _ _ _) | (with_reducible show wpAny _ _ (eval (PySem.Expr.ListComp _ _ _ _) _) _ _ _))); walk1)) | fail "no step"))
      refine modI hu fun _ _ => ?_
      refine ⟨_, _, rfl, F, N, ?_⟩
      rw [restRow_succ]
      exact ints_append hzs (.cons _ _ .nil)
    · clear Fy Ny hR
      ((try ((with_reducible rename Fr _ _ _ _ => Fw); clear Fw)); (try ((with_reducible rename News _ _ _ _ => Nw); clear Nw)); (try ((with_reducible rename Fr _ _ _ _ => Fw); clear Fw)); (try ((with_reducible rename News _ _ _ _ => Nw); clear Nw)))
      intro zs hzs D3 h tk F8 N8 off
      simp only [LCg.Off1, and_true] at off
      (try replace off := Hid.mk off)
      have kg := offFar off.2
      have z0 : Hid (D2 ≠ D3) := off.1
      have z3 := Hid.mk (kg.1.2.2.2.2.2.2.2.2.2)
      have z6 := Hid.mk ((show FarS l D2 from (show (FarS l D2 ∧ a1 ≠ D2 ∧ a2 ≠ D2) from kf).1).2.2.2.2.2.2.2.2.2)
      replace kg : Hid (FarS l D3 ∧ a1 ≠ D3 ∧ a2 ≠ D3) := kg
      clear off
      (try dsimp only)
      (repeat' (first | ((fail_if_success (first | walk_at "mine:halt" | (with_reducible show wpAny _ _ (binaryOp Operator.Add (Value.ref _) (Value.ref _)) _ _ _) | (with_reducible show wpAny _ _ (binaryOp Operator.Pow _ _) _ _ _) | (with_reducible show wpAny _ _ (binaryOp Operator.FloorDiv _ _) _ _ _) | (with_reducible show wpAny _ _ (binaryOp Operator.Mod _ _) _ _ _) | (with_reducible show wpAny _ _ (eval (PySem.Expr.ListComp _ _ _ _) _) _ _ _))); first | ((first | (with_reducible show wpAny _ _ _ _ _ _) | (with_reducible show Frag.In _ _ ∧ _) | (with_reducible show FnAt _ _) | (with_reducible show FnAt _ _ ∧ _)); walk1) | (dsimp only; (first | (with_reducible show wpAny _ _ _ _ _ _) | (with_reducible show Frag.In _ _ ∧ _) | (with_reducible show FnAt _ _) | (with_reducible show FnAt _ _ ∧ _)); (fail_if_success (first | walk_at "mine:halt" | (with_reducible show wpAny _ _ (binaryOp Operator.Add (Value.ref _) (Value.ref _)) _ _ _) | (with_reducible show wpAny _ _ (binaryOp Operator.Pow _ _) _ _ _) | (with_reducible show wpAny _ _ (binaryOp Operator.FloorDiv _ _) _ _ _) | (with_reducible show wpAny _ _ (binaryOp Operator.Mod _ _) _ _ _) | (with_reducible show wpAny _ _ (eval (PySem.Expr.ListComp _ _ _ _) _) _ _ _))); walk1)) | fail "no step"))
      rename Fr _ _ _ _ => Fz
      rename News _ _ _ _ => Nz
      rename (Obj.data _ = Data.cell (some (Value.ref D3))) => dH2
      have g1 : FarS l D2 ∧ a1 ≠ D2 ∧ a2 ≠ D2 := kf
      have g2 : FarS l D3 ∧ a1 ≠ D3 ∧ a2 ≠ D3 := kg
      exact tail3 w p loose mean mg mb base g l _ fa cd Q E f1 f2 u U wd few tu tB tF tU t1 t2 tq tr tq2 tr2 v1 v2 ys zs a1 a2 D2 D3 e1 e2 _ _ oU oB oF oV o1 o2 _ _ _ _ _ hu bu hUb hfb1 hfb2
        (whole_small hu hub hfb1 hBb (by omega)) (whole_small hu hub hfb2 hBb (by decide)) hw1 hw3 hf3 hf5 hfig hfig2 hys hzs (restRow_small hu hub _) (restRow_small hu hub _) dU dB dF dV d1 d2 dL2 dH2
        (Fr.congr Fz (canon6 rfl rfl rfl rfl rfl rfl)) (news_sub Nz (by k_subL)) lt k1 k2 g1.1 g2.1 ⟨Ne.symm k3, g1.2.1, g2.2.1, trivial⟩ ⟨g1.2.2, g2.2.2, trivial⟩ ⟨z0, trivial⟩ B X T C1 C2 (fun h tk m a b => hQ h tk m a b)

end
section
theorem resetT0 : True := by
  w_top off
  exact trivial






theorem tail0 (w : World) (p : Program) (loose : List Str) (mean : ExcName → Option Value) (mg mb : Str → Option Value) (g : Heap) (l : Addr) (s : Shared) (fa : Addr) (cd : Value) (Q : Flow → Shared → Prop)
    (f1 U : Int) (wd few : Nat) (tu tB tF tU t1 twd : Tok) (oU oB oF oV o1 o2 oL oH : Obj) (um : Str → Option Value)
    (hUb : Builtin.Int.intBits U ≤ 4200) (hfb1 : Builtin.Int.intBits f1 ≤ 5000) (hw1 : 1 ≤ wd) (hw3 : wd ≤ 3) (hf3 : 3 ≤ few) (hf5 : few ≤ 5)
    (dU : oU.data = .cell (some (.int 0 tu))) (dB : oB.data = .cell (some (.int (2 ^ wd) tB))) (dF : oF.data = .cell (some (.int few tF))) (dV : oV.data = .cell (some (.int U tU))) (d1 : o1.data = .cell (some (.int f1 t1)))
    (F : Fr g l s.heap (fun y => if y = Str.ofString "width" then some (.int wd twd) else um y))
    (N : News g l s.heap [(l + 1, oU), (l + 1 + 1, oB), (l + 1 + 1 + 1, oF), (l + 1 + 1 + 1 + 1, oV), (l + 1 + 1 + 1 + 1 + 1, o1), (l + 1 + 1 + 1 + 1 + 1 + 1, o2), (l + 1 + 1 + 1 + 1 + 1 + 1 + 1, oL), (l + 1 + 1 + 1 + 1 + 1 + 1 + 1 + 1, oH), (30, tabObj #[]), (37, tabObj #[])])
    (B : Below callerA g [] g) (X : (hd.heap_39 w.params).In g) (T : Top p loose mean mg mb g) (C1 : CodeHd g 41 37) (C2 : CodeHd g 34 30)
    (hQ : ∀ h tk m, Fr g l h m → GrownAll [(41, 37), (34, 30)] h → Q (.ret (.bool true)) { s with heap := h, toks := tk }) :
    wpAny (model PySem.Challenge.rw_rl0044_01.row.prog w) (callerA.deeper (envOfC (Str.ofString "law") lawParts.2 l fa cd)) (execs (lawParts.1.drop 7) (envOfC (Str.ofString "law") lawParts.2 l fa cd)) Q (fun _ _ => False) s := by
  revert X
  k_fill
  intro X
  generalize hp : lawParts = lp
  conv at hp => lhs; whnf
  subst hp
  simp only [List.drop_succ_cons, List.drop_zero]
  have bm1 := bits_mul f1 U
  have bmu := bits_mul 0 U
  have b0 : Builtin.Int.intBits 0 ≤ 1 := by decide
  (repeat' (first | ((fail_if_success (first | walk_at "mine:halt" | (with_reducible show wpAny _ _ (binaryOp Operator.Pow _ _) _ _ _))); first | ((first | (with_reducible show wpAny _ _ _ _ _ _) | (with_reducible show Frag.In _ _ ∧ _) | (with_reducible show FnAt _ _) | (with_reducible show FnAt _ _ ∧ _)); walk1) | (dsimp only; (first | (with_reducible show wpAny _ _ _ _ _ _) | (with_reducible show Frag.In _ _ ∧ _) | (with_reducible show FnAt _ _) | (with_reducible show FnAt _ _ ∧ _)); (fail_if_success (first | walk_at "mine:halt" | (with_reducible show wpAny _ _ (binaryOp Operator.Pow _ _) _ _ _))); walk1)) | fail "no step"))
  refine wpAny_Try_except ?_
  (repeat' (first | ((fail_if_success (first | walk_at "mine:halt" | (with_reducible show wpAny _ _ (binaryOp Operator.Pow _ _) _ _ _))); first | ((first | (with_reducible show wpAny _ _ _ _ _ _) | (with_reducible show Frag.In _ _ ∧ _) | (with_reducible show FnAt _ _) | (with_reducible show FnAt _ _ ∧ _)); walk1) | (dsimp only; (first | (with_reducible show wpAny _ _ _ _ _ _) | (with_reducible show Frag.In _ _ ∧ _) | (with_reducible show FnAt _ _) | (with_reducible show FnAt _ _ ∧ _)); (fail_if_success (first | walk_at "mine:halt" | (with_reducible show wpAny _ _ (binaryOp Operator.Pow _ _) _ _ _))); walk1)) | fail "no step"))
  refine mulI (by omega) fun _ _ => ?_
  (try dsimp only)
  (repeat' (first | ((fail_if_success (first | walk_at "mine:halt" | (with_reducible show wpAny _ _ (binaryOp Operator.Pow _ _) _ _ _))); first | ((first | (with_reducible show wpAny _ _ _ _ _ _) | (with_reducible show Frag.In _ _ ∧ _) | (with_reducible show FnAt _ _) | (with_reducible show FnAt _ _ ∧ _)); walk1) | (dsimp only; (first | (with_reducible show wpAny _ _ _ _ _ _) | (with_reducible show Frag.In _ _ ∧ _) | (with_reducible show FnAt _ _) | (with_reducible show FnAt _ _ ∧ _)); (fail_if_success (first | walk_at "mine:halt" | (with_reducible show wpAny _ _ (binaryOp Operator.Pow _ _) _ _ _))); walk1)) | fail "no step"))
  refine mulI (by omega) fun _ _ => ?_
  rw [Int.zero_mul]
  (try dsimp only)
  (repeat' (first | ((fail_if_success (first | walk_at "mine:halt" | (with_reducible show wpAny _ _ (binaryOp Operator.Pow _ _) _ _ _))); first | ((first | (with_reducible show wpAny _ _ _ _ _ _) | (with_reducible show Frag.In _ _ ∧ _) | (with_reducible show FnAt _ _) | (with_reducible show FnAt _ _ ∧ _)); walk1) | (dsimp only; (first | (with_reducible show wpAny _ _ _ _ _ _) | (with_reducible show Frag.In _ _ ∧ _) | (with_reducible show FnAt _ _) | (with_reducible show FnAt _ _ ∧ _)); (fail_if_success (first | walk_at "mine:halt" | (with_reducible show wpAny _ _ (binaryOp Operator.Pow _ _) _ _ _))); walk1)) | fail "no step"))
  (repeat' (first | ((fail_if_success (first | (with_reducible show wpAny _ _ (binaryOp Operator.Mult _ _) _ _ _) | (with_reducible show wpAny _ _ (exec (Stmt.Raise _ _ _) _) _ _ _) | (with_reducible show wpAny _ _ (binaryOp Operator.Pow _ _) _ _ _))); first | ((first | (with_reducible show wpAny _ _ _ _ _ _) | (with_reducible show Frag.In _ _ ∧ _) | (with_reducible show FnAt _ _) | (with_reducible show FnAt _ _ ∧ _)); walk1) | (dsimp only; (first | (with_reducible show wpAny _ _ _ _ _ _) | (with_reducible show Frag.In _ _ ∧ _) | (with_reducible show FnAt _ _) | (with_reducible show FnAt _ _ ∧ _)); (fail_if_success (first | (with_reducible show wpAny _ _ (binaryOp Operator.Mult _ _) _ _ _) | (with_reducible show wpAny _ _ (exec (Stmt.Raise _ _ _) _) _ _ _) | (with_reducible show wpAny _ _ (binaryOp Operator.Pow _ _) _ _ _))); walk1)) | fail "no step"))
  have hwn : wd * few ≤ 3 * 5 := Nat.mul_le_mul hw3 hf5
  have bw := bits_small (v := wd) (by omega)
  have bn := bits_small (v := few) (by omega)
  have e1 : (wd : Int) * (few : Int) = ((wd * few : Nat) : Int) := by simp
  have hp : (0 : Int) < 2 ^ (wd * few) := pow_pos2 _
  have bp : Builtin.Int.intBits ((2 : Int) ^ (wd * few)) ≤ 25 := bits_le (Int.le_of_lt hp) (by
    have := Nat.pow_le_pow_right (n := 2) (by decide) hwn
    have e : ∀ j : Nat, (2 : Int) ^ j = ((2 ^ j : Nat) : Int) := fun j => by simp
    rw [e, e]; omega)
  refine mulI (by omega) fun _ _ => ?_
  rw [e1]
  (try dsimp only)
  (repeat' (first | ((fail_if_success (first | (with_reducible show wpAny _ _ (binaryOp Operator.Mult _ _) _ _ _) | (with_reducible show wpAny _ _ (exec (Stmt.Raise _ _ _) _) _ _ _) | (with_reducible show wpAny _ _ (binaryOp Operator.Pow _ _) _ _ _))); first | ((first | (with_reducible show wpAny _ _ _ _ _ _) | (with_reducible show Frag.In _ _ ∧ _) | (with_reducible show FnAt _ _) | (with_reducible show FnAt _ _ ∧ _)); walk1) | (dsimp only; (first | (with_reducible show wpAny _ _ _ _ _ _) | (with_reducible show Frag.In _ _ ∧ _) | (with_reducible show FnAt _ _) | (with_reducible show FnAt _ _ ∧ _)); (fail_if_success (first | (with_reducible show wpAny _ _ (binaryOp Operator.Mult _ _) _ _ _) | (with_reducible show wpAny _ _ (exec (Stmt.Raise _ _ _) _) _ _ _) | (with_reducible show wpAny _ _ (binaryOp Operator.Pow _ _) _ _ _))); walk1)) | fail "no step"))
  refine powI (by decide) (by omega) fun _ _ => ?_
  (try dsimp only)
  (repeat' (first | ((fail_if_success (first | (with_reducible show wpAny _ _ (binaryOp Operator.Mult _ _) _ _ _) | (with_reducible show wpAny _ _ (exec (Stmt.Raise _ _ _) _) _ _ _) | (with_reducible show wpAny _ _ (binaryOp Operator.Pow _ _) _ _ _))); first | ((first | (with_reducible show wpAny _ _ _ _ _ _) | (with_reducible show Frag.In _ _ ∧ _) | (with_reducible show FnAt _ _) | (with_reducible show FnAt _ _ ∧ _)); walk1) | (dsimp only; (first | (with_reducible show wpAny _ _ _ _ _ _) | (with_reducible show Frag.In _ _ ∧ _) | (with_reducible show FnAt _ _) | (with_reducible show FnAt _ _ ∧ _)); (fail_if_success (first | (with_reducible show wpAny _ _ (binaryOp Operator.Mult _ _) _ _ _) | (with_reducible show wpAny _ _ (exec (Stmt.Raise _ _ _) _) _ _ _) | (with_reducible show wpAny _ _ (binaryOp Operator.Pow _ _) _ _ _))); walk1)) | fail "no step"))
  refine mulI (by omega) fun _ _ => ?_
  (try dsimp only)
  (repeat' (first | ((fail_if_success (first | (with_reducible show wpAny _ _ (binaryOp Operator.Mult _ _) _ _ _) | (with_reducible show wpAny _ _ (exec (Stmt.Raise _ _ _) _) _ _ _) | (with_reducible show wpAny _ _ (binaryOp Operator.Pow _ _) _ _ _))); first | ((first | (with_reducible show wpAny _ _ _ _ _ _) | (with_reducible show Frag.In _ _ ∧ _) | (with_reducible show FnAt _ _) | (with_reducible show FnAt _ _ ∧ _)); walk1) | (dsimp only; (first | (with_reducible show wpAny _ _ _ _ _ _) | (with_reducible show Frag.In _ _ ∧ _) | (with_reducible show FnAt _ _) | (with_reducible show FnAt _ _ ∧ _)); (fail_if_success (first | (with_reducible show wpAny _ _ (binaryOp Operator.Mult _ _) _ _ _) | (with_reducible show wpAny _ _ (exec (Stmt.Raise _ _ _) _) _ _ _) | (with_reducible show wpAny _ _ (binaryOp Operator.Pow _ _) _ _ _))); walk1)) | fail "no step"))
  rw [if_pos (by decide)]
  (repeat' (first | ((fail_if_success (first | (with_reducible show wpAny _ _ (binaryOp Operator.Mult _ _) _ _ _) | (with_reducible show wpAny _ _ (exec (Stmt.Raise _ _ _) _) _ _ _) | (with_reducible show wpAny _ _ (binaryOp Operator.Pow _ _) _ _ _))); first | ((first | (with_reducible show wpAny _ _ _ _ _ _) | (with_reducible show Frag.In _ _ ∧ _) | (with_reducible show FnAt _ _) | (with_reducible show FnAt _ _ ∧ _)); walk1) | (dsimp only; (first | (with_reducible show wpAny _ _ _ _ _ _) | (with_reducible show Frag.In _ _ ∧ _) | (with_reducible show FnAt _ _) | (with_reducible show FnAt _ _ ∧ _)); (fail_if_success (first | (with_reducible show wpAny _ _ (binaryOp Operator.Mult _ _) _ _ _) | (with_reducible show wpAny _ _ (exec (Stmt.Raise _ _ _) _) _ _ _) | (with_reducible show wpAny _ _ (binaryOp Operator.Pow _ _) _ _ _))); walk1)) | fail "no step"))
  rename Fr _ _ _ _ => Fz
  k_dflt (refine' Raise_classB ?hh excClass_ZeroDivisionError ?hs (name_B Fz ?k1 ?k2 ?k3 ?k4 ?k5 ⟨rfl, rfl⟩) ?_; (case hh => rfl); (case hs => rw [isSubtype_type]; kernel_rfl); (case k1 => k_asm); (case k2 => k_asm); (case k3 => k_is); (case k4 => exact PyProof.Rows.Boot.«ZeroDivisionError»); (case k5 => decide))
  intro h9 e9 x9
  clear F N
  repeat' walk1
  rename RaisedN _ _ _ _ _ _ => rk
  rename Heap.UpToSlots _ _ => up
  rename Fr g l _ _ => Fg
  k_dflt (refine' caught_X (T' := "ZeroDivisionError") B Fg up rk X (topRead_of T) ?k1 PyProof.Rows.Boot.«ZeroDivisionError» ?k2 PySem.F.isExc_ZeroDivisionError PySem.F.notTuple_ZeroDivisionError ?k3 ?k4 ?k5 ?k6 ?k7 ?_; (case k1 => k_is); (case k2 => decide); (case k3 => rw [isSubtype_type]; kernel_rfl); (case k4 => exact rfl); (case k5 => exact rfl); (case k6 => decide); (case k7 => passes_own))
  clear rk up Fg
  ((try ((with_reducible rename Fr _ _ _ _ => Fw); clear Fw)); (try ((with_reducible rename News _ _ _ _ => Nw); clear Nw)))
  ((try ((with_reducible rename Fr _ _ _ _ => Fw); clear Fw)); (try ((with_reducible rename News _ _ _ _ => Nw); clear Nw)))
  intro h' F N
  (repeat' (first | ((fail_if_success (first | walk_at "mine:halt" | (with_reducible show wpAny _ _ (binaryOp Operator.Pow _ _) _ _ _))); first | ((first | (with_reducible show wpAny _ _ _ _ _ _) | (with_reducible show Frag.In _ _ ∧ _) | (with_reducible show FnAt _ _) | (with_reducible show FnAt _ _ ∧ _)); walk1) | (dsimp only; (first | (with_reducible show wpAny _ _ _ _ _ _) | (with_reducible show Frag.In _ _ ∧ _) | (with_reducible show FnAt _ _) | (with_reducible show FnAt _ _ ∧ _)); (fail_if_success (first | walk_at "mine:halt" | (with_reducible show wpAny _ _ (binaryOp Operator.Pow _ _) _ _ _))); walk1)) | fail "no step"))
  exact hQ _ _ _ F ⟨GrownAt.of N (by k_mem), GrownAt.of N (by k_mem), trivial⟩

end
section
theorem resetL1 : True := by
  w_top off
  exact trivial





theorem pow3 {prog : Program} {w : World} {A : Around} {E Q : Value → Shared → Prop} {s : Shared} {t u : Tok} (h : ∀ P : Int, BigP P → Q (.int P s.toks) { s with toks := s.toks + 1 }) :
    wpAny (model prog w) A (binaryOp .Pow (.int 3 t) (.int 2600 u)) Q E s := pow_int_small (by decide) (by decide) (by decide) (h _ bigP_pow)

theorem mod_two (x : Int) : x.fmod 2 = 0 ∨ x.fmod 2 = 1 := by
  have h1 := Int.fmod_nonneg_of_pos x (b := 2) (by decide)
  have h2 := Int.fmod_lt_of_pos x (b := 2) (by decide)
  omega
theorem mod_nat (x : Int) (k : Nat) (hk : 0 < k) : ∃ c : Nat, x.fmod k + 1 = (c : Int) ∧ 1 ≤ c ∧ c ≤ k := by
  have h1 := Int.fmod_nonneg_of_pos x (b := k) (by omega)
  have h2 := Int.fmod_lt_of_pos x (b := k) (by omega)
  exact ⟨(x.fmod k + 1).toNat, by omega, by omega, by omega⟩
theorem cell_bound {ns : List Int} (i : Nat) (h : ∀ n ∈ ns, 0 ≤ n ∧ n ≤ 64000000) : 0 ≤ ns.getD i 0 ∧ ns.getD i 0 ≤ 64000000 := by
  rw [List.getD_eq_getElem?_getD]
  by_cases hi : i < ns.length
  · rw [List.getElem?_eq_getElem hi]
    exact h _ (List.getElem_mem hi)
  · rw [List.getElem?_eq_none (by omega)]
    exact ⟨by decide, by decide⟩
theorem bits_e {e : Int} (he : e = 0 ∨ e = 1) : Builtin.Int.intBits e + Builtin.Int.intBits 2 ≤ 2 ^ 27 ∧ Builtin.Int.intBits (1 - e * 2) ≤ 2 := by
  have h1 : Builtin.Int.intBits e ≤ 1 := by rcases he with rfl | rfl <;> decide
  have h2 : Builtin.Int.intBits 2 ≤ 2 := by decide
  exact ⟨by omega, by rcases he with rfl | rfl <;> decide⟩
theorem under_small {x e : Int} (he : e = 0 ∨ e = 1) : (x.fmod 25 * (1 - e * 2)).natAbs ≤ 24 := by
  have h1 := Int.fmod_nonneg_of_pos x (b := 25) (by decide)
  have h2 := Int.fmod_lt_of_pos x (b := 25) (by decide)
  rcases he with rfl | rfl <;> omega
theorem mod_bits (x : Int) {k : Int} (h1 : 0 < k) (h2 : k ≤ 250) : Builtin.Int.intBits (x.fmod k) ≤ 8 := by
  have h3 := Int.fmod_nonneg_of_pos x h1
  have h4 := Int.fmod_lt_of_pos x h1
  exact bits_abs (by omega)
theorem top_small (x : Int) : (x.fmod 200 - 100).natAbs ≤ 100 := by
  have h1 := Int.fmod_nonneg_of_pos x (b := 200) (by decide)
  have h2 := Int.fmod_lt_of_pos x (b := 200) (by decide)
  omega
theorem pick2 {a b : Int} {ta tb : Tok} {i : Nat} {v : Value} (hi : i < 2) (hv : (#[Value.int a ta, .int b tb] : Array Value)[i]? = some v) (ha : a.natAbs ≤ 100) (hb : b.natAbs ≤ 100) :
    ∃ t tk, v = .int t tk ∧ [a, b].take (i + 1) = [a, b].take i ++ [t] ∧ t.natAbs ≤ 100 := by
  obtain rfl | rfl : i = 0 ∨ i = 1 := by omega
  · exact ⟨a, ta, (Option.some.inj hv).symm, rfl, ha⟩
  · exact ⟨b, tb, (Option.some.inj hv).symm, rfl, hb⟩
noncomputable def numOf (U u t : Int) : Int := t + (t.fmod 3 - 1) * U * u
theorem numOf_bits {U u t : Int} (hU : Builtin.Int.intBits U ≤ 4200) (hu : u.natAbs ≤ 24) (ht : t.natAbs ≤ 100) :
    Builtin.Int.intBits (t.fmod 3 - 1) ≤ 8 ∧ Builtin.Int.intBits u ≤ 8 ∧ Builtin.Int.intBits ((t.fmod 3 - 1) * U) ≤ 4208 ∧ Builtin.Int.intBits (numOf U u t) ≤ 5000 := by
  have h1 := Int.fmod_nonneg_of_pos t (b := 3) (by decide)
  have h2 := Int.fmod_lt_of_pos t (b := 3) (by decide)
  have b1 : Builtin.Int.intBits (t.fmod 3 - 1) ≤ 8 := bits_abs (by omega)
  have b2 : Builtin.Int.intBits u ≤ 8 := bits_abs (by omega)
  have b3 := bits_mul (t.fmod 3 - 1) U
  have b4 := bits_mul ((t.fmod 3 - 1) * U) u
  refine ⟨b1, b2, by omega, ?_⟩
  exact Nat.le_trans (bits_add t _ 4300 (Nat.le_trans (bits_abs (x := t) (k := 8) (by omega)) (by decide)) (by omega)) (by decide)

theorem post_true1 (l : List Int) : PySem.Challenge.rw_rl0044_01.row.claim.post [ofPy (PyData.list (List.map PyData.int l))] (.bool true) [ofPy (PyData.list (List.map PyData.int l))] = true := by
  kc_post
theorem tail1 (w : World) (p : Program) (loose : List Str) (mean : ExcName → Option Value) (mg mb : Str → Option Value) (g : Heap) (l : Addr) (s : Shared) (fa : Addr) (cd : Value) (Q : Flow → Shared → Prop)
    (x : Addr) (cv : List Value) (et : Nat) (ns : List Int) (um : Str → Option Value) (o1 o2 o3 o4 o5 o6 o7 o8 : Obj) (hcv : IntsAre cv ns) (hnl : ns.length = 6) (hns : ∀ n ∈ ns, 0 ≤ n ∧ n ≤ 64000000)
    (d1 : o1.data = .cell none) (d2 : o2.data = .cell none) (d3 : o3.data = .cell none) (d4 : o4.data = .cell none) (d5 : o5.data = .cell none) (d6 : o6.data = .cell none) (d7 : o7.data = .cell none) (d8 : o8.data = .cell none)
    (D : Hid (x ≠ l + 1 + 1 + 1 + 1 + 1 + 1 + 1 + 1 ∧ x ≠ l + 1 + 1 + 1 + 1 + 1 + 1 + 1 ∧ x ≠ l + 1 + 1 + 1 + 1 + 1 + 1 ∧ x ≠ l + 1 + 1 + 1 + 1 + 1 ∧ x ≠ l + 1 + 1 + 1 + 1 ∧ x ≠ l + 1 + 1 + 1 ∧ x ≠ l + 1 + 1 ∧ x ≠ l + 1 ∧ x ≠ 37 ∧ x ≠ 30)) (l0 : 37 < l ∧ 30 < l)
    (F : Fr g l s.heap (fun y => if y = Str.ofString "cells" then some (.ref x) else um y)) (N : News g l s.heap [(x, listOf cv.toArray et), (l + 1 + 1 + 1 + 1 + 1 + 1 + 1 + 1, o8), (l + 1 + 1 + 1 + 1 + 1 + 1 + 1, o7), (l + 1 + 1 + 1 + 1 + 1 + 1, o6), (l + 1 + 1 + 1 + 1 + 1, o5), (l + 1 + 1 + 1 + 1, o4), (l + 1 + 1 + 1, o3), (l + 1 + 1, o2), (l + 1, o1), (37, tabObj #[]), (30, tabObj #[])])
    (B : Below callerA g [] g) (X : (hd.heap_39 w.params).In g) (T : Top p loose mean mg mb g) (C1 : CodeHd g 41 37) (C2 : CodeHd g 34 30)
    (hQ : ∀ h tk m, Fr g l h m → GrownAll [(41, 37), (34, 30)] h → Q (.ret (.bool true)) { s with heap := h, toks := tk }) :
    wpAny (model PySem.Challenge.rw_rl0044_01.row.prog w) (callerA.deeper (envOfC (Str.ofString "law") lawParts.2 l fa cd)) (execs (lawParts.1.drop 1) (envOfC (Str.ofString "law") lawParts.2 l fa cd)) Q (fun _ _ => False) s := by
  revert X
  k_fill
  intro X
  generalize hp : lawParts = lp
  conv at hp => lhs; whnf
  subst hp
  simp only [List.drop_succ_cons, List.drop_zero]
  (try dsimp only)
  (repeat' (first | ((fail_if_success (first | walk_at "mine:halt" | (with_reducible show wpAny _ _ (binaryOp Operator.FloorDiv _ _) _ _ _) | (with_reducible show wpAny _ _ (binaryOp Operator.Pow _ _) _ _ _) | (with_reducible show wpAny _ _ (eval (PySem.Expr.ListComp _ _ _ _) _) _ _ _) | (with_reducible show wpAny _ _ (execs (Stmt.Try _ _ _ _ _ :: _) _) _ _ _))); first | ((first | (with_reducible show wpAny _ _ _ _ _ _) | (with_reducible show Frag.In _ _ ∧ _) | (with_reducible show FnAt _ _) | (with_reducible show FnAt _ _ ∧ _)); walk1) | (dsimp only; (first | (with_reducible show wpAny _ _ _ _ _ _) | (with_reducible show Frag.In _ _ ∧ _) | (with_reducible show FnAt _ _) | (with_reducible show FnAt _ _ ∧ _)); (fail_if_success (first | walk_at "mine:halt" | (with_reducible show wpAny _ _ (binaryOp Operator.FloorDiv _ _) _ _ _) | (with_reducible show wpAny _ _ (binaryOp Operator.Pow _ _) _ _ _) | (with_reducible show wpAny _ _ (eval (PySem.Expr.ListComp _ _ _ _) _) _ _ _) | (with_reducible show wpAny _ _ (execs (Stmt.Try _ _ _ _ _ :: _) _) _ _ _))); walk1)) | fail "no step"))
  have he := mod_two (ns.getD (Int.toNat 4) 0)
  obtain ⟨hb1, hb2⟩ := bits_e he
  have hb3 := mod_bits (ns.getD (Int.toNat 0) 0) (k := 25) (by decide) (by decide)
  have hub := under_small (x := ns.getD (Int.toNat 0) 0) he
  refine mulI hb1 fun _ _ => ?_
  (try dsimp only)
  (repeat' (first | ((fail_if_success (first | walk_at "mine:halt" | (with_reducible show wpAny _ _ (binaryOp Operator.FloorDiv _ _) _ _ _) | (with_reducible show wpAny _ _ (binaryOp Operator.Pow _ _) _ _ _) | (with_reducible show wpAny _ _ (eval (PySem.Expr.ListComp _ _ _ _) _) _ _ _) | (with_reducible show wpAny _ _ (execs (Stmt.Try _ _ _ _ _ :: _) _) _ _ _))); first | ((first | (with_reducible show wpAny _ _ _ _ _ _) | (with_reducible show Frag.In _ _ ∧ _) | (with_reducible show FnAt _ _) | (with_reducible show FnAt _ _ ∧ _)); walk1) | (dsimp only; (first | (with_reducible show wpAny _ _ _ _ _ _) | (with_reducible show Frag.In _ _ ∧ _) | (with_reducible show FnAt _ _) | (with_reducible show FnAt _ _ ∧ _)); (fail_if_success (first | walk_at "mine:halt" | (with_reducible show wpAny _ _ (binaryOp Operator.FloorDiv _ _) _ _ _) | (with_reducible show wpAny _ _ (binaryOp Operator.Pow _ _) _ _ _) | (with_reducible show wpAny _ _ (eval (PySem.Expr.ListComp _ _ _ _) _) _ _ _) | (with_reducible show wpAny _ _ (execs (Stmt.Try _ _ _ _ _ :: _) _) _ _ _))); walk1)) | fail "no step"))
  refine mulI (by omega) fun _ _ => ?_
  generalize (ns.getD (Int.toNat 0) 0).fmod 25 * (1 - (ns.getD (Int.toNat 4) 0).fmod 2 * 2) = u at *
  clear he hb1 hb2 hb3
  (try dsimp only)
  (repeat' (first | ((fail_if_success (first | walk_at "mine:halt" | (with_reducible show wpAny _ _ (binaryOp Operator.FloorDiv _ _) _ _ _) | (with_reducible show wpAny _ _ (binaryOp Operator.Pow _ _) _ _ _) | (with_reducible show wpAny _ _ (eval (PySem.Expr.ListComp _ _ _ _) _) _ _ _) | (with_reducible show wpAny _ _ (execs (Stmt.Try _ _ _ _ _ :: _) _) _ _ _))); first | ((first | (with_reducible show wpAny _ _ _ _ _ _) | (with_reducible show Frag.In _ _ ∧ _) | (with_reducible show FnAt _ _) | (with_reducible show FnAt _ _ ∧ _)); walk1) | (dsimp only; (first | (with_reducible show wpAny _ _ _ _ _ _) | (with_reducible show Frag.In _ _ ∧ _) | (with_reducible show FnAt _ _) | (with_reducible show FnAt _ _ ∧ _)); (fail_if_success (first | walk_at "mine:halt" | (with_reducible show wpAny _ _ (binaryOp Operator.FloorDiv _ _) _ _ _) | (with_reducible show wpAny _ _ (binaryOp Operator.Pow _ _) _ _ _) | (with_reducible show wpAny _ _ (eval (PySem.Expr.ListComp _ _ _ _) _) _ _ _) | (with_reducible show wpAny _ _ (execs (Stmt.Try _ _ _ _ _ :: _) _) _ _ _))); walk1)) | fail "no step"))
  obtain ⟨wd, ewd, hw1, hw3⟩ := mod_nat (ns.getD (Int.toNat 1) 0) 3 (by decide)
  replace ewd : (ns.getD (Int.toNat 1) 0).fmod 3 + 1 = (wd : Int) := ewd
  rename Fr _ _ _ _ => Fz
  rw [ewd] at Fz
  rw [ewd]
  refine powI (by decide) (by omega) fun _ _ => ?_
  (try dsimp only)
  (repeat' (first | ((fail_if_success (first | walk_at "mine:halt" | (with_reducible show wpAny _ _ (binaryOp Operator.FloorDiv _ _) _ _ _) | (with_reducible show wpAny _ _ (binaryOp Operator.Pow _ _) _ _ _) | (with_reducible show wpAny _ _ (eval (PySem.Expr.ListComp _ _ _ _) _) _ _ _) | (with_reducible show wpAny _ _ (execs (Stmt.Try _ _ _ _ _ :: _) _) _ _ _))); first | ((first | (with_reducible show wpAny _ _ _ _ _ _) | (with_reducible show Frag.In _ _ ∧ _) | (with_reducible show FnAt _ _) | (with_reducible show FnAt _ _ ∧ _)); walk1) | (dsimp only; (first | (with_reducible show wpAny _ _ _ _ _ _) | (with_reducible show Frag.In _ _ ∧ _) | (with_reducible show FnAt _ _) | (with_reducible show FnAt _ _ ∧ _)); (fail_if_success (first | walk_at "mine:halt" | (with_reducible show wpAny _ _ (binaryOp Operator.FloorDiv _ _) _ _ _) | (with_reducible show wpAny _ _ (binaryOp Operator.Pow _ _) _ _ _) | (with_reducible show wpAny _ _ (eval (PySem.Expr.ListComp _ _ _ _) _) _ _ _) | (with_reducible show wpAny _ _ (execs (Stmt.Try _ _ _ _ _ :: _) _) _ _ _))); walk1)) | fail "no step"))
  refine floordiv_int (by decide) ?_ (.inl (PyProof.noPylong_small (by decide)))
  (repeat' (first | ((fail_if_success (first | walk_at "mine:halt" | (with_reducible show wpAny _ _ (binaryOp Operator.FloorDiv _ _) _ _ _) | (with_reducible show wpAny _ _ (binaryOp Operator.Pow _ _) _ _ _) | (with_reducible show wpAny _ _ (eval (PySem.Expr.ListComp _ _ _ _) _) _ _ _) | (with_reducible show wpAny _ _ (execs (Stmt.Try _ _ _ _ _ :: _) _) _ _ _))); first | ((first | (with_reducible show wpAny _ _ _ _ _ _) | (with_reducible show Frag.In _ _ ∧ _) | (with_reducible show FnAt _ _) | (with_reducible show FnAt _ _ ∧ _)); walk1) | (dsimp only; (first | (with_reducible show wpAny _ _ _ _ _ _) | (with_reducible show Frag.In _ _ ∧ _) | (with_reducible show FnAt _ _) | (with_reducible show FnAt _ _ ∧ _)); (fail_if_success (first | walk_at "mine:halt" | (with_reducible show wpAny _ _ (binaryOp Operator.FloorDiv _ _) _ _ _) | (with_reducible show wpAny _ _ (binaryOp Operator.Pow _ _) _ _ _) | (with_reducible show wpAny _ _ (eval (PySem.Expr.ListComp _ _ _ _) _) _ _ _) | (with_reducible show wpAny _ _ (execs (Stmt.Try _ _ _ _ _ :: _) _) _ _ _))); walk1)) | fail "no step"))
  refine pow3 fun P hP => ?_
  (try dsimp only)
  (repeat' (first | ((fail_if_success (first | walk_at "mine:halt" | (with_reducible show wpAny _ _ (binaryOp Operator.FloorDiv _ _) _ _ _) | (with_reducible show wpAny _ _ (binaryOp Operator.Pow _ _) _ _ _) | (with_reducible show wpAny _ _ (eval (PySem.Expr.ListComp _ _ _ _) _) _ _ _) | (with_reducible show wpAny _ _ (execs (Stmt.Try _ _ _ _ _ :: _) _) _ _ _))); first | ((first | (with_reducible show wpAny _ _ _ _ _ _) | (with_reducible show Frag.In _ _ ∧ _) | (with_reducible show FnAt _ _) | (with_reducible show FnAt _ _ ∧ _)); walk1) | (dsimp only; (first | (with_reducible show wpAny _ _ _ _ _ _) | (with_reducible show Frag.In _ _ ∧ _) | (with_reducible show FnAt _ _) | (with_reducible show FnAt _ _ ∧ _)); (fail_if_success (first | walk_at "mine:halt" | (with_reducible show wpAny _ _ (binaryOp Operator.FloorDiv _ _) _ _ _) | (with_reducible show wpAny _ _ (binaryOp Operator.Pow _ _) _ _ _) | (with_reducible show wpAny _ _ (eval (PySem.Expr.ListComp _ _ _ _) _) _ _ _) | (with_reducible show wpAny _ _ (execs (Stmt.Try _ _ _ _ _ :: _) _) _ _ _))); walk1)) | fail "no step"))
  have hcb := cell_bound (Int.toNat 5) hns
  have hU := unit_ok hP hcb.1 hcb.2
  have hUk : UnitK (P + ns.getD (Int.toNat 5) 0) := hU.1
  have hUp := hU.2
  clear hU hP
  generalize P + ns.getD (Int.toNat 5) 0 = U at *
  rename Fr _ _ _ _ => Fz
  refine LCg.ListComp_U (F₀ := Fz) (by with_unfolding_all rfl) (by decide) (by rfl) (by decide) (by rfl) ?_
  (repeat' (first | ((fail_if_success (first | walk_at "mine:halt" | (with_reducible show wpAny _ _ (binaryOp Operator.FloorDiv _ _) _ _ _) | (with_reducible show wpAny _ _ (binaryOp Operator.Pow _ _) _ _ _) | (with_reducible show wpAny _ _ (eval (PySem.Expr.ListComp _ _ _ _) _) _ _ _) | (with_reducible show wpAny _ _ (execs (Stmt.Try _ _ _ _ _ :: _) _) _ _ _))); first | ((first | (with_reducible show wpAny _ _ _ _ _ _) | (with_reducible show Frag.In _ _ ∧ _) | (with_reducible show FnAt _ _) | (with_reducible show FnAt _ _ ∧ _)); walk1) | (dsimp only; (first | (with_reducible show wpAny _ _ _ _ _ _) | (with_reducible show Frag.In _ _ ∧ _) | (with_reducible show FnAt _ _) | (with_reducible show FnAt _ _ ∧ _)); (fail_if_success (first | walk_at "mine:halt" | (with_reducible show wpAny _ _ (binaryOp Operator.FloorDiv _ _) _ _ _) | (with_reducible show wpAny _ _ (binaryOp Operator.Pow _ _) _ _ _) | (with_reducible show wpAny _ _ (eval (PySem.Expr.ListComp _ _ _ _) _) _ _ _) | (with_reducible show wpAny _ _ (execs (Stmt.Try _ _ _ _ _ :: _) _) _ _ _))); walk1)) | fail "no step"))
  rename Fr _ _ _ _ => Fy
  rename News _ _ _ _ => Ny
  refine LCg.CompSrc.ledger rfl Fy Ny (List.mem_cons_self ..) (by simp [sizeLine]) ?_
  intro g'
  refine comp_inv (n := 2) (fun i ys => IntsAre ys (([(ns.getD (Int.toNat 2) 0).fmod 200 - 100, (ns.getD (Int.toNat 3) 0).fmod 200 - 100].take i).map (numOf U u))) (.inr ⟨_, List.mem_cons_self .., rfl, _, rfl⟩) ?_ ?_ 2 0 [] (by omega) .nil
  · clear Fy Ny
    rintro i ys hi hys v I2 oI2 C oC D2 m2 h tk E' hv hC hx F N off ne
    (try replace ne := Hid.mk ne)
    obtain ⟨t, tt, rfl, ht1, ht2⟩ := pick2 hi hv (top_small _) (top_small _)
    obtain ⟨nb1, nb2, nb3, nb4⟩ := numOf_bits hUk.2 hub ht2
    have hUb := hUk.2
    simp only [LCg.Off3, and_true] at off
    (try replace off := Hid.mk off)
    (repeat' (first | ((fail_if_success (first | walk_at "mine:halt" | (with_reducible show wpAny _ _ (binaryOp Operator.FloorDiv _ _) _ _ _) | (with_reducible show wpAny _ _ (binaryOp Operator.Pow _ _) _ _ _) | (with_reducible show wpAny _ _ (eval (PySem.Expr.ListComp _ _ _ _) _) _ _ _) | (with_reducible show wpAny _ _ (execs (Stmt.Try _ _ _ _ _ :: _) _) _ _ _))); first | ((first | (with_reducible show wpAny _ _ _ _ _ _) | (with_reducible show Frag.In _ _ ∧ _) | (with_reducible show FnAt _ _) | (with_reducible show FnAt _ _ ∧ _)); walk1) | (dsimp only; (first | (with_reducible show wpAny _ _ _ _ _ _) | (with_reducible show Frag.In _ _ ∧ _) | (with_reducible show FnAt _ _) | (with_reducible show FnAt _ _ ∧ _)); (fail_if_success (first | walk_at "mine:halt" | (with_reducible show wpAny _ _ (binaryOp Operator.FloorDiv _ _) _ _ _) | (with_reducible show wpAny _ _ (binaryOp Operator.Pow _ _) _ _ _) | (with_reducible show wpAny _ _ (eval (PySem.Expr.ListComp _ _ _ _) _) _ _ _) | (with_reducible show wpAny _ _ (execs (Stmt.Try _ _ _ _ _ :: _) _) _ _ _))); walk1)) | fail "no step"))
    refine mulI (by omega) fun _ _ => ?_
    (try dsimp only)
    (repeat' (first | ((fail_if_success (first | walk_at "mine:halt" | (with_reducible show wpAny _ _ (binaryOp Operator.FloorDiv _ _) _ _ _) | (with_reducible show wpAny _ _ (binaryOp Operator.Pow _ _) _ _ _) | (with_reducible show wpAny _ _ (eval (PySem.Expr.ListComp _ _ _ _) _) _ _ _) | (with_reducible show wpAny _ _ (execs (Stmt.Try _ _ _ _ _ :: _) _) _ _ _))); first | ((first | (with_reducible show wpAny _ _ _ _ _ _) | (with_reducible show Frag.In _ _ ∧ _) | (with_reducible show FnAt _ _) | (with_reducible show FnAt _ _ ∧ _)); walk1) | (dsimp only; (first | (with_reducible show wpAny _ _ _ _ _ _) | (with_reducible show Frag.In _ _ ∧ _) | (with_reducible show FnAt _ _) | (with_reducible show FnAt _ _ ∧ _)); (fail_if_success (first | walk_at "mine:halt" | (with_reducible show wpAny _ _ (binaryOp Operator.FloorDiv _ _) _ _ _) | (with_reducible show wpAny _ _ (binaryOp Operator.Pow _ _) _ _ _) | (with_reducible show wpAny _ _ (eval (PySem.Expr.ListComp _ _ _ _) _) _ _ _) | (with_reducible show wpAny _ _ (execs (Stmt.Try _ _ _ _ _ :: _) _) _ _ _))); walk1)) | fail "no step"))
    refine mulI (by omega) fun _ _ => ?_
    (try dsimp only)
    (repeat' (first | ((fail_if_success (first | walk_at "mine:halt" | (with_reducible show wpAny _ _ (binaryOp Operator.FloorDiv _ _) _ _ _) | (with_reducible show wpAny _ _ (binaryOp Operator.Pow _ _) _ _ _) | (with_reducible show wpAny _ _ (eval (PySem.Expr.ListComp _ _ _ _) _) _ _ _) | (with_reducible show wpAny _ _ (execs (Stmt.Try _ _ _ _ _ :: _) _) _ _ _))); first | ((first | (with_reducible show wpAny _ _ _ _ _ _) | (with_reducible show Frag.In _ _ ∧ _) | (with_reducible show FnAt _ _) | (with_reducible show FnAt _ _ ∧ _)); walk1) | (dsimp only; (first | (with_reducible show wpAny _ _ _ _ _ _) | (with_reducible show Frag.In _ _ ∧ _) | (with_reducible show FnAt _ _) | (with_reducible show FnAt _ _ ∧ _)); (fail_if_success (first | walk_at "mine:halt" | (with_reducible show wpAny _ _ (binaryOp Operator.FloorDiv _ _) _ _ _) | (with_reducible show wpAny _ _ (binaryOp Operator.Pow _ _) _ _ _) | (with_reducible show wpAny _ _ (eval (PySem.Expr.ListComp _ _ _ _) _) _ _ _) | (with_reducible show wpAny _ _ (execs (Stmt.Try _ _ _ _ _ :: _) _) _ _ _))); walk1)) | fail "no step"))
    refine ⟨_, _, rfl, F, N, ?_⟩
    rw [ht1, List.map_append]
    exact ints_append hys (.cons _ _ .nil)
  · clear Fy Ny
    intro ys hys D2 h tk F8 N8 off
    simp only [LCg.Off1, and_true] at off
    (try replace off := Hid.mk off)
    have hys2 : IntsAre ys [numOf U u ((ns.getD (Int.toNat 2) 0).fmod 200 - 100), numOf U u ((ns.getD (Int.toNat 3) 0).fmod 200 - 100)] := hys
    have nf1 := (numOf_bits hUk.2 hub (top_small (ns.getD (Int.toNat 2) 0))).2.2.2
    have nf2 := (numOf_bits hUk.2 hub (top_small (ns.getD (Int.toNat 3) 0))).2.2.2
    clear hys
    generalize numOf U u ((ns.getD (Int.toNat 2) 0).fmod 200 - 100) = f1 at *
    generalize numOf U u ((ns.getD (Int.toNat 3) 0).fmod 200 - 100) = f2 at *
    obtain ⟨y1, y2, rfl⟩ : ∃ y1 y2, ys = [.int f1 y1, .int f2 y2] := by
      cases hys2 with
      | cons _ t1 h => cases h with
        | cons _ t2 h => cases h; exact ⟨t1, t2, rfl⟩
    have q1 := off.2.2.2.2.1
    have q2 := off.2.2.2.2.2.1
    have q3 := D.2.2.1
    have q4 := D.2.2.2.1
    have koff : Hid (_ ∧ _) := off
    have kD : Hid (_ ∧ _) := D
    clear off D
    (try dsimp only)
    (repeat' (first | ((fail_if_success (first | walk_at "mine:halt" | (with_reducible show wpAny _ _ (binaryOp Operator.FloorDiv _ _) _ _ _) | (with_reducible show wpAny _ _ (binaryOp Operator.Pow _ _) _ _ _) | (with_reducible show wpAny _ _ (eval (PySem.Expr.ListComp _ _ _ _) _) _ _ _) | (with_reducible show wpAny _ _ (execs (Stmt.Try _ _ _ _ _ :: _) _) _ _ _))); first | ((first | (with_reducible show wpAny _ _ _ _ _ _) | (with_reducible show Frag.In _ _ ∧ _) | (with_reducible show FnAt _ _) | (with_reducible show FnAt _ _ ∧ _)); walk1) | (dsimp only; (first | (with_reducible show wpAny _ _ _ _ _ _) | (with_reducible show Frag.In _ _ ∧ _) | (with_reducible show FnAt _ _) | (with_reducible show FnAt _ _ ∧ _)); (fail_if_success (first | walk_at "mine:halt" | (with_reducible show wpAny _ _ (binaryOp Operator.FloorDiv _ _) _ _ _) | (with_reducible show wpAny _ _ (binaryOp Operator.Pow _ _) _ _ _) | (with_reducible show wpAny _ _ (eval (PySem.Expr.ListComp _ _ _ _) _) _ _ _) | (with_reducible show wpAny _ _ (execs (Stmt.Try _ _ _ _ _ :: _) _) _ _ _))); walk1)) | fail "no step"))
    obtain ⟨k, ek, hk1, hk3⟩ := mod_nat ((ns.getD (Int.toNat 4) 0).fdiv 2) 3 (by decide)
    replace ek : ((ns.getD (Int.toNat 4) 0).fdiv 2).fmod 3 + 1 = (k : Int) := ek
    have efew : ((ns.getD (Int.toNat 4) 0).fdiv 2).fmod 3 + 3 = ((k + 2 : Nat) : Int) := by clear q1 q2 q3 q4; omega
    rename (Obj.data _ = Data.cell (some (Value.int (_ + 3) _))) => dF
    rw [efew] at dF
    rename (Obj.data _ = Data.cell (some (Value.int u _))) => dU
    rename (Obj.data _ = Data.cell (some (Value.int (2 ^ wd) _))) => dB
    rename (Obj.data _ = Data.cell (some (Value.int U _))) => dV
    rename (Obj.data _ = Data.cell (some (Value.int f1 _))) => dX
    rename (Obj.data _ = Data.cell (some (Value.int f2 _))) => dY
    clear q1 q2 q3 q4 koff kD
    rename Fr _ _ _ _ => Fz
    rename News _ _ _ _ => Nz
    have lt := l0.1
    have hf3 : 3 ≤ k + 2 := by omega
    have hf5 : k + 2 ≤ 5 := by omega
    generalize k + 2 = few at *
    by_cases hu : u = 0
    · subst hu
      refine wpAny_mono (tail0 _ _ _ _ _ _ _ _ _ _ _ _ f1 U wd few _ _ _ _ _ _ _ _ _ _ _ _ _ _ _ hUk.2 nf1 hw1 hw3 hf3 hf5 dU dB dF dV dX (Fr.congr Fz (canon1 rfl)) (news_sub Nz (by k_subL)) B X T C1 C2 ?_) (fun _ _ z => z) (fun _ _ z => z.elim)
      exact fun h tk m a b => hQ h tk m a b
    · skip
      refine tail2 _ _ _ _ _ _ _ _ _ _ _ _ _ _ f1 f2 u U wd few _ _ _ _ _ _ _ _ _ _ _ _ _ _ _ _ _ _ hu hub hUk hUp nf1 nf2 hw1 hw3 hf3 hf5 dU dB dF dV dX dY d7 d8 (Fr.congr Fz (canon1 rfl)) (news_sub Nz (by k_subL)) lt B X T C1 C2 ?_
      exact fun h tk m a b => hQ h tk m a b

theorem body1 : PySem.Challenge.rw_rl0044_01.Holds := hd (by
  k_go0
  (all_goals try k_fold)
  rename_i h₁ tk₁ o8 o7 o6 o5 o4 o3 o2 o1 d8 d7 d6 d5 d4 d3 d2 d1 X0 X T B F cd1 N l0
  replace d8 : o8.data = .cell none := d8
  replace d7 : o7.data = .cell none := d7
  replace d6 : o6.data = .cell none := d6
  replace d5 : o5.data = .cell none := d5
  replace d4 : o4.data = .cell none := d4
  replace d3 : o3.data = .cell none := d3
  replace d2 : o2.data = .cell none := d2
  replace d1 : o1.data = .cell none := d1
  clear X0
  rename CodeHd _ ((34 : Nat), (30 : Nat)).1 _ => C2
  rename CodeHd _ ((41 : Nat), (37 : Nat)).1 _ => C1
  rename IntsAre _ _ => hI
  rename (¬ (_ : Int) < ((_ : List Int).length : Int)) => hlen
  (repeat' (first | ((fail_if_success (first | walk_at "mine:halt" | (with_reducible show wpAny _ _ (binaryOp Operator.FloorDiv _ _) _ _ _) | (with_reducible show wpAny _ _ (binaryOp Operator.Pow _ _) _ _ _) | (with_reducible show wpAny _ _ (eval (PySem.Expr.ListComp _ _ _ _) _) _ _ _) | (with_reducible show wpAny _ _ (execs (Stmt.Try _ _ _ _ _ :: _) _) _ _ _))); first | ((first | (with_reducible show wpAny _ _ _ _ _ _) | (with_reducible show Frag.In _ _ ∧ _) | (with_reducible show FnAt _ _) | (with_reducible show FnAt _ _ ∧ _)); walk1) | (dsimp only; (first | (with_reducible show wpAny _ _ _ _ _ _) | (with_reducible show Frag.In _ _ ∧ _) | (with_reducible show FnAt _ _) | (with_reducible show FnAt _ _ ∧ _)); (fail_if_success (first | walk_at "mine:halt" | (with_reducible show wpAny _ _ (binaryOp Operator.FloorDiv _ _) _ _ _) | (with_reducible show wpAny _ _ (binaryOp Operator.Pow _ _) _ _ _) | (with_reducible show wpAny _ _ (eval (PySem.Expr.ListComp _ _ _ _) _) _ _ _) | (with_reducible show wpAny _ _ (execs (Stmt.Try _ _ _ _ _ :: _) _) _ _ _))); walk1)) | fail "no step"))
  rename Fr _ _ _ _ => F
  rename News _ _ _ _ => N
  refine (law_cells _ _ _ _ hI (by omega)).use B F X N lifted T C1 C2 rfl (by decide) (by decide) ?_
  clear F N
  rintro r post h' tk' F N D ⟨x, cv, et, ns, rfl, rfl, hcv, hnl, hns⟩
  simp only [List.cons_append, List.nil_append] at N
  simp only [ApartL, AllNe, and_true] at D
  (try replace D := Hid.mk D)
  (try dsimp only)
  (repeat' (first | ((fail_if_success (with_reducible show wpAny _ _ (execs (Stmt.Assign [PySem.Expr.Name (Str.ofString "under") _] _ _ :: _) _) _ _ _)); (fail_if_success (first | walk_at "mine:halt" | (with_reducible show wpAny _ _ (binaryOp Operator.FloorDiv _ _) _ _ _) | (with_reducible show wpAny _ _ (binaryOp Operator.Pow _ _) _ _ _) | (with_reducible show wpAny _ _ (eval (PySem.Expr.ListComp _ _ _ _) _) _ _ _) | (with_reducible show wpAny _ _ (execs (Stmt.Try _ _ _ _ _ :: _) _) _ _ _))); first | ((first | (with_reducible show wpAny _ _ _ _ _ _) | (with_reducible show Frag.In _ _ ∧ _) | (with_reducible show FnAt _ _) | (with_reducible show FnAt _ _ ∧ _)); walk1) | (dsimp only; (first | (with_reducible show wpAny _ _ _ _ _ _) | (with_reducible show Frag.In _ _ ∧ _) | (with_reducible show FnAt _ _) | (with_reducible show FnAt _ _ ∧ _)); (fail_if_success (with_reducible show wpAny _ _ (execs (Stmt.Assign [PySem.Expr.Name (Str.ofString "under") _] _ _ :: _) _) _ _ _)); (fail_if_success (first | walk_at "mine:halt" | (with_reducible show wpAny _ _ (binaryOp Operator.FloorDiv _ _) _ _ _) | (with_reducible show wpAny _ _ (binaryOp Operator.Pow _ _) _ _ _) | (with_reducible show wpAny _ _ (eval (PySem.Expr.ListComp _ _ _ _) _) _ _ _) | (with_reducible show wpAny _ _ (execs (Stmt.Try _ _ _ _ _ :: _) _) _ _ _))); walk1)) | fail "no step"))
  rename Fr _ _ _ _ => F
  rename News _ _ _ _ => N
  refine wpAny_mono (tail1 _ _ _ _ _ _ _ _ _ _ _ _ x cv et ns _ o1 o2 o3 o4 o5 o6 o7 o8 hcv hnl hns d1 d2 d3 d4 d5 d6 d7 d8 D l0 (Fr.congr F (canon1 rfl)) N B X T C1 C2 ?_) (fun _ _ z => z) (fun _ _ z => z.elim)
  intro h tk m F' hG
  refine ⟨goodW_bool F' (by with_reducible assumption) (raisesW_false ?_) ?_, hG⟩
  · wrow_none_raised
  exact post_true1 _)

end
end Mine
set_option maxHeartbeats 4000000 in
theorem PySem.Challenge.cw_rl0044_01_holds : PySem.Challenge.rw_rl0044_01.Holds := by
  exact Mine.body1
