import PyProof.Rows.All
import Wide.All
import OpenK.AllK
import Wide.FinOn
import PySem.Challenge.RW_qh0087_01
open PySem PySem.W PyProof.Rows PySem.Calls PySem.Spec
set_option Elab.async false
set_option compiler.extract_closed false
set_option maxRecDepth 100000
set_option rowWalk.seconds 0
namespace Mine
set_option maxHeartbeats 8000000 in
open_top hd for PySem.Challenge.rw_qh0087_01

/-- the end of a called def: what it hands back, and the caller's heap stands -/
def EndOf (g : Heap) (s₀ : Shared) (P : Value → Prop) (v : Value) (s' : Shared) : Prop :=
  P v ∧ ∃ L' m' h' tk', Fr g L' h' m' ∧ s' = { s₀ with heap := h', toks := tk' }
theorem EndOf.intro {g : Heap} {s₀ : Shared} {P : Value → Prop} {v : Value} {L' : Addr} {m' : Str → Option Value} {h' : Heap} {tk' : Nat} (F : Fr g L' h' m') (hp : P v) :
    EndOf g s₀ P v { s₀ with heap := h', toks := tk' } := ⟨hp, L', m', h', tk', F, rfl⟩

/-- a contract: f called so hands back a value with P, whatever the caller; k defs deep -/
def Tell (k : Nat) (f : Addr) (vs : List Value) (kw : List (Str × Value)) (P : Value → Prop) : Prop :=
  ∀ (prog : Program) (w : World) (p : Program) (loose : List Str) (mean : ExcName → Option Value) (mg mb : Str → Option Value)
    (dp un : Nat) (gd : Option (List Code)) (cn : Str) (cs : Scope) (a : Addr) (ccd : Value) (cl : List (Str × Addr)) (outer : List Env) (A₀ : Around) (base h₀ : Heap) (L : Addr) (m : Str → Option Value) (news : List (Addr × Obj)) (s : Shared) (Q E : Value → Shared → Prop),
    Below A₀ base outer h₀ → Fr h₀ L s.heap m → (hd.heap_39 w.params).In h₀ → News h₀ L s.heap news → Top p loose mean mg mb h₀ → cs.kind = .function → dp + k < recursionLimit → un + 8 * k < cLine →
    (∀ v h' tk', P v → Fr h₀ L h' m → News h₀ L h' news → Q v { s with heap := h', toks := tk' }) →
    wpAny (model prog w) (ktrTop dp un gd cn cs L a ccd cl outer) (call (.ref f) vs kw) Q E s

section
variable {prog : Program} {w : World} {A A₀ : Around} {E : Value → Shared → Prop} {s : Shared} {K : Frag} {L : Addr} {h₀ base : Heap} {m mg mb : Str → Option Value} {news : List (Addr × Obj)} {p : Program} {loose : List Str} {mean : ExcName → Option Value} {Q : Value → Shared → Prop}
/-- a def is entered with an empty ledger; the caller's ledger stands behind it -/
theorem enter0 {P : Value → Prop} {env : Env} {outer : List Env} {name qual : Str} {params : Arguments} {body : List Stmt} {scope : Scope} {dV kV doc pm cdv ct oc : Value} {an od : Option Addr} {osl : Array (Option Value)} {f : Addr} {args : Args} {binds : List (Str × Value)}
    (B : Below A₀ base outer h₀) (F : Fr h₀ L s.heap m) (X₀ : K.In h₀) (N : News h₀ L s.heap news) (T : Top p loose mean mg mb h₀) (hA : A.frames = some (env :: outer)) (hf : env.frame = some L) (hke : env.scope.kind = .function)
    (ho : K.lookup f = some ⟨oc, od, .func (fnOf name qual params body scope dV kV doc pm an cdv ct), osl⟩) (hcd : codeIn K cdv qual = true) (hroom : A.depth < recursionLimit)
    (hbind : BindsTo s (fnOf name qual params body scope dV kV doc pm an cdv ct) args binds) (hloc : ∀ y ∈ binds, scope.names.lookup y.1 = some .local)
    (hret : ∀ v h' tk', P v → Fr h₀ L h' m → News h₀ L h' news → Q v { s with heap := h', toks := tk' })
    (h : ∀ g L' h₁ tk, Fr g L' h₁ (fun y => binds.reverse.lookup y) → News g L' h₁ [] → Below A base (env :: outer) g → K.In g → Top p loose mean mg mb g →
      wpAny (model prog w) (A.deeper (envOf qual scope L' f cdv)) (execs body (envOf qual scope L' f cdv))
        (fun fl s' => EndOf g s P (match fl with | .ret v => v | _ => .none) s') (fun _ _ => False)
        { s with heap := h₁, toks := tk })
    (hco : scope.isCoroutine = false) (hgen : scope.isGenerator = false) (hk : scope.kind = .function)
    (hcell : ∀ x ∈ scope.names, x.2 ≠ .cell) : codeAny (model prog w) A (.call (.ref f) args) (fun r s' => match r with | .ok (.ret v) => Q v s' | .ok _ => False | .error e => E e s') s := by
  have X : K.In s.heap := X₀.keeps F.keep
  obtain ⟨FG, BG, st, _⟩ := groundX (R := fun _ _ => True) (news := []) B F News.nil hA hf hke
  refine codeAny_call_def (fd := fnOf name qual params body scope dV kV doc pm an cdv ct) (body := body) (binds := binds) hroom (X _ _ ho) rfl (T.nolimit.keeps F.keep) (codeRec_of X hcd) rfl hbind hcell hloc (fun h₁ hns hk₁ => ?_) hco hgen hk
  refine wpAny_mono (h s.heap s.heap.objs.size h₁ _ ⟨hns, hk₁, Nat.le_refl _⟩ News.nil BG X (T.keeps F.keep)) (fun fl s' hl => ?_) (fun _ _ e => e.elim)
  obtain ⟨hp, L', m', h', tk', F', rfl⟩ := hl
  refine hret _ h' tk' hp ?_ ?_
  · obtain ⟨oL, es, ep, hL, hLr⟩ := F.ns
    exact ⟨⟨oL, es, ep, F'.keep _ _ hL, hLr⟩, fun b o e => F'.keep _ _ (F.keep b o e), F.above⟩
  · exact fun q hq => ⟨F'.keep _ _ (N q hq).1, (N q hq).2⟩
end

theorem Tell.use {k : Nat} {f : Addr} {vs : List Value} {kw : List (Str × Value)} {P : Value → Prop} {prog : Program} {w : World} {p : Program} {loose : List Str} {mean : ExcName → Option Value} {mg mb : Str → Option Value}
    {dp un : Nat} {gd : Option (List Code)} {cn : Str} {cs : Scope} {a : Addr} {ccd : Value} {cl : List (Str × Addr)} {outer : List Env} {A₀ : Around} {base h₀ : Heap} {L : Addr} {m : Str → Option Value} {news : List (Addr × Obj)} {s : Shared} {Q E : Value → Shared → Prop}
    (C : Tell k f vs kw P) (B : Below A₀ base outer h₀) (F : Fr h₀ L s.heap m) (X : (hd.heap_39 w.params).In h₀) (N : News h₀ L s.heap news) (T : Top p loose mean mg mb h₀) (hk : cs.kind = .function) (hdp : dp + k < recursionLimit) (hu : un + 8 * k < cLine)
    (h : ∀ v h' tk', P v → Fr h₀ L h' m → News h₀ L h' news → Q v { s with heap := h', toks := tk' }) :
    wpAny (model prog w) (ktrTop dp un gd cn cs L a ccd cl outer) (call (.ref f) vs kw) Q E s :=
  C _ _ _ _ _ _ _ _ _ _ _ _ _ _ _ _ _ _ _ _ _ _ _ _ _ B F X N T hk hdp hu h

section
variable {prog : Program} {w : World} {A A₀ : Around} {E : Value → Shared → Prop} {s : Shared} {K : Frag} {L : Addr} {h₀ base : Heap} {m mg mb : Str → Option Value} {news : List (Addr × Obj)} {p : Program} {loose : List Str} {mean : ExcName → Option Value} {Q : Value → Shared → Prop}
/-- the same for a def with captured names -/
theorem enter0C {P : Value → Prop} {env : Env} {outer : List Env} {name qual : Str} {params : Arguments} {body : List Stmt} {scope : Scope} {dV kV doc pm cdv ct oc : Value} {an od : Option Addr} {osl : Array (Option Value)} {f : Addr} {args : Args} {binds : List (Str × Value)}
    (B : Below A₀ base outer h₀) (F : Fr h₀ L s.heap m) (X₀ : K.In h₀) (N : News h₀ L s.heap news) (T : Top p loose mean mg mb h₀) (hA : A.frames = some (env :: outer)) (hf : env.frame = some L) (hke : env.scope.kind = .function)
    (ho : K.lookup f = some ⟨oc, od, .func (fnOf name qual params body scope dV kV doc pm an cdv ct), osl⟩) (hcd : codeIn K cdv qual = true) (hroom : A.depth < recursionLimit)
    (hbind : BindsTo s (fnOf name qual params body scope dV kV doc pm an cdv ct) args binds) (hkind : (binds.all fun y => scope.names.lookup y.1 == some .local || scope.names.lookup y.1 == some .cell) = true)
    (hnd : ((cellsFrom 0 scope.names []).map (·.1)).Nodup)
    (hret : ∀ v h' tk', P v → Fr h₀ L h' m → News h₀ L h' news → Q v { s with heap := h', toks := tk' })
    (h : ∀ g L' h₁ tk cells, Fr g L' h₁ (bindL (envOfC qual scope L' f cdv).kindOf binds fun _ => none) → News g L' h₁ cells →
      CellsAre (bindC (envOfC qual scope L' f cdv).kindOf binds fun _ => none) (cellsFrom (L' + 1) scope.names []) cells → Below A base (env :: outer) g → K.In g → Top p loose mean mg mb g →
      wpAny (model prog w) (A.deeper (envOfC qual scope L' f cdv)) (execs body (envOfC qual scope L' f cdv))
        (fun fl s' => EndOf g s P (match fl with | .ret v => v | _ => .none) s') (fun _ _ => False)
        { s with heap := h₁, toks := tk })
    (hco : scope.isCoroutine = false) (hgen : scope.isGenerator = false) (hk : scope.kind = .function) : codeAny (model prog w) A (.call (.ref f) args) (fun r s' => match r with | .ok (.ret v) => Q v s' | .ok _ => False | .error e => E e s') s := by
  have X : K.In s.heap := X₀.keeps F.keep
  obtain ⟨FG, BG, st, _⟩ := groundX (R := fun _ _ => True) (news := []) B F News.nil hA hf hke
  refine codeAny_call_function hroom (X _ _ ho) rfl hco hgen rfl (codeRec_of X hcd) (hbind _ _ _ _ ?_)
  refine wpAny_newFunctionEnv_cells hk (kindsX hkind _) fun env' he s' x => ?_
  subst he
  refine ⟨(T.nolimit.keeps F.keep).keeps x.toInCall.keep, codeAny_func ?_⟩
  obtain ⟨h₁, tk, rfl, _⟩ := x.done
  have hk₁ := x.toInCall.keep
  obtain ⟨cells, NC, Y⟩ := Cl.news (h₀ := s.heap) (Nat.le_refl _) fun n c hm => ⟨x.cell n c (lookup_of_mem_nodup (cellsFrom_names scope.names 0 (s.heap.objs.size + 1) [] [] rfl ▸ hnd) hm), x.above n c hm⟩
  refine wpAny_mono (h s.heap s.heap.objs.size h₁ tk cells ⟨x.toInCall.ns, hk₁, Nat.le_refl _⟩ NC Y BG X (T.keeps F.keep)) (fun fl s' hl => ?_) (fun _ _ e => e.elim)
  obtain ⟨hp, L', m', h', tk', F', rfl⟩ := hl
  refine hret _ h' tk' hp ?_ ?_
  · obtain ⟨oL, es, ep, hL, hLr⟩ := F.ns
    exact ⟨⟨oL, es, ep, F'.keep _ _ hL, hLr⟩, fun b o e => F'.keep _ _ (F.keep b o e), F.above⟩
  · exact fun q hq => ⟨F'.keep _ _ (N q hq).1, (N q hq).2⟩
end

/-- the end of a called def that was handed one made object -/
def EndOf1 (g : Heap) (a : Addr) (o : Obj) (s₀ : Shared) (P : Value → Prop) (v : Value) (s' : Shared) : Prop :=
  P v ∧ ∃ L' m' h' tk', Fr g L' h' m' ∧ h'.get? a = some o ∧ s' = { s₀ with heap := h', toks := tk' }
theorem EndOf1.intro {g : Heap} {a : Addr} {o : Obj} {s₀ : Shared} {P : Value → Prop} {v : Value} {L' : Addr} {m' : Str → Option Value} {h' : Heap} {tk' : Nat} {news : List (Addr × Obj)} (F : Fr g L' h' m') (N : News g L' h' news) (hm : (a, o) ∈ news) (hp : P v) :
    EndOf1 g a o s₀ P v { s₀ with heap := h', toks := tk' } := ⟨hp, L', m', h', tk', F, (N _ hm).1, rfl⟩
/-- a contract of a def that is handed one made object (a at o) -/
def Tell1 (k : Nat) (f : Addr) (a : Addr) (o : Obj) (vs : List Value) (P : Value → Prop) : Prop :=
  ∀ (prog : Program) (w : World) (p : Program) (loose : List Str) (mean : ExcName → Option Value) (mg mb : Str → Option Value)
    (dp un : Nat) (gd : Option (List Code)) (cn : Str) (cs : Scope) (ca : Addr) (ccd : Value) (cl : List (Str × Addr)) (outer : List Env) (A₀ : Around) (base h₀ : Heap) (L : Addr) (m : Str → Option Value) (news : List (Addr × Obj)) (s : Shared) (Q E : Value → Shared → Prop),
    Below A₀ base outer h₀ → Fr h₀ L s.heap m → (hd.heap_39 w.params).In h₀ → News h₀ L s.heap news → (a, o) ∈ news → Top p loose mean mg mb h₀ → cs.kind = .function → dp + k < recursionLimit → un + 8 * k < cLine →
    (∀ v h' tk', P v → Fr h₀ L h' m → News h₀ L h' news → Q v { s with heap := h', toks := tk' }) →
    wpAny (model prog w) (ktrTop dp un gd cn cs L ca ccd cl outer) (call (.ref f) vs) Q E s
theorem Tell1.use {k : Nat} {f : Addr} {a : Addr} {o : Obj} {vs : List Value} {P : Value → Prop} {prog : Program} {w : World} {p : Program} {loose : List Str} {mean : ExcName → Option Value} {mg mb : Str → Option Value}
    {dp un : Nat} {gd : Option (List Code)} {cn : Str} {cs : Scope} {ca : Addr} {ccd : Value} {cl : List (Str × Addr)} {outer : List Env} {A₀ : Around} {base h₀ : Heap} {L : Addr} {m : Str → Option Value} {news : List (Addr × Obj)} {s : Shared} {Q E : Value → Shared → Prop}
    (C : Tell1 k f a o vs P) (B : Below A₀ base outer h₀) (F : Fr h₀ L s.heap m) (X : (hd.heap_39 w.params).In h₀) (N : News h₀ L s.heap news) (hm : (a, o) ∈ news) (T : Top p loose mean mg mb h₀) (hk : cs.kind = .function) (hdp : dp + k < recursionLimit) (hu : un + 8 * k < cLine)
    (h : ∀ v h' tk', P v → Fr h₀ L h' m → News h₀ L h' news → Q v { s with heap := h', toks := tk' }) :
    wpAny (model prog w) (ktrTop dp un gd cn cs L ca ccd cl outer) (call (.ref f) vs) Q E s :=
  C _ _ _ _ _ _ _ _ _ _ _ _ _ _ _ _ _ _ _ _ _ _ _ _ _ B F X N hm T hk hdp hu h
section
variable {prog : Program} {w : World} {A A₀ : Around} {E : Value → Shared → Prop} {s : Shared} {K : Frag} {L : Addr} {h₀ base : Heap} {m mg mb : Str → Option Value} {news : List (Addr × Obj)} {p : Program} {loose : List Str} {mean : ExcName → Option Value} {Q : Value → Shared → Prop}
theorem enter1 {P : Value → Prop} {a : Addr} {o : Obj} {env : Env} {outer : List Env} {name qual : Str} {params : Arguments} {body : List Stmt} {scope : Scope} {dV kV doc pm cdv ct oc : Value} {an od : Option Addr} {osl : Array (Option Value)} {f : Addr} {args : Args} {binds : List (Str × Value)}
    (B : Below A₀ base outer h₀) (F : Fr h₀ L s.heap m) (X₀ : K.In h₀) (N : News h₀ L s.heap news) (hm : (a, o) ∈ news) (T : Top p loose mean mg mb h₀) (hA : A.frames = some (env :: outer)) (hf : env.frame = some L) (hke : env.scope.kind = .function)
    (ho : K.lookup f = some ⟨oc, od, .func (fnOf name qual params body scope dV kV doc pm an cdv ct), osl⟩) (hcd : codeIn K cdv qual = true) (hroom : A.depth < recursionLimit)
    (hbind : BindsTo s (fnOf name qual params body scope dV kV doc pm an cdv ct) args binds) (hloc : ∀ y ∈ binds, scope.names.lookup y.1 = some .local)
    (hret : ∀ v h' tk', P v → Fr h₀ L h' m → News h₀ L h' news → Q v { s with heap := h', toks := tk' })
    (h : ∀ g L' h₁ tk, Fr g L' h₁ (fun y => binds.reverse.lookup y) → News g L' h₁ [(a, o)] → a < L' → Below A base (env :: outer) g → K.In g → Top p loose mean mg mb g →
      wpAny (model prog w) (A.deeper (envOf qual scope L' f cdv)) (execs body (envOf qual scope L' f cdv))
        (fun fl s' => EndOf1 g a o s P (match fl with | .ret v => v | _ => .none) s') (fun _ _ => False)
        { s with heap := h₁, toks := tk })
    (hco : scope.isCoroutine = false) (hgen : scope.isGenerator = false) (hk : scope.kind = .function)
    (hcell : ∀ x ∈ scope.names, x.2 ≠ .cell) : codeAny (model prog w) A (.call (.ref f) args) (fun r s' => match r with | .ok (.ret v) => Q v s' | .ok _ => False | .error e => E e s') s := by
  have X : K.In s.heap := X₀.keeps F.keep
  have N1 : News h₀ L s.heap [(a, o)] := fun q hq => by rw [List.mem_singleton.mp hq]; exact N _ hm
  obtain ⟨FG, BG, st, _⟩ := groundX (R := fun _ _ => True) (news := [(a, o)]) B F N1 hA hf hke
  refine codeAny_call_def (fd := fnOf name qual params body scope dV kV doc pm an cdv ct) (body := body) (binds := binds) hroom (X _ _ ho) rfl (T.nolimit.keeps F.keep) (codeRec_of X hcd) rfl hbind hcell hloc (fun h₁ hns hk₁ => ?_) hco hgen hk
  refine wpAny_mono (h (hideAll s.heap [a]) s.heap.objs.size h₁ _ ⟨hns, fun b o e => hk₁ b o (of_hideAll _ e), Nat.le_of_eq (hideAll_size _ _)⟩ (fun q hq => ?_) (Heap.lt_size (N _ hm).1) BG (X₀.keeps st) (T.keeps st)) (fun fl s' hl => ?_) (fun _ _ e => e.elim)
  · rw [List.mem_singleton.mp hq]
    exact ⟨hk₁ _ _ (N _ hm).1, Nat.ne_of_lt (Heap.lt_size (N _ hm).1), hideAll_none _ (List.Mem.head _)⟩
  obtain ⟨hp, L', m', h', tk', F', ha', rfl⟩ := hl
  have keep : ∀ b ob, s.heap.get? b = some ob → h'.get? b = some ob := by
    intro b ob e
    by_cases hb : b = a
    · subst hb
      rw [(N _ hm).1] at e
      rw [ha', ← e]
    · exact F'.keep _ _ (hideAll_get [a] e (fun q => hb (List.mem_singleton.mp q)))
  refine hret _ h' tk' hp ?_ ?_
  · obtain ⟨oL, es, ep, hL, hLr⟩ := F.ns
    exact ⟨⟨oL, es, ep, keep _ _ hL, hLr⟩, fun b o e => keep _ _ (F.keep b o e), F.above⟩
  · exact fun q hq => ⟨keep _ _ (N q hq).1, (N q hq).2⟩
end

/-- the end of a called def that hands back an object it has made -/
def EndOf2 (g : Heap) (s₀ : Shared) (P : Obj → Prop) (v : Value) (s' : Shared) : Prop :=
  ∃ q o L' m' h' tk', v = .ref q ∧ P o ∧ Fr g L' h' m' ∧ h'.get? q = some o ∧ g.get? q = none ∧ s' = { s₀ with heap := h', toks := tk' }
theorem EndOf2.intro {g : Heap} {s₀ : Shared} {P : Obj → Prop} {q : Addr} {o : Obj} {L' : Addr} {m' : Str → Option Value} {h' : Heap} {tk' : Nat} {news : List (Addr × Obj)} (F : Fr g L' h' m') (N : News g L' h' news) (hm : (q, o) ∈ news) (hp : P o) :
    EndOf2 g s₀ P (.ref q) { s₀ with heap := h', toks := tk' } := ⟨q, o, L', m', h', tk', rfl, hp, F, (N _ hm).1, (N _ hm).2.2, rfl⟩
/-- a contract of a def that hands back an object it has made -/
def Tell2 (k : Nat) (f : Addr) (vs : List Value) (P : Obj → Prop) : Prop :=
  ∀ (prog : Program) (w : World) (p : Program) (loose : List Str) (mean : ExcName → Option Value) (mg mb : Str → Option Value)
    (dp un : Nat) (gd : Option (List Code)) (cn : Str) (cs : Scope) (ca : Addr) (ccd : Value) (cl : List (Str × Addr)) (outer : List Env) (A₀ : Around) (base h₀ : Heap) (L : Addr) (m : Str → Option Value) (news : List (Addr × Obj)) (s : Shared) (Q E : Value → Shared → Prop),
    Below A₀ base outer h₀ → Fr h₀ L s.heap m → (hd.heap_39 w.params).In h₀ → News h₀ L s.heap news → Top p loose mean mg mb h₀ → cs.kind = .function → dp + k < recursionLimit → un + 8 * k < cLine →
    (∀ q o h' tk', P o → Fr h₀ L h' m → News h₀ L h' ((q, o) :: news) → Q (.ref q) { s with heap := h', toks := tk' }) →
    wpAny (model prog w) (ktrTop dp un gd cn cs L ca ccd cl outer) (call (.ref f) vs) Q E s
theorem Tell2.use {k : Nat} {f : Addr} {vs : List Value} {P : Obj → Prop} {prog : Program} {w : World} {p : Program} {loose : List Str} {mean : ExcName → Option Value} {mg mb : Str → Option Value}
    {dp un : Nat} {gd : Option (List Code)} {cn : Str} {cs : Scope} {ca : Addr} {ccd : Value} {cl : List (Str × Addr)} {outer : List Env} {A₀ : Around} {base h₀ : Heap} {L : Addr} {m : Str → Option Value} {news : List (Addr × Obj)} {s : Shared} {Q E : Value → Shared → Prop}
    (C : Tell2 k f vs P) (B : Below A₀ base outer h₀) (F : Fr h₀ L s.heap m) (X : (hd.heap_39 w.params).In h₀) (N : News h₀ L s.heap news) (T : Top p loose mean mg mb h₀) (hk : cs.kind = .function) (hdp : dp + k < recursionLimit) (hu : un + 8 * k < cLine)
    (h : ∀ q o h' tk', P o → Fr h₀ L h' m → News h₀ L h' ((q, o) :: news) → Q (.ref q) { s with heap := h', toks := tk' }) :
    wpAny (model prog w) (ktrTop dp un gd cn cs L ca ccd cl outer) (call (.ref f) vs) Q E s :=
  C _ _ _ _ _ _ _ _ _ _ _ _ _ _ _ _ _ _ _ _ _ _ _ _ _ B F X N T hk hdp hu h
section
variable {prog : Program} {w : World} {A A₀ : Around} {E : Value → Shared → Prop} {s : Shared} {K : Frag} {L : Addr} {h₀ base : Heap} {m mg mb : Str → Option Value} {news : List (Addr × Obj)} {p : Program} {loose : List Str} {mean : ExcName → Option Value} {Q : Value → Shared → Prop}
theorem enter2 {P : Obj → Prop} {env : Env} {outer : List Env} {name qual : Str} {params : Arguments} {body : List Stmt} {scope : Scope} {dV kV doc pm cdv ct oc : Value} {an od : Option Addr} {osl : Array (Option Value)} {f : Addr} {args : Args} {binds : List (Str × Value)}
    (B : Below A₀ base outer h₀) (F : Fr h₀ L s.heap m) (X₀ : K.In h₀) (N : News h₀ L s.heap news) (T : Top p loose mean mg mb h₀) (hA : A.frames = some (env :: outer)) (hf : env.frame = some L) (hke : env.scope.kind = .function)
    (ho : K.lookup f = some ⟨oc, od, .func (fnOf name qual params body scope dV kV doc pm an cdv ct), osl⟩) (hcd : codeIn K cdv qual = true) (hroom : A.depth < recursionLimit)
    (hbind : BindsTo s (fnOf name qual params body scope dV kV doc pm an cdv ct) args binds) (hloc : ∀ y ∈ binds, scope.names.lookup y.1 = some .local)
    (hret : ∀ q o h' tk', P o → Fr h₀ L h' m → News h₀ L h' ((q, o) :: news) → Q (.ref q) { s with heap := h', toks := tk' })
    (h : ∀ g L' h₁ tk, Fr g L' h₁ (fun y => binds.reverse.lookup y) → News g L' h₁ [] → Below A base (env :: outer) g → K.In g → Top p loose mean mg mb g →
      wpAny (model prog w) (A.deeper (envOf qual scope L' f cdv)) (execs body (envOf qual scope L' f cdv))
        (fun fl s' => EndOf2 g s P (match fl with | .ret v => v | _ => .none) s') (fun _ _ => False)
        { s with heap := h₁, toks := tk })
    (hco : scope.isCoroutine = false) (hgen : scope.isGenerator = false) (hk : scope.kind = .function)
    (hcell : ∀ x ∈ scope.names, x.2 ≠ .cell) : codeAny (model prog w) A (.call (.ref f) args) (fun r s' => match r with | .ok (.ret v) => Q v s' | .ok _ => False | .error e => E e s') s := by
  have X : K.In s.heap := X₀.keeps F.keep
  obtain ⟨FG, BG, st, _⟩ := groundX (R := fun _ _ => True) (news := []) B F News.nil hA hf hke
  refine codeAny_call_def (fd := fnOf name qual params body scope dV kV doc pm an cdv ct) (body := body) (binds := binds) hroom (X _ _ ho) rfl (T.nolimit.keeps F.keep) (codeRec_of X hcd) rfl hbind hcell hloc (fun h₁ hns hk₁ => ?_) hco hgen hk
  refine wpAny_mono (h s.heap s.heap.objs.size h₁ _ ⟨hns, hk₁, Nat.le_refl _⟩ News.nil BG X (T.keeps F.keep)) (fun fl s' hl => ?_) (fun _ _ e => e.elim)
  obtain ⟨q, o, L', m', h', tk', hv, hp, F', hq, hn, rfl⟩ := hl
  have hr := hret q o h' tk' hp ?_ ?_
  · cases fl <;> first
      | (dsimp only at hv; subst hv; exact hr)
      | (dsimp only at hv; exact absurd hv (fun e => nomatch e))
  · obtain ⟨oL, es, ep, hL, hLr⟩ := F.ns
    exact ⟨⟨oL, es, ep, F'.keep _ _ hL, hLr⟩, fun b o e => F'.keep _ _ (F.keep b o e), F.above⟩
  · intro p' hp'
    rcases List.mem_cons.mp hp' with rfl | hp'
    · refine ⟨hq, fun e => ?_, ?_⟩
      · obtain ⟨oL, es, ep, hL, hLr⟩ := F.ns
        have e : q = L := e
        rw [e, hL] at hn
        cases hn
      · cases e : h₀.get? q with
        | none => rfl
        | some x =>
          rw [F.keep _ _ e] at hn
          cases hn
    · exact ⟨F'.keep _ _ (N p' hp').1, (N p' hp').2⟩
end

section
variable {prog : Program} {w : World} {A : Around} {E : Value → Shared → Prop} {Q : Value → Shared → Prop} {s : Shared} {b : Array UInt8} {t u : Tok}
theorem r_type_bytes (hq : Q (.type "bytes") s) : wpAny (model prog w) A (call (.type "type") [.bytes b t]) Q E s :=
  call_type_of (typeIs_bytes _ _ _) (by decide +kernel) hq

/-! bits of nonnegative ints, as arithmetic -/
theorem nat_and_low (x b k : Nat) (hb : b < 2 ^ k) : (x * 2 ^ k) &&& b = 0 := by
  apply Nat.eq_of_testBit_eq
  intro i
  rw [Nat.testBit_and, Nat.zero_testBit, Nat.testBit_mul_two_pow]
  by_cases h : k ≤ i
  · have : b.testBit i = false := Nat.testBit_lt_two_pow (Nat.lt_of_lt_of_le hb (Nat.pow_le_pow_right (by decide) h))
    simp [this]
  · simp [h]
theorem or_add {x y c : Int} (k : Nat) (hc : c = 2 ^ k) (hx : 0 ≤ x) (hy : 0 ≤ y) (hy' : y < c) : Builtin.bitOr (x * c) y = x * c + y := by
  have hc0 : 0 < c := by rw [hc]; exact Int.pow_pos (by decide)
  rw [bitOr_and, bitAnd_pp (Int.mul_nonneg hx (Int.le_of_lt hc0)) hy]
  have e : (x * c).toNat = x.toNat * 2 ^ k := by
    obtain ⟨n, rfl⟩ := Int.eq_ofNat_of_zero_le hx
    rw [hc]
    exact Int.toNat_natCast (n * 2 ^ k)
  have hb : y.toNat < 2 ^ k := by
    have h2 : ((2 ^ k : Nat) : Int) = c := by rw [hc]; exact Int.natCast_pow 2 k
    omega
  rw [e, nat_and_low _ _ _ hb]
  simp
theorem r_and3 {x : Int} (h : Q (.int (x % 4) s.toks) { s with toks := s.toks + 1 }) : wpAny (model prog w) A (binaryOp .BitAnd (.int x t) (.int 3 u)) Q E s := and_int (by rw [bitAnd_m2]; exact h)
theorem r_and15 {x : Int} (h : Q (.int (x % 16) s.toks) { s with toks := s.toks + 1 }) : wpAny (model prog w) A (binaryOp .BitAnd (.int x t) (.int 15 u)) Q E s := and_int (by rw [bitAnd_m4]; exact h)
theorem r_and63 {x : Int} (h : Q (.int (x % 64) s.toks) { s with toks := s.toks + 1 }) : wpAny (model prog w) A (binaryOp .BitAnd (.int x t) (.int 63 u)) Q E s := and_int (by rw [bitAnd_m6]; exact h)
theorem r_and16 {x : Int} (h : Q (.int (x % 65536) s.toks) { s with toks := s.toks + 1 }) : wpAny (model prog w) A (binaryOp .BitAnd (.int x t) (.int 65535 u)) Q E s := and_int (by rw [bitAnd_m16]; exact h)
theorem r_or {x y c : Int} (k : Nat) (hc : c = 2 ^ k) (hx : 0 ≤ x) (hy : 0 ≤ y) (hy' : y < c) (h : Q (.int (x * c + y) s.toks) { s with toks := s.toks + 1 }) : wpAny (model prog w) A (binaryOp .BitOr (.int (x * c) t) (.int y u)) Q E s :=
  or_int (by rw [or_add k hc hx hy hy']; exact h)
theorem r_shl {x n : Int} (c : Int) (hn : 0 ≤ n) (hn' : n ≤ 64) (hc : (2 : Int) ^ n.toNat = c) (hx : 0 ≤ x) (hx' : x < 65536) (h : Q (.int (x * c) s.toks) { s with toks := s.toks + 1 }) : wpAny (model prog w) A (binaryOp .LShift (.int x t) (.int n u)) Q E s := by
  have hb : Builtin.Int.intBits x ≤ 64 := intBits_le_64 (by omega) (by omega)
  refine lshift_int hn (by omega) ?_
  rw [hc]; exact h
theorem r_shr {x n : Int} (c : Int) (hn : 0 ≤ n) (hc : (2 : Int) ^ n.toNat = c) (hc0 : 0 ≤ c) (h : Q (.int (x / c) s.toks) { s with toks := s.toks + 1 }) : wpAny (model prog w) A (binaryOp .RShift (.int x t) (.int n u)) Q E s := by
  refine rshift_int hn ?_
  rw [hc, Int.fdiv_eq_ediv_of_nonneg _ hc0]; exact h
theorem r_eq_no {x y : Int} (h : x ≠ y) (hq : Q (.bool false) s) : wpAny (model prog w) A (compareOp .Eq (.int x t) (.int y u)) Q E s :=
  PyProof.Rows.eq_int (by rw [beq_eq_false_iff_ne.mpr h]; exact hq)
end

/-- the sign of a figure, as b2a_base64 writes it -/
noncomputable def std (d : Int) : Int := if d < 26 then d + 65 else if d < 52 then d + 71 else if d < 62 then d - 4 else if d = 62 then 43 else 47
noncomputable def b64L : List UInt8 := [65, 66, 67, 68, 69, 70, 71, 72, 73, 74, 75, 76, 77, 78, 79, 80, 81, 82, 83, 84, 85, 86, 87, 88, 89, 90, 97, 98, 99, 100, 101, 102, 103, 104, 105, 106, 107, 108, 109, 110, 111, 112, 113, 114, 115, 116, 117, 118, 119, 120, 121, 122, 48, 49, 50, 51, 52, 53, 54, 55, 56, 57, 43, 47]
theorem b64L_at (d : Int) (h0 : 0 ≤ d) (h1 : d < 64) : ((b64L.getD d.toNat 0).toNat : Int) = std d := by
  obtain ⟨n, rfl⟩ := Int.eq_ofNat_of_zero_le h0
  have : ∀ k : Fin 64, ((b64L.getD ((k.val : Int)).toNat 0).toNat : Int) = std (k.val : Int) := by decide +kernel
  exact this ⟨n, by omega⟩
section
variable {prog : Program} {w : World} {A : Around} {E : Value → Shared → Prop} {Q : Value → Shared → Prop} {s : Shared} {t u : Tok} {value slice : PySem.Expr}
theorem r_b64 {d : Int} (h0 : 0 ≤ d) (h1 : d < 64) (h : Q (.int (std d) s.toks) { s with toks := s.toks + 1 })
    (hs : subscripted slice false (.bytes b64L.toArray t) (.int d u) = operate [.bytes b64L.toArray t, .int d u] (getItem (.bytes b64L.toArray t) (.int d u)) := by with_unfolding_all rfl)
    (ht : ∀ r, letTemporaryGo value (.bytes b64L.toArray t) r = pure () := by intro _; with_unfolding_all rfl) :
    wpAny (model prog w) A (subscriptTail value slice (.bytes b64L.toArray t) (.int d u)) Q E s :=
  KBy.item_N (by decide) h0 (by have : b64L.length = 64 := rfl; omega) (by rw [b64L_at d h0 h1]; exact h) hs ht
end

/-! bytes.translate, bytes.maketrans -/
theorem slot_translate : Slot "bytes" "translate" "bytes.translate" :=
  .of (owner := "bytes") (n := "translate") (by rw [typeLookup_type, builtinLookup_eq_fast]; kernel_rfl) (by decide +kernel) (by decide +kernel) (by decide +kernel)
    (by first | exact .inl (by decide +kernel) | exact .inr (by decide +kernel)) (by rw [isSubtype_type]; kernel_rfl)
theorem type_translate : typeOf (.builtin "bytes.translate") = pure (.type "method_descriptor") := by show builtinType _ = _; rw [builtinType_eq_fast]; kernel_rfl
theorem entry_translate : entryFor table "bytes.translate" = some Builtin.«bytes.translate» := entryFor_of_tree (by kernel_rfl)
theorem args_translate (a b : Value) : argsOk "bytes.translate" ⟨[a, b], []⟩ := by unfold argsOk; kernel_rfl
theorem plain_maketrans : plainId "bytes.maketrans" = true := by decide +kernel
theorem entry_maketrans : entryFor table "bytes.maketrans" = some Builtin.«bytes.maketrans» := entryFor_of_tree (by kernel_rfl)
theorem check_maketrans (a b : Value) : checkBuiltinCall "bytes.maketrans" ⟨[a, b], []⟩ = pure () := by kernel_rfl

noncomputable def transTab (f x : List UInt8) : Array UInt8 := (f.zip x).foldl (fun t p => t.setIfInBounds p.1.toNat p.2) ((Array.range 256).map (·.toUInt8))
theorem transTab_size (f x : List UInt8) : (transTab f x).size = 256 := by
  have aux : ∀ (l : List (UInt8 × UInt8)) (a : Array UInt8), (l.foldl (fun t p => t.setIfInBounds p.1.toNat p.2) a).size = a.size := by
    intro l
    induction l with
    | nil => intro a; rfl
    | cons p r ih => intro a; rw [List.foldl_cons, ih]; simp
  unfold transTab
  rw [aux]
  simp
section
variable {prog : Program} {w : World} {A : Around} {E : Value → Shared → Prop} {s : Shared} {b T : Array UInt8} {t t2 : Tok}
theorem run_maketrans {M : Model} {x y : Array UInt8} (h : x.size = y.size) {P : Fin → Shared → Prop} (hq : ∀ t' k, P (.done (.ret (.bytes (transTab x.toList y.toList) t'))) { s with toks := k }) :
    wpAny M A (Builtin.«bytes.maketrans» ⟨[.bytes x t, .bytes y t2], []⟩) P E s := by
  unfold Builtin.«bytes.maketrans» Builtin.Bytes.maketransM
  dsimp only
  refine wpAny_bind (wpAny_of_eq (a := ()) (by rfl) ?_)
  refine wpAny_bind (wpAny_of_eq (a := ()) (by rfl) ?_)
  refine wpAny_bind (wpAny_of_eq KBd.like_eq ?_)
  refine wpAny_bind (wpAny_of_eq KBd.like_eq ?_)
  refine wpAny_ite (KBy.ite_no (by simp [h]) ?_)
  refine wpAny_bind (wpAny_mkBytes (wpAny_pure (hq _ _)) ?_)
  show (transTab x.toList y.toList).size ≤ sizeLine
  rw [transTab_size, sizeLine_eq]
  decide
theorem r_maketrans {x y : Array UInt8} {Q : Value → Shared → Prop} (h : x.size = y.size) (hq : ∀ t' k, Q (.bytes (transTab x.toList y.toList) t') { s with toks := k }) :
    wpAny (model prog w) A (call (.builtin "bytes.maketrans") [.bytes x t, .bytes y t2]) Q E s := by
  refine wpAny_call (codeAny_call_builtin plain_maketrans entry_maketrans ?_)
  rw [check_maketrans]
  exact wpAny_pure (run_maketrans h fun t' k => hq t' k)
theorem meets_translate (hT : T.size = 256) (hb : b.size ≤ 16777216) :
    Meets (Builtin.«bytes.translate» ⟨[.bytes b t, .bytes T t2], []⟩) (fun _ R s => ∀ t' k, R (.ok (.ret (.bytes (b.map fun c => T.getD c.toNat c) t'))) { s with toks := k }) := by
  refine .of_wp fun prog w A R s hS => ?_
  unfold Builtin.«bytes.translate» Builtin.Bytes.translateM
  dsimp only
  refine wpAny_ite (KBy.ite_no (by show ¬ (1 + 0 > 2); decide) ?_)
  refine wpAny_ite (KBy.ite_no (by show ¬ (false = true); decide) ?_)
  refine wpAny_ite (KBy.ite_no (fun h => absurd (eq_of_beq h) (fun e => nomatch e)) ?_)
  refine wpAny_bind (wpAny_of_eq KBd.like_eq ?_)
  refine wpAny_ite (KBy.ite_no (by simp [hT]) ?_)
  refine wpAny_bind (wpAny_pure ?_)
  refine wpAny_bind (wpAny_pure ?_)
  refine wpAny_bind (wpAny_of_eq (a := b) (by rfl) ?_)
  have e : Array.filter (fun x => !(#[] : Array UInt8).contains x) b = b := by
    apply Array.filter_eq_self.mpr
    intro a _
    simp
  rw [e]
  by_cases hc : (Array.map (fun c => T.getD c.toNat c) b == b) = true
  · refine wpAny_ite (KBc.ite_yes hc ?_)
    refine wpAny_bind (wpAny_rule ?_)
    have hc' := eq_of_beq hc
    refine wpAny_bind (wpAny_of_eq (a := .bytes b t) (by rfl) ?_)
    refine wpAny_pure ⟨_, rfl, ?_⟩
    have h1 := hS t s.toks
    rw [hc'] at h1
    exact h1
  · refine wpAny_ite (KBy.ite_no hc ?_)
    exact wpAny_bind (wpAny_mkBytes (wpAny_pure ⟨_, rfl, hS _ _⟩) (by rw [Array.size_map, sizeLine_eq]; exact hb))
theorem r_translate {Q : Value → Shared → Prop} (hT : T.size = 256) (hb : b.size ≤ 16777216) (hq : ∀ t' k, Q (.bytes (b.map fun c => T.getD c.toNat c) t') { s with toks := k }) :
    wpAny (model prog w) A (call (.builtin "bytes.translate") [.bytes b t, .bytes T t2]) Q E s :=
  call_meets slot_translate (typeIs_bytes _ _ _) entry_translate (args_translate _ _) (meets_translate hT hb) hq
theorem r_translate_get {M : Model} {pl : Sem Bool} {Q : Value × List Value → Shared → Prop} (h : Q (.builtin "bytes.translate", [.bytes b t]) s) : wpAny M A (getMethod (.bytes b t) (Str.ofString "translate") pl) Q E s := by
  with_reducible exact KBd.method_of (.bytes b t) (typeIs_bytes _ _ _) slot_translate type_translate KBd.noRef h
set_option maxHeartbeats 4000000 in
theorem r_maketrans_get {K : Frag} {h₀ : Heap} {L : Addr} {m : Str → Option Value} {pl : Sem Bool} {Q : Value × List Value → Shared → Prop} (F : Fr h₀ L s.heap m) (X₀ : K.In h₀)
    (e : findCls K (.type "bytes") (.type "type") (Str.ofString "maketrans") = some (.val (.builtin "bytes.maketrans")))
    (h : Q (.builtin "bytes.maketrans", []) { s with toks := s.toks + 1 }) :
    wpAny (model prog w) A (getMethod (.type "bytes") (Str.ofString "maketrans") pl) Q E s := by
  have X := X₀.keeps F.keep
  have hstub : opaqueClassAbove (.type "bytes") = pure none := by unfold opaqueClassAbove; dsimp only; rw [show Manifest.isStub "bytes" = false by decide +kernel]; rfl
  have ht : typeOf (.type "bytes") = pure (.type "type") := by first | rfl | kernel_rfl
  have L0 : Looks (model prog w) s.heap (typeOf (.type "bytes")) (.type "type") := Looks.of_pure ht
  have hg : findIn K (.type "type") "__getattribute__" = some (some (.builtin "type.__getattribute__")) := type_tga
  unfold getMethod specialOf
  refine wpAny_bind (wpAny_bind (L0.here ((looks_findIn X hg).here ?_)))
  dsimp only
  rw [if_pos canon_tga]
  refine wpAny_bind (wpAny_mono (Q := fun v => Q (v, [])) (E := E) ?_ (fun _ _ z => wpAny_pure z) fun _ _ z => z)
  have LO : Looks (model prog w) s.heap (opaqueClassAbove (.type "bytes")) none := Looks.of_pure hstub
  refine cls_open X LO L0 hg (looks_hook X (r := none) (by rfl)) (by show subIn K _ _ = _; rfl) e ?_
  exact wpAny_pure (handed_on rfl h)
end

section
open Builtin Builtin._codecs
theorem forIn_steps {σ : Type} {f : Nat → σ → Sem (ForInStep σ)} {init fin : σ} {l : List Nat} (g : Nat → σ) (N : Nat) (hi : init = g 0) (hf : fin = g N) (hl : l.length = N)
    (step : ∀ x i, i < N → f x (g i) = pure (.yield (g (i + 1)))) : forIn l init f = pure fin := by
  have aux : ∀ (l : List Nat) (i : Nat), i + l.length = N → forIn l (g i) f = pure (g N) := by
    intro l
    induction l with
    | nil => intro i h; simp only [List.length_nil] at h; subst h; simp only [List.forIn_nil, Nat.add_zero]
    | cons a r ih =>
      intro i h
      simp only [List.length_cons] at h
      rw [List.forIn_cons, step a i (by omega), pure_bind]
      exact ih (i + 1) (by omega)
  rw [hi, hf]
  exact aux l 0 (by omega)
theorem forIn_twice {σ : Type} {f : Nat → σ → Sem (ForInStep σ)} {init fin : σ} {l : List Nat} (h1 : ∀ x, f x init = pure (.yield fin)) (h2 : ∀ x, f x fin = pure (.done fin)) (hl : l ≠ []) : forIn l init f = pure fin := by
  cases l with
  | nil => exact absurd rfl hl
  | cons a r =>
    rw [List.forIn_cons, h1, pure_bind]
    cases r with
    | nil => exact List.forIn_nil ..
    | cons c q => simp only [List.forIn_cons, h2, pure_bind]
theorem bind_of {α β : Type} {m : Sem α} {k : α → Sem β} {a : α} {r : Sem β} (h : m = pure a) (hk : k a = r) : (m >>= k) = r := by rw [h, pure_bind]; exact hk
theorem run_ascii (id : String) (b : Array UInt8) (hb : ∀ c ∈ b.toList, c.toNat < 128) (hz : b.size ≤ 16777216) : runDecoder id asciiDecoder none true b 0 [] = pure (b.map (·.toNat), b.size) := by
  unfold runDecoder
  dsimp only
  simp only [Std.Legacy.Range.forIn_eq_forIn_range']
  refine bind_of (a := (b.size, b.map (·.toNat), {})) ?_ rfl
  refine forIn_steps (fun i => (i, ((b.map (·.toNat)).toList.take i).toArray, {})) b.size (by simp) (by rw [List.take_of_length_le (by simp)]) (by simp [Std.Legacy.Range.size]) ?_
  intro x i hi
  have h1 : ¬ (((b.map (·.toNat)).toList.take i).toArray.size > sizeLine) := by
    rw [sizeLine_eq]; simp; omega
  have h2 : ¬ (i ≥ b.size) := by omega
  have h3 : (b.getD i 0).toNat < 128 := by
    have : b.getD i 0 = b[i] := by simp [hi]
    rw [this]
    exact hb _ (by simp)
  have h4 : asciiDecoder.find true b i = .text [(b.getD i 0).toNat] (i + 1) := by
    simp only [asciiDecoder, if_pos h3]
    rfl
  simp only [if_neg h1, if_neg h2, h4]
  have h5 : ((b.map (·.toNat)).toList.take i).toArray ++ [(b.getD i 0).toNat].toArray = ((b.map (·.toNat)).toList.take (i + 1)).toArray := by
    simp [List.take_add_one, hi]
  rw [h5]
theorem fold_bytes : ∀ (l : List Nat) (a : Array UInt8), l.foldl (fun acc y => acc ++ (asciiCodec.bytesOf y).toArray) a = a ++ (l.map (·.toUInt8)).toArray
  | [], a => by simp
  | c :: r, a => by rw [List.foldl_cons, fold_bytes r]; simp [asciiCodec]
theorem enc_ascii (id : String) (s : Str) (v : Value) (hb : ∀ c ∈ s.cps.toList, c < 128) (hz : s.length ≤ 16777216) : encodeNarrow id asciiCodec none v s = pure (s.cps.map (·.toUInt8)) := by
  unfold encodeNarrow
  dsimp only
  simp only [Std.Legacy.Range.forIn_eq_forIn_range']
  by_cases h0 : s.length = 0
  · have e : s.cps = #[] := Array.size_eq_zero_iff.mp h0
    refine bind_of (a := (0, #[], {})) ?_ (by rw [e, Array.map_empty])
    have : (List.range' 0 ([:s.length] : Std.Legacy.Range).size) = [] := by rw [h0]; rfl
    rw [this]
    exact List.forIn_nil ..
  have hsz : s.cps.size = s.length := rfl
  refine bind_of (a := (s.length, s.cps.map (·.toUInt8), {})) ?_ rfl
  refine forIn_twice ?_ ?_ (by simp [Std.Legacy.Range.size]; omega)
  · intro x
    have h1 : ¬ ((#[] : Array UInt8).size > sizeLine) := by rw [sizeLine_eq]; simp
    have hlt : 0 < s.cps.size := by omega
    have h2 : s.cps[0]? = some s.cps[0] := by simp [hlt]
    have h3 : (!asciiCodec.bad s.cps[0]) = true := by
      have := hb s.cps[0] (by simp)
      simp [asciiCodec]; omega
    have h4 : Array.findIdx? asciiCodec.bad (s.cps.extract 0) = none := by
      rw [Array.findIdx?_eq_none_iff]
      intro y hy
      have := hb y (by simpa using hy)
      simp [asciiCodec]; omega
    simp only [if_neg h1, h2, h3, if_true, h4]
    have e1 : s.cps.extract 0 = s.cps := by simp
    have e2 : Array.foldl (fun acc y => acc ++ (asciiCodec.bytesOf y).toArray) #[] s.cps = s.cps.map (·.toUInt8) := by
      rw [← Array.foldl_toList, fold_bytes, Array.empty_append]
      apply Array.toList_inj.mp
      rw [Array.toList_map]
    rw [e1] 
    simp only [Option.getD_none, Nat.zero_add]
    rw [e1, e2]
    rfl
  · intro x
    have h1 : ¬ ((s.cps.map (·.toUInt8)).size > sizeLine) := by rw [sizeLine_eq]; simp; omega
    have h2 : s.cps[s.length]? = none := by simp [hsz]
    simp only [if_neg h1, h2]

theorem road_dec {id : String} {b : Array UInt8} : decodeRoad id b (Str.ofString "ascii") none [] = (runDecoder id asciiDecoder none true b 0 [] >>= fun r => mkStr ⟨r.1⟩) := by kernel_rfl
theorem road_enc {id : String} {v : Value} {s : Str} : encodeRoad id v s (Str.ofString "ascii") none = (encodeNarrow id asciiCodec none v s >>= fun r => mkBytes r) := by kernel_rfl
theorem entry_dec {c : UInt8} {cs : List UInt8} {t t1 : Tok} : «bytes.decode» ⟨[.bytes (c :: cs).toArray t, .str (Str.ofString "ascii") t1], []⟩ = (mkStr (Str.ofString "utf-8") >>= fun _ => mkStr (Str.ofString "ascii") >>= fun e => mkStr (Str.ofString "bytes.decode") >>= fun d =>
    call (.builtin "_codecs.decode.text") [.bytes (c :: cs).toArray t, e, .none, d] >>= fun v => ret v) := by kernel_rfl
theorem entry_dec0 {t t1 : Tok} : «bytes.decode» ⟨[.bytes #[] t, .str (Str.ofString "ascii") t1], []⟩ = (rule "bytes.decode.empty" >>= fun _ => retStr Str.empty) := by kernel_rfl
theorem args_dec (a b : Value) : argsOk "bytes.decode" ⟨[a, b], []⟩ := by unfold argsOk; kernel_rfl
theorem entry_encode {x : Str} {t t1 : Tok} : «str.encode» ⟨[.str x t, .str (Str.ofString "ascii") t1], []⟩ = (encodeRoad "str.encode" (.str x t) x (Str.ofString "ascii") none >>= fun v => ret v) := by kernel_rfl
theorem meets_text {b : Array UInt8} {t t1 t2 : Tok} {d : Str} (hb : ∀ c ∈ b.toList, c.toNat < 128) (hz : b.size ≤ 16777216) :
    Meets («_codecs.decode.text» ⟨[.bytes b t, .str (Str.ofString "ascii") t1, .none, .str d t2], []⟩) (fun _ R s => R (.ok (.ret (.str ⟨b.map (·.toNat)⟩ s.toks))) { s with toks := s.toks + 1 }) := by
  refine .of_wp fun prog w A R s h => ?_
  show wpAny _ _ (Bytes.bytesLike _ (.bytes b t) >>= fun r => _) _ _ s
  refine wpAny_bind (wpAny_of_eq KBd.like_eq ?_)
  refine wpAny_bind (wpAny_of_eq KBd.held_eq ?_)
  show wpAny _ _ (decodeRoad _ b (Str.ofString "ascii") none [] >>= fun v => _) _ _ s
  rw [road_dec, run_ascii _ b hb hz]
  refine wpAny_bind (wpAny_bind (wpAny_pure ?_))
  exact wpAny_mkStr (wpAny_pure ⟨_, rfl, h⟩) (by show (b.map (·.toNat)).size ≤ sizeLine; rw [Array.size_map, sizeLine_eq]; exact hz)
theorem meets_dec {b : Array UInt8} {t t1 : Tok} (hb : ∀ c ∈ b.toList, c.toNat < 128) (hz : b.size ≤ 16777216) :
    Meets («bytes.decode» ⟨[.bytes b t, .str (Str.ofString "ascii") t1], []⟩) (fun _ R s => ∀ t' k, R (.ok (.ret (.str ⟨b.map (·.toNat)⟩ t'))) { s with toks := k }) := by
  refine .of_wp fun prog w A R s h => ?_
  obtain ⟨l⟩ := b
  cases l with
  | nil =>
    rw [entry_dec0]
    refine wpAny_bind (wpAny_rule ?_)
    refine wpAny_bind (wpAny_mkStr (wpAny_pure ⟨_, rfl, ?_⟩) (by decide))
    have h1 := h s.toks (s.toks + 1)
    rw [Array.map_empty] at h1
    exact h1
  | cons c cs =>
    rw [entry_dec]
    refine wpAny_bind (wpAny_mkStr ?_ (by decide))
    refine wpAny_bind (wpAny_mkStr ?_ (by decide))
    refine wpAny_bind (wpAny_mkStr ?_ (by decide))
    exact wpAny_bind (call_function_meets KBd.kind_text KBd.plain_text KBd.entry_text (KBd.args_text _ _ _ _) (meets_text hb hz) (wpAny_pure ⟨_, rfl, h _ _⟩))
theorem meets_encode {x : Str} {t t1 : Tok} (hb : ∀ c ∈ x.cps.toList, c < 128) (hz : x.length ≤ 16777216) :
    Meets («str.encode» ⟨[.str x t, .str (Str.ofString "ascii") t1], []⟩) (fun _ R s => ∀ t' k, R (.ok (.ret (.bytes (x.cps.map (·.toUInt8)) t'))) { s with toks := k }) := by
  refine .of_wp fun prog w A R s h => ?_
  rw [entry_encode, road_enc, enc_ascii _ x _ hb hz]
  refine wpAny_bind (wpAny_bind (wpAny_pure ?_))
  exact wpAny_mkBytes (wpAny_pure ⟨_, rfl, h _ _⟩) (by show (x.cps.map (·.toUInt8)).size ≤ sizeLine; rw [Array.size_map, sizeLine_eq]; exact hz)
end
section
variable {prog : Program} {w : World} {A : Around} {E : Value → Shared → Prop} {s : Shared} {b : Array UInt8} {x : Str} {t t1 : Tok}
theorem r_decode {Q : Value → Shared → Prop} (hb : ∀ c ∈ b.toList, c.toNat < 128) (hz : b.size ≤ 16777216) (h : ∀ t' k, Q (.str ⟨b.map (·.toNat)⟩ t') { s with toks := k }) :
    wpAny (model prog w) A (call (.builtin "bytes.decode") [.bytes b t, .str (Str.ofString "ascii") t1]) Q E s :=
  call_meets FB.slot_bytes_decode (typeIs_bytes _ _ _) FB.entry_bytes_decode (args_dec _ _) (meets_dec hb hz) h
theorem r_encode {Q : Value → Shared → Prop} (hb : ∀ c ∈ x.cps.toList, c < 128) (hz : x.length ≤ 16777216) (h : ∀ t' k, Q (.bytes (x.cps.map (·.toUInt8)) t') { s with toks := k }) :
    wpAny (model prog w) A (call (.builtin "str.encode") [.str x t, .str (Str.ofString "ascii") t1]) Q E s :=
  call_meets F.slot_str_encode (typeIs_str _ _ _) F.entry_str_encode (F.args_str_encode_2 _ _) (meets_encode hb hz) h
theorem noRefS : ∀ a, Value.str x t = .ref a → ∃ o, s.heap.get? a = some o ∧ o.dict = none := fun _ e => nomatch e
theorem r_encode_get {M : Model} {pl : Sem Bool} {Q : Value × List Value → Shared → Prop} (h : Q (.builtin "str.encode", [.str x t]) s) : wpAny M A (getMethod (.str x t) (Str.ofString "encode") pl) Q E s := by
  with_reducible exact getMethod_builtin (typeIs_str _ _ _) F.plainAttrs_str F.slot_str_encode F.type_str_encode noRefS h
end

noncomputable def eStep (c : List Int × Int × Int) (b : Int) : List Int × Int × Int :=
  if c.2.1 = 0 then (c.1 ++ [std ((c.2.2 * 256 + b) % 65536 / 4 % 64)], 2, (c.2.2 * 256 + b) % 65536)
  else if c.2.1 = 2 then (c.1 ++ [std ((c.2.2 * 256 + b) % 65536 / 16 % 64)], 4, (c.2.2 * 256 + b) % 65536)
  else (c.1 ++ [std ((c.2.2 * 256 + b) % 65536 / 64 % 64), std ((c.2.2 * 256 + b) % 65536 % 64)], 0, (c.2.2 * 256 + b) % 65536)
def EncP (pre out : List Int) (lb lc : Int) : Prop :=
  (out, lb, lc) = pre.foldl eStep ([], 0, 0) ∧ 0 ≤ lc ∧ lc < 65536 ∧ out.length ≤ 2 * pre.length
theorem encP_lb {pre out : List Int} {lb lc : Int} (h : EncP pre out lb lc) : lb = 0 ∨ lb = 2 ∨ lb = 4 := by
  have aux : ∀ (l : List Int) (c : List Int × Int × Int), (c.2.1 = 0 ∨ c.2.1 = 2 ∨ c.2.1 = 4) → ((l.foldl eStep c).2.1 = 0 ∨ (l.foldl eStep c).2.1 = 2 ∨ (l.foldl eStep c).2.1 = 4) := by
    intro l
    induction l with
    | nil => intro c h; exact h
    | cons x r ih =>
      intro c h
      refine ih _ ?_
      unfold eStep
      split
      · exact .inr (.inl rfl)
      · split
        · exact .inr (.inr rfl)
        · exact .inl rfl
  have h1 := aux pre ([], 0, 0) (.inl rfl)
  rw [← h.1] at h1
  exact h1
theorem encP_nil : EncP [] [] 0 0 := ⟨rfl, by decide, by decide, by decide⟩
theorem encP_bnd {pre out : List Int} {lb lc : Int} (h : EncP pre out lb lc) : 0 ≤ lc ∧ lc < 65536 ∧ out.length ≤ 2 * pre.length := h.2
theorem encP_size {pre out : List Int} {lb lc : Int} {vs : List Value} (h : EncP pre out lb lc) (hi : IntsAre vs out) (hl : pre.length ≤ 6) : vs.length ≤ 12 := by
  have h1 := hi.length
  have h2 := h.2.2.2
  omega
theorem encP_0 {pre out : List Int} {lb lc n : Int} (h : EncP pre out 0 lc) (hl : lb = 2) : EncP (pre ++ [n]) (out ++ [std ((lc * 256 + n) % 65536 / 4 % 64)]) lb ((lc * 256 + n) % 65536) := by
  obtain ⟨h1, h2, h3, h4⟩ := h
  refine ⟨?_, by omega, by omega, by simp only [List.length_append, List.length_cons, List.length_nil]; omega⟩
  rw [List.foldl_append, ← h1, hl]
  rfl
theorem encP_2 {pre out : List Int} {lb lc n : Int} (h : EncP pre out 2 lc) (hl : lb = 4) : EncP (pre ++ [n]) (out ++ [std ((lc * 256 + n) % 65536 / 16 % 64)]) lb ((lc * 256 + n) % 65536) := by
  obtain ⟨h1, h2, h3, h4⟩ := h
  refine ⟨?_, by omega, by omega, by simp only [List.length_append, List.length_cons, List.length_nil]; omega⟩
  rw [List.foldl_append, ← h1, hl]
  rfl
theorem encP_4 {pre out : List Int} {lb lc n : Int} (h : EncP pre out 4 lc) (hl : lb = 0) : EncP (pre ++ [n]) ((out ++ [std ((lc * 256 + n) % 65536 / 64 % 64)]) ++ [std ((lc * 256 + n) % 65536 / 1 % 64)]) lb ((lc * 256 + n) % 65536) := by
  obtain ⟨h1, h2, h3, h4⟩ := h
  refine ⟨?_, by omega, by omega, by simp only [List.length_append, List.length_cons, List.length_nil]; omega⟩
  rw [List.foldl_append, ← h1, hl, Int.ediv_one, List.append_assoc]
  rfl
noncomputable def encFin (c : List Int × Int × Int) : List Int :=
  if c.2.1 = 2 then c.1 ++ [std (c.2.2 % 4 * 16)] ++ [61] ++ [61] else if c.2.1 = 4 then c.1 ++ [std (c.2.2 % 16 * 4)] ++ [61] else c.1
/-- what b2a_base64 writes -/
noncomputable def enc0 (l : List Int) : List Int := encFin (l.foldl eStep ([], 0, 0))
/-- a law of a figure, by looking at all of them -/
theorem fin64 {P : Int → Prop} (h : ∀ k : Fin 64, P (k.val : Int)) {d : Int} (h0 : 0 ≤ d) (h1 : d < 64) : P d := by
  obtain ⟨n, rfl⟩ := Int.eq_ofNat_of_zero_le h0
  exact h ⟨n, by omega⟩
theorem std_in {d : Int} (h0 : 0 ≤ d) (h1 : d < 64) : 0 ≤ std d ∧ std d < 256 := fin64 (P := fun d => 0 ≤ std d ∧ std d < 256) (by decide +kernel) h0 h1
theorem encP_in {pre out : List Int} {lb lc : Int} (h : EncP pre out lb lc) : KBa.In out := by
  have aux : ∀ (l : List Int) (c : List Int × Int × Int), KBa.In c.1 → KBa.In (l.foldl eStep c).1 := by
    intro l
    induction l with
    | nil => intro c h; exact h
    | cons x r ih =>
      intro c h
      refine ih _ ?_
      have hs : ∀ y : Int, 0 ≤ std (y % 64) ∧ std (y % 64) < 256 := fun y => std_in (by omega) (by omega)
      unfold eStep
      split
      · intro n hn
        rcases List.mem_append.mp hn with hn | hn
        · exact h n hn
        · rw [List.mem_singleton.mp hn]; exact hs _
      · split
        · intro n hn
          rcases List.mem_append.mp hn with hn | hn
          · exact h n hn
          · rw [List.mem_singleton.mp hn]; exact hs _
        · intro n hn
          rcases List.mem_append.mp hn with hn | hn
          · exact h n hn
          · rcases List.mem_cons.mp hn with hn | hn
            · rw [hn]; exact hs _
            · rw [List.mem_singleton.mp hn]; exact hs _
  have h1 := aux pre ([], 0, 0) (fun _ hn => nomatch hn)
  rw [← h.1] at h1
  exact h1
theorem in_app {xs : List Int} {y : Int} (h : KBa.In xs) (h0 : 0 ≤ y ∧ y < 256) : KBa.In (xs ++ [y]) := by
  intro n hn
  rcases List.mem_append.mp hn with hn | hn
  · exact h n hn
  · rw [List.mem_singleton.mp hn]; exact h0
theorem encP_end {pre out : List Int} {lb lc : Int} (h : EncP pre out lb lc) : enc0 pre = encFin (out, lb, lc) := by
  unfold enc0; rw [h.1]
theorem eStep_in (l : List Int) : ∀ c : List Int × Int × Int, KBa.In c.1 → KBa.In (l.foldl eStep c).1 := by
  induction l with
  | nil => intro c h; exact h
  | cons x r ih =>
    intro c h
    refine ih _ ?_
    have hs : ∀ y : Int, 0 ≤ std (y % 64) ∧ std (y % 64) < 256 := fun y => std_in (by omega) (by omega)
    unfold eStep
    split
    · exact in_app h (hs _)
    · split
      · exact in_app h (hs _)
      · have h2 := in_app (in_app h (hs ((c.2.2 * 256 + x) % 65536 / 64))) (hs ((c.2.2 * 256 + x) % 65536))
        rw [List.append_assoc] at h2
        exact h2
theorem enc0_in (l : List Int) : KBa.In (enc0 l) := by
  have h := eStep_in l ([], 0, 0) (fun _ hn => nomatch hn)
  unfold enc0 encFin
  split
  · exact in_app (in_app (in_app h (std_in (by omega) (by omega))) (by decide)) (by decide)
  · split
    · exact in_app (in_app h (std_in (by omega) (by omega))) (by decide)
    · exact h
theorem enc0_len (l : List Int) : (enc0 l).length ≤ 2 * l.length + 3 := by
  have aux : ∀ (l : List Int) (c : List Int × Int × Int), (l.foldl eStep c).1.length ≤ c.1.length + 2 * l.length := by
    intro l
    induction l with
    | nil => intro c; exact Nat.le_refl _
    | cons x r ih =>
      intro c
      refine Nat.le_trans (ih _) ?_
      unfold eStep
      split
      · simp only [List.length_append, List.length_cons, List.length_nil]; omega
      · split <;> (simp only [List.length_append, List.length_cons, List.length_nil]; omega)
  have h := aux l ([], 0, 0)
  simp only [List.length_nil] at h
  unfold enc0 encFin
  split
  · simp only [List.length_append, List.length_cons, List.length_nil]; omega
  · split
    · simp only [List.length_append, List.length_cons, List.length_nil]; omega
    · omega
/-- the alternative signs -/
noncomputable def toAlt (c : Int) : Int := if c = 43 then 60 else if c = 47 then 62 else c
noncomputable def fromAlt (c : Int) : Int := if c = 60 then 43 else if c = 62 then 47 else c
theorem trans_alt {ns : List Int} (h : KBa.In ns) : (byteArr ns).map (fun c => (transTab [43, 47] [60, 62]).getD c.toNat c) = byteArr (ns.map toAlt) := by
  unfold byteArr
  rw [List.map_toArray, List.map_map, List.map_map]
  congr 1
  apply List.map_congr_left
  intro n hn
  have hb := h n hn
  obtain ⟨k, rfl⟩ := Int.eq_ofNat_of_zero_le hb.1
  have key : ∀ k : Fin 256, (transTab [43, 47] [60, 62]).getD ((k.val : Int).toNat.toUInt8).toNat ((k.val : Int).toNat.toUInt8) = (toAlt (k.val : Int)).toNat.toUInt8 := by decide +kernel
  exact key ⟨k, by omega⟩
theorem trans_back {ns : List Int} (h : KBa.In ns) : (byteArr ns).map (fun c => (transTab [60, 62] [43, 47]).getD c.toNat c) = byteArr (ns.map fromAlt) := by
  unfold byteArr
  rw [List.map_toArray, List.map_map, List.map_map]
  congr 1
  apply List.map_congr_left
  intro n hn
  have hb := h n hn
  obtain ⟨k, rfl⟩ := Int.eq_ofNat_of_zero_le hb.1
  have key : ∀ k : Fin 256, (transTab [60, 62] [43, 47]).getD ((k.val : Int).toNat.toUInt8).toNat ((k.val : Int).toNat.toUInt8) = (fromAlt (k.val : Int)).toNat.toUInt8 := by decide +kernel
  exact key ⟨k, by omega⟩
/-- a sign that b2a_base64 writes -/
def Sgn (n : Int) : Prop := n = 61 ∨ ∃ d : Int, 0 ≤ d ∧ d < 64 ∧ n = std d
/-- a sign of the alternative writing -/
def Alt (c : Int) : Prop := (48 ≤ c ∧ c ≤ 57) ∨ (65 ≤ c ∧ c ≤ 90) ∨ (97 ≤ c ∧ c ≤ 122) ∨ c = 60 ∨ c = 61 ∨ c = 62
theorem sgn_app {xs : List Int} {y : Int} (h : ∀ n ∈ xs, Sgn n) (h0 : Sgn y) : ∀ n ∈ xs ++ [y], Sgn n := by
  intro n hn
  rcases List.mem_append.mp hn with hn | hn
  · exact h n hn
  · rw [List.mem_singleton.mp hn]; exact h0
theorem eStep_sgn (l : List Int) : ∀ c : List Int × Int × Int, (∀ n ∈ c.1, Sgn n) → ∀ n ∈ (l.foldl eStep c).1, Sgn n := by
  induction l with
  | nil => intro c h; exact h
  | cons x r ih =>
    intro c h
    refine ih _ ?_
    have hs : ∀ y : Int, Sgn (std (y % 64)) := fun y => .inr ⟨y % 64, by omega, by omega, rfl⟩
    unfold eStep
    split
    · exact sgn_app h (hs _)
    · split
      · exact sgn_app h (hs _)
      · have h2 := sgn_app (sgn_app h (hs ((c.2.2 * 256 + x) % 65536 / 64))) (hs ((c.2.2 * 256 + x) % 65536))
        rw [List.append_assoc] at h2
        exact h2
theorem enc0_sgn (l : List Int) : ∀ n ∈ enc0 l, Sgn n := by
  have h := eStep_sgn l ([], 0, 0) (fun _ hn => nomatch hn)
  unfold enc0 encFin
  split
  · exact sgn_app (sgn_app (sgn_app h (.inr ⟨_, by omega, by omega, rfl⟩)) (.inl rfl)) (.inl rfl)
  · split
    · exact sgn_app (sgn_app h (.inr ⟨_, by omega, by omega, rfl⟩)) (.inl rfl)
    · exact h
theorem alt_of {n : Int} (h : Sgn n) : Alt (toAlt n) := by
  rcases h with rfl | ⟨d, h0, h1, rfl⟩
  · unfold Alt; decide
  · exact fin64 (P := fun d => Alt (toAlt (std d))) (by unfold Alt; decide +kernel) h0 h1
/-- ints as a text -/
noncomputable def txt (ns : List Int) : Str := ⟨(ns.map Int.toNat).toArray⟩
/-- what the alternative writing of octets is -/
noncomputable def encA (l : List Int) : List Int := (enc0 l).map toAlt
theorem encA_alt (l : List Int) : ∀ n ∈ encA l, Alt n := by
  intro n hn
  obtain ⟨m, hm, rfl⟩ := List.mem_map.mp hn
  exact alt_of (enc0_sgn l m hm)
theorem alt_in {n : Int} (h : Alt n) : 0 ≤ n ∧ n < 128 := by unfold Alt at h; omega
theorem encA_len (l : List Int) : (encA l).length ≤ 2 * l.length + 3 := by
  unfold encA; rw [List.length_map]; exact enc0_len l
theorem bytes_txt {ns : List Int} (h : ∀ n ∈ ns, 0 ≤ n ∧ n < 256) : (byteArr ns).map (·.toNat) = (txt ns).cps := by
  unfold byteArr txt
  rw [List.map_toArray, List.map_map]
  congr 1
  apply List.map_congr_left
  intro n hn
  have hb := h n hn
  show n.toNat.toUInt8.toNat = n.toNat
  show n.toNat % 256 = n.toNat
  omega
theorem bytes_asc {ns : List Int} (h : ∀ n ∈ ns, 0 ≤ n ∧ n < 128) : ∀ c ∈ (byteArr ns).toList, c.toNat < 128 := by
  intro c hc
  unfold byteArr at hc
  obtain ⟨n, hn, rfl⟩ := List.mem_map.mp (by simpa using hc)
  have hb := h n hn
  show n.toNat % 256 < 128
  omega
theorem txt_bytes (ns : List Int) : (txt ns).cps.map (·.toUInt8) = byteArr ns := by
  unfold byteArr txt
  rw [List.map_toArray, List.map_map]
  rfl
theorem txt_asc {ns : List Int} (h : ∀ n ∈ ns, 0 ≤ n ∧ n < 128) : ∀ c ∈ (txt ns).cps.toList, c < 128 := by
  intro c hc
  unfold txt at hc
  obtain ⟨n, hn, rfl⟩ := List.mem_map.mp (by simpa using hc)
  have hb := h n hn
  omega
theorem txt_len (ns : List Int) : (txt ns).length = ns.length := by
  unfold txt; show (ns.map Int.toNat).toArray.size = ns.length; simp
theorem encFin_2 {out : List Int} {lb lc : Int} (h : lb = 2) : encFin (out, lb, lc) = out ++ [std (lc % 4 * 16)] ++ [61] ++ [61] := if_pos h
theorem encFin_4 {out : List Int} {lb lc : Int} (h : lb = 4) : encFin (out, lb, lc) = out ++ [std (lc % 16 * 4)] ++ [61] := by
  subst h
  rfl
theorem encFin_n {out : List Int} {lb lc : Int} (h : lb ≠ 2) (h2 : lb ≠ 4) : encFin (out, lb, lc) = out := (if_neg h).trans (if_neg h2)
/-- a fact that the arithmetic is not to see -/
def Aside (p : Prop) : Prop := p
theorem Aside.mk {p : Prop} (h : p) : Aside p := h
theorem Aside.out {p : Prop} (h : Aside p) : p := h

example : PySem.Challenge.rw_qh0087_01 = PySem.Challenge.rw_qh0087_01 ∧ hd.heap_39 = hd.heap_39 := by
  w_on
  k_fill
  exact ⟨rfl, rfl⟩

-- the words of the walks are asked first; they stand from here to the end of the text
local macro_rules | `(tactic| walk_at $s:str) => `(tactic| k_extra $s)
example : True := by
  (k_with "open def" => (unfold Tell; intro prog9 w9 p9 loose9 mean9 mg9 mb9 dp9 un9 gd9 cn9 cs9 a9 ccd9 cl9 outer9 A₀9 base9 h₀9 L9 m9 news9 s9 Q9 E9 B9 F9 X9 N9 T9 hk9 hd9 hu9 hret9; refine wpAny_call ?_; k_dflt (refine' enter0 ?k1 ?k2 ?k3 ?k4 ?k5 ?kA ?kF ?kK ?k6 ?k7 ?k8 ?k9 ?kB ?kR ?_ ?c2 ?c3 ?c4 ?c5; (case kA => exact rfl); (case kF => exact rfl); (case kK => assumption); (case k1 => k_asm); (case k2 => k_asm); (case k3 => k_asm); (case k4 => k_asm); (case k5 => k_asm); (case k6 => k_is); (case k7 => k_is); (case k8 => ktr_room); (case k9 => first | exact BindsTo.of_eq rfl | exact binds_K (by k_in) rfl (by k_is) rfl rfl rfl); (case c5 => decide); (case kB => exact locs rfl); (case kR => exact hret9); (case c2 => exact rfl); (case c3 => exact rfl); (case c4 => exact rfl); k_whole); clear B9 F9 X9 N9 T9 hk9 hret9; have iNil : IntsAre [] [] := IntsAre.nil; intro g' L' h' tk' F' N' B' X' T'; (try dsimp only); (try k_fold)))
  (k_with "open cells" => (unfold Tell; intro prog9 w9 p9 loose9 mean9 mg9 mb9 dp9 un9 gd9 cn9 cs9 a9 ccd9 cl9 outer9 A₀9 base9 h₀9 L9 m9 news9 s9 Q9 E9 B9 F9 X9 N9 T9 hk9 hd9 hu9 hret9; refine wpAny_call ?_; k_dflt (refine' enter0C ?k1 ?k2 ?k3 ?k4 ?k5 ?kA ?kF ?kK ?k6 ?k7 ?k8 ?k9 ?kB ?kD ?kR ?_ ?c2 ?c3 ?c4; (case kA => exact rfl); (case kF => exact rfl); (case kK => assumption); (case k1 => k_asm); (case k2 => k_asm); (case k3 => k_asm); (case k4 => k_asm); (case k5 => k_asm); (case k6 => k_is); (case k7 => k_is); (case k8 => ktr_room); (case k9 => exact BindsTo.of_eq rfl); (case kB => exact rfl); (case kD => decide +kernel); (case kR => exact hret9); (case c2 => exact rfl); (case c3 => exact rfl); (case c4 => exact rfl); k_whole); clear B9 F9 X9 N9 T9 hk9 hret9; have iNil : IntsAre [] [] := IntsAre.nil; intro g' L' h' tk' cells' F' N' Y' B' X' T'; k_cells Y'; (try simp only [List.cons_append, List.nil_append] at N'); (try dsimp only); (try k_fold)))
  (k_with "open one" => (unfold Tell1; intro prog9 w9 p9 loose9 mean9 mg9 mb9 dp9 un9 gd9 cn9 cs9 ca9 ccd9 cl9 outer9 A₀9 base9 h₀9 L9 m9 news9 s9 Q9 E9 B9 F9 X9 N9 hm9 T9 hk9 hd9 hu9 hret9; refine wpAny_call ?_; k_dflt (refine' enter1 ?k1 ?k2 ?k3 ?k4 ?km ?k5 ?kA ?kF ?kK ?k6 ?k7 ?k8 ?k9 ?kB ?kR ?_ ?c2 ?c3 ?c4 ?c5; (case kA => exact rfl); (case kF => exact rfl); (case kK => assumption); (case k1 => k_asm); (case k2 => k_asm); (case k3 => k_asm); (case k4 => k_asm); (case km => exact hm9); (case k5 => k_asm); (case k6 => k_is); (case k7 => k_is); (case k8 => ktr_room); (case k9 => first | exact BindsTo.of_eq rfl | exact binds_K (by k_in) rfl (by k_is) rfl rfl rfl); (case c5 => decide); (case kB => exact locs rfl); (case kR => exact hret9); (case c2 => exact rfl); (case c3 => exact rfl); (case c4 => exact rfl); k_whole); clear B9 F9 X9 N9 hm9 T9 hk9 hret9; have iNil : IntsAre [] [] := IntsAre.nil; intro g' L' h' tk' F' N' lt' B' X' T'; (try dsimp only); (try k_fold)))
  (k_with "open made" => (unfold Tell2; intro prog9 w9 p9 loose9 mean9 mg9 mb9 dp9 un9 gd9 cn9 cs9 ca9 ccd9 cl9 outer9 A₀9 base9 h₀9 L9 m9 news9 s9 Q9 E9 B9 F9 X9 N9 T9 hk9 hd9 hu9 hret9; refine wpAny_call ?_; k_dflt (refine' enter2 ?k1 ?k2 ?k3 ?k4 ?k5 ?kA ?kF ?kK ?k6 ?k7 ?k8 ?k9 ?kB ?kR ?_ ?c2 ?c3 ?c4 ?c5; (case kA => exact rfl); (case kF => exact rfl); (case kK => assumption); (case k1 => k_asm); (case k2 => k_asm); (case k3 => k_asm); (case k4 => k_asm); (case k5 => k_asm); (case k6 => k_is); (case k7 => k_is); (case k8 => ktr_room); (case k9 => first | exact BindsTo.of_eq rfl | exact binds_K (by k_in) rfl (by k_is) rfl rfl rfl); (case c5 => decide); (case kB => exact locs rfl); (case kR => exact hret9); (case c2 => exact rfl); (case c3 => exact rfl); (case c4 => exact rfl); k_whole); clear B9 F9 X9 N9 T9 hk9 hret9; have iNil : IntsAre [] [] := IntsAre.nil; intro g' L' h' tk' F' N' B' X' T'; (try dsimp only); (try k_fold)))
  (k_with "tail 1" => ((case k1 => k_asm); (case k2 => k_asm); (case k3 => k_asm); (case k4 => k_asm)))
  (k_with "tail 2" => ((case k5 => k_asm); (case kK => first | exact rfl | assumption); (case kd => ktr_room); (case ku => ktr_units)))
  (k_with "tail 3" => (intro v' h' tk' hv' F' N'; (first | (obtain ⟨t', e'⟩ := hv'; subst e') | subst hv'); (try k_sweep); (try dsimp only); (try k_fold)))
  (k_with "tail 4" => (intro q' o' h' tk' hv' F' N'; (try (obtain ⟨t1', t2', t3', n', e'⟩ := hv'; subst e')); (try k_sweep); (try dsimp only); (try k_fold)))
  (k_with "premise" => first | assumption | omega | (simp only [List.length_append, List.length_cons, List.length_nil]; omega))
  (k_with "call type:type" => (k_here; (with_reducible show wpAny _ _ (call (Value.type "type") [Value.bytes _ _]) _ _ _); (with_reducible refine r_type_bytes ?_)))
  (k_with "binaryOp BitAnd int int" => (k_here; with_reducible (first | refine r_and3 ?_ | refine r_and15 ?_ | refine r_and63 ?_ | refine r_and16 ?_)))
  (k_with "binaryOp BitOr int int" => (k_here; first | refine r_or (c := 4) 2 (by decide) (by omega) (by omega) (by omega) ?_ | refine r_or (c := 16) 4 (by decide) (by omega) (by omega) (by omega) ?_ | refine r_or (c := 64) 6 (by decide) (by omega) (by omega) (by omega) ?_ | refine r_or (c := 256) 8 (by decide) (by omega) (by omega) (by omega) ?_))
  (k_with "binaryOp LShift int int" => (k_here; first | refine r_shl 4 (by decide) (by decide) (by decide) (by omega) (by omega) ?_ | refine r_shl 16 (by decide) (by decide) (by decide) (by omega) (by omega) ?_ | refine r_shl 64 (by decide) (by decide) (by decide) (by omega) (by omega) ?_ | refine r_shl 256 (by decide) (by decide) (by decide) (by omega) (by omega) ?_))
  (k_with "binaryOp RShift int int" => (k_here; first | refine r_shr 1 (by decide) (by decide) (by decide) ?_ | refine r_shr 4 (by decide) (by decide) (by decide) ?_ | refine r_shr 16 (by decide) (by decide) (by decide) ?_ | refine r_shr 64 (by decide) (by decide) (by decide) ?_))
  (k_with "subscriptTail Name BinOp bytes int" => (k_here; k_dflt (refine r_b64 ?k1 ?k2 ?_; (case k1 => omega); (case k2 => omega))))
  (k_with "call builtin:list.append" => (k_here; (with_reducible show wpAny _ _ (call (Value.builtin _) _) _ _ _); k_dflt (refine' append_K ?k1 ?k2 ?k3 ?_ ?z; (case k1 => k_asm); (case k2 => k_asm); (case k3 => k_upd); (case z => (simp only [List.size_toArray, Array.size_push, sizeLine_eq]; omega)); k_whole); intro h' F' N'; (try k_sweep)))
  (k_with "call type:bytes" => (k_here; (with_reducible show wpAny _ _ (call (Value.type "bytes") [Value.ref _]) _ _ _); (rename News _ _ _ _ => nE'); (try simp only [List.push_toArray] at nE'); k_dflt (refine' KBa.make_K ?kbaF nE' ?kbah (News.isList nE' (by k_mem)) ?kbai ?kbar ?kban ?_; (case kbaF => k_asm); (case kbah => rfl); (case kbai => k_intsEnd); (case kbar => k_extra "bytes in"); (case kban => ((try simp only [List.length_append, List.length_cons, List.length_nil]); omega))); intro _ _ _ F' N' kbaIn))
  (k_with "getMethod bytes" => (k_here; (with_reducible refine r_translate_get ?_)))
  (k_with "getMethod type:bytes" => (k_here; k_dflt (refine' r_maketrans_get ?k1 ?k2 ?k3 ?_; (case k1 => k_asm); (case k2 => k_asm); (case k3 => k_is); k_whole)))
  (k_with "call builtin:bytes.maketrans" => (k_here; k_dflt (refine r_maketrans (by rfl) ?_); intro _ _))
  (k_with "call builtin:bytes.translate" => (k_here; k_dflt (refine r_translate (transTab_size _ _) (by omega) ?_); intro _ _))
  (k_with "getMethod str" => (k_here; (with_reducible refine r_encode_get ?_)))
  (k_with "call builtin:bytes.decode" => (k_here; k_dflt (refine r_decode ?k1 ?k2 ?_; (case k1 => k_extra "ascii"); (case k2 => first | omega | k_extra "size")); intro _ _))
  (k_with "call builtin:str.encode" => (k_here; k_dflt (refine r_encode ?k1 ?k2 ?_; (case k1 => k_extra "ascii"); (case k2 => first | omega | k_extra "size")); intro _ _))
  (k_with "compareOp Eq int int" => (k_here; with_reducible refine r_eq_no (by assumption) ?_))
  trivial
noncomputable def b64v (c : Int) : Int := if 65 ≤ c ∧ c ≤ 90 then c - 65 else if 97 ≤ c ∧ c ≤ 122 then c - 71 else if 48 ≤ c ∧ c ≤ 57 then c + 4 else if c = 43 then 62 else if c = 47 then 63 else 64

theorem b64v_1 {c : Int} (h1 : 65 ≤ c) (h2 : c ≤ 90) : c - 65 = b64v c := (if_pos ⟨h1, h2⟩).symm
theorem b64v_2 {c : Int} (h1 : 97 ≤ c) (h2 : c ≤ 122) : c - 71 = b64v c := by
  unfold b64v
  rw [if_neg (by omega), if_pos ⟨h1, h2⟩]
theorem b64v_3 {c : Int} (h1 : 48 ≤ c) (h2 : c ≤ 57) : c + 4 = b64v c := by
  unfold b64v
  rw [if_neg (by omega), if_neg (by omega), if_pos ⟨h1, h2⟩]
theorem b64v_4 : (62 : Int) = b64v 43 := by decide
theorem b64v_5 : (63 : Int) = b64v 47 := by decide
theorem b64v_6 {c : Int} (h1 : ¬ (65 ≤ c ∧ c ≤ 90)) (h2 : ¬ (97 ≤ c ∧ c ≤ 122)) (h3 : ¬ (48 ≤ c ∧ c ≤ 57)) (h4 : c ≠ 43) (h5 : c ≠ 47) : 64 = b64v c := by
  unfold b64v
  rw [if_neg h1, if_neg h2, if_neg h3, if_neg h4, if_neg h5]
theorem nand_l {p q : Prop} (h : ¬ p) : ¬ (p ∧ q) := fun x => h x.1
theorem nand_r {p q : Prop} (h : ¬ q) : ¬ (p ∧ q) := fun x => h x.2
set_option maxHeartbeats 8000000 in
theorem t_b64_value (c : Int) (t : Tok) : Tell 1 77 [.int c t] [] (fun v => ∃ t', v = .int (b64v c) t') := by
  k_extra "open def"
  w_strict k_steps
  all_goals (refine EndOf.intro (by k_asm) ?_)
  all_goals (refine ⟨_, congrArg (fun x => Value.int x _) ?_⟩; first
    | exact b64v_1 (by assumption) (by assumption)
    | exact b64v_2 (by assumption) (by assumption)
    | exact b64v_3 (by assumption) (by assumption)
    | (subst_vars; exact b64v_4)
    | (subst_vars; exact b64v_5)
    | exact b64v_6 (by first | exact nand_l (by assumption) | exact nand_r (by assumption)) (by first | exact nand_l (by assumption) | exact nand_r (by assumption)) (by first | exact nand_l (by assumption) | exact nand_r (by assumption)) (by assumption) (by assumption)
    | (unfold b64v; (repeat' split) <;> omega))
example : True := by
  (k_with "call ref" => (k_here; k_dflt (refine' Tell.use (t_b64_value _ _) ?k1 ?k2 ?k3 ?k4 ?k5 ?kK ?kd ?ku ?_; k_extra "tail 1"; k_extra "tail 2"); k_extra "tail 3"))
  trivial
/-- the figures of octets: six bits each -/
noncomputable def digs : List Int → List Int
  | [] => []
  | [a] => [a / 4, a % 4 * 16]
  | [a, b] => [a / 4, a % 4 * 16 + b / 16, b % 16 * 4]
  | a :: b :: c :: r => a / 4 :: (a % 4 * 16 + b / 16) :: (b % 16 * 4 + c / 64) :: c % 64 :: digs r
noncomputable def padN : List Int → Nat
  | [] => 0
  | [_] => 2
  | [_, _] => 1
  | _ :: _ :: _ :: r => padN r
def Oct (l : List Int) : Prop := ∀ n ∈ l, 0 ≤ n ∧ n < 256
theorem Oct.head {a : Int} {l : List Int} (h : Oct (a :: l)) : 0 ≤ a ∧ a < 256 := h a (.head _)
theorem Oct.tail {a : Int} {l : List Int} (h : Oct (a :: l)) : Oct l := fun n hn => h n (.tail _ hn)
theorem eStep_0 (out : List Int) (lc n : Int) : eStep (out, 0, lc) n = (out ++ [std ((lc * 256 + n) % 65536 / 4 % 64)], 2, (lc * 256 + n) % 65536) := rfl
theorem eStep_2 (out : List Int) (lc n : Int) : eStep (out, 2, lc) n = (out ++ [std ((lc * 256 + n) % 65536 / 16 % 64)], 4, (lc * 256 + n) % 65536) := rfl
theorem eStep_4 (out : List Int) (lc n : Int) : eStep (out, 4, lc) n = (out ++ [std ((lc * 256 + n) % 65536 / 64 % 64), std ((lc * 256 + n) % 65536 % 64)], 0, (lc * 256 + n) % 65536) := rfl
theorem two_low {p y : Int} (h0 : 0 ≤ y) (h1 : y < 256) : (p * 256 + y) % 65536 = p % 256 * 256 + y := by omega
section
variable {p y : Int} (h0 : 0 ≤ y) (h1 : y < 256)
include h0 h1
theorem two_own : (p * 256 + y) % 256 = y := by omega
theorem two_4 : (p * 256 + y) / 4 % 64 = y / 4 := by omega
theorem two_m4 : (p * 256 + y) % 4 = y % 4 := by omega
theorem two_16 : (p * 256 + y) / 16 % 64 = p % 4 * 16 + y / 16 := by omega
theorem two_m16 : (p * 256 + y) % 16 = y % 16 := by omega
theorem two_64 : (p * 256 + y) / 64 % 64 = p % 16 * 4 + y / 64 := by omega
theorem two_m64 : (p * 256 + y) % 64 = y % 64 := by omega
end
theorem enc_gen : ∀ (l out : List Int) (lc : Int), Oct l → encFin (l.foldl eStep (out, 0, lc)) = out ++ ((digs l).map std ++ List.replicate (padN l) 61)
  | [], out, lc, _ => by simp [encFin, digs, padN]
  | [a], out, lc, h => by
    obtain ⟨a0, a1⟩ := h.head
    rw [List.foldl_cons, eStep_0, List.foldl_nil, two_low a0 a1, two_4 a0 a1]
    show (out ++ [std (a / 4)]) ++ [std ((lc % 256 * 256 + a) % 4 * 16)] ++ [61] ++ [61] = _
    rw [two_m4 a0 a1]
    simp [digs, padN]
  | [a, b], out, lc, h => by
    obtain ⟨a0, a1⟩ := h.head
    obtain ⟨b0, b1⟩ := h.tail.head
    rw [List.foldl_cons, List.foldl_cons, eStep_0, eStep_2, List.foldl_nil, two_low a0 a1, two_4 a0 a1, two_low b0 b1, two_own a0 a1, two_16 b0 b1]
    show (out ++ [std (a / 4)] ++ [std (a % 4 * 16 + b / 16)]) ++ [std ((a * 256 + b) % 16 * 4)] ++ [61] = _
    rw [two_m16 b0 b1]
    simp [digs, padN]
  | a :: b :: c :: r, out, lc, h => by
    obtain ⟨a0, a1⟩ := h.head
    obtain ⟨b0, b1⟩ := h.tail.head
    obtain ⟨c0, c1⟩ := h.tail.tail.head
    rw [List.foldl_cons, List.foldl_cons, List.foldl_cons, eStep_0, eStep_2, eStep_4, two_low a0 a1, two_4 a0 a1, two_low b0 b1, two_own a0 a1, two_16 b0 b1, two_low c0 c1, two_own b0 b1, two_64 c0 c1, two_m64 c0 c1, enc_gen r _ _ h.tail.tail.tail]
    simp [digs, padN]
theorem enc0_eq {l : List Int} (h : Oct l) : enc0 l = (digs l).map std ++ List.replicate (padN l) 61 := by
  have := enc_gen l [] 0 h
  rw [List.nil_append] at this
  exact this
theorem fg_4 {a : Int} (a0 : 0 ≤ a ∧ a < 256) : 0 ≤ a / 4 ∧ a / 4 < 64 := by omega
theorem fg_m4 {a : Int} : 0 ≤ a % 4 * 16 ∧ a % 4 * 16 < 64 := by omega
theorem fg_m16 {a : Int} : 0 ≤ a % 16 * 4 ∧ a % 16 * 4 < 64 := by omega
theorem fg_m64 {a : Int} : 0 ≤ a % 64 ∧ a % 64 < 64 := ⟨Int.emod_nonneg _ (by decide), Int.emod_lt_of_pos _ (by decide)⟩
theorem fg_16 {a b : Int} (b0 : 0 ≤ b ∧ b < 256) : 0 ≤ a % 4 * 16 + b / 16 ∧ a % 4 * 16 + b / 16 < 64 := by omega
theorem fg_64 {a b : Int} (b0 : 0 ≤ b ∧ b < 256) : 0 ≤ a % 16 * 4 + b / 64 ∧ a % 16 * 4 + b / 64 < 64 := by omega
theorem digs_in : ∀ l : List Int, Oct l → ∀ d ∈ digs l, 0 ≤ d ∧ d < 64
  | [], _ => List.forall_mem_nil _
  | [a], h => List.forall_mem_cons.mpr ⟨fg_4 h.head, List.forall_mem_cons.mpr ⟨fg_m4, List.forall_mem_nil _⟩⟩
  | [a, b], h => List.forall_mem_cons.mpr ⟨fg_4 h.head, List.forall_mem_cons.mpr ⟨fg_16 h.tail.head, List.forall_mem_cons.mpr ⟨fg_m16, List.forall_mem_nil _⟩⟩⟩
  | a :: b :: c :: r, h => List.forall_mem_cons.mpr ⟨fg_4 h.head, List.forall_mem_cons.mpr ⟨fg_16 h.tail.head, List.forall_mem_cons.mpr ⟨fg_64 h.tail.tail.head, List.forall_mem_cons.mpr ⟨fg_m64, digs_in r h.tail.tail.tail⟩⟩⟩⟩
/-- a2b_base64's turn at a figure -/
noncomputable def dDig (c : List Int × Int × Int) (d : Int) : List Int × Int × Int :=
  if c.2.1 = 0 then (c.1, 1, d)
  else if c.2.1 = 1 then (c.1 ++ [c.2.2 * 4 + d / 16], 2, d % 16)
  else if c.2.1 = 2 then (c.1 ++ [c.2.2 * 16 + d / 4], 3, d % 4)
  else (c.1 ++ [c.2.2 * 64 + d], 0, 0)
theorem dDig_0 (out : List Int) (lc d : Int) : dDig (out, 0, lc) d = (out, 1, d) := rfl
theorem dDig_1 (out : List Int) (lc d : Int) : dDig (out, 1, lc) d = (out ++ [lc * 4 + d / 16], 2, d % 16) := rfl
theorem dDig_2 (out : List Int) (lc d : Int) : dDig (out, 2, lc) d = (out ++ [lc * 16 + d / 4], 3, d % 4) := rfl
theorem dDig_3 (out : List Int) (lc d : Int) : dDig (out, 3, lc) d = (out ++ [lc * 64 + d], 0, 0) := rfl
theorem dec_gen : ∀ (l out : List Int) (lc : Int), Oct l → ((digs l).foldl dDig (out, 0, lc)).1 = out ++ l ∧ (((digs l).foldl dDig (out, 0, lc)).2.1 = 0 ∧ padN l = 0 ∨ ((digs l).foldl dDig (out, 0, lc)).2.1 = 2 ∧ padN l = 2 ∨ ((digs l).foldl dDig (out, 0, lc)).2.1 = 3 ∧ padN l = 1)
  | [], out, lc, _ => by simp [digs, padN]
  | [a], out, lc, h => by
    have ha := h.head
    have e1 : a / 4 * 4 + a % 4 * 16 / 16 = a := by omega
    simp only [digs, List.foldl_cons, List.foldl_nil, dDig_0, dDig_1, e1]
    simp [padN]
  | [a, b], out, lc, h => by
    have ha := h.head
    have hb := h.tail.head
    have e1 : a / 4 * 4 + (a % 4 * 16 + b / 16) / 16 = a := by omega
    have e2 : (a % 4 * 16 + b / 16) % 16 * 16 + b % 16 * 4 / 4 = b := by omega
    simp only [digs, List.foldl_cons, List.foldl_nil, dDig_0, dDig_1, dDig_2, e1, e2]
    simp [padN]
  | a :: b :: c :: r, out, lc, h => by
    have ha := h.head
    have hb := h.tail.head
    have hc := h.tail.tail.head
    have e1 : a / 4 * 4 + (a % 4 * 16 + b / 16) / 16 = a := by omega
    have e2 : (a % 4 * 16 + b / 16) % 16 * 16 + (b % 16 * 4 + c / 64) / 4 = b := by omega
    have e3 : (b % 16 * 4 + c / 64) % 4 * 64 + c % 64 = c := by omega
    simp only [digs, List.foldl_cons, dDig_0, dDig_1, dDig_2, dDig_3, e1, e2, e3]
    have ih := dec_gen r (out ++ [a] ++ [b] ++ [c]) 0 h.tail.tail.tail
    refine ⟨?_, ih.2⟩
    rw [ih.1]
    simp
/-- the state's bounds -/
def DSt (c : List Int × Int × Int) : Prop :=
  (c.2.1 = 0 ∧ 0 ≤ c.2.2 ∧ c.2.2 < 64) ∨ (c.2.1 = 1 ∧ 0 ≤ c.2.2 ∧ c.2.2 < 64) ∨ (c.2.1 = 2 ∧ 0 ≤ c.2.2 ∧ c.2.2 < 16) ∨ (c.2.1 = 3 ∧ 0 ≤ c.2.2 ∧ c.2.2 < 4)
theorem dSt_step {c : List Int × Int × Int} {d : Int} (h : DSt c) (h0 : 0 ≤ d) (h1 : d < 64) : DSt (dDig c d) := by
  obtain ⟨o, q, lc⟩ := c
  rcases h with ⟨h, _⟩ | ⟨h, _⟩ | ⟨h, _⟩ | ⟨h, _⟩ <;> (dsimp only at h; subst h)
  · exact .inr (.inl ⟨rfl, h0, h1⟩)
  · exact .inr (.inr (.inl ⟨rfl, Int.emod_nonneg _ (by decide), Int.emod_lt_of_pos _ (by decide)⟩))
  · exact .inr (.inr (.inr ⟨rfl, Int.emod_nonneg _ (by decide), Int.emod_lt_of_pos _ (by decide)⟩))
  · exact .inl ⟨rfl, Int.le_refl 0, (by decide : (0 : Int) < 64)⟩
theorem dSt_fold : ∀ (ds : List Int) (c : List Int × Int × Int), (∀ d ∈ ds, 0 ≤ d ∧ d < 64) → DSt c → DSt (ds.foldl dDig c)
  | [], _, _, h => h
  | d :: r, c, hd, h => dSt_fold r (dDig c d) (fun x hx => hd x (.tail _ hx)) (dSt_step h (hd d (.head _)).1 (hd d (.head _)).2)
theorem out_len : ∀ (ds : List Int) (c : List Int × Int × Int), (ds.foldl dDig c).1.length ≤ c.1.length + ds.length
  | [], _ => Nat.le_refl _
  | d :: r, c => by
    refine Nat.le_trans (out_len r (dDig c d)) ?_
    unfold dDig
    split
    · simp only [List.length_cons]; omega
    · split
      · simp only [List.length_append, List.length_cons, List.length_nil]; omega
      · split <;> (simp only [List.length_append, List.length_cons, List.length_nil]; omega)
theorem digs_len : ∀ l : List Int, (digs l).length ≤ 2 * l.length
  | [] => Nat.le_refl _
  | [_] => by simp [digs]
  | [_, _] => by simp [digs]
  | _ :: _ :: _ :: r => by
    have := digs_len r
    simp only [digs, List.length_cons]; omega
/-- what a2b_base64's loop keeps: DS the figures of the whole -/
def DecP (DS pre out : List Int) (q lc pads i : Int) : Prop :=
  (out, q, lc) = (DS.take pre.length).foldl dDig ([], 0, 0) ∧ pads = ((pre.length - DS.length : Nat) : Int) ∧ i = (pre.length : Int)
theorem decP_nil (DS : List Int) : DecP DS [] [] 0 0 0 0 := by
  refine ⟨?_, ?_, rfl⟩
  · simp
  · simp
theorem std_ne {d : Int} (h0 : 0 ≤ d) (h1 : d < 64) : std d ≠ 61 := fin64 (P := fun d => std d ≠ 61) (by decide +kernel) h0 h1
theorem b64v_std {d : Int} (h0 : 0 ≤ d) (h1 : d < 64) : b64v (std d) = d := fin64 (P := fun d => b64v (std d) = d) (by decide +kernel) h0 h1
theorem decP_turn {l pre post out : List Int} {n q lc pads i : Int} (hl : Oct l) (h : DecP (digs l) pre out q lc pads i) (e : enc0 l = pre ++ n :: post) :
    (∃ d, n = std d ∧ 0 ≤ d ∧ d < 64 ∧ pads = 0 ∧ DSt (out, q, lc) ∧ DecP (digs l) (pre ++ [n]) (dDig (out, q, lc) d).1 (dDig (out, q, lc) d).2.1 (dDig (out, q, lc) d).2.2 0 (i + 1)) ∨
    (n = 61 ∧ (q = 2 ∨ q = 3) ∧ 0 ≤ pads ∧ q + pads + 1 ≤ 4 ∧ DecP (digs l) (pre ++ [n]) out q lc (pads + 1) (i + 1)) := by
  obtain ⟨h1, h2, h3⟩ := h
  rw [enc0_eq hl] at e
  have hn : ((digs l).map std ++ List.replicate (padN l) 61)[pre.length]? = some n := by rw [e]; simp
  have hlen := congrArg List.length e
  simp only [List.length_append, List.length_map, List.length_replicate, List.length_cons] at hlen
  by_cases hk : pre.length < (digs l).length
  · left
    rw [List.getElem?_append_left (by simpa using hk), List.getElem?_map, List.getElem?_eq_getElem hk, Option.map_some, Option.some.injEq] at hn
    have hd := digs_in l hl _ (List.getElem_mem hk)
    have hp : pads = 0 := by rw [h2, Nat.sub_eq_zero_of_le (Nat.le_of_lt hk)]; rfl
    have hs : DSt (out, q, lc) := by
      rw [h1]
      exact dSt_fold _ _ (fun d hd => digs_in l hl d (List.mem_of_mem_take hd)) (.inl ⟨rfl, by decide, by decide⟩)
    refine ⟨(digs l)[pre.length], hn.symm, hd.1, hd.2, hp, hs, ?_, ?_, ?_⟩
    · rw [List.length_append, List.length_singleton, List.take_add_one, List.getElem?_eq_getElem hk, List.foldl_append, ← h1]
      rfl
    · rw [List.length_append, List.length_singleton, Nat.sub_eq_zero_of_le hk]; rfl
    · rw [h3, List.length_append, List.length_singleton]; rfl
  · right
    have hr : (digs l).take pre.length = digs l := List.take_of_length_le (by omega)
    rw [hr] at h1
    have hg := (dec_gen l [] 0 hl).2
    rw [← h1] at hg
    dsimp only at hg
    rw [List.getElem?_append_right (by simpa using Nat.le_of_not_lt hk), List.getElem?_replicate] at hn
    have hn' : n = 61 := by
      split at hn
      · exact (Option.some.inj hn).symm
      · cases hn
    refine ⟨hn', by omega, by omega, by omega, ?_, ?_, ?_⟩
    · rw [List.length_append, List.length_singleton, List.take_of_length_le (by omega)]
      exact h1
    · rw [h2, List.length_append, List.length_singleton]; omega
    · rw [h3, List.length_append, List.length_singleton]; omega
theorem decP_end {l out : List Int} {q lc pads i : Int} (hl : Oct l) (h : DecP (digs l) (enc0 l) out q lc pads i) : out = l ∧ (q = 0 ∧ pads = 0 ∨ q = 2 ∧ pads = 2 ∨ q = 3 ∧ pads = 1) := by
  obtain ⟨h1, h2, h3⟩ := h
  have hlen : (enc0 l).length = (digs l).length + padN l := by rw [enc0_eq hl]; simp
  rw [List.take_of_length_le (by omega)] at h1
  have hg := dec_gen l [] 0 hl
  rw [← h1] at hg
  dsimp only at hg
  have hp : pads = (padN l : Int) := by rw [h2, hlen, Nat.add_sub_cancel_left]
  refine ⟨by simpa using hg.1, ?_⟩
  rw [hp]
  rcases hg.2 with ⟨h4, h5⟩ | ⟨h4, h5⟩ | ⟨h4, h5⟩
  · exact .inl ⟨h4, by rw [h5]; rfl⟩
  · exact .inr (.inl ⟨h4, by rw [h5]; rfl⟩)
  · exact .inr (.inr ⟨h4, by rw [h5]; rfl⟩)
theorem decP_size {l pre out : List Int} {q lc pads i : Int} {vs : List Value} (h : DecP (digs l) pre out q lc pads i) (hi : IntsAre vs out) (hl : l.length ≤ 6) : vs.length ≤ 12 := by
  have h1 := hi.length
  have h2 := out_len ((digs l).take pre.length) ([], 0, 0)
  rw [← h.1] at h2
  have h3 := digs_len l
  simp only [List.length_nil, List.length_take] at h2
  omega
theorem oct_bytes (b : Array UInt8) : Oct (KBw.bInts b) := fun _ hn => KBw.ints_in hn
theorem byteArr_ints (b : Array UInt8) : byteArr (KBw.bInts b) = b := by
  unfold byteArr KBw.bInts
  rw [List.map_map]
  have : (fun n : Int => n.toNat.toUInt8) ∘ (fun c : UInt8 => (c.toNat : Int)) = fun c => c := by
    funext c
    show ((c.toNat : Int)).toNat.toUInt8 = c
    rw [Int.toNat_natCast]
    exact UInt8.ofNat_toNat
  rw [this, List.map_id']
theorem from_to {n : Int} (h : Sgn n) : fromAlt (toAlt n) = n := by
  rcases h with rfl | ⟨d, h0, h1, rfl⟩
  · decide
  · exact fin64 (P := fun d => fromAlt (toAlt (std d)) = std d) (by decide +kernel) h0 h1
theorem from_encA (l : List Int) : (encA l).map fromAlt = enc0 l := by
  unfold encA
  rw [List.map_map]
  refine (List.map_congr_left (g := _root_.id) fun n hn => ?_).trans (List.map_id _)
  exact from_to (enc0_sgn l n hn)
theorem trans_enc (l : List Int) : (byteArr (encA l)).map (fun c => (transTab [60, 62] [43, 47]).getD c.toNat c) = byteArr (enc0 l) := by
  rw [trans_back fun n hn => (by have := alt_in (encA_alt l n hn); omega), from_encA]
section
variable {DS P out : List Int} {q lc d pads i : Int}
theorem decP_q0 (h : DecP DS P (dDig (out, q, lc) d).1 (dDig (out, q, lc) d).2.1 (dDig (out, q, lc) d).2.2 pads i) (h0 : q = 0) : DecP DS P out 1 d pads i := by
  subst h0
  exact h
theorem decP_q1 (h : DecP DS P (dDig (out, q, lc) d).1 (dDig (out, q, lc) d).2.1 (dDig (out, q, lc) d).2.2 pads i) (h1 : q = 1) : DecP DS P (out ++ [lc * 4 + d / 16]) 2 (d % 16) pads i := by
  subst h1
  exact h
theorem decP_q2 (h : DecP DS P (dDig (out, q, lc) d).1 (dDig (out, q, lc) d).2.1 (dDig (out, q, lc) d).2.2 pads i) (h2 : q = 2) : DecP DS P (out ++ [lc * 16 + d / 4]) 3 (d % 4) pads i := by
  subst h2
  exact h
theorem decP_q3 (h : DecP DS P (dDig (out, q, lc) d).1 (dDig (out, q, lc) d).2.1 (dDig (out, q, lc) d).2.2 pads i) (h0 : q ≠ 0) (h1 : q ≠ 1) (h2 : q ≠ 2) : DecP DS P (out ++ [lc * 64 + d]) 0 0 pads i := by
  have e : dDig (out, q, lc) d = (out ++ [lc * 64 + d], 0, 0) := (if_neg h0).trans ((if_neg h1).trans (if_neg h2))
  rw [e] at h
  exact h
theorem dSt_lc (h : DSt (out, q, lc)) : 0 ≤ lc ∧ lc < 64 := by
  rcases h with ⟨_, h⟩ | ⟨_, h⟩ | ⟨_, h0, h1⟩ | ⟨_, h0, h1⟩
  · exact h
  · exact h
  · exact ⟨h0, Int.lt_trans h1 (by decide)⟩
  · exact ⟨h0, Int.lt_trans h1 (by decide)⟩
theorem pad_q (h : q = 2 ∨ q = 3) : 2 ≤ q := by rcases h with rfl | rfl <;> decide
theorem end_q1 (h : q = 0 ∧ pads = 0 ∨ q = 2 ∧ pads = 2 ∨ q = 3 ∧ pads = 1) : q ≠ 1 ∧ (q = 0 ∨ q + pads = 4) := by
  rcases h with ⟨rfl, rfl⟩ | ⟨rfl, rfl⟩ | ⟨rfl, rfl⟩ <;> decide
end

theorem t_b64_std (d : Int) (t : Tok) (h0 : 0 ≤ d) (h1 : d < 64) : Tell 1 77 [.int (std d) t] [] (fun v => ∃ t', v = .int d t') := by
  have h := t_b64_value (std d) t
  rw [b64v_std h0 h1] at h
  exact h
example : True := by
  (k_with "call ref" => (k_here; k_dflt (refine' Tell.use (t_b64_std _ _ (by assumption) (by assumption)) ?k1 ?k2 ?k3 ?k4 ?k5 ?kK ?kd ?ku ?_; k_extra "tail 1"; k_extra "tail 2"); k_extra "tail 3"))
  trivial
set_option maxHeartbeats 8000000 in
theorem t_truth (b : Bool) : Tell 1 70 [.bool b] [] (fun v => v = .bool b) := by
  k_extra "open def"
  w_strict k_steps
  all_goals (refine EndOf.intro (by k_asm) ?_)
  all_goals (subst_vars; rfl)

set_option maxHeartbeats 8000000 in
theorem t_buffer (b : Array UInt8) (t : Tok) : Tell 1 63 [.bytes b t] [] (fun v => ∃ t', v = .bytes b t') := by
  k_extra "open def"
  w_strict k_steps
  all_goals (refine EndOf.intro (by k_asm) ?_)
  all_goals exact ⟨_, rfl⟩

set_option maxHeartbeats 8000000 in
theorem t_ascii_buffer (b : Array UInt8) (t : Tok) : Tell 1 56 [.bytes b t] [] (fun v => ∃ t', v = .bytes b t') := by
  k_extra "open def"
  w_strict k_steps
  all_goals (refine EndOf.intro (by k_asm) ?_)
  all_goals exact ⟨_, rfl⟩
example : True := by
  (k_with "call ref" => (k_here; k_dflt (refine' Tell.use (t_truth _) ?k1 ?k2 ?k3 ?k4 ?k5 ?kK ?kd ?ku ?_; k_extra "tail 1"; k_extra "tail 2"); k_extra "tail 3"))
  (k_with "call ref" => (k_here; k_dflt (refine' Tell.use (t_buffer _ _) ?k1 ?k2 ?k3 ?k4 ?k5 ?kK ?kd ?ku ?_; k_extra "tail 1"; k_extra "tail 2"); k_extra "tail 3"))
  (k_with "call ref" => (k_here; k_dflt (refine' Tell.use (t_ascii_buffer _ _) ?k1 ?k2 ?k3 ?k4 ?k5 ?kK ?kd ?ku ?_; k_extra "tail 1"; k_extra "tail 2"); k_extra "tail 3"))
  trivial
set_option maxHeartbeats 8000000 in
theorem t_b2a (b : Array UInt8) (t : Tok) (hb : b.size ≤ 6) : Tell 3 93 [.bytes b t] [(Str.ofString "newline", .bool false)] (fun v => ∃ t', v = .bytes (byteArr (enc0 (KBw.bInts b))) t') := by
  (k_with "pyIter bytes" => (k_state EncP "out" "leftbits" "leftchar"; all_goals (have kB := encP_bnd kInv; have kS := encP_size kInv (by assumption) (by first | omega | (simp only [List.length_map]; omega)); have kL := Aside.mk (encP_lb kInv))))
  (k_with "exec While Compare cons nil" => (have kl := kL.out; clear kL; rcases kl with h | h | h <;> subst h))
  (k_with "state" => with_reducible first | exact encP_nil | exact encP_0 (by assumption) (by decide) | exact encP_2 (by assumption) (by decide) | exact encP_4 (by assumption) (by decide))
  (k_with "bytes in" => repeat' (first | exact encP_in (by assumption) | refine in_app ?_ ?_ | exact std_in (by omega) (by omega) | decide))
  k_extra "open def"
  have hb' : b.toList.length ≤ 6 := by simpa using hb
  w_strict k_steps
  all_goals (refine EndOf.intro (by k_asm) ?_)
  all_goals (refine ⟨_, congrArg (fun x => Value.bytes (byteArr x) _) ?_⟩; refine Eq.trans ?_ (encP_end (by assumption)).symm; symm; first | exact encFin_2 (by assumption) | exact encFin_4 (by assumption) | exact encFin_n (by assumption) (by assumption))
example : True := by
  (k_with "call ref" => (k_here; k_dflt (refine' Tell.use (t_b2a _ _ (by assumption)) ?k1 ?k2 ?k3 ?k4 ?k5 ?kK ?kd ?ku ?_; k_extra "tail 1"; k_extra "tail 2"); k_extra "tail 3"))
  trivial
set_option maxHeartbeats 8000000 in
theorem t_b64encode (b : Array UInt8) (t t2 : Tok) (hb : b.size ≤ 6) : Tell 4 101 [.bytes b t, .bytes #[60, 62] t2] [] (fun v => ∃ t', v = .bytes (byteArr (encA (KBw.bInts b))) t') := by
  k_extra "open def"
  have hz : (byteArr (enc0 (KBw.bInts b))).size ≤ 15 := by
    have h1 := enc0_len (KBw.bInts b)
    rw [KBw.ints_length] at h1
    rw [byteArr_size]
    omega
  w_strict k_steps
  all_goals (refine EndOf.intro (by k_asm) ?_)
  all_goals exact ⟨_, congrArg (fun x => Value.bytes x _) (trans_alt (enc0_in _))⟩
example : True := by
  (k_with "call ref" => (k_here; k_dflt (refine' Tell.use (t_b64encode _ _ _ (by assumption)) ?k1 ?k2 ?k3 ?k4 ?k5 ?kK ?kd ?ku ?_; k_extra "tail 1"; k_extra "tail 2"); k_extra "tail 3"))
  trivial
set_option maxHeartbeats 8000000 in
theorem t_sign_row (b : Array UInt8) (t : Tok) (hb : b.size ≤ 6) : Tell 5 156 [.bytes b t] [] (fun v => ∃ t', v = .str (txt (encA (KBw.bInts b))) t') := by
  (k_with "ascii" => exact bytes_asc fun n hn => alt_in (encA_alt _ n hn))
  k_extra "open def"
  have hz : (byteArr (encA (KBw.bInts b))).size ≤ 15 := by
    have h1 := encA_len (KBw.bInts b)
    rw [KBw.ints_length] at h1
    rw [byteArr_size]
    omega
  w_strict k_steps
  all_goals (refine EndOf.intro (by k_asm) ?_)
  all_goals exact ⟨_, congrArg (fun x => Value.str ⟨x⟩ _) (bytes_txt fun n hn => (by have := alt_in (encA_alt _ n hn); omega))⟩
example : True := by
  (k_with "call ref" => (k_here; k_dflt (refine' Tell.use (t_sign_row _ _ (by assumption)) ?k1 ?k2 ?k3 ?k4 ?k5 ?kK ?kd ?ku ?_; k_extra "tail 1"; k_extra "tail 2"); k_extra "tail 3"))
  trivial
set_option maxHeartbeats 8000000 in
theorem t_from_decode (x : Str) (t : Tok) (hx : ∀ c ∈ x.cps.toList, c < 128) (hz : x.length ≤ 100) : Tell 1 36 [.str x t] [] (fun v => ∃ t', v = .bytes (x.cps.map (·.toUInt8)) t') := by
  (k_with "ascii" => exact hx)
  k_extra "open def"
  w_strict k_steps
  all_goals (refine EndOf.intro (by k_asm) ?_)
  all_goals exact ⟨_, rfl⟩
theorem t_from_alt (t : Tok) : Tell 1 36 [.str (Str.ofString "<>") t] [] (fun v => ∃ t', v = .bytes #[60, 62] t') := by
  have h := t_from_decode (Str.ofString "<>") t (by decide +kernel) (by decide +kernel)
  have e : (Str.ofString "<>").cps.map (·.toUInt8) = #[60, 62] := by decide +kernel
  rw [e] at h
  exact h
theorem t_from_txt (ns : List Int) (t : Tok) (h0 : ∀ n ∈ ns, 0 ≤ n ∧ n < 128) (h1 : ns.length ≤ 20) : Tell 1 36 [.str (txt ns) t] [] (fun v => ∃ t', v = .bytes (byteArr ns) t') := by
  have h := t_from_decode (txt ns) t (txt_asc h0) (by rw [txt_len]; omega)
  rw [txt_bytes] at h
  exact h
example : True := by
  (k_with "call ref" => (k_here; k_dflt (refine' Tell.use (t_from_alt _) ?k1 ?k2 ?k3 ?k4 ?k5 ?kK ?kd ?ku ?_; k_extra "tail 1"; k_extra "tail 2"); k_extra "tail 3"))
  (k_with "call ref" => (k_here; k_dflt (refine' Tell.use (t_from_txt _ _ (by assumption) (by assumption)) ?k1 ?k2 ?k3 ?k4 ?k5 ?kK ?kd ?ku ?_; k_extra "tail 1"; k_extra "tail 2"); k_extra "tail 3"))
  trivial
set_option maxHeartbeats 8000000 in
theorem t_a2b (b : Array UInt8) (t : Tok) (hb : b.size ≤ 6) : Tell 3 85 [.bytes (byteArr (enc0 (KBw.bInts b))) t] [(Str.ofString "strict_mode", .bool true)] (fun v => ∃ t', v = .bytes b t') := by
  (k_with "pyIter bytes" => (k_state (DecP (digs (KBw.bInts b))) "out" "quad_pos" "leftchar" "pads" "i"; all_goals (have kS := decP_size kInv (by assumption) hl6; first
    | (obtain ⟨kd, kE1, kd0, kd1, kE2, kst, kP⟩ | ⟨kE1, kq, kp0, kp1, kP⟩ := decP_turn hOct kInv kEq; all_goals (first
        | (subst kE1 kE2; have kne := std_ne kd0 kd1; obtain ⟨kl0, kl1⟩ := dSt_lc kst; clear kst)
        | (subst kE1; have kq2 := pad_q kq; clear kq)))
    | (obtain ⟨kE, kq⟩ := decP_end hOct kInv; subst kE; obtain ⟨kq1, kq4⟩ := end_q1 kq; clear kq))))
  (k_with "state" => with_reducible first | exact decP_nil _ | assumption | exact decP_q0 kP (by assumption) | exact decP_q1 kP (by assumption) | exact decP_q2 kP (by assumption) | exact decP_q3 kP (by assumption) (by assumption) (by assumption))
  (k_with "bytes in" => exact hOct)
  have hOct := oct_bytes b
  have hIn := enc0_in (KBw.bInts b)
  have hl6 : (KBw.bInts b).length ≤ 6 := by rw [KBw.ints_length]; exact hb
  k_extra "open def"
  w_strict k_steps
  all_goals (refine EndOf.intro (by k_asm) ?_)
  all_goals exact ⟨_, congrArg (fun x => Value.bytes x _) (byteArr_ints b)⟩
example : True := by
  (k_with "call ref" => (k_here; k_dflt (refine' Tell.use (t_a2b _ _ (by assumption)) ?k1 ?k2 ?k3 ?k4 ?k5 ?kK ?kd ?ku ?_; k_extra "tail 1"; k_extra "tail 2"); k_extra "tail 3"))
  trivial
section
variable {prog : Program} {w : World} {A : Around} {E : Value → Shared → Prop} {s : Shared} {t t2 : Tok}
theorem r_trans_enc {l : List Int} {T : Array UInt8} {Q : Value → Shared → Prop} (hT : T = transTab [60, 62] [43, 47]) (hz : (byteArr (encA l)).size ≤ 16777216) (hq : ∀ t' k, Q (.bytes (byteArr (enc0 l)) t') { s with toks := k }) :
    wpAny (model prog w) A (call (.builtin "bytes.translate") [.bytes (byteArr (encA l)) t, .bytes T t2]) Q E s := by
  subst hT
  refine r_translate (transTab_size _ _) hz fun t' k => ?_
  rw [trans_enc]
  exact hq t' k
end
example : True := by
  (k_with "call builtin:bytes.translate" => (k_here; k_dflt (refine r_trans_enc (by rfl) (by omega) ?_); intro _ _))
  trivial
set_option maxHeartbeats 8000000 in
theorem t_b64decode (b : Array UInt8) (t t2 : Tok) (hb : b.size ≤ 6) : Tell 4 109 [.str (txt (encA (KBw.bInts b))) t, .str (Str.ofString "<>") t2, .bool true] [] (fun v => ∃ t', v = .bytes b t') := by
  have h0 : ∀ n ∈ encA (KBw.bInts b), 0 ≤ n ∧ n < 128 := fun n hn => alt_in (encA_alt _ n hn)
  have h1 : (encA (KBw.bInts b)).length ≤ 20 := by
    have h1 := encA_len (KBw.bInts b)
    rw [KBw.ints_length] at h1
    omega
  have hz : (byteArr (encA (KBw.bInts b))).size ≤ 20 := by rw [byteArr_size]; exact h1
  k_extra "open def"
  w_strict k_steps
  all_goals (refine EndOf.intro (by k_asm) ?_)
  all_goals exact ⟨_, rfl⟩
example : True := by
  (k_with "call ref" => (k_here; k_dflt (refine' Tell.use (t_b64decode _ _ _ (by assumption)) ?k1 ?k2 ?k3 ?k4 ?k5 ?kK ?kd ?ku ?_; k_extra "tail 1"; k_extra "tail 2"); k_extra "tail 3"))
  trivial
set_option maxHeartbeats 8000000 in
theorem t_octets (b : Array UInt8) (t : Tok) (hb : b.size ≤ 6) : Tell 5 142 [.str (txt (encA (KBw.bInts b))) t] [] (fun v => ∃ t', v = .bytes b t') := by
  k_extra "open def"
  w_strict k_steps
  all_goals (refine EndOf.intro (by k_asm) ?_)
  all_goals exact ⟨_, rfl⟩
example : True := by
  (k_with "call ref" => (k_here; k_dflt (refine' Tell.use (t_octets _ _ (by assumption)) ?k1 ?k2 ?k3 ?k4 ?k5 ?kK ?kd ?ku ?_; k_extra "tail 1"; k_extra "tail 2"); k_extra "tail 3"))
  trivial
/-- the sign of a figure in the alternative writing -/
noncomputable def fig (d : Int) : Int := toAlt (std d)
noncomputable def valD (ds : List Int) : Int := ds.foldl (fun a d => a * 64 + d) 0
noncomputable def valO (l : List Int) : Int := l.foldl (fun a n => a * 256 + n) 0
noncomputable def sp : List Int → Int
  | [] => 1
  | [_] => 16
  | [_, _] => 4
  | _ :: _ :: _ :: r => sp r
theorem val_gen : ∀ (l : List Int) (A : Int), Oct l → (digs l).foldl (fun a d => a * 64 + d) A = (l.foldl (fun a n => a * 256 + n) A) * sp l
  | [], A, _ => by simp [digs, sp]
  | [a], A, h => by
    have ha := h.head
    simp only [digs, sp, List.foldl_cons, List.foldl_nil]
    omega
  | [a, b], A, h => by
    have ha := h.head
    have hb := h.tail.head
    simp only [digs, sp, List.foldl_cons, List.foldl_nil]
    omega
  | a :: b :: c :: r, A, h => by
    have ha := h.head
    have hb := h.tail.head
    have hc := h.tail.tail.head
    have e : (((A * 64 + a / 4) * 64 + (a % 4 * 16 + b / 16)) * 64 + (b % 16 * 4 + c / 64)) * 64 + c % 64 = ((A * 256 + a) * 256 + b) * 256 + c := by omega
    simp only [digs, sp, List.foldl_cons]
    rw [e]
    exact val_gen r _ h.tail.tail.tail
/-- the three makes of a length -/
theorem digs_mk : ∀ l : List Int, (sp l = 1 ∧ padN l = 0 ∧ 6 * (digs l).length = 8 * l.length) ∨ (sp l = 16 ∧ padN l = 2 ∧ 6 * (digs l).length = 8 * l.length + 4) ∨ (sp l = 4 ∧ padN l = 1 ∧ 6 * (digs l).length = 8 * l.length + 2)
  | [] => .inl ⟨rfl, rfl, rfl⟩
  | [_] => .inr (.inl ⟨rfl, rfl, rfl⟩)
  | [_, _] => .inr (.inr ⟨rfl, rfl, rfl⟩)
  | a :: b :: c :: r => by
    have e : ∀ {D n e : Nat}, 6 * D = 8 * n + e → 6 * (D + 1 + 1 + 1 + 1) = 8 * (n + 1 + 1 + 1) + e := by intro D n e h; omega
    rcases digs_mk r with ⟨h1, h2, h3⟩ | ⟨h1, h2, h3⟩ | ⟨h1, h2, h3⟩
    · exact .inl ⟨h1, h2, e (e := 0) h3⟩
    · exact .inr (.inl ⟨h1, h2, e h3⟩)
    · exact .inr (.inr ⟨h1, h2, e h3⟩)
theorem mk_mod {D n : Nat} : (6 * D = 8 * n → n % 3 = 0 ∧ D % 4 = 0) ∧ (6 * D = 8 * n + 4 → n % 3 = 1 ∧ D % 4 = 2) ∧ (6 * D = 8 * n + 2 → n % 3 = 2 ∧ D % 4 = 3) := ⟨fun h => ⟨by omega, by omega⟩, fun h => ⟨by omega, by omega⟩, fun h => ⟨by omega, by omega⟩⟩
theorem digs_make (l : List Int) : (sp l = 1 ∧ padN l = 0 ∧ l.length % 3 = 0 ∧ (digs l).length % 4 = 0 ∧ 6 * (digs l).length = 8 * l.length) ∨
    (sp l = 16 ∧ padN l = 2 ∧ l.length % 3 = 1 ∧ (digs l).length % 4 = 2 ∧ 6 * (digs l).length = 8 * l.length + 4) ∨
    (sp l = 4 ∧ padN l = 1 ∧ l.length % 3 = 2 ∧ (digs l).length % 4 = 3 ∧ 6 * (digs l).length = 8 * l.length + 2) := by
  rcases digs_mk l with ⟨h1, h2, h3⟩ | ⟨h1, h2, h3⟩ | ⟨h1, h2, h3⟩
  · exact .inl ⟨h1, h2, (mk_mod.1 h3).1, (mk_mod.1 h3).2, h3⟩
  · exact .inr (.inl ⟨h1, h2, (mk_mod.2.1 h3).1, (mk_mod.2.1 h3).2, h3⟩)
  · exact .inr (.inr ⟨h1, h2, (mk_mod.2.2 h3).1, (mk_mod.2.2 h3).2, h3⟩)
theorem encA_eq {l : List Int} (h : Oct l) : encA l = (digs l).map fig ++ List.replicate (padN l) 61 := by
  unfold encA
  rw [enc0_eq h, List.map_append, List.map_map, List.map_replicate]
  rfl
theorem valO_snoc (l : List Int) (n : Int) : valO (l ++ [n]) = valO l * 256 + n := by unfold valO; rw [List.foldl_append]; rfl
theorem valD_snoc (l : List Int) (n : Int) : valD (l ++ [n]) = valD l * 64 + n := by unfold valD; rw [List.foldl_append]; rfl
theorem valO_aux : ∀ (l : List Int) (A : Int), Oct l → 0 ≤ A → 0 ≤ l.foldl (fun a n => a * 256 + n) A ∧ l.foldl (fun a n => a * 256 + n) A < (A + 1) * 256 ^ l.length
  | [], A, _, h0 => by
    rw [List.length_nil, Int.pow_zero, Int.mul_one]
    exact ⟨h0, Int.lt_succ A⟩
  | a :: r, A, h, h0 => by
    have ha := h.head
    have h1 := valO_aux r (A * 256 + a) h.tail (by omega)
    refine ⟨h1.1, ?_⟩
    rw [List.foldl_cons, List.length_cons, Int.pow_succ]
    refine Int.lt_of_lt_of_le h1.2 ?_
    have e : (A + 1) * (256 ^ r.length * 256) = ((A + 1) * 256) * 256 ^ r.length := by rw [Int.mul_comm (256 ^ r.length) 256, Int.mul_assoc]
    rw [e]
    exact Int.mul_le_mul_of_nonneg_right (by omega) (Int.le_of_lt (Int.pow_pos (by decide)))
theorem valO_bnd (l : List Int) (h : Oct l) (hl : l.length ≤ 6) : 0 ≤ valO l ∧ valO l < 281474976710656 := by
  have h1 := valO_aux l 0 h (by decide)
  refine ⟨h1.1, Int.lt_of_lt_of_le h1.2 ?_⟩
  rw [Int.zero_add, Int.one_mul]
  have h2 : (256 : Nat) ^ l.length ≤ 256 ^ 6 := Nat.pow_le_pow_right (by decide) hl
  have h3 : ((256 ^ l.length : Nat) : Int) ≤ ((256 ^ 6 : Nat) : Int) := Int.ofNat_le.mpr h2
  rw [Int.natCast_pow] at h3
  exact h3
def WriP (DS pre : List Int) (signs : Str) (value : Int) : Prop :=
  signs = txt ((DS.drop (DS.length - pre.length)).map fig) ∧ value = valD (DS.take (DS.length - pre.length))
theorem wriP_nil {DS : List Int} {v : Int} (h : v = valD DS) : WriP DS [] (Str.ofString "") v := by
  refine ⟨?_, ?_⟩
  · have : (Str.ofString "") = txt [] := by decide +kernel
    rw [this]; simp
  · rw [h]; simp
theorem txt_append (a b : List Int) : txt a ++ txt b = txt (a ++ b) := by
  unfold txt
  apply Str.ext'
  show ((a.map Int.toNat).toArray ++ (b.map Int.toNat).toArray) = _
  simp
theorem wriP_turn {DS pre : List Int} {signs : Str} {value n : Int} (hD : ∀ d ∈ DS, 0 ≤ d ∧ d < 64) (h : WriP DS pre signs value) (hk : pre.length < DS.length) :
    WriP DS (pre ++ [n]) (txt [fig (value % 64)] ++ signs) (value / 64) := by
  obtain ⟨h1, h2⟩ := h
  obtain ⟨j, hj⟩ : ∃ j, DS.length - pre.length = j + 1 := ⟨DS.length - pre.length - 1, by omega⟩
  have hj' : DS.length - (pre ++ [n]).length = j := by simp only [List.length_append, List.length_cons, List.length_nil]; omega
  have hlt : j < DS.length := by omega
  have hd := hD DS[j] (List.getElem_mem hlt)
  have ht : DS.take (j + 1) = DS.take j ++ [DS[j]] := by rw [List.take_add_one, List.getElem?_eq_getElem hlt]; rfl
  have hdr : DS.drop j = DS[j] :: DS.drop (j + 1) := List.drop_eq_getElem_cons hlt
  unfold WriP
  rw [hj']
  rw [hj] at h1 h2
  rw [ht, valD_snoc] at h2
  have e1 : value % 64 = DS[j] := by omega
  have e2 : value / 64 = valD (DS.take j) := by omega
  rw [e1, e2, h1, hdr, List.map_cons, txt_append]
  exact ⟨rfl, rfl⟩
theorem wriP_end {DS pre : List Int} {signs : Str} {value : Int} (h : WriP DS pre signs value) (hk : pre.length = DS.length) : signs = txt (DS.map fig) := by
  obtain ⟨h1, h2⟩ := h
  rw [hk, Nat.sub_self] at h1
  exact h1
theorem wriP_len {DS pre : List Int} {signs : Str} {value : Int} (h : WriP DS pre signs value) : signs.length ≤ DS.length := by
  rw [h.1, txt_len, List.length_map, List.length_drop]; omega
noncomputable def figsL : Str := Str.ofString "ABCDEFGHIJKLMNOPQRSTUVWXYZabcdefghijklmnopqrstuvwxyz0123456789<>"
theorem figs_at (d : Int) (h0 : 0 ≤ d) (h1 : d < 64) : figsL.cps.getD d.toNat 0 = (fig d).toNat := by
  obtain ⟨n, rfl⟩ := Int.eq_ofNat_of_zero_le h0
  have : ∀ k : Fin 64, figsL.cps.getD ((k.val : Int)).toNat 0 = (fig (k.val : Int)).toNat := by decide +kernel
  exact this ⟨n, by omega⟩
theorem figs_len : figsL.length = 64 := by decide +kernel
/-! the numbers of the figures, as the three makes tell them -/
theorem rng_e {D k n e : Nat} (h : 6 * D = 8 * k + e) (hb : k = n) : (8 * (n : Int) + (e : Int)) / 6 = (D : Int) := by
  have : 8 * (n : Int) + (e : Int) = 6 * (D : Int) := by omega
  rw [this, Int.mul_ediv_cancel_left _ (by decide)]
theorem rng_4 {D k n : Nat} (h : 6 * D = 8 * k + 4) (hb : k = n) : (8 * (n : Int) + 4) / 6 = (D : Int) := rng_e h hb
theorem rng_2 {D k n : Nat} (h : 6 * D = 8 * k + 2) (hb : k = n) : (8 * (n : Int) + 2) / 6 = (D : Int) := rng_e h hb
theorem rng_0 {D k n : Nat} (h : 6 * D = 8 * k) (hb : k = n) : (8 * (n : Int) + 0) / 6 = (D : Int) := rng_e (e := 0) h hb
theorem rng_n (D : Nat) : ((D : Int) - 0).toNat = D := by rw [Int.sub_zero, Int.toNat_natCast]
theorem md_0 {k n : Nat} (h : k % 3 = 0) (hb : k = n) : (8 * (n : Int)) % 6 = 0 := by omega
theorem md_1 {k n : Nat} (h : k % 3 = 1) (hb : k = n) : (8 * (n : Int)) % 6 = 2 := by omega
theorem md_2 {k n : Nat} (h : k % 3 = 2) (hb : k = n) : (8 * (n : Int)) % 6 = 4 := by omega
theorem lt_of_rng {p D : Nat} (h : p < ((D : Int) - 0).toNat) : p < D := by rw [rng_n] at h; exact h

/-! texts that ints write, remainders by written numbers -/
section
variable {prog : Program} {w : World} {A : Around} {E : Value → Shared → Prop} {Q : Value → Shared → Prop} {s : Shared} {t u : Tok} {value slice : PySem.Expr}
theorem r_mod {x y : Int} (hy : 0 < y) (h : Q (.int (x % y) s.toks) { s with toks := s.toks + 1 }) : wpAny (model prog w) A (binaryOp .Mod (.int x t) (.int y u)) Q E s :=
  mod_int' (by omega) (by rw [Int.fmod_eq_emod_of_nonneg _ (Int.le_of_lt hy)]; exact h)
theorem r_mod_is {x y : Int} (c : Int) (hy : 0 < y) (hc : x % y = c) (h : Q (.int c s.toks) { s with toks := s.toks + 1 }) : wpAny (model prog w) A (binaryOp .Mod (.int x t) (.int y u)) Q E s :=
  r_mod hy (by rw [hc]; exact h)
theorem r_div {x y : Int} (hy : 0 < y) (hp : Builtin.divisionGoesByPylong x y = false) (h : Q (.int (x / y) s.toks) { s with toks := s.toks + 1 }) : wpAny (model prog w) A (binaryOp .FloorDiv (.int x t) (.int y u)) Q E s :=
  floordiv_int (by omega) (by rw [Int.fdiv_eq_ediv_of_nonneg _ (Int.le_of_lt hy)]; exact h) (.inl hp)
theorem r_div_is {x y c : Int} (hy : 0 < y) (hp : Builtin.divisionGoesByPylong x y = false) (hc : x / y = c) (h : Q (.int c s.toks) { s with toks := s.toks + 1 }) : wpAny (model prog w) A (binaryOp .FloorDiv (.int x t) (.int y u)) Q E s :=
  r_div hy hp (by rw [hc]; exact h)
theorem r_fig {d : Int} (h0 : 0 ≤ d) (h1 : d < 64) (h : Q (.str (txt [fig d]) s.toks) { s with toks := s.toks + 1 })
    (hs : subscripted slice false (.str figsL t) (.int d u) = operate [.str figsL t, .int d u] (getItem (.str figsL t) (.int d u)) := by with_unfolding_all rfl)
    (ht : ∀ r, letTemporaryGo value (.str figsL t) r = pure () := by intro _; with_unfolding_all rfl) :
    wpAny (model prog w) A (subscriptTail value slice (.str figsL t) (.int d u)) Q E s := by
  have hl := figs_len
  have e : Txt.item figsL d = txt [fig d] := by
    rw [item_meets ⟨h0, by rw [hl]; omega⟩, figs_at d h0 h1]
    rfl
  refine item_str (fitsSsize_of (N := 9223372036854775808) (by omega) (by omega) (Int.le_refl _)) (by rw [hl]; omega) (by rw [hl]; omega) (fun _ => ?_) hs ht
  rw [e]; exact h
theorem r_add {x y : Str} (hz : x.length + y.length ≤ 16777216) (h : ∀ t' k, Q (.str (x ++ y) t') { s with toks := k }) : wpAny (model prog w) A (binaryOp .Add (.str x t) (.str y u)) Q E s :=
  SBL.add (hsz := by rw [sizeLine_eq]; exact hz) fun t' k _ => h t' k
theorem r_add_txt {a b : List Int} (hz : a.length + b.length ≤ 16777216) (h : ∀ t' k, Q (.str (txt (a ++ b)) t') { s with toks := k }) : wpAny (model prog w) A (binaryOp .Add (.str (txt a) t) (.str (txt b) u)) Q E s :=
  r_add (by rw [txt_len, txt_len]; exact hz) (by rw [txt_append]; exact h)
theorem txt_eq61 : Str.ofString "=" = txt [61] := by decide +kernel
theorem r_add_eq {a : List Int} (hz : a.length + 1 ≤ 16777216) (h : ∀ t' k, Q (.str (txt (a ++ [61])) t') { s with toks := k }) : wpAny (model prog w) A (binaryOp .Add (.str (txt a) t) (.str (Str.ofString "=") u)) Q E s := by
  have e := txt_eq61
  generalize Str.ofString "=" = x at e
  subst e
  exact r_add_txt hz h
theorem r_len_txt {a : List Int} {n : Nat} (hn : a.length = n) (hz : n ≤ 16777216) (h : Q (.int (n : Int) (s.toks + 1)) { s with toks := s.toks + 1 + 1 }) : wpAny (model prog w) A (call (.builtin "len") [.str (txt a) t]) Q E s := by
  subst hn
  exact PyProof.Rows.len_str (by rw [txt_len]; omega) (by rw [txt_len]; exact h)
end

example : True := by
  (k_with "binaryOp Mod int int" => (k_here; first | refine r_mod_is 0 (by decide) (by omega) ?_ | refine r_mod_is 2 (by decide) (by omega) ?_ | refine r_mod_is 3 (by decide) (by omega) ?_ | refine r_mod_is 4 (by decide) (by omega) ?_ | refine r_mod (by decide) ?_))
  (k_with "binaryOp FloorDiv int int" => (k_here; refine r_div (by decide) (by first | exact PyProof.noPylong_of_log2 (by decide +kernel) | exact PyProof.noPylong_small (by omega)) ?_))
  (k_with "subscriptTail Name BinOp str int" => (k_here; k_dflt (refine r_fig ?k1 ?k2 ?_; (case k1 => omega); (case k2 => omega))))
  (k_with "binaryOp Add str str" => (k_here; (first | with_reducible refine r_add_eq ?k1 ?_ | with_reducible refine r_add_txt ?k1 ?_ | with_reducible refine r_add ?k1 ?_); (case k1 => ((try simp only [txt_len, List.length_append, List.length_map, List.length_cons, List.length_nil]); omega)); intro _ _))
  (k_with "call builtin:len" => (k_here; (with_reducible refine' r_len_txt ?k0 ?k1 ?_); (case k0 => ((try simp only [List.length_append, List.length_map, List.length_cons, List.length_nil]); exact rfl)); (case k1 => omega)))
  (k_with "pyIter ref" => (k_here; k_dflt (k_extra "my ref")))
  (k_with "exec While Compare cons nil" => (k_here; k_dflt (k_extra "my while")))
  trivial
set_option maxHeartbeats 8000000 in
theorem t_written (b : Array UInt8) (t : Tok) (hb : b.size ≤ 6) : Tell 1 128 [.bytes b t] [] (fun v => ∃ t', v = .str (txt (encA (KBw.bInts b))) t') := by
  have hOct := oct_bytes b
  have hl6 : (KBw.bInts b).length ≤ 6 := by rw [KBw.ints_length]; exact hb
  have hD := digs_in _ hOct
  have hv := valO_bnd _ hOct hl6
  have hvd := val_gen _ 0 hOct
  have hA := encA_eq hOct
  have hdl := digs_len (KBw.bInts b)
  have hbs := KBw.ints_length b
  (k_with "pyIter bytes" => (k_state (fun pre value => value = valO pre) "value"; all_goals (try (have kE : _ = valO (KBw.bInts b) := kInv; subst kE; (rcases digs_make (KBw.bInts b) with ⟨m1, m2, m3, m4, m5⟩ | ⟨m1, m2, m3, m4, m5⟩ | ⟨m1, m2, m3, m4, m5⟩) <;> rw [m1] at hvd <;> rw [m2] at hA <;> (have m3' := Aside.mk m3; have m5' := Aside.mk m5; clear m1 m2 m3 m5)))))
  (k_with "my ref" => (k_state (WriP (digs (KBw.bInts b))) "signs" "value"; all_goals (have kS := wriP_len kInv; try (have kE := wriP_end kInv (by rw [rangeKs_length]; exact rng_n _); subst kE))))
  (k_with "binaryOp Mod int int" => (k_here; first | refine r_mod_is 0 (by decide) (md_0 m3'.out hbs) ?_ | refine r_mod_is 2 (by decide) (md_1 m3'.out hbs) ?_ | refine r_mod_is 4 (by decide) (md_2 m3'.out hbs) ?_))
  (k_with "binaryOp FloorDiv int int" => (k_here; first | refine r_div_is (by decide) (PyProof.noPylong_of_log2 (by decide +kernel)) (rng_4 m5'.out hbs) ?_ | refine r_div_is (by decide) (PyProof.noPylong_of_log2 (by decide +kernel)) (rng_2 m5'.out hbs) ?_ | refine r_div_is (by decide) (PyProof.noPylong_of_log2 (by decide +kernel)) (rng_0 m5'.out hbs) ?_))
  (k_with "my while" => refine whl_start 100 ?_)
  (k_with "state" => first | exact rfl | exact wriP_nil (by first | omega | exact hvd.symm) | (subst_vars; exact (valO_snoc _ _).symm) | exact wriP_turn hD kInv (lt_of_rng (by assumption)))
  k_extra "open def"
  w_strict k_steps
  all_goals (refine EndOf.intro (by k_asm) ?_)
  all_goals exact ⟨_, congrArg (fun x => Value.str (txt x) _) (by rw [hA]; simp)⟩
example : True := by
  (k_with "call ref" => (k_here; k_dflt (refine' Tell.use (t_written _ _ (by assumption)) ?k1 ?k2 ?k3 ?k4 ?k5 ?kK ?kd ?ku ?_; k_extra "tail 1"; k_extra "tail 2"); k_extra "tail 3"))
  trivial
section
variable {prog : Program} {w : World} {A : Around} {E : Value → Shared → Prop} {Q : Value → Shared → Prop} {s : Shared} {u : Tok} {value slice : PySem.Expr}
theorem r_size {l : Addr} {vs : List Value} {d : Int} (ht : IsTup s.heap l vs.toArray) (hi : IntsAre vs [3, 0, 1, 2, 3, 4, 5, 6]) (h0 : 0 ≤ d) (h1 : d < 8) (h : ∀ z t, 0 ≤ z → z ≤ 6 → Q (.int z t) s)
    (hs : subscripted slice false (.ref l) (.int d u) = operate [.ref l, .int d u] (getItem (.ref l) (.int d u)) := by with_unfolding_all rfl) :
    wpAny (model prog w) A (subscriptTail value slice (.ref l) (.int d u)) Q E s := by
  refine item_anyT ht hi h0 h1 (by omega) (fun t => ?_) hs
  obtain ⟨n, rfl⟩ := Int.eq_ofNat_of_zero_le h0
  have key : ∀ k : Fin 8, 0 ≤ ([3, 0, 1, 2, 3, 4, 5, 6] : List Int).getD ((k.val : Int)).toNat 0 ∧ ([3, 0, 1, 2, 3, 4, 5, 6] : List Int).getD ((k.val : Int)).toNat 0 ≤ 6 := by decide
  have := key ⟨n, by omega⟩
  exact h _ t this.1 this.2
end
theorem noPy_pow {x : Int} {j : Nat} (hj : j ≤ 6) : Builtin.divisionGoesByPylong x (256 ^ j) = false := by
  refine PyProof.noPylong_of_log2 ?_
  have key : ∀ k : Fin 7, ((256 : Int) ^ k.val).natAbs.log2 < 9000 := by decide +kernel
  exact key ⟨j, by omega⟩
section
variable {prog : Program} {w : World} {A : Around} {E : Value → Shared → Prop} {Q : Value → Shared → Prop} {s : Shared} {t u : Tok}
theorem r_div_pow {x : Int} {j : Nat} (hj : j ≤ 6) (h : Q (.int (x / 256 ^ j) s.toks) { s with toks := s.toks + 1 }) : wpAny (model prog w) A (binaryOp .FloorDiv (.int x t) (.int (256 ^ j) u)) Q E s :=
  r_div (Int.pow_pos (by decide)) (noPy_pow hj) h
end
theorem in_map {f : Int → Int} {l : List Int} (h : ∀ k, 0 ≤ f k ∧ f k < 256) : KBa.In (l.map f) := by
  intro n hn
  obtain ⟨k, _, rfl⟩ := List.mem_map.mp hn
  exact h k
theorem in_set {l : List Int} {i : Nat} {v : Int} (h : KBa.In l) (hv : 0 ≤ v ∧ v < 256) : KBa.In (l.set i v) := by
  intro n hn
  rcases List.mem_or_eq_of_mem_set hn with hn | rfl
  · exact h n hn
  · exact hv
section
variable {prog : Program} {w : World} {A : Around} {E : Value → Shared → Prop} {Q : Value → Shared → Prop} {s : Shared} {u : Tok} {value slice : PySem.Expr} {h₀ : Heap} {L D : Addr} {news : List (Addr × Obj)} {vs : List Value} {ns : List Int} {n : Nat} {k : Int}
theorem r_rowget (N : News h₀ L s.heap news) (hm : (D, listOf vs.toArray n) ∈ news) (hi : IntsAre vs ns) (h0 : 0 ≤ k) (h1 : k < ns.length) (hfit : k < 2 ^ 63) (hin : KBa.In ns) (h : ∀ y t, 0 ≤ y → y < 256 → Q (.int y t) s)
    (hs : subscripted slice false (.ref D) (.int k u) = operate [.ref D, .int k u] (getItem (.ref D) (.int k u)) := by with_unfolding_all rfl) :
    wpAny (model prog w) A (subscriptTail value slice (.ref D) (.int k u)) Q E s := by
  have hk : k.toNat < ns.length := by omega
  have e : ns.getD k.toNat 0 = ns[k.toNat] := by rw [List.getD_eq_getElem?_getD, List.getElem?_eq_getElem hk]; rfl
  have hb := hin ns[k.toNat] (List.getElem_mem hk)
  refine ksa_sub N hm hi h0 h1 hfit (fun t => ?_) hs
  rw [e]
  exact h _ t hb.1 hb.2
end
theorem row_m (y : Int) : 0 ≤ y % 256 ∧ y % 256 < 256 := ⟨Int.emod_nonneg _ (by decide), Int.emod_lt_of_pos _ (by decide)⟩
theorem row_a {y : Int} (h0 : 0 ≤ y) (h1 : y < 256) : 0 ≤ 248 + y % 4 ∧ 248 + y % 4 < 256 := by omega
theorem row_b {y : Int} (h0 : 0 ≤ y) (h1 : y < 256) : 0 ≤ y / 64 * 64 + 63 ∧ y / 64 * 64 + 63 < 256 := by omega
theorem k_le {k z : Int} (h1 : k < 0 + ((z - 0).toNat : Int)) (h2 : z ≤ 6) : k.toNat ≤ 6 := by omega

example : True := by
  (k_with "subscriptTail Tuple cons BinOp ref int" => (k_here; k_dflt (refine' r_size ?k1 ?k2 ?k3 ?k4 ?_; (case k1 => exact News.isTup (by k_asm) (by k_mem)); (case k2 => l_ints); (case k3 => omega); (case k4 => omega)); intro z' t' z0' z1'))
  (k_with "binaryOp FloorDiv int int" => (k_here; (with_reducible refine' r_div_pow ?k1 ?_); (case k1 => first | exact k_le (by assumption) (by assumption) | omega)))
  (k_with "row rel" => (repeat' (first | (refine in_set ?_ ?_) | exact in_map (fun k => row_m _) | exact row_a (by assumption) (by assumption) | exact row_b (by assumption) (by assumption) | (constructor <;> omega))))
  (k_with "setItem ref int int" => (k_here; k_dflt (refine' ksa_set ?k1 ?k2 ?k3 ?k4 ?k5 ?k6 ?k7 ?_; (case k1 => k_asm); (case k2 => k_asm); (case k3 => k_upd); (case k4 => with_reducible assumption); (case k5 => omega); (case k6 => (simp only [List.length_set, List.length_map, rangeKs_length]; omega)); (case k7 => omega); k_whole); intro h' F' N' hi' hl' hs'; clear hs'; (try k_sweep)))
  (k_with "subscriptTail Name Constant ref int" => (k_here; k_dflt (refine' r_rowget ?k1 ?k2 ?k3 ?k4 ?k5 ?k6 ?k7 ?_ ?k8; (case k1 => k_asm); (case k2 => k_mem); (case k3 => with_reducible assumption); (case k4 => omega); (case k5 => (simp only [List.length_set, List.length_map, rangeKs_length]; omega)); (case k6 => omega); (case k7 => k_extra "row rel"); (case k8 => with_unfolding_all rfl); k_whole); intro y' t' y0' y1'))
  (k_with "subscriptTail Name BinOp ref int" => (k_here; k_dflt (refine' r_rowget ?k1 ?k2 ?k3 ?k4 ?k5 ?k6 ?k7 ?_ ?k8; (case k1 => k_asm); (case k2 => k_mem); (case k3 => with_reducible assumption); (case k4 => omega); (case k5 => (simp only [List.length_set, List.length_map, rangeKs_length]; omega)); (case k6 => omega); (case k7 => k_extra "row rel"); (case k8 => with_unfolding_all rfl); k_whole); intro y' t' y0' y1'))
  (k_with "call type:bytes" => (k_here; (with_reducible show wpAny _ _ (call (Value.type "bytes") [Value.ref _]) _ _ _); (rename News _ _ _ _ => nE'); k_dflt (refine' KBa.make_K ?kbaF nE' ?kbah (News.isList nE' (by k_mem)) ?kbai ?kbar ?kban ?_; (case kbaF => k_asm); (case kbah => rfl); (case kbai => with_reducible assumption); (case kbar => k_extra "row rel"); (case kban => (simp only [List.length_set, List.length_map, rangeKs_length]; omega))); intro _ _ _ F' N' kbaIn))
  trivial
set_option maxHeartbeats 8000000 in
theorem t_row (n : Int) (t : Tok) : Tell 2 114 [.int n t] [] (fun v => ∃ b t', b.size ≤ 6 ∧ v = .bytes b t') := by
  (k_with "bytes in" => k_extra "row rel")
  k_extra "open cells"
  w_strict k_steps
  all_goals (refine EndOf.intro (by k_asm) ?_)
  all_goals exact ⟨_, _, by rw [byteArr_size]; simp only [List.length_set, List.length_map, rangeKs_length]; omega, rfl⟩
example : True := by
  (k_with "call ref" => (k_here; k_dflt (refine' Tell.use (t_row _ _) ?k1 ?k2 ?k3 ?k4 ?k5 ?kK ?kd ?ku ?_; k_extra "tail 1"; k_extra "tail 2"); intro v' h' tk' hv' F' N'; (obtain ⟨b', t', hb', e'⟩ := hv'; subst e'); (try k_sweep); (try dsimp only); (try k_fold)))
  trivial
/-! texts cut, searched and compared, as lists of ints -/
section
open Builtin Builtin.Str
theorem txt_list (l : List Int) : (txt l).cps.toList = l.map Int.toNat := rfl
theorem slice_txt {l : List Int} {i j : Int} (h0 : 0 ≤ i) (h1 : i ≤ j) (h2 : j ≤ l.length) : Txt.slice (txt l) (some i) (some j) = txt ((l.drop i.toNat).take (j - i).toNat) := by
  have e := beq_iff_eq.mp (slice_closes (x := txt l) (i := i) (j := j) ⟨h0, h1, by rw [txt_list, List.length_map]; exact h2⟩)
  rw [e, txt_list]
  unfold txt
  rw [List.map_take, List.map_drop]
theorem slice_abc {l a b c : List Int} (e : l = a ++ (b ++ c)) {i j : Int} (hi : i = a.length) (hj : j = a.length + b.length) : Txt.slice (txt l) (some i) (some j) = txt b := by
  subst e hi hj
  rw [slice_txt (Int.natCast_nonneg _) (Int.le_add_of_nonneg_right (Int.natCast_nonneg _)) (by rw [List.length_append, List.length_append]; omega), Int.toNat_natCast, List.drop_left, Int.add_comm, Int.add_sub_cancel, Int.toNat_natCast, List.take_left]
theorem slice_txt_to {l : List Int} {j : Int} (h0 : 0 ≤ j) (h2 : j ≤ l.length) : Txt.slice (txt l) none (some j) = txt (l.take j.toNat) := by
  have e := beq_iff_eq.mp (slice_closes_to (x := txt l) (j := j) ⟨h0, by rw [txt_list, List.length_map]; exact h2⟩)
  rw [e, txt_list]
  unfold txt
  rw [List.map_take]
  simp
theorem indices_beyond_to {n : Nat} {j : Int} (h : (n : Int) ≤ j) : strSliceIndices none (some j) 1 n = strSliceIndices none (some (n : Int)) 1 n := by
  have h0 : ¬ j < 0 := by omega
  have h1 : ¬ ((n : Int) < 0) := by omega
  have h2 : (1 : Int) > 0 := by decide
  simp only [strSliceIndices, h0, h1, h2, if_false, if_true, Int.min_eq_right h, Int.min_self]
theorem slice_txt_beyond {l : List Int} {j : Int} (h : (l.length : Int) ≤ j) : Txt.slice (txt l) none (some j) = txt l := by
  have e2 : Txt.slice (txt l) none (some j) = Txt.slice (txt l) none (some (l.length : Int)) := by
    unfold Txt.slice
    rw [txt_len, indices_beyond_to h]
  rw [e2, slice_txt_to (by omega) (Int.le_refl _), Int.toNat_natCast, List.take_length]
/-- a negative end counts from behind -/
theorem indices_neg {n : Nat} {i j : Int} (hj : j < 0) (h : 0 ≤ j + n) : strSliceIndices (some i) (some j) 1 n = strSliceIndices (some i) (some (j + n)) 1 n := by
  have h1 : ¬ (j + (n : Int) < 0) := by omega
  have h2 : (1 : Int) > 0 := by decide
  simp only [strSliceIndices, hj, h1, h2, if_false, if_true]
theorem slice_txt_neg {l : List Int} {i j : Int} (hj : j < 0) (h1 : 0 ≤ j + l.length) : Txt.slice (txt l) (some i) (some j) = Txt.slice (txt l) (some i) (some (j + l.length)) := by
  unfold Txt.slice
  rw [txt_len, indices_neg hj h1]
theorem txt_inj {a b : List Int} (ha : ∀ n ∈ a, 0 ≤ n) (hb : ∀ n ∈ b, 0 ≤ n) (h : txt a = txt b) : a = b := by
  have h1 : a.map Int.toNat = b.map Int.toNat := by rw [← txt_list, ← txt_list, h]
  have h2 := congrArg (List.map fun n : Nat => (n : Int)) h1
  rw [List.map_map, List.map_map] at h2
  have e : ∀ c : List Int, (∀ n ∈ c, 0 ≤ n) → c.map ((fun n : Nat => (n : Int)) ∘ Int.toNat) = c := fun c hc =>
    (List.map_congr_left (g := _root_.id) fun n hn => Int.toNat_of_nonneg (hc n hn)).trans (List.map_id _)
  rw [e a ha, e b hb] at h2
  exact h2
/-- where a sign stands first -/
theorem occ_one {x : Str} {c i : Nat} (h : x.cps.toList[i]? = some c) (hn : ∀ k, k < i → x.cps.toList[k]? ≠ some c) : ∃ r, occurrences x ⟨#[c]⟩ 0 x.length 1 = i :: r := by
  rcases StrLaws.occ_head x ⟨#[c]⟩ 1 (Nat.le_refl 1) with ⟨_, h0⟩ | ⟨j, r, h0, ha, hb⟩
  · exact absurd ((StrLaws.subAt_one x c i).mpr h) (h0 i)
  · have h1 := (StrLaws.subAt_one x c j).mp ha
    have hij : j = i := by
      rcases Nat.lt_trichotomy j i with hl | hl | hl
      · exact absurd h1 (hn j hl)
      · exact hl
      · exact absurd ((StrLaws.subAt_one x c i).mpr h) (hb i hl)
    exact ⟨r, by rw [h0, hij]⟩
theorem occ_txt {a b : List Int} {c : Int} (hc : 0 ≤ c) (ha : ∀ n ∈ a, 0 ≤ n ∧ n ≠ c) : ∃ r, occurrences (txt (a ++ c :: b)) (txt [c]) 0 (txt (a ++ c :: b)).length 1 = a.length :: r := by
  refine occ_one (x := txt (a ++ c :: b)) (c := c.toNat) (i := a.length) ?_ ?_
  · rw [txt_list, List.map_append, List.getElem?_append_right (by simp)]
    simp
  · intro k hk e
    rw [txt_list, List.map_append, List.getElem?_append_left (by simpa using hk), List.getElem?_map, List.getElem?_eq_getElem hk] at e
    have h1 := ha a[k] (List.getElem_mem hk)
    simp only [Option.map_some, Option.some.injEq] at e
    omega
theorem in_txt {l : List Int} {c : Int} (hc : 0 ≤ c) (h : c ∈ l) : (!(occurrences (txt l) (txt [c]) 0 (txt l).length 1).isEmpty) = true := by
  have e := StrLaws.found_one (txt l) c.toNat
  refine e.trans (decide_eq_true ?_)
  rw [txt_list]
  exact List.mem_map.mpr ⟨c, h, rfl⟩
theorem notIn_txt {l : List Int} {c : Int} (hc : 0 ≤ c) (h : ∀ n ∈ l, 0 ≤ n ∧ n ≠ c) : (!(occurrences (txt l) (txt [c]) 0 (txt l).length 1).isEmpty) = false := by
  have e := StrLaws.found_one (txt l) c.toNat
  refine e.trans (decide_eq_false ?_)
  rw [txt_list]
  intro hm
  obtain ⟨n, hn, e⟩ := List.mem_map.mp hm
  have := h n hn
  omega
end
/-- the figures of a number, as str writes them -/
noncomputable def dec (n : Int) : List Int := (Str.ofString (toString n)).cps.toList.map fun c : Nat => (c : Int)
theorem txt_dec (n : Int) : txt (dec n) = Str.ofString (toString n) := by
  unfold txt dec
  rw [List.map_map]
  apply Str.ext'
  show (List.map (Int.toNat ∘ fun c : Nat => (c : Int)) (Str.ofString (toString n)).cps.toList).toArray = _
  have e : (Int.toNat ∘ fun c : Nat => (c : Int)) = fun c : Nat => c := by funext c; exact Int.toNat_natCast c
  rw [e, List.map_id']
theorem dec_len {n : Int} (h0 : 0 ≤ n) (h1 : n < 1000) : (dec n).length ≤ 3 := by
  unfold dec
  rw [List.length_map, Array.length_toList]
  exact toString_length_le (k := 3) h0 (by decide) h1
theorem dec_in {n : Int} (h0 : 0 ≤ n) : ∀ d ∈ dec n, 48 ≤ d ∧ d ≤ 57 := by
  intro d hd
  unfold dec at hd
  obtain ⟨c, hc, rfl⟩ := List.mem_map.mp hd
  obtain ⟨m, rfl⟩ := Int.eq_ofNat_of_zero_le h0
  rw [KIN.signs_num] at hc
  obtain ⟨ch, hch, e⟩ := List.mem_map.mp hc
  have r := digit_range (Nat.isDigit_of_mem_toDigits (by decide) (by decide) hch)
  omega
theorem dec_reads {n : Int} (h0 : 0 ≤ n) (h1 : n < 1000) : PySem.intText? (txt (dec n)) = some n := by
  rw [txt_dec]
  exact KIN.num_reads h0 (by omega)
/-! the two makes of a text -/
noncomputable def fullL (src : List Int) (line : Int) (name : List Int) : List Int := src ++ 58 :: (dec line ++ 40 :: (name ++ [41]))
noncomputable def midL (name : List Int) : List Int := (name.drop 1).take (name.length - 2)
noncomputable def braceL (name : List Int) : List Int := 123 :: (midL name ++ [125])
/-- a name whose figures begin with 62 and end with 63 -/
def Spc (name : List Int) : Prop := name.head? = some 60 ∧ name.getLast? = some 62
/-- what a built-in function's name is written as -/
noncomputable def stdL (name : List Int) : List Int := if name.head? = some 60 ∧ name.getLast? = some 62 then braceL name else name
theorem spc_make {name : List Int} (h : Spc name) : name = 60 :: (midL name ++ [62]) := by
  obtain ⟨h1, h2⟩ := h
  cases name with
  | nil => cases h1
  | cons a r =>
    have ha : a = 60 := by simpa using h1
    subst ha
    rcases List.eq_nil_or_concat r with rfl | ⟨m, z, rfl⟩
    · simp at h2
    · have hz : z = 62 := by
        rw [List.concat_eq_append, ← List.cons_append, List.getLast?_concat] at h2
        exact Option.some.inj h2
      subst hz
      unfold midL
      simp
/-! the name's ends -/
theorem starts_txt (N : List Int) (hN : ∀ n ∈ N, 0 ≤ n) : Txt.startswith (txt N) (Str.ofString "<") = decide (N.head? = some 60) := by
  have e : Str.ofString "<" = (⟨#[60]⟩ : Str) := by decide +kernel
  rw [e]
  unfold Txt.startswith
  rw [Bool.eq_iff_iff, decide_eq_true_eq, Bool.and_eq_true, decide_eq_true_eq]
  refine (StrLaws.subAt_one (txt N) 60 0).trans ?_
  rw [txt_list]
  cases N with
  | nil => simp
  | cons a r =>
    have ha := hN a (.head _)
    simp only [List.map_cons, List.getElem?_cons_zero, List.head?_cons, Option.some.injEq]
    omega
theorem ends_txt (N : List Int) (hN : ∀ n ∈ N, 0 ≤ n) : Txt.endswith (txt N) (Str.ofString ">") = decide (N.getLast? = some 62) := by
  have e : Str.ofString ">" = (⟨#[62]⟩ : Str) := by decide +kernel
  rw [e]
  unfold Txt.endswith
  rw [Bool.eq_iff_iff, decide_eq_true_eq, Bool.and_eq_true, decide_eq_true_eq]
  have e1 : (⟨#[62]⟩ : Str).length = 1 := rfl
  rcases List.eq_nil_or_concat N with rfl | ⟨m, z, rfl⟩
  · rw [e1, txt_len]; simp
  · rw [List.concat_eq_append] at hN ⊢
    have hz := hN z (by simp)
    have h0 : (txt (m ++ [z])).length - (⟨#[62]⟩ : Str).length = m.length := by rw [e1, txt_len]; simp
    rw [h0]
    have k := StrLaws.subAt_one (txt (m ++ [z])) 62 m.length
    rw [txt_list, e1] at k
    have h1 : (List.map Int.toNat (m ++ [z]))[m.length]? = some z.toNat := by simp
    rw [h1] at k
    rw [e1, List.getLast?_concat, Option.some.injEq]
    constructor
    · rintro ⟨_, h⟩
      have := Option.some.inj (k.mp ⟨by rw [txt_len]; simp, h⟩)
      omega
    · intro h
      subst h
      exact ⟨by rw [txt_len]; simp, (k.mpr rfl).2⟩
theorem fig_first {d : Int} (h0 : 0 ≤ d) (h1 : d < 64) : fig d = 60 ↔ d = 62 := fin64 (P := fun d => fig d = 60 ↔ d = 62) (by decide +kernel) h0 h1
theorem fig_last {d : Int} (h0 : 0 ≤ d) (h1 : d < 64) : fig d = 62 ↔ d = 63 := fin64 (P := fun d => fig d = 62 ↔ d = 63) (by decide +kernel) h0 h1
theorem digs_head {a : Int} : ∀ l : List Int, ∃ r, digs (a :: l) = a / 4 :: r
  | [] => ⟨_, rfl⟩
  | [_] => ⟨_, rfl⟩
  | _ :: _ :: _ => ⟨_, rfl⟩
theorem digs_last : ∀ (l : List Int) (z : Int), (l ++ [z]).length % 3 = 0 → ∃ m, digs (l ++ [z]) = m ++ [z % 64]
  | [], _, h => by simp at h
  | [_], _, h => by simp at h
  | [a, b], z, _ => ⟨[a / 4, a % 4 * 16 + b / 16, b % 16 * 4 + z / 64], rfl⟩
  | a :: b :: c :: r, z, h => by
    have h' : (r ++ [z]).length % 3 = 0 := by simp only [List.length_append, List.length_cons, List.length_nil] at h ⊢; omega
    obtain ⟨m, e⟩ := digs_last r z h'
    refine ⟨a / 4 :: (a % 4 * 16 + b / 16) :: (b % 16 * 4 + c / 64) :: c % 64 :: m, ?_⟩
    show a / 4 :: (a % 4 * 16 + b / 16) :: (b % 16 * 4 + c / 64) :: c % 64 :: digs (r ++ [z]) = _
    rw [e]
    simp
theorem spc_iff {l : List Int} (h : Oct l) : Spc (encA l) ↔ 0 < l.length ∧ l.length % 3 = 0 ∧ l.getD 0 0 / 4 = 62 ∧ l.getD (l.length - 1) 0 % 64 = 63 := by
  have e := encA_eq h
  have hd := digs_in l h
  have mk := digs_make l
  have hH : (encA l).head? = some 60 ↔ 0 < l.length ∧ l.getD 0 0 / 4 = 62 := by
    cases l with
    | nil => rw [e]; simp [digs, padN]
    | cons a r =>
      obtain ⟨q, eq⟩ := digs_head (a := a) r
      have ha := h.head
      rw [e, eq]
      rw [List.map_cons, List.cons_append, List.head?_cons, Option.some.injEq, fig_first (by omega) (by omega)]
      exact ⟨fun h => ⟨Nat.succ_pos _, h⟩, fun h => h.2⟩
  have hL : (encA l).getLast? = some 62 ↔ 0 < l.length ∧ l.length % 3 = 0 ∧ l.getD (l.length - 1) 0 % 64 = 63 := by
    rw [e]
    by_cases h3 : l.length % 3 = 0
    · have hp : padN l = 0 := by omega
      rw [hp, List.replicate_zero, List.append_nil]
      rcases List.eq_nil_or_concat l with rfl | ⟨m, z, rfl⟩
      · simp [digs]
      · rw [List.concat_eq_append] at h3 h hd ⊢
        obtain ⟨q, eq⟩ := digs_last m z h3
        have hz : 0 ≤ z ∧ z < 256 := h z (by simp)
        rw [eq, List.map_append, List.map_singleton, List.getLast?_concat, Option.some.injEq, fig_last (by omega) (by omega)]
        have e1 : (m ++ [z]).getD ((m ++ [z]).length - 1) 0 = z := by simp
        rw [e1]
        exact ⟨fun h => ⟨by rw [List.length_append]; exact Nat.succ_pos _, h3, h⟩, fun h => h.2.2⟩
    · have hp : padN l = 1 ∨ padN l = 2 := by omega
      have h4 : ((digs l).map fig ++ List.replicate (padN l) 61).getLast? = some 61 := by
        rcases hp with hp | hp
        · rw [hp]; exact List.getLast?_concat ..
        · rw [hp]
          show ((digs l).map fig ++ [61, 61]).getLast? = some 61
          simp
      rw [h4]
      exact ⟨fun h5 => absurd h5 (by decide), fun h5 => absurd h5.2.1 h3⟩
  unfold Spc
  rw [hH, hL]
  constructor
  · rintro ⟨⟨h1, h2⟩, _, h3, h4⟩; exact ⟨h1, h3, h2, h4⟩
  · rintro ⟨h1, h3, h2, h4⟩; exact ⟨⟨h1, h2⟩, h1, h3, h4⟩
theorem spc_of {N : List Int} (hN : ∀ n ∈ N, 0 ≤ n) (h1 : Txt.startswith (txt N) (Str.ofString "<") = true) (h2 : Txt.endswith (txt N) (Str.ofString ">") = true) : Spc N := by
  rw [starts_txt N hN] at h1
  rw [ends_txt N hN] at h2
  exact ⟨of_decide_eq_true h1, of_decide_eq_true h2⟩
theorem not_spc_s {N : List Int} (hN : ∀ n ∈ N, 0 ≤ n) (h1 : Txt.startswith (txt N) (Str.ofString "<") = false) : ¬ Spc N := by
  rw [starts_txt N hN] at h1
  exact fun h => of_decide_eq_false h1 h.1
theorem not_spc_e {N : List Int} (hN : ∀ n ∈ N, 0 ≤ n) (h2 : Txt.endswith (txt N) (Str.ofString ">") = false) : ¬ Spc N := by
  rw [ends_txt N hN] at h2
  exact fun h => of_decide_eq_false h2 h.2
theorem spc_len {N : List Int} (h : Spc N) : 2 ≤ N.length := by
  have e := congrArg List.length (spc_make h)
  simp only [List.length_cons, List.length_append, List.length_nil] at e
  omega
theorem mid_two {N : List Int} (h : Spc N) : (midL N).length + 2 = N.length := by
  have e := congrArg List.length (spc_make h)
  rw [e]
  simp only [List.length_cons, List.length_append, List.length_nil]
theorem slice_mid {N : List Int} (h : Spc N) {i j : Int} (hi : i = 1) (hj : j = N.length - 1) : Txt.slice (txt N) (some i) (some j) = txt (midL N) := by
  have h2 := mid_two h
  refine slice_abc (a := [60]) (c := [62]) (spc_make h) hi ?_
  show j = ((1 : Nat) : Int) + _
  omega
theorem slice_mid_neg {N : List Int} (h : Spc N) {i j : Int} (hi : i = 1) (hj : j = -1) : Txt.slice (txt N) (some i) (some j) = txt (midL N) := by
  have h2 := mid_two h
  rw [slice_txt_neg (by omega) (by omega)]
  exact slice_mid h hi (by omega)
theorem mid_len (N : List Int) : (txt (midL N)).length ≤ N.length := by
  rw [txt_len]
  unfold midL
  rw [List.length_take, List.length_drop]
  omega
theorem lit_brace : Str.ofString "{" = txt [123] := by decide +kernel
theorem lit_close : Str.ofString "}" = txt [125] := by decide +kernel
theorem lit_tilde : Str.ofString "~" = txt [126] := by decide +kernel
theorem lit_tildec : Str.ofString "~:" = txt [126, 58] := by decide +kernel
theorem lit_colon : Str.ofString ":" = txt [58] := by decide +kernel
theorem lit_hook : Str.ofString "(" = txt [40] := by decide +kernel
theorem lit_hookc : Str.ofString ")" = txt [41] := by decide +kernel
theorem lit_lt : Str.ofString "<" = txt [60] := by decide +kernel
theorem lit_gt : Str.ofString ">" = txt [62] := by decide +kernel
theorem brace_txt (N : List Int) : (Str.ofString "{" ++ txt (midL N)) ++ Str.ofString "}" = txt (braceL N) := by
  rw [lit_brace, lit_close, txt_append, txt_append]
  rfl
theorem full_txt (src : List Int) (line : Int) (N : List Int) : ((((txt src ++ Str.ofString ":") ++ Str.ofString (toString line)) ++ Str.ofString "(") ++ txt N) ++ Str.ofString ")" = txt (fullL src line N) := by
  rw [← txt_dec, lit_colon, lit_hook, lit_hookc, txt_append, txt_append, txt_append, txt_append, txt_append]
  unfold fullL
  simp
theorem full_tilde (line : Int) (N : List Int) : (((Str.ofString "~:" ++ Str.ofString (toString line)) ++ Str.ofString "(") ++ txt N) ++ Str.ofString ")" = txt (fullL [126] line N) := by
  rw [← txt_dec, lit_tildec, lit_hook, lit_hookc, txt_append, txt_append, txt_append, txt_append]
  unfold fullL
  simp
theorem std_if {N : List Int} (h : Spc N) : stdL N = braceL N := if_pos h
theorem std_not {N : List Int} (h : ¬ Spc N) : stdL N = N := if_neg h

/-! the first two places of a tuple of three -/
section
variable {prog : Program} {w : World} {A : Around} {E : Value → Shared → Prop} {s : Shared} {h₀ : Heap} {L : Addr} {m : Str → Option Value} {news : List (Addr × Obj)} {x y z : Value}
theorem applied_two {sl : Addr} {u : Tok} {Q : Int × Int × Nat → Shared → Prop} (hs : s.heap.IsSliceOf sl .none (.int 2 u) .none) (h : Q (0, 1, 2) s) :
    wpAny (model prog w) A (Builtin.Slice.sliceApplied (.ref sl) (pure (3 : Int))) Q E s := by
  obtain ⟨os, hos, hcs, hds⟩ := id hs
  unfold Builtin.Slice.sliceApplied Builtin.Slice.sliceFields
  refine wpAny_bind (wpAny_bind (wpAny_field hos hds (x := .none) rfl (wpAny_bind (wpAny_field hos hds (x := .int 2 u) rfl (wpAny_bind (wpAny_field hos hds (x := .none) rfl (wpAny_pure ?_)))))))
  refine wpAny_bind (slicePart_none ?_)
  show wpAny _ _ (if ((1 : Int) == 0) = true then _ else _) _ _ s
  rw [if_neg (by decide)]
  refine wpAny_bind (slicePart_none (wpAny_bind (slicePart_int (wpAny_bind (wpAny_pure ?_)))))
  show wpAny _ _ (match Builtin.Slice.sliceAdjust none (some (2 : Int)) 1 (3 : Int) with | (lo, hi) => pure (lo, (1 : Int), Builtin.Slice.slicePlaces lo hi 1)) _ _ s
  rw [show Builtin.Slice.sliceAdjust none (some (2 : Int)) 1 (3 : Int) = (0, 2) from by decide]
  show wpAny _ _ (pure ((0 : Int), (1 : Int), Builtin.Slice.slicePlaces (0 : Int) (2 : Int) 1)) _ _ s
  rw [show Builtin.Slice.slicePlaces (0 : Int) (2 : Int) 1 = 2 from by decide]
  exact wpAny_pure h
theorem getItem_two {t sl : Addr} {u : Tok} {Q : Value → Shared → Prop} (ht : IsTup s.heap t #[x, y, z]) (hs : s.heap.IsSliceOf sl .none (.int 2 u) .none)
    (h : Q (.ref s.heap.objs.size) { s with heap := s.heap.push { cls := .type "tuple", data := .seq #[x, y] } }) : wpAny (model prog w) A (getItem (.ref t) (.ref sl)) Q E s := by
  have hdrop : sizeOk (.seq #[x, y]) := by show 2 ≤ sizeLine; rw [sizeLine_eq]; decide
  obtain ⟨os, hos, hcs, hds⟩ := id hs
  have hTs : s.TypeIs (.ref sl) "slice" := ⟨os, hos, hcs⟩
  unfold getItem
  try with_reducible refine wpAny_holding ?_
  first | refine wpAny_bind (wpAny_pure ?_) | skip
  refine wpAny_bind (wpAny_sequenceKey ht.typeIs (by decide) ?_)
  refine wpAny_bind (wpAny_callSpecial?_slot (name := Str.ofString "__getitem__") ht.typeIs slot_tuple_getitem
    (wpAny_call_entry slot_tuple_getitem ht.typeIs entry_tuple_getitem ?_ (args_tuple_getitem _ _)))
  show wpAny _ _ (Builtin.Tuple.tupleItemsOf (.ref t) >>= _) _ _ s
  refine wpAny_bind (tupleItemsOf_ ht ?_)
  refine wpAny_bind (wpAny_typeOf hTs ?_)
  rw [if_pos (by decide)]
  refine wpAny_bind (applied_two hs ?_)
  show wpAny _ _ (if ((0 : Int) == 0 && (1 : Int) == 1 && (2 : Nat) == 3) = true then _ else _) _ _ s
  rw [if_neg (by decide)]
  show wpAny _ _ (Builtin.Tuple.tupleExact #[x, y] >>= _) _ _ s
  first
    | exact wpAny_bind (m := Builtin.Tuple.tupleExact _) (wpAny_newObj_type (wpAny_pure ⟨_, rfl, wpAny_pure h⟩) hdrop)
    | exact wpAny_bind (m := Builtin.Tuple.tupleExact _) (wpAny_newObj_type (wpAny_bind (wpAny_pure (wpAny_pure ⟨_, rfl, wpAny_pure h⟩))) hdrop)
    | exact wpAny_bind (wpAny_bind (m := Builtin.Tuple.tupleExact _) (wpAny_newObj_type (wpAny_pure (wpAny_pure ⟨_, rfl, wpAny_pure h⟩)) hdrop))
    | exact wpAny_bind (wpAny_bind (m := Builtin.Tuple.tupleExact _) (wpAny_newObj_type (wpAny_pure ⟨_, rfl, wpAny_pure h⟩) hdrop))
theorem r_two {value slice : PySem.Expr} {t : Addr} {u : Tok} {Q : Value → Shared → Prop}
    (F : Fr h₀ L s.heap m) (N : News h₀ L s.heap news) (ht : IsTup s.heap t #[x, y, z])
    (h : ∀ q h', Fr h₀ L h' m → News h₀ L h' ((q, { cls := .type "tuple", data := .seq #[x, y] }) :: news) → (∀ p ∈ news, p.1 < q) → Q (.ref q) { s with heap := h' })
    (hs : subscripted slice false (.ref t) (.ref s.heap.objs.size) = operate [.ref s.heap.objs.size, .ref t] (getItem (.ref t) (.ref s.heap.objs.size)) := by with_unfolding_all rfl)
    (hg : ∀ r, letTemporaryGo value (.ref t) r = pure () := by intro _; with_unfolding_all rfl) :
    wpAny (model prog w) A (subscriptTail value slice (.ref t) (.ref s.heap.objs.size)) Q E { s with heap := s.heap.push { cls := .type "slice", data := .fields #[.none, .int 2 u, .none] } } := by
  have ht' : IsTup (s.heap.push { cls := .type "slice", data := .fields #[.none, .int 2 u, .none] }) t #[x, y, z] := ht.keeps fun _ _ e => Heap.get?_push_of_some _ e
  refine subscriptTail_ops (s := { s with heap := s.heap.push { cls := .type "slice", data := .fields #[.none, .int 2 u, .none] } }) ht'.typeIs slot_tuple_getitem.lookup
    (getItem_two ht' (Heap.IsSliceOf.new ..) ?_) hs hg
  have N1 := News.push (F.push { cls := .type "slice", data := .fields #[.none, .int 2 u, .none] }) (N.grown fun _ _ e => Heap.get?_push_of_some _ e) { cls := .type "tuple", data := .seq #[x, y] }
  exact h _ _ ((F.push _).push _) N1 fun p hp => Heap.lt_size (Heap.get?_push_of_some _ (N p hp).1)
end

/-! steps upon texts, by facts that the context holds -/
/-- an item of bytes, told apart from the arithmetic -/
def Said (b : Array UInt8) (k : Nat) (y : Int) : Prop := (KBw.bInts b).getD k 0 = y
theorem Said.out {b : Array UInt8} {k : Nat} {y : Int} (h : Said b k y) : (KBw.bInts b).getD k 0 = y := h
section
variable {prog : Program} {w : World} {A : Around} {E : Value → Shared → Prop} {Q : Value → Shared → Prop} {s : Shared} {t u : Tok} {value slice : PySem.Expr} {x y z : Str} {h₀ : Heap} {L : Addr} {m : Str → Option Value} {news : List (Addr × Obj)}
theorem r_starts {N : List Int} (hN : ∀ n ∈ N, 0 ≤ n) (h : Q (.bool (decide (N.head? = some 60))) s) : wpAny (model prog w) A (call (.builtin "str.startswith") [.str (txt N) t, .str (Str.ofString "<") u]) Q E s :=
  SC.startswith (by rw [starts_txt N hN]; exact h)
theorem r_ends {N : List Int} (hN : ∀ n ∈ N, 0 ≤ n) (h : Q (.bool (decide (N.getLast? = some 62))) s) : wpAny (model prog w) A (call (.builtin "str.endswith") [.str (txt N) t, .str (Str.ofString ">") u]) Q E s :=
  SC.endswith (by rw [ends_txt N hN]; exact h)
theorem r_slc_ss {i j : Int} {ui uj : Tok} (hF : Fr h₀ L s.heap m) (hN : News h₀ L s.heap news) (e : Txt.slice x (some i) (some j) = y) (hz : x.length ≤ 16777216)
    (h : ∀ h' t' k, Fr h₀ L h' m → News h₀ L h' news → Q (.str y t') { s with heap := h', toks := k })
    (hs : subscripted slice false (.str x t) (.ref s.heap.objs.size) = operate [.ref s.heap.objs.size, .str x t] (getItem (.str x t) (.ref s.heap.objs.size)) := by with_unfolding_all rfl)
    (ht : ∀ r, letTemporaryGo value (.str x t) r = pure () := by intro _; with_unfolding_all rfl) :
    wpAny (model prog w) A (subscriptTail value slice (.str x t) (.ref s.heap.objs.size)) Q E { s with heap := s.heap.push { cls := .type "slice", data := .fields #[.int i ui, .int j uj, .none] } } :=
  slice_strN_ss hF hN (fun h' t' k a b => by rw [e]; exact h h' t' k a b) hs ht (by rw [sizeLine_eq]; exact hz)
theorem r_slc_ns {j : Int} {uj : Tok} (hF : Fr h₀ L s.heap m) (hN : News h₀ L s.heap news) (e : Txt.slice x none (some j) = y) (hz : x.length ≤ 16777216)
    (h : ∀ h' t' k, Fr h₀ L h' m → News h₀ L h' news → Q (.str y t') { s with heap := h', toks := k })
    (hs : subscripted slice false (.str x t) (.ref s.heap.objs.size) = operate [.ref s.heap.objs.size, .str x t] (getItem (.str x t) (.ref s.heap.objs.size)) := by with_unfolding_all rfl)
    (ht : ∀ r, letTemporaryGo value (.str x t) r = pure () := by intro _; with_unfolding_all rfl) :
    wpAny (model prog w) A (subscriptTail value slice (.str x t) (.ref s.heap.objs.size)) Q E { s with heap := s.heap.push { cls := .type "slice", data := .fields #[.none, .int j uj, .none] } } :=
  slice_strN_ns hF hN (fun h' t' k a b => by rw [e]; exact h h' t' k a b) hs ht (by rw [sizeLine_eq]; exact hz)
theorem r_eqs_yes (e : x = y) (h : Q (.bool true) s) : wpAny (model prog w) A (compareOp .Eq (.str x t) (.str y u)) Q E s :=
  PyProof.Rows.eq_str (by rw [e, beq_self_eq_true]; exact h)
theorem r_eqs_no (e : x ≠ y) (h : Q (.bool false) s) : wpAny (model prog w) A (compareOp .Eq (.str x t) (.str y u)) Q E s :=
  PyProof.Rows.eq_str (by rw [beq_eq_false_iff_ne.mpr e]; exact h)
theorem r_notin {b : Bool} (e : (!(Builtin.Str.occurrences x y 0 x.length 1).isEmpty) = b) (h : Q (.bool (!b)) s) : wpAny (model prog w) A (compareOp .NotIn (.str y u) (.str x t)) Q E s :=
  PyProof.Rows.notIn_str (by rw [e]; exact h)
theorem r_index {i : Nat} (e : ∃ r, Builtin.Str.occurrences x y 0 x.length 1 = i :: r) (h : Q (.int i s.toks) { s with toks := s.toks + 1 }) : wpAny (model prog w) A (call (.builtin "str.index") [.str x t, .str y u]) Q E s := by
  obtain ⟨r, e⟩ := e
  exact SC.index e h
theorem r_len_is {n : Nat} (e : x.length = n) (hn : n ≤ 16777216) (h : Q (.int (n : Int) (s.toks + 1)) { s with toks := s.toks + 1 + 1 }) : wpAny (model prog w) A (call (.builtin "len") [.str x t]) Q E s := by
  subst e
  exact PyProof.Rows.len_str (by omega) h
theorem r_add_is (e : x ++ y = z) (hz : z.length ≤ 16777216) (h : ∀ t' k, Q (.str z t') { s with toks := k }) : wpAny (model prog w) A (binaryOp .Add (.str x t) (.str y u)) Q E s := by
  subst e
  exact r_add (by rw [PySem.Str.length_append] at hz; exact hz) h
theorem r_add_any {a b : List Int} (ex : x = txt a) (ey : y = txt b) (hz : a.length + b.length ≤ 16777216) (h : ∀ t' k, Q (.str (txt (a ++ b)) t') { s with toks := k }) : wpAny (model prog w) A (binaryOp .Add (.str x t) (.str y u)) Q E s := by
  subst ex ey
  exact r_add_txt hz h
theorem r_bitem {b : Array UInt8} {d : Int} {k : Nat} (hk : d = (k : Int)) (h1 : k < b.size) (hz : b.size ≤ 6) (h : ∀ (y : Int) t' k', Said b k y → 0 ≤ y → y < 256 → Q (.int y t') { s with toks := k' })
    (hs : subscripted slice false (.bytes b t) (.int d u) = operate [.bytes b t, .int d u] (getItem (.bytes b t) (.int d u)) := by with_unfolding_all rfl)
    (ht : ∀ r, letTemporaryGo value (.bytes b t) r = pure () := by intro _; with_unfolding_all rfl) :
    wpAny (model prog w) A (subscriptTail value slice (.bytes b t) (.int d u)) Q E s := by
  subst hk
  obtain ⟨l⟩ := b
  have hl : l.length ≤ 6 := hz
  have hk : k < l.length := h1
  have e : (KBw.bInts ⟨l⟩).getD k 0 = ((l.getD k 0).toNat : Int) := by
    unfold KBw.bInts
    rw [List.getD_eq_getElem?_getD, List.getD_eq_getElem?_getD, List.getElem?_map, List.getElem?_eq_getElem hk]
    rfl
  have hb := UInt8.toNat_lt (l.getD k 0)
  refine KBy.item_N (x := l) (by omega) (by omega) (by omega) ?_ hs ht
  rw [Int.toNat_natCast, ← e]
  exact h _ _ _ (show (KBw.bInts ⟨l⟩).getD k 0 = _ from rfl) (by rw [e]; omega) (by rw [e]; omega)
theorem r_blast {b : Array UInt8} {d : Int} (h0 : 0 < b.size) (hk : d = (b.size : Int) - 1) (hz : b.size ≤ 6) (h : ∀ (y : Int) t' k', Said b (b.size - 1) y → 0 ≤ y → y < 256 → Q (.int y t') { s with toks := k' })
    (hs : subscripted slice false (.bytes b t) (.int d u) = operate [.bytes b t, .int d u] (getItem (.bytes b t) (.int d u)) := by with_unfolding_all rfl)
    (ht : ∀ r, letTemporaryGo value (.bytes b t) r = pure () := by intro _; with_unfolding_all rfl) :
    wpAny (model prog w) A (subscriptTail value slice (.bytes b t) (.int d u)) Q E s :=
  r_bitem (k := b.size - 1) (by omega) (by omega) hz h hs ht
end

/-! tuples compared -/
section
open SeqAt
variable {prog : Program} {w : World} {A : Around} {E : Value → Shared → Prop} {Q : Value → Shared → Prop} {s : Shared} {h₀ : Heap} {L a c : Addr} {news : List (Addr × Obj)} {na nc : Nat}
theorem eqAt_bytes (b : Array UInt8) (t u : Tok) : EqAt A s (.bytes b t) (.bytes b u) true := fun prog w E Q h => eqBool_bytes (by simpa using h)
theorem eqAt_int (i : Int) (t u : Tok) : EqAt A s (.int i t) (.int i u) true := by
  have := EqAt.int_int (A := A) (s := s) i t i u
  rwa [beq_self_eq_true] at this
theorem eqAt_str (x : Str) (t u : Tok) : EqAt A s (.str x t) (.str x u) true := by
  have := EqAt.str_str (A := A) (s := s) x t x u
  rwa [beq_self_eq_true] at this
theorem isTuple_of {items : Array Value} (N : News h₀ L s.heap news) (hm : (a, ({ cls := .type "tuple", data := .seq items na } : Obj)) ∈ news) : s.heap.IsTuple a items := ⟨_, (N _ hm).1, rfl, _, rfl⟩
theorem r_eqt2 {x y : Str} {i j : Int} {t1 t2 u1 u2 : Tok} {b : Bool} (N : News h₀ L s.heap news)
    (ha : (a, ({ cls := .type "tuple", data := .seq #[.str x t1, .int i t2] na } : Obj)) ∈ news) (hc : (c, ({ cls := .type "tuple", data := .seq #[.str y u1, .int j u2] nc } : Obj)) ∈ news) (hu : A.units < cLine)
    (hb : (x == y && i == j) = b) (h : Q (.bool b) s) : wpAny (model prog w) A (compareOp .Eq (.ref a) (.ref c)) Q E s := by
  refine eq_tupleAt (e := fun k => if k = 0 then x == y else i == j) (isTuple_of N ha) (isTuple_of N hc) hu ?_ ?_
  · intro k h1 _
    have hk : k = 0 ∨ k = 1 := by have : k < 2 := h1; omega
    rcases hk with rfl | rfl
    · exact EqAt.str_str x t1 y u1
    · exact EqAt.int_int i t2 j u2
  · have e : ((List.range (min (#[Value.str x t1, Value.int i t2] : Array Value).size (#[Value.str y u1, Value.int j u2] : Array Value).size)).all (fun k => if k = 0 then x == y else i == j) && ((#[Value.str x t1, Value.int i t2] : Array Value).size == (#[Value.str y u1, Value.int j u2] : Array Value).size)) = b := by
      rw [← hb]
      show ((List.range 2).all (fun k => if k = 0 then x == y else i == j) && true) = _
      simp [List.range, List.range.loop]
    rw [e]
    exact h
theorem eqt3 {x1 x2 x3 y1 y2 y3 : Value} (N : News h₀ L s.heap news)
    (ha : (a, ({ cls := .type "tuple", data := .seq #[x1, x2, x3] na } : Obj)) ∈ news) (hc : (c, ({ cls := .type "tuple", data := .seq #[y1, y2, y3] nc } : Obj)) ∈ news) (hu : A.units < cLine)
    (e1 : EqAt A.in1 s x1 y1 true) (e2 : EqAt A.in1 s x2 y2 true) (e3 : EqAt A.in1 s x3 y3 true) (h : Q (.bool true) s) : wpAny (model prog w) A (compareOp .Eq (.ref a) (.ref c)) Q E s := by
  refine eq_tupleAt (e := fun _ => true) (isTuple_of N ha) (isTuple_of N hc) hu ?_ ?_
  · intro k h1 _
    have hk : k = 0 ∨ k = 1 ∨ k = 2 := by have : k < 3 := h1; omega
    rcases hk with rfl | rfl | rfl
    · exact e1
    · exact e2
    · exact e3
  · have e : ((List.range (min (#[x1, x2, x3] : Array Value).size (#[y1, y2, y3] : Array Value).size)).all (fun _ => true) && ((#[x1, x2, x3] : Array Value).size == (#[y1, y2, y3] : Array Value).size)) = true := by
      show ((List.range 3).all (fun _ => true) && true) = true
      simp
    rw [e]
    exact h
theorem r_eqt3s {x : Str} {i : Int} {b : Array UInt8} {t1 t2 t3 u1 u2 u3 : Tok} (N : News h₀ L s.heap news)
    (ha : (a, ({ cls := .type "tuple", data := .seq #[.str x t1, .int i t2, .bytes b t3] na } : Obj)) ∈ news) (hc : (c, ({ cls := .type "tuple", data := .seq #[.str x u1, .int i u2, .bytes b u3] nc } : Obj)) ∈ news) (hu : A.units < cLine)
    (h : Q (.bool true) s) : wpAny (model prog w) A (compareOp .Eq (.ref a) (.ref c)) Q E s :=
  eqt3 N ha hc hu (eqAt_str x t1 u1) (eqAt_int i t2 u2) (eqAt_bytes b t3 u3) h
theorem r_eqt3b {x : Array UInt8} {i : Int} {b : Array UInt8} {t1 t2 t3 u1 u2 u3 : Tok} (N : News h₀ L s.heap news)
    (ha : (a, ({ cls := .type "tuple", data := .seq #[.bytes x t1, .int i t2, .bytes b t3] na } : Obj)) ∈ news) (hc : (c, ({ cls := .type "tuple", data := .seq #[.bytes x u1, .int i u2, .bytes b u3] nc } : Obj)) ∈ news) (hu : A.units < cLine)
    (h : Q (.bool true) s) : wpAny (model prog w) A (compareOp .Eq (.ref a) (.ref c)) Q E s :=
  eqt3 N ha hc hu (eqAt_bytes x t1 u1) (eqAt_int i t2 u2) (eqAt_bytes b t3 u3) h
end

example : True := by
  (k_with "subscriptTail Name Slice ref ref" => (k_here; (rename Fr _ _ _ _ => F'); (rename News _ _ _ _ => N'); k_dflt (refine' r_two (s := ⟨_, _, _, _, _⟩) F' N' (News.isTup N' (by k_mem)) ?_ ?k1 ?k2; (case k1 => with_unfolding_all rfl); (case k2 => (intro _; with_unfolding_all rfl))); clear F' N'; intro q' h' F' N' l1; (try k_lt l1); (try k_sweep)))
  (k_with "call builtin:str.startswith" => (k_here; (with_reducible refine' r_starts ?k1 ?_); (case k1 => assumption)))
  (k_with "call builtin:str.endswith" => (k_here; (with_reducible refine' r_ends ?k1 ?_); (case k1 => assumption)))
  (k_with "subscriptTail Name Slice str ref" => (k_here; (with_reducible rename Fr _ _ _ _ => F'); (with_reducible rename News _ _ _ _ => N'); (first | ((with_reducible show wpAny _ _ (subscriptTail _ (Expr.Slice (some _) (some _) none _) _ _) _ _ _); refine' r_slc_ss (s := ⟨_, _, _, _, _⟩) F' N' ?ke ?kz ?_ ?k1 ?k2) | ((with_reducible show wpAny _ _ (subscriptTail _ (Expr.Slice none (some _) none _) _ _) _ _ _); refine' r_slc_ns (s := ⟨_, _, _, _, _⟩) F' N' ?ke ?kz ?_ ?k1 ?k2)); (case ke => k_extra "slice"); (case kz => first | omega | (rw [txt_len]; omega)); (case k1 => with_unfolding_all rfl); (case k2 => (intro _; with_unfolding_all rfl)); clear F' N'; intro h' _ _ F' N'))
  (k_with "compareOp Eq str str" => (k_here; (first | (with_reducible refine' r_eqs_yes ?ke ?_; (case ke => k_extra "eq")) | (with_reducible refine' r_eqs_no ?ke ?_; (case ke => k_extra "ne")))))
  (k_with "compareOp NotIn str str" => (k_here; (with_reducible refine' r_notin ?ke ?_); (case ke => k_extra "in")))
  (k_with "call builtin:str.index" => (k_here; k_dflt (refine' r_index ?ke ?_; (case ke => k_extra "index"))))
  (k_with "call builtin:len" => (k_here; (with_reducible show wpAny _ _ (call (Value.builtin "len") [Value.str _ _]) _ _ _); (with_reducible refine' r_len_is ?ke ?kz ?_); (case ke => k_extra "len"); (case kz => omega)))
  (k_with "lit" => first | exact lit_colon | exact lit_hook | exact lit_hookc | exact lit_brace | exact lit_close | exact lit_tildec | exact lit_lt | exact lit_gt | exact (txt_dec _).symm)
  (k_with "binaryOp Add str str" => (k_here; (with_reducible refine' r_add_any ?k1 ?k2 ?k3 ?_); (case k1 => first | (with_reducible exact rfl) | k_extra "lit"); (case k2 => first | (with_reducible exact rfl) | k_extra "lit"); (case k3 => ((try simp only [List.length_append, List.length_map, List.length_cons, List.length_nil]); omega)); intro _ _))
  (k_with "binaryOp Add str str" => (k_here; (with_reducible refine' r_add_is ?ke ?kz ?_); (case ke => k_extra "add"); (case kz => first | omega | (rw [txt_len]; omega)); intro _ _))
  (k_with "compareOp Eq ref ref" => (k_here; (with_reducible show wpAny _ _ (compareOp CmpOp.Eq (Value.ref _) (Value.ref _)) _ _ _); k_dflt (first | (refine' r_eqt2 (b := true) ?k1 ?k2 ?k3 ?k4 ?k5 ?_; (case k1 => k_asm); (case k2 => k_mem); (case k3 => k_mem); (case k4 => first | ktr_units | ke_room); (case k5 => k_extra "eqt"); k_whole) | (refine' r_eqt2 (b := false) ?k1 ?k2 ?k3 ?k4 ?k5 ?_; (case k1 => k_asm); (case k2 => k_mem); (case k3 => k_mem); (case k4 => first | ktr_units | ke_room); (case k5 => k_extra "eqt"); k_whole) | (refine' r_eqt3s ?k1 ?k2 ?k3 ?k4 ?_; (case k1 => k_asm); (case k2 => k_mem); (case k3 => k_mem); (case k4 => first | ktr_units | ke_room); k_whole) | (refine' r_eqt3b ?k1 ?k2 ?k3 ?k4 ?_; (case k1 => k_asm); (case k2 => k_mem); (case k3 => k_mem); (case k4 => first | ktr_units | ke_room); k_whole))))
  (k_with "subscriptTail Name Constant bytes int" => (k_here; k_dflt (refine' r_bitem (k := 0) ?k1 ?k2 ?k3 ?_ ?k4 ?k5; (case k1 => decide); (case k2 => omega); (case k3 => omega); (case k4 => with_unfolding_all rfl); (case k5 => (intro _; with_unfolding_all rfl)); k_whole); intro y' _ _ yE' y0' y1'; (try dsimp only)))
  (k_with "subscriptTail Name BinOp bytes int" => (k_here; k_dflt (refine' r_blast ?k1 ?k2 ?k3 ?_ ?k4 ?k5; (case k1 => omega); (case k2 => first | exact rfl | omega); (case k3 => omega); (case k4 => with_unfolding_all rfl); (case k5 => (intro _; with_unfolding_all rfl)); k_whole); intro y' _ _ yE' y0' y1'; (try dsimp only)))
  (k_with "ite" => (k_here; (with_reducible rename Said _ _ _ => kSaid); first | with_reducible refine ite_tt ?_ | with_reducible refine ite_ff ?_ | (with_reducible refine split_ine ?_ ?_ <;> intro _ <;> (try dsimp only) <;> (try k_gentoks)) | (with_reducible refine split_ieq ?_ ?_ <;> intro _ <;> (try dsimp only) <;> (try k_gentoks))))
  trivial
abbrev tup3 (a b c : Value) (n : Nat) : Obj := { cls := .type "tuple", data := .seq #[a, b, c] n }
set_option maxHeartbeats 8000000 in
theorem t_fstd0 (a : Addr) (n : Nat) (t1 t2 t3 : Tok) (N : List Int) (hN : ∀ n ∈ N, 0 ≤ n) (hl : N.length ≤ 20) : Tell1 2 28 a (tup3 (.str (Str.ofString "~") t1) (.int 0 t2) (.str (txt N) t3) n) [.ref a] (fun v => ∃ t', v = .str (txt (stdL N)) t') := by
  (k_with "eqt" => decide +kernel)
  (k_with "slice" => exact slice_mid_neg (spc_of hN (by assumption) (by assumption)) (by decide) (by decide))
  have hm := mid_len N
  k_extra "open one"
  w_strict k_steps
  all_goals (refine EndOf1.intro (by k_asm) (by k_asm) (by k_mem) ?_)
  all_goals first
    | exact ⟨_, congrArg (fun x => Value.str x _) (by rw [std_if (spc_of hN (by assumption) (by assumption))]; exact brace_txt N)⟩
    | exact ⟨_, congrArg (fun x => Value.str x _) (by rw [std_not (not_spc_s hN (by assumption))])⟩
    | exact ⟨_, congrArg (fun x => Value.str x _) (by rw [std_not (not_spc_e hN (by assumption))])⟩
set_option maxHeartbeats 8000000 in
theorem t_fstd1 (a : Addr) (n : Nat) (t1 t2 t3 : Tok) (x : Str) (S N : List Int) (line : Int) (hx : x = txt S) (hxl : x.length ≤ 20) (hl : N.length ≤ 20) (h0 : 0 ≤ line) (h1 : line < 1000) (hne : (x == Str.ofString "~" && line == 0) = false) :
    Tell1 2 28 a (tup3 (.str x t1) (.int line t2) (.str (txt N) t3) n) [.ref a] (fun v => ∃ t', v = .str (txt (fullL S line N)) t') := by
  (k_with "eqt" => exact hne)
  have hNl : (txt N).length ≤ 20 := by rw [txt_len]; exact hl
  k_extra "open one"
  w_strict k_steps
  all_goals (refine EndOf1.intro (by k_asm) (by k_asm) (by k_mem) ?_)
  all_goals exact ⟨_, congrArg (fun x => Value.str x _) (by rw [hx]; exact full_txt S line N)⟩
example : True := by
  (k_with "call ref" => (k_here; k_dflt (refine' Tell1.use (t_fstd0 _ _ _ _ _ _ ?g1 ?g2) ?k1 ?k2 ?k3 ?k4 ?km ?k5 ?kK ?kd ?ku ?_; k_extra "tail 1"; (case km => k_mem); (case g1 => k_extra "premise"); (case g2 => k_extra "premise"); k_extra "tail 2"); k_extra "tail 3"))
  (k_with "call ref" => (k_here; k_dflt (refine' Tell1.use (t_fstd1 _ _ _ _ _ _ _ _ _ ?g1 ?g2 ?g3 ?g4 ?g5 ?g6) ?k1 ?k2 ?k3 ?k4 ?km ?k5 ?kK ?kd ?ku ?_; k_extra "tail 1"; (case km => k_mem); (case g1 => k_extra "premise"); (case g2 => k_extra "premise"); (case g3 => k_extra "premise"); (case g4 => k_extra "premise"); (case g5 => k_extra "premise"); (case g6 => k_extra "premise"); k_extra "tail 2"); k_extra "tail 3"))
  trivial
section
variable {b : Array UInt8} {y z : Int}
theorem said_spc (h1 : (0 : Int) < (b.size : Int)) (h2 : (b.size : Int) % 3 = 0) (s0 : Said b 0 y) (hy : y / 4 = 62) (s1 : Said b (b.size - 1) z) (hz : z % 64 = 63) : Spc (encA (KBw.bInts b)) := by
  refine (spc_iff (oct_bytes b)).mpr ?_
  rw [KBw.ints_length, s0.out, s1.out]
  exact ⟨by omega, by omega, hy, hz⟩
theorem said_no0 (h : ¬ (0 : Int) < (b.size : Int)) : ¬ Spc (encA (KBw.bInts b)) := by
  intro hs
  have := (spc_iff (oct_bytes b)).mp hs
  rw [KBw.ints_length] at this
  omega
theorem said_no3 (h : (b.size : Int) % 3 ≠ 0) : ¬ Spc (encA (KBw.bInts b)) := by
  intro hs
  have := (spc_iff (oct_bytes b)).mp hs
  rw [KBw.ints_length] at this
  omega
theorem said_noa (s0 : Said b 0 y) (hy : y / 4 ≠ 62) : ¬ Spc (encA (KBw.bInts b)) := by
  intro hs
  have := (spc_iff (oct_bytes b)).mp hs
  rw [s0.out] at this
  exact hy this.2.2.1
theorem said_noz (s1 : Said b (b.size - 1) z) (hz : z % 64 ≠ 63) : ¬ Spc (encA (KBw.bInts b)) := by
  intro hs
  have := (spc_iff (oct_bytes b)).mp hs
  rw [KBw.ints_length, s1.out] at this
  exact hz this.2.2.2
end
theorem enc_short {b : Array UInt8} (hb : b.size ≤ 6) : (encA (KBw.bInts b)).length ≤ 20 := by
  have h1 := encA_len (KBw.bInts b)
  rw [KBw.ints_length] at h1
  omega
theorem mid_list_len (N : List Int) : (midL N).length ≤ N.length := by
  have := mid_len N
  rwa [txt_len] at this
theorem brace_list (N : List Int) : ([123] ++ midL N) ++ [125] = braceL N := rfl
theorem full_list (S : List Int) (line : Int) (N : List Int) : ((((S ++ [58]) ++ dec line) ++ [40]) ++ N) ++ [41] = fullL S line N := by unfold fullL; simp
theorem full_list_tilde (line : Int) (N : List Int) : ((([126, 58] ++ dec line) ++ [40]) ++ N) ++ [41] = fullL [126] line N := by unfold fullL; simp
set_option maxHeartbeats 8000000 in
theorem t_text0 (b : Array UInt8) (t1 t2 t3 : Tok) (hb : b.size ≤ 6) : Tell 2 135 [.str (Str.ofString "~") t1, .int 0 t2, .bytes b t3] [] (fun v => ∃ t', v = .str (txt (stdL (encA (KBw.bInts b)))) t') := by
  (k_with "len" => exact txt_len _)
  (k_with "slice" => exact slice_mid (said_spc (by assumption) (by assumption) (by assumption) (by assumption) (by assumption) (by assumption)) rfl rfl)
  have hl := enc_short hb
  have hm := mid_list_len (encA (KBw.bInts b))
  k_extra "open def"
  w_strict k_steps
  all_goals (refine EndOf.intro (by k_asm) ?_)
  all_goals first
    | exact ⟨_, congrArg (fun x => Value.str (txt x) _) (by rw [std_if (said_spc (by assumption) (by assumption) (by assumption) (by assumption) (by assumption) (by assumption))]; exact brace_list _)⟩
    | exact ⟨_, congrArg (fun x => Value.str (txt x) _) (by rw [std_not (said_no0 (by assumption))])⟩
    | exact ⟨_, congrArg (fun x => Value.str (txt x) _) (by rw [std_not (said_no3 (by assumption))])⟩
    | exact ⟨_, congrArg (fun x => Value.str (txt x) _) (by rw [std_not (said_noa (by assumption) (by assumption))])⟩
    | exact ⟨_, congrArg (fun x => Value.str (txt x) _) (by rw [std_not (said_noz (by assumption) (by assumption))])⟩
set_option maxHeartbeats 8000000 in
theorem t_text1 (b : Array UInt8) (t1 t2 t3 : Tok) (line : Int) (hb : b.size ≤ 6) (h0 : 0 < line) (h1 : line < 1000) : Tell 2 135 [.str (Str.ofString "~") t1, .int line t2, .bytes b t3] [] (fun v => ∃ t', v = .str (txt (fullL [126] line (encA (KBw.bInts b)))) t') := by
  have hl := enc_short hb
  have hd := dec_len (n := line) (by omega) h1
  k_extra "open def"
  w_strict k_steps
  all_goals (refine EndOf.intro (by k_asm) ?_)
  all_goals exact ⟨_, congrArg (fun x => Value.str (txt x) _) (full_list_tilde _ _)⟩
set_option maxHeartbeats 8000000 in
theorem t_text2 (f b : Array UInt8) (t1 t2 t3 : Tok) (line : Int) (hf : f.size ≤ 6) (hb : b.size ≤ 6) (h0 : 0 ≤ line) (h1 : line < 1000) : Tell 2 135 [.bytes f t1, .int line t2, .bytes b t3] [] (fun v => ∃ t', v = .str (txt (fullL (encA (KBw.bInts f)) line (encA (KBw.bInts b)))) t') := by
  have hlf := enc_short hf
  have hl := enc_short hb
  have hd := dec_len h0 h1
  k_extra "open def"
  w_strict k_steps
  all_goals (refine EndOf.intro (by k_asm) ?_)
  all_goals exact ⟨_, congrArg (fun x => Value.str (txt x) _) (full_list _ _ _)⟩
theorem t_textS (b : Array UInt8) (t1 t2 t3 : Tok) (S : List Int) (line : Int) (hb : b.size ≤ 6) (h0 : 0 < line) (h1 : line < 1000) (hS : S = [126]) : Tell 2 135 [.str (Str.ofString "~") t1, .int line t2, .bytes b t3] [] (fun v => ∃ t', v = .str (txt (fullL S line (encA (KBw.bInts b)))) t') := by
  subst hS
  exact t_text1 b t1 t2 t3 line hb h0 h1
example : True := by
  (k_with "call ref" => (k_here; k_dflt (refine' Tell.use (t_text0 _ _ _ _ (by assumption)) ?k1 ?k2 ?k3 ?k4 ?k5 ?kK ?kd ?ku ?_; k_extra "tail 1"; k_extra "tail 2"); k_extra "tail 3"))
  (k_with "call ref" => (k_here; k_dflt (refine' Tell.use (t_textS _ _ _ _ _ _ (by assumption) (by assumption) (by assumption) (by assumption)) ?k1 ?k2 ?k3 ?k4 ?k5 ?kK ?kd ?ku ?_; k_extra "tail 1"; k_extra "tail 2"); k_extra "tail 3"))
  (k_with "call ref" => (k_here; k_dflt (refine' Tell.use (t_text2 _ _ _ _ _ _ (by assumption) (by assumption) (by assumption) (by assumption)) ?k1 ?k2 ?k3 ?k4 ?k5 ?kK ?kd ?ku ?_; k_extra "tail 1"; k_extra "tail 2"); k_extra "tail 3"))
  trivial
/-! what _law_read finds in a text -/
section
variable {S N : List Int} {line : Int}
theorem slice_one (l : List Int) : Txt.slice (txt l) none (some 1) = txt (l.take 1) := by
  by_cases h : 1 ≤ l.length
  · rw [slice_txt_to (by decide) (by omega)]; rfl
  · rw [slice_txt_beyond (by omega), List.take_of_length_le (by omega)]
theorem one_ne {l : List Int} (h : ∀ n ∈ l, 0 ≤ n ∧ n ≠ 123) : txt (l.take 1) ≠ Str.ofString "{" := by
  rw [lit_brace]
  intro e
  have h1 := txt_inj (fun n hn => (h n (List.mem_of_mem_take hn)).1) (by decide) e
  have h2 : (123 : Int) ∈ l.take 1 := by rw [h1]; exact .head _
  exact (h _ (List.mem_of_mem_take h2)).2 rfl
theorem alt_ok {N : List Int} (h : ∀ n ∈ N, Alt n) : ∀ n ∈ N, 0 ≤ n ∧ n ≠ 40 ∧ n ≠ 58 ∧ n ≠ 123 ∧ n ≠ 126 := by
  intro n hn
  have := h n hn
  unfold Alt at this
  omega
theorem alt_one (h : ∀ n ∈ N, Alt n) : txt (N.take 1) ≠ Str.ofString "{" := one_ne fun n hn => by have := alt_ok h n hn; omega
theorem alt_hook (h : ∀ n ∈ N, Alt n) : (!(Builtin.Str.occurrences (txt N) (Str.ofString "(") 0 (txt N).length 1).isEmpty) = false := by
  rw [lit_hook]
  exact notIn_txt (by decide) fun n hn => by have := alt_ok h n hn; omega
theorem brace_one (N : List Int) : Txt.slice (txt (braceL N)) none (some 1) = Str.ofString "{" := by
  rw [slice_one, lit_brace]; rfl
theorem brace_len (h : Spc N) : (txt (braceL N)).length = N.length := by
  rw [txt_len, ← mid_two h]
  unfold braceL
  rw [List.length_cons, List.length_append]
  rfl
theorem brace_mid (h : Spc N) {i j : Int} (hi : i = 1) (hj : j = N.length - 1) : Txt.slice (txt (braceL N)) (some i) (some j) = txt (midL N) := by
  have hm := mid_two h
  refine slice_abc (a := [123]) (c := [125]) rfl hi ?_
  show j = ((1 : Nat) : Int) + _
  omega
theorem brace_back (h : Spc N) : txt ([60] ++ midL N) ++ Str.ofString ">" = txt N := by
  rw [lit_gt, txt_append]
  exact (congrArg txt (spc_make h)).symm
/-! the long make -/
theorem full_mem (h0 : 0 ≤ line) (hS : ∀ n ∈ S, 0 ≤ n ∧ n ≠ 123) (hN : ∀ n ∈ N, 0 ≤ n ∧ n ≠ 123) : ∀ n ∈ fullL S line N, 0 ≤ n ∧ n ≠ 123 := by
  intro n hn
  unfold fullL at hn
  simp only [List.mem_append, List.mem_cons, List.not_mem_nil, or_false] at hn
  rcases hn with hn | rfl | hn | rfl | hn | rfl
  · exact hS n hn
  · decide
  · have := dec_in h0 n hn; omega
  · decide
  · exact hN n hn
  · decide
theorem full_len : (txt (fullL S line N)).length = S.length + (dec line).length + N.length + 3 := by
  rw [txt_len]
  unfold fullL
  simp only [List.length_cons, List.length_append, List.length_nil]
  omega
theorem full_in : (!(Builtin.Str.occurrences (txt (fullL S line N)) (Str.ofString "(") 0 (txt (fullL S line N)).length 1).isEmpty) = true := by
  rw [lit_hook]
  exact in_txt (by decide) (by unfold fullL; simp)
theorem full_colon (hS : ∀ n ∈ S, 0 ≤ n ∧ n ≠ 58) : ∃ r, Builtin.Str.occurrences (txt (fullL S line N)) (Str.ofString ":") 0 (txt (fullL S line N)).length 1 = S.length :: r := by
  rw [lit_colon]
  exact occ_txt (by decide) hS
theorem full_hook (h0 : 0 ≤ line) (hS : ∀ n ∈ S, 0 ≤ n ∧ n ≠ 40) : ∃ r, Builtin.Str.occurrences (txt (fullL S line N)) (Str.ofString "(") 0 (txt (fullL S line N)).length 1 = (S.length + 1 + (dec line).length) :: r := by
  rw [lit_hook]
  have e : fullL S line N = (S ++ 58 :: dec line) ++ 40 :: (N ++ [41]) := by unfold fullL; simp
  have h := occ_txt (a := S ++ 58 :: dec line) (b := N ++ [41]) (c := 40) (by decide) (fun n hn => by
    simp only [List.mem_append, List.mem_cons] at hn
    rcases hn with hn | rfl | hn
    · exact hS n hn
    · decide
    · have := dec_in h0 n hn; omega)
  rw [← e] at h
  have el : (S ++ 58 :: dec line).length = S.length + 1 + (dec line).length := by simp only [List.length_append, List.length_cons]; omega
  rw [el] at h
  exact h
theorem full_src {j : Int} (hj : j = S.length) : Txt.slice (txt (fullL S line N)) none (some j) = txt S := by
  have hl := full_len (S := S) (line := line) (N := N)
  rw [txt_len] at hl
  rw [slice_txt_to (by omega) (by omega)]
  have e1 : j.toNat = S.length := by omega
  rw [e1]
  unfold fullL
  rw [List.take_left]
theorem full_num {i j : Int} (hi : i = S.length + 1) (hj : j = S.length + 1 + (dec line).length) : Txt.slice (txt (fullL S line N)) (some i) (some j) = txt (dec line) := by
  have e : (S ++ [58]).length = S.length + 1 := List.length_append
  refine slice_abc (a := S ++ [58]) (c := 40 :: (N ++ [41])) (by unfold fullL; rw [List.append_assoc]; rfl) ?_ ?_
  · rw [e]; exact hi
  · rw [e]; exact hj
theorem full_name {i j : Int} (hi : i = S.length + 1 + (dec line).length + 1) (hj : j = S.length + (dec line).length + N.length + 2) : Txt.slice (txt (fullL S line N)) (some i) (some j) = txt N := by
  have e : (S ++ 58 :: (dec line ++ [40])).length = S.length + 1 + (dec line).length + 1 := by
    rw [List.length_append, List.length_cons, List.length_append]
    show _ + (_ + 1 + 1) = _
    omega
  refine slice_abc (a := S ++ 58 :: (dec line ++ [40])) (c := [41]) (by unfold fullL; rw [List.append_assoc, List.cons_append, List.append_assoc]; rfl) ?_ ?_
  · rw [e]; exact hi
  · rw [e, hj, Int.natCast_add, Int.natCast_add, Int.natCast_add]; omega
theorem alt_src (hS : ∀ n ∈ S, Alt n) : txt S ≠ Str.ofString "~" := by
  rw [lit_tilde]
  intro e
  have h1 := txt_inj (fun n hn => (alt_ok hS n hn).1) (by decide) e
  have h2 : (126 : Int) ∈ S := by rw [h1]; exact .head _
  exact (alt_ok hS _ h2).2.2.2.2 rfl
end

set_option maxHeartbeats 8000000 in
theorem t_readB (b : Array UInt8) (t : Tok) (hb : b.size ≤ 6) (hs : Spc (encA (KBw.bInts b))) :
    Tell2 7 149 [.str (txt (braceL (encA (KBw.bInts b)))) t] (fun o => ∃ t1 t2 t3 n, o = tup3 (.str (Str.ofString "~") t1) (.int 0 t2) (.bytes b t3) n) := by
  have hl := enc_short hb
  have hm := mid_list_len (encA (KBw.bInts b))
  have hbl := brace_len hs
  (k_with "len" => exact brace_len hs)
  (k_with "slice" => first | exact brace_one _ | exact brace_mid hs rfl rfl)
  (k_with "add" => exact brace_back hs)
  (k_with "eq" => with_reducible rfl)
  k_extra "open made"
  w_strict k_steps
  all_goals (refine EndOf2.intro (by k_asm) (by k_asm) (by k_mem) ?_)
  all_goals exact ⟨_, _, _, _, rfl⟩
set_option maxHeartbeats 8000000 in
theorem t_readN (b : Array UInt8) (t : Tok) (hb : b.size ≤ 6) :
    Tell2 7 149 [.str (txt (encA (KBw.bInts b))) t] (fun o => ∃ t1 t2 t3 n, o = tup3 (.str (Str.ofString "~") t1) (.int 0 t2) (.bytes b t3) n) := by
  have hA := encA_alt (KBw.bInts b)
  have hl := enc_short hb
  (k_with "slice" => exact slice_one _)
  (k_with "ne" => exact alt_one hA)
  (k_with "in" => exact alt_hook hA)
  k_extra "open made"
  w_strict k_steps
  all_goals (refine EndOf2.intro (by k_asm) (by k_asm) (by k_mem) ?_)
  all_goals exact ⟨_, _, _, _, rfl⟩
set_option maxHeartbeats 8000000 in
theorem t_readS (b : Array UInt8) (t : Tok) (S : List Int) (line : Int) (hb : b.size ≤ 6) (h0 : 0 ≤ line) (h1 : line < 1000) (hS : S = [126]) :
    Tell2 7 149 [.str (txt (fullL S line (encA (KBw.bInts b)))) t] (fun o => ∃ t1 t2 t3 n, o = tup3 (.str (Str.ofString "~") t1) (.int line t2) (.bytes b t3) n) := by
  have hA := encA_alt (KBw.bInts b)
  have hl := enc_short hb
  have hd := dec_len h0 h1
  have hSl : S.length ≤ 1 := by rw [hS]; decide
  have hSm : ∀ n ∈ S, 0 ≤ n ∧ n ≠ 123 ∧ n ≠ 58 ∧ n ≠ 40 := by rw [hS]; decide
  have hSt : txt S = Str.ofString "~" := by rw [hS, lit_tilde]
  have hfl : (txt (fullL S line (encA (KBw.bInts b)))).length = S.length + (dec line).length + (encA (KBw.bInts b)).length + 3 := full_len
  have hI := dec_reads h0 h1
  have hdl : (txt (dec line)).length ≤ 3 := by rw [txt_len]; exact hd
  have hm := full_mem (S := S) (N := encA (KBw.bInts b)) h0 (fun n hn => ⟨(hSm n hn).1, (hSm n hn).2.1⟩) (fun n hn => ⟨(alt_ok hA n hn).1, (alt_ok hA n hn).2.2.2.1⟩)
  (k_with "len" => exact hfl)
  (k_with "slice" => first | exact slice_one _ | exact full_num (by omega) (by omega) | exact full_name (by omega) (by omega) | exact (full_src (by omega)).trans hSt)
  (k_with "eq" => with_reducible rfl)
  (k_with "ne" => exact one_ne hm)
  (k_with "in" => exact full_in)
  (k_with "index" => first | exact full_colon (fun n hn => ⟨(hSm n hn).1, (hSm n hn).2.2.1⟩) | exact full_hook h0 (fun n hn => ⟨(hSm n hn).1, (hSm n hn).2.2.2⟩))
  k_extra "open made"
  w_strict k_steps
  all_goals (refine EndOf2.intro (by k_asm) (by k_asm) (by k_mem) ?_)
  all_goals exact ⟨_, _, _, _, rfl⟩
set_option maxHeartbeats 8000000 in
theorem t_readF (f b : Array UInt8) (t : Tok) (line : Int) (hf : f.size ≤ 6) (hb : b.size ≤ 6) (h0 : 0 ≤ line) (h1 : line < 1000) :
    Tell2 7 149 [.str (txt (fullL (encA (KBw.bInts f)) line (encA (KBw.bInts b)))) t] (fun o => ∃ t1 t2 t3 n, o = tup3 (.bytes f t1) (.int line t2) (.bytes b t3) n) := by
  have hA := encA_alt (KBw.bInts b)
  have hB := encA_alt (KBw.bInts f)
  have hl := enc_short hb
  have hd := dec_len h0 h1
  have hSl := enc_short hf
  have hSt := alt_src hB
  have hfl : (txt (fullL (encA (KBw.bInts f)) line (encA (KBw.bInts b)))).length = (encA (KBw.bInts f)).length + (dec line).length + (encA (KBw.bInts b)).length + 3 := full_len
  have hI := dec_reads h0 h1
  have hdl : (txt (dec line)).length ≤ 3 := by rw [txt_len]; exact hd
  have hm := full_mem (S := encA (KBw.bInts f)) (N := encA (KBw.bInts b)) h0 (fun n hn => ⟨(alt_ok hB n hn).1, (alt_ok hB n hn).2.2.2.1⟩) (fun n hn => ⟨(alt_ok hA n hn).1, (alt_ok hA n hn).2.2.2.1⟩)
  (k_with "len" => exact hfl)
  (k_with "slice" => first | exact slice_one _ | exact full_num (by omega) (by omega) | exact full_name (by omega) (by omega) | exact full_src (by omega))
  (k_with "eq" => with_reducible rfl)
  (k_with "ne" => first | exact one_ne hm | exact hSt)
  (k_with "in" => exact full_in)
  (k_with "index" => first | exact full_colon (fun n hn => ⟨(alt_ok hB n hn).1, (alt_ok hB n hn).2.2.1⟩) | exact full_hook h0 (fun n hn => ⟨(alt_ok hB n hn).1, (alt_ok hB n hn).2.1⟩))
  k_extra "open made"
  w_strict k_steps
  all_goals (refine EndOf2.intro (by k_asm) (by k_asm) (by k_mem) ?_)
  all_goals exact ⟨_, _, _, _, rfl⟩
theorem t_read0 (b : Array UInt8) (t : Tok) (hb : b.size ≤ 6) :
    Tell2 7 149 [.str (txt (stdL (encA (KBw.bInts b)))) t] (fun o => ∃ t1 t2 t3 n, o = tup3 (.str (Str.ofString "~") t1) (.int 0 t2) (.bytes b t3) n) := by
  by_cases hs : Spc (encA (KBw.bInts b))
  · rw [std_if hs]; exact t_readB b t hb hs
  · rw [std_not hs]; exact t_readN b t hb
example : True := by
  (k_with "call ref" => (k_here; k_dflt (refine' Tell2.use (t_read0 _ _ (by assumption)) ?k1 ?k2 ?k3 ?k4 ?k5 ?kK ?kd ?ku ?_; k_extra "tail 1"; k_extra "tail 2"); k_extra "tail 4"))
  (k_with "call ref" => (k_here; k_dflt (refine' Tell2.use (t_readS _ _ _ _ (by assumption) (by assumption) (by assumption) (by assumption)) ?k1 ?k2 ?k3 ?k4 ?k5 ?kK ?kd ?ku ?_; k_extra "tail 1"; k_extra "tail 2"); k_extra "tail 4"))
  (k_with "call ref" => (k_here; k_dflt (refine' Tell2.use (t_readF _ _ _ _ (by assumption) (by assumption) (by assumption) (by assumption)) ?k1 ?k2 ?k3 ?k4 ?k5 ?kK ?kd ?ku ?_; k_extra "tail 1"; k_extra "tail 2"); k_extra "tail 4"))
  trivial
set_option maxHeartbeats 8000000 in
theorem t_right0 (a : Addr) (n : Nat) (t1 t2 t3 : Tok) (b : Array UInt8) (hb : b.size ≤ 6) :
    Tell1 8 163 a (tup3 (.str (Str.ofString "~") t1) (.int 0 t2) (.bytes b t3) n) [.ref a] (fun v => v = .bool true) := by
  have hA := encA_alt (KBw.bInts b)
  have hN : ∀ n ∈ encA (KBw.bInts b), 0 ≤ n := fun n hn => (alt_ok hA n hn).1
  have hl := enc_short hb
  (k_with "eq" => with_reducible rfl)
  k_extra "open one"
  w_strict k_steps
  all_goals (refine EndOf1.intro (by k_asm) (by k_asm) (by k_mem) rfl)
set_option maxHeartbeats 8000000 in
theorem t_rightS (a : Addr) (n : Nat) (t1 t2 t3 : Tok) (S : List Int) (line : Int) (b : Array UInt8) (hb : b.size ≤ 6) (hS : S = [126]) (hp : 0 < line) (h1 : line < 1000) :
    Tell1 8 163 a (tup3 (.str (Str.ofString "~") t1) (.int line t2) (.bytes b t3) n) [.ref a] (fun v => v = .bool true) := by
  have h0 : 0 ≤ line := by omega
  have hl := enc_short hb
  have hx : Str.ofString "~" = txt S := by rw [hS, lit_tilde]
  have hxl : (Str.ofString "~").length ≤ 20 := by decide +kernel
  have hne : (Str.ofString "~" == Str.ofString "~" && line == 0) = false := by
    rw [beq_eq_false_iff_ne.mpr (show line ≠ 0 by omega), Bool.and_false]
  (k_with "eq" => with_reducible rfl)
  k_extra "open one"
  w_strict k_steps
  all_goals (refine EndOf1.intro (by k_asm) (by k_asm) (by k_mem) rfl)
set_option maxHeartbeats 8000000 in
theorem t_rightF (a : Addr) (n : Nat) (t1 t2 t3 : Tok) (f : Array UInt8) (line : Int) (b : Array UInt8) (hf : f.size ≤ 6) (hb : b.size ≤ 6) (h0 : 0 ≤ line) (h1 : line < 1000) :
    Tell1 8 163 a (tup3 (.bytes f t1) (.int line t2) (.bytes b t3) n) [.ref a] (fun v => v = .bool true) := by
  have hB := encA_alt (KBw.bInts f)
  have hl := enc_short hb
  have hx : txt (encA (KBw.bInts f)) = txt (encA (KBw.bInts f)) := rfl
  have hxl : (txt (encA (KBw.bInts f))).length ≤ 20 := by rw [txt_len]; exact enc_short hf
  have hne : (txt (encA (KBw.bInts f)) == Str.ofString "~" && line == 0) = false := by
    rw [beq_eq_false_iff_ne.mpr (alt_src hB), Bool.false_and]
  (k_with "eq" => with_reducible rfl)
  k_extra "open one"
  w_strict k_steps
  all_goals (refine EndOf1.intro (by k_asm) (by k_asm) (by k_mem) rfl)

/-- an entry that _law_entry makes -/
def Ent (o : Obj) : Prop := ∃ (t1 t2 t3 : Tok) (n : Nat) (line : Int) (b : Array UInt8), b.size ≤ 6 ∧ 0 ≤ line ∧ line < 1000 ∧
  (o = tup3 (.str (Str.ofString "~") t1) (.int line t2) (.bytes b t3) n ∨ ∃ f : Array UInt8, f.size ≤ 6 ∧ o = tup3 (.bytes f t1) (.int line t2) (.bytes b t3) n)
theorem t_right (a : Addr) (o : Obj) (h : Ent o) : Tell1 8 163 a o [.ref a] (fun v => v = .bool true) := by
  obtain ⟨t1, t2, t3, n, line, b, hb, h0, h1, rfl | ⟨f, hf, rfl⟩⟩ := h
  · by_cases hl : line = 0
    · subst hl
      exact t_right0 a n t1 t2 t3 b hb
    · exact t_rightS a n t1 t2 t3 [126] line b hb rfl (by omega) h1
  · exact t_rightF a n t1 t2 t3 f line b hf hb h0 h1
theorem ent_s {t1 t2 t3 : Tok} {n : Nat} {line : Int} {b : Array UInt8} (hb : b.size ≤ 6) (h0 : 0 ≤ line) (h1 : line < 1000) : Ent (tup3 (.str (Str.ofString "~") t1) (.int line t2) (.bytes b t3) n) := ⟨t1, t2, t3, n, line, b, hb, h0, h1, .inl rfl⟩
theorem ent_f {t1 t2 t3 : Tok} {n : Nat} {line : Int} {f b : Array UInt8} (hf : f.size ≤ 6) (hb : b.size ≤ 6) (h0 : 0 ≤ line) (h1 : line < 1000) : Ent (tup3 (.bytes f t1) (.int line t2) (.bytes b t3) n) := ⟨t1, t2, t3, n, line, b, hb, h0, h1, .inr ⟨f, hf, rfl⟩⟩
example : True := by
  (k_with "call ref" => (k_here; k_dflt (refine' Tell1.use (t_right _ _ ?g1) ?k1 ?k2 ?k3 ?k4 ?km ?k5 ?kK ?kd ?ku ?_; k_extra "tail 1"; (case km => k_mem); (case g1 => k_extra "premise"); k_extra "tail 2"); k_extra "tail 3"))
  trivial
set_option maxHeartbeats 8000000 in
theorem t_entry (n ah : Int) (t u : Tok) : Tell2 4 121 [.int n t, .int ah u] Ent := by
  k_extra "open made"
  w_strict k_steps
  all_goals (refine EndOf2.intro (by k_asm) (by k_asm) (by k_mem) ?_)
  all_goals first | exact ent_s (by assumption) (by omega) (by omega) | exact ent_f (by assumption) (by assumption) (by omega) (by omega)
example : True := by
  (k_with "call ref" => (k_here; k_dflt (refine' Tell2.use (t_entry _ _ _ _) ?k1 ?k2 ?k3 ?k4 ?k5 ?kK ?kd ?ku ?_; k_extra "tail 1"; k_extra "tail 2"); k_extra "tail 4"))
  trivial
/-! an item of a list of ints, counted round -/
section
variable {prog : Program} {w : World} {A : Around} {E : Value → Shared → Prop} {Q : Value → Shared → Prop} {s : Shared} {u : Tok} {value slice : PySem.Expr} {h₀ : Heap} {L D : Addr} {news : List (Addr × Obj)} {vs : List Value} {ns : List Int} {n : Nat} {k : Int}
theorem r_num (N : News h₀ L s.heap news) (hm : (D, listOf vs.toArray n) ∈ news) (hi : IntsAre vs ns) (h0 : -(ns.length : Int) ≤ k) (h1 : k < ns.length) (hz : ns.length ≤ 1000) (h : ∀ y t, Q (.int y t) s)
    (hs : subscripted slice false (.ref D) (.int k u) = operate [.ref D, .int k u] (getItem (.ref D) (.int k u)) := by with_unfolding_all rfl) :
    wpAny (model prog w) A (subscriptTail value slice (.ref D) (.int k u)) Q E s := by
  have hl : s.heap.IsList D vs.toArray := PySem.IsL.isList (n := n) (N _ hm).1
  have hlen := hi.length
  have key : ∀ i : Nat, i < vs.length → ∃ y t, vs[i]? = some (.int y t) := by
    intro i hlt
    have e := List.getElem?_eq_getElem hlt
    obtain ⟨y, t, e2, _⟩ := hi.at i _ e
    exact ⟨y, t, by rw [e, e2]⟩
  by_cases hk : 0 ≤ k
  · obtain ⟨y, t, e⟩ := key k.toNat (by omega)
    exact tail_any hl.typeIs slot_list_getitem.lookup (wpAny_getItem_list hl hk (by omega) (by simpa using e) (h y t)) hs
  · obtain ⟨y, t, e⟩ := key (k + vs.length).toNat (by omega)
    refine tail_any hl.typeIs slot_list_getitem.lookup (wpAny_getItem_list_neg hl (by omega) (by simp only [List.size_toArray]; omega) (by omega) (x := .int y t) ?_ (h y t)) hs
    simp only [List.size_toArray, List.getElem?_toArray]
    exact e
end

example : True := by
  (k_with "subscriptTail Name BinOp ref int" => (k_here; k_dflt (refine' r_num ?k1 ?k2 ?k3 ?k4 ?k5 ?k6 ?_ ?k7; (case k1 => k_asm); (case k2 => k_mem); (case k3 => with_reducible assumption); (case k4 => omega); (case k5 => omega); (case k6 => omega); (case k7 => with_unfolding_all rfl); k_whole); intro y' t'))
  trivial
set_option maxHeartbeats 8000000 in
theorem t_all (a : Addr) (vs : List Value) (ns : List Int) (n : Nat) (hi : IntsAre vs ns) (h1 : 1 ≤ ns.length) (h2 : ns.length ≤ 1000) : Tell1 10 170 a (listOf vs.toArray n) [.ref a] (fun v => v = .bool true) := by
  (k_with "my ref" => k_search (fun (pre : List Int) => True))
  k_extra "open one"
  w_strict k_steps
  all_goals (refine EndOf1.intro (by k_asm) (by k_asm) (by k_mem) rfl)
example : True := by
  (k_with "call ref" => (k_here; k_dflt (refine' Tell1.use (t_all _ _ _ _ ?g1 ?g2 ?g3) ?k1 ?k2 ?k3 ?k4 ?km ?k5 ?kK ?kd ?ku ?_; k_extra "tail 1"; (case km => k_mem); (case g1 => k_extra "premise"); (case g2 => k_extra "premise"); (case g3 => k_extra "premise"); k_extra "tail 2"); k_extra "tail 3"))
  trivial
set_option maxHeartbeats 8000000 in
theorem law_holds : PySem.Challenge.rw_qh0087_01.Holds := hd (by k_go)

end Mine
set_option maxRecDepth 100000 in
set_option maxHeartbeats 8000000 in
theorem PySem.Challenge.cw_qh0087_01_holds : PySem.Challenge.rw_qh0087_01.Holds :=
  Mine.law_holds
